import JvmDerived
import JvmDerived.Pilot.@@N@@Statement
import JvmDerived.Pilot.@@N@@Code
set_option linter.unusedVariables false
set_option linter.unusedSimpArgs false
namespace Jvm.RoadKit
open Sem ClassFile Op Lib Jvm.Stand Jvm.Free Jvm.LawKit
section Own
variable {p : Program} {l : Launch} {e : Env} {R : Room} {s : State} {m : MethodId} {args : Array Value} {below : List Frame} {meth : Method} {c : Code} {T : State} {locs : List Loc} {cells slots : Nat}
def own_Go (p : Program) (e : Env) (below : List Frame) (K : State → Outcome → Prop) (T : State) (g : JFrame) : Prop :=
  ∃ t o, Steps p.tables e below (T.setTop g) t ∧ t.status = .running ∧ Ended t below o ∧ K t o
theorem own_go {K : State → Outcome → Prop} {T1 T2 : State} {g1 g2 : JFrame} (h : ∀ t, Steps p.tables e below (T2.setTop g2) t → Steps p.tables e below (T1.setTop g1) t) (k : own_Go p e below K T2 g2) : own_Go p e below K T1 g1 := by
  obtain ⟨t, o, h1, h2⟩ := k
  exact ⟨t, o, h t h1, h2⟩
theorem own_hp {h : Heap} {a : Addr} {cl : Cell} (e : T.heap = h) (q : h[a]? = some cl) : T.heap[a]? = some cl := by rw [e]; exact q
theorem own_ap {T1 T2 t : State} {g1 g2 : JFrame} (h : ∀ t, Steps p.tables e below (T2.setTop g2) t → Steps p.tables e below (T1.setTop g1) t) (k : Steps p.tables e below (T2.setTop g2) t) : Steps p.tables e below (T1.setTop g1) t := h t k
def own_K (s : State) (Q : Option Value → Heap → List Loc → Prop) (C S : Nat) (t : State) (o : Outcome) : Prop := ∃ v L, o = .returned v ∧ Q v t.heap L ∧ FrameEnd s o t L C S
def own_QP (r : Option Value) (h0 : Heap) (v : Option Value) (h : Heap) (L : List Loc) : Prop := v = r ∧ L = [] ∧ h = h0
def own_Con (l : Launch) (Z : State) (y : MethodName) (bytes : ByteArray) (maxL : Nat) (ret : Option FieldType) (rm : Room) (as' : Array Value) (h : Heap) (Q : Option Value → Heap → List Loc → Prop) : Prop :=
  MetFree l y (head1 [Cond.code y bytes maxL ret] rm) (fun a U => a = as' ∧ Z.Warmed39 U.vm ∧ U.heap = h) (fun _ _ _ _ _ => True) (fun _ U o U' => ∃ v L, o = .returned v ∧ Q v U'.heap L ∧ FrameEnd U o U' L rm.cells rm.slots)
theorem own_end (X : Stand p l e R s m args below meth c T locs cells slots) {v : Option Value} (hl : meth.locks = false) (hv : meth.sig.returnType = none → v = none) {g : JFrame} {Q : Option Value → Heap → List Loc → Prop} {C S : Nat}
    (hstep : ∀ fs, (∀ (f : JFrame) (acts : List Action), f.method = m → f.locked = none → f.entered = [] → (doReturn e (T.setTop f) acts v).1 = T.setFrames fs) → Steps p.tables e below (T.setTop g) (T.setFrames fs))
    (hc : cells ≤ C) (hs : slots ≤ S) (hQ : Q v T.heap locs) : own_Go p e below (own_K s Q C S) T g := by
  obtain ⟨fs, hr, hrun, hended, hW, hsame⟩ := X.leave hv hl
  exact ⟨_, _, hstep fs hr, hrun, hended, v, locs, rfl, hQ, ⟨_, rfl⟩, hW, hsame.mono hc hs⟩
theorem own_endN (X : Stand p l e R s m args below meth c T locs cells slots) (hx : p.tables.exec = Jvm.exec) (hl : meth.locks = false) {pc : Nat} {Ls : Array Slot} {z z' : Int32} {t : FieldType} {rest : List Value} {Q : Option Value → Heap → List Loc → Prop} {C S : Nat}
    (hret : meth.sig.returnType = some t) (ht : t = .boolean ∨ t = .byte ∨ t = .char ∨ t = .short) (hd : decode c.code pc = .ok (.ireturn, 1)) (hz : nar t z = z') (hc : cells ≤ C) (hs : slots ≤ S) (hQ : Q (some (.int z')) T.heap locs) :
    own_Go p e below (own_K s Q C S) T (mkF m pc Ls (.int z :: rest)) := by
  subst hz
  exact own_end X hl (fun h => by rw [hret] at h; cases h) (fun fs hr => retN X hx hret ht hd hr) hc hs hQ
theorem own_endI (X : Stand p l e R s m args below meth c T locs cells slots) (hx : p.tables.exec = Jvm.exec) (hl : meth.locks = false) {pc : Nat} {Ls : Array Slot} {z : Int32} {rest : List Value} {Q : Option Value → Heap → List Loc → Prop} {C S : Nat}
    (hret : meth.sig.returnType = some .int) (hd : decode c.code pc = .ok (.ireturn, 1)) (hc : cells ≤ C) (hs : slots ≤ S) (hQ : Q (some (.int z)) T.heap locs) :
    own_Go p e below (own_K s Q C S) T (mkF m pc Ls (.int z :: rest)) :=
  own_end X hl (fun h => by rw [hret] at h; cases h) (fun fs hr => retOut X hx hret rfl (Or.inl ⟨rfl, Or.inl rfl, z, rfl⟩) hd hr) hc hs hQ
theorem own_endJ (X : Stand p l e R s m args below meth c T locs cells slots) (hx : p.tables.exec = Jvm.exec) (hl : meth.locks = false) {pc : Nat} {Ls : Array Slot} {z : Int64} {rest : List Value} {Q : Option Value → Heap → List Loc → Prop} {C S : Nat}
    (hret : meth.sig.returnType = some .long) (hd : decode c.code pc = .ok (.lreturn, 1)) (hc : cells ≤ C) (hs : slots ≤ S) (hQ : Q (some (.long z)) T.heap locs) :
    own_Go p e below (own_K s Q C S) T (mkF m pc Ls (.long z :: rest)) :=
  own_end X hl (fun h => by rw [hret] at h; cases h) (fun fs hr => retOut X hx hret rfl (Or.inr (Or.inl ⟨rfl, rfl, z, rfl⟩)) hd hr) hc hs hQ
theorem own_endR (X : Stand p l e R s m args below meth c T locs cells slots) (hx : p.tables.exec = Jvm.exec) (hl : meth.locks = false) {pc : Nat} {Ls : Array Slot} {w : Value} {t : FieldType} {rest : List Value} {Q : Option Value → Heap → List Loc → Prop} {C S : Nat}
    (hret : meth.sig.returnType = some t) (ht : t.isReference = true) (hw : w.isRef = true) (hd : decode c.code pc = .ok (.areturn, 1)) (hc : cells ≤ C) (hs : slots ≤ S) (hQ : Q (some w) T.heap locs) :
    own_Go p e below (own_K s Q C S) T (mkF m pc Ls (w :: rest)) :=
  own_end X hl (fun h => by rw [hret] at h; cases h) (fun fs hr => retOut X hx hret (by rcases ref_cases hw with rfl | ⟨a, rfl⟩ <;> cases t <;> first | rfl | (cases ht)) (Or.inr (Or.inr (Or.inr (Or.inr ⟨rfl, ht, hw⟩)))) hd hr) hc hs hQ
theorem own_endV (X : Stand p l e R s m args below meth c T locs cells slots) (hx : p.tables.exec = Jvm.exec) (hl : meth.locks = false) {pc : Nat} {Ls : Array Slot} {Q : Option Value → Heap → List Loc → Prop} {C S : Nat}
    (hret : meth.sig.returnType = none) (hd : decode c.code pc = .ok (.return_, 1)) (hc : cells ≤ C) (hs : slots ≤ S) (hQ : Q none T.heap locs) :
    own_Go p e below (own_K s Q C S) T (mkF m pc Ls []) :=
  own_end X hl (fun _ => rfl) (fun fs hr => X.returnOut hx hret hd hr) hc hs hQ
variable {Z : State} {a0 : Array Value} {h : Heap} {y z : MethodName} {bytes : ByteArray} {maxL : Nat} {ret : Option FieldType} {rm : Room} {as' : Array Value} {Q : Option Value → Heap → List Loc → Prop}
theorem own_static (X : Stand p l e R s m args below meth c T locs cells slots) (hx : p.tables.exec = Jvm.exec) (hZ : Z.Warmed39 s.vm) {own : String} {index : Nat} (hown : s.vm.findClass own = some m.cls)
    (w1 : (Cond.methodLink own index y).before a0 Z = true) (w2 : (Cond.static y).before a0 Z = true) (w3 : (Cond.initialized y.cls).before a0 Z = true) (w4 : (Cond.code y bytes maxL ret).before a0 Z = true) (hy : y.cls ≠ "java/lang/invoke/MethodHandle" ∧ y.cls ≠ "java/lang/invoke/VarHandle")
    (W : Nat) {argsL rest : List Value} (hM : own_Con l Z y bytes maxL ret rm argsL.toArray h Q) (hf : rm.frames + 1 ≤ R.frames) (hl : W + (maxL + 11) + rm.locals ≤ R.locals)
    {g : JFrame} (hg : g.method = m) (hsize : g.locals.size = c.maxLocals) (hlen : ∀ sig, parseMethodDescriptor y.desc = some sig → argsL.length = sig.parameters.length) (hstack : g.stack = argsL.reverse ++ rest)
    (hW : 2 * g.monitorRoom + (rest.map fun v => v.category).sum ≤ W) (hdg : decode c.code g.pc = .ok (.invokestatic index, 3)) (eT : T.heap = h) (hc : cells + rm.cells ≤ R.cells) (hs : slots + rm.slots ≤ R.slots) :
    ∃ (v : Option Value) (T' : State) (L : List Loc), Stand p l e R s m args below meth c T' (locs ++ L) (cells + rm.cells) (slots + rm.slots) ∧ Q v T'.heap L ∧
      ∀ target, Steps p.tables e below (T'.setTop { g with pc := g.pc + 3, stack := v.toList ++ rest }) target → Steps p.tables e below (T.setTop g) target := by
  obtain ⟨v, _, ⟨T', L', k', n'⟩, -, X', ⟨L, hQ, e1, e2, e3⟩, st⟩ := Jvm.LawKit.callS X hx (y := y) hown (mvT hZ w1) (mvT hZ w2) (mvT hZ w3) (mvT hZ w4) hy (backOf (W := W) hM hZ w4 w3 hf hl) hg hsize hlen hstack hW hdg (fun _ _ => ⟨rfl, eT, hc, hs⟩)
  dsimp only [Pt.U, Pt.locs, Pt.cells, Pt.slots] at X' e1 e2 e3 st hQ
  subst e1 e2 e3
  exact ⟨v, T', L, X', hQ, st⟩
theorem own_special (X : Stand p l e R s m args below meth c T locs cells slots) (hx : p.tables.exec = Jvm.exec) (hZ : Z.Warmed39 s.vm) {own : String} {index : Nat} (hy1 : y.name = "<init>") (hown : s.vm.findClass own = some m.cls)
    (w1 : (Cond.methodLink own index y).before a0 Z = true) (w2 : (Cond.instanceMethod y).before a0 Z = true) (w3 : (Cond.initialized y.cls).before a0 Z = true) (w4 : (Cond.code y bytes maxL none).before a0 Z = true) (hy : y.cls ≠ "java/lang/invoke/MethodHandle" ∧ y.cls ≠ "java/lang/invoke/VarHandle")
    (W : Nat) {a : Addr} {argsL rest : List Value} (hM : own_Con l Z y bytes maxL none rm (.ref a :: argsL).toArray h Q) (hf : rm.frames + 1 ≤ R.frames) (hl : W + (maxL + 11) + rm.locals ≤ R.locals)
    {g : JFrame} (hg : g.method = m) (hsize : g.locals.size = c.maxLocals) (hlen : ∀ sig, parseMethodDescriptor y.desc = some sig → argsL.length = sig.parameters.length) (hstack : g.stack = argsL.reverse ++ .ref a :: rest)
    (hW : 2 * g.monitorRoom + (rest.map fun v => v.category).sum ≤ W) (hdg : decode c.code g.pc = .ok (.invokespecial index, 3)) (eT : T.heap = h) (hc : cells + rm.cells ≤ R.cells) (hs : slots + rm.slots ≤ R.slots) :
    ∃ (v : Option Value) (T' : State) (L : List Loc), Stand p l e R s m args below meth c T' (locs ++ L) (cells + rm.cells) (slots + rm.slots) ∧ Q v T'.heap L ∧
      ∀ target, Steps p.tables e below (T'.setTop { g with pc := g.pc + 3, stack := v.toList ++ rest }) target → Steps p.tables e below (T.setTop g) target := by
  obtain ⟨v, _, ⟨T', L', k', n'⟩, -, X', ⟨L, hQ, e1, e2, e3⟩, st⟩ := X.specialBack hx (y := y) hy1 hown (mvT hZ w1) (mvT hZ w2) (mvT hZ w4) hy (backOf (W := W) hM hZ w4 w3 hf hl) hg hsize (Steps.refl _) hlen hstack hW hdg (fun _ _ => ⟨rfl, eT, hc, hs⟩)
  dsimp only [Pt.U, Pt.locs, Pt.cells, Pt.slots] at X' e1 e2 e3 st hQ
  subst e1 e2 e3
  exact ⟨v, T', L, X', hQ, fun t k => st.trans k⟩
theorem own_virtual (X : Stand p l e R s m args below meth c T locs cells slots) (hx : p.tables.exec = Jvm.exec) (hZ : Z.Warmed39 s.vm) {own C : String} {index : Nat} (hown : s.vm.findClass own = some m.cls)
    (w1 : (Cond.methodLink own index y).before a0 Z = true) (w2 : (Cond.declares y).before a0 Z = true) (hnf : NotFace s y) (w5 : (Cond.selects C y z).before a0 Z = true) (w6 : (Cond.instanceMethod z).before a0 Z = true)
    (w3 : (Cond.initialized z.cls).before a0 Z = true) (w4 : (Cond.code z bytes maxL ret).before a0 Z = true) (hy : y.cls ≠ "java/lang/invoke/MethodHandle" ∧ y.cls ≠ "java/lang/invoke/VarHandle")
    (W : Nat) {a : Addr} {argsL rest : List Value} (hM : own_Con l Z z bytes maxL ret rm (.ref a :: argsL).toArray h Q) (hf : rm.frames + 1 ≤ R.frames) (hl : W + (maxL + 11) + rm.locals ≤ R.locals) (E : Exa Z h a C)
    {g : JFrame} (hg : g.method = m) (hsize : g.locals.size = c.maxLocals) (hlen : ∀ sig, parseMethodDescriptor y.desc = some sig → argsL.length = sig.parameters.length) (hstack : g.stack = argsL.reverse ++ .ref a :: rest)
    (hW : 2 * g.monitorRoom + (rest.map fun v => v.category).sum ≤ W) (hdg : decode c.code g.pc = .ok (.invokevirtual index, 3)) (eT : T.heap = h) (hc : cells + rm.cells ≤ R.cells) (hs : slots + rm.slots ≤ R.slots) :
    ∃ (v : Option Value) (T' : State) (L : List Loc), Stand p l e R s m args below meth c T' (locs ++ L) (cells + rm.cells) (slots + rm.slots) ∧ Q v T'.heap L ∧
      ∀ target, Steps p.tables e below (T'.setTop { g with pc := g.pc + 3, stack := v.toList ++ rest }) target → Steps p.tables e below (T.setTop g) target := by
  obtain ⟨cB, kB, q1, -, q2⟩ := isOf hZ eT E
  obtain ⟨v, _, ⟨T', L', k', n'⟩, -, X', ⟨L, hQ, e1, e2, e3⟩, st⟩ := X.virtualBack hx (y := y) (z := z) hown (mvT hZ w1) (mvT hZ w2) hnf (mvT hZ w5) (mvT hZ w6) hy (backOf (W := W) hM hZ w4 w3 hf hl) q1 q2 hg hsize (Steps.refl _) hlen hstack hW hdg (fun _ _ => ⟨rfl, eT, hc, hs⟩)
  dsimp only [Pt.U, Pt.locs, Pt.cells, Pt.slots] at X' e1 e2 e3 st hQ
  subst e1 e2 e3
  exact ⟨v, T', L, X', hQ, fun t k => st.trans k⟩
theorem own_virtualUp (X : Stand p l e R s m args below meth c T locs cells slots) (hx : p.tables.exec = Jvm.exec) (hZ : Z.Warmed39 s.vm) {own C owner : String} {index : Nat} (hown : s.vm.findClass own = some m.cls)
    (w1 : (Cond.methodLink own index y).before a0 Z = true) (w7 : (Cond.sameMethod y.cls owner y.name y.desc).before a0 Z = true) (w2 : (Cond.declares ⟨owner, y.name, y.desc⟩).before a0 Z = true) (ho : owner ≠ "java/lang/invoke/MethodHandle" ∧ owner ≠ "java/lang/invoke/VarHandle") (w5 : (Cond.selects C y z).before a0 Z = true) (w6 : (Cond.instanceMethod z).before a0 Z = true)
    (w3 : (Cond.initialized z.cls).before a0 Z = true) (w4 : (Cond.code z bytes maxL ret).before a0 Z = true)
    (W : Nat) {a : Addr} {argsL rest : List Value} (hM : own_Con l Z z bytes maxL ret rm (.ref a :: argsL).toArray h Q) (hf : rm.frames + 1 ≤ R.frames) (hl : W + (maxL + 11) + rm.locals ≤ R.locals) (E : Exa Z h a C)
    {g : JFrame} (hg : g.method = m) (hsize : g.locals.size = c.maxLocals) (hlen : ∀ sig, parseMethodDescriptor y.desc = some sig → argsL.length = sig.parameters.length) (hstack : g.stack = argsL.reverse ++ .ref a :: rest)
    (hW : 2 * g.monitorRoom + (rest.map fun v => v.category).sum ≤ W) (hdg : decode c.code g.pc = .ok (.invokevirtual index, 3)) (eT : T.heap = h) (hc : cells + rm.cells ≤ R.cells) (hs : slots + rm.slots ≤ R.slots) :
    ∃ (v : Option Value) (T' : State) (L : List Loc), Stand p l e R s m args below meth c T' (locs ++ L) (cells + rm.cells) (slots + rm.slots) ∧ Q v T'.heap L ∧
      ∀ target, Steps p.tables e below (T'.setTop { g with pc := g.pc + 3, stack := v.toList ++ rest }) target → Steps p.tables e below (T.setTop g) target := by
  obtain ⟨cB, kB, q1, -, q2⟩ := isOf hZ eT E
  obtain ⟨v, _, ⟨T', L', k', n'⟩, -, X', ⟨L, hQ, e1, e2, e3⟩, st⟩ := X.virtualBackUp hx (x := y) (y := z) (owner := owner) hown (mvT hZ w1) (mvT hZ w7) (mvT hZ w2) ho (mvT hZ w5) (mvT hZ w6) (backOf (W := W) hM hZ w4 w3 hf hl) q1 q2 hg hsize (Steps.refl _) hlen hstack hW hdg (fun _ _ => ⟨rfl, eT, hc, hs⟩)
  dsimp only [Pt.U, Pt.locs, Pt.cells, Pt.slots] at X' e1 e2 e3 st hQ
  subst e1 e2 e3
  exact ⟨v, T', L, X', hQ, fun t k => st.trans k⟩
theorem own_wd {ts : List Cond} (hw : ∀ d ∈ ts, d.before a0 Z = true) {d : Cond} (n : Nat) (h : ts[n]? = some d) : d.before a0 Z = true := hw d (List.mem_of_getElem? h)
theorem own_fldI {t : Term} {w : Addr} {C n d : String} {k : Int32} (ev : t.eval args s none [] s = some (.ref w)) (h : (Cond.eq (Term.field t C n d) (Term.int k)).value args s none s [] = some true) : Fld s s.heap w C n d (.int k) := by
  apply Fld.start
  cases hf : s.fieldOf? w C n d with
  | none => simp [Cond.value, Term.eval, ev, hf] at h
  | some x => cases x <;> simp [Cond.value, Term.eval, ev, hf] at h ⊢; exact h
theorem own_fldN {t : Term} {w : Addr} {C n d : String} (ev : t.eval args s none [] s = some (.ref w)) (h : (Cond.eq (Term.field t C n d) Term.null).value args s none s [] = some true) : Fld s s.heap w C n d .null := by
  have q := null_v h
  rw [fld_at ev] at q
  exact Fld.start q
theorem own_fldR {t u : Term} {w b : Addr} {C n d : String} (ev : t.eval args s none [] s = some (.ref w)) (eu : u.eval args s none [] s = some (.ref b)) (h : (Cond.eq (Term.field t C n d) u).value args s none s [] = some true) : Fld s s.heap w C n d (.ref b) := by
  apply Fld.start
  cases hf : s.fieldOf? w C n d with
  | none => simp [Cond.value, Term.eval, ev, eu, hf] at h
  | some x => cases x <;> simp [Cond.value, Term.eval, ev, eu, hf] at h ⊢; exact h
theorem own_ne {t u : Term} {w b : Addr} (ev : t.eval args s none [] s = some (.ref w)) (eu : u.eval args s none [] s = some (.ref b)) (h : (Cond.not (Cond.eq t u)).value args s none s [] = some true) : w ≠ b := by
  have q := not_v h
  intro e
  subst e
  simp [Cond.value, ev, eu] at q
end Own
end Jvm.RoadKit
namespace Jvm.RoadKit
open Sem ClassFile Op Lib Jvm.Stand Jvm.Free Jvm.LawKit
section Own2
variable {p : Program} {l : Launch} {e : Env} {R : Room} {s : State} {m : MethodId} {args : Array Value} {below : List Frame} {meth : Method} {c : Code} {T : State} {locs : List Loc} {cells slots : Nat}
variable {Z : State} {a0 : Array Value} {h h0 h' : Heap} {y z : MethodName} {bytes : ByteArray} {maxL : Nat} {ret : Option FieldType} {rm : Room} {as' : Array Value} {Q : Option Value → Heap → List Loc → Prop} {ws ws' : List Addr} {L L' : List Loc}
/-- what a walk has done to the heap: old cells that aren't in ws stand as they were, so do the cells of statics; what was written lies in ws or is new -/
def own_Kp (h0 h : Heap) (ws : List Addr) (L : List Loc) : Prop := Keep h0 h ws ∧ (∀ y ∈ L, y.base ∈ ws ∨ h0.size ≤ y.base) ∧ ∀ (x : Addr) (c : Cell), h0[x]? = some c → c.vm.isStatics = true → h[x]? = some c
theorem own_kpRefl (h : Heap) (ws : List Addr) : own_Kp h h ws [] := ⟨Keep.refl _ _, fun _ q => (nomatch q), fun _ _ q _ => q⟩
theorem own_kpExt (K : own_Kp h0 h ws L) (E : Ext h h') : own_Kp h0 h' ws L := ⟨K.1.ext E, K.2.1, fun x c q r => E.2 x c (K.2.2 x c q r)⟩
theorem own_kpTrans (K : own_Kp h0 h ws L) (K' : own_Kp h h' ws' L') (q : ∀ x ∈ ws', x ∈ ws ∨ h0.size ≤ x) : own_Kp h0 h' ws (L ++ L') :=
  ⟨K.1.trans K'.1 q, fun y hy => (List.mem_append.mp hy).elim (K.2.1 y) fun hy' => (K'.2.1 y hy').elim (q _) fun r => Or.inr (Nat.le_trans K.1.1 r), fun x c r t => K'.2.2 x c (K.2.2 x c r t) t⟩
theorem own_kpWr {a : Addr} {sl : Nat} {v : Value} (K : own_Kp h0 h ws L) (W : Wr h h' a sl v) (q : a ∈ ws ∨ h0.size ≤ a) : own_Kp h0 h' ws (L ++ [⟨a, sl⟩]) := by
  refine ⟨K.1.wr W q, fun y hy => (List.mem_append.mp hy).elim (K.2.1 y) fun hy' => by cases List.mem_singleton.mp hy'; exact q, fun x c r t => ?_⟩
  obtain ⟨c', e1, -, -, -, e5, -, e7⟩ := wr_at W (K.2.2 x c r t)
  have ne : x ≠ a := fun e => by rw [(e7 e).2.2] at t; cases t
  rw [← e5 ne]; exact e1
theorem own_kpSta {C n d : String} {v : Value} (K : own_Kp h h' ws L) (F : Sta Z h C n d v) : Sta Z h' C n d v := by
  obtain ⟨cf, i, k, f, st, cell, h1, h2, h3, h4, h5, h6, h7⟩ := F
  exact ⟨cf, i, k, f, st, cell, h1, h2, h3, h4, K.2.2 _ _ h5 h6, h6, h7⟩
theorem own_kpFr (K : own_Kp h0 h [] L) : Fr h0.size L := fun y hy => (K.2.1 y hy).elim (fun q => nomatch q) id
def own_ConW (l : Launch) (Z : State) (y : MethodName) (bytes : ByteArray) (maxL : Nat) (ret : Option FieldType) (hs : List (Nat × Nat × Nat × Nat)) (rm : Room) (as' : Array Value) (h : Heap) (Q : Option Value → Heap → List Loc → Prop) : Prop :=
  MetFree l y (head1 [Cond.codeWith y bytes maxL ret hs] rm) (fun a U => a = as' ∧ Z.Warmed39 U.vm ∧ U.heap = h) (fun _ _ _ _ _ => True) (fun _ U o U' => ∃ v L, o = .returned v ∧ Q v U'.heap L ∧ FrameEnd U o U' L rm.cells rm.slots)
theorem own_interface (X : Stand p l e R s m args below meth c T locs cells slots) (hx : p.tables.exec = Jvm.exec) (hZ : Z.Warmed39 s.vm) {own C : String} {index count : Nat} (hown : s.vm.findClass own = some m.cls)
    (w1 : (Cond.methodLink own index y).before a0 Z = true) (w2 : (Cond.declares y).before a0 Z = true) (w7 : (Cond.interfaceMethod y.cls y.cls y.name y.desc).before a0 Z = true) (w5 : (Cond.selects C y z).before a0 Z = true) (w6 : (Cond.instanceMethod z).before a0 Z = true)
    (w8 : (Cond.publicMethod z).before a0 Z = true) (w9 : (Cond.unhidden C y.name y.desc).before a0 Z = true) (w10 : (Cond.castable C y.cls).before a0 Z = true)
    (w3 : (Cond.initialized z.cls).before a0 Z = true) (w4 : (Cond.code z bytes maxL ret).before a0 Z = true) (hy : y.cls ≠ "java/lang/invoke/MethodHandle" ∧ y.cls ≠ "java/lang/invoke/VarHandle")
    (W : Nat) {a : Addr} {argsL rest : List Value} (hM : own_Con l Z z bytes maxL ret rm (.ref a :: argsL).toArray h Q) (hf : rm.frames + 1 ≤ R.frames) (hl : W + (maxL + 11) + rm.locals ≤ R.locals) (E : Exa Z h a C)
    {g : JFrame} (hg : g.method = m) (hsize : g.locals.size = c.maxLocals) (hlen : ∀ sig, parseMethodDescriptor y.desc = some sig → argsL.length = sig.parameters.length) (hstack : g.stack = argsL.reverse ++ .ref a :: rest)
    (hW : 2 * g.monitorRoom + (rest.map fun v => v.category).sum ≤ W) (hdg : decode c.code g.pc = .ok (.invokeinterface index count, 5)) (eT : T.heap = h) (hc : cells + rm.cells ≤ R.cells) (hs : slots + rm.slots ≤ R.slots) :
    ∃ (v : Option Value) (T' : State) (L : List Loc), Stand p l e R s m args below meth c T' (locs ++ L) (cells + rm.cells) (slots + rm.slots) ∧ Q v T'.heap L ∧
      ∀ target, Steps p.tables e below (T'.setTop { g with pc := g.pc + 5, stack := v.toList ++ rest }) target → Steps p.tables e below (T.setTop g) target := by
  obtain ⟨cB, kB, q1, q2, q3⟩ := isOf hZ eT E
  obtain ⟨v, _, ⟨T', L', k', n'⟩, -, X', ⟨L, hQ, e1, e2, e3⟩, st⟩ := X.interfaceBack hx (xi := y) (y := z) hown (mvT hZ w1) (mvT hZ w2) (mvT hZ w7 (by simp [Cond.onTables, Cond.keepsFace, Cond.keeps, Cond.steady, Cond.faceAtom]; exact hy)) (mvT hZ w5) (mvT hZ w6) (mvT hZ w8) (mvT hZ w9) (mvT hZ w10) hy (backOf (W := W) hM hZ w4 w3 hf hl) q1 q2 q3 hg hsize (Steps.refl _) hlen hstack hW hdg (fun _ _ => ⟨rfl, eT, hc, hs⟩)
  dsimp only [Pt.U, Pt.locs, Pt.cells, Pt.slots] at X' e1 e2 e3 st hQ
  subst e1 e2 e3
  exact ⟨v, T', L, X', hQ, fun t k => st.trans k⟩
theorem own_interfaceW (X : Stand p l e R s m args below meth c T locs cells slots) (hx : p.tables.exec = Jvm.exec) (hZ : Z.Warmed39 s.vm) {own C : String} {index count : Nat} (hown : s.vm.findClass own = some m.cls)
    (w1 : (Cond.methodLink own index y).before a0 Z = true) (w2 : (Cond.declares y).before a0 Z = true) (w7 : (Cond.interfaceMethod y.cls y.cls y.name y.desc).before a0 Z = true) (w5 : (Cond.selects C y z).before a0 Z = true) (w6 : (Cond.instanceMethod z).before a0 Z = true)
    (w8 : (Cond.publicMethod z).before a0 Z = true) (w9 : (Cond.unhidden C y.name y.desc).before a0 Z = true) (w10 : (Cond.castable C y.cls).before a0 Z = true)
    (w3 : (Cond.initialized z.cls).before a0 Z = true) {hs : List (Nat × Nat × Nat × Nat)} (w4 : (Cond.codeWith z bytes maxL ret hs).before a0 Z = true) (hy : y.cls ≠ "java/lang/invoke/MethodHandle" ∧ y.cls ≠ "java/lang/invoke/VarHandle")
    (W : Nat) {a : Addr} {argsL rest : List Value} (hM : own_ConW l Z z bytes maxL ret hs rm (.ref a :: argsL).toArray h Q) (hf : rm.frames + 1 ≤ R.frames) (hl : W + (maxL + 11) + rm.locals ≤ R.locals) (E : Exa Z h a C)
    {g : JFrame} (hg : g.method = m) (hsize : g.locals.size = c.maxLocals) (hlen : ∀ sig, parseMethodDescriptor y.desc = some sig → argsL.length = sig.parameters.length) (hstack : g.stack = argsL.reverse ++ .ref a :: rest)
    (hW : 2 * g.monitorRoom + (rest.map fun v => v.category).sum ≤ W) (hdg : decode c.code g.pc = .ok (.invokeinterface index count, 5)) (eT : T.heap = h) (hc : cells + rm.cells ≤ R.cells) (hsl : slots + rm.slots ≤ R.slots) :
    ∃ (v : Option Value) (T' : State) (L : List Loc), Stand p l e R s m args below meth c T' (locs ++ L) (cells + rm.cells) (slots + rm.slots) ∧ Q v T'.heap L ∧
      ∀ target, Steps p.tables e below (T'.setTop { g with pc := g.pc + 5, stack := v.toList ++ rest }) target → Steps p.tables e below (T.setTop g) target := by
  obtain ⟨cB, kB, q1, q2, q3⟩ := isOf hZ eT E
  obtain ⟨v, _, ⟨T', L', k', n'⟩, -, X', ⟨L, hQ, e1, e2, e3⟩, st⟩ := X.interfaceBack hx (xi := y) (y := z) hown (mvT hZ w1) (mvT hZ w2) (mvT hZ w7 (by simp [Cond.onTables, Cond.keepsFace, Cond.keeps, Cond.steady, Cond.faceAtom]; exact hy)) (mvT hZ w5) (mvT hZ w6) (mvT hZ w8) (mvT hZ w9) (mvT hZ w10) hy (backOfWith (W := W) hM hZ w4 w3 hf hl) q1 q2 q3 hg hsize (Steps.refl _) hlen hstack hW hdg (fun _ _ => ⟨rfl, eT, hc, hsl⟩)
  dsimp only [Pt.U, Pt.locs, Pt.cells, Pt.slots] at X' e1 e2 e3 st hQ
  subst e1 e2 e3
  exact ⟨v, T', L, X', hQ, fun t k => st.trans k⟩
theorem own_private (X : Stand p l e R s m args below meth c T locs cells slots) (hx : p.tables.exec = Jvm.exec) (hZ : Z.Warmed39 s.vm) {own C : String} {index : Nat} (hown : s.vm.findClass own = some m.cls)
    (w1 : (Cond.methodLink own index y).before a0 Z = true) (w6 : (Cond.instanceMethod y).before a0 Z = true) {kk : Nat} (w5 : (Cond.instantiable y.cls kk).before a0 Z = true) (w7 : (Cond.privateMethod y).before a0 Z = true)
    (w3 : (Cond.initialized y.cls).before a0 Z = true) (w4 : (Cond.code y bytes maxL ret).before a0 Z = true) (hy : y.cls ≠ "java/lang/invoke/MethodHandle" ∧ y.cls ≠ "java/lang/invoke/VarHandle")
    (W : Nat) {a : Addr} {argsL rest : List Value} (hM : own_Con l Z y bytes maxL ret rm (.ref a :: argsL).toArray h Q) (hf : rm.frames + 1 ≤ R.frames) (hl : W + (maxL + 11) + rm.locals ≤ R.locals) (E : Exa Z h a C)
    {g : JFrame} (hg : g.method = m) (hsize : g.locals.size = c.maxLocals) (hlen : ∀ sig, parseMethodDescriptor y.desc = some sig → argsL.length = sig.parameters.length) (hstack : g.stack = argsL.reverse ++ .ref a :: rest)
    (hW : 2 * g.monitorRoom + (rest.map fun v => v.category).sum ≤ W) (hdg : decode c.code g.pc = .ok (.invokevirtual index, 3)) (eT : T.heap = h) (hc : cells + rm.cells ≤ R.cells) (hs : slots + rm.slots ≤ R.slots) :
    ∃ (v : Option Value) (T' : State) (L : List Loc), Stand p l e R s m args below meth c T' (locs ++ L) (cells + rm.cells) (slots + rm.slots) ∧ Q v T'.heap L ∧
      ∀ target, Steps p.tables e below (T'.setTop { g with pc := g.pc + 3, stack := v.toList ++ rest }) target → Steps p.tables e below (T.setTop g) target := by
  obtain ⟨cq, q1, q2⟩ := E.cell
  obtain ⟨ci, ki, i1, i2, -, i4, -⟩ := Cond.instantiable_spec (mvT (args := args) hZ w5)
  have hpv := Cond.privateMethod_at (mvP hZ w7 (args := args))
  have hse := selects_self_of_private (args := args) i1 i2 (Bool.or_eq_false_iff.mp i4).1 hpv (mvT hZ w6) hy
  obtain ⟨v, _, ⟨T', L', k', n'⟩, -, X', ⟨L, hQ, e1, e2, e3⟩, st⟩ := X.privateBack hx (y := y) hown (mvT hZ w1) (mvT hZ w6) hse (Cond.privateMethod_at (mvP hZ w7 (args := #[]))) (mvT hZ w4) hy (backOf (W := W) hM hZ w4 w3 hf hl) hg hsize (Steps.refl _) (by rw [eT]; exact q1) q2 hlen hstack hW hdg (fun _ _ => ⟨rfl, eT, hc, hs⟩)
  dsimp only [Pt.U, Pt.locs, Pt.cells, Pt.slots] at X' e1 e2 e3 st hQ
  subst e1 e2 e3
  exact ⟨v, T', L, X', hQ, fun t k => st.trans k⟩
theorem own_alen {g : JFrame} {target : State} (X : Stand p l e R s m args below meth c T locs cells slots) (hx : p.tables.exec = Jvm.exec) (hZ : Z.Warmed39 s.vm) (eT : T.heap = h) {a : Addr} {cl : Cell} {ty : FieldType} {z : Int32} (A : Arr Z h a cl ty) (S : cl.slots.size = z.toNatClampNeg) (N : ¬ z < 0)
    (hg : g.method = m) {rest : List Value} (hs : g.stack = .ref a :: rest) (hd : decode c.code g.pc = .ok (.arraylength, 1)) (hr : Steps p.tables e below (T.setTop { g with pc := g.pc + 1, stack := .int z :: rest }) target) : Steps p.tables e below (T.setTop g) target :=
  X.arraylength hx (by rw [eT]; exact A.1) (State.isArrayOf_alike hZ.alike A.2.1) hg hs hd _ (by rw [len_of S N]; exact hr)
/-! calls with the words of one site in a bundle -/
def own_SW (Z : State) (a0 : Array Value) (own : String) (index : Nat) (y : MethodName) (bytes : ByteArray) (maxL : Nat) (ret : Option FieldType) : Prop :=
  (Cond.methodLink own index y).before a0 Z = true ∧ (Cond.static y).before a0 Z = true ∧ (Cond.initialized y.cls).before a0 Z = true ∧ (Cond.code y bytes maxL ret).before a0 Z = true ∧ (y.cls ≠ "java/lang/invoke/MethodHandle" ∧ y.cls ≠ "java/lang/invoke/VarHandle")
def own_IW (Z : State) (a0 : Array Value) (own : String) (index : Nat) (y : MethodName) (bytes : ByteArray) (maxL : Nat) : Prop :=
  y.name = "<init>" ∧ (Cond.methodLink own index y).before a0 Z = true ∧ (Cond.instanceMethod y).before a0 Z = true ∧ (Cond.initialized y.cls).before a0 Z = true ∧ (Cond.code y bytes maxL none).before a0 Z = true ∧ (y.cls ≠ "java/lang/invoke/MethodHandle" ∧ y.cls ≠ "java/lang/invoke/VarHandle")
def own_VW (Z : State) (a0 : Array Value) (own : String) (index : Nat) (C : String) (y : MethodName) (bytes : ByteArray) (maxL : Nat) (ret : Option FieldType) : Prop :=
  (Cond.methodLink own index y).before a0 Z = true ∧ (Cond.declares y).before a0 Z = true ∧ (Cond.selects C y y).before a0 Z = true ∧ (Cond.instanceMethod y).before a0 Z = true ∧ (Cond.initialized y.cls).before a0 Z = true ∧ (Cond.code y bytes maxL ret).before a0 Z = true ∧ (y.cls ≠ "java/lang/invoke/MethodHandle" ∧ y.cls ≠ "java/lang/invoke/VarHandle")
def own_PW (Z : State) (a0 : Array Value) (own : String) (index : Nat) (y : MethodName) (bytes : ByteArray) (maxL : Nat) (ret : Option FieldType) : Prop :=
  (Cond.methodLink own index y).before a0 Z = true ∧ (Cond.instanceMethod y).before a0 Z = true ∧ (∃ kk, (Cond.instantiable y.cls kk).before a0 Z = true) ∧ (Cond.privateMethod y).before a0 Z = true ∧ (Cond.initialized y.cls).before a0 Z = true ∧ (Cond.code y bytes maxL ret).before a0 Z = true ∧ (y.cls ≠ "java/lang/invoke/MethodHandle" ∧ y.cls ≠ "java/lang/invoke/VarHandle")
theorem own_cs (X : Stand p l e R s m args below meth c T locs cells slots) (hx : p.tables.exec = Jvm.exec) (hZ : Z.Warmed39 s.vm) {own : String} {index ml : Nat} (hown : s.vm.findClass own = some m.cls) (V : own_SW Z a0 own index y bytes maxL ret) (hml : c.maxLocals = ml)
    {g : JFrame} (hdg : decode c.code g.pc = .ok (.invokestatic index, 3)) (eT : T.heap = h) (argsL rest : List Value) (hlen : ∀ sig, parseMethodDescriptor y.desc = some sig → argsL.length = sig.parameters.length) (hM : own_Con l Z y bytes maxL ret rm argsL.toArray h Q)
    (hg : g.method = m := by rfl) (hsize : g.locals.size = ml := by rfl) (hstack : g.stack = argsL.reverse ++ rest := by rfl) (hmo : 2 * g.monitorRoom = 0 := by rfl) (hf : rm.frames + 1 ≤ R.frames := by exact Nat.le_of_ble_eq_true rfl) (hl : (rest.map fun v => v.category).sum + (maxL + 11) + rm.locals ≤ R.locals := by exact Nat.le_of_ble_eq_true rfl) (hc : cells + rm.cells ≤ R.cells := by exact Nat.le_of_ble_eq_true rfl) (hs : slots + rm.slots ≤ R.slots := by exact Nat.le_of_ble_eq_true rfl) :
    ∃ (v : Option Value) (T' : State) (L : List Loc), Stand p l e R s m args below meth c T' (locs ++ L) (cells + rm.cells) (slots + rm.slots) ∧ Q v T'.heap L ∧
      ∀ target, Steps p.tables e below (T'.setTop { g with pc := g.pc + 3, stack := v.toList ++ rest }) target → Steps p.tables e below (T.setTop g) target :=
  own_static X hx hZ hown V.1 V.2.1 V.2.2.1 V.2.2.2.1 V.2.2.2.2 _ hM hf hl hg (hsize.trans hml.symm) hlen hstack (by rw [hmo, Nat.zero_add]; exact Nat.le_refl _) hdg eT hc hs
theorem own_ci (X : Stand p l e R s m args below meth c T locs cells slots) (hx : p.tables.exec = Jvm.exec) (hZ : Z.Warmed39 s.vm) {own : String} {index ml : Nat} (hown : s.vm.findClass own = some m.cls) (V : own_IW Z a0 own index y bytes maxL) (hml : c.maxLocals = ml)
    {g : JFrame} (hdg : decode c.code g.pc = .ok (.invokespecial index, 3)) (eT : T.heap = h) {a : Addr} (argsL rest : List Value) (hlen : ∀ sig, parseMethodDescriptor y.desc = some sig → argsL.length = sig.parameters.length) (hM : own_Con l Z y bytes maxL none rm (.ref a :: argsL).toArray h Q)
    (hg : g.method = m := by rfl) (hsize : g.locals.size = ml := by rfl) (hstack : g.stack = argsL.reverse ++ .ref a :: rest := by rfl) (hmo : 2 * g.monitorRoom = 0 := by rfl) (hf : rm.frames + 1 ≤ R.frames := by exact Nat.le_of_ble_eq_true rfl) (hl : (rest.map fun v => v.category).sum + (maxL + 11) + rm.locals ≤ R.locals := by exact Nat.le_of_ble_eq_true rfl) (hc : cells + rm.cells ≤ R.cells := by exact Nat.le_of_ble_eq_true rfl) (hs : slots + rm.slots ≤ R.slots := by exact Nat.le_of_ble_eq_true rfl) :
    ∃ (v : Option Value) (T' : State) (L : List Loc), Stand p l e R s m args below meth c T' (locs ++ L) (cells + rm.cells) (slots + rm.slots) ∧ Q v T'.heap L ∧
      ∀ target, Steps p.tables e below (T'.setTop { g with pc := g.pc + 3, stack := v.toList ++ rest }) target → Steps p.tables e below (T.setTop g) target :=
  own_special X hx hZ V.1 hown V.2.1 V.2.2.1 V.2.2.2.1 V.2.2.2.2.1 V.2.2.2.2.2 _ hM hf hl hg (hsize.trans hml.symm) hlen hstack (by rw [hmo, Nat.zero_add]; exact Nat.le_refl _) hdg eT hc hs
theorem own_cv (X : Stand p l e R s m args below meth c T locs cells slots) (hx : p.tables.exec = Jvm.exec) (hZ : Z.Warmed39 s.vm) {own C : String} {index ml : Nat} (hown : s.vm.findClass own = some m.cls) (V : own_VW Z a0 own index C y bytes maxL ret) (hml : c.maxLocals = ml)
    {g : JFrame} (hdg : decode c.code g.pc = .ok (.invokevirtual index, 3)) (eT : T.heap = h) {a : Addr} (E : Exa Z h a C) (argsL rest : List Value) (hlen : ∀ sig, parseMethodDescriptor y.desc = some sig → argsL.length = sig.parameters.length) (hM : own_Con l Z y bytes maxL ret rm (.ref a :: argsL).toArray h Q)
    (hg : g.method = m := by rfl) (hsize : g.locals.size = ml := by rfl) (hstack : g.stack = argsL.reverse ++ .ref a :: rest := by rfl) (hmo : 2 * g.monitorRoom = 0 := by rfl) (hf : rm.frames + 1 ≤ R.frames := by exact Nat.le_of_ble_eq_true rfl) (hl : (rest.map fun v => v.category).sum + (maxL + 11) + rm.locals ≤ R.locals := by exact Nat.le_of_ble_eq_true rfl) (hc : cells + rm.cells ≤ R.cells := by exact Nat.le_of_ble_eq_true rfl) (hs : slots + rm.slots ≤ R.slots := by exact Nat.le_of_ble_eq_true rfl) :
    ∃ (v : Option Value) (T' : State) (L : List Loc), Stand p l e R s m args below meth c T' (locs ++ L) (cells + rm.cells) (slots + rm.slots) ∧ Q v T'.heap L ∧
      ∀ target, Steps p.tables e below (T'.setTop { g with pc := g.pc + 3, stack := v.toList ++ rest }) target → Steps p.tables e below (T.setTop g) target :=
  own_virtual X hx hZ hown V.1 V.2.1 (notFace_of_selects (args := #[]) (mvT hZ V.2.2.1)) V.2.2.1 V.2.2.2.1 V.2.2.2.2.1 V.2.2.2.2.2.1 V.2.2.2.2.2.2 _ hM hf hl E hg (hsize.trans hml.symm) hlen hstack (by rw [hmo, Nat.zero_add]; exact Nat.le_refl _) hdg eT hc hs
theorem own_cp (X : Stand p l e R s m args below meth c T locs cells slots) (hx : p.tables.exec = Jvm.exec) (hZ : Z.Warmed39 s.vm) {own C : String} {index ml : Nat} (hown : s.vm.findClass own = some m.cls) (V : own_PW Z a0 own index y bytes maxL ret) (hml : c.maxLocals = ml)
    {g : JFrame} (hdg : decode c.code g.pc = .ok (.invokevirtual index, 3)) (eT : T.heap = h) {a : Addr} (E : Exa Z h a C) (argsL rest : List Value) (hlen : ∀ sig, parseMethodDescriptor y.desc = some sig → argsL.length = sig.parameters.length) (hM : own_Con l Z y bytes maxL ret rm (.ref a :: argsL).toArray h Q)
    (hg : g.method = m := by rfl) (hsize : g.locals.size = ml := by rfl) (hstack : g.stack = argsL.reverse ++ .ref a :: rest := by rfl) (hmo : 2 * g.monitorRoom = 0 := by rfl) (hf : rm.frames + 1 ≤ R.frames := by exact Nat.le_of_ble_eq_true rfl) (hl : (rest.map fun v => v.category).sum + (maxL + 11) + rm.locals ≤ R.locals := by exact Nat.le_of_ble_eq_true rfl) (hc : cells + rm.cells ≤ R.cells := by exact Nat.le_of_ble_eq_true rfl) (hs : slots + rm.slots ≤ R.slots := by exact Nat.le_of_ble_eq_true rfl) :
    ∃ (v : Option Value) (T' : State) (L : List Loc), Stand p l e R s m args below meth c T' (locs ++ L) (cells + rm.cells) (slots + rm.slots) ∧ Q v T'.heap L ∧
      ∀ target, Steps p.tables e below (T'.setTop { g with pc := g.pc + 3, stack := v.toList ++ rest }) target → Steps p.tables e below (T.setTop g) target := by
  obtain ⟨kk, wk⟩ := V.2.2.1
  exact own_private X hx hZ hown V.1 V.2.1 wk V.2.2.2.1 V.2.2.2.2.1 V.2.2.2.2.2.1 V.2.2.2.2.2.2 _ hM hf hl E hg (hsize.trans hml.symm) hlen hstack (by rw [hmo, Nat.zero_add]; exact Nat.le_refl _) hdg eT hc hs
/-! arrays out of the case's words -/
theorem own_oxE {Y : Heap} (X : Ext Y h) (E : Ext h h') : Ext Y h' := ⟨Nat.le_trans X.1 E.1, fun a c q => E.2 a c (X.2 a c q)⟩
theorem own_oxK {Y : Heap} (X : Ext Y h) (K : Keep h h' ws) (q : ∀ x ∈ ws, Y.size ≤ x) : Ext Y h' := ⟨Nat.le_trans X.1 K.1, fun a c r => K.2.1 a c (X.2 a c r) fun z => absurd (Array.getElem?_eq_some_iff.mp r).1 (Nat.not_lt.mpr (q a z))⟩
theorem own_oxW {Y : Heap} {a : Addr} {sl : Nat} {v : Value} (X : Ext Y h) (W : Wr h h' a sl v) (q : Y.size ≤ a) : Ext Y h' := own_oxK X (Keep.of_wr W) (allS q all0)
theorem own_neI {t : Term} {x k : Int32} (ev : t.eval args s none [] s = some (.int x)) (h : (Cond.not (Cond.eq t (Term.int k))).value args s none s [] = some true) : ¬ (x = k) := by
  have q := not_v h
  intro e
  subst e
  simp [Cond.value, ev, Term.eval] at q
theorem own_subix {j k : Int32} {f : State} {o : Option Outcome} (nn : ¬ j < 0) : (Term.sub (Term.index 0) (Term.int k)).eval args f o [j.toNatClampNeg] s = some (.int (j - k)) := by
  have q : (Term.index 0).eval args f o [j.toNatClampNeg] s = some (.int j) := idx_at nn
  simp only [Term.eval] at q ⊢
  have q2 : j.toNatClampNeg.toInt32 = j := by simpa using q
  simp [q2]
theorem own_evI {t : Term} {k : Int32} (h : (Cond.eq t (Term.int k)).value args s none s [] = some true) : t.eval args s none [] s = some (.int k) := by
  cases ht : t.eval args s none [] s with
  | none => simp [Cond.value, ht] at h
  | some x => cases x <;> simp [Cond.value, ht, Term.eval] at h ⊢; exact h
theorem own_evR {t u : Term} {b : Addr} (eu : u.eval args s none [] s = some (.ref b)) (h : (Cond.eq t u).value args s none s [] = some true) : t.eval args s none [] s = some (.ref b) := by
  cases ht : t.eval args s none [] s with
  | none => simp [Cond.value, ht] at h
  | some x => cases x <;> simp [Cond.value, ht, eu] at h ⊢; exact h
theorem own_arr {t : Term} {ty : FieldType} {a : Addr} (ev : t.eval args s none [] s = some (.ref a)) (h : (Cond.arrayOf t ty).value args s none s [] = some true) : ∃ cl, Arr s s.heap a cl ty := Arr.start ev h
theorem own_len {t : Term} {ty : FieldType} {a : Addr} {cl : Cell} {n : Int32} (ev : t.eval args s none [] s = some (.ref a)) (A : Arr s s.heap a cl ty) (h : (Cond.eq (Term.length t) (Term.int n)).value args s none s [] = some true) : cl.slots.size < 2 ^ 31 ∧ cl.slots.size.toInt32 = n := by
  have ha : s.arrayAt? a = some cl := A.fin (Vm.Alike.refl _)
  by_cases hl : cl.slots.size < 2 ^ 31
  · refine ⟨hl, ?_⟩
    have q := len_f (args := args) (first := s) (o := none) (idx := []) ev ha hl
    simp only [Cond.value, q, Term.int_eval] at h
    simpa using h
  · exfalso
    simp [Cond.value, Term.eval, ev, ha, hl] at h
theorem own_elem {t u : Term} {ty : FieldType} {a : Addr} {cl : Cell} {j : Int32} {v : Value} (ev : t.eval args s none [] s = some (.ref a)) (A : Arr s s.heap a cl ty) (eu : u.eval args s none [] s = some v) (hv : ∀ w, (Cond.eq (Term.elem t (Term.int j)) u).value args s none s [] = some true → (Term.elem t (Term.int j)).eval args s none [] s = some w → w = v)
    (h : (Cond.eq (Term.elem t (Term.int j)) u).value args s none s [] = some true) : cl.slots[j.toNatClampNeg]? = some v := by
  obtain ⟨x, w, h1, h2, -⟩ := cmp_v (Or.inl h)
  have q := (elem_in h1 ev rfl A.1).2
  rw [hv x h h1] at q
  exact q
theorem own_elemI {t : Term} {ty : FieldType} {a : Addr} {cl : Cell} {j k : Int32} (ev : t.eval args s none [] s = some (.ref a)) (A : Arr s s.heap a cl ty)
    (h : (Cond.eq (Term.elem t (Term.int j)) (Term.int k)).value args s none s [] = some true) : cl.slots[j.toNatClampNeg]? = some (.int k) :=
  own_elem ev A (Term.int_eval k) (fun w q r => by simp only [Cond.value, r, Term.int_eval] at q; cases w <;> simp at q ⊢; exact q) h
theorem own_elemR {t u : Term} {ty : FieldType} {a b : Addr} {cl : Cell} {j : Int32} (ev : t.eval args s none [] s = some (.ref a)) (A : Arr s s.heap a cl ty) (eu : u.eval args s none [] s = some (.ref b))
    (h : (Cond.eq (Term.elem t (Term.int j)) u).value args s none s [] = some true) : cl.slots[j.toNatClampNeg]? = some (.ref b) :=
  own_elem ev A eu (fun w q r => by simp only [Cond.value, r, eu] at q; cases w <;> simp at q ⊢; exact q) h
end Own2
end Jvm.RoadKit
namespace Jvm.RoadKit
open Sem ClassFile Op Lib Jvm.Stand Jvm.Free Jvm.LawKit
section Own3
variable {p : Program} {l : Launch} {e : Env} {R : Room} {s : State} {m : MethodId} {args : Array Value} {below : List Frame} {meth : Method} {c : Code} {T : State} {locs : List Loc} {cells slots : Nat}
variable {target : State} {b : ByteArray} {pc : Nat} {L : Array Slot} {st : List Value}
/-! the library's steps once more, over a flat frame -/
theorem z_iloadN (X : Stand p l e R s m args below meth c T locs cells slots) (hx : p.tables.exec = Jvm.exec) (hby : c.code = b) {k : Fin 4} {v : Int32} (hd : decode b pc = .ok (.iload_n k, 1)) (hl : L[k.val]? = some (.val (.int v)))
    (hr : Steps p.tables e below (T.setTop (mkF m (pc + 1) L (.int v :: st))) target) : Steps p.tables e below (T.setTop (mkF m pc L st)) target := XS.iloadN X.here hx rfl (hb hby hd) hl hr
theorem z_iload (X : Stand p l e R s m args below meth c T locs cells slots) (hx : p.tables.exec = Jvm.exec) (hby : c.code = b) {k : Nat} {v : Int32} (hd : decode b pc = .ok (.iload k, 2)) (hl : L[k]? = some (.val (.int v)))
    (hr : Steps p.tables e below (T.setTop (mkF m (pc + 2) L (.int v :: st))) target) : Steps p.tables e below (T.setTop (mkF m pc L st)) target := XS.iload X.here hx rfl (hb hby hd) hl hr
theorem z_aloadN (X : Stand p l e R s m args below meth c T locs cells slots) (hx : p.tables.exec = Jvm.exec) (hby : c.code = b) {k : Fin 4} {v : Value} (hd : decode b pc = .ok (.aload_n k, 1)) (hl : L[k.val]? = some (.val v)) (hv : v.isRef = true)
    (hr : Steps p.tables e below (T.setTop (mkF m (pc + 1) L (v :: st))) target) : Steps p.tables e below (T.setTop (mkF m pc L st)) target := XS.aloadN X.here hx rfl (hb hby hd) hl hv hr
theorem z_aload (X : Stand p l e R s m args below meth c T locs cells slots) (hx : p.tables.exec = Jvm.exec) (hby : c.code = b) {k : Nat} {v : Value} (hd : decode b pc = .ok (.aload k, 2)) (hl : L[k]? = some (.val v)) (hv : v.isRef = true)
    (hr : Steps p.tables e below (T.setTop (mkF m (pc + 2) L (v :: st))) target) : Steps p.tables e below (T.setTop (mkF m pc L st)) target := XS.aload X.here hx rfl (hb hby hd) hl hv hr
theorem z_iconst (X : Stand p l e R s m args below meth c T locs cells slots) (hx : p.tables.exec = Jvm.exec) (hby : c.code = b) {i : Int} (hd : decode b pc = .ok (.iconst i, 1))
    (hr : Steps p.tables e below (T.setTop (mkF m (pc + 1) L (.int (Int32.ofInt i) :: st))) target) : Steps p.tables e below (T.setTop (mkF m pc L st)) target := XS.iconst X.here hx rfl (hb hby hd) hr
theorem z_aconstNull (X : Stand p l e R s m args below meth c T locs cells slots) (hx : p.tables.exec = Jvm.exec) (hby : c.code = b) (hd : decode b pc = .ok (.aconst_null, 1))
    (hr : Steps p.tables e below (T.setTop (mkF m (pc + 1) L (.null :: st))) target) : Steps p.tables e below (T.setTop (mkF m pc L st)) target := XS.aconstNull X.here hx rfl (hb hby hd) hr
theorem z_iadd (X : Stand p l e R s m args below meth c T locs cells slots) (hx : p.tables.exec = Jvm.exec) (hby : c.code = b) {x y : Int32} (hd : decode b pc = .ok (.iadd, 1))
    (hr : Steps p.tables e below (T.setTop (mkF m (pc + 1) L (.int (x + y) :: st))) target) : Steps p.tables e below (T.setTop (mkF m pc L (.int y :: .int x :: st))) target := XS.iadd X.here hx rfl (hb hby hd) rfl hr
theorem z_isub (X : Stand p l e R s m args below meth c T locs cells slots) (hx : p.tables.exec = Jvm.exec) (hby : c.code = b) {x y : Int32} (hd : decode b pc = .ok (.isub, 1))
    (hr : Steps p.tables e below (T.setTop (mkF m (pc + 1) L (.int (x - y) :: st))) target) : Steps p.tables e below (T.setTop (mkF m pc L (.int y :: .int x :: st))) target := XS.isub X.here hx rfl (hb hby hd) rfl hr
theorem z_iand (X : Stand p l e R s m args below meth c T locs cells slots) (hx : p.tables.exec = Jvm.exec) (hby : c.code = b) {x y : Int32} (hd : decode b pc = .ok (.iand, 1))
    (hr : Steps p.tables e below (T.setTop (mkF m (pc + 1) L (.int (x &&& y) :: st))) target) : Steps p.tables e below (T.setTop (mkF m pc L (.int y :: .int x :: st))) target := XS.iand X.here hx rfl (hb hby hd) rfl hr
theorem z_istore (X : Stand p l e R s m args below meth c T locs cells slots) (hx : p.tables.exec = Jvm.exec) (hby : c.code = b) {k : Nat} {x : Int32} (hd : decode b pc = .ok (.istore k, 2)) (l' : Array Slot) (hl : storeLocals L k (.int x) = some l')
    (hr : Steps p.tables e below (T.setTop (mkF m (pc + 2) l' st)) target) : Steps p.tables e below (T.setTop (mkF m pc L (.int x :: st))) target := XS.istore X.here hx rfl (hb hby hd) rfl hl hr
theorem z_istoreN (X : Stand p l e R s m args below meth c T locs cells slots) (hx : p.tables.exec = Jvm.exec) (hby : c.code = b) {k : Fin 4} {x : Int32} (hd : decode b pc = .ok (.istore_n k, 1)) (l' : Array Slot) (hl : storeLocals L k.val (.int x) = some l')
    (hr : Steps p.tables e below (T.setTop (mkF m (pc + 1) l' st)) target) : Steps p.tables e below (T.setTop (mkF m pc L (.int x :: st))) target := XS.istoreN X.here hx rfl (hb hby hd) rfl hl hr
theorem z_astore (X : Stand p l e R s m args below meth c T locs cells slots) (hx : p.tables.exec = Jvm.exec) (hby : c.code = b) {k : Nat} {x : Value} (hd : decode b pc = .ok (.astore k, 2)) (hv : x.isRef = true) (l' : Array Slot) (hl : storeLocals L k x = some l')
    (hr : Steps p.tables e below (T.setTop (mkF m (pc + 2) l' st)) target) : Steps p.tables e below (T.setTop (mkF m pc L (x :: st))) target := XS.astore X.here hx rfl (hb hby hd) rfl hv hl hr
theorem z_dup (X : Stand p l e R s m args below meth c T locs cells slots) (hx : p.tables.exec = Jvm.exec) (hby : c.code = b) {x : Value} (hd : decode b pc = .ok (.dup, 1)) (hc : x.category = 1)
    (hr : Steps p.tables e below (T.setTop (mkF m (pc + 1) L (x :: x :: st))) target) : Steps p.tables e below (T.setTop (mkF m pc L (x :: st))) target := XS.dup X.here hx rfl (hb hby hd) rfl hc hr
theorem z_goto (X : Stand p l e R s m args below meth c T locs cells slots) (hx : p.tables.exec = Jvm.exec) (hby : c.code = b) {o : Int} (pc' : Nat) (hd : decode b pc = .ok (.goto o, 3)) (hp : (pc : Int) + o = (pc' : Int))
    (hr : Steps p.tables e below (T.setTop (mkF m pc' L st)) target) : Steps p.tables e below (T.setTop (mkF m pc L st)) target := XS.goto X.here hx rfl (pc0 := pc) (pc' := pc') rfl (hb hby hd) (by omega) (by omega) hr
theorem z_icmpYes (X : Stand p l e R s m args below meth c T locs cells slots) (hx : p.tables.exec = Jvm.exec) (hby : c.code = b) {cd : ClassFile.Cond} {x y : Int32} {o : Int} (pc' : Nat) (hd : decode b pc = .ok (.if_icmp cd o, 3)) (hc : if_icmp.holds cd x y = true) (hp : (pc : Int) + o = (pc' : Int))
    (hr : Steps p.tables e below (T.setTop (mkF m pc' L st)) target) : Steps p.tables e below (T.setTop (mkF m pc L (.int y :: .int x :: st))) target := XS.icmpYes X.here hx rfl (pc0 := pc) (pc' := pc') rfl (hb hby hd) rfl hc (by omega) (by omega) hr
theorem z_icmpNo (X : Stand p l e R s m args below meth c T locs cells slots) (hx : p.tables.exec = Jvm.exec) (hby : c.code = b) {cd : ClassFile.Cond} {x y : Int32} {o : Int} (hd : decode b pc = .ok (.if_icmp cd o, 3)) (hc : if_icmp.holds cd x y = false)
    (hr : Steps p.tables e below (T.setTop (mkF m (pc + 3) L st)) target) : Steps p.tables e below (T.setTop (mkF m pc L (.int y :: .int x :: st))) target := XS.icmpNo X.here hx rfl (hb hby hd) rfl hc hr
theorem z_ifYes (X : Stand p l e R s m args below meth c T locs cells slots) (hx : p.tables.exec = Jvm.exec) (hby : c.code = b) {cd : ClassFile.Cond} {x : Int32} {o : Int} (pc' : Nat) (hd : decode b pc = .ok (.ifCond cd o, 3)) (hc : ifCond.holds cd x = true) (hp : (pc : Int) + o = (pc' : Int))
    (hr : Steps p.tables e below (T.setTop (mkF m pc' L st)) target) : Steps p.tables e below (T.setTop (mkF m pc L (.int x :: st))) target := XS.ifYes X.here hx rfl (pc0 := pc) (pc' := pc') rfl (hb hby hd) rfl hc (by omega) (by omega) hr
theorem z_ifNo (X : Stand p l e R s m args below meth c T locs cells slots) (hx : p.tables.exec = Jvm.exec) (hby : c.code = b) {cd : ClassFile.Cond} {x : Int32} {o : Int} (hd : decode b pc = .ok (.ifCond cd o, 3)) (hc : ifCond.holds cd x = false)
    (hr : Steps p.tables e below (T.setTop (mkF m (pc + 3) L st)) target) : Steps p.tables e below (T.setTop (mkF m pc L (.int x :: st))) target := XS.ifNo X.here hx rfl (hb hby hd) rfl hc hr
theorem own_ial {Z : State} {h : Heap} (X : Stand p l e R s m args below meth c T locs cells slots) (hx : p.tables.exec = Jvm.exec) (hZ : Z.Warmed39 s.vm) (eT : T.heap = h) {a : Addr} {cl : Cell} (A : Arr Z h a cl .int) {j : Int32} {v : Value} (hi : ¬ (j < 0 ∨ cl.slots.size ≤ j.toNatClampNeg)) (hv : cl.slots[j.toNatClampNeg]? = some v)
    {g : JFrame} (hg : g.method = m) {rest : List Value} (hs : g.stack = .int j :: .ref a :: rest) (hd : decode c.code g.pc = .ok (.iaload, 1)) (hr : Steps p.tables e below (T.setTop { g with pc := g.pc + 1, stack := v :: rest }) target) : Steps p.tables e below (T.setTop g) target :=
  X.iaload hx (by rw [eT]; exact A.1) (State.isArrayOf_alike hZ.alike A.2.1) A.2.2 hi hv hg hs hd _ hr
theorem own_gF {Z : State} {a0 : Array Value} {h : Heap} (X : Stand p l e R s m args below meth c T locs cells slots) (hx : p.tables.exec = Jvm.exec) (hZ : Z.Warmed39 s.vm) {own O n d : String} {index : Nat} (hown : s.vm.findClass own = some m.cls) (hby : c.code = b) (w : (Cond.fieldLink own index O n d).before a0 Z = true)
    (eT : T.heap = h) {a : Addr} {v : Value} (F : Fld Z h a O n d v) (hd : decode b pc = .ok (.getfield index, 3)) (L : Array Slot) (rest : List Value) : ∃ T', Stand p l e R s m args below meth c T' locs cells slots ∧ T'.heap = h ∧ ∀ target, Steps p.tables e below (T'.setTop (mkF m (pc + 3) L (v :: rest))) target → Steps p.tables e below (T.setTop (mkF m pc L (.ref a :: rest))) target :=
  getF X hx hZ hown (host := "") (Or.inl w) Via.refl eT F (g := mkF m pc L (.ref a :: rest)) rfl rfl (hb hby hd)
theorem own_nl {a b n k : Nat} (h : a < n) (g : n ≤ k) (f : k ≤ b) : a ≠ b := Nat.ne_of_lt (Nat.lt_of_lt_of_le h (Nat.le_trans g f))
end Own3
end Jvm.RoadKit
namespace Jvm.Pilot.@@N@@
open Jvm Jvm.ClassFile Sem Op Lib Jvm.Free Jvm.Stand Jvm.LawKit Jvm.RoadKit Bundle Jvm.Pilot.@@N@@.Jvm.D
theorem own_mod3 (x : Int32) : (x &&& 2147483647) % 3 = 0 ∨ (x &&& 2147483647) % 3 = 1 ∨ (x &&& 2147483647) % 3 = 2 := by
  have h1 := c_mask x 2147483647 31 (by decide) (by decide)
  have h2 := (c_irem (x &&& 2147483647) 3 3 (by decide)).1 (by omega)
  have h3 := Int.emod_nonneg (x &&& 2147483647).toInt (show (3 : Int) ≠ 0 by decide)
  have h4 := Int.emod_lt_of_pos (x &&& 2147483647).toInt (show (0 : Int) < 3 by decide)
  rw [← h2] at h3 h4
  clear h1 h2
  generalize (x &&& 2147483647) % 3 = k at h3 h4 ⊢
  have q : k.toInt = 0 ∨ k.toInt = 1 ∨ k.toInt = 2 := by omega
  simp only [← Int32.toInt_inj]
  exact q
theorem own_arhN {Z : State} {h : Heap} {a : Addr} {k : ClassId} {ty : FieldType} {z : Int32} {hs hs' : List (Int32 × Value)} {vs : List Value} {dv : Value} (F : Arh Z h a k ty z hs vs dv) (q : ∀ i, getH hs vs dv i = getH hs' vs dv i) : Arh Z h a k ty z hs' vs dv := by
  obtain ⟨c, A, r1, r2, r3, H, G⟩ := F
  exact ⟨c, A, r1, r2, r3, fun i hi => by rw [← q]; exact H i hi, fun i hi => by rw [← q]; exact G i hi⟩
def oH (k : Int32) : Int32 := (((k * (-1640531527 : Int32)) ^^^ (((k * (-1640531527 : Int32)).toUInt32 >>> ((16 : Int32) &&& 31).toUInt32).toInt32)) &&& (31 : Int32))
abbrev oN (x : Int32) : Int32 := (x + 1) &&& 31
theorem own_m31 (x : Int32) : ¬ ((x &&& 31) < 0) ∧ (x &&& 31) < 32 := by
  have h := c_mask x 31 5 (by decide) (by decide)
  have e1 : (0 : Int32).toInt = 0 := by decide
  have e2 : (32 : Int32).toInt = 32 := by decide
  constructor
  · intro q; rw [Int32.lt_iff_toInt_lt] at q; omega
  · rw [Int32.lt_iff_toInt_lt]; omega
theorem own_hlo (x : Int32) : ¬ ((oH x) < 0) := (own_m31 _).1
theorem own_hhi (x : Int32) : (oH x) < 32 := (own_m31 _).2
theorem own_key0 (x : Int32) : ¬ (((x &&& 2147483647) + 1) = 0) := by
  have h := c_mask x 2147483647 31 (by decide) (by decide)
  have g := c_iadd (x &&& 2147483647) 1
  have e1 : (0 : Int32).toInt = 0 := by decide
  have e2 : (1 : Int32).toInt = 1 := by decide
  intro q
  rw [← Int32.toInt_inj] at q
  omega
theorem own_suc {a b : Int32} (h : a + 1 = b + 1) : a = b := by
  have g := c_iadd a 1
  have g2 := c_iadd b 1
  have r := rng32 a
  have r2 := rng32 b
  rw [← Int32.toInt_inj] at h ⊢
  omega
abbrev own_y0 : MethodName := ⟨"com/example/libentail/libentail/ConceptIndex", "get", "(Lcom/example/libentail/libentail/Concept;)I"⟩
abbrev own_y1 : MethodName := ⟨"com/example/libentail/libentail/ConceptIndex", "slotOf", "(I)I"⟩
abbrev own_y2 : MethodName := ⟨"com/example/libentail/libentail/ConceptIndex", "remove", "(Lcom/example/libentail/libentail/Concept;)V"⟩
abbrev own_y3 : MethodName := ⟨"com/example/libentail/libentail/ConceptIndex", "put", "(Lcom/example/libentail/libentail/Concept;I)V"⟩
abbrev own_s0 : String := "com/example/libentail/libentail/Concept"
abbrev own_s1 : String := "com/example/libentail/libentail/ConceptIndex"
abbrev own_s2 : String := "java/util/List"
abbrev own_s3 : String := "java/util/ImmutableCollections$ListItr"
abbrev own_s4 : String := "java/util/ImmutableCollections$List12"
abbrev own_s5 : String := "Ljava/lang/Object;"
abbrev own_s6 : String := "com/example/libentail/libentail/Concept$Kind"
abbrev own_s7 : String := "java/lang/Object"
abbrev own_s8 : String := "Lcom/example/libentail/libentail/Concept$Kind;"
abbrev own_s9 : String := "Ljava/util/List;"
abbrev own_s10 : String := "java/lang/String"
abbrev own_s11 : String := "com/example/libentail/libentail/Role"
abbrev own_s12 : String := "java/util/ImmutableCollections"
abbrev own_s14 : String := "java/util/ImmutableCollections$AbstractImmutableList"
abbrev own_s17 : String := "Lcom/example/libentail/libentail/Role;"
abbrev own_s18 : String := "com/example/libentail/libentail/ConceptIndexRemovePinLaw"
abbrev own_s31 : String := "(Ljava/lang/Object;Lcom/example/libentail/libentail/Concept$Kind;IILjava/lang/String;Lcom/example/libentail/libentail/Role;Ljava/util/List;J)V"
def own_Q0 (n0 : Nat) (v : Option Value) (h : Heap) (L : List Loc) : Prop := v = some (.int 1) ∧ Fr n0 L
abbrev c_2_1 := prog_2_method_1_code
theorem d1_0 : decode c_2_1 0 = .ok (.aload_n 0, 1) := by decide +kernel
theorem d1_1 : decode c_2_1 1 = .ok (.invokespecial 1, 3) := by decide +kernel
theorem d1_4 : decode c_2_1 4 = .ok (.aload_n 0, 1) := by decide +kernel
theorem d1_5 : decode c_2_1 5 = .ok (.aload_n 0, 1) := by decide +kernel
theorem d1_6 : decode c_2_1 6 = .ok (.invokestatic 7, 3) := by decide +kernel
abbrev c_40_37 := jdk_40_method_37_code
theorem d3_0 : decode c_40_37 0 = .ok (.new 96, 3) := by decide +kernel
theorem d3_3 : decode c_40_37 3 = .ok (.dup, 1) := by decide +kernel
theorem d3_4 : decode c_40_37 4 = .ok (.aload_n 0, 1) := by decide +kernel
theorem d3_5 : decode c_40_37 5 = .ok (.invokespecial 98, 3) := by decide +kernel
abbrev c_44_1 := jdk_44_method_1_code
theorem d4_0 : decode c_44_1 0 = .ok (.aload_n 0, 1) := by decide +kernel
theorem d4_1 : decode c_44_1 1 = .ok (.invokespecial 1, 3) := by decide +kernel
abbrev c_46_1 := jdk_46_method_1_code
theorem d5_0 : decode c_46_1 0 = .ok (.aload_n 0, 1) := by decide +kernel
theorem d5_1 : decode c_46_1 1 = .ok (.invokespecial 1, 3) := by decide +kernel
abbrev c_47_1 := jdk_47_method_1_code
theorem d6_0 : decode c_47_1 0 = .ok (.aload_n 0, 1) := by decide +kernel
theorem d6_1 : decode c_47_1 1 = .ok (.invokespecial 1, 3) := by decide +kernel
abbrev c_22_1 := jdk_22_method_1_code
theorem d7_0 : decode c_22_1 0 = .ok (.aload_n 0, 1) := by decide +kernel
theorem d7_1 : decode c_22_1 1 = .ok (.invokespecial 1, 3) := by decide +kernel
theorem d7_4 : decode c_22_1 4 = .ok (.return_, 1) := by decide +kernel
theorem own_pn0 : plainName "java/util/AbstractCollection" = true := by first | (simp [plainName, overriddenIn]; done) | decide +kernel
theorem own_ef67 (m : MethodId) (x0 : Addr) : entryFrame m #[(.ref x0)] 1 = mkF m 0 #[.val (.ref x0)] [] := by first | (simp [entryFrame, mkF, argsToLocals, Value.category]; done) | rfl
set_option maxRecDepth 65536 in
set_option maxHeartbeats 40000000 in
theorem rm67 (l : Launch) (Z : State) (a0 : Array Value) (hw : ∀ d ∈ tables_1, d.before a0 Z = true) (h0 : Heap) (a11 : Addr)  :
    own_Con l Z (⟨"java/util/AbstractCollection", "<init>", "()V"⟩ : MethodName) jdk_22_method_1_code 1 none ({ frames := 1, cells := 0, slots := 0, locals := 12 } : Room) #[(.ref a11)] h0 (own_QP none h0) := by
 refine MetFree.of_bodySF (plainFor_of_name own_pn0) hisR ?_
 intro p e s m args below meth c s₁ Bd hml0 hP hK
 obtain ⟨rfl, hZ, hh⟩ := hP
 have hx := Bd.exec
 have hby := Bd.bytes
 have hml : c.maxLocals = 1 := hml0
 have hown : s.vm.findClass "java/util/AbstractCollection" = some m.cls := findClass_of_methodNamed Bd.named
 have hnm := (name_of_methodNamed Bd.named Bd.method).1
 have X0 : Stand p l e ({ frames := 1, cells := 0, slots := 0, locals := 12 } : Room) s m #[(.ref a11)] below meth c s₁ [] 0 0 := Stand.of_body Bd
 have e0 : s₁.heap = h0 := by rw [← hh, Bd.state]; rfl
 have K0 : own_Kp h0 h0 [] [] := own_kpRefl _ _
 show own_Go p e below (own_K s (own_QP none h0) 0 0) s₁ (entryFrame m #[(.ref a11)] 1)
 rw [own_ef67]
 obtain ⟨T10, X10, e10, st10⟩ := initO X0 hx hZ hown (own_wd hw 42 rfl) (own_wd hw 11 rfl) (own_wd hw 12 rfl) e0 (g := (mkF m 1 #[.val (.ref a11)] [(.ref a11)])) rfl (by rw [hml]; rfl) rfl (hb hby d7_1) (by decide) (W := 0) (by show 2 * 0 + _ ≤ _; exact Nat.le_of_eq rfl) (by decide)
 refine own_go (T2 := T10) (g2 := (mkF m 4 #[.val (.ref a11)] [])) (fun t k => z_aloadN X0 hx hby d7_0 rfl rfl (st10 _ k)) ?_
 exact own_endV X10 hx Bd.notSynchronized Bd.returns (hb hby d7_4) (by decide) (by decide) ⟨rfl, rfl, e10⟩
theorem own_pd0 : parseMethodDescriptor "()V" = some ⟨[], none⟩ := by decide +kernel
theorem own_w70 {Z : State} {a0 : Array Value} (hw : ∀ d ∈ tables_1, d.before a0 Z = true) : own_IW Z a0 "java/util/ImmutableCollections$AbstractImmutableCollection" 1 (⟨"java/util/AbstractCollection", "<init>", "()V"⟩ : MethodName) jdk_22_method_1_code 1 := ⟨rfl, (own_wd hw 36 rfl), (own_wd hw 37 rfl), (own_wd hw 40 rfl), (own_wd hw 41 rfl), (by decide)⟩
theorem d6_4 : decode c_47_1 4 = .ok (.return_, 1) := by decide +kernel
theorem own_pn1 : plainName "java/util/ImmutableCollections$AbstractImmutableCollection" = true := by first | (simp [plainName, overriddenIn]; done) | decide +kernel
set_option maxRecDepth 65536 in
set_option maxHeartbeats 40000000 in
theorem rm64 (l : Launch) (Z : State) (a0 : Array Value) (hw : ∀ d ∈ tables_1, d.before a0 Z = true) (h0 : Heap) (a10 : Addr)  :
    own_Con l Z (⟨"java/util/ImmutableCollections$AbstractImmutableCollection", "<init>", "()V"⟩ : MethodName) jdk_47_method_1_code 1 none ({ frames := 2, cells := 0, slots := 0, locals := 24 } : Room) #[(.ref a10)] h0 (own_QP none h0) := by
 refine MetFree.of_bodySF (plainFor_of_name own_pn1) hisR ?_
 intro p e s m args below meth c s₁ Bd hml0 hP hK
 obtain ⟨rfl, hZ, hh⟩ := hP
 have hx := Bd.exec
 have hby := Bd.bytes
 have hml : c.maxLocals = 1 := hml0
 have hown : s.vm.findClass "java/util/ImmutableCollections$AbstractImmutableCollection" = some m.cls := findClass_of_methodNamed Bd.named
 have hnm := (name_of_methodNamed Bd.named Bd.method).1
 have X0 : Stand p l e ({ frames := 2, cells := 0, slots := 0, locals := 24 } : Room) s m #[(.ref a10)] below meth c s₁ [] 0 0 := Stand.of_body Bd
 have e0 : s₁.heap = h0 := by rw [← hh, Bd.state]; rfl
 have K0 : own_Kp h0 h0 [] [] := own_kpRefl _ _
 show own_Go p e below (own_K s (own_QP none h0) 0 0) s₁ (entryFrame m #[(.ref a10)] 1)
 rw [own_ef67]
 obtain ⟨_, T11, L11, X11, ⟨rfl, rfl, e11⟩, st11⟩ := own_ci X0 hx hZ hown (own_w70 hw) hml (g := (mkF m 1 #[.val (.ref a10)] [(.ref a10)])) (hb hby d6_1) e0 (a := a10) [] [] (lenOf own_pd0 rfl) (rm67 l Z a0 hw h0 a10 )
 refine own_go (T2 := T11) (g2 := (mkF m 4 #[.val (.ref a10)] [])) (fun t k => z_aloadN X0 hx hby d6_0 rfl rfl (st11 _ k)) ?_
 exact own_endV X11 hx Bd.notSynchronized Bd.returns (hb hby d6_4) (by decide) (by decide) ⟨rfl, rfl, e11⟩
theorem own_w71 {Z : State} {a0 : Array Value} (hw : ∀ d ∈ tables_1, d.before a0 Z = true) : own_IW Z a0 own_s14 1 (⟨"java/util/ImmutableCollections$AbstractImmutableCollection", "<init>", "()V"⟩ : MethodName) jdk_47_method_1_code 1 := ⟨rfl, (own_wd hw 30 rfl), (own_wd hw 31 rfl), (own_wd hw 34 rfl), (own_wd hw 35 rfl), (by decide)⟩
theorem d5_4 : decode c_46_1 4 = .ok (.return_, 1) := by decide +kernel
theorem own_pn2 : plainName own_s14 = true := by first | (simp [plainName, overriddenIn]; done) | decide +kernel
set_option maxRecDepth 65536 in
set_option maxHeartbeats 40000000 in
theorem rm61 (l : Launch) (Z : State) (a0 : Array Value) (hw : ∀ d ∈ tables_1, d.before a0 Z = true) (h0 : Heap) (a10 : Addr)  :
    own_Con l Z (⟨own_s14, "<init>", "()V"⟩ : MethodName) jdk_46_method_1_code 1 none ({ frames := 3, cells := 0, slots := 0, locals := 36 } : Room) #[(.ref a10)] h0 (own_QP none h0) := by
 refine MetFree.of_bodySF (plainFor_of_name own_pn2) hisR ?_
 intro p e s m args below meth c s₁ Bd hml0 hP hK
 obtain ⟨rfl, hZ, hh⟩ := hP
 have hx := Bd.exec
 have hby := Bd.bytes
 have hml : c.maxLocals = 1 := hml0
 have hown : s.vm.findClass own_s14 = some m.cls := findClass_of_methodNamed Bd.named
 have hnm := (name_of_methodNamed Bd.named Bd.method).1
 have X0 : Stand p l e ({ frames := 3, cells := 0, slots := 0, locals := 36 } : Room) s m #[(.ref a10)] below meth c s₁ [] 0 0 := Stand.of_body Bd
 have e0 : s₁.heap = h0 := by rw [← hh, Bd.state]; rfl
 have K0 : own_Kp h0 h0 [] [] := own_kpRefl _ _
 show own_Go p e below (own_K s (own_QP none h0) 0 0) s₁ (entryFrame m #[(.ref a10)] 1)
 rw [own_ef67]
 obtain ⟨_, T11, L11, X11, ⟨rfl, rfl, e11⟩, st11⟩ := own_ci X0 hx hZ hown (own_w71 hw) hml (g := (mkF m 1 #[.val (.ref a10)] [(.ref a10)])) (hb hby d5_1) e0 (a := a10) [] [] (lenOf own_pd0 rfl) (rm64 l Z a0 hw h0 a10 )
 refine own_go (T2 := T11) (g2 := (mkF m 4 #[.val (.ref a10)] [])) (fun t k => z_aloadN X0 hx hby d5_0 rfl rfl (st11 _ k)) ?_
 exact own_endV X11 hx Bd.notSynchronized Bd.returns (hb hby d5_4) (by decide) (by decide) ⟨rfl, rfl, e11⟩
theorem own_w72 {Z : State} {a0 : Array Value} (hw : ∀ d ∈ tables_1, d.before a0 Z = true) : own_IW Z a0 own_s4 1 (⟨own_s14, "<init>", "()V"⟩ : MethodName) jdk_46_method_1_code 1 := ⟨rfl, (own_wd hw 24 rfl), (own_wd hw 25 rfl), (own_wd hw 28 rfl), (own_wd hw 29 rfl), (by decide)⟩
theorem d4_4 : decode c_44_1 4 = .ok (.aload_n 0, 1) := by decide +kernel
theorem d4_5 : decode c_44_1 5 = .ok (.aload_n 1, 1) := by decide +kernel
theorem d4_6 : decode c_44_1 6 = .ok (.invokestatic 7, 3) := by decide +kernel
abbrev c_31_10 := jdk_31_method_10_code
theorem d8_0 : decode c_31_10 0 = .ok (.aload_n 0, 1) := by decide +kernel
theorem d8_1 : decode c_31_10 1 = .ok (.ifnonnull 11, 3) := by decide +kernel
theorem d8_12 : decode c_31_10 12 = .ok (.aload_n 0, 1) := by decide +kernel
theorem d8_13 : decode c_31_10 13 = .ok (.areturn, 1) := by decide +kernel
theorem own_pn3 : plainName "java/util/Objects" = true := by first | (simp [plainName, overriddenIn]; done) | decide +kernel
set_option maxRecDepth 65536 in
set_option maxHeartbeats 40000000 in
theorem rm74 (l : Launch) (Z : State) (a0 : Array Value) (hw : ∀ d ∈ tables_1, d.before a0 Z = true) (h0 : Heap) (a10 : Addr)  :
    own_Con l Z (⟨"java/util/Objects", "requireNonNull", "(Ljava/lang/Object;)Ljava/lang/Object;"⟩ : MethodName) jdk_31_method_10_code 1 (some (.object own_s7)) ({ frames := 0, cells := 0, slots := 0, locals := 0 } : Room) #[(.ref a10)] h0 (own_QP (some (.ref a10)) h0) := by
 refine MetFree.of_bodySF (plainFor_of_name own_pn3) hisR ?_
 intro p e s m args below meth c s₁ Bd hml0 hP hK
 obtain ⟨rfl, hZ, hh⟩ := hP
 have hx := Bd.exec
 have hby := Bd.bytes
 have hml : c.maxLocals = 1 := hml0
 have hown : s.vm.findClass "java/util/Objects" = some m.cls := findClass_of_methodNamed Bd.named
 have hnm := (name_of_methodNamed Bd.named Bd.method).1
 have X0 : Stand p l e ({ frames := 0, cells := 0, slots := 0, locals := 0 } : Room) s m #[(.ref a10)] below meth c s₁ [] 0 0 := Stand.of_body Bd
 have e0 : s₁.heap = h0 := by rw [← hh, Bd.state]; rfl
 have K0 : own_Kp h0 h0 [] [] := own_kpRefl _ _
 show own_Go p e below (own_K s (own_QP (some (.ref a10)) h0) 0 0) s₁ (entryFrame m #[(.ref a10)] 1)
 rw [own_ef67]
 refine own_go (T2 := s₁) (g2 := (mkF m 13 #[.val (.ref a10)] [(.ref a10)])) (fun t k => z_aloadN X0 hx hby d8_0 rfl rfl (XS.ifnonnullYes X0.here hx rfl (pc0 := 1) (pc' := 12) rfl (hb hby d8_1) rfl (by decide) (by decide) (z_aloadN X0 hx hby d8_12 rfl rfl k))) ?_
 exact own_endR X0 hx Bd.notSynchronized Bd.returns rfl rfl (hb hby d8_13) (by decide) (by decide) ⟨rfl, rfl, e0⟩
theorem own_pd1 : parseMethodDescriptor "(Ljava/lang/Object;)Ljava/lang/Object;" = some ⟨[(.object own_s7)], some (.object own_s7)⟩ := by decide +kernel
theorem own_w76 {Z : State} {a0 : Array Value} (hw : ∀ d ∈ tables_1, d.before a0 Z = true) : own_SW Z a0 own_s4 7 (⟨"java/util/Objects", "requireNonNull", "(Ljava/lang/Object;)Ljava/lang/Object;"⟩ : MethodName) jdk_31_method_10_code 1 (some (.object own_s7)) := ⟨(own_wd hw 43 rfl), (own_wd hw 44 rfl), (own_wd hw 45 rfl), (own_wd hw 46 rfl), (by decide)⟩
theorem d4_9 : decode c_44_1 9 = .ok (.putfield 13, 3) := by decide +kernel
theorem d4_12 : decode c_44_1 12 = .ok (.aload_n 0, 1) := by decide +kernel
theorem d4_13 : decode c_44_1 13 = .ok (.getstatic 19, 3) := by decide +kernel
theorem d4_16 : decode c_44_1 16 = .ok (.putfield 24, 3) := by decide +kernel
theorem d4_19 : decode c_44_1 19 = .ok (.return_, 1) := by decide +kernel
def own_Q57 (Z : State) (h0 : Heap) (a58 : Addr) (a59 : Addr) (a86 : Addr) (v : Option Value) (h : Heap) (L : List Loc) : Prop := v = none ∧ own_Kp h0 h [a58] L ∧ Fld Z h a58 own_s4 "e0" own_s5 (.ref a59) ∧ Fld Z h a58 own_s4 "e1" own_s5 (.ref a86)
theorem own_pn4 : plainName own_s4 = true := by first | (simp [plainName, overriddenIn]; done) | decide +kernel
theorem own_ef57 (m : MethodId) (x0 : Addr) (x1 : Addr) : entryFrame m #[(.ref x0), (.ref x1)] 2 = mkF m 0 #[.val (.ref x0), .val (.ref x1)] [] := by first | (simp [entryFrame, mkF, argsToLocals, Value.category]; done) | rfl
set_option maxRecDepth 65536 in
set_option maxHeartbeats 40000000 in
theorem rm57 (l : Launch) (Z : State) (a0 : Array Value) (hw : ∀ d ∈ tables_1, d.before a0 Z = true) (h0 : Heap) (a10 a13 a17 : Addr) (E18 : Exa Z h0 a10 own_s4) (F19 : Fld Z h0 a10 own_s4 "e0" own_s5 .null) (S21 : Sta Z h0 own_s12 "EMPTY" own_s5 (.ref a17)) (F22 : Fld Z h0 a10 own_s4 "e1" own_s5 .null) :
    own_Con l Z (⟨own_s4, "<init>", "(Ljava/lang/Object;)V"⟩ : MethodName) jdk_44_method_1_code 2 none ({ frames := 4, cells := 0, slots := 0, locals := 48 } : Room) #[(.ref a10), (.ref a13)] h0 (own_Q57 Z h0 a10 a13 a17) := by
 refine MetFree.of_bodySF (plainFor_of_name own_pn4) hisR ?_
 intro p e s m args below meth c s₁ Bd hml0 hP hK
 obtain ⟨rfl, hZ, hh⟩ := hP
 have hx := Bd.exec
 have hby := Bd.bytes
 have hml : c.maxLocals = 2 := hml0
 have hown : s.vm.findClass own_s4 = some m.cls := findClass_of_methodNamed Bd.named
 have hnm := (name_of_methodNamed Bd.named Bd.method).1
 have X0 : Stand p l e ({ frames := 4, cells := 0, slots := 0, locals := 48 } : Room) s m #[(.ref a10), (.ref a13)] below meth c s₁ [] 0 0 := Stand.of_body Bd
 have e0 : s₁.heap = h0 := by rw [← hh, Bd.state]; rfl
 have K0 : own_Kp h0 h0 [a10] [] := own_kpRefl _ _
 show own_Go p e below (own_K s (own_Q57 Z h0 a10 a13 a17) 0 0) s₁ (entryFrame m #[(.ref a10), (.ref a13)] 2)
 rw [own_ef57]
 obtain ⟨_, T14, L14, X14, ⟨rfl, rfl, e14⟩, st14⟩ := own_ci X0 hx hZ hown (own_w72 hw) hml (g := (mkF m 1 #[.val (.ref a10), .val (.ref a13)] [(.ref a10)])) (hb hby d4_1) e0 (a := a10) [] [] (lenOf own_pd0 rfl) (rm61 l Z a0 hw h0 a10 )
 obtain ⟨_, T15, L15, X15, ⟨rfl, rfl, e15⟩, st15⟩ := own_cs X14 hx hZ hown (own_w76 hw) hml (g := (mkF m 6 #[.val (.ref a10), .val (.ref a13)] [(.ref a13), (.ref a10)])) (hb hby d4_6) e14 [(.ref a13)] [(.ref a10)] (lenOf own_pd1 rfl) (rm74 l Z a0 hw h0 a13 )
 obtain ⟨T11, h11, X11, e11, W11, st11⟩ := putF X15 hx hZ hown (host := "") (Or.inl (own_wd hw 47 rfl)) Via.refl e15 F19 E18 (Or.inr ⟨(own_wd hw 48 rfl), rfl, hnm⟩) (own_wd hw 18 rfl) (ty := (.object own_s7)) (by decide) rfl rfl (g := (mkF m 9 #[.val (.ref a10), .val (.ref a13)] [(.ref a13), (.ref a10)])) rfl rfl (hb hby d4_9)
 have F11 := Fld.same W11 F19
 have K11 := own_kpWr K0 W11 (Or.inl (List.mem_of_getElem? (i := 0) rfl))
 have z_W11 := Nat.le_of_eq W11.size.symm
 have S23 := (Sta.wr W11 S21)
 obtain ⟨T16, X16, e16, st16⟩ := getS2 X11 hx hZ hown (Or.inr (own_wd hw 49 rfl)) Via.refl e11 S23 (g := (mkF m 13 #[.val (.ref a10), .val (.ref a13)] [(.ref a10)])) rfl (hb hby d4_13)
 have F20 := (Fld.other W11 F22 (Or.inr (slot_ne (Or.inr (own_wd hw 52 rfl)) (Or.inr (own_wd hw 48 rfl)) (by decide) (t := (.object own_s7)) (t' := (.object own_s7)) (by decide) (by decide))))
 have E24 := (Exa.wr W11 E18)
 obtain ⟨T12, h12, X12, e12, W12, st12⟩ := putF X16 hx hZ hown (host := "") (Or.inl (own_wd hw 51 rfl)) Via.refl e16 F20 E24 (Or.inr ⟨(own_wd hw 52 rfl), rfl, hnm⟩) (own_wd hw 18 rfl) (ty := (.object own_s7)) (by decide) rfl rfl (g := (mkF m 16 #[.val (.ref a10), .val (.ref a13)] [(.ref a17), (.ref a10)])) rfl rfl (hb hby d4_16)
 have F12 := Fld.same W12 F20
 have K12 := own_kpWr K11 W12 (Or.inl (List.mem_of_getElem? (i := 0) rfl))
 have z_W12 := Nat.le_of_eq W12.size.symm
 have F25 := (Fld.other W12 F11 (Or.inr (slot_ne (Or.inr (own_wd hw 48 rfl)) (Or.inr (own_wd hw 52 rfl)) (by decide) (t := (.object own_s7)) (t' := (.object own_s7)) (by decide) (by decide))))
 refine own_go (T2 := T12) (g2 := (mkF m 19 #[.val (.ref a10), .val (.ref a13)] [])) (fun t k => z_aloadN X0 hx hby d4_0 rfl rfl (st14 _ (z_aloadN X14 hx hby d4_4 rfl rfl (z_aloadN X14 hx hby d4_5 rfl rfl (st15 _ (st11 _ (z_aloadN X11 hx hby d4_12 rfl rfl (st16 _ (st12 _ k))))))))) ?_
 exact own_endV X12 hx Bd.notSynchronized Bd.returns (hb hby d4_19) (by decide) (by decide) (by rw [e12]; exact ⟨rfl, (by simpa only [List.append_nil] using K12), F25, F12⟩)
theorem own_pd2 : parseMethodDescriptor "(Ljava/lang/Object;)V" = some ⟨[(.object own_s7)], none⟩ := by decide +kernel
theorem own_w97 {Z : State} {a0 : Array Value} (hw : ∀ d ∈ tables_1, d.before a0 Z = true) : own_IW Z a0 own_s2 98 (⟨own_s4, "<init>", "(Ljava/lang/Object;)V"⟩ : MethodName) jdk_44_method_1_code 2 := ⟨rfl, (own_wd hw 20 rfl), (own_wd hw 21 rfl), (own_wd hw 19 rfl), (own_wd hw 23 rfl), (by decide)⟩
theorem d3_8 : decode c_40_37 8 = .ok (.areturn, 1) := by decide +kernel
def own_Q51 (Z : State) (h0 : Heap) (a52 : Addr) (a83 : Addr) (v : Option Value) (h : Heap) (L : List Loc) : Prop := ∃ (b53 : Addr), v = (some (.ref b53)) ∧ own_Kp h0 h [] L ∧ h0.size ≤ b53 ∧ Exa Z h b53 own_s4 ∧ Fld Z h b53 own_s4 "e0" own_s5 (.ref a52) ∧ Fld Z h b53 own_s4 "e1" own_s5 (.ref a83)
theorem own_pn5 : plainName own_s2 = true := by first | (simp [plainName, overriddenIn]; done) | decide +kernel
set_option maxRecDepth 65536 in
set_option maxHeartbeats 40000000 in
theorem rm51 (l : Launch) (Z : State) (a0 : Array Value) (hw : ∀ d ∈ tables_1, d.before a0 Z = true) (h0 : Heap) (a12 a13 : Addr) (S14 : Sta Z h0 own_s12 "EMPTY" own_s5 (.ref a13)) :
    own_Con l Z (⟨own_s2, "of", "(Ljava/lang/Object;)Ljava/util/List;"⟩ : MethodName) jdk_40_method_37_code 1 (some (.object own_s2)) ({ frames := 5, cells := 1, slots := 2, locals := 62 } : Room) #[(.ref a12)] h0 (own_Q51 Z h0 a12 a13) := by
 refine MetFree.of_bodySF (plainFor_of_name own_pn5) hisR ?_
 intro p e s m args below meth c s₁ Bd hml0 hP hK
 obtain ⟨rfl, hZ, hh⟩ := hP
 have hx := Bd.exec
 have hby := Bd.bytes
 have hml : c.maxLocals = 1 := hml0
 have hown : s.vm.findClass own_s2 = some m.cls := findClass_of_methodNamed Bd.named
 have hnm := (name_of_methodNamed Bd.named Bd.method).1
 have X0 : Stand p l e ({ frames := 5, cells := 1, slots := 2, locals := 62 } : Room) s m #[(.ref a12)] below meth c s₁ [] 0 0 := Stand.of_body Bd
 have e0 : s₁.heap = h0 := by rw [← hh, Bd.state]; rfl
 have K0 : own_Kp h0 h0 [] [] := own_kpRefl _ _
 show own_Go p e below (own_K s (own_Q51 Z h0 a12 a13) 1 2) s₁ (entryFrame m #[(.ref a12)] 1)
 rw [own_ef67]
 obtain ⟨T10, h10, X10, e10, E10, A10, D10, -, st10⟩ := newO X0 hx hZ hown (own_wd hw 17 rfl) (own_wd hw 18 rfl) (own_wd hw 19 rfl) e0 (g := (mkF m 0 #[.val (.ref a12)] [])) rfl (hb hby d3_0) (by decide) (by decide)
 obtain ⟨b10, g10⟩ : ∃ z, z = h0.size := ⟨_, rfl⟩
 rw [← g10] at A10 D10 st10
 have z_E10 := E10.1
 have lo_b10 : h0.size ≤ b10 := Nat.le_of_eq g10.symm
 have sz_b10 : h0.size ≤ b10 := Nat.le_trans K0.1.1 lo_b10
 have K10 := own_kpExt K0 E10
 have F15 : Fld Z h10 b10 own_s4 "e0" own_s5 .null := D10 (Or.inr (own_wd hw 48 rfl)) (ty := (.object own_s7)) (by decide)
 have F16 : Fld Z h10 b10 own_s4 "e1" own_s5 .null := D10 (Or.inr (own_wd hw 52 rfl)) (ty := (.object own_s7)) (by decide)
 have S17 := (Sta.ext E10 S14)
 obtain ⟨_, T11, L11, X11, ⟨rfl, K11c, F18, F19⟩, st11⟩ := own_ci X10 hx hZ hown (own_w97 hw) hml (g := (mkF m 5 #[.val (.ref a12)] [(.ref a12), (.ref b10), (.ref b10)])) (hb hby d3_5) e10 (a := b10) [(.ref a12)] [(.ref b10)] (lenOf own_pd2 rfl) (rm57 l Z a0 hw h10 b10 a12 a13 A10 F15 S17 F16)
 have z_K11c := K11c.1.1
 have K11 := own_kpTrans K10 K11c (allS (Or.inr sz_b10) all0)
 have E20 := (Exa.keep A10 K11c.1)
 refine own_go (T2 := T11) (g2 := (mkF m 8 #[.val (.ref a12)] [(.ref b10)])) (fun t k => st10 _ (z_dup X10 hx hby d3_3 rfl (z_aloadN X10 hx hby d3_4 rfl rfl (st11 _ k)))) ?_
 exact own_endR X11 hx Bd.notSynchronized Bd.returns rfl rfl (hb hby d3_8) (by decide) (by decide) ⟨b10, rfl, (by simpa only [List.append_nil] using K11), sz_b10, E20, F18, F19⟩
theorem own_pd3 : parseMethodDescriptor "(Ljava/lang/Object;)Ljava/util/List;" = some ⟨[(.object own_s7)], some (.object own_s2)⟩ := by decide +kernel
theorem own_w103 {Z : State} {a0 : Array Value} (hw : ∀ d ∈ tables_1, d.before a0 Z = true) : own_SW Z a0 own_s0 7 (⟨own_s2, "of", "(Ljava/lang/Object;)Ljava/util/List;"⟩ : MethodName) jdk_40_method_37_code 1 (some (.object own_s2)) := ⟨(own_wd hw 13 rfl), (own_wd hw 14 rfl), (own_wd hw 15 rfl), (own_wd hw 16 rfl), (by decide)⟩
theorem d1_9 : decode c_2_1 9 = .ok (.putfield 13, 3) := by decide +kernel
theorem d1_12 : decode c_2_1 12 = .ok (.aload_n 0, 1) := by decide +kernel
theorem d1_13 : decode c_2_1 13 = .ok (.aload_n 1, 1) := by decide +kernel
theorem d1_14 : decode c_2_1 14 = .ok (.putfield 19, 3) := by decide +kernel
theorem d1_17 : decode c_2_1 17 = .ok (.aload_n 0, 1) := by decide +kernel
theorem d1_18 : decode c_2_1 18 = .ok (.aload_n 2, 1) := by decide +kernel
theorem d1_19 : decode c_2_1 19 = .ok (.putfield 23, 3) := by decide +kernel
theorem d1_22 : decode c_2_1 22 = .ok (.aload_n 0, 1) := by decide +kernel
theorem d1_23 : decode c_2_1 23 = .ok (.iload_n 3, 1) := by decide +kernel
theorem d1_24 : decode c_2_1 24 = .ok (.putfield 27, 3) := by decide +kernel
theorem d1_27 : decode c_2_1 27 = .ok (.aload_n 0, 1) := by decide +kernel
theorem d1_28 : decode c_2_1 28 = .ok (.iload 4, 2) := by decide +kernel
theorem d1_30 : decode c_2_1 30 = .ok (.putfield 31, 3) := by decide +kernel
theorem d1_33 : decode c_2_1 33 = .ok (.aload_n 0, 1) := by decide +kernel
theorem d1_34 : decode c_2_1 34 = .ok (.aload 5, 2) := by decide +kernel
theorem d1_36 : decode c_2_1 36 = .ok (.putfield 34, 3) := by decide +kernel
theorem d1_39 : decode c_2_1 39 = .ok (.aload_n 0, 1) := by decide +kernel
theorem d1_40 : decode c_2_1 40 = .ok (.aload 6, 2) := by decide +kernel
theorem d1_42 : decode c_2_1 42 = .ok (.putfield 38, 3) := by decide +kernel
theorem d1_45 : decode c_2_1 45 = .ok (.aload_n 0, 1) := by decide +kernel
theorem d1_46 : decode c_2_1 46 = .ok (.aload 7, 2) := by decide +kernel
theorem d1_48 : decode c_2_1 48 = .ok (.putfield 42, 3) := by decide +kernel
theorem d1_51 : decode c_2_1 51 = .ok (.aload_n 0, 1) := by decide +kernel
theorem d1_52 : decode c_2_1 52 = .ok (.lload 8, 2) := by decide +kernel
theorem d1_54 : decode c_2_1 54 = .ok (.putfield 45, 3) := by decide +kernel
theorem d1_57 : decode c_2_1 57 = .ok (.lconst 0, 1) := by decide +kernel
theorem d1_58 : decode c_2_1 58 = .ok (.lstore 10, 2) := by decide +kernel
theorem d1_60 : decode c_2_1 60 = .ok (.aload_n 0, 1) := by decide +kernel
theorem d1_61 : decode c_2_1 61 = .ok (.invokevirtual 49, 3) := by decide +kernel
abbrev c_2_11 := prog_2_method_11_code
theorem d9_0 : decode c_2_11 0 = .ok (.aload_n 0, 1) := by decide +kernel
theorem d9_1 : decode c_2_11 1 = .ok (.getfield 23, 3) := by decide +kernel
theorem d9_4 : decode c_2_11 4 = .ok (.getstatic 70, 3) := by decide +kernel
theorem d9_7 : decode c_2_11 7 = .ok (.if_acmp .ne 11, 3) := by decide +kernel
theorem d9_18 : decode c_2_11 18 = .ok (.aload_n 0, 1) := by decide +kernel
theorem d9_19 : decode c_2_11 19 = .ok (.getfield 23, 3) := by decide +kernel
theorem d9_22 : decode c_2_11 22 = .ok (.getstatic 75, 3) := by decide +kernel
theorem d9_25 : decode c_2_11 25 = .ok (.if_acmp .ne 10, 3) := by decide +kernel
theorem d9_35 : decode c_2_11 35 = .ok (.aload_n 0, 1) := by decide +kernel
theorem d9_36 : decode c_2_11 36 = .ok (.getfield 13, 3) := by decide +kernel
theorem d9_39 : decode c_2_11 39 = .ok (.astore_n 1, 1) := by decide +kernel
theorem d9_40 : decode c_2_11 40 = .ok (.aload_n 1, 1) := by decide +kernel
theorem d9_41 : decode c_2_11 41 = .ok (.areturn, 1) := by decide +kernel
theorem own_pn6 : plainName own_s0 = true := by first | (simp [plainName, overriddenIn]; done) | decide +kernel
theorem own_ef142 (m : MethodId) (x0 : Addr) : entryFrame m #[(.ref x0)] 2 = mkF m 0 #[.val (.ref x0), .unset] [] := by first | (simp [entryFrame, mkF, argsToLocals, Value.category]; done) | rfl
set_option maxRecDepth 65536 in
set_option maxHeartbeats 40000000 in
theorem rm142 (l : Launch) (Z : State) (a0 : Array Value) (hw : ∀ d ∈ tables_1, d.before a0 Z = true) (h0 : Heap) (a10 a17 : Addr) (a18 a19 a14 : Addr) (F20 : Fld Z h0 a10 own_s0 "kind" own_s8 (.ref a17)) (S21 : Sta Z h0 own_s6 "AND" own_s8 (.ref a18)) (ne22 : a17 ≠ a18) (S23 : Sta Z h0 own_s6 "TOP" own_s8 (.ref a19)) (ne24 : a17 ≠ a19) (F25 : Fld Z h0 a10 own_s0 "alone" own_s9 (.ref a14)) :
    own_Con l Z (⟨own_s0, "conjuncts", "()Ljava/util/List;"⟩ : MethodName) prog_2_method_11_code 2 (some (.object own_s2)) ({ frames := 0, cells := 0, slots := 0, locals := 0 } : Room) #[(.ref a10)] h0 (own_QP (some (.ref a14)) h0) := by
 refine MetFree.of_bodySF (plainFor_of_name own_pn6) hisR ?_
 intro p e s m args below meth c s₁ Bd hml0 hP hK
 obtain ⟨rfl, hZ, hh⟩ := hP
 have hx := Bd.exec
 have hby := Bd.bytes
 have hml : c.maxLocals = 2 := hml0
 have hown : s.vm.findClass own_s0 = some m.cls := findClass_of_methodNamed Bd.named
 have hnm := (name_of_methodNamed Bd.named Bd.method).1
 have X0 : Stand p l e ({ frames := 0, cells := 0, slots := 0, locals := 0 } : Room) s m #[(.ref a10)] below meth c s₁ [] 0 0 := Stand.of_body Bd
 have e0 : s₁.heap = h0 := by rw [← hh, Bd.state]; rfl
 have K0 : own_Kp h0 h0 [] [] := own_kpRefl _ _
 show own_Go p e below (own_K s (own_QP (some (.ref a14)) h0) 0 0) s₁ (entryFrame m #[(.ref a10)] 2)
 rw [own_ef142]
 obtain ⟨T15, X15, e15, st15⟩ := own_gF X0 hx hZ hown hby (own_wd hw 57 rfl) e0 F20 d9_1 #[.val (.ref a10), .unset] []
 obtain ⟨T12, X12, e12, st12⟩ := getS2 X15 hx hZ hown (host := "") (Or.inl (own_wd hw 76 rfl)) Via.refl e15 S21 (g := (mkF m 4 #[.val (.ref a10), .unset] [(.ref a17)])) rfl (hb hby d9_4)
 obtain ⟨T16, X16, e16, st16⟩ := own_gF X12 hx hZ hown hby (own_wd hw 57 rfl) e12 F20 d9_19 #[.val (.ref a10), .unset] []
 obtain ⟨T13, X13, e13, st13⟩ := getS2 X16 hx hZ hown (host := "") (Or.inl (own_wd hw 78 rfl)) Via.refl e16 S23 (g := (mkF m 22 #[.val (.ref a10), .unset] [(.ref a17)])) rfl (hb hby d9_22)
 obtain ⟨T11, X11, e11, st11⟩ := own_gF X13 hx hZ hown hby (own_wd hw 53 rfl) e13 F25 d9_36 #[.val (.ref a10), .unset] []
 refine own_go (T2 := T11) (g2 := (mkF m 41 #[.val (.ref a10), .val (.ref a14)] [(.ref a14)])) (fun t k => z_aloadN X0 hx hby d9_0 rfl rfl (st15 _ (st12 _ (Jvm.RoadKit.acmp X12 hx rfl rfl rfl (pc0 := 7) (pc' := 18) (same := false) rfl (hb hby d9_7) rfl (decide_eq_false fun q => ne22 (Value.ref.inj q)) (by decide) (by decide) (z_aloadN X12 hx hby d9_18 rfl rfl (st16 _ (st13 _ (Jvm.RoadKit.acmp X13 hx rfl rfl rfl (pc0 := 25) (pc' := 35) (same := false) rfl (hb hby d9_25) rfl (decide_eq_false fun q => ne24 (Value.ref.inj q)) (by decide) (by decide) (z_aloadN X13 hx hby d9_35 rfl rfl (st11 _ (XS.astoreN X11.here hx rfl (hb hby d9_39) rfl rfl (l' := #[.val (.ref a10), .val (.ref a14)]) rfl (z_aloadN X11 hx hby d9_40 rfl rfl k)))))))))))) ?_
 exact own_endR X11 hx Bd.notSynchronized Bd.returns rfl rfl (hb hby d9_41) (by decide) (by decide) ⟨rfl, rfl, e11⟩
theorem own_pd4 : parseMethodDescriptor "()Ljava/util/List;" = some ⟨[], some (.object own_s2)⟩ := by decide +kernel
theorem own_w175 {Z : State} {a0 : Array Value} (hw : ∀ d ∈ tables_1, d.before a0 Z = true) : own_VW Z a0 own_s0 49 own_s0 (⟨own_s0, "conjuncts", "()Ljava/util/List;"⟩ : MethodName) prog_2_method_11_code 2 (some (.object own_s2)) := ⟨(own_wd hw 71 rfl), (own_wd hw 72 rfl), (own_wd hw 74 rfl), (own_wd hw 73 rfl), (own_wd hw 3 rfl), (own_wd hw 75 rfl), (by decide)⟩
theorem d1_64 : decode c_2_1 64 = .ok (.invokeinterface 53 1, 5) := by decide +kernel
abbrev c_46_10 := jdk_46_method_10_code
theorem d10_0 : decode c_46_10 0 = .ok (.new 61, 3) := by decide +kernel
theorem d10_3 : decode c_46_10 3 = .ok (.dup, 1) := by decide +kernel
theorem d10_4 : decode c_46_10 4 = .ok (.aload_n 0, 1) := by decide +kernel
theorem d10_5 : decode c_46_10 5 = .ok (.aload_n 0, 1) := by decide +kernel
theorem d10_6 : decode c_46_10 6 = .ok (.invokevirtual 13, 3) := by decide +kernel
abbrev c_44_3 := jdk_44_method_3_code
theorem d11_0 : decode c_44_3 0 = .ok (.aload_n 0, 1) := by decide +kernel
theorem d11_1 : decode c_44_3 1 = .ok (.getfield 24, 3) := by decide +kernel
theorem d11_4 : decode c_44_3 4 = .ok (.getstatic 19, 3) := by decide +kernel
theorem d11_7 : decode c_44_3 7 = .ok (.if_acmp .eq 7, 3) := by decide +kernel
theorem d11_14 : decode c_44_3 14 = .ok (.iconst 1, 1) := by decide +kernel
theorem d11_15 : decode c_44_3 15 = .ok (.ireturn, 1) := by decide +kernel
set_option maxRecDepth 65536 in
set_option maxHeartbeats 40000000 in
theorem rm185 (l : Launch) (Z : State) (a0 : Array Value) (hw : ∀ d ∈ tables_1, d.before a0 Z = true) (h0 : Heap) (a11 a13 : Addr) (F14 : Fld Z h0 a11 own_s4 "e1" own_s5 (.ref a13)) (S15 : Sta Z h0 own_s12 "EMPTY" own_s5 (.ref a13)) :
    own_Con l Z (⟨own_s4, "size", "()I"⟩ : MethodName) jdk_44_method_3_code 1 (some .int) ({ frames := 0, cells := 0, slots := 0, locals := 0 } : Room) #[(.ref a11)] h0 (own_QP (some (.int 1)) h0) := by
 refine MetFree.of_bodySF (plainFor_of_name own_pn4) hisR ?_
 intro p e s m args below meth c s₁ Bd hml0 hP hK
 obtain ⟨rfl, hZ, hh⟩ := hP
 have hx := Bd.exec
 have hby := Bd.bytes
 have hml : c.maxLocals = 1 := hml0
 have hown : s.vm.findClass own_s4 = some m.cls := findClass_of_methodNamed Bd.named
 have hnm := (name_of_methodNamed Bd.named Bd.method).1
 have X0 : Stand p l e ({ frames := 0, cells := 0, slots := 0, locals := 0 } : Room) s m #[(.ref a11)] below meth c s₁ [] 0 0 := Stand.of_body Bd
 have e0 : s₁.heap = h0 := by rw [← hh, Bd.state]; rfl
 have K0 : own_Kp h0 h0 [] [] := own_kpRefl _ _
 show own_Go p e below (own_K s (own_QP (some (.int 1)) h0) 0 0) s₁ (entryFrame m #[(.ref a11)] 1)
 rw [own_ef67]
 obtain ⟨T12, X12, e12, st12⟩ := own_gF X0 hx hZ hown hby (own_wd hw 51 rfl) e0 F14 d11_1 #[.val (.ref a11)] []
 obtain ⟨T10, X10, e10, st10⟩ := getS2 X12 hx hZ hown (Or.inr (own_wd hw 49 rfl)) Via.refl e12 S15 (g := (mkF m 4 #[.val (.ref a11)] [(.ref a13)])) rfl (hb hby d11_4)
 refine own_go (T2 := T10) (g2 := (mkF m 15 #[.val (.ref a11)] [(.int 1)])) (fun t k => z_aloadN X0 hx hby d11_0 rfl rfl (st12 _ (st10 _ (Jvm.RoadKit.acmp X10 hx rfl rfl rfl (pc0 := 7) (pc' := 14) (same := true) rfl (hb hby d11_7) rfl (decide_eq_true (congrArg Value.ref rfl)) (by decide) (by decide) (z_iconst X10 hx hby d11_14 k))))) ?_
 exact own_endI X10 hx Bd.notSynchronized Bd.returns (hb hby d11_15) (by decide) (by decide) ⟨rfl, rfl, e10⟩
theorem own_pd5 : parseMethodDescriptor "()I" = some ⟨[], some .int⟩ := by decide +kernel
theorem d10_9 : decode c_46_10 9 = .ok (.invokespecial 63, 3) := by decide +kernel
abbrev c_53_1 := jdk_53_method_1_code
theorem d12_0 : decode c_53_1 0 = .ok (.aload_n 0, 1) := by decide +kernel
theorem d12_1 : decode c_53_1 1 = .ok (.invokespecial 1, 3) := by decide +kernel
theorem d12_4 : decode c_53_1 4 = .ok (.aload_n 0, 1) := by decide +kernel
theorem d12_5 : decode c_53_1 5 = .ok (.aload_n 1, 1) := by decide +kernel
theorem d12_6 : decode c_53_1 6 = .ok (.putfield 7, 3) := by decide +kernel
theorem d12_9 : decode c_53_1 9 = .ok (.aload_n 0, 1) := by decide +kernel
theorem d12_10 : decode c_53_1 10 = .ok (.iload_n 2, 1) := by decide +kernel
theorem d12_11 : decode c_53_1 11 = .ok (.putfield 13, 3) := by decide +kernel
theorem d12_14 : decode c_53_1 14 = .ok (.aload_n 0, 1) := by decide +kernel
theorem d12_15 : decode c_53_1 15 = .ok (.iconst 0, 1) := by decide +kernel
theorem d12_16 : decode c_53_1 16 = .ok (.putfield 17, 3) := by decide +kernel
theorem d12_19 : decode c_53_1 19 = .ok (.aload_n 0, 1) := by decide +kernel
theorem d12_20 : decode c_53_1 20 = .ok (.iconst 0, 1) := by decide +kernel
theorem d12_21 : decode c_53_1 21 = .ok (.putfield 20, 3) := by decide +kernel
theorem d12_24 : decode c_53_1 24 = .ok (.return_, 1) := by decide +kernel
def own_Q204 (Z : State) (h0 : Heap) (a205 : Addr) (a206 : Addr) (v : Option Value) (h : Heap) (L : List Loc) : Prop := v = none ∧ own_Kp h0 h [a205] L ∧ Fld Z h a205 own_s3 "list" own_s9 (.ref a206) ∧ Fld Z h a205 own_s3 "size" "I" (.int 1) ∧ Fld Z h a205 own_s3 "cursor" "I" (.int 0) ∧ Fld Z h a205 own_s3 "isListIterator" "Z" (.int 0)
theorem own_pn7 : plainName own_s3 = true := by first | (simp [plainName, overriddenIn]; done) | decide +kernel
theorem own_ef204 (m : MethodId) (x0 : Addr) (x1 : Addr) : entryFrame m #[(.ref x0), (.ref x1), (.int 1)] 3 = mkF m 0 #[.val (.ref x0), .val (.ref x1), .val (.int 1)] [] := by first | (simp [entryFrame, mkF, argsToLocals, Value.category]; done) | rfl
set_option maxRecDepth 65536 in
set_option maxHeartbeats 40000000 in
theorem rm204 (l : Launch) (Z : State) (a0 : Array Value) (hw : ∀ d ∈ tables_1, d.before a0 Z = true) (h0 : Heap) (a14 a16 : Addr) (E17 : Exa Z h0 a14 own_s3) (F18 : Fld Z h0 a14 own_s3 "list" own_s9 .null) (F24 : Fld Z h0 a14 own_s3 "size" "I" (.int 0)) (F25 : Fld Z h0 a14 own_s3 "cursor" "I" (.int 0)) (F26 : Fld Z h0 a14 own_s3 "isListIterator" "Z" (.int 0)) :
    own_Con l Z (⟨own_s3, "<init>", "(Ljava/util/List;I)V"⟩ : MethodName) jdk_53_method_1_code 3 none ({ frames := 1, cells := 0, slots := 0, locals := 12 } : Room) #[(.ref a14), (.ref a16), (.int 1)] h0 (own_Q204 Z h0 a14 a16) := by
 refine MetFree.of_bodySF (plainFor_of_name own_pn7) hisR ?_
 intro p e s m args below meth c s₁ Bd hml0 hP hK
 obtain ⟨rfl, hZ, hh⟩ := hP
 have hx := Bd.exec
 have hby := Bd.bytes
 have hml : c.maxLocals = 3 := hml0
 have hown : s.vm.findClass own_s3 = some m.cls := findClass_of_methodNamed Bd.named
 have hnm := (name_of_methodNamed Bd.named Bd.method).1
 have X0 : Stand p l e ({ frames := 1, cells := 0, slots := 0, locals := 12 } : Room) s m #[(.ref a14), (.ref a16), (.int 1)] below meth c s₁ [] 0 0 := Stand.of_body Bd
 have e0 : s₁.heap = h0 := by rw [← hh, Bd.state]; rfl
 have K0 : own_Kp h0 h0 [a14] [] := own_kpRefl _ _
 show own_Go p e below (own_K s (own_Q204 Z h0 a14 a16) 0 0) s₁ (entryFrame m #[(.ref a14), (.ref a16), (.int 1)] 3)
 rw [own_ef204]
 let l1 : Array Slot := #[.val (.ref a14), .val (.ref a16), .val (.int 1)]
 obtain ⟨T15, X15, e15, st15⟩ := initO X0 hx hZ hown (own_wd hw 102 rfl) (own_wd hw 11 rfl) (own_wd hw 12 rfl) e0 (g := (mkF m 1 l1 [(.ref a14)])) rfl (by rw [hml]; rfl) rfl (hb hby d12_1) (by decide) (W := 0) (by show 2 * 0 + _ ≤ _; exact Nat.le_of_eq rfl) (by decide)
 obtain ⟨T10, h10, X10, e10, W10, st10⟩ := putF X15 hx hZ hown (host := "") (Or.inl (own_wd hw 103 rfl)) Via.refl e15 F18 E17 (Or.inr ⟨(own_wd hw 104 rfl), rfl, hnm⟩) (own_wd hw 90 rfl) (ty := (.object own_s2)) (by decide) rfl rfl (g := (mkF m 6 l1 [(.ref a16), (.ref a14)])) rfl rfl (hb hby d12_6)
 have F10 := Fld.same W10 F18
 have K10 := own_kpWr K0 W10 (Or.inl (List.mem_of_getElem? (i := 0) rfl))
 have z_W10 := Nat.le_of_eq W10.size.symm
 have F19 := (Fld.other W10 F24 (Or.inr (slot_ne (Or.inr (own_wd hw 106 rfl)) (Or.inr (own_wd hw 104 rfl)) (by decide) (t := .int) (t' := (.object own_s2)) (by decide) (by decide))))
 have E20 := (Exa.wr W10 E17)
 obtain ⟨T11, h11, X11, e11, W11, st11⟩ := putF X10 hx hZ hown (host := "") (Or.inl (own_wd hw 105 rfl)) Via.refl e10 F19 E20 (Or.inr ⟨(own_wd hw 106 rfl), rfl, hnm⟩) (own_wd hw 90 rfl) (ty := .int) (by decide) rfl rfl (g := (mkF m 11 l1 [(.int 1), (.ref a14)])) rfl rfl (hb hby d12_11)
 have F11 := Fld.same W11 F19
 have K11 := own_kpWr K10 W11 (Or.inl (List.mem_of_getElem? (i := 0) rfl))
 have z_W11 := Nat.le_of_eq W11.size.symm
 have F21 := (Fld.other W11 (Fld.other W10 F25 (Or.inr (slot_ne (Or.inl (own_wd hw 108 rfl)) (Or.inr (own_wd hw 104 rfl)) (by decide) (t := .int) (t' := (.object own_s2)) (by decide) (by decide)))) (Or.inr (slot_ne (Or.inl (own_wd hw 108 rfl)) (Or.inr (own_wd hw 106 rfl)) (by decide) (t := .int) (t' := .int) (by decide) (by decide))))
 have E22 := (Exa.wr W11 E20)
 obtain ⟨T12, h12, X12, e12, W12, st12⟩ := putF X11 hx hZ hown (host := "") (Or.inl (own_wd hw 107 rfl)) Via.refl e11 F21 E22 (Or.inl (own_wd hw 108 rfl)) (own_wd hw 90 rfl) (ty := .int) (by decide) rfl rfl (g := (mkF m 16 l1 [(.int 0), (.ref a14)])) rfl rfl (hb hby d12_16)
 have F12 := Fld.same W12 F21
 have K12 := own_kpWr K11 W12 (Or.inl (List.mem_of_getElem? (i := 0) rfl))
 have z_W12 := Nat.le_of_eq W12.size.symm
 have F23 := (Fld.other W12 (Fld.other W11 (Fld.other W10 F26 (Or.inr (slot_ne (Or.inr (own_wd hw 110 rfl)) (Or.inr (own_wd hw 104 rfl)) (by decide) (t := .boolean) (t' := (.object own_s2)) (by decide) (by decide)))) (Or.inr (slot_ne (Or.inr (own_wd hw 110 rfl)) (Or.inr (own_wd hw 106 rfl)) (by decide) (t := .boolean) (t' := .int) (by decide) (by decide)))) (Or.inr (slot_ne (Or.inr (own_wd hw 110 rfl)) (Or.inl (own_wd hw 108 rfl)) (by decide) (t := .boolean) (t' := .int) (by decide) (by decide))))
 have E27 := (Exa.wr W12 E22)
 obtain ⟨T13, h13, X13, e13, W13, st13⟩ := putFN X12 hx hZ hown (own_wd hw 109 rfl) Via.refl e12 F23 E27 (Or.inr ⟨(own_wd hw 110 rfl), rfl, hnm⟩) (own_wd hw 90 rfl) (ty := .boolean) (v' := (.int 0)) (by decide) rfl (fits_nar_bool (0 : Int32)) (g := (mkF m 21 l1 [(.int 0), (.ref a14)])) rfl rfl (hb hby d12_21)
 have F13 := Fld.same W13 F23
 have K13 := own_kpWr K12 W13 (Or.inl (List.mem_of_getElem? (i := 0) rfl))
 have z_W13 := Nat.le_of_eq W13.size.symm
 have F28 := (Fld.other W13 (Fld.other W12 (Fld.other W11 F10 (Or.inr (slot_ne (Or.inr (own_wd hw 104 rfl)) (Or.inr (own_wd hw 106 rfl)) (by decide) (t := (.object own_s2)) (t' := .int) (by decide) (by decide)))) (Or.inr (slot_ne (Or.inr (own_wd hw 104 rfl)) (Or.inl (own_wd hw 108 rfl)) (by decide) (t := (.object own_s2)) (t' := .int) (by decide) (by decide)))) (Or.inr (slot_ne (Or.inr (own_wd hw 104 rfl)) (Or.inr (own_wd hw 110 rfl)) (by decide) (t := (.object own_s2)) (t' := .boolean) (by decide) (by decide))))
 have F29 := (Fld.other W13 (Fld.other W12 F11 (Or.inr (slot_ne (Or.inr (own_wd hw 106 rfl)) (Or.inl (own_wd hw 108 rfl)) (by decide) (t := .int) (t' := .int) (by decide) (by decide)))) (Or.inr (slot_ne (Or.inr (own_wd hw 106 rfl)) (Or.inr (own_wd hw 110 rfl)) (by decide) (t := .int) (t' := .boolean) (by decide) (by decide))))
 have F30 := (Fld.other W13 F12 (Or.inr (slot_ne (Or.inl (own_wd hw 108 rfl)) (Or.inr (own_wd hw 110 rfl)) (by decide) (t := .int) (t' := .boolean) (by decide) (by decide))))
 refine own_go (T2 := T13) (g2 := (mkF m 24 l1 [])) (fun t k => z_aloadN X0 hx hby d12_0 rfl rfl (st15 _ (z_aloadN X15 hx hby d12_4 rfl rfl (z_aloadN X15 hx hby d12_5 rfl rfl (st10 _ (z_aloadN X10 hx hby d12_9 rfl rfl (z_iloadN X10 hx hby d12_10 rfl (st11 _ (z_aloadN X11 hx hby d12_14 rfl rfl (z_iconst X11 hx hby d12_15 (st12 _ (z_aloadN X12 hx hby d12_19 rfl rfl (z_iconst X12 hx hby d12_20 (st13 _ k)))))))))))))) ?_
 exact own_endV X13 hx Bd.notSynchronized Bd.returns (hb hby d12_24) (by decide) (by decide) (by rw [e13]; exact ⟨rfl, (by simpa only [List.append_nil] using K13), F28, F29, F30, F13⟩)
theorem own_pd6 : parseMethodDescriptor "(Ljava/util/List;I)V" = some ⟨[(.object own_s2), .int], none⟩ := by decide +kernel
theorem own_w230 {Z : State} {a0 : Array Value} (hw : ∀ d ∈ tables_1, d.before a0 Z = true) : own_IW Z a0 own_s14 63 (⟨own_s3, "<init>", "(Ljava/util/List;I)V"⟩ : MethodName) jdk_53_method_1_code 3 := ⟨rfl, (own_wd hw 98 rfl), (own_wd hw 99 rfl), (own_wd hw 91 rfl), (own_wd hw 101 rfl), (by decide)⟩
theorem d10_12 : decode c_46_10 12 = .ok (.areturn, 1) := by decide +kernel
def own_Q177 (Z : State) (h0 : Heap) (a178 : Addr) (a189 : Addr) (v : Option Value) (h : Heap) (L : List Loc) : Prop := ∃ (b179 : Addr), v = (some (.ref b179)) ∧ own_Kp h0 h [] L ∧ h0.size ≤ b179 ∧ Exa Z h b179 own_s3 ∧ Fld Z h b179 own_s3 "list" own_s9 (.ref a178) ∧ Fld Z h b179 own_s3 "size" "I" (.int 1) ∧ Fld Z h b179 own_s3 "cursor" "I" (.int 0) ∧ Fld Z h b179 own_s3 "isListIterator" "Z" (.int 0)
set_option maxRecDepth 65536 in
set_option maxHeartbeats 40000000 in
theorem rm177 (l : Launch) (Z : State) (a0 : Array Value) (hw : ∀ d ∈ tables_1, d.before a0 Z = true) (h0 : Heap) (a11 a14 : Addr) (F15 : Fld Z h0 a11 own_s4 "e1" own_s5 (.ref a14)) (S16 : Sta Z h0 own_s12 "EMPTY" own_s5 (.ref a14)) (E17 : Exa Z h0 a11 own_s4) :
    own_Con l Z (⟨own_s14, "iterator", "()Ljava/util/Iterator;"⟩ : MethodName) jdk_46_method_10_code 1 (some (.object "java/util/Iterator")) ({ frames := 2, cells := 1, slots := 4, locals := 27 } : Room) #[(.ref a11)] h0 (own_Q177 Z h0 a11 a14) := by
 refine MetFree.of_bodySF (plainFor_of_name own_pn2) hisR ?_
 intro p e s m args below meth c s₁ Bd hml0 hP hK
 obtain ⟨rfl, hZ, hh⟩ := hP
 have hx := Bd.exec
 have hby := Bd.bytes
 have hml : c.maxLocals = 1 := hml0
 have hown : s.vm.findClass own_s14 = some m.cls := findClass_of_methodNamed Bd.named
 have hnm := (name_of_methodNamed Bd.named Bd.method).1
 have X0 : Stand p l e ({ frames := 2, cells := 1, slots := 4, locals := 27 } : Room) s m #[(.ref a11)] below meth c s₁ [] 0 0 := Stand.of_body Bd
 have e0 : s₁.heap = h0 := by rw [← hh, Bd.state]; rfl
 have K0 : own_Kp h0 h0 [] [] := own_kpRefl _ _
 show own_Go p e below (own_K s (own_Q177 Z h0 a11 a14) 1 4) s₁ (entryFrame m #[(.ref a11)] 1)
 rw [own_ef67]
 obtain ⟨T10, h10, X10, e10, E10, A10, D10, -, st10⟩ := newO X0 hx hZ hown (own_wd hw 89 rfl) (own_wd hw 90 rfl) (own_wd hw 91 rfl) e0 (g := (mkF m 0 #[.val (.ref a11)] [])) rfl (hb hby d10_0) (by decide) (by decide)
 obtain ⟨b10, g10⟩ : ∃ z, z = h0.size := ⟨_, rfl⟩
 rw [← g10] at A10 D10 st10
 have z_E10 := E10.1
 have lo_b10 : h0.size ≤ b10 := Nat.le_of_eq g10.symm
 have sz_b10 : h0.size ≤ b10 := Nat.le_trans K0.1.1 lo_b10
 have K10 := own_kpExt K0 E10
 have F18 : Fld Z h10 b10 own_s3 "list" own_s9 .null := D10 (Or.inr (own_wd hw 104 rfl)) (ty := (.object own_s2)) (by decide)
 have F19 : Fld Z h10 b10 own_s3 "size" "I" (.int 0) := D10 (Or.inr (own_wd hw 106 rfl)) (ty := .int) (by decide)
 have F20 : Fld Z h10 b10 own_s3 "cursor" "I" (.int 0) := D10 (Or.inl (own_wd hw 108 rfl)) (ty := .int) (by decide)
 have F21 : Fld Z h10 b10 own_s3 "isListIterator" "Z" (.int 0) := D10 (Or.inr (own_wd hw 110 rfl)) (ty := .boolean) (by decide)
 have F22 := (Fld.ext E10 F15)
 have S23 := (Sta.ext E10 S16)
 have E24 := (Exa.ext E10 E17)
 obtain ⟨_, T13, L13, X13, ⟨rfl, rfl, e13⟩, st13⟩ := own_virtualUp X10 hx hZ (y := (⟨own_s14, "size", "()I"⟩ : MethodName)) (z := (⟨own_s4, "size", "()I"⟩ : MethodName)) (C := own_s4) (owner := "java/util/AbstractCollection") hown (own_wd hw 92 rfl) (own_wd hw 93 rfl) (own_wd hw 94 rfl) (by decide) (own_wd hw 95 rfl) (own_wd hw 96 rfl) (own_wd hw 19 rfl) (own_wd hw 97 rfl) 3 (argsL := []) (rest := [(.ref a11), (.ref b10), (.ref b10)]) (rm185 l Z a0 hw h10 a11 a14 F22 S23) (by decide) (by decide) E24 (g := (mkF m 6 #[.val (.ref a11)] [(.ref a11), (.ref a11), (.ref b10), (.ref b10)])) rfl (by rw [hml]; rfl) (lenOf own_pd5 rfl) rfl (by show 2 * 0 + _ ≤ _; exact Nat.le_of_eq rfl) (hb hby d10_6) e10 (by decide) (by decide)
 obtain ⟨_, T12, L12, X12, ⟨rfl, K12c, F25, F26, F27, F28⟩, st12⟩ := own_ci X13 hx hZ hown (own_w230 hw) hml (g := (mkF m 9 #[.val (.ref a11)] [(.int 1), (.ref a11), (.ref b10), (.ref b10)])) (hb hby d10_9) e13 (a := b10) [(.ref a11), (.int 1)] [(.ref b10)] (lenOf own_pd6 rfl) (rm204 l Z a0 hw h10 b10 a11 A10 F18 F19 F20 F21)
 have z_K12c := K12c.1.1
 have K12 := own_kpTrans K10 K12c (allS (Or.inr sz_b10) all0)
 have E29 := (Exa.keep A10 K12c.1)
 refine own_go (T2 := T12) (g2 := (mkF m 12 #[.val (.ref a11)] [(.ref b10)])) (fun t k => st10 _ (z_dup X10 hx hby d10_3 rfl (z_aloadN X10 hx hby d10_4 rfl rfl (z_aloadN X10 hx hby d10_5 rfl rfl (st13 _ (st12 _ k)))))) ?_
 exact own_endR X12 hx Bd.notSynchronized Bd.returns rfl rfl (hb hby d10_12) (by decide) (by decide) ⟨b10, rfl, (by simpa only [List.append_nil] using K12), sz_b10, E29, F25, F26, F27, F28⟩
theorem own_pd7 : parseMethodDescriptor "()Ljava/util/Iterator;" = some ⟨[], some (.object "java/util/Iterator")⟩ := by decide +kernel
theorem d1_69 : decode c_2_1 69 = .ok (.astore 12, 2) := by decide +kernel
theorem d1_71 : decode c_2_1 71 = .ok (.aload 12, 2) := by decide +kernel
theorem d1_73 : decode c_2_1 73 = .ok (.invokeinterface 57 1, 5) := by decide +kernel
abbrev c_53_3 := jdk_53_method_3_code
theorem d13_0 : decode c_53_3 0 = .ok (.aload_n 0, 1) := by decide +kernel
theorem d13_1 : decode c_53_3 1 = .ok (.getfield 17, 3) := by decide +kernel
theorem d13_4 : decode c_53_3 4 = .ok (.aload_n 0, 1) := by decide +kernel
theorem d13_5 : decode c_53_3 5 = .ok (.getfield 13, 3) := by decide +kernel
theorem d13_8 : decode c_53_3 8 = .ok (.if_icmp .eq 7, 3) := by decide +kernel
theorem d13_11 : decode c_53_3 11 = .ok (.iconst 1, 1) := by decide +kernel
theorem d13_12 : decode c_53_3 12 = .ok (.goto 4, 3) := by decide +kernel
theorem d13_16 : decode c_53_3 16 = .ok (.ireturn, 1) := by decide +kernel
set_option maxRecDepth 65536 in
set_option maxHeartbeats 40000000 in
theorem rm239 (l : Launch) (Z : State) (a0 : Array Value) (hw : ∀ d ∈ tables_1, d.before a0 Z = true) (h0 : Heap) (a11 : Addr) (F13 : Fld Z h0 a11 own_s3 "cursor" "I" (.int 0)) (F14 : Fld Z h0 a11 own_s3 "size" "I" (.int 1)) :
    own_Con l Z (⟨own_s3, "hasNext", "()Z"⟩ : MethodName) jdk_53_method_3_code 1 (some .boolean) ({ frames := 0, cells := 0, slots := 0, locals := 0 } : Room) #[(.ref a11)] h0 (own_QP (some (.int 1)) h0) := by
 refine MetFree.of_bodySF (plainFor_of_name own_pn7) hisR ?_
 intro p e s m args below meth c s₁ Bd hml0 hP hK
 obtain ⟨rfl, hZ, hh⟩ := hP
 have hx := Bd.exec
 have hby := Bd.bytes
 have hml : c.maxLocals = 1 := hml0
 have hown : s.vm.findClass own_s3 = some m.cls := findClass_of_methodNamed Bd.named
 have hnm := (name_of_methodNamed Bd.named Bd.method).1
 have X0 : Stand p l e ({ frames := 0, cells := 0, slots := 0, locals := 0 } : Room) s m #[(.ref a11)] below meth c s₁ [] 0 0 := Stand.of_body Bd
 have e0 : s₁.heap = h0 := by rw [← hh, Bd.state]; rfl
 have K0 : own_Kp h0 h0 [] [] := own_kpRefl _ _
 show own_Go p e below (own_K s (own_QP (some (.int 1)) h0) 0 0) s₁ (entryFrame m #[(.ref a11)] 1)
 rw [own_ef67]
 obtain ⟨T12, X12, e12, st12⟩ := own_gF X0 hx hZ hown hby (own_wd hw 107 rfl) e0 F13 d13_1 #[.val (.ref a11)] []
 obtain ⟨T10, X10, e10, st10⟩ := own_gF X12 hx hZ hown hby (own_wd hw 105 rfl) e12 F14 d13_5 #[.val (.ref a11)] [(.int 0)]
 refine own_go (T2 := T10) (g2 := (mkF m 16 #[.val (.ref a11)] [(.int 1)])) (fun t k => z_aloadN X0 hx hby d13_0 rfl rfl (st12 _ (z_aloadN X12 hx hby d13_4 rfl rfl (st10 _ (z_icmpNo X10 hx hby d13_8 (feq (show ¬ ((0 : Int32) = 1) from (by decide))).1 (z_iconst X10 hx hby d13_11 (z_goto X10 hx hby 16 d13_12 rfl k))))))) ?_
 exact own_endN X10 hx Bd.notSynchronized (t := .boolean) Bd.returns (by simp) (hb hby d13_16) (z' := (1 : Int32)) rfl (by decide) (by decide) ⟨rfl, rfl, e10⟩
theorem own_pd8 : parseMethodDescriptor "()Z" = some ⟨[], some .boolean⟩ := by decide +kernel
theorem d1_78 : decode c_2_1 78 = .ok (.ifCond .eq 30, 3) := by decide +kernel
theorem d1_81 : decode c_2_1 81 = .ok (.aload 12, 2) := by decide +kernel
theorem d1_83 : decode c_2_1 83 = .ok (.invokeinterface 63 1, 5) := by decide +kernel
abbrev c_53_4 := jdk_53_method_4_code
theorem d14_0 : decode c_53_4 0 = .ok (.aload_n 0, 1) := by decide +kernel
theorem d14_1 : decode c_53_4 1 = .ok (.getfield 17, 3) := by decide +kernel
theorem d14_4 : decode c_53_4 4 = .ok (.istore_n 1, 1) := by decide +kernel
theorem d14_5 : decode c_53_4 5 = .ok (.aload_n 0, 1) := by decide +kernel
theorem d14_6 : decode c_53_4 6 = .ok (.getfield 7, 3) := by decide +kernel
theorem d14_9 : decode c_53_4 9 = .ok (.iload_n 1, 1) := by decide +kernel
theorem d14_10 : decode c_53_4 10 = .ok (.invokeinterface 24 2, 5) := by decide +kernel
abbrev c_44_5 := jdk_44_method_5_code
theorem d15_0 : decode c_44_5 0 = .ok (.iload_n 1, 1) := by decide +kernel
theorem d15_1 : decode c_44_5 1 = .ok (.ifCond .ne 8, 3) := by decide +kernel
theorem d15_4 : decode c_44_5 4 = .ok (.aload_n 0, 1) := by decide +kernel
theorem d15_5 : decode c_44_5 5 = .ok (.getfield 13, 3) := by decide +kernel
theorem d15_8 : decode c_44_5 8 = .ok (.areturn, 1) := by decide +kernel
theorem own_ef254 (m : MethodId) (x0 : Addr) : entryFrame m #[(.ref x0), (.int 0)] 2 = mkF m 0 #[.val (.ref x0), .val (.int 0)] [] := by first | (simp [entryFrame, mkF, argsToLocals, Value.category]; done) | rfl
set_option maxRecDepth 65536 in
set_option maxHeartbeats 40000000 in
theorem rm254 (l : Launch) (Z : State) (a0 : Array Value) (hw : ∀ d ∈ tables_1, d.before a0 Z = true) (h0 : Heap) (a11 a12 : Addr) (F13 : Fld Z h0 a11 own_s4 "e0" own_s5 (.ref a12)) :
    own_Con l Z (⟨own_s4, "get", "(I)Ljava/lang/Object;"⟩ : MethodName) jdk_44_method_5_code 2 (some (.object own_s7)) ({ frames := 0, cells := 0, slots := 0, locals := 0 } : Room) #[(.ref a11), (.int 0)] h0 (own_QP (some (.ref a12)) h0) := by
 refine MetFree.of_bodySF (plainFor_of_name own_pn4) hisR ?_
 intro p e s m args below meth c s₁ Bd hml0 hP hK
 obtain ⟨rfl, hZ, hh⟩ := hP
 have hx := Bd.exec
 have hby := Bd.bytes
 have hml : c.maxLocals = 2 := hml0
 have hown : s.vm.findClass own_s4 = some m.cls := findClass_of_methodNamed Bd.named
 have hnm := (name_of_methodNamed Bd.named Bd.method).1
 have X0 : Stand p l e ({ frames := 0, cells := 0, slots := 0, locals := 0 } : Room) s m #[(.ref a11), (.int 0)] below meth c s₁ [] 0 0 := Stand.of_body Bd
 have e0 : s₁.heap = h0 := by rw [← hh, Bd.state]; rfl
 have K0 : own_Kp h0 h0 [] [] := own_kpRefl _ _
 show own_Go p e below (own_K s (own_QP (some (.ref a12)) h0) 0 0) s₁ (entryFrame m #[(.ref a11), (.int 0)] 2)
 rw [own_ef254]
 obtain ⟨T10, X10, e10, st10⟩ := own_gF X0 hx hZ hown hby (own_wd hw 47 rfl) e0 F13 d15_5 #[.val (.ref a11), .val (.int 0)] []
 refine own_go (T2 := T10) (g2 := (mkF m 8 #[.val (.ref a11), .val (.int 0)] [(.ref a12)])) (fun t k => z_iloadN X0 hx hby d15_0 rfl (z_ifNo X0 hx hby d15_1 ((if0 _ _).trans (teq (show (0 : Int32) = 0 from (by decide))).2) (z_aloadN X0 hx hby d15_4 rfl rfl (st10 _ k)))) ?_
 exact own_endR X10 hx Bd.notSynchronized Bd.returns rfl rfl (hb hby d15_8) (by decide) (by decide) ⟨rfl, rfl, e10⟩
theorem own_pd9 : parseMethodDescriptor "(I)Ljava/lang/Object;" = some ⟨[.int], some (.object own_s7)⟩ := by decide +kernel
theorem d14_15 : decode c_53_4 15 = .ok (.astore_n 2, 1) := by decide +kernel
theorem d14_16 : decode c_53_4 16 = .ok (.aload_n 0, 1) := by decide +kernel
theorem d14_17 : decode c_53_4 17 = .ok (.iload_n 1, 1) := by decide +kernel
theorem d14_18 : decode c_53_4 18 = .ok (.iconst 1, 1) := by decide +kernel
theorem d14_19 : decode c_53_4 19 = .ok (.iadd, 1) := by decide +kernel
theorem d14_20 : decode c_53_4 20 = .ok (.putfield 17, 3) := by decide +kernel
theorem d14_23 : decode c_53_4 23 = .ok (.aload_n 2, 1) := by decide +kernel
theorem d14_24 : decode c_53_4 24 = .ok (.areturn, 1) := by decide +kernel
def own_Q246 (Z : State) (h0 : Heap) (a247 : Addr) (a250 : Addr) (a257 : Addr) (v : Option Value) (h : Heap) (L : List Loc) : Prop := v = (some (.ref a257)) ∧ own_Kp h0 h [a247] L ∧ Fld Z h a247 own_s3 "cursor" "I" (.int 1) ∧ Fld Z h a247 own_s3 "list" own_s9 (.ref a250) ∧ Fld Z h a247 own_s3 "size" "I" (.int 1) ∧ Fld Z h a247 own_s3 "isListIterator" "Z" (.int 0)
theorem own_ef246 (m : MethodId) (x0 : Addr) : entryFrame m #[(.ref x0)] 3 = mkF m 0 #[.val (.ref x0), .unset, .unset] [] := by first | (simp [entryFrame, mkF, argsToLocals, Value.category]; done) | rfl
set_option maxRecDepth 65536 in
set_option maxHeartbeats 40000000 in
theorem rm246 (l : Launch) (Z : State) (a0 : Array Value) (hw : ∀ d ∈ tables_1, d.before a0 Z = true) (h0 : Heap) (a11 a14 a16 : Addr) (F17 : Fld Z h0 a11 own_s3 "cursor" "I" (.int 0)) (F18 : Fld Z h0 a11 own_s3 "list" own_s9 (.ref a14)) (F19 : Fld Z h0 a14 own_s4 "e0" own_s5 (.ref a16)) (E20 : Exa Z h0 a14 own_s4) (E21 : Exa Z h0 a11 own_s3) (F22 : Fld Z h0 a11 own_s3 "size" "I" (.int 1)) (F23 : Fld Z h0 a11 own_s3 "isListIterator" "Z" (.int 0)) :
    own_ConW l Z (⟨own_s3, "next", "()Ljava/lang/Object;"⟩ : MethodName) jdk_53_method_4_code 3 (some (.object own_s7)) [((0 : Nat), (24 : Nat), (25 : Nat), (30 : Nat))] ({ frames := 1, cells := 0, slots := 0, locals := 13 } : Room) #[(.ref a11)] h0 (own_Q246 Z h0 a11 a14 a16) := by
 refine MetFree.of_bodySF (plainFor_of_name own_pn7) hisWith ?_
 intro p e s m args below meth c s₁ Bd hml0 hP hK
 obtain ⟨rfl, hZ, hh⟩ := hP
 have hx := Bd.exec
 have hby := Bd.bytes
 have hml : c.maxLocals = 3 := hml0
 have hown : s.vm.findClass own_s3 = some m.cls := findClass_of_methodNamed Bd.named
 have hnm := (name_of_methodNamed Bd.named Bd.method).1
 have X0 : Stand p l e ({ frames := 1, cells := 0, slots := 0, locals := 13 } : Room) s m #[(.ref a11)] below meth c s₁ [] 0 0 := Stand.of_body Bd
 have e0 : s₁.heap = h0 := by rw [← hh, Bd.state]; rfl
 have K0 : own_Kp h0 h0 [a11] [] := own_kpRefl _ _
 show own_Go p e below (own_K s (own_Q246 Z h0 a11 a14 a16) 0 0) s₁ (entryFrame m #[(.ref a11)] 3)
 rw [own_ef246]
 obtain ⟨T13, X13, e13, st13⟩ := own_gF X0 hx hZ hown hby (own_wd hw 107 rfl) e0 F17 d14_1 #[.val (.ref a11), .unset, .unset] []
 let l1 : Array Slot := #[.val (.ref a11), .val (.int 0), .unset]
 obtain ⟨T15, X15, e15, st15⟩ := own_gF X13 hx hZ hown hby (own_wd hw 103 rfl) e13 F18 d14_6 l1 []
 obtain ⟨_, T12, L12, X12, ⟨rfl, rfl, e12⟩, st12⟩ := own_interface X15 hx hZ (y := (⟨own_s2, "get", "(I)Ljava/lang/Object;"⟩ : MethodName)) (z := (⟨own_s4, "get", "(I)Ljava/lang/Object;"⟩ : MethodName)) (C := own_s4) hown (own_wd hw 128 rfl) (own_wd hw 129 rfl) (own_wd hw 130 rfl) (own_wd hw 131 rfl) (own_wd hw 132 rfl) (own_wd hw 133 rfl) (own_wd hw 134 rfl) (own_wd hw 87 rfl) (own_wd hw 19 rfl) (own_wd hw 135 rfl) (by decide) 0 (argsL := [(.int 0)]) (rest := []) (rm254 l Z a0 hw h0 a14 a16 F19) (by decide) (by decide) E20 (g := (mkF m 10 l1 [(.int 0), (.ref a14)])) rfl (by rw [hml]; rfl) (lenOf own_pd9 rfl) rfl (by show 2 * 0 + _ ≤ _; exact Nat.le_of_eq rfl) (hb hby d14_10) e15 (by decide) (by decide)
 let l2 : Array Slot := #[.val (.ref a11), .val (.int 0), .val (.ref a16)]
 obtain ⟨T10, h10, X10, e10, W10, st10⟩ := putF X12 hx hZ hown (host := "") (Or.inl (own_wd hw 107 rfl)) Via.refl e12 F17 E21 (Or.inl (own_wd hw 108 rfl)) (own_wd hw 90 rfl) (ty := .int) (by decide) rfl rfl (g := (mkF m 20 l2 [(.int 1), (.ref a11)])) rfl rfl (hb hby d14_20)
 have F10 := Fld.same W10 F17
 have K10 := own_kpWr K0 W10 (Or.inl (List.mem_of_getElem? (i := 0) rfl))
 have z_W10 := Nat.le_of_eq W10.size.symm
 have F24 := (Fld.other W10 F18 (Or.inr (slot_ne (Or.inr (own_wd hw 104 rfl)) (Or.inl (own_wd hw 108 rfl)) (by decide) (t := (.object own_s2)) (t' := .int) (by decide) (by decide))))
 have F25 := (Fld.other W10 F22 (Or.inr (slot_ne (Or.inr (own_wd hw 106 rfl)) (Or.inl (own_wd hw 108 rfl)) (by decide) (t := .int) (t' := .int) (by decide) (by decide))))
 have F26 := (Fld.other W10 F23 (Or.inr (slot_ne (Or.inr (own_wd hw 110 rfl)) (Or.inl (own_wd hw 108 rfl)) (by decide) (t := .boolean) (t' := .int) (by decide) (by decide))))
 refine own_go (T2 := T10) (g2 := (mkF m 24 l2 [(.ref a16)])) (fun t k => z_aloadN X0 hx hby d14_0 rfl rfl (st13 _ (z_istoreN X13 hx hby d14_4 l1 rfl (z_aloadN X13 hx hby d14_5 rfl rfl (st15 _ (z_iloadN X15 hx hby d14_9 rfl (st12 _ (XS.astoreN X12.here hx rfl (hb hby d14_15) rfl rfl (l' := l2) rfl (z_aloadN X12 hx hby d14_16 rfl rfl (z_iloadN X12 hx hby d14_17 rfl (z_iconst X12 hx hby d14_18 (z_iadd X12 hx hby d14_19 (st10 _ (z_aloadN X10 hx hby d14_23 rfl rfl k)))))))))))))) ?_
 exact own_endR X10 hx Bd.notSynchronized Bd.returns rfl rfl (hb hby d14_24) (by decide) (by decide) (by rw [e10]; exact ⟨rfl, (by simpa only [List.append_nil] using K10), F10, F24, F25, F26⟩)
theorem own_pd10 : parseMethodDescriptor "()Ljava/lang/Object;" = some ⟨[], some (.object own_s7)⟩ := by decide +kernel
theorem d1_88 : decode c_2_1 88 = .ok (.checkcast 14, 3) := by decide +kernel
theorem d1_91 : decode c_2_1 91 = .ok (.astore 13, 2) := by decide +kernel
theorem d1_93 : decode c_2_1 93 = .ok (.lload 10, 2) := by decide +kernel
theorem d1_95 : decode c_2_1 95 = .ok (.lconst 1, 1) := by decide +kernel
theorem d1_96 : decode c_2_1 96 = .ok (.aload 13, 2) := by decide +kernel
theorem d1_98 : decode c_2_1 98 = .ok (.getfield 27, 3) := by decide +kernel
theorem d1_101 : decode c_2_1 101 = .ok (.lshl, 1) := by decide +kernel
theorem d1_102 : decode c_2_1 102 = .ok (.lor, 1) := by decide +kernel
theorem d1_103 : decode c_2_1 103 = .ok (.lstore 10, 2) := by decide +kernel
theorem d1_105 : decode c_2_1 105 = .ok (.goto (-34), 3) := by decide +kernel
theorem d13_15 : decode c_53_3 15 = .ok (.iconst 0, 1) := by decide +kernel
set_option maxRecDepth 65536 in
set_option maxHeartbeats 40000000 in
theorem rm281 (l : Launch) (Z : State) (a0 : Array Value) (hw : ∀ d ∈ tables_1, d.before a0 Z = true) (h0 : Heap) (a11 : Addr) (F13 : Fld Z h0 a11 own_s3 "cursor" "I" (.int 1)) (F14 : Fld Z h0 a11 own_s3 "size" "I" (.int 1)) :
    own_Con l Z (⟨own_s3, "hasNext", "()Z"⟩ : MethodName) jdk_53_method_3_code 1 (some .boolean) ({ frames := 0, cells := 0, slots := 0, locals := 0 } : Room) #[(.ref a11)] h0 (own_QP (some (.int 0)) h0) := by
 refine MetFree.of_bodySF (plainFor_of_name own_pn7) hisR ?_
 intro p e s m args below meth c s₁ Bd hml0 hP hK
 obtain ⟨rfl, hZ, hh⟩ := hP
 have hx := Bd.exec
 have hby := Bd.bytes
 have hml : c.maxLocals = 1 := hml0
 have hown : s.vm.findClass own_s3 = some m.cls := findClass_of_methodNamed Bd.named
 have hnm := (name_of_methodNamed Bd.named Bd.method).1
 have X0 : Stand p l e ({ frames := 0, cells := 0, slots := 0, locals := 0 } : Room) s m #[(.ref a11)] below meth c s₁ [] 0 0 := Stand.of_body Bd
 have e0 : s₁.heap = h0 := by rw [← hh, Bd.state]; rfl
 have K0 : own_Kp h0 h0 [] [] := own_kpRefl _ _
 show own_Go p e below (own_K s (own_QP (some (.int 0)) h0) 0 0) s₁ (entryFrame m #[(.ref a11)] 1)
 rw [own_ef67]
 obtain ⟨T12, X12, e12, st12⟩ := own_gF X0 hx hZ hown hby (own_wd hw 107 rfl) e0 F13 d13_1 #[.val (.ref a11)] []
 obtain ⟨T10, X10, e10, st10⟩ := own_gF X12 hx hZ hown hby (own_wd hw 105 rfl) e12 F14 d13_5 #[.val (.ref a11)] [(.int 1)]
 refine own_go (T2 := T10) (g2 := (mkF m 16 #[.val (.ref a11)] [(.int 0)])) (fun t k => z_aloadN X0 hx hby d13_0 rfl rfl (st12 _ (z_aloadN X12 hx hby d13_4 rfl rfl (st10 _ (z_icmpYes X10 hx hby 15 d13_8 (teq (show (1 : Int32) = 1 from (by decide))).1 rfl (z_iconst X10 hx hby d13_15 k)))))) ?_
 exact own_endN X10 hx Bd.notSynchronized (t := .boolean) Bd.returns (by simp) (hb hby d13_16) (z' := (0 : Int32)) rfl (by decide) (by decide) ⟨rfl, rfl, e10⟩
theorem d1_108 : decode c_2_1 108 = .ok (.aload_n 0, 1) := by decide +kernel
theorem d1_109 : decode c_2_1 109 = .ok (.lload 10, 2) := by decide +kernel
theorem d1_111 : decode c_2_1 111 = .ok (.putfield 67, 3) := by decide +kernel
theorem d1_114 : decode c_2_1 114 = .ok (.return_, 1) := by decide +kernel
def own_Q44 (Z : State) (h0 : Heap) (a45 : Addr) (a46 : Addr) (p47 : Int32) (p48 : Int32) (a81 : Addr) (a149 : Addr) (a161 : Addr) (v : Option Value) (h : Heap) (L : List Loc) : Prop := ∃ (b99 : Addr), v = none ∧ own_Kp h0 h [a45] L ∧ h0.size ≤ b99 ∧ Fld Z h a45 own_s0 "alone" own_s9 (.ref b99) ∧ Fld Z h a45 own_s0 "owner" own_s5 .null ∧ Fld Z h a45 own_s0 "kind" own_s8 (.ref a46) ∧ Fld Z h a45 own_s0 "id" "I" (.int p47) ∧ Fld Z h a45 own_s0 "place" "I" (.int p48) ∧ Fld Z h a45 own_s0 "name" "Ljava/lang/String;" .null ∧ Fld Z h a45 own_s0 "role" own_s17 .null ∧ Fld Z h a45 own_s0 "operands" own_s9 .null ∧ Fld Z h a45 own_s0 "number" "J" (.long 0) ∧ Fld Z h a45 own_s0 "conjunctBits" "J" (.long ((0 : Int64) ||| ((1 : Int64) <<< (p47 &&& 0x3f).toInt64))) ∧ Exa Z h b99 own_s4 ∧ Fld Z h b99 own_s4 "e0" own_s5 (.ref a45) ∧ Fld Z h b99 own_s4 "e1" own_s5 (.ref a81)
theorem own_ef44 (m : MethodId) (x0 : Addr) (x1 : Addr) (x2 : Int32) (x3 : Int32) : entryFrame m #[(.ref x0), .null, (.ref x1), (.int x2), (.int x3), .null, .null, .null, (.long 0)] 14 = mkF m 0 #[.val (.ref x0), .val .null, .val (.ref x1), .val (.int x2), .val (.int x3), .val .null, .val .null, .val .null, .val (.long 0), .second, .unset, .unset, .unset, .unset] [] := by first | (simp [entryFrame, mkF, argsToLocals, Value.category]; done) | rfl
set_option maxRecDepth 65536 in
set_option maxHeartbeats 40000000 in
theorem rm44 (l : Launch) (Z : State) (a0 : Array Value) (hw : ∀ d ∈ tables_1, d.before a0 Z = true) (h0 : Heap) (a10 a26 : Addr) (p27 p30 : Int32) (a37 a38 a39 : Addr) (S43 : Sta Z h0 own_s12 "EMPTY" own_s5 (.ref a37)) (E41 : Exa Z h0 a10 own_s0) (F75 : Fld Z h0 a10 own_s0 "alone" own_s9 .null) (F76 : Fld Z h0 a10 own_s0 "owner" own_s5 .null) (F77 : Fld Z h0 a10 own_s0 "kind" own_s8 .null) (F78 : Fld Z h0 a10 own_s0 "id" "I" (.int 0)) (F79 : Fld Z h0 a10 own_s0 "place" "I" (.int 0)) (F80 : Fld Z h0 a10 own_s0 "name" "Ljava/lang/String;" .null) (F81 : Fld Z h0 a10 own_s0 "role" own_s17 .null) (F82 : Fld Z h0 a10 own_s0 "operands" own_s9 .null) (F83 : Fld Z h0 a10 own_s0 "number" "J" (.long 0)) (S84 : Sta Z h0 own_s6 "AND" own_s8 (.ref a38)) (ne85 : a26 ≠ a38) (S86 : Sta Z h0 own_s6 "TOP" own_s8 (.ref a39)) (ne87 : a26 ≠ a39) (F88 : Fld Z h0 a10 own_s0 "conjunctBits" "J" (.long 0)) :
    own_Con l Z (⟨own_s0, "<init>", own_s31⟩ : MethodName) prog_2_method_1_code 14 none ({ frames := 6, cells := 2, slots := 6, locals := 75 } : Room) #[(.ref a10), .null, (.ref a26), (.int p27), (.int p30), .null, .null, .null, (.long 0)] h0 (own_Q44 Z h0 a10 a26 p27 p30 a37 a38 a39) := by
 refine MetFree.of_bodySF (plainFor_of_name own_pn6) hisR ?_
 intro p e s m args below meth c s₁ Bd hml0 hP hK
 obtain ⟨rfl, hZ, hh⟩ := hP
 have hx := Bd.exec
 have hby := Bd.bytes
 have hml : c.maxLocals = 14 := hml0
 have hown : s.vm.findClass own_s0 = some m.cls := findClass_of_methodNamed Bd.named
 have hnm := (name_of_methodNamed Bd.named Bd.method).1
 have X0 : Stand p l e ({ frames := 6, cells := 2, slots := 6, locals := 75 } : Room) s m #[(.ref a10), .null, (.ref a26), (.int p27), (.int p30), .null, .null, .null, (.long 0)] below meth c s₁ [] 0 0 := Stand.of_body Bd
 have e0 : s₁.heap = h0 := by rw [← hh, Bd.state]; rfl
 have K0 : own_Kp h0 h0 [a10] [] := own_kpRefl _ _
 show own_Go p e below (own_K s (own_Q44 Z h0 a10 a26 p27 p30 a37 a38 a39) 2 6) s₁ (entryFrame m #[(.ref a10), .null, (.ref a26), (.int p27), (.int p30), .null, .null, .null, (.long 0)] 14)
 rw [own_ef44]
 let l1 : Array Slot := #[.val (.ref a10), .val .null, .val (.ref a26), .val (.int p27), .val (.int p30), .val .null, .val .null, .val .null, .val (.long 0), .second, .unset, .unset, .unset, .unset]
 obtain ⟨T35, X35, e35, st35⟩ := initO X0 hx hZ hown (own_wd hw 10 rfl) (own_wd hw 11 rfl) (own_wd hw 12 rfl) e0 (g := (mkF m 1 l1 [(.ref a10)])) rfl (by rw [hml]; rfl) rfl (hb hby d1_1) (by decide) (W := 0) (by show 2 * 0 + _ ≤ _; exact Nat.le_of_eq rfl) (by decide)
 obtain ⟨_, T23, L23, X23, ⟨b28, rfl, K23c, lo_b28, E44, F89, F90⟩, st23⟩ := own_cs X35 hx hZ hown (own_w103 hw) hml (g := (mkF m 6 l1 [(.ref a10), (.ref a10)])) (hb hby d1_6) e35 [(.ref a10)] [(.ref a10)] (lenOf own_pd3 rfl) (rm51 l Z a0 hw h0 a10 a37 S43)
 have z_K23c := K23c.1.1
 have sz_b28 : h0.size ≤ b28 := Nat.le_trans K0.1.1 lo_b28
 have K23 := own_kpTrans K0 K23c all0
 have E45 := (Exa.keep E41 K23c.1)
 have F46 := (Fld.keep F75 K23c.1 nin0)
 obtain ⟨T12, h12, X12, e12, W12, st12⟩ := putF X23 hx hZ hown (host := "") (Or.inl (own_wd hw 53 rfl)) Via.refl rfl F46 E45 (Or.inr ⟨(own_wd hw 54 rfl), rfl, hnm⟩) (own_wd hw 2 rfl) (ty := (.object own_s2)) (by decide) rfl rfl (g := (mkF m 9 l1 [(.ref b28), (.ref a10)])) rfl rfl (hb hby d1_9)
 have F12 := Fld.same W12 F46
 have K12 := own_kpWr K23 W12 (Or.inl (List.mem_of_getElem? (i := 0) rfl))
 have z_W12 := Nat.le_of_eq W12.size.symm
 have F47 := (Fld.other W12 (Fld.keep F76 K23c.1 nin0) (Or.inr (slot_ne (Or.inr (own_wd hw 56 rfl)) (Or.inr (own_wd hw 54 rfl)) (by decide) (t := (.object own_s7)) (t' := (.object own_s2)) (by decide) (by decide))))
 have E48 := (Exa.wr W12 E45)
 obtain ⟨T13, h13, X13, e13, W13, st13⟩ := putF X12 hx hZ hown (host := "") (Or.inl (own_wd hw 55 rfl)) Via.refl e12 F47 E48 (Or.inr ⟨(own_wd hw 56 rfl), rfl, hnm⟩) (own_wd hw 2 rfl) (ty := (.object own_s7)) (by decide) rfl rfl (g := (mkF m 14 l1 [.null, (.ref a10)])) rfl rfl (hb hby d1_14)
 have F13 := Fld.same W13 F47
 have K13 := own_kpWr K12 W13 (Or.inl (List.mem_of_getElem? (i := 0) rfl))
 have z_W13 := Nat.le_of_eq W13.size.symm
 have F49 := (Fld.other W13 (Fld.other W12 (Fld.keep F77 K23c.1 nin0) (Or.inr (slot_ne (Or.inr (own_wd hw 58 rfl)) (Or.inr (own_wd hw 54 rfl)) (by decide) (t := (.object own_s6)) (t' := (.object own_s2)) (by decide) (by decide)))) (Or.inr (slot_ne (Or.inr (own_wd hw 58 rfl)) (Or.inr (own_wd hw 56 rfl)) (by decide) (t := (.object own_s6)) (t' := (.object own_s7)) (by decide) (by decide))))
 have E50 := (Exa.wr W13 E48)
 obtain ⟨T14, h14, X14, e14, W14, st14⟩ := putF X13 hx hZ hown (host := "") (Or.inl (own_wd hw 57 rfl)) Via.refl e13 F49 E50 (Or.inr ⟨(own_wd hw 58 rfl), rfl, hnm⟩) (own_wd hw 2 rfl) (ty := (.object own_s6)) (by decide) rfl rfl (g := (mkF m 19 l1 [(.ref a26), (.ref a10)])) rfl rfl (hb hby d1_19)
 have F14 := Fld.same W14 F49
 have K14 := own_kpWr K13 W14 (Or.inl (List.mem_of_getElem? (i := 0) rfl))
 have z_W14 := Nat.le_of_eq W14.size.symm
 have F51 := (Fld.other W14 (Fld.other W13 (Fld.other W12 (Fld.keep F78 K23c.1 nin0) (Or.inr (slot_ne (Or.inr (own_wd hw 60 rfl)) (Or.inr (own_wd hw 54 rfl)) (by decide) (t := .int) (t' := (.object own_s2)) (by decide) (by decide)))) (Or.inr (slot_ne (Or.inr (own_wd hw 60 rfl)) (Or.inr (own_wd hw 56 rfl)) (by decide) (t := .int) (t' := (.object own_s7)) (by decide) (by decide)))) (Or.inr (slot_ne (Or.inr (own_wd hw 60 rfl)) (Or.inr (own_wd hw 58 rfl)) (by decide) (t := .int) (t' := (.object own_s6)) (by decide) (by decide))))
 have E52 := (Exa.wr W14 E50)
 obtain ⟨T15, h15, X15, e15, W15, st15⟩ := putF X14 hx hZ hown (host := "") (Or.inl (own_wd hw 59 rfl)) Via.refl e14 F51 E52 (Or.inr ⟨(own_wd hw 60 rfl), rfl, hnm⟩) (own_wd hw 2 rfl) (ty := .int) (by decide) rfl rfl (g := (mkF m 24 l1 [(.int p27), (.ref a10)])) rfl rfl (hb hby d1_24)
 have F15 := Fld.same W15 F51
 have K15 := own_kpWr K14 W15 (Or.inl (List.mem_of_getElem? (i := 0) rfl))
 have z_W15 := Nat.le_of_eq W15.size.symm
 have F53 := (Fld.other W15 (Fld.other W14 (Fld.other W13 (Fld.other W12 (Fld.keep F79 K23c.1 nin0) (Or.inr (slot_ne (Or.inl (own_wd hw 62 rfl)) (Or.inr (own_wd hw 54 rfl)) (by decide) (t := .int) (t' := (.object own_s2)) (by decide) (by decide)))) (Or.inr (slot_ne (Or.inl (own_wd hw 62 rfl)) (Or.inr (own_wd hw 56 rfl)) (by decide) (t := .int) (t' := (.object own_s7)) (by decide) (by decide)))) (Or.inr (slot_ne (Or.inl (own_wd hw 62 rfl)) (Or.inr (own_wd hw 58 rfl)) (by decide) (t := .int) (t' := (.object own_s6)) (by decide) (by decide)))) (Or.inr (slot_ne (Or.inl (own_wd hw 62 rfl)) (Or.inr (own_wd hw 60 rfl)) (by decide) (t := .int) (t' := .int) (by decide) (by decide))))
 have E54 := (Exa.wr W15 E52)
 obtain ⟨T16, h16, X16, e16, W16, st16⟩ := putF X15 hx hZ hown (host := "") (Or.inl (own_wd hw 61 rfl)) Via.refl e15 F53 E54 (Or.inl (own_wd hw 62 rfl)) (own_wd hw 2 rfl) (ty := .int) (by decide) rfl rfl (g := (mkF m 30 l1 [(.int p30), (.ref a10)])) rfl rfl (hb hby d1_30)
 have F16 := Fld.same W16 F53
 have K16 := own_kpWr K15 W16 (Or.inl (List.mem_of_getElem? (i := 0) rfl))
 have z_W16 := Nat.le_of_eq W16.size.symm
 have F55 := (Fld.other W16 (Fld.other W15 (Fld.other W14 (Fld.other W13 (Fld.other W12 (Fld.keep F80 K23c.1 nin0) (Or.inr (slot_ne (Or.inr (own_wd hw 64 rfl)) (Or.inr (own_wd hw 54 rfl)) (by decide) (t := (.object own_s10)) (t' := (.object own_s2)) (by decide) (by decide)))) (Or.inr (slot_ne (Or.inr (own_wd hw 64 rfl)) (Or.inr (own_wd hw 56 rfl)) (by decide) (t := (.object own_s10)) (t' := (.object own_s7)) (by decide) (by decide)))) (Or.inr (slot_ne (Or.inr (own_wd hw 64 rfl)) (Or.inr (own_wd hw 58 rfl)) (by decide) (t := (.object own_s10)) (t' := (.object own_s6)) (by decide) (by decide)))) (Or.inr (slot_ne (Or.inr (own_wd hw 64 rfl)) (Or.inr (own_wd hw 60 rfl)) (by decide) (t := (.object own_s10)) (t' := .int) (by decide) (by decide)))) (Or.inr (slot_ne (Or.inr (own_wd hw 64 rfl)) (Or.inl (own_wd hw 62 rfl)) (by decide) (t := (.object own_s10)) (t' := .int) (by decide) (by decide))))
 have E56 := (Exa.wr W16 E54)
 obtain ⟨T17, h17, X17, e17, W17, st17⟩ := putF X16 hx hZ hown (host := "") (Or.inl (own_wd hw 63 rfl)) Via.refl e16 F55 E56 (Or.inr ⟨(own_wd hw 64 rfl), rfl, hnm⟩) (own_wd hw 2 rfl) (ty := (.object own_s10)) (by decide) rfl rfl (g := (mkF m 36 l1 [.null, (.ref a10)])) rfl rfl (hb hby d1_36)
 have F17 := Fld.same W17 F55
 have K17 := own_kpWr K16 W17 (Or.inl (List.mem_of_getElem? (i := 0) rfl))
 have z_W17 := Nat.le_of_eq W17.size.symm
 have F57 := (Fld.other W17 (Fld.other W16 (Fld.other W15 (Fld.other W14 (Fld.other W13 (Fld.other W12 (Fld.keep F81 K23c.1 nin0) (Or.inr (slot_ne (Or.inr (own_wd hw 66 rfl)) (Or.inr (own_wd hw 54 rfl)) (by decide) (t := (.object own_s11)) (t' := (.object own_s2)) (by decide) (by decide)))) (Or.inr (slot_ne (Or.inr (own_wd hw 66 rfl)) (Or.inr (own_wd hw 56 rfl)) (by decide) (t := (.object own_s11)) (t' := (.object own_s7)) (by decide) (by decide)))) (Or.inr (slot_ne (Or.inr (own_wd hw 66 rfl)) (Or.inr (own_wd hw 58 rfl)) (by decide) (t := (.object own_s11)) (t' := (.object own_s6)) (by decide) (by decide)))) (Or.inr (slot_ne (Or.inr (own_wd hw 66 rfl)) (Or.inr (own_wd hw 60 rfl)) (by decide) (t := (.object own_s11)) (t' := .int) (by decide) (by decide)))) (Or.inr (slot_ne (Or.inr (own_wd hw 66 rfl)) (Or.inl (own_wd hw 62 rfl)) (by decide) (t := (.object own_s11)) (t' := .int) (by decide) (by decide)))) (Or.inr (slot_ne (Or.inr (own_wd hw 66 rfl)) (Or.inr (own_wd hw 64 rfl)) (by decide) (t := (.object own_s11)) (t' := (.object own_s10)) (by decide) (by decide))))
 have E58 := (Exa.wr W17 E56)
 obtain ⟨T18, h18, X18, e18, W18, st18⟩ := putF X17 hx hZ hown (host := "") (Or.inl (own_wd hw 65 rfl)) Via.refl e17 F57 E58 (Or.inr ⟨(own_wd hw 66 rfl), rfl, hnm⟩) (own_wd hw 2 rfl) (ty := (.object own_s11)) (by decide) rfl rfl (g := (mkF m 42 l1 [.null, (.ref a10)])) rfl rfl (hb hby d1_42)
 have F18 := Fld.same W18 F57
 have K18 := own_kpWr K17 W18 (Or.inl (List.mem_of_getElem? (i := 0) rfl))
 have z_W18 := Nat.le_of_eq W18.size.symm
 have F59 := (Fld.other W18 (Fld.other W17 (Fld.other W16 (Fld.other W15 (Fld.other W14 (Fld.other W13 (Fld.other W12 (Fld.keep F82 K23c.1 nin0) (Or.inr (slot_ne (Or.inl (own_wd hw 68 rfl)) (Or.inr (own_wd hw 54 rfl)) (by decide) (t := (.object own_s2)) (t' := (.object own_s2)) (by decide) (by decide)))) (Or.inr (slot_ne (Or.inl (own_wd hw 68 rfl)) (Or.inr (own_wd hw 56 rfl)) (by decide) (t := (.object own_s2)) (t' := (.object own_s7)) (by decide) (by decide)))) (Or.inr (slot_ne (Or.inl (own_wd hw 68 rfl)) (Or.inr (own_wd hw 58 rfl)) (by decide) (t := (.object own_s2)) (t' := (.object own_s6)) (by decide) (by decide)))) (Or.inr (slot_ne (Or.inl (own_wd hw 68 rfl)) (Or.inr (own_wd hw 60 rfl)) (by decide) (t := (.object own_s2)) (t' := .int) (by decide) (by decide)))) (Or.inr (slot_ne (Or.inl (own_wd hw 68 rfl)) (Or.inl (own_wd hw 62 rfl)) (by decide) (t := (.object own_s2)) (t' := .int) (by decide) (by decide)))) (Or.inr (slot_ne (Or.inl (own_wd hw 68 rfl)) (Or.inr (own_wd hw 64 rfl)) (by decide) (t := (.object own_s2)) (t' := (.object own_s10)) (by decide) (by decide)))) (Or.inr (slot_ne (Or.inl (own_wd hw 68 rfl)) (Or.inr (own_wd hw 66 rfl)) (by decide) (t := (.object own_s2)) (t' := (.object own_s11)) (by decide) (by decide))))
 have E60 := (Exa.wr W18 E58)
 obtain ⟨T19, h19, X19, e19, W19, st19⟩ := putF X18 hx hZ hown (host := "") (Or.inl (own_wd hw 67 rfl)) Via.refl e18 F59 E60 (Or.inl (own_wd hw 68 rfl)) (own_wd hw 2 rfl) (ty := (.object own_s2)) (by decide) rfl rfl (g := (mkF m 48 l1 [.null, (.ref a10)])) rfl rfl (hb hby d1_48)
 have F19 := Fld.same W19 F59
 have K19 := own_kpWr K18 W19 (Or.inl (List.mem_of_getElem? (i := 0) rfl))
 have z_W19 := Nat.le_of_eq W19.size.symm
 have F61 := (Fld.other W19 (Fld.other W18 (Fld.other W17 (Fld.other W16 (Fld.other W15 (Fld.other W14 (Fld.other W13 (Fld.other W12 (Fld.keep F83 K23c.1 nin0) (Or.inr (slot_ne (Or.inr (own_wd hw 70 rfl)) (Or.inr (own_wd hw 54 rfl)) (by decide) (t := .long) (t' := (.object own_s2)) (by decide) (by decide)))) (Or.inr (slot_ne (Or.inr (own_wd hw 70 rfl)) (Or.inr (own_wd hw 56 rfl)) (by decide) (t := .long) (t' := (.object own_s7)) (by decide) (by decide)))) (Or.inr (slot_ne (Or.inr (own_wd hw 70 rfl)) (Or.inr (own_wd hw 58 rfl)) (by decide) (t := .long) (t' := (.object own_s6)) (by decide) (by decide)))) (Or.inr (slot_ne (Or.inr (own_wd hw 70 rfl)) (Or.inr (own_wd hw 60 rfl)) (by decide) (t := .long) (t' := .int) (by decide) (by decide)))) (Or.inr (slot_ne (Or.inr (own_wd hw 70 rfl)) (Or.inl (own_wd hw 62 rfl)) (by decide) (t := .long) (t' := .int) (by decide) (by decide)))) (Or.inr (slot_ne (Or.inr (own_wd hw 70 rfl)) (Or.inr (own_wd hw 64 rfl)) (by decide) (t := .long) (t' := (.object own_s10)) (by decide) (by decide)))) (Or.inr (slot_ne (Or.inr (own_wd hw 70 rfl)) (Or.inr (own_wd hw 66 rfl)) (by decide) (t := .long) (t' := (.object own_s11)) (by decide) (by decide)))) (Or.inr (slot_ne (Or.inr (own_wd hw 70 rfl)) (Or.inl (own_wd hw 68 rfl)) (by decide) (t := .long) (t' := (.object own_s2)) (by decide) (by decide))))
 have E62 := (Exa.wr W19 E60)
 obtain ⟨T11, h11, X11, e11, W11, st11⟩ := putF X19 hx hZ hown (host := "") (Or.inl (own_wd hw 69 rfl)) Via.refl e19 F61 E62 (Or.inr ⟨(own_wd hw 70 rfl), rfl, hnm⟩) (own_wd hw 2 rfl) (ty := .long) (by decide) rfl rfl (g := (mkF m 54 l1 [(.long 0), (.ref a10)])) rfl rfl (hb hby d1_54)
 have F11 := Fld.same W11 F61
 have K11 := own_kpWr K19 W11 (Or.inl (List.mem_of_getElem? (i := 0) rfl))
 have z_W11 := Nat.le_of_eq W11.size.symm
 have F63 := (Fld.other W11 (Fld.other W19 (Fld.other W18 (Fld.other W17 (Fld.other W16 (Fld.other W15 F14 (Or.inr (slot_ne (Or.inr (own_wd hw 58 rfl)) (Or.inr (own_wd hw 60 rfl)) (by decide) (t := (.object own_s6)) (t' := .int) (by decide) (by decide)))) (Or.inr (slot_ne (Or.inr (own_wd hw 58 rfl)) (Or.inl (own_wd hw 62 rfl)) (by decide) (t := (.object own_s6)) (t' := .int) (by decide) (by decide)))) (Or.inr (slot_ne (Or.inr (own_wd hw 58 rfl)) (Or.inr (own_wd hw 64 rfl)) (by decide) (t := (.object own_s6)) (t' := (.object own_s10)) (by decide) (by decide)))) (Or.inr (slot_ne (Or.inr (own_wd hw 58 rfl)) (Or.inr (own_wd hw 66 rfl)) (by decide) (t := (.object own_s6)) (t' := (.object own_s11)) (by decide) (by decide)))) (Or.inr (slot_ne (Or.inr (own_wd hw 58 rfl)) (Or.inl (own_wd hw 68 rfl)) (by decide) (t := (.object own_s6)) (t' := (.object own_s2)) (by decide) (by decide)))) (Or.inr (slot_ne (Or.inr (own_wd hw 58 rfl)) (Or.inr (own_wd hw 70 rfl)) (by decide) (t := (.object own_s6)) (t' := .long) (by decide) (by decide))))
 have S91 := (Sta.wr W11 (Sta.wr W19 (Sta.wr W18 (Sta.wr W17 (Sta.wr W16 (Sta.wr W15 (Sta.wr W14 (Sta.wr W13 (Sta.wr W12 (own_kpSta K23c S84))))))))))
 have S92 := (Sta.wr W11 (Sta.wr W19 (Sta.wr W18 (Sta.wr W17 (Sta.wr W16 (Sta.wr W15 (Sta.wr W14 (Sta.wr W13 (Sta.wr W12 (own_kpSta K23c S86))))))))))
 have F64 := (Fld.other W11 (Fld.other W19 (Fld.other W18 (Fld.other W17 (Fld.other W16 (Fld.other W15 (Fld.other W14 (Fld.other W13 F12 (Or.inr (slot_ne (Or.inr (own_wd hw 54 rfl)) (Or.inr (own_wd hw 56 rfl)) (by decide) (t := (.object own_s2)) (t' := (.object own_s7)) (by decide) (by decide)))) (Or.inr (slot_ne (Or.inr (own_wd hw 54 rfl)) (Or.inr (own_wd hw 58 rfl)) (by decide) (t := (.object own_s2)) (t' := (.object own_s6)) (by decide) (by decide)))) (Or.inr (slot_ne (Or.inr (own_wd hw 54 rfl)) (Or.inr (own_wd hw 60 rfl)) (by decide) (t := (.object own_s2)) (t' := .int) (by decide) (by decide)))) (Or.inr (slot_ne (Or.inr (own_wd hw 54 rfl)) (Or.inl (own_wd hw 62 rfl)) (by decide) (t := (.object own_s2)) (t' := .int) (by decide) (by decide)))) (Or.inr (slot_ne (Or.inr (own_wd hw 54 rfl)) (Or.inr (own_wd hw 64 rfl)) (by decide) (t := (.object own_s2)) (t' := (.object own_s10)) (by decide) (by decide)))) (Or.inr (slot_ne (Or.inr (own_wd hw 54 rfl)) (Or.inr (own_wd hw 66 rfl)) (by decide) (t := (.object own_s2)) (t' := (.object own_s11)) (by decide) (by decide)))) (Or.inr (slot_ne (Or.inr (own_wd hw 54 rfl)) (Or.inl (own_wd hw 68 rfl)) (by decide) (t := (.object own_s2)) (t' := (.object own_s2)) (by decide) (by decide)))) (Or.inr (slot_ne (Or.inr (own_wd hw 54 rfl)) (Or.inr (own_wd hw 70 rfl)) (by decide) (t := (.object own_s2)) (t' := .long) (by decide) (by decide))))
 have E65 := (Exa.wr W11 E62)
 let l2 : Array Slot := #[.val (.ref a10), .val .null, .val (.ref a26), .val (.int p27), .val (.int p30), .val .null, .val .null, .val .null, .val (.long 0), .second, .val (.long 0), .second, .unset, .unset]
 obtain ⟨_, T36, L36, X36, ⟨rfl, rfl, e36⟩, st36⟩ := own_cv X11 hx hZ hown (own_w175 hw) hml (g := (mkF m 61 l2 [(.ref a10)])) (hb hby d1_61) e11 E65 [] [] (lenOf own_pd4 rfl) (rm142 l Z a0 hw h11 a10 a26 a38 a39 b28 F63 S91 ne85 S92 ne87 F64)
 have ne24 := own_nl E41.lt (Nat.le_refl _) lo_b28
 have F66 := (Fld.other W11 (Fld.other W19 (Fld.other W18 (Fld.other W17 (Fld.other W16 (Fld.other W15 (Fld.other W14 (Fld.other W13 (Fld.other W12 F90 (Or.inl (Ne.symm ne24))) (Or.inl (Ne.symm ne24))) (Or.inl (Ne.symm ne24))) (Or.inl (Ne.symm ne24))) (Or.inl (Ne.symm ne24))) (Or.inl (Ne.symm ne24))) (Or.inl (Ne.symm ne24))) (Or.inl (Ne.symm ne24))) (Or.inl (Ne.symm ne24)))
 have S93 := (Sta.wr W11 (Sta.wr W19 (Sta.wr W18 (Sta.wr W17 (Sta.wr W16 (Sta.wr W15 (Sta.wr W14 (Sta.wr W13 (Sta.wr W12 (own_kpSta K23c S43))))))))))
 have E42 := (Exa.wr W11 (Exa.wr W19 (Exa.wr W18 (Exa.wr W17 (Exa.wr W16 (Exa.wr W15 (Exa.wr W14 (Exa.wr W13 (Exa.wr W12 E44)))))))))
 obtain ⟨_, T20, L20, X20, ⟨b25, rfl, K20c, lo_b25, E40, F94, F67, F68, F95⟩, st20⟩ := own_interface X36 hx hZ (y := (⟨own_s2, "iterator", "()Ljava/util/Iterator;"⟩ : MethodName)) (z := (⟨own_s14, "iterator", "()Ljava/util/Iterator;"⟩ : MethodName)) (C := own_s4) hown (own_wd hw 80 rfl) (own_wd hw 81 rfl) (own_wd hw 82 rfl) (own_wd hw 83 rfl) (own_wd hw 84 rfl) (own_wd hw 85 rfl) (own_wd hw 86 rfl) (own_wd hw 87 rfl) (own_wd hw 28 rfl) (own_wd hw 88 rfl) (by decide) 0 (argsL := []) (rest := []) (rm177 l Z a0 hw h11 b28 a37 F66 S93 E42) (by decide) (by decide) E42 (g := (mkF m 64 l2 [(.ref b28)])) rfl (by rw [hml]; rfl) (lenOf own_pd7 rfl) rfl (by show 2 * 0 + _ ≤ _; exact Nat.le_of_eq rfl) (hb hby d1_64) e36 (by decide) (by decide)
 have z_K20c := K20c.1.1
 have sz_b25 : h0.size ≤ b25 := Nat.le_trans K11.1.1 lo_b25
 have K20 := own_kpTrans K11 K20c all0
 let l3 : Array Slot := #[.val (.ref a10), .val .null, .val (.ref a26), .val (.int p27), .val (.int p30), .val .null, .val .null, .val .null, .val (.long 0), .second, .val (.long 0), .second, .val (.ref b25), .unset]
 obtain ⟨_, T34, L34, X34, ⟨rfl, rfl, e34⟩, st34⟩ := own_interface X20 hx hZ (y := (⟨"java/util/Iterator", "hasNext", "()Z"⟩ : MethodName)) (z := (⟨own_s3, "hasNext", "()Z"⟩ : MethodName)) (C := own_s3) hown (own_wd hw 111 rfl) (own_wd hw 112 rfl) (own_wd hw 113 rfl) (own_wd hw 114 rfl) (own_wd hw 115 rfl) (own_wd hw 116 rfl) (own_wd hw 117 rfl) (own_wd hw 118 rfl) (own_wd hw 91 rfl) (own_wd hw 119 rfl) (by decide) 0 (argsL := []) (rest := []) (rm239 l Z a0 hw T20.heap b25 F68 F67) (by decide) (by decide) E40 (g := (mkF m 73 l3 [(.ref b25)])) rfl (by rw [hml]; rfl) (lenOf own_pd8 rfl) rfl (by show 2 * 0 + _ ≤ _; exact Nat.le_of_eq rfl) (hb hby d1_73) rfl (by decide) (by decide)
 have F69 := (Fld.keep (Fld.other W11 (Fld.other W19 (Fld.other W18 (Fld.other W17 (Fld.other W16 (Fld.other W15 (Fld.other W14 (Fld.other W13 (Fld.other W12 F89 (Or.inl (Ne.symm ne24))) (Or.inl (Ne.symm ne24))) (Or.inl (Ne.symm ne24))) (Or.inl (Ne.symm ne24))) (Or.inl (Ne.symm ne24))) (Or.inl (Ne.symm ne24))) (Or.inl (Ne.symm ne24))) (Or.inl (Ne.symm ne24))) (Or.inl (Ne.symm ne24))) K20c.1 nin0)
 have E70 := (Exa.keep E42 K20c.1)
 obtain ⟨_, T22, L22, X22, ⟨rfl, K22c, F96, F111, F97, F112⟩, st22⟩ := own_interfaceW X34 hx hZ (y := (⟨"java/util/Iterator", "next", "()Ljava/lang/Object;"⟩ : MethodName)) (z := (⟨own_s3, "next", "()Ljava/lang/Object;"⟩ : MethodName)) (C := own_s3) hown (own_wd hw 120 rfl) (own_wd hw 121 rfl) (own_wd hw 122 rfl) (own_wd hw 123 rfl) (own_wd hw 124 rfl) (own_wd hw 125 rfl) (own_wd hw 126 rfl) (own_wd hw 118 rfl) (own_wd hw 91 rfl) (own_wd hw 127 rfl) (by decide) 0 (argsL := []) (rest := []) (rm246 l Z a0 hw T20.heap b25 b28 a10 F68 F94 F69 E70 E40 F67 F95) (by decide) (by decide) E40 (g := (mkF m 83 l3 [(.ref b25)])) rfl (by rw [hml]; rfl) (lenOf own_pd10 rfl) rfl (by show 2 * 0 + _ ≤ _; exact Nat.le_of_eq rfl) (hb hby d1_83) e34 (by decide) (by decide)
 have z_K22c := K22c.1.1
 have K22 := own_kpTrans K20 K22c (allS (Or.inr sz_b25) all0)
 have E71 := (Exa.keep (Exa.keep E65 K20c.1) K22c.1)
 obtain ⟨T31, X31, e31, st31⟩ := castY X22 hx hZ hown (own_wd hw 136 rfl) rfl (Ins.self E71) (g := (mkF m 88 l3 [(.ref a10)])) rfl rfl (hb hby d1_88)
 have ne32 := own_nl E41.lt (Nat.le_trans (Nat.le_trans (Nat.le_trans (Nat.le_trans (Nat.le_trans (Nat.le_trans (Nat.le_trans (Nat.le_trans (Nat.le_trans z_K23c z_W12) z_W13) z_W14) z_W15) z_W16) z_W17) z_W18) z_W19) z_W11) lo_b25
 have F72 := (Fld.keep (Fld.keep (Fld.other W11 (Fld.other W19 (Fld.other W18 (Fld.other W17 (Fld.other W16 F15 (Or.inr (slot_ne (Or.inr (own_wd hw 60 rfl)) (Or.inl (own_wd hw 62 rfl)) (by decide) (t := .int) (t' := .int) (by decide) (by decide)))) (Or.inr (slot_ne (Or.inr (own_wd hw 60 rfl)) (Or.inr (own_wd hw 64 rfl)) (by decide) (t := .int) (t' := (.object own_s10)) (by decide) (by decide)))) (Or.inr (slot_ne (Or.inr (own_wd hw 60 rfl)) (Or.inr (own_wd hw 66 rfl)) (by decide) (t := .int) (t' := (.object own_s11)) (by decide) (by decide)))) (Or.inr (slot_ne (Or.inr (own_wd hw 60 rfl)) (Or.inl (own_wd hw 68 rfl)) (by decide) (t := .int) (t' := (.object own_s2)) (by decide) (by decide)))) (Or.inr (slot_ne (Or.inr (own_wd hw 60 rfl)) (Or.inr (own_wd hw 70 rfl)) (by decide) (t := .int) (t' := .long) (by decide) (by decide)))) K20c.1 nin0) K22c.1 (ninS ne32 nin0))
 let l4 : Array Slot := #[.val (.ref a10), .val .null, .val (.ref a26), .val (.int p27), .val (.int p30), .val .null, .val .null, .val .null, .val (.long 0), .second, .val (.long 0), .second, .val (.ref b25), .val (.ref a10)]
 obtain ⟨T29, X29, e29, st29⟩ := own_gF X31 hx hZ hown hby (own_wd hw 59 rfl) e31 F72 d1_98 l4 [(.long 1), (.long 0)]
 let l5 : Array Slot := #[.val (.ref a10), .val .null, .val (.ref a26), .val (.int p27), .val (.int p30), .val .null, .val .null, .val .null, .val (.long 0), .second, .val (.long ((0 : Int64) ||| ((1 : Int64) <<< (p27 &&& 0x3f).toInt64))), .second, .val (.ref b25), .val (.ref a10)]
 refine own_go (T2 := T29) (g2 := (mkF m 105 l5 [])) (fun t k => z_aloadN X0 hx hby d1_0 rfl rfl (st35 _ (z_aloadN X35 hx hby d1_4 rfl rfl (z_aloadN X35 hx hby d1_5 rfl rfl (st23 _ (st12 _ (z_aloadN X12 hx hby d1_12 rfl rfl (z_aloadN X12 hx hby d1_13 rfl rfl (st13 _ (z_aloadN X13 hx hby d1_17 rfl rfl (z_aloadN X13 hx hby d1_18 rfl rfl (st14 _ (z_aloadN X14 hx hby d1_22 rfl rfl (z_iloadN X14 hx hby d1_23 rfl (st15 _ (z_aloadN X15 hx hby d1_27 rfl rfl (z_iload X15 hx hby d1_28 rfl (st16 _ (z_aloadN X16 hx hby d1_33 rfl rfl (z_aload X16 hx hby d1_34 rfl rfl (st17 _ (z_aloadN X17 hx hby d1_39 rfl rfl (z_aload X17 hx hby d1_40 rfl rfl (st18 _ (z_aloadN X18 hx hby d1_45 rfl rfl (z_aload X18 hx hby d1_46 rfl rfl (st19 _ (z_aloadN X19 hx hby d1_51 rfl rfl (XS.lload X19.here hx rfl (hb hby d1_52) rfl  (st11 _ (XS.lconst X11.here hx rfl (hb hby d1_57) (XS.lstore X11.here hx rfl (hb hby d1_58) rfl (l' := l2) rfl (z_aloadN X11 hx hby d1_60 rfl rfl (st36 _ (st20 _ (z_astore X20 hx hby d1_69 rfl l3 rfl (z_aload X20 hx hby d1_71 rfl rfl (st34 _ (z_ifNo X34 hx hby d1_78 ((if0 _ _).trans (feq (show ¬ ((1 : Int32) = 0) from (by decide))).1) (z_aload X34 hx hby d1_81 rfl rfl (st22 _ (st31 _ (z_astore X31 hx hby d1_91 rfl l4 rfl (XS.lload X31.here hx rfl (hb hby d1_93) rfl  (XS.lconst X31.here hx rfl (hb hby d1_95) (z_aload X31 hx hby d1_96 rfl rfl (st29 _ (XS.lshl X29.here hx rfl (hb hby d1_101) rfl (XS.lor X29.here hx rfl (hb hby d1_102) rfl (XS.lstore X29.here hx rfl (hb hby d1_103) rfl (l' := l5) rfl k)))))))))))))))))))))))))))))))))))))))))))))))))) ?_
 have E98 := (Exa.keep E40 K22c.1)
 obtain ⟨_, T33, L33, X33, ⟨rfl, rfl, e33⟩, st33⟩ := own_interface X29 hx hZ (y := (⟨"java/util/Iterator", "hasNext", "()Z"⟩ : MethodName)) (z := (⟨own_s3, "hasNext", "()Z"⟩ : MethodName)) (C := own_s3) hown (own_wd hw 111 rfl) (own_wd hw 112 rfl) (own_wd hw 113 rfl) (own_wd hw 114 rfl) (own_wd hw 115 rfl) (own_wd hw 116 rfl) (own_wd hw 117 rfl) (own_wd hw 118 rfl) (own_wd hw 91 rfl) (own_wd hw 119 rfl) (by decide) 0 (argsL := []) (rest := []) (rm281 l Z a0 hw T22.heap b25 F96 F97) (by decide) (by decide) E98 (g := (mkF m 73 l5 [(.ref b25)])) rfl (by rw [hml]; rfl) (lenOf own_pd8 rfl) rfl (by show 2 * 0 + _ ≤ _; exact Nat.le_of_eq rfl) (hb hby d1_73) e29 (by decide) (by decide)
 have F73 := (Fld.keep (Fld.keep (Fld.other W11 (Fld.other W19 (Fld.other W18 (Fld.other W17 (Fld.other W16 (Fld.other W15 (Fld.other W14 (Fld.other W13 (Fld.other W12 (Fld.keep F88 K23c.1 nin0) (Or.inr (slot_ne (Or.inr (own_wd hw 139 rfl)) (Or.inr (own_wd hw 54 rfl)) (by decide) (t := .long) (t' := (.object own_s2)) (by decide) (by decide)))) (Or.inr (slot_ne (Or.inr (own_wd hw 139 rfl)) (Or.inr (own_wd hw 56 rfl)) (by decide) (t := .long) (t' := (.object own_s7)) (by decide) (by decide)))) (Or.inr (slot_ne (Or.inr (own_wd hw 139 rfl)) (Or.inr (own_wd hw 58 rfl)) (by decide) (t := .long) (t' := (.object own_s6)) (by decide) (by decide)))) (Or.inr (slot_ne (Or.inr (own_wd hw 139 rfl)) (Or.inr (own_wd hw 60 rfl)) (by decide) (t := .long) (t' := .int) (by decide) (by decide)))) (Or.inr (slot_ne (Or.inr (own_wd hw 139 rfl)) (Or.inl (own_wd hw 62 rfl)) (by decide) (t := .long) (t' := .int) (by decide) (by decide)))) (Or.inr (slot_ne (Or.inr (own_wd hw 139 rfl)) (Or.inr (own_wd hw 64 rfl)) (by decide) (t := .long) (t' := (.object own_s10)) (by decide) (by decide)))) (Or.inr (slot_ne (Or.inr (own_wd hw 139 rfl)) (Or.inr (own_wd hw 66 rfl)) (by decide) (t := .long) (t' := (.object own_s11)) (by decide) (by decide)))) (Or.inr (slot_ne (Or.inr (own_wd hw 139 rfl)) (Or.inl (own_wd hw 68 rfl)) (by decide) (t := .long) (t' := (.object own_s2)) (by decide) (by decide)))) (Or.inr (slot_ne (Or.inr (own_wd hw 139 rfl)) (Or.inr (own_wd hw 70 rfl)) (by decide) (t := .long) (t' := .long) (by decide) (by decide)))) K20c.1 nin0) K22c.1 (ninS ne32 nin0))
 obtain ⟨T21, h21, X21, e21, W21, st21⟩ := putF X33 hx hZ hown (host := "") (Or.inl (own_wd hw 138 rfl)) Via.refl e33 F73 E71 (Or.inr ⟨(own_wd hw 139 rfl), rfl, hnm⟩) (own_wd hw 2 rfl) (ty := .long) (by decide) rfl rfl (g := (mkF m 111 l5 [(.long ((0 : Int64) ||| ((1 : Int64) <<< (p27 &&& 0x3f).toInt64))), (.ref a10)])) rfl rfl (hb hby d1_111)
 have F21 := Fld.same W21 F73
 have K21 := own_kpWr K22 W21 (Or.inl (List.mem_of_getElem? (i := 0) rfl))
 have z_W21 := Nat.le_of_eq W21.size.symm
 have F99 := (Fld.other W21 (Fld.keep (Fld.keep F64 K20c.1 nin0) K22c.1 (ninS ne32 nin0)) (Or.inr (slot_ne (Or.inr (own_wd hw 54 rfl)) (Or.inr (own_wd hw 139 rfl)) (by decide) (t := (.object own_s2)) (t' := .long) (by decide) (by decide))))
 have F100 := (Fld.other W21 (Fld.keep (Fld.keep (Fld.other W11 (Fld.other W19 (Fld.other W18 (Fld.other W17 (Fld.other W16 (Fld.other W15 (Fld.other W14 F13 (Or.inr (slot_ne (Or.inr (own_wd hw 56 rfl)) (Or.inr (own_wd hw 58 rfl)) (by decide) (t := (.object own_s7)) (t' := (.object own_s6)) (by decide) (by decide)))) (Or.inr (slot_ne (Or.inr (own_wd hw 56 rfl)) (Or.inr (own_wd hw 60 rfl)) (by decide) (t := (.object own_s7)) (t' := .int) (by decide) (by decide)))) (Or.inr (slot_ne (Or.inr (own_wd hw 56 rfl)) (Or.inl (own_wd hw 62 rfl)) (by decide) (t := (.object own_s7)) (t' := .int) (by decide) (by decide)))) (Or.inr (slot_ne (Or.inr (own_wd hw 56 rfl)) (Or.inr (own_wd hw 64 rfl)) (by decide) (t := (.object own_s7)) (t' := (.object own_s10)) (by decide) (by decide)))) (Or.inr (slot_ne (Or.inr (own_wd hw 56 rfl)) (Or.inr (own_wd hw 66 rfl)) (by decide) (t := (.object own_s7)) (t' := (.object own_s11)) (by decide) (by decide)))) (Or.inr (slot_ne (Or.inr (own_wd hw 56 rfl)) (Or.inl (own_wd hw 68 rfl)) (by decide) (t := (.object own_s7)) (t' := (.object own_s2)) (by decide) (by decide)))) (Or.inr (slot_ne (Or.inr (own_wd hw 56 rfl)) (Or.inr (own_wd hw 70 rfl)) (by decide) (t := (.object own_s7)) (t' := .long) (by decide) (by decide)))) K20c.1 nin0) K22c.1 (ninS ne32 nin0)) (Or.inr (slot_ne (Or.inr (own_wd hw 56 rfl)) (Or.inr (own_wd hw 139 rfl)) (by decide) (t := (.object own_s7)) (t' := .long) (by decide) (by decide))))
 have F101 := (Fld.other W21 (Fld.keep (Fld.keep F63 K20c.1 nin0) K22c.1 (ninS ne32 nin0)) (Or.inr (slot_ne (Or.inr (own_wd hw 58 rfl)) (Or.inr (own_wd hw 139 rfl)) (by decide) (t := (.object own_s6)) (t' := .long) (by decide) (by decide))))
 have F102 := (Fld.other W21 F72 (Or.inr (slot_ne (Or.inr (own_wd hw 60 rfl)) (Or.inr (own_wd hw 139 rfl)) (by decide) (t := .int) (t' := .long) (by decide) (by decide))))
 have F103 := (Fld.other W21 (Fld.keep (Fld.keep (Fld.other W11 (Fld.other W19 (Fld.other W18 (Fld.other W17 F16 (Or.inr (slot_ne (Or.inl (own_wd hw 62 rfl)) (Or.inr (own_wd hw 64 rfl)) (by decide) (t := .int) (t' := (.object own_s10)) (by decide) (by decide)))) (Or.inr (slot_ne (Or.inl (own_wd hw 62 rfl)) (Or.inr (own_wd hw 66 rfl)) (by decide) (t := .int) (t' := (.object own_s11)) (by decide) (by decide)))) (Or.inr (slot_ne (Or.inl (own_wd hw 62 rfl)) (Or.inl (own_wd hw 68 rfl)) (by decide) (t := .int) (t' := (.object own_s2)) (by decide) (by decide)))) (Or.inr (slot_ne (Or.inl (own_wd hw 62 rfl)) (Or.inr (own_wd hw 70 rfl)) (by decide) (t := .int) (t' := .long) (by decide) (by decide)))) K20c.1 nin0) K22c.1 (ninS ne32 nin0)) (Or.inr (slot_ne (Or.inl (own_wd hw 62 rfl)) (Or.inr (own_wd hw 139 rfl)) (by decide) (t := .int) (t' := .long) (by decide) (by decide))))
 have F104 := (Fld.other W21 (Fld.keep (Fld.keep (Fld.other W11 (Fld.other W19 (Fld.other W18 F17 (Or.inr (slot_ne (Or.inr (own_wd hw 64 rfl)) (Or.inr (own_wd hw 66 rfl)) (by decide) (t := (.object own_s10)) (t' := (.object own_s11)) (by decide) (by decide)))) (Or.inr (slot_ne (Or.inr (own_wd hw 64 rfl)) (Or.inl (own_wd hw 68 rfl)) (by decide) (t := (.object own_s10)) (t' := (.object own_s2)) (by decide) (by decide)))) (Or.inr (slot_ne (Or.inr (own_wd hw 64 rfl)) (Or.inr (own_wd hw 70 rfl)) (by decide) (t := (.object own_s10)) (t' := .long) (by decide) (by decide)))) K20c.1 nin0) K22c.1 (ninS ne32 nin0)) (Or.inr (slot_ne (Or.inr (own_wd hw 64 rfl)) (Or.inr (own_wd hw 139 rfl)) (by decide) (t := (.object own_s10)) (t' := .long) (by decide) (by decide))))
 have F105 := (Fld.other W21 (Fld.keep (Fld.keep (Fld.other W11 (Fld.other W19 F18 (Or.inr (slot_ne (Or.inr (own_wd hw 66 rfl)) (Or.inl (own_wd hw 68 rfl)) (by decide) (t := (.object own_s11)) (t' := (.object own_s2)) (by decide) (by decide)))) (Or.inr (slot_ne (Or.inr (own_wd hw 66 rfl)) (Or.inr (own_wd hw 70 rfl)) (by decide) (t := (.object own_s11)) (t' := .long) (by decide) (by decide)))) K20c.1 nin0) K22c.1 (ninS ne32 nin0)) (Or.inr (slot_ne (Or.inr (own_wd hw 66 rfl)) (Or.inr (own_wd hw 139 rfl)) (by decide) (t := (.object own_s11)) (t' := .long) (by decide) (by decide))))
 have F106 := (Fld.other W21 (Fld.keep (Fld.keep (Fld.other W11 F19 (Or.inr (slot_ne (Or.inl (own_wd hw 68 rfl)) (Or.inr (own_wd hw 70 rfl)) (by decide) (t := (.object own_s2)) (t' := .long) (by decide) (by decide)))) K20c.1 nin0) K22c.1 (ninS ne32 nin0)) (Or.inr (slot_ne (Or.inl (own_wd hw 68 rfl)) (Or.inr (own_wd hw 139 rfl)) (by decide) (t := (.object own_s2)) (t' := .long) (by decide) (by decide))))
 have F107 := (Fld.other W21 (Fld.keep (Fld.keep F11 K20c.1 nin0) K22c.1 (ninS ne32 nin0)) (Or.inr (slot_ne (Or.inr (own_wd hw 70 rfl)) (Or.inr (own_wd hw 139 rfl)) (by decide) (t := .long) (t' := .long) (by decide) (by decide))))
 have E108 := (Exa.wr W21 (Exa.keep E70 K22c.1))
 have ne74 := own_nl E44.lt (Nat.le_trans (Nat.le_trans (Nat.le_trans (Nat.le_trans (Nat.le_trans (Nat.le_trans (Nat.le_trans (Nat.le_trans z_W12 z_W13) z_W14) z_W15) z_W16) z_W17) z_W18) z_W19) z_W11) lo_b25
 have F109 := (Fld.other W21 (Fld.keep F69 K22c.1 (ninS ne74 nin0)) (Or.inl (Ne.symm ne24)))
 have F110 := (Fld.other W21 (Fld.keep (Fld.keep F66 K20c.1 nin0) K22c.1 (ninS ne74 nin0)) (Or.inl (Ne.symm ne24)))
 refine own_go (T2 := T21) (g2 := (mkF m 114 l5 [])) (fun t k => z_goto X29 hx hby 71 d1_105 rfl (z_aload X29 hx hby d1_71 rfl rfl (st33 _ (z_ifYes X33 hx hby 108 d1_78 ((if0 _ _).trans (teq (show (0 : Int32) = 0 from (by decide))).1) rfl (z_aloadN X33 hx hby d1_108 rfl rfl (XS.lload X33.here hx rfl (hb hby d1_109) rfl  (st21 _ k))))))) ?_
 exact own_endV X21 hx Bd.notSynchronized Bd.returns (hb hby d1_114) (by decide) (by decide) (by rw [e21]; exact ⟨b28, rfl, (by simpa only [List.append_nil] using K21), sz_b28, F99, F100, F101, F102, F103, F104, F105, F106, F107, F21, E108, F109, F110⟩)
theorem own_pd11 : parseMethodDescriptor own_s31 = some ⟨[(.object own_s7), (.object own_s6), .int, .int, (.object own_s10), (.object own_s11), (.object own_s2), .long], none⟩ := by decide +kernel
theorem own_w318 {Z : State} {a0 : Array Value} (hw : ∀ d ∈ tables_1, d.before a0 Z = true) : own_IW Z a0 own_s18 16 (⟨own_s0, "<init>", own_s31⟩ : MethodName) prog_2_method_1_code 14 := ⟨rfl, (own_wd hw 7 rfl), (own_wd hw 8 rfl), (own_wd hw 3 rfl), (own_wd hw 9 rfl), (by decide)⟩
abbrev c_7_1 := prog_7_method_1_code
theorem d16_0 : decode c_7_1 0 = .ok (.aload_n 0, 1) := by decide +kernel
theorem d16_1 : decode c_7_1 1 = .ok (.invokespecial 1, 3) := by decide +kernel
theorem d16_4 : decode c_7_1 4 = .ok (.aload_n 0, 1) := by decide +kernel
theorem d16_5 : decode c_7_1 5 = .ok (.bipush 32, 2) := by decide +kernel
theorem d16_7 : decode c_7_1 7 = .ok (.newarray .int, 2) := by decide +kernel
theorem d16_9 : decode c_7_1 9 = .ok (.putfield 9, 3) := by decide +kernel
theorem d16_12 : decode c_7_1 12 = .ok (.aload_n 0, 1) := by decide +kernel
theorem d16_13 : decode c_7_1 13 = .ok (.bipush 32, 2) := by decide +kernel
theorem d16_15 : decode c_7_1 15 = .ok (.newarray .int, 2) := by decide +kernel
theorem d16_17 : decode c_7_1 17 = .ok (.putfield 13, 3) := by decide +kernel
theorem d16_20 : decode c_7_1 20 = .ok (.return_, 1) := by decide +kernel
def own_Q416 (Z : State) (h0 : Heap) (a417 : Addr) (v : Option Value) (h : Heap) (L : List Loc) : Prop := ∃ (b419 : Addr) (b425 : Addr) (k419 : ClassId) (k425 : ClassId), v = none ∧ own_Kp h0 h [a417] L ∧ h0.size ≤ b419 ∧ h0.size ≤ b425 ∧ b419 ≠ b425 ∧ Fld Z h a417 own_s1 "slots" "[I" (.ref b419) ∧ Fld Z h a417 own_s1 "indices" "[I" (.ref b425) ∧ Fld Z h a417 own_s1 "size" "I" (.int 0) ∧ Arh Z h b419 k419 .int 32 [] [] (.int 0) ∧ Arh Z h b425 k425 .int 32 [] [] (.int 0)
theorem own_pn8 : plainName own_s1 = true := by first | (simp [plainName, overriddenIn]; done) | decide +kernel
set_option maxRecDepth 65536 in
set_option maxHeartbeats 40000000 in
theorem rm416 (l : Launch) (Z : State) (a0 : Array Value) (hw : ∀ d ∈ tables_1, d.before a0 Z = true) (h0 : Heap) (a13 : Addr) (E16 : Exa Z h0 a13 own_s1) (F21 : Fld Z h0 a13 own_s1 "slots" "[I" .null) (F22 : Fld Z h0 a13 own_s1 "indices" "[I" .null) (F23 : Fld Z h0 a13 own_s1 "size" "I" (.int 0)) :
    own_Con l Z (⟨own_s1, "<init>", "()V"⟩ : MethodName) prog_7_method_1_code 1 none ({ frames := 1, cells := 2, slots := 64, locals := 12 } : Room) #[(.ref a13)] h0 (own_Q416 Z h0 a13) := by
 refine MetFree.of_bodySF (plainFor_of_name own_pn8) hisR ?_
 intro p e s m args below meth c s₁ Bd hml0 hP hK
 obtain ⟨rfl, hZ, hh⟩ := hP
 have hx := Bd.exec
 have hby := Bd.bytes
 have hml : c.maxLocals = 1 := hml0
 have hown : s.vm.findClass own_s1 = some m.cls := findClass_of_methodNamed Bd.named
 have hnm := (name_of_methodNamed Bd.named Bd.method).1
 have X0 : Stand p l e ({ frames := 1, cells := 2, slots := 64, locals := 12 } : Room) s m #[(.ref a13)] below meth c s₁ [] 0 0 := Stand.of_body Bd
 have e0 : s₁.heap = h0 := by rw [← hh, Bd.state]; rfl
 have K0 : own_Kp h0 h0 [a13] [] := own_kpRefl _ _
 show own_Go p e below (own_K s (own_Q416 Z h0 a13) 2 64) s₁ (entryFrame m #[(.ref a13)] 1)
 rw [own_ef67]
 obtain ⟨T15, X15, e15, st15⟩ := initO X0 hx hZ hown (own_wd hw 146 rfl) (own_wd hw 11 rfl) (own_wd hw 12 rfl) e0 (g := (mkF m 1 #[.val (.ref a13)] [(.ref a13)])) rfl (by rw [hml]; rfl) rfl (hb hby d16_1) (by decide) (W := 0) (by show 2 * 0 + _ ≤ _; exact Nat.le_of_eq rfl) (by decide)
 obtain ⟨T10, h10, k10, X10, e10, E10, A10, st10⟩ := newP X15 hx hZ (own_wd hw 147 rfl) e15 (g := (mkF m 7 #[.val (.ref a13)] [(.int 32), (.ref a13)])) rfl (hb hby d16_7) rfl (by decide) (cap := 32) (by decide) (by decide) (by decide) (by decide)
 obtain ⟨b10, g10⟩ : ∃ z, z = h0.size := ⟨_, rfl⟩
 rw [← g10] at A10 st10
 have z_E10 := E10.1
 have lo_b10 : h0.size ≤ b10 := Nat.le_of_eq g10.symm
 have sz_b10 : h0.size ≤ b10 := Nat.le_trans K0.1.1 lo_b10
 have K10 := own_kpExt K0 E10
 have V10 : Arh Z h10 b10 k10 .int 32 [] [] (.int 0) := Arv.arh (Arv.new A10 (by decide))
 have E17 := (Exa.ext E10 E16)
 have F18 := (Fld.ext E10 F21)
 obtain ⟨T12, h12, X12, e12, W12, st12⟩ := putF X10 hx hZ hown (host := "") (Or.inl (own_wd hw 148 rfl)) Via.refl e10 F18 E17 (Or.inl (own_wd hw 149 rfl)) (own_wd hw 141 rfl) (ty := (.array .int)) (by decide) rfl rfl (g := (mkF m 9 #[.val (.ref a13)] [(.ref b10), (.ref a13)])) rfl rfl (hb hby d16_9)
 have F12 := Fld.same W12 F18
 have K12 := own_kpWr K10 W12 (Or.inl (List.mem_of_getElem? (i := 0) rfl))
 have z_W12 := Nat.le_of_eq W12.size.symm
 obtain ⟨T11, h11, k11, X11, e11, E11, A11, st11⟩ := newP X12 hx hZ (own_wd hw 147 rfl) e12 (g := (mkF m 15 #[.val (.ref a13)] [(.int 32), (.ref a13)])) rfl (hb hby d16_15) rfl (by decide) (cap := 32) (by decide) (by decide) (by decide) (by decide)
 obtain ⟨b11, g11⟩ : ∃ z, z = h12.size := ⟨_, rfl⟩
 rw [← g11] at A11 st11
 have z_E11 := E11.1
 have lo_b11 : h12.size ≤ b11 := Nat.le_of_eq g11.symm
 have sz_b11 : h0.size ≤ b11 := Nat.le_trans K12.1.1 lo_b11
 have K11 := own_kpExt K12 E11
 have V11 : Arh Z h11 b11 k11 .int 32 [] [] (.int 0) := Arv.arh (Arv.new A11 (by decide))
 have F19 := (Fld.ext E11 (Fld.other W12 (Fld.ext E10 F22) (Or.inr (slot_ne (Or.inl (own_wd hw 151 rfl)) (Or.inl (own_wd hw 149 rfl)) (by decide) (t := (.array .int)) (t' := (.array .int)) (by decide) (by decide)))))
 have E24 := (Exa.ext E11 (Exa.wr W12 E17))
 obtain ⟨T14, h14, X14, e14, W14, st14⟩ := putF X11 hx hZ hown (host := "") (Or.inl (own_wd hw 150 rfl)) Via.refl e11 F19 E24 (Or.inl (own_wd hw 151 rfl)) (own_wd hw 141 rfl) (ty := (.array .int)) (by decide) rfl rfl (g := (mkF m 17 #[.val (.ref a13)] [(.ref b11), (.ref a13)])) rfl rfl (hb hby d16_17)
 have F14 := Fld.same W14 F19
 have K14 := own_kpWr K11 W14 (Or.inl (List.mem_of_getElem? (i := 0) rfl))
 have z_W14 := Nat.le_of_eq W14.size.symm
 have F25 := (Fld.other W14 (Fld.ext E11 F12) (Or.inr (slot_ne (Or.inl (own_wd hw 149 rfl)) (Or.inl (own_wd hw 151 rfl)) (by decide) (t := (.array .int)) (t' := (.array .int)) (by decide) (by decide))))
 have F26 := (Fld.other W14 (Fld.ext E11 (Fld.other W12 (Fld.ext E10 F23) (Or.inr (slot_ne (Or.inl (own_wd hw 158 rfl)) (Or.inl (own_wd hw 149 rfl)) (by decide) (t := .int) (t' := (.array .int)) (by decide) (by decide))))) (Or.inr (slot_ne (Or.inl (own_wd hw 158 rfl)) (Or.inl (own_wd hw 151 rfl)) (by decide) (t := .int) (t' := (.array .int)) (by decide) (by decide))))
 have ne20 := own_nl E16.lt (Nat.le_refl _) lo_b10
 have H27 := (Arh.other (Arh.ext (Arh.other V10 W12 (Ne.symm ne20)) E11) W14 (Ne.symm ne20))
 have ne28 := own_nl E16.lt (Nat.le_trans z_E10 z_W12) lo_b11
 have H29 := (Arh.other V11 W14 (Ne.symm ne28))
 have ne30 := own_nl V10.lt z_W12 lo_b11
 refine own_go (T2 := T14) (g2 := (mkF m 20 #[.val (.ref a13)] [])) (fun t k => z_aloadN X0 hx hby d16_0 rfl rfl (st15 _ (z_aloadN X15 hx hby d16_4 rfl rfl (XS.bipush X15.here hx rfl (hb hby d16_5) (st10 _ (st12 _ (z_aloadN X12 hx hby d16_12 rfl rfl (XS.bipush X12.here hx rfl (hb hby d16_13) (st11 _ (st14 _ k)))))))))) ?_
 exact own_endV X14 hx Bd.notSynchronized Bd.returns (hb hby d16_20) (by decide) (by decide) (by rw [e14]; exact ⟨b10, b11, k10, k11, rfl, (by simpa only [List.append_nil] using K14), sz_b10, sz_b11, ne30, F25, F14, F26, H27, H29⟩)
theorem own_w447 {Z : State} {a0 : Array Value} (hw : ∀ d ∈ tables_1, d.before a0 Z = true) : own_IW Z a0 own_s18 21 (⟨own_s1, "<init>", "()V"⟩ : MethodName) prog_7_method_1_code 1 := ⟨rfl, (own_wd hw 143 rfl), (own_wd hw 144 rfl), (own_wd hw 142 rfl), (own_wd hw 145 rfl), (by decide)⟩
abbrev c_7_3 := prog_7_method_3_code
theorem d17_0 : decode c_7_3 0 = .ok (.iconst 2, 1) := by decide +kernel
theorem d17_1 : decode c_7_3 1 = .ok (.aload_n 0, 1) := by decide +kernel
theorem d17_2 : decode c_7_3 2 = .ok (.getfield 26, 3) := by decide +kernel
theorem d17_5 : decode c_7_3 5 = .ok (.iconst 1, 1) := by decide +kernel
theorem d17_6 : decode c_7_3 6 = .ok (.iadd, 1) := by decide +kernel
theorem d17_7 : decode c_7_3 7 = .ok (.imul, 1) := by decide +kernel
theorem d17_8 : decode c_7_3 8 = .ok (.aload_n 0, 1) := by decide +kernel
theorem d17_9 : decode c_7_3 9 = .ok (.getfield 9, 3) := by decide +kernel
theorem d17_12 : decode c_7_3 12 = .ok (.arraylength, 1) := by decide +kernel
theorem d17_13 : decode c_7_3 13 = .ok (.if_icmp .le 7, 3) := by decide +kernel
theorem d17_20 : decode c_7_3 20 = .ok (.aload_n 1, 1) := by decide +kernel
theorem d17_21 : decode c_7_3 21 = .ok (.invokevirtual 16, 3) := by decide +kernel
abbrev c_2_4 := prog_2_method_4_code
theorem d18_0 : decode c_2_4 0 = .ok (.aload_n 0, 1) := by decide +kernel
theorem d18_1 : decode c_2_4 1 = .ok (.getfield 27, 3) := by decide +kernel
theorem d18_4 : decode c_2_4 4 = .ok (.ireturn, 1) := by decide +kernel
set_option maxRecDepth 65536 in
set_option maxHeartbeats 40000000 in
theorem rm462 (l : Launch) (Z : State) (a0 : Array Value) (hw : ∀ d ∈ tables_1, d.before a0 Z = true) (h0 : Heap) (a11 : Addr) (p12 : Int32) (F13 : Fld Z h0 a11 own_s0 "id" "I" (.int p12)) :
    own_Con l Z (⟨own_s0, "id", "()I"⟩ : MethodName) prog_2_method_4_code 1 (some .int) ({ frames := 0, cells := 0, slots := 0, locals := 0 } : Room) #[(.ref a11)] h0 (own_QP (some (.int p12)) h0) := by
 refine MetFree.of_bodySF (plainFor_of_name own_pn6) hisR ?_
 intro p e s m args below meth c s₁ Bd hml0 hP hK
 obtain ⟨rfl, hZ, hh⟩ := hP
 have hx := Bd.exec
 have hby := Bd.bytes
 have hml : c.maxLocals = 1 := hml0
 have hown : s.vm.findClass own_s0 = some m.cls := findClass_of_methodNamed Bd.named
 have hnm := (name_of_methodNamed Bd.named Bd.method).1
 have X0 : Stand p l e ({ frames := 0, cells := 0, slots := 0, locals := 0 } : Room) s m #[(.ref a11)] below meth c s₁ [] 0 0 := Stand.of_body Bd
 have e0 : s₁.heap = h0 := by rw [← hh, Bd.state]; rfl
 have K0 : own_Kp h0 h0 [] [] := own_kpRefl _ _
 show own_Go p e below (own_K s (own_QP (some (.int p12)) h0) 0 0) s₁ (entryFrame m #[(.ref a11)] 1)
 rw [own_ef67]
 obtain ⟨T10, X10, e10, st10⟩ := own_gF X0 hx hZ hown hby (own_wd hw 59 rfl) e0 F13 d18_1 #[.val (.ref a11)] []
 refine own_go (T2 := T10) (g2 := (mkF m 4 #[.val (.ref a11)] [(.int p12)])) (fun t k => z_aloadN X0 hx hby d18_0 rfl rfl (st10 _ k)) ?_
 exact own_endI X10 hx Bd.notSynchronized Bd.returns (hb hby d18_4) (by decide) (by decide) ⟨rfl, rfl, e10⟩
theorem own_w475 {Z : State} {a0 : Array Value} (hw : ∀ d ∈ tables_1, d.before a0 Z = true) : own_VW Z a0 own_s1 16 own_s0 (⟨own_s0, "id", "()I"⟩ : MethodName) prog_2_method_4_code 1 (some .int) := ⟨(own_wd hw 159 rfl), (own_wd hw 160 rfl), (own_wd hw 162 rfl), (own_wd hw 161 rfl), (own_wd hw 3 rfl), (own_wd hw 163 rfl), (by decide)⟩
theorem d17_24 : decode c_7_3 24 = .ok (.iconst 1, 1) := by decide +kernel
theorem d17_25 : decode c_7_3 25 = .ok (.iadd, 1) := by decide +kernel
theorem d17_26 : decode c_7_3 26 = .ok (.istore_n 3, 1) := by decide +kernel
theorem d17_27 : decode c_7_3 27 = .ok (.aload_n 0, 1) := by decide +kernel
theorem d17_28 : decode c_7_3 28 = .ok (.iload_n 3, 1) := by decide +kernel
theorem d17_29 : decode c_7_3 29 = .ok (.invokevirtual 22, 3) := by decide +kernel
abbrev c_7_6 := prog_7_method_6_code
theorem d19_0 : decode c_7_6 0 = .ok (.aload_n 0, 1) := by decide +kernel
theorem d19_1 : decode c_7_6 1 = .ok (.getfield 9, 3) := by decide +kernel
theorem d19_4 : decode c_7_6 4 = .ok (.arraylength, 1) := by decide +kernel
theorem d19_5 : decode c_7_6 5 = .ok (.iconst 1, 1) := by decide +kernel
theorem d19_6 : decode c_7_6 6 = .ok (.isub, 1) := by decide +kernel
theorem d19_7 : decode c_7_6 7 = .ok (.istore_n 2, 1) := by decide +kernel
theorem d19_8 : decode c_7_6 8 = .ok (.iload_n 1, 1) := by decide +kernel
theorem d19_9 : decode c_7_6 9 = .ok (.iload_n 2, 1) := by decide +kernel
theorem d19_10 : decode c_7_6 10 = .ok (.invokestatic 37, 3) := by decide +kernel
abbrev c_7_8 := prog_7_method_8_code
theorem d20_0 : decode c_7_8 0 = .ok (.iload_n 0, 1) := by decide +kernel
theorem d20_1 : decode c_7_8 1 = .ok (.ldc 41, 2) := by decide +kernel
theorem d20_3 : decode c_7_8 3 = .ok (.imul, 1) := by decide +kernel
theorem d20_4 : decode c_7_8 4 = .ok (.istore_n 2, 1) := by decide +kernel
theorem d20_5 : decode c_7_8 5 = .ok (.iload_n 2, 1) := by decide +kernel
theorem d20_6 : decode c_7_8 6 = .ok (.iload_n 2, 1) := by decide +kernel
theorem d20_7 : decode c_7_8 7 = .ok (.bipush 16, 2) := by decide +kernel
theorem d20_9 : decode c_7_8 9 = .ok (.iushr, 1) := by decide +kernel
theorem d20_10 : decode c_7_8 10 = .ok (.ixor, 1) := by decide +kernel
theorem d20_11 : decode c_7_8 11 = .ok (.iload_n 1, 1) := by decide +kernel
theorem d20_12 : decode c_7_8 12 = .ok (.iand, 1) := by decide +kernel
theorem d20_13 : decode c_7_8 13 = .ok (.ireturn, 1) := by decide +kernel
theorem own_ef487 (m : MethodId) (x0 : Int32) : entryFrame m #[(.int x0), (.int 31)] 3 = mkF m 0 #[.val (.int x0), .val (.int 31), .unset] [] := by first | (simp [entryFrame, mkF, argsToLocals, Value.category]; done) | rfl
set_option maxRecDepth 65536 in
set_option maxHeartbeats 40000000 in
theorem rm487 (l : Launch) (Z : State) (a0 : Array Value) (hw : ∀ d ∈ tables_1, d.before a0 Z = true) (h0 : Heap) (p10 : Int32)  :
    own_Con l Z (⟨own_s1, "home", "(II)I"⟩ : MethodName) prog_7_method_8_code 3 (some .int) ({ frames := 0, cells := 0, slots := 0, locals := 0 } : Room) #[(.int p10), (.int 31)] h0 (own_QP (some (.int (oH p10))) h0) := by
 refine MetFree.of_bodySF (plainFor_of_name own_pn8) hisR ?_
 intro p e s m args below meth c s₁ Bd hml0 hP hK
 obtain ⟨rfl, hZ, hh⟩ := hP
 have hx := Bd.exec
 have hby := Bd.bytes
 have hml : c.maxLocals = 3 := hml0
 have hown : s.vm.findClass own_s1 = some m.cls := findClass_of_methodNamed Bd.named
 have hnm := (name_of_methodNamed Bd.named Bd.method).1
 have X0 : Stand p l e ({ frames := 0, cells := 0, slots := 0, locals := 0 } : Room) s m #[(.int p10), (.int 31)] below meth c s₁ [] 0 0 := Stand.of_body Bd
 have e0 : s₁.heap = h0 := by rw [← hh, Bd.state]; rfl
 have K0 : own_Kp h0 h0 [] [] := own_kpRefl _ _
 show own_Go p e below (own_K s (own_QP (some (.int (oH p10))) h0) 0 0) s₁ (entryFrame m #[(.int p10), (.int 31)] 3)
 rw [own_ef487]
 let l1 : Array Slot := #[.val (.int p10), .val (.int 31), .val (.int (p10 * (-1640531527 : Int32)))]
 refine own_go (T2 := s₁) (g2 := (mkF m 13 l1 [(.int (oH p10))])) (fun t k => z_iloadN X0 hx hby d20_0 rfl (Jvm.Stand.ldcI X0 hx hown (mvT hZ (own_wd hw 171 rfl)) rfl (hb hby d20_1) (XS.imul X0.here hx rfl (hb hby d20_3) rfl (z_istoreN X0 hx hby d20_4 l1 rfl (z_iloadN X0 hx hby d20_5 rfl (z_iloadN X0 hx hby d20_6 rfl (XS.bipush X0.here hx rfl (hb hby d20_7) (XS.iushr X0.here hx rfl (hb hby d20_9) rfl (XS.ixor X0.here hx rfl (hb hby d20_10) rfl (z_iloadN X0 hx hby d20_11 rfl (z_iand X0 hx hby d20_12 k))))))))))) ?_
 exact own_endI X0 hx Bd.notSynchronized Bd.returns (hb hby d20_13) (by decide) (by decide) ⟨rfl, rfl, e0⟩
theorem own_pd12 : parseMethodDescriptor "(II)I" = some ⟨[.int, .int], some .int⟩ := by decide +kernel
theorem own_w489 {Z : State} {a0 : Array Value} (hw : ∀ d ∈ tables_1, d.before a0 Z = true) : own_SW Z a0 own_s1 37 (⟨own_s1, "home", "(II)I"⟩ : MethodName) prog_7_method_8_code 3 (some .int) := ⟨(own_wd hw 168 rfl), (own_wd hw 169 rfl), (own_wd hw 142 rfl), (own_wd hw 170 rfl), (by decide)⟩
theorem d19_13 : decode c_7_6 13 = .ok (.istore_n 3, 1) := by decide +kernel
theorem d19_14 : decode c_7_6 14 = .ok (.aload_n 0, 1) := by decide +kernel
theorem d19_15 : decode c_7_6 15 = .ok (.getfield 9, 3) := by decide +kernel
theorem d19_18 : decode c_7_6 18 = .ok (.iload_n 3, 1) := by decide +kernel
theorem d19_19 : decode c_7_6 19 = .ok (.iaload, 1) := by decide +kernel
theorem d19_20 : decode c_7_6 20 = .ok (.iload_n 1, 1) := by decide +kernel
theorem d19_21 : decode c_7_6 21 = .ok (.if_icmp .eq 21, 3) := by decide +kernel
theorem ar492 (x0 : Int32) (h0 : ¬ (x0 = 0)) : ¬ ((0 : Int32) = x0) := by
  have f1 : (0 : Int32).toInt = 0 := by decide
  have f2 := rng32 x0
  have g0 := mt Int32.toInt_inj.mp h0
  exact fun q => absurd (Int32.toInt_inj.mpr q) (by omega)
theorem d19_24 : decode c_7_6 24 = .ok (.aload_n 0, 1) := by decide +kernel
theorem d19_25 : decode c_7_6 25 = .ok (.getfield 9, 3) := by decide +kernel
theorem d19_28 : decode c_7_6 28 = .ok (.iload_n 3, 1) := by decide +kernel
theorem d19_29 : decode c_7_6 29 = .ok (.iaload, 1) := by decide +kernel
theorem d19_30 : decode c_7_6 30 = .ok (.ifCond .eq 12, 3) := by decide +kernel
theorem d19_42 : decode c_7_6 42 = .ok (.iload_n 3, 1) := by decide +kernel
theorem d19_43 : decode c_7_6 43 = .ok (.ireturn, 1) := by decide +kernel
theorem own_ef477 (m : MethodId) (x0 : Addr) (x1 : Int32) : entryFrame m #[(.ref x0), (.int x1)] 4 = mkF m 0 #[.val (.ref x0), .val (.int x1), .unset, .unset] [] := by first | (simp [entryFrame, mkF, argsToLocals, Value.category]; done) | rfl
set_option maxRecDepth 65536 in
set_option maxHeartbeats 40000000 in
theorem rm477 (l : Launch) (Z : State) (a0 : Array Value) (hw : ∀ d ∈ tables_1, d.before a0 Z = true) (h0 : Heap) (a18 : Addr) (p10 : Int32) (a21 : Addr) (c22 : ClassId) (F19 : Fld Z h0 a18 own_s1 "slots" "[I" (.ref a21)) (H20 : Arh Z h0 a21 c22 .int 32 [] [] (.int 0)) (hp23 : ¬ ((0 : Int32) = p10)) :
    own_Con l Z own_y1 prog_7_method_6_code 4 (some .int) ({ frames := 1, cells := 0, slots := 0, locals := 14 } : Room) #[(.ref a18), (.int p10)] h0 (own_QP (some (.int (oH p10))) h0) := by
 refine MetFree.of_bodySF (plainFor_of_name own_pn8) hisR ?_
 intro p e s m args below meth c s₁ Bd hml0 hP hK
 obtain ⟨rfl, hZ, hh⟩ := hP
 have hx := Bd.exec
 have hby := Bd.bytes
 have hml : c.maxLocals = 4 := hml0
 have hown : s.vm.findClass own_s1 = some m.cls := findClass_of_methodNamed Bd.named
 have hnm := (name_of_methodNamed Bd.named Bd.method).1
 have X0 : Stand p l e ({ frames := 1, cells := 0, slots := 0, locals := 14 } : Room) s m #[(.ref a18), (.int p10)] below meth c s₁ [] 0 0 := Stand.of_body Bd
 have e0 : s₁.heap = h0 := by rw [← hh, Bd.state]; rfl
 have K0 : own_Kp h0 h0 [] [] := own_kpRefl _ _
 show own_Go p e below (own_K s (own_QP (some (.int (oH p10))) h0) 0 0) s₁ (entryFrame m #[(.ref a18), (.int p10)] 4)
 rw [own_ef477]
 obtain ⟨T13, X13, e13, st13⟩ := own_gF X0 hx hZ hown hby (own_wd hw 148 rfl) e0 F19 d19_1 #[.val (.ref a18), .val (.int p10), .unset, .unset] []
 obtain ⟨cl16, Ar16, q16, S16, N16, H16, G16⟩ := id H20
 let l1 : Array Slot := #[.val (.ref a18), .val (.int p10), .val (.int 31), .unset]
 obtain ⟨_, T17, L17, X17, ⟨rfl, rfl, e17⟩, st17⟩ := own_cs X13 hx hZ hown (own_w489 hw) hml (g := (mkF m 10 l1 [(.int 31), (.int p10)])) (hb hby d19_10) e13 [(.int p10), (.int 31)] [] (lenOf own_pd12 rfl) (rm487 l Z a0 hw h0 p10 )
 let l2 : Array Slot := #[.val (.ref a18), .val (.int p10), .val (.int 31), .val (.int (oH p10))]
 obtain ⟨T14, X14, e14, st14⟩ := own_gF X17 hx hZ hown hby (own_wd hw 148 rfl) e17 F19 d19_15 l2 []
 obtain ⟨cl11, Ar11, q11, S11, N11, H11, G11⟩ := id H20
 have hin11 := inb_of S11 ⟨(own_hlo p10), (own_hhi p10)⟩
 have hat11 := atH H11 hin11 (getH_all rfl _)
 obtain ⟨T15, X15, e15, st15⟩ := own_gF X14 hx hZ hown hby (own_wd hw 148 rfl) e14 F19 d19_25 l2 []
 obtain ⟨cl12, Ar12, q12, S12, N12, H12, G12⟩ := id H20
 have hin12 := inb_of S12 ⟨(own_hlo p10), (own_hhi p10)⟩
 have hat12 := atH H12 hin12 (getH_all rfl _)
 refine own_go (T2 := T15) (g2 := (mkF m 43 l2 [(.int (oH p10))])) (fun t k => z_aloadN X0 hx hby d19_0 rfl rfl (st13 _ (own_alen X13 hx hZ e13 Ar16 S16 N16 rfl rfl (hb hby d19_4) (z_iconst X13 hx hby d19_5 (z_isub X13 hx hby d19_6 (z_istoreN X13 hx hby d19_7 l1 rfl (z_iloadN X13 hx hby d19_8 rfl (z_iloadN X13 hx hby d19_9 rfl (st17 _ (z_istoreN X17 hx hby d19_13 l2 rfl (z_aloadN X17 hx hby d19_14 rfl rfl (st14 _ (z_iloadN X14 hx hby d19_18 rfl (own_ial X14 hx hZ e14 Ar11 hin11 hat11 rfl rfl (hb hby d19_19) (z_iloadN X14 hx hby d19_20 rfl (z_icmpNo X14 hx hby d19_21 (feq hp23).1 (z_aloadN X14 hx hby d19_24 rfl rfl (st15 _ (z_iloadN X15 hx hby d19_28 rfl (own_ial X15 hx hZ e15 Ar12 hin12 hat12 rfl rfl (hb hby d19_29) (z_ifYes X15 hx hby 42 d19_30 ((if0 _ _).trans (teq (show (0 : Int32) = 0 from (by decide))).1) rfl (z_iloadN X15 hx hby d19_42 rfl k)))))))))))))))))))))) ?_
 exact own_endI X15 hx Bd.notSynchronized Bd.returns (hb hby d19_43) (by decide) (by decide) ⟨rfl, rfl, e15⟩
theorem own_pd13 : parseMethodDescriptor "(I)I" = some ⟨[.int], some .int⟩ := by decide +kernel
theorem own_w499 {Z : State} {a0 : Array Value} (hw : ∀ d ∈ tables_1, d.before a0 Z = true) : own_PW Z a0 own_s1 22 own_y1 prog_7_method_6_code 4 (some .int) := ⟨(own_wd hw 164 rfl), (own_wd hw 165 rfl), ⟨_, (own_wd hw 141 rfl)⟩, (own_wd hw 166 rfl), (own_wd hw 142 rfl), (own_wd hw 167 rfl), (by decide)⟩
theorem d17_32 : decode c_7_3 32 = .ok (.istore 4, 2) := by decide +kernel
theorem d17_34 : decode c_7_3 34 = .ok (.aload_n 0, 1) := by decide +kernel
theorem d17_35 : decode c_7_3 35 = .ok (.getfield 9, 3) := by decide +kernel
theorem d17_38 : decode c_7_3 38 = .ok (.iload 4, 2) := by decide +kernel
theorem d17_40 : decode c_7_3 40 = .ok (.iload_n 3, 1) := by decide +kernel
theorem d17_41 : decode c_7_3 41 = .ok (.iastore, 1) := by decide +kernel
theorem d17_42 : decode c_7_3 42 = .ok (.aload_n 0, 1) := by decide +kernel
theorem d17_43 : decode c_7_3 43 = .ok (.getfield 13, 3) := by decide +kernel
theorem d17_46 : decode c_7_3 46 = .ok (.iload 4, 2) := by decide +kernel
theorem d17_48 : decode c_7_3 48 = .ok (.iload_n 2, 1) := by decide +kernel
theorem d17_49 : decode c_7_3 49 = .ok (.iastore, 1) := by decide +kernel
theorem d17_50 : decode c_7_3 50 = .ok (.aload_n 0, 1) := by decide +kernel
theorem d17_51 : decode c_7_3 51 = .ok (.dup, 1) := by decide +kernel
theorem d17_52 : decode c_7_3 52 = .ok (.getfield 26, 3) := by decide +kernel
theorem d17_55 : decode c_7_3 55 = .ok (.iconst 1, 1) := by decide +kernel
theorem d17_56 : decode c_7_3 56 = .ok (.iadd, 1) := by decide +kernel
theorem d17_57 : decode c_7_3 57 = .ok (.putfield 26, 3) := by decide +kernel
theorem d17_60 : decode c_7_3 60 = .ok (.return_, 1) := by decide +kernel
def own_Q449 (Z : State) (h0 : Heap) (a450 : Addr) (a451 : Addr) (p452 : Int32) (a455 : Addr) (c458 : ClassId) (p468 : Int32) (a502 : Addr) (c508 : ClassId) (v : Option Value) (h : Heap) (L : List Loc) : Prop := v = none ∧ own_Kp h0 h [a455, a502, a450] L ∧ Arh Z h a455 c458 .int 32 [((oH (p468 + 1)), (.int (p468 + 1)))] [] (.int 0) ∧ Arh Z h a502 c508 .int 32 [((oH (p468 + 1)), (.int p452))] [] (.int 0) ∧ Fld Z h a450 own_s1 "size" "I" (.int 1) ∧ Fld Z h a450 own_s1 "slots" "[I" (.ref a455) ∧ Fld Z h a450 own_s1 "indices" "[I" (.ref a502)
theorem own_ef449 (m : MethodId) (x0 : Addr) (x1 : Addr) (x2 : Int32) : entryFrame m #[(.ref x0), (.ref x1), (.int x2)] 5 = mkF m 0 #[.val (.ref x0), .val (.ref x1), .val (.int x2), .unset, .unset] [] := by first | (simp [entryFrame, mkF, argsToLocals, Value.category]; done) | rfl
set_option maxRecDepth 65536 in
set_option maxHeartbeats 40000000 in
theorem rm449 (l : Launch) (Z : State) (a0 : Array Value) (hw : ∀ d ∈ tables_1, d.before a0 Z = true) (h0 : Heap) (a14 a15 : Addr) (p19 : Int32) (a20 : Addr) (c27 : ClassId) (p13 : Int32) (a23 : Addr) (c31 : ClassId) (F34 : Fld Z h0 a14 own_s1 "size" "I" (.int 0)) (F28 : Fld Z h0 a14 own_s1 "slots" "[I" (.ref a20)) (H32 : Arh Z h0 a20 c27 .int 32 [] [] (.int 0)) (F38 : Fld Z h0 a15 own_s0 "id" "I" (.int p13)) (E39 : Exa Z h0 a15 own_s0) (hp40 : ¬ ((0 : Int32) = (p13 + 1))) (E35 : Exa Z h0 a14 own_s1) (F41 : Fld Z h0 a14 own_s1 "indices" "[I" (.ref a23)) (ne29 : a14 ≠ a20) (H42 : Arh Z h0 a23 c31 .int 32 [] [] (.int 0)) (ne36 : a23 ≠ a20) (ne30 : a14 ≠ a23) :
    own_Con l Z own_y3 prog_7_method_3_code 5 none ({ frames := 2, cells := 0, slots := 0, locals := 29 } : Room) #[(.ref a14), (.ref a15), (.int p19)] h0 (own_Q449 Z h0 a14 a15 p19 a20 c27 p13 a23 c31) := by
 refine MetFree.of_bodySF (plainFor_of_name own_pn8) hisR ?_
 intro p e s m args below meth c s₁ Bd hml0 hP hK
 obtain ⟨rfl, hZ, hh⟩ := hP
 have hx := Bd.exec
 have hby := Bd.bytes
 have hml : c.maxLocals = 5 := hml0
 have hown : s.vm.findClass own_s1 = some m.cls := findClass_of_methodNamed Bd.named
 have hnm := (name_of_methodNamed Bd.named Bd.method).1
 have X0 : Stand p l e ({ frames := 2, cells := 0, slots := 0, locals := 29 } : Room) s m #[(.ref a14), (.ref a15), (.int p19)] below meth c s₁ [] 0 0 := Stand.of_body Bd
 have e0 : s₁.heap = h0 := by rw [← hh, Bd.state]; rfl
 have K0 : own_Kp h0 h0 [a20, a23, a14] [] := own_kpRefl _ _
 show own_Go p e below (own_K s (own_Q449 Z h0 a14 a15 p19 a20 c27 p13 a23 c31) 0 0) s₁ (entryFrame m #[(.ref a14), (.ref a15), (.int p19)] 5)
 rw [own_ef449]
 let l1 : Array Slot := #[.val (.ref a14), .val (.ref a15), .val (.int p19), .unset, .unset]
 obtain ⟨T17, X17, e17, st17⟩ := own_gF X0 hx hZ hown hby (own_wd hw 157 rfl) e0 F34 d17_2 l1 [(.int 2)]
 obtain ⟨T18, X18, e18, st18⟩ := own_gF X17 hx hZ hown hby (own_wd hw 148 rfl) e17 F28 d17_9 l1 [(.int 2)]
 obtain ⟨cl21, Ar21, q21, S21, N21, H21, G21⟩ := id H32
 obtain ⟨_, T16, L16, X16, ⟨rfl, rfl, e16⟩, st16⟩ := own_cv X18 hx hZ hown (own_w475 hw) hml (g := (mkF m 21 l1 [(.ref a15)])) (hb hby d17_21) e18 E39 [] [] (lenOf own_pd5 rfl) (rm462 l Z a0 hw h0 a15 p13 F38)
 let l2 : Array Slot := #[.val (.ref a14), .val (.ref a15), .val (.int p19), .val (.int (p13 + 1)), .unset]
 obtain ⟨_, T22, L22, X22, ⟨rfl, rfl, e22⟩, st22⟩ := own_cp X16 hx hZ hown (own_w499 hw) hml (g := (mkF m 29 l2 [(.int (p13 + 1)), (.ref a14)])) (hb hby d17_29) e16 E35 [(.int (p13 + 1))] [] (lenOf own_pd13 rfl) (rm477 l Z a0 hw h0 a14 (p13 + 1) a20 c27 F28 H32 hp40)
 let l3 : Array Slot := #[.val (.ref a14), .val (.ref a15), .val (.int p19), .val (.int (p13 + 1)), .val (.int (oH (p13 + 1)))]
 obtain ⟨T24, X24, e24, st24⟩ := own_gF X22 hx hZ hown hby (own_wd hw 148 rfl) e22 F28 d17_35 l3 []
 obtain ⟨cl11, Ar11, q11, S11, N11, H11, G11⟩ := id H32
 have hin11 := inb_of S11 ⟨(own_hlo (p13 + 1)), (own_hhi (p13 + 1))⟩
 obtain ⟨T11, h11, X11, e11, W11, st11⟩ := stI X24 hx hZ e24 Ar11 (j := (oH (p13 + 1))) hin11 (g := (mkF m 41 l3 [(.int (p13 + 1)), (.int (oH (p13 + 1))), (.ref a20)])) rfl rfl (hb hby d17_41)
 have V11 := Arh.push Ar11 q11 S11 N11 H11 G11 rfl W11 hin11
 have K11 := own_kpWr K0 W11 (Or.inl (List.mem_of_getElem? (i := 0) rfl))
 have z_W11 := Nat.le_of_eq W11.size.symm
 have F37 := (Fld.other W11 F41 (Or.inl ne29))
 obtain ⟨T25, X25, e25, st25⟩ := own_gF X11 hx hZ hown hby (own_wd hw 150 rfl) e11 F37 d17_43 l3 []
 have H43 := (Arh.other H42 W11 ne36)
 obtain ⟨cl10, Ar10, q10, S10, N10, H10, G10⟩ := id H43
 have hin10 := inb_of S10 ⟨(own_hlo (p13 + 1)), (own_hhi (p13 + 1))⟩
 obtain ⟨T10, h10, X10, e10, W10, st10⟩ := stI X25 hx hZ e25 Ar10 (j := (oH (p13 + 1))) hin10 (g := (mkF m 49 l3 [(.int p19), (.int (oH (p13 + 1))), (.ref a23)])) rfl rfl (hb hby d17_49)
 have V10 := Arh.push Ar10 q10 S10 N10 H10 G10 rfl W10 hin10
 have K10 := own_kpWr K11 W10 (Or.inl (List.mem_of_getElem? (i := 1) rfl))
 have z_W10 := Nat.le_of_eq W10.size.symm
 have F33 := (Fld.other W10 (Fld.other W11 F34 (Or.inl ne29)) (Or.inl ne30))
 obtain ⟨T26, X26, e26, st26⟩ := own_gF X10 hx hZ hown hby (own_wd hw 157 rfl) e10 F33 d17_52 l3 [(.ref a14)]
 have E44 := (Exa.wr W10 (Exa.wr W11 E35))
 obtain ⟨T12, h12, X12, e12, W12, st12⟩ := putF X26 hx hZ hown (host := "") (Or.inl (own_wd hw 157 rfl)) Via.refl e26 F33 E44 (Or.inl (own_wd hw 158 rfl)) (own_wd hw 141 rfl) (ty := .int) (by decide) rfl rfl (g := (mkF m 57 l3 [(.int 1), (.ref a14)])) rfl rfl (hb hby d17_57)
 have F12 := Fld.same W12 F33
 have K12 := own_kpWr K10 W12 (Or.inl (List.mem_of_getElem? (i := 2) rfl))
 have z_W12 := Nat.le_of_eq W12.size.symm
 have H45 := (Arh.other (Arh.other V11 W10 (Ne.symm ne36)) W12 (Ne.symm ne29))
 have H46 := (Arh.other V10 W12 (Ne.symm ne30))
 have F47 := (Fld.other W12 (Fld.other W10 (Fld.other W11 F28 (Or.inl ne29)) (Or.inl ne30)) (Or.inr (slot_ne (Or.inl (own_wd hw 149 rfl)) (Or.inl (own_wd hw 158 rfl)) (by decide) (t := (.array .int)) (t' := .int) (by decide) (by decide))))
 have F48 := (Fld.other W12 (Fld.other W10 F37 (Or.inl ne30)) (Or.inr (slot_ne (Or.inl (own_wd hw 151 rfl)) (Or.inl (own_wd hw 158 rfl)) (by decide) (t := (.array .int)) (t' := .int) (by decide) (by decide))))
 refine own_go (T2 := T12) (g2 := (mkF m 60 l3 [])) (fun t k => z_iconst X0 hx hby d17_0 (z_aloadN X0 hx hby d17_1 rfl rfl (st17 _ (z_iconst X17 hx hby d17_5 (z_iadd X17 hx hby d17_6 (XS.imul X17.here hx rfl (hb hby d17_7) rfl (z_aloadN X17 hx hby d17_8 rfl rfl (st18 _ (own_alen X18 hx hZ e18 Ar21 S21 N21 rfl rfl (hb hby d17_12) (z_icmpYes X18 hx hby 20 d17_13 (flt (show ¬ ((32 : Int32) < 2) from (by decide))).2.2.2 rfl (z_aloadN X18 hx hby d17_20 rfl rfl (st16 _ (z_iconst X16 hx hby d17_24 (z_iadd X16 hx hby d17_25 (z_istoreN X16 hx hby d17_26 l2 rfl (z_aloadN X16 hx hby d17_27 rfl rfl (z_iloadN X16 hx hby d17_28 rfl (st22 _ (z_istore X22 hx hby d17_32 l3 rfl (z_aloadN X22 hx hby d17_34 rfl rfl (st24 _ (z_iload X24 hx hby d17_38 rfl (z_iloadN X24 hx hby d17_40 rfl (st11 _ (z_aloadN X11 hx hby d17_42 rfl rfl (st25 _ (z_iload X25 hx hby d17_46 rfl (z_iloadN X25 hx hby d17_48 rfl (st10 _ (z_aloadN X10 hx hby d17_50 rfl rfl (z_dup X10 hx hby d17_51 rfl (st26 _ (z_iconst X26 hx hby d17_55 (z_iadd X26 hx hby d17_56 (st12 _ k))))))))))))))))))))))))))))))))))) ?_
 exact own_endV X12 hx Bd.notSynchronized Bd.returns (hb hby d17_60) (by decide) (by decide) (by rw [e12]; exact ⟨rfl, (by simpa only [List.append_nil] using K12), H45, H46, F12, F47, F48⟩)
theorem own_pd14 : parseMethodDescriptor "(Lcom/example/libentail/libentail/Concept;I)V" = some ⟨[(.object own_s0), .int], none⟩ := by decide +kernel
theorem own_w528 {Z : State} {a0 : Array Value} (hw : ∀ d ∈ tables_1, d.before a0 Z = true) : own_VW Z a0 own_s18 22 own_s1 own_y3 prog_7_method_3_code 5 none := ⟨(own_wd hw 152 rfl), (own_wd hw 153 rfl), (own_wd hw 155 rfl), (own_wd hw 154 rfl), (own_wd hw 142 rfl), (own_wd hw 156 rfl), (by decide)⟩
theorem d19_33 : decode c_7_6 33 = .ok (.iload_n 3, 1) := by decide +kernel
theorem d19_34 : decode c_7_6 34 = .ok (.iconst 1, 1) := by decide +kernel
theorem d19_35 : decode c_7_6 35 = .ok (.iadd, 1) := by decide +kernel
theorem d19_36 : decode c_7_6 36 = .ok (.iload_n 2, 1) := by decide +kernel
theorem d19_37 : decode c_7_6 37 = .ok (.iand, 1) := by decide +kernel
theorem d19_38 : decode c_7_6 38 = .ok (.istore_n 3, 1) := by decide +kernel
theorem d19_39 : decode c_7_6 39 = .ok (.goto (-25), 3) := by decide +kernel
theorem ar622 (x0 : Int32)  : ¬ (((x0 + 1) &&& 31) < 0) := by
  have f3 := rng32 x0
  have f4 : (1 : Int32).toInt = 1 := by decide
  have f2r := rng32 (x0 + 1)
  have f2 := c_iadd x0 (1 : Int32)
  have f5 : (31 : Int32).toInt = 31 := by decide
  have f1r := rng32 ((x0 + 1) &&& 31)
  have f1 : ((x0 + 1) &&& 31).toInt = (x0 + 1).toInt % 32 := c_mask (x0 + 1) (31 : Int32) 5 (by decide) (by decide)
  have f6 : (0 : Int32).toInt = 0 := by decide
  exact fun q => absurd (Int32.lt_iff_toInt_lt.mp q) (by omega)
theorem ar623 (x0 : Int32)  : ((x0 + 1) &&& 31) < 32 := by
  have f3 := rng32 x0
  have f4 : (1 : Int32).toInt = 1 := by decide
  have f2r := rng32 (x0 + 1)
  have f2 := c_iadd x0 (1 : Int32)
  have f5 : (31 : Int32).toInt = 31 := by decide
  have f1r := rng32 ((x0 + 1) &&& 31)
  have f1 : ((x0 + 1) &&& 31).toInt = (x0 + 1).toInt % 32 := c_mask (x0 + 1) (31 : Int32) 5 (by decide) (by decide)
  have f6 : (32 : Int32).toInt = 32 := by decide
  exact Int32.lt_iff_toInt_lt.mpr (by omega)
theorem ar624 (x0 x1 : Int32) (h0 : x0 = x1) : ¬ (((x0 + 1) &&& 31) = x1) := by
  have f3 := rng32 x0
  have f4 : (1 : Int32).toInt = 1 := by decide
  have f2r := rng32 (x0 + 1)
  have f2 := c_iadd x0 (1 : Int32)
  have f5 : (31 : Int32).toInt = 31 := by decide
  have f1r := rng32 ((x0 + 1) &&& 31)
  have f1 : ((x0 + 1) &&& 31).toInt = (x0 + 1).toInt % 32 := c_mask (x0 + 1) (31 : Int32) 5 (by decide) (by decide)
  have f6 := rng32 x1
  have g0 := Int32.toInt_inj.mpr h0
  exact fun q => absurd (Int32.toInt_inj.mpr q) (by omega)
set_option maxRecDepth 65536 in
set_option maxHeartbeats 40000000 in
theorem rm599 (l : Launch) (Z : State) (a0 : Array Value) (hw : ∀ d ∈ tables_1, d.before a0 Z = true) (h0 : Heap) (a22 : Addr) (p10 : Int32) (a28 : Addr) (c29 : ClassId) (p25 p27 : Int32) (F23 : Fld Z h0 a22 own_s1 "slots" "[I" (.ref a28)) (H24 : Arh Z h0 a28 c29 .int 32 [(p25, (.int p27))] [] (.int 0)) (hp26 : (oH p10) = p25) (hp30 : ¬ (p27 = p10)) (hp31 : ¬ (p27 = 0)) (hp32 : ¬ ((0 : Int32) = p10)) :
    own_Con l Z own_y1 prog_7_method_6_code 4 (some .int) ({ frames := 1, cells := 0, slots := 0, locals := 14 } : Room) #[(.ref a22), (.int p10)] h0 (own_QP (some (.int (oN (oH p10)))) h0) := by
 refine MetFree.of_bodySF (plainFor_of_name own_pn8) hisR ?_
 intro p e s m args below meth c s₁ Bd hml0 hP hK
 obtain ⟨rfl, hZ, hh⟩ := hP
 have hx := Bd.exec
 have hby := Bd.bytes
 have hml : c.maxLocals = 4 := hml0
 have hown : s.vm.findClass own_s1 = some m.cls := findClass_of_methodNamed Bd.named
 have hnm := (name_of_methodNamed Bd.named Bd.method).1
 have X0 : Stand p l e ({ frames := 1, cells := 0, slots := 0, locals := 14 } : Room) s m #[(.ref a22), (.int p10)] below meth c s₁ [] 0 0 := Stand.of_body Bd
 have e0 : s₁.heap = h0 := by rw [← hh, Bd.state]; rfl
 have K0 : own_Kp h0 h0 [] [] := own_kpRefl _ _
 show own_Go p e below (own_K s (own_QP (some (.int (oN (oH p10)))) h0) 0 0) s₁ (entryFrame m #[(.ref a22), (.int p10)] 4)
 rw [own_ef477]
 obtain ⟨T16, X16, e16, st16⟩ := own_gF X0 hx hZ hown hby (own_wd hw 148 rfl) e0 F23 d19_1 #[.val (.ref a22), .val (.int p10), .unset, .unset] []
 obtain ⟨cl20, Ar20, q20, S20, N20, H20, G20⟩ := id H24
 let l1 : Array Slot := #[.val (.ref a22), .val (.int p10), .val (.int 31), .unset]
 obtain ⟨_, T21, L21, X21, ⟨rfl, rfl, e21⟩, st21⟩ := own_cs X16 hx hZ hown (own_w489 hw) hml (g := (mkF m 10 l1 [(.int 31), (.int p10)])) (hb hby d19_10) e16 [(.int p10), (.int 31)] [] (lenOf own_pd12 rfl) (rm487 l Z a0 hw h0 p10 )
 let l2 : Array Slot := #[.val (.ref a22), .val (.int p10), .val (.int 31), .val (.int (oH p10))]
 obtain ⟨T17, X17, e17, st17⟩ := own_gF X21 hx hZ hown hby (own_wd hw 148 rfl) e21 F23 d19_15 l2 []
 obtain ⟨cl12, Ar12, q12, S12, N12, H12, G12⟩ := id H24
 have hin12 := inb_of S12 ⟨(own_hlo p10), (own_hhi p10)⟩
 have hat12 := atH H12 hin12 (getH_hit (own_hlo p10) hp26)
 obtain ⟨T11, X11, e11, st11⟩ := own_gF X17 hx hZ hown hby (own_wd hw 148 rfl) e17 F23 d19_25 l2 []
 obtain ⟨cl13, Ar13, q13, S13, N13, H13, G13⟩ := id H24
 have hin13 := inb_of S13 ⟨(own_hlo p10), (own_hhi p10)⟩
 have hat13 := atH H13 hin13 (getH_hit (own_hlo p10) hp26)
 let l3 : Array Slot := #[.val (.ref a22), .val (.int p10), .val (.int 31), .val (.int (oN (oH p10)))]
 obtain ⟨T18, X18, e18, st18⟩ := own_gF X11 hx hZ hown hby (own_wd hw 148 rfl) e11 F23 d19_15 l3 []
 obtain ⟨cl14, Ar14, q14, S14, N14, H14, G14⟩ := id H24
 have hin14 := inb_of S14 ⟨(ar622 (oH p10) ), (ar623 (oH p10) )⟩
 have hat14 := atH H14 hin14 (getH_miss (ar622 (oH p10) ) (ar624 (oH p10) p25 hp26) (getH_all rfl _))
 obtain ⟨T19, X19, e19, st19⟩ := own_gF X18 hx hZ hown hby (own_wd hw 148 rfl) e18 F23 d19_25 l3 []
 obtain ⟨cl15, Ar15, q15, S15, N15, H15, G15⟩ := id H24
 have hin15 := inb_of S15 ⟨(ar622 (oH p10) ), (ar623 (oH p10) )⟩
 have hat15 := atH H15 hin15 (getH_miss (ar622 (oH p10) ) (ar624 (oH p10) p25 hp26) (getH_all rfl _))
 refine own_go (T2 := T19) (g2 := (mkF m 43 l3 [(.int (oN (oH p10)))])) (fun t k => z_aloadN X0 hx hby d19_0 rfl rfl (st16 _ (own_alen X16 hx hZ e16 Ar20 S20 N20 rfl rfl (hb hby d19_4) (z_iconst X16 hx hby d19_5 (z_isub X16 hx hby d19_6 (z_istoreN X16 hx hby d19_7 l1 rfl (z_iloadN X16 hx hby d19_8 rfl (z_iloadN X16 hx hby d19_9 rfl (st21 _ (z_istoreN X21 hx hby d19_13 l2 rfl (z_aloadN X21 hx hby d19_14 rfl rfl (st17 _ (z_iloadN X17 hx hby d19_18 rfl (own_ial X17 hx hZ e17 Ar12 hin12 hat12 rfl rfl (hb hby d19_19) (z_iloadN X17 hx hby d19_20 rfl (z_icmpNo X17 hx hby d19_21 (feq hp30).1 (z_aloadN X17 hx hby d19_24 rfl rfl (st11 _ (z_iloadN X11 hx hby d19_28 rfl (own_ial X11 hx hZ e11 Ar13 hin13 hat13 rfl rfl (hb hby d19_29) (z_ifNo X11 hx hby d19_30 ((if0 _ _).trans (feq hp31).1) (z_iloadN X11 hx hby d19_33 rfl (z_iconst X11 hx hby d19_34 (z_iadd X11 hx hby d19_35 (z_iloadN X11 hx hby d19_36 rfl (z_iand X11 hx hby d19_37 (z_istoreN X11 hx hby d19_38 l3 rfl (z_goto X11 hx hby 14 d19_39 rfl (z_aloadN X11 hx hby d19_14 rfl rfl (st18 _ (z_iloadN X18 hx hby d19_18 rfl (own_ial X18 hx hZ e18 Ar14 hin14 hat14 rfl rfl (hb hby d19_19) (z_iloadN X18 hx hby d19_20 rfl (z_icmpNo X18 hx hby d19_21 (feq hp32).1 (z_aloadN X18 hx hby d19_24 rfl rfl (st19 _ (z_iloadN X19 hx hby d19_28 rfl (own_ial X19 hx hZ e19 Ar15 hin15 hat15 rfl rfl (hb hby d19_29) (z_ifYes X19 hx hby 42 d19_30 ((if0 _ _).trans (teq (show (0 : Int32) = 0 from (by decide))).1) rfl (z_iloadN X19 hx hby d19_42 rfl k)))))))))))))))))))))))))))))))))))))))) ?_
 exact own_endI X19 hx Bd.notSynchronized Bd.returns (hb hby d19_43) (by decide) (by decide) ⟨rfl, rfl, e19⟩
def own_Q572 (Z : State) (h0 : Heap) (a573 : Addr) (a574 : Addr) (p575 : Int32) (a578 : Addr) (c581 : ClassId) (p582 : Int32) (p583 : Int32) (p594 : Int32) (a634 : Addr) (c639 : ClassId) (p640 : Int32) (v : Option Value) (h : Heap) (L : List Loc) : Prop := v = none ∧ own_Kp h0 h [a578, a634, a573] L ∧ Arh Z h a578 c581 .int 32 [((((oH (p594 + 1)) + 1) &&& 31), (.int (p594 + 1))), (p582, (.int p583))] [] (.int 0) ∧ Arh Z h a634 c639 .int 32 [((((oH (p594 + 1)) + 1) &&& 31), (.int p575)), (p582, (.int p640))] [] (.int 0) ∧ Fld Z h a573 own_s1 "size" "I" (.int 2) ∧ Fld Z h a573 own_s1 "slots" "[I" (.ref a578) ∧ Fld Z h a573 own_s1 "indices" "[I" (.ref a634)
set_option maxRecDepth 65536 in
set_option maxHeartbeats 40000000 in
theorem rm572 (l : Launch) (Z : State) (a0 : Array Value) (hw : ∀ d ∈ tables_1, d.before a0 Z = true) (h0 : Heap) (a14 a15 : Addr) (p19 : Int32) (a20 : Addr) (c29 : ClassId) (p27 p28 p12 : Int32) (a23 : Addr) (c33 : ClassId) (p34 : Int32) (F37 : Fld Z h0 a14 own_s1 "size" "I" (.int 1)) (F30 : Fld Z h0 a14 own_s1 "slots" "[I" (.ref a20)) (H35 : Arh Z h0 a20 c29 .int 32 [(p27, (.int p28))] [] (.int 0)) (F41 : Fld Z h0 a15 own_s0 "id" "I" (.int p12)) (E42 : Exa Z h0 a15 own_s0) (hp43 : (oH (p12 + 1)) = p27) (hp44 : ¬ (p28 = (p12 + 1))) (hp45 : ¬ (p28 = 0)) (hp46 : ¬ ((0 : Int32) = (p12 + 1))) (E38 : Exa Z h0 a14 own_s1) (F47 : Fld Z h0 a14 own_s1 "indices" "[I" (.ref a23)) (ne31 : a14 ≠ a20) (H48 : Arh Z h0 a23 c33 .int 32 [(p27, (.int p34))] [] (.int 0)) (ne39 : a23 ≠ a20) (ne32 : a14 ≠ a23) :
    own_Con l Z own_y3 prog_7_method_3_code 5 none ({ frames := 2, cells := 0, slots := 0, locals := 29 } : Room) #[(.ref a14), (.ref a15), (.int p19)] h0 (own_Q572 Z h0 a14 a15 p19 a20 c29 p27 p28 p12 a23 c33 p34) := by
 refine MetFree.of_bodySF (plainFor_of_name own_pn8) hisR ?_
 intro p e s m args below meth c s₁ Bd hml0 hP hK
 obtain ⟨rfl, hZ, hh⟩ := hP
 have hx := Bd.exec
 have hby := Bd.bytes
 have hml : c.maxLocals = 5 := hml0
 have hown : s.vm.findClass own_s1 = some m.cls := findClass_of_methodNamed Bd.named
 have hnm := (name_of_methodNamed Bd.named Bd.method).1
 have X0 : Stand p l e ({ frames := 2, cells := 0, slots := 0, locals := 29 } : Room) s m #[(.ref a14), (.ref a15), (.int p19)] below meth c s₁ [] 0 0 := Stand.of_body Bd
 have e0 : s₁.heap = h0 := by rw [← hh, Bd.state]; rfl
 have K0 : own_Kp h0 h0 [a20, a23, a14] [] := own_kpRefl _ _
 show own_Go p e below (own_K s (own_Q572 Z h0 a14 a15 p19 a20 c29 p27 p28 p12 a23 c33 p34) 0 0) s₁ (entryFrame m #[(.ref a14), (.ref a15), (.int p19)] 5)
 rw [own_ef449]
 let l1 : Array Slot := #[.val (.ref a14), .val (.ref a15), .val (.int p19), .unset, .unset]
 obtain ⟨T17, X17, e17, st17⟩ := own_gF X0 hx hZ hown hby (own_wd hw 157 rfl) e0 F37 d17_2 l1 [(.int 2)]
 obtain ⟨T18, X18, e18, st18⟩ := own_gF X17 hx hZ hown hby (own_wd hw 148 rfl) e17 F30 d17_9 l1 [(.int 4)]
 obtain ⟨cl21, Ar21, q21, S21, N21, H21, G21⟩ := id H35
 obtain ⟨_, T16, L16, X16, ⟨rfl, rfl, e16⟩, st16⟩ := own_cv X18 hx hZ hown (own_w475 hw) hml (g := (mkF m 21 l1 [(.ref a15)])) (hb hby d17_21) e18 E42 [] [] (lenOf own_pd5 rfl) (rm462 l Z a0 hw h0 a15 p12 F41)
 let l2 : Array Slot := #[.val (.ref a14), .val (.ref a15), .val (.int p19), .val (.int (p12 + 1)), .unset]
 obtain ⟨_, T22, L22, X22, ⟨rfl, rfl, e22⟩, st22⟩ := own_cp X16 hx hZ hown (own_w499 hw) hml (g := (mkF m 29 l2 [(.int (p12 + 1)), (.ref a14)])) (hb hby d17_29) e16 E38 [(.int (p12 + 1))] [] (lenOf own_pd13 rfl) (rm599 l Z a0 hw h0 a14 (p12 + 1) a20 c29 p27 p28 F30 H35 hp43 hp44 hp45 hp46)
 let l3 : Array Slot := #[.val (.ref a14), .val (.ref a15), .val (.int p19), .val (.int (p12 + 1)), .val (.int (oN (oH (p12 + 1))))]
 obtain ⟨T24, X24, e24, st24⟩ := own_gF X22 hx hZ hown hby (own_wd hw 148 rfl) e22 F30 d17_35 l3 []
 obtain ⟨cl11, Ar11, q11, S11, N11, H11, G11⟩ := id H35
 have hin11 := inb_of S11 ⟨(ar622 (oH (p12 + 1)) ), (ar623 (oH (p12 + 1)) )⟩
 obtain ⟨T11, h11, X11, e11, W11, st11⟩ := stI X24 hx hZ e24 Ar11 (j := (oN (oH (p12 + 1)))) hin11 (g := (mkF m 41 l3 [(.int (p12 + 1)), (.int (oN (oH (p12 + 1)))), (.ref a20)])) rfl rfl (hb hby d17_41)
 have V11 := Arh.push Ar11 q11 S11 N11 H11 G11 rfl W11 hin11
 have K11 := own_kpWr K0 W11 (Or.inl (List.mem_of_getElem? (i := 0) rfl))
 have z_W11 := Nat.le_of_eq W11.size.symm
 have F40 := (Fld.other W11 F47 (Or.inl ne31))
 obtain ⟨T25, X25, e25, st25⟩ := own_gF X11 hx hZ hown hby (own_wd hw 150 rfl) e11 F40 d17_43 l3 []
 have H49 := (Arh.other H48 W11 ne39)
 obtain ⟨cl10, Ar10, q10, S10, N10, H10, G10⟩ := id H49
 have hin10 := inb_of S10 ⟨(ar622 (oH (p12 + 1)) ), (ar623 (oH (p12 + 1)) )⟩
 obtain ⟨T10, h10, X10, e10, W10, st10⟩ := stI X25 hx hZ e25 Ar10 (j := (oN (oH (p12 + 1)))) hin10 (g := (mkF m 49 l3 [(.int p19), (.int (oN (oH (p12 + 1)))), (.ref a23)])) rfl rfl (hb hby d17_49)
 have V10 := Arh.push Ar10 q10 S10 N10 H10 G10 rfl W10 hin10
 have K10 := own_kpWr K11 W10 (Or.inl (List.mem_of_getElem? (i := 1) rfl))
 have z_W10 := Nat.le_of_eq W10.size.symm
 have F36 := (Fld.other W10 (Fld.other W11 F37 (Or.inl ne31)) (Or.inl ne32))
 obtain ⟨T26, X26, e26, st26⟩ := own_gF X10 hx hZ hown hby (own_wd hw 157 rfl) e10 F36 d17_52 l3 [(.ref a14)]
 have E50 := (Exa.wr W10 (Exa.wr W11 E38))
 obtain ⟨T13, h13, X13, e13, W13, st13⟩ := putF X26 hx hZ hown (host := "") (Or.inl (own_wd hw 157 rfl)) Via.refl e26 F36 E50 (Or.inl (own_wd hw 158 rfl)) (own_wd hw 141 rfl) (ty := .int) (by decide) rfl rfl (g := (mkF m 57 l3 [(.int 2), (.ref a14)])) rfl rfl (hb hby d17_57)
 have F13 := Fld.same W13 F36
 have K13 := own_kpWr K10 W13 (Or.inl (List.mem_of_getElem? (i := 2) rfl))
 have z_W13 := Nat.le_of_eq W13.size.symm
 have H51 := (Arh.other (Arh.other V11 W10 (Ne.symm ne39)) W13 (Ne.symm ne31))
 have H52 := (Arh.other V10 W13 (Ne.symm ne32))
 have F53 := (Fld.other W13 (Fld.other W10 (Fld.other W11 F30 (Or.inl ne31)) (Or.inl ne32)) (Or.inr (slot_ne (Or.inl (own_wd hw 149 rfl)) (Or.inl (own_wd hw 158 rfl)) (by decide) (t := (.array .int)) (t' := .int) (by decide) (by decide))))
 have F54 := (Fld.other W13 (Fld.other W10 F40 (Or.inl ne32)) (Or.inr (slot_ne (Or.inl (own_wd hw 151 rfl)) (Or.inl (own_wd hw 158 rfl)) (by decide) (t := (.array .int)) (t' := .int) (by decide) (by decide))))
 refine own_go (T2 := T13) (g2 := (mkF m 60 l3 [])) (fun t k => z_iconst X0 hx hby d17_0 (z_aloadN X0 hx hby d17_1 rfl rfl (st17 _ (z_iconst X17 hx hby d17_5 (z_iadd X17 hx hby d17_6 (XS.imul X17.here hx rfl (hb hby d17_7) rfl (z_aloadN X17 hx hby d17_8 rfl rfl (st18 _ (own_alen X18 hx hZ e18 Ar21 S21 N21 rfl rfl (hb hby d17_12) (z_icmpYes X18 hx hby 20 d17_13 (flt (show ¬ ((32 : Int32) < 4) from (by decide))).2.2.2 rfl (z_aloadN X18 hx hby d17_20 rfl rfl (st16 _ (z_iconst X16 hx hby d17_24 (z_iadd X16 hx hby d17_25 (z_istoreN X16 hx hby d17_26 l2 rfl (z_aloadN X16 hx hby d17_27 rfl rfl (z_iloadN X16 hx hby d17_28 rfl (st22 _ (z_istore X22 hx hby d17_32 l3 rfl (z_aloadN X22 hx hby d17_34 rfl rfl (st24 _ (z_iload X24 hx hby d17_38 rfl (z_iloadN X24 hx hby d17_40 rfl (st11 _ (z_aloadN X11 hx hby d17_42 rfl rfl (st25 _ (z_iload X25 hx hby d17_46 rfl (z_iloadN X25 hx hby d17_48 rfl (st10 _ (z_aloadN X10 hx hby d17_50 rfl rfl (z_dup X10 hx hby d17_51 rfl (st26 _ (z_iconst X26 hx hby d17_55 (z_iadd X26 hx hby d17_56 (st13 _ k))))))))))))))))))))))))))))))))))) ?_
 exact own_endV X13 hx Bd.notSynchronized Bd.returns (hb hby d17_60) (by decide) (by decide) (by rw [e13]; exact ⟨rfl, (by simpa only [List.append_nil] using K13), H51, H52, F13, F53, F54⟩)
theorem ar758 (x0 : Int32)  : ¬ (((((x0 + 1) &&& 31) + 1) &&& 31) = x0) := by
  have f5 := rng32 x0
  have f6 : (1 : Int32).toInt = 1 := by decide
  have f4r := rng32 (x0 + 1)
  have f4 := c_iadd x0 (1 : Int32)
  have f7 : (31 : Int32).toInt = 31 := by decide
  have f3r := rng32 ((x0 + 1) &&& 31)
  have f3 : ((x0 + 1) &&& 31).toInt = (x0 + 1).toInt % 32 := c_mask (x0 + 1) (31 : Int32) 5 (by decide) (by decide)
  have f2r := rng32 (((x0 + 1) &&& 31) + 1)
  have f2 := c_iadd ((x0 + 1) &&& 31) (1 : Int32)
  have f1r := rng32 ((((x0 + 1) &&& 31) + 1) &&& 31)
  have f1 : ((((x0 + 1) &&& 31) + 1) &&& 31).toInt = (((x0 + 1) &&& 31) + 1).toInt % 32 := c_mask (((x0 + 1) &&& 31) + 1) (31 : Int32) 5 (by decide) (by decide)
  exact fun q => absurd (Int32.toInt_inj.mpr q) (by omega)
set_option maxRecDepth 65536 in
set_option maxHeartbeats 40000000 in
theorem rm733 (l : Launch) (Z : State) (a0 : Array Value) (hw : ∀ d ∈ tables_1, d.before a0 Z = true) (h0 : Heap) (a22 : Addr) (p10 : Int32) (a28 : Addr) (c31 : ClassId) (p25 p27 : Int32) (p29 p32 : Int32) (F23 : Fld Z h0 a22 own_s1 "slots" "[I" (.ref a28)) (H24 : Arh Z h0 a28 c31 .int 32 [(p25, (.int p27)), (p29, (.int p32))] [] (.int 0)) (hp26 : (oH p10) = p25) (hp33 : ¬ (p27 = p10)) (hp34 : ¬ (p27 = 0)) (hp30 : ¬ ((oN (oH p10)) = p29)) (hp35 : ¬ ((0 : Int32) = p10)) :
    own_Con l Z own_y1 prog_7_method_6_code 4 (some .int) ({ frames := 1, cells := 0, slots := 0, locals := 14 } : Room) #[(.ref a22), (.int p10)] h0 (own_QP (some (.int (oN (oH p10)))) h0) := by
 refine MetFree.of_bodySF (plainFor_of_name own_pn8) hisR ?_
 intro p e s m args below meth c s₁ Bd hml0 hP hK
 obtain ⟨rfl, hZ, hh⟩ := hP
 have hx := Bd.exec
 have hby := Bd.bytes
 have hml : c.maxLocals = 4 := hml0
 have hown : s.vm.findClass own_s1 = some m.cls := findClass_of_methodNamed Bd.named
 have hnm := (name_of_methodNamed Bd.named Bd.method).1
 have X0 : Stand p l e ({ frames := 1, cells := 0, slots := 0, locals := 14 } : Room) s m #[(.ref a22), (.int p10)] below meth c s₁ [] 0 0 := Stand.of_body Bd
 have e0 : s₁.heap = h0 := by rw [← hh, Bd.state]; rfl
 have K0 : own_Kp h0 h0 [] [] := own_kpRefl _ _
 show own_Go p e below (own_K s (own_QP (some (.int (oN (oH p10)))) h0) 0 0) s₁ (entryFrame m #[(.ref a22), (.int p10)] 4)
 rw [own_ef477]
 obtain ⟨T16, X16, e16, st16⟩ := own_gF X0 hx hZ hown hby (own_wd hw 148 rfl) e0 F23 d19_1 #[.val (.ref a22), .val (.int p10), .unset, .unset] []
 obtain ⟨cl20, Ar20, q20, S20, N20, H20, G20⟩ := id H24
 let l1 : Array Slot := #[.val (.ref a22), .val (.int p10), .val (.int 31), .unset]
 obtain ⟨_, T21, L21, X21, ⟨rfl, rfl, e21⟩, st21⟩ := own_cs X16 hx hZ hown (own_w489 hw) hml (g := (mkF m 10 l1 [(.int 31), (.int p10)])) (hb hby d19_10) e16 [(.int p10), (.int 31)] [] (lenOf own_pd12 rfl) (rm487 l Z a0 hw h0 p10 )
 let l2 : Array Slot := #[.val (.ref a22), .val (.int p10), .val (.int 31), .val (.int (oH p10))]
 obtain ⟨T17, X17, e17, st17⟩ := own_gF X21 hx hZ hown hby (own_wd hw 148 rfl) e21 F23 d19_15 l2 []
 obtain ⟨cl12, Ar12, q12, S12, N12, H12, G12⟩ := id H24
 have hin12 := inb_of S12 ⟨(own_hlo p10), (own_hhi p10)⟩
 have hat12 := atH H12 hin12 (getH_hit (own_hlo p10) hp26)
 obtain ⟨T11, X11, e11, st11⟩ := own_gF X17 hx hZ hown hby (own_wd hw 148 rfl) e17 F23 d19_25 l2 []
 obtain ⟨cl13, Ar13, q13, S13, N13, H13, G13⟩ := id H24
 have hin13 := inb_of S13 ⟨(own_hlo p10), (own_hhi p10)⟩
 have hat13 := atH H13 hin13 (getH_hit (own_hlo p10) hp26)
 let l3 : Array Slot := #[.val (.ref a22), .val (.int p10), .val (.int 31), .val (.int (oN (oH p10)))]
 obtain ⟨T18, X18, e18, st18⟩ := own_gF X11 hx hZ hown hby (own_wd hw 148 rfl) e11 F23 d19_15 l3 []
 obtain ⟨cl14, Ar14, q14, S14, N14, H14, G14⟩ := id H24
 have hin14 := inb_of S14 ⟨(ar622 (oH p10) ), (ar623 (oH p10) )⟩
 have hat14 := atH H14 hin14 (getH_miss (ar622 (oH p10) ) (ar624 (oH p10) p25 hp26) (getH_miss (ar622 (oH p10) ) hp30 (getH_all rfl _)))
 obtain ⟨T19, X19, e19, st19⟩ := own_gF X18 hx hZ hown hby (own_wd hw 148 rfl) e18 F23 d19_25 l3 []
 obtain ⟨cl15, Ar15, q15, S15, N15, H15, G15⟩ := id H24
 have hin15 := inb_of S15 ⟨(ar622 (oH p10) ), (ar623 (oH p10) )⟩
 have hat15 := atH H15 hin15 (getH_miss (ar622 (oH p10) ) (ar624 (oH p10) p25 hp26) (getH_miss (ar622 (oH p10) ) hp30 (getH_all rfl _)))
 refine own_go (T2 := T19) (g2 := (mkF m 43 l3 [(.int (oN (oH p10)))])) (fun t k => z_aloadN X0 hx hby d19_0 rfl rfl (st16 _ (own_alen X16 hx hZ e16 Ar20 S20 N20 rfl rfl (hb hby d19_4) (z_iconst X16 hx hby d19_5 (z_isub X16 hx hby d19_6 (z_istoreN X16 hx hby d19_7 l1 rfl (z_iloadN X16 hx hby d19_8 rfl (z_iloadN X16 hx hby d19_9 rfl (st21 _ (z_istoreN X21 hx hby d19_13 l2 rfl (z_aloadN X21 hx hby d19_14 rfl rfl (st17 _ (z_iloadN X17 hx hby d19_18 rfl (own_ial X17 hx hZ e17 Ar12 hin12 hat12 rfl rfl (hb hby d19_19) (z_iloadN X17 hx hby d19_20 rfl (z_icmpNo X17 hx hby d19_21 (feq hp33).1 (z_aloadN X17 hx hby d19_24 rfl rfl (st11 _ (z_iloadN X11 hx hby d19_28 rfl (own_ial X11 hx hZ e11 Ar13 hin13 hat13 rfl rfl (hb hby d19_29) (z_ifNo X11 hx hby d19_30 ((if0 _ _).trans (feq hp34).1) (z_iloadN X11 hx hby d19_33 rfl (z_iconst X11 hx hby d19_34 (z_iadd X11 hx hby d19_35 (z_iloadN X11 hx hby d19_36 rfl (z_iand X11 hx hby d19_37 (z_istoreN X11 hx hby d19_38 l3 rfl (z_goto X11 hx hby 14 d19_39 rfl (z_aloadN X11 hx hby d19_14 rfl rfl (st18 _ (z_iloadN X18 hx hby d19_18 rfl (own_ial X18 hx hZ e18 Ar14 hin14 hat14 rfl rfl (hb hby d19_19) (z_iloadN X18 hx hby d19_20 rfl (z_icmpNo X18 hx hby d19_21 (feq hp35).1 (z_aloadN X18 hx hby d19_24 rfl rfl (st19 _ (z_iloadN X19 hx hby d19_28 rfl (own_ial X19 hx hZ e19 Ar15 hin15 hat15 rfl rfl (hb hby d19_29) (z_ifYes X19 hx hby 42 d19_30 ((if0 _ _).trans (teq (show (0 : Int32) = 0 from (by decide))).1) rfl (z_iloadN X19 hx hby d19_42 rfl k)))))))))))))))))))))))))))))))))))))))) ?_
 exact own_endI X19 hx Bd.notSynchronized Bd.returns (hb hby d19_43) (by decide) (by decide) ⟨rfl, rfl, e19⟩
def own_Q705 (Z : State) (h0 : Heap) (a706 : Addr) (a707 : Addr) (p708 : Int32) (a711 : Addr) (c714 : ClassId) (p715 : Int32) (p716 : Int32) (p717 : Int32) (p718 : Int32) (p728 : Int32) (a770 : Addr) (c775 : ClassId) (p776 : Int32) (p777 : Int32) (v : Option Value) (h : Heap) (L : List Loc) : Prop := v = none ∧ own_Kp h0 h [a711, a770, a706] L ∧ Arh Z h a711 c714 .int 32 [((((oH (p728 + 1)) + 1) &&& 31), (.int (p728 + 1))), (p715, (.int p716)), (p717, (.int p718))] [] (.int 0) ∧ Arh Z h a770 c775 .int 32 [((((oH (p728 + 1)) + 1) &&& 31), (.int p708)), (p715, (.int p776)), (p717, (.int p777))] [] (.int 0) ∧ Fld Z h a706 own_s1 "size" "I" (.int 3) ∧ Fld Z h a706 own_s1 "slots" "[I" (.ref a711) ∧ Fld Z h a706 own_s1 "indices" "[I" (.ref a770)
set_option maxRecDepth 65536 in
set_option maxHeartbeats 40000000 in
theorem rm705 (l : Launch) (Z : State) (a0 : Array Value) (hw : ∀ d ∈ tables_1, d.before a0 Z = true) (h0 : Heap) (a14 a15 : Addr) (p19 : Int32) (a20 : Addr) (c30 : ClassId) (p27 p28 : Int32) (p29 p31 p12 : Int32) (a23 : Addr) (c35 : ClassId) (p36 p37 : Int32) (F40 : Fld Z h0 a14 own_s1 "size" "I" (.int 2)) (F32 : Fld Z h0 a14 own_s1 "slots" "[I" (.ref a20)) (H38 : Arh Z h0 a20 c30 .int 32 [(p27, (.int p28)), (p29, (.int p31))] [] (.int 0)) (F44 : Fld Z h0 a15 own_s0 "id" "I" (.int p12)) (E45 : Exa Z h0 a15 own_s0) (hp46 : (oH (p12 + 1)) = p27) (hp47 : ¬ (p28 = (p12 + 1))) (hp48 : ¬ (p28 = 0)) (hp49 : ¬ ((oN (oH (p12 + 1))) = p29)) (hp50 : ¬ ((0 : Int32) = (p12 + 1))) (E41 : Exa Z h0 a14 own_s1) (F51 : Fld Z h0 a14 own_s1 "indices" "[I" (.ref a23)) (ne33 : a14 ≠ a20) (H52 : Arh Z h0 a23 c35 .int 32 [(p27, (.int p36)), (p29, (.int p37))] [] (.int 0)) (ne42 : a23 ≠ a20) (ne34 : a14 ≠ a23) :
    own_Con l Z own_y3 prog_7_method_3_code 5 none ({ frames := 2, cells := 0, slots := 0, locals := 29 } : Room) #[(.ref a14), (.ref a15), (.int p19)] h0 (own_Q705 Z h0 a14 a15 p19 a20 c30 p27 p28 p29 p31 p12 a23 c35 p36 p37) := by
 refine MetFree.of_bodySF (plainFor_of_name own_pn8) hisR ?_
 intro p e s m args below meth c s₁ Bd hml0 hP hK
 obtain ⟨rfl, hZ, hh⟩ := hP
 have hx := Bd.exec
 have hby := Bd.bytes
 have hml : c.maxLocals = 5 := hml0
 have hown : s.vm.findClass own_s1 = some m.cls := findClass_of_methodNamed Bd.named
 have hnm := (name_of_methodNamed Bd.named Bd.method).1
 have X0 : Stand p l e ({ frames := 2, cells := 0, slots := 0, locals := 29 } : Room) s m #[(.ref a14), (.ref a15), (.int p19)] below meth c s₁ [] 0 0 := Stand.of_body Bd
 have e0 : s₁.heap = h0 := by rw [← hh, Bd.state]; rfl
 have K0 : own_Kp h0 h0 [a20, a23, a14] [] := own_kpRefl _ _
 show own_Go p e below (own_K s (own_Q705 Z h0 a14 a15 p19 a20 c30 p27 p28 p29 p31 p12 a23 c35 p36 p37) 0 0) s₁ (entryFrame m #[(.ref a14), (.ref a15), (.int p19)] 5)
 rw [own_ef449]
 let l1 : Array Slot := #[.val (.ref a14), .val (.ref a15), .val (.int p19), .unset, .unset]
 obtain ⟨T17, X17, e17, st17⟩ := own_gF X0 hx hZ hown hby (own_wd hw 157 rfl) e0 F40 d17_2 l1 [(.int 2)]
 obtain ⟨T18, X18, e18, st18⟩ := own_gF X17 hx hZ hown hby (own_wd hw 148 rfl) e17 F32 d17_9 l1 [(.int 6)]
 obtain ⟨cl21, Ar21, q21, S21, N21, H21, G21⟩ := id H38
 obtain ⟨_, T16, L16, X16, ⟨rfl, rfl, e16⟩, st16⟩ := own_cv X18 hx hZ hown (own_w475 hw) hml (g := (mkF m 21 l1 [(.ref a15)])) (hb hby d17_21) e18 E45 [] [] (lenOf own_pd5 rfl) (rm462 l Z a0 hw h0 a15 p12 F44)
 let l2 : Array Slot := #[.val (.ref a14), .val (.ref a15), .val (.int p19), .val (.int (p12 + 1)), .unset]
 obtain ⟨_, T22, L22, X22, ⟨rfl, rfl, e22⟩, st22⟩ := own_cp X16 hx hZ hown (own_w499 hw) hml (g := (mkF m 29 l2 [(.int (p12 + 1)), (.ref a14)])) (hb hby d17_29) e16 E41 [(.int (p12 + 1))] [] (lenOf own_pd13 rfl) (rm733 l Z a0 hw h0 a14 (p12 + 1) a20 c30 p27 p28 p29 p31 F32 H38 hp46 hp47 hp48 hp49 hp50)
 let l3 : Array Slot := #[.val (.ref a14), .val (.ref a15), .val (.int p19), .val (.int (p12 + 1)), .val (.int (oN (oH (p12 + 1))))]
 obtain ⟨T24, X24, e24, st24⟩ := own_gF X22 hx hZ hown hby (own_wd hw 148 rfl) e22 F32 d17_35 l3 []
 obtain ⟨cl11, Ar11, q11, S11, N11, H11, G11⟩ := id H38
 have hin11 := inb_of S11 ⟨(ar622 (oH (p12 + 1)) ), (ar623 (oH (p12 + 1)) )⟩
 obtain ⟨T11, h11, X11, e11, W11, st11⟩ := stI X24 hx hZ e24 Ar11 (j := (oN (oH (p12 + 1)))) hin11 (g := (mkF m 41 l3 [(.int (p12 + 1)), (.int (oN (oH (p12 + 1)))), (.ref a20)])) rfl rfl (hb hby d17_41)
 have V11 := Arh.push Ar11 q11 S11 N11 H11 G11 rfl W11 hin11
 have K11 := own_kpWr K0 W11 (Or.inl (List.mem_of_getElem? (i := 0) rfl))
 have z_W11 := Nat.le_of_eq W11.size.symm
 have F43 := (Fld.other W11 F51 (Or.inl ne33))
 obtain ⟨T25, X25, e25, st25⟩ := own_gF X11 hx hZ hown hby (own_wd hw 150 rfl) e11 F43 d17_43 l3 []
 have H53 := (Arh.other H52 W11 ne42)
 obtain ⟨cl10, Ar10, q10, S10, N10, H10, G10⟩ := id H53
 have hin10 := inb_of S10 ⟨(ar622 (oH (p12 + 1)) ), (ar623 (oH (p12 + 1)) )⟩
 obtain ⟨T10, h10, X10, e10, W10, st10⟩ := stI X25 hx hZ e25 Ar10 (j := (oN (oH (p12 + 1)))) hin10 (g := (mkF m 49 l3 [(.int p19), (.int (oN (oH (p12 + 1)))), (.ref a23)])) rfl rfl (hb hby d17_49)
 have V10 := Arh.push Ar10 q10 S10 N10 H10 G10 rfl W10 hin10
 have K10 := own_kpWr K11 W10 (Or.inl (List.mem_of_getElem? (i := 1) rfl))
 have z_W10 := Nat.le_of_eq W10.size.symm
 have F39 := (Fld.other W10 (Fld.other W11 F40 (Or.inl ne33)) (Or.inl ne34))
 obtain ⟨T26, X26, e26, st26⟩ := own_gF X10 hx hZ hown hby (own_wd hw 157 rfl) e10 F39 d17_52 l3 [(.ref a14)]
 have E54 := (Exa.wr W10 (Exa.wr W11 E41))
 obtain ⟨T13, h13, X13, e13, W13, st13⟩ := putF X26 hx hZ hown (host := "") (Or.inl (own_wd hw 157 rfl)) Via.refl e26 F39 E54 (Or.inl (own_wd hw 158 rfl)) (own_wd hw 141 rfl) (ty := .int) (by decide) rfl rfl (g := (mkF m 57 l3 [(.int 3), (.ref a14)])) rfl rfl (hb hby d17_57)
 have F13 := Fld.same W13 F39
 have K13 := own_kpWr K10 W13 (Or.inl (List.mem_of_getElem? (i := 2) rfl))
 have z_W13 := Nat.le_of_eq W13.size.symm
 have H55 := (Arh.other (Arh.other V11 W10 (Ne.symm ne42)) W13 (Ne.symm ne33))
 have H56 := (Arh.other V10 W13 (Ne.symm ne34))
 have F57 := (Fld.other W13 (Fld.other W10 (Fld.other W11 F32 (Or.inl ne33)) (Or.inl ne34)) (Or.inr (slot_ne (Or.inl (own_wd hw 149 rfl)) (Or.inl (own_wd hw 158 rfl)) (by decide) (t := (.array .int)) (t' := .int) (by decide) (by decide))))
 have F58 := (Fld.other W13 (Fld.other W10 F43 (Or.inl ne34)) (Or.inr (slot_ne (Or.inl (own_wd hw 151 rfl)) (Or.inl (own_wd hw 158 rfl)) (by decide) (t := (.array .int)) (t' := .int) (by decide) (by decide))))
 refine own_go (T2 := T13) (g2 := (mkF m 60 l3 [])) (fun t k => z_iconst X0 hx hby d17_0 (z_aloadN X0 hx hby d17_1 rfl rfl (st17 _ (z_iconst X17 hx hby d17_5 (z_iadd X17 hx hby d17_6 (XS.imul X17.here hx rfl (hb hby d17_7) rfl (z_aloadN X17 hx hby d17_8 rfl rfl (st18 _ (own_alen X18 hx hZ e18 Ar21 S21 N21 rfl rfl (hb hby d17_12) (z_icmpYes X18 hx hby 20 d17_13 (flt (show ¬ ((32 : Int32) < 6) from (by decide))).2.2.2 rfl (z_aloadN X18 hx hby d17_20 rfl rfl (st16 _ (z_iconst X16 hx hby d17_24 (z_iadd X16 hx hby d17_25 (z_istoreN X16 hx hby d17_26 l2 rfl (z_aloadN X16 hx hby d17_27 rfl rfl (z_iloadN X16 hx hby d17_28 rfl (st22 _ (z_istore X22 hx hby d17_32 l3 rfl (z_aloadN X22 hx hby d17_34 rfl rfl (st24 _ (z_iload X24 hx hby d17_38 rfl (z_iloadN X24 hx hby d17_40 rfl (st11 _ (z_aloadN X11 hx hby d17_42 rfl rfl (st25 _ (z_iload X25 hx hby d17_46 rfl (z_iloadN X25 hx hby d17_48 rfl (st10 _ (z_aloadN X10 hx hby d17_50 rfl rfl (z_dup X10 hx hby d17_51 rfl (st26 _ (z_iconst X26 hx hby d17_55 (z_iadd X26 hx hby d17_56 (st13 _ k))))))))))))))))))))))))))))))))))) ?_
 exact own_endV X13 hx Bd.notSynchronized Bd.returns (hb hby d17_60) (by decide) (by decide) (by rw [e13]; exact ⟨rfl, (by simpa only [List.append_nil] using K13), H55, H56, F13, F57, F58⟩)
theorem ar797 (x0 : Int32)  : ¬ (((x0 + 1) &&& 31) = ((((x0 + 1) &&& 31) + 1) &&& 31)) := by
  have f3 := rng32 x0
  have f4 : (1 : Int32).toInt = 1 := by decide
  have f2r := rng32 (x0 + 1)
  have f2 := c_iadd x0 (1 : Int32)
  have f5 : (31 : Int32).toInt = 31 := by decide
  have f1r := rng32 ((x0 + 1) &&& 31)
  have f1 : ((x0 + 1) &&& 31).toInt = (x0 + 1).toInt % 32 := c_mask (x0 + 1) (31 : Int32) 5 (by decide) (by decide)
  have f7r := rng32 (((x0 + 1) &&& 31) + 1)
  have f7 := c_iadd ((x0 + 1) &&& 31) (1 : Int32)
  have f6r := rng32 ((((x0 + 1) &&& 31) + 1) &&& 31)
  have f6 : ((((x0 + 1) &&& 31) + 1) &&& 31).toInt = (((x0 + 1) &&& 31) + 1).toInt % 32 := c_mask (((x0 + 1) &&& 31) + 1) (31 : Int32) 5 (by decide) (by decide)
  exact fun q => absurd (Int32.toInt_inj.mpr q) (by omega)
theorem ar798 (x0 : Int32)  : ¬ (((((x0 + 1) &&& 31) + 1) &&& 31) = ((x0 + 1) &&& 31)) := by
  have f5 := rng32 x0
  have f6 : (1 : Int32).toInt = 1 := by decide
  have f4r := rng32 (x0 + 1)
  have f4 := c_iadd x0 (1 : Int32)
  have f7 : (31 : Int32).toInt = 31 := by decide
  have f3r := rng32 ((x0 + 1) &&& 31)
  have f3 : ((x0 + 1) &&& 31).toInt = (x0 + 1).toInt % 32 := c_mask (x0 + 1) (31 : Int32) 5 (by decide) (by decide)
  have f2r := rng32 (((x0 + 1) &&& 31) + 1)
  have f2 := c_iadd ((x0 + 1) &&& 31) (1 : Int32)
  have f1r := rng32 ((((x0 + 1) &&& 31) + 1) &&& 31)
  have f1 : ((((x0 + 1) &&& 31) + 1) &&& 31).toInt = (((x0 + 1) &&& 31) + 1).toInt % 32 := c_mask (((x0 + 1) &&& 31) + 1) (31 : Int32) 5 (by decide) (by decide)
  exact fun q => absurd (Int32.toInt_inj.mpr q) (by omega)
theorem ar799 (x0 : Int32)  : ¬ (((x0 + 1) &&& 31) = x0) := by
  have f3 := rng32 x0
  have f4 : (1 : Int32).toInt = 1 := by decide
  have f2r := rng32 (x0 + 1)
  have f2 := c_iadd x0 (1 : Int32)
  have f5 : (31 : Int32).toInt = 31 := by decide
  have f1r := rng32 ((x0 + 1) &&& 31)
  have f1 : ((x0 + 1) &&& 31).toInt = (x0 + 1).toInt % 32 := c_mask (x0 + 1) (31 : Int32) 5 (by decide) (by decide)
  exact fun q => absurd (Int32.toInt_inj.mpr q) (by omega)
theorem cn800 (x0 x1 x2 : Int32) (v0 v1 v2 : Value) (h0 : ¬ (x0 = x1)) (h1 : ¬ (x0 = x2)) (h2 : ¬ (x1 = x2)) : ∀ i : Nat, getH [(x0, v0), (x1, v1), (x2, v2)] [] (.int 0) i = getH [(x2, v2), (x1, v1), (x0, v0)] [] (.int 0) i := by
  intro i
  have g0 := mt Int32.toInt_inj.mp h0
  have g1 := mt Int32.toInt_inj.mp h1
  have g2 := mt Int32.toInt_inj.mp h2
  simp only [getH]
  repeat' split
  all_goals first | rfl | (exfalso; omega)
abbrev c_7_5 := prog_7_method_5_code
theorem d21_0 : decode c_7_5 0 = .ok (.aload_n 0, 1) := by decide +kernel
theorem d21_1 : decode c_7_5 1 = .ok (.getfield 9, 3) := by decide +kernel
theorem d21_4 : decode c_7_5 4 = .ok (.arraylength, 1) := by decide +kernel
theorem d21_5 : decode c_7_5 5 = .ok (.iconst 1, 1) := by decide +kernel
theorem d21_6 : decode c_7_5 6 = .ok (.isub, 1) := by decide +kernel
theorem d21_7 : decode c_7_5 7 = .ok (.istore_n 2, 1) := by decide +kernel
theorem d21_8 : decode c_7_5 8 = .ok (.aload_n 0, 1) := by decide +kernel
theorem d21_9 : decode c_7_5 9 = .ok (.aload_n 1, 1) := by decide +kernel
theorem d21_10 : decode c_7_5 10 = .ok (.invokevirtual 16, 3) := by decide +kernel
theorem d21_13 : decode c_7_5 13 = .ok (.iconst 1, 1) := by decide +kernel
theorem d21_14 : decode c_7_5 14 = .ok (.iadd, 1) := by decide +kernel
theorem d21_15 : decode c_7_5 15 = .ok (.invokevirtual 22, 3) := by decide +kernel
set_option maxRecDepth 65536 in
set_option maxHeartbeats 40000000 in
theorem rm830 (l : Launch) (Z : State) (a0 : Array Value) (hw : ∀ d ∈ tables_1, d.before a0 Z = true) (h0 : Heap) (a16 : Addr) (p10 : Int32) (a17 : Addr) (c22 : ClassId) (p18 p19 : Int32) (p23 p24 : Int32) (p25 p26 : Int32) (F20 : Fld Z h0 a16 own_s1 "slots" "[I" (.ref a17)) (H21 : Arh Z h0 a17 c22 .int 32 [(p18, (.int p19)), (p23, (.int p24)), (p25, (.int p26))] [] (.int 0)) (hp27 : (oH p10) = p18) (hp28 : p19 = p10) :
    own_Con l Z own_y1 prog_7_method_6_code 4 (some .int) ({ frames := 1, cells := 0, slots := 0, locals := 14 } : Room) #[(.ref a16), (.int p10)] h0 (own_QP (some (.int (oH p10))) h0) := by
 refine MetFree.of_bodySF (plainFor_of_name own_pn8) hisR ?_
 intro p e s m args below meth c s₁ Bd hml0 hP hK
 obtain ⟨rfl, hZ, hh⟩ := hP
 have hx := Bd.exec
 have hby := Bd.bytes
 have hml : c.maxLocals = 4 := hml0
 have hown : s.vm.findClass own_s1 = some m.cls := findClass_of_methodNamed Bd.named
 have hnm := (name_of_methodNamed Bd.named Bd.method).1
 have X0 : Stand p l e ({ frames := 1, cells := 0, slots := 0, locals := 14 } : Room) s m #[(.ref a16), (.int p10)] below meth c s₁ [] 0 0 := Stand.of_body Bd
 have e0 : s₁.heap = h0 := by rw [← hh, Bd.state]; rfl
 have K0 : own_Kp h0 h0 [] [] := own_kpRefl _ _
 show own_Go p e below (own_K s (own_QP (some (.int (oH p10))) h0) 0 0) s₁ (entryFrame m #[(.ref a16), (.int p10)] 4)
 rw [own_ef477]
 obtain ⟨T12, X12, e12, st12⟩ := own_gF X0 hx hZ hown hby (own_wd hw 148 rfl) e0 F20 d19_1 #[.val (.ref a16), .val (.int p10), .unset, .unset] []
 obtain ⟨cl14, Ar14, q14, S14, N14, H14, G14⟩ := id H21
 let l1 : Array Slot := #[.val (.ref a16), .val (.int p10), .val (.int 31), .unset]
 obtain ⟨_, T15, L15, X15, ⟨rfl, rfl, e15⟩, st15⟩ := own_cs X12 hx hZ hown (own_w489 hw) hml (g := (mkF m 10 l1 [(.int 31), (.int p10)])) (hb hby d19_10) e12 [(.int p10), (.int 31)] [] (lenOf own_pd12 rfl) (rm487 l Z a0 hw h0 p10 )
 let l2 : Array Slot := #[.val (.ref a16), .val (.int p10), .val (.int 31), .val (.int (oH p10))]
 obtain ⟨T13, X13, e13, st13⟩ := own_gF X15 hx hZ hown hby (own_wd hw 148 rfl) e15 F20 d19_15 l2 []
 obtain ⟨cl11, Ar11, q11, S11, N11, H11, G11⟩ := id H21
 have hin11 := inb_of S11 ⟨(own_hlo p10), (own_hhi p10)⟩
 have hat11 := atH H11 hin11 (getH_hit (own_hlo p10) hp27)
 refine own_go (T2 := T13) (g2 := (mkF m 43 l2 [(.int (oH p10))])) (fun t k => z_aloadN X0 hx hby d19_0 rfl rfl (st12 _ (own_alen X12 hx hZ e12 Ar14 S14 N14 rfl rfl (hb hby d19_4) (z_iconst X12 hx hby d19_5 (z_isub X12 hx hby d19_6 (z_istoreN X12 hx hby d19_7 l1 rfl (z_iloadN X12 hx hby d19_8 rfl (z_iloadN X12 hx hby d19_9 rfl (st15 _ (z_istoreN X15 hx hby d19_13 l2 rfl (z_aloadN X15 hx hby d19_14 rfl rfl (st13 _ (z_iloadN X13 hx hby d19_18 rfl (own_ial X13 hx hZ e13 Ar11 hin11 hat11 rfl rfl (hb hby d19_19) (z_iloadN X13 hx hby d19_20 rfl (z_icmpYes X13 hx hby 42 d19_21 (teq hp28).1 rfl (z_iloadN X13 hx hby d19_42 rfl k))))))))))))))))) ?_
 exact own_endI X13 hx Bd.notSynchronized Bd.returns (hb hby d19_43) (by decide) (by decide) ⟨rfl, rfl, e13⟩
theorem d21_18 : decode c_7_5 18 = .ok (.istore_n 3, 1) := by decide +kernel
theorem d21_19 : decode c_7_5 19 = .ok (.aload_n 0, 1) := by decide +kernel
theorem d21_20 : decode c_7_5 20 = .ok (.getfield 9, 3) := by decide +kernel
theorem d21_23 : decode c_7_5 23 = .ok (.iload_n 3, 1) := by decide +kernel
theorem d21_24 : decode c_7_5 24 = .ok (.iconst 0, 1) := by decide +kernel
theorem d21_25 : decode c_7_5 25 = .ok (.iastore, 1) := by decide +kernel
theorem d21_26 : decode c_7_5 26 = .ok (.aload_n 0, 1) := by decide +kernel
theorem d21_27 : decode c_7_5 27 = .ok (.dup, 1) := by decide +kernel
theorem d21_28 : decode c_7_5 28 = .ok (.getfield 26, 3) := by decide +kernel
theorem d21_31 : decode c_7_5 31 = .ok (.iconst 1, 1) := by decide +kernel
theorem d21_32 : decode c_7_5 32 = .ok (.isub, 1) := by decide +kernel
theorem d21_33 : decode c_7_5 33 = .ok (.putfield 26, 3) := by decide +kernel
theorem d21_36 : decode c_7_5 36 = .ok (.iload_n 3, 1) := by decide +kernel
theorem d21_37 : decode c_7_5 37 = .ok (.iconst 1, 1) := by decide +kernel
theorem d21_38 : decode c_7_5 38 = .ok (.iadd, 1) := by decide +kernel
theorem d21_39 : decode c_7_5 39 = .ok (.iload_n 2, 1) := by decide +kernel
theorem d21_40 : decode c_7_5 40 = .ok (.iand, 1) := by decide +kernel
theorem d21_41 : decode c_7_5 41 = .ok (.istore 4, 2) := by decide +kernel
theorem d21_43 : decode c_7_5 43 = .ok (.aload_n 0, 1) := by decide +kernel
theorem d21_44 : decode c_7_5 44 = .ok (.getfield 9, 3) := by decide +kernel
theorem d21_47 : decode c_7_5 47 = .ok (.iload 4, 2) := by decide +kernel
theorem d21_49 : decode c_7_5 49 = .ok (.iaload, 1) := by decide +kernel
theorem d21_50 : decode c_7_5 50 = .ok (.ifCond .eq 92, 3) := by decide +kernel
theorem d21_53 : decode c_7_5 53 = .ok (.aload_n 0, 1) := by decide +kernel
theorem d21_54 : decode c_7_5 54 = .ok (.getfield 9, 3) := by decide +kernel
theorem d21_57 : decode c_7_5 57 = .ok (.iload 4, 2) := by decide +kernel
theorem d21_59 : decode c_7_5 59 = .ok (.iaload, 1) := by decide +kernel
theorem d21_60 : decode c_7_5 60 = .ok (.iload_n 2, 1) := by decide +kernel
theorem d21_61 : decode c_7_5 61 = .ok (.invokestatic 37, 3) := by decide +kernel
theorem d21_64 : decode c_7_5 64 = .ok (.istore 5, 2) := by decide +kernel
theorem d21_66 : decode c_7_5 66 = .ok (.iload 4, 2) := by decide +kernel
theorem d21_68 : decode c_7_5 68 = .ok (.iload 5, 2) := by decide +kernel
theorem d21_70 : decode c_7_5 70 = .ok (.isub, 1) := by decide +kernel
theorem d21_71 : decode c_7_5 71 = .ok (.iload_n 2, 1) := by decide +kernel
theorem d21_72 : decode c_7_5 72 = .ok (.iand, 1) := by decide +kernel
theorem d21_73 : decode c_7_5 73 = .ok (.iload 4, 2) := by decide +kernel
theorem d21_75 : decode c_7_5 75 = .ok (.iload_n 3, 1) := by decide +kernel
theorem d21_76 : decode c_7_5 76 = .ok (.isub, 1) := by decide +kernel
theorem d21_77 : decode c_7_5 77 = .ok (.iload_n 2, 1) := by decide +kernel
theorem d21_78 : decode c_7_5 78 = .ok (.iand, 1) := by decide +kernel
theorem d21_79 : decode c_7_5 79 = .ok (.if_icmp .lt 7, 3) := by decide +kernel
theorem d21_82 : decode c_7_5 82 = .ok (.iconst 1, 1) := by decide +kernel
theorem d21_83 : decode c_7_5 83 = .ok (.goto 4, 3) := by decide +kernel
theorem d21_87 : decode c_7_5 87 = .ok (.istore 6, 2) := by decide +kernel
theorem d21_89 : decode c_7_5 89 = .ok (.iload 6, 2) := by decide +kernel
theorem d21_91 : decode c_7_5 91 = .ok (.ifCond .eq 40, 3) := by decide +kernel
theorem d21_94 : decode c_7_5 94 = .ok (.aload_n 0, 1) := by decide +kernel
theorem d21_95 : decode c_7_5 95 = .ok (.getfield 9, 3) := by decide +kernel
theorem d21_98 : decode c_7_5 98 = .ok (.iload_n 3, 1) := by decide +kernel
theorem d21_99 : decode c_7_5 99 = .ok (.aload_n 0, 1) := by decide +kernel
theorem d21_100 : decode c_7_5 100 = .ok (.getfield 9, 3) := by decide +kernel
theorem d21_103 : decode c_7_5 103 = .ok (.iload 4, 2) := by decide +kernel
theorem d21_105 : decode c_7_5 105 = .ok (.iaload, 1) := by decide +kernel
theorem d21_106 : decode c_7_5 106 = .ok (.iastore, 1) := by decide +kernel
theorem d21_107 : decode c_7_5 107 = .ok (.aload_n 0, 1) := by decide +kernel
theorem d21_108 : decode c_7_5 108 = .ok (.getfield 13, 3) := by decide +kernel
theorem d21_111 : decode c_7_5 111 = .ok (.iload_n 3, 1) := by decide +kernel
theorem d21_112 : decode c_7_5 112 = .ok (.aload_n 0, 1) := by decide +kernel
theorem d21_113 : decode c_7_5 113 = .ok (.getfield 13, 3) := by decide +kernel
theorem d21_116 : decode c_7_5 116 = .ok (.iload 4, 2) := by decide +kernel
theorem d21_118 : decode c_7_5 118 = .ok (.iaload, 1) := by decide +kernel
theorem d21_119 : decode c_7_5 119 = .ok (.iastore, 1) := by decide +kernel
theorem d21_120 : decode c_7_5 120 = .ok (.aload_n 0, 1) := by decide +kernel
theorem d21_121 : decode c_7_5 121 = .ok (.getfield 9, 3) := by decide +kernel
theorem d21_124 : decode c_7_5 124 = .ok (.iload 4, 2) := by decide +kernel
theorem d21_126 : decode c_7_5 126 = .ok (.iconst 0, 1) := by decide +kernel
theorem d21_127 : decode c_7_5 127 = .ok (.iastore, 1) := by decide +kernel
theorem d21_128 : decode c_7_5 128 = .ok (.iload 4, 2) := by decide +kernel
theorem d21_130 : decode c_7_5 130 = .ok (.istore_n 3, 1) := by decide +kernel
theorem d21_131 : decode c_7_5 131 = .ok (.iload 4, 2) := by decide +kernel
theorem d21_133 : decode c_7_5 133 = .ok (.iconst 1, 1) := by decide +kernel
theorem d21_134 : decode c_7_5 134 = .ok (.iadd, 1) := by decide +kernel
theorem d21_135 : decode c_7_5 135 = .ok (.iload_n 2, 1) := by decide +kernel
theorem d21_136 : decode c_7_5 136 = .ok (.iand, 1) := by decide +kernel
theorem d21_137 : decode c_7_5 137 = .ok (.istore 4, 2) := by decide +kernel
theorem d21_139 : decode c_7_5 139 = .ok (.goto (-96), 3) := by decide +kernel
theorem ar898 (x0 : Int32)  : ¬ (((((x0 + 1) &&& 31) + 1) &&& 31) < 0) := by
  have f5 := rng32 x0
  have f6 : (1 : Int32).toInt = 1 := by decide
  have f4r := rng32 (x0 + 1)
  have f4 := c_iadd x0 (1 : Int32)
  have f7 : (31 : Int32).toInt = 31 := by decide
  have f3r := rng32 ((x0 + 1) &&& 31)
  have f3 : ((x0 + 1) &&& 31).toInt = (x0 + 1).toInt % 32 := c_mask (x0 + 1) (31 : Int32) 5 (by decide) (by decide)
  have f2r := rng32 (((x0 + 1) &&& 31) + 1)
  have f2 := c_iadd ((x0 + 1) &&& 31) (1 : Int32)
  have f1r := rng32 ((((x0 + 1) &&& 31) + 1) &&& 31)
  have f1 : ((((x0 + 1) &&& 31) + 1) &&& 31).toInt = (((x0 + 1) &&& 31) + 1).toInt % 32 := c_mask (((x0 + 1) &&& 31) + 1) (31 : Int32) 5 (by decide) (by decide)
  have f8 : (0 : Int32).toInt = 0 := by decide
  exact fun q => absurd (Int32.lt_iff_toInt_lt.mp q) (by omega)
theorem ar899 (x0 : Int32)  : ((((x0 + 1) &&& 31) + 1) &&& 31) < 32 := by
  have f5 := rng32 x0
  have f6 : (1 : Int32).toInt = 1 := by decide
  have f4r := rng32 (x0 + 1)
  have f4 := c_iadd x0 (1 : Int32)
  have f7 : (31 : Int32).toInt = 31 := by decide
  have f3r := rng32 ((x0 + 1) &&& 31)
  have f3 : ((x0 + 1) &&& 31).toInt = (x0 + 1).toInt % 32 := c_mask (x0 + 1) (31 : Int32) 5 (by decide) (by decide)
  have f2r := rng32 (((x0 + 1) &&& 31) + 1)
  have f2 := c_iadd ((x0 + 1) &&& 31) (1 : Int32)
  have f1r := rng32 ((((x0 + 1) &&& 31) + 1) &&& 31)
  have f1 : ((((x0 + 1) &&& 31) + 1) &&& 31).toInt = (((x0 + 1) &&& 31) + 1).toInt % 32 := c_mask (((x0 + 1) &&& 31) + 1) (31 : Int32) 5 (by decide) (by decide)
  have f8 : (32 : Int32).toInt = 32 := by decide
  exact Int32.lt_iff_toInt_lt.mpr (by omega)
theorem ar925 (x0 : Int32)  : ¬ (((((((x0 + 1) &&& 31) + 1) &&& 31) + 1) &&& 31) < 0) := by
  have f7 := rng32 x0
  have f8 : (1 : Int32).toInt = 1 := by decide
  have f6r := rng32 (x0 + 1)
  have f6 := c_iadd x0 (1 : Int32)
  have f9 : (31 : Int32).toInt = 31 := by decide
  have f5r := rng32 ((x0 + 1) &&& 31)
  have f5 : ((x0 + 1) &&& 31).toInt = (x0 + 1).toInt % 32 := c_mask (x0 + 1) (31 : Int32) 5 (by decide) (by decide)
  have f4r := rng32 (((x0 + 1) &&& 31) + 1)
  have f4 := c_iadd ((x0 + 1) &&& 31) (1 : Int32)
  have f3r := rng32 ((((x0 + 1) &&& 31) + 1) &&& 31)
  have f3 : ((((x0 + 1) &&& 31) + 1) &&& 31).toInt = (((x0 + 1) &&& 31) + 1).toInt % 32 := c_mask (((x0 + 1) &&& 31) + 1) (31 : Int32) 5 (by decide) (by decide)
  have f2r := rng32 (((((x0 + 1) &&& 31) + 1) &&& 31) + 1)
  have f2 := c_iadd ((((x0 + 1) &&& 31) + 1) &&& 31) (1 : Int32)
  have f1r := rng32 ((((((x0 + 1) &&& 31) + 1) &&& 31) + 1) &&& 31)
  have f1 : ((((((x0 + 1) &&& 31) + 1) &&& 31) + 1) &&& 31).toInt = (((((x0 + 1) &&& 31) + 1) &&& 31) + 1).toInt % 32 := c_mask (((((x0 + 1) &&& 31) + 1) &&& 31) + 1) (31 : Int32) 5 (by decide) (by decide)
  have f10 : (0 : Int32).toInt = 0 := by decide
  exact fun q => absurd (Int32.lt_iff_toInt_lt.mp q) (by omega)
theorem ar926 (x0 : Int32)  : ((((((x0 + 1) &&& 31) + 1) &&& 31) + 1) &&& 31) < 32 := by
  have f7 := rng32 x0
  have f8 : (1 : Int32).toInt = 1 := by decide
  have f6r := rng32 (x0 + 1)
  have f6 := c_iadd x0 (1 : Int32)
  have f9 : (31 : Int32).toInt = 31 := by decide
  have f5r := rng32 ((x0 + 1) &&& 31)
  have f5 : ((x0 + 1) &&& 31).toInt = (x0 + 1).toInt % 32 := c_mask (x0 + 1) (31 : Int32) 5 (by decide) (by decide)
  have f4r := rng32 (((x0 + 1) &&& 31) + 1)
  have f4 := c_iadd ((x0 + 1) &&& 31) (1 : Int32)
  have f3r := rng32 ((((x0 + 1) &&& 31) + 1) &&& 31)
  have f3 : ((((x0 + 1) &&& 31) + 1) &&& 31).toInt = (((x0 + 1) &&& 31) + 1).toInt % 32 := c_mask (((x0 + 1) &&& 31) + 1) (31 : Int32) 5 (by decide) (by decide)
  have f2r := rng32 (((((x0 + 1) &&& 31) + 1) &&& 31) + 1)
  have f2 := c_iadd ((((x0 + 1) &&& 31) + 1) &&& 31) (1 : Int32)
  have f1r := rng32 ((((((x0 + 1) &&& 31) + 1) &&& 31) + 1) &&& 31)
  have f1 : ((((((x0 + 1) &&& 31) + 1) &&& 31) + 1) &&& 31).toInt = (((((x0 + 1) &&& 31) + 1) &&& 31) + 1).toInt % 32 := c_mask (((((x0 + 1) &&& 31) + 1) &&& 31) + 1) (31 : Int32) 5 (by decide) (by decide)
  have f10 : (32 : Int32).toInt = 32 := by decide
  exact Int32.lt_iff_toInt_lt.mpr (by omega)
theorem ar927 (x0 : Int32)  : ¬ (((((((x0 + 1) &&& 31) + 1) &&& 31) + 1) &&& 31) = ((((x0 + 1) &&& 31) + 1) &&& 31)) := by
  have f7 := rng32 x0
  have f8 : (1 : Int32).toInt = 1 := by decide
  have f6r := rng32 (x0 + 1)
  have f6 := c_iadd x0 (1 : Int32)
  have f9 : (31 : Int32).toInt = 31 := by decide
  have f5r := rng32 ((x0 + 1) &&& 31)
  have f5 : ((x0 + 1) &&& 31).toInt = (x0 + 1).toInt % 32 := c_mask (x0 + 1) (31 : Int32) 5 (by decide) (by decide)
  have f4r := rng32 (((x0 + 1) &&& 31) + 1)
  have f4 := c_iadd ((x0 + 1) &&& 31) (1 : Int32)
  have f3r := rng32 ((((x0 + 1) &&& 31) + 1) &&& 31)
  have f3 : ((((x0 + 1) &&& 31) + 1) &&& 31).toInt = (((x0 + 1) &&& 31) + 1).toInt % 32 := c_mask (((x0 + 1) &&& 31) + 1) (31 : Int32) 5 (by decide) (by decide)
  have f2r := rng32 (((((x0 + 1) &&& 31) + 1) &&& 31) + 1)
  have f2 := c_iadd ((((x0 + 1) &&& 31) + 1) &&& 31) (1 : Int32)
  have f1r := rng32 ((((((x0 + 1) &&& 31) + 1) &&& 31) + 1) &&& 31)
  have f1 : ((((((x0 + 1) &&& 31) + 1) &&& 31) + 1) &&& 31).toInt = (((((x0 + 1) &&& 31) + 1) &&& 31) + 1).toInt % 32 := c_mask (((((x0 + 1) &&& 31) + 1) &&& 31) + 1) (31 : Int32) 5 (by decide) (by decide)
  exact fun q => absurd (Int32.toInt_inj.mpr q) (by omega)
theorem ar928 (x0 : Int32)  : ¬ (((((((x0 + 1) &&& 31) + 1) &&& 31) + 1) &&& 31) = ((x0 + 1) &&& 31)) := by
  have f7 := rng32 x0
  have f8 : (1 : Int32).toInt = 1 := by decide
  have f6r := rng32 (x0 + 1)
  have f6 := c_iadd x0 (1 : Int32)
  have f9 : (31 : Int32).toInt = 31 := by decide
  have f5r := rng32 ((x0 + 1) &&& 31)
  have f5 : ((x0 + 1) &&& 31).toInt = (x0 + 1).toInt % 32 := c_mask (x0 + 1) (31 : Int32) 5 (by decide) (by decide)
  have f4r := rng32 (((x0 + 1) &&& 31) + 1)
  have f4 := c_iadd ((x0 + 1) &&& 31) (1 : Int32)
  have f3r := rng32 ((((x0 + 1) &&& 31) + 1) &&& 31)
  have f3 : ((((x0 + 1) &&& 31) + 1) &&& 31).toInt = (((x0 + 1) &&& 31) + 1).toInt % 32 := c_mask (((x0 + 1) &&& 31) + 1) (31 : Int32) 5 (by decide) (by decide)
  have f2r := rng32 (((((x0 + 1) &&& 31) + 1) &&& 31) + 1)
  have f2 := c_iadd ((((x0 + 1) &&& 31) + 1) &&& 31) (1 : Int32)
  have f1r := rng32 ((((((x0 + 1) &&& 31) + 1) &&& 31) + 1) &&& 31)
  have f1 : ((((((x0 + 1) &&& 31) + 1) &&& 31) + 1) &&& 31).toInt = (((((x0 + 1) &&& 31) + 1) &&& 31) + 1).toInt % 32 := c_mask (((((x0 + 1) &&& 31) + 1) &&& 31) + 1) (31 : Int32) 5 (by decide) (by decide)
  exact fun q => absurd (Int32.toInt_inj.mpr q) (by omega)
theorem ar929 (x0 : Int32)  : ¬ (((((((x0 + 1) &&& 31) + 1) &&& 31) + 1) &&& 31) = x0) := by
  have f7 := rng32 x0
  have f8 : (1 : Int32).toInt = 1 := by decide
  have f6r := rng32 (x0 + 1)
  have f6 := c_iadd x0 (1 : Int32)
  have f9 : (31 : Int32).toInt = 31 := by decide
  have f5r := rng32 ((x0 + 1) &&& 31)
  have f5 : ((x0 + 1) &&& 31).toInt = (x0 + 1).toInt % 32 := c_mask (x0 + 1) (31 : Int32) 5 (by decide) (by decide)
  have f4r := rng32 (((x0 + 1) &&& 31) + 1)
  have f4 := c_iadd ((x0 + 1) &&& 31) (1 : Int32)
  have f3r := rng32 ((((x0 + 1) &&& 31) + 1) &&& 31)
  have f3 : ((((x0 + 1) &&& 31) + 1) &&& 31).toInt = (((x0 + 1) &&& 31) + 1).toInt % 32 := c_mask (((x0 + 1) &&& 31) + 1) (31 : Int32) 5 (by decide) (by decide)
  have f2r := rng32 (((((x0 + 1) &&& 31) + 1) &&& 31) + 1)
  have f2 := c_iadd ((((x0 + 1) &&& 31) + 1) &&& 31) (1 : Int32)
  have f1r := rng32 ((((((x0 + 1) &&& 31) + 1) &&& 31) + 1) &&& 31)
  have f1 : ((((((x0 + 1) &&& 31) + 1) &&& 31) + 1) &&& 31).toInt = (((((x0 + 1) &&& 31) + 1) &&& 31) + 1).toInt % 32 := c_mask (((((x0 + 1) &&& 31) + 1) &&& 31) + 1) (31 : Int32) 5 (by decide) (by decide)
  exact fun q => absurd (Int32.toInt_inj.mpr q) (by omega)
theorem d21_142 : decode c_7_5 142 = .ok (.return_, 1) := by decide +kernel
def own_Q804 (Z : State) (h0 : Heap) (a805 : Addr) (a806 : Addr) (a807 : Addr) (c810 : ClassId) (p811 : Int32) (p812 : Int32) (p813 : Int32) (p814 : Int32) (p815 : Int32) (p816 : Int32) (p825 : Int32) (a877 : Addr) (c882 : ClassId) (p883 : Int32) (p884 : Int32) (p885 : Int32) (v : Option Value) (h : Heap) (L : List Loc) : Prop := v = none ∧ own_Kp h0 h [a807, a805, a877] L ∧ Arh Z h a807 c810 .int 32 [((((((oH (p825 + 1)) + 1) &&& 31) + 1) &&& 31), (.int 0)), ((((oH (p825 + 1)) + 1) &&& 31), (.int p816)), ((((oH (p825 + 1)) + 1) &&& 31), (.int 0)), ((oH (p825 + 1)), (.int p814)), ((oH (p825 + 1)), (.int 0)), (p811, (.int p812)), (p813, (.int p814)), (p815, (.int p816))] [] (.int 0) ∧ Fld Z h a805 own_s1 "slots" "[I" (.ref a807) ∧ Fld Z h a805 own_s1 "size" "I" (.int 2) ∧ Fld Z h a805 own_s1 "indices" "[I" (.ref a877) ∧ Arh Z h a877 c882 .int 32 [((((oH (p825 + 1)) + 1) &&& 31), (.int p885)), ((oH (p825 + 1)), (.int p884)), (p811, (.int p883)), (p813, (.int p884)), (p815, (.int p885))] [] (.int 0)
theorem own_ef804 (m : MethodId) (x0 : Addr) (x1 : Addr) : entryFrame m #[(.ref x0), (.ref x1)] 7 = mkF m 0 #[.val (.ref x0), .val (.ref x1), .unset, .unset, .unset, .unset, .unset] [] := by first | (simp [entryFrame, mkF, argsToLocals, Value.category]; done) | rfl
set_option maxRecDepth 65536 in
set_option maxHeartbeats 40000000 in
theorem rm804 (l : Launch) (Z : State) (a0 : Array Value) (hw : ∀ d ∈ tables_1, d.before a0 Z = true) (h0 : Heap) (a18 a22 a24 : Addr) (c66 : ClassId) (p43 p63 : Int32) (p51 p25 : Int32) (p60 p35 p10 : Int32) (a38 : Addr) (c76 : ClassId) (p77 p67 p68 : Int32) (F69 : Fld Z h0 a18 own_s1 "slots" "[I" (.ref a24)) (H78 : Arh Z h0 a24 c66 .int 32 [(p43, (.int p63)), (p51, (.int p25)), (p60, (.int p35))] [] (.int 0)) (F88 : Fld Z h0 a22 own_s0 "id" "I" (.int p10)) (E89 : Exa Z h0 a22 own_s0) (hp90 : (oH (p10 + 1)) = p43) (hp91 : p63 = (p10 + 1)) (E82 : Exa Z h0 a18 own_s1) (F92 : Fld Z h0 a18 own_s1 "size" "I" (.int 3)) (ne23 : a18 ≠ a24) (hp70 : ¬ ((oN (oH (p10 + 1))) = p43)) (hp71 : (oN (oH (p10 + 1))) = p51) (hp93 : ¬ (p25 = 0)) (hp94 : ¬ ((((oN (oH (p10 + 1))) - (oH p25)) &&& 31) < (((oN (oH (p10 + 1))) - (oH (p10 + 1))) &&& 31))) (F95 : Fld Z h0 a18 own_s1 "indices" "[I" (.ref a38)) (H96 : Arh Z h0 a38 c76 .int 32 [(p43, (.int p77)), (p51, (.int p67)), (p60, (.int p68))] [] (.int 0)) (ne61 : a38 ≠ a24) (ne62 : a38 ≠ a18) (hp72 : ¬ ((oN (oN (oH (p10 + 1)))) = p43)) (hp73 : ¬ ((oN (oN (oH (p10 + 1)))) = p51)) (hp74 : (oN (oN (oH (p10 + 1)))) = p60) (hp97 : ¬ (p35 = 0)) (hp98 : ¬ ((((oN (oN (oH (p10 + 1)))) - (oH p35)) &&& 31) < (((oN (oN (oH (p10 + 1)))) - (oN (oH (p10 + 1)))) &&& 31))) (hp99 : ¬ ((oN (oN (oN (oH (p10 + 1))))) = p43)) (hp100 : ¬ ((oN (oN (oN (oH (p10 + 1))))) = p51)) (hp101 : ¬ ((oN (oN (oN (oH (p10 + 1))))) = p60)) :
    own_Con l Z own_y2 prog_7_method_5_code 7 none ({ frames := 2, cells := 0, slots := 0, locals := 29 } : Room) #[(.ref a18), (.ref a22)] h0 (own_Q804 Z h0 a18 a22 a24 c66 p43 p63 p51 p25 p60 p35 p10 a38 c76 p77 p67 p68) := by
 refine MetFree.of_bodySF (plainFor_of_name own_pn8) hisR ?_
 intro p e s m args below meth c s₁ Bd hml0 hP hK
 obtain ⟨rfl, hZ, hh⟩ := hP
 have hx := Bd.exec
 have hby := Bd.bytes
 have hml : c.maxLocals = 7 := hml0
 have hown : s.vm.findClass own_s1 = some m.cls := findClass_of_methodNamed Bd.named
 have hnm := (name_of_methodNamed Bd.named Bd.method).1
 have X0 : Stand p l e ({ frames := 2, cells := 0, slots := 0, locals := 29 } : Room) s m #[(.ref a18), (.ref a22)] below meth c s₁ [] 0 0 := Stand.of_body Bd
 have e0 : s₁.heap = h0 := by rw [← hh, Bd.state]; rfl
 have K0 : own_Kp h0 h0 [a24, a18, a38] [] := own_kpRefl _ _
 show own_Go p e below (own_K s (own_Q804 Z h0 a18 a22 a24 c66 p43 p63 p51 p25 p60 p35 p10 a38 c76 p77 p67 p68) 0 0) s₁ (entryFrame m #[(.ref a18), (.ref a22)] 7)
 rw [own_ef804]
 obtain ⟨T36, X36, e36, st36⟩ := own_gF X0 hx hZ hown hby (own_wd hw 148 rfl) e0 F69 d21_1 #[.val (.ref a18), .val (.ref a22), .unset, .unset, .unset, .unset, .unset] []
 obtain ⟨cl44, Ar44, q44, S44, N44, H44, G44⟩ := id H78
 let l1 : Array Slot := #[.val (.ref a18), .val (.ref a22), .val (.int 31), .unset, .unset, .unset, .unset]
 obtain ⟨_, T45, L45, X45, ⟨rfl, rfl, e45⟩, st45⟩ := own_cv X36 hx hZ hown (own_w475 hw) hml (g := (mkF m 10 l1 [(.ref a22), (.ref a18)])) (hb hby d21_10) e36 E89 [] [(.ref a18)] (lenOf own_pd5 rfl) (rm462 l Z a0 hw h0 a22 p10 F88)
 obtain ⟨_, T46, L46, X46, ⟨rfl, rfl, e46⟩, st46⟩ := own_cp X45 hx hZ hown (own_w499 hw) hml (g := (mkF m 15 l1 [(.int (p10 + 1)), (.ref a18)])) (hb hby d21_15) e45 E82 [(.int (p10 + 1))] [] (lenOf own_pd13 rfl) (rm830 l Z a0 hw h0 a18 (p10 + 1) a24 c66 p43 p63 p51 p25 p60 p35 F69 H78 hp90 hp91)
 let l2 : Array Slot := #[.val (.ref a18), .val (.ref a22), .val (.int 31), .val (.int (oH (p10 + 1))), .unset, .unset, .unset]
 obtain ⟨T52, X52, e52, st52⟩ := own_gF X46 hx hZ hown hby (own_wd hw 148 rfl) e46 F69 d21_20 l2 []
 obtain ⟨cl13, Ar13, q13, S13, N13, H13, G13⟩ := id H78
 have hin13 := inb_of S13 ⟨(own_hlo (p10 + 1)), (own_hhi (p10 + 1))⟩
 obtain ⟨T13, h13, X13, e13, W13, st13⟩ := stI X52 hx hZ e52 Ar13 (j := (oH (p10 + 1))) hin13 (g := (mkF m 25 l2 [(.int 0), (.int (oH (p10 + 1))), (.ref a24)])) rfl rfl (hb hby d21_25)
 have V13 := Arh.push Ar13 q13 S13 N13 H13 G13 rfl W13 hin13
 have K13 := own_kpWr K0 W13 (Or.inl (List.mem_of_getElem? (i := 0) rfl))
 have z_W13 := Nat.le_of_eq W13.size.symm
 have F79 := (Fld.other W13 F92 (Or.inl ne23))
 obtain ⟨T53, X53, e53, st53⟩ := own_gF X13 hx hZ hown hby (own_wd hw 157 rfl) e13 F79 d21_28 l2 [(.ref a18)]
 have E102 := (Exa.wr W13 E82)
 obtain ⟨T19, h19, X19, e19, W19, st19⟩ := putF X53 hx hZ hown (host := "") (Or.inl (own_wd hw 157 rfl)) Via.refl e53 F79 E102 (Or.inl (own_wd hw 158 rfl)) (own_wd hw 141 rfl) (ty := .int) (by decide) rfl rfl (g := (mkF m 33 l2 [(.int 2), (.ref a18)])) rfl rfl (hb hby d21_33)
 have F19 := Fld.same W19 F79
 have K19 := own_kpWr K13 W19 (Or.inl (List.mem_of_getElem? (i := 1) rfl))
 have z_W19 := Nat.le_of_eq W19.size.symm
 have F64 := (Fld.other W19 (Fld.other W13 F69 (Or.inl ne23)) (Or.inr (slot_ne (Or.inl (own_wd hw 149 rfl)) (Or.inl (own_wd hw 158 rfl)) (by decide) (t := (.array .int)) (t' := .int) (by decide) (by decide))))
 let l3 : Array Slot := #[.val (.ref a18), .val (.ref a22), .val (.int 31), .val (.int (oH (p10 + 1))), .val (.int (oN (oH (p10 + 1)))), .unset, .unset]
 obtain ⟨T39, X39, e39, st39⟩ := own_gF X19 hx hZ hown hby (own_wd hw 148 rfl) e19 F64 d21_44 l3 []
 have H75 := (Arh.other V13 W19 (Ne.symm ne23))
 obtain ⟨cl26, Ar26, q26, S26, N26, H26, G26⟩ := id H75
 have hin26 := inb_of S26 ⟨(ar622 (oH (p10 + 1)) ), (ar623 (oH (p10 + 1)) )⟩
 have hat26 := atH H26 hin26 (getH_miss (ar622 (oH (p10 + 1)) ) (ar799 (oH (p10 + 1)) ) (getH_miss (ar622 (oH (p10 + 1)) ) hp70 (getH_hit (ar622 (oH (p10 + 1)) ) hp71)))
 obtain ⟨T41, X41, e41, st41⟩ := own_gF X39 hx hZ hown hby (own_wd hw 148 rfl) e39 F64 d21_54 l3 []
 obtain ⟨cl27, Ar27, q27, S27, N27, H27, G27⟩ := id H75
 have hin27 := inb_of S27 ⟨(ar622 (oH (p10 + 1)) ), (ar623 (oH (p10 + 1)) )⟩
 have hat27 := atH H27 hin27 (getH_miss (ar622 (oH (p10 + 1)) ) (ar799 (oH (p10 + 1)) ) (getH_miss (ar622 (oH (p10 + 1)) ) hp70 (getH_hit (ar622 (oH (p10 + 1)) ) hp71)))
 obtain ⟨_, T20, L20, X20, ⟨rfl, rfl, e20⟩, st20⟩ := own_cs X41 hx hZ hown (own_w489 hw) hml (g := (mkF m 61 l3 [(.int 31), (.int p25)])) (hb hby d21_61) e41 [(.int p25), (.int 31)] [] (lenOf own_pd12 rfl) (rm487 l Z a0 hw h19 p25 )
 let l4 : Array Slot := #[.val (.ref a18), .val (.ref a22), .val (.int 31), .val (.int (oH (p10 + 1))), .val (.int (oN (oH (p10 + 1)))), .val (.int (oH p25)), .unset]
 refine own_go (T2 := T20) (g2 := (mkF m 77 l4 [(.int ((oN (oH (p10 + 1))) - (oH (p10 + 1)))), (.int (((oN (oH (p10 + 1))) - (oH p25)) &&& 31))])) (fun t k => z_aloadN X0 hx hby d21_0 rfl rfl (st36 _ (own_alen X36 hx hZ e36 Ar44 S44 N44 rfl rfl (hb hby d21_4) (z_iconst X36 hx hby d21_5 (z_isub X36 hx hby d21_6 (z_istoreN X36 hx hby d21_7 l1 rfl (z_aloadN X36 hx hby d21_8 rfl rfl (z_aloadN X36 hx hby d21_9 rfl rfl (st45 _ (z_iconst X45 hx hby d21_13 (z_iadd X45 hx hby d21_14 (st46 _ (z_istoreN X46 hx hby d21_18 l2 rfl (z_aloadN X46 hx hby d21_19 rfl rfl (st52 _ (z_iloadN X52 hx hby d21_23 rfl (z_iconst X52 hx hby d21_24 (st13 _ (z_aloadN X13 hx hby d21_26 rfl rfl (z_dup X13 hx hby d21_27 rfl (st53 _ (z_iconst X53 hx hby d21_31 (z_isub X53 hx hby d21_32 (st19 _ (z_iloadN X19 hx hby d21_36 rfl (z_iconst X19 hx hby d21_37 (z_iadd X19 hx hby d21_38 (z_iloadN X19 hx hby d21_39 rfl (z_iand X19 hx hby d21_40 (z_istore X19 hx hby d21_41 l3 rfl (z_aloadN X19 hx hby d21_43 rfl rfl (st39 _ (z_iload X39 hx hby d21_47 rfl (own_ial X39 hx hZ e39 Ar26 hin26 hat26 rfl rfl (hb hby d21_49) (z_ifNo X39 hx hby d21_50 ((if0 _ _).trans (feq hp93).1) (z_aloadN X39 hx hby d21_53 rfl rfl (st41 _ (z_iload X41 hx hby d21_57 rfl (own_ial X41 hx hZ e41 Ar27 hin27 hat27 rfl rfl (hb hby d21_59) (z_iloadN X41 hx hby d21_60 rfl (st20 _ (z_istore X20 hx hby d21_64 l4 rfl (z_iload X20 hx hby d21_66 rfl (z_iload X20 hx hby d21_68 rfl (z_isub X20 hx hby d21_70 (z_iloadN X20 hx hby d21_71 rfl (z_iand X20 hx hby d21_72 (z_iload X20 hx hby d21_73 rfl (z_iloadN X20 hx hby d21_75 rfl (z_isub X20 hx hby d21_76 k)))))))))))))))))))))))))))))))))))))))))))))))))) ?_
 let l5 : Array Slot := #[.val (.ref a18), .val (.ref a22), .val (.int 31), .val (.int (oH (p10 + 1))), .val (.int (oN (oH (p10 + 1)))), .val (.int (oH p25)), .val (.int 1)]
 obtain ⟨T54, X54, e54, st54⟩ := own_gF X20 hx hZ hown hby (own_wd hw 148 rfl) e20 F64 d21_95 l5 []
 obtain ⟨T47, X47, e47, st47⟩ := own_gF X54 hx hZ hown hby (own_wd hw 148 rfl) e54 F64 d21_100 l5 [(.int (oH (p10 + 1))), (.ref a24)]
 obtain ⟨cl28, Ar28, q28, S28, N28, H28, G28⟩ := id H75
 have hin28 := inb_of S28 ⟨(ar622 (oH (p10 + 1)) ), (ar623 (oH (p10 + 1)) )⟩
 have hat28 := atH H28 hin28 (getH_miss (ar622 (oH (p10 + 1)) ) (ar799 (oH (p10 + 1)) ) (getH_miss (ar622 (oH (p10 + 1)) ) hp70 (getH_hit (ar622 (oH (p10 + 1)) ) hp71)))
 obtain ⟨cl14, Ar14, q14, S14, N14, H14, G14⟩ := id H75
 have hin14 := inb_of S14 ⟨(own_hlo (p10 + 1)), (own_hhi (p10 + 1))⟩
 obtain ⟨T14, h14, X14, e14, W14, st14⟩ := stI X47 hx hZ e47 Ar14 (j := (oH (p10 + 1))) hin14 (g := (mkF m 106 l5 [(.int p25), (.int (oH (p10 + 1))), (.ref a24)])) rfl rfl (hb hby d21_106)
 have V14 := Arh.push Ar14 q14 S14 N14 H14 G14 rfl W14 hin14
 have K14 := own_kpWr K19 W14 (Or.inl (List.mem_of_getElem? (i := 0) rfl))
 have z_W14 := Nat.le_of_eq W14.size.symm
 have F80 := (Fld.other W14 (Fld.other W19 (Fld.other W13 F95 (Or.inl ne23)) (Or.inr (slot_ne (Or.inl (own_wd hw 151 rfl)) (Or.inl (own_wd hw 158 rfl)) (by decide) (t := (.array .int)) (t' := .int) (by decide) (by decide)))) (Or.inl ne23))
 obtain ⟨T55, X55, e55, st55⟩ := own_gF X14 hx hZ hown hby (own_wd hw 150 rfl) e14 F80 d21_108 l5 []
 obtain ⟨T48, X48, e48, st48⟩ := own_gF X55 hx hZ hown hby (own_wd hw 150 rfl) e55 F80 d21_113 l5 [(.int (oH (p10 + 1))), (.ref a38)]
 have H83 := (Arh.other (Arh.other (Arh.other H96 W13 ne61) W19 ne62) W14 ne61)
 obtain ⟨cl29, Ar29, q29, S29, N29, H29, G29⟩ := id H83
 have hin29 := inb_of S29 ⟨(ar622 (oH (p10 + 1)) ), (ar623 (oH (p10 + 1)) )⟩
 have hat29 := atH H29 hin29 (getH_miss (ar622 (oH (p10 + 1)) ) hp70 (getH_hit (ar622 (oH (p10 + 1)) ) hp71))
 obtain ⟨cl15, Ar15, q15, S15, N15, H15, G15⟩ := id H83
 have hin15 := inb_of S15 ⟨(own_hlo (p10 + 1)), (own_hhi (p10 + 1))⟩
 obtain ⟨T15, h15, X15, e15, W15, st15⟩ := stI X48 hx hZ e48 Ar15 (j := (oH (p10 + 1))) hin15 (g := (mkF m 119 l5 [(.int p67), (.int (oH (p10 + 1))), (.ref a38)])) rfl rfl (hb hby d21_119)
 have V15 := Arh.push Ar15 q15 S15 N15 H15 G15 rfl W15 hin15
 have K15 := own_kpWr K14 W15 (Or.inl (List.mem_of_getElem? (i := 2) rfl))
 have z_W15 := Nat.le_of_eq W15.size.symm
 have F84 := (Fld.other W15 (Fld.other W14 F64 (Or.inl ne23)) (Or.inl (Ne.symm ne62)))
 obtain ⟨T56, X56, e56, st56⟩ := own_gF X15 hx hZ hown hby (own_wd hw 148 rfl) e15 F84 d21_121 l5 []
 have H103 := (Arh.other V14 W15 (Ne.symm ne61))
 obtain ⟨cl11, Ar11, q11, S11, N11, H11, G11⟩ := id H103
 have hin11 := inb_of S11 ⟨(ar622 (oH (p10 + 1)) ), (ar623 (oH (p10 + 1)) )⟩
 obtain ⟨T11, h11, X11, e11, W11, st11⟩ := stI X56 hx hZ e56 Ar11 (j := (oN (oH (p10 + 1)))) hin11 (g := (mkF m 127 l5 [(.int 0), (.int (oN (oH (p10 + 1)))), (.ref a24)])) rfl rfl (hb hby d21_127)
 have V11 := Arh.push Ar11 q11 S11 N11 H11 G11 rfl W11 hin11
 have K11 := own_kpWr K15 W11 (Or.inl (List.mem_of_getElem? (i := 0) rfl))
 have z_W11 := Nat.le_of_eq W11.size.symm
 have F65 := (Fld.other W11 F84 (Or.inl ne23))
 let l6 : Array Slot := #[.val (.ref a18), .val (.ref a22), .val (.int 31), .val (.int (oN (oH (p10 + 1)))), .val (.int (oN (oN (oH (p10 + 1))))), .val (.int (oH p25)), .val (.int 1)]
 obtain ⟨T40, X40, e40, st40⟩ := own_gF X11 hx hZ hown hby (own_wd hw 148 rfl) e11 F65 d21_44 l6 []
 obtain ⟨cl30, Ar30, q30, S30, N30, H30, G30⟩ := id V11
 have hin30 := inb_of S30 ⟨(ar898 (oH (p10 + 1)) ), (ar899 (oH (p10 + 1)) )⟩
 have hat30 := atH H30 hin30 (getH_miss (ar898 (oH (p10 + 1)) ) (ar798 (oH (p10 + 1)) ) (getH_miss (ar898 (oH (p10 + 1)) ) (ar758 (oH (p10 + 1)) ) (getH_miss (ar898 (oH (p10 + 1)) ) (ar758 (oH (p10 + 1)) ) (getH_miss (ar898 (oH (p10 + 1)) ) hp72 (getH_miss (ar898 (oH (p10 + 1)) ) hp73 (getH_hit (ar898 (oH (p10 + 1)) ) hp74))))))
 obtain ⟨T42, X42, e42, st42⟩ := own_gF X40 hx hZ hown hby (own_wd hw 148 rfl) e40 F65 d21_54 l6 []
 obtain ⟨cl31, Ar31, q31, S31, N31, H31, G31⟩ := id V11
 have hin31 := inb_of S31 ⟨(ar898 (oH (p10 + 1)) ), (ar899 (oH (p10 + 1)) )⟩
 have hat31 := atH H31 hin31 (getH_miss (ar898 (oH (p10 + 1)) ) (ar798 (oH (p10 + 1)) ) (getH_miss (ar898 (oH (p10 + 1)) ) (ar758 (oH (p10 + 1)) ) (getH_miss (ar898 (oH (p10 + 1)) ) (ar758 (oH (p10 + 1)) ) (getH_miss (ar898 (oH (p10 + 1)) ) hp72 (getH_miss (ar898 (oH (p10 + 1)) ) hp73 (getH_hit (ar898 (oH (p10 + 1)) ) hp74))))))
 obtain ⟨_, T21, L21, X21, ⟨rfl, rfl, e21⟩, st21⟩ := own_cs X42 hx hZ hown (own_w489 hw) hml (g := (mkF m 61 l6 [(.int 31), (.int p35)])) (hb hby d21_61) e42 [(.int p35), (.int 31)] [] (lenOf own_pd12 rfl) (rm487 l Z a0 hw h11 p35 )
 let l7 : Array Slot := #[.val (.ref a18), .val (.ref a22), .val (.int 31), .val (.int (oN (oH (p10 + 1)))), .val (.int (oN (oN (oH (p10 + 1))))), .val (.int (oH p35)), .val (.int 1)]
 refine own_go (T2 := T21) (g2 := (mkF m 66 l7 [])) (fun t k => z_iloadN X20 hx hby d21_77 rfl (z_iand X20 hx hby d21_78 (z_icmpNo X20 hx hby d21_79 (flt hp94).1 (z_iconst X20 hx hby d21_82 (z_goto X20 hx hby 87 d21_83 rfl (z_istore X20 hx hby d21_87 l5 rfl (z_iload X20 hx hby d21_89 rfl (z_ifNo X20 hx hby d21_91 ((if0 _ _).trans (feq (show ¬ ((1 : Int32) = 0) from (by decide))).1) (z_aloadN X20 hx hby d21_94 rfl rfl (st54 _ (z_iloadN X54 hx hby d21_98 rfl (z_aloadN X54 hx hby d21_99 rfl rfl (st47 _ (z_iload X47 hx hby d21_103 rfl (own_ial X47 hx hZ e47 Ar28 hin28 hat28 rfl rfl (hb hby d21_105) (st14 _ (z_aloadN X14 hx hby d21_107 rfl rfl (st55 _ (z_iloadN X55 hx hby d21_111 rfl (z_aloadN X55 hx hby d21_112 rfl rfl (st48 _ (z_iload X48 hx hby d21_116 rfl (own_ial X48 hx hZ e48 Ar29 hin29 hat29 rfl rfl (hb hby d21_118) (st15 _ (z_aloadN X15 hx hby d21_120 rfl rfl (st56 _ (z_iload X56 hx hby d21_124 rfl (z_iconst X56 hx hby d21_126 (st11 _ (z_iload X11 hx hby d21_128 rfl (z_istoreN X11 hx hby d21_130 #[.val (.ref a18), .val (.ref a22), .val (.int 31), .val (.int (oN (oH (p10 + 1)))), .val (.int (oN (oH (p10 + 1)))), .val (.int (oH p25)), .val (.int 1)] rfl (z_iload X11 hx hby d21_131 rfl (z_iconst X11 hx hby d21_133 (z_iadd X11 hx hby d21_134 (z_iloadN X11 hx hby d21_135 rfl (z_iand X11 hx hby d21_136 (z_istore X11 hx hby d21_137 l6 rfl (z_goto X11 hx hby 43 d21_139 rfl (z_aloadN X11 hx hby d21_43 rfl rfl (st40 _ (z_iload X40 hx hby d21_47 rfl (own_ial X40 hx hZ e40 Ar30 hin30 hat30 rfl rfl (hb hby d21_49) (z_ifNo X40 hx hby d21_50 ((if0 _ _).trans (feq hp97).1) (z_aloadN X40 hx hby d21_53 rfl rfl (st42 _ (z_iload X42 hx hby d21_57 rfl (own_ial X42 hx hZ e42 Ar31 hin31 hat31 rfl rfl (hb hby d21_59) (z_iloadN X42 hx hby d21_60 rfl (st21 _ (z_istore X21 hx hby d21_64 l7 rfl k)))))))))))))))))))))))))))))))))))))))))))))))))) ?_
 obtain ⟨T57, X57, e57, st57⟩ := own_gF X21 hx hZ hown hby (own_wd hw 148 rfl) e21 F65 d21_95 l7 []
 obtain ⟨T49, X49, e49, st49⟩ := own_gF X57 hx hZ hown hby (own_wd hw 148 rfl) e57 F65 d21_100 l7 [(.int (oN (oH (p10 + 1)))), (.ref a24)]
 obtain ⟨cl32, Ar32, q32, S32, N32, H32, G32⟩ := id V11
 have hin32 := inb_of S32 ⟨(ar898 (oH (p10 + 1)) ), (ar899 (oH (p10 + 1)) )⟩
 have hat32 := atH H32 hin32 (getH_miss (ar898 (oH (p10 + 1)) ) (ar798 (oH (p10 + 1)) ) (getH_miss (ar898 (oH (p10 + 1)) ) (ar758 (oH (p10 + 1)) ) (getH_miss (ar898 (oH (p10 + 1)) ) (ar758 (oH (p10 + 1)) ) (getH_miss (ar898 (oH (p10 + 1)) ) hp72 (getH_miss (ar898 (oH (p10 + 1)) ) hp73 (getH_hit (ar898 (oH (p10 + 1)) ) hp74))))))
 obtain ⟨cl16, Ar16, q16, S16, N16, H16, G16⟩ := id V11
 have hin16 := inb_of S16 ⟨(ar622 (oH (p10 + 1)) ), (ar623 (oH (p10 + 1)) )⟩
 obtain ⟨T16, h16, X16, e16, W16, st16⟩ := stI X49 hx hZ e49 Ar16 (j := (oN (oH (p10 + 1)))) hin16 (g := (mkF m 106 l7 [(.int p35), (.int (oN (oH (p10 + 1)))), (.ref a24)])) rfl rfl (hb hby d21_106)
 have V16 := Arh.push Ar16 q16 S16 N16 H16 G16 rfl W16 hin16
 have K16 := own_kpWr K11 W16 (Or.inl (List.mem_of_getElem? (i := 0) rfl))
 have z_W16 := Nat.le_of_eq W16.size.symm
 have F81 := (Fld.other W16 (Fld.other W11 (Fld.other W15 F80 (Or.inl (Ne.symm ne62))) (Or.inl ne23)) (Or.inl ne23))
 obtain ⟨T58, X58, e58, st58⟩ := own_gF X16 hx hZ hown hby (own_wd hw 150 rfl) e16 F81 d21_108 l7 []
 obtain ⟨T50, X50, e50, st50⟩ := own_gF X58 hx hZ hown hby (own_wd hw 150 rfl) e58 F81 d21_113 l7 [(.int (oN (oH (p10 + 1)))), (.ref a38)]
 have H85 := (Arh.other (Arh.other V15 W11 ne61) W16 ne61)
 obtain ⟨cl33, Ar33, q33, S33, N33, H33, G33⟩ := id H85
 have hin33 := inb_of S33 ⟨(ar898 (oH (p10 + 1)) ), (ar899 (oH (p10 + 1)) )⟩
 have hat33 := atH H33 hin33 (getH_miss (ar898 (oH (p10 + 1)) ) (ar758 (oH (p10 + 1)) ) (getH_miss (ar898 (oH (p10 + 1)) ) hp72 (getH_miss (ar898 (oH (p10 + 1)) ) hp73 (getH_hit (ar898 (oH (p10 + 1)) ) hp74))))
 obtain ⟨cl17, Ar17, q17, S17, N17, H17, G17⟩ := id H85
 have hin17 := inb_of S17 ⟨(ar622 (oH (p10 + 1)) ), (ar623 (oH (p10 + 1)) )⟩
 obtain ⟨T17, h17, X17, e17, W17, st17⟩ := stI X50 hx hZ e50 Ar17 (j := (oN (oH (p10 + 1)))) hin17 (g := (mkF m 119 l7 [(.int p68), (.int (oN (oH (p10 + 1)))), (.ref a38)])) rfl rfl (hb hby d21_119)
 have V17 := Arh.push Ar17 q17 S17 N17 H17 G17 rfl W17 hin17
 have K17 := own_kpWr K16 W17 (Or.inl (List.mem_of_getElem? (i := 2) rfl))
 have z_W17 := Nat.le_of_eq W17.size.symm
 have F86 := (Fld.other W17 (Fld.other W16 F65 (Or.inl ne23)) (Or.inl (Ne.symm ne62)))
 obtain ⟨T59, X59, e59, st59⟩ := own_gF X17 hx hZ hown hby (own_wd hw 148 rfl) e17 F86 d21_121 l7 []
 have H104 := (Arh.other V16 W17 (Ne.symm ne61))
 obtain ⟨cl12, Ar12, q12, S12, N12, H12, G12⟩ := id H104
 have hin12 := inb_of S12 ⟨(ar898 (oH (p10 + 1)) ), (ar899 (oH (p10 + 1)) )⟩
 obtain ⟨T12, h12, X12, e12, W12, st12⟩ := stI X59 hx hZ e59 Ar12 (j := (oN (oN (oH (p10 + 1))))) hin12 (g := (mkF m 127 l7 [(.int 0), (.int (oN (oN (oH (p10 + 1))))), (.ref a24)])) rfl rfl (hb hby d21_127)
 have V12 := Arh.push Ar12 q12 S12 N12 H12 G12 rfl W12 hin12
 have K12 := own_kpWr K17 W12 (Or.inl (List.mem_of_getElem? (i := 0) rfl))
 have z_W12 := Nat.le_of_eq W12.size.symm
 have F87 := (Fld.other W12 F86 (Or.inl ne23))
 let l8 : Array Slot := #[.val (.ref a18), .val (.ref a22), .val (.int 31), .val (.int (oN (oN (oH (p10 + 1))))), .val (.int (oN (oN (oN (oH (p10 + 1)))))), .val (.int (oH p35)), .val (.int 1)]
 obtain ⟨T37, X37, e37, st37⟩ := own_gF X12 hx hZ hown hby (own_wd hw 148 rfl) e12 F87 d21_44 l8 []
 obtain ⟨cl34, Ar34, q34, S34, N34, H34, G34⟩ := id V12
 have hin34 := inb_of S34 ⟨(ar925 (oH (p10 + 1)) ), (ar926 (oH (p10 + 1)) )⟩
 have hat34 := atH H34 hin34 (getH_miss (ar925 (oH (p10 + 1)) ) (ar927 (oH (p10 + 1)) ) (getH_miss (ar925 (oH (p10 + 1)) ) (ar928 (oH (p10 + 1)) ) (getH_miss (ar925 (oH (p10 + 1)) ) (ar928 (oH (p10 + 1)) ) (getH_miss (ar925 (oH (p10 + 1)) ) (ar929 (oH (p10 + 1)) ) (getH_miss (ar925 (oH (p10 + 1)) ) (ar929 (oH (p10 + 1)) ) (getH_miss (ar925 (oH (p10 + 1)) ) hp99 (getH_miss (ar925 (oH (p10 + 1)) ) hp100 (getH_miss (ar925 (oH (p10 + 1)) ) hp101 (getH_all rfl _)))))))))
 refine own_go (T2 := T37) (g2 := (mkF m 50 l8 [(.int 0)])) (fun t k => z_iload X21 hx hby d21_66 rfl (z_iload X21 hx hby d21_68 rfl (z_isub X21 hx hby d21_70 (z_iloadN X21 hx hby d21_71 rfl (z_iand X21 hx hby d21_72 (z_iload X21 hx hby d21_73 rfl (z_iloadN X21 hx hby d21_75 rfl (z_isub X21 hx hby d21_76 (z_iloadN X21 hx hby d21_77 rfl (z_iand X21 hx hby d21_78 (z_icmpNo X21 hx hby d21_79 (flt hp98).1 (z_iconst X21 hx hby d21_82 (z_goto X21 hx hby 87 d21_83 rfl (z_istore X21 hx hby d21_87 l7 rfl (z_iload X21 hx hby d21_89 rfl (z_ifNo X21 hx hby d21_91 ((if0 _ _).trans (feq (show ¬ ((1 : Int32) = 0) from (by decide))).1) (z_aloadN X21 hx hby d21_94 rfl rfl (st57 _ (z_iloadN X57 hx hby d21_98 rfl (z_aloadN X57 hx hby d21_99 rfl rfl (st49 _ (z_iload X49 hx hby d21_103 rfl (own_ial X49 hx hZ e49 Ar32 hin32 hat32 rfl rfl (hb hby d21_105) (st16 _ (z_aloadN X16 hx hby d21_107 rfl rfl (st58 _ (z_iloadN X58 hx hby d21_111 rfl (z_aloadN X58 hx hby d21_112 rfl rfl (st50 _ (z_iload X50 hx hby d21_116 rfl (own_ial X50 hx hZ e50 Ar33 hin33 hat33 rfl rfl (hb hby d21_118) (st17 _ (z_aloadN X17 hx hby d21_120 rfl rfl (st59 _ (z_iload X59 hx hby d21_124 rfl (z_iconst X59 hx hby d21_126 (st12 _ (z_iload X12 hx hby d21_128 rfl (z_istoreN X12 hx hby d21_130 #[.val (.ref a18), .val (.ref a22), .val (.int 31), .val (.int (oN (oN (oH (p10 + 1))))), .val (.int (oN (oN (oH (p10 + 1))))), .val (.int (oH p35)), .val (.int 1)] rfl (z_iload X12 hx hby d21_131 rfl (z_iconst X12 hx hby d21_133 (z_iadd X12 hx hby d21_134 (z_iloadN X12 hx hby d21_135 rfl (z_iand X12 hx hby d21_136 (z_istore X12 hx hby d21_137 l8 rfl (z_goto X12 hx hby 43 d21_139 rfl (z_aloadN X12 hx hby d21_43 rfl rfl (st37 _ (z_iload X37 hx hby d21_47 rfl (own_ial X37 hx hZ e37 Ar34 hin34 hat34 rfl rfl (hb hby d21_49) k)))))))))))))))))))))))))))))))))))))))))))))))))) ?_
 have F105 := (Fld.other W12 (Fld.other W17 (Fld.other W16 (Fld.other W11 (Fld.other W15 (Fld.other W14 F19 (Or.inl ne23)) (Or.inl (Ne.symm ne62))) (Or.inl ne23)) (Or.inl ne23)) (Or.inl (Ne.symm ne62))) (Or.inl ne23))
 have F106 := (Fld.other W12 (Fld.other W17 F81 (Or.inl (Ne.symm ne62))) (Or.inl ne23))
 have H107 := (Arh.other V17 W12 ne61)
 refine own_go (T2 := T37) (g2 := (mkF m 142 l8 [])) (fun t k => z_ifYes X37 hx hby 142 d21_50 ((if0 _ _).trans (teq (show (0 : Int32) = 0 from (by decide))).1) rfl k) ?_
 exact own_endV X37 hx Bd.notSynchronized Bd.returns (hb hby d21_142) (by decide) (by decide) (by rw [e37]; exact ⟨rfl, (by simpa only [List.append_nil] using K12), V12, F87, F105, F106, H107⟩)
theorem own_pd15 : parseMethodDescriptor "(Lcom/example/libentail/libentail/Concept;)V" = some ⟨[(.object own_s0)], none⟩ := by decide +kernel
theorem own_w942 {Z : State} {a0 : Array Value} (hw : ∀ d ∈ tables_1, d.before a0 Z = true) : own_VW Z a0 own_s18 26 own_s1 own_y2 prog_7_method_5_code 7 none := ⟨(own_wd hw 172 rfl), (own_wd hw 173 rfl), (own_wd hw 175 rfl), (own_wd hw 174 rfl), (own_wd hw 142 rfl), (own_wd hw 176 rfl), (by decide)⟩
theorem ar943 (x0 : Int32)  : ¬ (x0 = ((((x0 + 1) &&& 31) + 1) &&& 31)) := by
  have f1 := rng32 x0
  have f6 : (1 : Int32).toInt = 1 := by decide
  have f5r := rng32 (x0 + 1)
  have f5 := c_iadd x0 (1 : Int32)
  have f7 : (31 : Int32).toInt = 31 := by decide
  have f4r := rng32 ((x0 + 1) &&& 31)
  have f4 : ((x0 + 1) &&& 31).toInt = (x0 + 1).toInt % 32 := c_mask (x0 + 1) (31 : Int32) 5 (by decide) (by decide)
  have f3r := rng32 (((x0 + 1) &&& 31) + 1)
  have f3 := c_iadd ((x0 + 1) &&& 31) (1 : Int32)
  have f2r := rng32 ((((x0 + 1) &&& 31) + 1) &&& 31)
  have f2 : ((((x0 + 1) &&& 31) + 1) &&& 31).toInt = (((x0 + 1) &&& 31) + 1).toInt % 32 := c_mask (((x0 + 1) &&& 31) + 1) (31 : Int32) 5 (by decide) (by decide)
  exact fun q => absurd (Int32.toInt_inj.mpr q) (by omega)
theorem ar944 (x0 : Int32)  : ¬ (x0 = ((x0 + 1) &&& 31)) := by
  have f1 := rng32 x0
  have f4 : (1 : Int32).toInt = 1 := by decide
  have f3r := rng32 (x0 + 1)
  have f3 := c_iadd x0 (1 : Int32)
  have f5 : (31 : Int32).toInt = 31 := by decide
  have f2r := rng32 ((x0 + 1) &&& 31)
  have f2 : ((x0 + 1) &&& 31).toInt = (x0 + 1).toInt % 32 := c_mask (x0 + 1) (31 : Int32) 5 (by decide) (by decide)
  exact fun q => absurd (Int32.toInt_inj.mpr q) (by omega)
theorem cn945 (x0 x1 x2 : Int32) (v0 v1 v2 : Value) (h0 : ¬ (x0 = x1)) (h1 : ¬ (x0 = x2)) (h2 : ¬ (x1 = x2)) : ∀ i : Nat, getH [(x0, .int 0), (x1, v0), (x1, .int 0), (x2, v1), (x2, .int 0), (x2, v2), (x1, v1), (x0, v0)] [] (.int 0) i = getH [(x2, v1), (x1, v0)] [] (.int 0) i := by
  intro i
  have g0 := mt Int32.toInt_inj.mp h0
  have g1 := mt Int32.toInt_inj.mp h1
  have g2 := mt Int32.toInt_inj.mp h2
  simp only [getH]
  repeat' split
  all_goals first | rfl | (exfalso; omega)
theorem cn947 (x0 x1 x2 : Int32) (v0 v1 v2 : Value) (h0 : ¬ (x0 = x1)) (h1 : ¬ (x0 = x2)) (h2 : ¬ (x1 = x2)) : ∀ i : Nat, getH [(x0, v0), (x1, v1), (x1, v2), (x0, v1), (x2, v0)] [] (.int 0) i = getH [(x1, v1), (x0, v0), (x2, v0)] [] (.int 0) i := by
  intro i
  have g0 := mt Int32.toInt_inj.mp h0
  have g1 := mt Int32.toInt_inj.mp h1
  have g2 := mt Int32.toInt_inj.mp h2
  simp only [getH]
  repeat' split
  all_goals first | rfl | (exfalso; omega)
abbrev c_7_2 := prog_7_method_2_code
theorem d22_0 : decode c_7_2 0 = .ok (.aload_n 0, 1) := by decide +kernel
theorem d22_1 : decode c_7_2 1 = .ok (.aload_n 1, 1) := by decide +kernel
theorem d22_2 : decode c_7_2 2 = .ok (.invokevirtual 16, 3) := by decide +kernel
theorem d22_5 : decode c_7_2 5 = .ok (.iconst 1, 1) := by decide +kernel
theorem d22_6 : decode c_7_2 6 = .ok (.iadd, 1) := by decide +kernel
theorem d22_7 : decode c_7_2 7 = .ok (.invokevirtual 22, 3) := by decide +kernel
set_option maxRecDepth 65536 in
set_option maxHeartbeats 40000000 in
theorem rm998 (l : Launch) (Z : State) (a0 : Array Value) (hw : ∀ d ∈ tables_1, d.before a0 Z = true) (h0 : Heap) (a24 : Addr) (p10 : Int32) (a34 : Addr) (c38 : ClassId) (p29 p30 : Int32) (p31 p32 : Int32) (F27 : Fld Z h0 a24 own_s1 "slots" "[I" (.ref a34)) (H28 : Arh Z h0 a34 c38 .int 32 [(p29, (.int p30)), (p31, (.int p32))] [] (.int 0)) (hp33 : (oH p10) = p29) (hp39 : ¬ (p30 = p10)) (hp40 : ¬ (p30 = 0)) (hp35 : (oN (oH p10)) = p31) (hp41 : ¬ (p32 = p10)) (hp42 : ¬ ((oN (oH p10)) = p29)) (hp43 : ¬ (p32 = 0)) (hp36 : ¬ ((oN (oN (oH p10))) = p29)) (hp37 : ¬ ((oN (oN (oH p10))) = p31)) (hp44 : ¬ ((0 : Int32) = p10)) :
    own_Con l Z own_y1 prog_7_method_6_code 4 (some .int) ({ frames := 1, cells := 0, slots := 0, locals := 14 } : Room) #[(.ref a24), (.int p10)] h0 (own_QP (some (.int (oN (oN (oH p10))))) h0) := by
 refine MetFree.of_bodySF (plainFor_of_name own_pn8) hisR ?_
 intro p e s m args below meth c s₁ Bd hml0 hP hK
 obtain ⟨rfl, hZ, hh⟩ := hP
 have hx := Bd.exec
 have hby := Bd.bytes
 have hml : c.maxLocals = 4 := hml0
 have hown : s.vm.findClass own_s1 = some m.cls := findClass_of_methodNamed Bd.named
 have hnm := (name_of_methodNamed Bd.named Bd.method).1
 have X0 : Stand p l e ({ frames := 1, cells := 0, slots := 0, locals := 14 } : Room) s m #[(.ref a24), (.int p10)] below meth c s₁ [] 0 0 := Stand.of_body Bd
 have e0 : s₁.heap = h0 := by rw [← hh, Bd.state]; rfl
 have K0 : own_Kp h0 h0 [] [] := own_kpRefl _ _
 show own_Go p e below (own_K s (own_QP (some (.int (oN (oN (oH p10))))) h0) 0 0) s₁ (entryFrame m #[(.ref a24), (.int p10)] 4)
 rw [own_ef477]
 obtain ⟨T19, X19, e19, st19⟩ := own_gF X0 hx hZ hown hby (own_wd hw 148 rfl) e0 F27 d19_1 #[.val (.ref a24), .val (.int p10), .unset, .unset] []
 obtain ⟨cl25, Ar25, q25, S25, N25, H25, G25⟩ := id H28
 let l1 : Array Slot := #[.val (.ref a24), .val (.int p10), .val (.int 31), .unset]
 obtain ⟨_, T26, L26, X26, ⟨rfl, rfl, e26⟩, st26⟩ := own_cs X19 hx hZ hown (own_w489 hw) hml (g := (mkF m 10 l1 [(.int 31), (.int p10)])) (hb hby d19_10) e19 [(.int p10), (.int 31)] [] (lenOf own_pd12 rfl) (rm487 l Z a0 hw h0 p10 )
 let l2 : Array Slot := #[.val (.ref a24), .val (.int p10), .val (.int 31), .val (.int (oH p10))]
 obtain ⟨T21, X21, e21, st21⟩ := own_gF X26 hx hZ hown hby (own_wd hw 148 rfl) e26 F27 d19_15 l2 []
 obtain ⟨cl13, Ar13, q13, S13, N13, H13, G13⟩ := id H28
 have hin13 := inb_of S13 ⟨(own_hlo p10), (own_hhi p10)⟩
 have hat13 := atH H13 hin13 (getH_hit (own_hlo p10) hp33)
 obtain ⟨T11, X11, e11, st11⟩ := own_gF X21 hx hZ hown hby (own_wd hw 148 rfl) e21 F27 d19_25 l2 []
 obtain ⟨cl14, Ar14, q14, S14, N14, H14, G14⟩ := id H28
 have hin14 := inb_of S14 ⟨(own_hlo p10), (own_hhi p10)⟩
 have hat14 := atH H14 hin14 (getH_hit (own_hlo p10) hp33)
 let l3 : Array Slot := #[.val (.ref a24), .val (.int p10), .val (.int 31), .val (.int (oN (oH p10)))]
 obtain ⟨T22, X22, e22, st22⟩ := own_gF X11 hx hZ hown hby (own_wd hw 148 rfl) e11 F27 d19_15 l3 []
 obtain ⟨cl15, Ar15, q15, S15, N15, H15, G15⟩ := id H28
 have hin15 := inb_of S15 ⟨(ar622 (oH p10) ), (ar623 (oH p10) )⟩
 have hat15 := atH H15 hin15 (getH_miss (ar622 (oH p10) ) (ar624 (oH p10) p29 hp33) (getH_hit (ar622 (oH p10) ) hp35))
 obtain ⟨T12, X12, e12, st12⟩ := own_gF X22 hx hZ hown hby (own_wd hw 148 rfl) e22 F27 d19_25 l3 []
 obtain ⟨cl16, Ar16, q16, S16, N16, H16, G16⟩ := id H28
 have hin16 := inb_of S16 ⟨(ar622 (oH p10) ), (ar623 (oH p10) )⟩
 have hat16 := atH H16 hin16 (getH_miss (ar622 (oH p10) ) hp42 (getH_hit (ar622 (oH p10) ) hp35))
 let l4 : Array Slot := #[.val (.ref a24), .val (.int p10), .val (.int 31), .val (.int (oN (oN (oH p10))))]
 obtain ⟨T20, X20, e20, st20⟩ := own_gF X12 hx hZ hown hby (own_wd hw 148 rfl) e12 F27 d19_15 l4 []
 obtain ⟨cl17, Ar17, q17, S17, N17, H17, G17⟩ := id H28
 have hin17 := inb_of S17 ⟨(ar898 (oH p10) ), (ar899 (oH p10) )⟩
 have hat17 := atH H17 hin17 (getH_miss (ar898 (oH p10) ) hp36 (getH_miss (ar898 (oH p10) ) hp37 (getH_all rfl _)))
 refine own_go (T2 := T20) (g2 := (mkF m 20 l4 [(.int 0)])) (fun t k => z_aloadN X0 hx hby d19_0 rfl rfl (st19 _ (own_alen X19 hx hZ e19 Ar25 S25 N25 rfl rfl (hb hby d19_4) (z_iconst X19 hx hby d19_5 (z_isub X19 hx hby d19_6 (z_istoreN X19 hx hby d19_7 l1 rfl (z_iloadN X19 hx hby d19_8 rfl (z_iloadN X19 hx hby d19_9 rfl (st26 _ (z_istoreN X26 hx hby d19_13 l2 rfl (z_aloadN X26 hx hby d19_14 rfl rfl (st21 _ (z_iloadN X21 hx hby d19_18 rfl (own_ial X21 hx hZ e21 Ar13 hin13 hat13 rfl rfl (hb hby d19_19) (z_iloadN X21 hx hby d19_20 rfl (z_icmpNo X21 hx hby d19_21 (feq hp39).1 (z_aloadN X21 hx hby d19_24 rfl rfl (st11 _ (z_iloadN X11 hx hby d19_28 rfl (own_ial X11 hx hZ e11 Ar14 hin14 hat14 rfl rfl (hb hby d19_29) (z_ifNo X11 hx hby d19_30 ((if0 _ _).trans (feq hp40).1) (z_iloadN X11 hx hby d19_33 rfl (z_iconst X11 hx hby d19_34 (z_iadd X11 hx hby d19_35 (z_iloadN X11 hx hby d19_36 rfl (z_iand X11 hx hby d19_37 (z_istoreN X11 hx hby d19_38 l3 rfl (z_goto X11 hx hby 14 d19_39 rfl (z_aloadN X11 hx hby d19_14 rfl rfl (st22 _ (z_iloadN X22 hx hby d19_18 rfl (own_ial X22 hx hZ e22 Ar15 hin15 hat15 rfl rfl (hb hby d19_19) (z_iloadN X22 hx hby d19_20 rfl (z_icmpNo X22 hx hby d19_21 (feq hp41).1 (z_aloadN X22 hx hby d19_24 rfl rfl (st12 _ (z_iloadN X12 hx hby d19_28 rfl (own_ial X12 hx hZ e12 Ar16 hin16 hat16 rfl rfl (hb hby d19_29) (z_ifNo X12 hx hby d19_30 ((if0 _ _).trans (feq hp43).1) (z_iloadN X12 hx hby d19_33 rfl (z_iconst X12 hx hby d19_34 (z_iadd X12 hx hby d19_35 (z_iloadN X12 hx hby d19_36 rfl (z_iand X12 hx hby d19_37 (z_istoreN X12 hx hby d19_38 l4 rfl (z_goto X12 hx hby 14 d19_39 rfl (z_aloadN X12 hx hby d19_14 rfl rfl (st20 _ (z_iloadN X20 hx hby d19_18 rfl (own_ial X20 hx hZ e20 Ar17 hin17 hat17 rfl rfl (hb hby d19_19) k)))))))))))))))))))))))))))))))))))))))))))))))))) ?_
 obtain ⟨T23, X23, e23, st23⟩ := own_gF X20 hx hZ hown hby (own_wd hw 148 rfl) e20 F27 d19_25 l4 []
 obtain ⟨cl18, Ar18, q18, S18, N18, H18, G18⟩ := id H28
 have hin18 := inb_of S18 ⟨(ar898 (oH p10) ), (ar899 (oH p10) )⟩
 have hat18 := atH H18 hin18 (getH_miss (ar898 (oH p10) ) hp36 (getH_miss (ar898 (oH p10) ) hp37 (getH_all rfl _)))
 refine own_go (T2 := T23) (g2 := (mkF m 43 l4 [(.int (oN (oN (oH p10))))])) (fun t k => z_iloadN X20 hx hby d19_20 rfl (z_icmpNo X20 hx hby d19_21 (feq hp44).1 (z_aloadN X20 hx hby d19_24 rfl rfl (st23 _ (z_iloadN X23 hx hby d19_28 rfl (own_ial X23 hx hZ e23 Ar18 hin18 hat18 rfl rfl (hb hby d19_29) (z_ifYes X23 hx hby 42 d19_30 ((if0 _ _).trans (teq (show (0 : Int32) = 0 from (by decide))).1) rfl (z_iloadN X23 hx hby d19_42 rfl k)))))))) ?_
 exact own_endI X23 hx Bd.notSynchronized Bd.returns (hb hby d19_43) (by decide) (by decide) ⟨rfl, rfl, e23⟩
theorem d22_10 : decode c_7_2 10 = .ok (.istore_n 2, 1) := by decide +kernel
theorem d22_11 : decode c_7_2 11 = .ok (.aload_n 0, 1) := by decide +kernel
theorem d22_12 : decode c_7_2 12 = .ok (.getfield 9, 3) := by decide +kernel
theorem d22_15 : decode c_7_2 15 = .ok (.iload_n 2, 1) := by decide +kernel
theorem d22_16 : decode c_7_2 16 = .ok (.iaload, 1) := by decide +kernel
theorem d22_17 : decode c_7_2 17 = .ok (.ifCond .ne 7, 3) := by decide +kernel
theorem d22_20 : decode c_7_2 20 = .ok (.iconst (-1), 1) := by decide +kernel
theorem d22_21 : decode c_7_2 21 = .ok (.goto 9, 3) := by decide +kernel
theorem d22_30 : decode c_7_2 30 = .ok (.ireturn, 1) := by decide +kernel
theorem own_ef950 (m : MethodId) (x0 : Addr) (x1 : Addr) : entryFrame m #[(.ref x0), (.ref x1)] 3 = mkF m 0 #[.val (.ref x0), .val (.ref x1), .unset] [] := by first | (simp [entryFrame, mkF, argsToLocals, Value.category]; done) | rfl
set_option maxRecDepth 65536 in
set_option maxHeartbeats 40000000 in
theorem rm950 (l : Launch) (Z : State) (a0 : Array Value) (hw : ∀ d ∈ tables_1, d.before a0 Z = true) (h0 : Heap) (a13 a14 : Addr) (p10 : Int32) (a21 : Addr) (c22 : ClassId) (p17 p18 : Int32) (p19 p20 : Int32) (F27 : Fld Z h0 a14 own_s0 "id" "I" (.int p10)) (E28 : Exa Z h0 a14 own_s0) (F23 : Fld Z h0 a13 own_s1 "slots" "[I" (.ref a21)) (H24 : Arh Z h0 a21 c22 .int 32 [(p17, (.int p18)), (p19, (.int p20))] [] (.int 0)) (hp29 : (oH (p10 + 1)) = p17) (hp30 : ¬ (p18 = (p10 + 1))) (hp31 : ¬ (p18 = 0)) (hp32 : (oN (oH (p10 + 1))) = p19) (hp33 : ¬ (p20 = (p10 + 1))) (hp34 : ¬ ((oN (oH (p10 + 1))) = p17)) (hp35 : ¬ (p20 = 0)) (hp25 : ¬ ((oN (oN (oH (p10 + 1)))) = p17)) (hp26 : ¬ ((oN (oN (oH (p10 + 1)))) = p19)) (hp36 : ¬ ((0 : Int32) = (p10 + 1))) (E37 : Exa Z h0 a13 own_s1) :
    own_Con l Z own_y0 prog_7_method_2_code 3 (some .int) ({ frames := 2, cells := 0, slots := 0, locals := 29 } : Room) #[(.ref a13), (.ref a14)] h0 (own_QP (some (.int (-1))) h0) := by
 refine MetFree.of_bodySF (plainFor_of_name own_pn8) hisR ?_
 intro p e s m args below meth c s₁ Bd hml0 hP hK
 obtain ⟨rfl, hZ, hh⟩ := hP
 have hx := Bd.exec
 have hby := Bd.bytes
 have hml : c.maxLocals = 3 := hml0
 have hown : s.vm.findClass own_s1 = some m.cls := findClass_of_methodNamed Bd.named
 have hnm := (name_of_methodNamed Bd.named Bd.method).1
 have X0 : Stand p l e ({ frames := 2, cells := 0, slots := 0, locals := 29 } : Room) s m #[(.ref a13), (.ref a14)] below meth c s₁ [] 0 0 := Stand.of_body Bd
 have e0 : s₁.heap = h0 := by rw [← hh, Bd.state]; rfl
 have K0 : own_Kp h0 h0 [] [] := own_kpRefl _ _
 show own_Go p e below (own_K s (own_QP (some (.int (-1))) h0) 0 0) s₁ (entryFrame m #[(.ref a13), (.ref a14)] 3)
 rw [own_ef950]
 let l1 : Array Slot := #[.val (.ref a13), .val (.ref a14), .unset]
 obtain ⟨_, T15, L15, X15, ⟨rfl, rfl, e15⟩, st15⟩ := own_cv X0 hx hZ hown (own_w475 hw) hml (g := (mkF m 2 l1 [(.ref a14), (.ref a13)])) (hb hby d22_2) e0 E28 [] [(.ref a13)] (lenOf own_pd5 rfl) (rm462 l Z a0 hw h0 a14 p10 F27)
 obtain ⟨_, T16, L16, X16, ⟨rfl, rfl, e16⟩, st16⟩ := own_cp X15 hx hZ hown (own_w499 hw) hml (g := (mkF m 7 l1 [(.int (p10 + 1)), (.ref a13)])) (hb hby d22_7) e15 E37 [(.int (p10 + 1))] [] (lenOf own_pd13 rfl) (rm998 l Z a0 hw h0 a13 (p10 + 1) a21 c22 p17 p18 p19 p20 F23 H24 hp29 hp30 hp31 hp32 hp33 hp34 hp35 hp25 hp26 hp36)
 let l2 : Array Slot := #[.val (.ref a13), .val (.ref a14), .val (.int (oN (oN (oH (p10 + 1)))))]
 obtain ⟨T12, X12, e12, st12⟩ := own_gF X16 hx hZ hown hby (own_wd hw 148 rfl) e16 F23 d22_12 l2 []
 obtain ⟨cl11, Ar11, q11, S11, N11, H11, G11⟩ := id H24
 have hin11 := inb_of S11 ⟨(ar898 (oH (p10 + 1)) ), (ar899 (oH (p10 + 1)) )⟩
 have hat11 := atH H11 hin11 (getH_miss (ar898 (oH (p10 + 1)) ) hp25 (getH_miss (ar898 (oH (p10 + 1)) ) hp26 (getH_all rfl _)))
 refine own_go (T2 := T12) (g2 := (mkF m 30 l2 [(.int (-1))])) (fun t k => z_aloadN X0 hx hby d22_0 rfl rfl (z_aloadN X0 hx hby d22_1 rfl rfl (st15 _ (z_iconst X15 hx hby d22_5 (z_iadd X15 hx hby d22_6 (st16 _ (z_istoreN X16 hx hby d22_10 l2 rfl (z_aloadN X16 hx hby d22_11 rfl rfl (st12 _ (z_iloadN X12 hx hby d22_15 rfl (own_ial X12 hx hZ e12 Ar11 hin11 hat11 rfl rfl (hb hby d22_16) (z_ifNo X12 hx hby d22_17 ((if0 _ _).trans (teq (show (0 : Int32) = 0 from (by decide))).2) (z_iconst X12 hx hby d22_20 (z_goto X12 hx hby 30 d22_21 rfl k)))))))))))))) ?_
 exact own_endI X12 hx Bd.notSynchronized Bd.returns (hb hby d22_30) (by decide) (by decide) ⟨rfl, rfl, e12⟩
theorem own_pd16 : parseMethodDescriptor "(Lcom/example/libentail/libentail/Concept;)I" = some ⟨[(.object own_s0)], some .int⟩ := by decide +kernel
theorem own_w1056 {Z : State} {a0 : Array Value} (hw : ∀ d ∈ tables_1, d.before a0 Z = true) : own_VW Z a0 own_s18 30 own_s1 own_y0 prog_7_method_2_code 3 (some .int) := ⟨(own_wd hw 177 rfl), (own_wd hw 178 rfl), (own_wd hw 180 rfl), (own_wd hw 179 rfl), (own_wd hw 142 rfl), (own_wd hw 181 rfl), (by decide)⟩
set_option maxRecDepth 65536 in
set_option maxHeartbeats 40000000 in
theorem rm1116 (l : Launch) (Z : State) (a0 : Array Value) (hw : ∀ d ∈ tables_1, d.before a0 Z = true) (h0 : Heap) (a16 : Addr) (p10 : Int32) (a17 : Addr) (c22 : ClassId) (p18 p19 : Int32) (p23 p24 : Int32) (F20 : Fld Z h0 a16 own_s1 "slots" "[I" (.ref a17)) (H21 : Arh Z h0 a17 c22 .int 32 [(p18, (.int p19)), (p23, (.int p24))] [] (.int 0)) (hp25 : (oH p10) = p18) (hp26 : p19 = p10) :
    own_Con l Z own_y1 prog_7_method_6_code 4 (some .int) ({ frames := 1, cells := 0, slots := 0, locals := 14 } : Room) #[(.ref a16), (.int p10)] h0 (own_QP (some (.int (oH p10))) h0) := by
 refine MetFree.of_bodySF (plainFor_of_name own_pn8) hisR ?_
 intro p e s m args below meth c s₁ Bd hml0 hP hK
 obtain ⟨rfl, hZ, hh⟩ := hP
 have hx := Bd.exec
 have hby := Bd.bytes
 have hml : c.maxLocals = 4 := hml0
 have hown : s.vm.findClass own_s1 = some m.cls := findClass_of_methodNamed Bd.named
 have hnm := (name_of_methodNamed Bd.named Bd.method).1
 have X0 : Stand p l e ({ frames := 1, cells := 0, slots := 0, locals := 14 } : Room) s m #[(.ref a16), (.int p10)] below meth c s₁ [] 0 0 := Stand.of_body Bd
 have e0 : s₁.heap = h0 := by rw [← hh, Bd.state]; rfl
 have K0 : own_Kp h0 h0 [] [] := own_kpRefl _ _
 show own_Go p e below (own_K s (own_QP (some (.int (oH p10))) h0) 0 0) s₁ (entryFrame m #[(.ref a16), (.int p10)] 4)
 rw [own_ef477]
 obtain ⟨T12, X12, e12, st12⟩ := own_gF X0 hx hZ hown hby (own_wd hw 148 rfl) e0 F20 d19_1 #[.val (.ref a16), .val (.int p10), .unset, .unset] []
 obtain ⟨cl14, Ar14, q14, S14, N14, H14, G14⟩ := id H21
 let l1 : Array Slot := #[.val (.ref a16), .val (.int p10), .val (.int 31), .unset]
 obtain ⟨_, T15, L15, X15, ⟨rfl, rfl, e15⟩, st15⟩ := own_cs X12 hx hZ hown (own_w489 hw) hml (g := (mkF m 10 l1 [(.int 31), (.int p10)])) (hb hby d19_10) e12 [(.int p10), (.int 31)] [] (lenOf own_pd12 rfl) (rm487 l Z a0 hw h0 p10 )
 let l2 : Array Slot := #[.val (.ref a16), .val (.int p10), .val (.int 31), .val (.int (oH p10))]
 obtain ⟨T13, X13, e13, st13⟩ := own_gF X15 hx hZ hown hby (own_wd hw 148 rfl) e15 F20 d19_15 l2 []
 obtain ⟨cl11, Ar11, q11, S11, N11, H11, G11⟩ := id H21
 have hin11 := inb_of S11 ⟨(own_hlo p10), (own_hhi p10)⟩
 have hat11 := atH H11 hin11 (getH_hit (own_hlo p10) hp25)
 refine own_go (T2 := T13) (g2 := (mkF m 43 l2 [(.int (oH p10))])) (fun t k => z_aloadN X0 hx hby d19_0 rfl rfl (st12 _ (own_alen X12 hx hZ e12 Ar14 S14 N14 rfl rfl (hb hby d19_4) (z_iconst X12 hx hby d19_5 (z_isub X12 hx hby d19_6 (z_istoreN X12 hx hby d19_7 l1 rfl (z_iloadN X12 hx hby d19_8 rfl (z_iloadN X12 hx hby d19_9 rfl (st15 _ (z_istoreN X15 hx hby d19_13 l2 rfl (z_aloadN X15 hx hby d19_14 rfl rfl (st13 _ (z_iloadN X13 hx hby d19_18 rfl (own_ial X13 hx hZ e13 Ar11 hin11 hat11 rfl rfl (hb hby d19_19) (z_iloadN X13 hx hby d19_20 rfl (z_icmpYes X13 hx hby 42 d19_21 (teq hp26).1 rfl (z_iloadN X13 hx hby d19_42 rfl k))))))))))))))))) ?_
 exact own_endI X13 hx Bd.notSynchronized Bd.returns (hb hby d19_43) (by decide) (by decide) ⟨rfl, rfl, e13⟩
theorem d22_24 : decode c_7_2 24 = .ok (.aload_n 0, 1) := by decide +kernel
theorem d22_25 : decode c_7_2 25 = .ok (.getfield 13, 3) := by decide +kernel
theorem d22_28 : decode c_7_2 28 = .ok (.iload_n 2, 1) := by decide +kernel
theorem d22_29 : decode c_7_2 29 = .ok (.iaload, 1) := by decide +kernel
set_option maxRecDepth 65536 in
set_option maxHeartbeats 40000000 in
theorem rm1060 (l : Launch) (Z : State) (a0 : Array Value) (hw : ∀ d ∈ tables_1, d.before a0 Z = true) (h0 : Heap) (a13 a16 : Addr) (p10 : Int32) (a22 : Addr) (c25 : ClassId) (p19 p20 : Int32) (p23 p26 : Int32) (a27 : Addr) (c31 : ClassId) (p21 p28 p32 : Int32) (F33 : Fld Z h0 a16 own_s0 "id" "I" (.int p10)) (E34 : Exa Z h0 a16 own_s0) (F29 : Fld Z h0 a13 own_s1 "slots" "[I" (.ref a22)) (H30 : Arh Z h0 a22 c25 .int 32 [(p19, (.int p20)), (p23, (.int p26))] [] (.int 0)) (hp24 : (oH (p10 + 1)) = p19) (hp35 : p20 = (p10 + 1)) (E36 : Exa Z h0 a13 own_s1) (hp37 : ¬ (p20 = 0)) (F38 : Fld Z h0 a13 own_s1 "indices" "[I" (.ref a27)) (H39 : Arh Z h0 a27 c31 .int 32 [(p19, (.int p21)), (p23, (.int p28)), (p32, (.int p28))] [] (.int 0)) :
    own_Con l Z own_y0 prog_7_method_2_code 3 (some .int) ({ frames := 2, cells := 0, slots := 0, locals := 29 } : Room) #[(.ref a13), (.ref a16)] h0 (own_QP (some (.int p21)) h0) := by
 refine MetFree.of_bodySF (plainFor_of_name own_pn8) hisR ?_
 intro p e s m args below meth c s₁ Bd hml0 hP hK
 obtain ⟨rfl, hZ, hh⟩ := hP
 have hx := Bd.exec
 have hby := Bd.bytes
 have hml : c.maxLocals = 3 := hml0
 have hown : s.vm.findClass own_s1 = some m.cls := findClass_of_methodNamed Bd.named
 have hnm := (name_of_methodNamed Bd.named Bd.method).1
 have X0 : Stand p l e ({ frames := 2, cells := 0, slots := 0, locals := 29 } : Room) s m #[(.ref a13), (.ref a16)] below meth c s₁ [] 0 0 := Stand.of_body Bd
 have e0 : s₁.heap = h0 := by rw [← hh, Bd.state]; rfl
 have K0 : own_Kp h0 h0 [] [] := own_kpRefl _ _
 show own_Go p e below (own_K s (own_QP (some (.int p21)) h0) 0 0) s₁ (entryFrame m #[(.ref a13), (.ref a16)] 3)
 rw [own_ef950]
 let l1 : Array Slot := #[.val (.ref a13), .val (.ref a16), .unset]
 obtain ⟨_, T17, L17, X17, ⟨rfl, rfl, e17⟩, st17⟩ := own_cv X0 hx hZ hown (own_w475 hw) hml (g := (mkF m 2 l1 [(.ref a16), (.ref a13)])) (hb hby d22_2) e0 E34 [] [(.ref a13)] (lenOf own_pd5 rfl) (rm462 l Z a0 hw h0 a16 p10 F33)
 obtain ⟨_, T18, L18, X18, ⟨rfl, rfl, e18⟩, st18⟩ := own_cp X17 hx hZ hown (own_w499 hw) hml (g := (mkF m 7 l1 [(.int (p10 + 1)), (.ref a13)])) (hb hby d22_7) e17 E36 [(.int (p10 + 1))] [] (lenOf own_pd13 rfl) (rm1116 l Z a0 hw h0 a13 (p10 + 1) a22 c25 p19 p20 p23 p26 F29 H30 hp24 hp35)
 let l2 : Array Slot := #[.val (.ref a13), .val (.ref a16), .val (.int (oH (p10 + 1)))]
 obtain ⟨T14, X14, e14, st14⟩ := own_gF X18 hx hZ hown hby (own_wd hw 148 rfl) e18 F29 d22_12 l2 []
 obtain ⟨cl11, Ar11, q11, S11, N11, H11, G11⟩ := id H30
 have hin11 := inb_of S11 ⟨(own_hlo (p10 + 1)), (own_hhi (p10 + 1))⟩
 have hat11 := atH H11 hin11 (getH_hit (own_hlo (p10 + 1)) hp24)
 obtain ⟨T15, X15, e15, st15⟩ := own_gF X14 hx hZ hown hby (own_wd hw 150 rfl) e14 F38 d22_25 l2 []
 obtain ⟨cl12, Ar12, q12, S12, N12, H12, G12⟩ := id H39
 have hin12 := inb_of S12 ⟨(own_hlo (p10 + 1)), (own_hhi (p10 + 1))⟩
 have hat12 := atH H12 hin12 (getH_hit (own_hlo (p10 + 1)) hp24)
 refine own_go (T2 := T15) (g2 := (mkF m 30 l2 [(.int p21)])) (fun t k => z_aloadN X0 hx hby d22_0 rfl rfl (z_aloadN X0 hx hby d22_1 rfl rfl (st17 _ (z_iconst X17 hx hby d22_5 (z_iadd X17 hx hby d22_6 (st18 _ (z_istoreN X18 hx hby d22_10 l2 rfl (z_aloadN X18 hx hby d22_11 rfl rfl (st14 _ (z_iloadN X14 hx hby d22_15 rfl (own_ial X14 hx hZ e14 Ar11 hin11 hat11 rfl rfl (hb hby d22_16) (z_ifYes X14 hx hby 24 d22_17 ((if0 _ _).trans (feq hp37).2) rfl (z_aloadN X14 hx hby d22_24 rfl rfl (st15 _ (z_iloadN X15 hx hby d22_28 rfl (own_ial X15 hx hZ e15 Ar12 hin12 hat12 rfl rfl (hb hby d22_29) k)))))))))))))))) ?_
 exact own_endI X15 hx Bd.notSynchronized Bd.returns (hb hby d22_30) (by decide) (by decide) ⟨rfl, rfl, e15⟩
set_option maxRecDepth 65536 in
set_option maxHeartbeats 40000000 in
theorem rm1225 (l : Launch) (Z : State) (a0 : Array Value) (hw : ∀ d ∈ tables_1, d.before a0 Z = true) (h0 : Heap) (a16 : Addr) (p10 : Int32) (a17 : Addr) (c23 : ClassId) (p18 p24 : Int32) (p19 p20 : Int32) (F21 : Fld Z h0 a16 own_s1 "slots" "[I" (.ref a17)) (H22 : Arh Z h0 a17 c23 .int 32 [(p18, (.int p24)), (p19, (.int p20))] [] (.int 0)) (hp25 : ¬ ((oH p10) = p18)) (hp26 : (oH p10) = p19) (hp27 : p20 = p10) :
    own_Con l Z own_y1 prog_7_method_6_code 4 (some .int) ({ frames := 1, cells := 0, slots := 0, locals := 14 } : Room) #[(.ref a16), (.int p10)] h0 (own_QP (some (.int (oH p10))) h0) := by
 refine MetFree.of_bodySF (plainFor_of_name own_pn8) hisR ?_
 intro p e s m args below meth c s₁ Bd hml0 hP hK
 obtain ⟨rfl, hZ, hh⟩ := hP
 have hx := Bd.exec
 have hby := Bd.bytes
 have hml : c.maxLocals = 4 := hml0
 have hown : s.vm.findClass own_s1 = some m.cls := findClass_of_methodNamed Bd.named
 have hnm := (name_of_methodNamed Bd.named Bd.method).1
 have X0 : Stand p l e ({ frames := 1, cells := 0, slots := 0, locals := 14 } : Room) s m #[(.ref a16), (.int p10)] below meth c s₁ [] 0 0 := Stand.of_body Bd
 have e0 : s₁.heap = h0 := by rw [← hh, Bd.state]; rfl
 have K0 : own_Kp h0 h0 [] [] := own_kpRefl _ _
 show own_Go p e below (own_K s (own_QP (some (.int (oH p10))) h0) 0 0) s₁ (entryFrame m #[(.ref a16), (.int p10)] 4)
 rw [own_ef477]
 obtain ⟨T12, X12, e12, st12⟩ := own_gF X0 hx hZ hown hby (own_wd hw 148 rfl) e0 F21 d19_1 #[.val (.ref a16), .val (.int p10), .unset, .unset] []
 obtain ⟨cl14, Ar14, q14, S14, N14, H14, G14⟩ := id H22
 let l1 : Array Slot := #[.val (.ref a16), .val (.int p10), .val (.int 31), .unset]
 obtain ⟨_, T15, L15, X15, ⟨rfl, rfl, e15⟩, st15⟩ := own_cs X12 hx hZ hown (own_w489 hw) hml (g := (mkF m 10 l1 [(.int 31), (.int p10)])) (hb hby d19_10) e12 [(.int p10), (.int 31)] [] (lenOf own_pd12 rfl) (rm487 l Z a0 hw h0 p10 )
 let l2 : Array Slot := #[.val (.ref a16), .val (.int p10), .val (.int 31), .val (.int (oH p10))]
 obtain ⟨T13, X13, e13, st13⟩ := own_gF X15 hx hZ hown hby (own_wd hw 148 rfl) e15 F21 d19_15 l2 []
 obtain ⟨cl11, Ar11, q11, S11, N11, H11, G11⟩ := id H22
 have hin11 := inb_of S11 ⟨(own_hlo p10), (own_hhi p10)⟩
 have hat11 := atH H11 hin11 (getH_miss (own_hlo p10) hp25 (getH_hit (own_hlo p10) hp26))
 refine own_go (T2 := T13) (g2 := (mkF m 43 l2 [(.int (oH p10))])) (fun t k => z_aloadN X0 hx hby d19_0 rfl rfl (st12 _ (own_alen X12 hx hZ e12 Ar14 S14 N14 rfl rfl (hb hby d19_4) (z_iconst X12 hx hby d19_5 (z_isub X12 hx hby d19_6 (z_istoreN X12 hx hby d19_7 l1 rfl (z_iloadN X12 hx hby d19_8 rfl (z_iloadN X12 hx hby d19_9 rfl (st15 _ (z_istoreN X15 hx hby d19_13 l2 rfl (z_aloadN X15 hx hby d19_14 rfl rfl (st13 _ (z_iloadN X13 hx hby d19_18 rfl (own_ial X13 hx hZ e13 Ar11 hin11 hat11 rfl rfl (hb hby d19_19) (z_iloadN X13 hx hby d19_20 rfl (z_icmpYes X13 hx hby 42 d19_21 (teq hp27).1 rfl (z_iloadN X13 hx hby d19_42 rfl k))))))))))))))))) ?_
 exact own_endI X13 hx Bd.notSynchronized Bd.returns (hb hby d19_43) (by decide) (by decide) ⟨rfl, rfl, e13⟩
set_option maxRecDepth 65536 in
set_option maxHeartbeats 40000000 in
theorem rm1162 (l : Launch) (Z : State) (a0 : Array Value) (hw : ∀ d ∈ tables_1, d.before a0 Z = true) (h0 : Heap) (a13 a16 : Addr) (p10 : Int32) (a23 : Addr) (c26 : ClassId) (p20 p27 : Int32) (p21 p22 : Int32) (a28 : Addr) (c31 : ClassId) (p32 p19 p33 : Int32) (F34 : Fld Z h0 a16 own_s0 "id" "I" (.int p10)) (E35 : Exa Z h0 a16 own_s0) (F29 : Fld Z h0 a13 own_s1 "slots" "[I" (.ref a23)) (H30 : Arh Z h0 a23 c26 .int 32 [(p20, (.int p27)), (p21, (.int p22))] [] (.int 0)) (hp24 : ¬ ((oH (p10 + 1)) = p20)) (hp25 : (oH (p10 + 1)) = p21) (hp36 : p22 = (p10 + 1)) (E37 : Exa Z h0 a13 own_s1) (hp38 : ¬ (p22 = 0)) (F39 : Fld Z h0 a13 own_s1 "indices" "[I" (.ref a28)) (H40 : Arh Z h0 a28 c31 .int 32 [(p20, (.int p32)), (p21, (.int p19)), (p33, (.int p19))] [] (.int 0)) :
    own_Con l Z own_y0 prog_7_method_2_code 3 (some .int) ({ frames := 2, cells := 0, slots := 0, locals := 29 } : Room) #[(.ref a13), (.ref a16)] h0 (own_QP (some (.int p19)) h0) := by
 refine MetFree.of_bodySF (plainFor_of_name own_pn8) hisR ?_
 intro p e s m args below meth c s₁ Bd hml0 hP hK
 obtain ⟨rfl, hZ, hh⟩ := hP
 have hx := Bd.exec
 have hby := Bd.bytes
 have hml : c.maxLocals = 3 := hml0
 have hown : s.vm.findClass own_s1 = some m.cls := findClass_of_methodNamed Bd.named
 have hnm := (name_of_methodNamed Bd.named Bd.method).1
 have X0 : Stand p l e ({ frames := 2, cells := 0, slots := 0, locals := 29 } : Room) s m #[(.ref a13), (.ref a16)] below meth c s₁ [] 0 0 := Stand.of_body Bd
 have e0 : s₁.heap = h0 := by rw [← hh, Bd.state]; rfl
 have K0 : own_Kp h0 h0 [] [] := own_kpRefl _ _
 show own_Go p e below (own_K s (own_QP (some (.int p19)) h0) 0 0) s₁ (entryFrame m #[(.ref a13), (.ref a16)] 3)
 rw [own_ef950]
 let l1 : Array Slot := #[.val (.ref a13), .val (.ref a16), .unset]
 obtain ⟨_, T17, L17, X17, ⟨rfl, rfl, e17⟩, st17⟩ := own_cv X0 hx hZ hown (own_w475 hw) hml (g := (mkF m 2 l1 [(.ref a16), (.ref a13)])) (hb hby d22_2) e0 E35 [] [(.ref a13)] (lenOf own_pd5 rfl) (rm462 l Z a0 hw h0 a16 p10 F34)
 obtain ⟨_, T18, L18, X18, ⟨rfl, rfl, e18⟩, st18⟩ := own_cp X17 hx hZ hown (own_w499 hw) hml (g := (mkF m 7 l1 [(.int (p10 + 1)), (.ref a13)])) (hb hby d22_7) e17 E37 [(.int (p10 + 1))] [] (lenOf own_pd13 rfl) (rm1225 l Z a0 hw h0 a13 (p10 + 1) a23 c26 p20 p27 p21 p22 F29 H30 hp24 hp25 hp36)
 let l2 : Array Slot := #[.val (.ref a13), .val (.ref a16), .val (.int (oH (p10 + 1)))]
 obtain ⟨T14, X14, e14, st14⟩ := own_gF X18 hx hZ hown hby (own_wd hw 148 rfl) e18 F29 d22_12 l2 []
 obtain ⟨cl11, Ar11, q11, S11, N11, H11, G11⟩ := id H30
 have hin11 := inb_of S11 ⟨(own_hlo (p10 + 1)), (own_hhi (p10 + 1))⟩
 have hat11 := atH H11 hin11 (getH_miss (own_hlo (p10 + 1)) hp24 (getH_hit (own_hlo (p10 + 1)) hp25))
 obtain ⟨T15, X15, e15, st15⟩ := own_gF X14 hx hZ hown hby (own_wd hw 150 rfl) e14 F39 d22_25 l2 []
 obtain ⟨cl12, Ar12, q12, S12, N12, H12, G12⟩ := id H40
 have hin12 := inb_of S12 ⟨(own_hlo (p10 + 1)), (own_hhi (p10 + 1))⟩
 have hat12 := atH H12 hin12 (getH_miss (own_hlo (p10 + 1)) hp24 (getH_hit (own_hlo (p10 + 1)) hp25))
 refine own_go (T2 := T15) (g2 := (mkF m 30 l2 [(.int p19)])) (fun t k => z_aloadN X0 hx hby d22_0 rfl rfl (z_aloadN X0 hx hby d22_1 rfl rfl (st17 _ (z_iconst X17 hx hby d22_5 (z_iadd X17 hx hby d22_6 (st18 _ (z_istoreN X18 hx hby d22_10 l2 rfl (z_aloadN X18 hx hby d22_11 rfl rfl (st14 _ (z_iloadN X14 hx hby d22_15 rfl (own_ial X14 hx hZ e14 Ar11 hin11 hat11 rfl rfl (hb hby d22_16) (z_ifYes X14 hx hby 24 d22_17 ((if0 _ _).trans (feq hp38).2) rfl (z_aloadN X14 hx hby d22_24 rfl rfl (st15 _ (z_iloadN X15 hx hby d22_28 rfl (own_ial X15 hx hZ e15 Ar12 hin12 hat12 rfl rfl (hb hby d22_29) k)))))))))))))))) ?_
 exact own_endI X15 hx Bd.notSynchronized Bd.returns (hb hby d22_30) (by decide) (by decide) ⟨rfl, rfl, e15⟩
set_option maxRecDepth 65536 in
theorem tl1268 {p : Program} {l : Launch} {e : Env} {s : State} {m : MethodId} {args : Array Value} {below : List Frame} {meth : Method} {c : Code} {T : State} {locs : List Loc} {cells slots : Nat} {h0 : Heap} {CC SS : Nat} (X : Stand p l e room_1 s m args below meth c T locs cells slots) (hx : p.tables.exec = Jvm.exec) (hby : c.code = code) (hret : meth.sig.returnType = some .boolean) (hlk : meth.locks = false) (hc : cells ≤ CC) (hs : slots ≤ SS) (K : own_Kp h0 T.heap [] locs) (z0 : Int32) (z1 : Int32) (z2 : Int32) (z3 : Int32) (z4 : Int32) (z5 : Int32) (z6 : Int32) (z7 : Int32) (z8 : Int32) (z9 : Addr) (z10 : Addr) (z11 : Addr) (z12 : Addr) :
    own_Go p e below (own_K s (own_Q0 h0.size) CC SS) T (mkF m 204 #[.val (.int z0), .val (.int z1), .val (.int z2), .val (.int z3), .val (.int z4), .val (.int z5), .val (.int z6), .val (.int z7), .val (.int z8), .val (.ref z9), .val (.ref z10), .val (.ref z11), .val (.ref z12), .val (.int 0), .val (.ref z9), .val (.int (-1)), .val (.int z4), .val (.int z5), .unset, .unset, .unset] []) := by
  refine own_go (T2 := T) (g2 := (mkF m 324 #[.val (.int z0), .val (.int z1), .val (.int z2), .val (.int z3), .val (.int z4), .val (.int z5), .val (.int z6), .val (.int z7), .val (.int z8), .val (.ref z9), .val (.ref z10), .val (.ref z11), .val (.ref z12), .val (.int 0), .val (.ref z9), .val (.int (-1)), .val (.int z4), .val (.int z5), .val (.int 1), .val (.int 1), .val (.int 1)] [(.int 1)])) (fun t k => XS.iload X.here hx rfl (hb hby at_204) rfl  (XS.ifNo X.here hx rfl (hb hby at_206) rfl ((if0 _ _).trans (teq (show (0 : Int32) = 0 from (by decide))).2) (XS.iload X.here hx rfl (hb hby at_209) rfl  (XS.iconst X.here hx rfl (hb hby at_211) (XS.icmpNo X.here hx rfl (hb hby at_212) rfl (teq (show (-1 : Int32) = (-1 : Int32) from (by decide))).2 (XS.iconst X.here hx rfl (hb hby at_215) (XS.goto X.here hx rfl (pc0 := 216) (pc' := 234) rfl (hb hby at_216) (by decide) (by decide) (XS.istore X.here hx rfl (hb hby at_234) rfl (l' := #[.val (.int z0), .val (.int z1), .val (.int z2), .val (.int z3), .val (.int z4), .val (.int z5), .val (.int z6), .val (.int z7), .val (.int z8), .val (.ref z9), .val (.ref z10), .val (.ref z11), .val (.ref z12), .val (.int 0), .val (.ref z9), .val (.int (-1)), .val (.int z4), .val (.int z5), .val (.int 1), .unset, .unset]) rfl (XS.iload X.here hx rfl (hb hby at_236) rfl  (XS.iconst X.here hx rfl (hb hby at_238) (XS.icmpYes X.here hx rfl (pc0 := 239) (pc' := 256) rfl (hb hby at_239) rfl (feq (show ¬ ((0 : Int32) = 1) from (by decide))).2 (by decide) (by decide) (XS.iload X.here hx rfl (hb hby at_256) rfl  (XS.iload X.here hx rfl (hb hby at_258) rfl  (XS.icmpNo X.here hx rfl (hb hby at_260) rfl (teq (show z4 = z4 from rfl)).2 (XS.iconst X.here hx rfl (hb hby at_263) (XS.goto X.here hx rfl (pc0 := 264) (pc' := 268) rfl (hb hby at_264) (by decide) (by decide) (XS.istore X.here hx rfl (hb hby at_268) rfl (l' := #[.val (.int z0), .val (.int z1), .val (.int z2), .val (.int z3), .val (.int z4), .val (.int z5), .val (.int z6), .val (.int z7), .val (.int z8), .val (.ref z9), .val (.ref z10), .val (.ref z11), .val (.ref z12), .val (.int 0), .val (.ref z9), .val (.int (-1)), .val (.int z4), .val (.int z5), .val (.int 1), .val (.int 1), .unset]) rfl (XS.iload X.here hx rfl (hb hby at_270) rfl  (XS.iconst X.here hx rfl (hb hby at_272) (XS.icmpYes X.here hx rfl (pc0 := 273) (pc' := 290) rfl (hb hby at_273) rfl (feq (show ¬ ((0 : Int32) = 2) from (by decide))).2 (by decide) (by decide) (XS.iload X.here hx rfl (hb hby at_290) rfl  (XS.iload X.here hx rfl (hb hby at_292) rfl  (XS.icmpNo X.here hx rfl (hb hby at_294) rfl (teq (show z5 = z5 from rfl)).2 (XS.iconst X.here hx rfl (hb hby at_297) (XS.goto X.here hx rfl (pc0 := 298) (pc' := 302) rfl (hb hby at_298) (by decide) (by decide) (XS.istore X.here hx rfl (hb hby at_302) rfl (l' := #[.val (.int z0), .val (.int z1), .val (.int z2), .val (.int z3), .val (.int z4), .val (.int z5), .val (.int z6), .val (.int z7), .val (.int z8), .val (.ref z9), .val (.ref z10), .val (.ref z11), .val (.ref z12), .val (.int 0), .val (.ref z9), .val (.int (-1)), .val (.int z4), .val (.int z5), .val (.int 1), .val (.int 1), .val (.int 1)]) rfl (XS.iload X.here hx rfl (hb hby at_304) rfl  (XS.ifNo X.here hx rfl (hb hby at_306) rfl ((if0 _ _).trans (feq (show ¬ ((1 : Int32) = 0) from (by decide))).1) (XS.iload X.here hx rfl (hb hby at_309) rfl  (XS.ifNo X.here hx rfl (hb hby at_311) rfl ((if0 _ _).trans (feq (show ¬ ((1 : Int32) = 0) from (by decide))).1) (XS.iload X.here hx rfl (hb hby at_314) rfl  (XS.ifNo X.here hx rfl (hb hby at_316) rfl ((if0 _ _).trans (feq (show ¬ ((1 : Int32) = 0) from (by decide))).1) (XS.iconst X.here hx rfl (hb hby at_319) (XS.goto X.here hx rfl (pc0 := 320) (pc' := 324) rfl (hb hby at_320) (by decide) (by decide) k)))))))))))))))))))))))))))))))))) ?_
  exact own_endN X hx hlk (t := .boolean) hret (by simp) (hb hby at_324) (z' := (1 : Int32)) rfl hc hs ⟨rfl, own_kpFr K⟩
theorem cn1269 (x0 x1 x2 : Int32) (v0 v1 v2 : Value) (h0 : ¬ (x0 = x1)) (h1 : ¬ (x0 = x2)) (h2 : ¬ (x1 = x2)) : ∀ i : Nat, getH [(x0, v0), (x1, v1), (x2, v2)] [] (.int 0) i = getH [(x1, v1), (x0, v0), (x2, v2)] [] (.int 0) i := by
  intro i
  have g0 := mt Int32.toInt_inj.mp h0
  have g1 := mt Int32.toInt_inj.mp h1
  have g2 := mt Int32.toInt_inj.mp h2
  simp only [getH]
  repeat' split
  all_goals first | rfl | (exfalso; omega)
set_option maxRecDepth 65536 in
set_option maxHeartbeats 40000000 in
theorem rm1300 (l : Launch) (Z : State) (a0 : Array Value) (hw : ∀ d ∈ tables_1, d.before a0 Z = true) (h0 : Heap) (a20 : Addr) (p10 : Int32) (a25 : Addr) (c32 : ClassId) (p23 p26 : Int32) (p27 p33 : Int32) (p28 p24 : Int32) (F21 : Fld Z h0 a20 own_s1 "slots" "[I" (.ref a25)) (H22 : Arh Z h0 a25 c32 .int 32 [(p23, (.int p26)), (p27, (.int p33)), (p28, (.int p24))] [] (.int 0)) (hp29 : ¬ ((oH p10) = p23)) (hp30 : ¬ ((oH p10) = p27)) (hp31 : (oH p10) = p28) (hp34 : ¬ (p24 = p10)) (hp35 : ¬ (p24 = 0)) (hp36 : (oN (oH p10)) = p23) (hp37 : p26 = p10) :
    own_Con l Z own_y1 prog_7_method_6_code 4 (some .int) ({ frames := 1, cells := 0, slots := 0, locals := 14 } : Room) #[(.ref a20), (.int p10)] h0 (own_QP (some (.int (oN (oH p10)))) h0) := by
 refine MetFree.of_bodySF (plainFor_of_name own_pn8) hisR ?_
 intro p e s m args below meth c s₁ Bd hml0 hP hK
 obtain ⟨rfl, hZ, hh⟩ := hP
 have hx := Bd.exec
 have hby := Bd.bytes
 have hml : c.maxLocals = 4 := hml0
 have hown : s.vm.findClass own_s1 = some m.cls := findClass_of_methodNamed Bd.named
 have hnm := (name_of_methodNamed Bd.named Bd.method).1
 have X0 : Stand p l e ({ frames := 1, cells := 0, slots := 0, locals := 14 } : Room) s m #[(.ref a20), (.int p10)] below meth c s₁ [] 0 0 := Stand.of_body Bd
 have e0 : s₁.heap = h0 := by rw [← hh, Bd.state]; rfl
 have K0 : own_Kp h0 h0 [] [] := own_kpRefl _ _
 show own_Go p e below (own_K s (own_QP (some (.int (oN (oH p10)))) h0) 0 0) s₁ (entryFrame m #[(.ref a20), (.int p10)] 4)
 rw [own_ef477]
 obtain ⟨T15, X15, e15, st15⟩ := own_gF X0 hx hZ hown hby (own_wd hw 148 rfl) e0 F21 d19_1 #[.val (.ref a20), .val (.int p10), .unset, .unset] []
 obtain ⟨cl18, Ar18, q18, S18, N18, H18, G18⟩ := id H22
 let l1 : Array Slot := #[.val (.ref a20), .val (.int p10), .val (.int 31), .unset]
 obtain ⟨_, T19, L19, X19, ⟨rfl, rfl, e19⟩, st19⟩ := own_cs X15 hx hZ hown (own_w489 hw) hml (g := (mkF m 10 l1 [(.int 31), (.int p10)])) (hb hby d19_10) e15 [(.int p10), (.int 31)] [] (lenOf own_pd12 rfl) (rm487 l Z a0 hw h0 p10 )
 let l2 : Array Slot := #[.val (.ref a20), .val (.int p10), .val (.int 31), .val (.int (oH p10))]
 obtain ⟨T17, X17, e17, st17⟩ := own_gF X19 hx hZ hown hby (own_wd hw 148 rfl) e19 F21 d19_15 l2 []
 obtain ⟨cl12, Ar12, q12, S12, N12, H12, G12⟩ := id H22
 have hin12 := inb_of S12 ⟨(own_hlo p10), (own_hhi p10)⟩
 have hat12 := atH H12 hin12 (getH_miss (own_hlo p10) hp29 (getH_miss (own_hlo p10) hp30 (getH_hit (own_hlo p10) hp31)))
 obtain ⟨T11, X11, e11, st11⟩ := own_gF X17 hx hZ hown hby (own_wd hw 148 rfl) e17 F21 d19_25 l2 []
 obtain ⟨cl13, Ar13, q13, S13, N13, H13, G13⟩ := id H22
 have hin13 := inb_of S13 ⟨(own_hlo p10), (own_hhi p10)⟩
 have hat13 := atH H13 hin13 (getH_miss (own_hlo p10) hp29 (getH_miss (own_hlo p10) hp30 (getH_hit (own_hlo p10) hp31)))
 let l3 : Array Slot := #[.val (.ref a20), .val (.int p10), .val (.int 31), .val (.int (oN (oH p10)))]
 obtain ⟨T16, X16, e16, st16⟩ := own_gF X11 hx hZ hown hby (own_wd hw 148 rfl) e11 F21 d19_15 l3 []
 obtain ⟨cl14, Ar14, q14, S14, N14, H14, G14⟩ := id H22
 have hin14 := inb_of S14 ⟨(ar622 (oH p10) ), (ar623 (oH p10) )⟩
 have hat14 := atH H14 hin14 (getH_hit (ar622 (oH p10) ) hp36)
 refine own_go (T2 := T16) (g2 := (mkF m 43 l3 [(.int (oN (oH p10)))])) (fun t k => z_aloadN X0 hx hby d19_0 rfl rfl (st15 _ (own_alen X15 hx hZ e15 Ar18 S18 N18 rfl rfl (hb hby d19_4) (z_iconst X15 hx hby d19_5 (z_isub X15 hx hby d19_6 (z_istoreN X15 hx hby d19_7 l1 rfl (z_iloadN X15 hx hby d19_8 rfl (z_iloadN X15 hx hby d19_9 rfl (st19 _ (z_istoreN X19 hx hby d19_13 l2 rfl (z_aloadN X19 hx hby d19_14 rfl rfl (st17 _ (z_iloadN X17 hx hby d19_18 rfl (own_ial X17 hx hZ e17 Ar12 hin12 hat12 rfl rfl (hb hby d19_19) (z_iloadN X17 hx hby d19_20 rfl (z_icmpNo X17 hx hby d19_21 (feq hp34).1 (z_aloadN X17 hx hby d19_24 rfl rfl (st11 _ (z_iloadN X11 hx hby d19_28 rfl (own_ial X11 hx hZ e11 Ar13 hin13 hat13 rfl rfl (hb hby d19_29) (z_ifNo X11 hx hby d19_30 ((if0 _ _).trans (feq hp35).1) (z_iloadN X11 hx hby d19_33 rfl (z_iconst X11 hx hby d19_34 (z_iadd X11 hx hby d19_35 (z_iloadN X11 hx hby d19_36 rfl (z_iand X11 hx hby d19_37 (z_istoreN X11 hx hby d19_38 l3 rfl (z_goto X11 hx hby 14 d19_39 rfl (z_aloadN X11 hx hby d19_14 rfl rfl (st16 _ (z_iloadN X16 hx hby d19_18 rfl (own_ial X16 hx hZ e16 Ar14 hin14 hat14 rfl rfl (hb hby d19_19) (z_iloadN X16 hx hby d19_20 rfl (z_icmpYes X16 hx hby 42 d19_21 (teq hp37).1 rfl (z_iloadN X16 hx hby d19_42 rfl k))))))))))))))))))))))))))))))))))) ?_
 exact own_endI X16 hx Bd.notSynchronized Bd.returns (hb hby d19_43) (by decide) (by decide) ⟨rfl, rfl, e16⟩
def own_Q1275 (Z : State) (h0 : Heap) (a1276 : Addr) (a1277 : Addr) (a1278 : Addr) (c1281 : ClassId) (p1282 : Int32) (p1283 : Int32) (p1284 : Int32) (p1285 : Int32) (p1286 : Int32) (p1287 : Int32) (p1294 : Int32) (a1361 : Addr) (c1366 : ClassId) (p1367 : Int32) (p1368 : Int32) (p1369 : Int32) (v : Option Value) (h : Heap) (L : List Loc) : Prop := v = none ∧ own_Kp h0 h [a1278, a1276, a1361] L ∧ Arh Z h a1278 c1281 .int 32 [((((((oH (p1294 + 1)) + 1) &&& 31) + 1) &&& 31), (.int 0)), ((((oH (p1294 + 1)) + 1) &&& 31), (.int p1285)), ((((oH (p1294 + 1)) + 1) &&& 31), (.int 0)), (p1282, (.int p1283)), (p1284, (.int p1285)), (p1286, (.int p1287))] [] (.int 0) ∧ Fld Z h a1276 own_s1 "slots" "[I" (.ref a1278) ∧ Fld Z h a1276 own_s1 "size" "I" (.int 2) ∧ Fld Z h a1276 own_s1 "indices" "[I" (.ref a1361) ∧ Arh Z h a1361 c1366 .int 32 [((((oH (p1294 + 1)) + 1) &&& 31), (.int p1368)), (p1282, (.int p1367)), (p1284, (.int p1368)), (p1286, (.int p1369))] [] (.int 0)
set_option maxRecDepth 65536 in
set_option maxHeartbeats 40000000 in
theorem rm1275 (l : Launch) (Z : State) (a0 : Array Value) (hw : ∀ d ∈ tables_1, d.before a0 Z = true) (h0 : Heap) (a16 a18 a26 : Addr) (c48 : ClassId) (p31 p46 : Int32) (p38 p19 : Int32) (p44 p45 p10 : Int32) (a32 : Addr) (c56 : ClassId) (p57 p49 p58 : Int32) (F50 : Fld Z h0 a16 own_s1 "slots" "[I" (.ref a26)) (H59 : Arh Z h0 a26 c48 .int 32 [(p31, (.int p46)), (p38, (.int p19)), (p44, (.int p45))] [] (.int 0)) (F66 : Fld Z h0 a18 own_s0 "id" "I" (.int p10)) (E67 : Exa Z h0 a18 own_s0) (hp68 : ¬ ((oH (p10 + 1)) = p31)) (hp69 : ¬ ((oH (p10 + 1)) = p38)) (hp70 : (oH (p10 + 1)) = p44) (hp71 : ¬ (p45 = (p10 + 1))) (hp72 : ¬ (p45 = 0)) (hp73 : (oN (oH (p10 + 1))) = p31) (hp74 : p46 = (p10 + 1)) (E62 : Exa Z h0 a16 own_s1) (F75 : Fld Z h0 a16 own_s1 "size" "I" (.int 3)) (ne29 : a16 ≠ a26) (hp51 : ¬ ((oN (oN (oH (p10 + 1)))) = p31)) (hp52 : (oN (oN (oH (p10 + 1)))) = p38) (hp76 : ¬ (p19 = 0)) (hp77 : ¬ ((((oN (oN (oH (p10 + 1)))) - (oH p19)) &&& 31) < (((oN (oN (oH (p10 + 1)))) - (oN (oH (p10 + 1)))) &&& 31))) (F78 : Fld Z h0 a16 own_s1 "indices" "[I" (.ref a32)) (H79 : Arh Z h0 a32 c56 .int 32 [(p31, (.int p57)), (p38, (.int p49)), (p44, (.int p58))] [] (.int 0)) (ne53 : a32 ≠ a26) (ne54 : a32 ≠ a16) (hp80 : ¬ ((oN (oN (oN (oH (p10 + 1))))) = p31)) (hp81 : ¬ ((oN (oN (oN (oH (p10 + 1))))) = p38)) (hp82 : ¬ ((oN (oN (oN (oH (p10 + 1))))) = p44)) :
    own_Con l Z own_y2 prog_7_method_5_code 7 none ({ frames := 2, cells := 0, slots := 0, locals := 29 } : Room) #[(.ref a16), (.ref a18)] h0 (own_Q1275 Z h0 a16 a18 a26 c48 p31 p46 p38 p19 p44 p45 p10 a32 c56 p57 p49 p58) := by
 refine MetFree.of_bodySF (plainFor_of_name own_pn8) hisR ?_
 intro p e s m args below meth c s₁ Bd hml0 hP hK
 obtain ⟨rfl, hZ, hh⟩ := hP
 have hx := Bd.exec
 have hby := Bd.bytes
 have hml : c.maxLocals = 7 := hml0
 have hown : s.vm.findClass own_s1 = some m.cls := findClass_of_methodNamed Bd.named
 have hnm := (name_of_methodNamed Bd.named Bd.method).1
 have X0 : Stand p l e ({ frames := 2, cells := 0, slots := 0, locals := 29 } : Room) s m #[(.ref a16), (.ref a18)] below meth c s₁ [] 0 0 := Stand.of_body Bd
 have e0 : s₁.heap = h0 := by rw [← hh, Bd.state]; rfl
 have K0 : own_Kp h0 h0 [a26, a16, a32] [] := own_kpRefl _ _
 show own_Go p e below (own_K s (own_Q1275 Z h0 a16 a18 a26 c48 p31 p46 p38 p19 p44 p45 p10 a32 c56 p57 p49 p58) 0 0) s₁ (entryFrame m #[(.ref a16), (.ref a18)] 7)
 rw [own_ef804]
 obtain ⟨T25, X25, e25, st25⟩ := own_gF X0 hx hZ hown hby (own_wd hw 148 rfl) e0 F50 d21_1 #[.val (.ref a16), .val (.ref a18), .unset, .unset, .unset, .unset, .unset] []
 obtain ⟨cl33, Ar33, q33, S33, N33, H33, G33⟩ := id H59
 let l1 : Array Slot := #[.val (.ref a16), .val (.ref a18), .val (.int 31), .unset, .unset, .unset, .unset]
 obtain ⟨_, T34, L34, X34, ⟨rfl, rfl, e34⟩, st34⟩ := own_cv X25 hx hZ hown (own_w475 hw) hml (g := (mkF m 10 l1 [(.ref a18), (.ref a16)])) (hb hby d21_10) e25 E67 [] [(.ref a16)] (lenOf own_pd5 rfl) (rm462 l Z a0 hw h0 a18 p10 F66)
 obtain ⟨_, T35, L35, X35, ⟨rfl, rfl, e35⟩, st35⟩ := own_cp X34 hx hZ hown (own_w499 hw) hml (g := (mkF m 15 l1 [(.int (p10 + 1)), (.ref a16)])) (hb hby d21_15) e34 E62 [(.int (p10 + 1))] [] (lenOf own_pd13 rfl) (rm1300 l Z a0 hw h0 a16 (p10 + 1) a26 c48 p31 p46 p38 p19 p44 p45 F50 H59 hp68 hp69 hp70 hp71 hp72 hp73 hp74)
 let l2 : Array Slot := #[.val (.ref a16), .val (.ref a18), .val (.int 31), .val (.int (oN (oH (p10 + 1)))), .unset, .unset, .unset]
 obtain ⟨T39, X39, e39, st39⟩ := own_gF X35 hx hZ hown hby (own_wd hw 148 rfl) e35 F50 d21_20 l2 []
 obtain ⟨cl12, Ar12, q12, S12, N12, H12, G12⟩ := id H59
 have hin12 := inb_of S12 ⟨(ar622 (oH (p10 + 1)) ), (ar623 (oH (p10 + 1)) )⟩
 obtain ⟨T12, h12, X12, e12, W12, st12⟩ := stI X39 hx hZ e39 Ar12 (j := (oN (oH (p10 + 1)))) hin12 (g := (mkF m 25 l2 [(.int 0), (.int (oN (oH (p10 + 1)))), (.ref a26)])) rfl rfl (hb hby d21_25)
 have V12 := Arh.push Ar12 q12 S12 N12 H12 G12 rfl W12 hin12
 have K12 := own_kpWr K0 W12 (Or.inl (List.mem_of_getElem? (i := 0) rfl))
 have z_W12 := Nat.le_of_eq W12.size.symm
 have F60 := (Fld.other W12 F75 (Or.inl ne29))
 obtain ⟨T40, X40, e40, st40⟩ := own_gF X12 hx hZ hown hby (own_wd hw 157 rfl) e12 F60 d21_28 l2 [(.ref a16)]
 have E83 := (Exa.wr W12 E62)
 obtain ⟨T15, h15, X15, e15, W15, st15⟩ := putF X40 hx hZ hown (host := "") (Or.inl (own_wd hw 157 rfl)) Via.refl e40 F60 E83 (Or.inl (own_wd hw 158 rfl)) (own_wd hw 141 rfl) (ty := .int) (by decide) rfl rfl (g := (mkF m 33 l2 [(.int 2), (.ref a16)])) rfl rfl (hb hby d21_33)
 have F15 := Fld.same W15 F60
 have K15 := own_kpWr K12 W15 (Or.inl (List.mem_of_getElem? (i := 1) rfl))
 have z_W15 := Nat.le_of_eq W15.size.symm
 have F47 := (Fld.other W15 (Fld.other W12 F50 (Or.inl ne29)) (Or.inr (slot_ne (Or.inl (own_wd hw 149 rfl)) (Or.inl (own_wd hw 158 rfl)) (by decide) (t := (.array .int)) (t' := .int) (by decide) (by decide))))
 let l3 : Array Slot := #[.val (.ref a16), .val (.ref a18), .val (.int 31), .val (.int (oN (oH (p10 + 1)))), .val (.int (oN (oN (oH (p10 + 1))))), .unset, .unset]
 obtain ⟨T27, X27, e27, st27⟩ := own_gF X15 hx hZ hown hby (own_wd hw 148 rfl) e15 F47 d21_44 l3 []
 have H55 := (Arh.other V12 W15 (Ne.symm ne29))
 obtain ⟨cl20, Ar20, q20, S20, N20, H20, G20⟩ := id H55
 have hin20 := inb_of S20 ⟨(ar898 (oH (p10 + 1)) ), (ar899 (oH (p10 + 1)) )⟩
 have hat20 := atH H20 hin20 (getH_miss (ar898 (oH (p10 + 1)) ) (ar798 (oH (p10 + 1)) ) (getH_miss (ar898 (oH (p10 + 1)) ) hp51 (getH_hit (ar898 (oH (p10 + 1)) ) hp52)))
 obtain ⟨T30, X30, e30, st30⟩ := own_gF X27 hx hZ hown hby (own_wd hw 148 rfl) e27 F47 d21_54 l3 []
 obtain ⟨cl21, Ar21, q21, S21, N21, H21, G21⟩ := id H55
 have hin21 := inb_of S21 ⟨(ar898 (oH (p10 + 1)) ), (ar899 (oH (p10 + 1)) )⟩
 have hat21 := atH H21 hin21 (getH_miss (ar898 (oH (p10 + 1)) ) (ar798 (oH (p10 + 1)) ) (getH_miss (ar898 (oH (p10 + 1)) ) hp51 (getH_hit (ar898 (oH (p10 + 1)) ) hp52)))
 obtain ⟨_, T17, L17, X17, ⟨rfl, rfl, e17⟩, st17⟩ := own_cs X30 hx hZ hown (own_w489 hw) hml (g := (mkF m 61 l3 [(.int 31), (.int p19)])) (hb hby d21_61) e30 [(.int p19), (.int 31)] [] (lenOf own_pd12 rfl) (rm487 l Z a0 hw h15 p19 )
 let l4 : Array Slot := #[.val (.ref a16), .val (.ref a18), .val (.int 31), .val (.int (oN (oH (p10 + 1)))), .val (.int (oN (oN (oH (p10 + 1))))), .val (.int (oH p19)), .unset]
 refine own_go (T2 := T17) (g2 := (mkF m 77 l4 [(.int ((oN (oN (oH (p10 + 1)))) - (oN (oH (p10 + 1))))), (.int (((oN (oN (oH (p10 + 1)))) - (oH p19)) &&& 31))])) (fun t k => z_aloadN X0 hx hby d21_0 rfl rfl (st25 _ (own_alen X25 hx hZ e25 Ar33 S33 N33 rfl rfl (hb hby d21_4) (z_iconst X25 hx hby d21_5 (z_isub X25 hx hby d21_6 (z_istoreN X25 hx hby d21_7 l1 rfl (z_aloadN X25 hx hby d21_8 rfl rfl (z_aloadN X25 hx hby d21_9 rfl rfl (st34 _ (z_iconst X34 hx hby d21_13 (z_iadd X34 hx hby d21_14 (st35 _ (z_istoreN X35 hx hby d21_18 l2 rfl (z_aloadN X35 hx hby d21_19 rfl rfl (st39 _ (z_iloadN X39 hx hby d21_23 rfl (z_iconst X39 hx hby d21_24 (st12 _ (z_aloadN X12 hx hby d21_26 rfl rfl (z_dup X12 hx hby d21_27 rfl (st40 _ (z_iconst X40 hx hby d21_31 (z_isub X40 hx hby d21_32 (st15 _ (z_iloadN X15 hx hby d21_36 rfl (z_iconst X15 hx hby d21_37 (z_iadd X15 hx hby d21_38 (z_iloadN X15 hx hby d21_39 rfl (z_iand X15 hx hby d21_40 (z_istore X15 hx hby d21_41 l3 rfl (z_aloadN X15 hx hby d21_43 rfl rfl (st27 _ (z_iload X27 hx hby d21_47 rfl (own_ial X27 hx hZ e27 Ar20 hin20 hat20 rfl rfl (hb hby d21_49) (z_ifNo X27 hx hby d21_50 ((if0 _ _).trans (feq hp76).1) (z_aloadN X27 hx hby d21_53 rfl rfl (st30 _ (z_iload X30 hx hby d21_57 rfl (own_ial X30 hx hZ e30 Ar21 hin21 hat21 rfl rfl (hb hby d21_59) (z_iloadN X30 hx hby d21_60 rfl (st17 _ (z_istore X17 hx hby d21_64 l4 rfl (z_iload X17 hx hby d21_66 rfl (z_iload X17 hx hby d21_68 rfl (z_isub X17 hx hby d21_70 (z_iloadN X17 hx hby d21_71 rfl (z_iand X17 hx hby d21_72 (z_iload X17 hx hby d21_73 rfl (z_iloadN X17 hx hby d21_75 rfl (z_isub X17 hx hby d21_76 k)))))))))))))))))))))))))))))))))))))))))))))))))) ?_
 let l5 : Array Slot := #[.val (.ref a16), .val (.ref a18), .val (.int 31), .val (.int (oN (oH (p10 + 1)))), .val (.int (oN (oN (oH (p10 + 1))))), .val (.int (oH p19)), .val (.int 1)]
 obtain ⟨T41, X41, e41, st41⟩ := own_gF X17 hx hZ hown hby (own_wd hw 148 rfl) e17 F47 d21_95 l5 []
 obtain ⟨T36, X36, e36, st36⟩ := own_gF X41 hx hZ hown hby (own_wd hw 148 rfl) e41 F47 d21_100 l5 [(.int (oN (oH (p10 + 1)))), (.ref a26)]
 obtain ⟨cl22, Ar22, q22, S22, N22, H22, G22⟩ := id H55
 have hin22 := inb_of S22 ⟨(ar898 (oH (p10 + 1)) ), (ar899 (oH (p10 + 1)) )⟩
 have hat22 := atH H22 hin22 (getH_miss (ar898 (oH (p10 + 1)) ) (ar798 (oH (p10 + 1)) ) (getH_miss (ar898 (oH (p10 + 1)) ) hp51 (getH_hit (ar898 (oH (p10 + 1)) ) hp52)))
 obtain ⟨cl13, Ar13, q13, S13, N13, H13, G13⟩ := id H55
 have hin13 := inb_of S13 ⟨(ar622 (oH (p10 + 1)) ), (ar623 (oH (p10 + 1)) )⟩
 obtain ⟨T13, h13, X13, e13, W13, st13⟩ := stI X36 hx hZ e36 Ar13 (j := (oN (oH (p10 + 1)))) hin13 (g := (mkF m 106 l5 [(.int p19), (.int (oN (oH (p10 + 1)))), (.ref a26)])) rfl rfl (hb hby d21_106)
 have V13 := Arh.push Ar13 q13 S13 N13 H13 G13 rfl W13 hin13
 have K13 := own_kpWr K15 W13 (Or.inl (List.mem_of_getElem? (i := 0) rfl))
 have z_W13 := Nat.le_of_eq W13.size.symm
 have F61 := (Fld.other W13 (Fld.other W15 (Fld.other W12 F78 (Or.inl ne29)) (Or.inr (slot_ne (Or.inl (own_wd hw 151 rfl)) (Or.inl (own_wd hw 158 rfl)) (by decide) (t := (.array .int)) (t' := .int) (by decide) (by decide)))) (Or.inl ne29))
 obtain ⟨T42, X42, e42, st42⟩ := own_gF X13 hx hZ hown hby (own_wd hw 150 rfl) e13 F61 d21_108 l5 []
 obtain ⟨T37, X37, e37, st37⟩ := own_gF X42 hx hZ hown hby (own_wd hw 150 rfl) e42 F61 d21_113 l5 [(.int (oN (oH (p10 + 1)))), (.ref a32)]
 have H63 := (Arh.other (Arh.other (Arh.other H79 W12 ne53) W15 ne54) W13 ne53)
 obtain ⟨cl23, Ar23, q23, S23, N23, H23, G23⟩ := id H63
 have hin23 := inb_of S23 ⟨(ar898 (oH (p10 + 1)) ), (ar899 (oH (p10 + 1)) )⟩
 have hat23 := atH H23 hin23 (getH_miss (ar898 (oH (p10 + 1)) ) hp51 (getH_hit (ar898 (oH (p10 + 1)) ) hp52))
 obtain ⟨cl14, Ar14, q14, S14, N14, H14, G14⟩ := id H63
 have hin14 := inb_of S14 ⟨(ar622 (oH (p10 + 1)) ), (ar623 (oH (p10 + 1)) )⟩
 obtain ⟨T14, h14, X14, e14, W14, st14⟩ := stI X37 hx hZ e37 Ar14 (j := (oN (oH (p10 + 1)))) hin14 (g := (mkF m 119 l5 [(.int p49), (.int (oN (oH (p10 + 1)))), (.ref a32)])) rfl rfl (hb hby d21_119)
 have V14 := Arh.push Ar14 q14 S14 N14 H14 G14 rfl W14 hin14
 have K14 := own_kpWr K13 W14 (Or.inl (List.mem_of_getElem? (i := 2) rfl))
 have z_W14 := Nat.le_of_eq W14.size.symm
 have F64 := (Fld.other W14 (Fld.other W13 F47 (Or.inl ne29)) (Or.inl (Ne.symm ne54)))
 obtain ⟨T43, X43, e43, st43⟩ := own_gF X14 hx hZ hown hby (own_wd hw 148 rfl) e14 F64 d21_121 l5 []
 have H84 := (Arh.other V13 W14 (Ne.symm ne53))
 obtain ⟨cl11, Ar11, q11, S11, N11, H11, G11⟩ := id H84
 have hin11 := inb_of S11 ⟨(ar898 (oH (p10 + 1)) ), (ar899 (oH (p10 + 1)) )⟩
 obtain ⟨T11, h11, X11, e11, W11, st11⟩ := stI X43 hx hZ e43 Ar11 (j := (oN (oN (oH (p10 + 1))))) hin11 (g := (mkF m 127 l5 [(.int 0), (.int (oN (oN (oH (p10 + 1))))), (.ref a26)])) rfl rfl (hb hby d21_127)
 have V11 := Arh.push Ar11 q11 S11 N11 H11 G11 rfl W11 hin11
 have K11 := own_kpWr K14 W11 (Or.inl (List.mem_of_getElem? (i := 0) rfl))
 have z_W11 := Nat.le_of_eq W11.size.symm
 have F65 := (Fld.other W11 F64 (Or.inl ne29))
 let l6 : Array Slot := #[.val (.ref a16), .val (.ref a18), .val (.int 31), .val (.int (oN (oN (oH (p10 + 1))))), .val (.int (oN (oN (oN (oH (p10 + 1)))))), .val (.int (oH p19)), .val (.int 1)]
 obtain ⟨T28, X28, e28, st28⟩ := own_gF X11 hx hZ hown hby (own_wd hw 148 rfl) e11 F65 d21_44 l6 []
 obtain ⟨cl24, Ar24, q24, S24, N24, H24, G24⟩ := id V11
 have hin24 := inb_of S24 ⟨(ar925 (oH (p10 + 1)) ), (ar926 (oH (p10 + 1)) )⟩
 have hat24 := atH H24 hin24 (getH_miss (ar925 (oH (p10 + 1)) ) (ar927 (oH (p10 + 1)) ) (getH_miss (ar925 (oH (p10 + 1)) ) (ar928 (oH (p10 + 1)) ) (getH_miss (ar925 (oH (p10 + 1)) ) (ar928 (oH (p10 + 1)) ) (getH_miss (ar925 (oH (p10 + 1)) ) hp80 (getH_miss (ar925 (oH (p10 + 1)) ) hp81 (getH_miss (ar925 (oH (p10 + 1)) ) hp82 (getH_all rfl _)))))))
 have F85 := (Fld.other W11 (Fld.other W14 (Fld.other W13 F15 (Or.inl ne29)) (Or.inl (Ne.symm ne54))) (Or.inl ne29))
 have F86 := (Fld.other W11 (Fld.other W14 F61 (Or.inl (Ne.symm ne54))) (Or.inl ne29))
 have H87 := (Arh.other V14 W11 ne53)
 refine own_go (T2 := T28) (g2 := (mkF m 142 l6 [])) (fun t k => z_iloadN X17 hx hby d21_77 rfl (z_iand X17 hx hby d21_78 (z_icmpNo X17 hx hby d21_79 (flt hp77).1 (z_iconst X17 hx hby d21_82 (z_goto X17 hx hby 87 d21_83 rfl (z_istore X17 hx hby d21_87 l5 rfl (z_iload X17 hx hby d21_89 rfl (z_ifNo X17 hx hby d21_91 ((if0 _ _).trans (feq (show ¬ ((1 : Int32) = 0) from (by decide))).1) (z_aloadN X17 hx hby d21_94 rfl rfl (st41 _ (z_iloadN X41 hx hby d21_98 rfl (z_aloadN X41 hx hby d21_99 rfl rfl (st36 _ (z_iload X36 hx hby d21_103 rfl (own_ial X36 hx hZ e36 Ar22 hin22 hat22 rfl rfl (hb hby d21_105) (st13 _ (z_aloadN X13 hx hby d21_107 rfl rfl (st42 _ (z_iloadN X42 hx hby d21_111 rfl (z_aloadN X42 hx hby d21_112 rfl rfl (st37 _ (z_iload X37 hx hby d21_116 rfl (own_ial X37 hx hZ e37 Ar23 hin23 hat23 rfl rfl (hb hby d21_118) (st14 _ (z_aloadN X14 hx hby d21_120 rfl rfl (st43 _ (z_iload X43 hx hby d21_124 rfl (z_iconst X43 hx hby d21_126 (st11 _ (z_iload X11 hx hby d21_128 rfl (z_istoreN X11 hx hby d21_130 #[.val (.ref a16), .val (.ref a18), .val (.int 31), .val (.int (oN (oN (oH (p10 + 1))))), .val (.int (oN (oN (oH (p10 + 1))))), .val (.int (oH p19)), .val (.int 1)] rfl (z_iload X11 hx hby d21_131 rfl (z_iconst X11 hx hby d21_133 (z_iadd X11 hx hby d21_134 (z_iloadN X11 hx hby d21_135 rfl (z_iand X11 hx hby d21_136 (z_istore X11 hx hby d21_137 l6 rfl (z_goto X11 hx hby 43 d21_139 rfl (z_aloadN X11 hx hby d21_43 rfl rfl (st28 _ (z_iload X28 hx hby d21_47 rfl (own_ial X28 hx hZ e28 Ar24 hin24 hat24 rfl rfl (hb hby d21_49) (z_ifYes X28 hx hby 142 d21_50 ((if0 _ _).trans (teq (show (0 : Int32) = 0 from (by decide))).1) rfl k))))))))))))))))))))))))))))))))))))))))))) ?_
 exact own_endV X28 hx Bd.notSynchronized Bd.returns (hb hby d21_142) (by decide) (by decide) (by rw [e28]; exact ⟨rfl, (by simpa only [List.append_nil] using K11), V11, F65, F85, F86, H87⟩)
theorem cn1394 (x0 x1 x2 : Int32) (v0 v1 v2 : Value) (h0 : ¬ (x0 = x1)) (h1 : ¬ (x0 = x2)) (h2 : ¬ (x1 = x2)) : ∀ i : Nat, getH [(x0, .int 0), (x1, v0), (x1, .int 0), (x1, v1), (x0, v0), (x2, v2)] [] (.int 0) i = getH [(x2, v2), (x1, v0)] [] (.int 0) i := by
  intro i
  have g0 := mt Int32.toInt_inj.mp h0
  have g1 := mt Int32.toInt_inj.mp h1
  have g2 := mt Int32.toInt_inj.mp h2
  simp only [getH]
  repeat' split
  all_goals first | rfl | (exfalso; omega)
theorem cn1396 (x0 x1 x2 : Int32) (v0 v1 v2 : Value) (h0 : ¬ (x0 = x1)) (h1 : ¬ (x0 = x2)) (h2 : ¬ (x1 = x2)) : ∀ i : Nat, getH [(x0, v0), (x0, v1), (x1, v0), (x2, v2)] [] (.int 0) i = getH [(x2, v2), (x0, v0), (x1, v0)] [] (.int 0) i := by
  intro i
  have g0 := mt Int32.toInt_inj.mp h0
  have g1 := mt Int32.toInt_inj.mp h1
  have g2 := mt Int32.toInt_inj.mp h2
  simp only [getH]
  repeat' split
  all_goals first | rfl | (exfalso; omega)
set_option maxRecDepth 65536 in
theorem tl1427 {p : Program} {l : Launch} {e : Env} {s : State} {m : MethodId} {args : Array Value} {below : List Frame} {meth : Method} {c : Code} {T : State} {locs : List Loc} {cells slots : Nat} {h0 : Heap} {CC SS : Nat} (X : Stand p l e room_1 s m args below meth c T locs cells slots) (hx : p.tables.exec = Jvm.exec) (hby : c.code = code) (hret : meth.sig.returnType = some .boolean) (hlk : meth.locks = false) (hc : cells ≤ CC) (hs : slots ≤ SS) (K : own_Kp h0 T.heap [] locs) (z0 : Int32) (z1 : Int32) (z2 : Int32) (z3 : Int32) (z4 : Int32) (z5 : Int32) (z6 : Int32) (z7 : Int32) (z8 : Int32) (z9 : Addr) (z10 : Addr) (z11 : Addr) (z12 : Addr) :
    own_Go p e below (own_K s (own_Q0 h0.size) CC SS) T (mkF m 204 #[.val (.int z0), .val (.int z1), .val (.int z2), .val (.int z3), .val (.int z4), .val (.int z5), .val (.int z6), .val (.int z7), .val (.int z8), .val (.ref z9), .val (.ref z10), .val (.ref z11), .val (.ref z12), .val (.int 1), .val (.ref z10), .val (.int z3), .val (.int (-1)), .val (.int z5), .unset, .unset, .unset] []) := by
  refine own_go (T2 := T) (g2 := (mkF m 324 #[.val (.int z0), .val (.int z1), .val (.int z2), .val (.int z3), .val (.int z4), .val (.int z5), .val (.int z6), .val (.int z7), .val (.int z8), .val (.ref z9), .val (.ref z10), .val (.ref z11), .val (.ref z12), .val (.int 1), .val (.ref z10), .val (.int z3), .val (.int (-1)), .val (.int z5), .val (.int 1), .val (.int 1), .val (.int 1)] [(.int 1)])) (fun t k => XS.iload X.here hx rfl (hb hby at_204) rfl  (XS.ifYes X.here hx rfl (pc0 := 206) (pc' := 223) rfl (hb hby at_206) rfl ((if0 _ _).trans (feq (show ¬ ((1 : Int32) = 0) from (by decide))).2) (by decide) (by decide) (XS.iload X.here hx rfl (hb hby at_223) rfl  (XS.iloadN X.here hx rfl (hb hby at_225) rfl  (XS.icmpNo X.here hx rfl (hb hby at_226) rfl (teq (show z3 = z3 from rfl)).2 (XS.iconst X.here hx rfl (hb hby at_229) (XS.goto X.here hx rfl (pc0 := 230) (pc' := 234) rfl (hb hby at_230) (by decide) (by decide) (XS.istore X.here hx rfl (hb hby at_234) rfl (l' := #[.val (.int z0), .val (.int z1), .val (.int z2), .val (.int z3), .val (.int z4), .val (.int z5), .val (.int z6), .val (.int z7), .val (.int z8), .val (.ref z9), .val (.ref z10), .val (.ref z11), .val (.ref z12), .val (.int 1), .val (.ref z10), .val (.int z3), .val (.int (-1)), .val (.int z5), .val (.int 1), .unset, .unset]) rfl (XS.iload X.here hx rfl (hb hby at_236) rfl  (XS.iconst X.here hx rfl (hb hby at_238) (XS.icmpNo X.here hx rfl (hb hby at_239) rfl (teq (show (1 : Int32) = 1 from (by decide))).2 (XS.iload X.here hx rfl (hb hby at_242) rfl  (XS.iconst X.here hx rfl (hb hby at_244) (XS.icmpNo X.here hx rfl (hb hby at_245) rfl (teq (show (-1 : Int32) = (-1 : Int32) from (by decide))).2 (XS.iconst X.here hx rfl (hb hby at_248) (XS.goto X.here hx rfl (pc0 := 249) (pc' := 268) rfl (hb hby at_249) (by decide) (by decide) (XS.istore X.here hx rfl (hb hby at_268) rfl (l' := #[.val (.int z0), .val (.int z1), .val (.int z2), .val (.int z3), .val (.int z4), .val (.int z5), .val (.int z6), .val (.int z7), .val (.int z8), .val (.ref z9), .val (.ref z10), .val (.ref z11), .val (.ref z12), .val (.int 1), .val (.ref z10), .val (.int z3), .val (.int (-1)), .val (.int z5), .val (.int 1), .val (.int 1), .unset]) rfl (XS.iload X.here hx rfl (hb hby at_270) rfl  (XS.iconst X.here hx rfl (hb hby at_272) (XS.icmpYes X.here hx rfl (pc0 := 273) (pc' := 290) rfl (hb hby at_273) rfl (feq (show ¬ ((1 : Int32) = 2) from (by decide))).2 (by decide) (by decide) (XS.iload X.here hx rfl (hb hby at_290) rfl  (XS.iload X.here hx rfl (hb hby at_292) rfl  (XS.icmpNo X.here hx rfl (hb hby at_294) rfl (teq (show z5 = z5 from rfl)).2 (XS.iconst X.here hx rfl (hb hby at_297) (XS.goto X.here hx rfl (pc0 := 298) (pc' := 302) rfl (hb hby at_298) (by decide) (by decide) (XS.istore X.here hx rfl (hb hby at_302) rfl (l' := #[.val (.int z0), .val (.int z1), .val (.int z2), .val (.int z3), .val (.int z4), .val (.int z5), .val (.int z6), .val (.int z7), .val (.int z8), .val (.ref z9), .val (.ref z10), .val (.ref z11), .val (.ref z12), .val (.int 1), .val (.ref z10), .val (.int z3), .val (.int (-1)), .val (.int z5), .val (.int 1), .val (.int 1), .val (.int 1)]) rfl (XS.iload X.here hx rfl (hb hby at_304) rfl  (XS.ifNo X.here hx rfl (hb hby at_306) rfl ((if0 _ _).trans (feq (show ¬ ((1 : Int32) = 0) from (by decide))).1) (XS.iload X.here hx rfl (hb hby at_309) rfl  (XS.ifNo X.here hx rfl (hb hby at_311) rfl ((if0 _ _).trans (feq (show ¬ ((1 : Int32) = 0) from (by decide))).1) (XS.iload X.here hx rfl (hb hby at_314) rfl  (XS.ifNo X.here hx rfl (hb hby at_316) rfl ((if0 _ _).trans (feq (show ¬ ((1 : Int32) = 0) from (by decide))).1) (XS.iconst X.here hx rfl (hb hby at_319) (XS.goto X.here hx rfl (pc0 := 320) (pc' := 324) rfl (hb hby at_320) (by decide) (by decide) k)))))))))))))))))))))))))))))))))) ?_
  exact own_endN X hx hlk (t := .boolean) hret (by simp) (hb hby at_324) (z' := (1 : Int32)) rfl hc hs ⟨rfl, own_kpFr K⟩
set_option maxRecDepth 65536 in
set_option maxHeartbeats 40000000 in
theorem rm1460 (l : Launch) (Z : State) (a0 : Array Value) (hw : ∀ d ∈ tables_1, d.before a0 Z = true) (h0 : Heap) (a20 : Addr) (p10 : Int32) (a25 : Addr) (c30 : ClassId) (p23 p26 : Int32) (p27 p24 : Int32) (p31 p32 : Int32) (F21 : Fld Z h0 a20 own_s1 "slots" "[I" (.ref a25)) (H22 : Arh Z h0 a25 c30 .int 32 [(p23, (.int p26)), (p27, (.int p24)), (p31, (.int p32))] [] (.int 0)) (hp28 : ¬ ((oH p10) = p23)) (hp29 : (oH p10) = p27) (hp33 : ¬ (p24 = p10)) (hp34 : ¬ (p24 = 0)) (hp35 : (oN (oH p10)) = p23) (hp36 : p26 = p10) :
    own_Con l Z own_y1 prog_7_method_6_code 4 (some .int) ({ frames := 1, cells := 0, slots := 0, locals := 14 } : Room) #[(.ref a20), (.int p10)] h0 (own_QP (some (.int (oN (oH p10)))) h0) := by
 refine MetFree.of_bodySF (plainFor_of_name own_pn8) hisR ?_
 intro p e s m args below meth c s₁ Bd hml0 hP hK
 obtain ⟨rfl, hZ, hh⟩ := hP
 have hx := Bd.exec
 have hby := Bd.bytes
 have hml : c.maxLocals = 4 := hml0
 have hown : s.vm.findClass own_s1 = some m.cls := findClass_of_methodNamed Bd.named
 have hnm := (name_of_methodNamed Bd.named Bd.method).1
 have X0 : Stand p l e ({ frames := 1, cells := 0, slots := 0, locals := 14 } : Room) s m #[(.ref a20), (.int p10)] below meth c s₁ [] 0 0 := Stand.of_body Bd
 have e0 : s₁.heap = h0 := by rw [← hh, Bd.state]; rfl
 have K0 : own_Kp h0 h0 [] [] := own_kpRefl _ _
 show own_Go p e below (own_K s (own_QP (some (.int (oN (oH p10)))) h0) 0 0) s₁ (entryFrame m #[(.ref a20), (.int p10)] 4)
 rw [own_ef477]
 obtain ⟨T15, X15, e15, st15⟩ := own_gF X0 hx hZ hown hby (own_wd hw 148 rfl) e0 F21 d19_1 #[.val (.ref a20), .val (.int p10), .unset, .unset] []
 obtain ⟨cl18, Ar18, q18, S18, N18, H18, G18⟩ := id H22
 let l1 : Array Slot := #[.val (.ref a20), .val (.int p10), .val (.int 31), .unset]
 obtain ⟨_, T19, L19, X19, ⟨rfl, rfl, e19⟩, st19⟩ := own_cs X15 hx hZ hown (own_w489 hw) hml (g := (mkF m 10 l1 [(.int 31), (.int p10)])) (hb hby d19_10) e15 [(.int p10), (.int 31)] [] (lenOf own_pd12 rfl) (rm487 l Z a0 hw h0 p10 )
 let l2 : Array Slot := #[.val (.ref a20), .val (.int p10), .val (.int 31), .val (.int (oH p10))]
 obtain ⟨T17, X17, e17, st17⟩ := own_gF X19 hx hZ hown hby (own_wd hw 148 rfl) e19 F21 d19_15 l2 []
 obtain ⟨cl12, Ar12, q12, S12, N12, H12, G12⟩ := id H22
 have hin12 := inb_of S12 ⟨(own_hlo p10), (own_hhi p10)⟩
 have hat12 := atH H12 hin12 (getH_miss (own_hlo p10) hp28 (getH_hit (own_hlo p10) hp29))
 obtain ⟨T11, X11, e11, st11⟩ := own_gF X17 hx hZ hown hby (own_wd hw 148 rfl) e17 F21 d19_25 l2 []
 obtain ⟨cl13, Ar13, q13, S13, N13, H13, G13⟩ := id H22
 have hin13 := inb_of S13 ⟨(own_hlo p10), (own_hhi p10)⟩
 have hat13 := atH H13 hin13 (getH_miss (own_hlo p10) hp28 (getH_hit (own_hlo p10) hp29))
 let l3 : Array Slot := #[.val (.ref a20), .val (.int p10), .val (.int 31), .val (.int (oN (oH p10)))]
 obtain ⟨T16, X16, e16, st16⟩ := own_gF X11 hx hZ hown hby (own_wd hw 148 rfl) e11 F21 d19_15 l3 []
 obtain ⟨cl14, Ar14, q14, S14, N14, H14, G14⟩ := id H22
 have hin14 := inb_of S14 ⟨(ar622 (oH p10) ), (ar623 (oH p10) )⟩
 have hat14 := atH H14 hin14 (getH_hit (ar622 (oH p10) ) hp35)
 refine own_go (T2 := T16) (g2 := (mkF m 43 l3 [(.int (oN (oH p10)))])) (fun t k => z_aloadN X0 hx hby d19_0 rfl rfl (st15 _ (own_alen X15 hx hZ e15 Ar18 S18 N18 rfl rfl (hb hby d19_4) (z_iconst X15 hx hby d19_5 (z_isub X15 hx hby d19_6 (z_istoreN X15 hx hby d19_7 l1 rfl (z_iloadN X15 hx hby d19_8 rfl (z_iloadN X15 hx hby d19_9 rfl (st19 _ (z_istoreN X19 hx hby d19_13 l2 rfl (z_aloadN X19 hx hby d19_14 rfl rfl (st17 _ (z_iloadN X17 hx hby d19_18 rfl (own_ial X17 hx hZ e17 Ar12 hin12 hat12 rfl rfl (hb hby d19_19) (z_iloadN X17 hx hby d19_20 rfl (z_icmpNo X17 hx hby d19_21 (feq hp33).1 (z_aloadN X17 hx hby d19_24 rfl rfl (st11 _ (z_iloadN X11 hx hby d19_28 rfl (own_ial X11 hx hZ e11 Ar13 hin13 hat13 rfl rfl (hb hby d19_29) (z_ifNo X11 hx hby d19_30 ((if0 _ _).trans (feq hp34).1) (z_iloadN X11 hx hby d19_33 rfl (z_iconst X11 hx hby d19_34 (z_iadd X11 hx hby d19_35 (z_iloadN X11 hx hby d19_36 rfl (z_iand X11 hx hby d19_37 (z_istoreN X11 hx hby d19_38 l3 rfl (z_goto X11 hx hby 14 d19_39 rfl (z_aloadN X11 hx hby d19_14 rfl rfl (st16 _ (z_iloadN X16 hx hby d19_18 rfl (own_ial X16 hx hZ e16 Ar14 hin14 hat14 rfl rfl (hb hby d19_19) (z_iloadN X16 hx hby d19_20 rfl (z_icmpYes X16 hx hby 42 d19_21 (teq hp36).1 rfl (z_iloadN X16 hx hby d19_42 rfl k))))))))))))))))))))))))))))))))))) ?_
 exact own_endI X16 hx Bd.notSynchronized Bd.returns (hb hby d19_43) (by decide) (by decide) ⟨rfl, rfl, e16⟩
def own_Q1433 (Z : State) (h0 : Heap) (a1434 : Addr) (a1435 : Addr) (a1436 : Addr) (c1439 : ClassId) (p1440 : Int32) (p1441 : Int32) (p1442 : Int32) (p1443 : Int32) (p1444 : Int32) (p1445 : Int32) (p1452 : Int32) (a1511 : Addr) (v : Option Value) (h : Heap) (L : List Loc) : Prop := v = none ∧ own_Kp h0 h [a1436, a1434] L ∧ Arh Z h a1436 c1439 .int 32 [((((oH (p1452 + 1)) + 1) &&& 31), (.int 0)), (p1440, (.int p1441)), (p1442, (.int p1443)), (p1444, (.int p1445))] [] (.int 0) ∧ Fld Z h a1434 own_s1 "slots" "[I" (.ref a1436) ∧ Fld Z h a1434 own_s1 "size" "I" (.int 2) ∧ Fld Z h a1434 own_s1 "indices" "[I" (.ref a1511)
set_option maxRecDepth 65536 in
set_option maxHeartbeats 40000000 in
theorem rm1433 (l : Launch) (Z : State) (a0 : Array Value) (hw : ∀ d ∈ tables_1, d.before a0 Z = true) (h0 : Heap) (a13 a15 a21 : Addr) (c29 : ClassId) (p24 p27 : Int32) (p25 p26 : Int32) (p28 p30 p11 : Int32) (a33 : Addr) (F31 : Fld Z h0 a13 own_s1 "slots" "[I" (.ref a21)) (H34 : Arh Z h0 a21 c29 .int 32 [(p24, (.int p27)), (p25, (.int p26)), (p28, (.int p30))] [] (.int 0)) (F39 : Fld Z h0 a15 own_s0 "id" "I" (.int p11)) (E40 : Exa Z h0 a15 own_s0) (hp41 : ¬ ((oH (p11 + 1)) = p24)) (hp42 : (oH (p11 + 1)) = p25) (hp43 : ¬ (p26 = (p11 + 1))) (hp44 : ¬ (p26 = 0)) (hp45 : (oN (oH (p11 + 1))) = p24) (hp46 : p27 = (p11 + 1)) (E36 : Exa Z h0 a13 own_s1) (F47 : Fld Z h0 a13 own_s1 "size" "I" (.int 3)) (ne32 : a13 ≠ a21) (hp48 : ¬ ((oN (oN (oH (p11 + 1)))) = p24)) (hp49 : ¬ ((oN (oN (oH (p11 + 1)))) = p25)) (hp50 : ¬ ((oN (oN (oH (p11 + 1)))) = p28)) (F51 : Fld Z h0 a13 own_s1 "indices" "[I" (.ref a33)) :
    own_Con l Z own_y2 prog_7_method_5_code 7 none ({ frames := 2, cells := 0, slots := 0, locals := 29 } : Room) #[(.ref a13), (.ref a15)] h0 (own_Q1433 Z h0 a13 a15 a21 c29 p24 p27 p25 p26 p28 p30 p11 a33) := by
 refine MetFree.of_bodySF (plainFor_of_name own_pn8) hisR ?_
 intro p e s m args below meth c s₁ Bd hml0 hP hK
 obtain ⟨rfl, hZ, hh⟩ := hP
 have hx := Bd.exec
 have hby := Bd.bytes
 have hml : c.maxLocals = 7 := hml0
 have hown : s.vm.findClass own_s1 = some m.cls := findClass_of_methodNamed Bd.named
 have hnm := (name_of_methodNamed Bd.named Bd.method).1
 have X0 : Stand p l e ({ frames := 2, cells := 0, slots := 0, locals := 29 } : Room) s m #[(.ref a13), (.ref a15)] below meth c s₁ [] 0 0 := Stand.of_body Bd
 have e0 : s₁.heap = h0 := by rw [← hh, Bd.state]; rfl
 have K0 : own_Kp h0 h0 [a21, a13] [] := own_kpRefl _ _
 show own_Go p e below (own_K s (own_Q1433 Z h0 a13 a15 a21 c29 p24 p27 p25 p26 p28 p30 p11 a33) 0 0) s₁ (entryFrame m #[(.ref a13), (.ref a15)] 7)
 rw [own_ef804]
 obtain ⟨T16, X16, e16, st16⟩ := own_gF X0 hx hZ hown hby (own_wd hw 148 rfl) e0 F31 d21_1 #[.val (.ref a13), .val (.ref a15), .unset, .unset, .unset, .unset, .unset] []
 obtain ⟨cl18, Ar18, q18, S18, N18, H18, G18⟩ := id H34
 let l1 : Array Slot := #[.val (.ref a13), .val (.ref a15), .val (.int 31), .unset, .unset, .unset, .unset]
 obtain ⟨_, T19, L19, X19, ⟨rfl, rfl, e19⟩, st19⟩ := own_cv X16 hx hZ hown (own_w475 hw) hml (g := (mkF m 10 l1 [(.ref a15), (.ref a13)])) (hb hby d21_10) e16 E40 [] [(.ref a13)] (lenOf own_pd5 rfl) (rm462 l Z a0 hw h0 a15 p11 F39)
 obtain ⟨_, T20, L20, X20, ⟨rfl, rfl, e20⟩, st20⟩ := own_cp X19 hx hZ hown (own_w499 hw) hml (g := (mkF m 15 l1 [(.int (p11 + 1)), (.ref a13)])) (hb hby d21_15) e19 E36 [(.int (p11 + 1))] [] (lenOf own_pd13 rfl) (rm1460 l Z a0 hw h0 a13 (p11 + 1) a21 c29 p24 p27 p25 p26 p28 p30 F31 H34 hp41 hp42 hp43 hp44 hp45 hp46)
 let l2 : Array Slot := #[.val (.ref a13), .val (.ref a15), .val (.int 31), .val (.int (oN (oH (p11 + 1)))), .unset, .unset, .unset]
 obtain ⟨T22, X22, e22, st22⟩ := own_gF X20 hx hZ hown hby (own_wd hw 148 rfl) e20 F31 d21_20 l2 []
 obtain ⟨cl10, Ar10, q10, S10, N10, H10, G10⟩ := id H34
 have hin10 := inb_of S10 ⟨(ar622 (oH (p11 + 1)) ), (ar623 (oH (p11 + 1)) )⟩
 obtain ⟨T10, h10, X10, e10, W10, st10⟩ := stI X22 hx hZ e22 Ar10 (j := (oN (oH (p11 + 1)))) hin10 (g := (mkF m 25 l2 [(.int 0), (.int (oN (oH (p11 + 1)))), (.ref a21)])) rfl rfl (hb hby d21_25)
 have V10 := Arh.push Ar10 q10 S10 N10 H10 G10 rfl W10 hin10
 have K10 := own_kpWr K0 W10 (Or.inl (List.mem_of_getElem? (i := 0) rfl))
 have z_W10 := Nat.le_of_eq W10.size.symm
 have F35 := (Fld.other W10 F47 (Or.inl ne32))
 obtain ⟨T23, X23, e23, st23⟩ := own_gF X10 hx hZ hown hby (own_wd hw 157 rfl) e10 F35 d21_28 l2 [(.ref a13)]
 have E52 := (Exa.wr W10 E36)
 obtain ⟨T12, h12, X12, e12, W12, st12⟩ := putF X23 hx hZ hown (host := "") (Or.inl (own_wd hw 157 rfl)) Via.refl e23 F35 E52 (Or.inl (own_wd hw 158 rfl)) (own_wd hw 141 rfl) (ty := .int) (by decide) rfl rfl (g := (mkF m 33 l2 [(.int 2), (.ref a13)])) rfl rfl (hb hby d21_33)
 have F12 := Fld.same W12 F35
 have K12 := own_kpWr K10 W12 (Or.inl (List.mem_of_getElem? (i := 1) rfl))
 have z_W12 := Nat.le_of_eq W12.size.symm
 have F37 := (Fld.other W12 (Fld.other W10 F31 (Or.inl ne32)) (Or.inr (slot_ne (Or.inl (own_wd hw 149 rfl)) (Or.inl (own_wd hw 158 rfl)) (by decide) (t := (.array .int)) (t' := .int) (by decide) (by decide))))
 let l3 : Array Slot := #[.val (.ref a13), .val (.ref a15), .val (.int 31), .val (.int (oN (oH (p11 + 1)))), .val (.int (oN (oN (oH (p11 + 1))))), .unset, .unset]
 obtain ⟨T17, X17, e17, st17⟩ := own_gF X12 hx hZ hown hby (own_wd hw 148 rfl) e12 F37 d21_44 l3 []
 have H38 := (Arh.other V10 W12 (Ne.symm ne32))
 obtain ⟨cl14, Ar14, q14, S14, N14, H14, G14⟩ := id H38
 have hin14 := inb_of S14 ⟨(ar898 (oH (p11 + 1)) ), (ar899 (oH (p11 + 1)) )⟩
 have hat14 := atH H14 hin14 (getH_miss (ar898 (oH (p11 + 1)) ) (ar798 (oH (p11 + 1)) ) (getH_miss (ar898 (oH (p11 + 1)) ) hp48 (getH_miss (ar898 (oH (p11 + 1)) ) hp49 (getH_miss (ar898 (oH (p11 + 1)) ) hp50 (getH_all rfl _)))))
 have F53 := (Fld.other W12 (Fld.other W10 F51 (Or.inl ne32)) (Or.inr (slot_ne (Or.inl (own_wd hw 151 rfl)) (Or.inl (own_wd hw 158 rfl)) (by decide) (t := (.array .int)) (t' := .int) (by decide) (by decide))))
 refine own_go (T2 := T17) (g2 := (mkF m 142 l3 [])) (fun t k => z_aloadN X0 hx hby d21_0 rfl rfl (st16 _ (own_alen X16 hx hZ e16 Ar18 S18 N18 rfl rfl (hb hby d21_4) (z_iconst X16 hx hby d21_5 (z_isub X16 hx hby d21_6 (z_istoreN X16 hx hby d21_7 l1 rfl (z_aloadN X16 hx hby d21_8 rfl rfl (z_aloadN X16 hx hby d21_9 rfl rfl (st19 _ (z_iconst X19 hx hby d21_13 (z_iadd X19 hx hby d21_14 (st20 _ (z_istoreN X20 hx hby d21_18 l2 rfl (z_aloadN X20 hx hby d21_19 rfl rfl (st22 _ (z_iloadN X22 hx hby d21_23 rfl (z_iconst X22 hx hby d21_24 (st10 _ (z_aloadN X10 hx hby d21_26 rfl rfl (z_dup X10 hx hby d21_27 rfl (st23 _ (z_iconst X23 hx hby d21_31 (z_isub X23 hx hby d21_32 (st12 _ (z_iloadN X12 hx hby d21_36 rfl (z_iconst X12 hx hby d21_37 (z_iadd X12 hx hby d21_38 (z_iloadN X12 hx hby d21_39 rfl (z_iand X12 hx hby d21_40 (z_istore X12 hx hby d21_41 l3 rfl (z_aloadN X12 hx hby d21_43 rfl rfl (st17 _ (z_iload X17 hx hby d21_47 rfl (own_ial X17 hx hZ e17 Ar14 hin14 hat14 rfl rfl (hb hby d21_49) (z_ifYes X17 hx hby 142 d21_50 ((if0 _ _).trans (teq (show (0 : Int32) = 0 from (by decide))).1) rfl k))))))))))))))))))))))))))))))))))) ?_
 exact own_endV X17 hx Bd.notSynchronized Bd.returns (hb hby d21_142) (by decide) (by decide) (by rw [e17]; exact ⟨rfl, (by simpa only [List.append_nil] using K12), H38, F37, F12, F53⟩)
theorem cn1518 (x0 x1 x2 : Int32) (v0 v1 v2 : Value) (h0 : ¬ (x0 = x1)) (h1 : ¬ (x0 = x2)) (h2 : ¬ (x1 = x2)) : ∀ i : Nat, getH [(x0, .int 0), (x0, v0), (x1, v1), (x2, v2)] [] (.int 0) i = getH [(x2, v2), (x1, v1)] [] (.int 0) i := by
  intro i
  have g0 := mt Int32.toInt_inj.mp h0
  have g1 := mt Int32.toInt_inj.mp h1
  have g2 := mt Int32.toInt_inj.mp h2
  simp only [getH]
  repeat' split
  all_goals first | rfl | (exfalso; omega)
set_option maxRecDepth 65536 in
set_option maxHeartbeats 40000000 in
theorem rm1536 (l : Launch) (Z : State) (a0 : Array Value) (hw : ∀ d ∈ tables_1, d.before a0 Z = true) (h0 : Heap) (a13 a16 : Addr) (p10 : Int32) (a22 : Addr) (c25 : ClassId) (p19 p20 : Int32) (p23 p26 : Int32) (a27 : Addr) (c30 : ClassId) (p21 p31 : Int32) (p32 p33 : Int32) (F34 : Fld Z h0 a16 own_s0 "id" "I" (.int p10)) (E35 : Exa Z h0 a16 own_s0) (F28 : Fld Z h0 a13 own_s1 "slots" "[I" (.ref a22)) (H29 : Arh Z h0 a22 c25 .int 32 [(p19, (.int p20)), (p23, (.int p26))] [] (.int 0)) (hp24 : (oH (p10 + 1)) = p19) (hp36 : p20 = (p10 + 1)) (E37 : Exa Z h0 a13 own_s1) (hp38 : ¬ (p20 = 0)) (F39 : Fld Z h0 a13 own_s1 "indices" "[I" (.ref a27)) (H40 : Arh Z h0 a27 c30 .int 32 [(p19, (.int p21)), (p23, (.int p31)), (p32, (.int p33))] [] (.int 0)) :
    own_Con l Z own_y0 prog_7_method_2_code 3 (some .int) ({ frames := 2, cells := 0, slots := 0, locals := 29 } : Room) #[(.ref a13), (.ref a16)] h0 (own_QP (some (.int p21)) h0) := by
 refine MetFree.of_bodySF (plainFor_of_name own_pn8) hisR ?_
 intro p e s m args below meth c s₁ Bd hml0 hP hK
 obtain ⟨rfl, hZ, hh⟩ := hP
 have hx := Bd.exec
 have hby := Bd.bytes
 have hml : c.maxLocals = 3 := hml0
 have hown : s.vm.findClass own_s1 = some m.cls := findClass_of_methodNamed Bd.named
 have hnm := (name_of_methodNamed Bd.named Bd.method).1
 have X0 : Stand p l e ({ frames := 2, cells := 0, slots := 0, locals := 29 } : Room) s m #[(.ref a13), (.ref a16)] below meth c s₁ [] 0 0 := Stand.of_body Bd
 have e0 : s₁.heap = h0 := by rw [← hh, Bd.state]; rfl
 have K0 : own_Kp h0 h0 [] [] := own_kpRefl _ _
 show own_Go p e below (own_K s (own_QP (some (.int p21)) h0) 0 0) s₁ (entryFrame m #[(.ref a13), (.ref a16)] 3)
 rw [own_ef950]
 let l1 : Array Slot := #[.val (.ref a13), .val (.ref a16), .unset]
 obtain ⟨_, T17, L17, X17, ⟨rfl, rfl, e17⟩, st17⟩ := own_cv X0 hx hZ hown (own_w475 hw) hml (g := (mkF m 2 l1 [(.ref a16), (.ref a13)])) (hb hby d22_2) e0 E35 [] [(.ref a13)] (lenOf own_pd5 rfl) (rm462 l Z a0 hw h0 a16 p10 F34)
 obtain ⟨_, T18, L18, X18, ⟨rfl, rfl, e18⟩, st18⟩ := own_cp X17 hx hZ hown (own_w499 hw) hml (g := (mkF m 7 l1 [(.int (p10 + 1)), (.ref a13)])) (hb hby d22_7) e17 E37 [(.int (p10 + 1))] [] (lenOf own_pd13 rfl) (rm1116 l Z a0 hw h0 a13 (p10 + 1) a22 c25 p19 p20 p23 p26 F28 H29 hp24 hp36)
 let l2 : Array Slot := #[.val (.ref a13), .val (.ref a16), .val (.int (oH (p10 + 1)))]
 obtain ⟨T14, X14, e14, st14⟩ := own_gF X18 hx hZ hown hby (own_wd hw 148 rfl) e18 F28 d22_12 l2 []
 obtain ⟨cl11, Ar11, q11, S11, N11, H11, G11⟩ := id H29
 have hin11 := inb_of S11 ⟨(own_hlo (p10 + 1)), (own_hhi (p10 + 1))⟩
 have hat11 := atH H11 hin11 (getH_hit (own_hlo (p10 + 1)) hp24)
 obtain ⟨T15, X15, e15, st15⟩ := own_gF X14 hx hZ hown hby (own_wd hw 150 rfl) e14 F39 d22_25 l2 []
 obtain ⟨cl12, Ar12, q12, S12, N12, H12, G12⟩ := id H40
 have hin12 := inb_of S12 ⟨(own_hlo (p10 + 1)), (own_hhi (p10 + 1))⟩
 have hat12 := atH H12 hin12 (getH_hit (own_hlo (p10 + 1)) hp24)
 refine own_go (T2 := T15) (g2 := (mkF m 30 l2 [(.int p21)])) (fun t k => z_aloadN X0 hx hby d22_0 rfl rfl (z_aloadN X0 hx hby d22_1 rfl rfl (st17 _ (z_iconst X17 hx hby d22_5 (z_iadd X17 hx hby d22_6 (st18 _ (z_istoreN X18 hx hby d22_10 l2 rfl (z_aloadN X18 hx hby d22_11 rfl rfl (st14 _ (z_iloadN X14 hx hby d22_15 rfl (own_ial X14 hx hZ e14 Ar11 hin11 hat11 rfl rfl (hb hby d22_16) (z_ifYes X14 hx hby 24 d22_17 ((if0 _ _).trans (feq hp38).2) rfl (z_aloadN X14 hx hby d22_24 rfl rfl (st15 _ (z_iloadN X15 hx hby d22_28 rfl (own_ial X15 hx hZ e15 Ar12 hin12 hat12 rfl rfl (hb hby d22_29) k)))))))))))))))) ?_
 exact own_endI X15 hx Bd.notSynchronized Bd.returns (hb hby d22_30) (by decide) (by decide) ⟨rfl, rfl, e15⟩
set_option maxRecDepth 65536 in
set_option maxHeartbeats 40000000 in
theorem rm1734 (l : Launch) (Z : State) (a0 : Array Value) (hw : ∀ d ∈ tables_1, d.before a0 Z = true) (h0 : Heap) (a20 : Addr) (p10 : Int32) (a26 : Addr) (c29 : ClassId) (p23 p24 : Int32) (p27 p28 : Int32) (F21 : Fld Z h0 a20 own_s1 "slots" "[I" (.ref a26)) (H22 : Arh Z h0 a26 c29 .int 32 [(p23, (.int p24)), (p27, (.int p28))] [] (.int 0)) (hp25 : (oH p10) = p23) (hp30 : ¬ (p24 = p10)) (hp31 : ¬ (p24 = 0)) (hp32 : (oN (oH p10)) = p27) (hp33 : p28 = p10) :
    own_Con l Z own_y1 prog_7_method_6_code 4 (some .int) ({ frames := 1, cells := 0, slots := 0, locals := 14 } : Room) #[(.ref a20), (.int p10)] h0 (own_QP (some (.int (oN (oH p10)))) h0) := by
 refine MetFree.of_bodySF (plainFor_of_name own_pn8) hisR ?_
 intro p e s m args below meth c s₁ Bd hml0 hP hK
 obtain ⟨rfl, hZ, hh⟩ := hP
 have hx := Bd.exec
 have hby := Bd.bytes
 have hml : c.maxLocals = 4 := hml0
 have hown : s.vm.findClass own_s1 = some m.cls := findClass_of_methodNamed Bd.named
 have hnm := (name_of_methodNamed Bd.named Bd.method).1
 have X0 : Stand p l e ({ frames := 1, cells := 0, slots := 0, locals := 14 } : Room) s m #[(.ref a20), (.int p10)] below meth c s₁ [] 0 0 := Stand.of_body Bd
 have e0 : s₁.heap = h0 := by rw [← hh, Bd.state]; rfl
 have K0 : own_Kp h0 h0 [] [] := own_kpRefl _ _
 show own_Go p e below (own_K s (own_QP (some (.int (oN (oH p10)))) h0) 0 0) s₁ (entryFrame m #[(.ref a20), (.int p10)] 4)
 rw [own_ef477]
 obtain ⟨T15, X15, e15, st15⟩ := own_gF X0 hx hZ hown hby (own_wd hw 148 rfl) e0 F21 d19_1 #[.val (.ref a20), .val (.int p10), .unset, .unset] []
 obtain ⟨cl18, Ar18, q18, S18, N18, H18, G18⟩ := id H22
 let l1 : Array Slot := #[.val (.ref a20), .val (.int p10), .val (.int 31), .unset]
 obtain ⟨_, T19, L19, X19, ⟨rfl, rfl, e19⟩, st19⟩ := own_cs X15 hx hZ hown (own_w489 hw) hml (g := (mkF m 10 l1 [(.int 31), (.int p10)])) (hb hby d19_10) e15 [(.int p10), (.int 31)] [] (lenOf own_pd12 rfl) (rm487 l Z a0 hw h0 p10 )
 let l2 : Array Slot := #[.val (.ref a20), .val (.int p10), .val (.int 31), .val (.int (oH p10))]
 obtain ⟨T17, X17, e17, st17⟩ := own_gF X19 hx hZ hown hby (own_wd hw 148 rfl) e19 F21 d19_15 l2 []
 obtain ⟨cl12, Ar12, q12, S12, N12, H12, G12⟩ := id H22
 have hin12 := inb_of S12 ⟨(own_hlo p10), (own_hhi p10)⟩
 have hat12 := atH H12 hin12 (getH_hit (own_hlo p10) hp25)
 obtain ⟨T11, X11, e11, st11⟩ := own_gF X17 hx hZ hown hby (own_wd hw 148 rfl) e17 F21 d19_25 l2 []
 obtain ⟨cl13, Ar13, q13, S13, N13, H13, G13⟩ := id H22
 have hin13 := inb_of S13 ⟨(own_hlo p10), (own_hhi p10)⟩
 have hat13 := atH H13 hin13 (getH_hit (own_hlo p10) hp25)
 let l3 : Array Slot := #[.val (.ref a20), .val (.int p10), .val (.int 31), .val (.int (oN (oH p10)))]
 obtain ⟨T16, X16, e16, st16⟩ := own_gF X11 hx hZ hown hby (own_wd hw 148 rfl) e11 F21 d19_15 l3 []
 obtain ⟨cl14, Ar14, q14, S14, N14, H14, G14⟩ := id H22
 have hin14 := inb_of S14 ⟨(ar622 (oH p10) ), (ar623 (oH p10) )⟩
 have hat14 := atH H14 hin14 (getH_miss (ar622 (oH p10) ) (ar624 (oH p10) p23 hp25) (getH_hit (ar622 (oH p10) ) hp32))
 refine own_go (T2 := T16) (g2 := (mkF m 43 l3 [(.int (oN (oH p10)))])) (fun t k => z_aloadN X0 hx hby d19_0 rfl rfl (st15 _ (own_alen X15 hx hZ e15 Ar18 S18 N18 rfl rfl (hb hby d19_4) (z_iconst X15 hx hby d19_5 (z_isub X15 hx hby d19_6 (z_istoreN X15 hx hby d19_7 l1 rfl (z_iloadN X15 hx hby d19_8 rfl (z_iloadN X15 hx hby d19_9 rfl (st19 _ (z_istoreN X19 hx hby d19_13 l2 rfl (z_aloadN X19 hx hby d19_14 rfl rfl (st17 _ (z_iloadN X17 hx hby d19_18 rfl (own_ial X17 hx hZ e17 Ar12 hin12 hat12 rfl rfl (hb hby d19_19) (z_iloadN X17 hx hby d19_20 rfl (z_icmpNo X17 hx hby d19_21 (feq hp30).1 (z_aloadN X17 hx hby d19_24 rfl rfl (st11 _ (z_iloadN X11 hx hby d19_28 rfl (own_ial X11 hx hZ e11 Ar13 hin13 hat13 rfl rfl (hb hby d19_29) (z_ifNo X11 hx hby d19_30 ((if0 _ _).trans (feq hp31).1) (z_iloadN X11 hx hby d19_33 rfl (z_iconst X11 hx hby d19_34 (z_iadd X11 hx hby d19_35 (z_iloadN X11 hx hby d19_36 rfl (z_iand X11 hx hby d19_37 (z_istoreN X11 hx hby d19_38 l3 rfl (z_goto X11 hx hby 14 d19_39 rfl (z_aloadN X11 hx hby d19_14 rfl rfl (st16 _ (z_iloadN X16 hx hby d19_18 rfl (own_ial X16 hx hZ e16 Ar14 hin14 hat14 rfl rfl (hb hby d19_19) (z_iloadN X16 hx hby d19_20 rfl (z_icmpYes X16 hx hby 42 d19_21 (teq hp33).1 rfl (z_iloadN X16 hx hby d19_42 rfl k))))))))))))))))))))))))))))))))))) ?_
 exact own_endI X16 hx Bd.notSynchronized Bd.returns (hb hby d19_43) (by decide) (by decide) ⟨rfl, rfl, e16⟩
set_option maxRecDepth 65536 in
set_option maxHeartbeats 40000000 in
theorem rm1638 (l : Launch) (Z : State) (a0 : Array Value) (hw : ∀ d ∈ tables_1, d.before a0 Z = true) (h0 : Heap) (a13 a16 : Addr) (p10 : Int32) (a24 : Addr) (c26 : ClassId) (p19 p20 : Int32) (p21 p22 : Int32) (a27 : Addr) (c31 : ClassId) (p32 p23 : Int32) (p33 p34 : Int32) (F35 : Fld Z h0 a16 own_s0 "id" "I" (.int p10)) (E36 : Exa Z h0 a16 own_s0) (F28 : Fld Z h0 a13 own_s1 "slots" "[I" (.ref a24)) (H29 : Arh Z h0 a24 c26 .int 32 [(p19, (.int p20)), (p21, (.int p22))] [] (.int 0)) (hp37 : (oH (p10 + 1)) = p19) (hp38 : ¬ (p20 = (p10 + 1))) (hp39 : ¬ (p20 = 0)) (hp25 : (oN (oH (p10 + 1))) = p21) (hp40 : p22 = (p10 + 1)) (E41 : Exa Z h0 a13 own_s1) (hp30 : ¬ ((oN (oH (p10 + 1))) = p19)) (hp42 : ¬ (p22 = 0)) (F43 : Fld Z h0 a13 own_s1 "indices" "[I" (.ref a27)) (H44 : Arh Z h0 a27 c31 .int 32 [(p19, (.int p32)), (p21, (.int p23)), (p33, (.int p34))] [] (.int 0)) :
    own_Con l Z own_y0 prog_7_method_2_code 3 (some .int) ({ frames := 2, cells := 0, slots := 0, locals := 29 } : Room) #[(.ref a13), (.ref a16)] h0 (own_QP (some (.int p23)) h0) := by
 refine MetFree.of_bodySF (plainFor_of_name own_pn8) hisR ?_
 intro p e s m args below meth c s₁ Bd hml0 hP hK
 obtain ⟨rfl, hZ, hh⟩ := hP
 have hx := Bd.exec
 have hby := Bd.bytes
 have hml : c.maxLocals = 3 := hml0
 have hown : s.vm.findClass own_s1 = some m.cls := findClass_of_methodNamed Bd.named
 have hnm := (name_of_methodNamed Bd.named Bd.method).1
 have X0 : Stand p l e ({ frames := 2, cells := 0, slots := 0, locals := 29 } : Room) s m #[(.ref a13), (.ref a16)] below meth c s₁ [] 0 0 := Stand.of_body Bd
 have e0 : s₁.heap = h0 := by rw [← hh, Bd.state]; rfl
 have K0 : own_Kp h0 h0 [] [] := own_kpRefl _ _
 show own_Go p e below (own_K s (own_QP (some (.int p23)) h0) 0 0) s₁ (entryFrame m #[(.ref a13), (.ref a16)] 3)
 rw [own_ef950]
 let l1 : Array Slot := #[.val (.ref a13), .val (.ref a16), .unset]
 obtain ⟨_, T17, L17, X17, ⟨rfl, rfl, e17⟩, st17⟩ := own_cv X0 hx hZ hown (own_w475 hw) hml (g := (mkF m 2 l1 [(.ref a16), (.ref a13)])) (hb hby d22_2) e0 E36 [] [(.ref a13)] (lenOf own_pd5 rfl) (rm462 l Z a0 hw h0 a16 p10 F35)
 obtain ⟨_, T18, L18, X18, ⟨rfl, rfl, e18⟩, st18⟩ := own_cp X17 hx hZ hown (own_w499 hw) hml (g := (mkF m 7 l1 [(.int (p10 + 1)), (.ref a13)])) (hb hby d22_7) e17 E41 [(.int (p10 + 1))] [] (lenOf own_pd13 rfl) (rm1734 l Z a0 hw h0 a13 (p10 + 1) a24 c26 p19 p20 p21 p22 F28 H29 hp37 hp38 hp39 hp25 hp40)
 let l2 : Array Slot := #[.val (.ref a13), .val (.ref a16), .val (.int (oN (oH (p10 + 1))))]
 obtain ⟨T14, X14, e14, st14⟩ := own_gF X18 hx hZ hown hby (own_wd hw 148 rfl) e18 F28 d22_12 l2 []
 obtain ⟨cl11, Ar11, q11, S11, N11, H11, G11⟩ := id H29
 have hin11 := inb_of S11 ⟨(ar622 (oH (p10 + 1)) ), (ar623 (oH (p10 + 1)) )⟩
 have hat11 := atH H11 hin11 (getH_miss (ar622 (oH (p10 + 1)) ) hp30 (getH_hit (ar622 (oH (p10 + 1)) ) hp25))
 obtain ⟨T15, X15, e15, st15⟩ := own_gF X14 hx hZ hown hby (own_wd hw 150 rfl) e14 F43 d22_25 l2 []
 obtain ⟨cl12, Ar12, q12, S12, N12, H12, G12⟩ := id H44
 have hin12 := inb_of S12 ⟨(ar622 (oH (p10 + 1)) ), (ar623 (oH (p10 + 1)) )⟩
 have hat12 := atH H12 hin12 (getH_miss (ar622 (oH (p10 + 1)) ) hp30 (getH_hit (ar622 (oH (p10 + 1)) ) hp25))
 refine own_go (T2 := T15) (g2 := (mkF m 30 l2 [(.int p23)])) (fun t k => z_aloadN X0 hx hby d22_0 rfl rfl (z_aloadN X0 hx hby d22_1 rfl rfl (st17 _ (z_iconst X17 hx hby d22_5 (z_iadd X17 hx hby d22_6 (st18 _ (z_istoreN X18 hx hby d22_10 l2 rfl (z_aloadN X18 hx hby d22_11 rfl rfl (st14 _ (z_iloadN X14 hx hby d22_15 rfl (own_ial X14 hx hZ e14 Ar11 hin11 hat11 rfl rfl (hb hby d22_16) (z_ifYes X14 hx hby 24 d22_17 ((if0 _ _).trans (feq hp42).2) rfl (z_aloadN X14 hx hby d22_24 rfl rfl (st15 _ (z_iloadN X15 hx hby d22_28 rfl (own_ial X15 hx hZ e15 Ar12 hin12 hat12 rfl rfl (hb hby d22_29) k)))))))))))))))) ?_
 exact own_endI X15 hx Bd.notSynchronized Bd.returns (hb hby d22_30) (by decide) (by decide) ⟨rfl, rfl, e15⟩
set_option maxRecDepth 65536 in
set_option maxHeartbeats 40000000 in
theorem rm1897 (l : Launch) (Z : State) (a0 : Array Value) (hw : ∀ d ∈ tables_1, d.before a0 Z = true) (h0 : Heap) (a22 : Addr) (p10 : Int32) (a29 : Addr) (c32 : ClassId) (p27 p33 : Int32) (p25 p28 : Int32) (F23 : Fld Z h0 a22 own_s1 "slots" "[I" (.ref a29)) (H24 : Arh Z h0 a29 c32 .int 32 [(p27, (.int p33)), (p25, (.int p28))] [] (.int 0)) (hp30 : ¬ ((oH p10) = p27)) (hp26 : (oH p10) = p25) (hp34 : ¬ (p28 = p10)) (hp35 : ¬ (p28 = 0)) (hp31 : ¬ ((oN (oH p10)) = p27)) (hp36 : ¬ ((0 : Int32) = p10)) :
    own_Con l Z own_y1 prog_7_method_6_code 4 (some .int) ({ frames := 1, cells := 0, slots := 0, locals := 14 } : Room) #[(.ref a22), (.int p10)] h0 (own_QP (some (.int (oN (oH p10)))) h0) := by
 refine MetFree.of_bodySF (plainFor_of_name own_pn8) hisR ?_
 intro p e s m args below meth c s₁ Bd hml0 hP hK
 obtain ⟨rfl, hZ, hh⟩ := hP
 have hx := Bd.exec
 have hby := Bd.bytes
 have hml : c.maxLocals = 4 := hml0
 have hown : s.vm.findClass own_s1 = some m.cls := findClass_of_methodNamed Bd.named
 have hnm := (name_of_methodNamed Bd.named Bd.method).1
 have X0 : Stand p l e ({ frames := 1, cells := 0, slots := 0, locals := 14 } : Room) s m #[(.ref a22), (.int p10)] below meth c s₁ [] 0 0 := Stand.of_body Bd
 have e0 : s₁.heap = h0 := by rw [← hh, Bd.state]; rfl
 have K0 : own_Kp h0 h0 [] [] := own_kpRefl _ _
 show own_Go p e below (own_K s (own_QP (some (.int (oN (oH p10)))) h0) 0 0) s₁ (entryFrame m #[(.ref a22), (.int p10)] 4)
 rw [own_ef477]
 obtain ⟨T16, X16, e16, st16⟩ := own_gF X0 hx hZ hown hby (own_wd hw 148 rfl) e0 F23 d19_1 #[.val (.ref a22), .val (.int p10), .unset, .unset] []
 obtain ⟨cl20, Ar20, q20, S20, N20, H20, G20⟩ := id H24
 let l1 : Array Slot := #[.val (.ref a22), .val (.int p10), .val (.int 31), .unset]
 obtain ⟨_, T21, L21, X21, ⟨rfl, rfl, e21⟩, st21⟩ := own_cs X16 hx hZ hown (own_w489 hw) hml (g := (mkF m 10 l1 [(.int 31), (.int p10)])) (hb hby d19_10) e16 [(.int p10), (.int 31)] [] (lenOf own_pd12 rfl) (rm487 l Z a0 hw h0 p10 )
 let l2 : Array Slot := #[.val (.ref a22), .val (.int p10), .val (.int 31), .val (.int (oH p10))]
 obtain ⟨T17, X17, e17, st17⟩ := own_gF X21 hx hZ hown hby (own_wd hw 148 rfl) e21 F23 d19_15 l2 []
 obtain ⟨cl12, Ar12, q12, S12, N12, H12, G12⟩ := id H24
 have hin12 := inb_of S12 ⟨(own_hlo p10), (own_hhi p10)⟩
 have hat12 := atH H12 hin12 (getH_miss (own_hlo p10) hp30 (getH_hit (own_hlo p10) hp26))
 obtain ⟨T11, X11, e11, st11⟩ := own_gF X17 hx hZ hown hby (own_wd hw 148 rfl) e17 F23 d19_25 l2 []
 obtain ⟨cl13, Ar13, q13, S13, N13, H13, G13⟩ := id H24
 have hin13 := inb_of S13 ⟨(own_hlo p10), (own_hhi p10)⟩
 have hat13 := atH H13 hin13 (getH_miss (own_hlo p10) hp30 (getH_hit (own_hlo p10) hp26))
 let l3 : Array Slot := #[.val (.ref a22), .val (.int p10), .val (.int 31), .val (.int (oN (oH p10)))]
 obtain ⟨T18, X18, e18, st18⟩ := own_gF X11 hx hZ hown hby (own_wd hw 148 rfl) e11 F23 d19_15 l3 []
 obtain ⟨cl14, Ar14, q14, S14, N14, H14, G14⟩ := id H24
 have hin14 := inb_of S14 ⟨(ar622 (oH p10) ), (ar623 (oH p10) )⟩
 have hat14 := atH H14 hin14 (getH_miss (ar622 (oH p10) ) hp31 (getH_miss (ar622 (oH p10) ) (ar624 (oH p10) p25 hp26) (getH_all rfl _)))
 obtain ⟨T19, X19, e19, st19⟩ := own_gF X18 hx hZ hown hby (own_wd hw 148 rfl) e18 F23 d19_25 l3 []
 obtain ⟨cl15, Ar15, q15, S15, N15, H15, G15⟩ := id H24
 have hin15 := inb_of S15 ⟨(ar622 (oH p10) ), (ar623 (oH p10) )⟩
 have hat15 := atH H15 hin15 (getH_miss (ar622 (oH p10) ) hp31 (getH_miss (ar622 (oH p10) ) (ar624 (oH p10) p25 hp26) (getH_all rfl _)))
 refine own_go (T2 := T19) (g2 := (mkF m 43 l3 [(.int (oN (oH p10)))])) (fun t k => z_aloadN X0 hx hby d19_0 rfl rfl (st16 _ (own_alen X16 hx hZ e16 Ar20 S20 N20 rfl rfl (hb hby d19_4) (z_iconst X16 hx hby d19_5 (z_isub X16 hx hby d19_6 (z_istoreN X16 hx hby d19_7 l1 rfl (z_iloadN X16 hx hby d19_8 rfl (z_iloadN X16 hx hby d19_9 rfl (st21 _ (z_istoreN X21 hx hby d19_13 l2 rfl (z_aloadN X21 hx hby d19_14 rfl rfl (st17 _ (z_iloadN X17 hx hby d19_18 rfl (own_ial X17 hx hZ e17 Ar12 hin12 hat12 rfl rfl (hb hby d19_19) (z_iloadN X17 hx hby d19_20 rfl (z_icmpNo X17 hx hby d19_21 (feq hp34).1 (z_aloadN X17 hx hby d19_24 rfl rfl (st11 _ (z_iloadN X11 hx hby d19_28 rfl (own_ial X11 hx hZ e11 Ar13 hin13 hat13 rfl rfl (hb hby d19_29) (z_ifNo X11 hx hby d19_30 ((if0 _ _).trans (feq hp35).1) (z_iloadN X11 hx hby d19_33 rfl (z_iconst X11 hx hby d19_34 (z_iadd X11 hx hby d19_35 (z_iloadN X11 hx hby d19_36 rfl (z_iand X11 hx hby d19_37 (z_istoreN X11 hx hby d19_38 l3 rfl (z_goto X11 hx hby 14 d19_39 rfl (z_aloadN X11 hx hby d19_14 rfl rfl (st18 _ (z_iloadN X18 hx hby d19_18 rfl (own_ial X18 hx hZ e18 Ar14 hin14 hat14 rfl rfl (hb hby d19_19) (z_iloadN X18 hx hby d19_20 rfl (z_icmpNo X18 hx hby d19_21 (feq hp36).1 (z_aloadN X18 hx hby d19_24 rfl rfl (st19 _ (z_iloadN X19 hx hby d19_28 rfl (own_ial X19 hx hZ e19 Ar15 hin15 hat15 rfl rfl (hb hby d19_29) (z_ifYes X19 hx hby 42 d19_30 ((if0 _ _).trans (teq (show (0 : Int32) = 0 from (by decide))).1) rfl (z_iloadN X19 hx hby d19_42 rfl k)))))))))))))))))))))))))))))))))))))))) ?_
 exact own_endI X19 hx Bd.notSynchronized Bd.returns (hb hby d19_43) (by decide) (by decide) ⟨rfl, rfl, e19⟩
set_option maxRecDepth 65536 in
set_option maxHeartbeats 40000000 in
theorem rm1798 (l : Launch) (Z : State) (a0 : Array Value) (hw : ∀ d ∈ tables_1, d.before a0 Z = true) (h0 : Heap) (a13 a14 : Addr) (p10 : Int32) (a20 : Addr) (c21 : ClassId) (p17 p22 : Int32) (p18 p19 : Int32) (F27 : Fld Z h0 a14 own_s0 "id" "I" (.int p10)) (E28 : Exa Z h0 a14 own_s0) (F23 : Fld Z h0 a13 own_s1 "slots" "[I" (.ref a20)) (H24 : Arh Z h0 a20 c21 .int 32 [(p17, (.int p22)), (p18, (.int p19))] [] (.int 0)) (hp29 : ¬ ((oH (p10 + 1)) = p17)) (hp25 : (oH (p10 + 1)) = p18) (hp30 : ¬ (p19 = (p10 + 1))) (hp31 : ¬ (p19 = 0)) (hp26 : ¬ ((oN (oH (p10 + 1))) = p17)) (hp32 : ¬ ((0 : Int32) = (p10 + 1))) (E33 : Exa Z h0 a13 own_s1) :
    own_Con l Z own_y0 prog_7_method_2_code 3 (some .int) ({ frames := 2, cells := 0, slots := 0, locals := 29 } : Room) #[(.ref a13), (.ref a14)] h0 (own_QP (some (.int (-1))) h0) := by
 refine MetFree.of_bodySF (plainFor_of_name own_pn8) hisR ?_
 intro p e s m args below meth c s₁ Bd hml0 hP hK
 obtain ⟨rfl, hZ, hh⟩ := hP
 have hx := Bd.exec
 have hby := Bd.bytes
 have hml : c.maxLocals = 3 := hml0
 have hown : s.vm.findClass own_s1 = some m.cls := findClass_of_methodNamed Bd.named
 have hnm := (name_of_methodNamed Bd.named Bd.method).1
 have X0 : Stand p l e ({ frames := 2, cells := 0, slots := 0, locals := 29 } : Room) s m #[(.ref a13), (.ref a14)] below meth c s₁ [] 0 0 := Stand.of_body Bd
 have e0 : s₁.heap = h0 := by rw [← hh, Bd.state]; rfl
 have K0 : own_Kp h0 h0 [] [] := own_kpRefl _ _
 show own_Go p e below (own_K s (own_QP (some (.int (-1))) h0) 0 0) s₁ (entryFrame m #[(.ref a13), (.ref a14)] 3)
 rw [own_ef950]
 let l1 : Array Slot := #[.val (.ref a13), .val (.ref a14), .unset]
 obtain ⟨_, T15, L15, X15, ⟨rfl, rfl, e15⟩, st15⟩ := own_cv X0 hx hZ hown (own_w475 hw) hml (g := (mkF m 2 l1 [(.ref a14), (.ref a13)])) (hb hby d22_2) e0 E28 [] [(.ref a13)] (lenOf own_pd5 rfl) (rm462 l Z a0 hw h0 a14 p10 F27)
 obtain ⟨_, T16, L16, X16, ⟨rfl, rfl, e16⟩, st16⟩ := own_cp X15 hx hZ hown (own_w499 hw) hml (g := (mkF m 7 l1 [(.int (p10 + 1)), (.ref a13)])) (hb hby d22_7) e15 E33 [(.int (p10 + 1))] [] (lenOf own_pd13 rfl) (rm1897 l Z a0 hw h0 a13 (p10 + 1) a20 c21 p17 p22 p18 p19 F23 H24 hp29 hp25 hp30 hp31 hp26 hp32)
 let l2 : Array Slot := #[.val (.ref a13), .val (.ref a14), .val (.int (oN (oH (p10 + 1))))]
 obtain ⟨T12, X12, e12, st12⟩ := own_gF X16 hx hZ hown hby (own_wd hw 148 rfl) e16 F23 d22_12 l2 []
 obtain ⟨cl11, Ar11, q11, S11, N11, H11, G11⟩ := id H24
 have hin11 := inb_of S11 ⟨(ar622 (oH (p10 + 1)) ), (ar623 (oH (p10 + 1)) )⟩
 have hat11 := atH H11 hin11 (getH_miss (ar622 (oH (p10 + 1)) ) hp26 (getH_miss (ar622 (oH (p10 + 1)) ) (ar624 (oH (p10 + 1)) p18 hp25) (getH_all rfl _)))
 refine own_go (T2 := T12) (g2 := (mkF m 30 l2 [(.int (-1))])) (fun t k => z_aloadN X0 hx hby d22_0 rfl rfl (z_aloadN X0 hx hby d22_1 rfl rfl (st15 _ (z_iconst X15 hx hby d22_5 (z_iadd X15 hx hby d22_6 (st16 _ (z_istoreN X16 hx hby d22_10 l2 rfl (z_aloadN X16 hx hby d22_11 rfl rfl (st12 _ (z_iloadN X12 hx hby d22_15 rfl (own_ial X12 hx hZ e12 Ar11 hin11 hat11 rfl rfl (hb hby d22_16) (z_ifNo X12 hx hby d22_17 ((if0 _ _).trans (teq (show (0 : Int32) = 0 from (by decide))).2) (z_iconst X12 hx hby d22_20 (z_goto X12 hx hby 30 d22_21 rfl k)))))))))))))) ?_
 exact own_endI X12 hx Bd.notSynchronized Bd.returns (hb hby d22_30) (by decide) (by decide) ⟨rfl, rfl, e12⟩
set_option maxRecDepth 65536 in
theorem tl1942 {p : Program} {l : Launch} {e : Env} {s : State} {m : MethodId} {args : Array Value} {below : List Frame} {meth : Method} {c : Code} {T : State} {locs : List Loc} {cells slots : Nat} {h0 : Heap} {CC SS : Nat} (X : Stand p l e room_1 s m args below meth c T locs cells slots) (hx : p.tables.exec = Jvm.exec) (hby : c.code = code) (hret : meth.sig.returnType = some .boolean) (hlk : meth.locks = false) (hc : cells ≤ CC) (hs : slots ≤ SS) (K : own_Kp h0 T.heap [] locs) (z0 : Int32) (z1 : Int32) (z2 : Int32) (z3 : Int32) (z4 : Int32) (z5 : Int32) (z6 : Int32) (z7 : Int32) (z8 : Int32) (z9 : Addr) (z10 : Addr) (z11 : Addr) (z12 : Addr) :
    own_Go p e below (own_K s (own_Q0 h0.size) CC SS) T (mkF m 204 #[.val (.int z0), .val (.int z1), .val (.int z2), .val (.int z3), .val (.int z4), .val (.int z5), .val (.int z6), .val (.int z7), .val (.int z8), .val (.ref z9), .val (.ref z10), .val (.ref z11), .val (.ref z12), .val (.int 2), .val (.ref z11), .val (.int z3), .val (.int z4), .val (.int (-1)), .unset, .unset, .unset] []) := by
  refine own_go (T2 := T) (g2 := (mkF m 324 #[.val (.int z0), .val (.int z1), .val (.int z2), .val (.int z3), .val (.int z4), .val (.int z5), .val (.int z6), .val (.int z7), .val (.int z8), .val (.ref z9), .val (.ref z10), .val (.ref z11), .val (.ref z12), .val (.int 2), .val (.ref z11), .val (.int z3), .val (.int z4), .val (.int (-1)), .val (.int 1), .val (.int 1), .val (.int 1)] [(.int 1)])) (fun t k => XS.iload X.here hx rfl (hb hby at_204) rfl  (XS.ifYes X.here hx rfl (pc0 := 206) (pc' := 223) rfl (hb hby at_206) rfl ((if0 _ _).trans (feq (show ¬ ((2 : Int32) = 0) from (by decide))).2) (by decide) (by decide) (XS.iload X.here hx rfl (hb hby at_223) rfl  (XS.iloadN X.here hx rfl (hb hby at_225) rfl  (XS.icmpNo X.here hx rfl (hb hby at_226) rfl (teq (show z3 = z3 from rfl)).2 (XS.iconst X.here hx rfl (hb hby at_229) (XS.goto X.here hx rfl (pc0 := 230) (pc' := 234) rfl (hb hby at_230) (by decide) (by decide) (XS.istore X.here hx rfl (hb hby at_234) rfl (l' := #[.val (.int z0), .val (.int z1), .val (.int z2), .val (.int z3), .val (.int z4), .val (.int z5), .val (.int z6), .val (.int z7), .val (.int z8), .val (.ref z9), .val (.ref z10), .val (.ref z11), .val (.ref z12), .val (.int 2), .val (.ref z11), .val (.int z3), .val (.int z4), .val (.int (-1)), .val (.int 1), .unset, .unset]) rfl (XS.iload X.here hx rfl (hb hby at_236) rfl  (XS.iconst X.here hx rfl (hb hby at_238) (XS.icmpYes X.here hx rfl (pc0 := 239) (pc' := 256) rfl (hb hby at_239) rfl (feq (show ¬ ((2 : Int32) = 1) from (by decide))).2 (by decide) (by decide) (XS.iload X.here hx rfl (hb hby at_256) rfl  (XS.iload X.here hx rfl (hb hby at_258) rfl  (XS.icmpNo X.here hx rfl (hb hby at_260) rfl (teq (show z4 = z4 from rfl)).2 (XS.iconst X.here hx rfl (hb hby at_263) (XS.goto X.here hx rfl (pc0 := 264) (pc' := 268) rfl (hb hby at_264) (by decide) (by decide) (XS.istore X.here hx rfl (hb hby at_268) rfl (l' := #[.val (.int z0), .val (.int z1), .val (.int z2), .val (.int z3), .val (.int z4), .val (.int z5), .val (.int z6), .val (.int z7), .val (.int z8), .val (.ref z9), .val (.ref z10), .val (.ref z11), .val (.ref z12), .val (.int 2), .val (.ref z11), .val (.int z3), .val (.int z4), .val (.int (-1)), .val (.int 1), .val (.int 1), .unset]) rfl (XS.iload X.here hx rfl (hb hby at_270) rfl  (XS.iconst X.here hx rfl (hb hby at_272) (XS.icmpNo X.here hx rfl (hb hby at_273) rfl (teq (show (2 : Int32) = 2 from (by decide))).2 (XS.iload X.here hx rfl (hb hby at_276) rfl  (XS.iconst X.here hx rfl (hb hby at_278) (XS.icmpNo X.here hx rfl (hb hby at_279) rfl (teq (show (-1 : Int32) = (-1 : Int32) from (by decide))).2 (XS.iconst X.here hx rfl (hb hby at_282) (XS.goto X.here hx rfl (pc0 := 283) (pc' := 302) rfl (hb hby at_283) (by decide) (by decide) (XS.istore X.here hx rfl (hb hby at_302) rfl (l' := #[.val (.int z0), .val (.int z1), .val (.int z2), .val (.int z3), .val (.int z4), .val (.int z5), .val (.int z6), .val (.int z7), .val (.int z8), .val (.ref z9), .val (.ref z10), .val (.ref z11), .val (.ref z12), .val (.int 2), .val (.ref z11), .val (.int z3), .val (.int z4), .val (.int (-1)), .val (.int 1), .val (.int 1), .val (.int 1)]) rfl (XS.iload X.here hx rfl (hb hby at_304) rfl  (XS.ifNo X.here hx rfl (hb hby at_306) rfl ((if0 _ _).trans (feq (show ¬ ((1 : Int32) = 0) from (by decide))).1) (XS.iload X.here hx rfl (hb hby at_309) rfl  (XS.ifNo X.here hx rfl (hb hby at_311) rfl ((if0 _ _).trans (feq (show ¬ ((1 : Int32) = 0) from (by decide))).1) (XS.iload X.here hx rfl (hb hby at_314) rfl  (XS.ifNo X.here hx rfl (hb hby at_316) rfl ((if0 _ _).trans (feq (show ¬ ((1 : Int32) = 0) from (by decide))).1) (XS.iconst X.here hx rfl (hb hby at_319) (XS.goto X.here hx rfl (pc0 := 320) (pc' := 324) rfl (hb hby at_320) (by decide) (by decide) k)))))))))))))))))))))))))))))))))) ?_
  exact own_endN X hx hlk (t := .boolean) hret (by simp) (hb hby at_324) (z' := (1 : Int32)) rfl hc hs ⟨rfl, own_kpFr K⟩
set_option maxRecDepth 65536 in
set_option maxHeartbeats 40000000 in
theorem rm2047 (l : Launch) (Z : State) (a0 : Array Value) (hw : ∀ d ∈ tables_1, d.before a0 Z = true) (h0 : Heap) (a24 : Addr) (p10 : Int32) (a33 : Addr) (c39 : ClassId) (p29 p30 : Int32) (p31 p32 : Int32) (F27 : Fld Z h0 a24 own_s1 "slots" "[I" (.ref a33)) (H28 : Arh Z h0 a33 c39 .int 32 [(p29, (.int p30)), (p31, (.int p32))] [] (.int 0)) (hp34 : ¬ ((oH p10) = p29)) (hp35 : (oH p10) = p31) (hp40 : ¬ (p32 = p10)) (hp41 : ¬ (p32 = 0)) (hp36 : (oN (oH p10)) = p29) (hp42 : ¬ (p30 = p10)) (hp43 : ¬ (p30 = 0)) (hp37 : ¬ ((oN (oN (oH p10))) = p29)) (hp38 : ¬ ((oN (oN (oH p10))) = p31)) (hp44 : ¬ ((0 : Int32) = p10)) :
    own_Con l Z own_y1 prog_7_method_6_code 4 (some .int) ({ frames := 1, cells := 0, slots := 0, locals := 14 } : Room) #[(.ref a24), (.int p10)] h0 (own_QP (some (.int (oN (oN (oH p10))))) h0) := by
 refine MetFree.of_bodySF (plainFor_of_name own_pn8) hisR ?_
 intro p e s m args below meth c s₁ Bd hml0 hP hK
 obtain ⟨rfl, hZ, hh⟩ := hP
 have hx := Bd.exec
 have hby := Bd.bytes
 have hml : c.maxLocals = 4 := hml0
 have hown : s.vm.findClass own_s1 = some m.cls := findClass_of_methodNamed Bd.named
 have hnm := (name_of_methodNamed Bd.named Bd.method).1
 have X0 : Stand p l e ({ frames := 1, cells := 0, slots := 0, locals := 14 } : Room) s m #[(.ref a24), (.int p10)] below meth c s₁ [] 0 0 := Stand.of_body Bd
 have e0 : s₁.heap = h0 := by rw [← hh, Bd.state]; rfl
 have K0 : own_Kp h0 h0 [] [] := own_kpRefl _ _
 show own_Go p e below (own_K s (own_QP (some (.int (oN (oN (oH p10))))) h0) 0 0) s₁ (entryFrame m #[(.ref a24), (.int p10)] 4)
 rw [own_ef477]
 obtain ⟨T19, X19, e19, st19⟩ := own_gF X0 hx hZ hown hby (own_wd hw 148 rfl) e0 F27 d19_1 #[.val (.ref a24), .val (.int p10), .unset, .unset] []
 obtain ⟨cl25, Ar25, q25, S25, N25, H25, G25⟩ := id H28
 let l1 : Array Slot := #[.val (.ref a24), .val (.int p10), .val (.int 31), .unset]
 obtain ⟨_, T26, L26, X26, ⟨rfl, rfl, e26⟩, st26⟩ := own_cs X19 hx hZ hown (own_w489 hw) hml (g := (mkF m 10 l1 [(.int 31), (.int p10)])) (hb hby d19_10) e19 [(.int p10), (.int 31)] [] (lenOf own_pd12 rfl) (rm487 l Z a0 hw h0 p10 )
 let l2 : Array Slot := #[.val (.ref a24), .val (.int p10), .val (.int 31), .val (.int (oH p10))]
 obtain ⟨T21, X21, e21, st21⟩ := own_gF X26 hx hZ hown hby (own_wd hw 148 rfl) e26 F27 d19_15 l2 []
 obtain ⟨cl13, Ar13, q13, S13, N13, H13, G13⟩ := id H28
 have hin13 := inb_of S13 ⟨(own_hlo p10), (own_hhi p10)⟩
 have hat13 := atH H13 hin13 (getH_miss (own_hlo p10) hp34 (getH_hit (own_hlo p10) hp35))
 obtain ⟨T11, X11, e11, st11⟩ := own_gF X21 hx hZ hown hby (own_wd hw 148 rfl) e21 F27 d19_25 l2 []
 obtain ⟨cl14, Ar14, q14, S14, N14, H14, G14⟩ := id H28
 have hin14 := inb_of S14 ⟨(own_hlo p10), (own_hhi p10)⟩
 have hat14 := atH H14 hin14 (getH_miss (own_hlo p10) hp34 (getH_hit (own_hlo p10) hp35))
 let l3 : Array Slot := #[.val (.ref a24), .val (.int p10), .val (.int 31), .val (.int (oN (oH p10)))]
 obtain ⟨T22, X22, e22, st22⟩ := own_gF X11 hx hZ hown hby (own_wd hw 148 rfl) e11 F27 d19_15 l3 []
 obtain ⟨cl15, Ar15, q15, S15, N15, H15, G15⟩ := id H28
 have hin15 := inb_of S15 ⟨(ar622 (oH p10) ), (ar623 (oH p10) )⟩
 have hat15 := atH H15 hin15 (getH_hit (ar622 (oH p10) ) hp36)
 obtain ⟨T12, X12, e12, st12⟩ := own_gF X22 hx hZ hown hby (own_wd hw 148 rfl) e22 F27 d19_25 l3 []
 obtain ⟨cl16, Ar16, q16, S16, N16, H16, G16⟩ := id H28
 have hin16 := inb_of S16 ⟨(ar622 (oH p10) ), (ar623 (oH p10) )⟩
 have hat16 := atH H16 hin16 (getH_hit (ar622 (oH p10) ) hp36)
 let l4 : Array Slot := #[.val (.ref a24), .val (.int p10), .val (.int 31), .val (.int (oN (oN (oH p10))))]
 obtain ⟨T20, X20, e20, st20⟩ := own_gF X12 hx hZ hown hby (own_wd hw 148 rfl) e12 F27 d19_15 l4 []
 obtain ⟨cl17, Ar17, q17, S17, N17, H17, G17⟩ := id H28
 have hin17 := inb_of S17 ⟨(ar898 (oH p10) ), (ar899 (oH p10) )⟩
 have hat17 := atH H17 hin17 (getH_miss (ar898 (oH p10) ) hp37 (getH_miss (ar898 (oH p10) ) hp38 (getH_all rfl _)))
 refine own_go (T2 := T20) (g2 := (mkF m 20 l4 [(.int 0)])) (fun t k => z_aloadN X0 hx hby d19_0 rfl rfl (st19 _ (own_alen X19 hx hZ e19 Ar25 S25 N25 rfl rfl (hb hby d19_4) (z_iconst X19 hx hby d19_5 (z_isub X19 hx hby d19_6 (z_istoreN X19 hx hby d19_7 l1 rfl (z_iloadN X19 hx hby d19_8 rfl (z_iloadN X19 hx hby d19_9 rfl (st26 _ (z_istoreN X26 hx hby d19_13 l2 rfl (z_aloadN X26 hx hby d19_14 rfl rfl (st21 _ (z_iloadN X21 hx hby d19_18 rfl (own_ial X21 hx hZ e21 Ar13 hin13 hat13 rfl rfl (hb hby d19_19) (z_iloadN X21 hx hby d19_20 rfl (z_icmpNo X21 hx hby d19_21 (feq hp40).1 (z_aloadN X21 hx hby d19_24 rfl rfl (st11 _ (z_iloadN X11 hx hby d19_28 rfl (own_ial X11 hx hZ e11 Ar14 hin14 hat14 rfl rfl (hb hby d19_29) (z_ifNo X11 hx hby d19_30 ((if0 _ _).trans (feq hp41).1) (z_iloadN X11 hx hby d19_33 rfl (z_iconst X11 hx hby d19_34 (z_iadd X11 hx hby d19_35 (z_iloadN X11 hx hby d19_36 rfl (z_iand X11 hx hby d19_37 (z_istoreN X11 hx hby d19_38 l3 rfl (z_goto X11 hx hby 14 d19_39 rfl (z_aloadN X11 hx hby d19_14 rfl rfl (st22 _ (z_iloadN X22 hx hby d19_18 rfl (own_ial X22 hx hZ e22 Ar15 hin15 hat15 rfl rfl (hb hby d19_19) (z_iloadN X22 hx hby d19_20 rfl (z_icmpNo X22 hx hby d19_21 (feq hp42).1 (z_aloadN X22 hx hby d19_24 rfl rfl (st12 _ (z_iloadN X12 hx hby d19_28 rfl (own_ial X12 hx hZ e12 Ar16 hin16 hat16 rfl rfl (hb hby d19_29) (z_ifNo X12 hx hby d19_30 ((if0 _ _).trans (feq hp43).1) (z_iloadN X12 hx hby d19_33 rfl (z_iconst X12 hx hby d19_34 (z_iadd X12 hx hby d19_35 (z_iloadN X12 hx hby d19_36 rfl (z_iand X12 hx hby d19_37 (z_istoreN X12 hx hby d19_38 l4 rfl (z_goto X12 hx hby 14 d19_39 rfl (z_aloadN X12 hx hby d19_14 rfl rfl (st20 _ (z_iloadN X20 hx hby d19_18 rfl (own_ial X20 hx hZ e20 Ar17 hin17 hat17 rfl rfl (hb hby d19_19) k)))))))))))))))))))))))))))))))))))))))))))))))))) ?_
 obtain ⟨T23, X23, e23, st23⟩ := own_gF X20 hx hZ hown hby (own_wd hw 148 rfl) e20 F27 d19_25 l4 []
 obtain ⟨cl18, Ar18, q18, S18, N18, H18, G18⟩ := id H28
 have hin18 := inb_of S18 ⟨(ar898 (oH p10) ), (ar899 (oH p10) )⟩
 have hat18 := atH H18 hin18 (getH_miss (ar898 (oH p10) ) hp37 (getH_miss (ar898 (oH p10) ) hp38 (getH_all rfl _)))
 refine own_go (T2 := T23) (g2 := (mkF m 43 l4 [(.int (oN (oN (oH p10))))])) (fun t k => z_iloadN X20 hx hby d19_20 rfl (z_icmpNo X20 hx hby d19_21 (feq hp44).1 (z_aloadN X20 hx hby d19_24 rfl rfl (st23 _ (z_iloadN X23 hx hby d19_28 rfl (own_ial X23 hx hZ e23 Ar18 hin18 hat18 rfl rfl (hb hby d19_29) (z_ifYes X23 hx hby 42 d19_30 ((if0 _ _).trans (teq (show (0 : Int32) = 0 from (by decide))).1) rfl (z_iloadN X23 hx hby d19_42 rfl k)))))))) ?_
 exact own_endI X23 hx Bd.notSynchronized Bd.returns (hb hby d19_43) (by decide) (by decide) ⟨rfl, rfl, e23⟩
def own_Q2007 (Z : State) (h0 : Heap) (a2008 : Addr) (a2009 : Addr) (p2010 : Int32) (a2013 : Addr) (c2016 : ClassId) (p2017 : Int32) (p2018 : Int32) (p2019 : Int32) (p2020 : Int32) (p2030 : Int32) (a2097 : Addr) (c2102 : ClassId) (p2103 : Int32) (p2104 : Int32) (v : Option Value) (h : Heap) (L : List Loc) : Prop := v = none ∧ own_Kp h0 h [a2013, a2097, a2008] L ∧ Arh Z h a2013 c2016 .int 32 [((((((oH (p2030 + 1)) + 1) &&& 31) + 1) &&& 31), (.int (p2030 + 1))), (p2017, (.int p2018)), (p2019, (.int p2020))] [] (.int 0) ∧ Arh Z h a2097 c2102 .int 32 [((((((oH (p2030 + 1)) + 1) &&& 31) + 1) &&& 31), (.int p2010)), (p2017, (.int p2103)), (p2019, (.int p2104))] [] (.int 0) ∧ Fld Z h a2008 own_s1 "size" "I" (.int 3) ∧ Fld Z h a2008 own_s1 "slots" "[I" (.ref a2013) ∧ Fld Z h a2008 own_s1 "indices" "[I" (.ref a2097)
set_option maxRecDepth 65536 in
set_option maxHeartbeats 40000000 in
theorem rm2007 (l : Launch) (Z : State) (a0 : Array Value) (hw : ∀ d ∈ tables_1, d.before a0 Z = true) (h0 : Heap) (a14 a15 : Addr) (p19 : Int32) (a20 : Addr) (c31 : ClassId) (p23 p29 : Int32) (p28 p30 p12 : Int32) (a24 : Addr) (c35 : ClassId) (p36 p37 : Int32) (F40 : Fld Z h0 a14 own_s1 "size" "I" (.int 2)) (F32 : Fld Z h0 a14 own_s1 "slots" "[I" (.ref a20)) (H38 : Arh Z h0 a20 c31 .int 32 [(p23, (.int p29)), (p28, (.int p30))] [] (.int 0)) (F44 : Fld Z h0 a15 own_s0 "id" "I" (.int p12)) (E45 : Exa Z h0 a15 own_s0) (hp46 : ¬ ((oH (p12 + 1)) = p23)) (hp47 : (oH (p12 + 1)) = p28) (hp48 : ¬ (p30 = (p12 + 1))) (hp49 : ¬ (p30 = 0)) (hp50 : (oN (oH (p12 + 1))) = p23) (hp51 : ¬ (p29 = (p12 + 1))) (hp52 : ¬ (p29 = 0)) (hp53 : ¬ ((oN (oN (oH (p12 + 1)))) = p23)) (hp54 : ¬ ((oN (oN (oH (p12 + 1)))) = p28)) (hp55 : ¬ ((0 : Int32) = (p12 + 1))) (E41 : Exa Z h0 a14 own_s1) (F56 : Fld Z h0 a14 own_s1 "indices" "[I" (.ref a24)) (ne33 : a14 ≠ a20) (H57 : Arh Z h0 a24 c35 .int 32 [(p23, (.int p36)), (p28, (.int p37))] [] (.int 0)) (ne42 : a24 ≠ a20) (ne34 : a14 ≠ a24) :
    own_Con l Z own_y3 prog_7_method_3_code 5 none ({ frames := 2, cells := 0, slots := 0, locals := 29 } : Room) #[(.ref a14), (.ref a15), (.int p19)] h0 (own_Q2007 Z h0 a14 a15 p19 a20 c31 p23 p29 p28 p30 p12 a24 c35 p36 p37) := by
 refine MetFree.of_bodySF (plainFor_of_name own_pn8) hisR ?_
 intro p e s m args below meth c s₁ Bd hml0 hP hK
 obtain ⟨rfl, hZ, hh⟩ := hP
 have hx := Bd.exec
 have hby := Bd.bytes
 have hml : c.maxLocals = 5 := hml0
 have hown : s.vm.findClass own_s1 = some m.cls := findClass_of_methodNamed Bd.named
 have hnm := (name_of_methodNamed Bd.named Bd.method).1
 have X0 : Stand p l e ({ frames := 2, cells := 0, slots := 0, locals := 29 } : Room) s m #[(.ref a14), (.ref a15), (.int p19)] below meth c s₁ [] 0 0 := Stand.of_body Bd
 have e0 : s₁.heap = h0 := by rw [← hh, Bd.state]; rfl
 have K0 : own_Kp h0 h0 [a20, a24, a14] [] := own_kpRefl _ _
 show own_Go p e below (own_K s (own_Q2007 Z h0 a14 a15 p19 a20 c31 p23 p29 p28 p30 p12 a24 c35 p36 p37) 0 0) s₁ (entryFrame m #[(.ref a14), (.ref a15), (.int p19)] 5)
 rw [own_ef449]
 let l1 : Array Slot := #[.val (.ref a14), .val (.ref a15), .val (.int p19), .unset, .unset]
 obtain ⟨T17, X17, e17, st17⟩ := own_gF X0 hx hZ hown hby (own_wd hw 157 rfl) e0 F40 d17_2 l1 [(.int 2)]
 obtain ⟨T18, X18, e18, st18⟩ := own_gF X17 hx hZ hown hby (own_wd hw 148 rfl) e17 F32 d17_9 l1 [(.int 6)]
 obtain ⟨cl21, Ar21, q21, S21, N21, H21, G21⟩ := id H38
 obtain ⟨_, T16, L16, X16, ⟨rfl, rfl, e16⟩, st16⟩ := own_cv X18 hx hZ hown (own_w475 hw) hml (g := (mkF m 21 l1 [(.ref a15)])) (hb hby d17_21) e18 E45 [] [] (lenOf own_pd5 rfl) (rm462 l Z a0 hw h0 a15 p12 F44)
 let l2 : Array Slot := #[.val (.ref a14), .val (.ref a15), .val (.int p19), .val (.int (p12 + 1)), .unset]
 obtain ⟨_, T22, L22, X22, ⟨rfl, rfl, e22⟩, st22⟩ := own_cp X16 hx hZ hown (own_w499 hw) hml (g := (mkF m 29 l2 [(.int (p12 + 1)), (.ref a14)])) (hb hby d17_29) e16 E41 [(.int (p12 + 1))] [] (lenOf own_pd13 rfl) (rm2047 l Z a0 hw h0 a14 (p12 + 1) a20 c31 p23 p29 p28 p30 F32 H38 hp46 hp47 hp48 hp49 hp50 hp51 hp52 hp53 hp54 hp55)
 let l3 : Array Slot := #[.val (.ref a14), .val (.ref a15), .val (.int p19), .val (.int (p12 + 1)), .val (.int (oN (oN (oH (p12 + 1)))))]
 obtain ⟨T25, X25, e25, st25⟩ := own_gF X22 hx hZ hown hby (own_wd hw 148 rfl) e22 F32 d17_35 l3 []
 obtain ⟨cl11, Ar11, q11, S11, N11, H11, G11⟩ := id H38
 have hin11 := inb_of S11 ⟨(ar898 (oH (p12 + 1)) ), (ar899 (oH (p12 + 1)) )⟩
 obtain ⟨T11, h11, X11, e11, W11, st11⟩ := stI X25 hx hZ e25 Ar11 (j := (oN (oN (oH (p12 + 1))))) hin11 (g := (mkF m 41 l3 [(.int (p12 + 1)), (.int (oN (oN (oH (p12 + 1))))), (.ref a20)])) rfl rfl (hb hby d17_41)
 have V11 := Arh.push Ar11 q11 S11 N11 H11 G11 rfl W11 hin11
 have K11 := own_kpWr K0 W11 (Or.inl (List.mem_of_getElem? (i := 0) rfl))
 have z_W11 := Nat.le_of_eq W11.size.symm
 have F43 := (Fld.other W11 F56 (Or.inl ne33))
 obtain ⟨T26, X26, e26, st26⟩ := own_gF X11 hx hZ hown hby (own_wd hw 150 rfl) e11 F43 d17_43 l3 []
 have H58 := (Arh.other H57 W11 ne42)
 obtain ⟨cl10, Ar10, q10, S10, N10, H10, G10⟩ := id H58
 have hin10 := inb_of S10 ⟨(ar898 (oH (p12 + 1)) ), (ar899 (oH (p12 + 1)) )⟩
 obtain ⟨T10, h10, X10, e10, W10, st10⟩ := stI X26 hx hZ e26 Ar10 (j := (oN (oN (oH (p12 + 1))))) hin10 (g := (mkF m 49 l3 [(.int p19), (.int (oN (oN (oH (p12 + 1))))), (.ref a24)])) rfl rfl (hb hby d17_49)
 have V10 := Arh.push Ar10 q10 S10 N10 H10 G10 rfl W10 hin10
 have K10 := own_kpWr K11 W10 (Or.inl (List.mem_of_getElem? (i := 1) rfl))
 have z_W10 := Nat.le_of_eq W10.size.symm
 have F39 := (Fld.other W10 (Fld.other W11 F40 (Or.inl ne33)) (Or.inl ne34))
 obtain ⟨T27, X27, e27, st27⟩ := own_gF X10 hx hZ hown hby (own_wd hw 157 rfl) e10 F39 d17_52 l3 [(.ref a14)]
 have E59 := (Exa.wr W10 (Exa.wr W11 E41))
 obtain ⟨T13, h13, X13, e13, W13, st13⟩ := putF X27 hx hZ hown (host := "") (Or.inl (own_wd hw 157 rfl)) Via.refl e27 F39 E59 (Or.inl (own_wd hw 158 rfl)) (own_wd hw 141 rfl) (ty := .int) (by decide) rfl rfl (g := (mkF m 57 l3 [(.int 3), (.ref a14)])) rfl rfl (hb hby d17_57)
 have F13 := Fld.same W13 F39
 have K13 := own_kpWr K10 W13 (Or.inl (List.mem_of_getElem? (i := 2) rfl))
 have z_W13 := Nat.le_of_eq W13.size.symm
 have H60 := (Arh.other (Arh.other V11 W10 (Ne.symm ne42)) W13 (Ne.symm ne33))
 have H61 := (Arh.other V10 W13 (Ne.symm ne34))
 have F62 := (Fld.other W13 (Fld.other W10 (Fld.other W11 F32 (Or.inl ne33)) (Or.inl ne34)) (Or.inr (slot_ne (Or.inl (own_wd hw 149 rfl)) (Or.inl (own_wd hw 158 rfl)) (by decide) (t := (.array .int)) (t' := .int) (by decide) (by decide))))
 have F63 := (Fld.other W13 (Fld.other W10 F43 (Or.inl ne34)) (Or.inr (slot_ne (Or.inl (own_wd hw 151 rfl)) (Or.inl (own_wd hw 158 rfl)) (by decide) (t := (.array .int)) (t' := .int) (by decide) (by decide))))
 refine own_go (T2 := T13) (g2 := (mkF m 60 l3 [])) (fun t k => z_iconst X0 hx hby d17_0 (z_aloadN X0 hx hby d17_1 rfl rfl (st17 _ (z_iconst X17 hx hby d17_5 (z_iadd X17 hx hby d17_6 (XS.imul X17.here hx rfl (hb hby d17_7) rfl (z_aloadN X17 hx hby d17_8 rfl rfl (st18 _ (own_alen X18 hx hZ e18 Ar21 S21 N21 rfl rfl (hb hby d17_12) (z_icmpYes X18 hx hby 20 d17_13 (flt (show ¬ ((32 : Int32) < 6) from (by decide))).2.2.2 rfl (z_aloadN X18 hx hby d17_20 rfl rfl (st16 _ (z_iconst X16 hx hby d17_24 (z_iadd X16 hx hby d17_25 (z_istoreN X16 hx hby d17_26 l2 rfl (z_aloadN X16 hx hby d17_27 rfl rfl (z_iloadN X16 hx hby d17_28 rfl (st22 _ (z_istore X22 hx hby d17_32 l3 rfl (z_aloadN X22 hx hby d17_34 rfl rfl (st25 _ (z_iload X25 hx hby d17_38 rfl (z_iloadN X25 hx hby d17_40 rfl (st11 _ (z_aloadN X11 hx hby d17_42 rfl rfl (st26 _ (z_iload X26 hx hby d17_46 rfl (z_iloadN X26 hx hby d17_48 rfl (st10 _ (z_aloadN X10 hx hby d17_50 rfl rfl (z_dup X10 hx hby d17_51 rfl (st27 _ (z_iconst X27 hx hby d17_55 (z_iadd X27 hx hby d17_56 (st13 _ k))))))))))))))))))))))))))))))))))) ?_
 exact own_endV X13 hx Bd.notSynchronized Bd.returns (hb hby d17_60) (by decide) (by decide) (by rw [e13]; exact ⟨rfl, (by simpa only [List.append_nil] using K13), H60, H61, F13, F62, F63⟩)
theorem ar2132 (x0 : Int32)  : ¬ (((((((x0 + 1) &&& 31) + 1) &&& 31) - x0) &&& 31) < ((((((x0 + 1) &&& 31) + 1) &&& 31) - ((x0 + 1) &&& 31)) &&& 31)) := by
  have f7 := rng32 x0
  have f8 : (1 : Int32).toInt = 1 := by decide
  have f6r := rng32 (x0 + 1)
  have f6 := c_iadd x0 (1 : Int32)
  have f9 : (31 : Int32).toInt = 31 := by decide
  have f5r := rng32 ((x0 + 1) &&& 31)
  have f5 : ((x0 + 1) &&& 31).toInt = (x0 + 1).toInt % 32 := c_mask (x0 + 1) (31 : Int32) 5 (by decide) (by decide)
  have f4r := rng32 (((x0 + 1) &&& 31) + 1)
  have f4 := c_iadd ((x0 + 1) &&& 31) (1 : Int32)
  have f3r := rng32 ((((x0 + 1) &&& 31) + 1) &&& 31)
  have f3 : ((((x0 + 1) &&& 31) + 1) &&& 31).toInt = (((x0 + 1) &&& 31) + 1).toInt % 32 := c_mask (((x0 + 1) &&& 31) + 1) (31 : Int32) 5 (by decide) (by decide)
  have f2r := rng32 (((((x0 + 1) &&& 31) + 1) &&& 31) - x0)
  have f2 := c_isub ((((x0 + 1) &&& 31) + 1) &&& 31) x0
  have f1r := rng32 ((((((x0 + 1) &&& 31) + 1) &&& 31) - x0) &&& 31)
  have f1 : ((((((x0 + 1) &&& 31) + 1) &&& 31) - x0) &&& 31).toInt = (((((x0 + 1) &&& 31) + 1) &&& 31) - x0).toInt % 32 := c_mask (((((x0 + 1) &&& 31) + 1) &&& 31) - x0) (31 : Int32) 5 (by decide) (by decide)
  have f11r := rng32 (((((x0 + 1) &&& 31) + 1) &&& 31) - ((x0 + 1) &&& 31))
  have f11 := c_isub ((((x0 + 1) &&& 31) + 1) &&& 31) ((x0 + 1) &&& 31)
  have f10r := rng32 ((((((x0 + 1) &&& 31) + 1) &&& 31) - ((x0 + 1) &&& 31)) &&& 31)
  have f10 : ((((((x0 + 1) &&& 31) + 1) &&& 31) - ((x0 + 1) &&& 31)) &&& 31).toInt = (((((x0 + 1) &&& 31) + 1) &&& 31) - ((x0 + 1) &&& 31)).toInt % 32 := c_mask (((((x0 + 1) &&& 31) + 1) &&& 31) - ((x0 + 1) &&& 31)) (31 : Int32) 5 (by decide) (by decide)
  exact fun q => absurd (Int32.lt_iff_toInt_lt.mp q) (by omega)
set_option maxRecDepth 65536 in
set_option maxHeartbeats 40000000 in
theorem rm2263 (l : Launch) (Z : State) (a0 : Array Value) (hw : ∀ d ∈ tables_1, d.before a0 Z = true) (h0 : Heap) (a22 : Addr) (p10 : Int32) (a32 : Addr) (c39 : ClassId) (p27 p28 : Int32) (p29 p30 : Int32) (p33 p31 : Int32) (F25 : Fld Z h0 a22 own_s1 "slots" "[I" (.ref a32)) (H26 : Arh Z h0 a32 c39 .int 32 [(p27, (.int p28)), (p29, (.int p30)), (p33, (.int p31))] [] (.int 0)) (hp34 : ¬ ((oH p10) = p27)) (hp35 : ¬ ((oH p10) = p29)) (hp36 : (oH p10) = p33) (hp40 : ¬ (p31 = p10)) (hp41 : ¬ (p31 = 0)) (hp37 : ¬ ((oN (oH p10)) = p27)) (hp38 : (oN (oH p10)) = p29) (hp42 : ¬ (p30 = p10)) (hp43 : ¬ (p30 = 0)) (hp44 : (oN (oN (oH p10))) = p27) (hp45 : p28 = p10) :
    own_Con l Z own_y1 prog_7_method_6_code 4 (some .int) ({ frames := 1, cells := 0, slots := 0, locals := 14 } : Room) #[(.ref a22), (.int p10)] h0 (own_QP (some (.int (oN (oN (oH p10))))) h0) := by
 refine MetFree.of_bodySF (plainFor_of_name own_pn8) hisR ?_
 intro p e s m args below meth c s₁ Bd hml0 hP hK
 obtain ⟨rfl, hZ, hh⟩ := hP
 have hx := Bd.exec
 have hby := Bd.bytes
 have hml : c.maxLocals = 4 := hml0
 have hown : s.vm.findClass own_s1 = some m.cls := findClass_of_methodNamed Bd.named
 have hnm := (name_of_methodNamed Bd.named Bd.method).1
 have X0 : Stand p l e ({ frames := 1, cells := 0, slots := 0, locals := 14 } : Room) s m #[(.ref a22), (.int p10)] below meth c s₁ [] 0 0 := Stand.of_body Bd
 have e0 : s₁.heap = h0 := by rw [← hh, Bd.state]; rfl
 have K0 : own_Kp h0 h0 [] [] := own_kpRefl _ _
 show own_Go p e below (own_K s (own_QP (some (.int (oN (oN (oH p10))))) h0) 0 0) s₁ (entryFrame m #[(.ref a22), (.int p10)] 4)
 rw [own_ef477]
 obtain ⟨T19, X19, e19, st19⟩ := own_gF X0 hx hZ hown hby (own_wd hw 148 rfl) e0 F25 d19_1 #[.val (.ref a22), .val (.int p10), .unset, .unset] []
 obtain ⟨cl23, Ar23, q23, S23, N23, H23, G23⟩ := id H26
 let l1 : Array Slot := #[.val (.ref a22), .val (.int p10), .val (.int 31), .unset]
 obtain ⟨_, T24, L24, X24, ⟨rfl, rfl, e24⟩, st24⟩ := own_cs X19 hx hZ hown (own_w489 hw) hml (g := (mkF m 10 l1 [(.int 31), (.int p10)])) (hb hby d19_10) e19 [(.int p10), (.int 31)] [] (lenOf own_pd12 rfl) (rm487 l Z a0 hw h0 p10 )
 let l2 : Array Slot := #[.val (.ref a22), .val (.int p10), .val (.int 31), .val (.int (oH p10))]
 obtain ⟨T20, X20, e20, st20⟩ := own_gF X24 hx hZ hown hby (own_wd hw 148 rfl) e24 F25 d19_15 l2 []
 obtain ⟨cl13, Ar13, q13, S13, N13, H13, G13⟩ := id H26
 have hin13 := inb_of S13 ⟨(own_hlo p10), (own_hhi p10)⟩
 have hat13 := atH H13 hin13 (getH_miss (own_hlo p10) hp34 (getH_miss (own_hlo p10) hp35 (getH_hit (own_hlo p10) hp36)))
 obtain ⟨T11, X11, e11, st11⟩ := own_gF X20 hx hZ hown hby (own_wd hw 148 rfl) e20 F25 d19_25 l2 []
 obtain ⟨cl14, Ar14, q14, S14, N14, H14, G14⟩ := id H26
 have hin14 := inb_of S14 ⟨(own_hlo p10), (own_hhi p10)⟩
 have hat14 := atH H14 hin14 (getH_miss (own_hlo p10) hp34 (getH_miss (own_hlo p10) hp35 (getH_hit (own_hlo p10) hp36)))
 let l3 : Array Slot := #[.val (.ref a22), .val (.int p10), .val (.int 31), .val (.int (oN (oH p10)))]
 obtain ⟨T21, X21, e21, st21⟩ := own_gF X11 hx hZ hown hby (own_wd hw 148 rfl) e11 F25 d19_15 l3 []
 obtain ⟨cl15, Ar15, q15, S15, N15, H15, G15⟩ := id H26
 have hin15 := inb_of S15 ⟨(ar622 (oH p10) ), (ar623 (oH p10) )⟩
 have hat15 := atH H15 hin15 (getH_miss (ar622 (oH p10) ) hp37 (getH_hit (ar622 (oH p10) ) hp38))
 obtain ⟨T12, X12, e12, st12⟩ := own_gF X21 hx hZ hown hby (own_wd hw 148 rfl) e21 F25 d19_25 l3 []
 obtain ⟨cl16, Ar16, q16, S16, N16, H16, G16⟩ := id H26
 have hin16 := inb_of S16 ⟨(ar622 (oH p10) ), (ar623 (oH p10) )⟩
 have hat16 := atH H16 hin16 (getH_miss (ar622 (oH p10) ) hp37 (getH_hit (ar622 (oH p10) ) hp38))
 let l4 : Array Slot := #[.val (.ref a22), .val (.int p10), .val (.int 31), .val (.int (oN (oN (oH p10))))]
 obtain ⟨T17, X17, e17, st17⟩ := own_gF X12 hx hZ hown hby (own_wd hw 148 rfl) e12 F25 d19_15 l4 []
 obtain ⟨cl18, Ar18, q18, S18, N18, H18, G18⟩ := id H26
 have hin18 := inb_of S18 ⟨(ar898 (oH p10) ), (ar899 (oH p10) )⟩
 have hat18 := atH H18 hin18 (getH_hit (ar898 (oH p10) ) hp44)
 refine own_go (T2 := T17) (g2 := (mkF m 20 l4 [(.int p28)])) (fun t k => z_aloadN X0 hx hby d19_0 rfl rfl (st19 _ (own_alen X19 hx hZ e19 Ar23 S23 N23 rfl rfl (hb hby d19_4) (z_iconst X19 hx hby d19_5 (z_isub X19 hx hby d19_6 (z_istoreN X19 hx hby d19_7 l1 rfl (z_iloadN X19 hx hby d19_8 rfl (z_iloadN X19 hx hby d19_9 rfl (st24 _ (z_istoreN X24 hx hby d19_13 l2 rfl (z_aloadN X24 hx hby d19_14 rfl rfl (st20 _ (z_iloadN X20 hx hby d19_18 rfl (own_ial X20 hx hZ e20 Ar13 hin13 hat13 rfl rfl (hb hby d19_19) (z_iloadN X20 hx hby d19_20 rfl (z_icmpNo X20 hx hby d19_21 (feq hp40).1 (z_aloadN X20 hx hby d19_24 rfl rfl (st11 _ (z_iloadN X11 hx hby d19_28 rfl (own_ial X11 hx hZ e11 Ar14 hin14 hat14 rfl rfl (hb hby d19_29) (z_ifNo X11 hx hby d19_30 ((if0 _ _).trans (feq hp41).1) (z_iloadN X11 hx hby d19_33 rfl (z_iconst X11 hx hby d19_34 (z_iadd X11 hx hby d19_35 (z_iloadN X11 hx hby d19_36 rfl (z_iand X11 hx hby d19_37 (z_istoreN X11 hx hby d19_38 l3 rfl (z_goto X11 hx hby 14 d19_39 rfl (z_aloadN X11 hx hby d19_14 rfl rfl (st21 _ (z_iloadN X21 hx hby d19_18 rfl (own_ial X21 hx hZ e21 Ar15 hin15 hat15 rfl rfl (hb hby d19_19) (z_iloadN X21 hx hby d19_20 rfl (z_icmpNo X21 hx hby d19_21 (feq hp42).1 (z_aloadN X21 hx hby d19_24 rfl rfl (st12 _ (z_iloadN X12 hx hby d19_28 rfl (own_ial X12 hx hZ e12 Ar16 hin16 hat16 rfl rfl (hb hby d19_29) (z_ifNo X12 hx hby d19_30 ((if0 _ _).trans (feq hp43).1) (z_iloadN X12 hx hby d19_33 rfl (z_iconst X12 hx hby d19_34 (z_iadd X12 hx hby d19_35 (z_iloadN X12 hx hby d19_36 rfl (z_iand X12 hx hby d19_37 (z_istoreN X12 hx hby d19_38 l4 rfl (z_goto X12 hx hby 14 d19_39 rfl (z_aloadN X12 hx hby d19_14 rfl rfl (st17 _ (z_iloadN X17 hx hby d19_18 rfl (own_ial X17 hx hZ e17 Ar18 hin18 hat18 rfl rfl (hb hby d19_19) k)))))))))))))))))))))))))))))))))))))))))))))))))) ?_
 refine own_go (T2 := T17) (g2 := (mkF m 43 l4 [(.int (oN (oN (oH p10))))])) (fun t k => z_iloadN X17 hx hby d19_20 rfl (z_icmpYes X17 hx hby 42 d19_21 (teq hp45).1 rfl (z_iloadN X17 hx hby d19_42 rfl k))) ?_
 exact own_endI X17 hx Bd.notSynchronized Bd.returns (hb hby d19_43) (by decide) (by decide) ⟨rfl, rfl, e17⟩
def own_Q2230 (Z : State) (h0 : Heap) (a2231 : Addr) (a2232 : Addr) (a2233 : Addr) (c2236 : ClassId) (p2237 : Int32) (p2238 : Int32) (p2239 : Int32) (p2240 : Int32) (p2241 : Int32) (p2242 : Int32) (p2249 : Int32) (a2328 : Addr) (v : Option Value) (h : Heap) (L : List Loc) : Prop := v = none ∧ own_Kp h0 h [a2233, a2231] L ∧ Arh Z h a2233 c2236 .int 32 [((((((oH (p2249 + 1)) + 1) &&& 31) + 1) &&& 31), (.int 0)), (p2237, (.int p2238)), (p2239, (.int p2240)), (p2241, (.int p2242))] [] (.int 0) ∧ Fld Z h a2231 own_s1 "slots" "[I" (.ref a2233) ∧ Fld Z h a2231 own_s1 "size" "I" (.int 2) ∧ Fld Z h a2231 own_s1 "indices" "[I" (.ref a2328)
set_option maxRecDepth 65536 in
set_option maxHeartbeats 40000000 in
theorem rm2230 (l : Launch) (Z : State) (a0 : Array Value) (hw : ∀ d ∈ tables_1, d.before a0 Z = true) (h0 : Heap) (a13 a15 a21 : Addr) (c30 : ClassId) (p22 p29 : Int32) (p25 p26 : Int32) (p27 p28 p11 : Int32) (a33 : Addr) (F31 : Fld Z h0 a13 own_s1 "slots" "[I" (.ref a21)) (H34 : Arh Z h0 a21 c30 .int 32 [(p22, (.int p29)), (p25, (.int p26)), (p27, (.int p28))] [] (.int 0)) (F39 : Fld Z h0 a15 own_s0 "id" "I" (.int p11)) (E40 : Exa Z h0 a15 own_s0) (hp41 : ¬ ((oH (p11 + 1)) = p22)) (hp42 : ¬ ((oH (p11 + 1)) = p25)) (hp43 : (oH (p11 + 1)) = p27) (hp44 : ¬ (p28 = (p11 + 1))) (hp45 : ¬ (p28 = 0)) (hp46 : ¬ ((oN (oH (p11 + 1))) = p22)) (hp47 : (oN (oH (p11 + 1))) = p25) (hp48 : ¬ (p26 = (p11 + 1))) (hp49 : ¬ (p26 = 0)) (hp50 : (oN (oN (oH (p11 + 1)))) = p22) (hp51 : p29 = (p11 + 1)) (E36 : Exa Z h0 a13 own_s1) (F52 : Fld Z h0 a13 own_s1 "size" "I" (.int 3)) (ne32 : a13 ≠ a21) (hp53 : ¬ ((oN (oN (oN (oH (p11 + 1))))) = p22)) (hp54 : ¬ ((oN (oN (oN (oH (p11 + 1))))) = p25)) (hp55 : ¬ ((oN (oN (oN (oH (p11 + 1))))) = p27)) (F56 : Fld Z h0 a13 own_s1 "indices" "[I" (.ref a33)) :
    own_Con l Z own_y2 prog_7_method_5_code 7 none ({ frames := 2, cells := 0, slots := 0, locals := 29 } : Room) #[(.ref a13), (.ref a15)] h0 (own_Q2230 Z h0 a13 a15 a21 c30 p22 p29 p25 p26 p27 p28 p11 a33) := by
 refine MetFree.of_bodySF (plainFor_of_name own_pn8) hisR ?_
 intro p e s m args below meth c s₁ Bd hml0 hP hK
 obtain ⟨rfl, hZ, hh⟩ := hP
 have hx := Bd.exec
 have hby := Bd.bytes
 have hml : c.maxLocals = 7 := hml0
 have hown : s.vm.findClass own_s1 = some m.cls := findClass_of_methodNamed Bd.named
 have hnm := (name_of_methodNamed Bd.named Bd.method).1
 have X0 : Stand p l e ({ frames := 2, cells := 0, slots := 0, locals := 29 } : Room) s m #[(.ref a13), (.ref a15)] below meth c s₁ [] 0 0 := Stand.of_body Bd
 have e0 : s₁.heap = h0 := by rw [← hh, Bd.state]; rfl
 have K0 : own_Kp h0 h0 [a21, a13] [] := own_kpRefl _ _
 show own_Go p e below (own_K s (own_Q2230 Z h0 a13 a15 a21 c30 p22 p29 p25 p26 p27 p28 p11 a33) 0 0) s₁ (entryFrame m #[(.ref a13), (.ref a15)] 7)
 rw [own_ef804]
 obtain ⟨T16, X16, e16, st16⟩ := own_gF X0 hx hZ hown hby (own_wd hw 148 rfl) e0 F31 d21_1 #[.val (.ref a13), .val (.ref a15), .unset, .unset, .unset, .unset, .unset] []
 obtain ⟨cl18, Ar18, q18, S18, N18, H18, G18⟩ := id H34
 let l1 : Array Slot := #[.val (.ref a13), .val (.ref a15), .val (.int 31), .unset, .unset, .unset, .unset]
 obtain ⟨_, T19, L19, X19, ⟨rfl, rfl, e19⟩, st19⟩ := own_cv X16 hx hZ hown (own_w475 hw) hml (g := (mkF m 10 l1 [(.ref a15), (.ref a13)])) (hb hby d21_10) e16 E40 [] [(.ref a13)] (lenOf own_pd5 rfl) (rm462 l Z a0 hw h0 a15 p11 F39)
 obtain ⟨_, T20, L20, X20, ⟨rfl, rfl, e20⟩, st20⟩ := own_cp X19 hx hZ hown (own_w499 hw) hml (g := (mkF m 15 l1 [(.int (p11 + 1)), (.ref a13)])) (hb hby d21_15) e19 E36 [(.int (p11 + 1))] [] (lenOf own_pd13 rfl) (rm2263 l Z a0 hw h0 a13 (p11 + 1) a21 c30 p22 p29 p25 p26 p27 p28 F31 H34 hp41 hp42 hp43 hp44 hp45 hp46 hp47 hp48 hp49 hp50 hp51)
 let l2 : Array Slot := #[.val (.ref a13), .val (.ref a15), .val (.int 31), .val (.int (oN (oN (oH (p11 + 1))))), .unset, .unset, .unset]
 obtain ⟨T23, X23, e23, st23⟩ := own_gF X20 hx hZ hown hby (own_wd hw 148 rfl) e20 F31 d21_20 l2 []
 obtain ⟨cl10, Ar10, q10, S10, N10, H10, G10⟩ := id H34
 have hin10 := inb_of S10 ⟨(ar898 (oH (p11 + 1)) ), (ar899 (oH (p11 + 1)) )⟩
 obtain ⟨T10, h10, X10, e10, W10, st10⟩ := stI X23 hx hZ e23 Ar10 (j := (oN (oN (oH (p11 + 1))))) hin10 (g := (mkF m 25 l2 [(.int 0), (.int (oN (oN (oH (p11 + 1))))), (.ref a21)])) rfl rfl (hb hby d21_25)
 have V10 := Arh.push Ar10 q10 S10 N10 H10 G10 rfl W10 hin10
 have K10 := own_kpWr K0 W10 (Or.inl (List.mem_of_getElem? (i := 0) rfl))
 have z_W10 := Nat.le_of_eq W10.size.symm
 have F35 := (Fld.other W10 F52 (Or.inl ne32))
 obtain ⟨T24, X24, e24, st24⟩ := own_gF X10 hx hZ hown hby (own_wd hw 157 rfl) e10 F35 d21_28 l2 [(.ref a13)]
 have E57 := (Exa.wr W10 E36)
 obtain ⟨T12, h12, X12, e12, W12, st12⟩ := putF X24 hx hZ hown (host := "") (Or.inl (own_wd hw 157 rfl)) Via.refl e24 F35 E57 (Or.inl (own_wd hw 158 rfl)) (own_wd hw 141 rfl) (ty := .int) (by decide) rfl rfl (g := (mkF m 33 l2 [(.int 2), (.ref a13)])) rfl rfl (hb hby d21_33)
 have F12 := Fld.same W12 F35
 have K12 := own_kpWr K10 W12 (Or.inl (List.mem_of_getElem? (i := 1) rfl))
 have z_W12 := Nat.le_of_eq W12.size.symm
 have F37 := (Fld.other W12 (Fld.other W10 F31 (Or.inl ne32)) (Or.inr (slot_ne (Or.inl (own_wd hw 149 rfl)) (Or.inl (own_wd hw 158 rfl)) (by decide) (t := (.array .int)) (t' := .int) (by decide) (by decide))))
 let l3 : Array Slot := #[.val (.ref a13), .val (.ref a15), .val (.int 31), .val (.int (oN (oN (oH (p11 + 1))))), .val (.int (oN (oN (oN (oH (p11 + 1)))))), .unset, .unset]
 obtain ⟨T17, X17, e17, st17⟩ := own_gF X12 hx hZ hown hby (own_wd hw 148 rfl) e12 F37 d21_44 l3 []
 have H38 := (Arh.other V10 W12 (Ne.symm ne32))
 obtain ⟨cl14, Ar14, q14, S14, N14, H14, G14⟩ := id H38
 have hin14 := inb_of S14 ⟨(ar925 (oH (p11 + 1)) ), (ar926 (oH (p11 + 1)) )⟩
 have hat14 := atH H14 hin14 (getH_miss (ar925 (oH (p11 + 1)) ) (ar927 (oH (p11 + 1)) ) (getH_miss (ar925 (oH (p11 + 1)) ) hp53 (getH_miss (ar925 (oH (p11 + 1)) ) hp54 (getH_miss (ar925 (oH (p11 + 1)) ) hp55 (getH_all rfl _)))))
 have F58 := (Fld.other W12 (Fld.other W10 F56 (Or.inl ne32)) (Or.inr (slot_ne (Or.inl (own_wd hw 151 rfl)) (Or.inl (own_wd hw 158 rfl)) (by decide) (t := (.array .int)) (t' := .int) (by decide) (by decide))))
 refine own_go (T2 := T17) (g2 := (mkF m 142 l3 [])) (fun t k => z_aloadN X0 hx hby d21_0 rfl rfl (st16 _ (own_alen X16 hx hZ e16 Ar18 S18 N18 rfl rfl (hb hby d21_4) (z_iconst X16 hx hby d21_5 (z_isub X16 hx hby d21_6 (z_istoreN X16 hx hby d21_7 l1 rfl (z_aloadN X16 hx hby d21_8 rfl rfl (z_aloadN X16 hx hby d21_9 rfl rfl (st19 _ (z_iconst X19 hx hby d21_13 (z_iadd X19 hx hby d21_14 (st20 _ (z_istoreN X20 hx hby d21_18 l2 rfl (z_aloadN X20 hx hby d21_19 rfl rfl (st23 _ (z_iloadN X23 hx hby d21_23 rfl (z_iconst X23 hx hby d21_24 (st10 _ (z_aloadN X10 hx hby d21_26 rfl rfl (z_dup X10 hx hby d21_27 rfl (st24 _ (z_iconst X24 hx hby d21_31 (z_isub X24 hx hby d21_32 (st12 _ (z_iloadN X12 hx hby d21_36 rfl (z_iconst X12 hx hby d21_37 (z_iadd X12 hx hby d21_38 (z_iloadN X12 hx hby d21_39 rfl (z_iand X12 hx hby d21_40 (z_istore X12 hx hby d21_41 l3 rfl (z_aloadN X12 hx hby d21_43 rfl rfl (st17 _ (z_iload X17 hx hby d21_47 rfl (own_ial X17 hx hZ e17 Ar14 hin14 hat14 rfl rfl (hb hby d21_49) (z_ifYes X17 hx hby 142 d21_50 ((if0 _ _).trans (teq (show (0 : Int32) = 0 from (by decide))).1) rfl k))))))))))))))))))))))))))))))))))) ?_
 exact own_endV X17 hx Bd.notSynchronized Bd.returns (hb hby d21_142) (by decide) (by decide) (by rw [e17]; exact ⟨rfl, (by simpa only [List.append_nil] using K12), H38, F37, F12, F58⟩)
set_option maxRecDepth 65536 in
set_option maxHeartbeats 40000000 in
theorem rm2429 (l : Launch) (Z : State) (a0 : Array Value) (hw : ∀ d ∈ tables_1, d.before a0 Z = true) (h0 : Heap) (a18 : Addr) (p10 : Int32) (a21 : Addr) (c26 : ClassId) (p22 p27 : Int32) (p23 p28 : Int32) (F19 : Fld Z h0 a18 own_s1 "slots" "[I" (.ref a21)) (H20 : Arh Z h0 a21 c26 .int 32 [(p22, (.int p27)), (p23, (.int p28))] [] (.int 0)) (hp24 : ¬ ((oH p10) = p22)) (hp25 : ¬ ((oH p10) = p23)) (hp29 : ¬ ((0 : Int32) = p10)) :
    own_Con l Z own_y1 prog_7_method_6_code 4 (some .int) ({ frames := 1, cells := 0, slots := 0, locals := 14 } : Room) #[(.ref a18), (.int p10)] h0 (own_QP (some (.int (oH p10))) h0) := by
 refine MetFree.of_bodySF (plainFor_of_name own_pn8) hisR ?_
 intro p e s m args below meth c s₁ Bd hml0 hP hK
 obtain ⟨rfl, hZ, hh⟩ := hP
 have hx := Bd.exec
 have hby := Bd.bytes
 have hml : c.maxLocals = 4 := hml0
 have hown : s.vm.findClass own_s1 = some m.cls := findClass_of_methodNamed Bd.named
 have hnm := (name_of_methodNamed Bd.named Bd.method).1
 have X0 : Stand p l e ({ frames := 1, cells := 0, slots := 0, locals := 14 } : Room) s m #[(.ref a18), (.int p10)] below meth c s₁ [] 0 0 := Stand.of_body Bd
 have e0 : s₁.heap = h0 := by rw [← hh, Bd.state]; rfl
 have K0 : own_Kp h0 h0 [] [] := own_kpRefl _ _
 show own_Go p e below (own_K s (own_QP (some (.int (oH p10))) h0) 0 0) s₁ (entryFrame m #[(.ref a18), (.int p10)] 4)
 rw [own_ef477]
 obtain ⟨T13, X13, e13, st13⟩ := own_gF X0 hx hZ hown hby (own_wd hw 148 rfl) e0 F19 d19_1 #[.val (.ref a18), .val (.int p10), .unset, .unset] []
 obtain ⟨cl16, Ar16, q16, S16, N16, H16, G16⟩ := id H20
 let l1 : Array Slot := #[.val (.ref a18), .val (.int p10), .val (.int 31), .unset]
 obtain ⟨_, T17, L17, X17, ⟨rfl, rfl, e17⟩, st17⟩ := own_cs X13 hx hZ hown (own_w489 hw) hml (g := (mkF m 10 l1 [(.int 31), (.int p10)])) (hb hby d19_10) e13 [(.int p10), (.int 31)] [] (lenOf own_pd12 rfl) (rm487 l Z a0 hw h0 p10 )
 let l2 : Array Slot := #[.val (.ref a18), .val (.int p10), .val (.int 31), .val (.int (oH p10))]
 obtain ⟨T14, X14, e14, st14⟩ := own_gF X17 hx hZ hown hby (own_wd hw 148 rfl) e17 F19 d19_15 l2 []
 obtain ⟨cl11, Ar11, q11, S11, N11, H11, G11⟩ := id H20
 have hin11 := inb_of S11 ⟨(own_hlo p10), (own_hhi p10)⟩
 have hat11 := atH H11 hin11 (getH_miss (own_hlo p10) hp24 (getH_miss (own_hlo p10) hp25 (getH_all rfl _)))
 obtain ⟨T15, X15, e15, st15⟩ := own_gF X14 hx hZ hown hby (own_wd hw 148 rfl) e14 F19 d19_25 l2 []
 obtain ⟨cl12, Ar12, q12, S12, N12, H12, G12⟩ := id H20
 have hin12 := inb_of S12 ⟨(own_hlo p10), (own_hhi p10)⟩
 have hat12 := atH H12 hin12 (getH_miss (own_hlo p10) hp24 (getH_miss (own_hlo p10) hp25 (getH_all rfl _)))
 refine own_go (T2 := T15) (g2 := (mkF m 43 l2 [(.int (oH p10))])) (fun t k => z_aloadN X0 hx hby d19_0 rfl rfl (st13 _ (own_alen X13 hx hZ e13 Ar16 S16 N16 rfl rfl (hb hby d19_4) (z_iconst X13 hx hby d19_5 (z_isub X13 hx hby d19_6 (z_istoreN X13 hx hby d19_7 l1 rfl (z_iloadN X13 hx hby d19_8 rfl (z_iloadN X13 hx hby d19_9 rfl (st17 _ (z_istoreN X17 hx hby d19_13 l2 rfl (z_aloadN X17 hx hby d19_14 rfl rfl (st14 _ (z_iloadN X14 hx hby d19_18 rfl (own_ial X14 hx hZ e14 Ar11 hin11 hat11 rfl rfl (hb hby d19_19) (z_iloadN X14 hx hby d19_20 rfl (z_icmpNo X14 hx hby d19_21 (feq hp29).1 (z_aloadN X14 hx hby d19_24 rfl rfl (st15 _ (z_iloadN X15 hx hby d19_28 rfl (own_ial X15 hx hZ e15 Ar12 hin12 hat12 rfl rfl (hb hby d19_29) (z_ifYes X15 hx hby 42 d19_30 ((if0 _ _).trans (teq (show (0 : Int32) = 0 from (by decide))).1) rfl (z_iloadN X15 hx hby d19_42 rfl k)))))))))))))))))))))) ?_
 exact own_endI X15 hx Bd.notSynchronized Bd.returns (hb hby d19_43) (by decide) (by decide) ⟨rfl, rfl, e15⟩
def own_Q2391 (Z : State) (h0 : Heap) (a2392 : Addr) (a2393 : Addr) (p2394 : Int32) (a2397 : Addr) (c2400 : ClassId) (p2401 : Int32) (p2402 : Int32) (p2403 : Int32) (p2404 : Int32) (p2414 : Int32) (a2457 : Addr) (c2462 : ClassId) (p2463 : Int32) (p2464 : Int32) (v : Option Value) (h : Heap) (L : List Loc) : Prop := v = none ∧ own_Kp h0 h [a2397, a2457, a2392] L ∧ Arh Z h a2397 c2400 .int 32 [((oH (p2414 + 1)), (.int (p2414 + 1))), (p2401, (.int p2402)), (p2403, (.int p2404))] [] (.int 0) ∧ Arh Z h a2457 c2462 .int 32 [((oH (p2414 + 1)), (.int p2394)), (p2401, (.int p2463)), (p2403, (.int p2464))] [] (.int 0) ∧ Fld Z h a2392 own_s1 "size" "I" (.int 3) ∧ Fld Z h a2392 own_s1 "slots" "[I" (.ref a2397) ∧ Fld Z h a2392 own_s1 "indices" "[I" (.ref a2457)
set_option maxRecDepth 65536 in
set_option maxHeartbeats 40000000 in
theorem rm2391 (l : Launch) (Z : State) (a0 : Array Value) (hw : ∀ d ∈ tables_1, d.before a0 Z = true) (h0 : Heap) (a14 a15 : Addr) (p19 : Int32) (a20 : Addr) (c29 : ClassId) (p27 p30 : Int32) (p28 p31 p12 : Int32) (a23 : Addr) (c35 : ClassId) (p36 p37 : Int32) (F40 : Fld Z h0 a14 own_s1 "size" "I" (.int 2)) (F32 : Fld Z h0 a14 own_s1 "slots" "[I" (.ref a20)) (H38 : Arh Z h0 a20 c29 .int 32 [(p27, (.int p30)), (p28, (.int p31))] [] (.int 0)) (F44 : Fld Z h0 a15 own_s0 "id" "I" (.int p12)) (E45 : Exa Z h0 a15 own_s0) (hp46 : ¬ ((oH (p12 + 1)) = p27)) (hp47 : ¬ ((oH (p12 + 1)) = p28)) (hp48 : ¬ ((0 : Int32) = (p12 + 1))) (E41 : Exa Z h0 a14 own_s1) (F49 : Fld Z h0 a14 own_s1 "indices" "[I" (.ref a23)) (ne33 : a14 ≠ a20) (H50 : Arh Z h0 a23 c35 .int 32 [(p27, (.int p36)), (p28, (.int p37))] [] (.int 0)) (ne42 : a23 ≠ a20) (ne34 : a14 ≠ a23) :
    own_Con l Z own_y3 prog_7_method_3_code 5 none ({ frames := 2, cells := 0, slots := 0, locals := 29 } : Room) #[(.ref a14), (.ref a15), (.int p19)] h0 (own_Q2391 Z h0 a14 a15 p19 a20 c29 p27 p30 p28 p31 p12 a23 c35 p36 p37) := by
 refine MetFree.of_bodySF (plainFor_of_name own_pn8) hisR ?_
 intro p e s m args below meth c s₁ Bd hml0 hP hK
 obtain ⟨rfl, hZ, hh⟩ := hP
 have hx := Bd.exec
 have hby := Bd.bytes
 have hml : c.maxLocals = 5 := hml0
 have hown : s.vm.findClass own_s1 = some m.cls := findClass_of_methodNamed Bd.named
 have hnm := (name_of_methodNamed Bd.named Bd.method).1
 have X0 : Stand p l e ({ frames := 2, cells := 0, slots := 0, locals := 29 } : Room) s m #[(.ref a14), (.ref a15), (.int p19)] below meth c s₁ [] 0 0 := Stand.of_body Bd
 have e0 : s₁.heap = h0 := by rw [← hh, Bd.state]; rfl
 have K0 : own_Kp h0 h0 [a20, a23, a14] [] := own_kpRefl _ _
 show own_Go p e below (own_K s (own_Q2391 Z h0 a14 a15 p19 a20 c29 p27 p30 p28 p31 p12 a23 c35 p36 p37) 0 0) s₁ (entryFrame m #[(.ref a14), (.ref a15), (.int p19)] 5)
 rw [own_ef449]
 let l1 : Array Slot := #[.val (.ref a14), .val (.ref a15), .val (.int p19), .unset, .unset]
 obtain ⟨T17, X17, e17, st17⟩ := own_gF X0 hx hZ hown hby (own_wd hw 157 rfl) e0 F40 d17_2 l1 [(.int 2)]
 obtain ⟨T18, X18, e18, st18⟩ := own_gF X17 hx hZ hown hby (own_wd hw 148 rfl) e17 F32 d17_9 l1 [(.int 6)]
 obtain ⟨cl21, Ar21, q21, S21, N21, H21, G21⟩ := id H38
 obtain ⟨_, T16, L16, X16, ⟨rfl, rfl, e16⟩, st16⟩ := own_cv X18 hx hZ hown (own_w475 hw) hml (g := (mkF m 21 l1 [(.ref a15)])) (hb hby d17_21) e18 E45 [] [] (lenOf own_pd5 rfl) (rm462 l Z a0 hw h0 a15 p12 F44)
 let l2 : Array Slot := #[.val (.ref a14), .val (.ref a15), .val (.int p19), .val (.int (p12 + 1)), .unset]
 obtain ⟨_, T22, L22, X22, ⟨rfl, rfl, e22⟩, st22⟩ := own_cp X16 hx hZ hown (own_w499 hw) hml (g := (mkF m 29 l2 [(.int (p12 + 1)), (.ref a14)])) (hb hby d17_29) e16 E41 [(.int (p12 + 1))] [] (lenOf own_pd13 rfl) (rm2429 l Z a0 hw h0 a14 (p12 + 1) a20 c29 p27 p30 p28 p31 F32 H38 hp46 hp47 hp48)
 let l3 : Array Slot := #[.val (.ref a14), .val (.ref a15), .val (.int p19), .val (.int (p12 + 1)), .val (.int (oH (p12 + 1)))]
 obtain ⟨T24, X24, e24, st24⟩ := own_gF X22 hx hZ hown hby (own_wd hw 148 rfl) e22 F32 d17_35 l3 []
 obtain ⟨cl11, Ar11, q11, S11, N11, H11, G11⟩ := id H38
 have hin11 := inb_of S11 ⟨(own_hlo (p12 + 1)), (own_hhi (p12 + 1))⟩
 obtain ⟨T11, h11, X11, e11, W11, st11⟩ := stI X24 hx hZ e24 Ar11 (j := (oH (p12 + 1))) hin11 (g := (mkF m 41 l3 [(.int (p12 + 1)), (.int (oH (p12 + 1))), (.ref a20)])) rfl rfl (hb hby d17_41)
 have V11 := Arh.push Ar11 q11 S11 N11 H11 G11 rfl W11 hin11
 have K11 := own_kpWr K0 W11 (Or.inl (List.mem_of_getElem? (i := 0) rfl))
 have z_W11 := Nat.le_of_eq W11.size.symm
 have F43 := (Fld.other W11 F49 (Or.inl ne33))
 obtain ⟨T25, X25, e25, st25⟩ := own_gF X11 hx hZ hown hby (own_wd hw 150 rfl) e11 F43 d17_43 l3 []
 have H51 := (Arh.other H50 W11 ne42)
 obtain ⟨cl10, Ar10, q10, S10, N10, H10, G10⟩ := id H51
 have hin10 := inb_of S10 ⟨(own_hlo (p12 + 1)), (own_hhi (p12 + 1))⟩
 obtain ⟨T10, h10, X10, e10, W10, st10⟩ := stI X25 hx hZ e25 Ar10 (j := (oH (p12 + 1))) hin10 (g := (mkF m 49 l3 [(.int p19), (.int (oH (p12 + 1))), (.ref a23)])) rfl rfl (hb hby d17_49)
 have V10 := Arh.push Ar10 q10 S10 N10 H10 G10 rfl W10 hin10
 have K10 := own_kpWr K11 W10 (Or.inl (List.mem_of_getElem? (i := 1) rfl))
 have z_W10 := Nat.le_of_eq W10.size.symm
 have F39 := (Fld.other W10 (Fld.other W11 F40 (Or.inl ne33)) (Or.inl ne34))
 obtain ⟨T26, X26, e26, st26⟩ := own_gF X10 hx hZ hown hby (own_wd hw 157 rfl) e10 F39 d17_52 l3 [(.ref a14)]
 have E52 := (Exa.wr W10 (Exa.wr W11 E41))
 obtain ⟨T13, h13, X13, e13, W13, st13⟩ := putF X26 hx hZ hown (host := "") (Or.inl (own_wd hw 157 rfl)) Via.refl e26 F39 E52 (Or.inl (own_wd hw 158 rfl)) (own_wd hw 141 rfl) (ty := .int) (by decide) rfl rfl (g := (mkF m 57 l3 [(.int 3), (.ref a14)])) rfl rfl (hb hby d17_57)
 have F13 := Fld.same W13 F39
 have K13 := own_kpWr K10 W13 (Or.inl (List.mem_of_getElem? (i := 2) rfl))
 have z_W13 := Nat.le_of_eq W13.size.symm
 have H53 := (Arh.other (Arh.other V11 W10 (Ne.symm ne42)) W13 (Ne.symm ne33))
 have H54 := (Arh.other V10 W13 (Ne.symm ne34))
 have F55 := (Fld.other W13 (Fld.other W10 (Fld.other W11 F32 (Or.inl ne33)) (Or.inl ne34)) (Or.inr (slot_ne (Or.inl (own_wd hw 149 rfl)) (Or.inl (own_wd hw 158 rfl)) (by decide) (t := (.array .int)) (t' := .int) (by decide) (by decide))))
 have F56 := (Fld.other W13 (Fld.other W10 F43 (Or.inl ne34)) (Or.inr (slot_ne (Or.inl (own_wd hw 151 rfl)) (Or.inl (own_wd hw 158 rfl)) (by decide) (t := (.array .int)) (t' := .int) (by decide) (by decide))))
 refine own_go (T2 := T13) (g2 := (mkF m 60 l3 [])) (fun t k => z_iconst X0 hx hby d17_0 (z_aloadN X0 hx hby d17_1 rfl rfl (st17 _ (z_iconst X17 hx hby d17_5 (z_iadd X17 hx hby d17_6 (XS.imul X17.here hx rfl (hb hby d17_7) rfl (z_aloadN X17 hx hby d17_8 rfl rfl (st18 _ (own_alen X18 hx hZ e18 Ar21 S21 N21 rfl rfl (hb hby d17_12) (z_icmpYes X18 hx hby 20 d17_13 (flt (show ¬ ((32 : Int32) < 6) from (by decide))).2.2.2 rfl (z_aloadN X18 hx hby d17_20 rfl rfl (st16 _ (z_iconst X16 hx hby d17_24 (z_iadd X16 hx hby d17_25 (z_istoreN X16 hx hby d17_26 l2 rfl (z_aloadN X16 hx hby d17_27 rfl rfl (z_iloadN X16 hx hby d17_28 rfl (st22 _ (z_istore X22 hx hby d17_32 l3 rfl (z_aloadN X22 hx hby d17_34 rfl rfl (st24 _ (z_iload X24 hx hby d17_38 rfl (z_iloadN X24 hx hby d17_40 rfl (st11 _ (z_aloadN X11 hx hby d17_42 rfl rfl (st25 _ (z_iload X25 hx hby d17_46 rfl (z_iloadN X25 hx hby d17_48 rfl (st10 _ (z_aloadN X10 hx hby d17_50 rfl rfl (z_dup X10 hx hby d17_51 rfl (st26 _ (z_iconst X26 hx hby d17_55 (z_iadd X26 hx hby d17_56 (st13 _ k))))))))))))))))))))))))))))))))))) ?_
 exact own_endV X13 hx Bd.notSynchronized Bd.returns (hb hby d17_60) (by decide) (by decide) (by rw [e13]; exact ⟨rfl, (by simpa only [List.append_nil] using K13), H53, H54, F13, F55, F56⟩)
theorem ar2484 (x0 x1 : Int32) (h0 : ¬ (x1 = ((x0 + 1) &&& 31))) : ¬ (((x0 + 1) &&& 31) = x1) := by
  have f3 := rng32 x0
  have f4 : (1 : Int32).toInt = 1 := by decide
  have f2r := rng32 (x0 + 1)
  have f2 := c_iadd x0 (1 : Int32)
  have f5 : (31 : Int32).toInt = 31 := by decide
  have f1r := rng32 ((x0 + 1) &&& 31)
  have f1 : ((x0 + 1) &&& 31).toInt = (x0 + 1).toInt % 32 := c_mask (x0 + 1) (31 : Int32) 5 (by decide) (by decide)
  have f6 := rng32 x1
  have g0 := mt Int32.toInt_inj.mp h0
  exact fun q => absurd (Int32.toInt_inj.mpr q) (by omega)
theorem ar2590 (x0 x1 : Int32) (h0 : ((((x0 + 1) &&& 31) + 1) &&& 31) = x1) : ((((((x0 + 1) &&& 31) + 1) &&& 31) - x1) &&& 31) < ((((((x0 + 1) &&& 31) + 1) &&& 31) - ((x0 + 1) &&& 31)) &&& 31) := by
  have f7 := rng32 x0
  have f8 : (1 : Int32).toInt = 1 := by decide
  have f6r := rng32 (x0 + 1)
  have f6 := c_iadd x0 (1 : Int32)
  have f9 : (31 : Int32).toInt = 31 := by decide
  have f5r := rng32 ((x0 + 1) &&& 31)
  have f5 : ((x0 + 1) &&& 31).toInt = (x0 + 1).toInt % 32 := c_mask (x0 + 1) (31 : Int32) 5 (by decide) (by decide)
  have f4r := rng32 (((x0 + 1) &&& 31) + 1)
  have f4 := c_iadd ((x0 + 1) &&& 31) (1 : Int32)
  have f3r := rng32 ((((x0 + 1) &&& 31) + 1) &&& 31)
  have f3 : ((((x0 + 1) &&& 31) + 1) &&& 31).toInt = (((x0 + 1) &&& 31) + 1).toInt % 32 := c_mask (((x0 + 1) &&& 31) + 1) (31 : Int32) 5 (by decide) (by decide)
  have f10 := rng32 x1
  have f2r := rng32 (((((x0 + 1) &&& 31) + 1) &&& 31) - x1)
  have f2 := c_isub ((((x0 + 1) &&& 31) + 1) &&& 31) x1
  have f1r := rng32 ((((((x0 + 1) &&& 31) + 1) &&& 31) - x1) &&& 31)
  have f1 : ((((((x0 + 1) &&& 31) + 1) &&& 31) - x1) &&& 31).toInt = (((((x0 + 1) &&& 31) + 1) &&& 31) - x1).toInt % 32 := c_mask (((((x0 + 1) &&& 31) + 1) &&& 31) - x1) (31 : Int32) 5 (by decide) (by decide)
  have f12r := rng32 (((((x0 + 1) &&& 31) + 1) &&& 31) - ((x0 + 1) &&& 31))
  have f12 := c_isub ((((x0 + 1) &&& 31) + 1) &&& 31) ((x0 + 1) &&& 31)
  have f11r := rng32 ((((((x0 + 1) &&& 31) + 1) &&& 31) - ((x0 + 1) &&& 31)) &&& 31)
  have f11 : ((((((x0 + 1) &&& 31) + 1) &&& 31) - ((x0 + 1) &&& 31)) &&& 31).toInt = (((((x0 + 1) &&& 31) + 1) &&& 31) - ((x0 + 1) &&& 31)).toInt % 32 := c_mask (((((x0 + 1) &&& 31) + 1) &&& 31) - ((x0 + 1) &&& 31)) (31 : Int32) 5 (by decide) (by decide)
  have g0 := Int32.toInt_inj.mpr h0
  exact Int32.lt_iff_toInt_lt.mpr (by omega)
theorem d21_86 : decode c_7_5 86 = .ok (.iconst 0, 1) := by decide +kernel
theorem ar2691 (x0 x1 : Int32) (h0 : ((((x0 + 1) &&& 31) + 1) &&& 31) = x1) : ¬ (((((((x0 + 1) &&& 31) + 1) &&& 31) + 1) &&& 31) = x1) := by
  have f7 := rng32 x0
  have f8 : (1 : Int32).toInt = 1 := by decide
  have f6r := rng32 (x0 + 1)
  have f6 := c_iadd x0 (1 : Int32)
  have f9 : (31 : Int32).toInt = 31 := by decide
  have f5r := rng32 ((x0 + 1) &&& 31)
  have f5 : ((x0 + 1) &&& 31).toInt = (x0 + 1).toInt % 32 := c_mask (x0 + 1) (31 : Int32) 5 (by decide) (by decide)
  have f4r := rng32 (((x0 + 1) &&& 31) + 1)
  have f4 := c_iadd ((x0 + 1) &&& 31) (1 : Int32)
  have f3r := rng32 ((((x0 + 1) &&& 31) + 1) &&& 31)
  have f3 : ((((x0 + 1) &&& 31) + 1) &&& 31).toInt = (((x0 + 1) &&& 31) + 1).toInt % 32 := c_mask (((x0 + 1) &&& 31) + 1) (31 : Int32) 5 (by decide) (by decide)
  have f2r := rng32 (((((x0 + 1) &&& 31) + 1) &&& 31) + 1)
  have f2 := c_iadd ((((x0 + 1) &&& 31) + 1) &&& 31) (1 : Int32)
  have f1r := rng32 ((((((x0 + 1) &&& 31) + 1) &&& 31) + 1) &&& 31)
  have f1 : ((((((x0 + 1) &&& 31) + 1) &&& 31) + 1) &&& 31).toInt = (((((x0 + 1) &&& 31) + 1) &&& 31) + 1).toInt % 32 := c_mask (((((x0 + 1) &&& 31) + 1) &&& 31) + 1) (31 : Int32) 5 (by decide) (by decide)
  have f10 := rng32 x1
  have g0 := Int32.toInt_inj.mpr h0
  exact fun q => absurd (Int32.toInt_inj.mpr q) (by omega)
def own_Q2603 (Z : State) (h0 : Heap) (a2604 : Addr) (a2605 : Addr) (a2606 : Addr) (c2609 : ClassId) (p2610 : Int32) (p2611 : Int32) (p2612 : Int32) (p2613 : Int32) (p2614 : Int32) (p2615 : Int32) (p2624 : Int32) (a2658 : Addr) (c2663 : ClassId) (p2664 : Int32) (p2665 : Int32) (p2666 : Int32) (v : Option Value) (h : Heap) (L : List Loc) : Prop := v = none ∧ own_Kp h0 h [a2606, a2604, a2658] L ∧ Arh Z h a2606 c2609 .int 32 [((((oH (p2624 + 1)) + 1) &&& 31), (.int 0)), ((oH (p2624 + 1)), (.int p2613)), ((oH (p2624 + 1)), (.int 0)), (p2610, (.int p2611)), (p2612, (.int p2613)), (p2614, (.int p2615))] [] (.int 0) ∧ Fld Z h a2604 own_s1 "slots" "[I" (.ref a2606) ∧ Fld Z h a2604 own_s1 "size" "I" (.int 2) ∧ Fld Z h a2604 own_s1 "indices" "[I" (.ref a2658) ∧ Arh Z h a2658 c2663 .int 32 [((oH (p2624 + 1)), (.int p2665)), (p2610, (.int p2664)), (p2612, (.int p2665)), (p2614, (.int p2666))] [] (.int 0)
set_option maxRecDepth 65536 in
set_option maxHeartbeats 40000000 in
theorem rm2603 (l : Launch) (Z : State) (a0 : Array Value) (hw : ∀ d ∈ tables_1, d.before a0 Z = true) (h0 : Heap) (a16 a19 a29 : Addr) (c53 : ClassId) (p37 p51 : Int32) (p44 p20 : Int32) (p50 p30 p10 : Int32) (a38 : Addr) (c62 : ClassId) (p63 p54 p64 : Int32) (F55 : Fld Z h0 a16 own_s1 "slots" "[I" (.ref a29)) (H65 : Arh Z h0 a29 c53 .int 32 [(p37, (.int p51)), (p44, (.int p20)), (p50, (.int p30))] [] (.int 0)) (F74 : Fld Z h0 a19 own_s0 "id" "I" (.int p10)) (E75 : Exa Z h0 a19 own_s0) (hp76 : (oH (p10 + 1)) = p37) (hp77 : p51 = (p10 + 1)) (E68 : Exa Z h0 a16 own_s1) (F78 : Fld Z h0 a16 own_s1 "size" "I" (.int 3)) (ne34 : a16 ≠ a29) (hp56 : ¬ ((oN (oH (p10 + 1))) = p37)) (hp57 : (oN (oH (p10 + 1))) = p44) (hp79 : ¬ (p20 = 0)) (hp80 : ¬ ((((oN (oH (p10 + 1))) - (oH p20)) &&& 31) < (((oN (oH (p10 + 1))) - (oH (p10 + 1))) &&& 31))) (F81 : Fld Z h0 a16 own_s1 "indices" "[I" (.ref a38)) (H82 : Arh Z h0 a38 c62 .int 32 [(p37, (.int p63)), (p44, (.int p54)), (p50, (.int p64))] [] (.int 0)) (ne58 : a38 ≠ a29) (ne59 : a38 ≠ a16) (hp69 : ¬ ((oN (oN (oH (p10 + 1)))) = p37)) (hp70 : ¬ ((oN (oN (oH (p10 + 1)))) = p44)) (hp71 : (oN (oN (oH (p10 + 1)))) = p50) (hp83 : ¬ (p30 = 0)) (hp84 : (((oN (oN (oH (p10 + 1)))) - (oH p30)) &&& 31) < (((oN (oN (oH (p10 + 1)))) - (oN (oH (p10 + 1)))) &&& 31)) (hp85 : ¬ ((oN (oN (oN (oH (p10 + 1))))) = p37)) (hp86 : ¬ ((oN (oN (oN (oH (p10 + 1))))) = p44)) (hp87 : ¬ ((oN (oN (oN (oH (p10 + 1))))) = p50)) :
    own_Con l Z own_y2 prog_7_method_5_code 7 none ({ frames := 2, cells := 0, slots := 0, locals := 29 } : Room) #[(.ref a16), (.ref a19)] h0 (own_Q2603 Z h0 a16 a19 a29 c53 p37 p51 p44 p20 p50 p30 p10 a38 c62 p63 p54 p64) := by
 refine MetFree.of_bodySF (plainFor_of_name own_pn8) hisR ?_
 intro p e s m args below meth c s₁ Bd hml0 hP hK
 obtain ⟨rfl, hZ, hh⟩ := hP
 have hx := Bd.exec
 have hby := Bd.bytes
 have hml : c.maxLocals = 7 := hml0
 have hown : s.vm.findClass own_s1 = some m.cls := findClass_of_methodNamed Bd.named
 have hnm := (name_of_methodNamed Bd.named Bd.method).1
 have X0 : Stand p l e ({ frames := 2, cells := 0, slots := 0, locals := 29 } : Room) s m #[(.ref a16), (.ref a19)] below meth c s₁ [] 0 0 := Stand.of_body Bd
 have e0 : s₁.heap = h0 := by rw [← hh, Bd.state]; rfl
 have K0 : own_Kp h0 h0 [a29, a16, a38] [] := own_kpRefl _ _
 show own_Go p e below (own_K s (own_Q2603 Z h0 a16 a19 a29 c53 p37 p51 p44 p20 p50 p30 p10 a38 c62 p63 p54 p64) 0 0) s₁ (entryFrame m #[(.ref a16), (.ref a19)] 7)
 rw [own_ef804]
 obtain ⟨T28, X28, e28, st28⟩ := own_gF X0 hx hZ hown hby (own_wd hw 148 rfl) e0 F55 d21_1 #[.val (.ref a16), .val (.ref a19), .unset, .unset, .unset, .unset, .unset] []
 obtain ⟨cl39, Ar39, q39, S39, N39, H39, G39⟩ := id H65
 let l1 : Array Slot := #[.val (.ref a16), .val (.ref a19), .val (.int 31), .unset, .unset, .unset, .unset]
 obtain ⟨_, T40, L40, X40, ⟨rfl, rfl, e40⟩, st40⟩ := own_cv X28 hx hZ hown (own_w475 hw) hml (g := (mkF m 10 l1 [(.ref a19), (.ref a16)])) (hb hby d21_10) e28 E75 [] [(.ref a16)] (lenOf own_pd5 rfl) (rm462 l Z a0 hw h0 a19 p10 F74)
 obtain ⟨_, T41, L41, X41, ⟨rfl, rfl, e41⟩, st41⟩ := own_cp X40 hx hZ hown (own_w499 hw) hml (g := (mkF m 15 l1 [(.int (p10 + 1)), (.ref a16)])) (hb hby d21_15) e40 E68 [(.int (p10 + 1))] [] (lenOf own_pd13 rfl) (rm830 l Z a0 hw h0 a16 (p10 + 1) a29 c53 p37 p51 p44 p20 p50 p30 F55 H65 hp76 hp77)
 let l2 : Array Slot := #[.val (.ref a16), .val (.ref a19), .val (.int 31), .val (.int (oH (p10 + 1))), .unset, .unset, .unset]
 obtain ⟨T45, X45, e45, st45⟩ := own_gF X41 hx hZ hown hby (own_wd hw 148 rfl) e41 F55 d21_20 l2 []
 obtain ⟨cl12, Ar12, q12, S12, N12, H12, G12⟩ := id H65
 have hin12 := inb_of S12 ⟨(own_hlo (p10 + 1)), (own_hhi (p10 + 1))⟩
 obtain ⟨T12, h12, X12, e12, W12, st12⟩ := stI X45 hx hZ e45 Ar12 (j := (oH (p10 + 1))) hin12 (g := (mkF m 25 l2 [(.int 0), (.int (oH (p10 + 1))), (.ref a29)])) rfl rfl (hb hby d21_25)
 have V12 := Arh.push Ar12 q12 S12 N12 H12 G12 rfl W12 hin12
 have K12 := own_kpWr K0 W12 (Or.inl (List.mem_of_getElem? (i := 0) rfl))
 have z_W12 := Nat.le_of_eq W12.size.symm
 have F66 := (Fld.other W12 F78 (Or.inl ne34))
 obtain ⟨T46, X46, e46, st46⟩ := own_gF X12 hx hZ hown hby (own_wd hw 157 rfl) e12 F66 d21_28 l2 [(.ref a16)]
 have E88 := (Exa.wr W12 E68)
 obtain ⟨T17, h17, X17, e17, W17, st17⟩ := putF X46 hx hZ hown (host := "") (Or.inl (own_wd hw 157 rfl)) Via.refl e46 F66 E88 (Or.inl (own_wd hw 158 rfl)) (own_wd hw 141 rfl) (ty := .int) (by decide) rfl rfl (g := (mkF m 33 l2 [(.int 2), (.ref a16)])) rfl rfl (hb hby d21_33)
 have F17 := Fld.same W17 F66
 have K17 := own_kpWr K12 W17 (Or.inl (List.mem_of_getElem? (i := 1) rfl))
 have z_W17 := Nat.le_of_eq W17.size.symm
 have F52 := (Fld.other W17 (Fld.other W12 F55 (Or.inl ne34)) (Or.inr (slot_ne (Or.inl (own_wd hw 149 rfl)) (Or.inl (own_wd hw 158 rfl)) (by decide) (t := (.array .int)) (t' := .int) (by decide) (by decide))))
 let l3 : Array Slot := #[.val (.ref a16), .val (.ref a19), .val (.int 31), .val (.int (oH (p10 + 1))), .val (.int (oN (oH (p10 + 1)))), .unset, .unset]
 obtain ⟨T31, X31, e31, st31⟩ := own_gF X17 hx hZ hown hby (own_wd hw 148 rfl) e17 F52 d21_44 l3 []
 have H60 := (Arh.other V12 W17 (Ne.symm ne34))
 obtain ⟨cl21, Ar21, q21, S21, N21, H21, G21⟩ := id H60
 have hin21 := inb_of S21 ⟨(ar622 (oH (p10 + 1)) ), (ar623 (oH (p10 + 1)) )⟩
 have hat21 := atH H21 hin21 (getH_miss (ar622 (oH (p10 + 1)) ) (ar799 (oH (p10 + 1)) ) (getH_miss (ar622 (oH (p10 + 1)) ) hp56 (getH_hit (ar622 (oH (p10 + 1)) ) hp57)))
 obtain ⟨T35, X35, e35, st35⟩ := own_gF X31 hx hZ hown hby (own_wd hw 148 rfl) e31 F52 d21_54 l3 []
 obtain ⟨cl22, Ar22, q22, S22, N22, H22, G22⟩ := id H60
 have hin22 := inb_of S22 ⟨(ar622 (oH (p10 + 1)) ), (ar623 (oH (p10 + 1)) )⟩
 have hat22 := atH H22 hin22 (getH_miss (ar622 (oH (p10 + 1)) ) (ar799 (oH (p10 + 1)) ) (getH_miss (ar622 (oH (p10 + 1)) ) hp56 (getH_hit (ar622 (oH (p10 + 1)) ) hp57)))
 obtain ⟨_, T18, L18, X18, ⟨rfl, rfl, e18⟩, st18⟩ := own_cs X35 hx hZ hown (own_w489 hw) hml (g := (mkF m 61 l3 [(.int 31), (.int p20)])) (hb hby d21_61) e35 [(.int p20), (.int 31)] [] (lenOf own_pd12 rfl) (rm487 l Z a0 hw h17 p20 )
 let l4 : Array Slot := #[.val (.ref a16), .val (.ref a19), .val (.int 31), .val (.int (oH (p10 + 1))), .val (.int (oN (oH (p10 + 1)))), .val (.int (oH p20)), .unset]
 refine own_go (T2 := T18) (g2 := (mkF m 77 l4 [(.int ((oN (oH (p10 + 1))) - (oH (p10 + 1)))), (.int (((oN (oH (p10 + 1))) - (oH p20)) &&& 31))])) (fun t k => z_aloadN X0 hx hby d21_0 rfl rfl (st28 _ (own_alen X28 hx hZ e28 Ar39 S39 N39 rfl rfl (hb hby d21_4) (z_iconst X28 hx hby d21_5 (z_isub X28 hx hby d21_6 (z_istoreN X28 hx hby d21_7 l1 rfl (z_aloadN X28 hx hby d21_8 rfl rfl (z_aloadN X28 hx hby d21_9 rfl rfl (st40 _ (z_iconst X40 hx hby d21_13 (z_iadd X40 hx hby d21_14 (st41 _ (z_istoreN X41 hx hby d21_18 l2 rfl (z_aloadN X41 hx hby d21_19 rfl rfl (st45 _ (z_iloadN X45 hx hby d21_23 rfl (z_iconst X45 hx hby d21_24 (st12 _ (z_aloadN X12 hx hby d21_26 rfl rfl (z_dup X12 hx hby d21_27 rfl (st46 _ (z_iconst X46 hx hby d21_31 (z_isub X46 hx hby d21_32 (st17 _ (z_iloadN X17 hx hby d21_36 rfl (z_iconst X17 hx hby d21_37 (z_iadd X17 hx hby d21_38 (z_iloadN X17 hx hby d21_39 rfl (z_iand X17 hx hby d21_40 (z_istore X17 hx hby d21_41 l3 rfl (z_aloadN X17 hx hby d21_43 rfl rfl (st31 _ (z_iload X31 hx hby d21_47 rfl (own_ial X31 hx hZ e31 Ar21 hin21 hat21 rfl rfl (hb hby d21_49) (z_ifNo X31 hx hby d21_50 ((if0 _ _).trans (feq hp79).1) (z_aloadN X31 hx hby d21_53 rfl rfl (st35 _ (z_iload X35 hx hby d21_57 rfl (own_ial X35 hx hZ e35 Ar22 hin22 hat22 rfl rfl (hb hby d21_59) (z_iloadN X35 hx hby d21_60 rfl (st18 _ (z_istore X18 hx hby d21_64 l4 rfl (z_iload X18 hx hby d21_66 rfl (z_iload X18 hx hby d21_68 rfl (z_isub X18 hx hby d21_70 (z_iloadN X18 hx hby d21_71 rfl (z_iand X18 hx hby d21_72 (z_iload X18 hx hby d21_73 rfl (z_iloadN X18 hx hby d21_75 rfl (z_isub X18 hx hby d21_76 k)))))))))))))))))))))))))))))))))))))))))))))))))) ?_
 let l5 : Array Slot := #[.val (.ref a16), .val (.ref a19), .val (.int 31), .val (.int (oH (p10 + 1))), .val (.int (oN (oH (p10 + 1)))), .val (.int (oH p20)), .val (.int 1)]
 obtain ⟨T47, X47, e47, st47⟩ := own_gF X18 hx hZ hown hby (own_wd hw 148 rfl) e18 F52 d21_95 l5 []
 obtain ⟨T42, X42, e42, st42⟩ := own_gF X47 hx hZ hown hby (own_wd hw 148 rfl) e47 F52 d21_100 l5 [(.int (oH (p10 + 1))), (.ref a29)]
 obtain ⟨cl23, Ar23, q23, S23, N23, H23, G23⟩ := id H60
 have hin23 := inb_of S23 ⟨(ar622 (oH (p10 + 1)) ), (ar623 (oH (p10 + 1)) )⟩
 have hat23 := atH H23 hin23 (getH_miss (ar622 (oH (p10 + 1)) ) (ar799 (oH (p10 + 1)) ) (getH_miss (ar622 (oH (p10 + 1)) ) hp56 (getH_hit (ar622 (oH (p10 + 1)) ) hp57)))
 obtain ⟨cl13, Ar13, q13, S13, N13, H13, G13⟩ := id H60
 have hin13 := inb_of S13 ⟨(own_hlo (p10 + 1)), (own_hhi (p10 + 1))⟩
 obtain ⟨T13, h13, X13, e13, W13, st13⟩ := stI X42 hx hZ e42 Ar13 (j := (oH (p10 + 1))) hin13 (g := (mkF m 106 l5 [(.int p20), (.int (oH (p10 + 1))), (.ref a29)])) rfl rfl (hb hby d21_106)
 have V13 := Arh.push Ar13 q13 S13 N13 H13 G13 rfl W13 hin13
 have K13 := own_kpWr K17 W13 (Or.inl (List.mem_of_getElem? (i := 0) rfl))
 have z_W13 := Nat.le_of_eq W13.size.symm
 have F67 := (Fld.other W13 (Fld.other W17 (Fld.other W12 F81 (Or.inl ne34)) (Or.inr (slot_ne (Or.inl (own_wd hw 151 rfl)) (Or.inl (own_wd hw 158 rfl)) (by decide) (t := (.array .int)) (t' := .int) (by decide) (by decide)))) (Or.inl ne34))
 obtain ⟨T48, X48, e48, st48⟩ := own_gF X13 hx hZ hown hby (own_wd hw 150 rfl) e13 F67 d21_108 l5 []
 obtain ⟨T43, X43, e43, st43⟩ := own_gF X48 hx hZ hown hby (own_wd hw 150 rfl) e48 F67 d21_113 l5 [(.int (oH (p10 + 1))), (.ref a38)]
 have H72 := (Arh.other (Arh.other (Arh.other H82 W12 ne58) W17 ne59) W13 ne58)
 obtain ⟨cl24, Ar24, q24, S24, N24, H24, G24⟩ := id H72
 have hin24 := inb_of S24 ⟨(ar622 (oH (p10 + 1)) ), (ar623 (oH (p10 + 1)) )⟩
 have hat24 := atH H24 hin24 (getH_miss (ar622 (oH (p10 + 1)) ) hp56 (getH_hit (ar622 (oH (p10 + 1)) ) hp57))
 obtain ⟨cl14, Ar14, q14, S14, N14, H14, G14⟩ := id H72
 have hin14 := inb_of S14 ⟨(own_hlo (p10 + 1)), (own_hhi (p10 + 1))⟩
 obtain ⟨T14, h14, X14, e14, W14, st14⟩ := stI X43 hx hZ e43 Ar14 (j := (oH (p10 + 1))) hin14 (g := (mkF m 119 l5 [(.int p54), (.int (oH (p10 + 1))), (.ref a38)])) rfl rfl (hb hby d21_119)
 have V14 := Arh.push Ar14 q14 S14 N14 H14 G14 rfl W14 hin14
 have K14 := own_kpWr K13 W14 (Or.inl (List.mem_of_getElem? (i := 2) rfl))
 have z_W14 := Nat.le_of_eq W14.size.symm
 have F73 := (Fld.other W14 (Fld.other W13 F52 (Or.inl ne34)) (Or.inl (Ne.symm ne59)))
 obtain ⟨T49, X49, e49, st49⟩ := own_gF X14 hx hZ hown hby (own_wd hw 148 rfl) e14 F73 d21_121 l5 []
 have H89 := (Arh.other V13 W14 (Ne.symm ne58))
 obtain ⟨cl11, Ar11, q11, S11, N11, H11, G11⟩ := id H89
 have hin11 := inb_of S11 ⟨(ar622 (oH (p10 + 1)) ), (ar623 (oH (p10 + 1)) )⟩
 obtain ⟨T11, h11, X11, e11, W11, st11⟩ := stI X49 hx hZ e49 Ar11 (j := (oN (oH (p10 + 1)))) hin11 (g := (mkF m 127 l5 [(.int 0), (.int (oN (oH (p10 + 1)))), (.ref a29)])) rfl rfl (hb hby d21_127)
 have V11 := Arh.push Ar11 q11 S11 N11 H11 G11 rfl W11 hin11
 have K11 := own_kpWr K14 W11 (Or.inl (List.mem_of_getElem? (i := 0) rfl))
 have z_W11 := Nat.le_of_eq W11.size.symm
 have F61 := (Fld.other W11 F73 (Or.inl ne34))
 let l6 : Array Slot := #[.val (.ref a16), .val (.ref a19), .val (.int 31), .val (.int (oN (oH (p10 + 1)))), .val (.int (oN (oN (oH (p10 + 1))))), .val (.int (oH p20)), .val (.int 1)]
 obtain ⟨T32, X32, e32, st32⟩ := own_gF X11 hx hZ hown hby (own_wd hw 148 rfl) e11 F61 d21_44 l6 []
 obtain ⟨cl25, Ar25, q25, S25, N25, H25, G25⟩ := id V11
 have hin25 := inb_of S25 ⟨(ar898 (oH (p10 + 1)) ), (ar899 (oH (p10 + 1)) )⟩
 have hat25 := atH H25 hin25 (getH_miss (ar898 (oH (p10 + 1)) ) (ar798 (oH (p10 + 1)) ) (getH_miss (ar898 (oH (p10 + 1)) ) (ar758 (oH (p10 + 1)) ) (getH_miss (ar898 (oH (p10 + 1)) ) (ar758 (oH (p10 + 1)) ) (getH_miss (ar898 (oH (p10 + 1)) ) hp69 (getH_miss (ar898 (oH (p10 + 1)) ) hp70 (getH_hit (ar898 (oH (p10 + 1)) ) hp71))))))
 obtain ⟨T36, X36, e36, st36⟩ := own_gF X32 hx hZ hown hby (own_wd hw 148 rfl) e32 F61 d21_54 l6 []
 obtain ⟨cl26, Ar26, q26, S26, N26, H26, G26⟩ := id V11
 have hin26 := inb_of S26 ⟨(ar898 (oH (p10 + 1)) ), (ar899 (oH (p10 + 1)) )⟩
 have hat26 := atH H26 hin26 (getH_miss (ar898 (oH (p10 + 1)) ) (ar798 (oH (p10 + 1)) ) (getH_miss (ar898 (oH (p10 + 1)) ) (ar758 (oH (p10 + 1)) ) (getH_miss (ar898 (oH (p10 + 1)) ) (ar758 (oH (p10 + 1)) ) (getH_miss (ar898 (oH (p10 + 1)) ) hp69 (getH_miss (ar898 (oH (p10 + 1)) ) hp70 (getH_hit (ar898 (oH (p10 + 1)) ) hp71))))))
 obtain ⟨_, T15, L15, X15, ⟨rfl, rfl, e15⟩, st15⟩ := own_cs X36 hx hZ hown (own_w489 hw) hml (g := (mkF m 61 l6 [(.int 31), (.int p30)])) (hb hby d21_61) e36 [(.int p30), (.int 31)] [] (lenOf own_pd12 rfl) (rm487 l Z a0 hw h11 p30 )
 let l7 : Array Slot := #[.val (.ref a16), .val (.ref a19), .val (.int 31), .val (.int (oN (oH (p10 + 1)))), .val (.int (oN (oN (oH (p10 + 1))))), .val (.int (oH p30)), .val (.int 1)]
 refine own_go (T2 := T15) (g2 := (mkF m 66 l7 [])) (fun t k => z_iloadN X18 hx hby d21_77 rfl (z_iand X18 hx hby d21_78 (z_icmpNo X18 hx hby d21_79 (flt hp80).1 (z_iconst X18 hx hby d21_82 (z_goto X18 hx hby 87 d21_83 rfl (z_istore X18 hx hby d21_87 l5 rfl (z_iload X18 hx hby d21_89 rfl (z_ifNo X18 hx hby d21_91 ((if0 _ _).trans (feq (show ¬ ((1 : Int32) = 0) from (by decide))).1) (z_aloadN X18 hx hby d21_94 rfl rfl (st47 _ (z_iloadN X47 hx hby d21_98 rfl (z_aloadN X47 hx hby d21_99 rfl rfl (st42 _ (z_iload X42 hx hby d21_103 rfl (own_ial X42 hx hZ e42 Ar23 hin23 hat23 rfl rfl (hb hby d21_105) (st13 _ (z_aloadN X13 hx hby d21_107 rfl rfl (st48 _ (z_iloadN X48 hx hby d21_111 rfl (z_aloadN X48 hx hby d21_112 rfl rfl (st43 _ (z_iload X43 hx hby d21_116 rfl (own_ial X43 hx hZ e43 Ar24 hin24 hat24 rfl rfl (hb hby d21_118) (st14 _ (z_aloadN X14 hx hby d21_120 rfl rfl (st49 _ (z_iload X49 hx hby d21_124 rfl (z_iconst X49 hx hby d21_126 (st11 _ (z_iload X11 hx hby d21_128 rfl (z_istoreN X11 hx hby d21_130 #[.val (.ref a16), .val (.ref a19), .val (.int 31), .val (.int (oN (oH (p10 + 1)))), .val (.int (oN (oH (p10 + 1)))), .val (.int (oH p20)), .val (.int 1)] rfl (z_iload X11 hx hby d21_131 rfl (z_iconst X11 hx hby d21_133 (z_iadd X11 hx hby d21_134 (z_iloadN X11 hx hby d21_135 rfl (z_iand X11 hx hby d21_136 (z_istore X11 hx hby d21_137 l6 rfl (z_goto X11 hx hby 43 d21_139 rfl (z_aloadN X11 hx hby d21_43 rfl rfl (st32 _ (z_iload X32 hx hby d21_47 rfl (own_ial X32 hx hZ e32 Ar25 hin25 hat25 rfl rfl (hb hby d21_49) (z_ifNo X32 hx hby d21_50 ((if0 _ _).trans (feq hp83).1) (z_aloadN X32 hx hby d21_53 rfl rfl (st36 _ (z_iload X36 hx hby d21_57 rfl (own_ial X36 hx hZ e36 Ar26 hin26 hat26 rfl rfl (hb hby d21_59) (z_iloadN X36 hx hby d21_60 rfl (st15 _ (z_istore X15 hx hby d21_64 l7 rfl k)))))))))))))))))))))))))))))))))))))))))))))))))) ?_
 let l8 : Array Slot := #[.val (.ref a16), .val (.ref a19), .val (.int 31), .val (.int (oN (oH (p10 + 1)))), .val (.int (oN (oN (oN (oH (p10 + 1)))))), .val (.int (oH p30)), .val (.int 0)]
 obtain ⟨T33, X33, e33, st33⟩ := own_gF X15 hx hZ hown hby (own_wd hw 148 rfl) e15 F61 d21_44 l8 []
 obtain ⟨cl27, Ar27, q27, S27, N27, H27, G27⟩ := id V11
 have hin27 := inb_of S27 ⟨(ar925 (oH (p10 + 1)) ), (ar926 (oH (p10 + 1)) )⟩
 have hat27 := atH H27 hin27 (getH_miss (ar925 (oH (p10 + 1)) ) (ar928 (oH (p10 + 1)) ) (getH_miss (ar925 (oH (p10 + 1)) ) (ar929 (oH (p10 + 1)) ) (getH_miss (ar925 (oH (p10 + 1)) ) (ar929 (oH (p10 + 1)) ) (getH_miss (ar925 (oH (p10 + 1)) ) hp85 (getH_miss (ar925 (oH (p10 + 1)) ) hp86 (getH_miss (ar925 (oH (p10 + 1)) ) hp87 (getH_all rfl _)))))))
 have F90 := (Fld.other W11 (Fld.other W14 (Fld.other W13 F17 (Or.inl ne34)) (Or.inl (Ne.symm ne59))) (Or.inl ne34))
 have F91 := (Fld.other W11 (Fld.other W14 F67 (Or.inl (Ne.symm ne59))) (Or.inl ne34))
 have H92 := (Arh.other V14 W11 ne58)
 refine own_go (T2 := T33) (g2 := (mkF m 142 l8 [])) (fun t k => z_iload X15 hx hby d21_66 rfl (z_iload X15 hx hby d21_68 rfl (z_isub X15 hx hby d21_70 (z_iloadN X15 hx hby d21_71 rfl (z_iand X15 hx hby d21_72 (z_iload X15 hx hby d21_73 rfl (z_iloadN X15 hx hby d21_75 rfl (z_isub X15 hx hby d21_76 (z_iloadN X15 hx hby d21_77 rfl (z_iand X15 hx hby d21_78 (z_icmpYes X15 hx hby 86 d21_79 (tlt hp84).1 rfl (z_iconst X15 hx hby d21_86 (z_istore X15 hx hby d21_87 #[.val (.ref a16), .val (.ref a19), .val (.int 31), .val (.int (oN (oH (p10 + 1)))), .val (.int (oN (oN (oH (p10 + 1))))), .val (.int (oH p30)), .val (.int 0)] rfl (z_iload X15 hx hby d21_89 rfl (z_ifYes X15 hx hby 131 d21_91 ((if0 _ _).trans (teq (show (0 : Int32) = 0 from (by decide))).1) rfl (z_iload X15 hx hby d21_131 rfl (z_iconst X15 hx hby d21_133 (z_iadd X15 hx hby d21_134 (z_iloadN X15 hx hby d21_135 rfl (z_iand X15 hx hby d21_136 (z_istore X15 hx hby d21_137 l8 rfl (z_goto X15 hx hby 43 d21_139 rfl (z_aloadN X15 hx hby d21_43 rfl rfl (st33 _ (z_iload X33 hx hby d21_47 rfl (own_ial X33 hx hZ e33 Ar27 hin27 hat27 rfl rfl (hb hby d21_49) (z_ifYes X33 hx hby 142 d21_50 ((if0 _ _).trans (teq (show (0 : Int32) = 0 from (by decide))).1) rfl k))))))))))))))))))))))))))) ?_
 exact own_endV X33 hx Bd.notSynchronized Bd.returns (hb hby d21_142) (by decide) (by decide) (by rw [e33]; exact ⟨rfl, (by simpa only [List.append_nil] using K11), V11, F61, F90, F91, H92⟩)
theorem ar2702 (x0 x1 : Int32) (h0 : ¬ (x1 = x0)) : ¬ (x0 = x1) := by
  have f1 := rng32 x0
  have f2 := rng32 x1
  have g0 := mt Int32.toInt_inj.mp h0
  exact fun q => absurd (Int32.toInt_inj.mpr q) (by omega)
theorem cn2703 (x0 x1 x2 : Int32) (v0 v1 v2 : Value) (h0 : ¬ (x0 = x1)) (h1 : ¬ (x0 = x2)) (h2 : ¬ (x1 = x2)) : ∀ i : Nat, getH [(x0, .int 0), (x1, v0), (x1, .int 0), (x1, v1), (x0, v0), (x2, v2)] [] (.int 0) i = getH [(x1, v0), (x2, v2)] [] (.int 0) i := by
  intro i
  have g0 := mt Int32.toInt_inj.mp h0
  have g1 := mt Int32.toInt_inj.mp h1
  have g2 := mt Int32.toInt_inj.mp h2
  simp only [getH]
  repeat' split
  all_goals first | rfl | (exfalso; omega)
theorem cn2705 (x0 x1 x2 : Int32) (v0 v1 v2 : Value) (h0 : ¬ (x0 = x1)) (h1 : ¬ (x0 = x2)) (h2 : ¬ (x1 = x2)) : ∀ i : Nat, getH [(x0, v0), (x0, v1), (x1, v0), (x2, v2)] [] (.int 0) i = getH [(x0, v0), (x1, v0), (x2, v2)] [] (.int 0) i := by
  intro i
  have g0 := mt Int32.toInt_inj.mp h0
  have g1 := mt Int32.toInt_inj.mp h1
  have g2 := mt Int32.toInt_inj.mp h2
  simp only [getH]
  repeat' split
  all_goals first | rfl | (exfalso; omega)
set_option maxRecDepth 65536 in
set_option maxHeartbeats 40000000 in
theorem rm2720 (l : Launch) (Z : State) (a0 : Array Value) (hw : ∀ d ∈ tables_1, d.before a0 Z = true) (h0 : Heap) (a13 a14 : Addr) (p10 : Int32) (a19 : Addr) (c21 : ClassId) (p17 p18 : Int32) (p20 p22 : Int32) (F27 : Fld Z h0 a14 own_s0 "id" "I" (.int p10)) (E28 : Exa Z h0 a14 own_s0) (F23 : Fld Z h0 a13 own_s1 "slots" "[I" (.ref a19)) (H24 : Arh Z h0 a19 c21 .int 32 [(p17, (.int p18)), (p20, (.int p22))] [] (.int 0)) (hp25 : (oH (p10 + 1)) = p17) (hp29 : ¬ (p18 = (p10 + 1))) (hp30 : ¬ (p18 = 0)) (hp26 : ¬ ((oN (oH (p10 + 1))) = p20)) (hp31 : ¬ ((0 : Int32) = (p10 + 1))) (E32 : Exa Z h0 a13 own_s1) :
    own_Con l Z own_y0 prog_7_method_2_code 3 (some .int) ({ frames := 2, cells := 0, slots := 0, locals := 29 } : Room) #[(.ref a13), (.ref a14)] h0 (own_QP (some (.int (-1))) h0) := by
 refine MetFree.of_bodySF (plainFor_of_name own_pn8) hisR ?_
 intro p e s m args below meth c s₁ Bd hml0 hP hK
 obtain ⟨rfl, hZ, hh⟩ := hP
 have hx := Bd.exec
 have hby := Bd.bytes
 have hml : c.maxLocals = 3 := hml0
 have hown : s.vm.findClass own_s1 = some m.cls := findClass_of_methodNamed Bd.named
 have hnm := (name_of_methodNamed Bd.named Bd.method).1
 have X0 : Stand p l e ({ frames := 2, cells := 0, slots := 0, locals := 29 } : Room) s m #[(.ref a13), (.ref a14)] below meth c s₁ [] 0 0 := Stand.of_body Bd
 have e0 : s₁.heap = h0 := by rw [← hh, Bd.state]; rfl
 have K0 : own_Kp h0 h0 [] [] := own_kpRefl _ _
 show own_Go p e below (own_K s (own_QP (some (.int (-1))) h0) 0 0) s₁ (entryFrame m #[(.ref a13), (.ref a14)] 3)
 rw [own_ef950]
 let l1 : Array Slot := #[.val (.ref a13), .val (.ref a14), .unset]
 obtain ⟨_, T15, L15, X15, ⟨rfl, rfl, e15⟩, st15⟩ := own_cv X0 hx hZ hown (own_w475 hw) hml (g := (mkF m 2 l1 [(.ref a14), (.ref a13)])) (hb hby d22_2) e0 E28 [] [(.ref a13)] (lenOf own_pd5 rfl) (rm462 l Z a0 hw h0 a14 p10 F27)
 obtain ⟨_, T16, L16, X16, ⟨rfl, rfl, e16⟩, st16⟩ := own_cp X15 hx hZ hown (own_w499 hw) hml (g := (mkF m 7 l1 [(.int (p10 + 1)), (.ref a13)])) (hb hby d22_7) e15 E32 [(.int (p10 + 1))] [] (lenOf own_pd13 rfl) (rm733 l Z a0 hw h0 a13 (p10 + 1) a19 c21 p17 p18 p20 p22 F23 H24 hp25 hp29 hp30 hp26 hp31)
 let l2 : Array Slot := #[.val (.ref a13), .val (.ref a14), .val (.int (oN (oH (p10 + 1))))]
 obtain ⟨T12, X12, e12, st12⟩ := own_gF X16 hx hZ hown hby (own_wd hw 148 rfl) e16 F23 d22_12 l2 []
 obtain ⟨cl11, Ar11, q11, S11, N11, H11, G11⟩ := id H24
 have hin11 := inb_of S11 ⟨(ar622 (oH (p10 + 1)) ), (ar623 (oH (p10 + 1)) )⟩
 have hat11 := atH H11 hin11 (getH_miss (ar622 (oH (p10 + 1)) ) (ar624 (oH (p10 + 1)) p17 hp25) (getH_miss (ar622 (oH (p10 + 1)) ) hp26 (getH_all rfl _)))
 refine own_go (T2 := T12) (g2 := (mkF m 30 l2 [(.int (-1))])) (fun t k => z_aloadN X0 hx hby d22_0 rfl rfl (z_aloadN X0 hx hby d22_1 rfl rfl (st15 _ (z_iconst X15 hx hby d22_5 (z_iadd X15 hx hby d22_6 (st16 _ (z_istoreN X16 hx hby d22_10 l2 rfl (z_aloadN X16 hx hby d22_11 rfl rfl (st12 _ (z_iloadN X12 hx hby d22_15 rfl (own_ial X12 hx hZ e12 Ar11 hin11 hat11 rfl rfl (hb hby d22_16) (z_ifNo X12 hx hby d22_17 ((if0 _ _).trans (teq (show (0 : Int32) = 0 from (by decide))).2) (z_iconst X12 hx hby d22_20 (z_goto X12 hx hby 30 d22_21 rfl k)))))))))))))) ?_
 exact own_endI X12 hx Bd.notSynchronized Bd.returns (hb hby d22_30) (by decide) (by decide) ⟨rfl, rfl, e12⟩
set_option maxRecDepth 65536 in
set_option maxHeartbeats 40000000 in
theorem rm2793 (l : Launch) (Z : State) (a0 : Array Value) (hw : ∀ d ∈ tables_1, d.before a0 Z = true) (h0 : Heap) (a13 a16 : Addr) (p10 : Int32) (a22 : Addr) (c25 : ClassId) (p20 p21 : Int32) (p23 p26 : Int32) (a27 : Addr) (c30 : ClassId) (p19 p31 p32 : Int32) (F33 : Fld Z h0 a16 own_s0 "id" "I" (.int p10)) (E34 : Exa Z h0 a16 own_s0) (F28 : Fld Z h0 a13 own_s1 "slots" "[I" (.ref a22)) (H29 : Arh Z h0 a22 c25 .int 32 [(p20, (.int p21)), (p23, (.int p26))] [] (.int 0)) (hp24 : (oH (p10 + 1)) = p20) (hp35 : p21 = (p10 + 1)) (E36 : Exa Z h0 a13 own_s1) (hp37 : ¬ (p21 = 0)) (F38 : Fld Z h0 a13 own_s1 "indices" "[I" (.ref a27)) (H39 : Arh Z h0 a27 c30 .int 32 [(p20, (.int p19)), (p31, (.int p19)), (p23, (.int p32))] [] (.int 0)) :
    own_Con l Z own_y0 prog_7_method_2_code 3 (some .int) ({ frames := 2, cells := 0, slots := 0, locals := 29 } : Room) #[(.ref a13), (.ref a16)] h0 (own_QP (some (.int p19)) h0) := by
 refine MetFree.of_bodySF (plainFor_of_name own_pn8) hisR ?_
 intro p e s m args below meth c s₁ Bd hml0 hP hK
 obtain ⟨rfl, hZ, hh⟩ := hP
 have hx := Bd.exec
 have hby := Bd.bytes
 have hml : c.maxLocals = 3 := hml0
 have hown : s.vm.findClass own_s1 = some m.cls := findClass_of_methodNamed Bd.named
 have hnm := (name_of_methodNamed Bd.named Bd.method).1
 have X0 : Stand p l e ({ frames := 2, cells := 0, slots := 0, locals := 29 } : Room) s m #[(.ref a13), (.ref a16)] below meth c s₁ [] 0 0 := Stand.of_body Bd
 have e0 : s₁.heap = h0 := by rw [← hh, Bd.state]; rfl
 have K0 : own_Kp h0 h0 [] [] := own_kpRefl _ _
 show own_Go p e below (own_K s (own_QP (some (.int p19)) h0) 0 0) s₁ (entryFrame m #[(.ref a13), (.ref a16)] 3)
 rw [own_ef950]
 let l1 : Array Slot := #[.val (.ref a13), .val (.ref a16), .unset]
 obtain ⟨_, T17, L17, X17, ⟨rfl, rfl, e17⟩, st17⟩ := own_cv X0 hx hZ hown (own_w475 hw) hml (g := (mkF m 2 l1 [(.ref a16), (.ref a13)])) (hb hby d22_2) e0 E34 [] [(.ref a13)] (lenOf own_pd5 rfl) (rm462 l Z a0 hw h0 a16 p10 F33)
 obtain ⟨_, T18, L18, X18, ⟨rfl, rfl, e18⟩, st18⟩ := own_cp X17 hx hZ hown (own_w499 hw) hml (g := (mkF m 7 l1 [(.int (p10 + 1)), (.ref a13)])) (hb hby d22_7) e17 E36 [(.int (p10 + 1))] [] (lenOf own_pd13 rfl) (rm1116 l Z a0 hw h0 a13 (p10 + 1) a22 c25 p20 p21 p23 p26 F28 H29 hp24 hp35)
 let l2 : Array Slot := #[.val (.ref a13), .val (.ref a16), .val (.int (oH (p10 + 1)))]
 obtain ⟨T14, X14, e14, st14⟩ := own_gF X18 hx hZ hown hby (own_wd hw 148 rfl) e18 F28 d22_12 l2 []
 obtain ⟨cl11, Ar11, q11, S11, N11, H11, G11⟩ := id H29
 have hin11 := inb_of S11 ⟨(own_hlo (p10 + 1)), (own_hhi (p10 + 1))⟩
 have hat11 := atH H11 hin11 (getH_hit (own_hlo (p10 + 1)) hp24)
 obtain ⟨T15, X15, e15, st15⟩ := own_gF X14 hx hZ hown hby (own_wd hw 150 rfl) e14 F38 d22_25 l2 []
 obtain ⟨cl12, Ar12, q12, S12, N12, H12, G12⟩ := id H39
 have hin12 := inb_of S12 ⟨(own_hlo (p10 + 1)), (own_hhi (p10 + 1))⟩
 have hat12 := atH H12 hin12 (getH_hit (own_hlo (p10 + 1)) hp24)
 refine own_go (T2 := T15) (g2 := (mkF m 30 l2 [(.int p19)])) (fun t k => z_aloadN X0 hx hby d22_0 rfl rfl (z_aloadN X0 hx hby d22_1 rfl rfl (st17 _ (z_iconst X17 hx hby d22_5 (z_iadd X17 hx hby d22_6 (st18 _ (z_istoreN X18 hx hby d22_10 l2 rfl (z_aloadN X18 hx hby d22_11 rfl rfl (st14 _ (z_iloadN X14 hx hby d22_15 rfl (own_ial X14 hx hZ e14 Ar11 hin11 hat11 rfl rfl (hb hby d22_16) (z_ifYes X14 hx hby 24 d22_17 ((if0 _ _).trans (feq hp37).2) rfl (z_aloadN X14 hx hby d22_24 rfl rfl (st15 _ (z_iloadN X15 hx hby d22_28 rfl (own_ial X15 hx hZ e15 Ar12 hin12 hat12 rfl rfl (hb hby d22_29) k)))))))))))))))) ?_
 exact own_endI X15 hx Bd.notSynchronized Bd.returns (hb hby d22_30) (by decide) (by decide) ⟨rfl, rfl, e15⟩
set_option maxRecDepth 65536 in
set_option maxHeartbeats 40000000 in
theorem rm2899 (l : Launch) (Z : State) (a0 : Array Value) (hw : ∀ d ∈ tables_1, d.before a0 Z = true) (h0 : Heap) (a13 a16 : Addr) (p10 : Int32) (a23 : Addr) (c26 : ClassId) (p19 p27 : Int32) (p20 p21 : Int32) (a28 : Addr) (c33 : ClassId) (p29 p30 p22 : Int32) (F34 : Fld Z h0 a16 own_s0 "id" "I" (.int p10)) (E35 : Exa Z h0 a16 own_s0) (F31 : Fld Z h0 a13 own_s1 "slots" "[I" (.ref a23)) (H32 : Arh Z h0 a23 c26 .int 32 [(p19, (.int p27)), (p20, (.int p21))] [] (.int 0)) (hp24 : ¬ ((oH (p10 + 1)) = p19)) (hp25 : (oH (p10 + 1)) = p20) (hp36 : p21 = (p10 + 1)) (E37 : Exa Z h0 a13 own_s1) (hp38 : ¬ (p21 = 0)) (F39 : Fld Z h0 a13 own_s1 "indices" "[I" (.ref a28)) (H40 : Arh Z h0 a28 c33 .int 32 [(p19, (.int p29)), (p30, (.int p29)), (p20, (.int p22))] [] (.int 0)) (hp41 : ¬ ((oH (p10 + 1)) = p30)) :
    own_Con l Z own_y0 prog_7_method_2_code 3 (some .int) ({ frames := 2, cells := 0, slots := 0, locals := 29 } : Room) #[(.ref a13), (.ref a16)] h0 (own_QP (some (.int p22)) h0) := by
 refine MetFree.of_bodySF (plainFor_of_name own_pn8) hisR ?_
 intro p e s m args below meth c s₁ Bd hml0 hP hK
 obtain ⟨rfl, hZ, hh⟩ := hP
 have hx := Bd.exec
 have hby := Bd.bytes
 have hml : c.maxLocals = 3 := hml0
 have hown : s.vm.findClass own_s1 = some m.cls := findClass_of_methodNamed Bd.named
 have hnm := (name_of_methodNamed Bd.named Bd.method).1
 have X0 : Stand p l e ({ frames := 2, cells := 0, slots := 0, locals := 29 } : Room) s m #[(.ref a13), (.ref a16)] below meth c s₁ [] 0 0 := Stand.of_body Bd
 have e0 : s₁.heap = h0 := by rw [← hh, Bd.state]; rfl
 have K0 : own_Kp h0 h0 [] [] := own_kpRefl _ _
 show own_Go p e below (own_K s (own_QP (some (.int p22)) h0) 0 0) s₁ (entryFrame m #[(.ref a13), (.ref a16)] 3)
 rw [own_ef950]
 let l1 : Array Slot := #[.val (.ref a13), .val (.ref a16), .unset]
 obtain ⟨_, T17, L17, X17, ⟨rfl, rfl, e17⟩, st17⟩ := own_cv X0 hx hZ hown (own_w475 hw) hml (g := (mkF m 2 l1 [(.ref a16), (.ref a13)])) (hb hby d22_2) e0 E35 [] [(.ref a13)] (lenOf own_pd5 rfl) (rm462 l Z a0 hw h0 a16 p10 F34)
 obtain ⟨_, T18, L18, X18, ⟨rfl, rfl, e18⟩, st18⟩ := own_cp X17 hx hZ hown (own_w499 hw) hml (g := (mkF m 7 l1 [(.int (p10 + 1)), (.ref a13)])) (hb hby d22_7) e17 E37 [(.int (p10 + 1))] [] (lenOf own_pd13 rfl) (rm1225 l Z a0 hw h0 a13 (p10 + 1) a23 c26 p19 p27 p20 p21 F31 H32 hp24 hp25 hp36)
 let l2 : Array Slot := #[.val (.ref a13), .val (.ref a16), .val (.int (oH (p10 + 1)))]
 obtain ⟨T14, X14, e14, st14⟩ := own_gF X18 hx hZ hown hby (own_wd hw 148 rfl) e18 F31 d22_12 l2 []
 obtain ⟨cl11, Ar11, q11, S11, N11, H11, G11⟩ := id H32
 have hin11 := inb_of S11 ⟨(own_hlo (p10 + 1)), (own_hhi (p10 + 1))⟩
 have hat11 := atH H11 hin11 (getH_miss (own_hlo (p10 + 1)) hp24 (getH_hit (own_hlo (p10 + 1)) hp25))
 obtain ⟨T15, X15, e15, st15⟩ := own_gF X14 hx hZ hown hby (own_wd hw 150 rfl) e14 F39 d22_25 l2 []
 obtain ⟨cl12, Ar12, q12, S12, N12, H12, G12⟩ := id H40
 have hin12 := inb_of S12 ⟨(own_hlo (p10 + 1)), (own_hhi (p10 + 1))⟩
 have hat12 := atH H12 hin12 (getH_miss (own_hlo (p10 + 1)) hp24 (getH_miss (own_hlo (p10 + 1)) hp41 (getH_hit (own_hlo (p10 + 1)) hp25)))
 refine own_go (T2 := T15) (g2 := (mkF m 30 l2 [(.int p22)])) (fun t k => z_aloadN X0 hx hby d22_0 rfl rfl (z_aloadN X0 hx hby d22_1 rfl rfl (st17 _ (z_iconst X17 hx hby d22_5 (z_iadd X17 hx hby d22_6 (st18 _ (z_istoreN X18 hx hby d22_10 l2 rfl (z_aloadN X18 hx hby d22_11 rfl rfl (st14 _ (z_iloadN X14 hx hby d22_15 rfl (own_ial X14 hx hZ e14 Ar11 hin11 hat11 rfl rfl (hb hby d22_16) (z_ifYes X14 hx hby 24 d22_17 ((if0 _ _).trans (feq hp38).2) rfl (z_aloadN X14 hx hby d22_24 rfl rfl (st15 _ (z_iloadN X15 hx hby d22_28 rfl (own_ial X15 hx hZ e15 Ar12 hin12 hat12 rfl rfl (hb hby d22_29) k)))))))))))))))) ?_
 exact own_endI X15 hx Bd.notSynchronized Bd.returns (hb hby d22_30) (by decide) (by decide) ⟨rfl, rfl, e15⟩
def own_Q3021 (Z : State) (h0 : Heap) (a3022 : Addr) (a3023 : Addr) (a3024 : Addr) (c3027 : ClassId) (p3028 : Int32) (p3029 : Int32) (p3030 : Int32) (p3031 : Int32) (p3032 : Int32) (p3033 : Int32) (p3042 : Int32) (a3076 : Addr) (c3081 : ClassId) (p3082 : Int32) (p3083 : Int32) (p3084 : Int32) (v : Option Value) (h : Heap) (L : List Loc) : Prop := v = none ∧ own_Kp h0 h [a3024, a3022, a3076] L ∧ Arh Z h a3024 c3027 .int 32 [((((oH (p3042 + 1)) + 1) &&& 31), (.int 0)), ((oH (p3042 + 1)), (.int p3031)), ((oH (p3042 + 1)), (.int 0)), (p3028, (.int p3029)), (p3030, (.int p3031)), (p3032, (.int p3033))] [] (.int 0) ∧ Fld Z h a3022 own_s1 "slots" "[I" (.ref a3024) ∧ Fld Z h a3022 own_s1 "size" "I" (.int 2) ∧ Fld Z h a3022 own_s1 "indices" "[I" (.ref a3076) ∧ Arh Z h a3076 c3081 .int 32 [((oH (p3042 + 1)), (.int p3083)), (p3028, (.int p3082)), (p3030, (.int p3083)), (p3032, (.int p3084))] [] (.int 0)
set_option maxRecDepth 65536 in
set_option maxHeartbeats 40000000 in
theorem rm3021 (l : Launch) (Z : State) (a0 : Array Value) (hw : ∀ d ∈ tables_1, d.before a0 Z = true) (h0 : Heap) (a16 a18 a26 : Addr) (c47 : ClassId) (p37 p45 : Int32) (p43 p19 : Int32) (p44 p48 p10 : Int32) (a31 : Addr) (c56 : ClassId) (p57 p49 p58 : Int32) (F50 : Fld Z h0 a16 own_s1 "slots" "[I" (.ref a26)) (H59 : Arh Z h0 a26 c47 .int 32 [(p37, (.int p45)), (p43, (.int p19)), (p44, (.int p48))] [] (.int 0)) (F66 : Fld Z h0 a18 own_s0 "id" "I" (.int p10)) (E67 : Exa Z h0 a18 own_s0) (hp68 : (oH (p10 + 1)) = p37) (hp69 : p45 = (p10 + 1)) (E62 : Exa Z h0 a16 own_s1) (F70 : Fld Z h0 a16 own_s1 "size" "I" (.int 3)) (ne29 : a16 ≠ a26) (hp51 : ¬ ((oN (oH (p10 + 1))) = p37)) (hp52 : (oN (oH (p10 + 1))) = p43) (hp71 : ¬ (p19 = 0)) (hp72 : ¬ ((((oN (oH (p10 + 1))) - (oH p19)) &&& 31) < (((oN (oH (p10 + 1))) - (oH (p10 + 1))) &&& 31))) (F73 : Fld Z h0 a16 own_s1 "indices" "[I" (.ref a31)) (H74 : Arh Z h0 a31 c56 .int 32 [(p37, (.int p57)), (p43, (.int p49)), (p44, (.int p58))] [] (.int 0)) (ne53 : a31 ≠ a26) (ne54 : a31 ≠ a16) (hp75 : ¬ ((oN (oN (oH (p10 + 1)))) = p37)) (hp76 : ¬ ((oN (oN (oH (p10 + 1)))) = p43)) (hp77 : ¬ ((oN (oN (oH (p10 + 1)))) = p44)) :
    own_Con l Z own_y2 prog_7_method_5_code 7 none ({ frames := 2, cells := 0, slots := 0, locals := 29 } : Room) #[(.ref a16), (.ref a18)] h0 (own_Q3021 Z h0 a16 a18 a26 c47 p37 p45 p43 p19 p44 p48 p10 a31 c56 p57 p49 p58) := by
 refine MetFree.of_bodySF (plainFor_of_name own_pn8) hisR ?_
 intro p e s m args below meth c s₁ Bd hml0 hP hK
 obtain ⟨rfl, hZ, hh⟩ := hP
 have hx := Bd.exec
 have hby := Bd.bytes
 have hml : c.maxLocals = 7 := hml0
 have hown : s.vm.findClass own_s1 = some m.cls := findClass_of_methodNamed Bd.named
 have hnm := (name_of_methodNamed Bd.named Bd.method).1
 have X0 : Stand p l e ({ frames := 2, cells := 0, slots := 0, locals := 29 } : Room) s m #[(.ref a16), (.ref a18)] below meth c s₁ [] 0 0 := Stand.of_body Bd
 have e0 : s₁.heap = h0 := by rw [← hh, Bd.state]; rfl
 have K0 : own_Kp h0 h0 [a26, a16, a31] [] := own_kpRefl _ _
 show own_Go p e below (own_K s (own_Q3021 Z h0 a16 a18 a26 c47 p37 p45 p43 p19 p44 p48 p10 a31 c56 p57 p49 p58) 0 0) s₁ (entryFrame m #[(.ref a16), (.ref a18)] 7)
 rw [own_ef804]
 obtain ⟨T25, X25, e25, st25⟩ := own_gF X0 hx hZ hown hby (own_wd hw 148 rfl) e0 F50 d21_1 #[.val (.ref a16), .val (.ref a18), .unset, .unset, .unset, .unset, .unset] []
 obtain ⟨cl32, Ar32, q32, S32, N32, H32, G32⟩ := id H59
 let l1 : Array Slot := #[.val (.ref a16), .val (.ref a18), .val (.int 31), .unset, .unset, .unset, .unset]
 obtain ⟨_, T33, L33, X33, ⟨rfl, rfl, e33⟩, st33⟩ := own_cv X25 hx hZ hown (own_w475 hw) hml (g := (mkF m 10 l1 [(.ref a18), (.ref a16)])) (hb hby d21_10) e25 E67 [] [(.ref a16)] (lenOf own_pd5 rfl) (rm462 l Z a0 hw h0 a18 p10 F66)
 obtain ⟨_, T34, L34, X34, ⟨rfl, rfl, e34⟩, st34⟩ := own_cp X33 hx hZ hown (own_w499 hw) hml (g := (mkF m 15 l1 [(.int (p10 + 1)), (.ref a16)])) (hb hby d21_15) e33 E62 [(.int (p10 + 1))] [] (lenOf own_pd13 rfl) (rm830 l Z a0 hw h0 a16 (p10 + 1) a26 c47 p37 p45 p43 p19 p44 p48 F50 H59 hp68 hp69)
 let l2 : Array Slot := #[.val (.ref a16), .val (.ref a18), .val (.int 31), .val (.int (oH (p10 + 1))), .unset, .unset, .unset]
 obtain ⟨T38, X38, e38, st38⟩ := own_gF X34 hx hZ hown hby (own_wd hw 148 rfl) e34 F50 d21_20 l2 []
 obtain ⟨cl12, Ar12, q12, S12, N12, H12, G12⟩ := id H59
 have hin12 := inb_of S12 ⟨(own_hlo (p10 + 1)), (own_hhi (p10 + 1))⟩
 obtain ⟨T12, h12, X12, e12, W12, st12⟩ := stI X38 hx hZ e38 Ar12 (j := (oH (p10 + 1))) hin12 (g := (mkF m 25 l2 [(.int 0), (.int (oH (p10 + 1))), (.ref a26)])) rfl rfl (hb hby d21_25)
 have V12 := Arh.push Ar12 q12 S12 N12 H12 G12 rfl W12 hin12
 have K12 := own_kpWr K0 W12 (Or.inl (List.mem_of_getElem? (i := 0) rfl))
 have z_W12 := Nat.le_of_eq W12.size.symm
 have F60 := (Fld.other W12 F70 (Or.inl ne29))
 obtain ⟨T39, X39, e39, st39⟩ := own_gF X12 hx hZ hown hby (own_wd hw 157 rfl) e12 F60 d21_28 l2 [(.ref a16)]
 have E78 := (Exa.wr W12 E62)
 obtain ⟨T15, h15, X15, e15, W15, st15⟩ := putF X39 hx hZ hown (host := "") (Or.inl (own_wd hw 157 rfl)) Via.refl e39 F60 E78 (Or.inl (own_wd hw 158 rfl)) (own_wd hw 141 rfl) (ty := .int) (by decide) rfl rfl (g := (mkF m 33 l2 [(.int 2), (.ref a16)])) rfl rfl (hb hby d21_33)
 have F15 := Fld.same W15 F60
 have K15 := own_kpWr K12 W15 (Or.inl (List.mem_of_getElem? (i := 1) rfl))
 have z_W15 := Nat.le_of_eq W15.size.symm
 have F46 := (Fld.other W15 (Fld.other W12 F50 (Or.inl ne29)) (Or.inr (slot_ne (Or.inl (own_wd hw 149 rfl)) (Or.inl (own_wd hw 158 rfl)) (by decide) (t := (.array .int)) (t' := .int) (by decide) (by decide))))
 let l3 : Array Slot := #[.val (.ref a16), .val (.ref a18), .val (.int 31), .val (.int (oH (p10 + 1))), .val (.int (oN (oH (p10 + 1)))), .unset, .unset]
 obtain ⟨T27, X27, e27, st27⟩ := own_gF X15 hx hZ hown hby (own_wd hw 148 rfl) e15 F46 d21_44 l3 []
 have H55 := (Arh.other V12 W15 (Ne.symm ne29))
 obtain ⟨cl20, Ar20, q20, S20, N20, H20, G20⟩ := id H55
 have hin20 := inb_of S20 ⟨(ar622 (oH (p10 + 1)) ), (ar623 (oH (p10 + 1)) )⟩
 have hat20 := atH H20 hin20 (getH_miss (ar622 (oH (p10 + 1)) ) (ar799 (oH (p10 + 1)) ) (getH_miss (ar622 (oH (p10 + 1)) ) hp51 (getH_hit (ar622 (oH (p10 + 1)) ) hp52)))
 obtain ⟨T30, X30, e30, st30⟩ := own_gF X27 hx hZ hown hby (own_wd hw 148 rfl) e27 F46 d21_54 l3 []
 obtain ⟨cl21, Ar21, q21, S21, N21, H21, G21⟩ := id H55
 have hin21 := inb_of S21 ⟨(ar622 (oH (p10 + 1)) ), (ar623 (oH (p10 + 1)) )⟩
 have hat21 := atH H21 hin21 (getH_miss (ar622 (oH (p10 + 1)) ) (ar799 (oH (p10 + 1)) ) (getH_miss (ar622 (oH (p10 + 1)) ) hp51 (getH_hit (ar622 (oH (p10 + 1)) ) hp52)))
 obtain ⟨_, T17, L17, X17, ⟨rfl, rfl, e17⟩, st17⟩ := own_cs X30 hx hZ hown (own_w489 hw) hml (g := (mkF m 61 l3 [(.int 31), (.int p19)])) (hb hby d21_61) e30 [(.int p19), (.int 31)] [] (lenOf own_pd12 rfl) (rm487 l Z a0 hw h15 p19 )
 let l4 : Array Slot := #[.val (.ref a16), .val (.ref a18), .val (.int 31), .val (.int (oH (p10 + 1))), .val (.int (oN (oH (p10 + 1)))), .val (.int (oH p19)), .unset]
 refine own_go (T2 := T17) (g2 := (mkF m 77 l4 [(.int ((oN (oH (p10 + 1))) - (oH (p10 + 1)))), (.int (((oN (oH (p10 + 1))) - (oH p19)) &&& 31))])) (fun t k => z_aloadN X0 hx hby d21_0 rfl rfl (st25 _ (own_alen X25 hx hZ e25 Ar32 S32 N32 rfl rfl (hb hby d21_4) (z_iconst X25 hx hby d21_5 (z_isub X25 hx hby d21_6 (z_istoreN X25 hx hby d21_7 l1 rfl (z_aloadN X25 hx hby d21_8 rfl rfl (z_aloadN X25 hx hby d21_9 rfl rfl (st33 _ (z_iconst X33 hx hby d21_13 (z_iadd X33 hx hby d21_14 (st34 _ (z_istoreN X34 hx hby d21_18 l2 rfl (z_aloadN X34 hx hby d21_19 rfl rfl (st38 _ (z_iloadN X38 hx hby d21_23 rfl (z_iconst X38 hx hby d21_24 (st12 _ (z_aloadN X12 hx hby d21_26 rfl rfl (z_dup X12 hx hby d21_27 rfl (st39 _ (z_iconst X39 hx hby d21_31 (z_isub X39 hx hby d21_32 (st15 _ (z_iloadN X15 hx hby d21_36 rfl (z_iconst X15 hx hby d21_37 (z_iadd X15 hx hby d21_38 (z_iloadN X15 hx hby d21_39 rfl (z_iand X15 hx hby d21_40 (z_istore X15 hx hby d21_41 l3 rfl (z_aloadN X15 hx hby d21_43 rfl rfl (st27 _ (z_iload X27 hx hby d21_47 rfl (own_ial X27 hx hZ e27 Ar20 hin20 hat20 rfl rfl (hb hby d21_49) (z_ifNo X27 hx hby d21_50 ((if0 _ _).trans (feq hp71).1) (z_aloadN X27 hx hby d21_53 rfl rfl (st30 _ (z_iload X30 hx hby d21_57 rfl (own_ial X30 hx hZ e30 Ar21 hin21 hat21 rfl rfl (hb hby d21_59) (z_iloadN X30 hx hby d21_60 rfl (st17 _ (z_istore X17 hx hby d21_64 l4 rfl (z_iload X17 hx hby d21_66 rfl (z_iload X17 hx hby d21_68 rfl (z_isub X17 hx hby d21_70 (z_iloadN X17 hx hby d21_71 rfl (z_iand X17 hx hby d21_72 (z_iload X17 hx hby d21_73 rfl (z_iloadN X17 hx hby d21_75 rfl (z_isub X17 hx hby d21_76 k)))))))))))))))))))))))))))))))))))))))))))))))))) ?_
 let l5 : Array Slot := #[.val (.ref a16), .val (.ref a18), .val (.int 31), .val (.int (oH (p10 + 1))), .val (.int (oN (oH (p10 + 1)))), .val (.int (oH p19)), .val (.int 1)]
 obtain ⟨T40, X40, e40, st40⟩ := own_gF X17 hx hZ hown hby (own_wd hw 148 rfl) e17 F46 d21_95 l5 []
 obtain ⟨T35, X35, e35, st35⟩ := own_gF X40 hx hZ hown hby (own_wd hw 148 rfl) e40 F46 d21_100 l5 [(.int (oH (p10 + 1))), (.ref a26)]
 obtain ⟨cl22, Ar22, q22, S22, N22, H22, G22⟩ := id H55
 have hin22 := inb_of S22 ⟨(ar622 (oH (p10 + 1)) ), (ar623 (oH (p10 + 1)) )⟩
 have hat22 := atH H22 hin22 (getH_miss (ar622 (oH (p10 + 1)) ) (ar799 (oH (p10 + 1)) ) (getH_miss (ar622 (oH (p10 + 1)) ) hp51 (getH_hit (ar622 (oH (p10 + 1)) ) hp52)))
 obtain ⟨cl13, Ar13, q13, S13, N13, H13, G13⟩ := id H55
 have hin13 := inb_of S13 ⟨(own_hlo (p10 + 1)), (own_hhi (p10 + 1))⟩
 obtain ⟨T13, h13, X13, e13, W13, st13⟩ := stI X35 hx hZ e35 Ar13 (j := (oH (p10 + 1))) hin13 (g := (mkF m 106 l5 [(.int p19), (.int (oH (p10 + 1))), (.ref a26)])) rfl rfl (hb hby d21_106)
 have V13 := Arh.push Ar13 q13 S13 N13 H13 G13 rfl W13 hin13
 have K13 := own_kpWr K15 W13 (Or.inl (List.mem_of_getElem? (i := 0) rfl))
 have z_W13 := Nat.le_of_eq W13.size.symm
 have F61 := (Fld.other W13 (Fld.other W15 (Fld.other W12 F73 (Or.inl ne29)) (Or.inr (slot_ne (Or.inl (own_wd hw 151 rfl)) (Or.inl (own_wd hw 158 rfl)) (by decide) (t := (.array .int)) (t' := .int) (by decide) (by decide)))) (Or.inl ne29))
 obtain ⟨T41, X41, e41, st41⟩ := own_gF X13 hx hZ hown hby (own_wd hw 150 rfl) e13 F61 d21_108 l5 []
 obtain ⟨T36, X36, e36, st36⟩ := own_gF X41 hx hZ hown hby (own_wd hw 150 rfl) e41 F61 d21_113 l5 [(.int (oH (p10 + 1))), (.ref a31)]
 have H63 := (Arh.other (Arh.other (Arh.other H74 W12 ne53) W15 ne54) W13 ne53)
 obtain ⟨cl23, Ar23, q23, S23, N23, H23, G23⟩ := id H63
 have hin23 := inb_of S23 ⟨(ar622 (oH (p10 + 1)) ), (ar623 (oH (p10 + 1)) )⟩
 have hat23 := atH H23 hin23 (getH_miss (ar622 (oH (p10 + 1)) ) hp51 (getH_hit (ar622 (oH (p10 + 1)) ) hp52))
 obtain ⟨cl14, Ar14, q14, S14, N14, H14, G14⟩ := id H63
 have hin14 := inb_of S14 ⟨(own_hlo (p10 + 1)), (own_hhi (p10 + 1))⟩
 obtain ⟨T14, h14, X14, e14, W14, st14⟩ := stI X36 hx hZ e36 Ar14 (j := (oH (p10 + 1))) hin14 (g := (mkF m 119 l5 [(.int p49), (.int (oH (p10 + 1))), (.ref a31)])) rfl rfl (hb hby d21_119)
 have V14 := Arh.push Ar14 q14 S14 N14 H14 G14 rfl W14 hin14
 have K14 := own_kpWr K13 W14 (Or.inl (List.mem_of_getElem? (i := 2) rfl))
 have z_W14 := Nat.le_of_eq W14.size.symm
 have F64 := (Fld.other W14 (Fld.other W13 F46 (Or.inl ne29)) (Or.inl (Ne.symm ne54)))
 obtain ⟨T42, X42, e42, st42⟩ := own_gF X14 hx hZ hown hby (own_wd hw 148 rfl) e14 F64 d21_121 l5 []
 have H79 := (Arh.other V13 W14 (Ne.symm ne53))
 obtain ⟨cl11, Ar11, q11, S11, N11, H11, G11⟩ := id H79
 have hin11 := inb_of S11 ⟨(ar622 (oH (p10 + 1)) ), (ar623 (oH (p10 + 1)) )⟩
 obtain ⟨T11, h11, X11, e11, W11, st11⟩ := stI X42 hx hZ e42 Ar11 (j := (oN (oH (p10 + 1)))) hin11 (g := (mkF m 127 l5 [(.int 0), (.int (oN (oH (p10 + 1)))), (.ref a26)])) rfl rfl (hb hby d21_127)
 have V11 := Arh.push Ar11 q11 S11 N11 H11 G11 rfl W11 hin11
 have K11 := own_kpWr K14 W11 (Or.inl (List.mem_of_getElem? (i := 0) rfl))
 have z_W11 := Nat.le_of_eq W11.size.symm
 have F65 := (Fld.other W11 F64 (Or.inl ne29))
 let l6 : Array Slot := #[.val (.ref a16), .val (.ref a18), .val (.int 31), .val (.int (oN (oH (p10 + 1)))), .val (.int (oN (oN (oH (p10 + 1))))), .val (.int (oH p19)), .val (.int 1)]
 obtain ⟨T28, X28, e28, st28⟩ := own_gF X11 hx hZ hown hby (own_wd hw 148 rfl) e11 F65 d21_44 l6 []
 obtain ⟨cl24, Ar24, q24, S24, N24, H24, G24⟩ := id V11
 have hin24 := inb_of S24 ⟨(ar898 (oH (p10 + 1)) ), (ar899 (oH (p10 + 1)) )⟩
 have hat24 := atH H24 hin24 (getH_miss (ar898 (oH (p10 + 1)) ) (ar798 (oH (p10 + 1)) ) (getH_miss (ar898 (oH (p10 + 1)) ) (ar758 (oH (p10 + 1)) ) (getH_miss (ar898 (oH (p10 + 1)) ) (ar758 (oH (p10 + 1)) ) (getH_miss (ar898 (oH (p10 + 1)) ) hp75 (getH_miss (ar898 (oH (p10 + 1)) ) hp76 (getH_miss (ar898 (oH (p10 + 1)) ) hp77 (getH_all rfl _)))))))
 have F80 := (Fld.other W11 (Fld.other W14 (Fld.other W13 F15 (Or.inl ne29)) (Or.inl (Ne.symm ne54))) (Or.inl ne29))
 have F81 := (Fld.other W11 (Fld.other W14 F61 (Or.inl (Ne.symm ne54))) (Or.inl ne29))
 have H82 := (Arh.other V14 W11 ne53)
 refine own_go (T2 := T28) (g2 := (mkF m 142 l6 [])) (fun t k => z_iloadN X17 hx hby d21_77 rfl (z_iand X17 hx hby d21_78 (z_icmpNo X17 hx hby d21_79 (flt hp72).1 (z_iconst X17 hx hby d21_82 (z_goto X17 hx hby 87 d21_83 rfl (z_istore X17 hx hby d21_87 l5 rfl (z_iload X17 hx hby d21_89 rfl (z_ifNo X17 hx hby d21_91 ((if0 _ _).trans (feq (show ¬ ((1 : Int32) = 0) from (by decide))).1) (z_aloadN X17 hx hby d21_94 rfl rfl (st40 _ (z_iloadN X40 hx hby d21_98 rfl (z_aloadN X40 hx hby d21_99 rfl rfl (st35 _ (z_iload X35 hx hby d21_103 rfl (own_ial X35 hx hZ e35 Ar22 hin22 hat22 rfl rfl (hb hby d21_105) (st13 _ (z_aloadN X13 hx hby d21_107 rfl rfl (st41 _ (z_iloadN X41 hx hby d21_111 rfl (z_aloadN X41 hx hby d21_112 rfl rfl (st36 _ (z_iload X36 hx hby d21_116 rfl (own_ial X36 hx hZ e36 Ar23 hin23 hat23 rfl rfl (hb hby d21_118) (st14 _ (z_aloadN X14 hx hby d21_120 rfl rfl (st42 _ (z_iload X42 hx hby d21_124 rfl (z_iconst X42 hx hby d21_126 (st11 _ (z_iload X11 hx hby d21_128 rfl (z_istoreN X11 hx hby d21_130 #[.val (.ref a16), .val (.ref a18), .val (.int 31), .val (.int (oN (oH (p10 + 1)))), .val (.int (oN (oH (p10 + 1)))), .val (.int (oH p19)), .val (.int 1)] rfl (z_iload X11 hx hby d21_131 rfl (z_iconst X11 hx hby d21_133 (z_iadd X11 hx hby d21_134 (z_iloadN X11 hx hby d21_135 rfl (z_iand X11 hx hby d21_136 (z_istore X11 hx hby d21_137 l6 rfl (z_goto X11 hx hby 43 d21_139 rfl (z_aloadN X11 hx hby d21_43 rfl rfl (st28 _ (z_iload X28 hx hby d21_47 rfl (own_ial X28 hx hZ e28 Ar24 hin24 hat24 rfl rfl (hb hby d21_49) (z_ifYes X28 hx hby 142 d21_50 ((if0 _ _).trans (teq (show (0 : Int32) = 0 from (by decide))).1) rfl k))))))))))))))))))))))))))))))))))))))))))) ?_
 exact own_endV X28 hx Bd.notSynchronized Bd.returns (hb hby d21_142) (by decide) (by decide) (by rw [e28]; exact ⟨rfl, (by simpa only [List.append_nil] using K11), V11, F65, F80, F81, H82⟩)
def own_Q3187 (Z : State) (h0 : Heap) (a3188 : Addr) (a3189 : Addr) (a3190 : Addr) (c3193 : ClassId) (p3194 : Int32) (p3195 : Int32) (p3196 : Int32) (p3197 : Int32) (p3198 : Int32) (p3199 : Int32) (p3206 : Int32) (a3252 : Addr) (v : Option Value) (h : Heap) (L : List Loc) : Prop := v = none ∧ own_Kp h0 h [a3190, a3188] L ∧ Arh Z h a3190 c3193 .int 32 [((((oH (p3206 + 1)) + 1) &&& 31), (.int 0)), (p3194, (.int p3195)), (p3196, (.int p3197)), (p3198, (.int p3199))] [] (.int 0) ∧ Fld Z h a3188 own_s1 "slots" "[I" (.ref a3190) ∧ Fld Z h a3188 own_s1 "size" "I" (.int 2) ∧ Fld Z h a3188 own_s1 "indices" "[I" (.ref a3252)
set_option maxRecDepth 65536 in
set_option maxHeartbeats 40000000 in
theorem rm3187 (l : Launch) (Z : State) (a0 : Array Value) (hw : ∀ d ∈ tables_1, d.before a0 Z = true) (h0 : Heap) (a14 a15 a27 : Addr) (c35 : ClassId) (p28 p34 : Int32) (p31 p19 : Int32) (p32 p33 p10 : Int32) (a40 : Addr) (F36 : Fld Z h0 a14 own_s1 "slots" "[I" (.ref a27)) (H41 : Arh Z h0 a27 c35 .int 32 [(p28, (.int p34)), (p31, (.int p19)), (p32, (.int p33))] [] (.int 0)) (F46 : Fld Z h0 a15 own_s0 "id" "I" (.int p10)) (E47 : Exa Z h0 a15 own_s0) (hp48 : ¬ ((oH (p10 + 1)) = p28)) (hp49 : ¬ ((oH (p10 + 1)) = p31)) (hp50 : (oH (p10 + 1)) = p32) (hp51 : ¬ (p33 = (p10 + 1))) (hp52 : ¬ (p33 = 0)) (hp53 : (oN (oH (p10 + 1))) = p28) (hp54 : p34 = (p10 + 1)) (E43 : Exa Z h0 a14 own_s1) (F55 : Fld Z h0 a14 own_s1 "size" "I" (.int 3)) (ne37 : a14 ≠ a27) (hp44 : ¬ ((oN (oN (oH (p10 + 1)))) = p28)) (hp45 : (oN (oN (oH (p10 + 1)))) = p31) (hp56 : ¬ (p19 = 0)) (hp57 : (((oN (oN (oH (p10 + 1)))) - (oH p19)) &&& 31) < (((oN (oN (oH (p10 + 1)))) - (oN (oH (p10 + 1)))) &&& 31)) (hp58 : ¬ ((oN (oN (oN (oH (p10 + 1))))) = p28)) (hp59 : ¬ ((oN (oN (oN (oH (p10 + 1))))) = p31)) (hp60 : ¬ ((oN (oN (oN (oH (p10 + 1))))) = p32)) (F61 : Fld Z h0 a14 own_s1 "indices" "[I" (.ref a40)) :
    own_Con l Z own_y2 prog_7_method_5_code 7 none ({ frames := 2, cells := 0, slots := 0, locals := 29 } : Room) #[(.ref a14), (.ref a15)] h0 (own_Q3187 Z h0 a14 a15 a27 c35 p28 p34 p31 p19 p32 p33 p10 a40) := by
 refine MetFree.of_bodySF (plainFor_of_name own_pn8) hisR ?_
 intro p e s m args below meth c s₁ Bd hml0 hP hK
 obtain ⟨rfl, hZ, hh⟩ := hP
 have hx := Bd.exec
 have hby := Bd.bytes
 have hml : c.maxLocals = 7 := hml0
 have hown : s.vm.findClass own_s1 = some m.cls := findClass_of_methodNamed Bd.named
 have hnm := (name_of_methodNamed Bd.named Bd.method).1
 have X0 : Stand p l e ({ frames := 2, cells := 0, slots := 0, locals := 29 } : Room) s m #[(.ref a14), (.ref a15)] below meth c s₁ [] 0 0 := Stand.of_body Bd
 have e0 : s₁.heap = h0 := by rw [← hh, Bd.state]; rfl
 have K0 : own_Kp h0 h0 [a27, a14] [] := own_kpRefl _ _
 show own_Go p e below (own_K s (own_Q3187 Z h0 a14 a15 a27 c35 p28 p34 p31 p19 p32 p33 p10 a40) 0 0) s₁ (entryFrame m #[(.ref a14), (.ref a15)] 7)
 rw [own_ef804]
 obtain ⟨T20, X20, e20, st20⟩ := own_gF X0 hx hZ hown hby (own_wd hw 148 rfl) e0 F36 d21_1 #[.val (.ref a14), .val (.ref a15), .unset, .unset, .unset, .unset, .unset] []
 obtain ⟨cl24, Ar24, q24, S24, N24, H24, G24⟩ := id H41
 let l1 : Array Slot := #[.val (.ref a14), .val (.ref a15), .val (.int 31), .unset, .unset, .unset, .unset]
 obtain ⟨_, T25, L25, X25, ⟨rfl, rfl, e25⟩, st25⟩ := own_cv X20 hx hZ hown (own_w475 hw) hml (g := (mkF m 10 l1 [(.ref a15), (.ref a14)])) (hb hby d21_10) e20 E47 [] [(.ref a14)] (lenOf own_pd5 rfl) (rm462 l Z a0 hw h0 a15 p10 F46)
 obtain ⟨_, T26, L26, X26, ⟨rfl, rfl, e26⟩, st26⟩ := own_cp X25 hx hZ hown (own_w499 hw) hml (g := (mkF m 15 l1 [(.int (p10 + 1)), (.ref a14)])) (hb hby d21_15) e25 E43 [(.int (p10 + 1))] [] (lenOf own_pd13 rfl) (rm1300 l Z a0 hw h0 a14 (p10 + 1) a27 c35 p28 p34 p31 p19 p32 p33 F36 H41 hp48 hp49 hp50 hp51 hp52 hp53 hp54)
 let l2 : Array Slot := #[.val (.ref a14), .val (.ref a15), .val (.int 31), .val (.int (oN (oH (p10 + 1)))), .unset, .unset, .unset]
 obtain ⟨T29, X29, e29, st29⟩ := own_gF X26 hx hZ hown hby (own_wd hw 148 rfl) e26 F36 d21_20 l2 []
 obtain ⟨cl11, Ar11, q11, S11, N11, H11, G11⟩ := id H41
 have hin11 := inb_of S11 ⟨(ar622 (oH (p10 + 1)) ), (ar623 (oH (p10 + 1)) )⟩
 obtain ⟨T11, h11, X11, e11, W11, st11⟩ := stI X29 hx hZ e29 Ar11 (j := (oN (oH (p10 + 1)))) hin11 (g := (mkF m 25 l2 [(.int 0), (.int (oN (oH (p10 + 1)))), (.ref a27)])) rfl rfl (hb hby d21_25)
 have V11 := Arh.push Ar11 q11 S11 N11 H11 G11 rfl W11 hin11
 have K11 := own_kpWr K0 W11 (Or.inl (List.mem_of_getElem? (i := 0) rfl))
 have z_W11 := Nat.le_of_eq W11.size.symm
 have F42 := (Fld.other W11 F55 (Or.inl ne37))
 obtain ⟨T30, X30, e30, st30⟩ := own_gF X11 hx hZ hown hby (own_wd hw 157 rfl) e11 F42 d21_28 l2 [(.ref a14)]
 have E62 := (Exa.wr W11 E43)
 obtain ⟨T13, h13, X13, e13, W13, st13⟩ := putF X30 hx hZ hown (host := "") (Or.inl (own_wd hw 157 rfl)) Via.refl e30 F42 E62 (Or.inl (own_wd hw 158 rfl)) (own_wd hw 141 rfl) (ty := .int) (by decide) rfl rfl (g := (mkF m 33 l2 [(.int 2), (.ref a14)])) rfl rfl (hb hby d21_33)
 have F13 := Fld.same W13 F42
 have K13 := own_kpWr K11 W13 (Or.inl (List.mem_of_getElem? (i := 1) rfl))
 have z_W13 := Nat.le_of_eq W13.size.symm
 have F38 := (Fld.other W13 (Fld.other W11 F36 (Or.inl ne37)) (Or.inr (slot_ne (Or.inl (own_wd hw 149 rfl)) (Or.inl (own_wd hw 158 rfl)) (by decide) (t := (.array .int)) (t' := .int) (by decide) (by decide))))
 let l3 : Array Slot := #[.val (.ref a14), .val (.ref a15), .val (.int 31), .val (.int (oN (oH (p10 + 1)))), .val (.int (oN (oN (oH (p10 + 1))))), .unset, .unset]
 obtain ⟨T21, X21, e21, st21⟩ := own_gF X13 hx hZ hown hby (own_wd hw 148 rfl) e13 F38 d21_44 l3 []
 have H39 := (Arh.other V11 W13 (Ne.symm ne37))
 obtain ⟨cl16, Ar16, q16, S16, N16, H16, G16⟩ := id H39
 have hin16 := inb_of S16 ⟨(ar898 (oH (p10 + 1)) ), (ar899 (oH (p10 + 1)) )⟩
 have hat16 := atH H16 hin16 (getH_miss (ar898 (oH (p10 + 1)) ) (ar798 (oH (p10 + 1)) ) (getH_miss (ar898 (oH (p10 + 1)) ) hp44 (getH_hit (ar898 (oH (p10 + 1)) ) hp45)))
 obtain ⟨T23, X23, e23, st23⟩ := own_gF X21 hx hZ hown hby (own_wd hw 148 rfl) e21 F38 d21_54 l3 []
 obtain ⟨cl17, Ar17, q17, S17, N17, H17, G17⟩ := id H39
 have hin17 := inb_of S17 ⟨(ar898 (oH (p10 + 1)) ), (ar899 (oH (p10 + 1)) )⟩
 have hat17 := atH H17 hin17 (getH_miss (ar898 (oH (p10 + 1)) ) (ar798 (oH (p10 + 1)) ) (getH_miss (ar898 (oH (p10 + 1)) ) hp44 (getH_hit (ar898 (oH (p10 + 1)) ) hp45)))
 obtain ⟨_, T12, L12, X12, ⟨rfl, rfl, e12⟩, st12⟩ := own_cs X23 hx hZ hown (own_w489 hw) hml (g := (mkF m 61 l3 [(.int 31), (.int p19)])) (hb hby d21_61) e23 [(.int p19), (.int 31)] [] (lenOf own_pd12 rfl) (rm487 l Z a0 hw h13 p19 )
 let l4 : Array Slot := #[.val (.ref a14), .val (.ref a15), .val (.int 31), .val (.int (oN (oH (p10 + 1)))), .val (.int (oN (oN (oH (p10 + 1))))), .val (.int (oH p19)), .unset]
 refine own_go (T2 := T12) (g2 := (mkF m 77 l4 [(.int ((oN (oN (oH (p10 + 1)))) - (oN (oH (p10 + 1))))), (.int (((oN (oN (oH (p10 + 1)))) - (oH p19)) &&& 31))])) (fun t k => z_aloadN X0 hx hby d21_0 rfl rfl (st20 _ (own_alen X20 hx hZ e20 Ar24 S24 N24 rfl rfl (hb hby d21_4) (z_iconst X20 hx hby d21_5 (z_isub X20 hx hby d21_6 (z_istoreN X20 hx hby d21_7 l1 rfl (z_aloadN X20 hx hby d21_8 rfl rfl (z_aloadN X20 hx hby d21_9 rfl rfl (st25 _ (z_iconst X25 hx hby d21_13 (z_iadd X25 hx hby d21_14 (st26 _ (z_istoreN X26 hx hby d21_18 l2 rfl (z_aloadN X26 hx hby d21_19 rfl rfl (st29 _ (z_iloadN X29 hx hby d21_23 rfl (z_iconst X29 hx hby d21_24 (st11 _ (z_aloadN X11 hx hby d21_26 rfl rfl (z_dup X11 hx hby d21_27 rfl (st30 _ (z_iconst X30 hx hby d21_31 (z_isub X30 hx hby d21_32 (st13 _ (z_iloadN X13 hx hby d21_36 rfl (z_iconst X13 hx hby d21_37 (z_iadd X13 hx hby d21_38 (z_iloadN X13 hx hby d21_39 rfl (z_iand X13 hx hby d21_40 (z_istore X13 hx hby d21_41 l3 rfl (z_aloadN X13 hx hby d21_43 rfl rfl (st21 _ (z_iload X21 hx hby d21_47 rfl (own_ial X21 hx hZ e21 Ar16 hin16 hat16 rfl rfl (hb hby d21_49) (z_ifNo X21 hx hby d21_50 ((if0 _ _).trans (feq hp56).1) (z_aloadN X21 hx hby d21_53 rfl rfl (st23 _ (z_iload X23 hx hby d21_57 rfl (own_ial X23 hx hZ e23 Ar17 hin17 hat17 rfl rfl (hb hby d21_59) (z_iloadN X23 hx hby d21_60 rfl (st12 _ (z_istore X12 hx hby d21_64 l4 rfl (z_iload X12 hx hby d21_66 rfl (z_iload X12 hx hby d21_68 rfl (z_isub X12 hx hby d21_70 (z_iloadN X12 hx hby d21_71 rfl (z_iand X12 hx hby d21_72 (z_iload X12 hx hby d21_73 rfl (z_iloadN X12 hx hby d21_75 rfl (z_isub X12 hx hby d21_76 k)))))))))))))))))))))))))))))))))))))))))))))))))) ?_
 let l5 : Array Slot := #[.val (.ref a14), .val (.ref a15), .val (.int 31), .val (.int (oN (oH (p10 + 1)))), .val (.int (oN (oN (oN (oH (p10 + 1)))))), .val (.int (oH p19)), .val (.int 0)]
 obtain ⟨T22, X22, e22, st22⟩ := own_gF X12 hx hZ hown hby (own_wd hw 148 rfl) e12 F38 d21_44 l5 []
 obtain ⟨cl18, Ar18, q18, S18, N18, H18, G18⟩ := id H39
 have hin18 := inb_of S18 ⟨(ar925 (oH (p10 + 1)) ), (ar926 (oH (p10 + 1)) )⟩
 have hat18 := atH H18 hin18 (getH_miss (ar925 (oH (p10 + 1)) ) (ar928 (oH (p10 + 1)) ) (getH_miss (ar925 (oH (p10 + 1)) ) hp58 (getH_miss (ar925 (oH (p10 + 1)) ) hp59 (getH_miss (ar925 (oH (p10 + 1)) ) hp60 (getH_all rfl _)))))
 have F63 := (Fld.other W13 (Fld.other W11 F61 (Or.inl ne37)) (Or.inr (slot_ne (Or.inl (own_wd hw 151 rfl)) (Or.inl (own_wd hw 158 rfl)) (by decide) (t := (.array .int)) (t' := .int) (by decide) (by decide))))
 refine own_go (T2 := T22) (g2 := (mkF m 142 l5 [])) (fun t k => z_iloadN X12 hx hby d21_77 rfl (z_iand X12 hx hby d21_78 (z_icmpYes X12 hx hby 86 d21_79 (tlt hp57).1 rfl (z_iconst X12 hx hby d21_86 (z_istore X12 hx hby d21_87 #[.val (.ref a14), .val (.ref a15), .val (.int 31), .val (.int (oN (oH (p10 + 1)))), .val (.int (oN (oN (oH (p10 + 1))))), .val (.int (oH p19)), .val (.int 0)] rfl (z_iload X12 hx hby d21_89 rfl (z_ifYes X12 hx hby 131 d21_91 ((if0 _ _).trans (teq (show (0 : Int32) = 0 from (by decide))).1) rfl (z_iload X12 hx hby d21_131 rfl (z_iconst X12 hx hby d21_133 (z_iadd X12 hx hby d21_134 (z_iloadN X12 hx hby d21_135 rfl (z_iand X12 hx hby d21_136 (z_istore X12 hx hby d21_137 l5 rfl (z_goto X12 hx hby 43 d21_139 rfl (z_aloadN X12 hx hby d21_43 rfl rfl (st22 _ (z_iload X22 hx hby d21_47 rfl (own_ial X22 hx hZ e22 Ar18 hin18 hat18 rfl rfl (hb hby d21_49) (z_ifYes X22 hx hby 142 d21_50 ((if0 _ _).trans (teq (show (0 : Int32) = 0 from (by decide))).1) rfl k))))))))))))))))))) ?_
 exact own_endV X22 hx Bd.notSynchronized Bd.returns (hb hby d21_142) (by decide) (by decide) (by rw [e22]; exact ⟨rfl, (by simpa only [List.append_nil] using K13), H39, F38, F13, F63⟩)
theorem cn3261 (x0 x1 x2 : Int32) (v0 v1 v2 : Value) (h0 : ¬ (x0 = x1)) (h1 : ¬ (x0 = x2)) (h2 : ¬ (x1 = x2)) : ∀ i : Nat, getH [(x0, v0), (x1, v1), (x2, v2)] [] (.int 0) i = getH [(x2, v2), (x0, v0), (x1, v1)] [] (.int 0) i := by
  intro i
  have g0 := mt Int32.toInt_inj.mp h0
  have g1 := mt Int32.toInt_inj.mp h1
  have g2 := mt Int32.toInt_inj.mp h2
  simp only [getH]
  repeat' split
  all_goals first | rfl | (exfalso; omega)
set_option maxRecDepth 65536 in
set_option maxHeartbeats 40000000 in
theorem rm3303 (l : Launch) (Z : State) (a0 : Array Value) (hw : ∀ d ∈ tables_1, d.before a0 Z = true) (h0 : Heap) (a13 a16 : Addr) (p10 : Int32) (a22 : Addr) (c25 : ClassId) (p19 p20 : Int32) (p23 p26 : Int32) (a27 : Addr) (c30 : ClassId) (p21 p31 : Int32) (p32 p33 : Int32) (F34 : Fld Z h0 a16 own_s0 "id" "I" (.int p10)) (E35 : Exa Z h0 a16 own_s0) (F28 : Fld Z h0 a13 own_s1 "slots" "[I" (.ref a22)) (H29 : Arh Z h0 a22 c25 .int 32 [(p19, (.int p20)), (p23, (.int p26))] [] (.int 0)) (hp24 : (oH (p10 + 1)) = p19) (hp36 : p20 = (p10 + 1)) (E37 : Exa Z h0 a13 own_s1) (hp38 : ¬ (p20 = 0)) (F39 : Fld Z h0 a13 own_s1 "indices" "[I" (.ref a27)) (H40 : Arh Z h0 a27 c30 .int 32 [(p19, (.int p21)), (p31, (.int p32)), (p23, (.int p33))] [] (.int 0)) :
    own_Con l Z own_y0 prog_7_method_2_code 3 (some .int) ({ frames := 2, cells := 0, slots := 0, locals := 29 } : Room) #[(.ref a13), (.ref a16)] h0 (own_QP (some (.int p21)) h0) := by
 refine MetFree.of_bodySF (plainFor_of_name own_pn8) hisR ?_
 intro p e s m args below meth c s₁ Bd hml0 hP hK
 obtain ⟨rfl, hZ, hh⟩ := hP
 have hx := Bd.exec
 have hby := Bd.bytes
 have hml : c.maxLocals = 3 := hml0
 have hown : s.vm.findClass own_s1 = some m.cls := findClass_of_methodNamed Bd.named
 have hnm := (name_of_methodNamed Bd.named Bd.method).1
 have X0 : Stand p l e ({ frames := 2, cells := 0, slots := 0, locals := 29 } : Room) s m #[(.ref a13), (.ref a16)] below meth c s₁ [] 0 0 := Stand.of_body Bd
 have e0 : s₁.heap = h0 := by rw [← hh, Bd.state]; rfl
 have K0 : own_Kp h0 h0 [] [] := own_kpRefl _ _
 show own_Go p e below (own_K s (own_QP (some (.int p21)) h0) 0 0) s₁ (entryFrame m #[(.ref a13), (.ref a16)] 3)
 rw [own_ef950]
 let l1 : Array Slot := #[.val (.ref a13), .val (.ref a16), .unset]
 obtain ⟨_, T17, L17, X17, ⟨rfl, rfl, e17⟩, st17⟩ := own_cv X0 hx hZ hown (own_w475 hw) hml (g := (mkF m 2 l1 [(.ref a16), (.ref a13)])) (hb hby d22_2) e0 E35 [] [(.ref a13)] (lenOf own_pd5 rfl) (rm462 l Z a0 hw h0 a16 p10 F34)
 obtain ⟨_, T18, L18, X18, ⟨rfl, rfl, e18⟩, st18⟩ := own_cp X17 hx hZ hown (own_w499 hw) hml (g := (mkF m 7 l1 [(.int (p10 + 1)), (.ref a13)])) (hb hby d22_7) e17 E37 [(.int (p10 + 1))] [] (lenOf own_pd13 rfl) (rm1116 l Z a0 hw h0 a13 (p10 + 1) a22 c25 p19 p20 p23 p26 F28 H29 hp24 hp36)
 let l2 : Array Slot := #[.val (.ref a13), .val (.ref a16), .val (.int (oH (p10 + 1)))]
 obtain ⟨T14, X14, e14, st14⟩ := own_gF X18 hx hZ hown hby (own_wd hw 148 rfl) e18 F28 d22_12 l2 []
 obtain ⟨cl11, Ar11, q11, S11, N11, H11, G11⟩ := id H29
 have hin11 := inb_of S11 ⟨(own_hlo (p10 + 1)), (own_hhi (p10 + 1))⟩
 have hat11 := atH H11 hin11 (getH_hit (own_hlo (p10 + 1)) hp24)
 obtain ⟨T15, X15, e15, st15⟩ := own_gF X14 hx hZ hown hby (own_wd hw 150 rfl) e14 F39 d22_25 l2 []
 obtain ⟨cl12, Ar12, q12, S12, N12, H12, G12⟩ := id H40
 have hin12 := inb_of S12 ⟨(own_hlo (p10 + 1)), (own_hhi (p10 + 1))⟩
 have hat12 := atH H12 hin12 (getH_hit (own_hlo (p10 + 1)) hp24)
 refine own_go (T2 := T15) (g2 := (mkF m 30 l2 [(.int p21)])) (fun t k => z_aloadN X0 hx hby d22_0 rfl rfl (z_aloadN X0 hx hby d22_1 rfl rfl (st17 _ (z_iconst X17 hx hby d22_5 (z_iadd X17 hx hby d22_6 (st18 _ (z_istoreN X18 hx hby d22_10 l2 rfl (z_aloadN X18 hx hby d22_11 rfl rfl (st14 _ (z_iloadN X14 hx hby d22_15 rfl (own_ial X14 hx hZ e14 Ar11 hin11 hat11 rfl rfl (hb hby d22_16) (z_ifYes X14 hx hby 24 d22_17 ((if0 _ _).trans (feq hp38).2) rfl (z_aloadN X14 hx hby d22_24 rfl rfl (st15 _ (z_iloadN X15 hx hby d22_28 rfl (own_ial X15 hx hZ e15 Ar12 hin12 hat12 rfl rfl (hb hby d22_29) k)))))))))))))))) ?_
 exact own_endI X15 hx Bd.notSynchronized Bd.returns (hb hby d22_30) (by decide) (by decide) ⟨rfl, rfl, e15⟩
set_option maxRecDepth 65536 in
set_option maxHeartbeats 40000000 in
theorem rm3434 (l : Launch) (Z : State) (a0 : Array Value) (hw : ∀ d ∈ tables_1, d.before a0 Z = true) (h0 : Heap) (a13 a16 : Addr) (p10 : Int32) (a23 : Addr) (c26 : ClassId) (p19 p27 : Int32) (p20 p21 : Int32) (a28 : Addr) (c32 : ClassId) (p33 p29 : Int32) (p34 p22 : Int32) (F35 : Fld Z h0 a16 own_s0 "id" "I" (.int p10)) (E36 : Exa Z h0 a16 own_s0) (F30 : Fld Z h0 a13 own_s1 "slots" "[I" (.ref a23)) (H31 : Arh Z h0 a23 c26 .int 32 [(p19, (.int p27)), (p20, (.int p21))] [] (.int 0)) (hp24 : ¬ ((oH (p10 + 1)) = p19)) (hp25 : (oH (p10 + 1)) = p20) (hp37 : p21 = (p10 + 1)) (E38 : Exa Z h0 a13 own_s1) (hp39 : ¬ (p21 = 0)) (F40 : Fld Z h0 a13 own_s1 "indices" "[I" (.ref a28)) (H41 : Arh Z h0 a28 c32 .int 32 [(p19, (.int p33)), (p29, (.int p34)), (p20, (.int p22))] [] (.int 0)) (hp42 : ¬ ((oH (p10 + 1)) = p29)) :
    own_Con l Z own_y0 prog_7_method_2_code 3 (some .int) ({ frames := 2, cells := 0, slots := 0, locals := 29 } : Room) #[(.ref a13), (.ref a16)] h0 (own_QP (some (.int p22)) h0) := by
 refine MetFree.of_bodySF (plainFor_of_name own_pn8) hisR ?_
 intro p e s m args below meth c s₁ Bd hml0 hP hK
 obtain ⟨rfl, hZ, hh⟩ := hP
 have hx := Bd.exec
 have hby := Bd.bytes
 have hml : c.maxLocals = 3 := hml0
 have hown : s.vm.findClass own_s1 = some m.cls := findClass_of_methodNamed Bd.named
 have hnm := (name_of_methodNamed Bd.named Bd.method).1
 have X0 : Stand p l e ({ frames := 2, cells := 0, slots := 0, locals := 29 } : Room) s m #[(.ref a13), (.ref a16)] below meth c s₁ [] 0 0 := Stand.of_body Bd
 have e0 : s₁.heap = h0 := by rw [← hh, Bd.state]; rfl
 have K0 : own_Kp h0 h0 [] [] := own_kpRefl _ _
 show own_Go p e below (own_K s (own_QP (some (.int p22)) h0) 0 0) s₁ (entryFrame m #[(.ref a13), (.ref a16)] 3)
 rw [own_ef950]
 let l1 : Array Slot := #[.val (.ref a13), .val (.ref a16), .unset]
 obtain ⟨_, T17, L17, X17, ⟨rfl, rfl, e17⟩, st17⟩ := own_cv X0 hx hZ hown (own_w475 hw) hml (g := (mkF m 2 l1 [(.ref a16), (.ref a13)])) (hb hby d22_2) e0 E36 [] [(.ref a13)] (lenOf own_pd5 rfl) (rm462 l Z a0 hw h0 a16 p10 F35)
 obtain ⟨_, T18, L18, X18, ⟨rfl, rfl, e18⟩, st18⟩ := own_cp X17 hx hZ hown (own_w499 hw) hml (g := (mkF m 7 l1 [(.int (p10 + 1)), (.ref a13)])) (hb hby d22_7) e17 E38 [(.int (p10 + 1))] [] (lenOf own_pd13 rfl) (rm1225 l Z a0 hw h0 a13 (p10 + 1) a23 c26 p19 p27 p20 p21 F30 H31 hp24 hp25 hp37)
 let l2 : Array Slot := #[.val (.ref a13), .val (.ref a16), .val (.int (oH (p10 + 1)))]
 obtain ⟨T14, X14, e14, st14⟩ := own_gF X18 hx hZ hown hby (own_wd hw 148 rfl) e18 F30 d22_12 l2 []
 obtain ⟨cl11, Ar11, q11, S11, N11, H11, G11⟩ := id H31
 have hin11 := inb_of S11 ⟨(own_hlo (p10 + 1)), (own_hhi (p10 + 1))⟩
 have hat11 := atH H11 hin11 (getH_miss (own_hlo (p10 + 1)) hp24 (getH_hit (own_hlo (p10 + 1)) hp25))
 obtain ⟨T15, X15, e15, st15⟩ := own_gF X14 hx hZ hown hby (own_wd hw 150 rfl) e14 F40 d22_25 l2 []
 obtain ⟨cl12, Ar12, q12, S12, N12, H12, G12⟩ := id H41
 have hin12 := inb_of S12 ⟨(own_hlo (p10 + 1)), (own_hhi (p10 + 1))⟩
 have hat12 := atH H12 hin12 (getH_miss (own_hlo (p10 + 1)) hp24 (getH_miss (own_hlo (p10 + 1)) hp42 (getH_hit (own_hlo (p10 + 1)) hp25)))
 refine own_go (T2 := T15) (g2 := (mkF m 30 l2 [(.int p22)])) (fun t k => z_aloadN X0 hx hby d22_0 rfl rfl (z_aloadN X0 hx hby d22_1 rfl rfl (st17 _ (z_iconst X17 hx hby d22_5 (z_iadd X17 hx hby d22_6 (st18 _ (z_istoreN X18 hx hby d22_10 l2 rfl (z_aloadN X18 hx hby d22_11 rfl rfl (st14 _ (z_iloadN X14 hx hby d22_15 rfl (own_ial X14 hx hZ e14 Ar11 hin11 hat11 rfl rfl (hb hby d22_16) (z_ifYes X14 hx hby 24 d22_17 ((if0 _ _).trans (feq hp39).2) rfl (z_aloadN X14 hx hby d22_24 rfl rfl (st15 _ (z_iloadN X15 hx hby d22_28 rfl (own_ial X15 hx hZ e15 Ar12 hin12 hat12 rfl rfl (hb hby d22_29) k)))))))))))))))) ?_
 exact own_endI X15 hx Bd.notSynchronized Bd.returns (hb hby d22_30) (by decide) (by decide) ⟨rfl, rfl, e15⟩
def own_Q3553 (Z : State) (h0 : Heap) (a3554 : Addr) (a3555 : Addr) (a3556 : Addr) (c3559 : ClassId) (p3560 : Int32) (p3561 : Int32) (p3562 : Int32) (p3563 : Int32) (p3564 : Int32) (p3565 : Int32) (p3572 : Int32) (a3609 : Addr) (v : Option Value) (h : Heap) (L : List Loc) : Prop := v = none ∧ own_Kp h0 h [a3556, a3554] L ∧ Arh Z h a3556 c3559 .int 32 [((((oH (p3572 + 1)) + 1) &&& 31), (.int 0)), (p3560, (.int p3561)), (p3562, (.int p3563)), (p3564, (.int p3565))] [] (.int 0) ∧ Fld Z h a3554 own_s1 "slots" "[I" (.ref a3556) ∧ Fld Z h a3554 own_s1 "size" "I" (.int 2) ∧ Fld Z h a3554 own_s1 "indices" "[I" (.ref a3609)
set_option maxRecDepth 65536 in
set_option maxHeartbeats 40000000 in
theorem rm3553 (l : Launch) (Z : State) (a0 : Array Value) (hw : ∀ d ∈ tables_1, d.before a0 Z = true) (h0 : Heap) (a13 a15 a21 : Addr) (c29 : ClassId) (p24 p28 : Int32) (p25 p30 : Int32) (p26 p27 p11 : Int32) (a33 : Addr) (F31 : Fld Z h0 a13 own_s1 "slots" "[I" (.ref a21)) (H34 : Arh Z h0 a21 c29 .int 32 [(p24, (.int p28)), (p25, (.int p30)), (p26, (.int p27))] [] (.int 0)) (F39 : Fld Z h0 a15 own_s0 "id" "I" (.int p11)) (E40 : Exa Z h0 a15 own_s0) (hp41 : ¬ ((oH (p11 + 1)) = p24)) (hp42 : ¬ ((oH (p11 + 1)) = p25)) (hp43 : (oH (p11 + 1)) = p26) (hp44 : ¬ (p27 = (p11 + 1))) (hp45 : ¬ (p27 = 0)) (hp46 : (oN (oH (p11 + 1))) = p24) (hp47 : p28 = (p11 + 1)) (E36 : Exa Z h0 a13 own_s1) (F48 : Fld Z h0 a13 own_s1 "size" "I" (.int 3)) (ne32 : a13 ≠ a21) (hp49 : ¬ ((oN (oN (oH (p11 + 1)))) = p24)) (hp50 : ¬ ((oN (oN (oH (p11 + 1)))) = p25)) (hp51 : ¬ ((oN (oN (oH (p11 + 1)))) = p26)) (F52 : Fld Z h0 a13 own_s1 "indices" "[I" (.ref a33)) :
    own_Con l Z own_y2 prog_7_method_5_code 7 none ({ frames := 2, cells := 0, slots := 0, locals := 29 } : Room) #[(.ref a13), (.ref a15)] h0 (own_Q3553 Z h0 a13 a15 a21 c29 p24 p28 p25 p30 p26 p27 p11 a33) := by
 refine MetFree.of_bodySF (plainFor_of_name own_pn8) hisR ?_
 intro p e s m args below meth c s₁ Bd hml0 hP hK
 obtain ⟨rfl, hZ, hh⟩ := hP
 have hx := Bd.exec
 have hby := Bd.bytes
 have hml : c.maxLocals = 7 := hml0
 have hown : s.vm.findClass own_s1 = some m.cls := findClass_of_methodNamed Bd.named
 have hnm := (name_of_methodNamed Bd.named Bd.method).1
 have X0 : Stand p l e ({ frames := 2, cells := 0, slots := 0, locals := 29 } : Room) s m #[(.ref a13), (.ref a15)] below meth c s₁ [] 0 0 := Stand.of_body Bd
 have e0 : s₁.heap = h0 := by rw [← hh, Bd.state]; rfl
 have K0 : own_Kp h0 h0 [a21, a13] [] := own_kpRefl _ _
 show own_Go p e below (own_K s (own_Q3553 Z h0 a13 a15 a21 c29 p24 p28 p25 p30 p26 p27 p11 a33) 0 0) s₁ (entryFrame m #[(.ref a13), (.ref a15)] 7)
 rw [own_ef804]
 obtain ⟨T16, X16, e16, st16⟩ := own_gF X0 hx hZ hown hby (own_wd hw 148 rfl) e0 F31 d21_1 #[.val (.ref a13), .val (.ref a15), .unset, .unset, .unset, .unset, .unset] []
 obtain ⟨cl18, Ar18, q18, S18, N18, H18, G18⟩ := id H34
 let l1 : Array Slot := #[.val (.ref a13), .val (.ref a15), .val (.int 31), .unset, .unset, .unset, .unset]
 obtain ⟨_, T19, L19, X19, ⟨rfl, rfl, e19⟩, st19⟩ := own_cv X16 hx hZ hown (own_w475 hw) hml (g := (mkF m 10 l1 [(.ref a15), (.ref a13)])) (hb hby d21_10) e16 E40 [] [(.ref a13)] (lenOf own_pd5 rfl) (rm462 l Z a0 hw h0 a15 p11 F39)
 obtain ⟨_, T20, L20, X20, ⟨rfl, rfl, e20⟩, st20⟩ := own_cp X19 hx hZ hown (own_w499 hw) hml (g := (mkF m 15 l1 [(.int (p11 + 1)), (.ref a13)])) (hb hby d21_15) e19 E36 [(.int (p11 + 1))] [] (lenOf own_pd13 rfl) (rm1300 l Z a0 hw h0 a13 (p11 + 1) a21 c29 p24 p28 p25 p30 p26 p27 F31 H34 hp41 hp42 hp43 hp44 hp45 hp46 hp47)
 let l2 : Array Slot := #[.val (.ref a13), .val (.ref a15), .val (.int 31), .val (.int (oN (oH (p11 + 1)))), .unset, .unset, .unset]
 obtain ⟨T22, X22, e22, st22⟩ := own_gF X20 hx hZ hown hby (own_wd hw 148 rfl) e20 F31 d21_20 l2 []
 obtain ⟨cl10, Ar10, q10, S10, N10, H10, G10⟩ := id H34
 have hin10 := inb_of S10 ⟨(ar622 (oH (p11 + 1)) ), (ar623 (oH (p11 + 1)) )⟩
 obtain ⟨T10, h10, X10, e10, W10, st10⟩ := stI X22 hx hZ e22 Ar10 (j := (oN (oH (p11 + 1)))) hin10 (g := (mkF m 25 l2 [(.int 0), (.int (oN (oH (p11 + 1)))), (.ref a21)])) rfl rfl (hb hby d21_25)
 have V10 := Arh.push Ar10 q10 S10 N10 H10 G10 rfl W10 hin10
 have K10 := own_kpWr K0 W10 (Or.inl (List.mem_of_getElem? (i := 0) rfl))
 have z_W10 := Nat.le_of_eq W10.size.symm
 have F35 := (Fld.other W10 F48 (Or.inl ne32))
 obtain ⟨T23, X23, e23, st23⟩ := own_gF X10 hx hZ hown hby (own_wd hw 157 rfl) e10 F35 d21_28 l2 [(.ref a13)]
 have E53 := (Exa.wr W10 E36)
 obtain ⟨T12, h12, X12, e12, W12, st12⟩ := putF X23 hx hZ hown (host := "") (Or.inl (own_wd hw 157 rfl)) Via.refl e23 F35 E53 (Or.inl (own_wd hw 158 rfl)) (own_wd hw 141 rfl) (ty := .int) (by decide) rfl rfl (g := (mkF m 33 l2 [(.int 2), (.ref a13)])) rfl rfl (hb hby d21_33)
 have F12 := Fld.same W12 F35
 have K12 := own_kpWr K10 W12 (Or.inl (List.mem_of_getElem? (i := 1) rfl))
 have z_W12 := Nat.le_of_eq W12.size.symm
 have F37 := (Fld.other W12 (Fld.other W10 F31 (Or.inl ne32)) (Or.inr (slot_ne (Or.inl (own_wd hw 149 rfl)) (Or.inl (own_wd hw 158 rfl)) (by decide) (t := (.array .int)) (t' := .int) (by decide) (by decide))))
 let l3 : Array Slot := #[.val (.ref a13), .val (.ref a15), .val (.int 31), .val (.int (oN (oH (p11 + 1)))), .val (.int (oN (oN (oH (p11 + 1))))), .unset, .unset]
 obtain ⟨T17, X17, e17, st17⟩ := own_gF X12 hx hZ hown hby (own_wd hw 148 rfl) e12 F37 d21_44 l3 []
 have H38 := (Arh.other V10 W12 (Ne.symm ne32))
 obtain ⟨cl14, Ar14, q14, S14, N14, H14, G14⟩ := id H38
 have hin14 := inb_of S14 ⟨(ar898 (oH (p11 + 1)) ), (ar899 (oH (p11 + 1)) )⟩
 have hat14 := atH H14 hin14 (getH_miss (ar898 (oH (p11 + 1)) ) (ar798 (oH (p11 + 1)) ) (getH_miss (ar898 (oH (p11 + 1)) ) hp49 (getH_miss (ar898 (oH (p11 + 1)) ) hp50 (getH_miss (ar898 (oH (p11 + 1)) ) hp51 (getH_all rfl _)))))
 have F54 := (Fld.other W12 (Fld.other W10 F52 (Or.inl ne32)) (Or.inr (slot_ne (Or.inl (own_wd hw 151 rfl)) (Or.inl (own_wd hw 158 rfl)) (by decide) (t := (.array .int)) (t' := .int) (by decide) (by decide))))
 refine own_go (T2 := T17) (g2 := (mkF m 142 l3 [])) (fun t k => z_aloadN X0 hx hby d21_0 rfl rfl (st16 _ (own_alen X16 hx hZ e16 Ar18 S18 N18 rfl rfl (hb hby d21_4) (z_iconst X16 hx hby d21_5 (z_isub X16 hx hby d21_6 (z_istoreN X16 hx hby d21_7 l1 rfl (z_aloadN X16 hx hby d21_8 rfl rfl (z_aloadN X16 hx hby d21_9 rfl rfl (st19 _ (z_iconst X19 hx hby d21_13 (z_iadd X19 hx hby d21_14 (st20 _ (z_istoreN X20 hx hby d21_18 l2 rfl (z_aloadN X20 hx hby d21_19 rfl rfl (st22 _ (z_iloadN X22 hx hby d21_23 rfl (z_iconst X22 hx hby d21_24 (st10 _ (z_aloadN X10 hx hby d21_26 rfl rfl (z_dup X10 hx hby d21_27 rfl (st23 _ (z_iconst X23 hx hby d21_31 (z_isub X23 hx hby d21_32 (st12 _ (z_iloadN X12 hx hby d21_36 rfl (z_iconst X12 hx hby d21_37 (z_iadd X12 hx hby d21_38 (z_iloadN X12 hx hby d21_39 rfl (z_iand X12 hx hby d21_40 (z_istore X12 hx hby d21_41 l3 rfl (z_aloadN X12 hx hby d21_43 rfl rfl (st17 _ (z_iload X17 hx hby d21_47 rfl (own_ial X17 hx hZ e17 Ar14 hin14 hat14 rfl rfl (hb hby d21_49) (z_ifYes X17 hx hby 142 d21_50 ((if0 _ _).trans (teq (show (0 : Int32) = 0 from (by decide))).1) rfl k))))))))))))))))))))))))))))))))))) ?_
 exact own_endV X17 hx Bd.notSynchronized Bd.returns (hb hby d21_142) (by decide) (by decide) (by rw [e17]; exact ⟨rfl, (by simpa only [List.append_nil] using K12), H38, F37, F12, F54⟩)
theorem ar3711 (x0 x1 : Int32) (h0 : ¬ (x1 < 0)) (h1 : x1 < 32) (h2 : ¬ (x0 < 0)) (h3 : x0 < 32) (h4 : ¬ (x0 = x1)) : ¬ (((x0 + 1) &&& 31) = ((x1 + 1) &&& 31)) := by
  have f3 := rng32 x0
  have f4 : (1 : Int32).toInt = 1 := by decide
  have f2r := rng32 (x0 + 1)
  have f2 := c_iadd x0 (1 : Int32)
  have f5 : (31 : Int32).toInt = 31 := by decide
  have f1r := rng32 ((x0 + 1) &&& 31)
  have f1 : ((x0 + 1) &&& 31).toInt = (x0 + 1).toInt % 32 := c_mask (x0 + 1) (31 : Int32) 5 (by decide) (by decide)
  have f8 := rng32 x1
  have f7r := rng32 (x1 + 1)
  have f7 := c_iadd x1 (1 : Int32)
  have f6r := rng32 ((x1 + 1) &&& 31)
  have f6 : ((x1 + 1) &&& 31).toInt = (x1 + 1).toInt % 32 := c_mask (x1 + 1) (31 : Int32) 5 (by decide) (by decide)
  have f9 : (0 : Int32).toInt = 0 := by decide
  have f10 : (32 : Int32).toInt = 32 := by decide
  have g0 := mt Int32.lt_iff_toInt_lt.mpr h0
  have g1 := Int32.lt_iff_toInt_lt.mp h1
  have g2 := mt Int32.lt_iff_toInt_lt.mpr h2
  have g3 := Int32.lt_iff_toInt_lt.mp h3
  have g4 := mt Int32.toInt_inj.mp h4
  exact fun q => absurd (Int32.toInt_inj.mpr q) (by omega)
theorem cn3713 (x0 x1 x2 : Int32) (v0 v1 v2 : Value) (h0 : ¬ (x0 = x1)) (h1 : ¬ (x0 = x2)) (h2 : ¬ (x1 = x2)) : ∀ i : Nat, getH [(x0, v0), (x1, v1), (x2, v2)] [] (.int 0) i = getH [(x0, v0), (x2, v2), (x1, v1)] [] (.int 0) i := by
  intro i
  have g0 := mt Int32.toInt_inj.mp h0
  have g1 := mt Int32.toInt_inj.mp h1
  have g2 := mt Int32.toInt_inj.mp h2
  simp only [getH]
  repeat' split
  all_goals first | rfl | (exfalso; omega)
theorem ar3720 (x0 x1 : Int32) (h0 : ((x0 + 1) &&& 31) = x1) : ((((x0 + 1) &&& 31) - x1) &&& 31) < ((((x0 + 1) &&& 31) - x0) &&& 31) := by
  have f5 := rng32 x0
  have f6 : (1 : Int32).toInt = 1 := by decide
  have f4r := rng32 (x0 + 1)
  have f4 := c_iadd x0 (1 : Int32)
  have f7 : (31 : Int32).toInt = 31 := by decide
  have f3r := rng32 ((x0 + 1) &&& 31)
  have f3 : ((x0 + 1) &&& 31).toInt = (x0 + 1).toInt % 32 := c_mask (x0 + 1) (31 : Int32) 5 (by decide) (by decide)
  have f8 := rng32 x1
  have f2r := rng32 (((x0 + 1) &&& 31) - x1)
  have f2 := c_isub ((x0 + 1) &&& 31) x1
  have f1r := rng32 ((((x0 + 1) &&& 31) - x1) &&& 31)
  have f1 : ((((x0 + 1) &&& 31) - x1) &&& 31).toInt = (((x0 + 1) &&& 31) - x1).toInt % 32 := c_mask (((x0 + 1) &&& 31) - x1) (31 : Int32) 5 (by decide) (by decide)
  have f10r := rng32 (((x0 + 1) &&& 31) - x0)
  have f10 := c_isub ((x0 + 1) &&& 31) x0
  have f9r := rng32 ((((x0 + 1) &&& 31) - x0) &&& 31)
  have f9 : ((((x0 + 1) &&& 31) - x0) &&& 31).toInt = (((x0 + 1) &&& 31) - x0).toInt % 32 := c_mask (((x0 + 1) &&& 31) - x0) (31 : Int32) 5 (by decide) (by decide)
  have g0 := Int32.toInt_inj.mpr h0
  exact Int32.lt_iff_toInt_lt.mpr (by omega)
theorem ar3788 (x0 x1 : Int32) (h0 : ((x0 + 1) &&& 31) = x1) : ¬ (((((x0 + 1) &&& 31) + 1) &&& 31) = x1) := by
  have f5 := rng32 x0
  have f6 : (1 : Int32).toInt = 1 := by decide
  have f4r := rng32 (x0 + 1)
  have f4 := c_iadd x0 (1 : Int32)
  have f7 : (31 : Int32).toInt = 31 := by decide
  have f3r := rng32 ((x0 + 1) &&& 31)
  have f3 : ((x0 + 1) &&& 31).toInt = (x0 + 1).toInt % 32 := c_mask (x0 + 1) (31 : Int32) 5 (by decide) (by decide)
  have f2r := rng32 (((x0 + 1) &&& 31) + 1)
  have f2 := c_iadd ((x0 + 1) &&& 31) (1 : Int32)
  have f1r := rng32 ((((x0 + 1) &&& 31) + 1) &&& 31)
  have f1 : ((((x0 + 1) &&& 31) + 1) &&& 31).toInt = (((x0 + 1) &&& 31) + 1).toInt % 32 := c_mask (((x0 + 1) &&& 31) + 1) (31 : Int32) 5 (by decide) (by decide)
  have f8 := rng32 x1
  have g0 := Int32.toInt_inj.mpr h0
  exact fun q => absurd (Int32.toInt_inj.mpr q) (by omega)
theorem ar3790 (x0 x1 : Int32) (h0 : ((x0 + 1) &&& 31) = x1) : ((((x0 + 1) &&& 31) + 1) &&& 31) = ((x1 + 1) &&& 31) := by
  have f5 := rng32 x0
  have f6 : (1 : Int32).toInt = 1 := by decide
  have f4r := rng32 (x0 + 1)
  have f4 := c_iadd x0 (1 : Int32)
  have f7 : (31 : Int32).toInt = 31 := by decide
  have f3r := rng32 ((x0 + 1) &&& 31)
  have f3 : ((x0 + 1) &&& 31).toInt = (x0 + 1).toInt % 32 := c_mask (x0 + 1) (31 : Int32) 5 (by decide) (by decide)
  have f2r := rng32 (((x0 + 1) &&& 31) + 1)
  have f2 := c_iadd ((x0 + 1) &&& 31) (1 : Int32)
  have f1r := rng32 ((((x0 + 1) &&& 31) + 1) &&& 31)
  have f1 : ((((x0 + 1) &&& 31) + 1) &&& 31).toInt = (((x0 + 1) &&& 31) + 1).toInt % 32 := c_mask (((x0 + 1) &&& 31) + 1) (31 : Int32) 5 (by decide) (by decide)
  have f10 := rng32 x1
  have f9r := rng32 (x1 + 1)
  have f9 := c_iadd x1 (1 : Int32)
  have f8r := rng32 ((x1 + 1) &&& 31)
  have f8 : ((x1 + 1) &&& 31).toInt = (x1 + 1).toInt % 32 := c_mask (x1 + 1) (31 : Int32) 5 (by decide) (by decide)
  have g0 := Int32.toInt_inj.mpr h0
  exact Int32.toInt_inj.mp (by omega)
theorem ar3797 (x0 x1 : Int32) (h0 : ((x0 + 1) &&& 31) = x1) : ((((((x0 + 1) &&& 31) + 1) &&& 31) - x1) &&& 31) < ((((((x0 + 1) &&& 31) + 1) &&& 31) - x0) &&& 31) := by
  have f7 := rng32 x0
  have f8 : (1 : Int32).toInt = 1 := by decide
  have f6r := rng32 (x0 + 1)
  have f6 := c_iadd x0 (1 : Int32)
  have f9 : (31 : Int32).toInt = 31 := by decide
  have f5r := rng32 ((x0 + 1) &&& 31)
  have f5 : ((x0 + 1) &&& 31).toInt = (x0 + 1).toInt % 32 := c_mask (x0 + 1) (31 : Int32) 5 (by decide) (by decide)
  have f4r := rng32 (((x0 + 1) &&& 31) + 1)
  have f4 := c_iadd ((x0 + 1) &&& 31) (1 : Int32)
  have f3r := rng32 ((((x0 + 1) &&& 31) + 1) &&& 31)
  have f3 : ((((x0 + 1) &&& 31) + 1) &&& 31).toInt = (((x0 + 1) &&& 31) + 1).toInt % 32 := c_mask (((x0 + 1) &&& 31) + 1) (31 : Int32) 5 (by decide) (by decide)
  have f10 := rng32 x1
  have f2r := rng32 (((((x0 + 1) &&& 31) + 1) &&& 31) - x1)
  have f2 := c_isub ((((x0 + 1) &&& 31) + 1) &&& 31) x1
  have f1r := rng32 ((((((x0 + 1) &&& 31) + 1) &&& 31) - x1) &&& 31)
  have f1 : ((((((x0 + 1) &&& 31) + 1) &&& 31) - x1) &&& 31).toInt = (((((x0 + 1) &&& 31) + 1) &&& 31) - x1).toInt % 32 := c_mask (((((x0 + 1) &&& 31) + 1) &&& 31) - x1) (31 : Int32) 5 (by decide) (by decide)
  have f12r := rng32 (((((x0 + 1) &&& 31) + 1) &&& 31) - x0)
  have f12 := c_isub ((((x0 + 1) &&& 31) + 1) &&& 31) x0
  have f11r := rng32 ((((((x0 + 1) &&& 31) + 1) &&& 31) - x0) &&& 31)
  have f11 : ((((((x0 + 1) &&& 31) + 1) &&& 31) - x0) &&& 31).toInt = (((((x0 + 1) &&& 31) + 1) &&& 31) - x0).toInt % 32 := c_mask (((((x0 + 1) &&& 31) + 1) &&& 31) - x0) (31 : Int32) 5 (by decide) (by decide)
  have g0 := Int32.toInt_inj.mpr h0
  exact Int32.lt_iff_toInt_lt.mpr (by omega)
theorem ar3801 (x0 x1 : Int32) (h0 : ((x0 + 1) &&& 31) = x1) : ¬ (((((((x0 + 1) &&& 31) + 1) &&& 31) + 1) &&& 31) = x1) := by
  have f7 := rng32 x0
  have f8 : (1 : Int32).toInt = 1 := by decide
  have f6r := rng32 (x0 + 1)
  have f6 := c_iadd x0 (1 : Int32)
  have f9 : (31 : Int32).toInt = 31 := by decide
  have f5r := rng32 ((x0 + 1) &&& 31)
  have f5 : ((x0 + 1) &&& 31).toInt = (x0 + 1).toInt % 32 := c_mask (x0 + 1) (31 : Int32) 5 (by decide) (by decide)
  have f4r := rng32 (((x0 + 1) &&& 31) + 1)
  have f4 := c_iadd ((x0 + 1) &&& 31) (1 : Int32)
  have f3r := rng32 ((((x0 + 1) &&& 31) + 1) &&& 31)
  have f3 : ((((x0 + 1) &&& 31) + 1) &&& 31).toInt = (((x0 + 1) &&& 31) + 1).toInt % 32 := c_mask (((x0 + 1) &&& 31) + 1) (31 : Int32) 5 (by decide) (by decide)
  have f2r := rng32 (((((x0 + 1) &&& 31) + 1) &&& 31) + 1)
  have f2 := c_iadd ((((x0 + 1) &&& 31) + 1) &&& 31) (1 : Int32)
  have f1r := rng32 ((((((x0 + 1) &&& 31) + 1) &&& 31) + 1) &&& 31)
  have f1 : ((((((x0 + 1) &&& 31) + 1) &&& 31) + 1) &&& 31).toInt = (((((x0 + 1) &&& 31) + 1) &&& 31) + 1).toInt % 32 := c_mask (((((x0 + 1) &&& 31) + 1) &&& 31) + 1) (31 : Int32) 5 (by decide) (by decide)
  have f10 := rng32 x1
  have g0 := Int32.toInt_inj.mpr h0
  exact fun q => absurd (Int32.toInt_inj.mpr q) (by omega)
theorem ar3803 (x0 x1 : Int32) (h0 : ((x0 + 1) &&& 31) = x1) : ¬ (((((((x0 + 1) &&& 31) + 1) &&& 31) + 1) &&& 31) = ((x1 + 1) &&& 31)) := by
  have f7 := rng32 x0
  have f8 : (1 : Int32).toInt = 1 := by decide
  have f6r := rng32 (x0 + 1)
  have f6 := c_iadd x0 (1 : Int32)
  have f9 : (31 : Int32).toInt = 31 := by decide
  have f5r := rng32 ((x0 + 1) &&& 31)
  have f5 : ((x0 + 1) &&& 31).toInt = (x0 + 1).toInt % 32 := c_mask (x0 + 1) (31 : Int32) 5 (by decide) (by decide)
  have f4r := rng32 (((x0 + 1) &&& 31) + 1)
  have f4 := c_iadd ((x0 + 1) &&& 31) (1 : Int32)
  have f3r := rng32 ((((x0 + 1) &&& 31) + 1) &&& 31)
  have f3 : ((((x0 + 1) &&& 31) + 1) &&& 31).toInt = (((x0 + 1) &&& 31) + 1).toInt % 32 := c_mask (((x0 + 1) &&& 31) + 1) (31 : Int32) 5 (by decide) (by decide)
  have f2r := rng32 (((((x0 + 1) &&& 31) + 1) &&& 31) + 1)
  have f2 := c_iadd ((((x0 + 1) &&& 31) + 1) &&& 31) (1 : Int32)
  have f1r := rng32 ((((((x0 + 1) &&& 31) + 1) &&& 31) + 1) &&& 31)
  have f1 : ((((((x0 + 1) &&& 31) + 1) &&& 31) + 1) &&& 31).toInt = (((((x0 + 1) &&& 31) + 1) &&& 31) + 1).toInt % 32 := c_mask (((((x0 + 1) &&& 31) + 1) &&& 31) + 1) (31 : Int32) 5 (by decide) (by decide)
  have f12 := rng32 x1
  have f11r := rng32 (x1 + 1)
  have f11 := c_iadd x1 (1 : Int32)
  have f10r := rng32 ((x1 + 1) &&& 31)
  have f10 : ((x1 + 1) &&& 31).toInt = (x1 + 1).toInt % 32 := c_mask (x1 + 1) (31 : Int32) 5 (by decide) (by decide)
  have g0 := Int32.toInt_inj.mpr h0
  exact fun q => absurd (Int32.toInt_inj.mpr q) (by omega)
def own_Q3737 (Z : State) (h0 : Heap) (a3738 : Addr) (a3739 : Addr) (a3740 : Addr) (c3743 : ClassId) (p3744 : Int32) (p3745 : Int32) (p3746 : Int32) (p3747 : Int32) (p3748 : Int32) (p3749 : Int32) (p3756 : Int32) (a3806 : Addr) (v : Option Value) (h : Heap) (L : List Loc) : Prop := v = none ∧ own_Kp h0 h [a3740, a3738] L ∧ Arh Z h a3740 c3743 .int 32 [((oH (p3756 + 1)), (.int 0)), (p3744, (.int p3745)), (p3746, (.int p3747)), (p3748, (.int p3749))] [] (.int 0) ∧ Fld Z h a3738 own_s1 "slots" "[I" (.ref a3740) ∧ Fld Z h a3738 own_s1 "size" "I" (.int 2) ∧ Fld Z h a3738 own_s1 "indices" "[I" (.ref a3806)
set_option maxRecDepth 65536 in
set_option maxHeartbeats 40000000 in
theorem rm3737 (l : Launch) (Z : State) (a0 : Array Value) (hw : ∀ d ∈ tables_1, d.before a0 Z = true) (h0 : Heap) (a15 a16 a30 : Addr) (c42 : ClassId) (p34 p41 : Int32) (p37 p22 : Int32) (p38 p25 p10 : Int32) (a45 : Addr) (F43 : Fld Z h0 a15 own_s1 "slots" "[I" (.ref a30)) (H46 : Arh Z h0 a30 c42 .int 32 [(p34, (.int p41)), (p37, (.int p22)), (p38, (.int p25))] [] (.int 0)) (F54 : Fld Z h0 a16 own_s0 "id" "I" (.int p10)) (E55 : Exa Z h0 a16 own_s0) (hp56 : (oH (p10 + 1)) = p34) (hp57 : p41 = (p10 + 1)) (E48 : Exa Z h0 a15 own_s1) (F58 : Fld Z h0 a15 own_s1 "size" "I" (.int 3)) (ne44 : a15 ≠ a30) (hp49 : ¬ ((oN (oH (p10 + 1))) = p34)) (hp50 : (oN (oH (p10 + 1))) = p37) (hp59 : ¬ (p22 = 0)) (hp60 : (((oN (oH (p10 + 1))) - (oH p22)) &&& 31) < (((oN (oH (p10 + 1))) - (oH (p10 + 1))) &&& 31)) (hp51 : ¬ ((oN (oN (oH (p10 + 1)))) = p34)) (hp52 : ¬ ((oN (oN (oH (p10 + 1)))) = p37)) (hp53 : (oN (oN (oH (p10 + 1)))) = p38) (hp61 : ¬ (p25 = 0)) (hp62 : (((oN (oN (oH (p10 + 1)))) - (oH p25)) &&& 31) < (((oN (oN (oH (p10 + 1)))) - (oH (p10 + 1))) &&& 31)) (hp63 : ¬ ((oN (oN (oN (oH (p10 + 1))))) = p34)) (hp64 : ¬ ((oN (oN (oN (oH (p10 + 1))))) = p37)) (hp65 : ¬ ((oN (oN (oN (oH (p10 + 1))))) = p38)) (F66 : Fld Z h0 a15 own_s1 "indices" "[I" (.ref a45)) :
    own_Con l Z own_y2 prog_7_method_5_code 7 none ({ frames := 2, cells := 0, slots := 0, locals := 29 } : Room) #[(.ref a15), (.ref a16)] h0 (own_Q3737 Z h0 a15 a16 a30 c42 p34 p41 p37 p22 p38 p25 p10 a45) := by
 refine MetFree.of_bodySF (plainFor_of_name own_pn8) hisR ?_
 intro p e s m args below meth c s₁ Bd hml0 hP hK
 obtain ⟨rfl, hZ, hh⟩ := hP
 have hx := Bd.exec
 have hby := Bd.bytes
 have hml : c.maxLocals = 7 := hml0
 have hown : s.vm.findClass own_s1 = some m.cls := findClass_of_methodNamed Bd.named
 have hnm := (name_of_methodNamed Bd.named Bd.method).1
 have X0 : Stand p l e ({ frames := 2, cells := 0, slots := 0, locals := 29 } : Room) s m #[(.ref a15), (.ref a16)] below meth c s₁ [] 0 0 := Stand.of_body Bd
 have e0 : s₁.heap = h0 := by rw [← hh, Bd.state]; rfl
 have K0 : own_Kp h0 h0 [a30, a15] [] := own_kpRefl _ _
 show own_Go p e below (own_K s (own_Q3737 Z h0 a15 a16 a30 c42 p34 p41 p37 p22 p38 p25 p10 a45) 0 0) s₁ (entryFrame m #[(.ref a15), (.ref a16)] 7)
 rw [own_ef804]
 obtain ⟨T23, X23, e23, st23⟩ := own_gF X0 hx hZ hown hby (own_wd hw 148 rfl) e0 F43 d21_1 #[.val (.ref a15), .val (.ref a16), .unset, .unset, .unset, .unset, .unset] []
 obtain ⟨cl31, Ar31, q31, S31, N31, H31, G31⟩ := id H46
 let l1 : Array Slot := #[.val (.ref a15), .val (.ref a16), .val (.int 31), .unset, .unset, .unset, .unset]
 obtain ⟨_, T32, L32, X32, ⟨rfl, rfl, e32⟩, st32⟩ := own_cv X23 hx hZ hown (own_w475 hw) hml (g := (mkF m 10 l1 [(.ref a16), (.ref a15)])) (hb hby d21_10) e23 E55 [] [(.ref a15)] (lenOf own_pd5 rfl) (rm462 l Z a0 hw h0 a16 p10 F54)
 obtain ⟨_, T33, L33, X33, ⟨rfl, rfl, e33⟩, st33⟩ := own_cp X32 hx hZ hown (own_w499 hw) hml (g := (mkF m 15 l1 [(.int (p10 + 1)), (.ref a15)])) (hb hby d21_15) e32 E48 [(.int (p10 + 1))] [] (lenOf own_pd13 rfl) (rm830 l Z a0 hw h0 a15 (p10 + 1) a30 c42 p34 p41 p37 p22 p38 p25 F43 H46 hp56 hp57)
 let l2 : Array Slot := #[.val (.ref a15), .val (.ref a16), .val (.int 31), .val (.int (oH (p10 + 1))), .unset, .unset, .unset]
 obtain ⟨T35, X35, e35, st35⟩ := own_gF X33 hx hZ hown hby (own_wd hw 148 rfl) e33 F43 d21_20 l2 []
 obtain ⟨cl11, Ar11, q11, S11, N11, H11, G11⟩ := id H46
 have hin11 := inb_of S11 ⟨(own_hlo (p10 + 1)), (own_hhi (p10 + 1))⟩
 obtain ⟨T11, h11, X11, e11, W11, st11⟩ := stI X35 hx hZ e35 Ar11 (j := (oH (p10 + 1))) hin11 (g := (mkF m 25 l2 [(.int 0), (.int (oH (p10 + 1))), (.ref a30)])) rfl rfl (hb hby d21_25)
 have V11 := Arh.push Ar11 q11 S11 N11 H11 G11 rfl W11 hin11
 have K11 := own_kpWr K0 W11 (Or.inl (List.mem_of_getElem? (i := 0) rfl))
 have z_W11 := Nat.le_of_eq W11.size.symm
 have F47 := (Fld.other W11 F58 (Or.inl ne44))
 obtain ⟨T36, X36, e36, st36⟩ := own_gF X11 hx hZ hown hby (own_wd hw 157 rfl) e11 F47 d21_28 l2 [(.ref a15)]
 have E67 := (Exa.wr W11 E48)
 obtain ⟨T14, h14, X14, e14, W14, st14⟩ := putF X36 hx hZ hown (host := "") (Or.inl (own_wd hw 157 rfl)) Via.refl e36 F47 E67 (Or.inl (own_wd hw 158 rfl)) (own_wd hw 141 rfl) (ty := .int) (by decide) rfl rfl (g := (mkF m 33 l2 [(.int 2), (.ref a15)])) rfl rfl (hb hby d21_33)
 have F14 := Fld.same W14 F47
 have K14 := own_kpWr K11 W14 (Or.inl (List.mem_of_getElem? (i := 1) rfl))
 have z_W14 := Nat.le_of_eq W14.size.symm
 have F39 := (Fld.other W14 (Fld.other W11 F43 (Or.inl ne44)) (Or.inr (slot_ne (Or.inl (own_wd hw 149 rfl)) (Or.inl (own_wd hw 158 rfl)) (by decide) (t := (.array .int)) (t' := .int) (by decide) (by decide))))
 let l3 : Array Slot := #[.val (.ref a15), .val (.ref a16), .val (.int 31), .val (.int (oH (p10 + 1))), .val (.int (oN (oH (p10 + 1)))), .unset, .unset]
 obtain ⟨T26, X26, e26, st26⟩ := own_gF X14 hx hZ hown hby (own_wd hw 148 rfl) e14 F39 d21_44 l3 []
 have H40 := (Arh.other V11 W14 (Ne.symm ne44))
 obtain ⟨cl17, Ar17, q17, S17, N17, H17, G17⟩ := id H40
 have hin17 := inb_of S17 ⟨(ar622 (oH (p10 + 1)) ), (ar623 (oH (p10 + 1)) )⟩
 have hat17 := atH H17 hin17 (getH_miss (ar622 (oH (p10 + 1)) ) (ar799 (oH (p10 + 1)) ) (getH_miss (ar622 (oH (p10 + 1)) ) hp49 (getH_hit (ar622 (oH (p10 + 1)) ) hp50)))
 obtain ⟨T28, X28, e28, st28⟩ := own_gF X26 hx hZ hown hby (own_wd hw 148 rfl) e26 F39 d21_54 l3 []
 obtain ⟨cl18, Ar18, q18, S18, N18, H18, G18⟩ := id H40
 have hin18 := inb_of S18 ⟨(ar622 (oH (p10 + 1)) ), (ar623 (oH (p10 + 1)) )⟩
 have hat18 := atH H18 hin18 (getH_miss (ar622 (oH (p10 + 1)) ) (ar799 (oH (p10 + 1)) ) (getH_miss (ar622 (oH (p10 + 1)) ) hp49 (getH_hit (ar622 (oH (p10 + 1)) ) hp50)))
 obtain ⟨_, T12, L12, X12, ⟨rfl, rfl, e12⟩, st12⟩ := own_cs X28 hx hZ hown (own_w489 hw) hml (g := (mkF m 61 l3 [(.int 31), (.int p22)])) (hb hby d21_61) e28 [(.int p22), (.int 31)] [] (lenOf own_pd12 rfl) (rm487 l Z a0 hw h14 p22 )
 let l4 : Array Slot := #[.val (.ref a15), .val (.ref a16), .val (.int 31), .val (.int (oH (p10 + 1))), .val (.int (oN (oH (p10 + 1)))), .val (.int (oH p22)), .unset]
 refine own_go (T2 := T12) (g2 := (mkF m 77 l4 [(.int ((oN (oH (p10 + 1))) - (oH (p10 + 1)))), (.int (((oN (oH (p10 + 1))) - (oH p22)) &&& 31))])) (fun t k => z_aloadN X0 hx hby d21_0 rfl rfl (st23 _ (own_alen X23 hx hZ e23 Ar31 S31 N31 rfl rfl (hb hby d21_4) (z_iconst X23 hx hby d21_5 (z_isub X23 hx hby d21_6 (z_istoreN X23 hx hby d21_7 l1 rfl (z_aloadN X23 hx hby d21_8 rfl rfl (z_aloadN X23 hx hby d21_9 rfl rfl (st32 _ (z_iconst X32 hx hby d21_13 (z_iadd X32 hx hby d21_14 (st33 _ (z_istoreN X33 hx hby d21_18 l2 rfl (z_aloadN X33 hx hby d21_19 rfl rfl (st35 _ (z_iloadN X35 hx hby d21_23 rfl (z_iconst X35 hx hby d21_24 (st11 _ (z_aloadN X11 hx hby d21_26 rfl rfl (z_dup X11 hx hby d21_27 rfl (st36 _ (z_iconst X36 hx hby d21_31 (z_isub X36 hx hby d21_32 (st14 _ (z_iloadN X14 hx hby d21_36 rfl (z_iconst X14 hx hby d21_37 (z_iadd X14 hx hby d21_38 (z_iloadN X14 hx hby d21_39 rfl (z_iand X14 hx hby d21_40 (z_istore X14 hx hby d21_41 l3 rfl (z_aloadN X14 hx hby d21_43 rfl rfl (st26 _ (z_iload X26 hx hby d21_47 rfl (own_ial X26 hx hZ e26 Ar17 hin17 hat17 rfl rfl (hb hby d21_49) (z_ifNo X26 hx hby d21_50 ((if0 _ _).trans (feq hp59).1) (z_aloadN X26 hx hby d21_53 rfl rfl (st28 _ (z_iload X28 hx hby d21_57 rfl (own_ial X28 hx hZ e28 Ar18 hin18 hat18 rfl rfl (hb hby d21_59) (z_iloadN X28 hx hby d21_60 rfl (st12 _ (z_istore X12 hx hby d21_64 l4 rfl (z_iload X12 hx hby d21_66 rfl (z_iload X12 hx hby d21_68 rfl (z_isub X12 hx hby d21_70 (z_iloadN X12 hx hby d21_71 rfl (z_iand X12 hx hby d21_72 (z_iload X12 hx hby d21_73 rfl (z_iloadN X12 hx hby d21_75 rfl (z_isub X12 hx hby d21_76 k)))))))))))))))))))))))))))))))))))))))))))))))))) ?_
 let l5 : Array Slot := #[.val (.ref a15), .val (.ref a16), .val (.int 31), .val (.int (oH (p10 + 1))), .val (.int (oN (oN (oH (p10 + 1))))), .val (.int (oH p22)), .val (.int 0)]
 obtain ⟨T27, X27, e27, st27⟩ := own_gF X12 hx hZ hown hby (own_wd hw 148 rfl) e12 F39 d21_44 l5 []
 obtain ⟨cl19, Ar19, q19, S19, N19, H19, G19⟩ := id H40
 have hin19 := inb_of S19 ⟨(ar898 (oH (p10 + 1)) ), (ar899 (oH (p10 + 1)) )⟩
 have hat19 := atH H19 hin19 (getH_miss (ar898 (oH (p10 + 1)) ) (ar758 (oH (p10 + 1)) ) (getH_miss (ar898 (oH (p10 + 1)) ) hp51 (getH_miss (ar898 (oH (p10 + 1)) ) hp52 (getH_hit (ar898 (oH (p10 + 1)) ) hp53))))
 obtain ⟨T29, X29, e29, st29⟩ := own_gF X27 hx hZ hown hby (own_wd hw 148 rfl) e27 F39 d21_54 l5 []
 obtain ⟨cl20, Ar20, q20, S20, N20, H20, G20⟩ := id H40
 have hin20 := inb_of S20 ⟨(ar898 (oH (p10 + 1)) ), (ar899 (oH (p10 + 1)) )⟩
 have hat20 := atH H20 hin20 (getH_miss (ar898 (oH (p10 + 1)) ) (ar758 (oH (p10 + 1)) ) (getH_miss (ar898 (oH (p10 + 1)) ) hp51 (getH_miss (ar898 (oH (p10 + 1)) ) hp52 (getH_hit (ar898 (oH (p10 + 1)) ) hp53))))
 obtain ⟨_, T13, L13, X13, ⟨rfl, rfl, e13⟩, st13⟩ := own_cs X29 hx hZ hown (own_w489 hw) hml (g := (mkF m 61 l5 [(.int 31), (.int p25)])) (hb hby d21_61) e29 [(.int p25), (.int 31)] [] (lenOf own_pd12 rfl) (rm487 l Z a0 hw h14 p25 )
 let l6 : Array Slot := #[.val (.ref a15), .val (.ref a16), .val (.int 31), .val (.int (oH (p10 + 1))), .val (.int (oN (oN (oN (oH (p10 + 1)))))), .val (.int (oH p25)), .val (.int 0)]
 obtain ⟨T24, X24, e24, st24⟩ := own_gF X13 hx hZ hown hby (own_wd hw 148 rfl) e13 F39 d21_44 l6 []
 let l7 : Array Slot := #[.val (.ref a15), .val (.ref a16), .val (.int 31), .val (.int (oH (p10 + 1))), .val (.int (oN (oN (oH (p10 + 1))))), .val (.int (oH p25)), .val (.int 0)]
 refine own_go (T2 := T24) (g2 := (mkF m 47 l6 [(.ref a30)])) (fun t k => z_iloadN X12 hx hby d21_77 rfl (z_iand X12 hx hby d21_78 (z_icmpYes X12 hx hby 86 d21_79 (tlt hp60).1 rfl (z_iconst X12 hx hby d21_86 (z_istore X12 hx hby d21_87 #[.val (.ref a15), .val (.ref a16), .val (.int 31), .val (.int (oH (p10 + 1))), .val (.int (oN (oH (p10 + 1)))), .val (.int (oH p22)), .val (.int 0)] rfl (z_iload X12 hx hby d21_89 rfl (z_ifYes X12 hx hby 131 d21_91 ((if0 _ _).trans (teq (show (0 : Int32) = 0 from (by decide))).1) rfl (z_iload X12 hx hby d21_131 rfl (z_iconst X12 hx hby d21_133 (z_iadd X12 hx hby d21_134 (z_iloadN X12 hx hby d21_135 rfl (z_iand X12 hx hby d21_136 (z_istore X12 hx hby d21_137 l5 rfl (z_goto X12 hx hby 43 d21_139 rfl (z_aloadN X12 hx hby d21_43 rfl rfl (st27 _ (z_iload X27 hx hby d21_47 rfl (own_ial X27 hx hZ e27 Ar19 hin19 hat19 rfl rfl (hb hby d21_49) (z_ifNo X27 hx hby d21_50 ((if0 _ _).trans (feq hp61).1) (z_aloadN X27 hx hby d21_53 rfl rfl (st29 _ (z_iload X29 hx hby d21_57 rfl (own_ial X29 hx hZ e29 Ar20 hin20 hat20 rfl rfl (hb hby d21_59) (z_iloadN X29 hx hby d21_60 rfl (st13 _ (z_istore X13 hx hby d21_64 l7 rfl (z_iload X13 hx hby d21_66 rfl (z_iload X13 hx hby d21_68 rfl (z_isub X13 hx hby d21_70 (z_iloadN X13 hx hby d21_71 rfl (z_iand X13 hx hby d21_72 (z_iload X13 hx hby d21_73 rfl (z_iloadN X13 hx hby d21_75 rfl (z_isub X13 hx hby d21_76 (z_iloadN X13 hx hby d21_77 rfl (z_iand X13 hx hby d21_78 (z_icmpYes X13 hx hby 86 d21_79 (tlt hp62).1 rfl (z_iconst X13 hx hby d21_86 (z_istore X13 hx hby d21_87 l7 rfl (z_iload X13 hx hby d21_89 rfl (z_ifYes X13 hx hby 131 d21_91 ((if0 _ _).trans (teq (show (0 : Int32) = 0 from (by decide))).1) rfl (z_iload X13 hx hby d21_131 rfl (z_iconst X13 hx hby d21_133 (z_iadd X13 hx hby d21_134 (z_iloadN X13 hx hby d21_135 rfl (z_iand X13 hx hby d21_136 (z_istore X13 hx hby d21_137 l6 rfl (z_goto X13 hx hby 43 d21_139 rfl (z_aloadN X13 hx hby d21_43 rfl rfl (st24 _ k)))))))))))))))))))))))))))))))))))))))))))))))))) ?_
 obtain ⟨cl21, Ar21, q21, S21, N21, H21, G21⟩ := id H40
 have hin21 := inb_of S21 ⟨(ar925 (oH (p10 + 1)) ), (ar926 (oH (p10 + 1)) )⟩
 have hat21 := atH H21 hin21 (getH_miss (ar925 (oH (p10 + 1)) ) (ar929 (oH (p10 + 1)) ) (getH_miss (ar925 (oH (p10 + 1)) ) hp63 (getH_miss (ar925 (oH (p10 + 1)) ) hp64 (getH_miss (ar925 (oH (p10 + 1)) ) hp65 (getH_all rfl _)))))
 have F68 := (Fld.other W14 (Fld.other W11 F66 (Or.inl ne44)) (Or.inr (slot_ne (Or.inl (own_wd hw 151 rfl)) (Or.inl (own_wd hw 158 rfl)) (by decide) (t := (.array .int)) (t' := .int) (by decide) (by decide))))
 refine own_go (T2 := T24) (g2 := (mkF m 142 l6 [])) (fun t k => z_iload X24 hx hby d21_47 rfl (own_ial X24 hx hZ e24 Ar21 hin21 hat21 rfl rfl (hb hby d21_49) (z_ifYes X24 hx hby 142 d21_50 ((if0 _ _).trans (teq (show (0 : Int32) = 0 from (by decide))).1) rfl k))) ?_
 exact own_endV X24 hx Bd.notSynchronized Bd.returns (hb hby d21_142) (by decide) (by decide) (by rw [e24]; exact ⟨rfl, (by simpa only [List.append_nil] using K14), H40, F39, F14, F68⟩)
theorem ar3813 (x0 x1 : Int32) (h0 : ((x1 + 1) &&& 31) = x0) : ¬ (((x0 + 1) &&& 31) = x1) := by
  have f3 := rng32 x0
  have f4 : (1 : Int32).toInt = 1 := by decide
  have f2r := rng32 (x0 + 1)
  have f2 := c_iadd x0 (1 : Int32)
  have f5 : (31 : Int32).toInt = 31 := by decide
  have f1r := rng32 ((x0 + 1) &&& 31)
  have f1 : ((x0 + 1) &&& 31).toInt = (x0 + 1).toInt % 32 := c_mask (x0 + 1) (31 : Int32) 5 (by decide) (by decide)
  have f6 := rng32 x1
  have f8r := rng32 (x1 + 1)
  have f8 := c_iadd x1 (1 : Int32)
  have f7r := rng32 ((x1 + 1) &&& 31)
  have f7 : ((x1 + 1) &&& 31).toInt = (x1 + 1).toInt % 32 := c_mask (x1 + 1) (31 : Int32) 5 (by decide) (by decide)
  have g0 := Int32.toInt_inj.mpr h0
  exact fun q => absurd (Int32.toInt_inj.mpr q) (by omega)
theorem cn3814 (x0 x1 x2 : Int32) (v0 v1 v2 : Value) (h0 : ¬ (x0 = x1)) (h1 : ¬ (x0 = x2)) (h2 : ¬ (x1 = x2)) : ∀ i : Nat, getH [(x0, .int 0), (x0, v0), (x1, v1), (x2, v2)] [] (.int 0) i = getH [(x1, v1), (x2, v2)] [] (.int 0) i := by
  intro i
  have g0 := mt Int32.toInt_inj.mp h0
  have g1 := mt Int32.toInt_inj.mp h1
  have g2 := mt Int32.toInt_inj.mp h2
  simp only [getH]
  repeat' split
  all_goals first | rfl | (exfalso; omega)
theorem cn3817 (x0 x1 x2 : Int32) (v0 v1 v2 : Value) (h0 : ¬ (x0 = x1)) (h1 : ¬ (x0 = x2)) (h2 : ¬ (x1 = x2)) : ∀ i : Nat, getH [(x0, v0), (x1, v1), (x2, v2)] [] (.int 0) i = getH [(x1, v1), (x2, v2), (x0, v0)] [] (.int 0) i := by
  intro i
  have g0 := mt Int32.toInt_inj.mp h0
  have g1 := mt Int32.toInt_inj.mp h1
  have g2 := mt Int32.toInt_inj.mp h2
  simp only [getH]
  repeat' split
  all_goals first | rfl | (exfalso; omega)
set_option maxRecDepth 65536 in
set_option maxHeartbeats 40000000 in
theorem rm3879 (l : Launch) (Z : State) (a0 : Array Value) (hw : ∀ d ∈ tables_1, d.before a0 Z = true) (h0 : Heap) (a13 a14 : Addr) (p11 : Int32) (a17 : Addr) (c20 : ClassId) (p18 p21 : Int32) (p19 p22 : Int32) (F27 : Fld Z h0 a14 own_s0 "id" "I" (.int p11)) (E28 : Exa Z h0 a14 own_s0) (F23 : Fld Z h0 a13 own_s1 "slots" "[I" (.ref a17)) (H24 : Arh Z h0 a17 c20 .int 32 [(p18, (.int p21)), (p19, (.int p22))] [] (.int 0)) (hp25 : ¬ ((oH (p11 + 1)) = p18)) (hp26 : ¬ ((oH (p11 + 1)) = p19)) (hp29 : ¬ ((0 : Int32) = (p11 + 1))) (E30 : Exa Z h0 a13 own_s1) :
    own_Con l Z own_y0 prog_7_method_2_code 3 (some .int) ({ frames := 2, cells := 0, slots := 0, locals := 29 } : Room) #[(.ref a13), (.ref a14)] h0 (own_QP (some (.int (-1))) h0) := by
 refine MetFree.of_bodySF (plainFor_of_name own_pn8) hisR ?_
 intro p e s m args below meth c s₁ Bd hml0 hP hK
 obtain ⟨rfl, hZ, hh⟩ := hP
 have hx := Bd.exec
 have hby := Bd.bytes
 have hml : c.maxLocals = 3 := hml0
 have hown : s.vm.findClass own_s1 = some m.cls := findClass_of_methodNamed Bd.named
 have hnm := (name_of_methodNamed Bd.named Bd.method).1
 have X0 : Stand p l e ({ frames := 2, cells := 0, slots := 0, locals := 29 } : Room) s m #[(.ref a13), (.ref a14)] below meth c s₁ [] 0 0 := Stand.of_body Bd
 have e0 : s₁.heap = h0 := by rw [← hh, Bd.state]; rfl
 have K0 : own_Kp h0 h0 [] [] := own_kpRefl _ _
 show own_Go p e below (own_K s (own_QP (some (.int (-1))) h0) 0 0) s₁ (entryFrame m #[(.ref a13), (.ref a14)] 3)
 rw [own_ef950]
 let l1 : Array Slot := #[.val (.ref a13), .val (.ref a14), .unset]
 obtain ⟨_, T15, L15, X15, ⟨rfl, rfl, e15⟩, st15⟩ := own_cv X0 hx hZ hown (own_w475 hw) hml (g := (mkF m 2 l1 [(.ref a14), (.ref a13)])) (hb hby d22_2) e0 E28 [] [(.ref a13)] (lenOf own_pd5 rfl) (rm462 l Z a0 hw h0 a14 p11 F27)
 obtain ⟨_, T16, L16, X16, ⟨rfl, rfl, e16⟩, st16⟩ := own_cp X15 hx hZ hown (own_w499 hw) hml (g := (mkF m 7 l1 [(.int (p11 + 1)), (.ref a13)])) (hb hby d22_7) e15 E30 [(.int (p11 + 1))] [] (lenOf own_pd13 rfl) (rm2429 l Z a0 hw h0 a13 (p11 + 1) a17 c20 p18 p21 p19 p22 F23 H24 hp25 hp26 hp29)
 let l2 : Array Slot := #[.val (.ref a13), .val (.ref a14), .val (.int (oH (p11 + 1)))]
 obtain ⟨T12, X12, e12, st12⟩ := own_gF X16 hx hZ hown hby (own_wd hw 148 rfl) e16 F23 d22_12 l2 []
 obtain ⟨cl10, Ar10, q10, S10, N10, H10, G10⟩ := id H24
 have hin10 := inb_of S10 ⟨(own_hlo (p11 + 1)), (own_hhi (p11 + 1))⟩
 have hat10 := atH H10 hin10 (getH_miss (own_hlo (p11 + 1)) hp25 (getH_miss (own_hlo (p11 + 1)) hp26 (getH_all rfl _)))
 refine own_go (T2 := T12) (g2 := (mkF m 30 l2 [(.int (-1))])) (fun t k => z_aloadN X0 hx hby d22_0 rfl rfl (z_aloadN X0 hx hby d22_1 rfl rfl (st15 _ (z_iconst X15 hx hby d22_5 (z_iadd X15 hx hby d22_6 (st16 _ (z_istoreN X16 hx hby d22_10 l2 rfl (z_aloadN X16 hx hby d22_11 rfl rfl (st12 _ (z_iloadN X12 hx hby d22_15 rfl (own_ial X12 hx hZ e12 Ar10 hin10 hat10 rfl rfl (hb hby d22_16) (z_ifNo X12 hx hby d22_17 ((if0 _ _).trans (teq (show (0 : Int32) = 0 from (by decide))).2) (z_iconst X12 hx hby d22_20 (z_goto X12 hx hby 30 d22_21 rfl k)))))))))))))) ?_
 exact own_endI X12 hx Bd.notSynchronized Bd.returns (hb hby d22_30) (by decide) (by decide) ⟨rfl, rfl, e12⟩
def own_Q4053 (Z : State) (h0 : Heap) (a4054 : Addr) (a4055 : Addr) (a4056 : Addr) (c4059 : ClassId) (p4060 : Int32) (p4061 : Int32) (p4062 : Int32) (p4063 : Int32) (p4064 : Int32) (p4065 : Int32) (p4072 : Int32) (a4098 : Addr) (v : Option Value) (h : Heap) (L : List Loc) : Prop := v = none ∧ own_Kp h0 h [a4056, a4054] L ∧ Arh Z h a4056 c4059 .int 32 [((oH (p4072 + 1)), (.int 0)), (p4060, (.int p4061)), (p4062, (.int p4063)), (p4064, (.int p4065))] [] (.int 0) ∧ Fld Z h a4054 own_s1 "slots" "[I" (.ref a4056) ∧ Fld Z h a4054 own_s1 "size" "I" (.int 2) ∧ Fld Z h a4054 own_s1 "indices" "[I" (.ref a4098)
set_option maxRecDepth 65536 in
set_option maxHeartbeats 40000000 in
theorem rm4053 (l : Launch) (Z : State) (a0 : Array Value) (hw : ∀ d ∈ tables_1, d.before a0 Z = true) (h0 : Heap) (a13 a15 a21 : Addr) (c28 : ClassId) (p24 p25 : Int32) (p26 p29 : Int32) (p27 p30 p11 : Int32) (a33 : Addr) (F31 : Fld Z h0 a13 own_s1 "slots" "[I" (.ref a21)) (H34 : Arh Z h0 a21 c28 .int 32 [(p24, (.int p25)), (p26, (.int p29)), (p27, (.int p30))] [] (.int 0)) (F39 : Fld Z h0 a15 own_s0 "id" "I" (.int p11)) (E40 : Exa Z h0 a15 own_s0) (hp41 : (oH (p11 + 1)) = p24) (hp42 : p25 = (p11 + 1)) (E36 : Exa Z h0 a13 own_s1) (F43 : Fld Z h0 a13 own_s1 "size" "I" (.int 3)) (ne32 : a13 ≠ a21) (hp44 : ¬ ((oN (oH (p11 + 1))) = p24)) (hp45 : ¬ ((oN (oH (p11 + 1))) = p26)) (hp46 : ¬ ((oN (oH (p11 + 1))) = p27)) (F47 : Fld Z h0 a13 own_s1 "indices" "[I" (.ref a33)) :
    own_Con l Z own_y2 prog_7_method_5_code 7 none ({ frames := 2, cells := 0, slots := 0, locals := 29 } : Room) #[(.ref a13), (.ref a15)] h0 (own_Q4053 Z h0 a13 a15 a21 c28 p24 p25 p26 p29 p27 p30 p11 a33) := by
 refine MetFree.of_bodySF (plainFor_of_name own_pn8) hisR ?_
 intro p e s m args below meth c s₁ Bd hml0 hP hK
 obtain ⟨rfl, hZ, hh⟩ := hP
 have hx := Bd.exec
 have hby := Bd.bytes
 have hml : c.maxLocals = 7 := hml0
 have hown : s.vm.findClass own_s1 = some m.cls := findClass_of_methodNamed Bd.named
 have hnm := (name_of_methodNamed Bd.named Bd.method).1
 have X0 : Stand p l e ({ frames := 2, cells := 0, slots := 0, locals := 29 } : Room) s m #[(.ref a13), (.ref a15)] below meth c s₁ [] 0 0 := Stand.of_body Bd
 have e0 : s₁.heap = h0 := by rw [← hh, Bd.state]; rfl
 have K0 : own_Kp h0 h0 [a21, a13] [] := own_kpRefl _ _
 show own_Go p e below (own_K s (own_Q4053 Z h0 a13 a15 a21 c28 p24 p25 p26 p29 p27 p30 p11 a33) 0 0) s₁ (entryFrame m #[(.ref a13), (.ref a15)] 7)
 rw [own_ef804]
 obtain ⟨T16, X16, e16, st16⟩ := own_gF X0 hx hZ hown hby (own_wd hw 148 rfl) e0 F31 d21_1 #[.val (.ref a13), .val (.ref a15), .unset, .unset, .unset, .unset, .unset] []
 obtain ⟨cl18, Ar18, q18, S18, N18, H18, G18⟩ := id H34
 let l1 : Array Slot := #[.val (.ref a13), .val (.ref a15), .val (.int 31), .unset, .unset, .unset, .unset]
 obtain ⟨_, T19, L19, X19, ⟨rfl, rfl, e19⟩, st19⟩ := own_cv X16 hx hZ hown (own_w475 hw) hml (g := (mkF m 10 l1 [(.ref a15), (.ref a13)])) (hb hby d21_10) e16 E40 [] [(.ref a13)] (lenOf own_pd5 rfl) (rm462 l Z a0 hw h0 a15 p11 F39)
 obtain ⟨_, T20, L20, X20, ⟨rfl, rfl, e20⟩, st20⟩ := own_cp X19 hx hZ hown (own_w499 hw) hml (g := (mkF m 15 l1 [(.int (p11 + 1)), (.ref a13)])) (hb hby d21_15) e19 E36 [(.int (p11 + 1))] [] (lenOf own_pd13 rfl) (rm830 l Z a0 hw h0 a13 (p11 + 1) a21 c28 p24 p25 p26 p29 p27 p30 F31 H34 hp41 hp42)
 let l2 : Array Slot := #[.val (.ref a13), .val (.ref a15), .val (.int 31), .val (.int (oH (p11 + 1))), .unset, .unset, .unset]
 obtain ⟨T22, X22, e22, st22⟩ := own_gF X20 hx hZ hown hby (own_wd hw 148 rfl) e20 F31 d21_20 l2 []
 obtain ⟨cl10, Ar10, q10, S10, N10, H10, G10⟩ := id H34
 have hin10 := inb_of S10 ⟨(own_hlo (p11 + 1)), (own_hhi (p11 + 1))⟩
 obtain ⟨T10, h10, X10, e10, W10, st10⟩ := stI X22 hx hZ e22 Ar10 (j := (oH (p11 + 1))) hin10 (g := (mkF m 25 l2 [(.int 0), (.int (oH (p11 + 1))), (.ref a21)])) rfl rfl (hb hby d21_25)
 have V10 := Arh.push Ar10 q10 S10 N10 H10 G10 rfl W10 hin10
 have K10 := own_kpWr K0 W10 (Or.inl (List.mem_of_getElem? (i := 0) rfl))
 have z_W10 := Nat.le_of_eq W10.size.symm
 have F35 := (Fld.other W10 F43 (Or.inl ne32))
 obtain ⟨T23, X23, e23, st23⟩ := own_gF X10 hx hZ hown hby (own_wd hw 157 rfl) e10 F35 d21_28 l2 [(.ref a13)]
 have E48 := (Exa.wr W10 E36)
 obtain ⟨T12, h12, X12, e12, W12, st12⟩ := putF X23 hx hZ hown (host := "") (Or.inl (own_wd hw 157 rfl)) Via.refl e23 F35 E48 (Or.inl (own_wd hw 158 rfl)) (own_wd hw 141 rfl) (ty := .int) (by decide) rfl rfl (g := (mkF m 33 l2 [(.int 2), (.ref a13)])) rfl rfl (hb hby d21_33)
 have F12 := Fld.same W12 F35
 have K12 := own_kpWr K10 W12 (Or.inl (List.mem_of_getElem? (i := 1) rfl))
 have z_W12 := Nat.le_of_eq W12.size.symm
 have F37 := (Fld.other W12 (Fld.other W10 F31 (Or.inl ne32)) (Or.inr (slot_ne (Or.inl (own_wd hw 149 rfl)) (Or.inl (own_wd hw 158 rfl)) (by decide) (t := (.array .int)) (t' := .int) (by decide) (by decide))))
 let l3 : Array Slot := #[.val (.ref a13), .val (.ref a15), .val (.int 31), .val (.int (oH (p11 + 1))), .val (.int (oN (oH (p11 + 1)))), .unset, .unset]
 obtain ⟨T17, X17, e17, st17⟩ := own_gF X12 hx hZ hown hby (own_wd hw 148 rfl) e12 F37 d21_44 l3 []
 have H38 := (Arh.other V10 W12 (Ne.symm ne32))
 obtain ⟨cl14, Ar14, q14, S14, N14, H14, G14⟩ := id H38
 have hin14 := inb_of S14 ⟨(ar622 (oH (p11 + 1)) ), (ar623 (oH (p11 + 1)) )⟩
 have hat14 := atH H14 hin14 (getH_miss (ar622 (oH (p11 + 1)) ) (ar799 (oH (p11 + 1)) ) (getH_miss (ar622 (oH (p11 + 1)) ) hp44 (getH_miss (ar622 (oH (p11 + 1)) ) hp45 (getH_miss (ar622 (oH (p11 + 1)) ) hp46 (getH_all rfl _)))))
 have F49 := (Fld.other W12 (Fld.other W10 F47 (Or.inl ne32)) (Or.inr (slot_ne (Or.inl (own_wd hw 151 rfl)) (Or.inl (own_wd hw 158 rfl)) (by decide) (t := (.array .int)) (t' := .int) (by decide) (by decide))))
 refine own_go (T2 := T17) (g2 := (mkF m 142 l3 [])) (fun t k => z_aloadN X0 hx hby d21_0 rfl rfl (st16 _ (own_alen X16 hx hZ e16 Ar18 S18 N18 rfl rfl (hb hby d21_4) (z_iconst X16 hx hby d21_5 (z_isub X16 hx hby d21_6 (z_istoreN X16 hx hby d21_7 l1 rfl (z_aloadN X16 hx hby d21_8 rfl rfl (z_aloadN X16 hx hby d21_9 rfl rfl (st19 _ (z_iconst X19 hx hby d21_13 (z_iadd X19 hx hby d21_14 (st20 _ (z_istoreN X20 hx hby d21_18 l2 rfl (z_aloadN X20 hx hby d21_19 rfl rfl (st22 _ (z_iloadN X22 hx hby d21_23 rfl (z_iconst X22 hx hby d21_24 (st10 _ (z_aloadN X10 hx hby d21_26 rfl rfl (z_dup X10 hx hby d21_27 rfl (st23 _ (z_iconst X23 hx hby d21_31 (z_isub X23 hx hby d21_32 (st12 _ (z_iloadN X12 hx hby d21_36 rfl (z_iconst X12 hx hby d21_37 (z_iadd X12 hx hby d21_38 (z_iloadN X12 hx hby d21_39 rfl (z_iand X12 hx hby d21_40 (z_istore X12 hx hby d21_41 l3 rfl (z_aloadN X12 hx hby d21_43 rfl rfl (st17 _ (z_iload X17 hx hby d21_47 rfl (own_ial X17 hx hZ e17 Ar14 hin14 hat14 rfl rfl (hb hby d21_49) (z_ifYes X17 hx hby 142 d21_50 ((if0 _ _).trans (teq (show (0 : Int32) = 0 from (by decide))).1) rfl k))))))))))))))))))))))))))))))))))) ?_
 exact own_endV X17 hx Bd.notSynchronized Bd.returns (hb hby d21_142) (by decide) (by decide) (by rw [e17]; exact ⟨rfl, (by simpa only [List.append_nil] using K12), H38, F37, F12, F49⟩)
set_option maxRecDepth 65536 in
set_option maxHeartbeats 40000000 in
theorem rm4207 (l : Launch) (Z : State) (a0 : Array Value) (hw : ∀ d ∈ tables_1, d.before a0 Z = true) (h0 : Heap) (a18 : Addr) (p10 : Int32) (a21 : Addr) (c24 : ClassId) (p22 p25 : Int32) (F19 : Fld Z h0 a18 own_s1 "slots" "[I" (.ref a21)) (H20 : Arh Z h0 a21 c24 .int 32 [(p22, (.int p25))] [] (.int 0)) (hp23 : ¬ ((oH p10) = p22)) (hp26 : ¬ ((0 : Int32) = p10)) :
    own_Con l Z own_y1 prog_7_method_6_code 4 (some .int) ({ frames := 1, cells := 0, slots := 0, locals := 14 } : Room) #[(.ref a18), (.int p10)] h0 (own_QP (some (.int (oH p10))) h0) := by
 refine MetFree.of_bodySF (plainFor_of_name own_pn8) hisR ?_
 intro p e s m args below meth c s₁ Bd hml0 hP hK
 obtain ⟨rfl, hZ, hh⟩ := hP
 have hx := Bd.exec
 have hby := Bd.bytes
 have hml : c.maxLocals = 4 := hml0
 have hown : s.vm.findClass own_s1 = some m.cls := findClass_of_methodNamed Bd.named
 have hnm := (name_of_methodNamed Bd.named Bd.method).1
 have X0 : Stand p l e ({ frames := 1, cells := 0, slots := 0, locals := 14 } : Room) s m #[(.ref a18), (.int p10)] below meth c s₁ [] 0 0 := Stand.of_body Bd
 have e0 : s₁.heap = h0 := by rw [← hh, Bd.state]; rfl
 have K0 : own_Kp h0 h0 [] [] := own_kpRefl _ _
 show own_Go p e below (own_K s (own_QP (some (.int (oH p10))) h0) 0 0) s₁ (entryFrame m #[(.ref a18), (.int p10)] 4)
 rw [own_ef477]
 obtain ⟨T13, X13, e13, st13⟩ := own_gF X0 hx hZ hown hby (own_wd hw 148 rfl) e0 F19 d19_1 #[.val (.ref a18), .val (.int p10), .unset, .unset] []
 obtain ⟨cl16, Ar16, q16, S16, N16, H16, G16⟩ := id H20
 let l1 : Array Slot := #[.val (.ref a18), .val (.int p10), .val (.int 31), .unset]
 obtain ⟨_, T17, L17, X17, ⟨rfl, rfl, e17⟩, st17⟩ := own_cs X13 hx hZ hown (own_w489 hw) hml (g := (mkF m 10 l1 [(.int 31), (.int p10)])) (hb hby d19_10) e13 [(.int p10), (.int 31)] [] (lenOf own_pd12 rfl) (rm487 l Z a0 hw h0 p10 )
 let l2 : Array Slot := #[.val (.ref a18), .val (.int p10), .val (.int 31), .val (.int (oH p10))]
 obtain ⟨T14, X14, e14, st14⟩ := own_gF X17 hx hZ hown hby (own_wd hw 148 rfl) e17 F19 d19_15 l2 []
 obtain ⟨cl11, Ar11, q11, S11, N11, H11, G11⟩ := id H20
 have hin11 := inb_of S11 ⟨(own_hlo p10), (own_hhi p10)⟩
 have hat11 := atH H11 hin11 (getH_miss (own_hlo p10) hp23 (getH_all rfl _))
 obtain ⟨T15, X15, e15, st15⟩ := own_gF X14 hx hZ hown hby (own_wd hw 148 rfl) e14 F19 d19_25 l2 []
 obtain ⟨cl12, Ar12, q12, S12, N12, H12, G12⟩ := id H20
 have hin12 := inb_of S12 ⟨(own_hlo p10), (own_hhi p10)⟩
 have hat12 := atH H12 hin12 (getH_miss (own_hlo p10) hp23 (getH_all rfl _))
 refine own_go (T2 := T15) (g2 := (mkF m 43 l2 [(.int (oH p10))])) (fun t k => z_aloadN X0 hx hby d19_0 rfl rfl (st13 _ (own_alen X13 hx hZ e13 Ar16 S16 N16 rfl rfl (hb hby d19_4) (z_iconst X13 hx hby d19_5 (z_isub X13 hx hby d19_6 (z_istoreN X13 hx hby d19_7 l1 rfl (z_iloadN X13 hx hby d19_8 rfl (z_iloadN X13 hx hby d19_9 rfl (st17 _ (z_istoreN X17 hx hby d19_13 l2 rfl (z_aloadN X17 hx hby d19_14 rfl rfl (st14 _ (z_iloadN X14 hx hby d19_18 rfl (own_ial X14 hx hZ e14 Ar11 hin11 hat11 rfl rfl (hb hby d19_19) (z_iloadN X14 hx hby d19_20 rfl (z_icmpNo X14 hx hby d19_21 (feq hp26).1 (z_aloadN X14 hx hby d19_24 rfl rfl (st15 _ (z_iloadN X15 hx hby d19_28 rfl (own_ial X15 hx hZ e15 Ar12 hin12 hat12 rfl rfl (hb hby d19_29) (z_ifYes X15 hx hby 42 d19_30 ((if0 _ _).trans (teq (show (0 : Int32) = 0 from (by decide))).1) rfl (z_iloadN X15 hx hby d19_42 rfl k)))))))))))))))))))))) ?_
 exact own_endI X15 hx Bd.notSynchronized Bd.returns (hb hby d19_43) (by decide) (by decide) ⟨rfl, rfl, e15⟩
def own_Q4179 (Z : State) (h0 : Heap) (a4180 : Addr) (a4181 : Addr) (p4182 : Int32) (a4185 : Addr) (c4188 : ClassId) (p4189 : Int32) (p4190 : Int32) (p4201 : Int32) (a4231 : Addr) (c4236 : ClassId) (p4237 : Int32) (v : Option Value) (h : Heap) (L : List Loc) : Prop := v = none ∧ own_Kp h0 h [a4185, a4231, a4180] L ∧ Arh Z h a4185 c4188 .int 32 [((oH (p4201 + 1)), (.int (p4201 + 1))), (p4189, (.int p4190))] [] (.int 0) ∧ Arh Z h a4231 c4236 .int 32 [((oH (p4201 + 1)), (.int p4182)), (p4189, (.int p4237))] [] (.int 0) ∧ Fld Z h a4180 own_s1 "size" "I" (.int 2) ∧ Fld Z h a4180 own_s1 "slots" "[I" (.ref a4185) ∧ Fld Z h a4180 own_s1 "indices" "[I" (.ref a4231)
set_option maxRecDepth 65536 in
set_option maxHeartbeats 40000000 in
theorem rm4179 (l : Launch) (Z : State) (a0 : Array Value) (hw : ∀ d ∈ tables_1, d.before a0 Z = true) (h0 : Heap) (a14 a15 : Addr) (p19 : Int32) (a20 : Addr) (c28 : ClassId) (p27 p29 p12 : Int32) (a23 : Addr) (c33 : ClassId) (p34 : Int32) (F37 : Fld Z h0 a14 own_s1 "size" "I" (.int 1)) (F30 : Fld Z h0 a14 own_s1 "slots" "[I" (.ref a20)) (H35 : Arh Z h0 a20 c28 .int 32 [(p27, (.int p29))] [] (.int 0)) (F41 : Fld Z h0 a15 own_s0 "id" "I" (.int p12)) (E42 : Exa Z h0 a15 own_s0) (hp43 : ¬ ((oH (p12 + 1)) = p27)) (hp44 : ¬ ((0 : Int32) = (p12 + 1))) (E38 : Exa Z h0 a14 own_s1) (F45 : Fld Z h0 a14 own_s1 "indices" "[I" (.ref a23)) (ne31 : a14 ≠ a20) (H46 : Arh Z h0 a23 c33 .int 32 [(p27, (.int p34))] [] (.int 0)) (ne39 : a23 ≠ a20) (ne32 : a14 ≠ a23) :
    own_Con l Z own_y3 prog_7_method_3_code 5 none ({ frames := 2, cells := 0, slots := 0, locals := 29 } : Room) #[(.ref a14), (.ref a15), (.int p19)] h0 (own_Q4179 Z h0 a14 a15 p19 a20 c28 p27 p29 p12 a23 c33 p34) := by
 refine MetFree.of_bodySF (plainFor_of_name own_pn8) hisR ?_
 intro p e s m args below meth c s₁ Bd hml0 hP hK
 obtain ⟨rfl, hZ, hh⟩ := hP
 have hx := Bd.exec
 have hby := Bd.bytes
 have hml : c.maxLocals = 5 := hml0
 have hown : s.vm.findClass own_s1 = some m.cls := findClass_of_methodNamed Bd.named
 have hnm := (name_of_methodNamed Bd.named Bd.method).1
 have X0 : Stand p l e ({ frames := 2, cells := 0, slots := 0, locals := 29 } : Room) s m #[(.ref a14), (.ref a15), (.int p19)] below meth c s₁ [] 0 0 := Stand.of_body Bd
 have e0 : s₁.heap = h0 := by rw [← hh, Bd.state]; rfl
 have K0 : own_Kp h0 h0 [a20, a23, a14] [] := own_kpRefl _ _
 show own_Go p e below (own_K s (own_Q4179 Z h0 a14 a15 p19 a20 c28 p27 p29 p12 a23 c33 p34) 0 0) s₁ (entryFrame m #[(.ref a14), (.ref a15), (.int p19)] 5)
 rw [own_ef449]
 let l1 : Array Slot := #[.val (.ref a14), .val (.ref a15), .val (.int p19), .unset, .unset]
 obtain ⟨T17, X17, e17, st17⟩ := own_gF X0 hx hZ hown hby (own_wd hw 157 rfl) e0 F37 d17_2 l1 [(.int 2)]
 obtain ⟨T18, X18, e18, st18⟩ := own_gF X17 hx hZ hown hby (own_wd hw 148 rfl) e17 F30 d17_9 l1 [(.int 4)]
 obtain ⟨cl21, Ar21, q21, S21, N21, H21, G21⟩ := id H35
 obtain ⟨_, T16, L16, X16, ⟨rfl, rfl, e16⟩, st16⟩ := own_cv X18 hx hZ hown (own_w475 hw) hml (g := (mkF m 21 l1 [(.ref a15)])) (hb hby d17_21) e18 E42 [] [] (lenOf own_pd5 rfl) (rm462 l Z a0 hw h0 a15 p12 F41)
 let l2 : Array Slot := #[.val (.ref a14), .val (.ref a15), .val (.int p19), .val (.int (p12 + 1)), .unset]
 obtain ⟨_, T22, L22, X22, ⟨rfl, rfl, e22⟩, st22⟩ := own_cp X16 hx hZ hown (own_w499 hw) hml (g := (mkF m 29 l2 [(.int (p12 + 1)), (.ref a14)])) (hb hby d17_29) e16 E38 [(.int (p12 + 1))] [] (lenOf own_pd13 rfl) (rm4207 l Z a0 hw h0 a14 (p12 + 1) a20 c28 p27 p29 F30 H35 hp43 hp44)
 let l3 : Array Slot := #[.val (.ref a14), .val (.ref a15), .val (.int p19), .val (.int (p12 + 1)), .val (.int (oH (p12 + 1)))]
 obtain ⟨T24, X24, e24, st24⟩ := own_gF X22 hx hZ hown hby (own_wd hw 148 rfl) e22 F30 d17_35 l3 []
 obtain ⟨cl11, Ar11, q11, S11, N11, H11, G11⟩ := id H35
 have hin11 := inb_of S11 ⟨(own_hlo (p12 + 1)), (own_hhi (p12 + 1))⟩
 obtain ⟨T11, h11, X11, e11, W11, st11⟩ := stI X24 hx hZ e24 Ar11 (j := (oH (p12 + 1))) hin11 (g := (mkF m 41 l3 [(.int (p12 + 1)), (.int (oH (p12 + 1))), (.ref a20)])) rfl rfl (hb hby d17_41)
 have V11 := Arh.push Ar11 q11 S11 N11 H11 G11 rfl W11 hin11
 have K11 := own_kpWr K0 W11 (Or.inl (List.mem_of_getElem? (i := 0) rfl))
 have z_W11 := Nat.le_of_eq W11.size.symm
 have F40 := (Fld.other W11 F45 (Or.inl ne31))
 obtain ⟨T25, X25, e25, st25⟩ := own_gF X11 hx hZ hown hby (own_wd hw 150 rfl) e11 F40 d17_43 l3 []
 have H47 := (Arh.other H46 W11 ne39)
 obtain ⟨cl10, Ar10, q10, S10, N10, H10, G10⟩ := id H47
 have hin10 := inb_of S10 ⟨(own_hlo (p12 + 1)), (own_hhi (p12 + 1))⟩
 obtain ⟨T10, h10, X10, e10, W10, st10⟩ := stI X25 hx hZ e25 Ar10 (j := (oH (p12 + 1))) hin10 (g := (mkF m 49 l3 [(.int p19), (.int (oH (p12 + 1))), (.ref a23)])) rfl rfl (hb hby d17_49)
 have V10 := Arh.push Ar10 q10 S10 N10 H10 G10 rfl W10 hin10
 have K10 := own_kpWr K11 W10 (Or.inl (List.mem_of_getElem? (i := 1) rfl))
 have z_W10 := Nat.le_of_eq W10.size.symm
 have F36 := (Fld.other W10 (Fld.other W11 F37 (Or.inl ne31)) (Or.inl ne32))
 obtain ⟨T26, X26, e26, st26⟩ := own_gF X10 hx hZ hown hby (own_wd hw 157 rfl) e10 F36 d17_52 l3 [(.ref a14)]
 have E48 := (Exa.wr W10 (Exa.wr W11 E38))
 obtain ⟨T13, h13, X13, e13, W13, st13⟩ := putF X26 hx hZ hown (host := "") (Or.inl (own_wd hw 157 rfl)) Via.refl e26 F36 E48 (Or.inl (own_wd hw 158 rfl)) (own_wd hw 141 rfl) (ty := .int) (by decide) rfl rfl (g := (mkF m 57 l3 [(.int 2), (.ref a14)])) rfl rfl (hb hby d17_57)
 have F13 := Fld.same W13 F36
 have K13 := own_kpWr K10 W13 (Or.inl (List.mem_of_getElem? (i := 2) rfl))
 have z_W13 := Nat.le_of_eq W13.size.symm
 have H49 := (Arh.other (Arh.other V11 W10 (Ne.symm ne39)) W13 (Ne.symm ne31))
 have H50 := (Arh.other V10 W13 (Ne.symm ne32))
 have F51 := (Fld.other W13 (Fld.other W10 (Fld.other W11 F30 (Or.inl ne31)) (Or.inl ne32)) (Or.inr (slot_ne (Or.inl (own_wd hw 149 rfl)) (Or.inl (own_wd hw 158 rfl)) (by decide) (t := (.array .int)) (t' := .int) (by decide) (by decide))))
 have F52 := (Fld.other W13 (Fld.other W10 F40 (Or.inl ne32)) (Or.inr (slot_ne (Or.inl (own_wd hw 151 rfl)) (Or.inl (own_wd hw 158 rfl)) (by decide) (t := (.array .int)) (t' := .int) (by decide) (by decide))))
 refine own_go (T2 := T13) (g2 := (mkF m 60 l3 [])) (fun t k => z_iconst X0 hx hby d17_0 (z_aloadN X0 hx hby d17_1 rfl rfl (st17 _ (z_iconst X17 hx hby d17_5 (z_iadd X17 hx hby d17_6 (XS.imul X17.here hx rfl (hb hby d17_7) rfl (z_aloadN X17 hx hby d17_8 rfl rfl (st18 _ (own_alen X18 hx hZ e18 Ar21 S21 N21 rfl rfl (hb hby d17_12) (z_icmpYes X18 hx hby 20 d17_13 (flt (show ¬ ((32 : Int32) < 4) from (by decide))).2.2.2 rfl (z_aloadN X18 hx hby d17_20 rfl rfl (st16 _ (z_iconst X16 hx hby d17_24 (z_iadd X16 hx hby d17_25 (z_istoreN X16 hx hby d17_26 l2 rfl (z_aloadN X16 hx hby d17_27 rfl rfl (z_iloadN X16 hx hby d17_28 rfl (st22 _ (z_istore X22 hx hby d17_32 l3 rfl (z_aloadN X22 hx hby d17_34 rfl rfl (st24 _ (z_iload X24 hx hby d17_38 rfl (z_iloadN X24 hx hby d17_40 rfl (st11 _ (z_aloadN X11 hx hby d17_42 rfl rfl (st25 _ (z_iload X25 hx hby d17_46 rfl (z_iloadN X25 hx hby d17_48 rfl (st10 _ (z_aloadN X10 hx hby d17_50 rfl rfl (z_dup X10 hx hby d17_51 rfl (st26 _ (z_iconst X26 hx hby d17_55 (z_iadd X26 hx hby d17_56 (st13 _ k))))))))))))))))))))))))))))))))))) ?_
 exact own_endV X13 hx Bd.notSynchronized Bd.returns (hb hby d17_60) (by decide) (by decide) (by rw [e13]; exact ⟨rfl, (by simpa only [List.append_nil] using K13), H49, H50, F13, F51, F52⟩)
def own_Q4417 (Z : State) (h0 : Heap) (a4418 : Addr) (a4419 : Addr) (p4420 : Int32) (a4423 : Addr) (c4426 : ClassId) (p4427 : Int32) (p4428 : Int32) (p4429 : Int32) (p4430 : Int32) (p4440 : Int32) (a4473 : Addr) (c4478 : ClassId) (p4479 : Int32) (p4480 : Int32) (v : Option Value) (h : Heap) (L : List Loc) : Prop := v = none ∧ own_Kp h0 h [a4423, a4473, a4418] L ∧ Arh Z h a4423 c4426 .int 32 [((((((oH (p4440 + 1)) + 1) &&& 31) + 1) &&& 31), (.int (p4440 + 1))), (p4427, (.int p4428)), (p4429, (.int p4430))] [] (.int 0) ∧ Arh Z h a4473 c4478 .int 32 [((((((oH (p4440 + 1)) + 1) &&& 31) + 1) &&& 31), (.int p4420)), (p4427, (.int p4479)), (p4429, (.int p4480))] [] (.int 0) ∧ Fld Z h a4418 own_s1 "size" "I" (.int 3) ∧ Fld Z h a4418 own_s1 "slots" "[I" (.ref a4423) ∧ Fld Z h a4418 own_s1 "indices" "[I" (.ref a4473)
set_option maxRecDepth 65536 in
set_option maxHeartbeats 40000000 in
theorem rm4417 (l : Launch) (Z : State) (a0 : Array Value) (hw : ∀ d ∈ tables_1, d.before a0 Z = true) (h0 : Heap) (a14 a15 : Addr) (p19 : Int32) (a20 : Addr) (c31 : ClassId) (p23 p29 : Int32) (p28 p30 p12 : Int32) (a24 : Addr) (c35 : ClassId) (p36 p37 : Int32) (F40 : Fld Z h0 a14 own_s1 "size" "I" (.int 2)) (F32 : Fld Z h0 a14 own_s1 "slots" "[I" (.ref a20)) (H38 : Arh Z h0 a20 c31 .int 32 [(p23, (.int p29)), (p28, (.int p30))] [] (.int 0)) (F44 : Fld Z h0 a15 own_s0 "id" "I" (.int p12)) (E45 : Exa Z h0 a15 own_s0) (hp46 : (oH (p12 + 1)) = p23) (hp47 : ¬ (p29 = (p12 + 1))) (hp48 : ¬ (p29 = 0)) (hp49 : (oN (oH (p12 + 1))) = p28) (hp50 : ¬ (p30 = (p12 + 1))) (hp51 : ¬ ((oN (oH (p12 + 1))) = p23)) (hp52 : ¬ (p30 = 0)) (hp53 : ¬ ((oN (oN (oH (p12 + 1)))) = p23)) (hp54 : ¬ ((oN (oN (oH (p12 + 1)))) = p28)) (hp55 : ¬ ((0 : Int32) = (p12 + 1))) (E41 : Exa Z h0 a14 own_s1) (F56 : Fld Z h0 a14 own_s1 "indices" "[I" (.ref a24)) (ne33 : a14 ≠ a20) (H57 : Arh Z h0 a24 c35 .int 32 [(p23, (.int p36)), (p28, (.int p37))] [] (.int 0)) (ne42 : a24 ≠ a20) (ne34 : a14 ≠ a24) :
    own_Con l Z own_y3 prog_7_method_3_code 5 none ({ frames := 2, cells := 0, slots := 0, locals := 29 } : Room) #[(.ref a14), (.ref a15), (.int p19)] h0 (own_Q4417 Z h0 a14 a15 p19 a20 c31 p23 p29 p28 p30 p12 a24 c35 p36 p37) := by
 refine MetFree.of_bodySF (plainFor_of_name own_pn8) hisR ?_
 intro p e s m args below meth c s₁ Bd hml0 hP hK
 obtain ⟨rfl, hZ, hh⟩ := hP
 have hx := Bd.exec
 have hby := Bd.bytes
 have hml : c.maxLocals = 5 := hml0
 have hown : s.vm.findClass own_s1 = some m.cls := findClass_of_methodNamed Bd.named
 have hnm := (name_of_methodNamed Bd.named Bd.method).1
 have X0 : Stand p l e ({ frames := 2, cells := 0, slots := 0, locals := 29 } : Room) s m #[(.ref a14), (.ref a15), (.int p19)] below meth c s₁ [] 0 0 := Stand.of_body Bd
 have e0 : s₁.heap = h0 := by rw [← hh, Bd.state]; rfl
 have K0 : own_Kp h0 h0 [a20, a24, a14] [] := own_kpRefl _ _
 show own_Go p e below (own_K s (own_Q4417 Z h0 a14 a15 p19 a20 c31 p23 p29 p28 p30 p12 a24 c35 p36 p37) 0 0) s₁ (entryFrame m #[(.ref a14), (.ref a15), (.int p19)] 5)
 rw [own_ef449]
 let l1 : Array Slot := #[.val (.ref a14), .val (.ref a15), .val (.int p19), .unset, .unset]
 obtain ⟨T17, X17, e17, st17⟩ := own_gF X0 hx hZ hown hby (own_wd hw 157 rfl) e0 F40 d17_2 l1 [(.int 2)]
 obtain ⟨T18, X18, e18, st18⟩ := own_gF X17 hx hZ hown hby (own_wd hw 148 rfl) e17 F32 d17_9 l1 [(.int 6)]
 obtain ⟨cl21, Ar21, q21, S21, N21, H21, G21⟩ := id H38
 obtain ⟨_, T16, L16, X16, ⟨rfl, rfl, e16⟩, st16⟩ := own_cv X18 hx hZ hown (own_w475 hw) hml (g := (mkF m 21 l1 [(.ref a15)])) (hb hby d17_21) e18 E45 [] [] (lenOf own_pd5 rfl) (rm462 l Z a0 hw h0 a15 p12 F44)
 let l2 : Array Slot := #[.val (.ref a14), .val (.ref a15), .val (.int p19), .val (.int (p12 + 1)), .unset]
 obtain ⟨_, T22, L22, X22, ⟨rfl, rfl, e22⟩, st22⟩ := own_cp X16 hx hZ hown (own_w499 hw) hml (g := (mkF m 29 l2 [(.int (p12 + 1)), (.ref a14)])) (hb hby d17_29) e16 E41 [(.int (p12 + 1))] [] (lenOf own_pd13 rfl) (rm998 l Z a0 hw h0 a14 (p12 + 1) a20 c31 p23 p29 p28 p30 F32 H38 hp46 hp47 hp48 hp49 hp50 hp51 hp52 hp53 hp54 hp55)
 let l3 : Array Slot := #[.val (.ref a14), .val (.ref a15), .val (.int p19), .val (.int (p12 + 1)), .val (.int (oN (oN (oH (p12 + 1)))))]
 obtain ⟨T25, X25, e25, st25⟩ := own_gF X22 hx hZ hown hby (own_wd hw 148 rfl) e22 F32 d17_35 l3 []
 obtain ⟨cl11, Ar11, q11, S11, N11, H11, G11⟩ := id H38
 have hin11 := inb_of S11 ⟨(ar898 (oH (p12 + 1)) ), (ar899 (oH (p12 + 1)) )⟩
 obtain ⟨T11, h11, X11, e11, W11, st11⟩ := stI X25 hx hZ e25 Ar11 (j := (oN (oN (oH (p12 + 1))))) hin11 (g := (mkF m 41 l3 [(.int (p12 + 1)), (.int (oN (oN (oH (p12 + 1))))), (.ref a20)])) rfl rfl (hb hby d17_41)
 have V11 := Arh.push Ar11 q11 S11 N11 H11 G11 rfl W11 hin11
 have K11 := own_kpWr K0 W11 (Or.inl (List.mem_of_getElem? (i := 0) rfl))
 have z_W11 := Nat.le_of_eq W11.size.symm
 have F43 := (Fld.other W11 F56 (Or.inl ne33))
 obtain ⟨T26, X26, e26, st26⟩ := own_gF X11 hx hZ hown hby (own_wd hw 150 rfl) e11 F43 d17_43 l3 []
 have H58 := (Arh.other H57 W11 ne42)
 obtain ⟨cl10, Ar10, q10, S10, N10, H10, G10⟩ := id H58
 have hin10 := inb_of S10 ⟨(ar898 (oH (p12 + 1)) ), (ar899 (oH (p12 + 1)) )⟩
 obtain ⟨T10, h10, X10, e10, W10, st10⟩ := stI X26 hx hZ e26 Ar10 (j := (oN (oN (oH (p12 + 1))))) hin10 (g := (mkF m 49 l3 [(.int p19), (.int (oN (oN (oH (p12 + 1))))), (.ref a24)])) rfl rfl (hb hby d17_49)
 have V10 := Arh.push Ar10 q10 S10 N10 H10 G10 rfl W10 hin10
 have K10 := own_kpWr K11 W10 (Or.inl (List.mem_of_getElem? (i := 1) rfl))
 have z_W10 := Nat.le_of_eq W10.size.symm
 have F39 := (Fld.other W10 (Fld.other W11 F40 (Or.inl ne33)) (Or.inl ne34))
 obtain ⟨T27, X27, e27, st27⟩ := own_gF X10 hx hZ hown hby (own_wd hw 157 rfl) e10 F39 d17_52 l3 [(.ref a14)]
 have E59 := (Exa.wr W10 (Exa.wr W11 E41))
 obtain ⟨T13, h13, X13, e13, W13, st13⟩ := putF X27 hx hZ hown (host := "") (Or.inl (own_wd hw 157 rfl)) Via.refl e27 F39 E59 (Or.inl (own_wd hw 158 rfl)) (own_wd hw 141 rfl) (ty := .int) (by decide) rfl rfl (g := (mkF m 57 l3 [(.int 3), (.ref a14)])) rfl rfl (hb hby d17_57)
 have F13 := Fld.same W13 F39
 have K13 := own_kpWr K10 W13 (Or.inl (List.mem_of_getElem? (i := 2) rfl))
 have z_W13 := Nat.le_of_eq W13.size.symm
 have H60 := (Arh.other (Arh.other V11 W10 (Ne.symm ne42)) W13 (Ne.symm ne33))
 have H61 := (Arh.other V10 W13 (Ne.symm ne34))
 have F62 := (Fld.other W13 (Fld.other W10 (Fld.other W11 F32 (Or.inl ne33)) (Or.inl ne34)) (Or.inr (slot_ne (Or.inl (own_wd hw 149 rfl)) (Or.inl (own_wd hw 158 rfl)) (by decide) (t := (.array .int)) (t' := .int) (by decide) (by decide))))
 have F63 := (Fld.other W13 (Fld.other W10 F43 (Or.inl ne34)) (Or.inr (slot_ne (Or.inl (own_wd hw 151 rfl)) (Or.inl (own_wd hw 158 rfl)) (by decide) (t := (.array .int)) (t' := .int) (by decide) (by decide))))
 refine own_go (T2 := T13) (g2 := (mkF m 60 l3 [])) (fun t k => z_iconst X0 hx hby d17_0 (z_aloadN X0 hx hby d17_1 rfl rfl (st17 _ (z_iconst X17 hx hby d17_5 (z_iadd X17 hx hby d17_6 (XS.imul X17.here hx rfl (hb hby d17_7) rfl (z_aloadN X17 hx hby d17_8 rfl rfl (st18 _ (own_alen X18 hx hZ e18 Ar21 S21 N21 rfl rfl (hb hby d17_12) (z_icmpYes X18 hx hby 20 d17_13 (flt (show ¬ ((32 : Int32) < 6) from (by decide))).2.2.2 rfl (z_aloadN X18 hx hby d17_20 rfl rfl (st16 _ (z_iconst X16 hx hby d17_24 (z_iadd X16 hx hby d17_25 (z_istoreN X16 hx hby d17_26 l2 rfl (z_aloadN X16 hx hby d17_27 rfl rfl (z_iloadN X16 hx hby d17_28 rfl (st22 _ (z_istore X22 hx hby d17_32 l3 rfl (z_aloadN X22 hx hby d17_34 rfl rfl (st25 _ (z_iload X25 hx hby d17_38 rfl (z_iloadN X25 hx hby d17_40 rfl (st11 _ (z_aloadN X11 hx hby d17_42 rfl rfl (st26 _ (z_iload X26 hx hby d17_46 rfl (z_iloadN X26 hx hby d17_48 rfl (st10 _ (z_aloadN X10 hx hby d17_50 rfl rfl (z_dup X10 hx hby d17_51 rfl (st27 _ (z_iconst X27 hx hby d17_55 (z_iadd X27 hx hby d17_56 (st13 _ k))))))))))))))))))))))))))))))))))) ?_
 exact own_endV X13 hx Bd.notSynchronized Bd.returns (hb hby d17_60) (by decide) (by decide) (by rw [e13]; exact ⟨rfl, (by simpa only [List.append_nil] using K13), H60, H61, F13, F62, F63⟩)
theorem ar4500 (x0 x1 : Int32) (h0 : ((x1 + 1) &&& 31) = x0) : ((x0 + 1) &&& 31) = ((((x1 + 1) &&& 31) + 1) &&& 31) := by
  have f3 := rng32 x0
  have f4 : (1 : Int32).toInt = 1 := by decide
  have f2r := rng32 (x0 + 1)
  have f2 := c_iadd x0 (1 : Int32)
  have f5 : (31 : Int32).toInt = 31 := by decide
  have f1r := rng32 ((x0 + 1) &&& 31)
  have f1 : ((x0 + 1) &&& 31).toInt = (x0 + 1).toInt % 32 := c_mask (x0 + 1) (31 : Int32) 5 (by decide) (by decide)
  have f10 := rng32 x1
  have f9r := rng32 (x1 + 1)
  have f9 := c_iadd x1 (1 : Int32)
  have f8r := rng32 ((x1 + 1) &&& 31)
  have f8 : ((x1 + 1) &&& 31).toInt = (x1 + 1).toInt % 32 := c_mask (x1 + 1) (31 : Int32) 5 (by decide) (by decide)
  have f7r := rng32 (((x1 + 1) &&& 31) + 1)
  have f7 := c_iadd ((x1 + 1) &&& 31) (1 : Int32)
  have f6r := rng32 ((((x1 + 1) &&& 31) + 1) &&& 31)
  have f6 : ((((x1 + 1) &&& 31) + 1) &&& 31).toInt = (((x1 + 1) &&& 31) + 1).toInt % 32 := c_mask (((x1 + 1) &&& 31) + 1) (31 : Int32) 5 (by decide) (by decide)
  have g0 := Int32.toInt_inj.mpr h0
  exact Int32.toInt_inj.mp (by omega)
theorem ar4509 (x0 x1 : Int32) (h0 : ((x1 + 1) &&& 31) = x0) : ¬ (((((x0 + 1) &&& 31) - x1) &&& 31) < ((((x0 + 1) &&& 31) - x0) &&& 31)) := by
  have f5 := rng32 x0
  have f6 : (1 : Int32).toInt = 1 := by decide
  have f4r := rng32 (x0 + 1)
  have f4 := c_iadd x0 (1 : Int32)
  have f7 : (31 : Int32).toInt = 31 := by decide
  have f3r := rng32 ((x0 + 1) &&& 31)
  have f3 : ((x0 + 1) &&& 31).toInt = (x0 + 1).toInt % 32 := c_mask (x0 + 1) (31 : Int32) 5 (by decide) (by decide)
  have f8 := rng32 x1
  have f2r := rng32 (((x0 + 1) &&& 31) - x1)
  have f2 := c_isub ((x0 + 1) &&& 31) x1
  have f1r := rng32 ((((x0 + 1) &&& 31) - x1) &&& 31)
  have f1 : ((((x0 + 1) &&& 31) - x1) &&& 31).toInt = (((x0 + 1) &&& 31) - x1).toInt % 32 := c_mask (((x0 + 1) &&& 31) - x1) (31 : Int32) 5 (by decide) (by decide)
  have f10r := rng32 (((x0 + 1) &&& 31) - x0)
  have f10 := c_isub ((x0 + 1) &&& 31) x0
  have f9r := rng32 ((((x0 + 1) &&& 31) - x0) &&& 31)
  have f9 : ((((x0 + 1) &&& 31) - x0) &&& 31).toInt = (((x0 + 1) &&& 31) - x0).toInt % 32 := c_mask (((x0 + 1) &&& 31) - x0) (31 : Int32) 5 (by decide) (by decide)
  have f12r := rng32 (x1 + 1)
  have f12 := c_iadd x1 (1 : Int32)
  have f11r := rng32 ((x1 + 1) &&& 31)
  have f11 : ((x1 + 1) &&& 31).toInt = (x1 + 1).toInt % 32 := c_mask (x1 + 1) (31 : Int32) 5 (by decide) (by decide)
  have g0 := Int32.toInt_inj.mpr h0
  exact fun q => absurd (Int32.lt_iff_toInt_lt.mp q) (by omega)
theorem ar4510 (x0 x1 : Int32) (h0 : ¬ (x0 < 0)) (h1 : x0 < 32) (h2 : ¬ (x1 < 0)) (h3 : x1 < 32) (h4 : ¬ (x1 = x0)) : ¬ (((((x0 + 1) &&& 31) + 1) &&& 31) = ((((x1 + 1) &&& 31) + 1) &&& 31)) := by
  have f5 := rng32 x0
  have f6 : (1 : Int32).toInt = 1 := by decide
  have f4r := rng32 (x0 + 1)
  have f4 := c_iadd x0 (1 : Int32)
  have f7 : (31 : Int32).toInt = 31 := by decide
  have f3r := rng32 ((x0 + 1) &&& 31)
  have f3 : ((x0 + 1) &&& 31).toInt = (x0 + 1).toInt % 32 := c_mask (x0 + 1) (31 : Int32) 5 (by decide) (by decide)
  have f2r := rng32 (((x0 + 1) &&& 31) + 1)
  have f2 := c_iadd ((x0 + 1) &&& 31) (1 : Int32)
  have f1r := rng32 ((((x0 + 1) &&& 31) + 1) &&& 31)
  have f1 : ((((x0 + 1) &&& 31) + 1) &&& 31).toInt = (((x0 + 1) &&& 31) + 1).toInt % 32 := c_mask (((x0 + 1) &&& 31) + 1) (31 : Int32) 5 (by decide) (by decide)
  have f12 := rng32 x1
  have f11r := rng32 (x1 + 1)
  have f11 := c_iadd x1 (1 : Int32)
  have f10r := rng32 ((x1 + 1) &&& 31)
  have f10 : ((x1 + 1) &&& 31).toInt = (x1 + 1).toInt % 32 := c_mask (x1 + 1) (31 : Int32) 5 (by decide) (by decide)
  have f9r := rng32 (((x1 + 1) &&& 31) + 1)
  have f9 := c_iadd ((x1 + 1) &&& 31) (1 : Int32)
  have f8r := rng32 ((((x1 + 1) &&& 31) + 1) &&& 31)
  have f8 : ((((x1 + 1) &&& 31) + 1) &&& 31).toInt = (((x1 + 1) &&& 31) + 1).toInt % 32 := c_mask (((x1 + 1) &&& 31) + 1) (31 : Int32) 5 (by decide) (by decide)
  have f13 : (0 : Int32).toInt = 0 := by decide
  have f14 : (32 : Int32).toInt = 32 := by decide
  have g0 := mt Int32.lt_iff_toInt_lt.mpr h0
  have g1 := Int32.lt_iff_toInt_lt.mp h1
  have g2 := mt Int32.lt_iff_toInt_lt.mpr h2
  have g3 := Int32.lt_iff_toInt_lt.mp h3
  have g4 := mt Int32.toInt_inj.mp h4
  exact fun q => absurd (Int32.toInt_inj.mpr q) (by omega)
theorem ar4511 (x0 x1 : Int32) (h0 : ((x1 + 1) &&& 31) = x0) : ¬ (((((x0 + 1) &&& 31) + 1) &&& 31) = x1) := by
  have f5 := rng32 x0
  have f6 : (1 : Int32).toInt = 1 := by decide
  have f4r := rng32 (x0 + 1)
  have f4 := c_iadd x0 (1 : Int32)
  have f7 : (31 : Int32).toInt = 31 := by decide
  have f3r := rng32 ((x0 + 1) &&& 31)
  have f3 : ((x0 + 1) &&& 31).toInt = (x0 + 1).toInt % 32 := c_mask (x0 + 1) (31 : Int32) 5 (by decide) (by decide)
  have f2r := rng32 (((x0 + 1) &&& 31) + 1)
  have f2 := c_iadd ((x0 + 1) &&& 31) (1 : Int32)
  have f1r := rng32 ((((x0 + 1) &&& 31) + 1) &&& 31)
  have f1 : ((((x0 + 1) &&& 31) + 1) &&& 31).toInt = (((x0 + 1) &&& 31) + 1).toInt % 32 := c_mask (((x0 + 1) &&& 31) + 1) (31 : Int32) 5 (by decide) (by decide)
  have f8 := rng32 x1
  have f10r := rng32 (x1 + 1)
  have f10 := c_iadd x1 (1 : Int32)
  have f9r := rng32 ((x1 + 1) &&& 31)
  have f9 : ((x1 + 1) &&& 31).toInt = (x1 + 1).toInt % 32 := c_mask (x1 + 1) (31 : Int32) 5 (by decide) (by decide)
  have g0 := Int32.toInt_inj.mpr h0
  exact fun q => absurd (Int32.toInt_inj.mpr q) (by omega)
theorem ar4544 (x0 x1 : Int32) (h0 : ((x0 + 1) &&& 31) = x1) : ¬ (x0 = ((x1 + 1) &&& 31)) := by
  have f1 := rng32 x0
  have f4 := rng32 x1
  have f5 : (1 : Int32).toInt = 1 := by decide
  have f3r := rng32 (x1 + 1)
  have f3 := c_iadd x1 (1 : Int32)
  have f6 : (31 : Int32).toInt = 31 := by decide
  have f2r := rng32 ((x1 + 1) &&& 31)
  have f2 : ((x1 + 1) &&& 31).toInt = (x1 + 1).toInt % 32 := c_mask (x1 + 1) (31 : Int32) 5 (by decide) (by decide)
  have f8r := rng32 (x0 + 1)
  have f8 := c_iadd x0 (1 : Int32)
  have f7r := rng32 ((x0 + 1) &&& 31)
  have f7 : ((x0 + 1) &&& 31).toInt = (x0 + 1).toInt % 32 := c_mask (x0 + 1) (31 : Int32) 5 (by decide) (by decide)
  have g0 := Int32.toInt_inj.mpr h0
  exact fun q => absurd (Int32.toInt_inj.mpr q) (by omega)
theorem ar4545 (x0 x1 : Int32) (h0 : ((x1 + 1) &&& 31) = x0) : ¬ (x0 = ((((x1 + 1) &&& 31) + 1) &&& 31)) := by
  have f1 := rng32 x0
  have f6 := rng32 x1
  have f7 : (1 : Int32).toInt = 1 := by decide
  have f5r := rng32 (x1 + 1)
  have f5 := c_iadd x1 (1 : Int32)
  have f8 : (31 : Int32).toInt = 31 := by decide
  have f4r := rng32 ((x1 + 1) &&& 31)
  have f4 : ((x1 + 1) &&& 31).toInt = (x1 + 1).toInt % 32 := c_mask (x1 + 1) (31 : Int32) 5 (by decide) (by decide)
  have f3r := rng32 (((x1 + 1) &&& 31) + 1)
  have f3 := c_iadd ((x1 + 1) &&& 31) (1 : Int32)
  have f2r := rng32 ((((x1 + 1) &&& 31) + 1) &&& 31)
  have f2 : ((((x1 + 1) &&& 31) + 1) &&& 31).toInt = (((x1 + 1) &&& 31) + 1).toInt % 32 := c_mask (((x1 + 1) &&& 31) + 1) (31 : Int32) 5 (by decide) (by decide)
  have g0 := Int32.toInt_inj.mpr h0
  exact fun q => absurd (Int32.toInt_inj.mpr q) (by omega)
theorem cn4546 (x0 x1 x2 x3 : Int32) (v0 v1 v2 : Value) (h0 : ¬ (x0 = x1)) (h1 : x0 = x2) (h2 : ¬ (x0 = x3)) (h3 : ¬ (x1 = x2)) (h4 : ¬ (x1 = x3)) (h5 : ¬ (x2 = x3)) : ∀ i : Nat, getH [(x0, .int 0), (x1, v0), (x1, .int 0), (x1, v1), (x2, v0), (x3, v2)] [] (.int 0) i = getH [(x3, v2), (x1, v0)] [] (.int 0) i := by
  intro i
  have g0 := mt Int32.toInt_inj.mp h0
  have g1 := congrArg Int32.toInt h1
  have g2 := mt Int32.toInt_inj.mp h2
  have g3 := mt Int32.toInt_inj.mp h3
  have g4 := mt Int32.toInt_inj.mp h4
  have g5 := mt Int32.toInt_inj.mp h5
  simp only [getH]
  repeat' split
  all_goals first | rfl | (exfalso; omega)
def own_Q4614 (Z : State) (h0 : Heap) (a4615 : Addr) (a4616 : Addr) (a4617 : Addr) (c4620 : ClassId) (p4621 : Int32) (p4622 : Int32) (p4623 : Int32) (p4624 : Int32) (p4625 : Int32) (p4626 : Int32) (p4633 : Int32) (a4677 : Addr) (c4682 : ClassId) (p4683 : Int32) (p4684 : Int32) (p4685 : Int32) (v : Option Value) (h : Heap) (L : List Loc) : Prop := v = none ∧ own_Kp h0 h [a4617, a4615, a4677] L ∧ Arh Z h a4617 c4620 .int 32 [((((((oH (p4633 + 1)) + 1) &&& 31) + 1) &&& 31), (.int 0)), ((oH (p4633 + 1)), (.int p4626)), ((oH (p4633 + 1)), (.int 0)), (p4621, (.int p4622)), (p4623, (.int p4624)), (p4625, (.int p4626))] [] (.int 0) ∧ Fld Z h a4615 own_s1 "slots" "[I" (.ref a4617) ∧ Fld Z h a4615 own_s1 "size" "I" (.int 2) ∧ Fld Z h a4615 own_s1 "indices" "[I" (.ref a4677) ∧ Arh Z h a4677 c4682 .int 32 [((oH (p4633 + 1)), (.int p4685)), (p4621, (.int p4683)), (p4623, (.int p4684)), (p4625, (.int p4685))] [] (.int 0)
set_option maxRecDepth 65536 in
set_option maxHeartbeats 40000000 in
theorem rm4614 (l : Launch) (Z : State) (a0 : Array Value) (hw : ∀ d ∈ tables_1, d.before a0 Z = true) (h0 : Heap) (a16 a19 a30 : Addr) (c54 : ClassId) (p37 p53 : Int32) (p44 p28 : Int32) (p50 p20 p10 : Int32) (a38 : Addr) (c62 : ClassId) (p63 p64 p55 : Int32) (F56 : Fld Z h0 a16 own_s1 "slots" "[I" (.ref a30)) (H65 : Arh Z h0 a30 c54 .int 32 [(p37, (.int p53)), (p44, (.int p28)), (p50, (.int p20))] [] (.int 0)) (F74 : Fld Z h0 a19 own_s0 "id" "I" (.int p10)) (E75 : Exa Z h0 a19 own_s0) (hp76 : (oH (p10 + 1)) = p37) (hp77 : p53 = (p10 + 1)) (E68 : Exa Z h0 a16 own_s1) (F78 : Fld Z h0 a16 own_s1 "size" "I" (.int 3)) (ne34 : a16 ≠ a30) (hp69 : ¬ ((oN (oH (p10 + 1))) = p37)) (hp70 : (oN (oH (p10 + 1))) = p44) (hp79 : ¬ (p28 = 0)) (hp80 : (((oN (oH (p10 + 1))) - (oH p28)) &&& 31) < (((oN (oH (p10 + 1))) - (oH (p10 + 1))) &&& 31)) (hp57 : ¬ ((oN (oN (oH (p10 + 1)))) = p37)) (hp58 : ¬ ((oN (oN (oH (p10 + 1)))) = p44)) (hp59 : (oN (oN (oH (p10 + 1)))) = p50) (hp81 : ¬ (p20 = 0)) (hp82 : ¬ ((((oN (oN (oH (p10 + 1)))) - (oH p20)) &&& 31) < (((oN (oN (oH (p10 + 1)))) - (oH (p10 + 1))) &&& 31))) (F83 : Fld Z h0 a16 own_s1 "indices" "[I" (.ref a38)) (H84 : Arh Z h0 a38 c62 .int 32 [(p37, (.int p63)), (p44, (.int p64)), (p50, (.int p55))] [] (.int 0)) (ne60 : a38 ≠ a30) (ne61 : a38 ≠ a16) (hp85 : ¬ ((oN (oN (oN (oH (p10 + 1))))) = p37)) (hp86 : ¬ ((oN (oN (oN (oH (p10 + 1))))) = p44)) (hp87 : ¬ ((oN (oN (oN (oH (p10 + 1))))) = p50)) :
    own_Con l Z own_y2 prog_7_method_5_code 7 none ({ frames := 2, cells := 0, slots := 0, locals := 29 } : Room) #[(.ref a16), (.ref a19)] h0 (own_Q4614 Z h0 a16 a19 a30 c54 p37 p53 p44 p28 p50 p20 p10 a38 c62 p63 p64 p55) := by
 refine MetFree.of_bodySF (plainFor_of_name own_pn8) hisR ?_
 intro p e s m args below meth c s₁ Bd hml0 hP hK
 obtain ⟨rfl, hZ, hh⟩ := hP
 have hx := Bd.exec
 have hby := Bd.bytes
 have hml : c.maxLocals = 7 := hml0
 have hown : s.vm.findClass own_s1 = some m.cls := findClass_of_methodNamed Bd.named
 have hnm := (name_of_methodNamed Bd.named Bd.method).1
 have X0 : Stand p l e ({ frames := 2, cells := 0, slots := 0, locals := 29 } : Room) s m #[(.ref a16), (.ref a19)] below meth c s₁ [] 0 0 := Stand.of_body Bd
 have e0 : s₁.heap = h0 := by rw [← hh, Bd.state]; rfl
 have K0 : own_Kp h0 h0 [a30, a16, a38] [] := own_kpRefl _ _
 show own_Go p e below (own_K s (own_Q4614 Z h0 a16 a19 a30 c54 p37 p53 p44 p28 p50 p20 p10 a38 c62 p63 p64 p55) 0 0) s₁ (entryFrame m #[(.ref a16), (.ref a19)] 7)
 rw [own_ef804]
 obtain ⟨T29, X29, e29, st29⟩ := own_gF X0 hx hZ hown hby (own_wd hw 148 rfl) e0 F56 d21_1 #[.val (.ref a16), .val (.ref a19), .unset, .unset, .unset, .unset, .unset] []
 obtain ⟨cl39, Ar39, q39, S39, N39, H39, G39⟩ := id H65
 let l1 : Array Slot := #[.val (.ref a16), .val (.ref a19), .val (.int 31), .unset, .unset, .unset, .unset]
 obtain ⟨_, T40, L40, X40, ⟨rfl, rfl, e40⟩, st40⟩ := own_cv X29 hx hZ hown (own_w475 hw) hml (g := (mkF m 10 l1 [(.ref a19), (.ref a16)])) (hb hby d21_10) e29 E75 [] [(.ref a16)] (lenOf own_pd5 rfl) (rm462 l Z a0 hw h0 a19 p10 F74)
 obtain ⟨_, T41, L41, X41, ⟨rfl, rfl, e41⟩, st41⟩ := own_cp X40 hx hZ hown (own_w499 hw) hml (g := (mkF m 15 l1 [(.int (p10 + 1)), (.ref a16)])) (hb hby d21_15) e40 E68 [(.int (p10 + 1))] [] (lenOf own_pd13 rfl) (rm830 l Z a0 hw h0 a16 (p10 + 1) a30 c54 p37 p53 p44 p28 p50 p20 F56 H65 hp76 hp77)
 let l2 : Array Slot := #[.val (.ref a16), .val (.ref a19), .val (.int 31), .val (.int (oH (p10 + 1))), .unset, .unset, .unset]
 obtain ⟨T45, X45, e45, st45⟩ := own_gF X41 hx hZ hown hby (own_wd hw 148 rfl) e41 F56 d21_20 l2 []
 obtain ⟨cl12, Ar12, q12, S12, N12, H12, G12⟩ := id H65
 have hin12 := inb_of S12 ⟨(own_hlo (p10 + 1)), (own_hhi (p10 + 1))⟩
 obtain ⟨T12, h12, X12, e12, W12, st12⟩ := stI X45 hx hZ e45 Ar12 (j := (oH (p10 + 1))) hin12 (g := (mkF m 25 l2 [(.int 0), (.int (oH (p10 + 1))), (.ref a30)])) rfl rfl (hb hby d21_25)
 have V12 := Arh.push Ar12 q12 S12 N12 H12 G12 rfl W12 hin12
 have K12 := own_kpWr K0 W12 (Or.inl (List.mem_of_getElem? (i := 0) rfl))
 have z_W12 := Nat.le_of_eq W12.size.symm
 have F66 := (Fld.other W12 F78 (Or.inl ne34))
 obtain ⟨T46, X46, e46, st46⟩ := own_gF X12 hx hZ hown hby (own_wd hw 157 rfl) e12 F66 d21_28 l2 [(.ref a16)]
 have E88 := (Exa.wr W12 E68)
 obtain ⟨T17, h17, X17, e17, W17, st17⟩ := putF X46 hx hZ hown (host := "") (Or.inl (own_wd hw 157 rfl)) Via.refl e46 F66 E88 (Or.inl (own_wd hw 158 rfl)) (own_wd hw 141 rfl) (ty := .int) (by decide) rfl rfl (g := (mkF m 33 l2 [(.int 2), (.ref a16)])) rfl rfl (hb hby d21_33)
 have F17 := Fld.same W17 F66
 have K17 := own_kpWr K12 W17 (Or.inl (List.mem_of_getElem? (i := 1) rfl))
 have z_W17 := Nat.le_of_eq W17.size.symm
 have F51 := (Fld.other W17 (Fld.other W12 F56 (Or.inl ne34)) (Or.inr (slot_ne (Or.inl (own_wd hw 149 rfl)) (Or.inl (own_wd hw 158 rfl)) (by decide) (t := (.array .int)) (t' := .int) (by decide) (by decide))))
 let l3 : Array Slot := #[.val (.ref a16), .val (.ref a19), .val (.int 31), .val (.int (oH (p10 + 1))), .val (.int (oN (oH (p10 + 1)))), .unset, .unset]
 obtain ⟨T31, X31, e31, st31⟩ := own_gF X17 hx hZ hown hby (own_wd hw 148 rfl) e17 F51 d21_44 l3 []
 have H52 := (Arh.other V12 W17 (Ne.symm ne34))
 obtain ⟨cl21, Ar21, q21, S21, N21, H21, G21⟩ := id H52
 have hin21 := inb_of S21 ⟨(ar622 (oH (p10 + 1)) ), (ar623 (oH (p10 + 1)) )⟩
 have hat21 := atH H21 hin21 (getH_miss (ar622 (oH (p10 + 1)) ) (ar799 (oH (p10 + 1)) ) (getH_miss (ar622 (oH (p10 + 1)) ) hp69 (getH_hit (ar622 (oH (p10 + 1)) ) hp70)))
 obtain ⟨T35, X35, e35, st35⟩ := own_gF X31 hx hZ hown hby (own_wd hw 148 rfl) e31 F51 d21_54 l3 []
 obtain ⟨cl22, Ar22, q22, S22, N22, H22, G22⟩ := id H52
 have hin22 := inb_of S22 ⟨(ar622 (oH (p10 + 1)) ), (ar623 (oH (p10 + 1)) )⟩
 have hat22 := atH H22 hin22 (getH_miss (ar622 (oH (p10 + 1)) ) (ar799 (oH (p10 + 1)) ) (getH_miss (ar622 (oH (p10 + 1)) ) hp69 (getH_hit (ar622 (oH (p10 + 1)) ) hp70)))
 obtain ⟨_, T15, L15, X15, ⟨rfl, rfl, e15⟩, st15⟩ := own_cs X35 hx hZ hown (own_w489 hw) hml (g := (mkF m 61 l3 [(.int 31), (.int p28)])) (hb hby d21_61) e35 [(.int p28), (.int 31)] [] (lenOf own_pd12 rfl) (rm487 l Z a0 hw h17 p28 )
 let l4 : Array Slot := #[.val (.ref a16), .val (.ref a19), .val (.int 31), .val (.int (oH (p10 + 1))), .val (.int (oN (oH (p10 + 1)))), .val (.int (oH p28)), .unset]
 refine own_go (T2 := T15) (g2 := (mkF m 77 l4 [(.int ((oN (oH (p10 + 1))) - (oH (p10 + 1)))), (.int (((oN (oH (p10 + 1))) - (oH p28)) &&& 31))])) (fun t k => z_aloadN X0 hx hby d21_0 rfl rfl (st29 _ (own_alen X29 hx hZ e29 Ar39 S39 N39 rfl rfl (hb hby d21_4) (z_iconst X29 hx hby d21_5 (z_isub X29 hx hby d21_6 (z_istoreN X29 hx hby d21_7 l1 rfl (z_aloadN X29 hx hby d21_8 rfl rfl (z_aloadN X29 hx hby d21_9 rfl rfl (st40 _ (z_iconst X40 hx hby d21_13 (z_iadd X40 hx hby d21_14 (st41 _ (z_istoreN X41 hx hby d21_18 l2 rfl (z_aloadN X41 hx hby d21_19 rfl rfl (st45 _ (z_iloadN X45 hx hby d21_23 rfl (z_iconst X45 hx hby d21_24 (st12 _ (z_aloadN X12 hx hby d21_26 rfl rfl (z_dup X12 hx hby d21_27 rfl (st46 _ (z_iconst X46 hx hby d21_31 (z_isub X46 hx hby d21_32 (st17 _ (z_iloadN X17 hx hby d21_36 rfl (z_iconst X17 hx hby d21_37 (z_iadd X17 hx hby d21_38 (z_iloadN X17 hx hby d21_39 rfl (z_iand X17 hx hby d21_40 (z_istore X17 hx hby d21_41 l3 rfl (z_aloadN X17 hx hby d21_43 rfl rfl (st31 _ (z_iload X31 hx hby d21_47 rfl (own_ial X31 hx hZ e31 Ar21 hin21 hat21 rfl rfl (hb hby d21_49) (z_ifNo X31 hx hby d21_50 ((if0 _ _).trans (feq hp79).1) (z_aloadN X31 hx hby d21_53 rfl rfl (st35 _ (z_iload X35 hx hby d21_57 rfl (own_ial X35 hx hZ e35 Ar22 hin22 hat22 rfl rfl (hb hby d21_59) (z_iloadN X35 hx hby d21_60 rfl (st15 _ (z_istore X15 hx hby d21_64 l4 rfl (z_iload X15 hx hby d21_66 rfl (z_iload X15 hx hby d21_68 rfl (z_isub X15 hx hby d21_70 (z_iloadN X15 hx hby d21_71 rfl (z_iand X15 hx hby d21_72 (z_iload X15 hx hby d21_73 rfl (z_iloadN X15 hx hby d21_75 rfl (z_isub X15 hx hby d21_76 k)))))))))))))))))))))))))))))))))))))))))))))))))) ?_
 let l5 : Array Slot := #[.val (.ref a16), .val (.ref a19), .val (.int 31), .val (.int (oH (p10 + 1))), .val (.int (oN (oN (oH (p10 + 1))))), .val (.int (oH p28)), .val (.int 0)]
 obtain ⟨T32, X32, e32, st32⟩ := own_gF X15 hx hZ hown hby (own_wd hw 148 rfl) e15 F51 d21_44 l5 []
 obtain ⟨cl23, Ar23, q23, S23, N23, H23, G23⟩ := id H52
 have hin23 := inb_of S23 ⟨(ar898 (oH (p10 + 1)) ), (ar899 (oH (p10 + 1)) )⟩
 have hat23 := atH H23 hin23 (getH_miss (ar898 (oH (p10 + 1)) ) (ar758 (oH (p10 + 1)) ) (getH_miss (ar898 (oH (p10 + 1)) ) hp57 (getH_miss (ar898 (oH (p10 + 1)) ) hp58 (getH_hit (ar898 (oH (p10 + 1)) ) hp59))))
 obtain ⟨T36, X36, e36, st36⟩ := own_gF X32 hx hZ hown hby (own_wd hw 148 rfl) e32 F51 d21_54 l5 []
 obtain ⟨cl24, Ar24, q24, S24, N24, H24, G24⟩ := id H52
 have hin24 := inb_of S24 ⟨(ar898 (oH (p10 + 1)) ), (ar899 (oH (p10 + 1)) )⟩
 have hat24 := atH H24 hin24 (getH_miss (ar898 (oH (p10 + 1)) ) (ar758 (oH (p10 + 1)) ) (getH_miss (ar898 (oH (p10 + 1)) ) hp57 (getH_miss (ar898 (oH (p10 + 1)) ) hp58 (getH_hit (ar898 (oH (p10 + 1)) ) hp59))))
 obtain ⟨_, T18, L18, X18, ⟨rfl, rfl, e18⟩, st18⟩ := own_cs X36 hx hZ hown (own_w489 hw) hml (g := (mkF m 61 l5 [(.int 31), (.int p20)])) (hb hby d21_61) e36 [(.int p20), (.int 31)] [] (lenOf own_pd12 rfl) (rm487 l Z a0 hw h17 p20 )
 let l6 : Array Slot := #[.val (.ref a16), .val (.ref a19), .val (.int 31), .val (.int (oH (p10 + 1))), .val (.int (oN (oN (oH (p10 + 1))))), .val (.int (oH p20)), .val (.int 1)]
 obtain ⟨T47, X47, e47, st47⟩ := own_gF X18 hx hZ hown hby (own_wd hw 148 rfl) e18 F51 d21_95 l6 []
 obtain ⟨T42, X42, e42, st42⟩ := own_gF X47 hx hZ hown hby (own_wd hw 148 rfl) e47 F51 d21_100 l6 [(.int (oH (p10 + 1))), (.ref a30)]
 obtain ⟨cl25, Ar25, q25, S25, N25, H25, G25⟩ := id H52
 have hin25 := inb_of S25 ⟨(ar898 (oH (p10 + 1)) ), (ar899 (oH (p10 + 1)) )⟩
 have hat25 := atH H25 hin25 (getH_miss (ar898 (oH (p10 + 1)) ) (ar758 (oH (p10 + 1)) ) (getH_miss (ar898 (oH (p10 + 1)) ) hp57 (getH_miss (ar898 (oH (p10 + 1)) ) hp58 (getH_hit (ar898 (oH (p10 + 1)) ) hp59))))
 obtain ⟨cl13, Ar13, q13, S13, N13, H13, G13⟩ := id H52
 have hin13 := inb_of S13 ⟨(own_hlo (p10 + 1)), (own_hhi (p10 + 1))⟩
 obtain ⟨T13, h13, X13, e13, W13, st13⟩ := stI X42 hx hZ e42 Ar13 (j := (oH (p10 + 1))) hin13 (g := (mkF m 106 l6 [(.int p20), (.int (oH (p10 + 1))), (.ref a30)])) rfl rfl (hb hby d21_106)
 have V13 := Arh.push Ar13 q13 S13 N13 H13 G13 rfl W13 hin13
 have K13 := own_kpWr K17 W13 (Or.inl (List.mem_of_getElem? (i := 0) rfl))
 have z_W13 := Nat.le_of_eq W13.size.symm
 refine own_go (T2 := T13) (g2 := (mkF m 107 l6 [])) (fun t k => z_iloadN X15 hx hby d21_77 rfl (z_iand X15 hx hby d21_78 (z_icmpYes X15 hx hby 86 d21_79 (tlt hp80).1 rfl (z_iconst X15 hx hby d21_86 (z_istore X15 hx hby d21_87 #[.val (.ref a16), .val (.ref a19), .val (.int 31), .val (.int (oH (p10 + 1))), .val (.int (oN (oH (p10 + 1)))), .val (.int (oH p28)), .val (.int 0)] rfl (z_iload X15 hx hby d21_89 rfl (z_ifYes X15 hx hby 131 d21_91 ((if0 _ _).trans (teq (show (0 : Int32) = 0 from (by decide))).1) rfl (z_iload X15 hx hby d21_131 rfl (z_iconst X15 hx hby d21_133 (z_iadd X15 hx hby d21_134 (z_iloadN X15 hx hby d21_135 rfl (z_iand X15 hx hby d21_136 (z_istore X15 hx hby d21_137 l5 rfl (z_goto X15 hx hby 43 d21_139 rfl (z_aloadN X15 hx hby d21_43 rfl rfl (st32 _ (z_iload X32 hx hby d21_47 rfl (own_ial X32 hx hZ e32 Ar23 hin23 hat23 rfl rfl (hb hby d21_49) (z_ifNo X32 hx hby d21_50 ((if0 _ _).trans (feq hp81).1) (z_aloadN X32 hx hby d21_53 rfl rfl (st36 _ (z_iload X36 hx hby d21_57 rfl (own_ial X36 hx hZ e36 Ar24 hin24 hat24 rfl rfl (hb hby d21_59) (z_iloadN X36 hx hby d21_60 rfl (st18 _ (z_istore X18 hx hby d21_64 #[.val (.ref a16), .val (.ref a19), .val (.int 31), .val (.int (oH (p10 + 1))), .val (.int (oN (oN (oH (p10 + 1))))), .val (.int (oH p20)), .val (.int 0)] rfl (z_iload X18 hx hby d21_66 rfl (z_iload X18 hx hby d21_68 rfl (z_isub X18 hx hby d21_70 (z_iloadN X18 hx hby d21_71 rfl (z_iand X18 hx hby d21_72 (z_iload X18 hx hby d21_73 rfl (z_iloadN X18 hx hby d21_75 rfl (z_isub X18 hx hby d21_76 (z_iloadN X18 hx hby d21_77 rfl (z_iand X18 hx hby d21_78 (z_icmpNo X18 hx hby d21_79 (flt hp82).1 (z_iconst X18 hx hby d21_82 (z_goto X18 hx hby 87 d21_83 rfl (z_istore X18 hx hby d21_87 l6 rfl (z_iload X18 hx hby d21_89 rfl (z_ifNo X18 hx hby d21_91 ((if0 _ _).trans (feq (show ¬ ((1 : Int32) = 0) from (by decide))).1) (z_aloadN X18 hx hby d21_94 rfl rfl (st47 _ (z_iloadN X47 hx hby d21_98 rfl (z_aloadN X47 hx hby d21_99 rfl rfl (st42 _ (z_iload X42 hx hby d21_103 rfl (own_ial X42 hx hZ e42 Ar25 hin25 hat25 rfl rfl (hb hby d21_105) (st13 _ k)))))))))))))))))))))))))))))))))))))))))))))))))) ?_
 have F67 := (Fld.other W13 (Fld.other W17 (Fld.other W12 F83 (Or.inl ne34)) (Or.inr (slot_ne (Or.inl (own_wd hw 151 rfl)) (Or.inl (own_wd hw 158 rfl)) (by decide) (t := (.array .int)) (t' := .int) (by decide) (by decide)))) (Or.inl ne34))
 obtain ⟨T48, X48, e48, st48⟩ := own_gF X13 hx hZ hown hby (own_wd hw 150 rfl) e13 F67 d21_108 l6 []
 obtain ⟨T43, X43, e43, st43⟩ := own_gF X48 hx hZ hown hby (own_wd hw 150 rfl) e48 F67 d21_113 l6 [(.int (oH (p10 + 1))), (.ref a38)]
 have H71 := (Arh.other (Arh.other (Arh.other H84 W12 ne60) W17 ne61) W13 ne60)
 obtain ⟨cl26, Ar26, q26, S26, N26, H26, G26⟩ := id H71
 have hin26 := inb_of S26 ⟨(ar898 (oH (p10 + 1)) ), (ar899 (oH (p10 + 1)) )⟩
 have hat26 := atH H26 hin26 (getH_miss (ar898 (oH (p10 + 1)) ) hp57 (getH_miss (ar898 (oH (p10 + 1)) ) hp58 (getH_hit (ar898 (oH (p10 + 1)) ) hp59)))
 obtain ⟨cl14, Ar14, q14, S14, N14, H14, G14⟩ := id H71
 have hin14 := inb_of S14 ⟨(own_hlo (p10 + 1)), (own_hhi (p10 + 1))⟩
 obtain ⟨T14, h14, X14, e14, W14, st14⟩ := stI X43 hx hZ e43 Ar14 (j := (oH (p10 + 1))) hin14 (g := (mkF m 119 l6 [(.int p55), (.int (oH (p10 + 1))), (.ref a38)])) rfl rfl (hb hby d21_119)
 have V14 := Arh.push Ar14 q14 S14 N14 H14 G14 rfl W14 hin14
 have K14 := own_kpWr K13 W14 (Or.inl (List.mem_of_getElem? (i := 2) rfl))
 have z_W14 := Nat.le_of_eq W14.size.symm
 have F72 := (Fld.other W14 (Fld.other W13 F51 (Or.inl ne34)) (Or.inl (Ne.symm ne61)))
 obtain ⟨T49, X49, e49, st49⟩ := own_gF X14 hx hZ hown hby (own_wd hw 148 rfl) e14 F72 d21_121 l6 []
 have H89 := (Arh.other V13 W14 (Ne.symm ne60))
 obtain ⟨cl11, Ar11, q11, S11, N11, H11, G11⟩ := id H89
 have hin11 := inb_of S11 ⟨(ar898 (oH (p10 + 1)) ), (ar899 (oH (p10 + 1)) )⟩
 obtain ⟨T11, h11, X11, e11, W11, st11⟩ := stI X49 hx hZ e49 Ar11 (j := (oN (oN (oH (p10 + 1))))) hin11 (g := (mkF m 127 l6 [(.int 0), (.int (oN (oN (oH (p10 + 1))))), (.ref a30)])) rfl rfl (hb hby d21_127)
 have V11 := Arh.push Ar11 q11 S11 N11 H11 G11 rfl W11 hin11
 have K11 := own_kpWr K14 W11 (Or.inl (List.mem_of_getElem? (i := 0) rfl))
 have z_W11 := Nat.le_of_eq W11.size.symm
 have F73 := (Fld.other W11 F72 (Or.inl ne34))
 let l7 : Array Slot := #[.val (.ref a16), .val (.ref a19), .val (.int 31), .val (.int (oN (oN (oH (p10 + 1))))), .val (.int (oN (oN (oN (oH (p10 + 1)))))), .val (.int (oH p20)), .val (.int 1)]
 obtain ⟨T33, X33, e33, st33⟩ := own_gF X11 hx hZ hown hby (own_wd hw 148 rfl) e11 F73 d21_44 l7 []
 obtain ⟨cl27, Ar27, q27, S27, N27, H27, G27⟩ := id V11
 have hin27 := inb_of S27 ⟨(ar925 (oH (p10 + 1)) ), (ar926 (oH (p10 + 1)) )⟩
 have hat27 := atH H27 hin27 (getH_miss (ar925 (oH (p10 + 1)) ) (ar927 (oH (p10 + 1)) ) (getH_miss (ar925 (oH (p10 + 1)) ) (ar929 (oH (p10 + 1)) ) (getH_miss (ar925 (oH (p10 + 1)) ) (ar929 (oH (p10 + 1)) ) (getH_miss (ar925 (oH (p10 + 1)) ) hp85 (getH_miss (ar925 (oH (p10 + 1)) ) hp86 (getH_miss (ar925 (oH (p10 + 1)) ) hp87 (getH_all rfl _)))))))
 have F90 := (Fld.other W11 (Fld.other W14 (Fld.other W13 F17 (Or.inl ne34)) (Or.inl (Ne.symm ne61))) (Or.inl ne34))
 have F91 := (Fld.other W11 (Fld.other W14 F67 (Or.inl (Ne.symm ne61))) (Or.inl ne34))
 have H92 := (Arh.other V14 W11 ne60)
 refine own_go (T2 := T33) (g2 := (mkF m 142 l7 [])) (fun t k => z_aloadN X13 hx hby d21_107 rfl rfl (st48 _ (z_iloadN X48 hx hby d21_111 rfl (z_aloadN X48 hx hby d21_112 rfl rfl (st43 _ (z_iload X43 hx hby d21_116 rfl (own_ial X43 hx hZ e43 Ar26 hin26 hat26 rfl rfl (hb hby d21_118) (st14 _ (z_aloadN X14 hx hby d21_120 rfl rfl (st49 _ (z_iload X49 hx hby d21_124 rfl (z_iconst X49 hx hby d21_126 (st11 _ (z_iload X11 hx hby d21_128 rfl (z_istoreN X11 hx hby d21_130 #[.val (.ref a16), .val (.ref a19), .val (.int 31), .val (.int (oN (oN (oH (p10 + 1))))), .val (.int (oN (oN (oH (p10 + 1))))), .val (.int (oH p20)), .val (.int 1)] rfl (z_iload X11 hx hby d21_131 rfl (z_iconst X11 hx hby d21_133 (z_iadd X11 hx hby d21_134 (z_iloadN X11 hx hby d21_135 rfl (z_iand X11 hx hby d21_136 (z_istore X11 hx hby d21_137 l7 rfl (z_goto X11 hx hby 43 d21_139 rfl (z_aloadN X11 hx hby d21_43 rfl rfl (st33 _ (z_iload X33 hx hby d21_47 rfl (own_ial X33 hx hZ e33 Ar27 hin27 hat27 rfl rfl (hb hby d21_49) (z_ifYes X33 hx hby 142 d21_50 ((if0 _ _).trans (teq (show (0 : Int32) = 0 from (by decide))).1) rfl k))))))))))))))))))))))))))) ?_
 exact own_endV X33 hx Bd.notSynchronized Bd.returns (hb hby d21_142) (by decide) (by decide) (by rw [e33]; exact ⟨rfl, (by simpa only [List.append_nil] using K11), V11, F73, F90, F91, H92⟩)
theorem cn4710 (x0 x1 x2 : Int32) (v0 v1 v2 : Value) (h0 : ¬ (x0 = x1)) (h1 : ¬ (x0 = x2)) (h2 : ¬ (x1 = x2)) : ∀ i : Nat, getH [(x0, .int 0), (x1, v0), (x1, .int 0), (x1, v1), (x2, v2), (x0, v0)] [] (.int 0) i = getH [(x2, v2), (x1, v0)] [] (.int 0) i := by
  intro i
  have g0 := mt Int32.toInt_inj.mp h0
  have g1 := mt Int32.toInt_inj.mp h1
  have g2 := mt Int32.toInt_inj.mp h2
  simp only [getH]
  repeat' split
  all_goals first | rfl | (exfalso; omega)
theorem cn4712 (x0 x1 x2 : Int32) (v0 v1 v2 : Value) (h0 : ¬ (x0 = x1)) (h1 : ¬ (x0 = x2)) (h2 : ¬ (x1 = x2)) : ∀ i : Nat, getH [(x0, v0), (x0, v1), (x1, v2), (x2, v0)] [] (.int 0) i = getH [(x1, v2), (x0, v0), (x2, v0)] [] (.int 0) i := by
  intro i
  have g0 := mt Int32.toInt_inj.mp h0
  have g1 := mt Int32.toInt_inj.mp h1
  have g2 := mt Int32.toInt_inj.mp h2
  simp only [getH]
  repeat' split
  all_goals first | rfl | (exfalso; omega)
set_option maxRecDepth 65536 in
set_option maxHeartbeats 40000000 in
theorem rm4754 (l : Launch) (Z : State) (a0 : Array Value) (hw : ∀ d ∈ tables_1, d.before a0 Z = true) (h0 : Heap) (a13 a14 : Addr) (p10 : Int32) (a21 : Addr) (c22 : ClassId) (p17 p18 : Int32) (p19 p20 : Int32) (F27 : Fld Z h0 a14 own_s0 "id" "I" (.int p10)) (E28 : Exa Z h0 a14 own_s0) (F23 : Fld Z h0 a13 own_s1 "slots" "[I" (.ref a21)) (H24 : Arh Z h0 a21 c22 .int 32 [(p17, (.int p18)), (p19, (.int p20))] [] (.int 0)) (hp29 : ¬ ((oH (p10 + 1)) = p17)) (hp30 : (oH (p10 + 1)) = p19) (hp31 : ¬ (p20 = (p10 + 1))) (hp32 : ¬ (p20 = 0)) (hp33 : (oN (oH (p10 + 1))) = p17) (hp34 : ¬ (p18 = (p10 + 1))) (hp35 : ¬ (p18 = 0)) (hp25 : ¬ ((oN (oN (oH (p10 + 1)))) = p17)) (hp26 : ¬ ((oN (oN (oH (p10 + 1)))) = p19)) (hp36 : ¬ ((0 : Int32) = (p10 + 1))) (E37 : Exa Z h0 a13 own_s1) :
    own_Con l Z own_y0 prog_7_method_2_code 3 (some .int) ({ frames := 2, cells := 0, slots := 0, locals := 29 } : Room) #[(.ref a13), (.ref a14)] h0 (own_QP (some (.int (-1))) h0) := by
 refine MetFree.of_bodySF (plainFor_of_name own_pn8) hisR ?_
 intro p e s m args below meth c s₁ Bd hml0 hP hK
 obtain ⟨rfl, hZ, hh⟩ := hP
 have hx := Bd.exec
 have hby := Bd.bytes
 have hml : c.maxLocals = 3 := hml0
 have hown : s.vm.findClass own_s1 = some m.cls := findClass_of_methodNamed Bd.named
 have hnm := (name_of_methodNamed Bd.named Bd.method).1
 have X0 : Stand p l e ({ frames := 2, cells := 0, slots := 0, locals := 29 } : Room) s m #[(.ref a13), (.ref a14)] below meth c s₁ [] 0 0 := Stand.of_body Bd
 have e0 : s₁.heap = h0 := by rw [← hh, Bd.state]; rfl
 have K0 : own_Kp h0 h0 [] [] := own_kpRefl _ _
 show own_Go p e below (own_K s (own_QP (some (.int (-1))) h0) 0 0) s₁ (entryFrame m #[(.ref a13), (.ref a14)] 3)
 rw [own_ef950]
 let l1 : Array Slot := #[.val (.ref a13), .val (.ref a14), .unset]
 obtain ⟨_, T15, L15, X15, ⟨rfl, rfl, e15⟩, st15⟩ := own_cv X0 hx hZ hown (own_w475 hw) hml (g := (mkF m 2 l1 [(.ref a14), (.ref a13)])) (hb hby d22_2) e0 E28 [] [(.ref a13)] (lenOf own_pd5 rfl) (rm462 l Z a0 hw h0 a14 p10 F27)
 obtain ⟨_, T16, L16, X16, ⟨rfl, rfl, e16⟩, st16⟩ := own_cp X15 hx hZ hown (own_w499 hw) hml (g := (mkF m 7 l1 [(.int (p10 + 1)), (.ref a13)])) (hb hby d22_7) e15 E37 [(.int (p10 + 1))] [] (lenOf own_pd13 rfl) (rm2047 l Z a0 hw h0 a13 (p10 + 1) a21 c22 p17 p18 p19 p20 F23 H24 hp29 hp30 hp31 hp32 hp33 hp34 hp35 hp25 hp26 hp36)
 let l2 : Array Slot := #[.val (.ref a13), .val (.ref a14), .val (.int (oN (oN (oH (p10 + 1)))))]
 obtain ⟨T12, X12, e12, st12⟩ := own_gF X16 hx hZ hown hby (own_wd hw 148 rfl) e16 F23 d22_12 l2 []
 obtain ⟨cl11, Ar11, q11, S11, N11, H11, G11⟩ := id H24
 have hin11 := inb_of S11 ⟨(ar898 (oH (p10 + 1)) ), (ar899 (oH (p10 + 1)) )⟩
 have hat11 := atH H11 hin11 (getH_miss (ar898 (oH (p10 + 1)) ) hp25 (getH_miss (ar898 (oH (p10 + 1)) ) hp26 (getH_all rfl _)))
 refine own_go (T2 := T12) (g2 := (mkF m 30 l2 [(.int (-1))])) (fun t k => z_aloadN X0 hx hby d22_0 rfl rfl (z_aloadN X0 hx hby d22_1 rfl rfl (st15 _ (z_iconst X15 hx hby d22_5 (z_iadd X15 hx hby d22_6 (st16 _ (z_istoreN X16 hx hby d22_10 l2 rfl (z_aloadN X16 hx hby d22_11 rfl rfl (st12 _ (z_iloadN X12 hx hby d22_15 rfl (own_ial X12 hx hZ e12 Ar11 hin11 hat11 rfl rfl (hb hby d22_16) (z_ifNo X12 hx hby d22_17 ((if0 _ _).trans (teq (show (0 : Int32) = 0 from (by decide))).2) (z_iconst X12 hx hby d22_20 (z_goto X12 hx hby 30 d22_21 rfl k)))))))))))))) ?_
 exact own_endI X12 hx Bd.notSynchronized Bd.returns (hb hby d22_30) (by decide) (by decide) ⟨rfl, rfl, e12⟩
set_option maxRecDepth 65536 in
set_option maxHeartbeats 40000000 in
theorem rm4971 (l : Launch) (Z : State) (a0 : Array Value) (hw : ∀ d ∈ tables_1, d.before a0 Z = true) (h0 : Heap) (a22 : Addr) (p10 : Int32) (a33 : Addr) (c38 : ClassId) (p27 p29 : Int32) (p28 p30 : Int32) (p34 p31 : Int32) (F25 : Fld Z h0 a22 own_s1 "slots" "[I" (.ref a33)) (H26 : Arh Z h0 a33 c38 .int 32 [(p27, (.int p29)), (p28, (.int p30)), (p34, (.int p31))] [] (.int 0)) (hp35 : ¬ ((oH p10) = p27)) (hp32 : (oH p10) = p28) (hp39 : ¬ (p30 = p10)) (hp40 : ¬ (p30 = 0)) (hp36 : ¬ ((oN (oH p10)) = p27)) (hp37 : (oN (oH p10)) = p34) (hp41 : ¬ (p31 = p10)) (hp42 : ¬ ((oN (oH p10)) = p28)) (hp43 : ¬ (p31 = 0)) (hp44 : (oN (oN (oH p10))) = p27) (hp45 : p29 = p10) :
    own_Con l Z own_y1 prog_7_method_6_code 4 (some .int) ({ frames := 1, cells := 0, slots := 0, locals := 14 } : Room) #[(.ref a22), (.int p10)] h0 (own_QP (some (.int (oN (oN (oH p10))))) h0) := by
 refine MetFree.of_bodySF (plainFor_of_name own_pn8) hisR ?_
 intro p e s m args below meth c s₁ Bd hml0 hP hK
 obtain ⟨rfl, hZ, hh⟩ := hP
 have hx := Bd.exec
 have hby := Bd.bytes
 have hml : c.maxLocals = 4 := hml0
 have hown : s.vm.findClass own_s1 = some m.cls := findClass_of_methodNamed Bd.named
 have hnm := (name_of_methodNamed Bd.named Bd.method).1
 have X0 : Stand p l e ({ frames := 1, cells := 0, slots := 0, locals := 14 } : Room) s m #[(.ref a22), (.int p10)] below meth c s₁ [] 0 0 := Stand.of_body Bd
 have e0 : s₁.heap = h0 := by rw [← hh, Bd.state]; rfl
 have K0 : own_Kp h0 h0 [] [] := own_kpRefl _ _
 show own_Go p e below (own_K s (own_QP (some (.int (oN (oN (oH p10))))) h0) 0 0) s₁ (entryFrame m #[(.ref a22), (.int p10)] 4)
 rw [own_ef477]
 obtain ⟨T19, X19, e19, st19⟩ := own_gF X0 hx hZ hown hby (own_wd hw 148 rfl) e0 F25 d19_1 #[.val (.ref a22), .val (.int p10), .unset, .unset] []
 obtain ⟨cl23, Ar23, q23, S23, N23, H23, G23⟩ := id H26
 let l1 : Array Slot := #[.val (.ref a22), .val (.int p10), .val (.int 31), .unset]
 obtain ⟨_, T24, L24, X24, ⟨rfl, rfl, e24⟩, st24⟩ := own_cs X19 hx hZ hown (own_w489 hw) hml (g := (mkF m 10 l1 [(.int 31), (.int p10)])) (hb hby d19_10) e19 [(.int p10), (.int 31)] [] (lenOf own_pd12 rfl) (rm487 l Z a0 hw h0 p10 )
 let l2 : Array Slot := #[.val (.ref a22), .val (.int p10), .val (.int 31), .val (.int (oH p10))]
 obtain ⟨T20, X20, e20, st20⟩ := own_gF X24 hx hZ hown hby (own_wd hw 148 rfl) e24 F25 d19_15 l2 []
 obtain ⟨cl13, Ar13, q13, S13, N13, H13, G13⟩ := id H26
 have hin13 := inb_of S13 ⟨(own_hlo p10), (own_hhi p10)⟩
 have hat13 := atH H13 hin13 (getH_miss (own_hlo p10) hp35 (getH_hit (own_hlo p10) hp32))
 obtain ⟨T11, X11, e11, st11⟩ := own_gF X20 hx hZ hown hby (own_wd hw 148 rfl) e20 F25 d19_25 l2 []
 obtain ⟨cl14, Ar14, q14, S14, N14, H14, G14⟩ := id H26
 have hin14 := inb_of S14 ⟨(own_hlo p10), (own_hhi p10)⟩
 have hat14 := atH H14 hin14 (getH_miss (own_hlo p10) hp35 (getH_hit (own_hlo p10) hp32))
 let l3 : Array Slot := #[.val (.ref a22), .val (.int p10), .val (.int 31), .val (.int (oN (oH p10)))]
 obtain ⟨T21, X21, e21, st21⟩ := own_gF X11 hx hZ hown hby (own_wd hw 148 rfl) e11 F25 d19_15 l3 []
 obtain ⟨cl15, Ar15, q15, S15, N15, H15, G15⟩ := id H26
 have hin15 := inb_of S15 ⟨(ar622 (oH p10) ), (ar623 (oH p10) )⟩
 have hat15 := atH H15 hin15 (getH_miss (ar622 (oH p10) ) hp36 (getH_miss (ar622 (oH p10) ) (ar624 (oH p10) p28 hp32) (getH_hit (ar622 (oH p10) ) hp37)))
 obtain ⟨T12, X12, e12, st12⟩ := own_gF X21 hx hZ hown hby (own_wd hw 148 rfl) e21 F25 d19_25 l3 []
 obtain ⟨cl16, Ar16, q16, S16, N16, H16, G16⟩ := id H26
 have hin16 := inb_of S16 ⟨(ar622 (oH p10) ), (ar623 (oH p10) )⟩
 have hat16 := atH H16 hin16 (getH_miss (ar622 (oH p10) ) hp36 (getH_miss (ar622 (oH p10) ) hp42 (getH_hit (ar622 (oH p10) ) hp37)))
 let l4 : Array Slot := #[.val (.ref a22), .val (.int p10), .val (.int 31), .val (.int (oN (oN (oH p10))))]
 obtain ⟨T17, X17, e17, st17⟩ := own_gF X12 hx hZ hown hby (own_wd hw 148 rfl) e12 F25 d19_15 l4 []
 obtain ⟨cl18, Ar18, q18, S18, N18, H18, G18⟩ := id H26
 have hin18 := inb_of S18 ⟨(ar898 (oH p10) ), (ar899 (oH p10) )⟩
 have hat18 := atH H18 hin18 (getH_hit (ar898 (oH p10) ) hp44)
 refine own_go (T2 := T17) (g2 := (mkF m 20 l4 [(.int p29)])) (fun t k => z_aloadN X0 hx hby d19_0 rfl rfl (st19 _ (own_alen X19 hx hZ e19 Ar23 S23 N23 rfl rfl (hb hby d19_4) (z_iconst X19 hx hby d19_5 (z_isub X19 hx hby d19_6 (z_istoreN X19 hx hby d19_7 l1 rfl (z_iloadN X19 hx hby d19_8 rfl (z_iloadN X19 hx hby d19_9 rfl (st24 _ (z_istoreN X24 hx hby d19_13 l2 rfl (z_aloadN X24 hx hby d19_14 rfl rfl (st20 _ (z_iloadN X20 hx hby d19_18 rfl (own_ial X20 hx hZ e20 Ar13 hin13 hat13 rfl rfl (hb hby d19_19) (z_iloadN X20 hx hby d19_20 rfl (z_icmpNo X20 hx hby d19_21 (feq hp39).1 (z_aloadN X20 hx hby d19_24 rfl rfl (st11 _ (z_iloadN X11 hx hby d19_28 rfl (own_ial X11 hx hZ e11 Ar14 hin14 hat14 rfl rfl (hb hby d19_29) (z_ifNo X11 hx hby d19_30 ((if0 _ _).trans (feq hp40).1) (z_iloadN X11 hx hby d19_33 rfl (z_iconst X11 hx hby d19_34 (z_iadd X11 hx hby d19_35 (z_iloadN X11 hx hby d19_36 rfl (z_iand X11 hx hby d19_37 (z_istoreN X11 hx hby d19_38 l3 rfl (z_goto X11 hx hby 14 d19_39 rfl (z_aloadN X11 hx hby d19_14 rfl rfl (st21 _ (z_iloadN X21 hx hby d19_18 rfl (own_ial X21 hx hZ e21 Ar15 hin15 hat15 rfl rfl (hb hby d19_19) (z_iloadN X21 hx hby d19_20 rfl (z_icmpNo X21 hx hby d19_21 (feq hp41).1 (z_aloadN X21 hx hby d19_24 rfl rfl (st12 _ (z_iloadN X12 hx hby d19_28 rfl (own_ial X12 hx hZ e12 Ar16 hin16 hat16 rfl rfl (hb hby d19_29) (z_ifNo X12 hx hby d19_30 ((if0 _ _).trans (feq hp43).1) (z_iloadN X12 hx hby d19_33 rfl (z_iconst X12 hx hby d19_34 (z_iadd X12 hx hby d19_35 (z_iloadN X12 hx hby d19_36 rfl (z_iand X12 hx hby d19_37 (z_istoreN X12 hx hby d19_38 l4 rfl (z_goto X12 hx hby 14 d19_39 rfl (z_aloadN X12 hx hby d19_14 rfl rfl (st17 _ (z_iloadN X17 hx hby d19_18 rfl (own_ial X17 hx hZ e17 Ar18 hin18 hat18 rfl rfl (hb hby d19_19) k)))))))))))))))))))))))))))))))))))))))))))))))))) ?_
 refine own_go (T2 := T17) (g2 := (mkF m 43 l4 [(.int (oN (oN (oH p10))))])) (fun t k => z_iloadN X17 hx hby d19_20 rfl (z_icmpYes X17 hx hby 42 d19_21 (teq hp45).1 rfl (z_iloadN X17 hx hby d19_42 rfl k))) ?_
 exact own_endI X17 hx Bd.notSynchronized Bd.returns (hb hby d19_43) (by decide) (by decide) ⟨rfl, rfl, e17⟩
def own_Q4937 (Z : State) (h0 : Heap) (a4938 : Addr) (a4939 : Addr) (a4940 : Addr) (c4943 : ClassId) (p4944 : Int32) (p4945 : Int32) (p4946 : Int32) (p4947 : Int32) (p4948 : Int32) (p4949 : Int32) (p4956 : Int32) (a5036 : Addr) (v : Option Value) (h : Heap) (L : List Loc) : Prop := v = none ∧ own_Kp h0 h [a4940, a4938] L ∧ Arh Z h a4940 c4943 .int 32 [((((((oH (p4956 + 1)) + 1) &&& 31) + 1) &&& 31), (.int 0)), (p4944, (.int p4945)), (p4946, (.int p4947)), (p4948, (.int p4949))] [] (.int 0) ∧ Fld Z h a4938 own_s1 "slots" "[I" (.ref a4940) ∧ Fld Z h a4938 own_s1 "size" "I" (.int 2) ∧ Fld Z h a4938 own_s1 "indices" "[I" (.ref a5036)
set_option maxRecDepth 65536 in
set_option maxHeartbeats 40000000 in
theorem rm4937 (l : Launch) (Z : State) (a0 : Array Value) (hw : ∀ d ∈ tables_1, d.before a0 Z = true) (h0 : Heap) (a13 a15 a21 : Addr) (c30 : ClassId) (p22 p29 : Int32) (p25 p26 : Int32) (p27 p28 p11 : Int32) (a33 : Addr) (F31 : Fld Z h0 a13 own_s1 "slots" "[I" (.ref a21)) (H34 : Arh Z h0 a21 c30 .int 32 [(p22, (.int p29)), (p25, (.int p26)), (p27, (.int p28))] [] (.int 0)) (F39 : Fld Z h0 a15 own_s0 "id" "I" (.int p11)) (E40 : Exa Z h0 a15 own_s0) (hp41 : ¬ ((oH (p11 + 1)) = p22)) (hp42 : (oH (p11 + 1)) = p25) (hp43 : ¬ (p26 = (p11 + 1))) (hp44 : ¬ (p26 = 0)) (hp45 : ¬ ((oN (oH (p11 + 1))) = p22)) (hp46 : (oN (oH (p11 + 1))) = p27) (hp47 : ¬ (p28 = (p11 + 1))) (hp48 : ¬ ((oN (oH (p11 + 1))) = p25)) (hp49 : ¬ (p28 = 0)) (hp50 : (oN (oN (oH (p11 + 1)))) = p22) (hp51 : p29 = (p11 + 1)) (E36 : Exa Z h0 a13 own_s1) (F52 : Fld Z h0 a13 own_s1 "size" "I" (.int 3)) (ne32 : a13 ≠ a21) (hp53 : ¬ ((oN (oN (oN (oH (p11 + 1))))) = p22)) (hp54 : ¬ ((oN (oN (oN (oH (p11 + 1))))) = p25)) (hp55 : ¬ ((oN (oN (oN (oH (p11 + 1))))) = p27)) (F56 : Fld Z h0 a13 own_s1 "indices" "[I" (.ref a33)) :
    own_Con l Z own_y2 prog_7_method_5_code 7 none ({ frames := 2, cells := 0, slots := 0, locals := 29 } : Room) #[(.ref a13), (.ref a15)] h0 (own_Q4937 Z h0 a13 a15 a21 c30 p22 p29 p25 p26 p27 p28 p11 a33) := by
 refine MetFree.of_bodySF (plainFor_of_name own_pn8) hisR ?_
 intro p e s m args below meth c s₁ Bd hml0 hP hK
 obtain ⟨rfl, hZ, hh⟩ := hP
 have hx := Bd.exec
 have hby := Bd.bytes
 have hml : c.maxLocals = 7 := hml0
 have hown : s.vm.findClass own_s1 = some m.cls := findClass_of_methodNamed Bd.named
 have hnm := (name_of_methodNamed Bd.named Bd.method).1
 have X0 : Stand p l e ({ frames := 2, cells := 0, slots := 0, locals := 29 } : Room) s m #[(.ref a13), (.ref a15)] below meth c s₁ [] 0 0 := Stand.of_body Bd
 have e0 : s₁.heap = h0 := by rw [← hh, Bd.state]; rfl
 have K0 : own_Kp h0 h0 [a21, a13] [] := own_kpRefl _ _
 show own_Go p e below (own_K s (own_Q4937 Z h0 a13 a15 a21 c30 p22 p29 p25 p26 p27 p28 p11 a33) 0 0) s₁ (entryFrame m #[(.ref a13), (.ref a15)] 7)
 rw [own_ef804]
 obtain ⟨T16, X16, e16, st16⟩ := own_gF X0 hx hZ hown hby (own_wd hw 148 rfl) e0 F31 d21_1 #[.val (.ref a13), .val (.ref a15), .unset, .unset, .unset, .unset, .unset] []
 obtain ⟨cl18, Ar18, q18, S18, N18, H18, G18⟩ := id H34
 let l1 : Array Slot := #[.val (.ref a13), .val (.ref a15), .val (.int 31), .unset, .unset, .unset, .unset]
 obtain ⟨_, T19, L19, X19, ⟨rfl, rfl, e19⟩, st19⟩ := own_cv X16 hx hZ hown (own_w475 hw) hml (g := (mkF m 10 l1 [(.ref a15), (.ref a13)])) (hb hby d21_10) e16 E40 [] [(.ref a13)] (lenOf own_pd5 rfl) (rm462 l Z a0 hw h0 a15 p11 F39)
 obtain ⟨_, T20, L20, X20, ⟨rfl, rfl, e20⟩, st20⟩ := own_cp X19 hx hZ hown (own_w499 hw) hml (g := (mkF m 15 l1 [(.int (p11 + 1)), (.ref a13)])) (hb hby d21_15) e19 E36 [(.int (p11 + 1))] [] (lenOf own_pd13 rfl) (rm4971 l Z a0 hw h0 a13 (p11 + 1) a21 c30 p22 p29 p25 p26 p27 p28 F31 H34 hp41 hp42 hp43 hp44 hp45 hp46 hp47 hp48 hp49 hp50 hp51)
 let l2 : Array Slot := #[.val (.ref a13), .val (.ref a15), .val (.int 31), .val (.int (oN (oN (oH (p11 + 1))))), .unset, .unset, .unset]
 obtain ⟨T23, X23, e23, st23⟩ := own_gF X20 hx hZ hown hby (own_wd hw 148 rfl) e20 F31 d21_20 l2 []
 obtain ⟨cl10, Ar10, q10, S10, N10, H10, G10⟩ := id H34
 have hin10 := inb_of S10 ⟨(ar898 (oH (p11 + 1)) ), (ar899 (oH (p11 + 1)) )⟩
 obtain ⟨T10, h10, X10, e10, W10, st10⟩ := stI X23 hx hZ e23 Ar10 (j := (oN (oN (oH (p11 + 1))))) hin10 (g := (mkF m 25 l2 [(.int 0), (.int (oN (oN (oH (p11 + 1))))), (.ref a21)])) rfl rfl (hb hby d21_25)
 have V10 := Arh.push Ar10 q10 S10 N10 H10 G10 rfl W10 hin10
 have K10 := own_kpWr K0 W10 (Or.inl (List.mem_of_getElem? (i := 0) rfl))
 have z_W10 := Nat.le_of_eq W10.size.symm
 have F35 := (Fld.other W10 F52 (Or.inl ne32))
 obtain ⟨T24, X24, e24, st24⟩ := own_gF X10 hx hZ hown hby (own_wd hw 157 rfl) e10 F35 d21_28 l2 [(.ref a13)]
 have E57 := (Exa.wr W10 E36)
 obtain ⟨T12, h12, X12, e12, W12, st12⟩ := putF X24 hx hZ hown (host := "") (Or.inl (own_wd hw 157 rfl)) Via.refl e24 F35 E57 (Or.inl (own_wd hw 158 rfl)) (own_wd hw 141 rfl) (ty := .int) (by decide) rfl rfl (g := (mkF m 33 l2 [(.int 2), (.ref a13)])) rfl rfl (hb hby d21_33)
 have F12 := Fld.same W12 F35
 have K12 := own_kpWr K10 W12 (Or.inl (List.mem_of_getElem? (i := 1) rfl))
 have z_W12 := Nat.le_of_eq W12.size.symm
 have F37 := (Fld.other W12 (Fld.other W10 F31 (Or.inl ne32)) (Or.inr (slot_ne (Or.inl (own_wd hw 149 rfl)) (Or.inl (own_wd hw 158 rfl)) (by decide) (t := (.array .int)) (t' := .int) (by decide) (by decide))))
 let l3 : Array Slot := #[.val (.ref a13), .val (.ref a15), .val (.int 31), .val (.int (oN (oN (oH (p11 + 1))))), .val (.int (oN (oN (oN (oH (p11 + 1)))))), .unset, .unset]
 obtain ⟨T17, X17, e17, st17⟩ := own_gF X12 hx hZ hown hby (own_wd hw 148 rfl) e12 F37 d21_44 l3 []
 have H38 := (Arh.other V10 W12 (Ne.symm ne32))
 obtain ⟨cl14, Ar14, q14, S14, N14, H14, G14⟩ := id H38
 have hin14 := inb_of S14 ⟨(ar925 (oH (p11 + 1)) ), (ar926 (oH (p11 + 1)) )⟩
 have hat14 := atH H14 hin14 (getH_miss (ar925 (oH (p11 + 1)) ) (ar927 (oH (p11 + 1)) ) (getH_miss (ar925 (oH (p11 + 1)) ) hp53 (getH_miss (ar925 (oH (p11 + 1)) ) hp54 (getH_miss (ar925 (oH (p11 + 1)) ) hp55 (getH_all rfl _)))))
 have F58 := (Fld.other W12 (Fld.other W10 F56 (Or.inl ne32)) (Or.inr (slot_ne (Or.inl (own_wd hw 151 rfl)) (Or.inl (own_wd hw 158 rfl)) (by decide) (t := (.array .int)) (t' := .int) (by decide) (by decide))))
 refine own_go (T2 := T17) (g2 := (mkF m 142 l3 [])) (fun t k => z_aloadN X0 hx hby d21_0 rfl rfl (st16 _ (own_alen X16 hx hZ e16 Ar18 S18 N18 rfl rfl (hb hby d21_4) (z_iconst X16 hx hby d21_5 (z_isub X16 hx hby d21_6 (z_istoreN X16 hx hby d21_7 l1 rfl (z_aloadN X16 hx hby d21_8 rfl rfl (z_aloadN X16 hx hby d21_9 rfl rfl (st19 _ (z_iconst X19 hx hby d21_13 (z_iadd X19 hx hby d21_14 (st20 _ (z_istoreN X20 hx hby d21_18 l2 rfl (z_aloadN X20 hx hby d21_19 rfl rfl (st23 _ (z_iloadN X23 hx hby d21_23 rfl (z_iconst X23 hx hby d21_24 (st10 _ (z_aloadN X10 hx hby d21_26 rfl rfl (z_dup X10 hx hby d21_27 rfl (st24 _ (z_iconst X24 hx hby d21_31 (z_isub X24 hx hby d21_32 (st12 _ (z_iloadN X12 hx hby d21_36 rfl (z_iconst X12 hx hby d21_37 (z_iadd X12 hx hby d21_38 (z_iloadN X12 hx hby d21_39 rfl (z_iand X12 hx hby d21_40 (z_istore X12 hx hby d21_41 l3 rfl (z_aloadN X12 hx hby d21_43 rfl rfl (st17 _ (z_iload X17 hx hby d21_47 rfl (own_ial X17 hx hZ e17 Ar14 hin14 hat14 rfl rfl (hb hby d21_49) (z_ifYes X17 hx hby 142 d21_50 ((if0 _ _).trans (teq (show (0 : Int32) = 0 from (by decide))).1) rfl k))))))))))))))))))))))))))))))))))) ?_
 exact own_endV X17 hx Bd.notSynchronized Bd.returns (hb hby d21_142) (by decide) (by decide) (by rw [e17]; exact ⟨rfl, (by simpa only [List.append_nil] using K12), H38, F37, F12, F58⟩)
set_option maxRecDepth 65536 in
set_option maxHeartbeats 40000000 in
theorem rm5097 (l : Launch) (Z : State) (a0 : Array Value) (hw : ∀ d ∈ tables_1, d.before a0 Z = true) (h0 : Heap) (a13 a16 : Addr) (p10 : Int32) (a23 : Addr) (c26 : ClassId) (p19 p27 : Int32) (p20 p21 : Int32) (a28 : Addr) (c31 : ClassId) (p32 p22 : Int32) (p33 p34 : Int32) (F35 : Fld Z h0 a16 own_s0 "id" "I" (.int p10)) (E36 : Exa Z h0 a16 own_s0) (F29 : Fld Z h0 a13 own_s1 "slots" "[I" (.ref a23)) (H30 : Arh Z h0 a23 c26 .int 32 [(p19, (.int p27)), (p20, (.int p21))] [] (.int 0)) (hp24 : ¬ ((oH (p10 + 1)) = p19)) (hp25 : (oH (p10 + 1)) = p20) (hp37 : p21 = (p10 + 1)) (E38 : Exa Z h0 a13 own_s1) (hp39 : ¬ (p21 = 0)) (F40 : Fld Z h0 a13 own_s1 "indices" "[I" (.ref a28)) (H41 : Arh Z h0 a28 c31 .int 32 [(p19, (.int p32)), (p20, (.int p22)), (p33, (.int p34))] [] (.int 0)) :
    own_Con l Z own_y0 prog_7_method_2_code 3 (some .int) ({ frames := 2, cells := 0, slots := 0, locals := 29 } : Room) #[(.ref a13), (.ref a16)] h0 (own_QP (some (.int p22)) h0) := by
 refine MetFree.of_bodySF (plainFor_of_name own_pn8) hisR ?_
 intro p e s m args below meth c s₁ Bd hml0 hP hK
 obtain ⟨rfl, hZ, hh⟩ := hP
 have hx := Bd.exec
 have hby := Bd.bytes
 have hml : c.maxLocals = 3 := hml0
 have hown : s.vm.findClass own_s1 = some m.cls := findClass_of_methodNamed Bd.named
 have hnm := (name_of_methodNamed Bd.named Bd.method).1
 have X0 : Stand p l e ({ frames := 2, cells := 0, slots := 0, locals := 29 } : Room) s m #[(.ref a13), (.ref a16)] below meth c s₁ [] 0 0 := Stand.of_body Bd
 have e0 : s₁.heap = h0 := by rw [← hh, Bd.state]; rfl
 have K0 : own_Kp h0 h0 [] [] := own_kpRefl _ _
 show own_Go p e below (own_K s (own_QP (some (.int p22)) h0) 0 0) s₁ (entryFrame m #[(.ref a13), (.ref a16)] 3)
 rw [own_ef950]
 let l1 : Array Slot := #[.val (.ref a13), .val (.ref a16), .unset]
 obtain ⟨_, T17, L17, X17, ⟨rfl, rfl, e17⟩, st17⟩ := own_cv X0 hx hZ hown (own_w475 hw) hml (g := (mkF m 2 l1 [(.ref a16), (.ref a13)])) (hb hby d22_2) e0 E36 [] [(.ref a13)] (lenOf own_pd5 rfl) (rm462 l Z a0 hw h0 a16 p10 F35)
 obtain ⟨_, T18, L18, X18, ⟨rfl, rfl, e18⟩, st18⟩ := own_cp X17 hx hZ hown (own_w499 hw) hml (g := (mkF m 7 l1 [(.int (p10 + 1)), (.ref a13)])) (hb hby d22_7) e17 E38 [(.int (p10 + 1))] [] (lenOf own_pd13 rfl) (rm1225 l Z a0 hw h0 a13 (p10 + 1) a23 c26 p19 p27 p20 p21 F29 H30 hp24 hp25 hp37)
 let l2 : Array Slot := #[.val (.ref a13), .val (.ref a16), .val (.int (oH (p10 + 1)))]
 obtain ⟨T14, X14, e14, st14⟩ := own_gF X18 hx hZ hown hby (own_wd hw 148 rfl) e18 F29 d22_12 l2 []
 obtain ⟨cl11, Ar11, q11, S11, N11, H11, G11⟩ := id H30
 have hin11 := inb_of S11 ⟨(own_hlo (p10 + 1)), (own_hhi (p10 + 1))⟩
 have hat11 := atH H11 hin11 (getH_miss (own_hlo (p10 + 1)) hp24 (getH_hit (own_hlo (p10 + 1)) hp25))
 obtain ⟨T15, X15, e15, st15⟩ := own_gF X14 hx hZ hown hby (own_wd hw 150 rfl) e14 F40 d22_25 l2 []
 obtain ⟨cl12, Ar12, q12, S12, N12, H12, G12⟩ := id H41
 have hin12 := inb_of S12 ⟨(own_hlo (p10 + 1)), (own_hhi (p10 + 1))⟩
 have hat12 := atH H12 hin12 (getH_miss (own_hlo (p10 + 1)) hp24 (getH_hit (own_hlo (p10 + 1)) hp25))
 refine own_go (T2 := T15) (g2 := (mkF m 30 l2 [(.int p22)])) (fun t k => z_aloadN X0 hx hby d22_0 rfl rfl (z_aloadN X0 hx hby d22_1 rfl rfl (st17 _ (z_iconst X17 hx hby d22_5 (z_iadd X17 hx hby d22_6 (st18 _ (z_istoreN X18 hx hby d22_10 l2 rfl (z_aloadN X18 hx hby d22_11 rfl rfl (st14 _ (z_iloadN X14 hx hby d22_15 rfl (own_ial X14 hx hZ e14 Ar11 hin11 hat11 rfl rfl (hb hby d22_16) (z_ifYes X14 hx hby 24 d22_17 ((if0 _ _).trans (feq hp39).2) rfl (z_aloadN X14 hx hby d22_24 rfl rfl (st15 _ (z_iloadN X15 hx hby d22_28 rfl (own_ial X15 hx hZ e15 Ar12 hin12 hat12 rfl rfl (hb hby d22_29) k)))))))))))))))) ?_
 exact own_endI X15 hx Bd.notSynchronized Bd.returns (hb hby d22_30) (by decide) (by decide) ⟨rfl, rfl, e15⟩
theorem ar5244 (x0 x1 : Int32) (h0 : ¬ (x0 < 0)) (h1 : x0 < 32) (h2 : ¬ (x1 < 0)) (h3 : x1 < 32) (h4 : ¬ (x1 = x0)) : ¬ (((x0 + 1) &&& 31) = ((x1 + 1) &&& 31)) := by
  have f3 := rng32 x0
  have f4 : (1 : Int32).toInt = 1 := by decide
  have f2r := rng32 (x0 + 1)
  have f2 := c_iadd x0 (1 : Int32)
  have f5 : (31 : Int32).toInt = 31 := by decide
  have f1r := rng32 ((x0 + 1) &&& 31)
  have f1 : ((x0 + 1) &&& 31).toInt = (x0 + 1).toInt % 32 := c_mask (x0 + 1) (31 : Int32) 5 (by decide) (by decide)
  have f8 := rng32 x1
  have f7r := rng32 (x1 + 1)
  have f7 := c_iadd x1 (1 : Int32)
  have f6r := rng32 ((x1 + 1) &&& 31)
  have f6 : ((x1 + 1) &&& 31).toInt = (x1 + 1).toInt % 32 := c_mask (x1 + 1) (31 : Int32) 5 (by decide) (by decide)
  have f9 : (0 : Int32).toInt = 0 := by decide
  have f10 : (32 : Int32).toInt = 32 := by decide
  have g0 := mt Int32.lt_iff_toInt_lt.mpr h0
  have g1 := Int32.lt_iff_toInt_lt.mp h1
  have g2 := mt Int32.lt_iff_toInt_lt.mpr h2
  have g3 := Int32.lt_iff_toInt_lt.mp h3
  have g4 := mt Int32.toInt_inj.mp h4
  exact fun q => absurd (Int32.toInt_inj.mpr q) (by omega)
set_option maxRecDepth 65536 in
set_option maxHeartbeats 40000000 in
theorem rm5358 (l : Launch) (Z : State) (a0 : Array Value) (hw : ∀ d ∈ tables_1, d.before a0 Z = true) (h0 : Heap) (a13 a16 : Addr) (p10 : Int32) (a22 : Addr) (c25 : ClassId) (p19 p20 : Int32) (p23 p26 : Int32) (a27 : Addr) (c31 : ClassId) (p28 p32 : Int32) (p21 p33 : Int32) (F34 : Fld Z h0 a16 own_s0 "id" "I" (.int p10)) (E35 : Exa Z h0 a16 own_s0) (F29 : Fld Z h0 a13 own_s1 "slots" "[I" (.ref a22)) (H30 : Arh Z h0 a22 c25 .int 32 [(p19, (.int p20)), (p23, (.int p26))] [] (.int 0)) (hp24 : (oH (p10 + 1)) = p19) (hp36 : p20 = (p10 + 1)) (E37 : Exa Z h0 a13 own_s1) (hp38 : ¬ (p20 = 0)) (F39 : Fld Z h0 a13 own_s1 "indices" "[I" (.ref a27)) (H40 : Arh Z h0 a27 c31 .int 32 [(p28, (.int p32)), (p19, (.int p21)), (p23, (.int p33))] [] (.int 0)) (hp41 : ¬ ((oH (p10 + 1)) = p28)) :
    own_Con l Z own_y0 prog_7_method_2_code 3 (some .int) ({ frames := 2, cells := 0, slots := 0, locals := 29 } : Room) #[(.ref a13), (.ref a16)] h0 (own_QP (some (.int p21)) h0) := by
 refine MetFree.of_bodySF (plainFor_of_name own_pn8) hisR ?_
 intro p e s m args below meth c s₁ Bd hml0 hP hK
 obtain ⟨rfl, hZ, hh⟩ := hP
 have hx := Bd.exec
 have hby := Bd.bytes
 have hml : c.maxLocals = 3 := hml0
 have hown : s.vm.findClass own_s1 = some m.cls := findClass_of_methodNamed Bd.named
 have hnm := (name_of_methodNamed Bd.named Bd.method).1
 have X0 : Stand p l e ({ frames := 2, cells := 0, slots := 0, locals := 29 } : Room) s m #[(.ref a13), (.ref a16)] below meth c s₁ [] 0 0 := Stand.of_body Bd
 have e0 : s₁.heap = h0 := by rw [← hh, Bd.state]; rfl
 have K0 : own_Kp h0 h0 [] [] := own_kpRefl _ _
 show own_Go p e below (own_K s (own_QP (some (.int p21)) h0) 0 0) s₁ (entryFrame m #[(.ref a13), (.ref a16)] 3)
 rw [own_ef950]
 let l1 : Array Slot := #[.val (.ref a13), .val (.ref a16), .unset]
 obtain ⟨_, T17, L17, X17, ⟨rfl, rfl, e17⟩, st17⟩ := own_cv X0 hx hZ hown (own_w475 hw) hml (g := (mkF m 2 l1 [(.ref a16), (.ref a13)])) (hb hby d22_2) e0 E35 [] [(.ref a13)] (lenOf own_pd5 rfl) (rm462 l Z a0 hw h0 a16 p10 F34)
 obtain ⟨_, T18, L18, X18, ⟨rfl, rfl, e18⟩, st18⟩ := own_cp X17 hx hZ hown (own_w499 hw) hml (g := (mkF m 7 l1 [(.int (p10 + 1)), (.ref a13)])) (hb hby d22_7) e17 E37 [(.int (p10 + 1))] [] (lenOf own_pd13 rfl) (rm1116 l Z a0 hw h0 a13 (p10 + 1) a22 c25 p19 p20 p23 p26 F29 H30 hp24 hp36)
 let l2 : Array Slot := #[.val (.ref a13), .val (.ref a16), .val (.int (oH (p10 + 1)))]
 obtain ⟨T14, X14, e14, st14⟩ := own_gF X18 hx hZ hown hby (own_wd hw 148 rfl) e18 F29 d22_12 l2 []
 obtain ⟨cl11, Ar11, q11, S11, N11, H11, G11⟩ := id H30
 have hin11 := inb_of S11 ⟨(own_hlo (p10 + 1)), (own_hhi (p10 + 1))⟩
 have hat11 := atH H11 hin11 (getH_hit (own_hlo (p10 + 1)) hp24)
 obtain ⟨T15, X15, e15, st15⟩ := own_gF X14 hx hZ hown hby (own_wd hw 150 rfl) e14 F39 d22_25 l2 []
 obtain ⟨cl12, Ar12, q12, S12, N12, H12, G12⟩ := id H40
 have hin12 := inb_of S12 ⟨(own_hlo (p10 + 1)), (own_hhi (p10 + 1))⟩
 have hat12 := atH H12 hin12 (getH_miss (own_hlo (p10 + 1)) hp41 (getH_hit (own_hlo (p10 + 1)) hp24))
 refine own_go (T2 := T15) (g2 := (mkF m 30 l2 [(.int p21)])) (fun t k => z_aloadN X0 hx hby d22_0 rfl rfl (z_aloadN X0 hx hby d22_1 rfl rfl (st17 _ (z_iconst X17 hx hby d22_5 (z_iadd X17 hx hby d22_6 (st18 _ (z_istoreN X18 hx hby d22_10 l2 rfl (z_aloadN X18 hx hby d22_11 rfl rfl (st14 _ (z_iloadN X14 hx hby d22_15 rfl (own_ial X14 hx hZ e14 Ar11 hin11 hat11 rfl rfl (hb hby d22_16) (z_ifYes X14 hx hby 24 d22_17 ((if0 _ _).trans (feq hp38).2) rfl (z_aloadN X14 hx hby d22_24 rfl rfl (st15 _ (z_iloadN X15 hx hby d22_28 rfl (own_ial X15 hx hZ e15 Ar12 hin12 hat12 rfl rfl (hb hby d22_29) k)))))))))))))))) ?_
 exact own_endI X15 hx Bd.notSynchronized Bd.returns (hb hby d22_30) (by decide) (by decide) ⟨rfl, rfl, e15⟩
set_option maxRecDepth 65536 in
set_option maxHeartbeats 40000000 in
theorem rm5480 (l : Launch) (Z : State) (a0 : Array Value) (hw : ∀ d ∈ tables_1, d.before a0 Z = true) (h0 : Heap) (a13 a16 : Addr) (p10 : Int32) (a24 : Addr) (c26 : ClassId) (p19 p20 : Int32) (p21 p22 : Int32) (a27 : Addr) (c32 : ClassId) (p28 p33 : Int32) (p34 p23 : Int32) (F35 : Fld Z h0 a16 own_s0 "id" "I" (.int p10)) (E36 : Exa Z h0 a16 own_s0) (F29 : Fld Z h0 a13 own_s1 "slots" "[I" (.ref a24)) (H30 : Arh Z h0 a24 c26 .int 32 [(p19, (.int p20)), (p21, (.int p22))] [] (.int 0)) (hp37 : (oH (p10 + 1)) = p19) (hp38 : ¬ (p20 = (p10 + 1))) (hp39 : ¬ (p20 = 0)) (hp25 : (oN (oH (p10 + 1))) = p21) (hp40 : p22 = (p10 + 1)) (E41 : Exa Z h0 a13 own_s1) (hp31 : ¬ ((oN (oH (p10 + 1))) = p19)) (hp42 : ¬ (p22 = 0)) (F43 : Fld Z h0 a13 own_s1 "indices" "[I" (.ref a27)) (H44 : Arh Z h0 a27 c32 .int 32 [(p28, (.int p33)), (p19, (.int p34)), (p21, (.int p23))] [] (.int 0)) (hp45 : ¬ ((oN (oH (p10 + 1))) = p28)) :
    own_Con l Z own_y0 prog_7_method_2_code 3 (some .int) ({ frames := 2, cells := 0, slots := 0, locals := 29 } : Room) #[(.ref a13), (.ref a16)] h0 (own_QP (some (.int p23)) h0) := by
 refine MetFree.of_bodySF (plainFor_of_name own_pn8) hisR ?_
 intro p e s m args below meth c s₁ Bd hml0 hP hK
 obtain ⟨rfl, hZ, hh⟩ := hP
 have hx := Bd.exec
 have hby := Bd.bytes
 have hml : c.maxLocals = 3 := hml0
 have hown : s.vm.findClass own_s1 = some m.cls := findClass_of_methodNamed Bd.named
 have hnm := (name_of_methodNamed Bd.named Bd.method).1
 have X0 : Stand p l e ({ frames := 2, cells := 0, slots := 0, locals := 29 } : Room) s m #[(.ref a13), (.ref a16)] below meth c s₁ [] 0 0 := Stand.of_body Bd
 have e0 : s₁.heap = h0 := by rw [← hh, Bd.state]; rfl
 have K0 : own_Kp h0 h0 [] [] := own_kpRefl _ _
 show own_Go p e below (own_K s (own_QP (some (.int p23)) h0) 0 0) s₁ (entryFrame m #[(.ref a13), (.ref a16)] 3)
 rw [own_ef950]
 let l1 : Array Slot := #[.val (.ref a13), .val (.ref a16), .unset]
 obtain ⟨_, T17, L17, X17, ⟨rfl, rfl, e17⟩, st17⟩ := own_cv X0 hx hZ hown (own_w475 hw) hml (g := (mkF m 2 l1 [(.ref a16), (.ref a13)])) (hb hby d22_2) e0 E36 [] [(.ref a13)] (lenOf own_pd5 rfl) (rm462 l Z a0 hw h0 a16 p10 F35)
 obtain ⟨_, T18, L18, X18, ⟨rfl, rfl, e18⟩, st18⟩ := own_cp X17 hx hZ hown (own_w499 hw) hml (g := (mkF m 7 l1 [(.int (p10 + 1)), (.ref a13)])) (hb hby d22_7) e17 E41 [(.int (p10 + 1))] [] (lenOf own_pd13 rfl) (rm1734 l Z a0 hw h0 a13 (p10 + 1) a24 c26 p19 p20 p21 p22 F29 H30 hp37 hp38 hp39 hp25 hp40)
 let l2 : Array Slot := #[.val (.ref a13), .val (.ref a16), .val (.int (oN (oH (p10 + 1))))]
 obtain ⟨T14, X14, e14, st14⟩ := own_gF X18 hx hZ hown hby (own_wd hw 148 rfl) e18 F29 d22_12 l2 []
 obtain ⟨cl11, Ar11, q11, S11, N11, H11, G11⟩ := id H30
 have hin11 := inb_of S11 ⟨(ar622 (oH (p10 + 1)) ), (ar623 (oH (p10 + 1)) )⟩
 have hat11 := atH H11 hin11 (getH_miss (ar622 (oH (p10 + 1)) ) hp31 (getH_hit (ar622 (oH (p10 + 1)) ) hp25))
 obtain ⟨T15, X15, e15, st15⟩ := own_gF X14 hx hZ hown hby (own_wd hw 150 rfl) e14 F43 d22_25 l2 []
 obtain ⟨cl12, Ar12, q12, S12, N12, H12, G12⟩ := id H44
 have hin12 := inb_of S12 ⟨(ar622 (oH (p10 + 1)) ), (ar623 (oH (p10 + 1)) )⟩
 have hat12 := atH H12 hin12 (getH_miss (ar622 (oH (p10 + 1)) ) hp45 (getH_miss (ar622 (oH (p10 + 1)) ) hp31 (getH_hit (ar622 (oH (p10 + 1)) ) hp25)))
 refine own_go (T2 := T15) (g2 := (mkF m 30 l2 [(.int p23)])) (fun t k => z_aloadN X0 hx hby d22_0 rfl rfl (z_aloadN X0 hx hby d22_1 rfl rfl (st17 _ (z_iconst X17 hx hby d22_5 (z_iadd X17 hx hby d22_6 (st18 _ (z_istoreN X18 hx hby d22_10 l2 rfl (z_aloadN X18 hx hby d22_11 rfl rfl (st14 _ (z_iloadN X14 hx hby d22_15 rfl (own_ial X14 hx hZ e14 Ar11 hin11 hat11 rfl rfl (hb hby d22_16) (z_ifYes X14 hx hby 24 d22_17 ((if0 _ _).trans (feq hp42).2) rfl (z_aloadN X14 hx hby d22_24 rfl rfl (st15 _ (z_iloadN X15 hx hby d22_28 rfl (own_ial X15 hx hZ e15 Ar12 hin12 hat12 rfl rfl (hb hby d22_29) k)))))))))))))))) ?_
 exact own_endI X15 hx Bd.notSynchronized Bd.returns (hb hby d22_30) (by decide) (by decide) ⟨rfl, rfl, e15⟩
theorem ar5675 (x0 x1 : Int32) (h0 : ¬ (((x1 + 1) &&& 31) = x0)) : ¬ (x0 = ((x1 + 1) &&& 31)) := by
  have f1 := rng32 x0
  have f4 := rng32 x1
  have f5 : (1 : Int32).toInt = 1 := by decide
  have f3r := rng32 (x1 + 1)
  have f3 := c_iadd x1 (1 : Int32)
  have f6 : (31 : Int32).toInt = 31 := by decide
  have f2r := rng32 ((x1 + 1) &&& 31)
  have f2 : ((x1 + 1) &&& 31).toInt = (x1 + 1).toInt % 32 := c_mask (x1 + 1) (31 : Int32) 5 (by decide) (by decide)
  have g0 := mt Int32.toInt_inj.mp h0
  exact fun q => absurd (Int32.toInt_inj.mpr q) (by omega)
def own_Q6678 (Z : State) (h0 : Heap) (a6679 : Addr) (a6680 : Addr) (p6681 : Int32) (a6684 : Addr) (c6687 : ClassId) (p6688 : Int32) (p6689 : Int32) (p6690 : Int32) (p6691 : Int32) (p6701 : Int32) (a6729 : Addr) (c6734 : ClassId) (p6735 : Int32) (p6736 : Int32) (v : Option Value) (h : Heap) (L : List Loc) : Prop := v = none ∧ own_Kp h0 h [a6684, a6729, a6679] L ∧ Arh Z h a6684 c6687 .int 32 [((((oH (p6701 + 1)) + 1) &&& 31), (.int (p6701 + 1))), (p6688, (.int p6689)), (p6690, (.int p6691))] [] (.int 0) ∧ Arh Z h a6729 c6734 .int 32 [((((oH (p6701 + 1)) + 1) &&& 31), (.int p6681)), (p6688, (.int p6735)), (p6690, (.int p6736))] [] (.int 0) ∧ Fld Z h a6679 own_s1 "size" "I" (.int 3) ∧ Fld Z h a6679 own_s1 "slots" "[I" (.ref a6684) ∧ Fld Z h a6679 own_s1 "indices" "[I" (.ref a6729)
set_option maxRecDepth 65536 in
set_option maxHeartbeats 40000000 in
theorem rm6678 (l : Launch) (Z : State) (a0 : Array Value) (hw : ∀ d ∈ tables_1, d.before a0 Z = true) (h0 : Heap) (a14 a15 : Addr) (p19 : Int32) (a20 : Addr) (c30 : ClassId) (p27 p31 : Int32) (p28 p29 p12 : Int32) (a23 : Addr) (c35 : ClassId) (p36 p37 : Int32) (F40 : Fld Z h0 a14 own_s1 "size" "I" (.int 2)) (F32 : Fld Z h0 a14 own_s1 "slots" "[I" (.ref a20)) (H38 : Arh Z h0 a20 c30 .int 32 [(p27, (.int p31)), (p28, (.int p29))] [] (.int 0)) (F44 : Fld Z h0 a15 own_s0 "id" "I" (.int p12)) (E45 : Exa Z h0 a15 own_s0) (hp46 : ¬ ((oH (p12 + 1)) = p27)) (hp47 : (oH (p12 + 1)) = p28) (hp48 : ¬ (p29 = (p12 + 1))) (hp49 : ¬ (p29 = 0)) (hp50 : ¬ ((oN (oH (p12 + 1))) = p27)) (hp51 : ¬ ((0 : Int32) = (p12 + 1))) (E41 : Exa Z h0 a14 own_s1) (F52 : Fld Z h0 a14 own_s1 "indices" "[I" (.ref a23)) (ne33 : a14 ≠ a20) (H53 : Arh Z h0 a23 c35 .int 32 [(p27, (.int p36)), (p28, (.int p37))] [] (.int 0)) (ne42 : a23 ≠ a20) (ne34 : a14 ≠ a23) :
    own_Con l Z own_y3 prog_7_method_3_code 5 none ({ frames := 2, cells := 0, slots := 0, locals := 29 } : Room) #[(.ref a14), (.ref a15), (.int p19)] h0 (own_Q6678 Z h0 a14 a15 p19 a20 c30 p27 p31 p28 p29 p12 a23 c35 p36 p37) := by
 refine MetFree.of_bodySF (plainFor_of_name own_pn8) hisR ?_
 intro p e s m args below meth c s₁ Bd hml0 hP hK
 obtain ⟨rfl, hZ, hh⟩ := hP
 have hx := Bd.exec
 have hby := Bd.bytes
 have hml : c.maxLocals = 5 := hml0
 have hown : s.vm.findClass own_s1 = some m.cls := findClass_of_methodNamed Bd.named
 have hnm := (name_of_methodNamed Bd.named Bd.method).1
 have X0 : Stand p l e ({ frames := 2, cells := 0, slots := 0, locals := 29 } : Room) s m #[(.ref a14), (.ref a15), (.int p19)] below meth c s₁ [] 0 0 := Stand.of_body Bd
 have e0 : s₁.heap = h0 := by rw [← hh, Bd.state]; rfl
 have K0 : own_Kp h0 h0 [a20, a23, a14] [] := own_kpRefl _ _
 show own_Go p e below (own_K s (own_Q6678 Z h0 a14 a15 p19 a20 c30 p27 p31 p28 p29 p12 a23 c35 p36 p37) 0 0) s₁ (entryFrame m #[(.ref a14), (.ref a15), (.int p19)] 5)
 rw [own_ef449]
 let l1 : Array Slot := #[.val (.ref a14), .val (.ref a15), .val (.int p19), .unset, .unset]
 obtain ⟨T17, X17, e17, st17⟩ := own_gF X0 hx hZ hown hby (own_wd hw 157 rfl) e0 F40 d17_2 l1 [(.int 2)]
 obtain ⟨T18, X18, e18, st18⟩ := own_gF X17 hx hZ hown hby (own_wd hw 148 rfl) e17 F32 d17_9 l1 [(.int 6)]
 obtain ⟨cl21, Ar21, q21, S21, N21, H21, G21⟩ := id H38
 obtain ⟨_, T16, L16, X16, ⟨rfl, rfl, e16⟩, st16⟩ := own_cv X18 hx hZ hown (own_w475 hw) hml (g := (mkF m 21 l1 [(.ref a15)])) (hb hby d17_21) e18 E45 [] [] (lenOf own_pd5 rfl) (rm462 l Z a0 hw h0 a15 p12 F44)
 let l2 : Array Slot := #[.val (.ref a14), .val (.ref a15), .val (.int p19), .val (.int (p12 + 1)), .unset]
 obtain ⟨_, T22, L22, X22, ⟨rfl, rfl, e22⟩, st22⟩ := own_cp X16 hx hZ hown (own_w499 hw) hml (g := (mkF m 29 l2 [(.int (p12 + 1)), (.ref a14)])) (hb hby d17_29) e16 E41 [(.int (p12 + 1))] [] (lenOf own_pd13 rfl) (rm1897 l Z a0 hw h0 a14 (p12 + 1) a20 c30 p27 p31 p28 p29 F32 H38 hp46 hp47 hp48 hp49 hp50 hp51)
 let l3 : Array Slot := #[.val (.ref a14), .val (.ref a15), .val (.int p19), .val (.int (p12 + 1)), .val (.int (oN (oH (p12 + 1))))]
 obtain ⟨T24, X24, e24, st24⟩ := own_gF X22 hx hZ hown hby (own_wd hw 148 rfl) e22 F32 d17_35 l3 []
 obtain ⟨cl11, Ar11, q11, S11, N11, H11, G11⟩ := id H38
 have hin11 := inb_of S11 ⟨(ar622 (oH (p12 + 1)) ), (ar623 (oH (p12 + 1)) )⟩
 obtain ⟨T11, h11, X11, e11, W11, st11⟩ := stI X24 hx hZ e24 Ar11 (j := (oN (oH (p12 + 1)))) hin11 (g := (mkF m 41 l3 [(.int (p12 + 1)), (.int (oN (oH (p12 + 1)))), (.ref a20)])) rfl rfl (hb hby d17_41)
 have V11 := Arh.push Ar11 q11 S11 N11 H11 G11 rfl W11 hin11
 have K11 := own_kpWr K0 W11 (Or.inl (List.mem_of_getElem? (i := 0) rfl))
 have z_W11 := Nat.le_of_eq W11.size.symm
 have F43 := (Fld.other W11 F52 (Or.inl ne33))
 obtain ⟨T25, X25, e25, st25⟩ := own_gF X11 hx hZ hown hby (own_wd hw 150 rfl) e11 F43 d17_43 l3 []
 have H54 := (Arh.other H53 W11 ne42)
 obtain ⟨cl10, Ar10, q10, S10, N10, H10, G10⟩ := id H54
 have hin10 := inb_of S10 ⟨(ar622 (oH (p12 + 1)) ), (ar623 (oH (p12 + 1)) )⟩
 obtain ⟨T10, h10, X10, e10, W10, st10⟩ := stI X25 hx hZ e25 Ar10 (j := (oN (oH (p12 + 1)))) hin10 (g := (mkF m 49 l3 [(.int p19), (.int (oN (oH (p12 + 1)))), (.ref a23)])) rfl rfl (hb hby d17_49)
 have V10 := Arh.push Ar10 q10 S10 N10 H10 G10 rfl W10 hin10
 have K10 := own_kpWr K11 W10 (Or.inl (List.mem_of_getElem? (i := 1) rfl))
 have z_W10 := Nat.le_of_eq W10.size.symm
 have F39 := (Fld.other W10 (Fld.other W11 F40 (Or.inl ne33)) (Or.inl ne34))
 obtain ⟨T26, X26, e26, st26⟩ := own_gF X10 hx hZ hown hby (own_wd hw 157 rfl) e10 F39 d17_52 l3 [(.ref a14)]
 have E55 := (Exa.wr W10 (Exa.wr W11 E41))
 obtain ⟨T13, h13, X13, e13, W13, st13⟩ := putF X26 hx hZ hown (host := "") (Or.inl (own_wd hw 157 rfl)) Via.refl e26 F39 E55 (Or.inl (own_wd hw 158 rfl)) (own_wd hw 141 rfl) (ty := .int) (by decide) rfl rfl (g := (mkF m 57 l3 [(.int 3), (.ref a14)])) rfl rfl (hb hby d17_57)
 have F13 := Fld.same W13 F39
 have K13 := own_kpWr K10 W13 (Or.inl (List.mem_of_getElem? (i := 2) rfl))
 have z_W13 := Nat.le_of_eq W13.size.symm
 have H56 := (Arh.other (Arh.other V11 W10 (Ne.symm ne42)) W13 (Ne.symm ne33))
 have H57 := (Arh.other V10 W13 (Ne.symm ne34))
 have F58 := (Fld.other W13 (Fld.other W10 (Fld.other W11 F32 (Or.inl ne33)) (Or.inl ne34)) (Or.inr (slot_ne (Or.inl (own_wd hw 149 rfl)) (Or.inl (own_wd hw 158 rfl)) (by decide) (t := (.array .int)) (t' := .int) (by decide) (by decide))))
 have F59 := (Fld.other W13 (Fld.other W10 F43 (Or.inl ne34)) (Or.inr (slot_ne (Or.inl (own_wd hw 151 rfl)) (Or.inl (own_wd hw 158 rfl)) (by decide) (t := (.array .int)) (t' := .int) (by decide) (by decide))))
 refine own_go (T2 := T13) (g2 := (mkF m 60 l3 [])) (fun t k => z_iconst X0 hx hby d17_0 (z_aloadN X0 hx hby d17_1 rfl rfl (st17 _ (z_iconst X17 hx hby d17_5 (z_iadd X17 hx hby d17_6 (XS.imul X17.here hx rfl (hb hby d17_7) rfl (z_aloadN X17 hx hby d17_8 rfl rfl (st18 _ (own_alen X18 hx hZ e18 Ar21 S21 N21 rfl rfl (hb hby d17_12) (z_icmpYes X18 hx hby 20 d17_13 (flt (show ¬ ((32 : Int32) < 6) from (by decide))).2.2.2 rfl (z_aloadN X18 hx hby d17_20 rfl rfl (st16 _ (z_iconst X16 hx hby d17_24 (z_iadd X16 hx hby d17_25 (z_istoreN X16 hx hby d17_26 l2 rfl (z_aloadN X16 hx hby d17_27 rfl rfl (z_iloadN X16 hx hby d17_28 rfl (st22 _ (z_istore X22 hx hby d17_32 l3 rfl (z_aloadN X22 hx hby d17_34 rfl rfl (st24 _ (z_iload X24 hx hby d17_38 rfl (z_iloadN X24 hx hby d17_40 rfl (st11 _ (z_aloadN X11 hx hby d17_42 rfl rfl (st25 _ (z_iload X25 hx hby d17_46 rfl (z_iloadN X25 hx hby d17_48 rfl (st10 _ (z_aloadN X10 hx hby d17_50 rfl rfl (z_dup X10 hx hby d17_51 rfl (st26 _ (z_iconst X26 hx hby d17_55 (z_iadd X26 hx hby d17_56 (st13 _ k))))))))))))))))))))))))))))))))))) ?_
 exact own_endV X13 hx Bd.notSynchronized Bd.returns (hb hby d17_60) (by decide) (by decide) (by rw [e13]; exact ⟨rfl, (by simpa only [List.append_nil] using K13), H56, H57, F13, F58, F59⟩)
set_option maxRecDepth 65536 in
set_option maxHeartbeats 40000000 in
theorem rm7179 (l : Launch) (Z : State) (a0 : Array Value) (hw : ∀ d ∈ tables_1, d.before a0 Z = true) (h0 : Heap) (a13 a16 : Addr) (p10 : Int32) (a24 : Addr) (c26 : ClassId) (p19 p20 : Int32) (p21 p22 : Int32) (a27 : Addr) (c32 : ClassId) (p33 p28 : Int32) (p34 p23 : Int32) (F35 : Fld Z h0 a16 own_s0 "id" "I" (.int p10)) (E36 : Exa Z h0 a16 own_s0) (F29 : Fld Z h0 a13 own_s1 "slots" "[I" (.ref a24)) (H30 : Arh Z h0 a24 c26 .int 32 [(p19, (.int p20)), (p21, (.int p22))] [] (.int 0)) (hp37 : (oH (p10 + 1)) = p19) (hp38 : ¬ (p20 = (p10 + 1))) (hp39 : ¬ (p20 = 0)) (hp25 : (oN (oH (p10 + 1))) = p21) (hp40 : p22 = (p10 + 1)) (E41 : Exa Z h0 a13 own_s1) (hp31 : ¬ ((oN (oH (p10 + 1))) = p19)) (hp42 : ¬ (p22 = 0)) (F43 : Fld Z h0 a13 own_s1 "indices" "[I" (.ref a27)) (H44 : Arh Z h0 a27 c32 .int 32 [(p19, (.int p33)), (p28, (.int p34)), (p21, (.int p23))] [] (.int 0)) (hp45 : ¬ ((oN (oH (p10 + 1))) = p28)) :
    own_Con l Z own_y0 prog_7_method_2_code 3 (some .int) ({ frames := 2, cells := 0, slots := 0, locals := 29 } : Room) #[(.ref a13), (.ref a16)] h0 (own_QP (some (.int p23)) h0) := by
 refine MetFree.of_bodySF (plainFor_of_name own_pn8) hisR ?_
 intro p e s m args below meth c s₁ Bd hml0 hP hK
 obtain ⟨rfl, hZ, hh⟩ := hP
 have hx := Bd.exec
 have hby := Bd.bytes
 have hml : c.maxLocals = 3 := hml0
 have hown : s.vm.findClass own_s1 = some m.cls := findClass_of_methodNamed Bd.named
 have hnm := (name_of_methodNamed Bd.named Bd.method).1
 have X0 : Stand p l e ({ frames := 2, cells := 0, slots := 0, locals := 29 } : Room) s m #[(.ref a13), (.ref a16)] below meth c s₁ [] 0 0 := Stand.of_body Bd
 have e0 : s₁.heap = h0 := by rw [← hh, Bd.state]; rfl
 have K0 : own_Kp h0 h0 [] [] := own_kpRefl _ _
 show own_Go p e below (own_K s (own_QP (some (.int p23)) h0) 0 0) s₁ (entryFrame m #[(.ref a13), (.ref a16)] 3)
 rw [own_ef950]
 let l1 : Array Slot := #[.val (.ref a13), .val (.ref a16), .unset]
 obtain ⟨_, T17, L17, X17, ⟨rfl, rfl, e17⟩, st17⟩ := own_cv X0 hx hZ hown (own_w475 hw) hml (g := (mkF m 2 l1 [(.ref a16), (.ref a13)])) (hb hby d22_2) e0 E36 [] [(.ref a13)] (lenOf own_pd5 rfl) (rm462 l Z a0 hw h0 a16 p10 F35)
 obtain ⟨_, T18, L18, X18, ⟨rfl, rfl, e18⟩, st18⟩ := own_cp X17 hx hZ hown (own_w499 hw) hml (g := (mkF m 7 l1 [(.int (p10 + 1)), (.ref a13)])) (hb hby d22_7) e17 E41 [(.int (p10 + 1))] [] (lenOf own_pd13 rfl) (rm1734 l Z a0 hw h0 a13 (p10 + 1) a24 c26 p19 p20 p21 p22 F29 H30 hp37 hp38 hp39 hp25 hp40)
 let l2 : Array Slot := #[.val (.ref a13), .val (.ref a16), .val (.int (oN (oH (p10 + 1))))]
 obtain ⟨T14, X14, e14, st14⟩ := own_gF X18 hx hZ hown hby (own_wd hw 148 rfl) e18 F29 d22_12 l2 []
 obtain ⟨cl11, Ar11, q11, S11, N11, H11, G11⟩ := id H30
 have hin11 := inb_of S11 ⟨(ar622 (oH (p10 + 1)) ), (ar623 (oH (p10 + 1)) )⟩
 have hat11 := atH H11 hin11 (getH_miss (ar622 (oH (p10 + 1)) ) hp31 (getH_hit (ar622 (oH (p10 + 1)) ) hp25))
 obtain ⟨T15, X15, e15, st15⟩ := own_gF X14 hx hZ hown hby (own_wd hw 150 rfl) e14 F43 d22_25 l2 []
 obtain ⟨cl12, Ar12, q12, S12, N12, H12, G12⟩ := id H44
 have hin12 := inb_of S12 ⟨(ar622 (oH (p10 + 1)) ), (ar623 (oH (p10 + 1)) )⟩
 have hat12 := atH H12 hin12 (getH_miss (ar622 (oH (p10 + 1)) ) hp31 (getH_miss (ar622 (oH (p10 + 1)) ) hp45 (getH_hit (ar622 (oH (p10 + 1)) ) hp25)))
 refine own_go (T2 := T15) (g2 := (mkF m 30 l2 [(.int p23)])) (fun t k => z_aloadN X0 hx hby d22_0 rfl rfl (z_aloadN X0 hx hby d22_1 rfl rfl (st17 _ (z_iconst X17 hx hby d22_5 (z_iadd X17 hx hby d22_6 (st18 _ (z_istoreN X18 hx hby d22_10 l2 rfl (z_aloadN X18 hx hby d22_11 rfl rfl (st14 _ (z_iloadN X14 hx hby d22_15 rfl (own_ial X14 hx hZ e14 Ar11 hin11 hat11 rfl rfl (hb hby d22_16) (z_ifYes X14 hx hby 24 d22_17 ((if0 _ _).trans (feq hp42).2) rfl (z_aloadN X14 hx hby d22_24 rfl rfl (st15 _ (z_iloadN X15 hx hby d22_28 rfl (own_ial X15 hx hZ e15 Ar12 hin12 hat12 rfl rfl (hb hby d22_29) k)))))))))))))))) ?_
 exact own_endI X15 hx Bd.notSynchronized Bd.returns (hb hby d22_30) (by decide) (by decide) ⟨rfl, rfl, e15⟩
theorem ar7701 (x0 x1 x2 : Int32) (h0 : ¬ (x2 = x1)) (h1 : ((x0 + 1) &&& 31) = x2) : ¬ (((x0 + 1) &&& 31) = x1) := by
  have f3 := rng32 x0
  have f4 : (1 : Int32).toInt = 1 := by decide
  have f2r := rng32 (x0 + 1)
  have f2 := c_iadd x0 (1 : Int32)
  have f5 : (31 : Int32).toInt = 31 := by decide
  have f1r := rng32 ((x0 + 1) &&& 31)
  have f1 : ((x0 + 1) &&& 31).toInt = (x0 + 1).toInt % 32 := c_mask (x0 + 1) (31 : Int32) 5 (by decide) (by decide)
  have f6 := rng32 x1
  have f7 := rng32 x2
  have g0 := mt Int32.toInt_inj.mp h0
  have g1 := Int32.toInt_inj.mpr h1
  exact fun q => absurd (Int32.toInt_inj.mpr q) (by omega)
theorem ar7855 (x0 x1 : Int32) (h0 : ((((x0 + 1) &&& 31) + 1) &&& 31) = x1) : ((((((x0 + 1) &&& 31) + 1) &&& 31) - x1) &&& 31) < ((((((x0 + 1) &&& 31) + 1) &&& 31) - x0) &&& 31) := by
  have f7 := rng32 x0
  have f8 : (1 : Int32).toInt = 1 := by decide
  have f6r := rng32 (x0 + 1)
  have f6 := c_iadd x0 (1 : Int32)
  have f9 : (31 : Int32).toInt = 31 := by decide
  have f5r := rng32 ((x0 + 1) &&& 31)
  have f5 : ((x0 + 1) &&& 31).toInt = (x0 + 1).toInt % 32 := c_mask (x0 + 1) (31 : Int32) 5 (by decide) (by decide)
  have f4r := rng32 (((x0 + 1) &&& 31) + 1)
  have f4 := c_iadd ((x0 + 1) &&& 31) (1 : Int32)
  have f3r := rng32 ((((x0 + 1) &&& 31) + 1) &&& 31)
  have f3 : ((((x0 + 1) &&& 31) + 1) &&& 31).toInt = (((x0 + 1) &&& 31) + 1).toInt % 32 := c_mask (((x0 + 1) &&& 31) + 1) (31 : Int32) 5 (by decide) (by decide)
  have f10 := rng32 x1
  have f2r := rng32 (((((x0 + 1) &&& 31) + 1) &&& 31) - x1)
  have f2 := c_isub ((((x0 + 1) &&& 31) + 1) &&& 31) x1
  have f1r := rng32 ((((((x0 + 1) &&& 31) + 1) &&& 31) - x1) &&& 31)
  have f1 : ((((((x0 + 1) &&& 31) + 1) &&& 31) - x1) &&& 31).toInt = (((((x0 + 1) &&& 31) + 1) &&& 31) - x1).toInt % 32 := c_mask (((((x0 + 1) &&& 31) + 1) &&& 31) - x1) (31 : Int32) 5 (by decide) (by decide)
  have f12r := rng32 (((((x0 + 1) &&& 31) + 1) &&& 31) - x0)
  have f12 := c_isub ((((x0 + 1) &&& 31) + 1) &&& 31) x0
  have f11r := rng32 ((((((x0 + 1) &&& 31) + 1) &&& 31) - x0) &&& 31)
  have f11 : ((((((x0 + 1) &&& 31) + 1) &&& 31) - x0) &&& 31).toInt = (((((x0 + 1) &&& 31) + 1) &&& 31) - x0).toInt % 32 := c_mask (((((x0 + 1) &&& 31) + 1) &&& 31) - x0) (31 : Int32) 5 (by decide) (by decide)
  have g0 := Int32.toInt_inj.mpr h0
  exact Int32.lt_iff_toInt_lt.mpr (by omega)
set_option maxRecDepth 65536 in
set_option maxHeartbeats 40000000 in
theorem rm7965 (l : Launch) (Z : State) (a0 : Array Value) (hw : ∀ d ∈ tables_1, d.before a0 Z = true) (h0 : Heap) (a13 a16 : Addr) (p10 : Int32) (a23 : Addr) (c26 : ClassId) (p19 p27 : Int32) (p20 p21 : Int32) (a28 : Addr) (c32 : ClassId) (p29 p33 : Int32) (p34 p22 : Int32) (F35 : Fld Z h0 a16 own_s0 "id" "I" (.int p10)) (E36 : Exa Z h0 a16 own_s0) (F30 : Fld Z h0 a13 own_s1 "slots" "[I" (.ref a23)) (H31 : Arh Z h0 a23 c26 .int 32 [(p19, (.int p27)), (p20, (.int p21))] [] (.int 0)) (hp24 : ¬ ((oH (p10 + 1)) = p19)) (hp25 : (oH (p10 + 1)) = p20) (hp37 : p21 = (p10 + 1)) (E38 : Exa Z h0 a13 own_s1) (hp39 : ¬ (p21 = 0)) (F40 : Fld Z h0 a13 own_s1 "indices" "[I" (.ref a28)) (H41 : Arh Z h0 a28 c32 .int 32 [(p29, (.int p33)), (p19, (.int p34)), (p20, (.int p22))] [] (.int 0)) (hp42 : ¬ ((oH (p10 + 1)) = p29)) :
    own_Con l Z own_y0 prog_7_method_2_code 3 (some .int) ({ frames := 2, cells := 0, slots := 0, locals := 29 } : Room) #[(.ref a13), (.ref a16)] h0 (own_QP (some (.int p22)) h0) := by
 refine MetFree.of_bodySF (plainFor_of_name own_pn8) hisR ?_
 intro p e s m args below meth c s₁ Bd hml0 hP hK
 obtain ⟨rfl, hZ, hh⟩ := hP
 have hx := Bd.exec
 have hby := Bd.bytes
 have hml : c.maxLocals = 3 := hml0
 have hown : s.vm.findClass own_s1 = some m.cls := findClass_of_methodNamed Bd.named
 have hnm := (name_of_methodNamed Bd.named Bd.method).1
 have X0 : Stand p l e ({ frames := 2, cells := 0, slots := 0, locals := 29 } : Room) s m #[(.ref a13), (.ref a16)] below meth c s₁ [] 0 0 := Stand.of_body Bd
 have e0 : s₁.heap = h0 := by rw [← hh, Bd.state]; rfl
 have K0 : own_Kp h0 h0 [] [] := own_kpRefl _ _
 show own_Go p e below (own_K s (own_QP (some (.int p22)) h0) 0 0) s₁ (entryFrame m #[(.ref a13), (.ref a16)] 3)
 rw [own_ef950]
 let l1 : Array Slot := #[.val (.ref a13), .val (.ref a16), .unset]
 obtain ⟨_, T17, L17, X17, ⟨rfl, rfl, e17⟩, st17⟩ := own_cv X0 hx hZ hown (own_w475 hw) hml (g := (mkF m 2 l1 [(.ref a16), (.ref a13)])) (hb hby d22_2) e0 E36 [] [(.ref a13)] (lenOf own_pd5 rfl) (rm462 l Z a0 hw h0 a16 p10 F35)
 obtain ⟨_, T18, L18, X18, ⟨rfl, rfl, e18⟩, st18⟩ := own_cp X17 hx hZ hown (own_w499 hw) hml (g := (mkF m 7 l1 [(.int (p10 + 1)), (.ref a13)])) (hb hby d22_7) e17 E38 [(.int (p10 + 1))] [] (lenOf own_pd13 rfl) (rm1225 l Z a0 hw h0 a13 (p10 + 1) a23 c26 p19 p27 p20 p21 F30 H31 hp24 hp25 hp37)
 let l2 : Array Slot := #[.val (.ref a13), .val (.ref a16), .val (.int (oH (p10 + 1)))]
 obtain ⟨T14, X14, e14, st14⟩ := own_gF X18 hx hZ hown hby (own_wd hw 148 rfl) e18 F30 d22_12 l2 []
 obtain ⟨cl11, Ar11, q11, S11, N11, H11, G11⟩ := id H31
 have hin11 := inb_of S11 ⟨(own_hlo (p10 + 1)), (own_hhi (p10 + 1))⟩
 have hat11 := atH H11 hin11 (getH_miss (own_hlo (p10 + 1)) hp24 (getH_hit (own_hlo (p10 + 1)) hp25))
 obtain ⟨T15, X15, e15, st15⟩ := own_gF X14 hx hZ hown hby (own_wd hw 150 rfl) e14 F40 d22_25 l2 []
 obtain ⟨cl12, Ar12, q12, S12, N12, H12, G12⟩ := id H41
 have hin12 := inb_of S12 ⟨(own_hlo (p10 + 1)), (own_hhi (p10 + 1))⟩
 have hat12 := atH H12 hin12 (getH_miss (own_hlo (p10 + 1)) hp42 (getH_miss (own_hlo (p10 + 1)) hp24 (getH_hit (own_hlo (p10 + 1)) hp25)))
 refine own_go (T2 := T15) (g2 := (mkF m 30 l2 [(.int p22)])) (fun t k => z_aloadN X0 hx hby d22_0 rfl rfl (z_aloadN X0 hx hby d22_1 rfl rfl (st17 _ (z_iconst X17 hx hby d22_5 (z_iadd X17 hx hby d22_6 (st18 _ (z_istoreN X18 hx hby d22_10 l2 rfl (z_aloadN X18 hx hby d22_11 rfl rfl (st14 _ (z_iloadN X14 hx hby d22_15 rfl (own_ial X14 hx hZ e14 Ar11 hin11 hat11 rfl rfl (hb hby d22_16) (z_ifYes X14 hx hby 24 d22_17 ((if0 _ _).trans (feq hp39).2) rfl (z_aloadN X14 hx hby d22_24 rfl rfl (st15 _ (z_iloadN X15 hx hby d22_28 rfl (own_ial X15 hx hZ e15 Ar12 hin12 hat12 rfl rfl (hb hby d22_29) k)))))))))))))))) ?_
 exact own_endI X15 hx Bd.notSynchronized Bd.returns (hb hby d22_30) (by decide) (by decide) ⟨rfl, rfl, e15⟩
def own_Q8120 (Z : State) (h0 : Heap) (a8121 : Addr) (a8122 : Addr) (a8123 : Addr) (c8126 : ClassId) (p8127 : Int32) (p8128 : Int32) (p8129 : Int32) (p8130 : Int32) (p8131 : Int32) (p8132 : Int32) (p8141 : Int32) (a8176 : Addr) (v : Option Value) (h : Heap) (L : List Loc) : Prop := v = none ∧ own_Kp h0 h [a8123, a8121] L ∧ Arh Z h a8123 c8126 .int 32 [((oH (p8141 + 1)), (.int 0)), (p8127, (.int p8128)), (p8129, (.int p8130)), (p8131, (.int p8132))] [] (.int 0) ∧ Fld Z h a8121 own_s1 "slots" "[I" (.ref a8123) ∧ Fld Z h a8121 own_s1 "size" "I" (.int 2) ∧ Fld Z h a8121 own_s1 "indices" "[I" (.ref a8176)
set_option maxRecDepth 65536 in
set_option maxHeartbeats 40000000 in
theorem rm8120 (l : Launch) (Z : State) (a0 : Array Value) (hw : ∀ d ∈ tables_1, d.before a0 Z = true) (h0 : Heap) (a14 a15 a27 : Addr) (c34 : ClassId) (p30 p32 : Int32) (p31 p19 : Int32) (p33 p35 p10 : Int32) (a40 : Addr) (F36 : Fld Z h0 a14 own_s1 "slots" "[I" (.ref a27)) (H41 : Arh Z h0 a27 c34 .int 32 [(p30, (.int p32)), (p31, (.int p19)), (p33, (.int p35))] [] (.int 0)) (F46 : Fld Z h0 a15 own_s0 "id" "I" (.int p10)) (E47 : Exa Z h0 a15 own_s0) (hp48 : (oH (p10 + 1)) = p30) (hp49 : p32 = (p10 + 1)) (E43 : Exa Z h0 a14 own_s1) (F50 : Fld Z h0 a14 own_s1 "size" "I" (.int 3)) (ne37 : a14 ≠ a27) (hp44 : ¬ ((oN (oH (p10 + 1))) = p30)) (hp45 : (oN (oH (p10 + 1))) = p31) (hp51 : ¬ (p19 = 0)) (hp52 : (((oN (oH (p10 + 1))) - (oH p19)) &&& 31) < (((oN (oH (p10 + 1))) - (oH (p10 + 1))) &&& 31)) (hp53 : ¬ ((oN (oN (oH (p10 + 1)))) = p30)) (hp54 : ¬ ((oN (oN (oH (p10 + 1)))) = p31)) (hp55 : ¬ ((oN (oN (oH (p10 + 1)))) = p33)) (F56 : Fld Z h0 a14 own_s1 "indices" "[I" (.ref a40)) :
    own_Con l Z own_y2 prog_7_method_5_code 7 none ({ frames := 2, cells := 0, slots := 0, locals := 29 } : Room) #[(.ref a14), (.ref a15)] h0 (own_Q8120 Z h0 a14 a15 a27 c34 p30 p32 p31 p19 p33 p35 p10 a40) := by
 refine MetFree.of_bodySF (plainFor_of_name own_pn8) hisR ?_
 intro p e s m args below meth c s₁ Bd hml0 hP hK
 obtain ⟨rfl, hZ, hh⟩ := hP
 have hx := Bd.exec
 have hby := Bd.bytes
 have hml : c.maxLocals = 7 := hml0
 have hown : s.vm.findClass own_s1 = some m.cls := findClass_of_methodNamed Bd.named
 have hnm := (name_of_methodNamed Bd.named Bd.method).1
 have X0 : Stand p l e ({ frames := 2, cells := 0, slots := 0, locals := 29 } : Room) s m #[(.ref a14), (.ref a15)] below meth c s₁ [] 0 0 := Stand.of_body Bd
 have e0 : s₁.heap = h0 := by rw [← hh, Bd.state]; rfl
 have K0 : own_Kp h0 h0 [a27, a14] [] := own_kpRefl _ _
 show own_Go p e below (own_K s (own_Q8120 Z h0 a14 a15 a27 c34 p30 p32 p31 p19 p33 p35 p10 a40) 0 0) s₁ (entryFrame m #[(.ref a14), (.ref a15)] 7)
 rw [own_ef804]
 obtain ⟨T20, X20, e20, st20⟩ := own_gF X0 hx hZ hown hby (own_wd hw 148 rfl) e0 F36 d21_1 #[.val (.ref a14), .val (.ref a15), .unset, .unset, .unset, .unset, .unset] []
 obtain ⟨cl24, Ar24, q24, S24, N24, H24, G24⟩ := id H41
 let l1 : Array Slot := #[.val (.ref a14), .val (.ref a15), .val (.int 31), .unset, .unset, .unset, .unset]
 obtain ⟨_, T25, L25, X25, ⟨rfl, rfl, e25⟩, st25⟩ := own_cv X20 hx hZ hown (own_w475 hw) hml (g := (mkF m 10 l1 [(.ref a15), (.ref a14)])) (hb hby d21_10) e20 E47 [] [(.ref a14)] (lenOf own_pd5 rfl) (rm462 l Z a0 hw h0 a15 p10 F46)
 obtain ⟨_, T26, L26, X26, ⟨rfl, rfl, e26⟩, st26⟩ := own_cp X25 hx hZ hown (own_w499 hw) hml (g := (mkF m 15 l1 [(.int (p10 + 1)), (.ref a14)])) (hb hby d21_15) e25 E43 [(.int (p10 + 1))] [] (lenOf own_pd13 rfl) (rm830 l Z a0 hw h0 a14 (p10 + 1) a27 c34 p30 p32 p31 p19 p33 p35 F36 H41 hp48 hp49)
 let l2 : Array Slot := #[.val (.ref a14), .val (.ref a15), .val (.int 31), .val (.int (oH (p10 + 1))), .unset, .unset, .unset]
 obtain ⟨T28, X28, e28, st28⟩ := own_gF X26 hx hZ hown hby (own_wd hw 148 rfl) e26 F36 d21_20 l2 []
 obtain ⟨cl11, Ar11, q11, S11, N11, H11, G11⟩ := id H41
 have hin11 := inb_of S11 ⟨(own_hlo (p10 + 1)), (own_hhi (p10 + 1))⟩
 obtain ⟨T11, h11, X11, e11, W11, st11⟩ := stI X28 hx hZ e28 Ar11 (j := (oH (p10 + 1))) hin11 (g := (mkF m 25 l2 [(.int 0), (.int (oH (p10 + 1))), (.ref a27)])) rfl rfl (hb hby d21_25)
 have V11 := Arh.push Ar11 q11 S11 N11 H11 G11 rfl W11 hin11
 have K11 := own_kpWr K0 W11 (Or.inl (List.mem_of_getElem? (i := 0) rfl))
 have z_W11 := Nat.le_of_eq W11.size.symm
 have F42 := (Fld.other W11 F50 (Or.inl ne37))
 obtain ⟨T29, X29, e29, st29⟩ := own_gF X11 hx hZ hown hby (own_wd hw 157 rfl) e11 F42 d21_28 l2 [(.ref a14)]
 have E57 := (Exa.wr W11 E43)
 obtain ⟨T13, h13, X13, e13, W13, st13⟩ := putF X29 hx hZ hown (host := "") (Or.inl (own_wd hw 157 rfl)) Via.refl e29 F42 E57 (Or.inl (own_wd hw 158 rfl)) (own_wd hw 141 rfl) (ty := .int) (by decide) rfl rfl (g := (mkF m 33 l2 [(.int 2), (.ref a14)])) rfl rfl (hb hby d21_33)
 have F13 := Fld.same W13 F42
 have K13 := own_kpWr K11 W13 (Or.inl (List.mem_of_getElem? (i := 1) rfl))
 have z_W13 := Nat.le_of_eq W13.size.symm
 have F38 := (Fld.other W13 (Fld.other W11 F36 (Or.inl ne37)) (Or.inr (slot_ne (Or.inl (own_wd hw 149 rfl)) (Or.inl (own_wd hw 158 rfl)) (by decide) (t := (.array .int)) (t' := .int) (by decide) (by decide))))
 let l3 : Array Slot := #[.val (.ref a14), .val (.ref a15), .val (.int 31), .val (.int (oH (p10 + 1))), .val (.int (oN (oH (p10 + 1)))), .unset, .unset]
 obtain ⟨T21, X21, e21, st21⟩ := own_gF X13 hx hZ hown hby (own_wd hw 148 rfl) e13 F38 d21_44 l3 []
 have H39 := (Arh.other V11 W13 (Ne.symm ne37))
 obtain ⟨cl16, Ar16, q16, S16, N16, H16, G16⟩ := id H39
 have hin16 := inb_of S16 ⟨(ar622 (oH (p10 + 1)) ), (ar623 (oH (p10 + 1)) )⟩
 have hat16 := atH H16 hin16 (getH_miss (ar622 (oH (p10 + 1)) ) (ar799 (oH (p10 + 1)) ) (getH_miss (ar622 (oH (p10 + 1)) ) hp44 (getH_hit (ar622 (oH (p10 + 1)) ) hp45)))
 obtain ⟨T23, X23, e23, st23⟩ := own_gF X21 hx hZ hown hby (own_wd hw 148 rfl) e21 F38 d21_54 l3 []
 obtain ⟨cl17, Ar17, q17, S17, N17, H17, G17⟩ := id H39
 have hin17 := inb_of S17 ⟨(ar622 (oH (p10 + 1)) ), (ar623 (oH (p10 + 1)) )⟩
 have hat17 := atH H17 hin17 (getH_miss (ar622 (oH (p10 + 1)) ) (ar799 (oH (p10 + 1)) ) (getH_miss (ar622 (oH (p10 + 1)) ) hp44 (getH_hit (ar622 (oH (p10 + 1)) ) hp45)))
 obtain ⟨_, T12, L12, X12, ⟨rfl, rfl, e12⟩, st12⟩ := own_cs X23 hx hZ hown (own_w489 hw) hml (g := (mkF m 61 l3 [(.int 31), (.int p19)])) (hb hby d21_61) e23 [(.int p19), (.int 31)] [] (lenOf own_pd12 rfl) (rm487 l Z a0 hw h13 p19 )
 let l4 : Array Slot := #[.val (.ref a14), .val (.ref a15), .val (.int 31), .val (.int (oH (p10 + 1))), .val (.int (oN (oH (p10 + 1)))), .val (.int (oH p19)), .unset]
 refine own_go (T2 := T12) (g2 := (mkF m 77 l4 [(.int ((oN (oH (p10 + 1))) - (oH (p10 + 1)))), (.int (((oN (oH (p10 + 1))) - (oH p19)) &&& 31))])) (fun t k => z_aloadN X0 hx hby d21_0 rfl rfl (st20 _ (own_alen X20 hx hZ e20 Ar24 S24 N24 rfl rfl (hb hby d21_4) (z_iconst X20 hx hby d21_5 (z_isub X20 hx hby d21_6 (z_istoreN X20 hx hby d21_7 l1 rfl (z_aloadN X20 hx hby d21_8 rfl rfl (z_aloadN X20 hx hby d21_9 rfl rfl (st25 _ (z_iconst X25 hx hby d21_13 (z_iadd X25 hx hby d21_14 (st26 _ (z_istoreN X26 hx hby d21_18 l2 rfl (z_aloadN X26 hx hby d21_19 rfl rfl (st28 _ (z_iloadN X28 hx hby d21_23 rfl (z_iconst X28 hx hby d21_24 (st11 _ (z_aloadN X11 hx hby d21_26 rfl rfl (z_dup X11 hx hby d21_27 rfl (st29 _ (z_iconst X29 hx hby d21_31 (z_isub X29 hx hby d21_32 (st13 _ (z_iloadN X13 hx hby d21_36 rfl (z_iconst X13 hx hby d21_37 (z_iadd X13 hx hby d21_38 (z_iloadN X13 hx hby d21_39 rfl (z_iand X13 hx hby d21_40 (z_istore X13 hx hby d21_41 l3 rfl (z_aloadN X13 hx hby d21_43 rfl rfl (st21 _ (z_iload X21 hx hby d21_47 rfl (own_ial X21 hx hZ e21 Ar16 hin16 hat16 rfl rfl (hb hby d21_49) (z_ifNo X21 hx hby d21_50 ((if0 _ _).trans (feq hp51).1) (z_aloadN X21 hx hby d21_53 rfl rfl (st23 _ (z_iload X23 hx hby d21_57 rfl (own_ial X23 hx hZ e23 Ar17 hin17 hat17 rfl rfl (hb hby d21_59) (z_iloadN X23 hx hby d21_60 rfl (st12 _ (z_istore X12 hx hby d21_64 l4 rfl (z_iload X12 hx hby d21_66 rfl (z_iload X12 hx hby d21_68 rfl (z_isub X12 hx hby d21_70 (z_iloadN X12 hx hby d21_71 rfl (z_iand X12 hx hby d21_72 (z_iload X12 hx hby d21_73 rfl (z_iloadN X12 hx hby d21_75 rfl (z_isub X12 hx hby d21_76 k)))))))))))))))))))))))))))))))))))))))))))))))))) ?_
 let l5 : Array Slot := #[.val (.ref a14), .val (.ref a15), .val (.int 31), .val (.int (oH (p10 + 1))), .val (.int (oN (oN (oH (p10 + 1))))), .val (.int (oH p19)), .val (.int 0)]
 obtain ⟨T22, X22, e22, st22⟩ := own_gF X12 hx hZ hown hby (own_wd hw 148 rfl) e12 F38 d21_44 l5 []
 obtain ⟨cl18, Ar18, q18, S18, N18, H18, G18⟩ := id H39
 have hin18 := inb_of S18 ⟨(ar898 (oH (p10 + 1)) ), (ar899 (oH (p10 + 1)) )⟩
 have hat18 := atH H18 hin18 (getH_miss (ar898 (oH (p10 + 1)) ) (ar758 (oH (p10 + 1)) ) (getH_miss (ar898 (oH (p10 + 1)) ) hp53 (getH_miss (ar898 (oH (p10 + 1)) ) hp54 (getH_miss (ar898 (oH (p10 + 1)) ) hp55 (getH_all rfl _)))))
 have F58 := (Fld.other W13 (Fld.other W11 F56 (Or.inl ne37)) (Or.inr (slot_ne (Or.inl (own_wd hw 151 rfl)) (Or.inl (own_wd hw 158 rfl)) (by decide) (t := (.array .int)) (t' := .int) (by decide) (by decide))))
 refine own_go (T2 := T22) (g2 := (mkF m 142 l5 [])) (fun t k => z_iloadN X12 hx hby d21_77 rfl (z_iand X12 hx hby d21_78 (z_icmpYes X12 hx hby 86 d21_79 (tlt hp52).1 rfl (z_iconst X12 hx hby d21_86 (z_istore X12 hx hby d21_87 #[.val (.ref a14), .val (.ref a15), .val (.int 31), .val (.int (oH (p10 + 1))), .val (.int (oN (oH (p10 + 1)))), .val (.int (oH p19)), .val (.int 0)] rfl (z_iload X12 hx hby d21_89 rfl (z_ifYes X12 hx hby 131 d21_91 ((if0 _ _).trans (teq (show (0 : Int32) = 0 from (by decide))).1) rfl (z_iload X12 hx hby d21_131 rfl (z_iconst X12 hx hby d21_133 (z_iadd X12 hx hby d21_134 (z_iloadN X12 hx hby d21_135 rfl (z_iand X12 hx hby d21_136 (z_istore X12 hx hby d21_137 l5 rfl (z_goto X12 hx hby 43 d21_139 rfl (z_aloadN X12 hx hby d21_43 rfl rfl (st22 _ (z_iload X22 hx hby d21_47 rfl (own_ial X22 hx hZ e22 Ar18 hin18 hat18 rfl rfl (hb hby d21_49) (z_ifYes X22 hx hby 142 d21_50 ((if0 _ _).trans (teq (show (0 : Int32) = 0 from (by decide))).1) rfl k))))))))))))))))))) ?_
 exact own_endV X22 hx Bd.notSynchronized Bd.returns (hb hby d21_142) (by decide) (by decide) (by rw [e22]; exact ⟨rfl, (by simpa only [List.append_nil] using K13), H39, F38, F13, F58⟩)
theorem own_pn9 : plainName own_s18 = true := by first | (simp [plainName, overriddenIn]; done) | decide +kernel
theorem own_ef0 (m : MethodId) (x0 : Int32) (x1 : Int32) (x2 : Int32) (x3 : Int32) (x4 : Int32) (x5 : Int32) : entryFrame m #[(.int x0), (.int x1), (.int x2), (.int x3), (.int x4), (.int x5)] maxLocals = mkF m 0 #[.val (.int x0), .val (.int x1), .val (.int x2), .val (.int x3), .val (.int x4), .val (.int x5), .unset, .unset, .unset, .unset, .unset, .unset, .unset, .unset, .unset, .unset, .unset, .unset, .unset, .unset, .unset] [] := by first | (simp [entryFrame, mkF, argsToLocals, Value.category, maxLocals]; done) | rfl
set_option maxRecDepth 65536 in
set_option maxHeartbeats 40000000 in
theorem rm0 (l : Launch) (Z : State) (a0 : Array Value) (hw : ∀ d ∈ tables_1, d.before a0 Z = true) (ws : List Jvm.Cond) (h0 : Heap) (p_0 p_1 : Int32) (p_2 p_3 : Int32) (p_4 p_5 : Int32) (w_NAME w_AND : Addr) (w_TOP w_EMPTY w_EMPTY_LIST : Addr)
    (OX0 : Ext Z.heap h0)
    (S_NAME_12 : Sta Z h0 own_s6 "NAME" own_s8 (.ref w_NAME))
    (E_w_NAME : Exa Z h0 w_NAME own_s6)
    (S_AND_13 : Sta Z h0 own_s6 "AND" own_s8 (.ref w_AND))
    (E_w_AND : Exa Z h0 w_AND own_s6)
    (S_TOP_14 : Sta Z h0 own_s6 "TOP" own_s8 (.ref w_TOP))
    (E_w_TOP : Exa Z h0 w_TOP own_s6)
    (S_EMPTY_15 : Sta Z h0 own_s12 "EMPTY" own_s5 (.ref w_EMPTY))
    (E_w_EMPTY : Exa Z h0 w_EMPTY own_s7)
    (S_EMPTY_LIST_16 : Sta Z h0 own_s12 "EMPTY_LIST" "Ljava/util/ImmutableCollections$ListN;" (.ref w_EMPTY_LIST))
    (E_w_EMPTY_LIST : Exa Z h0 w_EMPTY_LIST "java/util/ImmutableCollections$ListN")
    (F_ordinal_17 : Fld Z h0 w_NAME "java/lang/Enum" "ordinal" "I" (.int 2))
    (F_ordinal_18 : Fld Z h0 w_AND "java/lang/Enum" "ordinal" "I" (.int 6))
    (F_ordinal_19 : Fld Z h0 w_TOP "java/lang/Enum" "ordinal" "I" (.int 0))
    (S__assertionsDisabled_20 : Sta Z h0 own_s12 "$assertionsDisabled" "Z" (.int 1)) :
    MetFree l x (head1 (Jvm.Cond.code x code maxLocals ret :: ws) room_1) (fun a U => a = #[(.int p_0), (.int p_1), (.int p_2), (.int p_3), (.int p_4), (.int p_5)] ∧ Z.Warmed39 U.vm ∧ U.heap = h0) (fun _ _ _ _ _ => True) (fun _ U o U' => ∃ v L, o = .returned v ∧ own_Q0 h0.size v U'.heap L ∧ FrameEnd U o U' L room_1.cells room_1.slots) := by
 refine MetFree.of_bodySF (plainFor_of_name own_pn9) hisR ?_
 intro p e s m args below meth c s₁ Bd hml0 hP hK
 obtain ⟨rfl, hZ, hh⟩ := hP
 have hx := Bd.exec
 have hby := Bd.bytes
 have hml : c.maxLocals = 21 := hml0
 have hown : s.vm.findClass own_s18 = some m.cls := findClass_of_methodNamed Bd.named
 have X0 : Stand p l e room_1 s m #[(.int p_0), (.int p_1), (.int p_2), (.int p_3), (.int p_4), (.int p_5)] below meth c s₁ [] 0 0 := Stand.of_body Bd
 have e0 : s₁.heap = h0 := by rw [← hh, Bd.state]; rfl
 have K0 : own_Kp h0 h0 [] [] := own_kpRefl _ _
 show own_Go p e below (own_K s (own_Q0 h0.size) room_1.cells room_1.slots) s₁ (entryFrame m #[(.int p_0), (.int p_1), (.int p_2), (.int p_3), (.int p_4), (.int p_5)] maxLocals)
 rw [own_ef0]
 let lf := fun (x9 x10 x11 x12 x13 x14 x15 x16 x17 x18 x19 x20 : Slot) => (#[.val (.int p_0), .val (.int p_1), .val (.int p_2), .val (.int p_3), .val (.int p_4), .val (.int p_5), .val (.int (p_0 &&& 2147483647)), .val (.int (p_1 &&& 2147483647)), .val (.int (p_2 &&& 2147483647)), x9, x10, x11, x12, x13, x14, x15, x16, x17, x18, x19, x20] : Array Slot)
 let u : Slot := .unset
 let vr := fun a : Addr => Slot.val (.ref a)
 let vi := fun a : Int32 => Slot.val (.int a)
 let l1 := lf u u u u u u u u u u u u
 refine own_go (T2 := s₁) (g2 := (mkF m 22 l1 [(.int (p_1 &&& 2147483647)), (.int (p_0 &&& 2147483647))])) (fun t k => z_iloadN X0 hx hby at_0 rfl (Jvm.Stand.ldcI X0 hx hown (mvT hZ (own_wd hw 0 rfl)) rfl (hb hby at_1) (z_iand X0 hx hby at_3 (z_istore X0 hx hby at_4 #[.val (.int p_0), .val (.int p_1), .val (.int p_2), .val (.int p_3), .val (.int p_4), .val (.int p_5), .val (.int (p_0 &&& 2147483647)), .unset, .unset, .unset, .unset, .unset, .unset, .unset, .unset, .unset, .unset, .unset, .unset, .unset, .unset] rfl (z_iloadN X0 hx hby at_6 rfl (Jvm.Stand.ldcI X0 hx hown (mvT hZ (own_wd hw 0 rfl)) rfl (hb hby at_7) (z_iand X0 hx hby at_9 (z_istore X0 hx hby at_10 #[.val (.int p_0), .val (.int p_1), .val (.int p_2), .val (.int p_3), .val (.int p_4), .val (.int p_5), .val (.int (p_0 &&& 2147483647)), .val (.int (p_1 &&& 2147483647)), .unset, .unset, .unset, .unset, .unset, .unset, .unset, .unset, .unset, .unset, .unset, .unset, .unset] rfl (z_iloadN X0 hx hby at_12 rfl (Jvm.Stand.ldcI X0 hx hown (mvT hZ (own_wd hw 0 rfl)) rfl (hb hby at_13) (z_iand X0 hx hby at_15 (z_istore X0 hx hby at_16 l1 rfl (z_iload X0 hx hby at_18 rfl (z_iload X0 hx hby at_20 rfl k)))))))))))))) ?_
 by_cases hc366 : (p_0 &&& 2147483647) = (p_1 &&& 2147483647)
 ·
  refine own_go (T2 := s₁) (g2 := (mkF m 40 l1 [(.int 1)])) (fun t k => z_icmpYes X0 hx hby 39 at_22 (teq hc366).1 rfl (z_iconst X0 hx hby at_39 k)) ?_
  exact own_endN X0 hx Bd.notSynchronized (t := .boolean) Bd.returns (by simp) (hb hby at_40) (z' := (1 : Int32)) rfl (by decide) (by decide) ⟨rfl, by simpa only [List.append_nil] using own_kpFr K0⟩
 ·
  refine own_go (T2 := s₁) (g2 := (mkF m 29 l1 [(.int (p_2 &&& 2147483647)), (.int (p_0 &&& 2147483647))])) (fun t k => z_icmpNo X0 hx hby at_22 (feq hc366).1 (z_iload X0 hx hby at_25 rfl (z_iload X0 hx hby at_27 rfl k))) ?_
  by_cases hc367 : (p_0 &&& 2147483647) = (p_2 &&& 2147483647)
  ·
   refine own_go (T2 := s₁) (g2 := (mkF m 40 l1 [(.int 1)])) (fun t k => z_icmpYes X0 hx hby 39 at_29 (teq hc367).1 rfl (z_iconst X0 hx hby at_39 k)) ?_
   exact own_endN X0 hx Bd.notSynchronized (t := .boolean) Bd.returns (by simp) (hb hby at_40) (z' := (1 : Int32)) rfl (by decide) (by decide) ⟨rfl, by simpa only [List.append_nil] using own_kpFr K0⟩
  ·
   refine own_go (T2 := s₁) (g2 := (mkF m 36 l1 [(.int (p_2 &&& 2147483647)), (.int (p_1 &&& 2147483647))])) (fun t k => z_icmpNo X0 hx hby at_29 (feq hc367).1 (z_iload X0 hx hby at_32 rfl (z_iload X0 hx hby at_34 rfl k))) ?_
   by_cases hc368 : (p_1 &&& 2147483647) = (p_2 &&& 2147483647)
   ·
    refine own_go (T2 := s₁) (g2 := (mkF m 40 l1 [(.int 1)])) (fun t k => z_icmpNo X0 hx hby at_36 (teq hc368).2 (z_iconst X0 hx hby at_39 k)) ?_
    exact own_endN X0 hx Bd.notSynchronized (t := .boolean) Bd.returns (by simp) (hb hby at_40) (z' := (1 : Int32)) rfl (by decide) (by decide) ⟨rfl, by simpa only [List.append_nil] using own_kpFr K0⟩
   ·
    refine own_go (T2 := s₁) (g2 := (mkF m 41 l1 [])) (fun t k => z_icmpYes X0 hx hby 41 at_36 (feq hc368).2 rfl k) ?_
    obtain ⟨q16, hq16⟩ : ∃ z : Int32, z = ((p_0 &&& 2147483647) + 1) := ⟨_, rfl⟩
    obtain ⟨y10, hy10⟩ : ∃ z : Int32, z = (oH q16) := ⟨_, rfl⟩
    have ly10 : ¬ (y10 < 0) := by rw [hy10]; exact (own_m31 _).1
    have uy10 : y10 < 32 := by rw [hy10]; exact (own_m31 _).2
    have nq16 : ¬ (q16 = 0) := by rw [hq16]; exact own_key0 p_0
    obtain ⟨q14, hq14⟩ : ∃ z : Int32, z = ((p_1 &&& 2147483647) + 1) := ⟨_, rfl⟩
    obtain ⟨y12, hy12⟩ : ∃ z : Int32, z = (oH q14) := ⟨_, rfl⟩
    have ly12 : ¬ (y12 < 0) := by rw [hy12]; exact (own_m31 _).1
    have uy12 : y12 < 32 := by rw [hy12]; exact (own_m31 _).2
    have nq14 : ¬ (q14 = 0) := by rw [hq14]; exact own_key0 p_1
    obtain ⟨q13, hq13⟩ : ∃ z : Int32, z = ((p_2 &&& 2147483647) + 1) := ⟨_, rfl⟩
    obtain ⟨y19, hy19⟩ : ∃ z : Int32, z = (oH q13) := ⟨_, rfl⟩
    have ly19 : ¬ (y19 < 0) := by rw [hy19]; exact (own_m31 _).1
    have uy19 : y19 < 32 := by rw [hy19]; exact (own_m31 _).2
    have nq13 : ¬ (q13 = 0) := by rw [hq13]; exact own_key0 p_2
    have dq16q14 : ¬ (q16 = q14) := by rw [hq16, hq14]; exact fun e => hc366 (own_suc (e))
    have dq16q13 : ¬ (q16 = q13) := by rw [hq16, hq13]; exact fun e => hc367 (own_suc (e))
    have dq14q16 : ¬ (q14 = q16) := by rw [hq14, hq16]; exact fun e => hc366 (own_suc (e.symm))
    have dq14q13 : ¬ (q14 = q13) := by rw [hq14, hq13]; exact fun e => hc368 (own_suc (e))
    have dq13q16 : ¬ (q13 = q16) := by rw [hq13, hq16]; exact fun e => hc367 (own_suc (e.symm))
    have dq13q14 : ¬ (q13 = q14) := by rw [hq13, hq14]; exact fun e => hc368 (own_suc (e.symm))
    obtain ⟨T18, h18, X18, e18, E18, A18, D18, -, st18⟩ := newO X0 hx hZ hown (own_wd hw 1 rfl) (own_wd hw 2 rfl) (own_wd hw 3 rfl) e0 (g := (mkF m 41 l1 [])) rfl (hb hby at_41) (by decide) (by decide)
    obtain ⟨b18, g18⟩ : ∃ z, z = h0.size := ⟨_, rfl⟩
    rw [← g18] at A18 D18 st18
    have z_E18 := E18.1
    have lo_b18 : h0.size ≤ b18 := Nat.le_of_eq g18.symm
    have sz_b18 : h0.size ≤ b18 := Nat.le_trans K0.1.1 lo_b18
    have K18 := own_kpExt K0 E18
    have F919 : Fld Z h18 b18 own_s0 "alone" own_s9 .null := D18 (Or.inr (own_wd hw 54 rfl)) (ty := (.object own_s2)) (by decide)
    have F920 : Fld Z h18 b18 own_s0 "owner" own_s5 .null := D18 (Or.inr (own_wd hw 56 rfl)) (ty := (.object own_s7)) (by decide)
    have F921 : Fld Z h18 b18 own_s0 "kind" own_s8 .null := D18 (Or.inr (own_wd hw 58 rfl)) (ty := (.object own_s6)) (by decide)
    have F922 : Fld Z h18 b18 own_s0 "id" "I" (.int 0) := D18 (Or.inr (own_wd hw 60 rfl)) (ty := .int) (by decide)
    have F923 : Fld Z h18 b18 own_s0 "place" "I" (.int 0) := D18 (Or.inl (own_wd hw 62 rfl)) (ty := .int) (by decide)
    have F924 : Fld Z h18 b18 own_s0 "name" "Ljava/lang/String;" .null := D18 (Or.inr (own_wd hw 64 rfl)) (ty := (.object own_s10)) (by decide)
    have F925 : Fld Z h18 b18 own_s0 "role" own_s17 .null := D18 (Or.inr (own_wd hw 66 rfl)) (ty := (.object own_s11)) (by decide)
    have F926 : Fld Z h18 b18 own_s0 "operands" own_s9 .null := D18 (Or.inl (own_wd hw 68 rfl)) (ty := (.object own_s2)) (by decide)
    have F927 : Fld Z h18 b18 own_s0 "number" "J" (.long 0) := D18 (Or.inr (own_wd hw 70 rfl)) (ty := .long) (by decide)
    have F928 : Fld Z h18 b18 own_s0 "conjunctBits" "J" (.long 0) := D18 (Or.inr (own_wd hw 139 rfl)) (ty := .long) (by decide)
    have S647 := (Sta.ext E18 S_NAME_12)
    obtain ⟨T121, X121, e121, st121⟩ := getS2 X18 hx hZ hown (host := "") (Or.inl (own_wd hw 4 rfl)) Via.refl e18 S647 (g := (mkF m 46 l1 [.null, (.ref b18), (.ref b18)])) rfl (hb hby at_46)
    have S648 := (Sta.ext E18 S_EMPTY_15)
    have S649 := (Sta.ext E18 S_AND_13)
    have F462 := (Fld.ext E18 F_ordinal_17)
    have F650 := (Fld.ext E18 F_ordinal_18)
    have S651 := (Sta.ext E18 S_TOP_14)
    have F652 := (Fld.ext E18 F_ordinal_19)
    obtain ⟨_, T30, L30, X30, ⟨b369, rfl, K30c, lo_b369, F1308, F1309, F1310, F929, F1311, F1312, F1313, F1314, F1315, F1316, E1317, F1318, F1319⟩, st30⟩ := own_ci X121 hx hZ hown (own_w318 hw) hml (g := (mkF m 56 l1 [(.long 0), .null, .null, .null, (.int 0), (.int (p_0 &&& 2147483647)), (.ref w_NAME), .null, (.ref b18), (.ref b18)])) (hb hby at_56) e121 (a := b18) [.null, (.ref w_NAME), (.int (p_0 &&& 2147483647)), (.int 0), .null, .null, .null, (.long 0)] [(.ref b18)] (lenOf own_pd11 rfl) (rm44 l Z a0 hw h18 b18 w_NAME (p_0 &&& 2147483647) (0 : Int32) w_EMPTY w_AND w_TOP S648 A18 F919 F920 F921 F922 F923 F924 F925 F926 F927 S649 (Fld.ne F462 F650 (by decide)) S651 (Fld.ne F462 F652 (by decide)) F928)
    have z_K30c := K30c.1.1
    have sz_b369 : h0.size ≤ b369 := Nat.le_trans K18.1.1 lo_b369
    have K30 := own_kpTrans K18 K30c (allS (Or.inr sz_b18) all0)
    let l2 := lf (vr b18) u u u u u u u u u u u
    obtain ⟨T17, h17, X17, e17, E17, A17, D17, -, st17⟩ := newO X30 hx hZ hown (own_wd hw 1 rfl) (own_wd hw 2 rfl) (own_wd hw 3 rfl) rfl (g := (mkF m 61 l2 [])) rfl (hb hby at_61) (by decide) (by decide)
    obtain ⟨b17, g17⟩ : ∃ z, z = T30.heap.size := ⟨_, rfl⟩
    rw [← g17] at A17 D17 st17
    have z_E17 := E17.1
    have lo_b17 : T30.heap.size ≤ b17 := Nat.le_of_eq g17.symm
    have sz_b17 : h0.size ≤ b17 := Nat.le_trans K30.1.1 lo_b17
    have K17 := own_kpExt K30 E17
    have F930 : Fld Z h17 b17 own_s0 "alone" own_s9 .null := D17 (Or.inr (own_wd hw 54 rfl)) (ty := (.object own_s2)) (by decide)
    have F931 : Fld Z h17 b17 own_s0 "owner" own_s5 .null := D17 (Or.inr (own_wd hw 56 rfl)) (ty := (.object own_s7)) (by decide)
    have F932 : Fld Z h17 b17 own_s0 "kind" own_s8 .null := D17 (Or.inr (own_wd hw 58 rfl)) (ty := (.object own_s6)) (by decide)
    have F933 : Fld Z h17 b17 own_s0 "id" "I" (.int 0) := D17 (Or.inr (own_wd hw 60 rfl)) (ty := .int) (by decide)
    have F934 : Fld Z h17 b17 own_s0 "place" "I" (.int 0) := D17 (Or.inl (own_wd hw 62 rfl)) (ty := .int) (by decide)
    have F935 : Fld Z h17 b17 own_s0 "name" "Ljava/lang/String;" .null := D17 (Or.inr (own_wd hw 64 rfl)) (ty := (.object own_s10)) (by decide)
    have F936 : Fld Z h17 b17 own_s0 "role" own_s17 .null := D17 (Or.inr (own_wd hw 66 rfl)) (ty := (.object own_s11)) (by decide)
    have F937 : Fld Z h17 b17 own_s0 "operands" own_s9 .null := D17 (Or.inl (own_wd hw 68 rfl)) (ty := (.object own_s2)) (by decide)
    have F938 : Fld Z h17 b17 own_s0 "number" "J" (.long 0) := D17 (Or.inr (own_wd hw 70 rfl)) (ty := .long) (by decide)
    have F939 : Fld Z h17 b17 own_s0 "conjunctBits" "J" (.long 0) := D17 (Or.inr (own_wd hw 139 rfl)) (ty := .long) (by decide)
    have S653 := (Sta.ext E17 (own_kpSta K30c S647))
    obtain ⟨T122, X122, e122, st122⟩ := getS2 X17 hx hZ hown (host := "") (Or.inl (own_wd hw 4 rfl)) Via.refl e17 S653 (g := (mkF m 66 l2 [.null, (.ref b17), (.ref b17)])) rfl (hb hby at_66)
    have S654 := (Sta.ext E17 (own_kpSta K30c S648))
    have S655 := (Sta.ext E17 (own_kpSta K30c S649))
    have ne940 := own_nl E_w_NAME.lt (Nat.le_refl _) lo_b18
    have F463 := (Fld.ext E17 (Fld.keep F462 K30c.1 (ninS ne940 nin0)))
    have ne941 := own_nl E_w_AND.lt (Nat.le_refl _) lo_b18
    have F656 := (Fld.ext E17 (Fld.keep F650 K30c.1 (ninS ne941 nin0)))
    have S657 := (Sta.ext E17 (own_kpSta K30c S651))
    have ne942 := own_nl E_w_TOP.lt (Nat.le_refl _) lo_b18
    have F658 := (Fld.ext E17 (Fld.keep F652 K30c.1 (ninS ne942 nin0)))
    obtain ⟨_, T29, L29, X29, ⟨b370, rfl, K29c, lo_b370, F1320, F1321, F1322, F659, F1323, F1324, F1325, F1326, F1327, F1328, E1329, F1330, F1331⟩, st29⟩ := own_ci X122 hx hZ hown (own_w318 hw) hml (g := (mkF m 76 l2 [(.long 0), .null, .null, .null, (.int 1), (.int (p_1 &&& 2147483647)), (.ref w_NAME), .null, (.ref b17), (.ref b17)])) (hb hby at_76) e122 (a := b17) [.null, (.ref w_NAME), (.int (p_1 &&& 2147483647)), (.int 1), .null, .null, .null, (.long 0)] [(.ref b17)] (lenOf own_pd11 rfl) (rm44 l Z a0 hw h17 b17 w_NAME (p_1 &&& 2147483647) (1 : Int32) w_EMPTY w_AND w_TOP S654 A17 F930 F931 F932 F933 F934 F935 F936 F937 F938 S655 (Fld.ne F463 F656 (by decide)) S657 (Fld.ne F463 F658 (by decide)) F939)
    have z_K29c := K29c.1.1
    have sz_b370 : h0.size ≤ b370 := Nat.le_trans K17.1.1 lo_b370
    have K29 := own_kpTrans K17 K29c (allS (Or.inr sz_b17) all0)
    let l3 := lf (vr b18) (vr b17) u u u u u u u u u u
    obtain ⟨T15, h15, X15, e15, E15, A15, D15, -, st15⟩ := newO X29 hx hZ hown (own_wd hw 1 rfl) (own_wd hw 2 rfl) (own_wd hw 3 rfl) rfl (g := (mkF m 81 l3 [])) rfl (hb hby at_81) (by decide) (by decide)
    obtain ⟨b15, g15⟩ : ∃ z, z = T29.heap.size := ⟨_, rfl⟩
    rw [← g15] at A15 D15 st15
    have z_E15 := E15.1
    have lo_b15 : T29.heap.size ≤ b15 := Nat.le_of_eq g15.symm
    have sz_b15 : h0.size ≤ b15 := Nat.le_trans K29.1.1 lo_b15
    have K15 := own_kpExt K29 E15
    have F943 : Fld Z h15 b15 own_s0 "alone" own_s9 .null := D15 (Or.inr (own_wd hw 54 rfl)) (ty := (.object own_s2)) (by decide)
    have F944 : Fld Z h15 b15 own_s0 "owner" own_s5 .null := D15 (Or.inr (own_wd hw 56 rfl)) (ty := (.object own_s7)) (by decide)
    have F945 : Fld Z h15 b15 own_s0 "kind" own_s8 .null := D15 (Or.inr (own_wd hw 58 rfl)) (ty := (.object own_s6)) (by decide)
    have F946 : Fld Z h15 b15 own_s0 "id" "I" (.int 0) := D15 (Or.inr (own_wd hw 60 rfl)) (ty := .int) (by decide)
    have F947 : Fld Z h15 b15 own_s0 "place" "I" (.int 0) := D15 (Or.inl (own_wd hw 62 rfl)) (ty := .int) (by decide)
    have F948 : Fld Z h15 b15 own_s0 "name" "Ljava/lang/String;" .null := D15 (Or.inr (own_wd hw 64 rfl)) (ty := (.object own_s10)) (by decide)
    have F949 : Fld Z h15 b15 own_s0 "role" own_s17 .null := D15 (Or.inr (own_wd hw 66 rfl)) (ty := (.object own_s11)) (by decide)
    have F950 : Fld Z h15 b15 own_s0 "operands" own_s9 .null := D15 (Or.inl (own_wd hw 68 rfl)) (ty := (.object own_s2)) (by decide)
    have F951 : Fld Z h15 b15 own_s0 "number" "J" (.long 0) := D15 (Or.inr (own_wd hw 70 rfl)) (ty := .long) (by decide)
    have F952 : Fld Z h15 b15 own_s0 "conjunctBits" "J" (.long 0) := D15 (Or.inr (own_wd hw 139 rfl)) (ty := .long) (by decide)
    have S953 := (Sta.ext E15 (own_kpSta K29c S653))
    obtain ⟨T123, X123, e123, st123⟩ := getS2 X15 hx hZ hown (host := "") (Or.inl (own_wd hw 4 rfl)) Via.refl e15 S953 (g := (mkF m 86 l3 [.null, (.ref b15), (.ref b15)])) rfl (hb hby at_86)
    have S954 := (Sta.ext E15 (own_kpSta K29c S654))
    have S955 := (Sta.ext E15 (own_kpSta K29c S655))
    have ne956 := own_nl E_w_NAME.lt (Nat.le_trans z_E18 z_K30c) lo_b17
    have F660 := (Fld.ext E15 (Fld.keep F463 K29c.1 (ninS ne956 nin0)))
    have ne957 := own_nl E_w_AND.lt (Nat.le_trans z_E18 z_K30c) lo_b17
    have F958 := (Fld.ext E15 (Fld.keep F656 K29c.1 (ninS ne957 nin0)))
    have S959 := (Sta.ext E15 (own_kpSta K29c S657))
    have ne960 := own_nl E_w_TOP.lt (Nat.le_trans z_E18 z_K30c) lo_b17
    have F961 := (Fld.ext E15 (Fld.keep F658 K29c.1 (ninS ne960 nin0)))
    obtain ⟨_, T26, L26, X26, ⟨b371, rfl, K26c, lo_b371, F1332, F1333, F1334, F270, F1335, F1336, F1337, F1338, F1339, F1340, E1341, F1342, F1343⟩, st26⟩ := own_ci X123 hx hZ hown (own_w318 hw) hml (g := (mkF m 96 l3 [(.long 0), .null, .null, .null, (.int 2), (.int (p_2 &&& 2147483647)), (.ref w_NAME), .null, (.ref b15), (.ref b15)])) (hb hby at_96) e123 (a := b15) [.null, (.ref w_NAME), (.int (p_2 &&& 2147483647)), (.int 2), .null, .null, .null, (.long 0)] [(.ref b15)] (lenOf own_pd11 rfl) (rm44 l Z a0 hw h15 b15 w_NAME (p_2 &&& 2147483647) (2 : Int32) w_EMPTY w_AND w_TOP S954 A15 F943 F944 F945 F946 F947 F948 F949 F950 F951 S955 (Fld.ne F660 F958 (by decide)) S959 (Fld.ne F660 F961 (by decide)) F952)
    have z_K26c := K26c.1.1
    have sz_b371 : h0.size ≤ b371 := Nat.le_trans K15.1.1 lo_b371
    have K26 := own_kpTrans K15 K26c (allS (Or.inr sz_b15) all0)
    let l4 := lf (vr b18) (vr b17) (vr b15) u u u u u u u u u
    obtain ⟨T11, h11, X11, e11, E11, A11, D11, -, st11⟩ := newO X26 hx hZ hown (own_wd hw 140 rfl) (own_wd hw 141 rfl) (own_wd hw 142 rfl) rfl (g := (mkF m 101 l4 [])) rfl (hb hby at_101) (by decide) (by decide)
    obtain ⟨b11, g11⟩ : ∃ z, z = T26.heap.size := ⟨_, rfl⟩
    rw [← g11] at A11 D11 st11
    have z_E11 := E11.1
    have lo_b11 : T26.heap.size ≤ b11 := Nat.le_of_eq g11.symm
    have sz_b11 : h0.size ≤ b11 := Nat.le_trans K26.1.1 lo_b11
    have K11 := own_kpExt K26 E11
    have F962 : Fld Z h11 b11 own_s1 "slots" "[I" .null := D11 (Or.inl (own_wd hw 149 rfl)) (ty := (.array .int)) (by decide)
    have F963 : Fld Z h11 b11 own_s1 "indices" "[I" .null := D11 (Or.inl (own_wd hw 151 rfl)) (ty := (.array .int)) (by decide)
    have F964 : Fld Z h11 b11 own_s1 "size" "I" (.int 0) := D11 (Or.inl (own_wd hw 158 rfl)) (ty := .int) (by decide)
    obtain ⟨_, T51, L51, X51, ⟨b20, b21, k23, k31, rfl, K51c, lo_b20, lo_b21, ne_b20_b21, F965, F966, F967, H968, H969⟩, st51⟩ := own_ci X11 hx hZ hown (own_w447 hw) hml (g := (mkF m 105 l4 [(.ref b11), (.ref b11)])) (hb hby at_105) e11 (a := b11) [] [(.ref b11)] (lenOf own_pd0 rfl) (rm416 l Z a0 hw h11 b11 A11 F962 F963 F964)
    have z_K51c := K51c.1.1
    have sz_b20 : h0.size ≤ b20 := Nat.le_trans K11.1.1 lo_b20
    have sz_b21 : h0.size ≤ b21 := Nat.le_trans K11.1.1 lo_b21
    have K51 := own_kpTrans K11 K51c (allS (Or.inr sz_b11) all0)
    have ne970 := own_nl A18.lt z_K30c lo_b17
    have ne971 := own_nl A18.lt (Nat.le_trans (Nat.le_trans z_K30c z_E17) z_K29c) lo_b15
    have ne24 := own_nl A18.lt (Nat.le_trans (Nat.le_trans (Nat.le_trans (Nat.le_trans z_K30c z_E17) z_K29c) z_E15) z_K26c) lo_b11
    have F49 := (Fld.keep (Fld.ext E11 (Fld.keep (Fld.ext E15 (Fld.keep (Fld.ext E17 F929) K29c.1 (ninS ne970 nin0))) K26c.1 (ninS ne971 nin0))) K51c.1 (ninS ne24 nin0))
    have E50 := (Exa.keep (Exa.ext E11 (Exa.keep (Exa.ext E15 (Exa.keep (Exa.ext E17 (Exa.keep A18 K30c.1)) K29c.1)) K26c.1)) K51c.1)
    have E372 := (Exa.keep A11 K51c.1)
    have ne45 := own_nl A11.lt (Nat.le_refl _) lo_b20
    have ne46 := own_nl A11.lt (Nat.le_refl _) lo_b21
    let l5 := lf (vr b18) (vr b17) (vr b15) (vr b11) u u u u u u u u
    obtain ⟨_, T28, L28, X28, ⟨rfl, K28c, H464, H465, F661, F662, F663⟩, st28⟩ := own_cv X51 hx hZ hown (own_w528 hw) hml (g := (mkF m 115 l5 [(.int p_3), (.ref b18), (.ref b11)])) (hb hby at_115) rfl E372 [(.ref b18), (.int p_3)] [] (lenOf own_pd14 rfl) (rm449 l Z a0 hw T51.heap b11 b18 p_3 b20 k23 (p_0 &&& 2147483647) b21 k31 F967 F965 H968 F49 E50 (by simp only [← hq16]; exact (ar492 q16 nq16)) E372 F966 ne45 H969 (Ne.symm ne_b20_b21) ne46)
    have z_K28c := K28c.1.1
    have K28 := own_kpTrans K51 K28c (allS (Or.inr sz_b20) (allS (Or.inr sz_b21) (allS (Or.inr sz_b11) all0)))
    simp only [← hq16, ← hy10] at H464
    simp only [← hq16, ← hy10] at H465
    refine own_go (T2 := T28) (g2 := (mkF m 124 l5 [(.int p_4), (.ref b17), (.ref b11)])) (fun t k => st18 _ (z_dup X18 hx hby at_44 rfl (z_aconstNull X18 hx hby at_45 (st121 _ (z_iload X121 hx hby at_49 rfl (z_iconst X121 hx hby at_51 (z_aconstNull X121 hx hby at_52 (z_aconstNull X121 hx hby at_53 (z_aconstNull X121 hx hby at_54 (XS.lconst X121.here hx rfl (hb hby at_55) (st30 _ (z_astore X30 hx hby at_59 rfl l2 rfl (st17 _ (z_dup X17 hx hby at_64 rfl (z_aconstNull X17 hx hby at_65 (st122 _ (z_iload X122 hx hby at_69 rfl (z_iconst X122 hx hby at_71 (z_aconstNull X122 hx hby at_72 (z_aconstNull X122 hx hby at_73 (z_aconstNull X122 hx hby at_74 (XS.lconst X122.here hx rfl (hb hby at_75) (st29 _ (z_astore X29 hx hby at_79 rfl l3 rfl (st15 _ (z_dup X15 hx hby at_84 rfl (z_aconstNull X15 hx hby at_85 (st123 _ (z_iload X123 hx hby at_89 rfl (z_iconst X123 hx hby at_91 (z_aconstNull X123 hx hby at_92 (z_aconstNull X123 hx hby at_93 (z_aconstNull X123 hx hby at_94 (XS.lconst X123.here hx rfl (hb hby at_95) (st26 _ (z_astore X26 hx hby at_99 rfl l4 rfl (st11 _ (z_dup X11 hx hby at_104 rfl (st51 _ (z_astore X51 hx hby at_108 rfl l5 rfl (z_aload X51 hx hby at_110 rfl rfl (z_aload X51 hx hby at_112 rfl rfl (z_iloadN X51 hx hby at_114 rfl (st28 _ (z_aload X28 hx hby at_118 rfl rfl (z_aload X28 hx hby at_120 rfl rfl (z_iload X28 hx hby at_122 rfl k))))))))))))))))))))))))))))))))))))))))))))))) ?_
    by_cases hc27 : y12 = y10
    ·
     have hc27 := hc27.symm
     subst hc27
     have ne972 := own_nl A17.lt z_K29c lo_b15
     have ne52 := own_nl A17.lt (Nat.le_trans (Nat.le_trans z_K29c z_E15) z_K26c) lo_b11
     have ne60 := own_nl A17.lt (Nat.le_trans (Nat.le_trans (Nat.le_trans z_K29c z_E15) z_K26c) z_E11) lo_b21
     have ne53 := own_nl A17.lt (Nat.le_trans (Nat.le_trans (Nat.le_trans z_K29c z_E15) z_K26c) z_E11) lo_b20
     have F119 := (Fld.keep (Fld.keep (Fld.ext E11 (Fld.keep (Fld.ext E15 F659) K26c.1 (ninS ne972 nin0))) K51c.1 (ninS ne52 nin0)) K28c.1 (ninS ne53 (ninS ne60 (ninS ne52 nin0))))
     have E120 := (Exa.keep (Exa.keep (Exa.ext E11 (Exa.keep (Exa.ext E15 (Exa.keep A17 K29c.1)) K26c.1)) K51c.1) K28c.1)
     have E358 := (Exa.keep E372 K28c.1)
     obtain ⟨_, T38, L38, X38, ⟨rfl, K38c, H373, H374, F466, F467, F468⟩, st38⟩ := own_cv X28 hx hZ hown (own_w528 hw) hml (g := (mkF m 124 l5 [(.int p_4), (.ref b17), (.ref b11)])) (hb hby at_124) rfl E358 [(.ref b17), (.int p_4)] [] (lenOf own_pd14 rfl) (rm572 l Z a0 hw T28.heap b11 b17 p_4 b20 k23 y10 q16 (p_1 &&& 2147483647) b21 k31 p_3 F661 F662 H464 F119 E120 (by simp only [← hq14, ← hy12]) (by simp only [← hq14]; exact dq16q14) nq16 (by simp only [← hq14]; exact (ar492 q14 nq14)) E358 F663 ne45 H465 (Ne.symm ne_b20_b21) ne46)
     have z_K38c := K38c.1.1
     have K38 := own_kpTrans K28 K38c (allS (Or.inr sz_b20) (allS (Or.inr sz_b21) (allS (Or.inr sz_b11) all0)))
     simp only [← hq14, ← hy12] at H373
     simp only [← hq14, ← hy12] at H374
     refine own_go (T2 := T38) (g2 := (mkF m 133 l5 [(.int p_5), (.ref b15), (.ref b11)])) (fun t k => st38 _ (z_aload X38 hx hby at_127 rfl rfl (z_aload X38 hx hby at_129 rfl rfl (z_iload X38 hx hby at_131 rfl k)))) ?_
     by_cases hc54 : y19 = (oN y10)
     ·
      have hc54 := hc54.symm
      subst hc54
      have ne221 := own_nl A15.lt z_K26c lo_b11
      have ne285 := own_nl A15.lt (Nat.le_trans z_K26c z_E11) lo_b21
      have ne271 := own_nl A15.lt (Nat.le_trans z_K26c z_E11) lo_b20
      have F375 := (Fld.keep (Fld.keep (Fld.keep (Fld.ext E11 F270) K51c.1 (ninS ne221 nin0)) K28c.1 (ninS ne271 (ninS ne285 (ninS ne221 nin0)))) K38c.1 (ninS ne271 (ninS ne285 (ninS ne221 nin0))))
      have E376 := (Exa.keep (Exa.keep (Exa.keep (Exa.ext E11 (Exa.keep A15 K26c.1)) K51c.1) K28c.1) K38c.1)
      have E359 := (Exa.keep E358 K38c.1)
      obtain ⟨_, T39, L39, X39, ⟨rfl, K39c, H377, H378, F469, F470, F471⟩, st39⟩ := own_cv X38 hx hZ hown (own_w528 hw) hml (g := (mkF m 133 l5 [(.int p_5), (.ref b15), (.ref b11)])) (hb hby at_133) rfl E359 [(.ref b15), (.int p_5)] [] (lenOf own_pd14 rfl) (rm705 l Z a0 hw T38.heap b11 b15 p_5 b20 k23 (oN y10) q14 y10 q16 (p_2 &&& 2147483647) b21 k31 p_4 p_3 F466 F467 H373 F375 E376 (by simp only [← hq13, ← hy19]) (by simp only [← hq13]; exact dq14q13) nq14 (by simp only [← hq13, ← hy19]; exact (ar758 y10 )) (by simp only [← hq13]; exact (ar492 q13 nq13)) E359 F468 ne45 H374 (Ne.symm ne_b20_b21) ne46)
      have z_K39c := K39c.1.1
      have K39 := own_kpTrans K38 K39c (allS (Or.inr sz_b20) (allS (Or.inr sz_b21) (allS (Or.inr sz_b11) all0)))
      simp only [← hq13, ← hy19] at H377
      simp only [← hq13, ← hy19] at H378
      refine own_go (T2 := T39) (g2 := (mkF m 143 l5 [(.int ((p_5 &&& 2147483647) % 3))])) (fun t k => st39 _ (z_iload X39 hx hby at_136 rfl (Jvm.Stand.ldcI X39 hx hown (mvT hZ (own_wd hw 0 rfl)) rfl (hb hby at_138) (z_iand X39 hx hby at_140 (z_iconst X39 hx hby at_141 (iremM X39 hx rfl (hb hby at_142) rfl (by decide) k)))))) ?_
      have hrk796 := own_mod3 p_5
      generalize ((p_5 &&& 2147483647) % 3) = k1344 at hrk796 ⊢
      rcases hrk796 with rfl | rfl | rfl
      ·
       let l6 := lf (vr b18) (vr b17) (vr b15) (vr b11) (vi 0) (vr b18) u u u u u u
       let l7 := lf (vr b18) (vr b17) (vr b15) (vr b11) (vi 0) u u u u u u u
       refine own_go (T2 := T39) (g2 := (mkF m 170 l6 [])) (fun t k => z_istore X39 hx hby at_143 l7 rfl (z_iload X39 hx hby at_145 rfl (z_ifNo X39 hx hby at_147 ((if0 _ _).trans (teq (show (0 : Int32) = 0 from (by decide))).2) (z_aload X39 hx hby at_150 rfl rfl (z_goto X39 hx hby 168 at_152 rfl (z_astore X39 hx hby at_168 rfl l6 rfl k)))))) ?_
       have V973 := own_arhN H377 (cn800 (oN (oN y10)) (oN y10) y10 (.int q13) (.int q14) (.int q16) (ar798 y10 ) (ar758 y10 ) (ar799 y10 ))
       have V974 := own_arhN H378 (cn800 (oN (oN y10)) (oN y10) y10 (.int p_5) (.int p_4) (.int p_3) (ar798 y10 ) (ar758 y10 ) (ar799 y10 ))
       have ne379 := own_nl A18.lt (Nat.le_trans (Nat.le_trans (Nat.le_trans (Nat.le_trans (Nat.le_trans z_K30c z_E17) z_K29c) z_E15) z_K26c) z_E11) lo_b21
       have ne380 := own_nl A18.lt (Nat.le_trans (Nat.le_trans (Nat.le_trans (Nat.le_trans (Nat.le_trans z_K30c z_E17) z_K29c) z_E15) z_K26c) z_E11) lo_b20
       have F664 := (Fld.keep (Fld.keep (Fld.keep F49 K28c.1 (ninS ne380 (ninS ne379 (ninS ne24 nin0)))) K38c.1 (ninS ne380 (ninS ne379 (ninS ne24 nin0)))) K39c.1 (ninS ne380 (ninS ne379 (ninS ne24 nin0))))
       have E665 := (Exa.keep (Exa.keep (Exa.keep E50 K28c.1) K38c.1) K39c.1)
       have E472 := (Exa.keep E359 K39c.1)
       obtain ⟨_, T92, L92, X92, ⟨rfl, K92c, H666, F473, F1345, F667, H668⟩, st92⟩ := own_cv X39 hx hZ hown (own_w942 hw) hml (g := (mkF m 174 l6 [(.ref b18), (.ref b11)])) (hb hby at_174) rfl E472 [(.ref b18)] [] (lenOf own_pd15 rfl) (rm804 l Z a0 hw T39.heap b11 b18 b20 k23 y10 q16 (oN y10) q14 (oN (oN y10)) q13 (p_0 &&& 2147483647) b21 k31 p_3 p_4 p_5 F470 V973 F664 E665 (by simp only [← hq16, ← hy10]) (by simp only [← hq16]) E472 F469 ne45 (by simp only [← hq16, ← hy10]; exact (ar799 y10 )) (by simp only [← hq16, ← hy10]) nq14 (by simp only [← hq16, ← hy10, ← hy12]; exact Int32.lt_irrefl) F471 V974 (Ne.symm ne_b20_b21) (Ne.symm ne46) (by simp only [← hq16, ← hy10]; exact (ar758 y10 )) (by simp only [← hq16, ← hy10]; exact (ar798 y10 )) (by simp only [← hq16, ← hy10]) nq13 (by simp only [← hq16, ← hy10, ← hy19]; exact Int32.lt_irrefl) (by simp only [← hq16, ← hy10]; exact (ar929 y10 )) (by simp only [← hq16, ← hy10]; exact (ar928 y10 )) (by simp only [← hq16, ← hy10]; exact (ar927 y10 )))
       have z_K92c := K92c.1.1
       have K92 := own_kpTrans K39 K92c (allS (Or.inr sz_b20) (allS (Or.inr sz_b11) (allS (Or.inr sz_b21) all0)))
       simp only [← hq16, ← hy10] at H666
       simp only [← hq16, ← hy10] at H668
       refine own_go (T2 := T92) (g2 := (mkF m 177 l6 [])) (fun t k => z_aload X39 hx hby at_170 rfl rfl (z_aload X39 hx hby at_172 rfl rfl (st92 _ k))) ?_
       have V474 := own_arhN H666 (cn945 (oN (oN y10)) (oN y10) y10 (.int q13) (.int q14) (.int q16) (ar798 y10 ) (ar758 y10 ) (ar799 y10 ))
       have V669 := own_arhN H668 (cn947 (oN y10) y10 (oN (oN y10)) (.int p_5) (.int p_4) (.int p_3) (ar799 y10 ) (ar797 y10 ) (ar943 y10 ))
       have F975 := (Fld.keep F664 K92c.1 (ninS ne380 (ninS ne24 (ninS ne379 nin0))))
       have E976 := (Exa.keep E665 K92c.1)
       have E296 := (Exa.keep E472 K92c.1)
       obtain ⟨_, T127, L127, X127, ⟨rfl, rfl, e127⟩, st127⟩ := own_cv X92 hx hZ hown (own_w1056 hw) hml (g := (mkF m 181 l6 [(.ref b18), (.ref b11)])) (hb hby at_181) rfl E296 [(.ref b18)] [] (lenOf own_pd16 rfl) (rm950 l Z a0 hw T92.heap b11 b18 (p_0 &&& 2147483647) b20 k23 y10 q14 (oN y10) q13 F975 E976 F473 V474 (by simp only [← hq16, ← hy10]) (by simp only [← hq16]; exact dq14q16) nq14 (by simp only [← hq16, ← hy10]) (by simp only [← hq16]; exact dq13q16) (by simp only [← hq16, ← hy10]; exact (ar799 y10 )) nq13 (by simp only [← hq16, ← hy10]; exact (ar758 y10 )) (by simp only [← hq16, ← hy10]; exact (ar798 y10 )) (by simp only [← hq16]; exact (ar492 q16 nq16)) E296)
       have F977 := (Fld.keep (Fld.keep (Fld.keep F119 K38c.1 (ninS ne53 (ninS ne60 (ninS ne52 nin0)))) K39c.1 (ninS ne53 (ninS ne60 (ninS ne52 nin0)))) K92c.1 (ninS ne53 (ninS ne52 (ninS ne60 nin0))))
       have E978 := (Exa.keep (Exa.keep (Exa.keep E120 K38c.1) K39c.1) K92c.1)
       let l8 := lf (vr b18) (vr b17) (vr b15) (vr b11) (vi 0) (vr b18) (vi (-1)) u u u u u
       obtain ⟨_, T128, L128, X128, ⟨rfl, rfl, e128⟩, st128⟩ := own_cv X127 hx hZ hown (own_w1056 hw) hml (g := (mkF m 190 l8 [(.ref b17), (.ref b11)])) (hb hby at_190) e127 E296 [(.ref b17)] [] (lenOf own_pd16 rfl) (rm1060 l Z a0 hw T92.heap b11 b17 (p_1 &&& 2147483647) b20 k23 y10 q14 (oN y10) q13 b21 k31 p_4 p_5 (oN (oN y10)) F977 E978 F473 V474 (by simp only [← hq14, ← hy12]) (by simp only [← hq14]) E296 nq14 F667 V669)
       have F979 := (Fld.keep (Fld.keep F375 K39c.1 (ninS ne271 (ninS ne285 (ninS ne221 nin0)))) K92c.1 (ninS ne271 (ninS ne221 (ninS ne285 nin0))))
       have E980 := (Exa.keep (Exa.keep E376 K39c.1) K92c.1)
       let l9 := lf (vr b18) (vr b17) (vr b15) (vr b11) (vi 0) (vr b18) (vi (-1)) (vi p_4) u u u u
       obtain ⟨_, T222, L222, X222, ⟨rfl, rfl, e222⟩, st222⟩ := own_cv X128 hx hZ hown (own_w1056 hw) hml (g := (mkF m 199 l9 [(.ref b15), (.ref b11)])) (hb hby at_199) e128 E296 [(.ref b15)] [] (lenOf own_pd16 rfl) (rm1162 l Z a0 hw T92.heap b11 b15 (p_2 &&& 2147483647) b20 k23 y10 q14 (oN y10) q13 b21 k31 p_4 p_5 (oN (oN y10)) F979 E980 F473 V474 (by simp only [← hq13, ← hy19]; exact (ar799 y10 )) (by simp only [← hq13, ← hy19]) (by simp only [← hq13]) E296 nq13 F667 V669)
       let l10 := lf (vr b18) (vr b17) (vr b15) (vr b11) (vi 0) (vr b18) (vi (-1)) (vi p_4) (vi p_5) u u u
       refine own_go (T2 := T222) (g2 := (mkF m 204 l10 [])) (fun t k => z_aload X92 hx hby at_177 rfl rfl (z_aload X92 hx hby at_179 rfl rfl (st127 _ (z_istore X127 hx hby at_184 l8 rfl (z_aload X127 hx hby at_186 rfl rfl (z_aload X127 hx hby at_188 rfl rfl (st128 _ (z_istore X128 hx hby at_193 l9 rfl (z_aload X128 hx hby at_195 rfl rfl (z_aload X128 hx hby at_197 rfl rfl (st222 _ (z_istore X222 hx hby at_202 l10 rfl k)))))))))))) ?_
       exact tl1268 X222 hx hby Bd.returns Bd.notSynchronized (by decide) (by decide) (by rw [e222]; simpa only [List.append_nil] using K92) p_0 p_1 p_2 p_3 p_4 p_5 (p_0 &&& 2147483647) (p_1 &&& 2147483647) (p_2 &&& 2147483647) b18 b17 b15 b11
      ·
       let l11 := lf (vr b18) (vr b17) (vr b15) (vr b11) (vi 1) (vr b17) u u u u u u
       let l12 := lf (vr b18) (vr b17) (vr b15) (vr b11) (vi 1) u u u u u u u
       refine own_go (T2 := T39) (g2 := (mkF m 170 l11 [])) (fun t k => z_istore X39 hx hby at_143 l12 rfl (z_iload X39 hx hby at_145 rfl (z_ifYes X39 hx hby 155 at_147 ((if0 _ _).trans (feq (show ¬ ((1 : Int32) = 0) from (by decide))).2) rfl (z_iload X39 hx hby at_155 rfl (z_iconst X39 hx hby at_157 (z_icmpNo X39 hx hby at_158 (teq (show (1 : Int32) = 1 from (by decide))).2 (z_aload X39 hx hby at_161 rfl rfl (z_goto X39 hx hby 168 at_163 rfl (z_astore X39 hx hby at_168 rfl l11 rfl k))))))))) ?_
       have V981 := own_arhN H377 (cn1269 (oN (oN y10)) (oN y10) y10 (.int q13) (.int q14) (.int q16) (ar798 y10 ) (ar758 y10 ) (ar799 y10 ))
       have V982 := own_arhN H378 (cn1269 (oN (oN y10)) (oN y10) y10 (.int p_5) (.int p_4) (.int p_3) (ar798 y10 ) (ar758 y10 ) (ar799 y10 ))
       have F670 := (Fld.keep (Fld.keep F119 K38c.1 (ninS ne53 (ninS ne60 (ninS ne52 nin0)))) K39c.1 (ninS ne53 (ninS ne60 (ninS ne52 nin0))))
       have E671 := (Exa.keep (Exa.keep E120 K38c.1) K39c.1)
       have E475 := (Exa.keep E359 K39c.1)
       obtain ⟨_, T93, L93, X93, ⟨rfl, K93c, H672, F476, F1346, F673, H674⟩, st93⟩ := own_cv X39 hx hZ hown (own_w942 hw) hml (g := (mkF m 174 l11 [(.ref b17), (.ref b11)])) (hb hby at_174) rfl E475 [(.ref b17)] [] (lenOf own_pd15 rfl) (rm1275 l Z a0 hw T39.heap b11 b17 b20 k23 (oN y10) q14 (oN (oN y10)) q13 y10 q16 (p_1 &&& 2147483647) b21 k31 p_4 p_5 p_3 F470 V981 F670 E671 (by simp only [← hq14, ← hy12]; exact (ar944 y10 )) (by simp only [← hq14, ← hy12]; exact (ar943 y10 )) (by simp only [← hq14, ← hy12]) (by simp only [← hq14]; exact dq16q14) nq16 (by simp only [← hq14, ← hy12]) (by simp only [← hq14]) E475 F469 ne45 (by simp only [← hq14, ← hy12]; exact (ar798 y10 )) (by simp only [← hq14, ← hy12]) nq13 (by simp only [← hq14, ← hy12, ← hy19]; exact Int32.lt_irrefl) F471 V982 (Ne.symm ne_b20_b21) (Ne.symm ne46) (by simp only [← hq14, ← hy12]; exact (ar928 y10 )) (by simp only [← hq14, ← hy12]; exact (ar927 y10 )) (by simp only [← hq14, ← hy12]; exact (ar929 y10 )))
       have z_K93c := K93c.1.1
       have K93 := own_kpTrans K39 K93c (allS (Or.inr sz_b20) (allS (Or.inr sz_b11) (allS (Or.inr sz_b21) all0)))
       simp only [← hq14, ← hy12] at H672
       simp only [← hq14, ← hy12] at H674
       refine own_go (T2 := T93) (g2 := (mkF m 177 l11 [])) (fun t k => z_aload X39 hx hby at_170 rfl rfl (z_aload X39 hx hby at_172 rfl rfl (st93 _ k))) ?_
       have V477 := own_arhN H672 (cn1394 (oN (oN y10)) (oN y10) y10 (.int q13) (.int q14) (.int q16) (ar798 y10 ) (ar758 y10 ) (ar799 y10 ))
       have V675 := own_arhN H674 (cn1396 (oN y10) (oN (oN y10)) y10 (.int p_5) (.int p_4) (.int p_3) (ar797 y10 ) (ar799 y10 ) (ar758 y10 ))
       have ne381 := own_nl A18.lt (Nat.le_trans (Nat.le_trans (Nat.le_trans (Nat.le_trans (Nat.le_trans z_K30c z_E17) z_K29c) z_E15) z_K26c) z_E11) lo_b21
       have ne382 := own_nl A18.lt (Nat.le_trans (Nat.le_trans (Nat.le_trans (Nat.le_trans (Nat.le_trans z_K30c z_E17) z_K29c) z_E15) z_K26c) z_E11) lo_b20
       have F983 := (Fld.keep (Fld.keep (Fld.keep (Fld.keep F49 K28c.1 (ninS ne382 (ninS ne381 (ninS ne24 nin0)))) K38c.1 (ninS ne382 (ninS ne381 (ninS ne24 nin0)))) K39c.1 (ninS ne382 (ninS ne381 (ninS ne24 nin0)))) K93c.1 (ninS ne382 (ninS ne24 (ninS ne381 nin0))))
       have E984 := (Exa.keep (Exa.keep (Exa.keep (Exa.keep E50 K28c.1) K38c.1) K39c.1) K93c.1)
       have E297 := (Exa.keep E475 K93c.1)
       obtain ⟨_, T129, L129, X129, ⟨rfl, rfl, e129⟩, st129⟩ := own_cv X93 hx hZ hown (own_w1056 hw) hml (g := (mkF m 181 l11 [(.ref b18), (.ref b11)])) (hb hby at_181) rfl E297 [(.ref b18)] [] (lenOf own_pd16 rfl) (rm1060 l Z a0 hw T93.heap b11 b18 (p_0 &&& 2147483647) b20 k23 y10 q16 (oN y10) q13 b21 k31 p_3 p_5 (oN (oN y10)) F983 E984 F476 V477 (by simp only [← hq16, ← hy10]) (by simp only [← hq16]) E297 nq16 F673 V675)
       have F985 := (Fld.keep F670 K93c.1 (ninS ne53 (ninS ne52 (ninS ne60 nin0))))
       have E986 := (Exa.keep E671 K93c.1)
       let l13 := lf (vr b18) (vr b17) (vr b15) (vr b11) (vi 1) (vr b17) (vi p_3) u u u u u
       obtain ⟨_, T130, L130, X130, ⟨rfl, rfl, e130⟩, st130⟩ := own_cv X129 hx hZ hown (own_w1056 hw) hml (g := (mkF m 190 l13 [(.ref b17), (.ref b11)])) (hb hby at_190) e129 E297 [(.ref b17)] [] (lenOf own_pd16 rfl) (rm950 l Z a0 hw T93.heap b11 b17 (p_1 &&& 2147483647) b20 k23 y10 q16 (oN y10) q13 F985 E986 F476 V477 (by simp only [← hq14, ← hy12]) (by simp only [← hq14]; exact dq16q14) nq16 (by simp only [← hq14, ← hy12]) (by simp only [← hq14]; exact dq13q14) (by simp only [← hq14, ← hy12]; exact (ar799 y10 )) nq13 (by simp only [← hq14, ← hy12]; exact (ar758 y10 )) (by simp only [← hq14, ← hy12]; exact (ar798 y10 )) (by simp only [← hq14]; exact (ar492 q14 nq14)) E297)
       have F987 := (Fld.keep (Fld.keep F375 K39c.1 (ninS ne271 (ninS ne285 (ninS ne221 nin0)))) K93c.1 (ninS ne271 (ninS ne221 (ninS ne285 nin0))))
       have E988 := (Exa.keep (Exa.keep E376 K39c.1) K93c.1)
       let l14 := lf (vr b18) (vr b17) (vr b15) (vr b11) (vi 1) (vr b17) (vi p_3) (vi (-1)) u u u u
       obtain ⟨_, T223, L223, X223, ⟨rfl, rfl, e223⟩, st223⟩ := own_cv X130 hx hZ hown (own_w1056 hw) hml (g := (mkF m 199 l14 [(.ref b15), (.ref b11)])) (hb hby at_199) e130 E297 [(.ref b15)] [] (lenOf own_pd16 rfl) (rm1162 l Z a0 hw T93.heap b11 b15 (p_2 &&& 2147483647) b20 k23 y10 q16 (oN y10) q13 b21 k31 p_3 p_5 (oN (oN y10)) F987 E988 F476 V477 (by simp only [← hq13, ← hy19]; exact (ar799 y10 )) (by simp only [← hq13, ← hy19]) (by simp only [← hq13]) E297 nq13 F673 V675)
       let l15 := lf (vr b18) (vr b17) (vr b15) (vr b11) (vi 1) (vr b17) (vi p_3) (vi (-1)) (vi p_5) u u u
       refine own_go (T2 := T223) (g2 := (mkF m 204 l15 [])) (fun t k => z_aload X93 hx hby at_177 rfl rfl (z_aload X93 hx hby at_179 rfl rfl (st129 _ (z_istore X129 hx hby at_184 l13 rfl (z_aload X129 hx hby at_186 rfl rfl (z_aload X129 hx hby at_188 rfl rfl (st130 _ (z_istore X130 hx hby at_193 l14 rfl (z_aload X130 hx hby at_195 rfl rfl (z_aload X130 hx hby at_197 rfl rfl (st223 _ (z_istore X223 hx hby at_202 l15 rfl k)))))))))))) ?_
       exact tl1427 X223 hx hby Bd.returns Bd.notSynchronized (by decide) (by decide) (by rw [e223]; simpa only [List.append_nil] using K93) p_0 p_1 p_2 p_3 p_4 p_5 (p_0 &&& 2147483647) (p_1 &&& 2147483647) (p_2 &&& 2147483647) b18 b17 b15 b11
      ·
       let l16 := lf (vr b18) (vr b17) (vr b15) (vr b11) (vi 2) (vr b15) u u u u u u
       let l17 := lf (vr b18) (vr b17) (vr b15) (vr b11) (vi 2) u u u u u u u
       refine own_go (T2 := T39) (g2 := (mkF m 170 l16 [])) (fun t k => z_istore X39 hx hby at_143 l17 rfl (z_iload X39 hx hby at_145 rfl (z_ifYes X39 hx hby 155 at_147 ((if0 _ _).trans (feq (show ¬ ((2 : Int32) = 0) from (by decide))).2) rfl (z_iload X39 hx hby at_155 rfl (z_iconst X39 hx hby at_157 (z_icmpYes X39 hx hby 166 at_158 (feq (show ¬ ((2 : Int32) = 1) from (by decide))).2 rfl (z_aload X39 hx hby at_166 rfl rfl (z_astore X39 hx hby at_168 rfl l16 rfl k)))))))) ?_
       have F676 := (Fld.keep F375 K39c.1 (ninS ne271 (ninS ne285 (ninS ne221 nin0))))
       have E677 := (Exa.keep E376 K39c.1)
       have E478 := (Exa.keep E359 K39c.1)
       obtain ⟨_, T61, L61, X61, ⟨rfl, K61c, H678, F479, F1347, F679⟩, st61⟩ := own_cv X39 hx hZ hown (own_w942 hw) hml (g := (mkF m 174 l16 [(.ref b15), (.ref b11)])) (hb hby at_174) rfl E478 [(.ref b15)] [] (lenOf own_pd15 rfl) (rm1433 l Z a0 hw T39.heap b11 b15 b20 k23 (oN (oN y10)) q13 (oN y10) q14 y10 q16 (p_2 &&& 2147483647) b21 F470 H377 F676 E677 (by simp only [← hq13, ← hy19]; exact (ar797 y10 )) (by simp only [← hq13, ← hy19]) (by simp only [← hq13]; exact dq14q13) nq14 (by simp only [← hq13, ← hy19]) (by simp only [← hq13]) E478 F469 ne45 (by simp only [← hq13, ← hy19]; exact (ar927 y10 )) (by simp only [← hq13, ← hy19]; exact (ar928 y10 )) (by simp only [← hq13, ← hy19]; exact (ar929 y10 )) F471)
       have z_K61c := K61c.1.1
       have K61 := own_kpTrans K39 K61c (allS (Or.inr sz_b20) (allS (Or.inr sz_b11) all0))
       simp only [← hq13, ← hy19] at H678
       refine own_go (T2 := T61) (g2 := (mkF m 177 l16 [])) (fun t k => z_aload X39 hx hby at_170 rfl rfl (z_aload X39 hx hby at_172 rfl rfl (st61 _ k))) ?_
       have V480 := own_arhN H678 (cn1518 (oN (oN y10)) (oN y10) y10 (.int q13) (.int q14) (.int q16) (ar798 y10 ) (ar758 y10 ) (ar799 y10 ))
       have H989 := (Arh.keep H378 K61c.1 (ninS (Ne.symm ne_b20_b21) (ninS (Ne.symm ne46) nin0)))
       have V680 := own_arhN H989 (cn800 (oN (oN y10)) (oN y10) y10 (.int p_5) (.int p_4) (.int p_3) (ar798 y10 ) (ar758 y10 ) (ar799 y10 ))
       have ne481 := own_nl A18.lt (Nat.le_trans (Nat.le_trans (Nat.le_trans (Nat.le_trans (Nat.le_trans z_K30c z_E17) z_K29c) z_E15) z_K26c) z_E11) lo_b21
       have ne383 := own_nl A18.lt (Nat.le_trans (Nat.le_trans (Nat.le_trans (Nat.le_trans (Nat.le_trans z_K30c z_E17) z_K29c) z_E15) z_K26c) z_E11) lo_b20
       have F990 := (Fld.keep (Fld.keep (Fld.keep (Fld.keep F49 K28c.1 (ninS ne383 (ninS ne481 (ninS ne24 nin0)))) K38c.1 (ninS ne383 (ninS ne481 (ninS ne24 nin0)))) K39c.1 (ninS ne383 (ninS ne481 (ninS ne24 nin0)))) K61c.1 (ninS ne383 (ninS ne24 nin0)))
       have E991 := (Exa.keep (Exa.keep (Exa.keep (Exa.keep E50 K28c.1) K38c.1) K39c.1) K61c.1)
       have E298 := (Exa.keep E478 K61c.1)
       obtain ⟨_, T131, L131, X131, ⟨rfl, rfl, e131⟩, st131⟩ := own_cv X61 hx hZ hown (own_w1056 hw) hml (g := (mkF m 181 l16 [(.ref b18), (.ref b11)])) (hb hby at_181) rfl E298 [(.ref b18)] [] (lenOf own_pd16 rfl) (rm1536 l Z a0 hw T61.heap b11 b18 (p_0 &&& 2147483647) b20 k23 y10 q16 (oN y10) q14 b21 k31 p_3 p_4 (oN (oN y10)) p_5 F990 E991 F479 V480 (by simp only [← hq16, ← hy10]) (by simp only [← hq16]) E298 nq16 F679 V680)
       have F992 := (Fld.keep (Fld.keep (Fld.keep F119 K38c.1 (ninS ne53 (ninS ne60 (ninS ne52 nin0)))) K39c.1 (ninS ne53 (ninS ne60 (ninS ne52 nin0)))) K61c.1 (ninS ne53 (ninS ne52 nin0)))
       have E993 := (Exa.keep (Exa.keep (Exa.keep E120 K38c.1) K39c.1) K61c.1)
       let l18 := lf (vr b18) (vr b17) (vr b15) (vr b11) (vi 2) (vr b15) (vi p_3) u u u u u
       obtain ⟨_, T132, L132, X132, ⟨rfl, rfl, e132⟩, st132⟩ := own_cv X131 hx hZ hown (own_w1056 hw) hml (g := (mkF m 190 l18 [(.ref b17), (.ref b11)])) (hb hby at_190) e131 E298 [(.ref b17)] [] (lenOf own_pd16 rfl) (rm1638 l Z a0 hw T61.heap b11 b17 (p_1 &&& 2147483647) b20 k23 y10 q16 (oN y10) q14 b21 k31 p_3 p_4 (oN (oN y10)) p_5 F992 E993 F479 V480 (by simp only [← hq14, ← hy12]) (by simp only [← hq14]; exact dq16q14) nq16 (by simp only [← hq14, ← hy12]) (by simp only [← hq14]) E298 (by simp only [← hq14, ← hy12]; exact (ar799 y10 )) nq14 F679 V680)
       have F994 := (Fld.keep F676 K61c.1 (ninS ne271 (ninS ne221 nin0)))
       have E995 := (Exa.keep E677 K61c.1)
       let l19 := lf (vr b18) (vr b17) (vr b15) (vr b11) (vi 2) (vr b15) (vi p_3) (vi p_4) u u u u
       obtain ⟨_, T224, L224, X224, ⟨rfl, rfl, e224⟩, st224⟩ := own_cv X132 hx hZ hown (own_w1056 hw) hml (g := (mkF m 199 l19 [(.ref b15), (.ref b11)])) (hb hby at_199) e132 E298 [(.ref b15)] [] (lenOf own_pd16 rfl) (rm1798 l Z a0 hw T61.heap b11 b15 (p_2 &&& 2147483647) b20 k23 y10 q16 (oN y10) q14 F994 E995 F479 V480 (by simp only [← hq13, ← hy19]; exact (ar799 y10 )) (by simp only [← hq13, ← hy19]) (by simp only [← hq13]; exact dq14q13) nq14 (by simp only [← hq13, ← hy19]; exact (ar758 y10 )) (by simp only [← hq13]; exact (ar492 q13 nq13)) E298)
       let l20 := lf (vr b18) (vr b17) (vr b15) (vr b11) (vi 2) (vr b15) (vi p_3) (vi p_4) (vi (-1)) u u u
       refine own_go (T2 := T224) (g2 := (mkF m 204 l20 [])) (fun t k => z_aload X61 hx hby at_177 rfl rfl (z_aload X61 hx hby at_179 rfl rfl (st131 _ (z_istore X131 hx hby at_184 l18 rfl (z_aload X131 hx hby at_186 rfl rfl (z_aload X131 hx hby at_188 rfl rfl (st132 _ (z_istore X132 hx hby at_193 l19 rfl (z_aload X132 hx hby at_195 rfl rfl (z_aload X132 hx hby at_197 rfl rfl (st224 _ (z_istore X224 hx hby at_202 l20 rfl k)))))))))))) ?_
       exact tl1942 X224 hx hby Bd.returns Bd.notSynchronized (by decide) (by decide) (by rw [e224]; simpa only [List.append_nil] using K61) p_0 p_1 p_2 p_3 p_4 p_5 (p_0 &&& 2147483647) (p_1 &&& 2147483647) (p_2 &&& 2147483647) b18 b17 b15 b11
     ·
      by_cases hc57 : y19 = y10
      ·
       have hc57 := hc57.symm
       subst hc57
       have ne225 := own_nl A15.lt z_K26c lo_b11
       have ne286 := own_nl A15.lt (Nat.le_trans z_K26c z_E11) lo_b21
       have ne272 := own_nl A15.lt (Nat.le_trans z_K26c z_E11) lo_b20
       have F384 := (Fld.keep (Fld.keep (Fld.keep (Fld.ext E11 F270) K51c.1 (ninS ne225 nin0)) K28c.1 (ninS ne272 (ninS ne286 (ninS ne225 nin0)))) K38c.1 (ninS ne272 (ninS ne286 (ninS ne225 nin0))))
       have E385 := (Exa.keep (Exa.keep (Exa.keep (Exa.ext E11 (Exa.keep A15 K26c.1)) K51c.1) K28c.1) K38c.1)
       have E360 := (Exa.keep E358 K38c.1)
       obtain ⟨_, T40, L40, X40, ⟨rfl, K40c, H386, H387, F482, F483, F484⟩, st40⟩ := own_cv X38 hx hZ hown (own_w528 hw) hml (g := (mkF m 133 l5 [(.int p_5), (.ref b15), (.ref b11)])) (hb hby at_133) rfl E360 [(.ref b15), (.int p_5)] [] (lenOf own_pd14 rfl) (rm2007 l Z a0 hw T38.heap b11 b15 p_5 b20 k23 (oN y10) q14 y10 q16 (p_2 &&& 2147483647) b21 k31 p_4 p_3 F466 F467 H373 F384 E385 (by simp only [← hq13, ← hy19]; exact hc54) (by simp only [← hq13, ← hy19]) (by simp only [← hq13]; exact dq16q13) nq16 (by simp only [← hq13, ← hy19]) (by simp only [← hq13]; exact dq14q13) nq14 (by simp only [← hq13, ← hy19]; exact (ar798 y10 )) (by simp only [← hq13, ← hy19]; exact (ar758 y10 )) (by simp only [← hq13]; exact (ar492 q13 nq13)) E360 F468 ne45 H374 (Ne.symm ne_b20_b21) ne46)
       have z_K40c := K40c.1.1
       have K40 := own_kpTrans K38 K40c (allS (Or.inr sz_b20) (allS (Or.inr sz_b21) (allS (Or.inr sz_b11) all0)))
       simp only [← hq13, ← hy19] at H386
       simp only [← hq13, ← hy19] at H387
       refine own_go (T2 := T40) (g2 := (mkF m 143 l5 [(.int ((p_5 &&& 2147483647) % 3))])) (fun t k => st40 _ (z_iload X40 hx hby at_136 rfl (Jvm.Stand.ldcI X40 hx hown (mvT hZ (own_wd hw 0 rfl)) rfl (hb hby at_138) (z_iand X40 hx hby at_140 (z_iconst X40 hx hby at_141 (iremM X40 hx rfl (hb hby at_142) rfl (by decide) k)))))) ?_
       have hrk2123 := own_mod3 p_5
       generalize ((p_5 &&& 2147483647) % 3) = k1348 at hrk2123 ⊢
       rcases hrk2123 with rfl | rfl | rfl
       ·
        let l21 := lf (vr b18) (vr b17) (vr b15) (vr b11) (vi 0) (vr b18) u u u u u u
        let l22 := lf (vr b18) (vr b17) (vr b15) (vr b11) (vi 0) u u u u u u u
        refine own_go (T2 := T40) (g2 := (mkF m 170 l21 [])) (fun t k => z_istore X40 hx hby at_143 l22 rfl (z_iload X40 hx hby at_145 rfl (z_ifNo X40 hx hby at_147 ((if0 _ _).trans (teq (show (0 : Int32) = 0 from (by decide))).2) (z_aload X40 hx hby at_150 rfl rfl (z_goto X40 hx hby 168 at_152 rfl (z_astore X40 hx hby at_168 rfl l21 rfl k)))))) ?_
        have V996 := own_arhN H386 (cn800 (oN (oN y10)) (oN y10) y10 (.int q13) (.int q14) (.int q16) (ar798 y10 ) (ar758 y10 ) (ar799 y10 ))
        have V997 := own_arhN H387 (cn800 (oN (oN y10)) (oN y10) y10 (.int p_5) (.int p_4) (.int p_3) (ar798 y10 ) (ar758 y10 ) (ar799 y10 ))
        have ne388 := own_nl A18.lt (Nat.le_trans (Nat.le_trans (Nat.le_trans (Nat.le_trans (Nat.le_trans z_K30c z_E17) z_K29c) z_E15) z_K26c) z_E11) lo_b21
        have ne389 := own_nl A18.lt (Nat.le_trans (Nat.le_trans (Nat.le_trans (Nat.le_trans (Nat.le_trans z_K30c z_E17) z_K29c) z_E15) z_K26c) z_E11) lo_b20
        have F681 := (Fld.keep (Fld.keep (Fld.keep F49 K28c.1 (ninS ne389 (ninS ne388 (ninS ne24 nin0)))) K38c.1 (ninS ne389 (ninS ne388 (ninS ne24 nin0)))) K40c.1 (ninS ne389 (ninS ne388 (ninS ne24 nin0))))
        have E682 := (Exa.keep (Exa.keep (Exa.keep E50 K28c.1) K38c.1) K40c.1)
        have E485 := (Exa.keep E360 K40c.1)
        obtain ⟨_, T94, L94, X94, ⟨rfl, K94c, H683, F486, F1349, F684, H685⟩, st94⟩ := own_cv X40 hx hZ hown (own_w942 hw) hml (g := (mkF m 174 l21 [(.ref b18), (.ref b11)])) (hb hby at_174) rfl E485 [(.ref b18)] [] (lenOf own_pd15 rfl) (rm804 l Z a0 hw T40.heap b11 b18 b20 k23 y10 q16 (oN y10) q14 (oN (oN y10)) q13 (p_0 &&& 2147483647) b21 k31 p_3 p_4 p_5 F483 V996 F681 E682 (by simp only [← hq16, ← hy10]) (by simp only [← hq16]) E485 F482 ne45 (by simp only [← hq16, ← hy10]; exact (ar799 y10 )) (by simp only [← hq16, ← hy10]) nq14 (by simp only [← hq16, ← hy10, ← hy12]; exact Int32.lt_irrefl) F484 V997 (Ne.symm ne_b20_b21) (Ne.symm ne46) (by simp only [← hq16, ← hy10]; exact (ar758 y10 )) (by simp only [← hq16, ← hy10]; exact (ar798 y10 )) (by simp only [← hq16, ← hy10]) nq13 (by simp only [← hq16, ← hy10, ← hy19]; exact (ar2132 y10 )) (by simp only [← hq16, ← hy10]; exact (ar929 y10 )) (by simp only [← hq16, ← hy10]; exact (ar928 y10 )) (by simp only [← hq16, ← hy10]; exact (ar927 y10 )))
        have z_K94c := K94c.1.1
        have K94 := own_kpTrans K40 K94c (allS (Or.inr sz_b20) (allS (Or.inr sz_b11) (allS (Or.inr sz_b21) all0)))
        simp only [← hq16, ← hy10] at H683
        simp only [← hq16, ← hy10] at H685
        refine own_go (T2 := T94) (g2 := (mkF m 177 l21 [])) (fun t k => z_aload X40 hx hby at_170 rfl rfl (z_aload X40 hx hby at_172 rfl rfl (st94 _ k))) ?_
        have V487 := own_arhN H683 (cn945 (oN (oN y10)) (oN y10) y10 (.int q13) (.int q14) (.int q16) (ar798 y10 ) (ar758 y10 ) (ar799 y10 ))
        have V686 := own_arhN H685 (cn947 (oN y10) y10 (oN (oN y10)) (.int p_5) (.int p_4) (.int p_3) (ar799 y10 ) (ar797 y10 ) (ar943 y10 ))
        have F998 := (Fld.keep F681 K94c.1 (ninS ne389 (ninS ne24 (ninS ne388 nin0))))
        have E999 := (Exa.keep E682 K94c.1)
        have E299 := (Exa.keep E485 K94c.1)
        obtain ⟨_, T133, L133, X133, ⟨rfl, rfl, e133⟩, st133⟩ := own_cv X94 hx hZ hown (own_w1056 hw) hml (g := (mkF m 181 l21 [(.ref b18), (.ref b11)])) (hb hby at_181) rfl E299 [(.ref b18)] [] (lenOf own_pd16 rfl) (rm950 l Z a0 hw T94.heap b11 b18 (p_0 &&& 2147483647) b20 k23 y10 q14 (oN y10) q13 F998 E999 F486 V487 (by simp only [← hq16, ← hy10]) (by simp only [← hq16]; exact dq14q16) nq14 (by simp only [← hq16, ← hy10]) (by simp only [← hq16]; exact dq13q16) (by simp only [← hq16, ← hy10]; exact (ar799 y10 )) nq13 (by simp only [← hq16, ← hy10]; exact (ar758 y10 )) (by simp only [← hq16, ← hy10]; exact (ar798 y10 )) (by simp only [← hq16]; exact (ar492 q16 nq16)) E299)
        have F1000 := (Fld.keep (Fld.keep (Fld.keep F119 K38c.1 (ninS ne53 (ninS ne60 (ninS ne52 nin0)))) K40c.1 (ninS ne53 (ninS ne60 (ninS ne52 nin0)))) K94c.1 (ninS ne53 (ninS ne52 (ninS ne60 nin0))))
        have E1001 := (Exa.keep (Exa.keep (Exa.keep E120 K38c.1) K40c.1) K94c.1)
        let l23 := lf (vr b18) (vr b17) (vr b15) (vr b11) (vi 0) (vr b18) (vi (-1)) u u u u u
        obtain ⟨_, T134, L134, X134, ⟨rfl, rfl, e134⟩, st134⟩ := own_cv X133 hx hZ hown (own_w1056 hw) hml (g := (mkF m 190 l23 [(.ref b17), (.ref b11)])) (hb hby at_190) e133 E299 [(.ref b17)] [] (lenOf own_pd16 rfl) (rm1060 l Z a0 hw T94.heap b11 b17 (p_1 &&& 2147483647) b20 k23 y10 q14 (oN y10) q13 b21 k31 p_4 p_5 (oN (oN y10)) F1000 E1001 F486 V487 (by simp only [← hq14, ← hy12]) (by simp only [← hq14]) E299 nq14 F684 V686)
        have F1002 := (Fld.keep (Fld.keep F384 K40c.1 (ninS ne272 (ninS ne286 (ninS ne225 nin0)))) K94c.1 (ninS ne272 (ninS ne225 (ninS ne286 nin0))))
        have E1003 := (Exa.keep (Exa.keep E385 K40c.1) K94c.1)
        let l24 := lf (vr b18) (vr b17) (vr b15) (vr b11) (vi 0) (vr b18) (vi (-1)) (vi p_4) u u u u
        obtain ⟨_, T226, L226, X226, ⟨rfl, rfl, e226⟩, st226⟩ := own_cv X134 hx hZ hown (own_w1056 hw) hml (g := (mkF m 199 l24 [(.ref b15), (.ref b11)])) (hb hby at_199) e134 E299 [(.ref b15)] [] (lenOf own_pd16 rfl) (rm1638 l Z a0 hw T94.heap b11 b15 (p_2 &&& 2147483647) b20 k23 y10 q14 (oN y10) q13 b21 k31 p_4 p_5 (oN (oN y10)) p_5 F1002 E1003 F486 V487 (by simp only [← hq13, ← hy19]) (by simp only [← hq13]; exact dq14q13) nq14 (by simp only [← hq13, ← hy19]) (by simp only [← hq13]) E299 (by simp only [← hq13, ← hy19]; exact (ar799 y10 )) nq13 F684 V686)
        let l25 := lf (vr b18) (vr b17) (vr b15) (vr b11) (vi 0) (vr b18) (vi (-1)) (vi p_4) (vi p_5) u u u
        refine own_go (T2 := T226) (g2 := (mkF m 204 l25 [])) (fun t k => z_aload X94 hx hby at_177 rfl rfl (z_aload X94 hx hby at_179 rfl rfl (st133 _ (z_istore X133 hx hby at_184 l23 rfl (z_aload X133 hx hby at_186 rfl rfl (z_aload X133 hx hby at_188 rfl rfl (st134 _ (z_istore X134 hx hby at_193 l24 rfl (z_aload X134 hx hby at_195 rfl rfl (z_aload X134 hx hby at_197 rfl rfl (st226 _ (z_istore X226 hx hby at_202 l25 rfl k)))))))))))) ?_
        exact tl1268 X226 hx hby Bd.returns Bd.notSynchronized (by decide) (by decide) (by rw [e226]; simpa only [List.append_nil] using K94) p_0 p_1 p_2 p_3 p_4 p_5 (p_0 &&& 2147483647) (p_1 &&& 2147483647) (p_2 &&& 2147483647) b18 b17 b15 b11
       ·
        let l26 := lf (vr b18) (vr b17) (vr b15) (vr b11) (vi 1) (vr b17) u u u u u u
        let l27 := lf (vr b18) (vr b17) (vr b15) (vr b11) (vi 1) u u u u u u u
        refine own_go (T2 := T40) (g2 := (mkF m 170 l26 [])) (fun t k => z_istore X40 hx hby at_143 l27 rfl (z_iload X40 hx hby at_145 rfl (z_ifYes X40 hx hby 155 at_147 ((if0 _ _).trans (feq (show ¬ ((1 : Int32) = 0) from (by decide))).2) rfl (z_iload X40 hx hby at_155 rfl (z_iconst X40 hx hby at_157 (z_icmpNo X40 hx hby at_158 (teq (show (1 : Int32) = 1 from (by decide))).2 (z_aload X40 hx hby at_161 rfl rfl (z_goto X40 hx hby 168 at_163 rfl (z_astore X40 hx hby at_168 rfl l26 rfl k))))))))) ?_
        have V1004 := own_arhN H386 (cn1269 (oN (oN y10)) (oN y10) y10 (.int q13) (.int q14) (.int q16) (ar798 y10 ) (ar758 y10 ) (ar799 y10 ))
        have V1005 := own_arhN H387 (cn1269 (oN (oN y10)) (oN y10) y10 (.int p_5) (.int p_4) (.int p_3) (ar798 y10 ) (ar758 y10 ) (ar799 y10 ))
        have F687 := (Fld.keep (Fld.keep F119 K38c.1 (ninS ne53 (ninS ne60 (ninS ne52 nin0)))) K40c.1 (ninS ne53 (ninS ne60 (ninS ne52 nin0))))
        have E688 := (Exa.keep (Exa.keep E120 K38c.1) K40c.1)
        have E488 := (Exa.keep E360 K40c.1)
        obtain ⟨_, T95, L95, X95, ⟨rfl, K95c, H689, F489, F1350, F690, H691⟩, st95⟩ := own_cv X40 hx hZ hown (own_w942 hw) hml (g := (mkF m 174 l26 [(.ref b17), (.ref b11)])) (hb hby at_174) rfl E488 [(.ref b17)] [] (lenOf own_pd15 rfl) (rm1275 l Z a0 hw T40.heap b11 b17 b20 k23 (oN y10) q14 (oN (oN y10)) q13 y10 q16 (p_1 &&& 2147483647) b21 k31 p_4 p_5 p_3 F483 V1004 F687 E688 (by simp only [← hq14, ← hy12]; exact hc54) (by simp only [← hq14, ← hy12]; exact (ar943 y10 )) (by simp only [← hq14, ← hy12]) (by simp only [← hq14]; exact dq16q14) nq16 (by simp only [← hq14, ← hy12]) (by simp only [← hq14]) E488 F482 ne45 (by simp only [← hq14, ← hy12]; exact (ar798 y10 )) (by simp only [← hq14, ← hy12]) nq13 (by simp only [← hq14, ← hy12, ← hy19]; exact (ar2132 y10 )) F484 V1005 (Ne.symm ne_b20_b21) (Ne.symm ne46) (by simp only [← hq14, ← hy12]; exact (ar928 y10 )) (by simp only [← hq14, ← hy12]; exact (ar927 y10 )) (by simp only [← hq14, ← hy12]; exact (ar929 y10 )))
        have z_K95c := K95c.1.1
        have K95 := own_kpTrans K40 K95c (allS (Or.inr sz_b20) (allS (Or.inr sz_b11) (allS (Or.inr sz_b21) all0)))
        simp only [← hq14, ← hy12] at H689
        simp only [← hq14, ← hy12] at H691
        refine own_go (T2 := T95) (g2 := (mkF m 177 l26 [])) (fun t k => z_aload X40 hx hby at_170 rfl rfl (z_aload X40 hx hby at_172 rfl rfl (st95 _ k))) ?_
        have V490 := own_arhN H689 (cn1394 (oN (oN y10)) (oN y10) y10 (.int q13) (.int q14) (.int q16) (ar798 y10 ) (ar758 y10 ) (ar799 y10 ))
        have V692 := own_arhN H691 (cn1396 (oN y10) (oN (oN y10)) y10 (.int p_5) (.int p_4) (.int p_3) (ar797 y10 ) (ar799 y10 ) (ar758 y10 ))
        have ne390 := own_nl A18.lt (Nat.le_trans (Nat.le_trans (Nat.le_trans (Nat.le_trans (Nat.le_trans z_K30c z_E17) z_K29c) z_E15) z_K26c) z_E11) lo_b21
        have ne391 := own_nl A18.lt (Nat.le_trans (Nat.le_trans (Nat.le_trans (Nat.le_trans (Nat.le_trans z_K30c z_E17) z_K29c) z_E15) z_K26c) z_E11) lo_b20
        have F1006 := (Fld.keep (Fld.keep (Fld.keep (Fld.keep F49 K28c.1 (ninS ne391 (ninS ne390 (ninS ne24 nin0)))) K38c.1 (ninS ne391 (ninS ne390 (ninS ne24 nin0)))) K40c.1 (ninS ne391 (ninS ne390 (ninS ne24 nin0)))) K95c.1 (ninS ne391 (ninS ne24 (ninS ne390 nin0))))
        have E1007 := (Exa.keep (Exa.keep (Exa.keep (Exa.keep E50 K28c.1) K38c.1) K40c.1) K95c.1)
        have E300 := (Exa.keep E488 K95c.1)
        obtain ⟨_, T135, L135, X135, ⟨rfl, rfl, e135⟩, st135⟩ := own_cv X95 hx hZ hown (own_w1056 hw) hml (g := (mkF m 181 l26 [(.ref b18), (.ref b11)])) (hb hby at_181) rfl E300 [(.ref b18)] [] (lenOf own_pd16 rfl) (rm1060 l Z a0 hw T95.heap b11 b18 (p_0 &&& 2147483647) b20 k23 y10 q16 (oN y10) q13 b21 k31 p_3 p_5 (oN (oN y10)) F1006 E1007 F489 V490 (by simp only [← hq16, ← hy10]) (by simp only [← hq16]) E300 nq16 F690 V692)
        have F1008 := (Fld.keep F687 K95c.1 (ninS ne53 (ninS ne52 (ninS ne60 nin0))))
        have E1009 := (Exa.keep E688 K95c.1)
        let l28 := lf (vr b18) (vr b17) (vr b15) (vr b11) (vi 1) (vr b17) (vi p_3) u u u u u
        obtain ⟨_, T136, L136, X136, ⟨rfl, rfl, e136⟩, st136⟩ := own_cv X135 hx hZ hown (own_w1056 hw) hml (g := (mkF m 190 l28 [(.ref b17), (.ref b11)])) (hb hby at_190) e135 E300 [(.ref b17)] [] (lenOf own_pd16 rfl) (rm950 l Z a0 hw T95.heap b11 b17 (p_1 &&& 2147483647) b20 k23 y10 q16 (oN y10) q13 F1008 E1009 F489 V490 (by simp only [← hq14, ← hy12]) (by simp only [← hq14]; exact dq16q14) nq16 (by simp only [← hq14, ← hy12]) (by simp only [← hq14]; exact dq13q14) (by simp only [← hq14, ← hy12]; exact (ar799 y10 )) nq13 (by simp only [← hq14, ← hy12]; exact (ar758 y10 )) (by simp only [← hq14, ← hy12]; exact (ar798 y10 )) (by simp only [← hq14]; exact (ar492 q14 nq14)) E300)
        have F1010 := (Fld.keep (Fld.keep F384 K40c.1 (ninS ne272 (ninS ne286 (ninS ne225 nin0)))) K95c.1 (ninS ne272 (ninS ne225 (ninS ne286 nin0))))
        have E1011 := (Exa.keep (Exa.keep E385 K40c.1) K95c.1)
        let l29 := lf (vr b18) (vr b17) (vr b15) (vr b11) (vi 1) (vr b17) (vi p_3) (vi (-1)) u u u u
        obtain ⟨_, T227, L227, X227, ⟨rfl, rfl, e227⟩, st227⟩ := own_cv X136 hx hZ hown (own_w1056 hw) hml (g := (mkF m 199 l29 [(.ref b15), (.ref b11)])) (hb hby at_199) e136 E300 [(.ref b15)] [] (lenOf own_pd16 rfl) (rm1638 l Z a0 hw T95.heap b11 b15 (p_2 &&& 2147483647) b20 k23 y10 q16 (oN y10) q13 b21 k31 p_3 p_5 (oN (oN y10)) p_5 F1010 E1011 F489 V490 (by simp only [← hq13, ← hy19]) (by simp only [← hq13]; exact dq16q13) nq16 (by simp only [← hq13, ← hy19]) (by simp only [← hq13]) E300 (by simp only [← hq13, ← hy19]; exact (ar799 y10 )) nq13 F690 V692)
        let l30 := lf (vr b18) (vr b17) (vr b15) (vr b11) (vi 1) (vr b17) (vi p_3) (vi (-1)) (vi p_5) u u u
        refine own_go (T2 := T227) (g2 := (mkF m 204 l30 [])) (fun t k => z_aload X95 hx hby at_177 rfl rfl (z_aload X95 hx hby at_179 rfl rfl (st135 _ (z_istore X135 hx hby at_184 l28 rfl (z_aload X135 hx hby at_186 rfl rfl (z_aload X135 hx hby at_188 rfl rfl (st136 _ (z_istore X136 hx hby at_193 l29 rfl (z_aload X136 hx hby at_195 rfl rfl (z_aload X136 hx hby at_197 rfl rfl (st227 _ (z_istore X227 hx hby at_202 l30 rfl k)))))))))))) ?_
        exact tl1427 X227 hx hby Bd.returns Bd.notSynchronized (by decide) (by decide) (by rw [e227]; simpa only [List.append_nil] using K95) p_0 p_1 p_2 p_3 p_4 p_5 (p_0 &&& 2147483647) (p_1 &&& 2147483647) (p_2 &&& 2147483647) b18 b17 b15 b11
       ·
        let l31 := lf (vr b18) (vr b17) (vr b15) (vr b11) (vi 2) (vr b15) u u u u u u
        let l32 := lf (vr b18) (vr b17) (vr b15) (vr b11) (vi 2) u u u u u u u
        refine own_go (T2 := T40) (g2 := (mkF m 170 l31 [])) (fun t k => z_istore X40 hx hby at_143 l32 rfl (z_iload X40 hx hby at_145 rfl (z_ifYes X40 hx hby 155 at_147 ((if0 _ _).trans (feq (show ¬ ((2 : Int32) = 0) from (by decide))).2) rfl (z_iload X40 hx hby at_155 rfl (z_iconst X40 hx hby at_157 (z_icmpYes X40 hx hby 166 at_158 (feq (show ¬ ((2 : Int32) = 1) from (by decide))).2 rfl (z_aload X40 hx hby at_166 rfl rfl (z_astore X40 hx hby at_168 rfl l31 rfl k)))))))) ?_
        have F693 := (Fld.keep F384 K40c.1 (ninS ne272 (ninS ne286 (ninS ne225 nin0))))
        have E694 := (Exa.keep E385 K40c.1)
        have E491 := (Exa.keep E360 K40c.1)
        obtain ⟨_, T62, L62, X62, ⟨rfl, K62c, H695, F492, F1351, F696⟩, st62⟩ := own_cv X40 hx hZ hown (own_w942 hw) hml (g := (mkF m 174 l31 [(.ref b15), (.ref b11)])) (hb hby at_174) rfl E491 [(.ref b15)] [] (lenOf own_pd15 rfl) (rm2230 l Z a0 hw T40.heap b11 b15 b20 k23 (oN (oN y10)) q13 (oN y10) q14 y10 q16 (p_2 &&& 2147483647) b21 F483 H386 F693 E694 (by simp only [← hq13, ← hy19]; exact (ar943 y10 )) (by simp only [← hq13, ← hy19]; exact hc54) (by simp only [← hq13, ← hy19]) (by simp only [← hq13]; exact dq16q13) nq16 (by simp only [← hq13, ← hy19]; exact (ar797 y10 )) (by simp only [← hq13, ← hy19]) (by simp only [← hq13]; exact dq14q13) nq14 (by simp only [← hq13, ← hy19]) (by simp only [← hq13]) E491 F482 ne45 (by simp only [← hq13, ← hy19]; exact (ar927 y10 )) (by simp only [← hq13, ← hy19]; exact (ar928 y10 )) (by simp only [← hq13, ← hy19]; exact (ar929 y10 )) F484)
        have z_K62c := K62c.1.1
        have K62 := own_kpTrans K40 K62c (allS (Or.inr sz_b20) (allS (Or.inr sz_b11) all0))
        simp only [← hq13, ← hy19] at H695
        refine own_go (T2 := T62) (g2 := (mkF m 177 l31 [])) (fun t k => z_aload X40 hx hby at_170 rfl rfl (z_aload X40 hx hby at_172 rfl rfl (st62 _ k))) ?_
        have V493 := own_arhN H695 (cn1518 (oN (oN y10)) (oN y10) y10 (.int q13) (.int q14) (.int q16) (ar798 y10 ) (ar758 y10 ) (ar799 y10 ))
        have H1012 := (Arh.keep H387 K62c.1 (ninS (Ne.symm ne_b20_b21) (ninS (Ne.symm ne46) nin0)))
        have V697 := own_arhN H1012 (cn800 (oN (oN y10)) (oN y10) y10 (.int p_5) (.int p_4) (.int p_3) (ar798 y10 ) (ar758 y10 ) (ar799 y10 ))
        have ne494 := own_nl A18.lt (Nat.le_trans (Nat.le_trans (Nat.le_trans (Nat.le_trans (Nat.le_trans z_K30c z_E17) z_K29c) z_E15) z_K26c) z_E11) lo_b21
        have ne392 := own_nl A18.lt (Nat.le_trans (Nat.le_trans (Nat.le_trans (Nat.le_trans (Nat.le_trans z_K30c z_E17) z_K29c) z_E15) z_K26c) z_E11) lo_b20
        have F1013 := (Fld.keep (Fld.keep (Fld.keep (Fld.keep F49 K28c.1 (ninS ne392 (ninS ne494 (ninS ne24 nin0)))) K38c.1 (ninS ne392 (ninS ne494 (ninS ne24 nin0)))) K40c.1 (ninS ne392 (ninS ne494 (ninS ne24 nin0)))) K62c.1 (ninS ne392 (ninS ne24 nin0)))
        have E1014 := (Exa.keep (Exa.keep (Exa.keep (Exa.keep E50 K28c.1) K38c.1) K40c.1) K62c.1)
        have E301 := (Exa.keep E491 K62c.1)
        obtain ⟨_, T137, L137, X137, ⟨rfl, rfl, e137⟩, st137⟩ := own_cv X62 hx hZ hown (own_w1056 hw) hml (g := (mkF m 181 l31 [(.ref b18), (.ref b11)])) (hb hby at_181) rfl E301 [(.ref b18)] [] (lenOf own_pd16 rfl) (rm1536 l Z a0 hw T62.heap b11 b18 (p_0 &&& 2147483647) b20 k23 y10 q16 (oN y10) q14 b21 k31 p_3 p_4 (oN (oN y10)) p_5 F1013 E1014 F492 V493 (by simp only [← hq16, ← hy10]) (by simp only [← hq16]) E301 nq16 F696 V697)
        have F1015 := (Fld.keep (Fld.keep (Fld.keep F119 K38c.1 (ninS ne53 (ninS ne60 (ninS ne52 nin0)))) K40c.1 (ninS ne53 (ninS ne60 (ninS ne52 nin0)))) K62c.1 (ninS ne53 (ninS ne52 nin0)))
        have E1016 := (Exa.keep (Exa.keep (Exa.keep E120 K38c.1) K40c.1) K62c.1)
        let l33 := lf (vr b18) (vr b17) (vr b15) (vr b11) (vi 2) (vr b15) (vi p_3) u u u u u
        obtain ⟨_, T138, L138, X138, ⟨rfl, rfl, e138⟩, st138⟩ := own_cv X137 hx hZ hown (own_w1056 hw) hml (g := (mkF m 190 l33 [(.ref b17), (.ref b11)])) (hb hby at_190) e137 E301 [(.ref b17)] [] (lenOf own_pd16 rfl) (rm1638 l Z a0 hw T62.heap b11 b17 (p_1 &&& 2147483647) b20 k23 y10 q16 (oN y10) q14 b21 k31 p_3 p_4 (oN (oN y10)) p_5 F1015 E1016 F492 V493 (by simp only [← hq14, ← hy12]) (by simp only [← hq14]; exact dq16q14) nq16 (by simp only [← hq14, ← hy12]) (by simp only [← hq14]) E301 (by simp only [← hq14, ← hy12]; exact (ar799 y10 )) nq14 F696 V697)
        have F1017 := (Fld.keep F693 K62c.1 (ninS ne272 (ninS ne225 nin0)))
        have E1018 := (Exa.keep E694 K62c.1)
        let l34 := lf (vr b18) (vr b17) (vr b15) (vr b11) (vi 2) (vr b15) (vi p_3) (vi p_4) u u u u
        obtain ⟨_, T228, L228, X228, ⟨rfl, rfl, e228⟩, st228⟩ := own_cv X138 hx hZ hown (own_w1056 hw) hml (g := (mkF m 199 l34 [(.ref b15), (.ref b11)])) (hb hby at_199) e138 E301 [(.ref b15)] [] (lenOf own_pd16 rfl) (rm950 l Z a0 hw T62.heap b11 b15 (p_2 &&& 2147483647) b20 k23 y10 q16 (oN y10) q14 F1017 E1018 F492 V493 (by simp only [← hq13, ← hy19]) (by simp only [← hq13]; exact dq16q13) nq16 (by simp only [← hq13, ← hy19]) (by simp only [← hq13]; exact dq14q13) (by simp only [← hq13, ← hy19]; exact (ar799 y10 )) nq14 (by simp only [← hq13, ← hy19]; exact (ar758 y10 )) (by simp only [← hq13, ← hy19]; exact (ar798 y10 )) (by simp only [← hq13]; exact (ar492 q13 nq13)) E301)
        let l35 := lf (vr b18) (vr b17) (vr b15) (vr b11) (vi 2) (vr b15) (vi p_3) (vi p_4) (vi (-1)) u u u
        refine own_go (T2 := T228) (g2 := (mkF m 204 l35 [])) (fun t k => z_aload X62 hx hby at_177 rfl rfl (z_aload X62 hx hby at_179 rfl rfl (st137 _ (z_istore X137 hx hby at_184 l33 rfl (z_aload X137 hx hby at_186 rfl rfl (z_aload X137 hx hby at_188 rfl rfl (st138 _ (z_istore X138 hx hby at_193 l34 rfl (z_aload X138 hx hby at_195 rfl rfl (z_aload X138 hx hby at_197 rfl rfl (st228 _ (z_istore X228 hx hby at_202 l35 rfl k)))))))))))) ?_
        exact tl1942 X228 hx hby Bd.returns Bd.notSynchronized (by decide) (by decide) (by rw [e228]; simpa only [List.append_nil] using K62) p_0 p_1 p_2 p_3 p_4 p_5 (p_0 &&& 2147483647) (p_1 &&& 2147483647) (p_2 &&& 2147483647) b18 b17 b15 b11
      ·
       have ne110 := own_nl A15.lt z_K26c lo_b11
       have ne139 := own_nl A15.lt (Nat.le_trans z_K26c z_E11) lo_b21
       have ne116 := own_nl A15.lt (Nat.le_trans z_K26c z_E11) lo_b20
       have F287 := (Fld.keep (Fld.keep (Fld.keep (Fld.ext E11 F270) K51c.1 (ninS ne110 nin0)) K28c.1 (ninS ne116 (ninS ne139 (ninS ne110 nin0)))) K38c.1 (ninS ne116 (ninS ne139 (ninS ne110 nin0))))
       have E288 := (Exa.keep (Exa.keep (Exa.keep (Exa.ext E11 (Exa.keep A15 K26c.1)) K51c.1) K28c.1) K38c.1)
       have E273 := (Exa.keep E358 K38c.1)
       obtain ⟨_, T32, L32, X32, ⟨rfl, K32c, H302, H303, F304, F305, F306⟩, st32⟩ := own_cv X38 hx hZ hown (own_w528 hw) hml (g := (mkF m 133 l5 [(.int p_5), (.ref b15), (.ref b11)])) (hb hby at_133) rfl E273 [(.ref b15), (.int p_5)] [] (lenOf own_pd14 rfl) (rm2391 l Z a0 hw T38.heap b11 b15 p_5 b20 k23 (oN y10) q14 y10 q16 (p_2 &&& 2147483647) b21 k31 p_4 p_3 F466 F467 H373 F287 E288 (by simp only [← hq13, ← hy19]; exact hc54) (by simp only [← hq13, ← hy19]; exact hc57) (by simp only [← hq13]; exact (ar492 q13 nq13)) E273 F468 ne45 H374 (Ne.symm ne_b20_b21) ne46)
       have z_K32c := K32c.1.1
       have K32 := own_kpTrans K38 K32c (allS (Or.inr sz_b20) (allS (Or.inr sz_b21) (allS (Or.inr sz_b11) all0)))
       simp only [← hq13, ← hy19] at H302
       simp only [← hq13, ← hy19] at H303
       refine own_go (T2 := T32) (g2 := (mkF m 143 l5 [(.int ((p_5 &&& 2147483647) % 3))])) (fun t k => st32 _ (z_iload X32 hx hby at_136 rfl (Jvm.Stand.ldcI X32 hx hown (mvT hZ (own_wd hw 0 rfl)) rfl (hb hby at_138) (z_iand X32 hx hby at_140 (z_iconst X32 hx hby at_141 (iremM X32 hx rfl (hb hby at_142) rfl (by decide) k)))))) ?_
       have hrk2483 := own_mod3 p_5
       generalize ((p_5 &&& 2147483647) % 3) = k1352 at hrk2483 ⊢
       rcases hrk2483 with rfl | rfl | rfl
       ·
        let l36 := lf (vr b18) (vr b17) (vr b15) (vr b11) (vi 0) (vr b18) u u u u u u
        let l37 := lf (vr b18) (vr b17) (vr b15) (vr b11) (vi 0) u u u u u u u
        refine own_go (T2 := T32) (g2 := (mkF m 170 l36 [])) (fun t k => z_istore X32 hx hby at_143 l37 rfl (z_iload X32 hx hby at_145 rfl (z_ifNo X32 hx hby at_147 ((if0 _ _).trans (teq (show (0 : Int32) = 0 from (by decide))).2) (z_aload X32 hx hby at_150 rfl rfl (z_goto X32 hx hby 168 at_152 rfl (z_astore X32 hx hby at_168 rfl l36 rfl k)))))) ?_
        have V698 := own_arhN H302 (cn800 y19 (oN y10) y10 (.int q13) (.int q14) (.int q16) hc54 hc57 (ar799 y10 ))
        have V699 := own_arhN H303 (cn800 y19 (oN y10) y10 (.int p_5) (.int p_4) (.int p_3) hc54 hc57 (ar799 y10 ))
        refine own_go (T2 := T32) (g2 := (mkF m 174 l36 [(.ref b18), (.ref b11)])) (fun t k => z_aload X32 hx hby at_170 rfl rfl (z_aload X32 hx hby at_172 rfl rfl k)) ?_
        by_cases hc393 : (oN (oN y10)) = y19
        ·
         have ne394 := own_nl A18.lt (Nat.le_trans (Nat.le_trans (Nat.le_trans (Nat.le_trans (Nat.le_trans z_K30c z_E17) z_K29c) z_E15) z_K26c) z_E11) lo_b21
         have ne395 := own_nl A18.lt (Nat.le_trans (Nat.le_trans (Nat.le_trans (Nat.le_trans (Nat.le_trans z_K30c z_E17) z_K29c) z_E15) z_K26c) z_E11) lo_b20
         have F700 := (Fld.keep (Fld.keep (Fld.keep F49 K28c.1 (ninS ne395 (ninS ne394 (ninS ne24 nin0)))) K38c.1 (ninS ne395 (ninS ne394 (ninS ne24 nin0)))) K32c.1 (ninS ne395 (ninS ne394 (ninS ne24 nin0))))
         have E701 := (Exa.keep (Exa.keep (Exa.keep E50 K28c.1) K38c.1) K32c.1)
         have E495 := (Exa.keep E273 K32c.1)
         obtain ⟨_, T96, L96, X96, ⟨rfl, K96c, H702, F496, F1353, F703, H704⟩, st96⟩ := own_cv X32 hx hZ hown (own_w942 hw) hml (g := (mkF m 174 l36 [(.ref b18), (.ref b11)])) (hb hby at_174) rfl E495 [(.ref b18)] [] (lenOf own_pd15 rfl) (rm2603 l Z a0 hw T32.heap b11 b18 b20 k23 y10 q16 (oN y10) q14 y19 q13 (p_0 &&& 2147483647) b21 k31 p_3 p_4 p_5 F305 V698 F700 E701 (by simp only [← hq16, ← hy10]) (by simp only [← hq16]) E495 F304 ne45 (by simp only [← hq16, ← hy10]; exact (ar799 y10 )) (by simp only [← hq16, ← hy10]) nq14 (by simp only [← hq16, ← hy10, ← hy12]; exact Int32.lt_irrefl) F306 V699 (Ne.symm ne_b20_b21) (Ne.symm ne46) (by simp only [← hq16, ← hy10]; exact (ar758 y10 )) (by simp only [← hq16, ← hy10]; exact (ar798 y10 )) (by simp only [← hq16, ← hy10]; exact hc393) nq13 (by simp only [← hq16, ← hy10, ← hy19]; exact (ar2590 y10 y19 hc393)) (by simp only [← hq16, ← hy10]; exact (ar929 y10 )) (by simp only [← hq16, ← hy10]; exact (ar928 y10 )) (by simp only [← hq16, ← hy10]; exact (ar2691 y10 y19 hc393)))
         have z_K96c := K96c.1.1
         have K96 := own_kpTrans K32 K96c (allS (Or.inr sz_b20) (allS (Or.inr sz_b11) (allS (Or.inr sz_b21) all0)))
         simp only [← hq16, ← hy10] at H702
         simp only [← hq16, ← hy10] at H704
         refine own_go (T2 := T96) (g2 := (mkF m 177 l36 [])) (fun t k => st96 _ k) ?_
         have V497 := own_arhN H702 (cn2703 (oN y10) y10 y19 (.int q14) (.int q16) (.int q13) (ar799 y10 ) (ar2484 y10 y19 hc54) (ar2702 y10 y19 hc57))
         have V705 := own_arhN H704 (cn2705 y10 (oN y10) y19 (.int p_4) (.int p_3) (.int p_5) (ar944 y10 ) (ar2702 y10 y19 hc57) (ar2484 y10 y19 hc54))
         have F1019 := (Fld.keep F700 K96c.1 (ninS ne395 (ninS ne24 (ninS ne394 nin0))))
         have E1020 := (Exa.keep E701 K96c.1)
         have E307 := (Exa.keep E495 K96c.1)
         obtain ⟨_, T140, L140, X140, ⟨rfl, rfl, e140⟩, st140⟩ := own_cv X96 hx hZ hown (own_w1056 hw) hml (g := (mkF m 181 l36 [(.ref b18), (.ref b11)])) (hb hby at_181) rfl E307 [(.ref b18)] [] (lenOf own_pd16 rfl) (rm2720 l Z a0 hw T96.heap b11 b18 (p_0 &&& 2147483647) b20 k23 y10 q14 y19 q13 F1019 E1020 F496 V497 (by simp only [← hq16, ← hy10]) (by simp only [← hq16]; exact dq14q16) nq14 (by simp only [← hq16, ← hy10]; exact (ar2484 y10 y19 hc54)) (by simp only [← hq16]; exact (ar492 q16 nq16)) E307)
         have F1021 := (Fld.keep (Fld.keep (Fld.keep F119 K38c.1 (ninS ne53 (ninS ne60 (ninS ne52 nin0)))) K32c.1 (ninS ne53 (ninS ne60 (ninS ne52 nin0)))) K96c.1 (ninS ne53 (ninS ne52 (ninS ne60 nin0))))
         have E1022 := (Exa.keep (Exa.keep (Exa.keep E120 K38c.1) K32c.1) K96c.1)
         let l38 := lf (vr b18) (vr b17) (vr b15) (vr b11) (vi 0) (vr b18) (vi (-1)) u u u u u
         obtain ⟨_, T141, L141, X141, ⟨rfl, rfl, e141⟩, st141⟩ := own_cv X140 hx hZ hown (own_w1056 hw) hml (g := (mkF m 190 l38 [(.ref b17), (.ref b11)])) (hb hby at_190) e140 E307 [(.ref b17)] [] (lenOf own_pd16 rfl) (rm2793 l Z a0 hw T96.heap b11 b17 (p_1 &&& 2147483647) b20 k23 y10 q14 y19 q13 b21 k31 p_4 (oN y10) p_5 F1021 E1022 F496 V497 (by simp only [← hq14, ← hy12]) (by simp only [← hq14]) E307 nq14 F703 V705)
         have F1023 := (Fld.keep (Fld.keep F287 K32c.1 (ninS ne116 (ninS ne139 (ninS ne110 nin0)))) K96c.1 (ninS ne116 (ninS ne110 (ninS ne139 nin0))))
         have E1024 := (Exa.keep (Exa.keep E288 K32c.1) K96c.1)
         let l39 := lf (vr b18) (vr b17) (vr b15) (vr b11) (vi 0) (vr b18) (vi (-1)) (vi p_4) u u u u
         obtain ⟨_, T229, L229, X229, ⟨rfl, rfl, e229⟩, st229⟩ := own_cv X141 hx hZ hown (own_w1056 hw) hml (g := (mkF m 199 l39 [(.ref b15), (.ref b11)])) (hb hby at_199) e141 E307 [(.ref b15)] [] (lenOf own_pd16 rfl) (rm2899 l Z a0 hw T96.heap b11 b15 (p_2 &&& 2147483647) b20 k23 y10 q14 y19 q13 b21 k31 p_4 (oN y10) p_5 F1023 E1024 F496 V497 (by simp only [← hq13, ← hy19]; exact hc57) (by simp only [← hq13, ← hy19]) (by simp only [← hq13]) E307 nq13 F703 V705 (by simp only [← hq13, ← hy19]; exact hc54))
         let l40 := lf (vr b18) (vr b17) (vr b15) (vr b11) (vi 0) (vr b18) (vi (-1)) (vi p_4) (vi p_5) u u u
         refine own_go (T2 := T229) (g2 := (mkF m 204 l40 [])) (fun t k => z_aload X96 hx hby at_177 rfl rfl (z_aload X96 hx hby at_179 rfl rfl (st140 _ (z_istore X140 hx hby at_184 l38 rfl (z_aload X140 hx hby at_186 rfl rfl (z_aload X140 hx hby at_188 rfl rfl (st141 _ (z_istore X141 hx hby at_193 l39 rfl (z_aload X141 hx hby at_195 rfl rfl (z_aload X141 hx hby at_197 rfl rfl (st229 _ (z_istore X229 hx hby at_202 l40 rfl k)))))))))))) ?_
         exact tl1268 X229 hx hby Bd.returns Bd.notSynchronized (by decide) (by decide) (by rw [e229]; simpa only [List.append_nil] using K96) p_0 p_1 p_2 p_3 p_4 p_5 (p_0 &&& 2147483647) (p_1 &&& 2147483647) (p_2 &&& 2147483647) b18 b17 b15 b11
        ·
         have ne396 := own_nl A18.lt (Nat.le_trans (Nat.le_trans (Nat.le_trans (Nat.le_trans (Nat.le_trans z_K30c z_E17) z_K29c) z_E15) z_K26c) z_E11) lo_b21
         have ne397 := own_nl A18.lt (Nat.le_trans (Nat.le_trans (Nat.le_trans (Nat.le_trans (Nat.le_trans z_K30c z_E17) z_K29c) z_E15) z_K26c) z_E11) lo_b20
         have F706 := (Fld.keep (Fld.keep (Fld.keep F49 K28c.1 (ninS ne397 (ninS ne396 (ninS ne24 nin0)))) K38c.1 (ninS ne397 (ninS ne396 (ninS ne24 nin0)))) K32c.1 (ninS ne397 (ninS ne396 (ninS ne24 nin0))))
         have E707 := (Exa.keep (Exa.keep (Exa.keep E50 K28c.1) K38c.1) K32c.1)
         have E498 := (Exa.keep E273 K32c.1)
         obtain ⟨_, T97, L97, X97, ⟨rfl, K97c, H708, F499, F1354, F709, H710⟩, st97⟩ := own_cv X32 hx hZ hown (own_w942 hw) hml (g := (mkF m 174 l36 [(.ref b18), (.ref b11)])) (hb hby at_174) rfl E498 [(.ref b18)] [] (lenOf own_pd15 rfl) (rm3021 l Z a0 hw T32.heap b11 b18 b20 k23 y10 q16 (oN y10) q14 y19 q13 (p_0 &&& 2147483647) b21 k31 p_3 p_4 p_5 F305 V698 F706 E707 (by simp only [← hq16, ← hy10]) (by simp only [← hq16]) E498 F304 ne45 (by simp only [← hq16, ← hy10]; exact (ar799 y10 )) (by simp only [← hq16, ← hy10]) nq14 (by simp only [← hq16, ← hy10, ← hy12]; exact Int32.lt_irrefl) F306 V699 (Ne.symm ne_b20_b21) (Ne.symm ne46) (by simp only [← hq16, ← hy10]; exact (ar758 y10 )) (by simp only [← hq16, ← hy10]; exact (ar798 y10 )) (by simp only [← hq16, ← hy10]; exact hc393))
         have z_K97c := K97c.1.1
         have K97 := own_kpTrans K32 K97c (allS (Or.inr sz_b20) (allS (Or.inr sz_b11) (allS (Or.inr sz_b21) all0)))
         simp only [← hq16, ← hy10] at H708
         simp only [← hq16, ← hy10] at H710
         refine own_go (T2 := T97) (g2 := (mkF m 177 l36 [])) (fun t k => st97 _ k) ?_
         have V500 := own_arhN H708 (cn2703 (oN y10) y10 y19 (.int q14) (.int q16) (.int q13) (ar799 y10 ) (ar2484 y10 y19 hc54) (ar2702 y10 y19 hc57))
         have V711 := own_arhN H710 (cn2705 y10 (oN y10) y19 (.int p_4) (.int p_3) (.int p_5) (ar944 y10 ) (ar2702 y10 y19 hc57) (ar2484 y10 y19 hc54))
         have F1025 := (Fld.keep F706 K97c.1 (ninS ne397 (ninS ne24 (ninS ne396 nin0))))
         have E1026 := (Exa.keep E707 K97c.1)
         have E308 := (Exa.keep E498 K97c.1)
         obtain ⟨_, T142, L142, X142, ⟨rfl, rfl, e142⟩, st142⟩ := own_cv X97 hx hZ hown (own_w1056 hw) hml (g := (mkF m 181 l36 [(.ref b18), (.ref b11)])) (hb hby at_181) rfl E308 [(.ref b18)] [] (lenOf own_pd16 rfl) (rm2720 l Z a0 hw T97.heap b11 b18 (p_0 &&& 2147483647) b20 k23 y10 q14 y19 q13 F1025 E1026 F499 V500 (by simp only [← hq16, ← hy10]) (by simp only [← hq16]; exact dq14q16) nq14 (by simp only [← hq16, ← hy10]; exact (ar2484 y10 y19 hc54)) (by simp only [← hq16]; exact (ar492 q16 nq16)) E308)
         have F1027 := (Fld.keep (Fld.keep (Fld.keep F119 K38c.1 (ninS ne53 (ninS ne60 (ninS ne52 nin0)))) K32c.1 (ninS ne53 (ninS ne60 (ninS ne52 nin0)))) K97c.1 (ninS ne53 (ninS ne52 (ninS ne60 nin0))))
         have E1028 := (Exa.keep (Exa.keep (Exa.keep E120 K38c.1) K32c.1) K97c.1)
         let l41 := lf (vr b18) (vr b17) (vr b15) (vr b11) (vi 0) (vr b18) (vi (-1)) u u u u u
         obtain ⟨_, T143, L143, X143, ⟨rfl, rfl, e143⟩, st143⟩ := own_cv X142 hx hZ hown (own_w1056 hw) hml (g := (mkF m 190 l41 [(.ref b17), (.ref b11)])) (hb hby at_190) e142 E308 [(.ref b17)] [] (lenOf own_pd16 rfl) (rm2793 l Z a0 hw T97.heap b11 b17 (p_1 &&& 2147483647) b20 k23 y10 q14 y19 q13 b21 k31 p_4 (oN y10) p_5 F1027 E1028 F499 V500 (by simp only [← hq14, ← hy12]) (by simp only [← hq14]) E308 nq14 F709 V711)
         have F1029 := (Fld.keep (Fld.keep F287 K32c.1 (ninS ne116 (ninS ne139 (ninS ne110 nin0)))) K97c.1 (ninS ne116 (ninS ne110 (ninS ne139 nin0))))
         have E1030 := (Exa.keep (Exa.keep E288 K32c.1) K97c.1)
         let l42 := lf (vr b18) (vr b17) (vr b15) (vr b11) (vi 0) (vr b18) (vi (-1)) (vi p_4) u u u u
         obtain ⟨_, T230, L230, X230, ⟨rfl, rfl, e230⟩, st230⟩ := own_cv X143 hx hZ hown (own_w1056 hw) hml (g := (mkF m 199 l42 [(.ref b15), (.ref b11)])) (hb hby at_199) e143 E308 [(.ref b15)] [] (lenOf own_pd16 rfl) (rm2899 l Z a0 hw T97.heap b11 b15 (p_2 &&& 2147483647) b20 k23 y10 q14 y19 q13 b21 k31 p_4 (oN y10) p_5 F1029 E1030 F499 V500 (by simp only [← hq13, ← hy19]; exact hc57) (by simp only [← hq13, ← hy19]) (by simp only [← hq13]) E308 nq13 F709 V711 (by simp only [← hq13, ← hy19]; exact hc54))
         let l43 := lf (vr b18) (vr b17) (vr b15) (vr b11) (vi 0) (vr b18) (vi (-1)) (vi p_4) (vi p_5) u u u
         refine own_go (T2 := T230) (g2 := (mkF m 204 l43 [])) (fun t k => z_aload X97 hx hby at_177 rfl rfl (z_aload X97 hx hby at_179 rfl rfl (st142 _ (z_istore X142 hx hby at_184 l41 rfl (z_aload X142 hx hby at_186 rfl rfl (z_aload X142 hx hby at_188 rfl rfl (st143 _ (z_istore X143 hx hby at_193 l42 rfl (z_aload X143 hx hby at_195 rfl rfl (z_aload X143 hx hby at_197 rfl rfl (st230 _ (z_istore X230 hx hby at_202 l43 rfl k)))))))))))) ?_
         exact tl1268 X230 hx hby Bd.returns Bd.notSynchronized (by decide) (by decide) (by rw [e230]; simpa only [List.append_nil] using K97) p_0 p_1 p_2 p_3 p_4 p_5 (p_0 &&& 2147483647) (p_1 &&& 2147483647) (p_2 &&& 2147483647) b18 b17 b15 b11
       ·
        let l44 := lf (vr b18) (vr b17) (vr b15) (vr b11) (vi 1) (vr b17) u u u u u u
        let l45 := lf (vr b18) (vr b17) (vr b15) (vr b11) (vi 1) u u u u u u u
        refine own_go (T2 := T32) (g2 := (mkF m 170 l44 [])) (fun t k => z_istore X32 hx hby at_143 l45 rfl (z_iload X32 hx hby at_145 rfl (z_ifYes X32 hx hby 155 at_147 ((if0 _ _).trans (feq (show ¬ ((1 : Int32) = 0) from (by decide))).2) rfl (z_iload X32 hx hby at_155 rfl (z_iconst X32 hx hby at_157 (z_icmpNo X32 hx hby at_158 (teq (show (1 : Int32) = 1 from (by decide))).2 (z_aload X32 hx hby at_161 rfl rfl (z_goto X32 hx hby 168 at_163 rfl (z_astore X32 hx hby at_168 rfl l44 rfl k))))))))) ?_
        by_cases hc398 : (oN (oN y10)) = y19
        ·
         have V1031 := own_arhN H302 (cn1269 y19 (oN y10) y10 (.int q13) (.int q14) (.int q16) hc54 hc57 (ar799 y10 ))
         have V1032 := own_arhN H303 (cn1269 y19 (oN y10) y10 (.int p_5) (.int p_4) (.int p_3) hc54 hc57 (ar799 y10 ))
         have F712 := (Fld.keep (Fld.keep F119 K38c.1 (ninS ne53 (ninS ne60 (ninS ne52 nin0)))) K32c.1 (ninS ne53 (ninS ne60 (ninS ne52 nin0))))
         have E713 := (Exa.keep (Exa.keep E120 K38c.1) K32c.1)
         have E501 := (Exa.keep E273 K32c.1)
         obtain ⟨_, T63, L63, X63, ⟨rfl, K63c, H714, F502, F1355, F715⟩, st63⟩ := own_cv X32 hx hZ hown (own_w942 hw) hml (g := (mkF m 174 l44 [(.ref b17), (.ref b11)])) (hb hby at_174) rfl E501 [(.ref b17)] [] (lenOf own_pd15 rfl) (rm3187 l Z a0 hw T32.heap b11 b17 b20 k23 (oN y10) q14 y19 q13 y10 q16 (p_1 &&& 2147483647) b21 F305 V1031 F712 E713 (by simp only [← hq14, ← hy12]; exact (ar944 y10 )) (by simp only [← hq14, ← hy12]; exact (ar2702 y10 y19 hc57)) (by simp only [← hq14, ← hy12]) (by simp only [← hq14]; exact dq16q14) nq16 (by simp only [← hq14, ← hy12]) (by simp only [← hq14]) E501 F304 ne45 (by simp only [← hq14, ← hy12]; exact (ar798 y10 )) (by simp only [← hq14, ← hy12]; exact hc398) nq13 (by simp only [← hq14, ← hy12, ← hy19]; exact (ar2590 y10 y19 hc398)) (by simp only [← hq14, ← hy12]; exact (ar928 y10 )) (by simp only [← hq14, ← hy12]; exact (ar2691 y10 y19 hc398)) (by simp only [← hq14, ← hy12]; exact (ar929 y10 )) F306)
         have z_K63c := K63c.1.1
         have K63 := own_kpTrans K32 K63c (allS (Or.inr sz_b20) (allS (Or.inr sz_b11) all0))
         simp only [← hq14, ← hy12] at H714
         refine own_go (T2 := T63) (g2 := (mkF m 177 l44 [])) (fun t k => z_aload X32 hx hby at_170 rfl rfl (z_aload X32 hx hby at_172 rfl rfl (st63 _ k))) ?_
         have V503 := own_arhN H714 (cn1518 (oN y10) y19 y10 (.int q14) (.int q13) (.int q16) (ar2484 y10 y19 hc54) (ar799 y10 ) hc57)
         have H1033 := (Arh.keep V1032 K63c.1 (ninS (Ne.symm ne_b20_b21) (ninS (Ne.symm ne46) nin0)))
         have V716 := own_arhN H1033 (cn3261 (oN y10) y19 y10 (.int p_4) (.int p_5) (.int p_3) (ar2484 y10 y19 hc54) (ar799 y10 ) hc57)
         have ne504 := own_nl A18.lt (Nat.le_trans (Nat.le_trans (Nat.le_trans (Nat.le_trans (Nat.le_trans z_K30c z_E17) z_K29c) z_E15) z_K26c) z_E11) lo_b21
         have ne399 := own_nl A18.lt (Nat.le_trans (Nat.le_trans (Nat.le_trans (Nat.le_trans (Nat.le_trans z_K30c z_E17) z_K29c) z_E15) z_K26c) z_E11) lo_b20
         have F1034 := (Fld.keep (Fld.keep (Fld.keep (Fld.keep F49 K28c.1 (ninS ne399 (ninS ne504 (ninS ne24 nin0)))) K38c.1 (ninS ne399 (ninS ne504 (ninS ne24 nin0)))) K32c.1 (ninS ne399 (ninS ne504 (ninS ne24 nin0)))) K63c.1 (ninS ne399 (ninS ne24 nin0)))
         have E1035 := (Exa.keep (Exa.keep (Exa.keep (Exa.keep E50 K28c.1) K38c.1) K32c.1) K63c.1)
         have E309 := (Exa.keep E501 K63c.1)
         obtain ⟨_, T144, L144, X144, ⟨rfl, rfl, e144⟩, st144⟩ := own_cv X63 hx hZ hown (own_w1056 hw) hml (g := (mkF m 181 l44 [(.ref b18), (.ref b11)])) (hb hby at_181) rfl E309 [(.ref b18)] [] (lenOf own_pd16 rfl) (rm3303 l Z a0 hw T63.heap b11 b18 (p_0 &&& 2147483647) b20 k23 y10 q16 y19 q13 b21 k31 p_3 (oN y10) p_4 p_5 F1034 E1035 F502 V503 (by simp only [← hq16, ← hy10]) (by simp only [← hq16]) E309 nq16 F715 V716)
         have F1036 := (Fld.keep F712 K63c.1 (ninS ne53 (ninS ne52 nin0)))
         have E1037 := (Exa.keep E713 K63c.1)
         let l46 := lf (vr b18) (vr b17) (vr b15) (vr b11) (vi 1) (vr b17) (vi p_3) u u u u u
         obtain ⟨_, T145, L145, X145, ⟨rfl, rfl, e145⟩, st145⟩ := own_cv X144 hx hZ hown (own_w1056 hw) hml (g := (mkF m 190 l46 [(.ref b17), (.ref b11)])) (hb hby at_190) e144 E309 [(.ref b17)] [] (lenOf own_pd16 rfl) (rm2720 l Z a0 hw T63.heap b11 b17 (p_1 &&& 2147483647) b20 k23 y10 q16 y19 q13 F1036 E1037 F502 V503 (by simp only [← hq14, ← hy12]) (by simp only [← hq14]; exact dq16q14) nq16 (by simp only [← hq14, ← hy12]; exact (ar2484 y10 y19 hc54)) (by simp only [← hq14]; exact (ar492 q14 nq14)) E309)
         have F1038 := (Fld.keep (Fld.keep F287 K32c.1 (ninS ne116 (ninS ne139 (ninS ne110 nin0)))) K63c.1 (ninS ne116 (ninS ne110 nin0)))
         have E1039 := (Exa.keep (Exa.keep E288 K32c.1) K63c.1)
         let l47 := lf (vr b18) (vr b17) (vr b15) (vr b11) (vi 1) (vr b17) (vi p_3) (vi (-1)) u u u u
         obtain ⟨_, T231, L231, X231, ⟨rfl, rfl, e231⟩, st231⟩ := own_cv X145 hx hZ hown (own_w1056 hw) hml (g := (mkF m 199 l47 [(.ref b15), (.ref b11)])) (hb hby at_199) e145 E309 [(.ref b15)] [] (lenOf own_pd16 rfl) (rm3434 l Z a0 hw T63.heap b11 b15 (p_2 &&& 2147483647) b20 k23 y10 q16 y19 q13 b21 k31 p_3 (oN y10) p_4 p_5 F1038 E1039 F502 V503 (by simp only [← hq13, ← hy19]; exact hc57) (by simp only [← hq13, ← hy19]) (by simp only [← hq13]) E309 nq13 F715 V716 (by simp only [← hq13, ← hy19]; exact hc54))
         let l48 := lf (vr b18) (vr b17) (vr b15) (vr b11) (vi 1) (vr b17) (vi p_3) (vi (-1)) (vi p_5) u u u
         refine own_go (T2 := T231) (g2 := (mkF m 204 l48 [])) (fun t k => z_aload X63 hx hby at_177 rfl rfl (z_aload X63 hx hby at_179 rfl rfl (st144 _ (z_istore X144 hx hby at_184 l46 rfl (z_aload X144 hx hby at_186 rfl rfl (z_aload X144 hx hby at_188 rfl rfl (st145 _ (z_istore X145 hx hby at_193 l47 rfl (z_aload X145 hx hby at_195 rfl rfl (z_aload X145 hx hby at_197 rfl rfl (st231 _ (z_istore X231 hx hby at_202 l48 rfl k)))))))))))) ?_
         exact tl1427 X231 hx hby Bd.returns Bd.notSynchronized (by decide) (by decide) (by rw [e231]; simpa only [List.append_nil] using K63) p_0 p_1 p_2 p_3 p_4 p_5 (p_0 &&& 2147483647) (p_1 &&& 2147483647) (p_2 &&& 2147483647) b18 b17 b15 b11
        ·
         have V1040 := own_arhN H302 (cn1269 y19 (oN y10) y10 (.int q13) (.int q14) (.int q16) hc54 hc57 (ar799 y10 ))
         have V1041 := own_arhN H303 (cn1269 y19 (oN y10) y10 (.int p_5) (.int p_4) (.int p_3) hc54 hc57 (ar799 y10 ))
         have F717 := (Fld.keep (Fld.keep F119 K38c.1 (ninS ne53 (ninS ne60 (ninS ne52 nin0)))) K32c.1 (ninS ne53 (ninS ne60 (ninS ne52 nin0))))
         have E718 := (Exa.keep (Exa.keep E120 K38c.1) K32c.1)
         have E505 := (Exa.keep E273 K32c.1)
         obtain ⟨_, T64, L64, X64, ⟨rfl, K64c, H719, F506, F1356, F720⟩, st64⟩ := own_cv X32 hx hZ hown (own_w942 hw) hml (g := (mkF m 174 l44 [(.ref b17), (.ref b11)])) (hb hby at_174) rfl E505 [(.ref b17)] [] (lenOf own_pd15 rfl) (rm3553 l Z a0 hw T32.heap b11 b17 b20 k23 (oN y10) q14 y19 q13 y10 q16 (p_1 &&& 2147483647) b21 F305 V1040 F717 E718 (by simp only [← hq14, ← hy12]; exact (ar944 y10 )) (by simp only [← hq14, ← hy12]; exact (ar2702 y10 y19 hc57)) (by simp only [← hq14, ← hy12]) (by simp only [← hq14]; exact dq16q14) nq16 (by simp only [← hq14, ← hy12]) (by simp only [← hq14]) E505 F304 ne45 (by simp only [← hq14, ← hy12]; exact (ar798 y10 )) (by simp only [← hq14, ← hy12]; exact hc398) (by simp only [← hq14, ← hy12]; exact (ar758 y10 )) F306)
         have z_K64c := K64c.1.1
         have K64 := own_kpTrans K32 K64c (allS (Or.inr sz_b20) (allS (Or.inr sz_b11) all0))
         simp only [← hq14, ← hy12] at H719
         refine own_go (T2 := T64) (g2 := (mkF m 177 l44 [])) (fun t k => z_aload X32 hx hby at_170 rfl rfl (z_aload X32 hx hby at_172 rfl rfl (st64 _ k))) ?_
         have V507 := own_arhN H719 (cn1518 (oN y10) y19 y10 (.int q14) (.int q13) (.int q16) (ar2484 y10 y19 hc54) (ar799 y10 ) hc57)
         have H1042 := (Arh.keep V1041 K64c.1 (ninS (Ne.symm ne_b20_b21) (ninS (Ne.symm ne46) nin0)))
         have V721 := own_arhN H1042 (cn3261 (oN y10) y19 y10 (.int p_4) (.int p_5) (.int p_3) (ar2484 y10 y19 hc54) (ar799 y10 ) hc57)
         have ne508 := own_nl A18.lt (Nat.le_trans (Nat.le_trans (Nat.le_trans (Nat.le_trans (Nat.le_trans z_K30c z_E17) z_K29c) z_E15) z_K26c) z_E11) lo_b21
         have ne400 := own_nl A18.lt (Nat.le_trans (Nat.le_trans (Nat.le_trans (Nat.le_trans (Nat.le_trans z_K30c z_E17) z_K29c) z_E15) z_K26c) z_E11) lo_b20
         have F1043 := (Fld.keep (Fld.keep (Fld.keep (Fld.keep F49 K28c.1 (ninS ne400 (ninS ne508 (ninS ne24 nin0)))) K38c.1 (ninS ne400 (ninS ne508 (ninS ne24 nin0)))) K32c.1 (ninS ne400 (ninS ne508 (ninS ne24 nin0)))) K64c.1 (ninS ne400 (ninS ne24 nin0)))
         have E1044 := (Exa.keep (Exa.keep (Exa.keep (Exa.keep E50 K28c.1) K38c.1) K32c.1) K64c.1)
         have E310 := (Exa.keep E505 K64c.1)
         obtain ⟨_, T146, L146, X146, ⟨rfl, rfl, e146⟩, st146⟩ := own_cv X64 hx hZ hown (own_w1056 hw) hml (g := (mkF m 181 l44 [(.ref b18), (.ref b11)])) (hb hby at_181) rfl E310 [(.ref b18)] [] (lenOf own_pd16 rfl) (rm3303 l Z a0 hw T64.heap b11 b18 (p_0 &&& 2147483647) b20 k23 y10 q16 y19 q13 b21 k31 p_3 (oN y10) p_4 p_5 F1043 E1044 F506 V507 (by simp only [← hq16, ← hy10]) (by simp only [← hq16]) E310 nq16 F720 V721)
         have F1045 := (Fld.keep F717 K64c.1 (ninS ne53 (ninS ne52 nin0)))
         have E1046 := (Exa.keep E718 K64c.1)
         let l49 := lf (vr b18) (vr b17) (vr b15) (vr b11) (vi 1) (vr b17) (vi p_3) u u u u u
         obtain ⟨_, T147, L147, X147, ⟨rfl, rfl, e147⟩, st147⟩ := own_cv X146 hx hZ hown (own_w1056 hw) hml (g := (mkF m 190 l49 [(.ref b17), (.ref b11)])) (hb hby at_190) e146 E310 [(.ref b17)] [] (lenOf own_pd16 rfl) (rm2720 l Z a0 hw T64.heap b11 b17 (p_1 &&& 2147483647) b20 k23 y10 q16 y19 q13 F1045 E1046 F506 V507 (by simp only [← hq14, ← hy12]) (by simp only [← hq14]; exact dq16q14) nq16 (by simp only [← hq14, ← hy12]; exact (ar2484 y10 y19 hc54)) (by simp only [← hq14]; exact (ar492 q14 nq14)) E310)
         have F1047 := (Fld.keep (Fld.keep F287 K32c.1 (ninS ne116 (ninS ne139 (ninS ne110 nin0)))) K64c.1 (ninS ne116 (ninS ne110 nin0)))
         have E1048 := (Exa.keep (Exa.keep E288 K32c.1) K64c.1)
         let l50 := lf (vr b18) (vr b17) (vr b15) (vr b11) (vi 1) (vr b17) (vi p_3) (vi (-1)) u u u u
         obtain ⟨_, T232, L232, X232, ⟨rfl, rfl, e232⟩, st232⟩ := own_cv X147 hx hZ hown (own_w1056 hw) hml (g := (mkF m 199 l50 [(.ref b15), (.ref b11)])) (hb hby at_199) e147 E310 [(.ref b15)] [] (lenOf own_pd16 rfl) (rm3434 l Z a0 hw T64.heap b11 b15 (p_2 &&& 2147483647) b20 k23 y10 q16 y19 q13 b21 k31 p_3 (oN y10) p_4 p_5 F1047 E1048 F506 V507 (by simp only [← hq13, ← hy19]; exact hc57) (by simp only [← hq13, ← hy19]) (by simp only [← hq13]) E310 nq13 F720 V721 (by simp only [← hq13, ← hy19]; exact hc54))
         let l51 := lf (vr b18) (vr b17) (vr b15) (vr b11) (vi 1) (vr b17) (vi p_3) (vi (-1)) (vi p_5) u u u
         refine own_go (T2 := T232) (g2 := (mkF m 204 l51 [])) (fun t k => z_aload X64 hx hby at_177 rfl rfl (z_aload X64 hx hby at_179 rfl rfl (st146 _ (z_istore X146 hx hby at_184 l49 rfl (z_aload X146 hx hby at_186 rfl rfl (z_aload X146 hx hby at_188 rfl rfl (st147 _ (z_istore X147 hx hby at_193 l50 rfl (z_aload X147 hx hby at_195 rfl rfl (z_aload X147 hx hby at_197 rfl rfl (st232 _ (z_istore X232 hx hby at_202 l51 rfl k)))))))))))) ?_
         exact tl1427 X232 hx hby Bd.returns Bd.notSynchronized (by decide) (by decide) (by rw [e232]; simpa only [List.append_nil] using K64) p_0 p_1 p_2 p_3 p_4 p_5 (p_0 &&& 2147483647) (p_1 &&& 2147483647) (p_2 &&& 2147483647) b18 b17 b15 b11
       ·
        let l52 := lf (vr b18) (vr b17) (vr b15) (vr b11) (vi 2) (vr b15) u u u u u u
        let l53 := lf (vr b18) (vr b17) (vr b15) (vr b11) (vi 2) u u u u u u u
        refine own_go (T2 := T32) (g2 := (mkF m 170 l52 [])) (fun t k => z_istore X32 hx hby at_143 l53 rfl (z_iload X32 hx hby at_145 rfl (z_ifYes X32 hx hby 155 at_147 ((if0 _ _).trans (feq (show ¬ ((2 : Int32) = 0) from (by decide))).2) rfl (z_iload X32 hx hby at_155 rfl (z_iconst X32 hx hby at_157 (z_icmpYes X32 hx hby 166 at_158 (feq (show ¬ ((2 : Int32) = 1) from (by decide))).2 rfl (z_aload X32 hx hby at_166 rfl rfl (z_astore X32 hx hby at_168 rfl l52 rfl k)))))))) ?_
        by_cases hc274 : (oN y19) = y10
        ·
         have V1049 := own_arhN H302 (cn3713 y19 (oN y10) y10 (.int q13) (.int q14) (.int q16) hc54 hc57 (ar799 y10 ))
         have V1050 := own_arhN H303 (cn3713 y19 (oN y10) y10 (.int p_5) (.int p_4) (.int p_3) hc54 hc57 (ar799 y10 ))
         have F722 := (Fld.keep F287 K32c.1 (ninS ne116 (ninS ne139 (ninS ne110 nin0))))
         have E723 := (Exa.keep E288 K32c.1)
         have E509 := (Exa.keep E273 K32c.1)
         obtain ⟨_, T65, L65, X65, ⟨rfl, K65c, H724, F510, F1357, F725⟩, st65⟩ := own_cv X32 hx hZ hown (own_w942 hw) hml (g := (mkF m 174 l52 [(.ref b15), (.ref b11)])) (hb hby at_174) rfl E509 [(.ref b15)] [] (lenOf own_pd15 rfl) (rm3737 l Z a0 hw T32.heap b11 b15 b20 k23 y19 q13 y10 q16 (oN y10) q14 (p_2 &&& 2147483647) b21 F305 V1049 F722 E723 (by simp only [← hq13, ← hy19]) (by simp only [← hq13]) E509 F304 ne45 (by simp only [← hq13, ← hy19]; exact (ar799 y19 )) (by simp only [← hq13, ← hy19]; exact hc274) nq16 (by simp only [← hy10, ← hq13, ← hy19]; exact (ar3720 y19 y10 hc274)) (by simp only [← hq13, ← hy19]; exact (ar758 y19 )) (by simp only [← hq13, ← hy19]; exact (ar3788 y19 y10 hc274)) (by simp only [← hq13, ← hy19]; exact (ar3790 y19 y10 hc274)) nq14 (by simp only [← hy12, ← hq13, ← hy19]; exact (ar3797 y19 y10 hc274)) (by simp only [← hq13, ← hy19]; exact (ar929 y19 )) (by simp only [← hq13, ← hy19]; exact (ar3801 y19 y10 hc274)) (by simp only [← hq13, ← hy19]; exact (ar3803 y19 y10 hc274)) F306)
         have z_K65c := K65c.1.1
         have K65 := own_kpTrans K32 K65c (allS (Or.inr sz_b20) (allS (Or.inr sz_b11) all0))
         simp only [← hq13, ← hy19] at H724
         refine own_go (T2 := T65) (g2 := (mkF m 177 l52 [])) (fun t k => z_aload X32 hx hby at_170 rfl rfl (z_aload X32 hx hby at_172 rfl rfl (st65 _ k))) ?_
         have V511 := own_arhN H724 (cn3814 y19 y10 (oN y10) (.int q13) (.int q16) (.int q14) hc57 hc54 (ar944 y10 ))
         have H1051 := (Arh.keep V1050 K65c.1 (ninS (Ne.symm ne_b20_b21) (ninS (Ne.symm ne46) nin0)))
         have V726 := own_arhN H1051 (cn3817 y19 y10 (oN y10) (.int p_5) (.int p_3) (.int p_4) hc57 hc54 (ar944 y10 ))
         have ne512 := own_nl A18.lt (Nat.le_trans (Nat.le_trans (Nat.le_trans (Nat.le_trans (Nat.le_trans z_K30c z_E17) z_K29c) z_E15) z_K26c) z_E11) lo_b21
         have ne401 := own_nl A18.lt (Nat.le_trans (Nat.le_trans (Nat.le_trans (Nat.le_trans (Nat.le_trans z_K30c z_E17) z_K29c) z_E15) z_K26c) z_E11) lo_b20
         have F1052 := (Fld.keep (Fld.keep (Fld.keep (Fld.keep F49 K28c.1 (ninS ne401 (ninS ne512 (ninS ne24 nin0)))) K38c.1 (ninS ne401 (ninS ne512 (ninS ne24 nin0)))) K32c.1 (ninS ne401 (ninS ne512 (ninS ne24 nin0)))) K65c.1 (ninS ne401 (ninS ne24 nin0)))
         have E1053 := (Exa.keep (Exa.keep (Exa.keep (Exa.keep E50 K28c.1) K38c.1) K32c.1) K65c.1)
         have E311 := (Exa.keep E509 K65c.1)
         obtain ⟨_, T148, L148, X148, ⟨rfl, rfl, e148⟩, st148⟩ := own_cv X65 hx hZ hown (own_w1056 hw) hml (g := (mkF m 181 l52 [(.ref b18), (.ref b11)])) (hb hby at_181) rfl E311 [(.ref b18)] [] (lenOf own_pd16 rfl) (rm1536 l Z a0 hw T65.heap b11 b18 (p_0 &&& 2147483647) b20 k23 y10 q16 (oN y10) q14 b21 k31 p_3 p_4 y19 p_5 F1052 E1053 F510 V511 (by simp only [← hq16, ← hy10]) (by simp only [← hq16]) E311 nq16 F725 V726)
         have F1054 := (Fld.keep (Fld.keep (Fld.keep F119 K38c.1 (ninS ne53 (ninS ne60 (ninS ne52 nin0)))) K32c.1 (ninS ne53 (ninS ne60 (ninS ne52 nin0)))) K65c.1 (ninS ne53 (ninS ne52 nin0)))
         have E1055 := (Exa.keep (Exa.keep (Exa.keep E120 K38c.1) K32c.1) K65c.1)
         let l54 := lf (vr b18) (vr b17) (vr b15) (vr b11) (vi 2) (vr b15) (vi p_3) u u u u u
         obtain ⟨_, T149, L149, X149, ⟨rfl, rfl, e149⟩, st149⟩ := own_cv X148 hx hZ hown (own_w1056 hw) hml (g := (mkF m 190 l54 [(.ref b17), (.ref b11)])) (hb hby at_190) e148 E311 [(.ref b17)] [] (lenOf own_pd16 rfl) (rm1638 l Z a0 hw T65.heap b11 b17 (p_1 &&& 2147483647) b20 k23 y10 q16 (oN y10) q14 b21 k31 p_3 p_4 y19 p_5 F1054 E1055 F510 V511 (by simp only [← hq14, ← hy12]) (by simp only [← hq14]; exact dq16q14) nq16 (by simp only [← hq14, ← hy12]) (by simp only [← hq14]) E311 (by simp only [← hq14, ← hy12]; exact (ar799 y10 )) nq14 F725 V726)
         have F1056 := (Fld.keep F722 K65c.1 (ninS ne116 (ninS ne110 nin0)))
         have E1057 := (Exa.keep E723 K65c.1)
         let l55 := lf (vr b18) (vr b17) (vr b15) (vr b11) (vi 2) (vr b15) (vi p_3) (vi p_4) u u u u
         obtain ⟨_, T233, L233, X233, ⟨rfl, rfl, e233⟩, st233⟩ := own_cv X149 hx hZ hown (own_w1056 hw) hml (g := (mkF m 199 l55 [(.ref b15), (.ref b11)])) (hb hby at_199) e149 E311 [(.ref b15)] [] (lenOf own_pd16 rfl) (rm3879 l Z a0 hw T65.heap b11 b15 (p_2 &&& 2147483647) b20 k23 y10 q16 (oN y10) q14 F1056 E1057 F510 V511 (by simp only [← hq13, ← hy19]; exact hc57) (by simp only [← hq13, ← hy19]; exact hc54) (by simp only [← hq13]; exact (ar492 q13 nq13)) E311)
         let l56 := lf (vr b18) (vr b17) (vr b15) (vr b11) (vi 2) (vr b15) (vi p_3) (vi p_4) (vi (-1)) u u u
         refine own_go (T2 := T233) (g2 := (mkF m 204 l56 [])) (fun t k => z_aload X65 hx hby at_177 rfl rfl (z_aload X65 hx hby at_179 rfl rfl (st148 _ (z_istore X148 hx hby at_184 l54 rfl (z_aload X148 hx hby at_186 rfl rfl (z_aload X148 hx hby at_188 rfl rfl (st149 _ (z_istore X149 hx hby at_193 l55 rfl (z_aload X149 hx hby at_195 rfl rfl (z_aload X149 hx hby at_197 rfl rfl (st233 _ (z_istore X233 hx hby at_202 l56 rfl k)))))))))))) ?_
         exact tl1942 X233 hx hby Bd.returns Bd.notSynchronized (by decide) (by decide) (by rw [e233]; simpa only [List.append_nil] using K65) p_0 p_1 p_2 p_3 p_4 p_5 (p_0 &&& 2147483647) (p_1 &&& 2147483647) (p_2 &&& 2147483647) b18 b17 b15 b11
        ·
         have F727 := (Fld.keep F287 K32c.1 (ninS ne116 (ninS ne139 (ninS ne110 nin0))))
         have E728 := (Exa.keep E288 K32c.1)
         have E513 := (Exa.keep E273 K32c.1)
         obtain ⟨_, T66, L66, X66, ⟨rfl, K66c, H729, F514, F1358, F730⟩, st66⟩ := own_cv X32 hx hZ hown (own_w942 hw) hml (g := (mkF m 174 l52 [(.ref b15), (.ref b11)])) (hb hby at_174) rfl E513 [(.ref b15)] [] (lenOf own_pd15 rfl) (rm4053 l Z a0 hw T32.heap b11 b15 b20 k23 y19 q13 (oN y10) q14 y10 q16 (p_2 &&& 2147483647) b21 F305 H302 F727 E728 (by simp only [← hq13, ← hy19]) (by simp only [← hq13]) E513 F304 ne45 (by simp only [← hq13, ← hy19]; exact (ar799 y19 )) (by simp only [← hq13, ← hy19]; exact (ar3711 y19 y10 ly12 uy12 ly19 uy19 hc57)) (by simp only [← hq13, ← hy19]; exact hc274) F306)
         have z_K66c := K66c.1.1
         have K66 := own_kpTrans K32 K66c (allS (Or.inr sz_b20) (allS (Or.inr sz_b11) all0))
         simp only [← hq13, ← hy19] at H729
         refine own_go (T2 := T66) (g2 := (mkF m 177 l52 [])) (fun t k => z_aload X32 hx hby at_170 rfl rfl (z_aload X32 hx hby at_172 rfl rfl (st66 _ k))) ?_
         have V515 := own_arhN H729 (cn1518 y19 (oN y10) y10 (.int q13) (.int q14) (.int q16) hc54 hc57 (ar799 y10 ))
         have H1058 := (Arh.keep H303 K66c.1 (ninS (Ne.symm ne_b20_b21) (ninS (Ne.symm ne46) nin0)))
         have V731 := own_arhN H1058 (cn800 y19 (oN y10) y10 (.int p_5) (.int p_4) (.int p_3) hc54 hc57 (ar799 y10 ))
         have ne516 := own_nl A18.lt (Nat.le_trans (Nat.le_trans (Nat.le_trans (Nat.le_trans (Nat.le_trans z_K30c z_E17) z_K29c) z_E15) z_K26c) z_E11) lo_b21
         have ne402 := own_nl A18.lt (Nat.le_trans (Nat.le_trans (Nat.le_trans (Nat.le_trans (Nat.le_trans z_K30c z_E17) z_K29c) z_E15) z_K26c) z_E11) lo_b20
         have F1059 := (Fld.keep (Fld.keep (Fld.keep (Fld.keep F49 K28c.1 (ninS ne402 (ninS ne516 (ninS ne24 nin0)))) K38c.1 (ninS ne402 (ninS ne516 (ninS ne24 nin0)))) K32c.1 (ninS ne402 (ninS ne516 (ninS ne24 nin0)))) K66c.1 (ninS ne402 (ninS ne24 nin0)))
         have E1060 := (Exa.keep (Exa.keep (Exa.keep (Exa.keep E50 K28c.1) K38c.1) K32c.1) K66c.1)
         have E312 := (Exa.keep E513 K66c.1)
         obtain ⟨_, T150, L150, X150, ⟨rfl, rfl, e150⟩, st150⟩ := own_cv X66 hx hZ hown (own_w1056 hw) hml (g := (mkF m 181 l52 [(.ref b18), (.ref b11)])) (hb hby at_181) rfl E312 [(.ref b18)] [] (lenOf own_pd16 rfl) (rm1536 l Z a0 hw T66.heap b11 b18 (p_0 &&& 2147483647) b20 k23 y10 q16 (oN y10) q14 b21 k31 p_3 p_4 y19 p_5 F1059 E1060 F514 V515 (by simp only [← hq16, ← hy10]) (by simp only [← hq16]) E312 nq16 F730 V731)
         have F1061 := (Fld.keep (Fld.keep (Fld.keep F119 K38c.1 (ninS ne53 (ninS ne60 (ninS ne52 nin0)))) K32c.1 (ninS ne53 (ninS ne60 (ninS ne52 nin0)))) K66c.1 (ninS ne53 (ninS ne52 nin0)))
         have E1062 := (Exa.keep (Exa.keep (Exa.keep E120 K38c.1) K32c.1) K66c.1)
         let l57 := lf (vr b18) (vr b17) (vr b15) (vr b11) (vi 2) (vr b15) (vi p_3) u u u u u
         obtain ⟨_, T151, L151, X151, ⟨rfl, rfl, e151⟩, st151⟩ := own_cv X150 hx hZ hown (own_w1056 hw) hml (g := (mkF m 190 l57 [(.ref b17), (.ref b11)])) (hb hby at_190) e150 E312 [(.ref b17)] [] (lenOf own_pd16 rfl) (rm1638 l Z a0 hw T66.heap b11 b17 (p_1 &&& 2147483647) b20 k23 y10 q16 (oN y10) q14 b21 k31 p_3 p_4 y19 p_5 F1061 E1062 F514 V515 (by simp only [← hq14, ← hy12]) (by simp only [← hq14]; exact dq16q14) nq16 (by simp only [← hq14, ← hy12]) (by simp only [← hq14]) E312 (by simp only [← hq14, ← hy12]; exact (ar799 y10 )) nq14 F730 V731)
         have F1063 := (Fld.keep F727 K66c.1 (ninS ne116 (ninS ne110 nin0)))
         have E1064 := (Exa.keep E728 K66c.1)
         let l58 := lf (vr b18) (vr b17) (vr b15) (vr b11) (vi 2) (vr b15) (vi p_3) (vi p_4) u u u u
         obtain ⟨_, T234, L234, X234, ⟨rfl, rfl, e234⟩, st234⟩ := own_cv X151 hx hZ hown (own_w1056 hw) hml (g := (mkF m 199 l58 [(.ref b15), (.ref b11)])) (hb hby at_199) e151 E312 [(.ref b15)] [] (lenOf own_pd16 rfl) (rm3879 l Z a0 hw T66.heap b11 b15 (p_2 &&& 2147483647) b20 k23 y10 q16 (oN y10) q14 F1063 E1064 F514 V515 (by simp only [← hq13, ← hy19]; exact hc57) (by simp only [← hq13, ← hy19]; exact hc54) (by simp only [← hq13]; exact (ar492 q13 nq13)) E312)
         let l59 := lf (vr b18) (vr b17) (vr b15) (vr b11) (vi 2) (vr b15) (vi p_3) (vi p_4) (vi (-1)) u u u
         refine own_go (T2 := T234) (g2 := (mkF m 204 l59 [])) (fun t k => z_aload X66 hx hby at_177 rfl rfl (z_aload X66 hx hby at_179 rfl rfl (st150 _ (z_istore X150 hx hby at_184 l57 rfl (z_aload X150 hx hby at_186 rfl rfl (z_aload X150 hx hby at_188 rfl rfl (st151 _ (z_istore X151 hx hby at_193 l58 rfl (z_aload X151 hx hby at_195 rfl rfl (z_aload X151 hx hby at_197 rfl rfl (st234 _ (z_istore X234 hx hby at_202 l59 rfl k)))))))))))) ?_
         exact tl1942 X234 hx hby Bd.returns Bd.notSynchronized (by decide) (by decide) (by rw [e234]; simpa only [List.append_nil] using K66) p_0 p_1 p_2 p_3 p_4 p_5 (p_0 &&& 2147483647) (p_1 &&& 2147483647) (p_2 &&& 2147483647) b18 b17 b15 b11
    ·
     have ne1065 := own_nl A17.lt z_K29c lo_b15
     have ne35 := own_nl A17.lt (Nat.le_trans (Nat.le_trans z_K29c z_E15) z_K26c) lo_b11
     have ne43 := own_nl A17.lt (Nat.le_trans (Nat.le_trans (Nat.le_trans z_K29c z_E15) z_K26c) z_E11) lo_b21
     have ne36 := own_nl A17.lt (Nat.le_trans (Nat.le_trans (Nat.le_trans z_K29c z_E15) z_K26c) z_E11) lo_b20
     have F55 := (Fld.keep (Fld.keep (Fld.ext E11 (Fld.keep (Fld.ext E15 F659) K26c.1 (ninS ne1065 nin0))) K51c.1 (ninS ne35 nin0)) K28c.1 (ninS ne36 (ninS ne43 (ninS ne35 nin0))))
     have E56 := (Exa.keep (Exa.keep (Exa.ext E11 (Exa.keep (Exa.ext E15 (Exa.keep A17 K29c.1)) K26c.1)) K51c.1) K28c.1)
     have E289 := (Exa.keep E372 K28c.1)
     obtain ⟨_, T25, L25, X25, ⟨rfl, K25c, H313, H314, F361, F362, F363⟩, st25⟩ := own_cv X28 hx hZ hown (own_w528 hw) hml (g := (mkF m 124 l5 [(.int p_4), (.ref b17), (.ref b11)])) (hb hby at_124) rfl E289 [(.ref b17), (.int p_4)] [] (lenOf own_pd14 rfl) (rm4179 l Z a0 hw T28.heap b11 b17 p_4 b20 k23 y10 q16 (p_1 &&& 2147483647) b21 k31 p_3 F661 F662 H464 F55 E56 (by simp only [← hq14, ← hy12]; exact hc27) (by simp only [← hq14]; exact (ar492 q14 nq14)) E289 F663 ne45 H465 (Ne.symm ne_b20_b21) ne46)
     have z_K25c := K25c.1.1
     have K25 := own_kpTrans K28 K25c (allS (Or.inr sz_b20) (allS (Or.inr sz_b21) (allS (Or.inr sz_b11) all0)))
     simp only [← hq14, ← hy12] at H313
     simp only [← hq14, ← hy12] at H314
     refine own_go (T2 := T25) (g2 := (mkF m 133 l5 [(.int p_5), (.ref b15), (.ref b11)])) (fun t k => st25 _ (z_aload X25 hx hby at_127 rfl rfl (z_aload X25 hx hby at_129 rfl rfl (z_iload X25 hx hby at_131 rfl k)))) ?_
     by_cases hc37 : y19 = y12
     ·
      have hc37 := hc37.symm
      subst hc37
      by_cases hc47 : (oN y12) = y10
      ·
       have ne235 := own_nl A15.lt z_K26c lo_b11
       have ne290 := own_nl A15.lt (Nat.le_trans z_K26c z_E11) lo_b21
       have ne275 := own_nl A15.lt (Nat.le_trans z_K26c z_E11) lo_b20
       have F403 := (Fld.keep (Fld.keep (Fld.keep (Fld.ext E11 F270) K51c.1 (ninS ne235 nin0)) K28c.1 (ninS ne275 (ninS ne290 (ninS ne235 nin0)))) K25c.1 (ninS ne275 (ninS ne290 (ninS ne235 nin0))))
       have E404 := (Exa.keep (Exa.keep (Exa.keep (Exa.ext E11 (Exa.keep A15 K26c.1)) K51c.1) K28c.1) K25c.1)
       have E364 := (Exa.keep E289 K25c.1)
       obtain ⟨_, T41, L41, X41, ⟨rfl, K41c, H405, H406, F517, F518, F519⟩, st41⟩ := own_cv X25 hx hZ hown (own_w528 hw) hml (g := (mkF m 133 l5 [(.int p_5), (.ref b15), (.ref b11)])) (hb hby at_133) rfl E364 [(.ref b15), (.int p_5)] [] (lenOf own_pd14 rfl) (rm4417 l Z a0 hw T25.heap b11 b15 p_5 b20 k23 y12 q14 y10 q16 (p_2 &&& 2147483647) b21 k31 p_4 p_3 F361 F362 H313 F403 E404 (by simp only [← hq13, ← hy19]) (by simp only [← hq13]; exact dq14q13) nq14 (by simp only [← hq13, ← hy19]; exact hc47) (by simp only [← hq13]; exact dq16q13) (by simp only [← hq13, ← hy19]; exact (ar799 y12 )) nq16 (by simp only [← hq13, ← hy19]; exact (ar758 y12 )) (by simp only [← hq13, ← hy19]; exact (ar3788 y12 y10 hc47)) (by simp only [← hq13]; exact (ar492 q13 nq13)) E364 F363 ne45 H314 (Ne.symm ne_b20_b21) ne46)
       have z_K41c := K41c.1.1
       have K41 := own_kpTrans K25 K41c (allS (Or.inr sz_b20) (allS (Or.inr sz_b21) (allS (Or.inr sz_b11) all0)))
       simp only [← hq13, ← hy19] at H405
       simp only [← hq13, ← hy19] at H406
       refine own_go (T2 := T41) (g2 := (mkF m 143 l5 [(.int ((p_5 &&& 2147483647) % 3))])) (fun t k => st41 _ (z_iload X41 hx hby at_136 rfl (Jvm.Stand.ldcI X41 hx hown (mvT hZ (own_wd hw 0 rfl)) rfl (hb hby at_138) (z_iand X41 hx hby at_140 (z_iconst X41 hx hby at_141 (iremM X41 hx rfl (hb hby at_142) rfl (by decide) k)))))) ?_
       have hrk4499 := own_mod3 p_5
       generalize ((p_5 &&& 2147483647) % 3) = k1359 at hrk4499 ⊢
       rcases hrk4499 with rfl | rfl | rfl
       ·
        let l60 := lf (vr b18) (vr b17) (vr b15) (vr b11) (vi 0) (vr b18) u u u u u u
        let l61 := lf (vr b18) (vr b17) (vr b15) (vr b11) (vi 0) u u u u u u u
        refine own_go (T2 := T41) (g2 := (mkF m 170 l60 [])) (fun t k => z_istore X41 hx hby at_143 l61 rfl (z_iload X41 hx hby at_145 rfl (z_ifNo X41 hx hby at_147 ((if0 _ _).trans (teq (show (0 : Int32) = 0 from (by decide))).2) (z_aload X41 hx hby at_150 rfl rfl (z_goto X41 hx hby 168 at_152 rfl (z_astore X41 hx hby at_168 rfl l60 rfl k)))))) ?_
        have V1066 := own_arhN H405 (cn3261 (oN (oN y12)) y12 y10 (.int q13) (.int q14) (.int q16) (ar758 y12 ) (ar3788 y12 y10 hc47) hc27)
        have V1067 := own_arhN H406 (cn3261 (oN (oN y12)) y12 y10 (.int p_5) (.int p_4) (.int p_3) (ar758 y12 ) (ar3788 y12 y10 hc47) hc27)
        have ne407 := own_nl A18.lt (Nat.le_trans (Nat.le_trans (Nat.le_trans (Nat.le_trans (Nat.le_trans z_K30c z_E17) z_K29c) z_E15) z_K26c) z_E11) lo_b21
        have ne408 := own_nl A18.lt (Nat.le_trans (Nat.le_trans (Nat.le_trans (Nat.le_trans (Nat.le_trans z_K30c z_E17) z_K29c) z_E15) z_K26c) z_E11) lo_b20
        have F732 := (Fld.keep (Fld.keep (Fld.keep F49 K28c.1 (ninS ne408 (ninS ne407 (ninS ne24 nin0)))) K25c.1 (ninS ne408 (ninS ne407 (ninS ne24 nin0)))) K41c.1 (ninS ne408 (ninS ne407 (ninS ne24 nin0))))
        have E733 := (Exa.keep (Exa.keep (Exa.keep E50 K28c.1) K25c.1) K41c.1)
        have E520 := (Exa.keep E364 K41c.1)
        obtain ⟨_, T98, L98, X98, ⟨rfl, K98c, H734, F521, F1360, F735, H736⟩, st98⟩ := own_cv X41 hx hZ hown (own_w942 hw) hml (g := (mkF m 174 l60 [(.ref b18), (.ref b11)])) (hb hby at_174) rfl E520 [(.ref b18)] [] (lenOf own_pd15 rfl) (rm3021 l Z a0 hw T41.heap b11 b18 b20 k23 y10 q16 (oN (oN y12)) q13 y12 q14 (p_0 &&& 2147483647) b21 k31 p_3 p_5 p_4 F518 V1066 F732 E733 (by simp only [← hq16, ← hy10]) (by simp only [← hq16]) E520 F517 ne45 (by simp only [← hq16, ← hy10]; exact (ar799 y10 )) (by simp only [← hq16, ← hy10]; exact (ar4500 y10 y12 hc47)) nq13 (by simp only [← hq16, ← hy10, ← hy19]; exact (ar4509 y10 y12 hc47)) F519 V1067 (Ne.symm ne_b20_b21) (Ne.symm ne46) (by simp only [← hq16, ← hy10]; exact (ar758 y10 )) (by simp only [← hq16, ← hy10]; exact (ar4510 y10 y12 ly10 uy10 ly19 uy19 hc27)) (by simp only [← hq16, ← hy10]; exact (ar4511 y10 y12 hc47)))
        have z_K98c := K98c.1.1
        have K98 := own_kpTrans K41 K98c (allS (Or.inr sz_b20) (allS (Or.inr sz_b11) (allS (Or.inr sz_b21) all0)))
        simp only [← hq16, ← hy10] at H734
        simp only [← hq16, ← hy10] at H736
        refine own_go (T2 := T98) (g2 := (mkF m 177 l60 [])) (fun t k => z_aload X41 hx hby at_170 rfl rfl (z_aload X41 hx hby at_172 rfl rfl (st98 _ k))) ?_
        have V522 := own_arhN H734 (cn4546 (oN y10) y10 (oN (oN y12)) y12 (.int q13) (.int q16) (.int q14) (ar799 y10 ) (ar4500 y10 y12 hc47) (ar3813 y10 y12 hc47) (ar4545 y10 y12 hc47) (ar2702 y10 y12 hc27) (ar758 y12 ))
        have V737 := own_arhN H736 (cn1396 y10 (oN (oN y12)) y12 (.int p_5) (.int p_3) (.int p_4) (ar4545 y10 y12 hc47) (ar2702 y10 y12 hc27) (ar758 y12 ))
        have F1068 := (Fld.keep F732 K98c.1 (ninS ne408 (ninS ne24 (ninS ne407 nin0))))
        have E1069 := (Exa.keep E733 K98c.1)
        have E315 := (Exa.keep E520 K98c.1)
        obtain ⟨_, T152, L152, X152, ⟨rfl, rfl, e152⟩, st152⟩ := own_cv X98 hx hZ hown (own_w1056 hw) hml (g := (mkF m 181 l60 [(.ref b18), (.ref b11)])) (hb hby at_181) rfl E315 [(.ref b18)] [] (lenOf own_pd16 rfl) (rm1798 l Z a0 hw T98.heap b11 b18 (p_0 &&& 2147483647) b20 k23 y12 q14 y10 q13 F1068 E1069 F521 V522 (by simp only [← hq16, ← hy10]; exact (ar2702 y10 y12 hc27)) (by simp only [← hq16, ← hy10]) (by simp only [← hq16]; exact dq13q16) nq13 (by simp only [← hq16, ← hy10]; exact (ar3813 y10 y12 hc47)) (by simp only [← hq16]; exact (ar492 q16 nq16)) E315)
        have F1070 := (Fld.keep (Fld.keep (Fld.keep F55 K25c.1 (ninS ne36 (ninS ne43 (ninS ne35 nin0)))) K41c.1 (ninS ne36 (ninS ne43 (ninS ne35 nin0)))) K98c.1 (ninS ne36 (ninS ne35 (ninS ne43 nin0))))
        have E1071 := (Exa.keep (Exa.keep (Exa.keep E56 K25c.1) K41c.1) K98c.1)
        let l62 := lf (vr b18) (vr b17) (vr b15) (vr b11) (vi 0) (vr b18) (vi (-1)) u u u u u
        obtain ⟨_, T153, L153, X153, ⟨rfl, rfl, e153⟩, st153⟩ := own_cv X152 hx hZ hown (own_w1056 hw) hml (g := (mkF m 190 l62 [(.ref b17), (.ref b11)])) (hb hby at_190) e152 E315 [(.ref b17)] [] (lenOf own_pd16 rfl) (rm1060 l Z a0 hw T98.heap b11 b17 (p_1 &&& 2147483647) b20 k23 y12 q14 y10 q13 b21 k31 p_4 p_5 (oN (oN y12)) F1070 E1071 F521 V522 (by simp only [← hq14, ← hy12]) (by simp only [← hq14]) E315 nq14 F735 V737)
        have F1072 := (Fld.keep (Fld.keep F403 K41c.1 (ninS ne275 (ninS ne290 (ninS ne235 nin0)))) K98c.1 (ninS ne275 (ninS ne235 (ninS ne290 nin0))))
        have E1073 := (Exa.keep (Exa.keep E404 K41c.1) K98c.1)
        let l63 := lf (vr b18) (vr b17) (vr b15) (vr b11) (vi 0) (vr b18) (vi (-1)) (vi p_4) u u u u
        obtain ⟨_, T236, L236, X236, ⟨rfl, rfl, e236⟩, st236⟩ := own_cv X153 hx hZ hown (own_w1056 hw) hml (g := (mkF m 199 l63 [(.ref b15), (.ref b11)])) (hb hby at_199) e153 E315 [(.ref b15)] [] (lenOf own_pd16 rfl) (rm1638 l Z a0 hw T98.heap b11 b15 (p_2 &&& 2147483647) b20 k23 y12 q14 y10 q13 b21 k31 p_4 p_5 (oN (oN y12)) p_5 F1072 E1073 F521 V522 (by simp only [← hq13, ← hy19]) (by simp only [← hq13]; exact dq14q13) nq14 (by simp only [← hq13, ← hy19]; exact hc47) (by simp only [← hq13]) E315 (by simp only [← hq13, ← hy19]; exact (ar799 y12 )) nq13 F735 V737)
        let l64 := lf (vr b18) (vr b17) (vr b15) (vr b11) (vi 0) (vr b18) (vi (-1)) (vi p_4) (vi p_5) u u u
        refine own_go (T2 := T236) (g2 := (mkF m 204 l64 [])) (fun t k => z_aload X98 hx hby at_177 rfl rfl (z_aload X98 hx hby at_179 rfl rfl (st152 _ (z_istore X152 hx hby at_184 l62 rfl (z_aload X152 hx hby at_186 rfl rfl (z_aload X152 hx hby at_188 rfl rfl (st153 _ (z_istore X153 hx hby at_193 l63 rfl (z_aload X153 hx hby at_195 rfl rfl (z_aload X153 hx hby at_197 rfl rfl (st236 _ (z_istore X236 hx hby at_202 l64 rfl k)))))))))))) ?_
        exact tl1268 X236 hx hby Bd.returns Bd.notSynchronized (by decide) (by decide) (by rw [e236]; simpa only [List.append_nil] using K98) p_0 p_1 p_2 p_3 p_4 p_5 (p_0 &&& 2147483647) (p_1 &&& 2147483647) (p_2 &&& 2147483647) b18 b17 b15 b11
       ·
        let l65 := lf (vr b18) (vr b17) (vr b15) (vr b11) (vi 1) (vr b17) u u u u u u
        let l66 := lf (vr b18) (vr b17) (vr b15) (vr b11) (vi 1) u u u u u u u
        refine own_go (T2 := T41) (g2 := (mkF m 170 l65 [])) (fun t k => z_istore X41 hx hby at_143 l66 rfl (z_iload X41 hx hby at_145 rfl (z_ifYes X41 hx hby 155 at_147 ((if0 _ _).trans (feq (show ¬ ((1 : Int32) = 0) from (by decide))).2) rfl (z_iload X41 hx hby at_155 rfl (z_iconst X41 hx hby at_157 (z_icmpNo X41 hx hby at_158 (teq (show (1 : Int32) = 1 from (by decide))).2 (z_aload X41 hx hby at_161 rfl rfl (z_goto X41 hx hby 168 at_163 rfl (z_astore X41 hx hby at_168 rfl l65 rfl k))))))))) ?_
        have V1074 := own_arhN H405 (cn3817 (oN (oN y12)) y12 y10 (.int q13) (.int q14) (.int q16) (ar758 y12 ) (ar3788 y12 y10 hc47) hc27)
        have V1075 := own_arhN H406 (cn3817 (oN (oN y12)) y12 y10 (.int p_5) (.int p_4) (.int p_3) (ar758 y12 ) (ar3788 y12 y10 hc47) hc27)
        have F738 := (Fld.keep (Fld.keep F55 K25c.1 (ninS ne36 (ninS ne43 (ninS ne35 nin0)))) K41c.1 (ninS ne36 (ninS ne43 (ninS ne35 nin0))))
        have E739 := (Exa.keep (Exa.keep E56 K25c.1) K41c.1)
        have E523 := (Exa.keep E364 K41c.1)
        obtain ⟨_, T99, L99, X99, ⟨rfl, K99c, H740, F524, F1361, F741, H742⟩, st99⟩ := own_cv X41 hx hZ hown (own_w942 hw) hml (g := (mkF m 174 l65 [(.ref b17), (.ref b11)])) (hb hby at_174) rfl E523 [(.ref b17)] [] (lenOf own_pd15 rfl) (rm4614 l Z a0 hw T41.heap b11 b17 b20 k23 y12 q14 y10 q16 (oN (oN y12)) q13 (p_1 &&& 2147483647) b21 k31 p_4 p_3 p_5 F518 V1074 F738 E739 (by simp only [← hq14, ← hy12]) (by simp only [← hq14]) E523 F517 ne45 (by simp only [← hq14, ← hy12]; exact (ar799 y12 )) (by simp only [← hq14, ← hy12]; exact hc47) nq16 (by simp only [← hy10, ← hq14, ← hy12]; exact (ar3720 y12 y10 hc47)) (by simp only [← hq14, ← hy12]; exact (ar758 y12 )) (by simp only [← hq14, ← hy12]; exact (ar3788 y12 y10 hc47)) (by simp only [← hq14, ← hy12]) nq13 (by simp only [← hq14, ← hy12, ← hy19]; exact Int32.lt_irrefl) F519 V1075 (Ne.symm ne_b20_b21) (Ne.symm ne46) (by simp only [← hq14, ← hy12]; exact (ar929 y12 )) (by simp only [← hq14, ← hy12]; exact (ar3801 y12 y10 hc47)) (by simp only [← hq14, ← hy12]; exact (ar927 y12 )))
        have z_K99c := K99c.1.1
        have K99 := own_kpTrans K41 K99c (allS (Or.inr sz_b20) (allS (Or.inr sz_b11) (allS (Or.inr sz_b21) all0)))
        simp only [← hq14, ← hy12] at H740
        simp only [← hq14, ← hy12] at H742
        refine own_go (T2 := T99) (g2 := (mkF m 177 l65 [])) (fun t k => z_aload X41 hx hby at_170 rfl rfl (z_aload X41 hx hby at_172 rfl rfl (st99 _ k))) ?_
        have V525 := own_arhN H740 (cn4710 (oN (oN y12)) y12 y10 (.int q13) (.int q14) (.int q16) (ar758 y12 ) (ar3788 y12 y10 hc47) hc27)
        have V743 := own_arhN H742 (cn4712 y12 y10 (oN (oN y12)) (.int p_5) (.int p_4) (.int p_3) hc27 (ar943 y12 ) (ar4545 y10 y12 hc47))
        have ne409 := own_nl A18.lt (Nat.le_trans (Nat.le_trans (Nat.le_trans (Nat.le_trans (Nat.le_trans z_K30c z_E17) z_K29c) z_E15) z_K26c) z_E11) lo_b21
        have ne410 := own_nl A18.lt (Nat.le_trans (Nat.le_trans (Nat.le_trans (Nat.le_trans (Nat.le_trans z_K30c z_E17) z_K29c) z_E15) z_K26c) z_E11) lo_b20
        have F1076 := (Fld.keep (Fld.keep (Fld.keep (Fld.keep F49 K28c.1 (ninS ne410 (ninS ne409 (ninS ne24 nin0)))) K25c.1 (ninS ne410 (ninS ne409 (ninS ne24 nin0)))) K41c.1 (ninS ne410 (ninS ne409 (ninS ne24 nin0)))) K99c.1 (ninS ne410 (ninS ne24 (ninS ne409 nin0))))
        have E1077 := (Exa.keep (Exa.keep (Exa.keep (Exa.keep E50 K28c.1) K25c.1) K41c.1) K99c.1)
        have E316 := (Exa.keep E523 K99c.1)
        obtain ⟨_, T154, L154, X154, ⟨rfl, rfl, e154⟩, st154⟩ := own_cv X99 hx hZ hown (own_w1056 hw) hml (g := (mkF m 181 l65 [(.ref b18), (.ref b11)])) (hb hby at_181) rfl E316 [(.ref b18)] [] (lenOf own_pd16 rfl) (rm1060 l Z a0 hw T99.heap b11 b18 (p_0 &&& 2147483647) b20 k23 y10 q16 y12 q13 b21 k31 p_3 p_5 (oN (oN y12)) F1076 E1077 F524 V525 (by simp only [← hq16, ← hy10]) (by simp only [← hq16]) E316 nq16 F741 V743)
        have F1078 := (Fld.keep F738 K99c.1 (ninS ne36 (ninS ne35 (ninS ne43 nin0))))
        have E1079 := (Exa.keep E739 K99c.1)
        let l67 := lf (vr b18) (vr b17) (vr b15) (vr b11) (vi 1) (vr b17) (vi p_3) u u u u u
        obtain ⟨_, T155, L155, X155, ⟨rfl, rfl, e155⟩, st155⟩ := own_cv X154 hx hZ hown (own_w1056 hw) hml (g := (mkF m 190 l67 [(.ref b17), (.ref b11)])) (hb hby at_190) e154 E316 [(.ref b17)] [] (lenOf own_pd16 rfl) (rm4754 l Z a0 hw T99.heap b11 b17 (p_1 &&& 2147483647) b20 k23 y10 q16 y12 q13 F1078 E1079 F524 V525 (by simp only [← hq14, ← hy12]; exact hc27) (by simp only [← hq14, ← hy12]) (by simp only [← hq14]; exact dq13q14) nq13 (by simp only [← hq14, ← hy12]; exact hc47) (by simp only [← hq14]; exact dq16q14) nq16 (by simp only [← hq14, ← hy12]; exact (ar3788 y12 y10 hc47)) (by simp only [← hq14, ← hy12]; exact (ar758 y12 )) (by simp only [← hq14]; exact (ar492 q14 nq14)) E316)
        have F1080 := (Fld.keep (Fld.keep F403 K41c.1 (ninS ne275 (ninS ne290 (ninS ne235 nin0)))) K99c.1 (ninS ne275 (ninS ne235 (ninS ne290 nin0))))
        have E1081 := (Exa.keep (Exa.keep E404 K41c.1) K99c.1)
        let l68 := lf (vr b18) (vr b17) (vr b15) (vr b11) (vi 1) (vr b17) (vi p_3) (vi (-1)) u u u u
        obtain ⟨_, T237, L237, X237, ⟨rfl, rfl, e237⟩, st237⟩ := own_cv X155 hx hZ hown (own_w1056 hw) hml (g := (mkF m 199 l68 [(.ref b15), (.ref b11)])) (hb hby at_199) e155 E316 [(.ref b15)] [] (lenOf own_pd16 rfl) (rm1162 l Z a0 hw T99.heap b11 b15 (p_2 &&& 2147483647) b20 k23 y10 q16 y12 q13 b21 k31 p_3 p_5 (oN (oN y12)) F1080 E1081 F524 V525 (by simp only [← hq13, ← hy19]; exact hc27) (by simp only [← hq13, ← hy19]) (by simp only [← hq13]) E316 nq13 F741 V743)
        let l69 := lf (vr b18) (vr b17) (vr b15) (vr b11) (vi 1) (vr b17) (vi p_3) (vi (-1)) (vi p_5) u u u
        refine own_go (T2 := T237) (g2 := (mkF m 204 l69 [])) (fun t k => z_aload X99 hx hby at_177 rfl rfl (z_aload X99 hx hby at_179 rfl rfl (st154 _ (z_istore X154 hx hby at_184 l67 rfl (z_aload X154 hx hby at_186 rfl rfl (z_aload X154 hx hby at_188 rfl rfl (st155 _ (z_istore X155 hx hby at_193 l68 rfl (z_aload X155 hx hby at_195 rfl rfl (z_aload X155 hx hby at_197 rfl rfl (st237 _ (z_istore X237 hx hby at_202 l69 rfl k)))))))))))) ?_
        exact tl1427 X237 hx hby Bd.returns Bd.notSynchronized (by decide) (by decide) (by rw [e237]; simpa only [List.append_nil] using K99) p_0 p_1 p_2 p_3 p_4 p_5 (p_0 &&& 2147483647) (p_1 &&& 2147483647) (p_2 &&& 2147483647) b18 b17 b15 b11
       ·
        let l70 := lf (vr b18) (vr b17) (vr b15) (vr b11) (vi 2) (vr b15) u u u u u u
        let l71 := lf (vr b18) (vr b17) (vr b15) (vr b11) (vi 2) u u u u u u u
        refine own_go (T2 := T41) (g2 := (mkF m 170 l70 [])) (fun t k => z_istore X41 hx hby at_143 l71 rfl (z_iload X41 hx hby at_145 rfl (z_ifYes X41 hx hby 155 at_147 ((if0 _ _).trans (feq (show ¬ ((2 : Int32) = 0) from (by decide))).2) rfl (z_iload X41 hx hby at_155 rfl (z_iconst X41 hx hby at_157 (z_icmpYes X41 hx hby 166 at_158 (feq (show ¬ ((2 : Int32) = 1) from (by decide))).2 rfl (z_aload X41 hx hby at_166 rfl rfl (z_astore X41 hx hby at_168 rfl l70 rfl k)))))))) ?_
        have F744 := (Fld.keep F403 K41c.1 (ninS ne275 (ninS ne290 (ninS ne235 nin0))))
        have E745 := (Exa.keep E404 K41c.1)
        have E526 := (Exa.keep E364 K41c.1)
        obtain ⟨_, T67, L67, X67, ⟨rfl, K67c, H746, F527, F1362, F747⟩, st67⟩ := own_cv X41 hx hZ hown (own_w942 hw) hml (g := (mkF m 174 l70 [(.ref b15), (.ref b11)])) (hb hby at_174) rfl E526 [(.ref b15)] [] (lenOf own_pd15 rfl) (rm4937 l Z a0 hw T41.heap b11 b15 b20 k23 (oN (oN y12)) q13 y12 q14 y10 q16 (p_2 &&& 2147483647) b21 F518 H405 F744 E745 (by simp only [← hq13, ← hy19]; exact (ar943 y12 )) (by simp only [← hq13, ← hy19]) (by simp only [← hq13]; exact dq14q13) nq14 (by simp only [← hq13, ← hy19]; exact (ar797 y12 )) (by simp only [← hq13, ← hy19]; exact hc47) (by simp only [← hq13]; exact dq16q13) (by simp only [← hq13, ← hy19]; exact (ar799 y12 )) nq16 (by simp only [← hq13, ← hy19]) (by simp only [← hq13]) E526 F517 ne45 (by simp only [← hq13, ← hy19]; exact (ar927 y12 )) (by simp only [← hq13, ← hy19]; exact (ar929 y12 )) (by simp only [← hq13, ← hy19]; exact (ar3801 y12 y10 hc47)) F519)
        have z_K67c := K67c.1.1
        have K67 := own_kpTrans K41 K67c (allS (Or.inr sz_b20) (allS (Or.inr sz_b11) all0))
        simp only [← hq13, ← hy19] at H746
        refine own_go (T2 := T67) (g2 := (mkF m 177 l70 [])) (fun t k => z_aload X41 hx hby at_170 rfl rfl (z_aload X41 hx hby at_172 rfl rfl (st67 _ k))) ?_
        have V528 := own_arhN H746 (cn1518 (oN (oN y12)) y12 y10 (.int q13) (.int q14) (.int q16) (ar758 y12 ) (ar3788 y12 y10 hc47) hc27)
        have H1082 := (Arh.keep H406 K67c.1 (ninS (Ne.symm ne_b20_b21) (ninS (Ne.symm ne46) nin0)))
        have V748 := own_arhN H1082 (cn800 (oN (oN y12)) y12 y10 (.int p_5) (.int p_4) (.int p_3) (ar758 y12 ) (ar3788 y12 y10 hc47) hc27)
        have ne529 := own_nl A18.lt (Nat.le_trans (Nat.le_trans (Nat.le_trans (Nat.le_trans (Nat.le_trans z_K30c z_E17) z_K29c) z_E15) z_K26c) z_E11) lo_b21
        have ne411 := own_nl A18.lt (Nat.le_trans (Nat.le_trans (Nat.le_trans (Nat.le_trans (Nat.le_trans z_K30c z_E17) z_K29c) z_E15) z_K26c) z_E11) lo_b20
        have F1083 := (Fld.keep (Fld.keep (Fld.keep (Fld.keep F49 K28c.1 (ninS ne411 (ninS ne529 (ninS ne24 nin0)))) K25c.1 (ninS ne411 (ninS ne529 (ninS ne24 nin0)))) K41c.1 (ninS ne411 (ninS ne529 (ninS ne24 nin0)))) K67c.1 (ninS ne411 (ninS ne24 nin0)))
        have E1084 := (Exa.keep (Exa.keep (Exa.keep (Exa.keep E50 K28c.1) K25c.1) K41c.1) K67c.1)
        have E317 := (Exa.keep E526 K67c.1)
        obtain ⟨_, T156, L156, X156, ⟨rfl, rfl, e156⟩, st156⟩ := own_cv X67 hx hZ hown (own_w1056 hw) hml (g := (mkF m 181 l70 [(.ref b18), (.ref b11)])) (hb hby at_181) rfl E317 [(.ref b18)] [] (lenOf own_pd16 rfl) (rm1536 l Z a0 hw T67.heap b11 b18 (p_0 &&& 2147483647) b20 k23 y10 q16 y12 q14 b21 k31 p_3 p_4 (oN (oN y12)) p_5 F1083 E1084 F527 V528 (by simp only [← hq16, ← hy10]) (by simp only [← hq16]) E317 nq16 F747 V748)
        have F1085 := (Fld.keep (Fld.keep (Fld.keep F55 K25c.1 (ninS ne36 (ninS ne43 (ninS ne35 nin0)))) K41c.1 (ninS ne36 (ninS ne43 (ninS ne35 nin0)))) K67c.1 (ninS ne36 (ninS ne35 nin0)))
        have E1086 := (Exa.keep (Exa.keep (Exa.keep E56 K25c.1) K41c.1) K67c.1)
        let l72 := lf (vr b18) (vr b17) (vr b15) (vr b11) (vi 2) (vr b15) (vi p_3) u u u u u
        obtain ⟨_, T157, L157, X157, ⟨rfl, rfl, e157⟩, st157⟩ := own_cv X156 hx hZ hown (own_w1056 hw) hml (g := (mkF m 190 l72 [(.ref b17), (.ref b11)])) (hb hby at_190) e156 E317 [(.ref b17)] [] (lenOf own_pd16 rfl) (rm5097 l Z a0 hw T67.heap b11 b17 (p_1 &&& 2147483647) b20 k23 y10 q16 y12 q14 b21 k31 p_3 p_4 (oN (oN y12)) p_5 F1085 E1086 F527 V528 (by simp only [← hq14, ← hy12]; exact hc27) (by simp only [← hq14, ← hy12]) (by simp only [← hq14]) E317 nq14 F747 V748)
        have F1087 := (Fld.keep F744 K67c.1 (ninS ne275 (ninS ne235 nin0)))
        have E1088 := (Exa.keep E745 K67c.1)
        let l73 := lf (vr b18) (vr b17) (vr b15) (vr b11) (vi 2) (vr b15) (vi p_3) (vi p_4) u u u u
        obtain ⟨_, T238, L238, X238, ⟨rfl, rfl, e238⟩, st238⟩ := own_cv X157 hx hZ hown (own_w1056 hw) hml (g := (mkF m 199 l73 [(.ref b15), (.ref b11)])) (hb hby at_199) e157 E317 [(.ref b15)] [] (lenOf own_pd16 rfl) (rm4754 l Z a0 hw T67.heap b11 b15 (p_2 &&& 2147483647) b20 k23 y10 q16 y12 q14 F1087 E1088 F527 V528 (by simp only [← hq13, ← hy19]; exact hc27) (by simp only [← hq13, ← hy19]) (by simp only [← hq13]; exact dq14q13) nq14 (by simp only [← hq13, ← hy19]; exact hc47) (by simp only [← hq13]; exact dq16q13) nq16 (by simp only [← hq13, ← hy19]; exact (ar3788 y12 y10 hc47)) (by simp only [← hq13, ← hy19]; exact (ar758 y12 )) (by simp only [← hq13]; exact (ar492 q13 nq13)) E317)
        let l74 := lf (vr b18) (vr b17) (vr b15) (vr b11) (vi 2) (vr b15) (vi p_3) (vi p_4) (vi (-1)) u u u
        refine own_go (T2 := T238) (g2 := (mkF m 204 l74 [])) (fun t k => z_aload X67 hx hby at_177 rfl rfl (z_aload X67 hx hby at_179 rfl rfl (st156 _ (z_istore X156 hx hby at_184 l72 rfl (z_aload X156 hx hby at_186 rfl rfl (z_aload X156 hx hby at_188 rfl rfl (st157 _ (z_istore X157 hx hby at_193 l73 rfl (z_aload X157 hx hby at_195 rfl rfl (z_aload X157 hx hby at_197 rfl rfl (st238 _ (z_istore X238 hx hby at_202 l74 rfl k)))))))))))) ?_
        exact tl1942 X238 hx hby Bd.returns Bd.notSynchronized (by decide) (by decide) (by rw [e238]; simpa only [List.append_nil] using K67) p_0 p_1 p_2 p_3 p_4 p_5 (p_0 &&& 2147483647) (p_1 &&& 2147483647) (p_2 &&& 2147483647) b18 b17 b15 b11
      ·
       have ne111 := own_nl A15.lt z_K26c lo_b11
       have ne158 := own_nl A15.lt (Nat.le_trans z_K26c z_E11) lo_b21
       have ne117 := own_nl A15.lt (Nat.le_trans z_K26c z_E11) lo_b20
       have F291 := (Fld.keep (Fld.keep (Fld.keep (Fld.ext E11 F270) K51c.1 (ninS ne111 nin0)) K28c.1 (ninS ne117 (ninS ne158 (ninS ne111 nin0)))) K25c.1 (ninS ne117 (ninS ne158 (ninS ne111 nin0))))
       have E292 := (Exa.keep (Exa.keep (Exa.keep (Exa.ext E11 (Exa.keep A15 K26c.1)) K51c.1) K28c.1) K25c.1)
       have E276 := (Exa.keep E289 K25c.1)
       obtain ⟨_, T33, L33, X33, ⟨rfl, K33c, H318, H319, F320, F321, F322⟩, st33⟩ := own_cv X25 hx hZ hown (own_w528 hw) hml (g := (mkF m 133 l5 [(.int p_5), (.ref b15), (.ref b11)])) (hb hby at_133) rfl E276 [(.ref b15), (.int p_5)] [] (lenOf own_pd14 rfl) (rm705 l Z a0 hw T25.heap b11 b15 p_5 b20 k23 y12 q14 y10 q16 (p_2 &&& 2147483647) b21 k31 p_4 p_3 F361 F362 H313 F291 E292 (by simp only [← hq13, ← hy19]) (by simp only [← hq13]; exact dq14q13) nq14 (by simp only [← hq13, ← hy19]; exact hc47) (by simp only [← hq13]; exact (ar492 q13 nq13)) E276 F363 ne45 H314 (Ne.symm ne_b20_b21) ne46)
       have z_K33c := K33c.1.1
       have K33 := own_kpTrans K25 K33c (allS (Or.inr sz_b20) (allS (Or.inr sz_b21) (allS (Or.inr sz_b11) all0)))
       simp only [← hq13, ← hy19] at H318
       simp only [← hq13, ← hy19] at H319
       refine own_go (T2 := T33) (g2 := (mkF m 143 l5 [(.int ((p_5 &&& 2147483647) % 3))])) (fun t k => st33 _ (z_iload X33 hx hby at_136 rfl (Jvm.Stand.ldcI X33 hx hown (mvT hZ (own_wd hw 0 rfl)) rfl (hb hby at_138) (z_iand X33 hx hby at_140 (z_iconst X33 hx hby at_141 (iremM X33 hx rfl (hb hby at_142) rfl (by decide) k)))))) ?_
       have hrk5243 := own_mod3 p_5
       generalize ((p_5 &&& 2147483647) % 3) = k1363 at hrk5243 ⊢
       rcases hrk5243 with rfl | rfl | rfl
       ·
        let l75 := lf (vr b18) (vr b17) (vr b15) (vr b11) (vi 0) (vr b18) u u u u u u
        let l76 := lf (vr b18) (vr b17) (vr b15) (vr b11) (vi 0) u u u u u u u
        refine own_go (T2 := T33) (g2 := (mkF m 170 l75 [])) (fun t k => z_istore X33 hx hby at_143 l76 rfl (z_iload X33 hx hby at_145 rfl (z_ifNo X33 hx hby at_147 ((if0 _ _).trans (teq (show (0 : Int32) = 0 from (by decide))).2) (z_aload X33 hx hby at_150 rfl rfl (z_goto X33 hx hby 168 at_152 rfl (z_astore X33 hx hby at_168 rfl l75 rfl k)))))) ?_
        by_cases hc159 : (oN y10) = y12
        ·
         have V1089 := own_arhN H318 (cn800 (oN y12) y12 y10 (.int q13) (.int q14) (.int q16) (ar799 y12 ) hc47 hc27)
         have V1090 := own_arhN H319 (cn800 (oN y12) y12 y10 (.int p_5) (.int p_4) (.int p_3) (ar799 y12 ) hc47 hc27)
         have ne530 := own_nl A18.lt (Nat.le_trans (Nat.le_trans (Nat.le_trans (Nat.le_trans (Nat.le_trans z_K30c z_E17) z_K29c) z_E15) z_K26c) z_E11) lo_b21
         have ne412 := own_nl A18.lt (Nat.le_trans (Nat.le_trans (Nat.le_trans (Nat.le_trans (Nat.le_trans z_K30c z_E17) z_K29c) z_E15) z_K26c) z_E11) lo_b20
         have F749 := (Fld.keep (Fld.keep (Fld.keep F49 K28c.1 (ninS ne412 (ninS ne530 (ninS ne24 nin0)))) K25c.1 (ninS ne412 (ninS ne530 (ninS ne24 nin0)))) K33c.1 (ninS ne412 (ninS ne530 (ninS ne24 nin0))))
         have E750 := (Exa.keep (Exa.keep (Exa.keep E50 K28c.1) K25c.1) K33c.1)
         have E531 := (Exa.keep E276 K33c.1)
         obtain ⟨_, T68, L68, X68, ⟨rfl, K68c, H751, F532, F1364, F752⟩, st68⟩ := own_cv X33 hx hZ hown (own_w942 hw) hml (g := (mkF m 174 l75 [(.ref b18), (.ref b11)])) (hb hby at_174) rfl E531 [(.ref b18)] [] (lenOf own_pd15 rfl) (rm3737 l Z a0 hw T33.heap b11 b18 b20 k23 y10 q16 y12 q14 (oN y12) q13 (p_0 &&& 2147483647) b21 F321 V1089 F749 E750 (by simp only [← hq16, ← hy10]) (by simp only [← hq16]) E531 F320 ne45 (by simp only [← hq16, ← hy10]; exact (ar799 y10 )) (by simp only [← hq16, ← hy10]; exact hc159) nq14 (by simp only [← hq16, ← hy10, ← hy12]; exact (ar3720 y10 y12 hc159)) (by simp only [← hq16, ← hy10]; exact (ar758 y10 )) (by simp only [← hq16, ← hy10]; exact (ar3788 y10 y12 hc159)) (by simp only [← hq16, ← hy10]; exact (ar3790 y10 y12 hc159)) nq13 (by simp only [← hq16, ← hy10, ← hy19]; exact (ar3797 y10 y12 hc159)) (by simp only [← hq16, ← hy10]; exact (ar929 y10 )) (by simp only [← hq16, ← hy10]; exact (ar3801 y10 y12 hc159)) (by simp only [← hq16, ← hy10]; exact (ar3803 y10 y12 hc159)) F322)
         have z_K68c := K68c.1.1
         have K68 := own_kpTrans K33 K68c (allS (Or.inr sz_b20) (allS (Or.inr sz_b11) all0))
         simp only [← hq16, ← hy10] at H751
         refine own_go (T2 := T68) (g2 := (mkF m 177 l75 [])) (fun t k => z_aload X33 hx hby at_170 rfl rfl (z_aload X33 hx hby at_172 rfl rfl (st68 _ k))) ?_
         have V533 := own_arhN H751 (cn3814 y10 y12 (oN y12) (.int q16) (.int q14) (.int q13) (ar2702 y10 y12 hc27) (ar4544 y10 y12 hc159) (ar944 y12 ))
         have H753 := (Arh.keep V1090 K68c.1 (ninS (Ne.symm ne_b20_b21) (ninS (Ne.symm ne46) nin0)))
         have F1091 := (Fld.keep F749 K68c.1 (ninS ne412 (ninS ne24 nin0)))
         have E1092 := (Exa.keep E750 K68c.1)
         have E323 := (Exa.keep E531 K68c.1)
         obtain ⟨_, T160, L160, X160, ⟨rfl, rfl, e160⟩, st160⟩ := own_cv X68 hx hZ hown (own_w1056 hw) hml (g := (mkF m 181 l75 [(.ref b18), (.ref b11)])) (hb hby at_181) rfl E323 [(.ref b18)] [] (lenOf own_pd16 rfl) (rm3879 l Z a0 hw T68.heap b11 b18 (p_0 &&& 2147483647) b20 k23 y12 q14 (oN y12) q13 F1091 E1092 F532 V533 (by simp only [← hq16, ← hy10]; exact (ar2702 y10 y12 hc27)) (by simp only [← hq16, ← hy10]; exact (ar4544 y10 y12 hc159)) (by simp only [← hq16]; exact (ar492 q16 nq16)) E323)
         have F1093 := (Fld.keep (Fld.keep (Fld.keep F55 K25c.1 (ninS ne36 (ninS ne43 (ninS ne35 nin0)))) K33c.1 (ninS ne36 (ninS ne43 (ninS ne35 nin0)))) K68c.1 (ninS ne36 (ninS ne35 nin0)))
         have E1094 := (Exa.keep (Exa.keep (Exa.keep E56 K25c.1) K33c.1) K68c.1)
         let l77 := lf (vr b18) (vr b17) (vr b15) (vr b11) (vi 0) (vr b18) (vi (-1)) u u u u u
         obtain ⟨_, T161, L161, X161, ⟨rfl, rfl, e161⟩, st161⟩ := own_cv X160 hx hZ hown (own_w1056 hw) hml (g := (mkF m 190 l77 [(.ref b17), (.ref b11)])) (hb hby at_190) e160 E323 [(.ref b17)] [] (lenOf own_pd16 rfl) (rm5358 l Z a0 hw T68.heap b11 b17 (p_1 &&& 2147483647) b20 k23 y12 q14 (oN y12) q13 b21 k31 y10 p_3 p_4 p_5 F1093 E1094 F532 V533 (by simp only [← hq14, ← hy12]) (by simp only [← hq14]) E323 nq14 F752 H753 (by simp only [← hq14, ← hy12]; exact hc27))
         have F1095 := (Fld.keep (Fld.keep F291 K33c.1 (ninS ne117 (ninS ne158 (ninS ne111 nin0)))) K68c.1 (ninS ne117 (ninS ne111 nin0)))
         have E1096 := (Exa.keep (Exa.keep E292 K33c.1) K68c.1)
         let l78 := lf (vr b18) (vr b17) (vr b15) (vr b11) (vi 0) (vr b18) (vi (-1)) (vi p_4) u u u u
         obtain ⟨_, T239, L239, X239, ⟨rfl, rfl, e239⟩, st239⟩ := own_cv X161 hx hZ hown (own_w1056 hw) hml (g := (mkF m 199 l78 [(.ref b15), (.ref b11)])) (hb hby at_199) e161 E323 [(.ref b15)] [] (lenOf own_pd16 rfl) (rm5480 l Z a0 hw T68.heap b11 b15 (p_2 &&& 2147483647) b20 k23 y12 q14 (oN y12) q13 b21 k31 y10 p_3 p_4 p_5 F1095 E1096 F532 V533 (by simp only [← hq13, ← hy19]) (by simp only [← hq13]; exact dq14q13) nq14 (by simp only [← hq13, ← hy19]) (by simp only [← hq13]) E323 (by simp only [← hq13, ← hy19]; exact (ar799 y12 )) nq13 F752 H753 (by simp only [← hq13, ← hy19]; exact hc47))
         let l79 := lf (vr b18) (vr b17) (vr b15) (vr b11) (vi 0) (vr b18) (vi (-1)) (vi p_4) (vi p_5) u u u
         refine own_go (T2 := T239) (g2 := (mkF m 204 l79 [])) (fun t k => z_aload X68 hx hby at_177 rfl rfl (z_aload X68 hx hby at_179 rfl rfl (st160 _ (z_istore X160 hx hby at_184 l77 rfl (z_aload X160 hx hby at_186 rfl rfl (z_aload X160 hx hby at_188 rfl rfl (st161 _ (z_istore X161 hx hby at_193 l78 rfl (z_aload X161 hx hby at_195 rfl rfl (z_aload X161 hx hby at_197 rfl rfl (st239 _ (z_istore X239 hx hby at_202 l79 rfl k)))))))))))) ?_
         exact tl1268 X239 hx hby Bd.returns Bd.notSynchronized (by decide) (by decide) (by rw [e239]; simpa only [List.append_nil] using K68) p_0 p_1 p_2 p_3 p_4 p_5 (p_0 &&& 2147483647) (p_1 &&& 2147483647) (p_2 &&& 2147483647) b18 b17 b15 b11
        ·
         have V1097 := own_arhN H318 (cn3261 (oN y12) y12 y10 (.int q13) (.int q14) (.int q16) (ar799 y12 ) hc47 hc27)
         have V1098 := own_arhN H319 (cn3261 (oN y12) y12 y10 (.int p_5) (.int p_4) (.int p_3) (ar799 y12 ) hc47 hc27)
         have ne534 := own_nl A18.lt (Nat.le_trans (Nat.le_trans (Nat.le_trans (Nat.le_trans (Nat.le_trans z_K30c z_E17) z_K29c) z_E15) z_K26c) z_E11) lo_b21
         have ne413 := own_nl A18.lt (Nat.le_trans (Nat.le_trans (Nat.le_trans (Nat.le_trans (Nat.le_trans z_K30c z_E17) z_K29c) z_E15) z_K26c) z_E11) lo_b20
         have F754 := (Fld.keep (Fld.keep (Fld.keep F49 K28c.1 (ninS ne413 (ninS ne534 (ninS ne24 nin0)))) K25c.1 (ninS ne413 (ninS ne534 (ninS ne24 nin0)))) K33c.1 (ninS ne413 (ninS ne534 (ninS ne24 nin0))))
         have E755 := (Exa.keep (Exa.keep (Exa.keep E50 K28c.1) K25c.1) K33c.1)
         have E535 := (Exa.keep E276 K33c.1)
         obtain ⟨_, T69, L69, X69, ⟨rfl, K69c, H756, F536, F1365, F757⟩, st69⟩ := own_cv X33 hx hZ hown (own_w942 hw) hml (g := (mkF m 174 l75 [(.ref b18), (.ref b11)])) (hb hby at_174) rfl E535 [(.ref b18)] [] (lenOf own_pd15 rfl) (rm4053 l Z a0 hw T33.heap b11 b18 b20 k23 y10 q16 (oN y12) q13 y12 q14 (p_0 &&& 2147483647) b21 F321 V1097 F754 E755 (by simp only [← hq16, ← hy10]) (by simp only [← hq16]) E535 F320 ne45 (by simp only [← hq16, ← hy10]; exact (ar799 y10 )) (by simp only [← hq16, ← hy10]; exact (ar5244 y10 y12 ly10 uy10 ly19 uy19 hc27)) (by simp only [← hq16, ← hy10]; exact hc159) F322)
         have z_K69c := K69c.1.1
         have K69 := own_kpTrans K33 K69c (allS (Or.inr sz_b20) (allS (Or.inr sz_b11) all0))
         simp only [← hq16, ← hy10] at H756
         refine own_go (T2 := T69) (g2 := (mkF m 177 l75 [])) (fun t k => z_aload X33 hx hby at_170 rfl rfl (z_aload X33 hx hby at_172 rfl rfl (st69 _ k))) ?_
         have V537 := own_arhN H756 (cn1518 y10 (oN y12) y12 (.int q16) (.int q13) (.int q14) (ar5675 y10 y12 hc47) (ar2702 y10 y12 hc27) (ar799 y12 ))
         have H1099 := (Arh.keep V1098 K69c.1 (ninS (Ne.symm ne_b20_b21) (ninS (Ne.symm ne46) nin0)))
         have V758 := own_arhN H1099 (cn3713 y10 (oN y12) y12 (.int p_3) (.int p_5) (.int p_4) (ar5675 y10 y12 hc47) (ar2702 y10 y12 hc27) (ar799 y12 ))
         have F1100 := (Fld.keep F754 K69c.1 (ninS ne413 (ninS ne24 nin0)))
         have E1101 := (Exa.keep E755 K69c.1)
         have E324 := (Exa.keep E535 K69c.1)
         obtain ⟨_, T162, L162, X162, ⟨rfl, rfl, e162⟩, st162⟩ := own_cv X69 hx hZ hown (own_w1056 hw) hml (g := (mkF m 181 l75 [(.ref b18), (.ref b11)])) (hb hby at_181) rfl E324 [(.ref b18)] [] (lenOf own_pd16 rfl) (rm3879 l Z a0 hw T69.heap b11 b18 (p_0 &&& 2147483647) b20 k23 y12 q14 (oN y12) q13 F1100 E1101 F536 V537 (by simp only [← hq16, ← hy10]; exact (ar2702 y10 y12 hc27)) (by simp only [← hq16, ← hy10]; exact (ar5675 y10 y12 hc47)) (by simp only [← hq16]; exact (ar492 q16 nq16)) E324)
         have F1102 := (Fld.keep (Fld.keep (Fld.keep F55 K25c.1 (ninS ne36 (ninS ne43 (ninS ne35 nin0)))) K33c.1 (ninS ne36 (ninS ne43 (ninS ne35 nin0)))) K69c.1 (ninS ne36 (ninS ne35 nin0)))
         have E1103 := (Exa.keep (Exa.keep (Exa.keep E56 K25c.1) K33c.1) K69c.1)
         let l80 := lf (vr b18) (vr b17) (vr b15) (vr b11) (vi 0) (vr b18) (vi (-1)) u u u u u
         obtain ⟨_, T163, L163, X163, ⟨rfl, rfl, e163⟩, st163⟩ := own_cv X162 hx hZ hown (own_w1056 hw) hml (g := (mkF m 190 l80 [(.ref b17), (.ref b11)])) (hb hby at_190) e162 E324 [(.ref b17)] [] (lenOf own_pd16 rfl) (rm5358 l Z a0 hw T69.heap b11 b17 (p_1 &&& 2147483647) b20 k23 y12 q14 (oN y12) q13 b21 k31 y10 p_3 p_4 p_5 F1102 E1103 F536 V537 (by simp only [← hq14, ← hy12]) (by simp only [← hq14]) E324 nq14 F757 V758 (by simp only [← hq14, ← hy12]; exact hc27))
         have F1104 := (Fld.keep (Fld.keep F291 K33c.1 (ninS ne117 (ninS ne158 (ninS ne111 nin0)))) K69c.1 (ninS ne117 (ninS ne111 nin0)))
         have E1105 := (Exa.keep (Exa.keep E292 K33c.1) K69c.1)
         let l81 := lf (vr b18) (vr b17) (vr b15) (vr b11) (vi 0) (vr b18) (vi (-1)) (vi p_4) u u u u
         obtain ⟨_, T240, L240, X240, ⟨rfl, rfl, e240⟩, st240⟩ := own_cv X163 hx hZ hown (own_w1056 hw) hml (g := (mkF m 199 l81 [(.ref b15), (.ref b11)])) (hb hby at_199) e163 E324 [(.ref b15)] [] (lenOf own_pd16 rfl) (rm5480 l Z a0 hw T69.heap b11 b15 (p_2 &&& 2147483647) b20 k23 y12 q14 (oN y12) q13 b21 k31 y10 p_3 p_4 p_5 F1104 E1105 F536 V537 (by simp only [← hq13, ← hy19]) (by simp only [← hq13]; exact dq14q13) nq14 (by simp only [← hq13, ← hy19]) (by simp only [← hq13]) E324 (by simp only [← hq13, ← hy19]; exact (ar799 y12 )) nq13 F757 V758 (by simp only [← hq13, ← hy19]; exact hc47))
         let l82 := lf (vr b18) (vr b17) (vr b15) (vr b11) (vi 0) (vr b18) (vi (-1)) (vi p_4) (vi p_5) u u u
         refine own_go (T2 := T240) (g2 := (mkF m 204 l82 [])) (fun t k => z_aload X69 hx hby at_177 rfl rfl (z_aload X69 hx hby at_179 rfl rfl (st162 _ (z_istore X162 hx hby at_184 l80 rfl (z_aload X162 hx hby at_186 rfl rfl (z_aload X162 hx hby at_188 rfl rfl (st163 _ (z_istore X163 hx hby at_193 l81 rfl (z_aload X163 hx hby at_195 rfl rfl (z_aload X163 hx hby at_197 rfl rfl (st240 _ (z_istore X240 hx hby at_202 l82 rfl k)))))))))))) ?_
         exact tl1268 X240 hx hby Bd.returns Bd.notSynchronized (by decide) (by decide) (by rw [e240]; simpa only [List.append_nil] using K69) p_0 p_1 p_2 p_3 p_4 p_5 (p_0 &&& 2147483647) (p_1 &&& 2147483647) (p_2 &&& 2147483647) b18 b17 b15 b11
       ·
        let l83 := lf (vr b18) (vr b17) (vr b15) (vr b11) (vi 1) (vr b17) u u u u u u
        let l84 := lf (vr b18) (vr b17) (vr b15) (vr b11) (vi 1) u u u u u u u
        refine own_go (T2 := T33) (g2 := (mkF m 170 l83 [])) (fun t k => z_istore X33 hx hby at_143 l84 rfl (z_iload X33 hx hby at_145 rfl (z_ifYes X33 hx hby 155 at_147 ((if0 _ _).trans (feq (show ¬ ((1 : Int32) = 0) from (by decide))).2) rfl (z_iload X33 hx hby at_155 rfl (z_iconst X33 hx hby at_157 (z_icmpNo X33 hx hby at_158 (teq (show (1 : Int32) = 1 from (by decide))).2 (z_aload X33 hx hby at_161 rfl rfl (z_goto X33 hx hby 168 at_163 rfl (z_astore X33 hx hby at_168 rfl l83 rfl k))))))))) ?_
        have V759 := own_arhN H318 (cn1269 (oN y12) y12 y10 (.int q13) (.int q14) (.int q16) (ar799 y12 ) hc47 hc27)
        have V760 := own_arhN H319 (cn1269 (oN y12) y12 y10 (.int p_5) (.int p_4) (.int p_3) (ar799 y12 ) hc47 hc27)
        refine own_go (T2 := T33) (g2 := (mkF m 174 l83 [(.ref b17), (.ref b11)])) (fun t k => z_aload X33 hx hby at_170 rfl rfl (z_aload X33 hx hby at_172 rfl rfl k)) ?_
        by_cases hc414 : (oN (oN y12)) = y10
        ·
         have F761 := (Fld.keep (Fld.keep F55 K25c.1 (ninS ne36 (ninS ne43 (ninS ne35 nin0)))) K33c.1 (ninS ne36 (ninS ne43 (ninS ne35 nin0))))
         have E762 := (Exa.keep (Exa.keep E56 K25c.1) K33c.1)
         have E538 := (Exa.keep E276 K33c.1)
         obtain ⟨_, T100, L100, X100, ⟨rfl, K100c, H763, F539, F1366, F764, H765⟩, st100⟩ := own_cv X33 hx hZ hown (own_w942 hw) hml (g := (mkF m 174 l83 [(.ref b17), (.ref b11)])) (hb hby at_174) rfl E538 [(.ref b17)] [] (lenOf own_pd15 rfl) (rm2603 l Z a0 hw T33.heap b11 b17 b20 k23 y12 q14 (oN y12) q13 y10 q16 (p_1 &&& 2147483647) b21 k31 p_4 p_5 p_3 F321 V759 F761 E762 (by simp only [← hq14, ← hy12]) (by simp only [← hq14]) E538 F320 ne45 (by simp only [← hq14, ← hy12]; exact (ar799 y12 )) (by simp only [← hq14, ← hy12]) nq13 (by simp only [← hq14, ← hy12, ← hy19]; exact Int32.lt_irrefl) F322 V760 (Ne.symm ne_b20_b21) (Ne.symm ne46) (by simp only [← hq14, ← hy12]; exact (ar758 y12 )) (by simp only [← hq14, ← hy12]; exact (ar798 y12 )) (by simp only [← hq14, ← hy12]; exact hc414) nq16 (by simp only [← hy10, ← hq14, ← hy12]; exact (ar2590 y12 y10 hc414)) (by simp only [← hq14, ← hy12]; exact (ar929 y12 )) (by simp only [← hq14, ← hy12]; exact (ar928 y12 )) (by simp only [← hq14, ← hy12]; exact (ar2691 y12 y10 hc414)))
         have z_K100c := K100c.1.1
         have K100 := own_kpTrans K33 K100c (allS (Or.inr sz_b20) (allS (Or.inr sz_b11) (allS (Or.inr sz_b21) all0)))
         simp only [← hq14, ← hy12] at H763
         simp only [← hq14, ← hy12] at H765
         refine own_go (T2 := T100) (g2 := (mkF m 177 l83 [])) (fun t k => st100 _ k) ?_
         have V540 := own_arhN H763 (cn1394 (oN y12) y12 y10 (.int q13) (.int q14) (.int q16) (ar799 y12 ) hc47 hc27)
         have V766 := own_arhN H765 (cn1396 y12 (oN y12) y10 (.int p_5) (.int p_4) (.int p_3) (ar944 y12 ) hc27 hc47)
         have ne415 := own_nl A18.lt (Nat.le_trans (Nat.le_trans (Nat.le_trans (Nat.le_trans (Nat.le_trans z_K30c z_E17) z_K29c) z_E15) z_K26c) z_E11) lo_b21
         have ne416 := own_nl A18.lt (Nat.le_trans (Nat.le_trans (Nat.le_trans (Nat.le_trans (Nat.le_trans z_K30c z_E17) z_K29c) z_E15) z_K26c) z_E11) lo_b20
         have F1106 := (Fld.keep (Fld.keep (Fld.keep (Fld.keep F49 K28c.1 (ninS ne416 (ninS ne415 (ninS ne24 nin0)))) K25c.1 (ninS ne416 (ninS ne415 (ninS ne24 nin0)))) K33c.1 (ninS ne416 (ninS ne415 (ninS ne24 nin0)))) K100c.1 (ninS ne416 (ninS ne24 (ninS ne415 nin0))))
         have E1107 := (Exa.keep (Exa.keep (Exa.keep (Exa.keep E50 K28c.1) K25c.1) K33c.1) K100c.1)
         have E325 := (Exa.keep E538 K100c.1)
         obtain ⟨_, T164, L164, X164, ⟨rfl, rfl, e164⟩, st164⟩ := own_cv X100 hx hZ hown (own_w1056 hw) hml (g := (mkF m 181 l83 [(.ref b18), (.ref b11)])) (hb hby at_181) rfl E325 [(.ref b18)] [] (lenOf own_pd16 rfl) (rm1060 l Z a0 hw T100.heap b11 b18 (p_0 &&& 2147483647) b20 k23 y10 q16 y12 q13 b21 k31 p_3 p_5 (oN y12) F1106 E1107 F539 V540 (by simp only [← hq16, ← hy10]) (by simp only [← hq16]) E325 nq16 F764 V766)
         have F1108 := (Fld.keep F761 K100c.1 (ninS ne36 (ninS ne35 (ninS ne43 nin0))))
         have E1109 := (Exa.keep E762 K100c.1)
         let l85 := lf (vr b18) (vr b17) (vr b15) (vr b11) (vi 1) (vr b17) (vi p_3) u u u u u
         obtain ⟨_, T165, L165, X165, ⟨rfl, rfl, e165⟩, st165⟩ := own_cv X164 hx hZ hown (own_w1056 hw) hml (g := (mkF m 190 l85 [(.ref b17), (.ref b11)])) (hb hby at_190) e164 E325 [(.ref b17)] [] (lenOf own_pd16 rfl) (rm1798 l Z a0 hw T100.heap b11 b17 (p_1 &&& 2147483647) b20 k23 y10 q16 y12 q13 F1108 E1109 F539 V540 (by simp only [← hq14, ← hy12]; exact hc27) (by simp only [← hq14, ← hy12]) (by simp only [← hq14]; exact dq13q14) nq13 (by simp only [← hq14, ← hy12]; exact hc47) (by simp only [← hq14]; exact (ar492 q14 nq14)) E325)
         have F1110 := (Fld.keep (Fld.keep F291 K33c.1 (ninS ne117 (ninS ne158 (ninS ne111 nin0)))) K100c.1 (ninS ne117 (ninS ne111 (ninS ne158 nin0))))
         have E1111 := (Exa.keep (Exa.keep E292 K33c.1) K100c.1)
         let l86 := lf (vr b18) (vr b17) (vr b15) (vr b11) (vi 1) (vr b17) (vi p_3) (vi (-1)) u u u u
         obtain ⟨_, T241, L241, X241, ⟨rfl, rfl, e241⟩, st241⟩ := own_cv X165 hx hZ hown (own_w1056 hw) hml (g := (mkF m 199 l86 [(.ref b15), (.ref b11)])) (hb hby at_199) e165 E325 [(.ref b15)] [] (lenOf own_pd16 rfl) (rm1162 l Z a0 hw T100.heap b11 b15 (p_2 &&& 2147483647) b20 k23 y10 q16 y12 q13 b21 k31 p_3 p_5 (oN y12) F1110 E1111 F539 V540 (by simp only [← hq13, ← hy19]; exact hc27) (by simp only [← hq13, ← hy19]) (by simp only [← hq13]) E325 nq13 F764 V766)
         let l87 := lf (vr b18) (vr b17) (vr b15) (vr b11) (vi 1) (vr b17) (vi p_3) (vi (-1)) (vi p_5) u u u
         refine own_go (T2 := T241) (g2 := (mkF m 204 l87 [])) (fun t k => z_aload X100 hx hby at_177 rfl rfl (z_aload X100 hx hby at_179 rfl rfl (st164 _ (z_istore X164 hx hby at_184 l85 rfl (z_aload X164 hx hby at_186 rfl rfl (z_aload X164 hx hby at_188 rfl rfl (st165 _ (z_istore X165 hx hby at_193 l86 rfl (z_aload X165 hx hby at_195 rfl rfl (z_aload X165 hx hby at_197 rfl rfl (st241 _ (z_istore X241 hx hby at_202 l87 rfl k)))))))))))) ?_
         exact tl1427 X241 hx hby Bd.returns Bd.notSynchronized (by decide) (by decide) (by rw [e241]; simpa only [List.append_nil] using K100) p_0 p_1 p_2 p_3 p_4 p_5 (p_0 &&& 2147483647) (p_1 &&& 2147483647) (p_2 &&& 2147483647) b18 b17 b15 b11
        ·
         have F767 := (Fld.keep (Fld.keep F55 K25c.1 (ninS ne36 (ninS ne43 (ninS ne35 nin0)))) K33c.1 (ninS ne36 (ninS ne43 (ninS ne35 nin0))))
         have E768 := (Exa.keep (Exa.keep E56 K25c.1) K33c.1)
         have E541 := (Exa.keep E276 K33c.1)
         obtain ⟨_, T101, L101, X101, ⟨rfl, K101c, H769, F542, F1367, F770, H771⟩, st101⟩ := own_cv X33 hx hZ hown (own_w942 hw) hml (g := (mkF m 174 l83 [(.ref b17), (.ref b11)])) (hb hby at_174) rfl E541 [(.ref b17)] [] (lenOf own_pd15 rfl) (rm3021 l Z a0 hw T33.heap b11 b17 b20 k23 y12 q14 (oN y12) q13 y10 q16 (p_1 &&& 2147483647) b21 k31 p_4 p_5 p_3 F321 V759 F767 E768 (by simp only [← hq14, ← hy12]) (by simp only [← hq14]) E541 F320 ne45 (by simp only [← hq14, ← hy12]; exact (ar799 y12 )) (by simp only [← hq14, ← hy12]) nq13 (by simp only [← hq14, ← hy12, ← hy19]; exact Int32.lt_irrefl) F322 V760 (Ne.symm ne_b20_b21) (Ne.symm ne46) (by simp only [← hq14, ← hy12]; exact (ar758 y12 )) (by simp only [← hq14, ← hy12]; exact (ar798 y12 )) (by simp only [← hq14, ← hy12]; exact hc414))
         have z_K101c := K101c.1.1
         have K101 := own_kpTrans K33 K101c (allS (Or.inr sz_b20) (allS (Or.inr sz_b11) (allS (Or.inr sz_b21) all0)))
         simp only [← hq14, ← hy12] at H769
         simp only [← hq14, ← hy12] at H771
         refine own_go (T2 := T101) (g2 := (mkF m 177 l83 [])) (fun t k => st101 _ k) ?_
         have V543 := own_arhN H769 (cn1394 (oN y12) y12 y10 (.int q13) (.int q14) (.int q16) (ar799 y12 ) hc47 hc27)
         have V772 := own_arhN H771 (cn1396 y12 (oN y12) y10 (.int p_5) (.int p_4) (.int p_3) (ar944 y12 ) hc27 hc47)
         have ne417 := own_nl A18.lt (Nat.le_trans (Nat.le_trans (Nat.le_trans (Nat.le_trans (Nat.le_trans z_K30c z_E17) z_K29c) z_E15) z_K26c) z_E11) lo_b21
         have ne418 := own_nl A18.lt (Nat.le_trans (Nat.le_trans (Nat.le_trans (Nat.le_trans (Nat.le_trans z_K30c z_E17) z_K29c) z_E15) z_K26c) z_E11) lo_b20
         have F1112 := (Fld.keep (Fld.keep (Fld.keep (Fld.keep F49 K28c.1 (ninS ne418 (ninS ne417 (ninS ne24 nin0)))) K25c.1 (ninS ne418 (ninS ne417 (ninS ne24 nin0)))) K33c.1 (ninS ne418 (ninS ne417 (ninS ne24 nin0)))) K101c.1 (ninS ne418 (ninS ne24 (ninS ne417 nin0))))
         have E1113 := (Exa.keep (Exa.keep (Exa.keep (Exa.keep E50 K28c.1) K25c.1) K33c.1) K101c.1)
         have E326 := (Exa.keep E541 K101c.1)
         obtain ⟨_, T166, L166, X166, ⟨rfl, rfl, e166⟩, st166⟩ := own_cv X101 hx hZ hown (own_w1056 hw) hml (g := (mkF m 181 l83 [(.ref b18), (.ref b11)])) (hb hby at_181) rfl E326 [(.ref b18)] [] (lenOf own_pd16 rfl) (rm1060 l Z a0 hw T101.heap b11 b18 (p_0 &&& 2147483647) b20 k23 y10 q16 y12 q13 b21 k31 p_3 p_5 (oN y12) F1112 E1113 F542 V543 (by simp only [← hq16, ← hy10]) (by simp only [← hq16]) E326 nq16 F770 V772)
         have F1114 := (Fld.keep F767 K101c.1 (ninS ne36 (ninS ne35 (ninS ne43 nin0))))
         have E1115 := (Exa.keep E768 K101c.1)
         let l88 := lf (vr b18) (vr b17) (vr b15) (vr b11) (vi 1) (vr b17) (vi p_3) u u u u u
         obtain ⟨_, T167, L167, X167, ⟨rfl, rfl, e167⟩, st167⟩ := own_cv X166 hx hZ hown (own_w1056 hw) hml (g := (mkF m 190 l88 [(.ref b17), (.ref b11)])) (hb hby at_190) e166 E326 [(.ref b17)] [] (lenOf own_pd16 rfl) (rm1798 l Z a0 hw T101.heap b11 b17 (p_1 &&& 2147483647) b20 k23 y10 q16 y12 q13 F1114 E1115 F542 V543 (by simp only [← hq14, ← hy12]; exact hc27) (by simp only [← hq14, ← hy12]) (by simp only [← hq14]; exact dq13q14) nq13 (by simp only [← hq14, ← hy12]; exact hc47) (by simp only [← hq14]; exact (ar492 q14 nq14)) E326)
         have F1116 := (Fld.keep (Fld.keep F291 K33c.1 (ninS ne117 (ninS ne158 (ninS ne111 nin0)))) K101c.1 (ninS ne117 (ninS ne111 (ninS ne158 nin0))))
         have E1117 := (Exa.keep (Exa.keep E292 K33c.1) K101c.1)
         let l89 := lf (vr b18) (vr b17) (vr b15) (vr b11) (vi 1) (vr b17) (vi p_3) (vi (-1)) u u u u
         obtain ⟨_, T242, L242, X242, ⟨rfl, rfl, e242⟩, st242⟩ := own_cv X167 hx hZ hown (own_w1056 hw) hml (g := (mkF m 199 l89 [(.ref b15), (.ref b11)])) (hb hby at_199) e167 E326 [(.ref b15)] [] (lenOf own_pd16 rfl) (rm1162 l Z a0 hw T101.heap b11 b15 (p_2 &&& 2147483647) b20 k23 y10 q16 y12 q13 b21 k31 p_3 p_5 (oN y12) F1116 E1117 F542 V543 (by simp only [← hq13, ← hy19]; exact hc27) (by simp only [← hq13, ← hy19]) (by simp only [← hq13]) E326 nq13 F770 V772)
         let l90 := lf (vr b18) (vr b17) (vr b15) (vr b11) (vi 1) (vr b17) (vi p_3) (vi (-1)) (vi p_5) u u u
         refine own_go (T2 := T242) (g2 := (mkF m 204 l90 [])) (fun t k => z_aload X101 hx hby at_177 rfl rfl (z_aload X101 hx hby at_179 rfl rfl (st166 _ (z_istore X166 hx hby at_184 l88 rfl (z_aload X166 hx hby at_186 rfl rfl (z_aload X166 hx hby at_188 rfl rfl (st167 _ (z_istore X167 hx hby at_193 l89 rfl (z_aload X167 hx hby at_195 rfl rfl (z_aload X167 hx hby at_197 rfl rfl (st242 _ (z_istore X242 hx hby at_202 l90 rfl k)))))))))))) ?_
         exact tl1427 X242 hx hby Bd.returns Bd.notSynchronized (by decide) (by decide) (by rw [e242]; simpa only [List.append_nil] using K101) p_0 p_1 p_2 p_3 p_4 p_5 (p_0 &&& 2147483647) (p_1 &&& 2147483647) (p_2 &&& 2147483647) b18 b17 b15 b11
       ·
        let l91 := lf (vr b18) (vr b17) (vr b15) (vr b11) (vi 2) (vr b15) u u u u u u
        let l92 := lf (vr b18) (vr b17) (vr b15) (vr b11) (vi 2) u u u u u u u
        refine own_go (T2 := T33) (g2 := (mkF m 170 l91 [])) (fun t k => z_istore X33 hx hby at_143 l92 rfl (z_iload X33 hx hby at_145 rfl (z_ifYes X33 hx hby 155 at_147 ((if0 _ _).trans (feq (show ¬ ((2 : Int32) = 0) from (by decide))).2) rfl (z_iload X33 hx hby at_155 rfl (z_iconst X33 hx hby at_157 (z_icmpYes X33 hx hby 166 at_158 (feq (show ¬ ((2 : Int32) = 1) from (by decide))).2 rfl (z_aload X33 hx hby at_166 rfl rfl (z_astore X33 hx hby at_168 rfl l91 rfl k)))))))) ?_
        by_cases hc419 : (oN (oN y12)) = y10
        ·
         have V1118 := own_arhN H318 (cn3713 (oN y12) y12 y10 (.int q13) (.int q14) (.int q16) (ar799 y12 ) hc47 hc27)
         have V1119 := own_arhN H319 (cn3713 (oN y12) y12 y10 (.int p_5) (.int p_4) (.int p_3) (ar799 y12 ) hc47 hc27)
         have F773 := (Fld.keep F291 K33c.1 (ninS ne117 (ninS ne158 (ninS ne111 nin0))))
         have E774 := (Exa.keep E292 K33c.1)
         have E544 := (Exa.keep E276 K33c.1)
         obtain ⟨_, T70, L70, X70, ⟨rfl, K70c, H775, F545, F1368, F776⟩, st70⟩ := own_cv X33 hx hZ hown (own_w942 hw) hml (g := (mkF m 174 l91 [(.ref b15), (.ref b11)])) (hb hby at_174) rfl E544 [(.ref b15)] [] (lenOf own_pd15 rfl) (rm3187 l Z a0 hw T33.heap b11 b15 b20 k23 (oN y12) q13 y10 q16 y12 q14 (p_2 &&& 2147483647) b21 F321 V1118 F773 E774 (by simp only [← hq13, ← hy19]; exact (ar944 y12 )) (by simp only [← hq13, ← hy19]; exact hc27) (by simp only [← hq13, ← hy19]) (by simp only [← hq13]; exact dq14q13) nq14 (by simp only [← hq13, ← hy19]) (by simp only [← hq13]) E544 F320 ne45 (by simp only [← hq13, ← hy19]; exact (ar798 y12 )) (by simp only [← hq13, ← hy19]; exact hc419) nq16 (by simp only [← hy10, ← hq13, ← hy19]; exact (ar2590 y12 y10 hc419)) (by simp only [← hq13, ← hy19]; exact (ar928 y12 )) (by simp only [← hq13, ← hy19]; exact (ar2691 y12 y10 hc419)) (by simp only [← hq13, ← hy19]; exact (ar929 y12 )) F322)
         have z_K70c := K70c.1.1
         have K70 := own_kpTrans K33 K70c (allS (Or.inr sz_b20) (allS (Or.inr sz_b11) all0))
         simp only [← hq13, ← hy19] at H775
         refine own_go (T2 := T70) (g2 := (mkF m 177 l91 [])) (fun t k => z_aload X33 hx hby at_170 rfl rfl (z_aload X33 hx hby at_172 rfl rfl (st70 _ k))) ?_
         have V546 := own_arhN H775 (cn3814 (oN y12) y10 y12 (.int q13) (.int q16) (.int q14) hc47 (ar799 y12 ) (ar2702 y10 y12 hc27))
         have H1120 := (Arh.keep V1119 K70c.1 (ninS (Ne.symm ne_b20_b21) (ninS (Ne.symm ne46) nin0)))
         have V777 := own_arhN H1120 (cn3817 (oN y12) y10 y12 (.int p_5) (.int p_3) (.int p_4) hc47 (ar799 y12 ) (ar2702 y10 y12 hc27))
         have ne547 := own_nl A18.lt (Nat.le_trans (Nat.le_trans (Nat.le_trans (Nat.le_trans (Nat.le_trans z_K30c z_E17) z_K29c) z_E15) z_K26c) z_E11) lo_b21
         have ne420 := own_nl A18.lt (Nat.le_trans (Nat.le_trans (Nat.le_trans (Nat.le_trans (Nat.le_trans z_K30c z_E17) z_K29c) z_E15) z_K26c) z_E11) lo_b20
         have F1121 := (Fld.keep (Fld.keep (Fld.keep (Fld.keep F49 K28c.1 (ninS ne420 (ninS ne547 (ninS ne24 nin0)))) K25c.1 (ninS ne420 (ninS ne547 (ninS ne24 nin0)))) K33c.1 (ninS ne420 (ninS ne547 (ninS ne24 nin0)))) K70c.1 (ninS ne420 (ninS ne24 nin0)))
         have E1122 := (Exa.keep (Exa.keep (Exa.keep (Exa.keep E50 K28c.1) K25c.1) K33c.1) K70c.1)
         have E327 := (Exa.keep E544 K70c.1)
         obtain ⟨_, T168, L168, X168, ⟨rfl, rfl, e168⟩, st168⟩ := own_cv X70 hx hZ hown (own_w1056 hw) hml (g := (mkF m 181 l91 [(.ref b18), (.ref b11)])) (hb hby at_181) rfl E327 [(.ref b18)] [] (lenOf own_pd16 rfl) (rm1536 l Z a0 hw T70.heap b11 b18 (p_0 &&& 2147483647) b20 k23 y10 q16 y12 q14 b21 k31 p_3 p_4 (oN y12) p_5 F1121 E1122 F545 V546 (by simp only [← hq16, ← hy10]) (by simp only [← hq16]) E327 nq16 F776 V777)
         have F1123 := (Fld.keep (Fld.keep (Fld.keep F55 K25c.1 (ninS ne36 (ninS ne43 (ninS ne35 nin0)))) K33c.1 (ninS ne36 (ninS ne43 (ninS ne35 nin0)))) K70c.1 (ninS ne36 (ninS ne35 nin0)))
         have E1124 := (Exa.keep (Exa.keep (Exa.keep E56 K25c.1) K33c.1) K70c.1)
         let l93 := lf (vr b18) (vr b17) (vr b15) (vr b11) (vi 2) (vr b15) (vi p_3) u u u u u
         obtain ⟨_, T169, L169, X169, ⟨rfl, rfl, e169⟩, st169⟩ := own_cv X168 hx hZ hown (own_w1056 hw) hml (g := (mkF m 190 l93 [(.ref b17), (.ref b11)])) (hb hby at_190) e168 E327 [(.ref b17)] [] (lenOf own_pd16 rfl) (rm5097 l Z a0 hw T70.heap b11 b17 (p_1 &&& 2147483647) b20 k23 y10 q16 y12 q14 b21 k31 p_3 p_4 (oN y12) p_5 F1123 E1124 F545 V546 (by simp only [← hq14, ← hy12]; exact hc27) (by simp only [← hq14, ← hy12]) (by simp only [← hq14]) E327 nq14 F776 V777)
         have F1125 := (Fld.keep F773 K70c.1 (ninS ne117 (ninS ne111 nin0)))
         have E1126 := (Exa.keep E774 K70c.1)
         let l94 := lf (vr b18) (vr b17) (vr b15) (vr b11) (vi 2) (vr b15) (vi p_3) (vi p_4) u u u u
         obtain ⟨_, T243, L243, X243, ⟨rfl, rfl, e243⟩, st243⟩ := own_cv X169 hx hZ hown (own_w1056 hw) hml (g := (mkF m 199 l94 [(.ref b15), (.ref b11)])) (hb hby at_199) e169 E327 [(.ref b15)] [] (lenOf own_pd16 rfl) (rm1798 l Z a0 hw T70.heap b11 b15 (p_2 &&& 2147483647) b20 k23 y10 q16 y12 q14 F1125 E1126 F545 V546 (by simp only [← hq13, ← hy19]; exact hc27) (by simp only [← hq13, ← hy19]) (by simp only [← hq13]; exact dq14q13) nq14 (by simp only [← hq13, ← hy19]; exact hc47) (by simp only [← hq13]; exact (ar492 q13 nq13)) E327)
         let l95 := lf (vr b18) (vr b17) (vr b15) (vr b11) (vi 2) (vr b15) (vi p_3) (vi p_4) (vi (-1)) u u u
         refine own_go (T2 := T243) (g2 := (mkF m 204 l95 [])) (fun t k => z_aload X70 hx hby at_177 rfl rfl (z_aload X70 hx hby at_179 rfl rfl (st168 _ (z_istore X168 hx hby at_184 l93 rfl (z_aload X168 hx hby at_186 rfl rfl (z_aload X168 hx hby at_188 rfl rfl (st169 _ (z_istore X169 hx hby at_193 l94 rfl (z_aload X169 hx hby at_195 rfl rfl (z_aload X169 hx hby at_197 rfl rfl (st243 _ (z_istore X243 hx hby at_202 l95 rfl k)))))))))))) ?_
         exact tl1942 X243 hx hby Bd.returns Bd.notSynchronized (by decide) (by decide) (by rw [e243]; simpa only [List.append_nil] using K70) p_0 p_1 p_2 p_3 p_4 p_5 (p_0 &&& 2147483647) (p_1 &&& 2147483647) (p_2 &&& 2147483647) b18 b17 b15 b11
        ·
         have F778 := (Fld.keep F291 K33c.1 (ninS ne117 (ninS ne158 (ninS ne111 nin0))))
         have E779 := (Exa.keep E292 K33c.1)
         have E548 := (Exa.keep E276 K33c.1)
         obtain ⟨_, T71, L71, X71, ⟨rfl, K71c, H780, F549, F1369, F781⟩, st71⟩ := own_cv X33 hx hZ hown (own_w942 hw) hml (g := (mkF m 174 l91 [(.ref b15), (.ref b11)])) (hb hby at_174) rfl E548 [(.ref b15)] [] (lenOf own_pd15 rfl) (rm1433 l Z a0 hw T33.heap b11 b15 b20 k23 (oN y12) q13 y12 q14 y10 q16 (p_2 &&& 2147483647) b21 F321 H318 F778 E779 (by simp only [← hq13, ← hy19]; exact (ar944 y12 )) (by simp only [← hq13, ← hy19]) (by simp only [← hq13]; exact dq14q13) nq14 (by simp only [← hq13, ← hy19]) (by simp only [← hq13]) E548 F320 ne45 (by simp only [← hq13, ← hy19]; exact (ar798 y12 )) (by simp only [← hq13, ← hy19]; exact (ar758 y12 )) (by simp only [← hq13, ← hy19]; exact hc419) F322)
         have z_K71c := K71c.1.1
         have K71 := own_kpTrans K33 K71c (allS (Or.inr sz_b20) (allS (Or.inr sz_b11) all0))
         simp only [← hq13, ← hy19] at H780
         refine own_go (T2 := T71) (g2 := (mkF m 177 l91 [])) (fun t k => z_aload X33 hx hby at_170 rfl rfl (z_aload X33 hx hby at_172 rfl rfl (st71 _ k))) ?_
         have V550 := own_arhN H780 (cn1518 (oN y12) y12 y10 (.int q13) (.int q14) (.int q16) (ar799 y12 ) hc47 hc27)
         have H1127 := (Arh.keep H319 K71c.1 (ninS (Ne.symm ne_b20_b21) (ninS (Ne.symm ne46) nin0)))
         have V782 := own_arhN H1127 (cn800 (oN y12) y12 y10 (.int p_5) (.int p_4) (.int p_3) (ar799 y12 ) hc47 hc27)
         have ne551 := own_nl A18.lt (Nat.le_trans (Nat.le_trans (Nat.le_trans (Nat.le_trans (Nat.le_trans z_K30c z_E17) z_K29c) z_E15) z_K26c) z_E11) lo_b21
         have ne421 := own_nl A18.lt (Nat.le_trans (Nat.le_trans (Nat.le_trans (Nat.le_trans (Nat.le_trans z_K30c z_E17) z_K29c) z_E15) z_K26c) z_E11) lo_b20
         have F1128 := (Fld.keep (Fld.keep (Fld.keep (Fld.keep F49 K28c.1 (ninS ne421 (ninS ne551 (ninS ne24 nin0)))) K25c.1 (ninS ne421 (ninS ne551 (ninS ne24 nin0)))) K33c.1 (ninS ne421 (ninS ne551 (ninS ne24 nin0)))) K71c.1 (ninS ne421 (ninS ne24 nin0)))
         have E1129 := (Exa.keep (Exa.keep (Exa.keep (Exa.keep E50 K28c.1) K25c.1) K33c.1) K71c.1)
         have E328 := (Exa.keep E548 K71c.1)
         obtain ⟨_, T170, L170, X170, ⟨rfl, rfl, e170⟩, st170⟩ := own_cv X71 hx hZ hown (own_w1056 hw) hml (g := (mkF m 181 l91 [(.ref b18), (.ref b11)])) (hb hby at_181) rfl E328 [(.ref b18)] [] (lenOf own_pd16 rfl) (rm1536 l Z a0 hw T71.heap b11 b18 (p_0 &&& 2147483647) b20 k23 y10 q16 y12 q14 b21 k31 p_3 p_4 (oN y12) p_5 F1128 E1129 F549 V550 (by simp only [← hq16, ← hy10]) (by simp only [← hq16]) E328 nq16 F781 V782)
         have F1130 := (Fld.keep (Fld.keep (Fld.keep F55 K25c.1 (ninS ne36 (ninS ne43 (ninS ne35 nin0)))) K33c.1 (ninS ne36 (ninS ne43 (ninS ne35 nin0)))) K71c.1 (ninS ne36 (ninS ne35 nin0)))
         have E1131 := (Exa.keep (Exa.keep (Exa.keep E56 K25c.1) K33c.1) K71c.1)
         let l96 := lf (vr b18) (vr b17) (vr b15) (vr b11) (vi 2) (vr b15) (vi p_3) u u u u u
         obtain ⟨_, T171, L171, X171, ⟨rfl, rfl, e171⟩, st171⟩ := own_cv X170 hx hZ hown (own_w1056 hw) hml (g := (mkF m 190 l96 [(.ref b17), (.ref b11)])) (hb hby at_190) e170 E328 [(.ref b17)] [] (lenOf own_pd16 rfl) (rm5097 l Z a0 hw T71.heap b11 b17 (p_1 &&& 2147483647) b20 k23 y10 q16 y12 q14 b21 k31 p_3 p_4 (oN y12) p_5 F1130 E1131 F549 V550 (by simp only [← hq14, ← hy12]; exact hc27) (by simp only [← hq14, ← hy12]) (by simp only [← hq14]) E328 nq14 F781 V782)
         have F1132 := (Fld.keep F778 K71c.1 (ninS ne117 (ninS ne111 nin0)))
         have E1133 := (Exa.keep E779 K71c.1)
         let l97 := lf (vr b18) (vr b17) (vr b15) (vr b11) (vi 2) (vr b15) (vi p_3) (vi p_4) u u u u
         obtain ⟨_, T244, L244, X244, ⟨rfl, rfl, e244⟩, st244⟩ := own_cv X171 hx hZ hown (own_w1056 hw) hml (g := (mkF m 199 l97 [(.ref b15), (.ref b11)])) (hb hby at_199) e171 E328 [(.ref b15)] [] (lenOf own_pd16 rfl) (rm1798 l Z a0 hw T71.heap b11 b15 (p_2 &&& 2147483647) b20 k23 y10 q16 y12 q14 F1132 E1133 F549 V550 (by simp only [← hq13, ← hy19]; exact hc27) (by simp only [← hq13, ← hy19]) (by simp only [← hq13]; exact dq14q13) nq14 (by simp only [← hq13, ← hy19]; exact hc47) (by simp only [← hq13]; exact (ar492 q13 nq13)) E328)
         let l98 := lf (vr b18) (vr b17) (vr b15) (vr b11) (vi 2) (vr b15) (vi p_3) (vi p_4) (vi (-1)) u u u
         refine own_go (T2 := T244) (g2 := (mkF m 204 l98 [])) (fun t k => z_aload X71 hx hby at_177 rfl rfl (z_aload X71 hx hby at_179 rfl rfl (st170 _ (z_istore X170 hx hby at_184 l96 rfl (z_aload X170 hx hby at_186 rfl rfl (z_aload X170 hx hby at_188 rfl rfl (st171 _ (z_istore X171 hx hby at_193 l97 rfl (z_aload X171 hx hby at_195 rfl rfl (z_aload X171 hx hby at_197 rfl rfl (st244 _ (z_istore X244 hx hby at_202 l98 rfl k)))))))))))) ?_
         exact tl1942 X244 hx hby Bd.returns Bd.notSynchronized (by decide) (by decide) (by rw [e244]; simpa only [List.append_nil] using K71) p_0 p_1 p_2 p_3 p_4 p_5 (p_0 &&& 2147483647) (p_1 &&& 2147483647) (p_2 &&& 2147483647) b18 b17 b15 b11
     ·
      by_cases hc44 : y19 = y10
      ·
       have hc44 := hc44.symm
       subst hc44
       by_cases hc48 : (oN y10) = y12
       ·
        have ne245 := own_nl A15.lt z_K26c lo_b11
        have ne293 := own_nl A15.lt (Nat.le_trans z_K26c z_E11) lo_b21
        have ne277 := own_nl A15.lt (Nat.le_trans z_K26c z_E11) lo_b20
        have F422 := (Fld.keep (Fld.keep (Fld.keep (Fld.ext E11 F270) K51c.1 (ninS ne245 nin0)) K28c.1 (ninS ne277 (ninS ne293 (ninS ne245 nin0)))) K25c.1 (ninS ne277 (ninS ne293 (ninS ne245 nin0))))
        have E423 := (Exa.keep (Exa.keep (Exa.keep (Exa.ext E11 (Exa.keep A15 K26c.1)) K51c.1) K28c.1) K25c.1)
        have E365 := (Exa.keep E289 K25c.1)
        obtain ⟨_, T42, L42, X42, ⟨rfl, K42c, H424, H425, F552, F553, F554⟩, st42⟩ := own_cv X25 hx hZ hown (own_w528 hw) hml (g := (mkF m 133 l5 [(.int p_5), (.ref b15), (.ref b11)])) (hb hby at_133) rfl E365 [(.ref b15), (.int p_5)] [] (lenOf own_pd14 rfl) (rm2007 l Z a0 hw T25.heap b11 b15 p_5 b20 k23 y12 q14 y10 q16 (p_2 &&& 2147483647) b21 k31 p_4 p_3 F361 F362 H313 F422 E423 (by simp only [← hq13, ← hy19]; exact hc37) (by simp only [← hq13, ← hy19]) (by simp only [← hq13]; exact dq16q13) nq16 (by simp only [← hq13, ← hy19]; exact hc48) (by simp only [← hq13]; exact dq14q13) nq14 (by simp only [← hq13, ← hy19]; exact (ar3788 y10 y12 hc48)) (by simp only [← hq13, ← hy19]; exact (ar758 y10 )) (by simp only [← hq13]; exact (ar492 q13 nq13)) E365 F363 ne45 H314 (Ne.symm ne_b20_b21) ne46)
        have z_K42c := K42c.1.1
        have K42 := own_kpTrans K25 K42c (allS (Or.inr sz_b20) (allS (Or.inr sz_b21) (allS (Or.inr sz_b11) all0)))
        simp only [← hq13, ← hy19] at H424
        simp only [← hq13, ← hy19] at H425
        refine own_go (T2 := T42) (g2 := (mkF m 143 l5 [(.int ((p_5 &&& 2147483647) % 3))])) (fun t k => st42 _ (z_iload X42 hx hby at_136 rfl (Jvm.Stand.ldcI X42 hx hown (mvT hZ (own_wd hw 0 rfl)) rfl (hb hby at_138) (z_iand X42 hx hby at_140 (z_iconst X42 hx hby at_141 (iremM X42 hx rfl (hb hby at_142) rfl (by decide) k)))))) ?_
        have hrk6393 := own_mod3 p_5
        generalize ((p_5 &&& 2147483647) % 3) = k1370 at hrk6393 ⊢
        rcases hrk6393 with rfl | rfl | rfl
        ·
         let l99 := lf (vr b18) (vr b17) (vr b15) (vr b11) (vi 0) (vr b18) u u u u u u
         let l100 := lf (vr b18) (vr b17) (vr b15) (vr b11) (vi 0) u u u u u u u
         refine own_go (T2 := T42) (g2 := (mkF m 170 l99 [])) (fun t k => z_istore X42 hx hby at_143 l100 rfl (z_iload X42 hx hby at_145 rfl (z_ifNo X42 hx hby at_147 ((if0 _ _).trans (teq (show (0 : Int32) = 0 from (by decide))).2) (z_aload X42 hx hby at_150 rfl rfl (z_goto X42 hx hby 168 at_152 rfl (z_astore X42 hx hby at_168 rfl l99 rfl k)))))) ?_
         have V1134 := own_arhN H424 (cn800 (oN (oN y10)) y12 y10 (.int q13) (.int q14) (.int q16) (ar3788 y10 y12 hc48) (ar758 y10 ) hc27)
         have V1135 := own_arhN H425 (cn800 (oN (oN y10)) y12 y10 (.int p_5) (.int p_4) (.int p_3) (ar3788 y10 y12 hc48) (ar758 y10 ) hc27)
         have ne426 := own_nl A18.lt (Nat.le_trans (Nat.le_trans (Nat.le_trans (Nat.le_trans (Nat.le_trans z_K30c z_E17) z_K29c) z_E15) z_K26c) z_E11) lo_b21
         have ne427 := own_nl A18.lt (Nat.le_trans (Nat.le_trans (Nat.le_trans (Nat.le_trans (Nat.le_trans z_K30c z_E17) z_K29c) z_E15) z_K26c) z_E11) lo_b20
         have F783 := (Fld.keep (Fld.keep (Fld.keep F49 K28c.1 (ninS ne427 (ninS ne426 (ninS ne24 nin0)))) K25c.1 (ninS ne427 (ninS ne426 (ninS ne24 nin0)))) K42c.1 (ninS ne427 (ninS ne426 (ninS ne24 nin0))))
         have E784 := (Exa.keep (Exa.keep (Exa.keep E50 K28c.1) K25c.1) K42c.1)
         have E555 := (Exa.keep E365 K42c.1)
         obtain ⟨_, T102, L102, X102, ⟨rfl, K102c, H785, F556, F1371, F786, H787⟩, st102⟩ := own_cv X42 hx hZ hown (own_w942 hw) hml (g := (mkF m 174 l99 [(.ref b18), (.ref b11)])) (hb hby at_174) rfl E555 [(.ref b18)] [] (lenOf own_pd15 rfl) (rm4614 l Z a0 hw T42.heap b11 b18 b20 k23 y10 q16 y12 q14 (oN (oN y10)) q13 (p_0 &&& 2147483647) b21 k31 p_3 p_4 p_5 F553 V1134 F783 E784 (by simp only [← hq16, ← hy10]) (by simp only [← hq16]) E555 F552 ne45 (by simp only [← hq16, ← hy10]; exact (ar799 y10 )) (by simp only [← hq16, ← hy10]; exact hc48) nq14 (by simp only [← hq16, ← hy10, ← hy12]; exact (ar3720 y10 y12 hc48)) (by simp only [← hq16, ← hy10]; exact (ar758 y10 )) (by simp only [← hq16, ← hy10]; exact (ar3788 y10 y12 hc48)) (by simp only [← hq16, ← hy10]) nq13 (by simp only [← hq16, ← hy10, ← hy19]; exact Int32.lt_irrefl) F554 V1135 (Ne.symm ne_b20_b21) (Ne.symm ne46) (by simp only [← hq16, ← hy10]; exact (ar929 y10 )) (by simp only [← hq16, ← hy10]; exact (ar3801 y10 y12 hc48)) (by simp only [← hq16, ← hy10]; exact (ar927 y10 )))
         have z_K102c := K102c.1.1
         have K102 := own_kpTrans K42 K102c (allS (Or.inr sz_b20) (allS (Or.inr sz_b11) (allS (Or.inr sz_b21) all0)))
         simp only [← hq16, ← hy10] at H785
         simp only [← hq16, ← hy10] at H787
         refine own_go (T2 := T102) (g2 := (mkF m 177 l99 [])) (fun t k => z_aload X42 hx hby at_170 rfl rfl (z_aload X42 hx hby at_172 rfl rfl (st102 _ k))) ?_
         have V557 := own_arhN H785 (cn4710 (oN (oN y10)) y10 y12 (.int q13) (.int q16) (.int q14) (ar758 y10 ) (ar3788 y10 y12 hc48) hc37)
         have V788 := own_arhN H787 (cn4712 y10 y12 (oN (oN y10)) (.int p_5) (.int p_3) (.int p_4) hc37 (ar943 y10 ) (ar4545 y12 y10 hc48))
         have F1136 := (Fld.keep F783 K102c.1 (ninS ne427 (ninS ne24 (ninS ne426 nin0))))
         have E1137 := (Exa.keep E784 K102c.1)
         have E329 := (Exa.keep E555 K102c.1)
         obtain ⟨_, T172, L172, X172, ⟨rfl, rfl, e172⟩, st172⟩ := own_cv X102 hx hZ hown (own_w1056 hw) hml (g := (mkF m 181 l99 [(.ref b18), (.ref b11)])) (hb hby at_181) rfl E329 [(.ref b18)] [] (lenOf own_pd16 rfl) (rm4754 l Z a0 hw T102.heap b11 b18 (p_0 &&& 2147483647) b20 k23 y12 q14 y10 q13 F1136 E1137 F556 V557 (by simp only [← hq16, ← hy10]; exact hc37) (by simp only [← hq16, ← hy10]) (by simp only [← hq16]; exact dq13q16) nq13 (by simp only [← hq16, ← hy10]; exact hc48) (by simp only [← hq16]; exact dq14q16) nq14 (by simp only [← hq16, ← hy10]; exact (ar3788 y10 y12 hc48)) (by simp only [← hq16, ← hy10]; exact (ar758 y10 )) (by simp only [← hq16]; exact (ar492 q16 nq16)) E329)
         have F1138 := (Fld.keep (Fld.keep (Fld.keep F55 K25c.1 (ninS ne36 (ninS ne43 (ninS ne35 nin0)))) K42c.1 (ninS ne36 (ninS ne43 (ninS ne35 nin0)))) K102c.1 (ninS ne36 (ninS ne35 (ninS ne43 nin0))))
         have E1139 := (Exa.keep (Exa.keep (Exa.keep E56 K25c.1) K42c.1) K102c.1)
         let l101 := lf (vr b18) (vr b17) (vr b15) (vr b11) (vi 0) (vr b18) (vi (-1)) u u u u u
         obtain ⟨_, T173, L173, X173, ⟨rfl, rfl, e173⟩, st173⟩ := own_cv X172 hx hZ hown (own_w1056 hw) hml (g := (mkF m 190 l101 [(.ref b17), (.ref b11)])) (hb hby at_190) e172 E329 [(.ref b17)] [] (lenOf own_pd16 rfl) (rm1060 l Z a0 hw T102.heap b11 b17 (p_1 &&& 2147483647) b20 k23 y12 q14 y10 q13 b21 k31 p_4 p_5 (oN (oN y10)) F1138 E1139 F556 V557 (by simp only [← hq14, ← hy12]) (by simp only [← hq14]) E329 nq14 F786 V788)
         have F1140 := (Fld.keep (Fld.keep F422 K42c.1 (ninS ne277 (ninS ne293 (ninS ne245 nin0)))) K102c.1 (ninS ne277 (ninS ne245 (ninS ne293 nin0))))
         have E1141 := (Exa.keep (Exa.keep E423 K42c.1) K102c.1)
         let l102 := lf (vr b18) (vr b17) (vr b15) (vr b11) (vi 0) (vr b18) (vi (-1)) (vi p_4) u u u u
         obtain ⟨_, T246, L246, X246, ⟨rfl, rfl, e246⟩, st246⟩ := own_cv X173 hx hZ hown (own_w1056 hw) hml (g := (mkF m 199 l102 [(.ref b15), (.ref b11)])) (hb hby at_199) e173 E329 [(.ref b15)] [] (lenOf own_pd16 rfl) (rm1162 l Z a0 hw T102.heap b11 b15 (p_2 &&& 2147483647) b20 k23 y12 q14 y10 q13 b21 k31 p_4 p_5 (oN (oN y10)) F1140 E1141 F556 V557 (by simp only [← hq13, ← hy19]; exact hc37) (by simp only [← hq13, ← hy19]) (by simp only [← hq13]) E329 nq13 F786 V788)
         let l103 := lf (vr b18) (vr b17) (vr b15) (vr b11) (vi 0) (vr b18) (vi (-1)) (vi p_4) (vi p_5) u u u
         refine own_go (T2 := T246) (g2 := (mkF m 204 l103 [])) (fun t k => z_aload X102 hx hby at_177 rfl rfl (z_aload X102 hx hby at_179 rfl rfl (st172 _ (z_istore X172 hx hby at_184 l101 rfl (z_aload X172 hx hby at_186 rfl rfl (z_aload X172 hx hby at_188 rfl rfl (st173 _ (z_istore X173 hx hby at_193 l102 rfl (z_aload X173 hx hby at_195 rfl rfl (z_aload X173 hx hby at_197 rfl rfl (st246 _ (z_istore X246 hx hby at_202 l103 rfl k)))))))))))) ?_
         exact tl1268 X246 hx hby Bd.returns Bd.notSynchronized (by decide) (by decide) (by rw [e246]; simpa only [List.append_nil] using K102) p_0 p_1 p_2 p_3 p_4 p_5 (p_0 &&& 2147483647) (p_1 &&& 2147483647) (p_2 &&& 2147483647) b18 b17 b15 b11
        ·
         let l104 := lf (vr b18) (vr b17) (vr b15) (vr b11) (vi 1) (vr b17) u u u u u u
         let l105 := lf (vr b18) (vr b17) (vr b15) (vr b11) (vi 1) u u u u u u u
         refine own_go (T2 := T42) (g2 := (mkF m 170 l104 [])) (fun t k => z_istore X42 hx hby at_143 l105 rfl (z_iload X42 hx hby at_145 rfl (z_ifYes X42 hx hby 155 at_147 ((if0 _ _).trans (feq (show ¬ ((1 : Int32) = 0) from (by decide))).2) rfl (z_iload X42 hx hby at_155 rfl (z_iconst X42 hx hby at_157 (z_icmpNo X42 hx hby at_158 (teq (show (1 : Int32) = 1 from (by decide))).2 (z_aload X42 hx hby at_161 rfl rfl (z_goto X42 hx hby 168 at_163 rfl (z_astore X42 hx hby at_168 rfl l104 rfl k))))))))) ?_
         have V1142 := own_arhN H424 (cn1269 (oN (oN y10)) y12 y10 (.int q13) (.int q14) (.int q16) (ar3788 y10 y12 hc48) (ar758 y10 ) hc27)
         have V1143 := own_arhN H425 (cn1269 (oN (oN y10)) y12 y10 (.int p_5) (.int p_4) (.int p_3) (ar3788 y10 y12 hc48) (ar758 y10 ) hc27)
         have F789 := (Fld.keep (Fld.keep F55 K25c.1 (ninS ne36 (ninS ne43 (ninS ne35 nin0)))) K42c.1 (ninS ne36 (ninS ne43 (ninS ne35 nin0))))
         have E790 := (Exa.keep (Exa.keep E56 K25c.1) K42c.1)
         have E558 := (Exa.keep E365 K42c.1)
         obtain ⟨_, T103, L103, X103, ⟨rfl, K103c, H791, F559, F1372, F792, H793⟩, st103⟩ := own_cv X42 hx hZ hown (own_w942 hw) hml (g := (mkF m 174 l104 [(.ref b17), (.ref b11)])) (hb hby at_174) rfl E558 [(.ref b17)] [] (lenOf own_pd15 rfl) (rm3021 l Z a0 hw T42.heap b11 b17 b20 k23 y12 q14 (oN (oN y10)) q13 y10 q16 (p_1 &&& 2147483647) b21 k31 p_4 p_5 p_3 F553 V1142 F789 E790 (by simp only [← hq14, ← hy12]) (by simp only [← hq14]) E558 F552 ne45 (by simp only [← hq14, ← hy12]; exact (ar799 y12 )) (by simp only [← hq14, ← hy12]; exact (ar4500 y12 y10 hc48)) nq13 (by simp only [← hq14, ← hy12, ← hy19]; exact (ar4509 y12 y10 hc48)) F554 V1143 (Ne.symm ne_b20_b21) (Ne.symm ne46) (by simp only [← hq14, ← hy12]; exact (ar758 y12 )) (by simp only [← hq14, ← hy12]; exact (ar4510 y12 y10 ly12 uy12 ly19 uy19 hc37)) (by simp only [← hq14, ← hy12]; exact (ar4511 y12 y10 hc48)))
         have z_K103c := K103c.1.1
         have K103 := own_kpTrans K42 K103c (allS (Or.inr sz_b20) (allS (Or.inr sz_b11) (allS (Or.inr sz_b21) all0)))
         simp only [← hq14, ← hy12] at H791
         simp only [← hq14, ← hy12] at H793
         refine own_go (T2 := T103) (g2 := (mkF m 177 l104 [])) (fun t k => z_aload X42 hx hby at_170 rfl rfl (z_aload X42 hx hby at_172 rfl rfl (st103 _ k))) ?_
         have V560 := own_arhN H791 (cn4546 (oN y12) y12 (oN (oN y10)) y10 (.int q13) (.int q14) (.int q16) (ar799 y12 ) (ar4500 y12 y10 hc48) (ar3813 y12 y10 hc48) (ar4545 y12 y10 hc48) hc27 (ar758 y10 ))
         have V794 := own_arhN H793 (cn1396 y12 (oN (oN y10)) y10 (.int p_5) (.int p_4) (.int p_3) (ar4545 y12 y10 hc48) hc27 (ar758 y10 ))
         have ne428 := own_nl A18.lt (Nat.le_trans (Nat.le_trans (Nat.le_trans (Nat.le_trans (Nat.le_trans z_K30c z_E17) z_K29c) z_E15) z_K26c) z_E11) lo_b21
         have ne429 := own_nl A18.lt (Nat.le_trans (Nat.le_trans (Nat.le_trans (Nat.le_trans (Nat.le_trans z_K30c z_E17) z_K29c) z_E15) z_K26c) z_E11) lo_b20
         have F1144 := (Fld.keep (Fld.keep (Fld.keep (Fld.keep F49 K28c.1 (ninS ne429 (ninS ne428 (ninS ne24 nin0)))) K25c.1 (ninS ne429 (ninS ne428 (ninS ne24 nin0)))) K42c.1 (ninS ne429 (ninS ne428 (ninS ne24 nin0)))) K103c.1 (ninS ne429 (ninS ne24 (ninS ne428 nin0))))
         have E1145 := (Exa.keep (Exa.keep (Exa.keep (Exa.keep E50 K28c.1) K25c.1) K42c.1) K103c.1)
         have E330 := (Exa.keep E558 K103c.1)
         obtain ⟨_, T174, L174, X174, ⟨rfl, rfl, e174⟩, st174⟩ := own_cv X103 hx hZ hown (own_w1056 hw) hml (g := (mkF m 181 l104 [(.ref b18), (.ref b11)])) (hb hby at_181) rfl E330 [(.ref b18)] [] (lenOf own_pd16 rfl) (rm1060 l Z a0 hw T103.heap b11 b18 (p_0 &&& 2147483647) b20 k23 y10 q16 y12 q13 b21 k31 p_3 p_5 (oN (oN y10)) F1144 E1145 F559 V560 (by simp only [← hq16, ← hy10]) (by simp only [← hq16]) E330 nq16 F792 V794)
         have F1146 := (Fld.keep F789 K103c.1 (ninS ne36 (ninS ne35 (ninS ne43 nin0))))
         have E1147 := (Exa.keep E790 K103c.1)
         let l106 := lf (vr b18) (vr b17) (vr b15) (vr b11) (vi 1) (vr b17) (vi p_3) u u u u u
         obtain ⟨_, T175, L175, X175, ⟨rfl, rfl, e175⟩, st175⟩ := own_cv X174 hx hZ hown (own_w1056 hw) hml (g := (mkF m 190 l106 [(.ref b17), (.ref b11)])) (hb hby at_190) e174 E330 [(.ref b17)] [] (lenOf own_pd16 rfl) (rm1798 l Z a0 hw T103.heap b11 b17 (p_1 &&& 2147483647) b20 k23 y10 q16 y12 q13 F1146 E1147 F559 V560 (by simp only [← hq14, ← hy12]; exact hc27) (by simp only [← hq14, ← hy12]) (by simp only [← hq14]; exact dq13q14) nq13 (by simp only [← hq14, ← hy12]; exact (ar3813 y12 y10 hc48)) (by simp only [← hq14]; exact (ar492 q14 nq14)) E330)
         have F1148 := (Fld.keep (Fld.keep F422 K42c.1 (ninS ne277 (ninS ne293 (ninS ne245 nin0)))) K103c.1 (ninS ne277 (ninS ne245 (ninS ne293 nin0))))
         have E1149 := (Exa.keep (Exa.keep E423 K42c.1) K103c.1)
         let l107 := lf (vr b18) (vr b17) (vr b15) (vr b11) (vi 1) (vr b17) (vi p_3) (vi (-1)) u u u u
         obtain ⟨_, T247, L247, X247, ⟨rfl, rfl, e247⟩, st247⟩ := own_cv X175 hx hZ hown (own_w1056 hw) hml (g := (mkF m 199 l107 [(.ref b15), (.ref b11)])) (hb hby at_199) e175 E330 [(.ref b15)] [] (lenOf own_pd16 rfl) (rm1638 l Z a0 hw T103.heap b11 b15 (p_2 &&& 2147483647) b20 k23 y10 q16 y12 q13 b21 k31 p_3 p_5 (oN (oN y10)) p_5 F1148 E1149 F559 V560 (by simp only [← hq13, ← hy19]) (by simp only [← hq13]; exact dq16q13) nq16 (by simp only [← hq13, ← hy19]; exact hc48) (by simp only [← hq13]) E330 (by simp only [← hq13, ← hy19]; exact (ar799 y10 )) nq13 F792 V794)
         let l108 := lf (vr b18) (vr b17) (vr b15) (vr b11) (vi 1) (vr b17) (vi p_3) (vi (-1)) (vi p_5) u u u
         refine own_go (T2 := T247) (g2 := (mkF m 204 l108 [])) (fun t k => z_aload X103 hx hby at_177 rfl rfl (z_aload X103 hx hby at_179 rfl rfl (st174 _ (z_istore X174 hx hby at_184 l106 rfl (z_aload X174 hx hby at_186 rfl rfl (z_aload X174 hx hby at_188 rfl rfl (st175 _ (z_istore X175 hx hby at_193 l107 rfl (z_aload X175 hx hby at_195 rfl rfl (z_aload X175 hx hby at_197 rfl rfl (st247 _ (z_istore X247 hx hby at_202 l108 rfl k)))))))))))) ?_
         exact tl1427 X247 hx hby Bd.returns Bd.notSynchronized (by decide) (by decide) (by rw [e247]; simpa only [List.append_nil] using K103) p_0 p_1 p_2 p_3 p_4 p_5 (p_0 &&& 2147483647) (p_1 &&& 2147483647) (p_2 &&& 2147483647) b18 b17 b15 b11
        ·
         let l109 := lf (vr b18) (vr b17) (vr b15) (vr b11) (vi 2) (vr b15) u u u u u u
         let l110 := lf (vr b18) (vr b17) (vr b15) (vr b11) (vi 2) u u u u u u u
         refine own_go (T2 := T42) (g2 := (mkF m 170 l109 [])) (fun t k => z_istore X42 hx hby at_143 l110 rfl (z_iload X42 hx hby at_145 rfl (z_ifYes X42 hx hby 155 at_147 ((if0 _ _).trans (feq (show ¬ ((2 : Int32) = 0) from (by decide))).2) rfl (z_iload X42 hx hby at_155 rfl (z_iconst X42 hx hby at_157 (z_icmpYes X42 hx hby 166 at_158 (feq (show ¬ ((2 : Int32) = 1) from (by decide))).2 rfl (z_aload X42 hx hby at_166 rfl rfl (z_astore X42 hx hby at_168 rfl l109 rfl k)))))))) ?_
         have F795 := (Fld.keep F422 K42c.1 (ninS ne277 (ninS ne293 (ninS ne245 nin0))))
         have E796 := (Exa.keep E423 K42c.1)
         have E561 := (Exa.keep E365 K42c.1)
         obtain ⟨_, T72, L72, X72, ⟨rfl, K72c, H797, F562, F1373, F798⟩, st72⟩ := own_cv X42 hx hZ hown (own_w942 hw) hml (g := (mkF m 174 l109 [(.ref b15), (.ref b11)])) (hb hby at_174) rfl E561 [(.ref b15)] [] (lenOf own_pd15 rfl) (rm2230 l Z a0 hw T42.heap b11 b15 b20 k23 (oN (oN y10)) q13 y12 q14 y10 q16 (p_2 &&& 2147483647) b21 F553 H424 F795 E796 (by simp only [← hq13, ← hy19]; exact (ar943 y10 )) (by simp only [← hq13, ← hy19]; exact hc37) (by simp only [← hq13, ← hy19]) (by simp only [← hq13]; exact dq16q13) nq16 (by simp only [← hq13, ← hy19]; exact (ar797 y10 )) (by simp only [← hq13, ← hy19]; exact hc48) (by simp only [← hq13]; exact dq14q13) nq14 (by simp only [← hq13, ← hy19]) (by simp only [← hq13]) E561 F552 ne45 (by simp only [← hq13, ← hy19]; exact (ar927 y10 )) (by simp only [← hq13, ← hy19]; exact (ar3801 y10 y12 hc48)) (by simp only [← hq13, ← hy19]; exact (ar929 y10 )) F554)
         have z_K72c := K72c.1.1
         have K72 := own_kpTrans K42 K72c (allS (Or.inr sz_b20) (allS (Or.inr sz_b11) all0))
         simp only [← hq13, ← hy19] at H797
         refine own_go (T2 := T72) (g2 := (mkF m 177 l109 [])) (fun t k => z_aload X42 hx hby at_170 rfl rfl (z_aload X42 hx hby at_172 rfl rfl (st72 _ k))) ?_
         have V563 := own_arhN H797 (cn1518 (oN (oN y10)) y12 y10 (.int q13) (.int q14) (.int q16) (ar3788 y10 y12 hc48) (ar758 y10 ) hc27)
         have H1150 := (Arh.keep H425 K72c.1 (ninS (Ne.symm ne_b20_b21) (ninS (Ne.symm ne46) nin0)))
         have V799 := own_arhN H1150 (cn800 (oN (oN y10)) y12 y10 (.int p_5) (.int p_4) (.int p_3) (ar3788 y10 y12 hc48) (ar758 y10 ) hc27)
         have ne564 := own_nl A18.lt (Nat.le_trans (Nat.le_trans (Nat.le_trans (Nat.le_trans (Nat.le_trans z_K30c z_E17) z_K29c) z_E15) z_K26c) z_E11) lo_b21
         have ne430 := own_nl A18.lt (Nat.le_trans (Nat.le_trans (Nat.le_trans (Nat.le_trans (Nat.le_trans z_K30c z_E17) z_K29c) z_E15) z_K26c) z_E11) lo_b20
         have F1151 := (Fld.keep (Fld.keep (Fld.keep (Fld.keep F49 K28c.1 (ninS ne430 (ninS ne564 (ninS ne24 nin0)))) K25c.1 (ninS ne430 (ninS ne564 (ninS ne24 nin0)))) K42c.1 (ninS ne430 (ninS ne564 (ninS ne24 nin0)))) K72c.1 (ninS ne430 (ninS ne24 nin0)))
         have E1152 := (Exa.keep (Exa.keep (Exa.keep (Exa.keep E50 K28c.1) K25c.1) K42c.1) K72c.1)
         have E331 := (Exa.keep E561 K72c.1)
         obtain ⟨_, T176, L176, X176, ⟨rfl, rfl, e176⟩, st176⟩ := own_cv X72 hx hZ hown (own_w1056 hw) hml (g := (mkF m 181 l109 [(.ref b18), (.ref b11)])) (hb hby at_181) rfl E331 [(.ref b18)] [] (lenOf own_pd16 rfl) (rm1536 l Z a0 hw T72.heap b11 b18 (p_0 &&& 2147483647) b20 k23 y10 q16 y12 q14 b21 k31 p_3 p_4 (oN (oN y10)) p_5 F1151 E1152 F562 V563 (by simp only [← hq16, ← hy10]) (by simp only [← hq16]) E331 nq16 F798 V799)
         have F1153 := (Fld.keep (Fld.keep (Fld.keep F55 K25c.1 (ninS ne36 (ninS ne43 (ninS ne35 nin0)))) K42c.1 (ninS ne36 (ninS ne43 (ninS ne35 nin0)))) K72c.1 (ninS ne36 (ninS ne35 nin0)))
         have E1154 := (Exa.keep (Exa.keep (Exa.keep E56 K25c.1) K42c.1) K72c.1)
         let l111 := lf (vr b18) (vr b17) (vr b15) (vr b11) (vi 2) (vr b15) (vi p_3) u u u u u
         obtain ⟨_, T177, L177, X177, ⟨rfl, rfl, e177⟩, st177⟩ := own_cv X176 hx hZ hown (own_w1056 hw) hml (g := (mkF m 190 l111 [(.ref b17), (.ref b11)])) (hb hby at_190) e176 E331 [(.ref b17)] [] (lenOf own_pd16 rfl) (rm5097 l Z a0 hw T72.heap b11 b17 (p_1 &&& 2147483647) b20 k23 y10 q16 y12 q14 b21 k31 p_3 p_4 (oN (oN y10)) p_5 F1153 E1154 F562 V563 (by simp only [← hq14, ← hy12]; exact hc27) (by simp only [← hq14, ← hy12]) (by simp only [← hq14]) E331 nq14 F798 V799)
         have F1155 := (Fld.keep F795 K72c.1 (ninS ne277 (ninS ne245 nin0)))
         have E1156 := (Exa.keep E796 K72c.1)
         let l112 := lf (vr b18) (vr b17) (vr b15) (vr b11) (vi 2) (vr b15) (vi p_3) (vi p_4) u u u u
         obtain ⟨_, T248, L248, X248, ⟨rfl, rfl, e248⟩, st248⟩ := own_cv X177 hx hZ hown (own_w1056 hw) hml (g := (mkF m 199 l112 [(.ref b15), (.ref b11)])) (hb hby at_199) e177 E331 [(.ref b15)] [] (lenOf own_pd16 rfl) (rm950 l Z a0 hw T72.heap b11 b15 (p_2 &&& 2147483647) b20 k23 y10 q16 y12 q14 F1155 E1156 F562 V563 (by simp only [← hq13, ← hy19]) (by simp only [← hq13]; exact dq16q13) nq16 (by simp only [← hq13, ← hy19]; exact hc48) (by simp only [← hq13]; exact dq14q13) (by simp only [← hq13, ← hy19]; exact (ar799 y10 )) nq14 (by simp only [← hq13, ← hy19]; exact (ar758 y10 )) (by simp only [← hq13, ← hy19]; exact (ar3788 y10 y12 hc48)) (by simp only [← hq13]; exact (ar492 q13 nq13)) E331)
         let l113 := lf (vr b18) (vr b17) (vr b15) (vr b11) (vi 2) (vr b15) (vi p_3) (vi p_4) (vi (-1)) u u u
         refine own_go (T2 := T248) (g2 := (mkF m 204 l113 [])) (fun t k => z_aload X72 hx hby at_177 rfl rfl (z_aload X72 hx hby at_179 rfl rfl (st176 _ (z_istore X176 hx hby at_184 l111 rfl (z_aload X176 hx hby at_186 rfl rfl (z_aload X176 hx hby at_188 rfl rfl (st177 _ (z_istore X177 hx hby at_193 l112 rfl (z_aload X177 hx hby at_195 rfl rfl (z_aload X177 hx hby at_197 rfl rfl (st248 _ (z_istore X248 hx hby at_202 l113 rfl k)))))))))))) ?_
         exact tl1942 X248 hx hby Bd.returns Bd.notSynchronized (by decide) (by decide) (by rw [e248]; simpa only [List.append_nil] using K72) p_0 p_1 p_2 p_3 p_4 p_5 (p_0 &&& 2147483647) (p_1 &&& 2147483647) (p_2 &&& 2147483647) b18 b17 b15 b11
       ·
        have ne112 := own_nl A15.lt z_K26c lo_b11
        have ne178 := own_nl A15.lt (Nat.le_trans z_K26c z_E11) lo_b21
        have ne118 := own_nl A15.lt (Nat.le_trans z_K26c z_E11) lo_b20
        have F294 := (Fld.keep (Fld.keep (Fld.keep (Fld.ext E11 F270) K51c.1 (ninS ne112 nin0)) K28c.1 (ninS ne118 (ninS ne178 (ninS ne112 nin0)))) K25c.1 (ninS ne118 (ninS ne178 (ninS ne112 nin0))))
        have E295 := (Exa.keep (Exa.keep (Exa.keep (Exa.ext E11 (Exa.keep A15 K26c.1)) K51c.1) K28c.1) K25c.1)
        have E278 := (Exa.keep E289 K25c.1)
        obtain ⟨_, T34, L34, X34, ⟨rfl, K34c, H332, H333, F334, F335, F336⟩, st34⟩ := own_cv X25 hx hZ hown (own_w528 hw) hml (g := (mkF m 133 l5 [(.int p_5), (.ref b15), (.ref b11)])) (hb hby at_133) rfl E278 [(.ref b15), (.int p_5)] [] (lenOf own_pd14 rfl) (rm6678 l Z a0 hw T25.heap b11 b15 p_5 b20 k23 y12 q14 y10 q16 (p_2 &&& 2147483647) b21 k31 p_4 p_3 F361 F362 H313 F294 E295 (by simp only [← hq13, ← hy19]; exact hc37) (by simp only [← hq13, ← hy19]) (by simp only [← hq13]; exact dq16q13) nq16 (by simp only [← hq13, ← hy19]; exact hc48) (by simp only [← hq13]; exact (ar492 q13 nq13)) E278 F363 ne45 H314 (Ne.symm ne_b20_b21) ne46)
        have z_K34c := K34c.1.1
        have K34 := own_kpTrans K25 K34c (allS (Or.inr sz_b20) (allS (Or.inr sz_b21) (allS (Or.inr sz_b11) all0)))
        simp only [← hq13, ← hy19] at H332
        simp only [← hq13, ← hy19] at H333
        refine own_go (T2 := T34) (g2 := (mkF m 143 l5 [(.int ((p_5 &&& 2147483647) % 3))])) (fun t k => st34 _ (z_iload X34 hx hby at_136 rfl (Jvm.Stand.ldcI X34 hx hown (mvT hZ (own_wd hw 0 rfl)) rfl (hb hby at_138) (z_iand X34 hx hby at_140 (z_iconst X34 hx hby at_141 (iremM X34 hx rfl (hb hby at_142) rfl (by decide) k)))))) ?_
        have hrk6755 := own_mod3 p_5
        generalize ((p_5 &&& 2147483647) % 3) = k1374 at hrk6755 ⊢
        rcases hrk6755 with rfl | rfl | rfl
        ·
         let l114 := lf (vr b18) (vr b17) (vr b15) (vr b11) (vi 0) (vr b18) u u u u u u
         let l115 := lf (vr b18) (vr b17) (vr b15) (vr b11) (vi 0) u u u u u u u
         refine own_go (T2 := T34) (g2 := (mkF m 170 l114 [])) (fun t k => z_istore X34 hx hby at_143 l115 rfl (z_iload X34 hx hby at_145 rfl (z_ifNo X34 hx hby at_147 ((if0 _ _).trans (teq (show (0 : Int32) = 0 from (by decide))).2) (z_aload X34 hx hby at_150 rfl rfl (z_goto X34 hx hby 168 at_152 rfl (z_astore X34 hx hby at_168 rfl l114 rfl k)))))) ?_
         have V800 := own_arhN H332 (cn3261 (oN y10) y12 y10 (.int q13) (.int q14) (.int q16) hc48 (ar799 y10 ) hc27)
         have V801 := own_arhN H333 (cn3261 (oN y10) y12 y10 (.int p_5) (.int p_4) (.int p_3) hc48 (ar799 y10 ) hc27)
         refine own_go (T2 := T34) (g2 := (mkF m 174 l114 [(.ref b18), (.ref b11)])) (fun t k => z_aload X34 hx hby at_170 rfl rfl (z_aload X34 hx hby at_172 rfl rfl k)) ?_
         by_cases hc431 : (oN (oN y10)) = y12
         ·
          have ne432 := own_nl A18.lt (Nat.le_trans (Nat.le_trans (Nat.le_trans (Nat.le_trans (Nat.le_trans z_K30c z_E17) z_K29c) z_E15) z_K26c) z_E11) lo_b21
          have ne433 := own_nl A18.lt (Nat.le_trans (Nat.le_trans (Nat.le_trans (Nat.le_trans (Nat.le_trans z_K30c z_E17) z_K29c) z_E15) z_K26c) z_E11) lo_b20
          have F802 := (Fld.keep (Fld.keep (Fld.keep F49 K28c.1 (ninS ne433 (ninS ne432 (ninS ne24 nin0)))) K25c.1 (ninS ne433 (ninS ne432 (ninS ne24 nin0)))) K34c.1 (ninS ne433 (ninS ne432 (ninS ne24 nin0))))
          have E803 := (Exa.keep (Exa.keep (Exa.keep E50 K28c.1) K25c.1) K34c.1)
          have E565 := (Exa.keep E278 K34c.1)
          obtain ⟨_, T104, L104, X104, ⟨rfl, K104c, H804, F566, F1375, F805, H806⟩, st104⟩ := own_cv X34 hx hZ hown (own_w942 hw) hml (g := (mkF m 174 l114 [(.ref b18), (.ref b11)])) (hb hby at_174) rfl E565 [(.ref b18)] [] (lenOf own_pd15 rfl) (rm2603 l Z a0 hw T34.heap b11 b18 b20 k23 y10 q16 (oN y10) q13 y12 q14 (p_0 &&& 2147483647) b21 k31 p_3 p_5 p_4 F335 V800 F802 E803 (by simp only [← hq16, ← hy10]) (by simp only [← hq16]) E565 F334 ne45 (by simp only [← hq16, ← hy10]; exact (ar799 y10 )) (by simp only [← hq16, ← hy10]) nq13 (by simp only [← hq16, ← hy10, ← hy19]; exact Int32.lt_irrefl) F336 V801 (Ne.symm ne_b20_b21) (Ne.symm ne46) (by simp only [← hq16, ← hy10]; exact (ar758 y10 )) (by simp only [← hq16, ← hy10]; exact (ar798 y10 )) (by simp only [← hq16, ← hy10]; exact hc431) nq14 (by simp only [← hq16, ← hy10, ← hy12]; exact (ar2590 y10 y12 hc431)) (by simp only [← hq16, ← hy10]; exact (ar929 y10 )) (by simp only [← hq16, ← hy10]; exact (ar928 y10 )) (by simp only [← hq16, ← hy10]; exact (ar2691 y10 y12 hc431)))
          have z_K104c := K104c.1.1
          have K104 := own_kpTrans K34 K104c (allS (Or.inr sz_b20) (allS (Or.inr sz_b11) (allS (Or.inr sz_b21) all0)))
          simp only [← hq16, ← hy10] at H804
          simp only [← hq16, ← hy10] at H806
          refine own_go (T2 := T104) (g2 := (mkF m 177 l114 [])) (fun t k => st104 _ k) ?_
          have V567 := own_arhN H804 (cn1394 (oN y10) y10 y12 (.int q13) (.int q16) (.int q14) (ar799 y10 ) hc48 hc37)
          have V807 := own_arhN H806 (cn1396 y10 (oN y10) y12 (.int p_5) (.int p_3) (.int p_4) (ar944 y10 ) hc37 hc48)
          have F1157 := (Fld.keep F802 K104c.1 (ninS ne433 (ninS ne24 (ninS ne432 nin0))))
          have E1158 := (Exa.keep E803 K104c.1)
          have E337 := (Exa.keep E565 K104c.1)
          obtain ⟨_, T179, L179, X179, ⟨rfl, rfl, e179⟩, st179⟩ := own_cv X104 hx hZ hown (own_w1056 hw) hml (g := (mkF m 181 l114 [(.ref b18), (.ref b11)])) (hb hby at_181) rfl E337 [(.ref b18)] [] (lenOf own_pd16 rfl) (rm1798 l Z a0 hw T104.heap b11 b18 (p_0 &&& 2147483647) b20 k23 y12 q14 y10 q13 F1157 E1158 F566 V567 (by simp only [← hq16, ← hy10]; exact hc37) (by simp only [← hq16, ← hy10]) (by simp only [← hq16]; exact dq13q16) nq13 (by simp only [← hq16, ← hy10]; exact hc48) (by simp only [← hq16]; exact (ar492 q16 nq16)) E337)
          have F1159 := (Fld.keep (Fld.keep (Fld.keep F55 K25c.1 (ninS ne36 (ninS ne43 (ninS ne35 nin0)))) K34c.1 (ninS ne36 (ninS ne43 (ninS ne35 nin0)))) K104c.1 (ninS ne36 (ninS ne35 (ninS ne43 nin0))))
          have E1160 := (Exa.keep (Exa.keep (Exa.keep E56 K25c.1) K34c.1) K104c.1)
          let l116 := lf (vr b18) (vr b17) (vr b15) (vr b11) (vi 0) (vr b18) (vi (-1)) u u u u u
          obtain ⟨_, T180, L180, X180, ⟨rfl, rfl, e180⟩, st180⟩ := own_cv X179 hx hZ hown (own_w1056 hw) hml (g := (mkF m 190 l116 [(.ref b17), (.ref b11)])) (hb hby at_190) e179 E337 [(.ref b17)] [] (lenOf own_pd16 rfl) (rm1060 l Z a0 hw T104.heap b11 b17 (p_1 &&& 2147483647) b20 k23 y12 q14 y10 q13 b21 k31 p_4 p_5 (oN y10) F1159 E1160 F566 V567 (by simp only [← hq14, ← hy12]) (by simp only [← hq14]) E337 nq14 F805 V807)
          have F1161 := (Fld.keep (Fld.keep F294 K34c.1 (ninS ne118 (ninS ne178 (ninS ne112 nin0)))) K104c.1 (ninS ne118 (ninS ne112 (ninS ne178 nin0))))
          have E1162 := (Exa.keep (Exa.keep E295 K34c.1) K104c.1)
          let l117 := lf (vr b18) (vr b17) (vr b15) (vr b11) (vi 0) (vr b18) (vi (-1)) (vi p_4) u u u u
          obtain ⟨_, T249, L249, X249, ⟨rfl, rfl, e249⟩, st249⟩ := own_cv X180 hx hZ hown (own_w1056 hw) hml (g := (mkF m 199 l117 [(.ref b15), (.ref b11)])) (hb hby at_199) e180 E337 [(.ref b15)] [] (lenOf own_pd16 rfl) (rm1162 l Z a0 hw T104.heap b11 b15 (p_2 &&& 2147483647) b20 k23 y12 q14 y10 q13 b21 k31 p_4 p_5 (oN y10) F1161 E1162 F566 V567 (by simp only [← hq13, ← hy19]; exact hc37) (by simp only [← hq13, ← hy19]) (by simp only [← hq13]) E337 nq13 F805 V807)
          let l118 := lf (vr b18) (vr b17) (vr b15) (vr b11) (vi 0) (vr b18) (vi (-1)) (vi p_4) (vi p_5) u u u
          refine own_go (T2 := T249) (g2 := (mkF m 204 l118 [])) (fun t k => z_aload X104 hx hby at_177 rfl rfl (z_aload X104 hx hby at_179 rfl rfl (st179 _ (z_istore X179 hx hby at_184 l116 rfl (z_aload X179 hx hby at_186 rfl rfl (z_aload X179 hx hby at_188 rfl rfl (st180 _ (z_istore X180 hx hby at_193 l117 rfl (z_aload X180 hx hby at_195 rfl rfl (z_aload X180 hx hby at_197 rfl rfl (st249 _ (z_istore X249 hx hby at_202 l118 rfl k)))))))))))) ?_
          exact tl1268 X249 hx hby Bd.returns Bd.notSynchronized (by decide) (by decide) (by rw [e249]; simpa only [List.append_nil] using K104) p_0 p_1 p_2 p_3 p_4 p_5 (p_0 &&& 2147483647) (p_1 &&& 2147483647) (p_2 &&& 2147483647) b18 b17 b15 b11
         ·
          have ne434 := own_nl A18.lt (Nat.le_trans (Nat.le_trans (Nat.le_trans (Nat.le_trans (Nat.le_trans z_K30c z_E17) z_K29c) z_E15) z_K26c) z_E11) lo_b21
          have ne435 := own_nl A18.lt (Nat.le_trans (Nat.le_trans (Nat.le_trans (Nat.le_trans (Nat.le_trans z_K30c z_E17) z_K29c) z_E15) z_K26c) z_E11) lo_b20
          have F808 := (Fld.keep (Fld.keep (Fld.keep F49 K28c.1 (ninS ne435 (ninS ne434 (ninS ne24 nin0)))) K25c.1 (ninS ne435 (ninS ne434 (ninS ne24 nin0)))) K34c.1 (ninS ne435 (ninS ne434 (ninS ne24 nin0))))
          have E809 := (Exa.keep (Exa.keep (Exa.keep E50 K28c.1) K25c.1) K34c.1)
          have E568 := (Exa.keep E278 K34c.1)
          obtain ⟨_, T105, L105, X105, ⟨rfl, K105c, H810, F569, F1376, F811, H812⟩, st105⟩ := own_cv X34 hx hZ hown (own_w942 hw) hml (g := (mkF m 174 l114 [(.ref b18), (.ref b11)])) (hb hby at_174) rfl E568 [(.ref b18)] [] (lenOf own_pd15 rfl) (rm3021 l Z a0 hw T34.heap b11 b18 b20 k23 y10 q16 (oN y10) q13 y12 q14 (p_0 &&& 2147483647) b21 k31 p_3 p_5 p_4 F335 V800 F808 E809 (by simp only [← hq16, ← hy10]) (by simp only [← hq16]) E568 F334 ne45 (by simp only [← hq16, ← hy10]; exact (ar799 y10 )) (by simp only [← hq16, ← hy10]) nq13 (by simp only [← hq16, ← hy10, ← hy19]; exact Int32.lt_irrefl) F336 V801 (Ne.symm ne_b20_b21) (Ne.symm ne46) (by simp only [← hq16, ← hy10]; exact (ar758 y10 )) (by simp only [← hq16, ← hy10]; exact (ar798 y10 )) (by simp only [← hq16, ← hy10]; exact hc431))
          have z_K105c := K105c.1.1
          have K105 := own_kpTrans K34 K105c (allS (Or.inr sz_b20) (allS (Or.inr sz_b11) (allS (Or.inr sz_b21) all0)))
          simp only [← hq16, ← hy10] at H810
          simp only [← hq16, ← hy10] at H812
          refine own_go (T2 := T105) (g2 := (mkF m 177 l114 [])) (fun t k => st105 _ k) ?_
          have V570 := own_arhN H810 (cn1394 (oN y10) y10 y12 (.int q13) (.int q16) (.int q14) (ar799 y10 ) hc48 hc37)
          have V813 := own_arhN H812 (cn1396 y10 (oN y10) y12 (.int p_5) (.int p_3) (.int p_4) (ar944 y10 ) hc37 hc48)
          have F1163 := (Fld.keep F808 K105c.1 (ninS ne435 (ninS ne24 (ninS ne434 nin0))))
          have E1164 := (Exa.keep E809 K105c.1)
          have E338 := (Exa.keep E568 K105c.1)
          obtain ⟨_, T181, L181, X181, ⟨rfl, rfl, e181⟩, st181⟩ := own_cv X105 hx hZ hown (own_w1056 hw) hml (g := (mkF m 181 l114 [(.ref b18), (.ref b11)])) (hb hby at_181) rfl E338 [(.ref b18)] [] (lenOf own_pd16 rfl) (rm1798 l Z a0 hw T105.heap b11 b18 (p_0 &&& 2147483647) b20 k23 y12 q14 y10 q13 F1163 E1164 F569 V570 (by simp only [← hq16, ← hy10]; exact hc37) (by simp only [← hq16, ← hy10]) (by simp only [← hq16]; exact dq13q16) nq13 (by simp only [← hq16, ← hy10]; exact hc48) (by simp only [← hq16]; exact (ar492 q16 nq16)) E338)
          have F1165 := (Fld.keep (Fld.keep (Fld.keep F55 K25c.1 (ninS ne36 (ninS ne43 (ninS ne35 nin0)))) K34c.1 (ninS ne36 (ninS ne43 (ninS ne35 nin0)))) K105c.1 (ninS ne36 (ninS ne35 (ninS ne43 nin0))))
          have E1166 := (Exa.keep (Exa.keep (Exa.keep E56 K25c.1) K34c.1) K105c.1)
          let l119 := lf (vr b18) (vr b17) (vr b15) (vr b11) (vi 0) (vr b18) (vi (-1)) u u u u u
          obtain ⟨_, T182, L182, X182, ⟨rfl, rfl, e182⟩, st182⟩ := own_cv X181 hx hZ hown (own_w1056 hw) hml (g := (mkF m 190 l119 [(.ref b17), (.ref b11)])) (hb hby at_190) e181 E338 [(.ref b17)] [] (lenOf own_pd16 rfl) (rm1060 l Z a0 hw T105.heap b11 b17 (p_1 &&& 2147483647) b20 k23 y12 q14 y10 q13 b21 k31 p_4 p_5 (oN y10) F1165 E1166 F569 V570 (by simp only [← hq14, ← hy12]) (by simp only [← hq14]) E338 nq14 F811 V813)
          have F1167 := (Fld.keep (Fld.keep F294 K34c.1 (ninS ne118 (ninS ne178 (ninS ne112 nin0)))) K105c.1 (ninS ne118 (ninS ne112 (ninS ne178 nin0))))
          have E1168 := (Exa.keep (Exa.keep E295 K34c.1) K105c.1)
          let l120 := lf (vr b18) (vr b17) (vr b15) (vr b11) (vi 0) (vr b18) (vi (-1)) (vi p_4) u u u u
          obtain ⟨_, T250, L250, X250, ⟨rfl, rfl, e250⟩, st250⟩ := own_cv X182 hx hZ hown (own_w1056 hw) hml (g := (mkF m 199 l120 [(.ref b15), (.ref b11)])) (hb hby at_199) e182 E338 [(.ref b15)] [] (lenOf own_pd16 rfl) (rm1162 l Z a0 hw T105.heap b11 b15 (p_2 &&& 2147483647) b20 k23 y12 q14 y10 q13 b21 k31 p_4 p_5 (oN y10) F1167 E1168 F569 V570 (by simp only [← hq13, ← hy19]; exact hc37) (by simp only [← hq13, ← hy19]) (by simp only [← hq13]) E338 nq13 F811 V813)
          let l121 := lf (vr b18) (vr b17) (vr b15) (vr b11) (vi 0) (vr b18) (vi (-1)) (vi p_4) (vi p_5) u u u
          refine own_go (T2 := T250) (g2 := (mkF m 204 l121 [])) (fun t k => z_aload X105 hx hby at_177 rfl rfl (z_aload X105 hx hby at_179 rfl rfl (st181 _ (z_istore X181 hx hby at_184 l119 rfl (z_aload X181 hx hby at_186 rfl rfl (z_aload X181 hx hby at_188 rfl rfl (st182 _ (z_istore X182 hx hby at_193 l120 rfl (z_aload X182 hx hby at_195 rfl rfl (z_aload X182 hx hby at_197 rfl rfl (st250 _ (z_istore X250 hx hby at_202 l121 rfl k)))))))))))) ?_
          exact tl1268 X250 hx hby Bd.returns Bd.notSynchronized (by decide) (by decide) (by rw [e250]; simpa only [List.append_nil] using K105) p_0 p_1 p_2 p_3 p_4 p_5 (p_0 &&& 2147483647) (p_1 &&& 2147483647) (p_2 &&& 2147483647) b18 b17 b15 b11
        ·
         let l122 := lf (vr b18) (vr b17) (vr b15) (vr b11) (vi 1) (vr b17) u u u u u u
         let l123 := lf (vr b18) (vr b17) (vr b15) (vr b11) (vi 1) u u u u u u u
         refine own_go (T2 := T34) (g2 := (mkF m 170 l122 [])) (fun t k => z_istore X34 hx hby at_143 l123 rfl (z_iload X34 hx hby at_145 rfl (z_ifYes X34 hx hby 155 at_147 ((if0 _ _).trans (feq (show ¬ ((1 : Int32) = 0) from (by decide))).2) rfl (z_iload X34 hx hby at_155 rfl (z_iconst X34 hx hby at_157 (z_icmpNo X34 hx hby at_158 (teq (show (1 : Int32) = 1 from (by decide))).2 (z_aload X34 hx hby at_161 rfl rfl (z_goto X34 hx hby 168 at_163 rfl (z_astore X34 hx hby at_168 rfl l122 rfl k))))))))) ?_
         by_cases hc124 : (oN y12) = y10
         ·
          have V1169 := own_arhN H332 (cn3817 (oN y10) y12 y10 (.int q13) (.int q14) (.int q16) hc48 (ar799 y10 ) hc27)
          have V1170 := own_arhN H333 (cn3817 (oN y10) y12 y10 (.int p_5) (.int p_4) (.int p_3) hc48 (ar799 y10 ) hc27)
          have F814 := (Fld.keep (Fld.keep F55 K25c.1 (ninS ne36 (ninS ne43 (ninS ne35 nin0)))) K34c.1 (ninS ne36 (ninS ne43 (ninS ne35 nin0))))
          have E815 := (Exa.keep (Exa.keep E56 K25c.1) K34c.1)
          have E571 := (Exa.keep E278 K34c.1)
          obtain ⟨_, T73, L73, X73, ⟨rfl, K73c, H816, F572, F1377, F817⟩, st73⟩ := own_cv X34 hx hZ hown (own_w942 hw) hml (g := (mkF m 174 l122 [(.ref b17), (.ref b11)])) (hb hby at_174) rfl E571 [(.ref b17)] [] (lenOf own_pd15 rfl) (rm3737 l Z a0 hw T34.heap b11 b17 b20 k23 y12 q14 y10 q16 (oN y10) q13 (p_1 &&& 2147483647) b21 F335 V1169 F814 E815 (by simp only [← hq14, ← hy12]) (by simp only [← hq14]) E571 F334 ne45 (by simp only [← hq14, ← hy12]; exact (ar799 y12 )) (by simp only [← hq14, ← hy12]; exact hc124) nq16 (by simp only [← hy10, ← hq14, ← hy12]; exact (ar3720 y12 y10 hc124)) (by simp only [← hq14, ← hy12]; exact (ar758 y12 )) (by simp only [← hq14, ← hy12]; exact (ar3788 y12 y10 hc124)) (by simp only [← hq14, ← hy12]; exact (ar3790 y12 y10 hc124)) nq13 (by simp only [← hq14, ← hy12, ← hy19]; exact (ar3797 y12 y10 hc124)) (by simp only [← hq14, ← hy12]; exact (ar929 y12 )) (by simp only [← hq14, ← hy12]; exact (ar3801 y12 y10 hc124)) (by simp only [← hq14, ← hy12]; exact (ar3803 y12 y10 hc124)) F336)
          have z_K73c := K73c.1.1
          have K73 := own_kpTrans K34 K73c (allS (Or.inr sz_b20) (allS (Or.inr sz_b11) all0))
          simp only [← hq14, ← hy12] at H816
          refine own_go (T2 := T73) (g2 := (mkF m 177 l122 [])) (fun t k => z_aload X34 hx hby at_170 rfl rfl (z_aload X34 hx hby at_172 rfl rfl (st73 _ k))) ?_
          have V573 := own_arhN H816 (cn3814 y12 y10 (oN y10) (.int q14) (.int q16) (.int q13) hc27 (ar4544 y12 y10 hc124) (ar944 y10 ))
          have H1171 := (Arh.keep V1170 K73c.1 (ninS (Ne.symm ne_b20_b21) (ninS (Ne.symm ne46) nin0)))
          have V818 := own_arhN H1171 (cn1269 y12 y10 (oN y10) (.int p_4) (.int p_3) (.int p_5) hc27 (ar4544 y12 y10 hc124) (ar944 y10 ))
          have ne574 := own_nl A18.lt (Nat.le_trans (Nat.le_trans (Nat.le_trans (Nat.le_trans (Nat.le_trans z_K30c z_E17) z_K29c) z_E15) z_K26c) z_E11) lo_b21
          have ne436 := own_nl A18.lt (Nat.le_trans (Nat.le_trans (Nat.le_trans (Nat.le_trans (Nat.le_trans z_K30c z_E17) z_K29c) z_E15) z_K26c) z_E11) lo_b20
          have F1172 := (Fld.keep (Fld.keep (Fld.keep (Fld.keep F49 K28c.1 (ninS ne436 (ninS ne574 (ninS ne24 nin0)))) K25c.1 (ninS ne436 (ninS ne574 (ninS ne24 nin0)))) K34c.1 (ninS ne436 (ninS ne574 (ninS ne24 nin0)))) K73c.1 (ninS ne436 (ninS ne24 nin0)))
          have E1173 := (Exa.keep (Exa.keep (Exa.keep (Exa.keep E50 K28c.1) K25c.1) K34c.1) K73c.1)
          have E339 := (Exa.keep E571 K73c.1)
          obtain ⟨_, T183, L183, X183, ⟨rfl, rfl, e183⟩, st183⟩ := own_cv X73 hx hZ hown (own_w1056 hw) hml (g := (mkF m 181 l122 [(.ref b18), (.ref b11)])) (hb hby at_181) rfl E339 [(.ref b18)] [] (lenOf own_pd16 rfl) (rm3303 l Z a0 hw T73.heap b11 b18 (p_0 &&& 2147483647) b20 k23 y10 q16 (oN y10) q13 b21 k31 p_3 y12 p_4 p_5 F1172 E1173 F572 V573 (by simp only [← hq16, ← hy10]) (by simp only [← hq16]) E339 nq16 F817 V818)
          have F1174 := (Fld.keep F814 K73c.1 (ninS ne36 (ninS ne35 nin0)))
          have E1175 := (Exa.keep E815 K73c.1)
          let l124 := lf (vr b18) (vr b17) (vr b15) (vr b11) (vi 1) (vr b17) (vi p_3) u u u u u
          obtain ⟨_, T184, L184, X184, ⟨rfl, rfl, e184⟩, st184⟩ := own_cv X183 hx hZ hown (own_w1056 hw) hml (g := (mkF m 190 l124 [(.ref b17), (.ref b11)])) (hb hby at_190) e183 E339 [(.ref b17)] [] (lenOf own_pd16 rfl) (rm3879 l Z a0 hw T73.heap b11 b17 (p_1 &&& 2147483647) b20 k23 y10 q16 (oN y10) q13 F1174 E1175 F572 V573 (by simp only [← hq14, ← hy12]; exact hc27) (by simp only [← hq14, ← hy12]; exact (ar4544 y12 y10 hc124)) (by simp only [← hq14]; exact (ar492 q14 nq14)) E339)
          have F1176 := (Fld.keep (Fld.keep F294 K34c.1 (ninS ne118 (ninS ne178 (ninS ne112 nin0)))) K73c.1 (ninS ne118 (ninS ne112 nin0)))
          have E1177 := (Exa.keep (Exa.keep E295 K34c.1) K73c.1)
          let l125 := lf (vr b18) (vr b17) (vr b15) (vr b11) (vi 1) (vr b17) (vi p_3) (vi (-1)) u u u u
          obtain ⟨_, T251, L251, X251, ⟨rfl, rfl, e251⟩, st251⟩ := own_cv X184 hx hZ hown (own_w1056 hw) hml (g := (mkF m 199 l125 [(.ref b15), (.ref b11)])) (hb hby at_199) e184 E339 [(.ref b15)] [] (lenOf own_pd16 rfl) (rm7179 l Z a0 hw T73.heap b11 b15 (p_2 &&& 2147483647) b20 k23 y10 q16 (oN y10) q13 b21 k31 p_3 y12 p_4 p_5 F1176 E1177 F572 V573 (by simp only [← hq13, ← hy19]) (by simp only [← hq13]; exact dq16q13) nq16 (by simp only [← hq13, ← hy19]) (by simp only [← hq13]) E339 (by simp only [← hq13, ← hy19]; exact (ar799 y10 )) nq13 F817 V818 (by simp only [← hq13, ← hy19]; exact hc48))
          let l126 := lf (vr b18) (vr b17) (vr b15) (vr b11) (vi 1) (vr b17) (vi p_3) (vi (-1)) (vi p_5) u u u
          refine own_go (T2 := T251) (g2 := (mkF m 204 l126 [])) (fun t k => z_aload X73 hx hby at_177 rfl rfl (z_aload X73 hx hby at_179 rfl rfl (st183 _ (z_istore X183 hx hby at_184 l124 rfl (z_aload X183 hx hby at_186 rfl rfl (z_aload X183 hx hby at_188 rfl rfl (st184 _ (z_istore X184 hx hby at_193 l125 rfl (z_aload X184 hx hby at_195 rfl rfl (z_aload X184 hx hby at_197 rfl rfl (st251 _ (z_istore X251 hx hby at_202 l126 rfl k)))))))))))) ?_
          exact tl1427 X251 hx hby Bd.returns Bd.notSynchronized (by decide) (by decide) (by rw [e251]; simpa only [List.append_nil] using K73) p_0 p_1 p_2 p_3 p_4 p_5 (p_0 &&& 2147483647) (p_1 &&& 2147483647) (p_2 &&& 2147483647) b18 b17 b15 b11
         ·
          have V1178 := own_arhN H332 (cn1269 (oN y10) y12 y10 (.int q13) (.int q14) (.int q16) hc48 (ar799 y10 ) hc27)
          have V1179 := own_arhN H333 (cn1269 (oN y10) y12 y10 (.int p_5) (.int p_4) (.int p_3) hc48 (ar799 y10 ) hc27)
          have F819 := (Fld.keep (Fld.keep F55 K25c.1 (ninS ne36 (ninS ne43 (ninS ne35 nin0)))) K34c.1 (ninS ne36 (ninS ne43 (ninS ne35 nin0))))
          have E820 := (Exa.keep (Exa.keep E56 K25c.1) K34c.1)
          have E575 := (Exa.keep E278 K34c.1)
          obtain ⟨_, T74, L74, X74, ⟨rfl, K74c, H821, F576, F1378, F822⟩, st74⟩ := own_cv X34 hx hZ hown (own_w942 hw) hml (g := (mkF m 174 l122 [(.ref b17), (.ref b11)])) (hb hby at_174) rfl E575 [(.ref b17)] [] (lenOf own_pd15 rfl) (rm4053 l Z a0 hw T34.heap b11 b17 b20 k23 y12 q14 (oN y10) q13 y10 q16 (p_1 &&& 2147483647) b21 F335 V1178 F819 E820 (by simp only [← hq14, ← hy12]) (by simp only [← hq14]) E575 F334 ne45 (by simp only [← hq14, ← hy12]; exact (ar799 y12 )) (by simp only [← hq14, ← hy12]; exact (ar5244 y12 y10 ly12 uy12 ly19 uy19 hc37)) (by simp only [← hq14, ← hy12]; exact hc124) F336)
          have z_K74c := K74c.1.1
          have K74 := own_kpTrans K34 K74c (allS (Or.inr sz_b20) (allS (Or.inr sz_b11) all0))
          simp only [← hq14, ← hy12] at H821
          refine own_go (T2 := T74) (g2 := (mkF m 177 l122 [])) (fun t k => z_aload X34 hx hby at_170 rfl rfl (z_aload X34 hx hby at_172 rfl rfl (st74 _ k))) ?_
          have V577 := own_arhN H821 (cn1518 y12 (oN y10) y10 (.int q14) (.int q13) (.int q16) (ar5675 y12 y10 hc48) hc27 (ar799 y10 ))
          have H1180 := (Arh.keep V1179 K74c.1 (ninS (Ne.symm ne_b20_b21) (ninS (Ne.symm ne46) nin0)))
          have V823 := own_arhN H1180 (cn3261 y12 (oN y10) y10 (.int p_4) (.int p_5) (.int p_3) (ar5675 y12 y10 hc48) hc27 (ar799 y10 ))
          have ne578 := own_nl A18.lt (Nat.le_trans (Nat.le_trans (Nat.le_trans (Nat.le_trans (Nat.le_trans z_K30c z_E17) z_K29c) z_E15) z_K26c) z_E11) lo_b21
          have ne437 := own_nl A18.lt (Nat.le_trans (Nat.le_trans (Nat.le_trans (Nat.le_trans (Nat.le_trans z_K30c z_E17) z_K29c) z_E15) z_K26c) z_E11) lo_b20
          have F1181 := (Fld.keep (Fld.keep (Fld.keep (Fld.keep F49 K28c.1 (ninS ne437 (ninS ne578 (ninS ne24 nin0)))) K25c.1 (ninS ne437 (ninS ne578 (ninS ne24 nin0)))) K34c.1 (ninS ne437 (ninS ne578 (ninS ne24 nin0)))) K74c.1 (ninS ne437 (ninS ne24 nin0)))
          have E1182 := (Exa.keep (Exa.keep (Exa.keep (Exa.keep E50 K28c.1) K25c.1) K34c.1) K74c.1)
          have E340 := (Exa.keep E575 K74c.1)
          obtain ⟨_, T185, L185, X185, ⟨rfl, rfl, e185⟩, st185⟩ := own_cv X74 hx hZ hown (own_w1056 hw) hml (g := (mkF m 181 l122 [(.ref b18), (.ref b11)])) (hb hby at_181) rfl E340 [(.ref b18)] [] (lenOf own_pd16 rfl) (rm3303 l Z a0 hw T74.heap b11 b18 (p_0 &&& 2147483647) b20 k23 y10 q16 (oN y10) q13 b21 k31 p_3 y12 p_4 p_5 F1181 E1182 F576 V577 (by simp only [← hq16, ← hy10]) (by simp only [← hq16]) E340 nq16 F822 V823)
          have F1183 := (Fld.keep F819 K74c.1 (ninS ne36 (ninS ne35 nin0)))
          have E1184 := (Exa.keep E820 K74c.1)
          let l127 := lf (vr b18) (vr b17) (vr b15) (vr b11) (vi 1) (vr b17) (vi p_3) u u u u u
          obtain ⟨_, T186, L186, X186, ⟨rfl, rfl, e186⟩, st186⟩ := own_cv X185 hx hZ hown (own_w1056 hw) hml (g := (mkF m 190 l127 [(.ref b17), (.ref b11)])) (hb hby at_190) e185 E340 [(.ref b17)] [] (lenOf own_pd16 rfl) (rm3879 l Z a0 hw T74.heap b11 b17 (p_1 &&& 2147483647) b20 k23 y10 q16 (oN y10) q13 F1183 E1184 F576 V577 (by simp only [← hq14, ← hy12]; exact hc27) (by simp only [← hq14, ← hy12]; exact (ar5675 y12 y10 hc48)) (by simp only [← hq14]; exact (ar492 q14 nq14)) E340)
          have F1185 := (Fld.keep (Fld.keep F294 K34c.1 (ninS ne118 (ninS ne178 (ninS ne112 nin0)))) K74c.1 (ninS ne118 (ninS ne112 nin0)))
          have E1186 := (Exa.keep (Exa.keep E295 K34c.1) K74c.1)
          let l128 := lf (vr b18) (vr b17) (vr b15) (vr b11) (vi 1) (vr b17) (vi p_3) (vi (-1)) u u u u
          obtain ⟨_, T252, L252, X252, ⟨rfl, rfl, e252⟩, st252⟩ := own_cv X186 hx hZ hown (own_w1056 hw) hml (g := (mkF m 199 l128 [(.ref b15), (.ref b11)])) (hb hby at_199) e186 E340 [(.ref b15)] [] (lenOf own_pd16 rfl) (rm7179 l Z a0 hw T74.heap b11 b15 (p_2 &&& 2147483647) b20 k23 y10 q16 (oN y10) q13 b21 k31 p_3 y12 p_4 p_5 F1185 E1186 F576 V577 (by simp only [← hq13, ← hy19]) (by simp only [← hq13]; exact dq16q13) nq16 (by simp only [← hq13, ← hy19]) (by simp only [← hq13]) E340 (by simp only [← hq13, ← hy19]; exact (ar799 y10 )) nq13 F822 V823 (by simp only [← hq13, ← hy19]; exact hc48))
          let l129 := lf (vr b18) (vr b17) (vr b15) (vr b11) (vi 1) (vr b17) (vi p_3) (vi (-1)) (vi p_5) u u u
          refine own_go (T2 := T252) (g2 := (mkF m 204 l129 [])) (fun t k => z_aload X74 hx hby at_177 rfl rfl (z_aload X74 hx hby at_179 rfl rfl (st185 _ (z_istore X185 hx hby at_184 l127 rfl (z_aload X185 hx hby at_186 rfl rfl (z_aload X185 hx hby at_188 rfl rfl (st186 _ (z_istore X186 hx hby at_193 l128 rfl (z_aload X186 hx hby at_195 rfl rfl (z_aload X186 hx hby at_197 rfl rfl (st252 _ (z_istore X252 hx hby at_202 l129 rfl k)))))))))))) ?_
          exact tl1427 X252 hx hby Bd.returns Bd.notSynchronized (by decide) (by decide) (by rw [e252]; simpa only [List.append_nil] using K74) p_0 p_1 p_2 p_3 p_4 p_5 (p_0 &&& 2147483647) (p_1 &&& 2147483647) (p_2 &&& 2147483647) b18 b17 b15 b11
        ·
         let l130 := lf (vr b18) (vr b17) (vr b15) (vr b11) (vi 2) (vr b15) u u u u u u
         let l131 := lf (vr b18) (vr b17) (vr b15) (vr b11) (vi 2) u u u u u u u
         refine own_go (T2 := T34) (g2 := (mkF m 170 l130 [])) (fun t k => z_istore X34 hx hby at_143 l131 rfl (z_iload X34 hx hby at_145 rfl (z_ifYes X34 hx hby 155 at_147 ((if0 _ _).trans (feq (show ¬ ((2 : Int32) = 0) from (by decide))).2) rfl (z_iload X34 hx hby at_155 rfl (z_iconst X34 hx hby at_157 (z_icmpYes X34 hx hby 166 at_158 (feq (show ¬ ((2 : Int32) = 1) from (by decide))).2 rfl (z_aload X34 hx hby at_166 rfl rfl (z_astore X34 hx hby at_168 rfl l130 rfl k)))))))) ?_
         by_cases hc438 : (oN (oN y10)) = y12
         ·
          have F824 := (Fld.keep F294 K34c.1 (ninS ne118 (ninS ne178 (ninS ne112 nin0))))
          have E825 := (Exa.keep E295 K34c.1)
          have E579 := (Exa.keep E278 K34c.1)
          obtain ⟨_, T75, L75, X75, ⟨rfl, K75c, H826, F580, F1379, F827⟩, st75⟩ := own_cv X34 hx hZ hown (own_w942 hw) hml (g := (mkF m 174 l130 [(.ref b15), (.ref b11)])) (hb hby at_174) rfl E579 [(.ref b15)] [] (lenOf own_pd15 rfl) (rm3187 l Z a0 hw T34.heap b11 b15 b20 k23 (oN y10) q13 y12 q14 y10 q16 (p_2 &&& 2147483647) b21 F335 H332 F824 E825 (by simp only [← hq13, ← hy19]; exact (ar944 y10 )) (by simp only [← hq13, ← hy19]; exact hc37) (by simp only [← hq13, ← hy19]) (by simp only [← hq13]; exact dq16q13) nq16 (by simp only [← hq13, ← hy19]) (by simp only [← hq13]) E579 F334 ne45 (by simp only [← hq13, ← hy19]; exact (ar798 y10 )) (by simp only [← hq13, ← hy19]; exact hc438) nq14 (by simp only [← hy12, ← hq13, ← hy19]; exact (ar2590 y10 y12 hc438)) (by simp only [← hq13, ← hy19]; exact (ar928 y10 )) (by simp only [← hq13, ← hy19]; exact (ar2691 y10 y12 hc438)) (by simp only [← hq13, ← hy19]; exact (ar929 y10 )) F336)
          have z_K75c := K75c.1.1
          have K75 := own_kpTrans K34 K75c (allS (Or.inr sz_b20) (allS (Or.inr sz_b11) all0))
          simp only [← hq13, ← hy19] at H826
          refine own_go (T2 := T75) (g2 := (mkF m 177 l130 [])) (fun t k => z_aload X34 hx hby at_170 rfl rfl (z_aload X34 hx hby at_172 rfl rfl (st75 _ k))) ?_
          have V581 := own_arhN H826 (cn1518 (oN y10) y12 y10 (.int q13) (.int q14) (.int q16) hc48 (ar799 y10 ) hc27)
          have H1187 := (Arh.keep H333 K75c.1 (ninS (Ne.symm ne_b20_b21) (ninS (Ne.symm ne46) nin0)))
          have V828 := own_arhN H1187 (cn800 (oN y10) y12 y10 (.int p_5) (.int p_4) (.int p_3) hc48 (ar799 y10 ) hc27)
          have ne582 := own_nl A18.lt (Nat.le_trans (Nat.le_trans (Nat.le_trans (Nat.le_trans (Nat.le_trans z_K30c z_E17) z_K29c) z_E15) z_K26c) z_E11) lo_b21
          have ne439 := own_nl A18.lt (Nat.le_trans (Nat.le_trans (Nat.le_trans (Nat.le_trans (Nat.le_trans z_K30c z_E17) z_K29c) z_E15) z_K26c) z_E11) lo_b20
          have F1188 := (Fld.keep (Fld.keep (Fld.keep (Fld.keep F49 K28c.1 (ninS ne439 (ninS ne582 (ninS ne24 nin0)))) K25c.1 (ninS ne439 (ninS ne582 (ninS ne24 nin0)))) K34c.1 (ninS ne439 (ninS ne582 (ninS ne24 nin0)))) K75c.1 (ninS ne439 (ninS ne24 nin0)))
          have E1189 := (Exa.keep (Exa.keep (Exa.keep (Exa.keep E50 K28c.1) K25c.1) K34c.1) K75c.1)
          have E341 := (Exa.keep E579 K75c.1)
          obtain ⟨_, T187, L187, X187, ⟨rfl, rfl, e187⟩, st187⟩ := own_cv X75 hx hZ hown (own_w1056 hw) hml (g := (mkF m 181 l130 [(.ref b18), (.ref b11)])) (hb hby at_181) rfl E341 [(.ref b18)] [] (lenOf own_pd16 rfl) (rm1536 l Z a0 hw T75.heap b11 b18 (p_0 &&& 2147483647) b20 k23 y10 q16 y12 q14 b21 k31 p_3 p_4 (oN y10) p_5 F1188 E1189 F580 V581 (by simp only [← hq16, ← hy10]) (by simp only [← hq16]) E341 nq16 F827 V828)
          have F1190 := (Fld.keep (Fld.keep (Fld.keep F55 K25c.1 (ninS ne36 (ninS ne43 (ninS ne35 nin0)))) K34c.1 (ninS ne36 (ninS ne43 (ninS ne35 nin0)))) K75c.1 (ninS ne36 (ninS ne35 nin0)))
          have E1191 := (Exa.keep (Exa.keep (Exa.keep E56 K25c.1) K34c.1) K75c.1)
          let l132 := lf (vr b18) (vr b17) (vr b15) (vr b11) (vi 2) (vr b15) (vi p_3) u u u u u
          obtain ⟨_, T188, L188, X188, ⟨rfl, rfl, e188⟩, st188⟩ := own_cv X187 hx hZ hown (own_w1056 hw) hml (g := (mkF m 190 l132 [(.ref b17), (.ref b11)])) (hb hby at_190) e187 E341 [(.ref b17)] [] (lenOf own_pd16 rfl) (rm5097 l Z a0 hw T75.heap b11 b17 (p_1 &&& 2147483647) b20 k23 y10 q16 y12 q14 b21 k31 p_3 p_4 (oN y10) p_5 F1190 E1191 F580 V581 (by simp only [← hq14, ← hy12]; exact hc27) (by simp only [← hq14, ← hy12]) (by simp only [← hq14]) E341 nq14 F827 V828)
          have F1192 := (Fld.keep F824 K75c.1 (ninS ne118 (ninS ne112 nin0)))
          have E1193 := (Exa.keep E825 K75c.1)
          let l133 := lf (vr b18) (vr b17) (vr b15) (vr b11) (vi 2) (vr b15) (vi p_3) (vi p_4) u u u u
          obtain ⟨_, T253, L253, X253, ⟨rfl, rfl, e253⟩, st253⟩ := own_cv X188 hx hZ hown (own_w1056 hw) hml (g := (mkF m 199 l133 [(.ref b15), (.ref b11)])) (hb hby at_199) e188 E341 [(.ref b15)] [] (lenOf own_pd16 rfl) (rm2720 l Z a0 hw T75.heap b11 b15 (p_2 &&& 2147483647) b20 k23 y10 q16 y12 q14 F1192 E1193 F580 V581 (by simp only [← hq13, ← hy19]) (by simp only [← hq13]; exact dq16q13) nq16 (by simp only [← hq13, ← hy19]; exact hc48) (by simp only [← hq13]; exact (ar492 q13 nq13)) E341)
          let l134 := lf (vr b18) (vr b17) (vr b15) (vr b11) (vi 2) (vr b15) (vi p_3) (vi p_4) (vi (-1)) u u u
          refine own_go (T2 := T253) (g2 := (mkF m 204 l134 [])) (fun t k => z_aload X75 hx hby at_177 rfl rfl (z_aload X75 hx hby at_179 rfl rfl (st187 _ (z_istore X187 hx hby at_184 l132 rfl (z_aload X187 hx hby at_186 rfl rfl (z_aload X187 hx hby at_188 rfl rfl (st188 _ (z_istore X188 hx hby at_193 l133 rfl (z_aload X188 hx hby at_195 rfl rfl (z_aload X188 hx hby at_197 rfl rfl (st253 _ (z_istore X253 hx hby at_202 l134 rfl k)))))))))))) ?_
          exact tl1942 X253 hx hby Bd.returns Bd.notSynchronized (by decide) (by decide) (by rw [e253]; simpa only [List.append_nil] using K75) p_0 p_1 p_2 p_3 p_4 p_5 (p_0 &&& 2147483647) (p_1 &&& 2147483647) (p_2 &&& 2147483647) b18 b17 b15 b11
         ·
          have F829 := (Fld.keep F294 K34c.1 (ninS ne118 (ninS ne178 (ninS ne112 nin0))))
          have E830 := (Exa.keep E295 K34c.1)
          have E583 := (Exa.keep E278 K34c.1)
          obtain ⟨_, T76, L76, X76, ⟨rfl, K76c, H831, F584, F1380, F832⟩, st76⟩ := own_cv X34 hx hZ hown (own_w942 hw) hml (g := (mkF m 174 l130 [(.ref b15), (.ref b11)])) (hb hby at_174) rfl E583 [(.ref b15)] [] (lenOf own_pd15 rfl) (rm3553 l Z a0 hw T34.heap b11 b15 b20 k23 (oN y10) q13 y12 q14 y10 q16 (p_2 &&& 2147483647) b21 F335 H332 F829 E830 (by simp only [← hq13, ← hy19]; exact (ar944 y10 )) (by simp only [← hq13, ← hy19]; exact hc37) (by simp only [← hq13, ← hy19]) (by simp only [← hq13]; exact dq16q13) nq16 (by simp only [← hq13, ← hy19]) (by simp only [← hq13]) E583 F334 ne45 (by simp only [← hq13, ← hy19]; exact (ar798 y10 )) (by simp only [← hq13, ← hy19]; exact hc438) (by simp only [← hq13, ← hy19]; exact (ar758 y10 )) F336)
          have z_K76c := K76c.1.1
          have K76 := own_kpTrans K34 K76c (allS (Or.inr sz_b20) (allS (Or.inr sz_b11) all0))
          simp only [← hq13, ← hy19] at H831
          refine own_go (T2 := T76) (g2 := (mkF m 177 l130 [])) (fun t k => z_aload X34 hx hby at_170 rfl rfl (z_aload X34 hx hby at_172 rfl rfl (st76 _ k))) ?_
          have V585 := own_arhN H831 (cn1518 (oN y10) y12 y10 (.int q13) (.int q14) (.int q16) hc48 (ar799 y10 ) hc27)
          have H1194 := (Arh.keep H333 K76c.1 (ninS (Ne.symm ne_b20_b21) (ninS (Ne.symm ne46) nin0)))
          have V833 := own_arhN H1194 (cn800 (oN y10) y12 y10 (.int p_5) (.int p_4) (.int p_3) hc48 (ar799 y10 ) hc27)
          have ne586 := own_nl A18.lt (Nat.le_trans (Nat.le_trans (Nat.le_trans (Nat.le_trans (Nat.le_trans z_K30c z_E17) z_K29c) z_E15) z_K26c) z_E11) lo_b21
          have ne440 := own_nl A18.lt (Nat.le_trans (Nat.le_trans (Nat.le_trans (Nat.le_trans (Nat.le_trans z_K30c z_E17) z_K29c) z_E15) z_K26c) z_E11) lo_b20
          have F1195 := (Fld.keep (Fld.keep (Fld.keep (Fld.keep F49 K28c.1 (ninS ne440 (ninS ne586 (ninS ne24 nin0)))) K25c.1 (ninS ne440 (ninS ne586 (ninS ne24 nin0)))) K34c.1 (ninS ne440 (ninS ne586 (ninS ne24 nin0)))) K76c.1 (ninS ne440 (ninS ne24 nin0)))
          have E1196 := (Exa.keep (Exa.keep (Exa.keep (Exa.keep E50 K28c.1) K25c.1) K34c.1) K76c.1)
          have E342 := (Exa.keep E583 K76c.1)
          obtain ⟨_, T189, L189, X189, ⟨rfl, rfl, e189⟩, st189⟩ := own_cv X76 hx hZ hown (own_w1056 hw) hml (g := (mkF m 181 l130 [(.ref b18), (.ref b11)])) (hb hby at_181) rfl E342 [(.ref b18)] [] (lenOf own_pd16 rfl) (rm1536 l Z a0 hw T76.heap b11 b18 (p_0 &&& 2147483647) b20 k23 y10 q16 y12 q14 b21 k31 p_3 p_4 (oN y10) p_5 F1195 E1196 F584 V585 (by simp only [← hq16, ← hy10]) (by simp only [← hq16]) E342 nq16 F832 V833)
          have F1197 := (Fld.keep (Fld.keep (Fld.keep F55 K25c.1 (ninS ne36 (ninS ne43 (ninS ne35 nin0)))) K34c.1 (ninS ne36 (ninS ne43 (ninS ne35 nin0)))) K76c.1 (ninS ne36 (ninS ne35 nin0)))
          have E1198 := (Exa.keep (Exa.keep (Exa.keep E56 K25c.1) K34c.1) K76c.1)
          let l135 := lf (vr b18) (vr b17) (vr b15) (vr b11) (vi 2) (vr b15) (vi p_3) u u u u u
          obtain ⟨_, T190, L190, X190, ⟨rfl, rfl, e190⟩, st190⟩ := own_cv X189 hx hZ hown (own_w1056 hw) hml (g := (mkF m 190 l135 [(.ref b17), (.ref b11)])) (hb hby at_190) e189 E342 [(.ref b17)] [] (lenOf own_pd16 rfl) (rm5097 l Z a0 hw T76.heap b11 b17 (p_1 &&& 2147483647) b20 k23 y10 q16 y12 q14 b21 k31 p_3 p_4 (oN y10) p_5 F1197 E1198 F584 V585 (by simp only [← hq14, ← hy12]; exact hc27) (by simp only [← hq14, ← hy12]) (by simp only [← hq14]) E342 nq14 F832 V833)
          have F1199 := (Fld.keep F829 K76c.1 (ninS ne118 (ninS ne112 nin0)))
          have E1200 := (Exa.keep E830 K76c.1)
          let l136 := lf (vr b18) (vr b17) (vr b15) (vr b11) (vi 2) (vr b15) (vi p_3) (vi p_4) u u u u
          obtain ⟨_, T254, L254, X254, ⟨rfl, rfl, e254⟩, st254⟩ := own_cv X190 hx hZ hown (own_w1056 hw) hml (g := (mkF m 199 l136 [(.ref b15), (.ref b11)])) (hb hby at_199) e190 E342 [(.ref b15)] [] (lenOf own_pd16 rfl) (rm2720 l Z a0 hw T76.heap b11 b15 (p_2 &&& 2147483647) b20 k23 y10 q16 y12 q14 F1199 E1200 F584 V585 (by simp only [← hq13, ← hy19]) (by simp only [← hq13]; exact dq16q13) nq16 (by simp only [← hq13, ← hy19]; exact hc48) (by simp only [← hq13]; exact (ar492 q13 nq13)) E342)
          let l137 := lf (vr b18) (vr b17) (vr b15) (vr b11) (vi 2) (vr b15) (vi p_3) (vi p_4) (vi (-1)) u u u
          refine own_go (T2 := T254) (g2 := (mkF m 204 l137 [])) (fun t k => z_aload X76 hx hby at_177 rfl rfl (z_aload X76 hx hby at_179 rfl rfl (st189 _ (z_istore X189 hx hby at_184 l135 rfl (z_aload X189 hx hby at_186 rfl rfl (z_aload X189 hx hby at_188 rfl rfl (st190 _ (z_istore X190 hx hby at_193 l136 rfl (z_aload X190 hx hby at_195 rfl rfl (z_aload X190 hx hby at_197 rfl rfl (st254 _ (z_istore X254 hx hby at_202 l137 rfl k)))))))))))) ?_
          exact tl1942 X254 hx hby Bd.returns Bd.notSynchronized (by decide) (by decide) (by rw [e254]; simpa only [List.append_nil] using K76) p_0 p_1 p_2 p_3 p_4 p_5 (p_0 &&& 2147483647) (p_1 &&& 2147483647) (p_2 &&& 2147483647) b18 b17 b15 b11
      ·
       have ne58 := own_nl A15.lt z_K26c lo_b11
       have ne106 := own_nl A15.lt (Nat.le_trans z_K26c z_E11) lo_b21
       have ne59 := own_nl A15.lt (Nat.le_trans z_K26c z_E11) lo_b20
       have F108 := (Fld.keep (Fld.keep (Fld.keep (Fld.ext E11 F270) K51c.1 (ninS ne58 nin0)) K28c.1 (ninS ne59 (ninS ne106 (ninS ne58 nin0)))) K25c.1 (ninS ne59 (ninS ne106 (ninS ne58 nin0))))
       have E109 := (Exa.keep (Exa.keep (Exa.keep (Exa.ext E11 (Exa.keep A15 K26c.1)) K51c.1) K28c.1) K25c.1)
       have E107 := (Exa.keep E289 K25c.1)
       obtain ⟨_, T22, L22, X22, ⟨rfl, K22c, H125, H126, F113, F114, F115⟩, st22⟩ := own_cv X25 hx hZ hown (own_w528 hw) hml (g := (mkF m 133 l5 [(.int p_5), (.ref b15), (.ref b11)])) (hb hby at_133) rfl E107 [(.ref b15), (.int p_5)] [] (lenOf own_pd14 rfl) (rm2391 l Z a0 hw T25.heap b11 b15 p_5 b20 k23 y12 q14 y10 q16 (p_2 &&& 2147483647) b21 k31 p_4 p_3 F361 F362 H313 F108 E109 (by simp only [← hq13, ← hy19]; exact hc37) (by simp only [← hq13, ← hy19]; exact hc44) (by simp only [← hq13]; exact (ar492 q13 nq13)) E107 F363 ne45 H314 (Ne.symm ne_b20_b21) ne46)
       have z_K22c := K22c.1.1
       have K22 := own_kpTrans K25 K22c (allS (Or.inr sz_b20) (allS (Or.inr sz_b21) (allS (Or.inr sz_b11) all0)))
       simp only [← hq13, ← hy19] at H125
       simp only [← hq13, ← hy19] at H126
       refine own_go (T2 := T22) (g2 := (mkF m 143 l5 [(.int ((p_5 &&& 2147483647) % 3))])) (fun t k => st22 _ (z_iload X22 hx hby at_136 rfl (Jvm.Stand.ldcI X22 hx hown (mvT hZ (own_wd hw 0 rfl)) rfl (hb hby at_138) (z_iand X22 hx hby at_140 (z_iconst X22 hx hby at_141 (iremM X22 hx rfl (hb hby at_142) rfl (by decide) k)))))) ?_
       have hrk7699 := own_mod3 p_5
       generalize ((p_5 &&& 2147483647) % 3) = k1381 at hrk7699 ⊢
       rcases hrk7699 with rfl | rfl | rfl
       ·
        let l138 := lf (vr b18) (vr b17) (vr b15) (vr b11) (vi 0) (vr b18) u u u u u u
        let l139 := lf (vr b18) (vr b17) (vr b15) (vr b11) (vi 0) u u u u u u u
        refine own_go (T2 := T22) (g2 := (mkF m 170 l138 [])) (fun t k => z_istore X22 hx hby at_143 l139 rfl (z_iload X22 hx hby at_145 rfl (z_ifNo X22 hx hby at_147 ((if0 _ _).trans (teq (show (0 : Int32) = 0 from (by decide))).2) (z_aload X22 hx hby at_150 rfl rfl (z_goto X22 hx hby 168 at_152 rfl (z_astore X22 hx hby at_168 rfl l138 rfl k)))))) ?_
        by_cases hc279 : (oN y10) = y19
        ·
         have V834 := own_arhN H125 (cn3261 y19 y12 y10 (.int q13) (.int q14) (.int q16) hc37 hc44 hc27)
         have V835 := own_arhN H126 (cn3261 y19 y12 y10 (.int p_5) (.int p_4) (.int p_3) hc37 hc44 hc27)
         refine own_go (T2 := T22) (g2 := (mkF m 174 l138 [(.ref b18), (.ref b11)])) (fun t k => z_aload X22 hx hby at_170 rfl rfl (z_aload X22 hx hby at_172 rfl rfl k)) ?_
         by_cases hc441 : (oN (oN y10)) = y12
         ·
          have ne587 := own_nl A18.lt (Nat.le_trans (Nat.le_trans (Nat.le_trans (Nat.le_trans (Nat.le_trans z_K30c z_E17) z_K29c) z_E15) z_K26c) z_E11) lo_b21
          have ne442 := own_nl A18.lt (Nat.le_trans (Nat.le_trans (Nat.le_trans (Nat.le_trans (Nat.le_trans z_K30c z_E17) z_K29c) z_E15) z_K26c) z_E11) lo_b20
          have F836 := (Fld.keep (Fld.keep (Fld.keep F49 K28c.1 (ninS ne442 (ninS ne587 (ninS ne24 nin0)))) K25c.1 (ninS ne442 (ninS ne587 (ninS ne24 nin0)))) K22c.1 (ninS ne442 (ninS ne587 (ninS ne24 nin0))))
          have E837 := (Exa.keep (Exa.keep (Exa.keep E50 K28c.1) K25c.1) K22c.1)
          have E588 := (Exa.keep E107 K22c.1)
          obtain ⟨_, T77, L77, X77, ⟨rfl, K77c, H838, F589, F1382, F839⟩, st77⟩ := own_cv X22 hx hZ hown (own_w942 hw) hml (g := (mkF m 174 l138 [(.ref b18), (.ref b11)])) (hb hby at_174) rfl E588 [(.ref b18)] [] (lenOf own_pd15 rfl) (rm3737 l Z a0 hw T22.heap b11 b18 b20 k23 y10 q16 y19 q13 y12 q14 (p_0 &&& 2147483647) b21 F114 V834 F836 E837 (by simp only [← hq16, ← hy10]) (by simp only [← hq16]) E588 F113 ne45 (by simp only [← hq16, ← hy10]; exact (ar799 y10 )) (by simp only [← hq16, ← hy10]; exact hc279) nq13 (by simp only [← hq16, ← hy10, ← hy19]; exact (ar3720 y10 y19 hc279)) (by simp only [← hq16, ← hy10]; exact (ar758 y10 )) (by simp only [← hq16, ← hy10]; exact (ar3788 y10 y19 hc279)) (by simp only [← hq16, ← hy10]; exact hc441) nq14 (by simp only [← hq16, ← hy10, ← hy12]; exact (ar7855 y10 y12 hc441)) (by simp only [← hq16, ← hy10]; exact (ar929 y10 )) (by simp only [← hq16, ← hy10]; exact (ar3801 y10 y19 hc279)) (by simp only [← hq16, ← hy10]; exact (ar2691 y10 y12 hc441)) F115)
          have z_K77c := K77c.1.1
          have K77 := own_kpTrans K22 K77c (allS (Or.inr sz_b20) (allS (Or.inr sz_b11) all0))
          simp only [← hq16, ← hy10] at H838
          refine own_go (T2 := T77) (g2 := (mkF m 177 l138 [])) (fun t k => st77 _ k) ?_
          have V590 := own_arhN H838 (cn1518 y10 y19 y12 (.int q16) (.int q13) (.int q14) (ar2702 y10 y19 hc44) (ar2702 y10 y12 hc27) hc37)
          have H1201 := (Arh.keep V835 K77c.1 (ninS (Ne.symm ne_b20_b21) (ninS (Ne.symm ne46) nin0)))
          have V840 := own_arhN H1201 (cn3713 y10 y19 y12 (.int p_3) (.int p_5) (.int p_4) (ar2702 y10 y19 hc44) (ar2702 y10 y12 hc27) hc37)
          have F1202 := (Fld.keep F836 K77c.1 (ninS ne442 (ninS ne24 nin0)))
          have E1203 := (Exa.keep E837 K77c.1)
          have E343 := (Exa.keep E588 K77c.1)
          obtain ⟨_, T191, L191, X191, ⟨rfl, rfl, e191⟩, st191⟩ := own_cv X77 hx hZ hown (own_w1056 hw) hml (g := (mkF m 181 l138 [(.ref b18), (.ref b11)])) (hb hby at_181) rfl E343 [(.ref b18)] [] (lenOf own_pd16 rfl) (rm3879 l Z a0 hw T77.heap b11 b18 (p_0 &&& 2147483647) b20 k23 y12 q14 y19 q13 F1202 E1203 F589 V590 (by simp only [← hq16, ← hy10]; exact (ar2702 y10 y12 hc27)) (by simp only [← hq16, ← hy10]; exact (ar2702 y10 y19 hc44)) (by simp only [← hq16]; exact (ar492 q16 nq16)) E343)
          have F1204 := (Fld.keep (Fld.keep (Fld.keep F55 K25c.1 (ninS ne36 (ninS ne43 (ninS ne35 nin0)))) K22c.1 (ninS ne36 (ninS ne43 (ninS ne35 nin0)))) K77c.1 (ninS ne36 (ninS ne35 nin0)))
          have E1205 := (Exa.keep (Exa.keep (Exa.keep E56 K25c.1) K22c.1) K77c.1)
          let l140 := lf (vr b18) (vr b17) (vr b15) (vr b11) (vi 0) (vr b18) (vi (-1)) u u u u u
          obtain ⟨_, T192, L192, X192, ⟨rfl, rfl, e192⟩, st192⟩ := own_cv X191 hx hZ hown (own_w1056 hw) hml (g := (mkF m 190 l140 [(.ref b17), (.ref b11)])) (hb hby at_190) e191 E343 [(.ref b17)] [] (lenOf own_pd16 rfl) (rm5358 l Z a0 hw T77.heap b11 b17 (p_1 &&& 2147483647) b20 k23 y12 q14 y19 q13 b21 k31 y10 p_3 p_4 p_5 F1204 E1205 F589 V590 (by simp only [← hq14, ← hy12]) (by simp only [← hq14]) E343 nq14 F839 V840 (by simp only [← hq14, ← hy12]; exact hc27))
          have F1206 := (Fld.keep (Fld.keep F108 K22c.1 (ninS ne59 (ninS ne106 (ninS ne58 nin0)))) K77c.1 (ninS ne59 (ninS ne58 nin0)))
          have E1207 := (Exa.keep (Exa.keep E109 K22c.1) K77c.1)
          let l141 := lf (vr b18) (vr b17) (vr b15) (vr b11) (vi 0) (vr b18) (vi (-1)) (vi p_4) u u u u
          obtain ⟨_, T255, L255, X255, ⟨rfl, rfl, e255⟩, st255⟩ := own_cv X192 hx hZ hown (own_w1056 hw) hml (g := (mkF m 199 l141 [(.ref b15), (.ref b11)])) (hb hby at_199) e192 E343 [(.ref b15)] [] (lenOf own_pd16 rfl) (rm7965 l Z a0 hw T77.heap b11 b15 (p_2 &&& 2147483647) b20 k23 y12 q14 y19 q13 b21 k31 y10 p_3 p_4 p_5 F1206 E1207 F589 V590 (by simp only [← hq13, ← hy19]; exact hc37) (by simp only [← hq13, ← hy19]) (by simp only [← hq13]) E343 nq13 F839 V840 (by simp only [← hq13, ← hy19]; exact hc44))
          let l142 := lf (vr b18) (vr b17) (vr b15) (vr b11) (vi 0) (vr b18) (vi (-1)) (vi p_4) (vi p_5) u u u
          refine own_go (T2 := T255) (g2 := (mkF m 204 l142 [])) (fun t k => z_aload X77 hx hby at_177 rfl rfl (z_aload X77 hx hby at_179 rfl rfl (st191 _ (z_istore X191 hx hby at_184 l140 rfl (z_aload X191 hx hby at_186 rfl rfl (z_aload X191 hx hby at_188 rfl rfl (st192 _ (z_istore X192 hx hby at_193 l141 rfl (z_aload X192 hx hby at_195 rfl rfl (z_aload X192 hx hby at_197 rfl rfl (st255 _ (z_istore X255 hx hby at_202 l142 rfl k)))))))))))) ?_
          exact tl1268 X255 hx hby Bd.returns Bd.notSynchronized (by decide) (by decide) (by rw [e255]; simpa only [List.append_nil] using K77) p_0 p_1 p_2 p_3 p_4 p_5 (p_0 &&& 2147483647) (p_1 &&& 2147483647) (p_2 &&& 2147483647) b18 b17 b15 b11
         ·
          have ne591 := own_nl A18.lt (Nat.le_trans (Nat.le_trans (Nat.le_trans (Nat.le_trans (Nat.le_trans z_K30c z_E17) z_K29c) z_E15) z_K26c) z_E11) lo_b21
          have ne443 := own_nl A18.lt (Nat.le_trans (Nat.le_trans (Nat.le_trans (Nat.le_trans (Nat.le_trans z_K30c z_E17) z_K29c) z_E15) z_K26c) z_E11) lo_b20
          have F841 := (Fld.keep (Fld.keep (Fld.keep F49 K28c.1 (ninS ne443 (ninS ne591 (ninS ne24 nin0)))) K25c.1 (ninS ne443 (ninS ne591 (ninS ne24 nin0)))) K22c.1 (ninS ne443 (ninS ne591 (ninS ne24 nin0))))
          have E842 := (Exa.keep (Exa.keep (Exa.keep E50 K28c.1) K25c.1) K22c.1)
          have E592 := (Exa.keep E107 K22c.1)
          obtain ⟨_, T78, L78, X78, ⟨rfl, K78c, H843, F593, F1383, F844⟩, st78⟩ := own_cv X22 hx hZ hown (own_w942 hw) hml (g := (mkF m 174 l138 [(.ref b18), (.ref b11)])) (hb hby at_174) rfl E592 [(.ref b18)] [] (lenOf own_pd15 rfl) (rm8120 l Z a0 hw T22.heap b11 b18 b20 k23 y10 q16 y19 q13 y12 q14 (p_0 &&& 2147483647) b21 F114 V834 F841 E842 (by simp only [← hq16, ← hy10]) (by simp only [← hq16]) E592 F113 ne45 (by simp only [← hq16, ← hy10]; exact (ar799 y10 )) (by simp only [← hq16, ← hy10]; exact hc279) nq13 (by simp only [← hq16, ← hy10, ← hy19]; exact (ar3720 y10 y19 hc279)) (by simp only [← hq16, ← hy10]; exact (ar758 y10 )) (by simp only [← hq16, ← hy10]; exact (ar3788 y10 y19 hc279)) (by simp only [← hq16, ← hy10]; exact hc441) F115)
          have z_K78c := K78c.1.1
          have K78 := own_kpTrans K22 K78c (allS (Or.inr sz_b20) (allS (Or.inr sz_b11) all0))
          simp only [← hq16, ← hy10] at H843
          refine own_go (T2 := T78) (g2 := (mkF m 177 l138 [])) (fun t k => st78 _ k) ?_
          have V594 := own_arhN H843 (cn1518 y10 y19 y12 (.int q16) (.int q13) (.int q14) (ar2702 y10 y19 hc44) (ar2702 y10 y12 hc27) hc37)
          have H1208 := (Arh.keep V835 K78c.1 (ninS (Ne.symm ne_b20_b21) (ninS (Ne.symm ne46) nin0)))
          have V845 := own_arhN H1208 (cn3713 y10 y19 y12 (.int p_3) (.int p_5) (.int p_4) (ar2702 y10 y19 hc44) (ar2702 y10 y12 hc27) hc37)
          have F1209 := (Fld.keep F841 K78c.1 (ninS ne443 (ninS ne24 nin0)))
          have E1210 := (Exa.keep E842 K78c.1)
          have E344 := (Exa.keep E592 K78c.1)
          obtain ⟨_, T193, L193, X193, ⟨rfl, rfl, e193⟩, st193⟩ := own_cv X78 hx hZ hown (own_w1056 hw) hml (g := (mkF m 181 l138 [(.ref b18), (.ref b11)])) (hb hby at_181) rfl E344 [(.ref b18)] [] (lenOf own_pd16 rfl) (rm3879 l Z a0 hw T78.heap b11 b18 (p_0 &&& 2147483647) b20 k23 y12 q14 y19 q13 F1209 E1210 F593 V594 (by simp only [← hq16, ← hy10]; exact (ar2702 y10 y12 hc27)) (by simp only [← hq16, ← hy10]; exact (ar2702 y10 y19 hc44)) (by simp only [← hq16]; exact (ar492 q16 nq16)) E344)
          have F1211 := (Fld.keep (Fld.keep (Fld.keep F55 K25c.1 (ninS ne36 (ninS ne43 (ninS ne35 nin0)))) K22c.1 (ninS ne36 (ninS ne43 (ninS ne35 nin0)))) K78c.1 (ninS ne36 (ninS ne35 nin0)))
          have E1212 := (Exa.keep (Exa.keep (Exa.keep E56 K25c.1) K22c.1) K78c.1)
          let l143 := lf (vr b18) (vr b17) (vr b15) (vr b11) (vi 0) (vr b18) (vi (-1)) u u u u u
          obtain ⟨_, T194, L194, X194, ⟨rfl, rfl, e194⟩, st194⟩ := own_cv X193 hx hZ hown (own_w1056 hw) hml (g := (mkF m 190 l143 [(.ref b17), (.ref b11)])) (hb hby at_190) e193 E344 [(.ref b17)] [] (lenOf own_pd16 rfl) (rm5358 l Z a0 hw T78.heap b11 b17 (p_1 &&& 2147483647) b20 k23 y12 q14 y19 q13 b21 k31 y10 p_3 p_4 p_5 F1211 E1212 F593 V594 (by simp only [← hq14, ← hy12]) (by simp only [← hq14]) E344 nq14 F844 V845 (by simp only [← hq14, ← hy12]; exact hc27))
          have F1213 := (Fld.keep (Fld.keep F108 K22c.1 (ninS ne59 (ninS ne106 (ninS ne58 nin0)))) K78c.1 (ninS ne59 (ninS ne58 nin0)))
          have E1214 := (Exa.keep (Exa.keep E109 K22c.1) K78c.1)
          let l144 := lf (vr b18) (vr b17) (vr b15) (vr b11) (vi 0) (vr b18) (vi (-1)) (vi p_4) u u u u
          obtain ⟨_, T256, L256, X256, ⟨rfl, rfl, e256⟩, st256⟩ := own_cv X194 hx hZ hown (own_w1056 hw) hml (g := (mkF m 199 l144 [(.ref b15), (.ref b11)])) (hb hby at_199) e194 E344 [(.ref b15)] [] (lenOf own_pd16 rfl) (rm7965 l Z a0 hw T78.heap b11 b15 (p_2 &&& 2147483647) b20 k23 y12 q14 y19 q13 b21 k31 y10 p_3 p_4 p_5 F1213 E1214 F593 V594 (by simp only [← hq13, ← hy19]; exact hc37) (by simp only [← hq13, ← hy19]) (by simp only [← hq13]) E344 nq13 F844 V845 (by simp only [← hq13, ← hy19]; exact hc44))
          let l145 := lf (vr b18) (vr b17) (vr b15) (vr b11) (vi 0) (vr b18) (vi (-1)) (vi p_4) (vi p_5) u u u
          refine own_go (T2 := T256) (g2 := (mkF m 204 l145 [])) (fun t k => z_aload X78 hx hby at_177 rfl rfl (z_aload X78 hx hby at_179 rfl rfl (st193 _ (z_istore X193 hx hby at_184 l143 rfl (z_aload X193 hx hby at_186 rfl rfl (z_aload X193 hx hby at_188 rfl rfl (st194 _ (z_istore X194 hx hby at_193 l144 rfl (z_aload X194 hx hby at_195 rfl rfl (z_aload X194 hx hby at_197 rfl rfl (st256 _ (z_istore X256 hx hby at_202 l145 rfl k)))))))))))) ?_
          exact tl1268 X256 hx hby Bd.returns Bd.notSynchronized (by decide) (by decide) (by rw [e256]; simpa only [List.append_nil] using K78) p_0 p_1 p_2 p_3 p_4 p_5 (p_0 &&& 2147483647) (p_1 &&& 2147483647) (p_2 &&& 2147483647) b18 b17 b15 b11
        ·
         by_cases hc280 : (oN y10) = y12
         ·
          have V846 := own_arhN H125 (cn800 y19 y12 y10 (.int q13) (.int q14) (.int q16) hc37 hc44 hc27)
          have V847 := own_arhN H126 (cn800 y19 y12 y10 (.int p_5) (.int p_4) (.int p_3) hc37 hc44 hc27)
          refine own_go (T2 := T22) (g2 := (mkF m 174 l138 [(.ref b18), (.ref b11)])) (fun t k => z_aload X22 hx hby at_170 rfl rfl (z_aload X22 hx hby at_172 rfl rfl k)) ?_
          by_cases hc444 : (oN (oN y10)) = y19
          ·
           have ne595 := own_nl A18.lt (Nat.le_trans (Nat.le_trans (Nat.le_trans (Nat.le_trans (Nat.le_trans z_K30c z_E17) z_K29c) z_E15) z_K26c) z_E11) lo_b21
           have ne445 := own_nl A18.lt (Nat.le_trans (Nat.le_trans (Nat.le_trans (Nat.le_trans (Nat.le_trans z_K30c z_E17) z_K29c) z_E15) z_K26c) z_E11) lo_b20
           have F848 := (Fld.keep (Fld.keep (Fld.keep F49 K28c.1 (ninS ne445 (ninS ne595 (ninS ne24 nin0)))) K25c.1 (ninS ne445 (ninS ne595 (ninS ne24 nin0)))) K22c.1 (ninS ne445 (ninS ne595 (ninS ne24 nin0))))
           have E849 := (Exa.keep (Exa.keep (Exa.keep E50 K28c.1) K25c.1) K22c.1)
           have E596 := (Exa.keep E107 K22c.1)
           obtain ⟨_, T79, L79, X79, ⟨rfl, K79c, H850, F597, F1384, F851⟩, st79⟩ := own_cv X22 hx hZ hown (own_w942 hw) hml (g := (mkF m 174 l138 [(.ref b18), (.ref b11)])) (hb hby at_174) rfl E596 [(.ref b18)] [] (lenOf own_pd15 rfl) (rm3737 l Z a0 hw T22.heap b11 b18 b20 k23 y10 q16 y12 q14 y19 q13 (p_0 &&& 2147483647) b21 F114 V846 F848 E849 (by simp only [← hq16, ← hy10]) (by simp only [← hq16]) E596 F113 ne45 (by simp only [← hq16, ← hy10]; exact (ar799 y10 )) (by simp only [← hq16, ← hy10]; exact hc280) nq14 (by simp only [← hq16, ← hy10, ← hy12]; exact (ar3720 y10 y12 hc280)) (by simp only [← hq16, ← hy10]; exact (ar758 y10 )) (by simp only [← hq16, ← hy10]; exact (ar3788 y10 y12 hc280)) (by simp only [← hq16, ← hy10]; exact hc444) nq13 (by simp only [← hq16, ← hy10, ← hy19]; exact (ar7855 y10 y19 hc444)) (by simp only [← hq16, ← hy10]; exact (ar929 y10 )) (by simp only [← hq16, ← hy10]; exact (ar3801 y10 y12 hc280)) (by simp only [← hq16, ← hy10]; exact (ar2691 y10 y19 hc444)) F115)
           have z_K79c := K79c.1.1
           have K79 := own_kpTrans K22 K79c (allS (Or.inr sz_b20) (allS (Or.inr sz_b11) all0))
           simp only [← hq16, ← hy10] at H850
           refine own_go (T2 := T79) (g2 := (mkF m 177 l138 [])) (fun t k => st79 _ k) ?_
           have V598 := own_arhN H850 (cn3814 y10 y12 y19 (.int q16) (.int q14) (.int q13) (ar2702 y10 y12 hc27) (ar2702 y10 y19 hc44) (ar2702 y12 y19 hc37))
           have H852 := (Arh.keep V847 K79c.1 (ninS (Ne.symm ne_b20_b21) (ninS (Ne.symm ne46) nin0)))
           have F1215 := (Fld.keep F848 K79c.1 (ninS ne445 (ninS ne24 nin0)))
           have E1216 := (Exa.keep E849 K79c.1)
           have E345 := (Exa.keep E596 K79c.1)
           obtain ⟨_, T195, L195, X195, ⟨rfl, rfl, e195⟩, st195⟩ := own_cv X79 hx hZ hown (own_w1056 hw) hml (g := (mkF m 181 l138 [(.ref b18), (.ref b11)])) (hb hby at_181) rfl E345 [(.ref b18)] [] (lenOf own_pd16 rfl) (rm3879 l Z a0 hw T79.heap b11 b18 (p_0 &&& 2147483647) b20 k23 y12 q14 y19 q13 F1215 E1216 F597 V598 (by simp only [← hq16, ← hy10]; exact (ar2702 y10 y12 hc27)) (by simp only [← hq16, ← hy10]; exact (ar2702 y10 y19 hc44)) (by simp only [← hq16]; exact (ar492 q16 nq16)) E345)
           have F1217 := (Fld.keep (Fld.keep (Fld.keep F55 K25c.1 (ninS ne36 (ninS ne43 (ninS ne35 nin0)))) K22c.1 (ninS ne36 (ninS ne43 (ninS ne35 nin0)))) K79c.1 (ninS ne36 (ninS ne35 nin0)))
           have E1218 := (Exa.keep (Exa.keep (Exa.keep E56 K25c.1) K22c.1) K79c.1)
           let l146 := lf (vr b18) (vr b17) (vr b15) (vr b11) (vi 0) (vr b18) (vi (-1)) u u u u u
           obtain ⟨_, T196, L196, X196, ⟨rfl, rfl, e196⟩, st196⟩ := own_cv X195 hx hZ hown (own_w1056 hw) hml (g := (mkF m 190 l146 [(.ref b17), (.ref b11)])) (hb hby at_190) e195 E345 [(.ref b17)] [] (lenOf own_pd16 rfl) (rm5358 l Z a0 hw T79.heap b11 b17 (p_1 &&& 2147483647) b20 k23 y12 q14 y19 q13 b21 k31 y10 p_3 p_4 p_5 F1217 E1218 F597 V598 (by simp only [← hq14, ← hy12]) (by simp only [← hq14]) E345 nq14 F851 H852 (by simp only [← hq14, ← hy12]; exact hc27))
           have F1219 := (Fld.keep (Fld.keep F108 K22c.1 (ninS ne59 (ninS ne106 (ninS ne58 nin0)))) K79c.1 (ninS ne59 (ninS ne58 nin0)))
           have E1220 := (Exa.keep (Exa.keep E109 K22c.1) K79c.1)
           let l147 := lf (vr b18) (vr b17) (vr b15) (vr b11) (vi 0) (vr b18) (vi (-1)) (vi p_4) u u u u
           obtain ⟨_, T257, L257, X257, ⟨rfl, rfl, e257⟩, st257⟩ := own_cv X196 hx hZ hown (own_w1056 hw) hml (g := (mkF m 199 l147 [(.ref b15), (.ref b11)])) (hb hby at_199) e196 E345 [(.ref b15)] [] (lenOf own_pd16 rfl) (rm7965 l Z a0 hw T79.heap b11 b15 (p_2 &&& 2147483647) b20 k23 y12 q14 y19 q13 b21 k31 y10 p_3 p_4 p_5 F1219 E1220 F597 V598 (by simp only [← hq13, ← hy19]; exact hc37) (by simp only [← hq13, ← hy19]) (by simp only [← hq13]) E345 nq13 F851 H852 (by simp only [← hq13, ← hy19]; exact hc44))
           let l148 := lf (vr b18) (vr b17) (vr b15) (vr b11) (vi 0) (vr b18) (vi (-1)) (vi p_4) (vi p_5) u u u
           refine own_go (T2 := T257) (g2 := (mkF m 204 l148 [])) (fun t k => z_aload X79 hx hby at_177 rfl rfl (z_aload X79 hx hby at_179 rfl rfl (st195 _ (z_istore X195 hx hby at_184 l146 rfl (z_aload X195 hx hby at_186 rfl rfl (z_aload X195 hx hby at_188 rfl rfl (st196 _ (z_istore X196 hx hby at_193 l147 rfl (z_aload X196 hx hby at_195 rfl rfl (z_aload X196 hx hby at_197 rfl rfl (st257 _ (z_istore X257 hx hby at_202 l148 rfl k)))))))))))) ?_
           exact tl1268 X257 hx hby Bd.returns Bd.notSynchronized (by decide) (by decide) (by rw [e257]; simpa only [List.append_nil] using K79) p_0 p_1 p_2 p_3 p_4 p_5 (p_0 &&& 2147483647) (p_1 &&& 2147483647) (p_2 &&& 2147483647) b18 b17 b15 b11
          ·
           have ne599 := own_nl A18.lt (Nat.le_trans (Nat.le_trans (Nat.le_trans (Nat.le_trans (Nat.le_trans z_K30c z_E17) z_K29c) z_E15) z_K26c) z_E11) lo_b21
           have ne446 := own_nl A18.lt (Nat.le_trans (Nat.le_trans (Nat.le_trans (Nat.le_trans (Nat.le_trans z_K30c z_E17) z_K29c) z_E15) z_K26c) z_E11) lo_b20
           have F853 := (Fld.keep (Fld.keep (Fld.keep F49 K28c.1 (ninS ne446 (ninS ne599 (ninS ne24 nin0)))) K25c.1 (ninS ne446 (ninS ne599 (ninS ne24 nin0)))) K22c.1 (ninS ne446 (ninS ne599 (ninS ne24 nin0))))
           have E854 := (Exa.keep (Exa.keep (Exa.keep E50 K28c.1) K25c.1) K22c.1)
           have E600 := (Exa.keep E107 K22c.1)
           obtain ⟨_, T80, L80, X80, ⟨rfl, K80c, H855, F601, F1385, F856⟩, st80⟩ := own_cv X22 hx hZ hown (own_w942 hw) hml (g := (mkF m 174 l138 [(.ref b18), (.ref b11)])) (hb hby at_174) rfl E600 [(.ref b18)] [] (lenOf own_pd15 rfl) (rm8120 l Z a0 hw T22.heap b11 b18 b20 k23 y10 q16 y12 q14 y19 q13 (p_0 &&& 2147483647) b21 F114 V846 F853 E854 (by simp only [← hq16, ← hy10]) (by simp only [← hq16]) E600 F113 ne45 (by simp only [← hq16, ← hy10]; exact (ar799 y10 )) (by simp only [← hq16, ← hy10]; exact hc280) nq14 (by simp only [← hq16, ← hy10, ← hy12]; exact (ar3720 y10 y12 hc280)) (by simp only [← hq16, ← hy10]; exact (ar758 y10 )) (by simp only [← hq16, ← hy10]; exact (ar3788 y10 y12 hc280)) (by simp only [← hq16, ← hy10]; exact hc444) F115)
           have z_K80c := K80c.1.1
           have K80 := own_kpTrans K22 K80c (allS (Or.inr sz_b20) (allS (Or.inr sz_b11) all0))
           simp only [← hq16, ← hy10] at H855
           refine own_go (T2 := T80) (g2 := (mkF m 177 l138 [])) (fun t k => st80 _ k) ?_
           have V602 := own_arhN H855 (cn3814 y10 y12 y19 (.int q16) (.int q14) (.int q13) (ar2702 y10 y12 hc27) (ar2702 y10 y19 hc44) (ar2702 y12 y19 hc37))
           have H857 := (Arh.keep V847 K80c.1 (ninS (Ne.symm ne_b20_b21) (ninS (Ne.symm ne46) nin0)))
           have F1221 := (Fld.keep F853 K80c.1 (ninS ne446 (ninS ne24 nin0)))
           have E1222 := (Exa.keep E854 K80c.1)
           have E346 := (Exa.keep E600 K80c.1)
           obtain ⟨_, T197, L197, X197, ⟨rfl, rfl, e197⟩, st197⟩ := own_cv X80 hx hZ hown (own_w1056 hw) hml (g := (mkF m 181 l138 [(.ref b18), (.ref b11)])) (hb hby at_181) rfl E346 [(.ref b18)] [] (lenOf own_pd16 rfl) (rm3879 l Z a0 hw T80.heap b11 b18 (p_0 &&& 2147483647) b20 k23 y12 q14 y19 q13 F1221 E1222 F601 V602 (by simp only [← hq16, ← hy10]; exact (ar2702 y10 y12 hc27)) (by simp only [← hq16, ← hy10]; exact (ar2702 y10 y19 hc44)) (by simp only [← hq16]; exact (ar492 q16 nq16)) E346)
           have F1223 := (Fld.keep (Fld.keep (Fld.keep F55 K25c.1 (ninS ne36 (ninS ne43 (ninS ne35 nin0)))) K22c.1 (ninS ne36 (ninS ne43 (ninS ne35 nin0)))) K80c.1 (ninS ne36 (ninS ne35 nin0)))
           have E1224 := (Exa.keep (Exa.keep (Exa.keep E56 K25c.1) K22c.1) K80c.1)
           let l149 := lf (vr b18) (vr b17) (vr b15) (vr b11) (vi 0) (vr b18) (vi (-1)) u u u u u
           obtain ⟨_, T198, L198, X198, ⟨rfl, rfl, e198⟩, st198⟩ := own_cv X197 hx hZ hown (own_w1056 hw) hml (g := (mkF m 190 l149 [(.ref b17), (.ref b11)])) (hb hby at_190) e197 E346 [(.ref b17)] [] (lenOf own_pd16 rfl) (rm5358 l Z a0 hw T80.heap b11 b17 (p_1 &&& 2147483647) b20 k23 y12 q14 y19 q13 b21 k31 y10 p_3 p_4 p_5 F1223 E1224 F601 V602 (by simp only [← hq14, ← hy12]) (by simp only [← hq14]) E346 nq14 F856 H857 (by simp only [← hq14, ← hy12]; exact hc27))
           have F1225 := (Fld.keep (Fld.keep F108 K22c.1 (ninS ne59 (ninS ne106 (ninS ne58 nin0)))) K80c.1 (ninS ne59 (ninS ne58 nin0)))
           have E1226 := (Exa.keep (Exa.keep E109 K22c.1) K80c.1)
           let l150 := lf (vr b18) (vr b17) (vr b15) (vr b11) (vi 0) (vr b18) (vi (-1)) (vi p_4) u u u u
           obtain ⟨_, T258, L258, X258, ⟨rfl, rfl, e258⟩, st258⟩ := own_cv X198 hx hZ hown (own_w1056 hw) hml (g := (mkF m 199 l150 [(.ref b15), (.ref b11)])) (hb hby at_199) e198 E346 [(.ref b15)] [] (lenOf own_pd16 rfl) (rm7965 l Z a0 hw T80.heap b11 b15 (p_2 &&& 2147483647) b20 k23 y12 q14 y19 q13 b21 k31 y10 p_3 p_4 p_5 F1225 E1226 F601 V602 (by simp only [← hq13, ← hy19]; exact hc37) (by simp only [← hq13, ← hy19]) (by simp only [← hq13]) E346 nq13 F856 H857 (by simp only [← hq13, ← hy19]; exact hc44))
           let l151 := lf (vr b18) (vr b17) (vr b15) (vr b11) (vi 0) (vr b18) (vi (-1)) (vi p_4) (vi p_5) u u u
           refine own_go (T2 := T258) (g2 := (mkF m 204 l151 [])) (fun t k => z_aload X80 hx hby at_177 rfl rfl (z_aload X80 hx hby at_179 rfl rfl (st197 _ (z_istore X197 hx hby at_184 l149 rfl (z_aload X197 hx hby at_186 rfl rfl (z_aload X197 hx hby at_188 rfl rfl (st198 _ (z_istore X198 hx hby at_193 l150 rfl (z_aload X198 hx hby at_195 rfl rfl (z_aload X198 hx hby at_197 rfl rfl (st258 _ (z_istore X258 hx hby at_202 l151 rfl k)))))))))))) ?_
           exact tl1268 X258 hx hby Bd.returns Bd.notSynchronized (by decide) (by decide) (by rw [e258]; simpa only [List.append_nil] using K80) p_0 p_1 p_2 p_3 p_4 p_5 (p_0 &&& 2147483647) (p_1 &&& 2147483647) (p_2 &&& 2147483647) b18 b17 b15 b11
         ·
          have V1227 := own_arhN H125 (cn3261 y19 y12 y10 (.int q13) (.int q14) (.int q16) hc37 hc44 hc27)
          have V1228 := own_arhN H126 (cn3261 y19 y12 y10 (.int p_5) (.int p_4) (.int p_3) hc37 hc44 hc27)
          have ne603 := own_nl A18.lt (Nat.le_trans (Nat.le_trans (Nat.le_trans (Nat.le_trans (Nat.le_trans z_K30c z_E17) z_K29c) z_E15) z_K26c) z_E11) lo_b21
          have ne447 := own_nl A18.lt (Nat.le_trans (Nat.le_trans (Nat.le_trans (Nat.le_trans (Nat.le_trans z_K30c z_E17) z_K29c) z_E15) z_K26c) z_E11) lo_b20
          have F858 := (Fld.keep (Fld.keep (Fld.keep F49 K28c.1 (ninS ne447 (ninS ne603 (ninS ne24 nin0)))) K25c.1 (ninS ne447 (ninS ne603 (ninS ne24 nin0)))) K22c.1 (ninS ne447 (ninS ne603 (ninS ne24 nin0))))
          have E859 := (Exa.keep (Exa.keep (Exa.keep E50 K28c.1) K25c.1) K22c.1)
          have E604 := (Exa.keep E107 K22c.1)
          obtain ⟨_, T81, L81, X81, ⟨rfl, K81c, H860, F605, F1386, F861⟩, st81⟩ := own_cv X22 hx hZ hown (own_w942 hw) hml (g := (mkF m 174 l138 [(.ref b18), (.ref b11)])) (hb hby at_174) rfl E604 [(.ref b18)] [] (lenOf own_pd15 rfl) (rm4053 l Z a0 hw T22.heap b11 b18 b20 k23 y10 q16 y19 q13 y12 q14 (p_0 &&& 2147483647) b21 F114 V1227 F858 E859 (by simp only [← hq16, ← hy10]) (by simp only [← hq16]) E604 F113 ne45 (by simp only [← hq16, ← hy10]; exact (ar799 y10 )) (by simp only [← hq16, ← hy10]; exact hc279) (by simp only [← hq16, ← hy10]; exact hc280) F115)
          have z_K81c := K81c.1.1
          have K81 := own_kpTrans K22 K81c (allS (Or.inr sz_b20) (allS (Or.inr sz_b11) all0))
          simp only [← hq16, ← hy10] at H860
          refine own_go (T2 := T81) (g2 := (mkF m 177 l138 [])) (fun t k => z_aload X22 hx hby at_170 rfl rfl (z_aload X22 hx hby at_172 rfl rfl (st81 _ k))) ?_
          have V606 := own_arhN H860 (cn1518 y10 y19 y12 (.int q16) (.int q13) (.int q14) (ar2702 y10 y19 hc44) (ar2702 y10 y12 hc27) hc37)
          have H1229 := (Arh.keep V1228 K81c.1 (ninS (Ne.symm ne_b20_b21) (ninS (Ne.symm ne46) nin0)))
          have V862 := own_arhN H1229 (cn3713 y10 y19 y12 (.int p_3) (.int p_5) (.int p_4) (ar2702 y10 y19 hc44) (ar2702 y10 y12 hc27) hc37)
          have F1230 := (Fld.keep F858 K81c.1 (ninS ne447 (ninS ne24 nin0)))
          have E1231 := (Exa.keep E859 K81c.1)
          have E347 := (Exa.keep E604 K81c.1)
          obtain ⟨_, T199, L199, X199, ⟨rfl, rfl, e199⟩, st199⟩ := own_cv X81 hx hZ hown (own_w1056 hw) hml (g := (mkF m 181 l138 [(.ref b18), (.ref b11)])) (hb hby at_181) rfl E347 [(.ref b18)] [] (lenOf own_pd16 rfl) (rm3879 l Z a0 hw T81.heap b11 b18 (p_0 &&& 2147483647) b20 k23 y12 q14 y19 q13 F1230 E1231 F605 V606 (by simp only [← hq16, ← hy10]; exact (ar2702 y10 y12 hc27)) (by simp only [← hq16, ← hy10]; exact (ar2702 y10 y19 hc44)) (by simp only [← hq16]; exact (ar492 q16 nq16)) E347)
          have F1232 := (Fld.keep (Fld.keep (Fld.keep F55 K25c.1 (ninS ne36 (ninS ne43 (ninS ne35 nin0)))) K22c.1 (ninS ne36 (ninS ne43 (ninS ne35 nin0)))) K81c.1 (ninS ne36 (ninS ne35 nin0)))
          have E1233 := (Exa.keep (Exa.keep (Exa.keep E56 K25c.1) K22c.1) K81c.1)
          let l152 := lf (vr b18) (vr b17) (vr b15) (vr b11) (vi 0) (vr b18) (vi (-1)) u u u u u
          obtain ⟨_, T200, L200, X200, ⟨rfl, rfl, e200⟩, st200⟩ := own_cv X199 hx hZ hown (own_w1056 hw) hml (g := (mkF m 190 l152 [(.ref b17), (.ref b11)])) (hb hby at_190) e199 E347 [(.ref b17)] [] (lenOf own_pd16 rfl) (rm5358 l Z a0 hw T81.heap b11 b17 (p_1 &&& 2147483647) b20 k23 y12 q14 y19 q13 b21 k31 y10 p_3 p_4 p_5 F1232 E1233 F605 V606 (by simp only [← hq14, ← hy12]) (by simp only [← hq14]) E347 nq14 F861 V862 (by simp only [← hq14, ← hy12]; exact hc27))
          have F1234 := (Fld.keep (Fld.keep F108 K22c.1 (ninS ne59 (ninS ne106 (ninS ne58 nin0)))) K81c.1 (ninS ne59 (ninS ne58 nin0)))
          have E1235 := (Exa.keep (Exa.keep E109 K22c.1) K81c.1)
          let l153 := lf (vr b18) (vr b17) (vr b15) (vr b11) (vi 0) (vr b18) (vi (-1)) (vi p_4) u u u u
          obtain ⟨_, T259, L259, X259, ⟨rfl, rfl, e259⟩, st259⟩ := own_cv X200 hx hZ hown (own_w1056 hw) hml (g := (mkF m 199 l153 [(.ref b15), (.ref b11)])) (hb hby at_199) e200 E347 [(.ref b15)] [] (lenOf own_pd16 rfl) (rm7965 l Z a0 hw T81.heap b11 b15 (p_2 &&& 2147483647) b20 k23 y12 q14 y19 q13 b21 k31 y10 p_3 p_4 p_5 F1234 E1235 F605 V606 (by simp only [← hq13, ← hy19]; exact hc37) (by simp only [← hq13, ← hy19]) (by simp only [← hq13]) E347 nq13 F861 V862 (by simp only [← hq13, ← hy19]; exact hc44))
          let l154 := lf (vr b18) (vr b17) (vr b15) (vr b11) (vi 0) (vr b18) (vi (-1)) (vi p_4) (vi p_5) u u u
          refine own_go (T2 := T259) (g2 := (mkF m 204 l154 [])) (fun t k => z_aload X81 hx hby at_177 rfl rfl (z_aload X81 hx hby at_179 rfl rfl (st199 _ (z_istore X199 hx hby at_184 l152 rfl (z_aload X199 hx hby at_186 rfl rfl (z_aload X199 hx hby at_188 rfl rfl (st200 _ (z_istore X200 hx hby at_193 l153 rfl (z_aload X200 hx hby at_195 rfl rfl (z_aload X200 hx hby at_197 rfl rfl (st259 _ (z_istore X259 hx hby at_202 l154 rfl k)))))))))))) ?_
          exact tl1268 X259 hx hby Bd.returns Bd.notSynchronized (by decide) (by decide) (by rw [e259]; simpa only [List.append_nil] using K81) p_0 p_1 p_2 p_3 p_4 p_5 (p_0 &&& 2147483647) (p_1 &&& 2147483647) (p_2 &&& 2147483647) b18 b17 b15 b11
       ·
        let l155 := lf (vr b18) (vr b17) (vr b15) (vr b11) (vi 1) (vr b17) u u u u u u
        let l156 := lf (vr b18) (vr b17) (vr b15) (vr b11) (vi 1) u u u u u u u
        refine own_go (T2 := T22) (g2 := (mkF m 170 l155 [])) (fun t k => z_istore X22 hx hby at_143 l156 rfl (z_iload X22 hx hby at_145 rfl (z_ifYes X22 hx hby 155 at_147 ((if0 _ _).trans (feq (show ¬ ((1 : Int32) = 0) from (by decide))).2) rfl (z_iload X22 hx hby at_155 rfl (z_iconst X22 hx hby at_157 (z_icmpNo X22 hx hby at_158 (teq (show (1 : Int32) = 1 from (by decide))).2 (z_aload X22 hx hby at_161 rfl rfl (z_goto X22 hx hby 168 at_163 rfl (z_astore X22 hx hby at_168 rfl l155 rfl k))))))))) ?_
        by_cases hc281 : (oN y12) = y19
        ·
         have V863 := own_arhN H125 (cn1269 y19 y12 y10 (.int q13) (.int q14) (.int q16) hc37 hc44 hc27)
         have V864 := own_arhN H126 (cn1269 y19 y12 y10 (.int p_5) (.int p_4) (.int p_3) hc37 hc44 hc27)
         refine own_go (T2 := T22) (g2 := (mkF m 174 l155 [(.ref b17), (.ref b11)])) (fun t k => z_aload X22 hx hby at_170 rfl rfl (z_aload X22 hx hby at_172 rfl rfl k)) ?_
         by_cases hc448 : (oN (oN y12)) = y10
         ·
          have F865 := (Fld.keep (Fld.keep F55 K25c.1 (ninS ne36 (ninS ne43 (ninS ne35 nin0)))) K22c.1 (ninS ne36 (ninS ne43 (ninS ne35 nin0))))
          have E866 := (Exa.keep (Exa.keep E56 K25c.1) K22c.1)
          have E607 := (Exa.keep E107 K22c.1)
          obtain ⟨_, T82, L82, X82, ⟨rfl, K82c, H867, F608, F1387, F868⟩, st82⟩ := own_cv X22 hx hZ hown (own_w942 hw) hml (g := (mkF m 174 l155 [(.ref b17), (.ref b11)])) (hb hby at_174) rfl E607 [(.ref b17)] [] (lenOf own_pd15 rfl) (rm3737 l Z a0 hw T22.heap b11 b17 b20 k23 y12 q14 y19 q13 y10 q16 (p_1 &&& 2147483647) b21 F114 V863 F865 E866 (by simp only [← hq14, ← hy12]) (by simp only [← hq14]) E607 F113 ne45 (by simp only [← hq14, ← hy12]; exact (ar799 y12 )) (by simp only [← hq14, ← hy12]; exact hc281) nq13 (by simp only [← hq14, ← hy12, ← hy19]; exact (ar3720 y12 y19 hc281)) (by simp only [← hq14, ← hy12]; exact (ar758 y12 )) (by simp only [← hq14, ← hy12]; exact (ar3788 y12 y19 hc281)) (by simp only [← hq14, ← hy12]; exact hc448) nq16 (by simp only [← hy10, ← hq14, ← hy12]; exact (ar7855 y12 y10 hc448)) (by simp only [← hq14, ← hy12]; exact (ar929 y12 )) (by simp only [← hq14, ← hy12]; exact (ar3801 y12 y19 hc281)) (by simp only [← hq14, ← hy12]; exact (ar2691 y12 y10 hc448)) F115)
          have z_K82c := K82c.1.1
          have K82 := own_kpTrans K22 K82c (allS (Or.inr sz_b20) (allS (Or.inr sz_b11) all0))
          simp only [← hq14, ← hy12] at H867
          refine own_go (T2 := T82) (g2 := (mkF m 177 l155 [])) (fun t k => st82 _ k) ?_
          have V609 := own_arhN H867 (cn1518 y12 y19 y10 (.int q14) (.int q13) (.int q16) (ar2702 y12 y19 hc37) hc27 hc44)
          have H1236 := (Arh.keep V864 K82c.1 (ninS (Ne.symm ne_b20_b21) (ninS (Ne.symm ne46) nin0)))
          have V869 := own_arhN H1236 (cn3261 y12 y19 y10 (.int p_4) (.int p_5) (.int p_3) (ar2702 y12 y19 hc37) hc27 hc44)
          have ne610 := own_nl A18.lt (Nat.le_trans (Nat.le_trans (Nat.le_trans (Nat.le_trans (Nat.le_trans z_K30c z_E17) z_K29c) z_E15) z_K26c) z_E11) lo_b21
          have ne449 := own_nl A18.lt (Nat.le_trans (Nat.le_trans (Nat.le_trans (Nat.le_trans (Nat.le_trans z_K30c z_E17) z_K29c) z_E15) z_K26c) z_E11) lo_b20
          have F1237 := (Fld.keep (Fld.keep (Fld.keep (Fld.keep F49 K28c.1 (ninS ne449 (ninS ne610 (ninS ne24 nin0)))) K25c.1 (ninS ne449 (ninS ne610 (ninS ne24 nin0)))) K22c.1 (ninS ne449 (ninS ne610 (ninS ne24 nin0)))) K82c.1 (ninS ne449 (ninS ne24 nin0)))
          have E1238 := (Exa.keep (Exa.keep (Exa.keep (Exa.keep E50 K28c.1) K25c.1) K22c.1) K82c.1)
          have E348 := (Exa.keep E607 K82c.1)
          obtain ⟨_, T201, L201, X201, ⟨rfl, rfl, e201⟩, st201⟩ := own_cv X82 hx hZ hown (own_w1056 hw) hml (g := (mkF m 181 l155 [(.ref b18), (.ref b11)])) (hb hby at_181) rfl E348 [(.ref b18)] [] (lenOf own_pd16 rfl) (rm3303 l Z a0 hw T82.heap b11 b18 (p_0 &&& 2147483647) b20 k23 y10 q16 y19 q13 b21 k31 p_3 y12 p_4 p_5 F1237 E1238 F608 V609 (by simp only [← hq16, ← hy10]) (by simp only [← hq16]) E348 nq16 F868 V869)
          have F1239 := (Fld.keep F865 K82c.1 (ninS ne36 (ninS ne35 nin0)))
          have E1240 := (Exa.keep E866 K82c.1)
          let l157 := lf (vr b18) (vr b17) (vr b15) (vr b11) (vi 1) (vr b17) (vi p_3) u u u u u
          obtain ⟨_, T202, L202, X202, ⟨rfl, rfl, e202⟩, st202⟩ := own_cv X201 hx hZ hown (own_w1056 hw) hml (g := (mkF m 190 l157 [(.ref b17), (.ref b11)])) (hb hby at_190) e201 E348 [(.ref b17)] [] (lenOf own_pd16 rfl) (rm3879 l Z a0 hw T82.heap b11 b17 (p_1 &&& 2147483647) b20 k23 y10 q16 y19 q13 F1239 E1240 F608 V609 (by simp only [← hq14, ← hy12]; exact hc27) (by simp only [← hq14, ← hy12]; exact (ar2702 y12 y19 hc37)) (by simp only [← hq14]; exact (ar492 q14 nq14)) E348)
          have F1241 := (Fld.keep (Fld.keep F108 K22c.1 (ninS ne59 (ninS ne106 (ninS ne58 nin0)))) K82c.1 (ninS ne59 (ninS ne58 nin0)))
          have E1242 := (Exa.keep (Exa.keep E109 K22c.1) K82c.1)
          let l158 := lf (vr b18) (vr b17) (vr b15) (vr b11) (vi 1) (vr b17) (vi p_3) (vi (-1)) u u u u
          obtain ⟨_, T260, L260, X260, ⟨rfl, rfl, e260⟩, st260⟩ := own_cv X202 hx hZ hown (own_w1056 hw) hml (g := (mkF m 199 l158 [(.ref b15), (.ref b11)])) (hb hby at_199) e202 E348 [(.ref b15)] [] (lenOf own_pd16 rfl) (rm3434 l Z a0 hw T82.heap b11 b15 (p_2 &&& 2147483647) b20 k23 y10 q16 y19 q13 b21 k31 p_3 y12 p_4 p_5 F1241 E1242 F608 V609 (by simp only [← hq13, ← hy19]; exact hc44) (by simp only [← hq13, ← hy19]) (by simp only [← hq13]) E348 nq13 F868 V869 (by simp only [← hq13, ← hy19]; exact hc37))
          let l159 := lf (vr b18) (vr b17) (vr b15) (vr b11) (vi 1) (vr b17) (vi p_3) (vi (-1)) (vi p_5) u u u
          refine own_go (T2 := T260) (g2 := (mkF m 204 l159 [])) (fun t k => z_aload X82 hx hby at_177 rfl rfl (z_aload X82 hx hby at_179 rfl rfl (st201 _ (z_istore X201 hx hby at_184 l157 rfl (z_aload X201 hx hby at_186 rfl rfl (z_aload X201 hx hby at_188 rfl rfl (st202 _ (z_istore X202 hx hby at_193 l158 rfl (z_aload X202 hx hby at_195 rfl rfl (z_aload X202 hx hby at_197 rfl rfl (st260 _ (z_istore X260 hx hby at_202 l159 rfl k)))))))))))) ?_
          exact tl1427 X260 hx hby Bd.returns Bd.notSynchronized (by decide) (by decide) (by rw [e260]; simpa only [List.append_nil] using K82) p_0 p_1 p_2 p_3 p_4 p_5 (p_0 &&& 2147483647) (p_1 &&& 2147483647) (p_2 &&& 2147483647) b18 b17 b15 b11
         ·
          have F870 := (Fld.keep (Fld.keep F55 K25c.1 (ninS ne36 (ninS ne43 (ninS ne35 nin0)))) K22c.1 (ninS ne36 (ninS ne43 (ninS ne35 nin0))))
          have E871 := (Exa.keep (Exa.keep E56 K25c.1) K22c.1)
          have E611 := (Exa.keep E107 K22c.1)
          obtain ⟨_, T83, L83, X83, ⟨rfl, K83c, H872, F612, F1388, F873⟩, st83⟩ := own_cv X22 hx hZ hown (own_w942 hw) hml (g := (mkF m 174 l155 [(.ref b17), (.ref b11)])) (hb hby at_174) rfl E611 [(.ref b17)] [] (lenOf own_pd15 rfl) (rm8120 l Z a0 hw T22.heap b11 b17 b20 k23 y12 q14 y19 q13 y10 q16 (p_1 &&& 2147483647) b21 F114 V863 F870 E871 (by simp only [← hq14, ← hy12]) (by simp only [← hq14]) E611 F113 ne45 (by simp only [← hq14, ← hy12]; exact (ar799 y12 )) (by simp only [← hq14, ← hy12]; exact hc281) nq13 (by simp only [← hq14, ← hy12, ← hy19]; exact (ar3720 y12 y19 hc281)) (by simp only [← hq14, ← hy12]; exact (ar758 y12 )) (by simp only [← hq14, ← hy12]; exact (ar3788 y12 y19 hc281)) (by simp only [← hq14, ← hy12]; exact hc448) F115)
          have z_K83c := K83c.1.1
          have K83 := own_kpTrans K22 K83c (allS (Or.inr sz_b20) (allS (Or.inr sz_b11) all0))
          simp only [← hq14, ← hy12] at H872
          refine own_go (T2 := T83) (g2 := (mkF m 177 l155 [])) (fun t k => st83 _ k) ?_
          have V613 := own_arhN H872 (cn1518 y12 y19 y10 (.int q14) (.int q13) (.int q16) (ar2702 y12 y19 hc37) hc27 hc44)
          have H1243 := (Arh.keep V864 K83c.1 (ninS (Ne.symm ne_b20_b21) (ninS (Ne.symm ne46) nin0)))
          have V874 := own_arhN H1243 (cn3261 y12 y19 y10 (.int p_4) (.int p_5) (.int p_3) (ar2702 y12 y19 hc37) hc27 hc44)
          have ne614 := own_nl A18.lt (Nat.le_trans (Nat.le_trans (Nat.le_trans (Nat.le_trans (Nat.le_trans z_K30c z_E17) z_K29c) z_E15) z_K26c) z_E11) lo_b21
          have ne450 := own_nl A18.lt (Nat.le_trans (Nat.le_trans (Nat.le_trans (Nat.le_trans (Nat.le_trans z_K30c z_E17) z_K29c) z_E15) z_K26c) z_E11) lo_b20
          have F1244 := (Fld.keep (Fld.keep (Fld.keep (Fld.keep F49 K28c.1 (ninS ne450 (ninS ne614 (ninS ne24 nin0)))) K25c.1 (ninS ne450 (ninS ne614 (ninS ne24 nin0)))) K22c.1 (ninS ne450 (ninS ne614 (ninS ne24 nin0)))) K83c.1 (ninS ne450 (ninS ne24 nin0)))
          have E1245 := (Exa.keep (Exa.keep (Exa.keep (Exa.keep E50 K28c.1) K25c.1) K22c.1) K83c.1)
          have E349 := (Exa.keep E611 K83c.1)
          obtain ⟨_, T203, L203, X203, ⟨rfl, rfl, e203⟩, st203⟩ := own_cv X83 hx hZ hown (own_w1056 hw) hml (g := (mkF m 181 l155 [(.ref b18), (.ref b11)])) (hb hby at_181) rfl E349 [(.ref b18)] [] (lenOf own_pd16 rfl) (rm3303 l Z a0 hw T83.heap b11 b18 (p_0 &&& 2147483647) b20 k23 y10 q16 y19 q13 b21 k31 p_3 y12 p_4 p_5 F1244 E1245 F612 V613 (by simp only [← hq16, ← hy10]) (by simp only [← hq16]) E349 nq16 F873 V874)
          have F1246 := (Fld.keep F870 K83c.1 (ninS ne36 (ninS ne35 nin0)))
          have E1247 := (Exa.keep E871 K83c.1)
          let l160 := lf (vr b18) (vr b17) (vr b15) (vr b11) (vi 1) (vr b17) (vi p_3) u u u u u
          obtain ⟨_, T204, L204, X204, ⟨rfl, rfl, e204⟩, st204⟩ := own_cv X203 hx hZ hown (own_w1056 hw) hml (g := (mkF m 190 l160 [(.ref b17), (.ref b11)])) (hb hby at_190) e203 E349 [(.ref b17)] [] (lenOf own_pd16 rfl) (rm3879 l Z a0 hw T83.heap b11 b17 (p_1 &&& 2147483647) b20 k23 y10 q16 y19 q13 F1246 E1247 F612 V613 (by simp only [← hq14, ← hy12]; exact hc27) (by simp only [← hq14, ← hy12]; exact (ar2702 y12 y19 hc37)) (by simp only [← hq14]; exact (ar492 q14 nq14)) E349)
          have F1248 := (Fld.keep (Fld.keep F108 K22c.1 (ninS ne59 (ninS ne106 (ninS ne58 nin0)))) K83c.1 (ninS ne59 (ninS ne58 nin0)))
          have E1249 := (Exa.keep (Exa.keep E109 K22c.1) K83c.1)
          let l161 := lf (vr b18) (vr b17) (vr b15) (vr b11) (vi 1) (vr b17) (vi p_3) (vi (-1)) u u u u
          obtain ⟨_, T261, L261, X261, ⟨rfl, rfl, e261⟩, st261⟩ := own_cv X204 hx hZ hown (own_w1056 hw) hml (g := (mkF m 199 l161 [(.ref b15), (.ref b11)])) (hb hby at_199) e204 E349 [(.ref b15)] [] (lenOf own_pd16 rfl) (rm3434 l Z a0 hw T83.heap b11 b15 (p_2 &&& 2147483647) b20 k23 y10 q16 y19 q13 b21 k31 p_3 y12 p_4 p_5 F1248 E1249 F612 V613 (by simp only [← hq13, ← hy19]; exact hc44) (by simp only [← hq13, ← hy19]) (by simp only [← hq13]) E349 nq13 F873 V874 (by simp only [← hq13, ← hy19]; exact hc37))
          let l162 := lf (vr b18) (vr b17) (vr b15) (vr b11) (vi 1) (vr b17) (vi p_3) (vi (-1)) (vi p_5) u u u
          refine own_go (T2 := T261) (g2 := (mkF m 204 l162 [])) (fun t k => z_aload X83 hx hby at_177 rfl rfl (z_aload X83 hx hby at_179 rfl rfl (st203 _ (z_istore X203 hx hby at_184 l160 rfl (z_aload X203 hx hby at_186 rfl rfl (z_aload X203 hx hby at_188 rfl rfl (st204 _ (z_istore X204 hx hby at_193 l161 rfl (z_aload X204 hx hby at_195 rfl rfl (z_aload X204 hx hby at_197 rfl rfl (st261 _ (z_istore X261 hx hby at_202 l162 rfl k)))))))))))) ?_
          exact tl1427 X261 hx hby Bd.returns Bd.notSynchronized (by decide) (by decide) (by rw [e261]; simpa only [List.append_nil] using K83) p_0 p_1 p_2 p_3 p_4 p_5 (p_0 &&& 2147483647) (p_1 &&& 2147483647) (p_2 &&& 2147483647) b18 b17 b15 b11
        ·
         by_cases hc282 : (oN y12) = y10
         ·
          have V875 := own_arhN H125 (cn3817 y19 y12 y10 (.int q13) (.int q14) (.int q16) hc37 hc44 hc27)
          have V876 := own_arhN H126 (cn3817 y19 y12 y10 (.int p_5) (.int p_4) (.int p_3) hc37 hc44 hc27)
          refine own_go (T2 := T22) (g2 := (mkF m 174 l155 [(.ref b17), (.ref b11)])) (fun t k => z_aload X22 hx hby at_170 rfl rfl (z_aload X22 hx hby at_172 rfl rfl k)) ?_
          by_cases hc451 : (oN (oN y12)) = y19
          ·
           have F877 := (Fld.keep (Fld.keep F55 K25c.1 (ninS ne36 (ninS ne43 (ninS ne35 nin0)))) K22c.1 (ninS ne36 (ninS ne43 (ninS ne35 nin0))))
           have E878 := (Exa.keep (Exa.keep E56 K25c.1) K22c.1)
           have E615 := (Exa.keep E107 K22c.1)
           obtain ⟨_, T84, L84, X84, ⟨rfl, K84c, H879, F616, F1389, F880⟩, st84⟩ := own_cv X22 hx hZ hown (own_w942 hw) hml (g := (mkF m 174 l155 [(.ref b17), (.ref b11)])) (hb hby at_174) rfl E615 [(.ref b17)] [] (lenOf own_pd15 rfl) (rm3737 l Z a0 hw T22.heap b11 b17 b20 k23 y12 q14 y10 q16 y19 q13 (p_1 &&& 2147483647) b21 F114 V875 F877 E878 (by simp only [← hq14, ← hy12]) (by simp only [← hq14]) E615 F113 ne45 (by simp only [← hq14, ← hy12]; exact (ar799 y12 )) (by simp only [← hq14, ← hy12]; exact hc282) nq16 (by simp only [← hy10, ← hq14, ← hy12]; exact (ar3720 y12 y10 hc282)) (by simp only [← hq14, ← hy12]; exact (ar758 y12 )) (by simp only [← hq14, ← hy12]; exact (ar3788 y12 y10 hc282)) (by simp only [← hq14, ← hy12]; exact hc451) nq13 (by simp only [← hq14, ← hy12, ← hy19]; exact (ar7855 y12 y19 hc451)) (by simp only [← hq14, ← hy12]; exact (ar929 y12 )) (by simp only [← hq14, ← hy12]; exact (ar3801 y12 y10 hc282)) (by simp only [← hq14, ← hy12]; exact (ar2691 y12 y19 hc451)) F115)
           have z_K84c := K84c.1.1
           have K84 := own_kpTrans K22 K84c (allS (Or.inr sz_b20) (allS (Or.inr sz_b11) all0))
           simp only [← hq14, ← hy12] at H879
           refine own_go (T2 := T84) (g2 := (mkF m 177 l155 [])) (fun t k => st84 _ k) ?_
           have V617 := own_arhN H879 (cn3814 y12 y10 y19 (.int q14) (.int q16) (.int q13) hc27 (ar2702 y12 y19 hc37) (ar2702 y10 y19 hc44))
           have H1250 := (Arh.keep V876 K84c.1 (ninS (Ne.symm ne_b20_b21) (ninS (Ne.symm ne46) nin0)))
           have V881 := own_arhN H1250 (cn1269 y12 y10 y19 (.int p_4) (.int p_3) (.int p_5) hc27 (ar2702 y12 y19 hc37) (ar2702 y10 y19 hc44))
           have ne618 := own_nl A18.lt (Nat.le_trans (Nat.le_trans (Nat.le_trans (Nat.le_trans (Nat.le_trans z_K30c z_E17) z_K29c) z_E15) z_K26c) z_E11) lo_b21
           have ne452 := own_nl A18.lt (Nat.le_trans (Nat.le_trans (Nat.le_trans (Nat.le_trans (Nat.le_trans z_K30c z_E17) z_K29c) z_E15) z_K26c) z_E11) lo_b20
           have F1251 := (Fld.keep (Fld.keep (Fld.keep (Fld.keep F49 K28c.1 (ninS ne452 (ninS ne618 (ninS ne24 nin0)))) K25c.1 (ninS ne452 (ninS ne618 (ninS ne24 nin0)))) K22c.1 (ninS ne452 (ninS ne618 (ninS ne24 nin0)))) K84c.1 (ninS ne452 (ninS ne24 nin0)))
           have E1252 := (Exa.keep (Exa.keep (Exa.keep (Exa.keep E50 K28c.1) K25c.1) K22c.1) K84c.1)
           have E350 := (Exa.keep E615 K84c.1)
           obtain ⟨_, T205, L205, X205, ⟨rfl, rfl, e205⟩, st205⟩ := own_cv X84 hx hZ hown (own_w1056 hw) hml (g := (mkF m 181 l155 [(.ref b18), (.ref b11)])) (hb hby at_181) rfl E350 [(.ref b18)] [] (lenOf own_pd16 rfl) (rm3303 l Z a0 hw T84.heap b11 b18 (p_0 &&& 2147483647) b20 k23 y10 q16 y19 q13 b21 k31 p_3 y12 p_4 p_5 F1251 E1252 F616 V617 (by simp only [← hq16, ← hy10]) (by simp only [← hq16]) E350 nq16 F880 V881)
           have F1253 := (Fld.keep F877 K84c.1 (ninS ne36 (ninS ne35 nin0)))
           have E1254 := (Exa.keep E878 K84c.1)
           let l163 := lf (vr b18) (vr b17) (vr b15) (vr b11) (vi 1) (vr b17) (vi p_3) u u u u u
           obtain ⟨_, T206, L206, X206, ⟨rfl, rfl, e206⟩, st206⟩ := own_cv X205 hx hZ hown (own_w1056 hw) hml (g := (mkF m 190 l163 [(.ref b17), (.ref b11)])) (hb hby at_190) e205 E350 [(.ref b17)] [] (lenOf own_pd16 rfl) (rm3879 l Z a0 hw T84.heap b11 b17 (p_1 &&& 2147483647) b20 k23 y10 q16 y19 q13 F1253 E1254 F616 V617 (by simp only [← hq14, ← hy12]; exact hc27) (by simp only [← hq14, ← hy12]; exact (ar2702 y12 y19 hc37)) (by simp only [← hq14]; exact (ar492 q14 nq14)) E350)
           have F1255 := (Fld.keep (Fld.keep F108 K22c.1 (ninS ne59 (ninS ne106 (ninS ne58 nin0)))) K84c.1 (ninS ne59 (ninS ne58 nin0)))
           have E1256 := (Exa.keep (Exa.keep E109 K22c.1) K84c.1)
           let l164 := lf (vr b18) (vr b17) (vr b15) (vr b11) (vi 1) (vr b17) (vi p_3) (vi (-1)) u u u u
           obtain ⟨_, T262, L262, X262, ⟨rfl, rfl, e262⟩, st262⟩ := own_cv X206 hx hZ hown (own_w1056 hw) hml (g := (mkF m 199 l164 [(.ref b15), (.ref b11)])) (hb hby at_199) e206 E350 [(.ref b15)] [] (lenOf own_pd16 rfl) (rm3434 l Z a0 hw T84.heap b11 b15 (p_2 &&& 2147483647) b20 k23 y10 q16 y19 q13 b21 k31 p_3 y12 p_4 p_5 F1255 E1256 F616 V617 (by simp only [← hq13, ← hy19]; exact hc44) (by simp only [← hq13, ← hy19]) (by simp only [← hq13]) E350 nq13 F880 V881 (by simp only [← hq13, ← hy19]; exact hc37))
           let l165 := lf (vr b18) (vr b17) (vr b15) (vr b11) (vi 1) (vr b17) (vi p_3) (vi (-1)) (vi p_5) u u u
           refine own_go (T2 := T262) (g2 := (mkF m 204 l165 [])) (fun t k => z_aload X84 hx hby at_177 rfl rfl (z_aload X84 hx hby at_179 rfl rfl (st205 _ (z_istore X205 hx hby at_184 l163 rfl (z_aload X205 hx hby at_186 rfl rfl (z_aload X205 hx hby at_188 rfl rfl (st206 _ (z_istore X206 hx hby at_193 l164 rfl (z_aload X206 hx hby at_195 rfl rfl (z_aload X206 hx hby at_197 rfl rfl (st262 _ (z_istore X262 hx hby at_202 l165 rfl k)))))))))))) ?_
           exact tl1427 X262 hx hby Bd.returns Bd.notSynchronized (by decide) (by decide) (by rw [e262]; simpa only [List.append_nil] using K84) p_0 p_1 p_2 p_3 p_4 p_5 (p_0 &&& 2147483647) (p_1 &&& 2147483647) (p_2 &&& 2147483647) b18 b17 b15 b11
          ·
           have F882 := (Fld.keep (Fld.keep F55 K25c.1 (ninS ne36 (ninS ne43 (ninS ne35 nin0)))) K22c.1 (ninS ne36 (ninS ne43 (ninS ne35 nin0))))
           have E883 := (Exa.keep (Exa.keep E56 K25c.1) K22c.1)
           have E619 := (Exa.keep E107 K22c.1)
           obtain ⟨_, T85, L85, X85, ⟨rfl, K85c, H884, F620, F1390, F885⟩, st85⟩ := own_cv X22 hx hZ hown (own_w942 hw) hml (g := (mkF m 174 l155 [(.ref b17), (.ref b11)])) (hb hby at_174) rfl E619 [(.ref b17)] [] (lenOf own_pd15 rfl) (rm8120 l Z a0 hw T22.heap b11 b17 b20 k23 y12 q14 y10 q16 y19 q13 (p_1 &&& 2147483647) b21 F114 V875 F882 E883 (by simp only [← hq14, ← hy12]) (by simp only [← hq14]) E619 F113 ne45 (by simp only [← hq14, ← hy12]; exact (ar799 y12 )) (by simp only [← hq14, ← hy12]; exact hc282) nq16 (by simp only [← hy10, ← hq14, ← hy12]; exact (ar3720 y12 y10 hc282)) (by simp only [← hq14, ← hy12]; exact (ar758 y12 )) (by simp only [← hq14, ← hy12]; exact (ar3788 y12 y10 hc282)) (by simp only [← hq14, ← hy12]; exact hc451) F115)
           have z_K85c := K85c.1.1
           have K85 := own_kpTrans K22 K85c (allS (Or.inr sz_b20) (allS (Or.inr sz_b11) all0))
           simp only [← hq14, ← hy12] at H884
           refine own_go (T2 := T85) (g2 := (mkF m 177 l155 [])) (fun t k => st85 _ k) ?_
           have V621 := own_arhN H884 (cn3814 y12 y10 y19 (.int q14) (.int q16) (.int q13) hc27 (ar2702 y12 y19 hc37) (ar2702 y10 y19 hc44))
           have H1257 := (Arh.keep V876 K85c.1 (ninS (Ne.symm ne_b20_b21) (ninS (Ne.symm ne46) nin0)))
           have V886 := own_arhN H1257 (cn1269 y12 y10 y19 (.int p_4) (.int p_3) (.int p_5) hc27 (ar2702 y12 y19 hc37) (ar2702 y10 y19 hc44))
           have ne622 := own_nl A18.lt (Nat.le_trans (Nat.le_trans (Nat.le_trans (Nat.le_trans (Nat.le_trans z_K30c z_E17) z_K29c) z_E15) z_K26c) z_E11) lo_b21
           have ne453 := own_nl A18.lt (Nat.le_trans (Nat.le_trans (Nat.le_trans (Nat.le_trans (Nat.le_trans z_K30c z_E17) z_K29c) z_E15) z_K26c) z_E11) lo_b20
           have F1258 := (Fld.keep (Fld.keep (Fld.keep (Fld.keep F49 K28c.1 (ninS ne453 (ninS ne622 (ninS ne24 nin0)))) K25c.1 (ninS ne453 (ninS ne622 (ninS ne24 nin0)))) K22c.1 (ninS ne453 (ninS ne622 (ninS ne24 nin0)))) K85c.1 (ninS ne453 (ninS ne24 nin0)))
           have E1259 := (Exa.keep (Exa.keep (Exa.keep (Exa.keep E50 K28c.1) K25c.1) K22c.1) K85c.1)
           have E351 := (Exa.keep E619 K85c.1)
           obtain ⟨_, T207, L207, X207, ⟨rfl, rfl, e207⟩, st207⟩ := own_cv X85 hx hZ hown (own_w1056 hw) hml (g := (mkF m 181 l155 [(.ref b18), (.ref b11)])) (hb hby at_181) rfl E351 [(.ref b18)] [] (lenOf own_pd16 rfl) (rm3303 l Z a0 hw T85.heap b11 b18 (p_0 &&& 2147483647) b20 k23 y10 q16 y19 q13 b21 k31 p_3 y12 p_4 p_5 F1258 E1259 F620 V621 (by simp only [← hq16, ← hy10]) (by simp only [← hq16]) E351 nq16 F885 V886)
           have F1260 := (Fld.keep F882 K85c.1 (ninS ne36 (ninS ne35 nin0)))
           have E1261 := (Exa.keep E883 K85c.1)
           let l166 := lf (vr b18) (vr b17) (vr b15) (vr b11) (vi 1) (vr b17) (vi p_3) u u u u u
           obtain ⟨_, T208, L208, X208, ⟨rfl, rfl, e208⟩, st208⟩ := own_cv X207 hx hZ hown (own_w1056 hw) hml (g := (mkF m 190 l166 [(.ref b17), (.ref b11)])) (hb hby at_190) e207 E351 [(.ref b17)] [] (lenOf own_pd16 rfl) (rm3879 l Z a0 hw T85.heap b11 b17 (p_1 &&& 2147483647) b20 k23 y10 q16 y19 q13 F1260 E1261 F620 V621 (by simp only [← hq14, ← hy12]; exact hc27) (by simp only [← hq14, ← hy12]; exact (ar2702 y12 y19 hc37)) (by simp only [← hq14]; exact (ar492 q14 nq14)) E351)
           have F1262 := (Fld.keep (Fld.keep F108 K22c.1 (ninS ne59 (ninS ne106 (ninS ne58 nin0)))) K85c.1 (ninS ne59 (ninS ne58 nin0)))
           have E1263 := (Exa.keep (Exa.keep E109 K22c.1) K85c.1)
           let l167 := lf (vr b18) (vr b17) (vr b15) (vr b11) (vi 1) (vr b17) (vi p_3) (vi (-1)) u u u u
           obtain ⟨_, T263, L263, X263, ⟨rfl, rfl, e263⟩, st263⟩ := own_cv X208 hx hZ hown (own_w1056 hw) hml (g := (mkF m 199 l167 [(.ref b15), (.ref b11)])) (hb hby at_199) e208 E351 [(.ref b15)] [] (lenOf own_pd16 rfl) (rm3434 l Z a0 hw T85.heap b11 b15 (p_2 &&& 2147483647) b20 k23 y10 q16 y19 q13 b21 k31 p_3 y12 p_4 p_5 F1262 E1263 F620 V621 (by simp only [← hq13, ← hy19]; exact hc44) (by simp only [← hq13, ← hy19]) (by simp only [← hq13]) E351 nq13 F885 V886 (by simp only [← hq13, ← hy19]; exact hc37))
           let l168 := lf (vr b18) (vr b17) (vr b15) (vr b11) (vi 1) (vr b17) (vi p_3) (vi (-1)) (vi p_5) u u u
           refine own_go (T2 := T263) (g2 := (mkF m 204 l168 [])) (fun t k => z_aload X85 hx hby at_177 rfl rfl (z_aload X85 hx hby at_179 rfl rfl (st207 _ (z_istore X207 hx hby at_184 l166 rfl (z_aload X207 hx hby at_186 rfl rfl (z_aload X207 hx hby at_188 rfl rfl (st208 _ (z_istore X208 hx hby at_193 l167 rfl (z_aload X208 hx hby at_195 rfl rfl (z_aload X208 hx hby at_197 rfl rfl (st263 _ (z_istore X263 hx hby at_202 l168 rfl k)))))))))))) ?_
           exact tl1427 X263 hx hby Bd.returns Bd.notSynchronized (by decide) (by decide) (by rw [e263]; simpa only [List.append_nil] using K85) p_0 p_1 p_2 p_3 p_4 p_5 (p_0 &&& 2147483647) (p_1 &&& 2147483647) (p_2 &&& 2147483647) b18 b17 b15 b11
         ·
          have V1264 := own_arhN H125 (cn1269 y19 y12 y10 (.int q13) (.int q14) (.int q16) hc37 hc44 hc27)
          have V1265 := own_arhN H126 (cn1269 y19 y12 y10 (.int p_5) (.int p_4) (.int p_3) hc37 hc44 hc27)
          have F887 := (Fld.keep (Fld.keep F55 K25c.1 (ninS ne36 (ninS ne43 (ninS ne35 nin0)))) K22c.1 (ninS ne36 (ninS ne43 (ninS ne35 nin0))))
          have E888 := (Exa.keep (Exa.keep E56 K25c.1) K22c.1)
          have E623 := (Exa.keep E107 K22c.1)
          obtain ⟨_, T86, L86, X86, ⟨rfl, K86c, H889, F624, F1391, F890⟩, st86⟩ := own_cv X22 hx hZ hown (own_w942 hw) hml (g := (mkF m 174 l155 [(.ref b17), (.ref b11)])) (hb hby at_174) rfl E623 [(.ref b17)] [] (lenOf own_pd15 rfl) (rm4053 l Z a0 hw T22.heap b11 b17 b20 k23 y12 q14 y19 q13 y10 q16 (p_1 &&& 2147483647) b21 F114 V1264 F887 E888 (by simp only [← hq14, ← hy12]) (by simp only [← hq14]) E623 F113 ne45 (by simp only [← hq14, ← hy12]; exact (ar799 y12 )) (by simp only [← hq14, ← hy12]; exact hc281) (by simp only [← hq14, ← hy12]; exact hc282) F115)
          have z_K86c := K86c.1.1
          have K86 := own_kpTrans K22 K86c (allS (Or.inr sz_b20) (allS (Or.inr sz_b11) all0))
          simp only [← hq14, ← hy12] at H889
          refine own_go (T2 := T86) (g2 := (mkF m 177 l155 [])) (fun t k => z_aload X22 hx hby at_170 rfl rfl (z_aload X22 hx hby at_172 rfl rfl (st86 _ k))) ?_
          have V625 := own_arhN H889 (cn1518 y12 y19 y10 (.int q14) (.int q13) (.int q16) (ar2702 y12 y19 hc37) hc27 hc44)
          have H1266 := (Arh.keep V1265 K86c.1 (ninS (Ne.symm ne_b20_b21) (ninS (Ne.symm ne46) nin0)))
          have V891 := own_arhN H1266 (cn3261 y12 y19 y10 (.int p_4) (.int p_5) (.int p_3) (ar2702 y12 y19 hc37) hc27 hc44)
          have ne626 := own_nl A18.lt (Nat.le_trans (Nat.le_trans (Nat.le_trans (Nat.le_trans (Nat.le_trans z_K30c z_E17) z_K29c) z_E15) z_K26c) z_E11) lo_b21
          have ne454 := own_nl A18.lt (Nat.le_trans (Nat.le_trans (Nat.le_trans (Nat.le_trans (Nat.le_trans z_K30c z_E17) z_K29c) z_E15) z_K26c) z_E11) lo_b20
          have F1267 := (Fld.keep (Fld.keep (Fld.keep (Fld.keep F49 K28c.1 (ninS ne454 (ninS ne626 (ninS ne24 nin0)))) K25c.1 (ninS ne454 (ninS ne626 (ninS ne24 nin0)))) K22c.1 (ninS ne454 (ninS ne626 (ninS ne24 nin0)))) K86c.1 (ninS ne454 (ninS ne24 nin0)))
          have E1268 := (Exa.keep (Exa.keep (Exa.keep (Exa.keep E50 K28c.1) K25c.1) K22c.1) K86c.1)
          have E352 := (Exa.keep E623 K86c.1)
          obtain ⟨_, T209, L209, X209, ⟨rfl, rfl, e209⟩, st209⟩ := own_cv X86 hx hZ hown (own_w1056 hw) hml (g := (mkF m 181 l155 [(.ref b18), (.ref b11)])) (hb hby at_181) rfl E352 [(.ref b18)] [] (lenOf own_pd16 rfl) (rm3303 l Z a0 hw T86.heap b11 b18 (p_0 &&& 2147483647) b20 k23 y10 q16 y19 q13 b21 k31 p_3 y12 p_4 p_5 F1267 E1268 F624 V625 (by simp only [← hq16, ← hy10]) (by simp only [← hq16]) E352 nq16 F890 V891)
          have F1269 := (Fld.keep F887 K86c.1 (ninS ne36 (ninS ne35 nin0)))
          have E1270 := (Exa.keep E888 K86c.1)
          let l169 := lf (vr b18) (vr b17) (vr b15) (vr b11) (vi 1) (vr b17) (vi p_3) u u u u u
          obtain ⟨_, T210, L210, X210, ⟨rfl, rfl, e210⟩, st210⟩ := own_cv X209 hx hZ hown (own_w1056 hw) hml (g := (mkF m 190 l169 [(.ref b17), (.ref b11)])) (hb hby at_190) e209 E352 [(.ref b17)] [] (lenOf own_pd16 rfl) (rm3879 l Z a0 hw T86.heap b11 b17 (p_1 &&& 2147483647) b20 k23 y10 q16 y19 q13 F1269 E1270 F624 V625 (by simp only [← hq14, ← hy12]; exact hc27) (by simp only [← hq14, ← hy12]; exact (ar2702 y12 y19 hc37)) (by simp only [← hq14]; exact (ar492 q14 nq14)) E352)
          have F1271 := (Fld.keep (Fld.keep F108 K22c.1 (ninS ne59 (ninS ne106 (ninS ne58 nin0)))) K86c.1 (ninS ne59 (ninS ne58 nin0)))
          have E1272 := (Exa.keep (Exa.keep E109 K22c.1) K86c.1)
          let l170 := lf (vr b18) (vr b17) (vr b15) (vr b11) (vi 1) (vr b17) (vi p_3) (vi (-1)) u u u u
          obtain ⟨_, T264, L264, X264, ⟨rfl, rfl, e264⟩, st264⟩ := own_cv X210 hx hZ hown (own_w1056 hw) hml (g := (mkF m 199 l170 [(.ref b15), (.ref b11)])) (hb hby at_199) e210 E352 [(.ref b15)] [] (lenOf own_pd16 rfl) (rm3434 l Z a0 hw T86.heap b11 b15 (p_2 &&& 2147483647) b20 k23 y10 q16 y19 q13 b21 k31 p_3 y12 p_4 p_5 F1271 E1272 F624 V625 (by simp only [← hq13, ← hy19]; exact hc44) (by simp only [← hq13, ← hy19]) (by simp only [← hq13]) E352 nq13 F890 V891 (by simp only [← hq13, ← hy19]; exact hc37))
          let l171 := lf (vr b18) (vr b17) (vr b15) (vr b11) (vi 1) (vr b17) (vi p_3) (vi (-1)) (vi p_5) u u u
          refine own_go (T2 := T264) (g2 := (mkF m 204 l171 [])) (fun t k => z_aload X86 hx hby at_177 rfl rfl (z_aload X86 hx hby at_179 rfl rfl (st209 _ (z_istore X209 hx hby at_184 l169 rfl (z_aload X209 hx hby at_186 rfl rfl (z_aload X209 hx hby at_188 rfl rfl (st210 _ (z_istore X210 hx hby at_193 l170 rfl (z_aload X210 hx hby at_195 rfl rfl (z_aload X210 hx hby at_197 rfl rfl (st264 _ (z_istore X264 hx hby at_202 l171 rfl k)))))))))))) ?_
          exact tl1427 X264 hx hby Bd.returns Bd.notSynchronized (by decide) (by decide) (by rw [e264]; simpa only [List.append_nil] using K86) p_0 p_1 p_2 p_3 p_4 p_5 (p_0 &&& 2147483647) (p_1 &&& 2147483647) (p_2 &&& 2147483647) b18 b17 b15 b11
       ·
        let l172 := lf (vr b18) (vr b17) (vr b15) (vr b11) (vi 2) (vr b15) u u u u u u
        let l173 := lf (vr b18) (vr b17) (vr b15) (vr b11) (vi 2) u u u u u u u
        refine own_go (T2 := T22) (g2 := (mkF m 170 l172 [])) (fun t k => z_istore X22 hx hby at_143 l173 rfl (z_iload X22 hx hby at_145 rfl (z_ifYes X22 hx hby 155 at_147 ((if0 _ _).trans (feq (show ¬ ((2 : Int32) = 0) from (by decide))).2) rfl (z_iload X22 hx hby at_155 rfl (z_iconst X22 hx hby at_157 (z_icmpYes X22 hx hby 166 at_158 (feq (show ¬ ((2 : Int32) = 1) from (by decide))).2 rfl (z_aload X22 hx hby at_166 rfl rfl (z_astore X22 hx hby at_168 rfl l172 rfl k)))))))) ?_
        by_cases hc283 : (oN y19) = y12
        ·
         refine own_go (T2 := T22) (g2 := (mkF m 174 l172 [(.ref b15), (.ref b11)])) (fun t k => z_aload X22 hx hby at_170 rfl rfl (z_aload X22 hx hby at_172 rfl rfl k)) ?_
         by_cases hc455 : (oN (oN y19)) = y10
         ·
          have F892 := (Fld.keep F108 K22c.1 (ninS ne59 (ninS ne106 (ninS ne58 nin0))))
          have E893 := (Exa.keep E109 K22c.1)
          have E627 := (Exa.keep E107 K22c.1)
          obtain ⟨_, T87, L87, X87, ⟨rfl, K87c, H894, F628, F1392, F895⟩, st87⟩ := own_cv X22 hx hZ hown (own_w942 hw) hml (g := (mkF m 174 l172 [(.ref b15), (.ref b11)])) (hb hby at_174) rfl E627 [(.ref b15)] [] (lenOf own_pd15 rfl) (rm3737 l Z a0 hw T22.heap b11 b15 b20 k23 y19 q13 y12 q14 y10 q16 (p_2 &&& 2147483647) b21 F114 H125 F892 E893 (by simp only [← hq13, ← hy19]) (by simp only [← hq13]) E627 F113 ne45 (by simp only [← hq13, ← hy19]; exact (ar799 y19 )) (by simp only [← hq13, ← hy19]; exact hc283) nq14 (by simp only [← hy12, ← hq13, ← hy19]; exact (ar3720 y19 y12 hc283)) (by simp only [← hq13, ← hy19]; exact (ar758 y19 )) (by simp only [← hq13, ← hy19]; exact (ar3788 y19 y12 hc283)) (by simp only [← hq13, ← hy19]; exact hc455) nq16 (by simp only [← hy10, ← hq13, ← hy19]; exact (ar7855 y19 y10 hc455)) (by simp only [← hq13, ← hy19]; exact (ar929 y19 )) (by simp only [← hq13, ← hy19]; exact (ar3801 y19 y12 hc283)) (by simp only [← hq13, ← hy19]; exact (ar2691 y19 y10 hc455)) F115)
          have z_K87c := K87c.1.1
          have K87 := own_kpTrans K22 K87c (allS (Or.inr sz_b20) (allS (Or.inr sz_b11) all0))
          simp only [← hq13, ← hy19] at H894
          refine own_go (T2 := T87) (g2 := (mkF m 177 l172 [])) (fun t k => st87 _ k) ?_
          have V629 := own_arhN H894 (cn1518 y19 y12 y10 (.int q13) (.int q14) (.int q16) hc37 hc44 hc27)
          have H1273 := (Arh.keep H126 K87c.1 (ninS (Ne.symm ne_b20_b21) (ninS (Ne.symm ne46) nin0)))
          have V896 := own_arhN H1273 (cn800 y19 y12 y10 (.int p_5) (.int p_4) (.int p_3) hc37 hc44 hc27)
          have ne630 := own_nl A18.lt (Nat.le_trans (Nat.le_trans (Nat.le_trans (Nat.le_trans (Nat.le_trans z_K30c z_E17) z_K29c) z_E15) z_K26c) z_E11) lo_b21
          have ne456 := own_nl A18.lt (Nat.le_trans (Nat.le_trans (Nat.le_trans (Nat.le_trans (Nat.le_trans z_K30c z_E17) z_K29c) z_E15) z_K26c) z_E11) lo_b20
          have F1274 := (Fld.keep (Fld.keep (Fld.keep (Fld.keep F49 K28c.1 (ninS ne456 (ninS ne630 (ninS ne24 nin0)))) K25c.1 (ninS ne456 (ninS ne630 (ninS ne24 nin0)))) K22c.1 (ninS ne456 (ninS ne630 (ninS ne24 nin0)))) K87c.1 (ninS ne456 (ninS ne24 nin0)))
          have E1275 := (Exa.keep (Exa.keep (Exa.keep (Exa.keep E50 K28c.1) K25c.1) K22c.1) K87c.1)
          have E353 := (Exa.keep E627 K87c.1)
          obtain ⟨_, T211, L211, X211, ⟨rfl, rfl, e211⟩, st211⟩ := own_cv X87 hx hZ hown (own_w1056 hw) hml (g := (mkF m 181 l172 [(.ref b18), (.ref b11)])) (hb hby at_181) rfl E353 [(.ref b18)] [] (lenOf own_pd16 rfl) (rm1536 l Z a0 hw T87.heap b11 b18 (p_0 &&& 2147483647) b20 k23 y10 q16 y12 q14 b21 k31 p_3 p_4 y19 p_5 F1274 E1275 F628 V629 (by simp only [← hq16, ← hy10]) (by simp only [← hq16]) E353 nq16 F895 V896)
          have F1276 := (Fld.keep (Fld.keep (Fld.keep F55 K25c.1 (ninS ne36 (ninS ne43 (ninS ne35 nin0)))) K22c.1 (ninS ne36 (ninS ne43 (ninS ne35 nin0)))) K87c.1 (ninS ne36 (ninS ne35 nin0)))
          have E1277 := (Exa.keep (Exa.keep (Exa.keep E56 K25c.1) K22c.1) K87c.1)
          let l174 := lf (vr b18) (vr b17) (vr b15) (vr b11) (vi 2) (vr b15) (vi p_3) u u u u u
          obtain ⟨_, T212, L212, X212, ⟨rfl, rfl, e212⟩, st212⟩ := own_cv X211 hx hZ hown (own_w1056 hw) hml (g := (mkF m 190 l174 [(.ref b17), (.ref b11)])) (hb hby at_190) e211 E353 [(.ref b17)] [] (lenOf own_pd16 rfl) (rm5097 l Z a0 hw T87.heap b11 b17 (p_1 &&& 2147483647) b20 k23 y10 q16 y12 q14 b21 k31 p_3 p_4 y19 p_5 F1276 E1277 F628 V629 (by simp only [← hq14, ← hy12]; exact hc27) (by simp only [← hq14, ← hy12]) (by simp only [← hq14]) E353 nq14 F895 V896)
          have F1278 := (Fld.keep F892 K87c.1 (ninS ne59 (ninS ne58 nin0)))
          have E1279 := (Exa.keep E893 K87c.1)
          let l175 := lf (vr b18) (vr b17) (vr b15) (vr b11) (vi 2) (vr b15) (vi p_3) (vi p_4) u u u u
          obtain ⟨_, T265, L265, X265, ⟨rfl, rfl, e265⟩, st265⟩ := own_cv X212 hx hZ hown (own_w1056 hw) hml (g := (mkF m 199 l175 [(.ref b15), (.ref b11)])) (hb hby at_199) e212 E353 [(.ref b15)] [] (lenOf own_pd16 rfl) (rm3879 l Z a0 hw T87.heap b11 b15 (p_2 &&& 2147483647) b20 k23 y10 q16 y12 q14 F1278 E1279 F628 V629 (by simp only [← hq13, ← hy19]; exact hc44) (by simp only [← hq13, ← hy19]; exact hc37) (by simp only [← hq13]; exact (ar492 q13 nq13)) E353)
          let l176 := lf (vr b18) (vr b17) (vr b15) (vr b11) (vi 2) (vr b15) (vi p_3) (vi p_4) (vi (-1)) u u u
          refine own_go (T2 := T265) (g2 := (mkF m 204 l176 [])) (fun t k => z_aload X87 hx hby at_177 rfl rfl (z_aload X87 hx hby at_179 rfl rfl (st211 _ (z_istore X211 hx hby at_184 l174 rfl (z_aload X211 hx hby at_186 rfl rfl (z_aload X211 hx hby at_188 rfl rfl (st212 _ (z_istore X212 hx hby at_193 l175 rfl (z_aload X212 hx hby at_195 rfl rfl (z_aload X212 hx hby at_197 rfl rfl (st265 _ (z_istore X265 hx hby at_202 l176 rfl k)))))))))))) ?_
          exact tl1942 X265 hx hby Bd.returns Bd.notSynchronized (by decide) (by decide) (by rw [e265]; simpa only [List.append_nil] using K87) p_0 p_1 p_2 p_3 p_4 p_5 (p_0 &&& 2147483647) (p_1 &&& 2147483647) (p_2 &&& 2147483647) b18 b17 b15 b11
         ·
          have F897 := (Fld.keep F108 K22c.1 (ninS ne59 (ninS ne106 (ninS ne58 nin0))))
          have E898 := (Exa.keep E109 K22c.1)
          have E631 := (Exa.keep E107 K22c.1)
          obtain ⟨_, T88, L88, X88, ⟨rfl, K88c, H899, F632, F1393, F900⟩, st88⟩ := own_cv X22 hx hZ hown (own_w942 hw) hml (g := (mkF m 174 l172 [(.ref b15), (.ref b11)])) (hb hby at_174) rfl E631 [(.ref b15)] [] (lenOf own_pd15 rfl) (rm8120 l Z a0 hw T22.heap b11 b15 b20 k23 y19 q13 y12 q14 y10 q16 (p_2 &&& 2147483647) b21 F114 H125 F897 E898 (by simp only [← hq13, ← hy19]) (by simp only [← hq13]) E631 F113 ne45 (by simp only [← hq13, ← hy19]; exact (ar799 y19 )) (by simp only [← hq13, ← hy19]; exact hc283) nq14 (by simp only [← hy12, ← hq13, ← hy19]; exact (ar3720 y19 y12 hc283)) (by simp only [← hq13, ← hy19]; exact (ar758 y19 )) (by simp only [← hq13, ← hy19]; exact (ar3788 y19 y12 hc283)) (by simp only [← hq13, ← hy19]; exact hc455) F115)
          have z_K88c := K88c.1.1
          have K88 := own_kpTrans K22 K88c (allS (Or.inr sz_b20) (allS (Or.inr sz_b11) all0))
          simp only [← hq13, ← hy19] at H899
          refine own_go (T2 := T88) (g2 := (mkF m 177 l172 [])) (fun t k => st88 _ k) ?_
          have V633 := own_arhN H899 (cn1518 y19 y12 y10 (.int q13) (.int q14) (.int q16) hc37 hc44 hc27)
          have H1280 := (Arh.keep H126 K88c.1 (ninS (Ne.symm ne_b20_b21) (ninS (Ne.symm ne46) nin0)))
          have V901 := own_arhN H1280 (cn800 y19 y12 y10 (.int p_5) (.int p_4) (.int p_3) hc37 hc44 hc27)
          have ne634 := own_nl A18.lt (Nat.le_trans (Nat.le_trans (Nat.le_trans (Nat.le_trans (Nat.le_trans z_K30c z_E17) z_K29c) z_E15) z_K26c) z_E11) lo_b21
          have ne457 := own_nl A18.lt (Nat.le_trans (Nat.le_trans (Nat.le_trans (Nat.le_trans (Nat.le_trans z_K30c z_E17) z_K29c) z_E15) z_K26c) z_E11) lo_b20
          have F1281 := (Fld.keep (Fld.keep (Fld.keep (Fld.keep F49 K28c.1 (ninS ne457 (ninS ne634 (ninS ne24 nin0)))) K25c.1 (ninS ne457 (ninS ne634 (ninS ne24 nin0)))) K22c.1 (ninS ne457 (ninS ne634 (ninS ne24 nin0)))) K88c.1 (ninS ne457 (ninS ne24 nin0)))
          have E1282 := (Exa.keep (Exa.keep (Exa.keep (Exa.keep E50 K28c.1) K25c.1) K22c.1) K88c.1)
          have E354 := (Exa.keep E631 K88c.1)
          obtain ⟨_, T213, L213, X213, ⟨rfl, rfl, e213⟩, st213⟩ := own_cv X88 hx hZ hown (own_w1056 hw) hml (g := (mkF m 181 l172 [(.ref b18), (.ref b11)])) (hb hby at_181) rfl E354 [(.ref b18)] [] (lenOf own_pd16 rfl) (rm1536 l Z a0 hw T88.heap b11 b18 (p_0 &&& 2147483647) b20 k23 y10 q16 y12 q14 b21 k31 p_3 p_4 y19 p_5 F1281 E1282 F632 V633 (by simp only [← hq16, ← hy10]) (by simp only [← hq16]) E354 nq16 F900 V901)
          have F1283 := (Fld.keep (Fld.keep (Fld.keep F55 K25c.1 (ninS ne36 (ninS ne43 (ninS ne35 nin0)))) K22c.1 (ninS ne36 (ninS ne43 (ninS ne35 nin0)))) K88c.1 (ninS ne36 (ninS ne35 nin0)))
          have E1284 := (Exa.keep (Exa.keep (Exa.keep E56 K25c.1) K22c.1) K88c.1)
          let l177 := lf (vr b18) (vr b17) (vr b15) (vr b11) (vi 2) (vr b15) (vi p_3) u u u u u
          obtain ⟨_, T214, L214, X214, ⟨rfl, rfl, e214⟩, st214⟩ := own_cv X213 hx hZ hown (own_w1056 hw) hml (g := (mkF m 190 l177 [(.ref b17), (.ref b11)])) (hb hby at_190) e213 E354 [(.ref b17)] [] (lenOf own_pd16 rfl) (rm5097 l Z a0 hw T88.heap b11 b17 (p_1 &&& 2147483647) b20 k23 y10 q16 y12 q14 b21 k31 p_3 p_4 y19 p_5 F1283 E1284 F632 V633 (by simp only [← hq14, ← hy12]; exact hc27) (by simp only [← hq14, ← hy12]) (by simp only [← hq14]) E354 nq14 F900 V901)
          have F1285 := (Fld.keep F897 K88c.1 (ninS ne59 (ninS ne58 nin0)))
          have E1286 := (Exa.keep E898 K88c.1)
          let l178 := lf (vr b18) (vr b17) (vr b15) (vr b11) (vi 2) (vr b15) (vi p_3) (vi p_4) u u u u
          obtain ⟨_, T266, L266, X266, ⟨rfl, rfl, e266⟩, st266⟩ := own_cv X214 hx hZ hown (own_w1056 hw) hml (g := (mkF m 199 l178 [(.ref b15), (.ref b11)])) (hb hby at_199) e214 E354 [(.ref b15)] [] (lenOf own_pd16 rfl) (rm3879 l Z a0 hw T88.heap b11 b15 (p_2 &&& 2147483647) b20 k23 y10 q16 y12 q14 F1285 E1286 F632 V633 (by simp only [← hq13, ← hy19]; exact hc44) (by simp only [← hq13, ← hy19]; exact hc37) (by simp only [← hq13]; exact (ar492 q13 nq13)) E354)
          let l179 := lf (vr b18) (vr b17) (vr b15) (vr b11) (vi 2) (vr b15) (vi p_3) (vi p_4) (vi (-1)) u u u
          refine own_go (T2 := T266) (g2 := (mkF m 204 l179 [])) (fun t k => z_aload X88 hx hby at_177 rfl rfl (z_aload X88 hx hby at_179 rfl rfl (st213 _ (z_istore X213 hx hby at_184 l177 rfl (z_aload X213 hx hby at_186 rfl rfl (z_aload X213 hx hby at_188 rfl rfl (st214 _ (z_istore X214 hx hby at_193 l178 rfl (z_aload X214 hx hby at_195 rfl rfl (z_aload X214 hx hby at_197 rfl rfl (st266 _ (z_istore X266 hx hby at_202 l179 rfl k)))))))))))) ?_
          exact tl1942 X266 hx hby Bd.returns Bd.notSynchronized (by decide) (by decide) (by rw [e266]; simpa only [List.append_nil] using K88) p_0 p_1 p_2 p_3 p_4 p_5 (p_0 &&& 2147483647) (p_1 &&& 2147483647) (p_2 &&& 2147483647) b18 b17 b15 b11
        ·
         by_cases hc284 : (oN y19) = y10
         ·
          have V902 := own_arhN H125 (cn3713 y19 y12 y10 (.int q13) (.int q14) (.int q16) hc37 hc44 hc27)
          have V903 := own_arhN H126 (cn3713 y19 y12 y10 (.int p_5) (.int p_4) (.int p_3) hc37 hc44 hc27)
          refine own_go (T2 := T22) (g2 := (mkF m 174 l172 [(.ref b15), (.ref b11)])) (fun t k => z_aload X22 hx hby at_170 rfl rfl (z_aload X22 hx hby at_172 rfl rfl k)) ?_
          by_cases hc458 : (oN (oN y19)) = y12
          ·
           have F904 := (Fld.keep F108 K22c.1 (ninS ne59 (ninS ne106 (ninS ne58 nin0))))
           have E905 := (Exa.keep E109 K22c.1)
           have E635 := (Exa.keep E107 K22c.1)
           obtain ⟨_, T89, L89, X89, ⟨rfl, K89c, H906, F636, F1394, F907⟩, st89⟩ := own_cv X22 hx hZ hown (own_w942 hw) hml (g := (mkF m 174 l172 [(.ref b15), (.ref b11)])) (hb hby at_174) rfl E635 [(.ref b15)] [] (lenOf own_pd15 rfl) (rm3737 l Z a0 hw T22.heap b11 b15 b20 k23 y19 q13 y10 q16 y12 q14 (p_2 &&& 2147483647) b21 F114 V902 F904 E905 (by simp only [← hq13, ← hy19]) (by simp only [← hq13]) E635 F113 ne45 (by simp only [← hq13, ← hy19]; exact (ar799 y19 )) (by simp only [← hq13, ← hy19]; exact hc284) nq16 (by simp only [← hy10, ← hq13, ← hy19]; exact (ar3720 y19 y10 hc284)) (by simp only [← hq13, ← hy19]; exact (ar758 y19 )) (by simp only [← hq13, ← hy19]; exact (ar3788 y19 y10 hc284)) (by simp only [← hq13, ← hy19]; exact hc458) nq14 (by simp only [← hy12, ← hq13, ← hy19]; exact (ar7855 y19 y12 hc458)) (by simp only [← hq13, ← hy19]; exact (ar929 y19 )) (by simp only [← hq13, ← hy19]; exact (ar3801 y19 y10 hc284)) (by simp only [← hq13, ← hy19]; exact (ar2691 y19 y12 hc458)) F115)
           have z_K89c := K89c.1.1
           have K89 := own_kpTrans K22 K89c (allS (Or.inr sz_b20) (allS (Or.inr sz_b11) all0))
           simp only [← hq13, ← hy19] at H906
           refine own_go (T2 := T89) (g2 := (mkF m 177 l172 [])) (fun t k => st89 _ k) ?_
           have V637 := own_arhN H906 (cn3814 y19 y10 y12 (.int q13) (.int q16) (.int q14) hc44 hc37 (ar2702 y10 y12 hc27))
           have H1287 := (Arh.keep V903 K89c.1 (ninS (Ne.symm ne_b20_b21) (ninS (Ne.symm ne46) nin0)))
           have V908 := own_arhN H1287 (cn3817 y19 y10 y12 (.int p_5) (.int p_3) (.int p_4) hc44 hc37 (ar2702 y10 y12 hc27))
           have ne638 := own_nl A18.lt (Nat.le_trans (Nat.le_trans (Nat.le_trans (Nat.le_trans (Nat.le_trans z_K30c z_E17) z_K29c) z_E15) z_K26c) z_E11) lo_b21
           have ne459 := own_nl A18.lt (Nat.le_trans (Nat.le_trans (Nat.le_trans (Nat.le_trans (Nat.le_trans z_K30c z_E17) z_K29c) z_E15) z_K26c) z_E11) lo_b20
           have F1288 := (Fld.keep (Fld.keep (Fld.keep (Fld.keep F49 K28c.1 (ninS ne459 (ninS ne638 (ninS ne24 nin0)))) K25c.1 (ninS ne459 (ninS ne638 (ninS ne24 nin0)))) K22c.1 (ninS ne459 (ninS ne638 (ninS ne24 nin0)))) K89c.1 (ninS ne459 (ninS ne24 nin0)))
           have E1289 := (Exa.keep (Exa.keep (Exa.keep (Exa.keep E50 K28c.1) K25c.1) K22c.1) K89c.1)
           have E355 := (Exa.keep E635 K89c.1)
           obtain ⟨_, T215, L215, X215, ⟨rfl, rfl, e215⟩, st215⟩ := own_cv X89 hx hZ hown (own_w1056 hw) hml (g := (mkF m 181 l172 [(.ref b18), (.ref b11)])) (hb hby at_181) rfl E355 [(.ref b18)] [] (lenOf own_pd16 rfl) (rm1536 l Z a0 hw T89.heap b11 b18 (p_0 &&& 2147483647) b20 k23 y10 q16 y12 q14 b21 k31 p_3 p_4 y19 p_5 F1288 E1289 F636 V637 (by simp only [← hq16, ← hy10]) (by simp only [← hq16]) E355 nq16 F907 V908)
           have F1290 := (Fld.keep (Fld.keep (Fld.keep F55 K25c.1 (ninS ne36 (ninS ne43 (ninS ne35 nin0)))) K22c.1 (ninS ne36 (ninS ne43 (ninS ne35 nin0)))) K89c.1 (ninS ne36 (ninS ne35 nin0)))
           have E1291 := (Exa.keep (Exa.keep (Exa.keep E56 K25c.1) K22c.1) K89c.1)
           let l180 := lf (vr b18) (vr b17) (vr b15) (vr b11) (vi 2) (vr b15) (vi p_3) u u u u u
           obtain ⟨_, T216, L216, X216, ⟨rfl, rfl, e216⟩, st216⟩ := own_cv X215 hx hZ hown (own_w1056 hw) hml (g := (mkF m 190 l180 [(.ref b17), (.ref b11)])) (hb hby at_190) e215 E355 [(.ref b17)] [] (lenOf own_pd16 rfl) (rm5097 l Z a0 hw T89.heap b11 b17 (p_1 &&& 2147483647) b20 k23 y10 q16 y12 q14 b21 k31 p_3 p_4 y19 p_5 F1290 E1291 F636 V637 (by simp only [← hq14, ← hy12]; exact hc27) (by simp only [← hq14, ← hy12]) (by simp only [← hq14]) E355 nq14 F907 V908)
           have F1292 := (Fld.keep F904 K89c.1 (ninS ne59 (ninS ne58 nin0)))
           have E1293 := (Exa.keep E905 K89c.1)
           let l181 := lf (vr b18) (vr b17) (vr b15) (vr b11) (vi 2) (vr b15) (vi p_3) (vi p_4) u u u u
           obtain ⟨_, T267, L267, X267, ⟨rfl, rfl, e267⟩, st267⟩ := own_cv X216 hx hZ hown (own_w1056 hw) hml (g := (mkF m 199 l181 [(.ref b15), (.ref b11)])) (hb hby at_199) e216 E355 [(.ref b15)] [] (lenOf own_pd16 rfl) (rm3879 l Z a0 hw T89.heap b11 b15 (p_2 &&& 2147483647) b20 k23 y10 q16 y12 q14 F1292 E1293 F636 V637 (by simp only [← hq13, ← hy19]; exact hc44) (by simp only [← hq13, ← hy19]; exact hc37) (by simp only [← hq13]; exact (ar492 q13 nq13)) E355)
           let l182 := lf (vr b18) (vr b17) (vr b15) (vr b11) (vi 2) (vr b15) (vi p_3) (vi p_4) (vi (-1)) u u u
           refine own_go (T2 := T267) (g2 := (mkF m 204 l182 [])) (fun t k => z_aload X89 hx hby at_177 rfl rfl (z_aload X89 hx hby at_179 rfl rfl (st215 _ (z_istore X215 hx hby at_184 l180 rfl (z_aload X215 hx hby at_186 rfl rfl (z_aload X215 hx hby at_188 rfl rfl (st216 _ (z_istore X216 hx hby at_193 l181 rfl (z_aload X216 hx hby at_195 rfl rfl (z_aload X216 hx hby at_197 rfl rfl (st267 _ (z_istore X267 hx hby at_202 l182 rfl k)))))))))))) ?_
           exact tl1942 X267 hx hby Bd.returns Bd.notSynchronized (by decide) (by decide) (by rw [e267]; simpa only [List.append_nil] using K89) p_0 p_1 p_2 p_3 p_4 p_5 (p_0 &&& 2147483647) (p_1 &&& 2147483647) (p_2 &&& 2147483647) b18 b17 b15 b11
          ·
           have F909 := (Fld.keep F108 K22c.1 (ninS ne59 (ninS ne106 (ninS ne58 nin0))))
           have E910 := (Exa.keep E109 K22c.1)
           have E639 := (Exa.keep E107 K22c.1)
           obtain ⟨_, T90, L90, X90, ⟨rfl, K90c, H911, F640, F1395, F912⟩, st90⟩ := own_cv X22 hx hZ hown (own_w942 hw) hml (g := (mkF m 174 l172 [(.ref b15), (.ref b11)])) (hb hby at_174) rfl E639 [(.ref b15)] [] (lenOf own_pd15 rfl) (rm8120 l Z a0 hw T22.heap b11 b15 b20 k23 y19 q13 y10 q16 y12 q14 (p_2 &&& 2147483647) b21 F114 V902 F909 E910 (by simp only [← hq13, ← hy19]) (by simp only [← hq13]) E639 F113 ne45 (by simp only [← hq13, ← hy19]; exact (ar799 y19 )) (by simp only [← hq13, ← hy19]; exact hc284) nq16 (by simp only [← hy10, ← hq13, ← hy19]; exact (ar3720 y19 y10 hc284)) (by simp only [← hq13, ← hy19]; exact (ar758 y19 )) (by simp only [← hq13, ← hy19]; exact (ar3788 y19 y10 hc284)) (by simp only [← hq13, ← hy19]; exact hc458) F115)
           have z_K90c := K90c.1.1
           have K90 := own_kpTrans K22 K90c (allS (Or.inr sz_b20) (allS (Or.inr sz_b11) all0))
           simp only [← hq13, ← hy19] at H911
           refine own_go (T2 := T90) (g2 := (mkF m 177 l172 [])) (fun t k => st90 _ k) ?_
           have V641 := own_arhN H911 (cn3814 y19 y10 y12 (.int q13) (.int q16) (.int q14) hc44 hc37 (ar2702 y10 y12 hc27))
           have H1294 := (Arh.keep V903 K90c.1 (ninS (Ne.symm ne_b20_b21) (ninS (Ne.symm ne46) nin0)))
           have V913 := own_arhN H1294 (cn3817 y19 y10 y12 (.int p_5) (.int p_3) (.int p_4) hc44 hc37 (ar2702 y10 y12 hc27))
           have ne642 := own_nl A18.lt (Nat.le_trans (Nat.le_trans (Nat.le_trans (Nat.le_trans (Nat.le_trans z_K30c z_E17) z_K29c) z_E15) z_K26c) z_E11) lo_b21
           have ne460 := own_nl A18.lt (Nat.le_trans (Nat.le_trans (Nat.le_trans (Nat.le_trans (Nat.le_trans z_K30c z_E17) z_K29c) z_E15) z_K26c) z_E11) lo_b20
           have F1295 := (Fld.keep (Fld.keep (Fld.keep (Fld.keep F49 K28c.1 (ninS ne460 (ninS ne642 (ninS ne24 nin0)))) K25c.1 (ninS ne460 (ninS ne642 (ninS ne24 nin0)))) K22c.1 (ninS ne460 (ninS ne642 (ninS ne24 nin0)))) K90c.1 (ninS ne460 (ninS ne24 nin0)))
           have E1296 := (Exa.keep (Exa.keep (Exa.keep (Exa.keep E50 K28c.1) K25c.1) K22c.1) K90c.1)
           have E356 := (Exa.keep E639 K90c.1)
           obtain ⟨_, T217, L217, X217, ⟨rfl, rfl, e217⟩, st217⟩ := own_cv X90 hx hZ hown (own_w1056 hw) hml (g := (mkF m 181 l172 [(.ref b18), (.ref b11)])) (hb hby at_181) rfl E356 [(.ref b18)] [] (lenOf own_pd16 rfl) (rm1536 l Z a0 hw T90.heap b11 b18 (p_0 &&& 2147483647) b20 k23 y10 q16 y12 q14 b21 k31 p_3 p_4 y19 p_5 F1295 E1296 F640 V641 (by simp only [← hq16, ← hy10]) (by simp only [← hq16]) E356 nq16 F912 V913)
           have F1297 := (Fld.keep (Fld.keep (Fld.keep F55 K25c.1 (ninS ne36 (ninS ne43 (ninS ne35 nin0)))) K22c.1 (ninS ne36 (ninS ne43 (ninS ne35 nin0)))) K90c.1 (ninS ne36 (ninS ne35 nin0)))
           have E1298 := (Exa.keep (Exa.keep (Exa.keep E56 K25c.1) K22c.1) K90c.1)
           let l183 := lf (vr b18) (vr b17) (vr b15) (vr b11) (vi 2) (vr b15) (vi p_3) u u u u u
           obtain ⟨_, T218, L218, X218, ⟨rfl, rfl, e218⟩, st218⟩ := own_cv X217 hx hZ hown (own_w1056 hw) hml (g := (mkF m 190 l183 [(.ref b17), (.ref b11)])) (hb hby at_190) e217 E356 [(.ref b17)] [] (lenOf own_pd16 rfl) (rm5097 l Z a0 hw T90.heap b11 b17 (p_1 &&& 2147483647) b20 k23 y10 q16 y12 q14 b21 k31 p_3 p_4 y19 p_5 F1297 E1298 F640 V641 (by simp only [← hq14, ← hy12]; exact hc27) (by simp only [← hq14, ← hy12]) (by simp only [← hq14]) E356 nq14 F912 V913)
           have F1299 := (Fld.keep F909 K90c.1 (ninS ne59 (ninS ne58 nin0)))
           have E1300 := (Exa.keep E910 K90c.1)
           let l184 := lf (vr b18) (vr b17) (vr b15) (vr b11) (vi 2) (vr b15) (vi p_3) (vi p_4) u u u u
           obtain ⟨_, T268, L268, X268, ⟨rfl, rfl, e268⟩, st268⟩ := own_cv X218 hx hZ hown (own_w1056 hw) hml (g := (mkF m 199 l184 [(.ref b15), (.ref b11)])) (hb hby at_199) e218 E356 [(.ref b15)] [] (lenOf own_pd16 rfl) (rm3879 l Z a0 hw T90.heap b11 b15 (p_2 &&& 2147483647) b20 k23 y10 q16 y12 q14 F1299 E1300 F640 V641 (by simp only [← hq13, ← hy19]; exact hc44) (by simp only [← hq13, ← hy19]; exact hc37) (by simp only [← hq13]; exact (ar492 q13 nq13)) E356)
           let l185 := lf (vr b18) (vr b17) (vr b15) (vr b11) (vi 2) (vr b15) (vi p_3) (vi p_4) (vi (-1)) u u u
           refine own_go (T2 := T268) (g2 := (mkF m 204 l185 [])) (fun t k => z_aload X90 hx hby at_177 rfl rfl (z_aload X90 hx hby at_179 rfl rfl (st217 _ (z_istore X217 hx hby at_184 l183 rfl (z_aload X217 hx hby at_186 rfl rfl (z_aload X217 hx hby at_188 rfl rfl (st218 _ (z_istore X218 hx hby at_193 l184 rfl (z_aload X218 hx hby at_195 rfl rfl (z_aload X218 hx hby at_197 rfl rfl (st268 _ (z_istore X268 hx hby at_202 l185 rfl k)))))))))))) ?_
           exact tl1942 X268 hx hby Bd.returns Bd.notSynchronized (by decide) (by decide) (by rw [e268]; simpa only [List.append_nil] using K90) p_0 p_1 p_2 p_3 p_4 p_5 (p_0 &&& 2147483647) (p_1 &&& 2147483647) (p_2 &&& 2147483647) b18 b17 b15 b11
         ·
          have F914 := (Fld.keep F108 K22c.1 (ninS ne59 (ninS ne106 (ninS ne58 nin0))))
          have E915 := (Exa.keep E109 K22c.1)
          have E643 := (Exa.keep E107 K22c.1)
          obtain ⟨_, T91, L91, X91, ⟨rfl, K91c, H916, F644, F1396, F917⟩, st91⟩ := own_cv X22 hx hZ hown (own_w942 hw) hml (g := (mkF m 174 l172 [(.ref b15), (.ref b11)])) (hb hby at_174) rfl E643 [(.ref b15)] [] (lenOf own_pd15 rfl) (rm4053 l Z a0 hw T22.heap b11 b15 b20 k23 y19 q13 y12 q14 y10 q16 (p_2 &&& 2147483647) b21 F114 H125 F914 E915 (by simp only [← hq13, ← hy19]) (by simp only [← hq13]) E643 F113 ne45 (by simp only [← hq13, ← hy19]; exact (ar799 y19 )) (by simp only [← hq13, ← hy19]; exact hc283) (by simp only [← hq13, ← hy19]; exact hc284) F115)
          have z_K91c := K91c.1.1
          have K91 := own_kpTrans K22 K91c (allS (Or.inr sz_b20) (allS (Or.inr sz_b11) all0))
          simp only [← hq13, ← hy19] at H916
          refine own_go (T2 := T91) (g2 := (mkF m 177 l172 [])) (fun t k => z_aload X22 hx hby at_170 rfl rfl (z_aload X22 hx hby at_172 rfl rfl (st91 _ k))) ?_
          have V645 := own_arhN H916 (cn1518 y19 y12 y10 (.int q13) (.int q14) (.int q16) hc37 hc44 hc27)
          have H1301 := (Arh.keep H126 K91c.1 (ninS (Ne.symm ne_b20_b21) (ninS (Ne.symm ne46) nin0)))
          have V918 := own_arhN H1301 (cn800 y19 y12 y10 (.int p_5) (.int p_4) (.int p_3) hc37 hc44 hc27)
          have ne646 := own_nl A18.lt (Nat.le_trans (Nat.le_trans (Nat.le_trans (Nat.le_trans (Nat.le_trans z_K30c z_E17) z_K29c) z_E15) z_K26c) z_E11) lo_b21
          have ne461 := own_nl A18.lt (Nat.le_trans (Nat.le_trans (Nat.le_trans (Nat.le_trans (Nat.le_trans z_K30c z_E17) z_K29c) z_E15) z_K26c) z_E11) lo_b20
          have F1302 := (Fld.keep (Fld.keep (Fld.keep (Fld.keep F49 K28c.1 (ninS ne461 (ninS ne646 (ninS ne24 nin0)))) K25c.1 (ninS ne461 (ninS ne646 (ninS ne24 nin0)))) K22c.1 (ninS ne461 (ninS ne646 (ninS ne24 nin0)))) K91c.1 (ninS ne461 (ninS ne24 nin0)))
          have E1303 := (Exa.keep (Exa.keep (Exa.keep (Exa.keep E50 K28c.1) K25c.1) K22c.1) K91c.1)
          have E357 := (Exa.keep E643 K91c.1)
          obtain ⟨_, T219, L219, X219, ⟨rfl, rfl, e219⟩, st219⟩ := own_cv X91 hx hZ hown (own_w1056 hw) hml (g := (mkF m 181 l172 [(.ref b18), (.ref b11)])) (hb hby at_181) rfl E357 [(.ref b18)] [] (lenOf own_pd16 rfl) (rm1536 l Z a0 hw T91.heap b11 b18 (p_0 &&& 2147483647) b20 k23 y10 q16 y12 q14 b21 k31 p_3 p_4 y19 p_5 F1302 E1303 F644 V645 (by simp only [← hq16, ← hy10]) (by simp only [← hq16]) E357 nq16 F917 V918)
          have F1304 := (Fld.keep (Fld.keep (Fld.keep F55 K25c.1 (ninS ne36 (ninS ne43 (ninS ne35 nin0)))) K22c.1 (ninS ne36 (ninS ne43 (ninS ne35 nin0)))) K91c.1 (ninS ne36 (ninS ne35 nin0)))
          have E1305 := (Exa.keep (Exa.keep (Exa.keep E56 K25c.1) K22c.1) K91c.1)
          let l186 := lf (vr b18) (vr b17) (vr b15) (vr b11) (vi 2) (vr b15) (vi p_3) u u u u u
          obtain ⟨_, T220, L220, X220, ⟨rfl, rfl, e220⟩, st220⟩ := own_cv X219 hx hZ hown (own_w1056 hw) hml (g := (mkF m 190 l186 [(.ref b17), (.ref b11)])) (hb hby at_190) e219 E357 [(.ref b17)] [] (lenOf own_pd16 rfl) (rm5097 l Z a0 hw T91.heap b11 b17 (p_1 &&& 2147483647) b20 k23 y10 q16 y12 q14 b21 k31 p_3 p_4 y19 p_5 F1304 E1305 F644 V645 (by simp only [← hq14, ← hy12]; exact hc27) (by simp only [← hq14, ← hy12]) (by simp only [← hq14]) E357 nq14 F917 V918)
          have F1306 := (Fld.keep F914 K91c.1 (ninS ne59 (ninS ne58 nin0)))
          have E1307 := (Exa.keep E915 K91c.1)
          let l187 := lf (vr b18) (vr b17) (vr b15) (vr b11) (vi 2) (vr b15) (vi p_3) (vi p_4) u u u u
          obtain ⟨_, T269, L269, X269, ⟨rfl, rfl, e269⟩, st269⟩ := own_cv X220 hx hZ hown (own_w1056 hw) hml (g := (mkF m 199 l187 [(.ref b15), (.ref b11)])) (hb hby at_199) e220 E357 [(.ref b15)] [] (lenOf own_pd16 rfl) (rm3879 l Z a0 hw T91.heap b11 b15 (p_2 &&& 2147483647) b20 k23 y10 q16 y12 q14 F1306 E1307 F644 V645 (by simp only [← hq13, ← hy19]; exact hc44) (by simp only [← hq13, ← hy19]; exact hc37) (by simp only [← hq13]; exact (ar492 q13 nq13)) E357)
          let l188 := lf (vr b18) (vr b17) (vr b15) (vr b11) (vi 2) (vr b15) (vi p_3) (vi p_4) (vi (-1)) u u u
          refine own_go (T2 := T269) (g2 := (mkF m 204 l188 [])) (fun t k => z_aload X91 hx hby at_177 rfl rfl (z_aload X91 hx hby at_179 rfl rfl (st219 _ (z_istore X219 hx hby at_184 l186 rfl (z_aload X219 hx hby at_186 rfl rfl (z_aload X219 hx hby at_188 rfl rfl (st220 _ (z_istore X220 hx hby at_193 l187 rfl (z_aload X220 hx hby at_195 rfl rfl (z_aload X220 hx hby at_197 rfl rfl (st269 _ (z_istore X269 hx hby at_202 l188 rfl k)))))))))))) ?_
          exact tl1942 X269 hx hby Bd.returns Bd.notSynchronized (by decide) (by decide) (by rw [e269]; simpa only [List.append_nil] using K91) p_0 p_1 p_2 p_3 p_4 p_5 (p_0 &&& 2147483647) (p_1 &&& 2147483647) (p_2 &&& 2147483647) b18 b17 b15 b11
set_option maxRecDepth 65536 in
set_option maxHeartbeats 40000000 in
theorem comes_1 {Post : Tables → Env → Array Value → State → Outcome → State → Prop} (hpost : ∀ tb e args s v u, (limb_1_1.after args s (.returned v) u = true ∧ limb_1_2.after args s (.returned v) u = true ∧ True) → FrameEnd s (.returned v) u (Jvm.fieldLocs frame_1_writes args s ++ Jvm.arrayLocs frame_1_arrays args s ++ Jvm.staticLocs frame_1_statics s) 32 320 → Post tb e args s (.returned v) u) :
    ArmFor flags0 classFile x code maxLocals ret World_1 tables_1 room_1 Calls_1 rest_1 Pre_1 Post := by
  intro l hfl _ _ p e ha hc hk s m args below hf hA hF happ hP
  obtain ⟨hcalls, hrest, hpre⟩ := hP
  obtain ⟨-, -, -, hnamed, -, -, -, hat⟩ := (Spec.applies_iff hf).mp happ
  obtain ⟨hg, hn⟩ := and_e (Cond.before_iff.mp (show (Jvm.Cond.and given_1 narrow_1).before args s = true from hpre))
  obtain ⟨g10551, g10552⟩ := and_e hg
  obtain ⟨g10553, g10554⟩ := and_e g10552
  obtain ⟨g10555, g10556⟩ := and_e g10554
  obtain ⟨g10557, g10558⟩ := and_e g10556
  obtain ⟨g10559, g10560⟩ := and_e g10558
  obtain ⟨g10561, g10562⟩ := and_e g10560
  obtain ⟨w0, w1, w2, w3, w4, w5, rfl⟩ : ∃ w0 w1 w2 w3 w4 w5 : Value, args = #[w0, w1, w2, w3, w4, w5] := by
    have hs : args.size = 6 := by simpa [Cond.value, given_1] using g10551
    obtain ⟨L⟩ := args
    match L, hs with
    | [w0, w1, w2, w3, w4, w5], _ => exact ⟨w0, w1, w2, w3, w4, w5, rfl⟩
  have hw := fun d (hd : d ∈ tables_1) => atoms_spec (ws := Jvm.Cond.code x code maxLocals ret :: tables_1) hat d (List.mem_cons_of_mem _ hd)
  have hfit : Fit s := fun {y c} hc i hi => by
    obtain ⟨ha, rfl⟩ := Array.getElem?_eq_some_iff.mp hc
    have q := List.all_eq_true.mp ((Array.all_eq_true_iff_forall_mem.mp hF) _ (Array.getElem_mem ha)) i (List.mem_range.mpr hi)
    simpa [Array.getElem?_eq_getElem hi] using q
  obtain ⟨hsets, hown0⟩ := atoms_of _ (rest_1_c_eq ▸ (show rest_1_c.before _ s = true from hrest))
  obtain ⟨i0, ei0⟩ := is_v g10553
  obtain rfl : w0 = (.int i0) := Option.some.inj ei0
  obtain ⟨i1, ei1⟩ := is_v g10555
  obtain rfl : w1 = (.int i1) := Option.some.inj ei1
  obtain ⟨i2, ei2⟩ := is_v g10557
  obtain rfl : w2 = (.int i2) := Option.some.inj ei2
  obtain ⟨i3, ei3⟩ := is_v g10559
  obtain rfl : w3 = (.int i3) := Option.some.inj ei3
  obtain ⟨i4, ei4⟩ := is_v g10561
  obtain rfl : w4 = (.int i4) := Option.some.inj ei4
  obtain ⟨i5, ei5⟩ := is_v g10562
  obtain rfl : w5 = (.int i5) := Option.some.inj ei5
  obtain ⟨n2, n3⟩ := and_e hn
  obtain ⟨n4, n5⟩ := and_e n3
  obtain ⟨n6, n7⟩ := and_e n5
  obtain ⟨n8, n9⟩ := and_e n7
  obtain ⟨n10, n11⟩ := and_e n9
  obtain ⟨w_NAME, ev_w_NAME⟩ := exa_v n2
  obtain ⟨w_AND, ev_w_AND⟩ := exa_v n4
  obtain ⟨w_TOP, ev_w_TOP⟩ := exa_v n10
  obtain ⟨w_EMPTY, ev_w_EMPTY⟩ := exa_v (Cond.before_iff.mp (hsets _ (List.mem_of_getElem? (i := 2) rfl)))
  obtain ⟨w_EMPTY_LIST, ev_w_EMPTY_LIST⟩ := exa_v (Cond.before_iff.mp (hsets _ (List.mem_of_getElem? (i := 8) rfl)))
  obtain ⟨n, o, h1, h2, h3, _, L, rfl, ⟨rfl, N⟩, hq⟩ := rm0 l s _ hw tables_1 s.heap i0 i1 i2 i3 i4 i5 w_NAME w_AND w_TOP w_EMPTY w_EMPTY_LIST
    ⟨Nat.le_refl _, fun _ _ q => q⟩
    (Sta.start ev_w_NAME (Or.inr ⟨(own_wd hw 5 rfl), (own_wd hw 6 rfl)⟩))
    (Exa.start ev_w_NAME n2)
    (Sta.start ev_w_AND (Or.inr ⟨(own_wd hw 5 rfl), (own_wd hw 77 rfl)⟩))
    (Exa.start ev_w_AND n4)
    (Sta.start ev_w_TOP (Or.inr ⟨(own_wd hw 5 rfl), (own_wd hw 79 rfl)⟩))
    (Exa.start ev_w_TOP n10)
    (Sta.start ev_w_EMPTY (Or.inl (hsets _ (List.mem_of_getElem? (i := 1) rfl))))
    (Exa.start ev_w_EMPTY (Cond.before_iff.mp (hsets _ (List.mem_of_getElem? (i := 2) rfl))))
    (Sta.start ev_w_EMPTY_LIST (Or.inl (hsets _ (List.mem_of_getElem? (i := 7) rfl))))
    (Exa.start ev_w_EMPTY_LIST (Cond.before_iff.mp (hsets _ (List.mem_of_getElem? (i := 8) rfl))))
    (Fld.start ((fld_at ev_w_NAME).symm.trans (own_evI n6)))
    (Fld.start ((fld_at ev_w_AND).symm.trans (own_evI n8)))
    (Fld.start ((fld_at ev_w_TOP).symm.trans (own_evI n11)))
    (Sta.start (own_evI (Cond.before_iff.mp (hsets _ (List.mem_of_getElem? (i := 5) rfl)))) (Or.inl (hsets _ (List.mem_of_getElem? (i := 4) rfl))))
    p e ha hc hk s m _ below hf ((Spec.applies_iff_loose hf).mp happ).1 ⟨rfl, State.Warmed39.refl s, rfl⟩ trivial
  refine ⟨n, _, h1, h2, h3, hpost _ _ _ _ _ _ ⟨Cond.after_iff.mpr rfl, Cond.after_iff.mpr (eq_i res_at (Term.int_eval (1)) rfl), trivial⟩ ⟨hq.1, hq.2.1, (hq.2.2.sift fun y hy => Or.inr (N y hy)).mono (by decide) (by decide)⟩⟩
theorem main_1_1 : Claimed_1_1 := comes_1 fun _ _ _ _ _ _ h hF => ⟨h.1, hF⟩
theorem main_1_2 : Claimed_1_2 := comes_1 fun _ _ _ _ _ _ h hF => ⟨h.2.1, hF⟩
end Jvm.Pilot.@@N@@
namespace Jvm.Pilot.@@N@@
open Jvm Jvm.ClassFile Sem Op Lib Jvm.Free Jvm.Stand Jvm.Pilot.@@N@@.Jvm.D
/-! MADE BY PROGRAM (witnessworld.py) out of the Statement's table words and the real class files: 29 classes; the members and pool entries that the words name. The judged class is class 1, her method 1. -/
namespace start1
open Jvm.ClassFile
def u (s : String) : CpInfo := .utf8 (stringToUtf16 s)
/-- a pool by its gaps: so many unusable entries, then the entry; so many at the end -/
def gap : Nat → List CpInfo → List CpInfo
  | 0, r => r
  | n + 1, r => .unusable :: gap n r
def poolList (es : List (Nat × CpInfo)) (last : Nat) : List CpInfo := es.foldr (fun e r => gap e.1 (e.2 :: r)) (gap last [])
def pool (es : List (Nat × CpInfo)) (last : Nat) : Array CpInfo := ⟨poolList es last⟩
def fileOf (pool : Array CpInfo) (this : Nat) (attrs : Array Attribute := #[]) (ms : Array MethodInfo := #[]) (fl : Nat := 33) (sup : Nat := 0) (ifs : Array Nat := #[]) (fds : Array FieldInfo := #[]) : ClassFile where
  minorVersion := 0
  majorVersion := 65
  constantPool := pool
  accessFlags := fl
  thisClass := this
  superClass := sup
  interfaces := ifs
  fields := fds
  methods := ms
  attributes := attrs
def plain (name : String) (sup : Option ClassId) : Class where
  name := name
  kind := .ordinary
  loader := none
  accessFlags := 33
  super := sup
  interfaces := #[]
  cf := none
  fields := #[]
  methods := #[]
  instanceTypes := #[]
  staticTypes := #[]
  resolved := #[]
  callSites := []
  init := .initialized
  statics := none
  mirror := none

def pool0 : Array CpInfo := pool [(5, u "<init>"), (0, u "()V"), (1, .class_ 10), (1, u "java/lang/Object")] 113

def k0c0 : Code := { maxStack := 0, maxLocals := 1, code := object_method_1_code, exceptionTable := #[], attributes := #[] }
def k0m0 : Method := { name := "<init>", desc := "()V", sig := { parameters := [], returnType := none }, accessFlags := 1, code := some k0c0 }
/-- java/lang/Object -/
def k0 : Class := { plain "java/lang/Object" none with
  accessFlags := 33
  interfaces := #[]
  cf := some (fileOf pool0 8 #[] #[{ accessFlags := 1, nameIndex := 5, descriptorIndex := 6, attributes := #[] }] 33 0 #[] #[])
  fields := #[]
  methods := #[k0m0]
  instanceTypes := #[]
  staticTypes := #[]
  resolved := Array.replicate 124 none
  statics := none }

def pool1 : Array CpInfo := pool [(2, .class_ 4), (0, .nameAndType 5 6), (0, u "java/lang/Object"), (0, u "<init>"), (0, u "()V"), (0, .integer 2147483647), (0, .class_ 9), (0, u "com/example/libentail/libentail/Concept"), (0, .fieldref 11 12), (0, .class_ 13), (0, .nameAndType 14 15), (0, u "com/example/libentail/libentail/Concept$Kind"), (0, u "NAME"), (0, u "Lcom/example/libentail/libentail/Concept$Kind;"), (0, .methodref 8 17), (0, .nameAndType 5 18), (0, u "(Ljava/lang/Object;Lcom/example/libentail/libentail/Concept$Kind;IILjava/lang/String;Lcom/example/libentail/libentail/Role;Ljava/util/List;J)V"), (0, .class_ 20), (0, u "com/example/libentail/libentail/ConceptIndex"), (0, .methodref 19 3), (0, .methodref 19 23), (0, .nameAndType 24 25), (0, u "put"), (0, u "(Lcom/example/libentail/libentail/Concept;I)V"), (0, .methodref 19 27), (0, .nameAndType 28 29), (0, u "remove"), (0, u "(Lcom/example/libentail/libentail/Concept;)V"), (0, .methodref 19 31), (0, .nameAndType 32 33), (0, u "get"), (0, u "(Lcom/example/libentail/libentail/Concept;)I"), (0, .class_ 35), (0, u "com/example/libentail/libentail/ConceptIndexRemovePinLaw"), (2, u "law"), (0, u "(IIIIII)Z")] 5

def k1m0 : Method := { name := "<init>", desc := "()V", sig := { parameters := [], returnType := none }, accessFlags := 1, code := none }
def k1c1 : Code := { maxStack := 11, maxLocals := 21, code := code, exceptionTable := #[], attributes := #[] }
def k1m1 : Method := { name := "law", desc := "(IIIIII)Z", sig := { parameters := [.int, .int, .int, .int, .int, .int], returnType := some .boolean }, accessFlags := 9, code := some k1c1 }
/-- com/example/libentail/libentail/ConceptIndexRemovePinLaw -/
def k1 : Class := { plain "com/example/libentail/libentail/ConceptIndexRemovePinLaw" (some 0) with
  accessFlags := 49
  interfaces := #[]
  cf := some (fileOf pool1 34 #[] #[{ accessFlags := 1, nameIndex := 5, descriptorIndex := 6, attributes := #[] }, { accessFlags := 9, nameIndex := 38, descriptorIndex := 39, attributes := #[] }] 49 2 #[] #[])
  fields := #[]
  methods := #[k1m0, k1m1]
  instanceTypes := #[]
  staticTypes := #[]
  resolved := Array.replicate 45 none
  statics := none }

def pool2 : Array CpInfo := pool [(1, .methodref 2 3), (0, .class_ 4), (0, .nameAndType 5 6), (0, u "java/lang/Object"), (0, u "<init>"), (0, u "()V"), (0, .interfaceMethodref 8 9), (0, .class_ 10), (0, .nameAndType 11 12), (0, u "java/util/List"), (0, u "of"), (0, u "(Ljava/lang/Object;)Ljava/util/List;"), (0, .fieldref 14 15), (0, .class_ 16), (0, .nameAndType 17 18), (0, u "com/example/libentail/libentail/Concept"), (0, u "alone"), (0, u "Ljava/util/List;"), (0, .fieldref 14 20), (0, .nameAndType 21 22), (0, u "owner"), (0, u "Ljava/lang/Object;"), (0, .fieldref 14 24), (0, .nameAndType 25 26), (0, u "kind"), (0, u "Lcom/example/libentail/libentail/Concept$Kind;"), (0, .fieldref 14 28), (0, .nameAndType 29 30), (0, u "id"), (0, u "I"), (0, .fieldref 14 32), (0, .nameAndType 33 30), (0, u "place"), (0, .fieldref 14 35), (0, .nameAndType 36 37), (0, u "name"), (0, u "Ljava/lang/String;"), (0, .fieldref 14 39), (0, .nameAndType 40 41), (0, u "role"), (0, u "Lcom/example/libentail/libentail/Role;"), (0, .fieldref 14 43), (0, .nameAndType 44 18), (0, u "operands"), (0, .fieldref 14 46), (0, .nameAndType 47 48), (0, u "number"), (0, u "J"), (0, .methodref 14 50), (0, .nameAndType 51 52), (0, u "conjuncts"), (0, u "()Ljava/util/List;"), (0, .interfaceMethodref 8 54), (0, .nameAndType 55 56), (0, u "iterator"), (0, u "()Ljava/util/Iterator;"), (0, .interfaceMethodref 58 59), (0, .class_ 60), (0, .nameAndType 61 62), (0, u "java/util/Iterator"), (0, u "hasNext"), (0, u "()Z"), (0, .interfaceMethodref 58 64), (0, .nameAndType 65 66), (0, u "next"), (0, u "()Ljava/lang/Object;"), (0, .fieldref 14 68), (0, .nameAndType 69 48), (0, u "conjunctBits"), (0, .fieldref 71 72), (0, .class_ 73), (0, .nameAndType 74 26), (0, u "com/example/libentail/libentail/Concept$Kind"), (0, u "AND"), (0, .fieldref 71 76), (0, .nameAndType 77 26), (0, u "TOP"), (10, u "negation"), (0, u "Lcom/example/libentail/libentail/Concept;"), (3, u "()I"), (2, u "ORDER"), (0, u "Ljava/util/Comparator;"), (69, u "(Ljava/lang/Object;Lcom/example/libentail/libentail/Concept$Kind;IILjava/lang/String;Lcom/example/libentail/libentail/Role;Ljava/util/List;J)V")] 48

def k2c0 : Code := { maxStack := 5, maxLocals := 14, code := prog_2_method_1_code, exceptionTable := #[], attributes := #[] }
def k2m0 : Method := { name := "<init>", desc := "(Ljava/lang/Object;Lcom/example/libentail/libentail/Concept$Kind;IILjava/lang/String;Lcom/example/libentail/libentail/Role;Ljava/util/List;J)V", sig := { parameters := [(.object "java/lang/Object"), (.object "com/example/libentail/libentail/Concept$Kind"), .int, .int, (.object "java/lang/String"), (.object "com/example/libentail/libentail/Role"), (.object "java/util/List"), .long], returnType := none }, accessFlags := 0, code := some k2c0 }
def k2c1 : Code := { maxStack := 1, maxLocals := 1, code := prog_2_method_4_code, exceptionTable := #[], attributes := #[] }
def k2m1 : Method := { name := "id", desc := "()I", sig := { parameters := [], returnType := some .int }, accessFlags := 0, code := some k2c1 }
def k2c2 : Code := { maxStack := 2, maxLocals := 2, code := prog_2_method_11_code, exceptionTable := #[], attributes := #[] }
def k2m2 : Method := { name := "conjuncts", desc := "()Ljava/util/List;", sig := { parameters := [], returnType := some (.object "java/util/List") }, accessFlags := 0, code := some k2c2 }
/-- com/example/libentail/libentail/Concept -/
def k2 : Class := { plain "com/example/libentail/libentail/Concept" (some 0) with
  accessFlags := 49
  interfaces := #[]
  cf := some (fileOf pool2 14 #[.nestMembers #[71]] #[{ accessFlags := 0, nameIndex := 5, descriptorIndex := 167, attributes := #[] }, { accessFlags := 0, nameIndex := 29, descriptorIndex := 93, attributes := #[] }, { accessFlags := 0, nameIndex := 51, descriptorIndex := 52, attributes := #[] }] 49 2 #[] #[{ accessFlags := 24, nameIndex := 96, descriptorIndex := 97, attributes := #[] }, { accessFlags := 18, nameIndex := 21, descriptorIndex := 22, attributes := #[] }, { accessFlags := 18, nameIndex := 25, descriptorIndex := 26, attributes := #[] }, { accessFlags := 18, nameIndex := 29, descriptorIndex := 30, attributes := #[] }, { accessFlags := 2, nameIndex := 33, descriptorIndex := 30, attributes := #[] }, { accessFlags := 18, nameIndex := 36, descriptorIndex := 37, attributes := #[] }, { accessFlags := 18, nameIndex := 40, descriptorIndex := 41, attributes := #[] }, { accessFlags := 2, nameIndex := 44, descriptorIndex := 18, attributes := #[] }, { accessFlags := 18, nameIndex := 47, descriptorIndex := 48, attributes := #[] }, { accessFlags := 2, nameIndex := 88, descriptorIndex := 89, attributes := #[] }, { accessFlags := 18, nameIndex := 17, descriptorIndex := 18, attributes := #[] }, { accessFlags := 18, nameIndex := 69, descriptorIndex := 48, attributes := #[] }])
  fields := #[{ name := "ORDER", type := (.object "java/util/Comparator"), accessFlags := 24, slot := 0, constantValue := 0 }, { name := "owner", type := (.object "java/lang/Object"), accessFlags := 18, slot := 0, constantValue := 0 }, { name := "kind", type := (.object "com/example/libentail/libentail/Concept$Kind"), accessFlags := 18, slot := 1, constantValue := 0 }, { name := "id", type := .int, accessFlags := 18, slot := 2, constantValue := 0 }, { name := "place", type := .int, accessFlags := 2, slot := 3, constantValue := 0 }, { name := "name", type := (.object "java/lang/String"), accessFlags := 18, slot := 4, constantValue := 0 }, { name := "role", type := (.object "com/example/libentail/libentail/Role"), accessFlags := 18, slot := 5, constantValue := 0 }, { name := "operands", type := (.object "java/util/List"), accessFlags := 2, slot := 6, constantValue := 0 }, { name := "number", type := .long, accessFlags := 18, slot := 7, constantValue := 0 }, { name := "negation", type := (.object "com/example/libentail/libentail/Concept"), accessFlags := 2, slot := 8, constantValue := 0 }, { name := "alone", type := (.object "java/util/List"), accessFlags := 18, slot := 9, constantValue := 0 }, { name := "conjunctBits", type := .long, accessFlags := 18, slot := 10, constantValue := 0 }]
  methods := #[k2m0, k2m1, k2m2]
  instanceTypes := #[(.object "java/lang/Object"), (.object "com/example/libentail/libentail/Concept$Kind"), .int, .int, (.object "java/lang/String"), (.object "com/example/libentail/libentail/Role"), (.object "java/util/List"), .long, (.object "com/example/libentail/libentail/Concept"), (.object "java/util/List"), .long]
  staticTypes := #[(.object "java/util/Comparator")]
  resolved := Array.replicate 216 none
  statics := none }

def pool3 : Array CpInfo := pool [(1, .class_ 2), (0, u "java/lang/constant/Constable"), (0, .class_ 4), (0, u "java/lang/Object")] 6

/-- java/lang/constant/Constable -/
def k3 : Class := { plain "java/lang/constant/Constable" (some 0) with
  accessFlags := 1537
  interfaces := #[]
  cf := some (fileOf pool3 1 #[] #[] 1537 3 #[] #[])
  fields := #[]
  methods := #[]
  instanceTypes := #[]
  staticTypes := #[]
  resolved := Array.replicate 11 none
  statics := none }

def pool4 : Array CpInfo := pool [(1, .class_ 2), (0, u "java/lang/Comparable"), (0, .class_ 4), (0, u "java/lang/Object")] 7

/-- java/lang/Comparable -/
def k4 : Class := { plain "java/lang/Comparable" (some 0) with
  accessFlags := 1537
  interfaces := #[]
  cf := some (fileOf pool4 1 #[] #[] 1537 3 #[] #[])
  fields := #[]
  methods := #[]
  instanceTypes := #[]
  staticTypes := #[]
  resolved := Array.replicate 12 none
  statics := none }

def pool5 : Array CpInfo := pool [(1, .class_ 2), (0, u "java/io/Serializable"), (0, .class_ 4), (0, u "java/lang/Object")] 2

/-- java/io/Serializable -/
def k5 : Class := { plain "java/io/Serializable" (some 0) with
  accessFlags := 1537
  interfaces := #[]
  cf := some (fileOf pool5 1 #[] #[] 1537 3 #[] #[])
  fields := #[]
  methods := #[]
  instanceTypes := #[]
  staticTypes := #[]
  resolved := Array.replicate 7 none
  statics := none }

def pool6 : Array CpInfo := pool [(2, .class_ 4), (1, u "java/lang/Enum"), (0, u "name"), (0, u "Ljava/lang/String;"), (2, u "ordinal"), (0, u "I"), (1, .class_ 14), (1, u "java/lang/Object"), (4, u "hash"), (86, .class_ 108), (1, u "java/lang/Enum$EnumDesc"), (2, .class_ 112), (0, u "java/lang/constant/Constable"), (0, .class_ 114), (0, u "java/lang/Comparable"), (0, .class_ 116), (0, u "java/io/Serializable")] 87

/-- java/lang/Enum -/
def k6 : Class := { plain "java/lang/Enum" (some 0) with
  accessFlags := 1057
  interfaces := #[3, 4, 5]
  cf := some (fileOf pool6 2 #[.nestMembers #[106]] #[] 1057 12 #[111, 113, 115] #[{ accessFlags := 18, nameIndex := 5, descriptorIndex := 6, attributes := #[] }, { accessFlags := 18, nameIndex := 9, descriptorIndex := 10, attributes := #[] }, { accessFlags := 2, nameIndex := 19, descriptorIndex := 10, attributes := #[] }])
  fields := #[{ name := "name", type := (.object "java/lang/String"), accessFlags := 18, slot := 0, constantValue := 0 }, { name := "ordinal", type := .int, accessFlags := 18, slot := 1, constantValue := 0 }, { name := "hash", type := .int, accessFlags := 2, slot := 2, constantValue := 0 }]
  methods := #[]
  instanceTypes := #[(.object "java/lang/String"), .int, .int]
  staticTypes := #[]
  resolved := Array.replicate 204 none
  statics := none }

def pool7 : Array CpInfo := pool [(1, .class_ 2), (0, u "com/example/libentail/libentail/Concept$Kind"), (2, u "TOP"), (0, u "Lcom/example/libentail/libentail/Concept$Kind;"), (2, u "BOTTOM"), (2, u "NAME"), (2, u "NOT_NAME"), (2, u "INDIVIDUAL"), (2, u "NOT_INDIVIDUAL"), (2, u "AND"), (2, u "OR"), (2, u "ALL"), (2, u "SOME"), (2, u "AT_LEAST"), (2, u "AT_MOST"), (2, u "$VALUES"), (0, u "[Lcom/example/libentail/libentail/Concept$Kind;"), (6, .class_ 52), (1, u "java/lang/Enum"), (35, .class_ 89), (0, u "com/example/libentail/libentail/Concept")] 2

/-- com/example/libentail/libentail/Concept$Kind -/
def k7 : Class := { plain "com/example/libentail/libentail/Concept$Kind" (some 6) with
  accessFlags := 16432
  interfaces := #[]
  cf := some (fileOf pool7 1 #[.nestHost 88] #[] 16432 50 #[] #[{ accessFlags := 16409, nameIndex := 5, descriptorIndex := 6, attributes := #[] }, { accessFlags := 16409, nameIndex := 9, descriptorIndex := 6, attributes := #[] }, { accessFlags := 16409, nameIndex := 12, descriptorIndex := 6, attributes := #[] }, { accessFlags := 16409, nameIndex := 15, descriptorIndex := 6, attributes := #[] }, { accessFlags := 16409, nameIndex := 18, descriptorIndex := 6, attributes := #[] }, { accessFlags := 16409, nameIndex := 21, descriptorIndex := 6, attributes := #[] }, { accessFlags := 16409, nameIndex := 24, descriptorIndex := 6, attributes := #[] }, { accessFlags := 16409, nameIndex := 27, descriptorIndex := 6, attributes := #[] }, { accessFlags := 16409, nameIndex := 30, descriptorIndex := 6, attributes := #[] }, { accessFlags := 16409, nameIndex := 33, descriptorIndex := 6, attributes := #[] }, { accessFlags := 16409, nameIndex := 36, descriptorIndex := 6, attributes := #[] }, { accessFlags := 16409, nameIndex := 39, descriptorIndex := 6, attributes := #[] }, { accessFlags := 4122, nameIndex := 42, descriptorIndex := 43, attributes := #[] }])
  fields := #[{ name := "TOP", type := (.object "com/example/libentail/libentail/Concept$Kind"), accessFlags := 16409, slot := 0, constantValue := 0 }, { name := "BOTTOM", type := (.object "com/example/libentail/libentail/Concept$Kind"), accessFlags := 16409, slot := 1, constantValue := 0 }, { name := "NAME", type := (.object "com/example/libentail/libentail/Concept$Kind"), accessFlags := 16409, slot := 2, constantValue := 0 }, { name := "NOT_NAME", type := (.object "com/example/libentail/libentail/Concept$Kind"), accessFlags := 16409, slot := 3, constantValue := 0 }, { name := "INDIVIDUAL", type := (.object "com/example/libentail/libentail/Concept$Kind"), accessFlags := 16409, slot := 4, constantValue := 0 }, { name := "NOT_INDIVIDUAL", type := (.object "com/example/libentail/libentail/Concept$Kind"), accessFlags := 16409, slot := 5, constantValue := 0 }, { name := "AND", type := (.object "com/example/libentail/libentail/Concept$Kind"), accessFlags := 16409, slot := 6, constantValue := 0 }, { name := "OR", type := (.object "com/example/libentail/libentail/Concept$Kind"), accessFlags := 16409, slot := 7, constantValue := 0 }, { name := "ALL", type := (.object "com/example/libentail/libentail/Concept$Kind"), accessFlags := 16409, slot := 8, constantValue := 0 }, { name := "SOME", type := (.object "com/example/libentail/libentail/Concept$Kind"), accessFlags := 16409, slot := 9, constantValue := 0 }, { name := "AT_LEAST", type := (.object "com/example/libentail/libentail/Concept$Kind"), accessFlags := 16409, slot := 10, constantValue := 0 }, { name := "AT_MOST", type := (.object "com/example/libentail/libentail/Concept$Kind"), accessFlags := 16409, slot := 11, constantValue := 0 }, { name := "$VALUES", type := (.array (.object "com/example/libentail/libentail/Concept$Kind")), accessFlags := 4122, slot := 12, constantValue := 0 }]
  methods := #[]
  instanceTypes := #[(.object "java/lang/String"), .int, .int]
  staticTypes := #[(.object "com/example/libentail/libentail/Concept$Kind"), (.object "com/example/libentail/libentail/Concept$Kind"), (.object "com/example/libentail/libentail/Concept$Kind"), (.object "com/example/libentail/libentail/Concept$Kind"), (.object "com/example/libentail/libentail/Concept$Kind"), (.object "com/example/libentail/libentail/Concept$Kind"), (.object "com/example/libentail/libentail/Concept$Kind"), (.object "com/example/libentail/libentail/Concept$Kind"), (.object "com/example/libentail/libentail/Concept$Kind"), (.object "com/example/libentail/libentail/Concept$Kind"), (.object "com/example/libentail/libentail/Concept$Kind"), (.object "com/example/libentail/libentail/Concept$Kind"), (.array (.object "com/example/libentail/libentail/Concept$Kind"))]
  resolved := Array.replicate 92 none
  statics := some 0 }

def pool8 : Array CpInfo := pool [(8, .class_ 10), (1, u "java/lang/Iterable"), (24, .class_ 36), (0, u "java/lang/Object")] 25

/-- java/lang/Iterable -/
def k8 : Class := { plain "java/lang/Iterable" (some 0) with
  accessFlags := 1537
  interfaces := #[]
  cf := some (fileOf pool8 8 #[] #[] 1537 35 #[] #[])
  fields := #[]
  methods := #[]
  instanceTypes := #[]
  staticTypes := #[]
  resolved := Array.replicate 62 none
  statics := none }

def pool9 : Array CpInfo := pool [(10, .class_ 12), (1, u "java/util/Collection"), (47, .class_ 61), (0, u "java/lang/Object"), (0, .class_ 63), (0, u "java/lang/Iterable")] 51

/-- java/util/Collection -/
def k9 : Class := { plain "java/util/Collection" (some 0) with
  accessFlags := 1537
  interfaces := #[8]
  cf := some (fileOf pool9 10 #[] #[] 1537 60 #[62] #[])
  fields := #[]
  methods := #[]
  instanceTypes := #[]
  staticTypes := #[]
  resolved := Array.replicate 115 none
  statics := none }

def pool10 : Array CpInfo := pool [(8, .class_ 10), (1, u "java/util/SequencedCollection"), (15, .class_ 27), (0, u "java/lang/Object"), (0, .class_ 29), (0, u "java/util/Collection")] 27

/-- java/util/SequencedCollection -/
def k10 : Class := { plain "java/util/SequencedCollection" (some 0) with
  accessFlags := 1537
  interfaces := #[9]
  cf := some (fileOf pool10 8 #[] #[] 1537 26 #[28] #[])
  fields := #[]
  methods := #[]
  instanceTypes := #[]
  staticTypes := #[]
  resolved := Array.replicate 57 none
  statics := none }

def pool11 : Array CpInfo := pool [(8, .class_ 10), (1, u "java/util/List"), (20, u "(Ljava/lang/Object;)V"), (16, u "<init>"), (26, u "get"), (0, u "(I)Ljava/lang/Object;"), (11, u "of"), (7, .class_ 97), (0, u "java/util/ImmutableCollections$List12"), (0, .methodref 96 99), (0, .nameAndType 48 31), (3, .class_ 104), (0, u "java/lang/Object"), (15, .class_ 121), (0, u "java/util/SequencedCollection"), (1, u "iterator"), (0, u "()Ljava/util/Iterator;"), (73, u "(Ljava/lang/Object;)Ljava/util/List;")] 52

def k11m0 : Method := { name := "iterator", desc := "()Ljava/util/Iterator;", sig := { parameters := [], returnType := some (.object "java/util/Iterator") }, accessFlags := 1025, code := none }
def k11m1 : Method := { name := "get", desc := "(I)Ljava/lang/Object;", sig := { parameters := [.int], returnType := some (.object "java/lang/Object") }, accessFlags := 1025, code := none }
def k11c2 : Code := { maxStack := 3, maxLocals := 1, code := jdk_40_method_37_code, exceptionTable := #[], attributes := #[] }
def k11m2 : Method := { name := "of", desc := "(Ljava/lang/Object;)Ljava/util/List;", sig := { parameters := [(.object "java/lang/Object")], returnType := some (.object "java/util/List") }, accessFlags := 9, code := some k11c2 }
/-- java/util/List -/
def k11 : Class := { plain "java/util/List" (some 0) with
  accessFlags := 1537
  interfaces := #[10]
  cf := some (fileOf pool11 8 #[] #[{ accessFlags := 1025, nameIndex := 123, descriptorIndex := 124, attributes := #[] }, { accessFlags := 1025, nameIndex := 75, descriptorIndex := 76, attributes := #[] }, { accessFlags := 9, nameIndex := 88, descriptorIndex := 198, attributes := #[] }] 1537 103 #[120] #[])
  fields := #[]
  methods := #[k11m0, k11m1, k11m2]
  instanceTypes := #[]
  staticTypes := #[]
  resolved := Array.replicate 251 none
  statics := none }

def pool12 : Array CpInfo := pool [(1, .methodref 2 3), (0, .class_ 4), (0, .nameAndType 5 6), (0, u "java/lang/Object"), (0, u "<init>"), (0, u "()V"), (1, .class_ 10), (1, u "java/util/AbstractCollection"), (0, u "size"), (0, u "()I"), (64, .class_ 78), (0, u "java/util/Collection")] 81

def k12c0 : Code := { maxStack := 1, maxLocals := 1, code := jdk_22_method_1_code, exceptionTable := #[], attributes := #[] }
def k12m0 : Method := { name := "<init>", desc := "()V", sig := { parameters := [], returnType := none }, accessFlags := 4, code := some k12c0 }
def k12m1 : Method := { name := "size", desc := "()I", sig := { parameters := [], returnType := some .int }, accessFlags := 1025, code := none }
/-- java/util/AbstractCollection -/
def k12 : Class := { plain "java/util/AbstractCollection" (some 0) with
  accessFlags := 1057
  interfaces := #[9]
  cf := some (fileOf pool12 8 #[] #[{ accessFlags := 4, nameIndex := 5, descriptorIndex := 6, attributes := #[] }, { accessFlags := 1025, nameIndex := 11, descriptorIndex := 12, attributes := #[] }] 1057 2 #[77] #[])
  fields := #[]
  methods := #[k12m0, k12m1]
  instanceTypes := #[]
  staticTypes := #[]
  resolved := Array.replicate 160 none
  statics := none }

def pool13 : Array CpInfo := pool [(1, .methodref 2 3), (0, .class_ 4), (0, .nameAndType 5 6), (0, u "java/util/AbstractCollection"), (0, u "<init>"), (0, u "()V"), (1, .class_ 10), (1, u "java/util/ImmutableCollections"), (2, .class_ 14), (0, u "java/util/ImmutableCollections$AbstractImmutableCollection")] 41

def k13c0 : Code := { maxStack := 1, maxLocals := 1, code := jdk_47_method_1_code, exceptionTable := #[], attributes := #[] }
def k13m0 : Method := { name := "<init>", desc := "()V", sig := { parameters := [], returnType := none }, accessFlags := 0, code := some k13c0 }
/-- java/util/ImmutableCollections$AbstractImmutableCollection -/
def k13 : Class := { plain "java/util/ImmutableCollections$AbstractImmutableCollection" (some 12) with
  accessFlags := 1056
  interfaces := #[]
  cf := some (fileOf pool13 13 #[.nestHost 8] #[{ accessFlags := 0, nameIndex := 5, descriptorIndex := 6, attributes := #[] }] 1056 2 #[] #[])
  fields := #[]
  methods := #[k13m0]
  instanceTypes := #[]
  staticTypes := #[]
  resolved := Array.replicate 56 none
  statics := none }

def pool14 : Array CpInfo := pool [(1, .class_ 2), (0, u "java/util/RandomAccess"), (0, .class_ 4), (0, u "java/lang/Object")] 2

/-- java/util/RandomAccess -/
def k14 : Class := { plain "java/util/RandomAccess" (some 0) with
  accessFlags := 1537
  interfaces := #[]
  cf := some (fileOf pool14 1 #[] #[] 1537 3 #[] #[])
  fields := #[]
  methods := #[]
  instanceTypes := #[]
  staticTypes := #[]
  resolved := Array.replicate 7 none
  statics := none }

def pool15 : Array CpInfo := pool [(1, .methodref 2 3), (0, .class_ 4), (0, .nameAndType 5 6), (0, u "java/util/ImmutableCollections$AbstractImmutableCollection"), (0, u "<init>"), (0, u "()V"), (1, .class_ 10), (1, u "java/util/ImmutableCollections"), (2, .methodref 14 15), (0, .class_ 16), (0, .nameAndType 17 18), (0, u "java/util/ImmutableCollections$AbstractImmutableList"), (0, u "size"), (0, u "()I"), (42, .class_ 62), (0, u "java/util/ImmutableCollections$ListItr"), (0, .methodref 61 64), (0, .nameAndType 5 65), (0, u "(Ljava/util/List;I)V"), (11, .class_ 78), (0, u "java/util/List"), (2, u "iterator"), (0, u "()Ljava/util/Iterator;"), (41, .class_ 125), (0, u "java/util/RandomAccess")] 70

def k15c0 : Code := { maxStack := 1, maxLocals := 1, code := jdk_46_method_1_code, exceptionTable := #[], attributes := #[] }
def k15m0 : Method := { name := "<init>", desc := "()V", sig := { parameters := [], returnType := none }, accessFlags := 0, code := some k15c0 }
def k15c1 : Code := { maxStack := 4, maxLocals := 1, code := jdk_46_method_10_code, exceptionTable := #[], attributes := #[] }
def k15m1 : Method := { name := "iterator", desc := "()Ljava/util/Iterator;", sig := { parameters := [], returnType := some (.object "java/util/Iterator") }, accessFlags := 1, code := some k15c1 }
/-- java/util/ImmutableCollections$AbstractImmutableList -/
def k15 : Class := { plain "java/util/ImmutableCollections$AbstractImmutableList" (some 13) with
  accessFlags := 1056
  interfaces := #[11, 14]
  cf := some (fileOf pool15 14 #[.nestHost 8] #[{ accessFlags := 0, nameIndex := 5, descriptorIndex := 6, attributes := #[] }, { accessFlags := 1, nameIndex := 81, descriptorIndex := 82, attributes := #[] }] 1056 2 #[77, 124] #[])
  fields := #[]
  methods := #[k15m0, k15m1]
  instanceTypes := #[]
  staticTypes := #[]
  resolved := Array.replicate 196 none
  statics := none }

def pool16 : Array CpInfo := pool [(1, .methodref 2 3), (0, .class_ 4), (0, .nameAndType 5 6), (0, u "java/util/ImmutableCollections$AbstractImmutableList"), (0, u "<init>"), (0, u "()V"), (0, .methodref 8 9), (0, .class_ 10), (0, .nameAndType 11 12), (0, u "java/util/Objects"), (0, u "requireNonNull"), (0, u "(Ljava/lang/Object;)Ljava/lang/Object;"), (0, .fieldref 14 15), (0, .class_ 16), (0, .nameAndType 17 18), (0, u "java/util/ImmutableCollections$List12"), (0, u "e0"), (0, u "Ljava/lang/Object;"), (0, .fieldref 20 21), (0, .class_ 22), (0, .nameAndType 23 18), (0, u "java/util/ImmutableCollections"), (0, u "EMPTY"), (0, .fieldref 14 25), (0, .nameAndType 26 18), (0, u "e1"), (24, u "size"), (0, u "()I"), (17, .class_ 71), (0, u "java/io/Serializable"), (4, u "(Ljava/lang/Object;)V"), (13, u "get"), (0, u "(I)Ljava/lang/Object;")] 33

def k16c0 : Code := { maxStack := 2, maxLocals := 2, code := jdk_44_method_1_code, exceptionTable := #[], attributes := #[] }
def k16m0 : Method := { name := "<init>", desc := "(Ljava/lang/Object;)V", sig := { parameters := [(.object "java/lang/Object")], returnType := none }, accessFlags := 0, code := some k16c0 }
def k16c1 : Code := { maxStack := 2, maxLocals := 1, code := jdk_44_method_3_code, exceptionTable := #[], attributes := #[] }
def k16m1 : Method := { name := "size", desc := "()I", sig := { parameters := [], returnType := some .int }, accessFlags := 1, code := some k16c1 }
def k16c2 : Code := { maxStack := 2, maxLocals := 2, code := jdk_44_method_5_code, exceptionTable := #[], attributes := #[] }
def k16m2 : Method := { name := "get", desc := "(I)Ljava/lang/Object;", sig := { parameters := [.int], returnType := some (.object "java/lang/Object") }, accessFlags := 1, code := some k16c2 }
/-- java/util/ImmutableCollections$List12 -/
def k16 : Class := { plain "java/util/ImmutableCollections$List12" (some 15) with
  accessFlags := 48
  interfaces := #[5]
  cf := some (fileOf pool16 14 #[.nestHost 20] #[{ accessFlags := 0, nameIndex := 5, descriptorIndex := 76, attributes := #[] }, { accessFlags := 1, nameIndex := 51, descriptorIndex := 52, attributes := #[] }, { accessFlags := 1, nameIndex := 90, descriptorIndex := 91, attributes := #[] }] 48 2 #[70] #[{ accessFlags := 18, nameIndex := 17, descriptorIndex := 18, attributes := #[] }, { accessFlags := 18, nameIndex := 26, descriptorIndex := 18, attributes := #[] }])
  fields := #[{ name := "e0", type := (.object "java/lang/Object"), accessFlags := 18, slot := 0, constantValue := 0 }, { name := "e1", type := (.object "java/lang/Object"), accessFlags := 18, slot := 1, constantValue := 0 }]
  methods := #[k16m0, k16m1, k16m2]
  instanceTypes := #[(.object "java/lang/Object"), (.object "java/lang/Object")]
  staticTypes := #[]
  resolved := Array.replicate 125 none
  statics := none }

def pool17 : Array CpInfo := pool [(2, .class_ 4), (1, u "java/lang/Object"), (0, u "<init>"), (0, u "()V"), (35, .class_ 44), (1, u "java/util/Objects"), (0, u "requireNonNull"), (0, u "(Ljava/lang/Object;)Ljava/lang/Object;")] 137

def k17m0 : Method := { name := "<init>", desc := "()V", sig := { parameters := [], returnType := none }, accessFlags := 2, code := none }
def k17c1 : Code := { maxStack := 2, maxLocals := 1, code := jdk_31_method_10_code, exceptionTable := #[], attributes := #[] }
def k17m1 : Method := { name := "requireNonNull", desc := "(Ljava/lang/Object;)Ljava/lang/Object;", sig := { parameters := [(.object "java/lang/Object")], returnType := some (.object "java/lang/Object") }, accessFlags := 9, code := some k17c1 }
/-- java/util/Objects -/
def k17 : Class := { plain "java/util/Objects" (some 0) with
  accessFlags := 49
  interfaces := #[]
  cf := some (fileOf pool17 42 #[] #[{ accessFlags := 2, nameIndex := 5, descriptorIndex := 6, attributes := #[] }, { accessFlags := 9, nameIndex := 45, descriptorIndex := 46, attributes := #[] }] 49 2 #[] #[])
  fields := #[]
  methods := #[k17m0, k17m1]
  instanceTypes := #[]
  staticTypes := #[]
  resolved := Array.replicate 184 none
  statics := none }

def pool18 : Array CpInfo := pool [(2, .class_ 4), (1, u "java/lang/Object"), (0, u "<init>"), (0, u "()V"), (3, .class_ 11), (0, u "java/util/ImmutableCollections$List12"), (0, .class_ 13), (0, u "java/util/ImmutableCollections$ListN"), (3, u "Z"), (29, .class_ 49), (1, u "java/util/ImmutableCollections"), (0, u "$assertionsDisabled"), (5, u "[Ljava/lang/Object;"), (5, u "EMPTY_LIST"), (0, u "Ljava/util/ImmutableCollections$ListN;"), (8, u "EMPTY_LIST_NULLS"), (22, u "SALT32L"), (0, u "J"), (2, u "REVERSE"), (6, u "archivedObjects"), (2, u "EMPTY"), (0, u "Ljava/lang/Object;"), (0, .class_ 112), (0, u "java/util/ImmutableCollections$SetN"), (5, u "EMPTY_SET"), (0, u "Ljava/util/ImmutableCollections$SetN;"), (0, .class_ 121), (0, u "java/util/ImmutableCollections$MapN"), (3, u "EMPTY_MAP"), (0, u "Ljava/util/ImmutableCollections$MapN;"), (4, u "EXPAND_FACTOR"), (0, u "I"), (36, .class_ 170), (0, u "java/util/ImmutableCollections$MapN$MapNIterator"), (0, .class_ 172), (0, u "java/util/ImmutableCollections$MapN$1"), (0, .class_ 174), (0, u "java/util/ImmutableCollections$Map1"), (0, .class_ 176), (0, u "java/util/ImmutableCollections$AbstractImmutableMap"), (0, .class_ 178), (0, u "java/util/ImmutableCollections$SetN$SetNIterator"), (0, .class_ 180), (0, u "java/util/ImmutableCollections$Set12"), (0, .class_ 182), (0, u "java/util/ImmutableCollections$Set12$1"), (0, .class_ 184), (0, u "java/util/ImmutableCollections$AbstractImmutableSet"), (0, .class_ 186), (0, u "java/util/ImmutableCollections$SubList"), (0, .class_ 188), (0, u "java/util/ImmutableCollections$ListItr"), (0, .class_ 190), (0, u "java/util/ImmutableCollections$AbstractImmutableList"), (0, .class_ 192), (0, u "java/util/ImmutableCollections$AbstractImmutableCollection"), (0, .class_ 194), (0, u "java/util/ImmutableCollections$Access"), (0, .class_ 196), (0, u "java/util/ImmutableCollections$Access$1")] 16

def k18m0 : Method := { name := "<init>", desc := "()V", sig := { parameters := [], returnType := none }, accessFlags := 2, code := none }
/-- java/util/ImmutableCollections -/
def k18 : Class := { plain "java/util/ImmutableCollections" (some 0) with
  accessFlags := 32
  interfaces := #[]
  cf := some (fileOf pool18 47 #[.nestMembers #[120, 169, 171, 173, 175, 111, 177, 179, 181, 183, 12, 10, 185, 187, 189, 191, 193, 195]] #[{ accessFlags := 2, nameIndex := 5, descriptorIndex := 6, attributes := #[] }] 32 2 #[] #[{ accessFlags := 26, nameIndex := 95, descriptorIndex := 96, attributes := #[] }, { accessFlags := 26, nameIndex := 99, descriptorIndex := 17, attributes := #[] }, { accessFlags := 10, nameIndex := 106, descriptorIndex := 56, attributes := #[] }, { accessFlags := 26, nameIndex := 109, descriptorIndex := 110, attributes := #[] }, { accessFlags := 24, nameIndex := 62, descriptorIndex := 63, attributes := #[] }, { accessFlags := 24, nameIndex := 72, descriptorIndex := 63, attributes := #[] }, { accessFlags := 24, nameIndex := 118, descriptorIndex := 119, attributes := #[] }, { accessFlags := 24, nameIndex := 125, descriptorIndex := 126, attributes := #[] }, { accessFlags := 24, nameIndex := 131, descriptorIndex := 132, attributes := #[] }, { accessFlags := 4120, nameIndex := 50, descriptorIndex := 17, attributes := #[] }])
  fields := #[{ name := "SALT32L", type := .long, accessFlags := 26, slot := 0, constantValue := 0 }, { name := "REVERSE", type := .boolean, accessFlags := 26, slot := 1, constantValue := 0 }, { name := "archivedObjects", type := (.array (.object "java/lang/Object")), accessFlags := 10, slot := 2, constantValue := 0 }, { name := "EMPTY", type := (.object "java/lang/Object"), accessFlags := 26, slot := 3, constantValue := 0 }, { name := "EMPTY_LIST", type := (.object "java/util/ImmutableCollections$ListN"), accessFlags := 24, slot := 4, constantValue := 0 }, { name := "EMPTY_LIST_NULLS", type := (.object "java/util/ImmutableCollections$ListN"), accessFlags := 24, slot := 5, constantValue := 0 }, { name := "EMPTY_SET", type := (.object "java/util/ImmutableCollections$SetN"), accessFlags := 24, slot := 6, constantValue := 0 }, { name := "EMPTY_MAP", type := (.object "java/util/ImmutableCollections$MapN"), accessFlags := 24, slot := 7, constantValue := 0 }, { name := "EXPAND_FACTOR", type := .int, accessFlags := 24, slot := 8, constantValue := 0 }, { name := "$assertionsDisabled", type := .boolean, accessFlags := 4120, slot := 9, constantValue := 0 }]
  methods := #[k18m0]
  instanceTypes := #[]
  staticTypes := #[.long, .boolean, (.array (.object "java/lang/Object")), (.object "java/lang/Object"), (.object "java/util/ImmutableCollections$ListN"), (.object "java/util/ImmutableCollections$ListN"), (.object "java/util/ImmutableCollections$SetN"), (.object "java/util/ImmutableCollections$MapN"), .int, .boolean]
  resolved := Array.replicate 213 none
  statics := some 1 }

def pool19 : Array CpInfo := pool [(16, .class_ 18), (1, u "java/util/Iterator"), (0, u "hasNext"), (0, u "()Z"), (2, u "next"), (0, u "()Ljava/lang/Object;"), (6, .class_ 32), (0, u "java/lang/Object")] 20

def k19m0 : Method := { name := "hasNext", desc := "()Z", sig := { parameters := [], returnType := some .boolean }, accessFlags := 1025, code := none }
def k19m1 : Method := { name := "next", desc := "()Ljava/lang/Object;", sig := { parameters := [], returnType := some (.object "java/lang/Object") }, accessFlags := 1025, code := none }
/-- java/util/Iterator -/
def k19 : Class := { plain "java/util/Iterator" (some 0) with
  accessFlags := 1537
  interfaces := #[]
  cf := some (fileOf pool19 16 #[] #[{ accessFlags := 1025, nameIndex := 19, descriptorIndex := 20, attributes := #[] }, { accessFlags := 1025, nameIndex := 23, descriptorIndex := 24, attributes := #[] }] 1537 31 #[] #[])
  fields := #[]
  methods := #[k19m0, k19m1]
  instanceTypes := #[]
  staticTypes := #[]
  resolved := Array.replicate 53 none
  statics := none }

def pool20 : Array CpInfo := pool [(1, .class_ 2), (0, u "java/util/ListIterator"), (0, .class_ 4), (0, u "java/lang/Object"), (0, .class_ 6), (0, u "java/util/Iterator")] 20

/-- java/util/ListIterator -/
def k20 : Class := { plain "java/util/ListIterator" (some 0) with
  accessFlags := 1537
  interfaces := #[19]
  cf := some (fileOf pool20 1 #[] #[] 1537 3 #[5] #[])
  fields := #[]
  methods := #[]
  instanceTypes := #[]
  staticTypes := #[]
  resolved := Array.replicate 27 none
  statics := none }

def pool21 : Array CpInfo := pool [(1, .methodref 2 3), (0, .class_ 4), (0, .nameAndType 5 6), (0, u "java/lang/Object"), (0, u "<init>"), (0, u "()V"), (0, .fieldref 8 9), (0, .class_ 10), (0, .nameAndType 11 12), (0, u "java/util/ImmutableCollections$ListItr"), (0, u "list"), (0, u "Ljava/util/List;"), (0, .fieldref 8 14), (0, .nameAndType 15 16), (0, u "size"), (0, u "I"), (0, .fieldref 8 18), (0, .nameAndType 19 16), (0, u "cursor"), (0, .fieldref 8 21), (0, .nameAndType 22 23), (0, u "isListIterator"), (0, u "Z"), (0, .interfaceMethodref 25 26), (0, .class_ 27), (0, .nameAndType 28 29), (0, u "java/util/List"), (0, u "get"), (0, u "(I)Ljava/lang/Object;"), (6, .class_ 38), (1, u "java/util/ImmutableCollections"), (2, .class_ 42), (0, u "java/util/ListIterator"), (4, u "(Ljava/util/List;I)V"), (11, u "hasNext"), (0, u "()Z"), (1, u "next"), (0, u "()Ljava/lang/Object;")] 22

def k21c0 : Code := { maxStack := 2, maxLocals := 3, code := jdk_53_method_1_code, exceptionTable := #[], attributes := #[] }
def k21m0 : Method := { name := "<init>", desc := "(Ljava/util/List;I)V", sig := { parameters := [(.object "java/util/List"), .int], returnType := none }, accessFlags := 0, code := some k21c0 }
def k21c1 : Code := { maxStack := 2, maxLocals := 1, code := jdk_53_method_3_code, exceptionTable := #[], attributes := #[] }
def k21m1 : Method := { name := "hasNext", desc := "()Z", sig := { parameters := [], returnType := some .boolean }, accessFlags := 1, code := some k21c1 }
def k21c2 : Code := { maxStack := 3, maxLocals := 3, code := jdk_53_method_4_code, exceptionTable := #[{ startPc := 0, endPc := 24, handlerPc := 25, catchType := 30 }], attributes := #[] }
def k21m2 : Method := { name := "next", desc := "()Ljava/lang/Object;", sig := { parameters := [], returnType := some (.object "java/lang/Object") }, accessFlags := 1, code := some k21c2 }
/-- java/util/ImmutableCollections$ListItr -/
def k21 : Class := { plain "java/util/ImmutableCollections$ListItr" (some 0) with
  accessFlags := 48
  interfaces := #[20]
  cf := some (fileOf pool21 8 #[.nestHost 36] #[{ accessFlags := 0, nameIndex := 5, descriptorIndex := 47, attributes := #[] }, { accessFlags := 1, nameIndex := 59, descriptorIndex := 60, attributes := #[] }, { accessFlags := 1, nameIndex := 62, descriptorIndex := 63, attributes := #[] }] 48 2 #[41] #[{ accessFlags := 18, nameIndex := 11, descriptorIndex := 12, attributes := #[] }, { accessFlags := 18, nameIndex := 15, descriptorIndex := 16, attributes := #[] }, { accessFlags := 18, nameIndex := 22, descriptorIndex := 23, attributes := #[] }, { accessFlags := 2, nameIndex := 19, descriptorIndex := 16, attributes := #[] }])
  fields := #[{ name := "list", type := (.object "java/util/List"), accessFlags := 18, slot := 0, constantValue := 0 }, { name := "size", type := .int, accessFlags := 18, slot := 1, constantValue := 0 }, { name := "isListIterator", type := .boolean, accessFlags := 18, slot := 2, constantValue := 0 }, { name := "cursor", type := .int, accessFlags := 2, slot := 3, constantValue := 0 }]
  methods := #[k21m0, k21m1, k21m2]
  instanceTypes := #[(.object "java/util/List"), .int, .boolean, .int]
  staticTypes := #[]
  resolved := Array.replicate 86 none
  statics := none }

def pool22 : Array CpInfo := pool [(1, .methodref 2 3), (0, .class_ 4), (0, .nameAndType 5 6), (0, u "java/lang/Object"), (0, u "<init>"), (0, u "()V"), (0, .class_ 8), (0, u "com/example/libentail/libentail/ConceptIndex"), (0, .fieldref 7 10), (0, .nameAndType 11 12), (0, u "slots"), (0, u "[I"), (0, .fieldref 7 14), (0, .nameAndType 15 12), (0, u "indices"), (0, .methodref 17 18), (0, .class_ 19), (0, .nameAndType 20 21), (0, u "com/example/libentail/libentail/Concept"), (0, u "id"), (0, u "()I"), (0, .methodref 7 23), (0, .nameAndType 24 25), (0, u "slotOf"), (0, u "(I)I"), (0, .fieldref 7 27), (0, .nameAndType 28 29), (0, u "size"), (0, u "I"), (5, u "put"), (0, u "(Lcom/example/libentail/libentail/Concept;I)V"), (0, .methodref 7 38), (0, .nameAndType 39 40), (0, u "home"), (0, u "(II)I"), (0, .integer 2654435769), (0, u "FIRST_CAPACITY"), (4, u "get"), (0, u "(Lcom/example/libentail/libentail/Concept;)I"), (2, u "remove"), (0, u "(Lcom/example/libentail/libentail/Concept;)V")] 3

def k22c0 : Code := { maxStack := 2, maxLocals := 1, code := prog_7_method_1_code, exceptionTable := #[], attributes := #[] }
def k22m0 : Method := { name := "<init>", desc := "()V", sig := { parameters := [], returnType := none }, accessFlags := 0, code := some k22c0 }
def k22c1 : Code := { maxStack := 3, maxLocals := 3, code := prog_7_method_2_code, exceptionTable := #[], attributes := #[] }
def k22m1 : Method := { name := "get", desc := "(Lcom/example/libentail/libentail/Concept;)I", sig := { parameters := [(.object "com/example/libentail/libentail/Concept")], returnType := some .int }, accessFlags := 0, code := some k22c1 }
def k22c2 : Code := { maxStack := 3, maxLocals := 5, code := prog_7_method_3_code, exceptionTable := #[], attributes := #[] }
def k22m2 : Method := { name := "put", desc := "(Lcom/example/libentail/libentail/Concept;I)V", sig := { parameters := [(.object "com/example/libentail/libentail/Concept"), .int], returnType := none }, accessFlags := 0, code := some k22c2 }
def k22c3 : Code := { maxStack := 4, maxLocals := 7, code := prog_7_method_5_code, exceptionTable := #[], attributes := #[] }
def k22m3 : Method := { name := "remove", desc := "(Lcom/example/libentail/libentail/Concept;)V", sig := { parameters := [(.object "com/example/libentail/libentail/Concept")], returnType := none }, accessFlags := 0, code := some k22c3 }
def k22c4 : Code := { maxStack := 2, maxLocals := 4, code := prog_7_method_6_code, exceptionTable := #[], attributes := #[] }
def k22m4 : Method := { name := "slotOf", desc := "(I)I", sig := { parameters := [.int], returnType := some .int }, accessFlags := 2, code := some k22c4 }
def k22c5 : Code := { maxStack := 3, maxLocals := 3, code := prog_7_method_8_code, exceptionTable := #[], attributes := #[] }
def k22m5 : Method := { name := "home", desc := "(II)I", sig := { parameters := [.int, .int], returnType := some .int }, accessFlags := 10, code := some k22c5 }
/-- com/example/libentail/libentail/ConceptIndex -/
def k22 : Class := { plain "com/example/libentail/libentail/ConceptIndex" (some 0) with
  accessFlags := 48
  interfaces := #[]
  cf := some (fileOf pool22 7 #[] #[{ accessFlags := 0, nameIndex := 5, descriptorIndex := 6, attributes := #[] }, { accessFlags := 0, nameIndex := 47, descriptorIndex := 48, attributes := #[] }, { accessFlags := 0, nameIndex := 35, descriptorIndex := 36, attributes := #[] }, { accessFlags := 0, nameIndex := 51, descriptorIndex := 52, attributes := #[] }, { accessFlags := 2, nameIndex := 24, descriptorIndex := 25, attributes := #[] }, { accessFlags := 10, nameIndex := 39, descriptorIndex := 40, attributes := #[] }] 48 2 #[] #[{ accessFlags := 26, nameIndex := 42, descriptorIndex := 29, attributes := #[] }, { accessFlags := 2, nameIndex := 11, descriptorIndex := 12, attributes := #[] }, { accessFlags := 2, nameIndex := 15, descriptorIndex := 12, attributes := #[] }, { accessFlags := 2, nameIndex := 28, descriptorIndex := 29, attributes := #[] }])
  fields := #[{ name := "FIRST_CAPACITY", type := .int, accessFlags := 26, slot := 0, constantValue := 0 }, { name := "slots", type := (.array .int), accessFlags := 2, slot := 0, constantValue := 0 }, { name := "indices", type := (.array .int), accessFlags := 2, slot := 1, constantValue := 0 }, { name := "size", type := .int, accessFlags := 2, slot := 2, constantValue := 0 }]
  methods := #[k22m0, k22m1, k22m2, k22m3, k22m4, k22m5]
  instanceTypes := #[(.array .int), (.array .int), .int]
  staticTypes := #[.int]
  resolved := Array.replicate 56 none
  statics := none }

def pool23 : Array CpInfo := pool [(2, .class_ 4), (1, u "java/util/ImmutableCollections$AbstractImmutableList"), (3, .class_ 10), (1, u "java/util/ImmutableCollections$ListN"), (0, u "elements"), (0, u "[Ljava/lang/Object;"), (2, u "allowNulls"), (0, u "Z"), (42, .class_ 60), (0, u "java/io/Serializable"), (53, .class_ 115), (0, u "java/util/ImmutableCollections")] 3

/-- java/util/ImmutableCollections$ListN -/
def k23 : Class := { plain "java/util/ImmutableCollections$ListN" (some 15) with
  accessFlags := 48
  interfaces := #[5]
  cf := some (fileOf pool23 8 #[.nestHost 114] #[] 48 2 #[59] #[{ accessFlags := 18, nameIndex := 11, descriptorIndex := 12, attributes := #[] }, { accessFlags := 18, nameIndex := 15, descriptorIndex := 16, attributes := #[] }])
  fields := #[{ name := "elements", type := (.array (.object "java/lang/Object")), accessFlags := 18, slot := 0, constantValue := 0 }, { name := "allowNulls", type := .boolean, accessFlags := 18, slot := 1, constantValue := 0 }]
  methods := #[]
  instanceTypes := #[(.array (.object "java/lang/Object")), .boolean]
  staticTypes := #[]
  resolved := Array.replicate 119 none
  statics := none }

def pool24 : Array CpInfo := pool [(1, u "java/lang/Cloneable"), (0, .class_ 1), (0, u "java/lang/Object"), (0, .class_ 3)] 3

/-- java/lang/Cloneable -/
def k24 : Class := { plain "java/lang/Cloneable" (some 0) with
  accessFlags := 1537
  interfaces := #[]
  cf := some (fileOf pool24 2 #[] #[] 1537 4 #[] #[])
  fields := #[]
  methods := #[]
  instanceTypes := #[]
  staticTypes := #[]
  resolved := Array.replicate 8 none
  statics := none }

/-- the primitive byte -/
def k25 : Class := { plain "byte" none with kind := .primitive 'B', accessFlags := 0x411 }
/-- [B -/
def k26 : Class := { plain "[B" (some 0) with kind := .array 25 .byte, interfaces := #[24, 5], accessFlags := 1041 }

/-- the primitive int -/
def k27 : Class := { plain "int" none with kind := .primitive 'I', accessFlags := 0x411 }
/-- [I -/
def k28 : Class := { plain "[I" (some 0) with kind := .array 27 .int, interfaces := #[24, 5], accessFlags := 1041 }

def heap : Heap := #[{ cls := 7, slots := #[.ref 4, .null, .ref 2, .null, .null, .null, .ref 3, .null, .null, .null, .null, .null, .null], vm := .statics 7 },
  { cls := 18, slots := #[.long 0, .int 0, .null, .ref 5, .ref 6, .null, .null, .null, .int 0, .int 1], vm := .statics 18 },
  { cls := 7, slots := #[.null, .int (2), .int (0)], vm := .none },
  { cls := 7, slots := #[.null, .int (6), .int (0)], vm := .none },
  { cls := 7, slots := #[.null, .int (0), .int (0)], vm := .none },
  { cls := 0, slots := #[], vm := .none },
  { cls := 23, slots := #[.null, .int 0], vm := .none }]
def classes : Array Class := #[k0, k1, k2, k3, k4, k5, k6, k7, k8, k9, k10, k11, k12, k13, k14, k15, k16, k17, k18, k19, k20, k21, k22, k23, k24, k25, k26, k27, k28]
def interned : List (Array UInt16 × Addr) := []
def slotsUsed : Nat := 34
def theMethod : MethodId := ⟨1, 1⟩
def args0 : Array Value := #[.int 5, .int 5, .int 5, .int 5, .int 5, .int 5]
def aboutOver (below : List Frame) : State where
  vm := { classes := classes, interned := interned.toArray }
  heap := heap
  slotsUsed := slotsUsed
  threads := #[{ frames := .invoking theMethod args0 :: below }]
def below0 : List Frame := [.native { method := ⟨0, 0⟩, args := #[] }]
def about1 : State := aboutOver below0
def p0 : Program := .bare "" "" ""
def e0 : Env := launch0.env 0 0 0
theorem w_frames : about1.frames = Frame.invoking theMethod args0 :: below0 := rfl
set_option maxRecDepth 65536 in
theorem w_args : argsFit about1.vm theMethod args0 = true := by decide +kernel
set_option maxRecDepth 65536 in
theorem w_heap : heapFits about1 = true := by decide +kernel
set_option maxRecDepth 65536 in
theorem w_runnable : about1.curStatus? = some .runnable := by decide +kernel
set_option maxRecDepth 65536 in
theorem w_alone : about1.alone = true := by decide +kernel
set_option maxRecDepth 65536 in
theorem w_named : about1.methodNamed? x = some theMethod := by decide +kernel
set_option maxRecDepth 65536 in
theorem w_hears : about1.hears theMethod below0 = true := by decide +kernel
set_option maxRecDepth 65536 in
theorem w_ripe : about1.ripe theMethod args0 below0 = true := by decide +kernel
theorem w_running : about1.status = .running := rfl
set_option maxRecDepth 65536 in
theorem w_room : about1.hasRoom e0.platform room_1 = true :=
  launch0.hasRoom_least _ room_1 (by decide +kernel) (by decide +kernel) (by decide +kernel) (by decide +kernel) (by decide +kernel) (by decide +kernel)
theorem allAtoms_all (ts : List Jvm.Cond) (a : Array Jvm.Value) (st : Jvm.State) : (allAtoms ts).before a st = ts.all (fun c => c.before a st) := by
  induction ts with
  | nil => rfl
  | cons c t ih =>
    show (Jvm.Cond.and c (allAtoms t)).before a st = _
    rw [Jvm.Cond.before_and, ih, List.all_cons]
def words1 : List Jvm.Cond := Jvm.Cond.code x code maxLocals ret :: tables_1
/-- a 'code' word, met by the world's own term for the bytes: nothing is compared byte by byte -/
theorem code_word {y : MethodName} {bytes : ByteArray} {mx : Nat} {rt : Option FieldType} {a : Array Value} {s : State} {m : MethodId} {meth : Method} {c : Code} (h1 : s.methodNamed? y = some m) (h2 : s.vm.method? m = some meth) (h3 : meth.code = some c) (h4 : c.code = bytes)
    (h5 : (c.maxLocals == mx && c.exceptionTable.isEmpty && decide (c.maxStack ≤ mostOperands) && decide (meth.sig.returnType = rt) && !meth.locks && decide (parseMethodDescriptor y.desc = some meth.sig)) = true) : (Jvm.Cond.code y bytes mx rt).before a s = true := by
  simp only [Bool.and_eq_true, beq_iff_eq, Bool.not_eq_true', decide_eq_true_eq] at h5
  obtain ⟨⟨⟨⟨⟨g1, g2⟩, g3⟩, g4⟩, g5⟩, g6⟩ := h5
  simp [Cond.before, Cond.holds, Cond.value, h1, h2, h3, h4, g1, g2, g3, g4, g5, g6]
def isCode : Jvm.Cond → Bool
  | .code _ _ _ _ => true
  | _ => false
theorem all_split {L : List Jvm.Cond} {P : Jvm.Cond → Bool} (h1 : L.all (fun c => isCode c || P c) = true) (h2 : ∀ c ∈ L.filter isCode, P c = true) : L.all P = true := by
  refine List.all_eq_true.mpr fun c hc => ?_
  have h := List.all_eq_true.mp h1 c hc
  rcases Bool.eq_false_or_eq_true (isCode c) with hi | hi
  · exact h2 c (List.mem_filter.mpr ⟨hc, hi⟩)
  · simpa [hi] using h
set_option maxRecDepth 65536 in
theorem w_c0 : (Jvm.Cond.code x code maxLocals ret).before args0 about1 = true := code_word (m := ⟨1, 1⟩) (meth := k1m1) (c := k1c1) (by decide +kernel) rfl rfl rfl (by decide +kernel)
set_option maxRecDepth 65536 in
theorem w_c1 : (Jvm.Cond.code ({ cls := "com/example/libentail/libentail/Concept", name := "<init>", desc := "(Ljava/lang/Object;Lcom/example/libentail/libentail/Concept$Kind;IILjava/lang/String;Lcom/example/libentail/libentail/Role;Ljava/util/List;J)V" } : Jvm.MethodName) prog_2_method_1_code (14 : Nat) (Option.none : Option Jvm.ClassFile.FieldType)).before args0 about1 = true := code_word (m := ⟨2, 0⟩) (meth := k2m0) (c := k2c0) (by decide +kernel) rfl rfl rfl (by decide +kernel)
set_option maxRecDepth 65536 in
theorem w_c2 : (Jvm.Cond.code ({ cls := "java/lang/Object", name := "<init>", desc := "()V" } : Jvm.MethodName) object_method_1_code (1 : Nat) (Option.none : Option Jvm.ClassFile.FieldType)).before args0 about1 = true := code_word (m := ⟨0, 0⟩) (meth := k0m0) (c := k0c0) (by decide +kernel) rfl rfl rfl (by decide +kernel)
set_option maxRecDepth 65536 in
theorem w_c3 : (Jvm.Cond.code ({ cls := "java/util/List", name := "of", desc := "(Ljava/lang/Object;)Ljava/util/List;" } : Jvm.MethodName) jdk_40_method_37_code (1 : Nat) (Option.some (Jvm.ClassFile.FieldType.object "java/util/List"))).before args0 about1 = true := code_word (m := ⟨11, 2⟩) (meth := k11m2) (c := k11c2) (by decide +kernel) rfl rfl rfl (by decide +kernel)
set_option maxRecDepth 65536 in
theorem w_c4 : (Jvm.Cond.code ({ cls := "java/util/ImmutableCollections$List12", name := "<init>", desc := "(Ljava/lang/Object;)V" } : Jvm.MethodName) jdk_44_method_1_code (2 : Nat) (Option.none : Option Jvm.ClassFile.FieldType)).before args0 about1 = true := code_word (m := ⟨16, 0⟩) (meth := k16m0) (c := k16c0) (by decide +kernel) rfl rfl rfl (by decide +kernel)
set_option maxRecDepth 65536 in
theorem w_c5 : (Jvm.Cond.code ({ cls := "java/util/ImmutableCollections$AbstractImmutableList", name := "<init>", desc := "()V" } : Jvm.MethodName) jdk_46_method_1_code (1 : Nat) (Option.none : Option Jvm.ClassFile.FieldType)).before args0 about1 = true := code_word (m := ⟨15, 0⟩) (meth := k15m0) (c := k15c0) (by decide +kernel) rfl rfl rfl (by decide +kernel)
set_option maxRecDepth 65536 in
theorem w_c6 : (Jvm.Cond.code ({ cls := "java/util/ImmutableCollections$AbstractImmutableCollection", name := "<init>", desc := "()V" } : Jvm.MethodName) jdk_47_method_1_code (1 : Nat) (Option.none : Option Jvm.ClassFile.FieldType)).before args0 about1 = true := code_word (m := ⟨13, 0⟩) (meth := k13m0) (c := k13c0) (by decide +kernel) rfl rfl rfl (by decide +kernel)
set_option maxRecDepth 65536 in
theorem w_c7 : (Jvm.Cond.code ({ cls := "java/util/AbstractCollection", name := "<init>", desc := "()V" } : Jvm.MethodName) jdk_22_method_1_code (1 : Nat) (Option.none : Option Jvm.ClassFile.FieldType)).before args0 about1 = true := code_word (m := ⟨12, 0⟩) (meth := k12m0) (c := k12c0) (by decide +kernel) rfl rfl rfl (by decide +kernel)
set_option maxRecDepth 65536 in
theorem w_c8 : (Jvm.Cond.code ({ cls := "java/util/Objects", name := "requireNonNull", desc := "(Ljava/lang/Object;)Ljava/lang/Object;" } : Jvm.MethodName) jdk_31_method_10_code (1 : Nat) (Option.some (Jvm.ClassFile.FieldType.object "java/lang/Object"))).before args0 about1 = true := code_word (m := ⟨17, 1⟩) (meth := k17m1) (c := k17c1) (by decide +kernel) rfl rfl rfl (by decide +kernel)
set_option maxRecDepth 65536 in
theorem w_c9 : (Jvm.Cond.code ({ cls := "com/example/libentail/libentail/Concept", name := "conjuncts", desc := "()Ljava/util/List;" } : Jvm.MethodName) prog_2_method_11_code (2 : Nat) (Option.some (Jvm.ClassFile.FieldType.object "java/util/List"))).before args0 about1 = true := code_word (m := ⟨2, 2⟩) (meth := k2m2) (c := k2c2) (by decide +kernel) rfl rfl rfl (by decide +kernel)
set_option maxRecDepth 65536 in
theorem w_c10 : (Jvm.Cond.code ({ cls := "java/util/ImmutableCollections$AbstractImmutableList", name := "iterator", desc := "()Ljava/util/Iterator;" } : Jvm.MethodName) jdk_46_method_10_code (1 : Nat) (Option.some (Jvm.ClassFile.FieldType.object "java/util/Iterator"))).before args0 about1 = true := code_word (m := ⟨15, 1⟩) (meth := k15m1) (c := k15c1) (by decide +kernel) rfl rfl rfl (by decide +kernel)
set_option maxRecDepth 65536 in
theorem w_c11 : (Jvm.Cond.code ({ cls := "java/util/ImmutableCollections$List12", name := "size", desc := "()I" } : Jvm.MethodName) jdk_44_method_3_code (1 : Nat) (Option.some Jvm.ClassFile.FieldType.int)).before args0 about1 = true := code_word (m := ⟨16, 1⟩) (meth := k16m1) (c := k16c1) (by decide +kernel) rfl rfl rfl (by decide +kernel)
set_option maxRecDepth 65536 in
theorem w_c12 : (Jvm.Cond.code ({ cls := "java/util/ImmutableCollections$ListItr", name := "<init>", desc := "(Ljava/util/List;I)V" } : Jvm.MethodName) jdk_53_method_1_code (3 : Nat) (Option.none : Option Jvm.ClassFile.FieldType)).before args0 about1 = true := code_word (m := ⟨21, 0⟩) (meth := k21m0) (c := k21c0) (by decide +kernel) rfl rfl rfl (by decide +kernel)
set_option maxRecDepth 65536 in
theorem w_c13 : (Jvm.Cond.code ({ cls := "java/util/ImmutableCollections$ListItr", name := "hasNext", desc := "()Z" } : Jvm.MethodName) jdk_53_method_3_code (1 : Nat) (Option.some Jvm.ClassFile.FieldType.boolean)).before args0 about1 = true := code_word (m := ⟨21, 1⟩) (meth := k21m1) (c := k21c1) (by decide +kernel) rfl rfl rfl (by decide +kernel)
set_option maxRecDepth 65536 in
theorem w_c14 : (Jvm.Cond.code ({ cls := "java/util/ImmutableCollections$List12", name := "get", desc := "(I)Ljava/lang/Object;" } : Jvm.MethodName) jdk_44_method_5_code (2 : Nat) (Option.some (Jvm.ClassFile.FieldType.object "java/lang/Object"))).before args0 about1 = true := code_word (m := ⟨16, 2⟩) (meth := k16m2) (c := k16c2) (by decide +kernel) rfl rfl rfl (by decide +kernel)
set_option maxRecDepth 65536 in
theorem w_c15 : (Jvm.Cond.code ({ cls := "com/example/libentail/libentail/ConceptIndex", name := "<init>", desc := "()V" } : Jvm.MethodName) prog_7_method_1_code (1 : Nat) (Option.none : Option Jvm.ClassFile.FieldType)).before args0 about1 = true := code_word (m := ⟨22, 0⟩) (meth := k22m0) (c := k22c0) (by decide +kernel) rfl rfl rfl (by decide +kernel)
set_option maxRecDepth 65536 in
theorem w_c16 : (Jvm.Cond.code ({ cls := "com/example/libentail/libentail/ConceptIndex", name := "put", desc := "(Lcom/example/libentail/libentail/Concept;I)V" } : Jvm.MethodName) prog_7_method_3_code (5 : Nat) (Option.none : Option Jvm.ClassFile.FieldType)).before args0 about1 = true := code_word (m := ⟨22, 2⟩) (meth := k22m2) (c := k22c2) (by decide +kernel) rfl rfl rfl (by decide +kernel)
set_option maxRecDepth 65536 in
theorem w_c17 : (Jvm.Cond.code ({ cls := "com/example/libentail/libentail/Concept", name := "id", desc := "()I" } : Jvm.MethodName) prog_2_method_4_code (1 : Nat) (Option.some Jvm.ClassFile.FieldType.int)).before args0 about1 = true := code_word (m := ⟨2, 1⟩) (meth := k2m1) (c := k2c1) (by decide +kernel) rfl rfl rfl (by decide +kernel)
set_option maxRecDepth 65536 in
theorem w_c18 : (Jvm.Cond.code ({ cls := "com/example/libentail/libentail/ConceptIndex", name := "slotOf", desc := "(I)I" } : Jvm.MethodName) prog_7_method_6_code (4 : Nat) (Option.some Jvm.ClassFile.FieldType.int)).before args0 about1 = true := code_word (m := ⟨22, 4⟩) (meth := k22m4) (c := k22c4) (by decide +kernel) rfl rfl rfl (by decide +kernel)
set_option maxRecDepth 65536 in
theorem w_c19 : (Jvm.Cond.code ({ cls := "com/example/libentail/libentail/ConceptIndex", name := "home", desc := "(II)I" } : Jvm.MethodName) prog_7_method_8_code (3 : Nat) (Option.some Jvm.ClassFile.FieldType.int)).before args0 about1 = true := code_word (m := ⟨22, 5⟩) (meth := k22m5) (c := k22c5) (by decide +kernel) rfl rfl rfl (by decide +kernel)
set_option maxRecDepth 65536 in
theorem w_c20 : (Jvm.Cond.code ({ cls := "com/example/libentail/libentail/ConceptIndex", name := "remove", desc := "(Lcom/example/libentail/libentail/Concept;)V" } : Jvm.MethodName) prog_7_method_5_code (7 : Nat) (Option.none : Option Jvm.ClassFile.FieldType)).before args0 about1 = true := code_word (m := ⟨22, 3⟩) (meth := k22m3) (c := k22c3) (by decide +kernel) rfl rfl rfl (by decide +kernel)
set_option maxRecDepth 65536 in
theorem w_c21 : (Jvm.Cond.code ({ cls := "com/example/libentail/libentail/ConceptIndex", name := "get", desc := "(Lcom/example/libentail/libentail/Concept;)I" } : Jvm.MethodName) prog_7_method_2_code (3 : Nat) (Option.some Jvm.ClassFile.FieldType.int)).before args0 about1 = true := code_word (m := ⟨22, 1⟩) (meth := k22m1) (c := k22c1) (by decide +kernel) rfl rfl rfl (by decide +kernel)
def codes1 : List Jvm.Cond := [Jvm.Cond.code x code maxLocals ret, Jvm.Cond.code ({ cls := "com/example/libentail/libentail/Concept", name := "<init>", desc := "(Ljava/lang/Object;Lcom/example/libentail/libentail/Concept$Kind;IILjava/lang/String;Lcom/example/libentail/libentail/Role;Ljava/util/List;J)V" } : Jvm.MethodName) prog_2_method_1_code (14 : Nat) (Option.none : Option Jvm.ClassFile.FieldType), Jvm.Cond.code ({ cls := "java/lang/Object", name := "<init>", desc := "()V" } : Jvm.MethodName) object_method_1_code (1 : Nat) (Option.none : Option Jvm.ClassFile.FieldType), Jvm.Cond.code ({ cls := "java/util/List", name := "of", desc := "(Ljava/lang/Object;)Ljava/util/List;" } : Jvm.MethodName) jdk_40_method_37_code (1 : Nat) (Option.some (Jvm.ClassFile.FieldType.object "java/util/List")), Jvm.Cond.code ({ cls := "java/util/ImmutableCollections$List12", name := "<init>", desc := "(Ljava/lang/Object;)V" } : Jvm.MethodName) jdk_44_method_1_code (2 : Nat) (Option.none : Option Jvm.ClassFile.FieldType), Jvm.Cond.code ({ cls := "java/util/ImmutableCollections$AbstractImmutableList", name := "<init>", desc := "()V" } : Jvm.MethodName) jdk_46_method_1_code (1 : Nat) (Option.none : Option Jvm.ClassFile.FieldType), Jvm.Cond.code ({ cls := "java/util/ImmutableCollections$AbstractImmutableCollection", name := "<init>", desc := "()V" } : Jvm.MethodName) jdk_47_method_1_code (1 : Nat) (Option.none : Option Jvm.ClassFile.FieldType), Jvm.Cond.code ({ cls := "java/util/AbstractCollection", name := "<init>", desc := "()V" } : Jvm.MethodName) jdk_22_method_1_code (1 : Nat) (Option.none : Option Jvm.ClassFile.FieldType), Jvm.Cond.code ({ cls := "java/util/Objects", name := "requireNonNull", desc := "(Ljava/lang/Object;)Ljava/lang/Object;" } : Jvm.MethodName) jdk_31_method_10_code (1 : Nat) (Option.some (Jvm.ClassFile.FieldType.object "java/lang/Object")), Jvm.Cond.code ({ cls := "com/example/libentail/libentail/Concept", name := "conjuncts", desc := "()Ljava/util/List;" } : Jvm.MethodName) prog_2_method_11_code (2 : Nat) (Option.some (Jvm.ClassFile.FieldType.object "java/util/List")), Jvm.Cond.code ({ cls := "java/util/ImmutableCollections$AbstractImmutableList", name := "iterator", desc := "()Ljava/util/Iterator;" } : Jvm.MethodName) jdk_46_method_10_code (1 : Nat) (Option.some (Jvm.ClassFile.FieldType.object "java/util/Iterator")), Jvm.Cond.code ({ cls := "java/util/ImmutableCollections$List12", name := "size", desc := "()I" } : Jvm.MethodName) jdk_44_method_3_code (1 : Nat) (Option.some Jvm.ClassFile.FieldType.int), Jvm.Cond.code ({ cls := "java/util/ImmutableCollections$ListItr", name := "<init>", desc := "(Ljava/util/List;I)V" } : Jvm.MethodName) jdk_53_method_1_code (3 : Nat) (Option.none : Option Jvm.ClassFile.FieldType), Jvm.Cond.code ({ cls := "java/util/ImmutableCollections$ListItr", name := "hasNext", desc := "()Z" } : Jvm.MethodName) jdk_53_method_3_code (1 : Nat) (Option.some Jvm.ClassFile.FieldType.boolean), Jvm.Cond.code ({ cls := "java/util/ImmutableCollections$List12", name := "get", desc := "(I)Ljava/lang/Object;" } : Jvm.MethodName) jdk_44_method_5_code (2 : Nat) (Option.some (Jvm.ClassFile.FieldType.object "java/lang/Object")), Jvm.Cond.code ({ cls := "com/example/libentail/libentail/ConceptIndex", name := "<init>", desc := "()V" } : Jvm.MethodName) prog_7_method_1_code (1 : Nat) (Option.none : Option Jvm.ClassFile.FieldType), Jvm.Cond.code ({ cls := "com/example/libentail/libentail/ConceptIndex", name := "put", desc := "(Lcom/example/libentail/libentail/Concept;I)V" } : Jvm.MethodName) prog_7_method_3_code (5 : Nat) (Option.none : Option Jvm.ClassFile.FieldType), Jvm.Cond.code ({ cls := "com/example/libentail/libentail/Concept", name := "id", desc := "()I" } : Jvm.MethodName) prog_2_method_4_code (1 : Nat) (Option.some Jvm.ClassFile.FieldType.int), Jvm.Cond.code ({ cls := "com/example/libentail/libentail/ConceptIndex", name := "slotOf", desc := "(I)I" } : Jvm.MethodName) prog_7_method_6_code (4 : Nat) (Option.some Jvm.ClassFile.FieldType.int), Jvm.Cond.code ({ cls := "com/example/libentail/libentail/ConceptIndex", name := "home", desc := "(II)I" } : Jvm.MethodName) prog_7_method_8_code (3 : Nat) (Option.some Jvm.ClassFile.FieldType.int), Jvm.Cond.code ({ cls := "com/example/libentail/libentail/ConceptIndex", name := "remove", desc := "(Lcom/example/libentail/libentail/Concept;)V" } : Jvm.MethodName) prog_7_method_5_code (7 : Nat) (Option.none : Option Jvm.ClassFile.FieldType), Jvm.Cond.code ({ cls := "com/example/libentail/libentail/ConceptIndex", name := "get", desc := "(Lcom/example/libentail/libentail/Concept;)I" } : Jvm.MethodName) prog_7_method_2_code (3 : Nat) (Option.some Jvm.ClassFile.FieldType.int)]
set_option maxRecDepth 65536 in
theorem codes_eq : words1.filter isCode = codes1 := rfl
theorem w_codes : ∀ c ∈ words1.filter isCode, c.before args0 about1 = true := by
  rw [codes_eq]
  intro c hc
  simp only [codes1, List.mem_cons, List.not_mem_nil, or_false] at hc
  rcases hc with rfl | rfl | rfl | rfl | rfl | rfl | rfl | rfl | rfl | rfl | rfl | rfl | rfl | rfl | rfl | rfl | rfl | rfl | rfl | rfl | rfl | rfl
  · exact w_c0
  · exact w_c1
  · exact w_c2
  · exact w_c3
  · exact w_c4
  · exact w_c5
  · exact w_c6
  · exact w_c7
  · exact w_c8
  · exact w_c9
  · exact w_c10
  · exact w_c11
  · exact w_c12
  · exact w_c13
  · exact w_c14
  · exact w_c15
  · exact w_c16
  · exact w_c17
  · exact w_c18
  · exact w_c19
  · exact w_c20
  · exact w_c21
set_option maxRecDepth 65536 in
theorem w_t1 : (words1.take 24).all (fun c => isCode c || c.before args0 about1) = true := by decide +kernel
set_option maxRecDepth 65536 in
theorem w_t2 : ((words1.drop 24).take 24).all (fun c => isCode c || c.before args0 about1) = true := by decide +kernel
set_option maxRecDepth 65536 in
theorem w_t3 : (((words1.drop 24).drop 24).take 24).all (fun c => isCode c || c.before args0 about1) = true := by decide +kernel
set_option maxRecDepth 65536 in
theorem w_t4 : ((((words1.drop 24).drop 24).drop 24).take 24).all (fun c => isCode c || c.before args0 about1) = true := by decide +kernel
set_option maxRecDepth 65536 in
theorem w_t5 : (((((words1.drop 24).drop 24).drop 24).drop 24).take 24).all (fun c => isCode c || c.before args0 about1) = true := by decide +kernel
set_option maxRecDepth 65536 in
theorem w_t6 : ((((((words1.drop 24).drop 24).drop 24).drop 24).drop 24).take 24).all (fun c => isCode c || c.before args0 about1) = true := by decide +kernel
set_option maxRecDepth 65536 in
theorem w_t7 : (((((((words1.drop 24).drop 24).drop 24).drop 24).drop 24).drop 24).take 24).all (fun c => isCode c || c.before args0 about1) = true := by decide +kernel
set_option maxRecDepth 65536 in
theorem w_t8 : (((((((words1.drop 24).drop 24).drop 24).drop 24).drop 24).drop 24).drop 24).all (fun c => isCode c || c.before args0 about1) = true := by decide +kernel
theorem w_tables : (allAtoms (Jvm.Cond.code x code maxLocals ret :: tables_1)).before args0 about1 = true := by
  rw [allAtoms_all]
  show words1.all (fun c => c.before args0 about1) = true
  refine all_split ?_ w_codes
  rw [← List.take_append_drop 24 words1, List.all_append, w_t1, ← List.take_append_drop 24 (words1.drop 24), List.all_append, w_t2, ← List.take_append_drop 24 ((words1.drop 24).drop 24), List.all_append, w_t3, ← List.take_append_drop 24 (((words1.drop 24).drop 24).drop 24), List.all_append, w_t4, ← List.take_append_drop 24 ((((words1.drop 24).drop 24).drop 24).drop 24), List.all_append, w_t5, ← List.take_append_drop 24 (((((words1.drop 24).drop 24).drop 24).drop 24).drop 24), List.all_append, w_t6, ← List.take_append_drop 24 ((((((words1.drop 24).drop 24).drop 24).drop 24).drop 24).drop 24), List.all_append, w_t7, w_t8]
  rfl
set_option maxRecDepth 65536 in
theorem w_rest : rest_1_c.before args0 about1 = true := by decide +kernel
set_option maxRecDepth 65536 in
theorem w_case : (Jvm.Cond.and given_1 narrow_1).before args0 about1 = true := by decide +kernel
theorem w_applies : (headSpec (Jvm.Cond.code x code maxLocals ret :: tables_1) room_1).applies x e0.platform about1 = true :=
  (Spec.applies_iff w_frames).mpr ⟨w_running, w_runnable, w_alone, w_named, w_hears, w_ripe, w_room, w_tables⟩
theorem atStart : AtStart classFile x code maxLocals ret World_1 tables_1 room_1 Calls_1 rest_1 Pre_1 launch0 p0 e0 about1 theMethod args0 below0 :=
  ⟨lists_1, trivial, launch0.admits_env _ _ _, launch0.least_env, fairChoices_fair.cas, fairChoices_fair.clock, w_frames, w_args, w_heap, w_applies, trivial, w_rest, w_case⟩
end start1
theorem witness_1 : WitnessClaimed_1 := ⟨start1.p0, start1.e0, start1.about1, start1.theMethod, start1.args0, start1.below0, start1.atStart⟩
end Jvm.Pilot.@@N@@
