import JvmDerived
import JvmDerived.Pilot.@@N@@Statement
import JvmDerived.Pilot.@@N@@Code
set_option linter.unusedVariables false
set_option linter.unusedSimpArgs false
namespace Jvm.RoadKit
open Sem ClassFile Op Lib Jvm.Stand Jvm.Free Jvm.LawKit
section Own
variable {p : Program} {l : Launch} {e : Env} {R : Room} {s : State} {m : MethodId} {args : Array Value} {below : List Frame} {meth : Method} {c : Code} {T : State} {locs : List Loc} {cells slots : Nat}
def own_Go (p : Program) (e : Env) (below : List Frame) (K : State → Outcome → Prop) (T : State) (g : JFrame) : Prop :=
  ∃ t o, Steps p.tables e below (T.setTop g) t ∧ t.status = .running ∧ Ended t below o ∧ K t o
theorem own_go {K : State → Outcome → Prop} {T1 T2 : State} {g1 g2 : JFrame} (h : ∀ t, Steps p.tables e below (T2.setTop g2) t → Steps p.tables e below (T1.setTop g1) t) (k : own_Go p e below K T2 g2) : own_Go p e below K T1 g1 := by
  obtain ⟨t, o, h1, h2⟩ := k
  exact ⟨t, o, h t h1, h2⟩
def own_K (s : State) (Q : Option Value → Heap → List Loc → Prop) (C S : Nat) (t : State) (o : Outcome) : Prop := ∃ v L, o = .returned v ∧ Q v t.heap L ∧ FrameEnd s o t L C S
def own_QP (r : Option Value) (h0 : Heap) (v : Option Value) (h : Heap) (L : List Loc) : Prop := v = r ∧ L = [] ∧ h = h0
def own_Con (l : Launch) (Z : State) (y : MethodName) (bytes : ByteArray) (maxL : Nat) (ret : Option FieldType) (rm : Room) (as' : Array Value) (h : Heap) (Q : Option Value → Heap → List Loc → Prop) : Prop :=
  MetFree l y (head1 [Cond.code y bytes maxL ret] rm) (fun a U => a = as' ∧ Z.Warmed39 U.vm ∧ U.heap = h) (fun _ _ _ _ _ => True) (fun _ U o U' => ∃ v L, o = .returned v ∧ Q v U'.heap L ∧ FrameEnd U o U' L rm.cells rm.slots)
theorem own_end (X : Stand p l e R s m args below meth c T locs cells slots) {v : Option Value} (hl : meth.locks = false) (hv : meth.sig.returnType = none → v = none) {g : JFrame} {Q : Option Value → Heap → List Loc → Prop} {C S : Nat}
    (hstep : ∀ fs, (∀ (f : JFrame) (acts : List Action), f.method = m → f.locked = none → f.entered = [] → (doReturn e (T.setTop f) acts v).1 = T.setFrames fs) → Steps p.tables e below (T.setTop g) (T.setFrames fs))
    (hc : cells ≤ C) (hs : slots ≤ S) (hQ : Q v T.heap locs) : own_Go p e below (own_K s Q C S) T g := by
  obtain ⟨fs, hr, hrun, hended, hW, hsame⟩ := X.leave hv hl
  exact ⟨_, _, hstep fs hr, hrun, hended, v, locs, rfl, hQ, ⟨_, rfl⟩, hW, hsame.mono hc hs⟩
theorem own_endN (X : Stand p l e R s m args below meth c T locs cells slots) (hx : p.tables.exec = Jvm.exec) (hl : meth.locks = false) {pc : Nat} {Ls : Array Slot} {z z' : Int32} {t : FieldType} {rest : List Value} {Q : Option Value → Heap → List Loc → Prop} {C S : Nat}
    (hret : meth.sig.returnType = some t) (ht : t = .boolean ∨ t = .byte ∨ t = .char ∨ t = .short) (hd : decode c.code pc = .ok (.ireturn, 1)) (hz : nar t z = z') (hc : cells ≤ C) (hs : slots ≤ S) (hQ : Q (some (.int z')) T.heap locs) :
    own_Go p e below (own_K s Q C S) T (mkF m pc Ls (.int z :: rest)) := by
  subst hz
  exact own_end X hl (fun h => by rw [hret] at h; cases h) (fun fs hr => retN X hx hret ht hd hr) hc hs hQ
theorem own_endI (X : Stand p l e R s m args below meth c T locs cells slots) (hx : p.tables.exec = Jvm.exec) (hl : meth.locks = false) {pc : Nat} {Ls : Array Slot} {z : Int32} {rest : List Value} {Q : Option Value → Heap → List Loc → Prop} {C S : Nat}
    (hret : meth.sig.returnType = some .int) (hd : decode c.code pc = .ok (.ireturn, 1)) (hc : cells ≤ C) (hs : slots ≤ S) (hQ : Q (some (.int z)) T.heap locs) :
    own_Go p e below (own_K s Q C S) T (mkF m pc Ls (.int z :: rest)) :=
  own_end X hl (fun h => by rw [hret] at h; cases h) (fun fs hr => retOut X hx hret rfl (Or.inl ⟨rfl, Or.inl rfl, z, rfl⟩) hd hr) hc hs hQ
theorem own_endJ (X : Stand p l e R s m args below meth c T locs cells slots) (hx : p.tables.exec = Jvm.exec) (hl : meth.locks = false) {pc : Nat} {Ls : Array Slot} {z : Int64} {rest : List Value} {Q : Option Value → Heap → List Loc → Prop} {C S : Nat}
    (hret : meth.sig.returnType = some .long) (hd : decode c.code pc = .ok (.lreturn, 1)) (hc : cells ≤ C) (hs : slots ≤ S) (hQ : Q (some (.long z)) T.heap locs) :
    own_Go p e below (own_K s Q C S) T (mkF m pc Ls (.long z :: rest)) :=
  own_end X hl (fun h => by rw [hret] at h; cases h) (fun fs hr => retOut X hx hret rfl (Or.inr (Or.inl ⟨rfl, rfl, z, rfl⟩)) hd hr) hc hs hQ
theorem own_endR (X : Stand p l e R s m args below meth c T locs cells slots) (hx : p.tables.exec = Jvm.exec) (hl : meth.locks = false) {pc : Nat} {Ls : Array Slot} {w : Value} {t : FieldType} {rest : List Value} {Q : Option Value → Heap → List Loc → Prop} {C S : Nat}
    (hret : meth.sig.returnType = some t) (ht : t.isReference = true) (hw : w.isRef = true) (hd : decode c.code pc = .ok (.areturn, 1)) (hc : cells ≤ C) (hs : slots ≤ S) (hQ : Q (some w) T.heap locs) :
    own_Go p e below (own_K s Q C S) T (mkF m pc Ls (w :: rest)) :=
  own_end X hl (fun h => by rw [hret] at h; cases h) (fun fs hr => retOut X hx hret (by rcases ref_cases hw with rfl | ⟨a, rfl⟩ <;> cases t <;> first | rfl | (cases ht)) (Or.inr (Or.inr (Or.inr (Or.inr ⟨rfl, ht, hw⟩)))) hd hr) hc hs hQ
theorem own_endV (X : Stand p l e R s m args below meth c T locs cells slots) (hx : p.tables.exec = Jvm.exec) (hl : meth.locks = false) {pc : Nat} {Ls : Array Slot} {Q : Option Value → Heap → List Loc → Prop} {C S : Nat}
    (hret : meth.sig.returnType = none) (hd : decode c.code pc = .ok (.return_, 1)) (hc : cells ≤ C) (hs : slots ≤ S) (hQ : Q none T.heap locs) :
    own_Go p e below (own_K s Q C S) T (mkF m pc Ls []) :=
  own_end X hl (fun _ => rfl) (fun fs hr => X.returnOut hx hret hd hr) hc hs hQ
variable {Z : State} {a0 : Array Value} {h : Heap} {y z : MethodName} {bytes : ByteArray} {maxL : Nat} {ret : Option FieldType} {rm : Room} {as' : Array Value} {Q : Option Value → Heap → List Loc → Prop}
theorem own_static (X : Stand p l e R s m args below meth c T locs cells slots) (hx : p.tables.exec = Jvm.exec) (hZ : Z.Warmed39 s.vm) {own : String} {index : Nat} (hown : s.vm.findClass own = some m.cls)
    (w1 : (Cond.methodLink own index y).before a0 Z = true) (w2 : (Cond.static y).before a0 Z = true) (w3 : (Cond.initialized y.cls).before a0 Z = true) (w4 : (Cond.code y bytes maxL ret).before a0 Z = true) (hy : y.cls ≠ "java/lang/invoke/MethodHandle" ∧ y.cls ≠ "java/lang/invoke/VarHandle")
    (W : Nat) {argsL rest : List Value} (hM : own_Con l Z y bytes maxL ret rm argsL.toArray h Q) (hf : rm.frames + 1 ≤ R.frames) (hl : W + (maxL + 11) + rm.locals ≤ R.locals)
    {g : JFrame} (hg : g.method = m) (hsize : g.locals.size = c.maxLocals) (hlen : ∀ sig, parseMethodDescriptor y.desc = some sig → argsL.length = sig.parameters.length) (hstack : g.stack = argsL.reverse ++ rest)
    (hW : 2 * g.monitorRoom + (rest.map fun v => v.category).sum ≤ W) (hdg : decode c.code g.pc = .ok (.invokestatic index, 3)) (eT : T.heap = h) (hc : cells + rm.cells ≤ R.cells) (hs : slots + rm.slots ≤ R.slots) :
    ∃ (v : Option Value) (T' : State) (L : List Loc), Stand p l e R s m args below meth c T' (locs ++ L) (cells + rm.cells) (slots + rm.slots) ∧ Q v T'.heap L ∧
      ∀ target, Steps p.tables e below (T'.setTop { g with pc := g.pc + 3, stack := v.toList ++ rest }) target → Steps p.tables e below (T.setTop g) target := by
  obtain ⟨v, _, ⟨T', L', k', n'⟩, -, X', ⟨L, hQ, e1, e2, e3⟩, st⟩ := Jvm.LawKit.callS X hx (y := y) hown (mvT hZ w1) (mvT hZ w2) (mvT hZ w3) (mvT hZ w4) hy (backOf (W := W) hM hZ w4 w3 hf hl) hg hsize hlen hstack hW hdg (fun _ _ => ⟨rfl, eT, hc, hs⟩)
  dsimp only [Pt.U, Pt.locs, Pt.cells, Pt.slots] at X' e1 e2 e3 st hQ
  subst e1 e2 e3
  exact ⟨v, T', L, X', hQ, st⟩
theorem own_special (X : Stand p l e R s m args below meth c T locs cells slots) (hx : p.tables.exec = Jvm.exec) (hZ : Z.Warmed39 s.vm) {own : String} {index : Nat} (hy1 : y.name = "<init>") (hown : s.vm.findClass own = some m.cls)
    (w1 : (Cond.methodLink own index y).before a0 Z = true) (w2 : (Cond.instanceMethod y).before a0 Z = true) (w3 : (Cond.initialized y.cls).before a0 Z = true) (w4 : (Cond.code y bytes maxL none).before a0 Z = true) (hy : y.cls ≠ "java/lang/invoke/MethodHandle" ∧ y.cls ≠ "java/lang/invoke/VarHandle")
    (W : Nat) {a : Addr} {argsL rest : List Value} (hM : own_Con l Z y bytes maxL none rm (.ref a :: argsL).toArray h Q) (hf : rm.frames + 1 ≤ R.frames) (hl : W + (maxL + 11) + rm.locals ≤ R.locals)
    {g : JFrame} (hg : g.method = m) (hsize : g.locals.size = c.maxLocals) (hlen : ∀ sig, parseMethodDescriptor y.desc = some sig → argsL.length = sig.parameters.length) (hstack : g.stack = argsL.reverse ++ .ref a :: rest)
    (hW : 2 * g.monitorRoom + (rest.map fun v => v.category).sum ≤ W) (hdg : decode c.code g.pc = .ok (.invokespecial index, 3)) (eT : T.heap = h) (hc : cells + rm.cells ≤ R.cells) (hs : slots + rm.slots ≤ R.slots) :
    ∃ (v : Option Value) (T' : State) (L : List Loc), Stand p l e R s m args below meth c T' (locs ++ L) (cells + rm.cells) (slots + rm.slots) ∧ Q v T'.heap L ∧
      ∀ target, Steps p.tables e below (T'.setTop { g with pc := g.pc + 3, stack := v.toList ++ rest }) target → Steps p.tables e below (T.setTop g) target := by
  obtain ⟨v, _, ⟨T', L', k', n'⟩, -, X', ⟨L, hQ, e1, e2, e3⟩, st⟩ := X.specialBack hx (y := y) hy1 hown (mvT hZ w1) (mvT hZ w2) (mvT hZ w4) hy (backOf (W := W) hM hZ w4 w3 hf hl) hg hsize (Steps.refl _) hlen hstack hW hdg (fun _ _ => ⟨rfl, eT, hc, hs⟩)
  dsimp only [Pt.U, Pt.locs, Pt.cells, Pt.slots] at X' e1 e2 e3 st hQ
  subst e1 e2 e3
  exact ⟨v, T', L, X', hQ, fun t k => st.trans k⟩
theorem own_virtual (X : Stand p l e R s m args below meth c T locs cells slots) (hx : p.tables.exec = Jvm.exec) (hZ : Z.Warmed39 s.vm) {own C : String} {index : Nat} (hown : s.vm.findClass own = some m.cls)
    (w1 : (Cond.methodLink own index y).before a0 Z = true) (w2 : (Cond.declares y).before a0 Z = true) (hnf : NotFace s y) (w5 : (Cond.selects C y z).before a0 Z = true) (w6 : (Cond.instanceMethod z).before a0 Z = true)
    (w3 : (Cond.initialized z.cls).before a0 Z = true) (w4 : (Cond.code z bytes maxL ret).before a0 Z = true) (hy : y.cls ≠ "java/lang/invoke/MethodHandle" ∧ y.cls ≠ "java/lang/invoke/VarHandle")
    (W : Nat) {a : Addr} {argsL rest : List Value} (hM : own_Con l Z z bytes maxL ret rm (.ref a :: argsL).toArray h Q) (hf : rm.frames + 1 ≤ R.frames) (hl : W + (maxL + 11) + rm.locals ≤ R.locals) (E : Exa Z h a C)
    {g : JFrame} (hg : g.method = m) (hsize : g.locals.size = c.maxLocals) (hlen : ∀ sig, parseMethodDescriptor y.desc = some sig → argsL.length = sig.parameters.length) (hstack : g.stack = argsL.reverse ++ .ref a :: rest)
    (hW : 2 * g.monitorRoom + (rest.map fun v => v.category).sum ≤ W) (hdg : decode c.code g.pc = .ok (.invokevirtual index, 3)) (eT : T.heap = h) (hc : cells + rm.cells ≤ R.cells) (hs : slots + rm.slots ≤ R.slots) :
    ∃ (v : Option Value) (T' : State) (L : List Loc), Stand p l e R s m args below meth c T' (locs ++ L) (cells + rm.cells) (slots + rm.slots) ∧ Q v T'.heap L ∧
      ∀ target, Steps p.tables e below (T'.setTop { g with pc := g.pc + 3, stack := v.toList ++ rest }) target → Steps p.tables e below (T.setTop g) target := by
  obtain ⟨cB, kB, q1, -, q2⟩ := isOf hZ eT E
  obtain ⟨v, _, ⟨T', L', k', n'⟩, -, X', ⟨L, hQ, e1, e2, e3⟩, st⟩ := X.virtualBack hx (y := y) (z := z) hown (mvT hZ w1) (mvT hZ w2) hnf (mvT hZ w5) (mvT hZ w6) hy (backOf (W := W) hM hZ w4 w3 hf hl) q1 q2 hg hsize (Steps.refl _) hlen hstack hW hdg (fun _ _ => ⟨rfl, eT, hc, hs⟩)
  dsimp only [Pt.U, Pt.locs, Pt.cells, Pt.slots] at X' e1 e2 e3 st hQ
  subst e1 e2 e3
  exact ⟨v, T', L, X', hQ, fun t k => st.trans k⟩
theorem own_virtualUp (X : Stand p l e R s m args below meth c T locs cells slots) (hx : p.tables.exec = Jvm.exec) (hZ : Z.Warmed39 s.vm) {own C owner : String} {index : Nat} (hown : s.vm.findClass own = some m.cls)
    (w1 : (Cond.methodLink own index y).before a0 Z = true) (w7 : (Cond.sameMethod y.cls owner y.name y.desc).before a0 Z = true) (w2 : (Cond.declares ⟨owner, y.name, y.desc⟩).before a0 Z = true) (ho : owner ≠ "java/lang/invoke/MethodHandle" ∧ owner ≠ "java/lang/invoke/VarHandle") (w5 : (Cond.selects C y z).before a0 Z = true) (w6 : (Cond.instanceMethod z).before a0 Z = true)
    (w3 : (Cond.initialized z.cls).before a0 Z = true) (w4 : (Cond.code z bytes maxL ret).before a0 Z = true)
    (W : Nat) {a : Addr} {argsL rest : List Value} (hM : own_Con l Z z bytes maxL ret rm (.ref a :: argsL).toArray h Q) (hf : rm.frames + 1 ≤ R.frames) (hl : W + (maxL + 11) + rm.locals ≤ R.locals) (E : Exa Z h a C)
    {g : JFrame} (hg : g.method = m) (hsize : g.locals.size = c.maxLocals) (hlen : ∀ sig, parseMethodDescriptor y.desc = some sig → argsL.length = sig.parameters.length) (hstack : g.stack = argsL.reverse ++ .ref a :: rest)
    (hW : 2 * g.monitorRoom + (rest.map fun v => v.category).sum ≤ W) (hdg : decode c.code g.pc = .ok (.invokevirtual index, 3)) (eT : T.heap = h) (hc : cells + rm.cells ≤ R.cells) (hs : slots + rm.slots ≤ R.slots) :
    ∃ (v : Option Value) (T' : State) (L : List Loc), Stand p l e R s m args below meth c T' (locs ++ L) (cells + rm.cells) (slots + rm.slots) ∧ Q v T'.heap L ∧
      ∀ target, Steps p.tables e below (T'.setTop { g with pc := g.pc + 3, stack := v.toList ++ rest }) target → Steps p.tables e below (T.setTop g) target := by
  obtain ⟨cB, kB, q1, -, q2⟩ := isOf hZ eT E
  obtain ⟨v, _, ⟨T', L', k', n'⟩, -, X', ⟨L, hQ, e1, e2, e3⟩, st⟩ := X.virtualBackUp hx (x := y) (y := z) (owner := owner) hown (mvT hZ w1) (mvT hZ w7) (mvT hZ w2) ho (mvT hZ w5) (mvT hZ w6) (backOf (W := W) hM hZ w4 w3 hf hl) q1 q2 hg hsize (Steps.refl _) hlen hstack hW hdg (fun _ _ => ⟨rfl, eT, hc, hs⟩)
  dsimp only [Pt.U, Pt.locs, Pt.cells, Pt.slots] at X' e1 e2 e3 st hQ
  subst e1 e2 e3
  exact ⟨v, T', L, X', hQ, fun t k => st.trans k⟩
theorem own_wd {ts : List Cond} (hw : ∀ d ∈ ts, d.before a0 Z = true) {d : Cond} (n : Nat) (h : ts[n]? = some d) : d.before a0 Z = true := hw d (List.mem_of_getElem? h)
theorem own_fldI {t : Term} {w : Addr} {C n d : String} {k : Int32} (ev : t.eval args s none [] s = some (.ref w)) (h : (Cond.eq (Term.field t C n d) (Term.int k)).value args s none s [] = some true) : Fld s s.heap w C n d (.int k) := by
  apply Fld.start
  cases hf : s.fieldOf? w C n d with
  | none => simp [Cond.value, Term.eval, ev, hf] at h
  | some x => cases x <;> simp [Cond.value, Term.eval, ev, hf] at h ⊢; exact h
theorem own_fldN {t : Term} {w : Addr} {C n d : String} (ev : t.eval args s none [] s = some (.ref w)) (h : (Cond.eq (Term.field t C n d) Term.null).value args s none s [] = some true) : Fld s s.heap w C n d .null := by
  have q := null_v h
  rw [fld_at ev] at q
  exact Fld.start q
theorem own_fldR {t u : Term} {w b : Addr} {C n d : String} (ev : t.eval args s none [] s = some (.ref w)) (eu : u.eval args s none [] s = some (.ref b)) (h : (Cond.eq (Term.field t C n d) u).value args s none s [] = some true) : Fld s s.heap w C n d (.ref b) := by
  apply Fld.start
  cases hf : s.fieldOf? w C n d with
  | none => simp [Cond.value, Term.eval, ev, eu, hf] at h
  | some x => cases x <;> simp [Cond.value, Term.eval, ev, eu, hf] at h ⊢; exact h
theorem own_ne {t u : Term} {w b : Addr} (ev : t.eval args s none [] s = some (.ref w)) (eu : u.eval args s none [] s = some (.ref b)) (h : (Cond.not (Cond.eq t u)).value args s none s [] = some true) : w ≠ b := by
  have q := not_v h
  intro e
  subst e
  simp [Cond.value, ev, eu] at q
end Own
end Jvm.RoadKit
namespace Jvm.Pilot.@@N@@
open Jvm Jvm.ClassFile Sem Op Lib Jvm.Free Jvm.Stand Jvm.LawKit Jvm.RoadKit Bundle Jvm.Pilot.@@N@@.Jvm.D
theorem own_mod8 (x : Int32) : (x &&& (2147483647 : Int32)) % (8 : Int32) = (0 : Int32) ∨ (x &&& (2147483647 : Int32)) % (8 : Int32) = (1 : Int32) ∨ (x &&& (2147483647 : Int32)) % (8 : Int32) = (2 : Int32) ∨ (x &&& (2147483647 : Int32)) % (8 : Int32) = (3 : Int32) ∨ (x &&& (2147483647 : Int32)) % (8 : Int32) = (4 : Int32) ∨ (x &&& (2147483647 : Int32)) % (8 : Int32) = (5 : Int32) ∨ (x &&& (2147483647 : Int32)) % (8 : Int32) = (6 : Int32) ∨ (x &&& (2147483647 : Int32)) % (8 : Int32) = (7 : Int32) := by
  have h1 := c_mask x 2147483647 31 (by decide) (by decide)
  have h2 := (c_irem (x &&& 2147483647) 8 8 (by decide)).1 (by omega)
  have h3 := Int.emod_nonneg (x &&& (2147483647 : Int32)).toInt (show (8 : Int) ≠ 0 by decide)
  have h4 := Int.emod_lt_of_pos (x &&& (2147483647 : Int32)).toInt (show (0 : Int) < 8 by decide)
  rw [← h2] at h3 h4
  clear h1 h2
  generalize (x &&& (2147483647 : Int32)) % (8 : Int32) = k at h3 h4 ⊢
  have q : k.toInt = 0 ∨ k.toInt = 1 ∨ k.toInt = 2 ∨ k.toInt = 3 ∨ k.toInt = 4 ∨ k.toInt = 5 ∨ k.toInt = 6 ∨ k.toInt = 7 := by omega
  simp only [← Int32.toInt_inj]
  exact q
theorem own_d_method_2_code_0 : decode method_2_code 0 = .ok (.iload_n 0, 1) := by decide +kernel
theorem own_d_method_2_code_1 : decode method_2_code 1 = .ok (.ifCond .ne 10, 3) := by decide +kernel
theorem own_d_method_2_code_4 : decode method_2_code 4 = .ok (.getstatic 7, 3) := by decide +kernel
theorem own_d_method_2_code_7 : decode method_2_code 7 = .ok (.astore_n 1, 1) := by decide +kernel
theorem own_d_method_2_code_8 : decode method_2_code 8 = .ok (.goto 80, 3) := by decide +kernel
theorem own_d_method_2_code_88 : decode method_2_code 88 = .ok (.aload_n 1, 1) := by decide +kernel
theorem own_d_method_2_code_89 : decode method_2_code 89 = .ok (.areturn, 1) := by decide +kernel
theorem own_d_method_2_code_11 : decode method_2_code 11 = .ok (.iload_n 0, 1) := by decide +kernel
theorem own_d_method_2_code_12 : decode method_2_code 12 = .ok (.iconst 1, 1) := by decide +kernel
theorem own_d_method_2_code_13 : decode method_2_code 13 = .ok (.if_icmp .ne 10, 3) := by decide +kernel
theorem own_d_method_2_code_16 : decode method_2_code 16 = .ok (.getstatic 13, 3) := by decide +kernel
theorem own_d_method_2_code_19 : decode method_2_code 19 = .ok (.astore_n 1, 1) := by decide +kernel
theorem own_d_method_2_code_20 : decode method_2_code 20 = .ok (.goto 68, 3) := by decide +kernel
theorem own_d_method_2_code_23 : decode method_2_code 23 = .ok (.iload_n 0, 1) := by decide +kernel
theorem own_d_method_2_code_24 : decode method_2_code 24 = .ok (.iconst 2, 1) := by decide +kernel
theorem own_d_method_2_code_25 : decode method_2_code 25 = .ok (.if_icmp .ne 10, 3) := by decide +kernel
theorem own_d_method_2_code_28 : decode method_2_code 28 = .ok (.getstatic 16, 3) := by decide +kernel
theorem own_d_method_2_code_31 : decode method_2_code 31 = .ok (.astore_n 1, 1) := by decide +kernel
theorem own_d_method_2_code_32 : decode method_2_code 32 = .ok (.goto 56, 3) := by decide +kernel
theorem own_d_method_2_code_35 : decode method_2_code 35 = .ok (.iload_n 0, 1) := by decide +kernel
theorem own_d_method_2_code_36 : decode method_2_code 36 = .ok (.iconst 3, 1) := by decide +kernel
theorem own_d_method_2_code_37 : decode method_2_code 37 = .ok (.if_icmp .ne 10, 3) := by decide +kernel
theorem own_d_method_2_code_40 : decode method_2_code 40 = .ok (.getstatic 19, 3) := by decide +kernel
theorem own_d_method_2_code_43 : decode method_2_code 43 = .ok (.astore_n 1, 1) := by decide +kernel
theorem own_d_method_2_code_44 : decode method_2_code 44 = .ok (.goto 44, 3) := by decide +kernel
theorem own_d_method_2_code_47 : decode method_2_code 47 = .ok (.iload_n 0, 1) := by decide +kernel
theorem own_d_method_2_code_48 : decode method_2_code 48 = .ok (.iconst 4, 1) := by decide +kernel
theorem own_d_method_2_code_49 : decode method_2_code 49 = .ok (.if_icmp .ne 10, 3) := by decide +kernel
theorem own_d_method_2_code_52 : decode method_2_code 52 = .ok (.getstatic 22, 3) := by decide +kernel
theorem own_d_method_2_code_55 : decode method_2_code 55 = .ok (.astore_n 1, 1) := by decide +kernel
theorem own_d_method_2_code_56 : decode method_2_code 56 = .ok (.goto 32, 3) := by decide +kernel
theorem own_d_method_2_code_59 : decode method_2_code 59 = .ok (.iload_n 0, 1) := by decide +kernel
theorem own_d_method_2_code_60 : decode method_2_code 60 = .ok (.iconst 5, 1) := by decide +kernel
theorem own_d_method_2_code_61 : decode method_2_code 61 = .ok (.if_icmp .ne 10, 3) := by decide +kernel
theorem own_d_method_2_code_64 : decode method_2_code 64 = .ok (.getstatic 25, 3) := by decide +kernel
theorem own_d_method_2_code_67 : decode method_2_code 67 = .ok (.astore_n 1, 1) := by decide +kernel
theorem own_d_method_2_code_68 : decode method_2_code 68 = .ok (.goto 20, 3) := by decide +kernel
theorem own_d_method_2_code_71 : decode method_2_code 71 = .ok (.iload_n 0, 1) := by decide +kernel
theorem own_d_method_2_code_72 : decode method_2_code 72 = .ok (.bipush 6, 2) := by decide +kernel
theorem own_d_method_2_code_74 : decode method_2_code 74 = .ok (.if_icmp .ne 10, 3) := by decide +kernel
theorem own_d_method_2_code_77 : decode method_2_code 77 = .ok (.getstatic 28, 3) := by decide +kernel
theorem own_d_method_2_code_80 : decode method_2_code 80 = .ok (.astore_n 1, 1) := by decide +kernel
theorem own_d_method_2_code_81 : decode method_2_code 81 = .ok (.goto 7, 3) := by decide +kernel
theorem own_d_method_2_code_84 : decode method_2_code 84 = .ok (.getstatic 31, 3) := by decide +kernel
theorem own_d_method_2_code_87 : decode method_2_code 87 = .ok (.astore_n 1, 1) := by decide +kernel
def own_f63 (p1 : Int32) (w2 : Addr) (w4 : Addr) (w6 : Addr) (w8 : Addr) (w10 : Addr) (w12 : Addr) (w14 : Addr) (w16 : Addr) : Addr := (if p1 = (0 : Int32) then w2 else (if p1 = (1 : Int32) then w4 else (if p1 = (2 : Int32) then w6 else (if p1 = (3 : Int32) then w8 else (if p1 = (4 : Int32) then w10 else (if p1 = (5 : Int32) then w12 else (if p1 = (6 : Int32) then w14 else w16)))))))
theorem own_ef63 (m : MethodId) (x0 : Int32) : entryFrame m #[(.int x0)] 2 = mkF m 0 #[.val (.int x0), .unset] [] := by first | (simp [entryFrame, mkF, argsToLocals, Value.category]; done) | rfl
theorem own_pn0 : plainName "com/example/pactolus/pactolus/gate/ScopePerCallPinLaw" = true := by first | (simp [plainName, overriddenIn]; done) | decide +kernel
set_option maxRecDepth 65536 in
set_option maxHeartbeats 40000000 in
theorem own_rm63 (l : Launch) (Z : State) (a0 : Array Value) (hw : ∀ d ∈ tables_1, d.before a0 Z = true) (h0 : Heap) (p1 : Int32) (w2 : Addr) (w4 : Addr) (w6 : Addr) (w8 : Addr) (w10 : Addr) (w12 : Addr) (w14 : Addr) (w16 : Addr) (S3 : Sta Z h0 "com/example/pactolus/pactolus/gate/Scope" "CALL" "Lcom/example/pactolus/pactolus/gate/Scope;" (.ref w2)) (S5 : Sta Z h0 "com/example/pactolus/pactolus/gate/Scope" "DAILY" "Lcom/example/pactolus/pactolus/gate/Scope;" (.ref w4)) (S7 : Sta Z h0 "com/example/pactolus/pactolus/gate/Scope" "MONTHLY" "Lcom/example/pactolus/pactolus/gate/Scope;" (.ref w6)) (S9 : Sta Z h0 "com/example/pactolus/pactolus/gate/Scope" "PROVIDER_DAILY" "Lcom/example/pactolus/pactolus/gate/Scope;" (.ref w8)) (S11 : Sta Z h0 "com/example/pactolus/pactolus/gate/Scope" "PROVIDER_MONTHLY" "Lcom/example/pactolus/pactolus/gate/Scope;" (.ref w10)) (S13 : Sta Z h0 "com/example/pactolus/pactolus/gate/Scope" "USER_DAILY" "Lcom/example/pactolus/pactolus/gate/Scope;" (.ref w12)) (S15 : Sta Z h0 "com/example/pactolus/pactolus/gate/Scope" "USER_MONTHLY" "Lcom/example/pactolus/pactolus/gate/Scope;" (.ref w14)) (S17 : Sta Z h0 "com/example/pactolus/pactolus/gate/Scope" "RUN" "Lcom/example/pactolus/pactolus/gate/Scope;" (.ref w16)) :
    own_Con l Z (⟨"com/example/pactolus/pactolus/gate/ScopePerCallPinLaw", "pick", "(I)Lcom/example/pactolus/pactolus/gate/Scope;"⟩ : MethodName) method_2_code 2 (some (.object "com/example/pactolus/pactolus/gate/Scope")) ({ frames := 0, cells := 0, slots := 0, locals := 0 } : Room) #[(.int p1)] h0 (own_QP (some (.ref (own_f63 p1 w2 w4 w6 w8 w10 w12 w14 w16))) h0) := by
  refine MetFree.of_bodySF (plainFor_of_name own_pn0) hisR ?_
  intro p e s m args below meth c s₁ Bd hml0 hP hK
  obtain ⟨rfl, hZ, hh⟩ := hP
  have hx := Bd.exec
  have hby := Bd.bytes
  have hml : c.maxLocals = 2 := hml0
  have hown : s.vm.findClass "com/example/pactolus/pactolus/gate/ScopePerCallPinLaw" = some m.cls := findClass_of_methodNamed Bd.named
  have X0 : Stand p l e ({ frames := 0, cells := 0, slots := 0, locals := 0 } : Room) s m #[(.int p1)] below meth c s₁ [] 0 0 := Stand.of_body Bd
  have e0 : s₁.heap = h0 := by rw [← hh, Bd.state]; rfl
  show own_Go p e below (own_K s (own_QP (some (.ref (own_f63 p1 w2 w4 w6 w8 w10 w12 w14 w16))) h0) 0 0) s₁ (entryFrame m #[(.int p1)] 2)
  rw [own_ef63]
  refine own_go (T2 := s₁) (g2 := (mkF m 1 #[.val (.int p1), .unset] [(.int p1)])) (fun t k => XS.iloadN X0.here hx rfl (hb hby own_d_method_2_code_0) rfl  k) ?_
  by_cases hc64 : p1 = (0 : Int32)
  · refine own_go (T2 := s₁) (g2 := (mkF m 4 #[.val (.int p1), .unset] [])) (fun t k => XS.ifNo X0.here hx rfl (hb hby own_d_method_2_code_1) rfl ((if0 _ _).trans (teq (show p1 = (0 : Int32) from hc64)).2) k) ?_
    obtain ⟨T65, X65, e65, st65⟩ := getS2 X0 hx hZ hown (host := "") (Or.inl (own_wd hw 5 rfl)) Via.refl e0 S3 (g := (mkF m 4 #[.val (.int p1), .unset] [])) rfl (hb hby own_d_method_2_code_4)
    refine own_go (T2 := T65) (g2 := (mkF m 7 #[.val (.int p1), .unset] [(.ref w2)])) st65 ?_
    refine own_go (T2 := T65) (g2 := (mkF m 8 #[.val (.int p1), .val (.ref w2)] [])) (fun t k => XS.astoreN X65.here hx rfl (hb hby own_d_method_2_code_7) rfl rfl (l' := #[.val (.int p1), .val (.ref w2)]) rfl k) ?_
    refine own_go (T2 := T65) (g2 := (mkF m 88 #[.val (.int p1), .val (.ref w2)] [])) (fun t k => XS.goto X65.here hx rfl (pc0 := 8) (pc' := 88) rfl (hb hby own_d_method_2_code_8) (by decide) (by decide) k) ?_
    refine own_go (T2 := T65) (g2 := (mkF m 89 #[.val (.int p1), .val (.ref w2)] [(.ref w2)])) (fun t k => XS.aloadN X65.here hx rfl (hb hby own_d_method_2_code_88) rfl rfl k) ?_
    exact own_endR X65 hx Bd.notSynchronized Bd.returns rfl rfl (hb hby own_d_method_2_code_89) (by decide) (by decide) ⟨(by first | rfl | rw [own_f63, if_pos hc64] | simp only [own_f63, if_pos hc64]), rfl, e65⟩
  · refine own_go (T2 := s₁) (g2 := (mkF m 11 #[.val (.int p1), .unset] [])) (fun t k => XS.ifYes X0.here hx rfl (pc0 := 1) (pc' := 11) rfl (hb hby own_d_method_2_code_1) rfl ((if0 _ _).trans (feq (show ¬ (p1 = (0 : Int32)) from hc64)).2) (by decide) (by decide) k) ?_
    refine own_go (T2 := s₁) (g2 := (mkF m 12 #[.val (.int p1), .unset] [(.int p1)])) (fun t k => XS.iloadN X0.here hx rfl (hb hby own_d_method_2_code_11) rfl  k) ?_
    refine own_go (T2 := s₁) (g2 := (mkF m 13 #[.val (.int p1), .unset] [(.int (1 : Int32)), (.int p1)])) (fun t k => XS.iconst X0.here hx rfl (hb hby own_d_method_2_code_12) k) ?_
    by_cases hc66 : p1 = (1 : Int32)
    · refine own_go (T2 := s₁) (g2 := (mkF m 16 #[.val (.int p1), .unset] [])) (fun t k => XS.icmpNo X0.here hx rfl (hb hby own_d_method_2_code_13) rfl (teq (show p1 = (1 : Int32) from hc66)).2 k) ?_
      obtain ⟨T67, X67, e67, st67⟩ := getS2 X0 hx hZ hown (host := "") (Or.inl (own_wd hw 36 rfl)) Via.refl e0 S5 (g := (mkF m 16 #[.val (.int p1), .unset] [])) rfl (hb hby own_d_method_2_code_16)
      refine own_go (T2 := T67) (g2 := (mkF m 19 #[.val (.int p1), .unset] [(.ref w4)])) st67 ?_
      refine own_go (T2 := T67) (g2 := (mkF m 20 #[.val (.int p1), .val (.ref w4)] [])) (fun t k => XS.astoreN X67.here hx rfl (hb hby own_d_method_2_code_19) rfl rfl (l' := #[.val (.int p1), .val (.ref w4)]) rfl k) ?_
      refine own_go (T2 := T67) (g2 := (mkF m 88 #[.val (.int p1), .val (.ref w4)] [])) (fun t k => XS.goto X67.here hx rfl (pc0 := 20) (pc' := 88) rfl (hb hby own_d_method_2_code_20) (by decide) (by decide) k) ?_
      refine own_go (T2 := T67) (g2 := (mkF m 89 #[.val (.int p1), .val (.ref w4)] [(.ref w4)])) (fun t k => XS.aloadN X67.here hx rfl (hb hby own_d_method_2_code_88) rfl rfl k) ?_
      exact own_endR X67 hx Bd.notSynchronized Bd.returns rfl rfl (hb hby own_d_method_2_code_89) (by decide) (by decide) ⟨(by first | rfl | rw [own_f63, if_neg hc64, if_pos hc66] | simp only [own_f63, if_neg hc64, if_pos hc66]), rfl, e67⟩
    · refine own_go (T2 := s₁) (g2 := (mkF m 23 #[.val (.int p1), .unset] [])) (fun t k => XS.icmpYes X0.here hx rfl (pc0 := 13) (pc' := 23) rfl (hb hby own_d_method_2_code_13) rfl (feq (show ¬ (p1 = (1 : Int32)) from hc66)).2 (by decide) (by decide) k) ?_
      refine own_go (T2 := s₁) (g2 := (mkF m 24 #[.val (.int p1), .unset] [(.int p1)])) (fun t k => XS.iloadN X0.here hx rfl (hb hby own_d_method_2_code_23) rfl  k) ?_
      refine own_go (T2 := s₁) (g2 := (mkF m 25 #[.val (.int p1), .unset] [(.int (2 : Int32)), (.int p1)])) (fun t k => XS.iconst X0.here hx rfl (hb hby own_d_method_2_code_24) k) ?_
      by_cases hc68 : p1 = (2 : Int32)
      · refine own_go (T2 := s₁) (g2 := (mkF m 28 #[.val (.int p1), .unset] [])) (fun t k => XS.icmpNo X0.here hx rfl (hb hby own_d_method_2_code_25) rfl (teq (show p1 = (2 : Int32) from hc68)).2 k) ?_
        obtain ⟨T69, X69, e69, st69⟩ := getS2 X0 hx hZ hown (host := "") (Or.inl (own_wd hw 32 rfl)) Via.refl e0 S7 (g := (mkF m 28 #[.val (.int p1), .unset] [])) rfl (hb hby own_d_method_2_code_28)
        refine own_go (T2 := T69) (g2 := (mkF m 31 #[.val (.int p1), .unset] [(.ref w6)])) st69 ?_
        refine own_go (T2 := T69) (g2 := (mkF m 32 #[.val (.int p1), .val (.ref w6)] [])) (fun t k => XS.astoreN X69.here hx rfl (hb hby own_d_method_2_code_31) rfl rfl (l' := #[.val (.int p1), .val (.ref w6)]) rfl k) ?_
        refine own_go (T2 := T69) (g2 := (mkF m 88 #[.val (.int p1), .val (.ref w6)] [])) (fun t k => XS.goto X69.here hx rfl (pc0 := 32) (pc' := 88) rfl (hb hby own_d_method_2_code_32) (by decide) (by decide) k) ?_
        refine own_go (T2 := T69) (g2 := (mkF m 89 #[.val (.int p1), .val (.ref w6)] [(.ref w6)])) (fun t k => XS.aloadN X69.here hx rfl (hb hby own_d_method_2_code_88) rfl rfl k) ?_
        exact own_endR X69 hx Bd.notSynchronized Bd.returns rfl rfl (hb hby own_d_method_2_code_89) (by decide) (by decide) ⟨(by first | rfl | rw [own_f63, if_neg hc64, if_neg hc66, if_pos hc68] | simp only [own_f63, if_neg hc64, if_neg hc66, if_pos hc68]), rfl, e69⟩
      · refine own_go (T2 := s₁) (g2 := (mkF m 35 #[.val (.int p1), .unset] [])) (fun t k => XS.icmpYes X0.here hx rfl (pc0 := 25) (pc' := 35) rfl (hb hby own_d_method_2_code_25) rfl (feq (show ¬ (p1 = (2 : Int32)) from hc68)).2 (by decide) (by decide) k) ?_
        refine own_go (T2 := s₁) (g2 := (mkF m 36 #[.val (.int p1), .unset] [(.int p1)])) (fun t k => XS.iloadN X0.here hx rfl (hb hby own_d_method_2_code_35) rfl  k) ?_
        refine own_go (T2 := s₁) (g2 := (mkF m 37 #[.val (.int p1), .unset] [(.int (3 : Int32)), (.int p1)])) (fun t k => XS.iconst X0.here hx rfl (hb hby own_d_method_2_code_36) k) ?_
        by_cases hc70 : p1 = (3 : Int32)
        · refine own_go (T2 := s₁) (g2 := (mkF m 40 #[.val (.int p1), .unset] [])) (fun t k => XS.icmpNo X0.here hx rfl (hb hby own_d_method_2_code_37) rfl (teq (show p1 = (3 : Int32) from hc70)).2 k) ?_
          obtain ⟨T71, X71, e71, st71⟩ := getS2 X0 hx hZ hown (host := "") (Or.inl (own_wd hw 22 rfl)) Via.refl e0 S9 (g := (mkF m 40 #[.val (.int p1), .unset] [])) rfl (hb hby own_d_method_2_code_40)
          refine own_go (T2 := T71) (g2 := (mkF m 43 #[.val (.int p1), .unset] [(.ref w8)])) st71 ?_
          refine own_go (T2 := T71) (g2 := (mkF m 44 #[.val (.int p1), .val (.ref w8)] [])) (fun t k => XS.astoreN X71.here hx rfl (hb hby own_d_method_2_code_43) rfl rfl (l' := #[.val (.int p1), .val (.ref w8)]) rfl k) ?_
          refine own_go (T2 := T71) (g2 := (mkF m 88 #[.val (.int p1), .val (.ref w8)] [])) (fun t k => XS.goto X71.here hx rfl (pc0 := 44) (pc' := 88) rfl (hb hby own_d_method_2_code_44) (by decide) (by decide) k) ?_
          refine own_go (T2 := T71) (g2 := (mkF m 89 #[.val (.int p1), .val (.ref w8)] [(.ref w8)])) (fun t k => XS.aloadN X71.here hx rfl (hb hby own_d_method_2_code_88) rfl rfl k) ?_
          exact own_endR X71 hx Bd.notSynchronized Bd.returns rfl rfl (hb hby own_d_method_2_code_89) (by decide) (by decide) ⟨(by first | rfl | rw [own_f63, if_neg hc64, if_neg hc66, if_neg hc68, if_pos hc70] | simp only [own_f63, if_neg hc64, if_neg hc66, if_neg hc68, if_pos hc70]), rfl, e71⟩
        · refine own_go (T2 := s₁) (g2 := (mkF m 47 #[.val (.int p1), .unset] [])) (fun t k => XS.icmpYes X0.here hx rfl (pc0 := 37) (pc' := 47) rfl (hb hby own_d_method_2_code_37) rfl (feq (show ¬ (p1 = (3 : Int32)) from hc70)).2 (by decide) (by decide) k) ?_
          refine own_go (T2 := s₁) (g2 := (mkF m 48 #[.val (.int p1), .unset] [(.int p1)])) (fun t k => XS.iloadN X0.here hx rfl (hb hby own_d_method_2_code_47) rfl  k) ?_
          refine own_go (T2 := s₁) (g2 := (mkF m 49 #[.val (.int p1), .unset] [(.int (4 : Int32)), (.int p1)])) (fun t k => XS.iconst X0.here hx rfl (hb hby own_d_method_2_code_48) k) ?_
          by_cases hc72 : p1 = (4 : Int32)
          · refine own_go (T2 := s₁) (g2 := (mkF m 52 #[.val (.int p1), .unset] [])) (fun t k => XS.icmpNo X0.here hx rfl (hb hby own_d_method_2_code_49) rfl (teq (show p1 = (4 : Int32) from hc72)).2 k) ?_
            obtain ⟨T73, X73, e73, st73⟩ := getS2 X0 hx hZ hown (host := "") (Or.inl (own_wd hw 39 rfl)) Via.refl e0 S11 (g := (mkF m 52 #[.val (.int p1), .unset] [])) rfl (hb hby own_d_method_2_code_52)
            refine own_go (T2 := T73) (g2 := (mkF m 55 #[.val (.int p1), .unset] [(.ref w10)])) st73 ?_
            refine own_go (T2 := T73) (g2 := (mkF m 56 #[.val (.int p1), .val (.ref w10)] [])) (fun t k => XS.astoreN X73.here hx rfl (hb hby own_d_method_2_code_55) rfl rfl (l' := #[.val (.int p1), .val (.ref w10)]) rfl k) ?_
            refine own_go (T2 := T73) (g2 := (mkF m 88 #[.val (.int p1), .val (.ref w10)] [])) (fun t k => XS.goto X73.here hx rfl (pc0 := 56) (pc' := 88) rfl (hb hby own_d_method_2_code_56) (by decide) (by decide) k) ?_
            refine own_go (T2 := T73) (g2 := (mkF m 89 #[.val (.int p1), .val (.ref w10)] [(.ref w10)])) (fun t k => XS.aloadN X73.here hx rfl (hb hby own_d_method_2_code_88) rfl rfl k) ?_
            exact own_endR X73 hx Bd.notSynchronized Bd.returns rfl rfl (hb hby own_d_method_2_code_89) (by decide) (by decide) ⟨(by first | rfl | rw [own_f63, if_neg hc64, if_neg hc66, if_neg hc68, if_neg hc70, if_pos hc72] | simp only [own_f63, if_neg hc64, if_neg hc66, if_neg hc68, if_neg hc70, if_pos hc72]), rfl, e73⟩
          · refine own_go (T2 := s₁) (g2 := (mkF m 59 #[.val (.int p1), .unset] [])) (fun t k => XS.icmpYes X0.here hx rfl (pc0 := 49) (pc' := 59) rfl (hb hby own_d_method_2_code_49) rfl (feq (show ¬ (p1 = (4 : Int32)) from hc72)).2 (by decide) (by decide) k) ?_
            refine own_go (T2 := s₁) (g2 := (mkF m 60 #[.val (.int p1), .unset] [(.int p1)])) (fun t k => XS.iloadN X0.here hx rfl (hb hby own_d_method_2_code_59) rfl  k) ?_
            refine own_go (T2 := s₁) (g2 := (mkF m 61 #[.val (.int p1), .unset] [(.int (5 : Int32)), (.int p1)])) (fun t k => XS.iconst X0.here hx rfl (hb hby own_d_method_2_code_60) k) ?_
            by_cases hc74 : p1 = (5 : Int32)
            · refine own_go (T2 := s₁) (g2 := (mkF m 64 #[.val (.int p1), .unset] [])) (fun t k => XS.icmpNo X0.here hx rfl (hb hby own_d_method_2_code_61) rfl (teq (show p1 = (5 : Int32) from hc74)).2 k) ?_
              obtain ⟨T75, X75, e75, st75⟩ := getS2 X0 hx hZ hown (host := "") (Or.inl (own_wd hw 41 rfl)) Via.refl e0 S13 (g := (mkF m 64 #[.val (.int p1), .unset] [])) rfl (hb hby own_d_method_2_code_64)
              refine own_go (T2 := T75) (g2 := (mkF m 67 #[.val (.int p1), .unset] [(.ref w12)])) st75 ?_
              refine own_go (T2 := T75) (g2 := (mkF m 68 #[.val (.int p1), .val (.ref w12)] [])) (fun t k => XS.astoreN X75.here hx rfl (hb hby own_d_method_2_code_67) rfl rfl (l' := #[.val (.int p1), .val (.ref w12)]) rfl k) ?_
              refine own_go (T2 := T75) (g2 := (mkF m 88 #[.val (.int p1), .val (.ref w12)] [])) (fun t k => XS.goto X75.here hx rfl (pc0 := 68) (pc' := 88) rfl (hb hby own_d_method_2_code_68) (by decide) (by decide) k) ?_
              refine own_go (T2 := T75) (g2 := (mkF m 89 #[.val (.int p1), .val (.ref w12)] [(.ref w12)])) (fun t k => XS.aloadN X75.here hx rfl (hb hby own_d_method_2_code_88) rfl rfl k) ?_
              exact own_endR X75 hx Bd.notSynchronized Bd.returns rfl rfl (hb hby own_d_method_2_code_89) (by decide) (by decide) ⟨(by first | rfl | rw [own_f63, if_neg hc64, if_neg hc66, if_neg hc68, if_neg hc70, if_neg hc72, if_pos hc74] | simp only [own_f63, if_neg hc64, if_neg hc66, if_neg hc68, if_neg hc70, if_neg hc72, if_pos hc74]), rfl, e75⟩
            · refine own_go (T2 := s₁) (g2 := (mkF m 71 #[.val (.int p1), .unset] [])) (fun t k => XS.icmpYes X0.here hx rfl (pc0 := 61) (pc' := 71) rfl (hb hby own_d_method_2_code_61) rfl (feq (show ¬ (p1 = (5 : Int32)) from hc74)).2 (by decide) (by decide) k) ?_
              refine own_go (T2 := s₁) (g2 := (mkF m 72 #[.val (.int p1), .unset] [(.int p1)])) (fun t k => XS.iloadN X0.here hx rfl (hb hby own_d_method_2_code_71) rfl  k) ?_
              refine own_go (T2 := s₁) (g2 := (mkF m 74 #[.val (.int p1), .unset] [(.int (6 : Int32)), (.int p1)])) (fun t k => XS.bipush X0.here hx rfl (hb hby own_d_method_2_code_72) k) ?_
              by_cases hc76 : p1 = (6 : Int32)
              · refine own_go (T2 := s₁) (g2 := (mkF m 77 #[.val (.int p1), .unset] [])) (fun t k => XS.icmpNo X0.here hx rfl (hb hby own_d_method_2_code_74) rfl (teq (show p1 = (6 : Int32) from hc76)).2 k) ?_
                obtain ⟨T77, X77, e77, st77⟩ := getS2 X0 hx hZ hown (host := "") (Or.inl (own_wd hw 26 rfl)) Via.refl e0 S15 (g := (mkF m 77 #[.val (.int p1), .unset] [])) rfl (hb hby own_d_method_2_code_77)
                refine own_go (T2 := T77) (g2 := (mkF m 80 #[.val (.int p1), .unset] [(.ref w14)])) st77 ?_
                refine own_go (T2 := T77) (g2 := (mkF m 81 #[.val (.int p1), .val (.ref w14)] [])) (fun t k => XS.astoreN X77.here hx rfl (hb hby own_d_method_2_code_80) rfl rfl (l' := #[.val (.int p1), .val (.ref w14)]) rfl k) ?_
                refine own_go (T2 := T77) (g2 := (mkF m 88 #[.val (.int p1), .val (.ref w14)] [])) (fun t k => XS.goto X77.here hx rfl (pc0 := 81) (pc' := 88) rfl (hb hby own_d_method_2_code_81) (by decide) (by decide) k) ?_
                refine own_go (T2 := T77) (g2 := (mkF m 89 #[.val (.int p1), .val (.ref w14)] [(.ref w14)])) (fun t k => XS.aloadN X77.here hx rfl (hb hby own_d_method_2_code_88) rfl rfl k) ?_
                exact own_endR X77 hx Bd.notSynchronized Bd.returns rfl rfl (hb hby own_d_method_2_code_89) (by decide) (by decide) ⟨(by first | rfl | rw [own_f63, if_neg hc64, if_neg hc66, if_neg hc68, if_neg hc70, if_neg hc72, if_neg hc74, if_pos hc76] | simp only [own_f63, if_neg hc64, if_neg hc66, if_neg hc68, if_neg hc70, if_neg hc72, if_neg hc74, if_pos hc76]), rfl, e77⟩
              · refine own_go (T2 := s₁) (g2 := (mkF m 84 #[.val (.int p1), .unset] [])) (fun t k => XS.icmpYes X0.here hx rfl (pc0 := 74) (pc' := 84) rfl (hb hby own_d_method_2_code_74) rfl (feq (show ¬ (p1 = (6 : Int32)) from hc76)).2 (by decide) (by decide) k) ?_
                obtain ⟨T78, X78, e78, st78⟩ := getS2 X0 hx hZ hown (host := "") (Or.inl (own_wd hw 29 rfl)) Via.refl e0 S17 (g := (mkF m 84 #[.val (.int p1), .unset] [])) rfl (hb hby own_d_method_2_code_84)
                refine own_go (T2 := T78) (g2 := (mkF m 87 #[.val (.int p1), .unset] [(.ref w16)])) st78 ?_
                refine own_go (T2 := T78) (g2 := (mkF m 88 #[.val (.int p1), .val (.ref w16)] [])) (fun t k => XS.astoreN X78.here hx rfl (hb hby own_d_method_2_code_87) rfl rfl (l' := #[.val (.int p1), .val (.ref w16)]) rfl k) ?_
                refine own_go (T2 := T78) (g2 := (mkF m 89 #[.val (.int p1), .val (.ref w16)] [(.ref w16)])) (fun t k => XS.aloadN X78.here hx rfl (hb hby own_d_method_2_code_88) rfl rfl k) ?_
                exact own_endR X78 hx Bd.notSynchronized Bd.returns rfl rfl (hb hby own_d_method_2_code_89) (by decide) (by decide) ⟨(by first | rfl | rw [own_f63, if_neg hc64, if_neg hc66, if_neg hc68, if_neg hc70, if_neg hc72, if_neg hc74, if_neg hc76] | simp only [own_f63, if_neg hc64, if_neg hc66, if_neg hc68, if_neg hc70, if_neg hc72, if_neg hc74, if_neg hc76]), rfl, e78⟩
theorem own_pd0 : parseMethodDescriptor "(I)Lcom/example/pactolus/pactolus/gate/Scope;" = some ⟨[.int], some (.object "com/example/pactolus/pactolus/gate/Scope")⟩ := by decide +kernel
theorem own_d_prog_16_method_11_code_0 : decode prog_16_method_11_code 0 = .ok (.aload_n 0, 1) := by decide +kernel
theorem own_d_prog_16_method_11_code_1 : decode prog_16_method_11_code 1 = .ok (.getfield 86, 3) := by decide +kernel
theorem own_d_prog_16_method_11_code_4 : decode prog_16_method_11_code 4 = .ok (.ifnonnull 14, 3) := by decide +kernel
theorem own_d_prog_16_method_11_code_7 : decode prog_16_method_11_code 7 = .ok (.aload_n 0, 1) := by decide +kernel
theorem own_d_prog_16_method_11_code_8 : decode prog_16_method_11_code 8 = .ok (.getfield 90, 3) := by decide +kernel
theorem own_d_prog_16_method_11_code_11 : decode prog_16_method_11_code 11 = .ok (.ifnonnull 7, 3) := by decide +kernel
theorem own_d_prog_16_method_11_code_14 : decode prog_16_method_11_code 14 = .ok (.iconst 1, 1) := by decide +kernel
theorem own_d_prog_16_method_11_code_15 : decode prog_16_method_11_code 15 = .ok (.goto 4, 3) := by decide +kernel
theorem own_d_prog_16_method_11_code_19 : decode prog_16_method_11_code 19 = .ok (.ireturn, 1) := by decide +kernel
theorem own_d_prog_16_method_11_code_18 : decode prog_16_method_11_code 18 = .ok (.iconst 0, 1) := by decide +kernel
def own_f80 (a1 : Addr) (w2 : Value) (w4 : Value) : Int32 := (if w2 = Value.null then (if w4 = Value.null then (1 : Int32) else (0 : Int32)) else (0 : Int32))
theorem own_ef80 (m : MethodId) (x0 : Addr) : entryFrame m #[(.ref x0)] 1 = mkF m 0 #[.val (.ref x0)] [] := by first | (simp [entryFrame, mkF, argsToLocals, Value.category]; done) | rfl
theorem own_pn1 : plainName "com/example/pactolus/pactolus/gate/Scope" = true := by first | (simp [plainName, overriddenIn]; done) | decide +kernel
set_option maxRecDepth 65536 in
set_option maxHeartbeats 40000000 in
theorem own_rm80 (l : Launch) (Z : State) (a0 : Array Value) (hw : ∀ d ∈ tables_1, d.before a0 Z = true) (h0 : Heap) (a1 : Addr) (w2 : Value) (w4 : Value) (F3 : Fld Z h0 a1 "com/example/pactolus/pactolus/gate/Scope" "label" "Lcom/example/pactolus/pactolus/ledger/Label;" w2) (F3_r : w2.isRef = true) (F5 : Fld Z h0 a1 "com/example/pactolus/pactolus/gate/Scope" "period" "Lcom/example/pactolus/pactolus/gate/Period;" w4) (F5_r : w4.isRef = true) :
    own_Con l Z (⟨"com/example/pactolus/pactolus/gate/Scope", "perCall", "()Z"⟩ : MethodName) prog_16_method_11_code 1 (some .boolean) ({ frames := 0, cells := 0, slots := 0, locals := 0 } : Room) #[(.ref a1)] h0 (own_QP (some (.int (own_f80 a1 w2 w4))) h0) := by
  refine MetFree.of_bodySF (plainFor_of_name own_pn1) hisR ?_
  intro p e s m args below meth c s₁ Bd hml0 hP hK
  obtain ⟨rfl, hZ, hh⟩ := hP
  have hx := Bd.exec
  have hby := Bd.bytes
  have hml : c.maxLocals = 1 := hml0
  have hown : s.vm.findClass "com/example/pactolus/pactolus/gate/Scope" = some m.cls := findClass_of_methodNamed Bd.named
  have X0 : Stand p l e ({ frames := 0, cells := 0, slots := 0, locals := 0 } : Room) s m #[(.ref a1)] below meth c s₁ [] 0 0 := Stand.of_body Bd
  have e0 : s₁.heap = h0 := by rw [← hh, Bd.state]; rfl
  show own_Go p e below (own_K s (own_QP (some (.int (own_f80 a1 w2 w4))) h0) 0 0) s₁ (entryFrame m #[(.ref a1)] 1)
  rw [own_ef80]
  refine own_go (T2 := s₁) (g2 := (mkF m 1 #[.val (.ref a1)] [(.ref a1)])) (fun t k => XS.aloadN X0.here hx rfl (hb hby own_d_prog_16_method_11_code_0) rfl rfl k) ?_
  obtain ⟨T81, X81, e81, st81⟩ := getF X0 hx hZ hown (host := "") (Or.inl (own_wd hw 13 rfl)) Via.refl e0 F3 (g := (mkF m 1 #[.val (.ref a1)] [(.ref a1)])) rfl rfl (hb hby own_d_prog_16_method_11_code_1)
  refine own_go (T2 := T81) (g2 := (mkF m 4 #[.val (.ref a1)] [w2])) st81 ?_
  by_cases hc82 : w2 = Value.null
  · subst hc82
    refine own_go (T2 := T81) (g2 := (mkF m 7 #[.val (.ref a1)] [])) (fun t k => XS.ifnonnullNo X81.here hx rfl (hb hby own_d_prog_16_method_11_code_4) rfl k) ?_
    refine own_go (T2 := T81) (g2 := (mkF m 8 #[.val (.ref a1)] [(.ref a1)])) (fun t k => XS.aloadN X81.here hx rfl (hb hby own_d_prog_16_method_11_code_7) rfl rfl k) ?_
    obtain ⟨T83, X83, e83, st83⟩ := getF X81 hx hZ hown (host := "") (Or.inl (own_wd hw 15 rfl)) Via.refl e81 F5 (g := (mkF m 8 #[.val (.ref a1)] [(.ref a1)])) rfl rfl (hb hby own_d_prog_16_method_11_code_8)
    refine own_go (T2 := T83) (g2 := (mkF m 11 #[.val (.ref a1)] [w4])) st83 ?_
    by_cases hc84 : w4 = Value.null
    · subst hc84
      refine own_go (T2 := T83) (g2 := (mkF m 14 #[.val (.ref a1)] [])) (fun t k => XS.ifnonnullNo X83.here hx rfl (hb hby own_d_prog_16_method_11_code_11) rfl k) ?_
      refine own_go (T2 := T83) (g2 := (mkF m 15 #[.val (.ref a1)] [(.int (1 : Int32))])) (fun t k => XS.iconst X83.here hx rfl (hb hby own_d_prog_16_method_11_code_14) k) ?_
      refine own_go (T2 := T83) (g2 := (mkF m 19 #[.val (.ref a1)] [(.int (1 : Int32))])) (fun t k => XS.goto X83.here hx rfl (pc0 := 15) (pc' := 19) rfl (hb hby own_d_prog_16_method_11_code_15) (by decide) (by decide) k) ?_
      exact own_endN X83 hx Bd.notSynchronized (t := .boolean) Bd.returns (by simp) (hb hby own_d_prog_16_method_11_code_19) (z' := (1 : Int32)) rfl (by decide) (by decide) ⟨(by first | rfl | rw [own_f80, if_pos (show Value.null = Value.null from rfl), if_pos (show Value.null = Value.null from rfl)] | simp only [own_f80, if_pos (show Value.null = Value.null from rfl), if_pos (show Value.null = Value.null from rfl)]), rfl, e83⟩
    · obtain ⟨bw4, rfl⟩ := (ref_cases F5_r).resolve_left hc84
      refine own_go (T2 := T83) (g2 := (mkF m 18 #[.val (.ref a1)] [])) (fun t k => XS.ifnonnullYes X83.here hx rfl (pc0 := 11) (pc' := 18) rfl (hb hby own_d_prog_16_method_11_code_11) rfl (by decide) (by decide) k) ?_
      refine own_go (T2 := T83) (g2 := (mkF m 19 #[.val (.ref a1)] [(.int (0 : Int32))])) (fun t k => XS.iconst X83.here hx rfl (hb hby own_d_prog_16_method_11_code_18) k) ?_
      exact own_endN X83 hx Bd.notSynchronized (t := .boolean) Bd.returns (by simp) (hb hby own_d_prog_16_method_11_code_19) (z' := (0 : Int32)) rfl (by decide) (by decide) ⟨(by first | rfl | rw [own_f80, if_pos (show Value.null = Value.null from rfl), if_neg hc84] | simp only [own_f80, if_pos (show Value.null = Value.null from rfl), if_neg hc84]), rfl, e83⟩
  · obtain ⟨bw2, rfl⟩ := (ref_cases F3_r).resolve_left hc82
    refine own_go (T2 := T81) (g2 := (mkF m 18 #[.val (.ref a1)] [])) (fun t k => XS.ifnonnullYes X81.here hx rfl (pc0 := 4) (pc' := 18) rfl (hb hby own_d_prog_16_method_11_code_4) rfl (by decide) (by decide) k) ?_
    refine own_go (T2 := T81) (g2 := (mkF m 19 #[.val (.ref a1)] [(.int (0 : Int32))])) (fun t k => XS.iconst X81.here hx rfl (hb hby own_d_prog_16_method_11_code_18) k) ?_
    exact own_endN X81 hx Bd.notSynchronized (t := .boolean) Bd.returns (by simp) (hb hby own_d_prog_16_method_11_code_19) (z' := (0 : Int32)) rfl (by decide) (by decide) ⟨(by first | rfl | rw [own_f80, if_neg hc82] | simp only [own_f80, if_neg hc82]), rfl, e81⟩
theorem own_pd1 : parseMethodDescriptor "()Z" = some ⟨[], some .boolean⟩ := by decide +kernel
theorem own_d_prog_16_method_10_code_0 : decode prog_16_method_10_code 0 = .ok (.aload_n 0, 1) := by decide +kernel
theorem own_d_prog_16_method_10_code_1 : decode prog_16_method_10_code 1 = .ok (.getfield 86, 3) := by decide +kernel
theorem own_d_prog_16_method_10_code_4 : decode prog_16_method_10_code 4 = .ok (.ifnonnull 14, 3) := by decide +kernel
theorem own_d_prog_16_method_10_code_7 : decode prog_16_method_10_code 7 = .ok (.aload_n 0, 1) := by decide +kernel
theorem own_d_prog_16_method_10_code_8 : decode prog_16_method_10_code 8 = .ok (.getfield 90, 3) := by decide +kernel
theorem own_d_prog_16_method_10_code_11 : decode prog_16_method_10_code 11 = .ok (.ifnull 7, 3) := by decide +kernel
theorem own_d_prog_16_method_10_code_18 : decode prog_16_method_10_code 18 = .ok (.iconst 0, 1) := by decide +kernel
theorem own_d_prog_16_method_10_code_19 : decode prog_16_method_10_code 19 = .ok (.ireturn, 1) := by decide +kernel
theorem own_d_prog_16_method_10_code_14 : decode prog_16_method_10_code 14 = .ok (.iconst 1, 1) := by decide +kernel
theorem own_d_prog_16_method_10_code_15 : decode prog_16_method_10_code 15 = .ok (.goto 4, 3) := by decide +kernel
def own_f86 (a1 : Addr) (w2 : Value) (w4 : Value) : Int32 := (if w2 = Value.null then (if w4 = Value.null then (0 : Int32) else (1 : Int32)) else (0 : Int32))
theorem own_ef86 (m : MethodId) (x0 : Addr) : entryFrame m #[(.ref x0)] 1 = mkF m 0 #[.val (.ref x0)] [] := by first | (simp [entryFrame, mkF, argsToLocals, Value.category]; done) | rfl
set_option maxRecDepth 65536 in
set_option maxHeartbeats 40000000 in
theorem own_rm86 (l : Launch) (Z : State) (a0 : Array Value) (hw : ∀ d ∈ tables_1, d.before a0 Z = true) (h0 : Heap) (a1 : Addr) (w2 : Value) (w4 : Value) (F3 : Fld Z h0 a1 "com/example/pactolus/pactolus/gate/Scope" "label" "Lcom/example/pactolus/pactolus/ledger/Label;" w2) (F3_r : w2.isRef = true) (F5 : Fld Z h0 a1 "com/example/pactolus/pactolus/gate/Scope" "period" "Lcom/example/pactolus/pactolus/gate/Period;" w4) (F5_r : w4.isRef = true) :
    own_Con l Z (⟨"com/example/pactolus/pactolus/gate/Scope", "allCallsOverPeriod", "()Z"⟩ : MethodName) prog_16_method_10_code 1 (some .boolean) ({ frames := 0, cells := 0, slots := 0, locals := 0 } : Room) #[(.ref a1)] h0 (own_QP (some (.int (own_f86 a1 w2 w4))) h0) := by
  refine MetFree.of_bodySF (plainFor_of_name own_pn1) hisR ?_
  intro p e s m args below meth c s₁ Bd hml0 hP hK
  obtain ⟨rfl, hZ, hh⟩ := hP
  have hx := Bd.exec
  have hby := Bd.bytes
  have hml : c.maxLocals = 1 := hml0
  have hown : s.vm.findClass "com/example/pactolus/pactolus/gate/Scope" = some m.cls := findClass_of_methodNamed Bd.named
  have X0 : Stand p l e ({ frames := 0, cells := 0, slots := 0, locals := 0 } : Room) s m #[(.ref a1)] below meth c s₁ [] 0 0 := Stand.of_body Bd
  have e0 : s₁.heap = h0 := by rw [← hh, Bd.state]; rfl
  show own_Go p e below (own_K s (own_QP (some (.int (own_f86 a1 w2 w4))) h0) 0 0) s₁ (entryFrame m #[(.ref a1)] 1)
  rw [own_ef86]
  refine own_go (T2 := s₁) (g2 := (mkF m 1 #[.val (.ref a1)] [(.ref a1)])) (fun t k => XS.aloadN X0.here hx rfl (hb hby own_d_prog_16_method_10_code_0) rfl rfl k) ?_
  obtain ⟨T87, X87, e87, st87⟩ := getF X0 hx hZ hown (host := "") (Or.inl (own_wd hw 13 rfl)) Via.refl e0 F3 (g := (mkF m 1 #[.val (.ref a1)] [(.ref a1)])) rfl rfl (hb hby own_d_prog_16_method_10_code_1)
  refine own_go (T2 := T87) (g2 := (mkF m 4 #[.val (.ref a1)] [w2])) st87 ?_
  by_cases hc88 : w2 = Value.null
  · subst hc88
    refine own_go (T2 := T87) (g2 := (mkF m 7 #[.val (.ref a1)] [])) (fun t k => XS.ifnonnullNo X87.here hx rfl (hb hby own_d_prog_16_method_10_code_4) rfl k) ?_
    refine own_go (T2 := T87) (g2 := (mkF m 8 #[.val (.ref a1)] [(.ref a1)])) (fun t k => XS.aloadN X87.here hx rfl (hb hby own_d_prog_16_method_10_code_7) rfl rfl k) ?_
    obtain ⟨T89, X89, e89, st89⟩ := getF X87 hx hZ hown (host := "") (Or.inl (own_wd hw 15 rfl)) Via.refl e87 F5 (g := (mkF m 8 #[.val (.ref a1)] [(.ref a1)])) rfl rfl (hb hby own_d_prog_16_method_10_code_8)
    refine own_go (T2 := T89) (g2 := (mkF m 11 #[.val (.ref a1)] [w4])) st89 ?_
    by_cases hc90 : w4 = Value.null
    · subst hc90
      refine own_go (T2 := T89) (g2 := (mkF m 18 #[.val (.ref a1)] [])) (fun t k => XS.ifnullYes X89.here hx rfl (pc0 := 11) (pc' := 18) rfl (hb hby own_d_prog_16_method_10_code_11) rfl (by decide) (by decide) k) ?_
      refine own_go (T2 := T89) (g2 := (mkF m 19 #[.val (.ref a1)] [(.int (0 : Int32))])) (fun t k => XS.iconst X89.here hx rfl (hb hby own_d_prog_16_method_10_code_18) k) ?_
      exact own_endN X89 hx Bd.notSynchronized (t := .boolean) Bd.returns (by simp) (hb hby own_d_prog_16_method_10_code_19) (z' := (0 : Int32)) rfl (by decide) (by decide) ⟨(by first | rfl | rw [own_f86, if_pos (show Value.null = Value.null from rfl), if_pos (show Value.null = Value.null from rfl)] | simp only [own_f86, if_pos (show Value.null = Value.null from rfl), if_pos (show Value.null = Value.null from rfl)]), rfl, e89⟩
    · obtain ⟨bw4, rfl⟩ := (ref_cases F5_r).resolve_left hc90
      refine own_go (T2 := T89) (g2 := (mkF m 14 #[.val (.ref a1)] [])) (fun t k => XS.ifnullNo X89.here hx rfl (hb hby own_d_prog_16_method_10_code_11) rfl k) ?_
      refine own_go (T2 := T89) (g2 := (mkF m 15 #[.val (.ref a1)] [(.int (1 : Int32))])) (fun t k => XS.iconst X89.here hx rfl (hb hby own_d_prog_16_method_10_code_14) k) ?_
      refine own_go (T2 := T89) (g2 := (mkF m 19 #[.val (.ref a1)] [(.int (1 : Int32))])) (fun t k => XS.goto X89.here hx rfl (pc0 := 15) (pc' := 19) rfl (hb hby own_d_prog_16_method_10_code_15) (by decide) (by decide) k) ?_
      exact own_endN X89 hx Bd.notSynchronized (t := .boolean) Bd.returns (by simp) (hb hby own_d_prog_16_method_10_code_19) (z' := (1 : Int32)) rfl (by decide) (by decide) ⟨(by first | rfl | rw [own_f86, if_pos (show Value.null = Value.null from rfl), if_neg hc90] | simp only [own_f86, if_pos (show Value.null = Value.null from rfl), if_neg hc90]), rfl, e89⟩
  · obtain ⟨bw2, rfl⟩ := (ref_cases F3_r).resolve_left hc88
    refine own_go (T2 := T87) (g2 := (mkF m 18 #[.val (.ref a1)] [])) (fun t k => XS.ifnonnullYes X87.here hx rfl (pc0 := 4) (pc' := 18) rfl (hb hby own_d_prog_16_method_10_code_4) rfl (by decide) (by decide) k) ?_
    refine own_go (T2 := T87) (g2 := (mkF m 19 #[.val (.ref a1)] [(.int (0 : Int32))])) (fun t k => XS.iconst X87.here hx rfl (hb hby own_d_prog_16_method_10_code_18) k) ?_
    exact own_endN X87 hx Bd.notSynchronized (t := .boolean) Bd.returns (by simp) (hb hby own_d_prog_16_method_10_code_19) (z' := (0 : Int32)) rfl (by decide) (by decide) ⟨(by first | rfl | rw [own_f86, if_neg hc88] | simp only [own_f86, if_neg hc88]), rfl, e87⟩
theorem own_ef0 (m : MethodId) (x0 : Int32) : entryFrame m #[(.int x0)] maxLocals = mkF m 0 #[.val (.int x0), .unset, .unset, .unset, .unset, .unset] [] := by first | (simp [entryFrame, mkF, argsToLocals, Value.category, maxLocals]; done) | rfl
def own_Q0 (n0 : Nat) (v : Option Value) (h : Heap) (L : List Loc) : Prop := v = some (.int 1) ∧ Fr n0 L
set_option maxRecDepth 65536 in
set_option maxHeartbeats 40000000 in
theorem own_rm0 (l : Launch) (Z : State) (a0 : Array Value) (hw : ∀ d ∈ tables_1, d.before a0 Z = true) (ws : List Jvm.Cond) (h0 : Heap) (n0 : Nat) (Z0 : n0 ≤ h0.size) (p0 : Int32) (w_CALL : Addr) (w_PROVIDER_DAILY : Addr) (w_PROVIDER : Addr) (w_USER_MONTHLY : Addr) (w_USER : Addr) (w_RUN : Addr) (w_RUN58 : Addr) (w_MONTHLY : Addr) (w_MONTHLY59 : Addr) (w_DAILY : Addr) (w_DAILY60 : Addr) (w_PROVIDER_MONTHLY : Addr) (w_USER_DAILY : Addr)
    (S_w_CALL : Sta Z h0 "com/example/pactolus/pactolus/gate/Scope" "CALL" "Lcom/example/pactolus/pactolus/gate/Scope;" (.ref w_CALL))
    (E_w_CALL : Exa Z h0 w_CALL "com/example/pactolus/pactolus/gate/Scope")
    (S_w_PROVIDER_DAILY : Sta Z h0 "com/example/pactolus/pactolus/gate/Scope" "PROVIDER_DAILY" "Lcom/example/pactolus/pactolus/gate/Scope;" (.ref w_PROVIDER_DAILY))
    (E_w_PROVIDER_DAILY : Exa Z h0 w_PROVIDER_DAILY "com/example/pactolus/pactolus/gate/Scope")
    (S_w_PROVIDER : Sta Z h0 "com/example/pactolus/pactolus/ledger/Label" "PROVIDER" "Lcom/example/pactolus/pactolus/ledger/Label;" (.ref w_PROVIDER))
    (E_w_PROVIDER : Exa Z h0 w_PROVIDER "com/example/pactolus/pactolus/ledger/Label")
    (S_w_USER_MONTHLY : Sta Z h0 "com/example/pactolus/pactolus/gate/Scope" "USER_MONTHLY" "Lcom/example/pactolus/pactolus/gate/Scope;" (.ref w_USER_MONTHLY))
    (E_w_USER_MONTHLY : Exa Z h0 w_USER_MONTHLY "com/example/pactolus/pactolus/gate/Scope")
    (S_w_USER : Sta Z h0 "com/example/pactolus/pactolus/ledger/Label" "USER" "Lcom/example/pactolus/pactolus/ledger/Label;" (.ref w_USER))
    (E_w_USER : Exa Z h0 w_USER "com/example/pactolus/pactolus/ledger/Label")
    (S_w_RUN : Sta Z h0 "com/example/pactolus/pactolus/gate/Scope" "RUN" "Lcom/example/pactolus/pactolus/gate/Scope;" (.ref w_RUN))
    (E_w_RUN : Exa Z h0 w_RUN "com/example/pactolus/pactolus/gate/Scope")
    (S_w_RUN58 : Sta Z h0 "com/example/pactolus/pactolus/ledger/Label" "RUN" "Lcom/example/pactolus/pactolus/ledger/Label;" (.ref w_RUN58))
    (E_w_RUN58 : Exa Z h0 w_RUN58 "com/example/pactolus/pactolus/ledger/Label")
    (S_w_MONTHLY : Sta Z h0 "com/example/pactolus/pactolus/gate/Scope" "MONTHLY" "Lcom/example/pactolus/pactolus/gate/Scope;" (.ref w_MONTHLY))
    (E_w_MONTHLY : Exa Z h0 w_MONTHLY "com/example/pactolus/pactolus/gate/Scope")
    (S_w_MONTHLY59 : Sta Z h0 "com/example/pactolus/pactolus/gate/Period" "MONTHLY" "Lcom/example/pactolus/pactolus/gate/Period;" (.ref w_MONTHLY59))
    (E_w_MONTHLY59 : Exa Z h0 w_MONTHLY59 "com/example/pactolus/pactolus/gate/Period")
    (S_w_DAILY : Sta Z h0 "com/example/pactolus/pactolus/gate/Scope" "DAILY" "Lcom/example/pactolus/pactolus/gate/Scope;" (.ref w_DAILY))
    (E_w_DAILY : Exa Z h0 w_DAILY "com/example/pactolus/pactolus/gate/Scope")
    (S_w_DAILY60 : Sta Z h0 "com/example/pactolus/pactolus/gate/Period" "DAILY" "Lcom/example/pactolus/pactolus/gate/Period;" (.ref w_DAILY60))
    (E_w_DAILY60 : Exa Z h0 w_DAILY60 "com/example/pactolus/pactolus/gate/Period")
    (S_w_PROVIDER_MONTHLY : Sta Z h0 "com/example/pactolus/pactolus/gate/Scope" "PROVIDER_MONTHLY" "Lcom/example/pactolus/pactolus/gate/Scope;" (.ref w_PROVIDER_MONTHLY))
    (E_w_PROVIDER_MONTHLY : Exa Z h0 w_PROVIDER_MONTHLY "com/example/pactolus/pactolus/gate/Scope")
    (S_w_USER_DAILY : Sta Z h0 "com/example/pactolus/pactolus/gate/Scope" "USER_DAILY" "Lcom/example/pactolus/pactolus/gate/Scope;" (.ref w_USER_DAILY))
    (E_w_USER_DAILY : Exa Z h0 w_USER_DAILY "com/example/pactolus/pactolus/gate/Scope")
    (F_label_w_CALL : Fld Z h0 w_CALL "com/example/pactolus/pactolus/gate/Scope" "label" "Lcom/example/pactolus/pactolus/ledger/Label;" .null)
    (F_period_w_CALL : Fld Z h0 w_CALL "com/example/pactolus/pactolus/gate/Scope" "period" "Lcom/example/pactolus/pactolus/gate/Period;" .null)
    (F_label_w_PROVIDER_DAILY : Fld Z h0 w_PROVIDER_DAILY "com/example/pactolus/pactolus/gate/Scope" "label" "Lcom/example/pactolus/pactolus/ledger/Label;" (.ref w_PROVIDER))
    (F_label_w_USER_MONTHLY : Fld Z h0 w_USER_MONTHLY "com/example/pactolus/pactolus/gate/Scope" "label" "Lcom/example/pactolus/pactolus/ledger/Label;" (.ref w_USER))
    (F_label_w_RUN : Fld Z h0 w_RUN "com/example/pactolus/pactolus/gate/Scope" "label" "Lcom/example/pactolus/pactolus/ledger/Label;" (.ref w_RUN58))
    (F_label_w_MONTHLY : Fld Z h0 w_MONTHLY "com/example/pactolus/pactolus/gate/Scope" "label" "Lcom/example/pactolus/pactolus/ledger/Label;" .null)
    (F_period_w_MONTHLY : Fld Z h0 w_MONTHLY "com/example/pactolus/pactolus/gate/Scope" "period" "Lcom/example/pactolus/pactolus/gate/Period;" (.ref w_MONTHLY59))
    (F_label_w_DAILY : Fld Z h0 w_DAILY "com/example/pactolus/pactolus/gate/Scope" "label" "Lcom/example/pactolus/pactolus/ledger/Label;" .null)
    (F_period_w_DAILY : Fld Z h0 w_DAILY "com/example/pactolus/pactolus/gate/Scope" "period" "Lcom/example/pactolus/pactolus/gate/Period;" (.ref w_DAILY60))
    (F_label_w_PROVIDER_MONTHLY : Fld Z h0 w_PROVIDER_MONTHLY "com/example/pactolus/pactolus/gate/Scope" "label" "Lcom/example/pactolus/pactolus/ledger/Label;" (.ref w_PROVIDER))
    (F_label_w_USER_DAILY : Fld Z h0 w_USER_DAILY "com/example/pactolus/pactolus/gate/Scope" "label" "Lcom/example/pactolus/pactolus/ledger/Label;" (.ref w_USER))
    (F_period_w_PROVIDER_DAILY : Fld Z h0 w_PROVIDER_DAILY "com/example/pactolus/pactolus/gate/Scope" "period" "Lcom/example/pactolus/pactolus/gate/Period;" (.ref w_DAILY60))
    (F_period_w_USER_MONTHLY : Fld Z h0 w_USER_MONTHLY "com/example/pactolus/pactolus/gate/Scope" "period" "Lcom/example/pactolus/pactolus/gate/Period;" (.ref w_MONTHLY59))
    (F_period_w_RUN : Fld Z h0 w_RUN "com/example/pactolus/pactolus/gate/Scope" "period" "Lcom/example/pactolus/pactolus/gate/Period;" .null)
    (F_period_w_PROVIDER_MONTHLY : Fld Z h0 w_PROVIDER_MONTHLY "com/example/pactolus/pactolus/gate/Scope" "period" "Lcom/example/pactolus/pactolus/gate/Period;" (.ref w_MONTHLY59))
    (F_period_w_USER_DAILY : Fld Z h0 w_USER_DAILY "com/example/pactolus/pactolus/gate/Scope" "period" "Lcom/example/pactolus/pactolus/gate/Period;" (.ref w_DAILY60)) :
    MetFree l x (head1 (Jvm.Cond.code x code maxLocals ret :: ws) room_1) (fun a U => a = #[(.int p0)] ∧ Z.Warmed39 U.vm ∧ U.heap = h0) (fun _ _ _ _ _ => True) (fun _ U o U' => ∃ v L, o = .returned v ∧ own_Q0 n0 v U'.heap L ∧ FrameEnd U o U' L room_1.cells room_1.slots) := by
  refine MetFree.of_bodySF (plainFor_of_name own_pn0) hisR ?_
  intro p e s m args below meth c s₁ Bd hml0 hP hK
  obtain ⟨rfl, hZ, hh⟩ := hP
  have hx := Bd.exec
  have hby := Bd.bytes
  have hml : c.maxLocals = 6 := hml0
  have hown : s.vm.findClass "com/example/pactolus/pactolus/gate/ScopePerCallPinLaw" = some m.cls := findClass_of_methodNamed Bd.named
  have X0 : Stand p l e room_1 s m #[(.int p0)] below meth c s₁ [] 0 0 := Stand.of_body Bd
  have e0 : s₁.heap = h0 := by rw [← hh, Bd.state]; rfl
  show own_Go p e below (own_K s (own_Q0 n0) room_1.cells room_1.slots) s₁ (entryFrame m #[(.int p0)] maxLocals)
  rw [own_ef0]
  refine own_go (T2 := s₁) (g2 := (mkF m 1 #[.val (.int p0), .unset, .unset, .unset, .unset, .unset] [(.int p0)])) (fun t k => XS.iloadN X0.here hx rfl (hb hby at_0) rfl  k) ?_
  refine own_go (T2 := s₁) (g2 := (mkF m 3 #[.val (.int p0), .unset, .unset, .unset, .unset, .unset] [(.int (2147483647 : Int32)), (.int p0)])) (fun t k => Jvm.Stand.ldcI X0 hx hown (mvT hZ (own_wd hw 0 rfl)) (g := (mkF m 1 #[.val (.int p0), .unset, .unset, .unset, .unset, .unset] [(.int p0)])) rfl (hb hby at_1) k) ?_
  refine own_go (T2 := s₁) (g2 := (mkF m 4 #[.val (.int p0), .unset, .unset, .unset, .unset, .unset] [(.int (p0 &&& (2147483647 : Int32)))])) (fun t k => XS.iand X0.here hx rfl (hb hby at_3) rfl k) ?_
  refine own_go (T2 := s₁) (g2 := (mkF m 6 #[.val (.int p0), .unset, .unset, .unset, .unset, .unset] [(.int (8 : Int32)), (.int (p0 &&& (2147483647 : Int32)))])) (fun t k => XS.bipush X0.here hx rfl (hb hby at_4) k) ?_
  refine own_go (T2 := s₁) (g2 := (mkF m 7 #[.val (.int p0), .unset, .unset, .unset, .unset, .unset] [(.int ((p0 &&& (2147483647 : Int32)) % (8 : Int32)))])) (fun t k => iremM (g := (mkF m 6 #[.val (.int p0), .unset, .unset, .unset, .unset, .unset] [(.int (8 : Int32)), (.int (p0 &&& (2147483647 : Int32)))])) X0 hx rfl (hb hby at_6) rfl (by decide) k) ?_
  have hrk61 := own_mod8 p0
  generalize ((p0 &&& (2147483647 : Int32)) % (8 : Int32)) = k61 at hrk61 ⊢
  rcases hrk61 with rfl | rfl | rfl | rfl | rfl | rfl | rfl | rfl
  · refine own_go (T2 := s₁) (g2 := (mkF m 8 #[.val (.int p0), .val (.int (0 : Int32)), .unset, .unset, .unset, .unset] [])) (fun t k => XS.istoreN X0.here hx rfl (hb hby at_7) rfl (l' := #[.val (.int p0), .val (.int (0 : Int32)), .unset, .unset, .unset, .unset]) rfl k) ?_
    refine own_go (T2 := s₁) (g2 := (mkF m 9 #[.val (.int p0), .val (.int (0 : Int32)), .unset, .unset, .unset, .unset] [(.int (0 : Int32))])) (fun t k => XS.iloadN X0.here hx rfl (hb hby at_8) rfl  k) ?_
    obtain ⟨_, T62, _, X62, ⟨rfl, rfl, e62⟩, st62⟩ := own_static X0 hx hZ (y := (⟨"com/example/pactolus/pactolus/gate/ScopePerCallPinLaw", "pick", "(I)Lcom/example/pactolus/pactolus/gate/Scope;"⟩ : MethodName)) hown (own_wd hw 1 rfl) (own_wd hw 2 rfl) (own_wd hw 3 rfl) (own_wd hw 4 rfl) (by decide) 0 (argsL := [(.int (0 : Int32))]) (rest := []) (own_rm63 l Z a0 hw h0 (0 : Int32) w_CALL w_DAILY w_MONTHLY w_PROVIDER_DAILY w_PROVIDER_MONTHLY w_USER_DAILY w_USER_MONTHLY w_RUN S_w_CALL S_w_DAILY S_w_MONTHLY S_w_PROVIDER_DAILY S_w_PROVIDER_MONTHLY S_w_USER_DAILY S_w_USER_MONTHLY S_w_RUN) (by decide) (by decide) (g := (mkF m 9 #[.val (.int p0), .val (.int (0 : Int32)), .unset, .unset, .unset, .unset] [(.int (0 : Int32))])) rfl (by rw [hml]; rfl) (lenOf own_pd0 rfl) rfl (by show 2 * 0 + _ ≤ _; exact Nat.le_of_eq rfl) (hb hby at_9) e0 (by decide) (by decide)
    refine own_go (T2 := T62) (g2 := (mkF m 12 #[.val (.int p0), .val (.int (0 : Int32)), .unset, .unset, .unset, .unset] [(.ref (own_f63 (0 : Int32) w_CALL w_DAILY w_MONTHLY w_PROVIDER_DAILY w_PROVIDER_MONTHLY w_USER_DAILY w_USER_MONTHLY w_RUN))])) st62 ?_
    rw [show (own_f63 (0 : Int32) w_CALL w_DAILY w_MONTHLY w_PROVIDER_DAILY w_PROVIDER_MONTHLY w_USER_DAILY w_USER_MONTHLY w_RUN) = w_CALL from by first | rfl | rw [own_f63, if_pos (show (0 : Int32) = (0 : Int32) from (by decide))] | simp only [own_f63, if_pos (show (0 : Int32) = (0 : Int32) from (by decide))]]
    refine own_go (T2 := T62) (g2 := (mkF m 13 #[.val (.int p0), .val (.int (0 : Int32)), .val (.ref w_CALL), .unset, .unset, .unset] [])) (fun t k => XS.astoreN X62.here hx rfl (hb hby at_12) rfl rfl (l' := #[.val (.int p0), .val (.int (0 : Int32)), .val (.ref w_CALL), .unset, .unset, .unset]) rfl k) ?_
    refine own_go (T2 := T62) (g2 := (mkF m 14 #[.val (.int p0), .val (.int (0 : Int32)), .val (.ref w_CALL), .unset, .unset, .unset] [(.int (0 : Int32))])) (fun t k => XS.iloadN X62.here hx rfl (hb hby at_13) rfl  k) ?_
    refine own_go (T2 := T62) (g2 := (mkF m 17 #[.val (.int p0), .val (.int (0 : Int32)), .val (.ref w_CALL), .unset, .unset, .unset] [])) (fun t k => XS.ifNo X62.here hx rfl (hb hby at_14) rfl ((if0 _ _).trans (teq (show (0 : Int32) = (0 : Int32) from (by decide))).2) k) ?_
    refine own_go (T2 := T62) (g2 := (mkF m 18 #[.val (.int p0), .val (.int (0 : Int32)), .val (.ref w_CALL), .unset, .unset, .unset] [(.int (1 : Int32))])) (fun t k => XS.iconst X62.here hx rfl (hb hby at_17) k) ?_
    refine own_go (T2 := T62) (g2 := (mkF m 22 #[.val (.int p0), .val (.int (0 : Int32)), .val (.ref w_CALL), .unset, .unset, .unset] [(.int (1 : Int32))])) (fun t k => XS.goto X62.here hx rfl (pc0 := 18) (pc' := 22) rfl (hb hby at_18) (by decide) (by decide) k) ?_
    refine own_go (T2 := T62) (g2 := (mkF m 23 #[.val (.int p0), .val (.int (0 : Int32)), .val (.ref w_CALL), .val (.int (1 : Int32)), .unset, .unset] [])) (fun t k => XS.istoreN X62.here hx rfl (hb hby at_22) rfl (l' := #[.val (.int p0), .val (.int (0 : Int32)), .val (.ref w_CALL), .val (.int (1 : Int32)), .unset, .unset]) rfl k) ?_
    refine own_go (T2 := T62) (g2 := (mkF m 24 #[.val (.int p0), .val (.int (0 : Int32)), .val (.ref w_CALL), .val (.int (1 : Int32)), .unset, .unset] [(.ref w_CALL)])) (fun t k => XS.aloadN X62.here hx rfl (hb hby at_23) rfl rfl k) ?_
    obtain ⟨_, T79, _, X79, ⟨rfl, rfl, e79⟩, st79⟩ := own_virtual X62 hx hZ (y := (⟨"com/example/pactolus/pactolus/gate/Scope", "perCall", "()Z"⟩ : MethodName)) (z := (⟨"com/example/pactolus/pactolus/gate/Scope", "perCall", "()Z"⟩ : MethodName)) (C := "com/example/pactolus/pactolus/gate/Scope") hown (own_wd hw 8 rfl) (own_wd hw 9 rfl) (notFace_of_selects (args := #[]) (mvT hZ (own_wd hw 11 rfl))) (own_wd hw 11 rfl) (own_wd hw 10 rfl) (own_wd hw 6 rfl) (own_wd hw 12 rfl) (by decide) 0 (argsL := []) (rest := []) (own_rm80 l Z a0 hw h0 w_CALL Value.null Value.null F_label_w_CALL rfl F_period_w_CALL rfl) (by decide) (by decide) E_w_CALL (g := (mkF m 24 #[.val (.int p0), .val (.int (0 : Int32)), .val (.ref w_CALL), .val (.int (1 : Int32)), .unset, .unset] [(.ref w_CALL)])) rfl (by rw [hml]; rfl) (lenOf own_pd1 rfl) rfl (by show 2 * 0 + _ ≤ _; exact Nat.le_of_eq rfl) (hb hby at_24) e62 (by decide) (by decide)
    refine own_go (T2 := T79) (g2 := (mkF m 27 #[.val (.int p0), .val (.int (0 : Int32)), .val (.ref w_CALL), .val (.int (1 : Int32)), .unset, .unset] [(.int (own_f80 w_CALL Value.null Value.null))])) st79 ?_
    rw [show (own_f80 w_CALL Value.null Value.null) = (1 : Int32) from by first | rfl | rw [own_f80, if_pos (show Value.null = Value.null from rfl), if_pos (show Value.null = Value.null from rfl)] | simp only [own_f80, if_pos (show Value.null = Value.null from rfl), if_pos (show Value.null = Value.null from rfl)]]
    refine own_go (T2 := T79) (g2 := (mkF m 29 #[.val (.int p0), .val (.int (0 : Int32)), .val (.ref w_CALL), .val (.int (1 : Int32)), .val (.int (1 : Int32)), .unset] [])) (fun t k => XS.istore X79.here hx rfl (hb hby at_27) rfl (l' := #[.val (.int p0), .val (.int (0 : Int32)), .val (.ref w_CALL), .val (.int (1 : Int32)), .val (.int (1 : Int32)), .unset]) rfl k) ?_
    refine own_go (T2 := T79) (g2 := (mkF m 31 #[.val (.int p0), .val (.int (0 : Int32)), .val (.ref w_CALL), .val (.int (1 : Int32)), .val (.int (1 : Int32)), .unset] [(.int (1 : Int32))])) (fun t k => XS.iload X79.here hx rfl (hb hby at_29) rfl  k) ?_
    refine own_go (T2 := T79) (g2 := (mkF m 34 #[.val (.int p0), .val (.int (0 : Int32)), .val (.ref w_CALL), .val (.int (1 : Int32)), .val (.int (1 : Int32)), .unset] [])) (fun t k => XS.ifNo X79.here hx rfl (hb hby at_31) rfl ((if0 _ _).trans (feq (show ¬ ((1 : Int32) = (0 : Int32)) from (by decide))).1) k) ?_
    refine own_go (T2 := T79) (g2 := (mkF m 35 #[.val (.int p0), .val (.int (0 : Int32)), .val (.ref w_CALL), .val (.int (1 : Int32)), .val (.int (1 : Int32)), .unset] [(.ref w_CALL)])) (fun t k => XS.aloadN X79.here hx rfl (hb hby at_34) rfl rfl k) ?_
    obtain ⟨_, T85, _, X85, ⟨rfl, rfl, e85⟩, st85⟩ := own_virtual X79 hx hZ (y := (⟨"com/example/pactolus/pactolus/gate/Scope", "allCallsOverPeriod", "()Z"⟩ : MethodName)) (z := (⟨"com/example/pactolus/pactolus/gate/Scope", "allCallsOverPeriod", "()Z"⟩ : MethodName)) (C := "com/example/pactolus/pactolus/gate/Scope") hown (own_wd hw 17 rfl) (own_wd hw 18 rfl) (notFace_of_selects (args := #[]) (mvT hZ (own_wd hw 20 rfl))) (own_wd hw 20 rfl) (own_wd hw 19 rfl) (own_wd hw 6 rfl) (own_wd hw 21 rfl) (by decide) 0 (argsL := []) (rest := []) (own_rm86 l Z a0 hw h0 w_CALL Value.null Value.null F_label_w_CALL rfl F_period_w_CALL rfl) (by decide) (by decide) E_w_CALL (g := (mkF m 35 #[.val (.int p0), .val (.int (0 : Int32)), .val (.ref w_CALL), .val (.int (1 : Int32)), .val (.int (1 : Int32)), .unset] [(.ref w_CALL)])) rfl (by rw [hml]; rfl) (lenOf own_pd1 rfl) rfl (by show 2 * 0 + _ ≤ _; exact Nat.le_of_eq rfl) (hb hby at_35) e79 (by decide) (by decide)
    refine own_go (T2 := T85) (g2 := (mkF m 38 #[.val (.int p0), .val (.int (0 : Int32)), .val (.ref w_CALL), .val (.int (1 : Int32)), .val (.int (1 : Int32)), .unset] [(.int (own_f86 w_CALL Value.null Value.null))])) st85 ?_
    rw [show (own_f86 w_CALL Value.null Value.null) = (0 : Int32) from by first | rfl | rw [own_f86, if_pos (show Value.null = Value.null from rfl), if_pos (show Value.null = Value.null from rfl)] | simp only [own_f86, if_pos (show Value.null = Value.null from rfl), if_pos (show Value.null = Value.null from rfl)]]
    refine own_go (T2 := T85) (g2 := (mkF m 41 #[.val (.int p0), .val (.int (0 : Int32)), .val (.ref w_CALL), .val (.int (1 : Int32)), .val (.int (1 : Int32)), .unset] [])) (fun t k => XS.ifNo X85.here hx rfl (hb hby at_38) rfl ((if0 _ _).trans (teq (show (0 : Int32) = (0 : Int32) from (by decide))).2) k) ?_
    refine own_go (T2 := T85) (g2 := (mkF m 42 #[.val (.int p0), .val (.int (0 : Int32)), .val (.ref w_CALL), .val (.int (1 : Int32)), .val (.int (1 : Int32)), .unset] [(.int (1 : Int32))])) (fun t k => XS.iconst X85.here hx rfl (hb hby at_41) k) ?_
    refine own_go (T2 := T85) (g2 := (mkF m 46 #[.val (.int p0), .val (.int (0 : Int32)), .val (.ref w_CALL), .val (.int (1 : Int32)), .val (.int (1 : Int32)), .unset] [(.int (1 : Int32))])) (fun t k => XS.goto X85.here hx rfl (pc0 := 42) (pc' := 46) rfl (hb hby at_42) (by decide) (by decide) k) ?_
    refine own_go (T2 := T85) (g2 := (mkF m 48 #[.val (.int p0), .val (.int (0 : Int32)), .val (.ref w_CALL), .val (.int (1 : Int32)), .val (.int (1 : Int32)), .val (.int (1 : Int32))] [])) (fun t k => XS.istore X85.here hx rfl (hb hby at_46) rfl (l' := #[.val (.int p0), .val (.int (0 : Int32)), .val (.ref w_CALL), .val (.int (1 : Int32)), .val (.int (1 : Int32)), .val (.int (1 : Int32))]) rfl k) ?_
    refine own_go (T2 := T85) (g2 := (mkF m 50 #[.val (.int p0), .val (.int (0 : Int32)), .val (.ref w_CALL), .val (.int (1 : Int32)), .val (.int (1 : Int32)), .val (.int (1 : Int32))] [(.int (1 : Int32))])) (fun t k => XS.iload X85.here hx rfl (hb hby at_48) rfl  k) ?_
    refine own_go (T2 := T85) (g2 := (mkF m 51 #[.val (.int p0), .val (.int (0 : Int32)), .val (.ref w_CALL), .val (.int (1 : Int32)), .val (.int (1 : Int32)), .val (.int (1 : Int32))] [(.int (1 : Int32)), (.int (1 : Int32))])) (fun t k => XS.iloadN X85.here hx rfl (hb hby at_50) rfl  k) ?_
    refine own_go (T2 := T85) (g2 := (mkF m 54 #[.val (.int p0), .val (.int (0 : Int32)), .val (.ref w_CALL), .val (.int (1 : Int32)), .val (.int (1 : Int32)), .val (.int (1 : Int32))] [])) (fun t k => XS.icmpNo X85.here hx rfl (hb hby at_51) rfl (teq (show (1 : Int32) = (1 : Int32) from (by decide))).2 k) ?_
    refine own_go (T2 := T85) (g2 := (mkF m 56 #[.val (.int p0), .val (.int (0 : Int32)), .val (.ref w_CALL), .val (.int (1 : Int32)), .val (.int (1 : Int32)), .val (.int (1 : Int32))] [(.int (1 : Int32))])) (fun t k => XS.iload X85.here hx rfl (hb hby at_54) rfl  k) ?_
    refine own_go (T2 := T85) (g2 := (mkF m 59 #[.val (.int p0), .val (.int (0 : Int32)), .val (.ref w_CALL), .val (.int (1 : Int32)), .val (.int (1 : Int32)), .val (.int (1 : Int32))] [])) (fun t k => XS.ifNo X85.here hx rfl (hb hby at_56) rfl ((if0 _ _).trans (feq (show ¬ ((1 : Int32) = (0 : Int32)) from (by decide))).1) k) ?_
    refine own_go (T2 := T85) (g2 := (mkF m 60 #[.val (.int p0), .val (.int (0 : Int32)), .val (.ref w_CALL), .val (.int (1 : Int32)), .val (.int (1 : Int32)), .val (.int (1 : Int32))] [(.int (1 : Int32))])) (fun t k => XS.iconst X85.here hx rfl (hb hby at_59) k) ?_
    refine own_go (T2 := T85) (g2 := (mkF m 64 #[.val (.int p0), .val (.int (0 : Int32)), .val (.ref w_CALL), .val (.int (1 : Int32)), .val (.int (1 : Int32)), .val (.int (1 : Int32))] [(.int (1 : Int32))])) (fun t k => XS.goto X85.here hx rfl (pc0 := 60) (pc' := 64) rfl (hb hby at_60) (by decide) (by decide) k) ?_
    exact own_endN X85 hx Bd.notSynchronized (t := .boolean) Bd.returns (by simp) (hb hby at_64) (z' := (1 : Int32)) rfl (by decide) (by decide) ⟨rfl, Fr.nil _⟩
  · refine own_go (T2 := s₁) (g2 := (mkF m 8 #[.val (.int p0), .val (.int (1 : Int32)), .unset, .unset, .unset, .unset] [])) (fun t k => XS.istoreN X0.here hx rfl (hb hby at_7) rfl (l' := #[.val (.int p0), .val (.int (1 : Int32)), .unset, .unset, .unset, .unset]) rfl k) ?_
    refine own_go (T2 := s₁) (g2 := (mkF m 9 #[.val (.int p0), .val (.int (1 : Int32)), .unset, .unset, .unset, .unset] [(.int (1 : Int32))])) (fun t k => XS.iloadN X0.here hx rfl (hb hby at_8) rfl  k) ?_
    obtain ⟨_, T91, _, X91, ⟨rfl, rfl, e91⟩, st91⟩ := own_static X0 hx hZ (y := (⟨"com/example/pactolus/pactolus/gate/ScopePerCallPinLaw", "pick", "(I)Lcom/example/pactolus/pactolus/gate/Scope;"⟩ : MethodName)) hown (own_wd hw 1 rfl) (own_wd hw 2 rfl) (own_wd hw 3 rfl) (own_wd hw 4 rfl) (by decide) 0 (argsL := [(.int (1 : Int32))]) (rest := []) (own_rm63 l Z a0 hw h0 (1 : Int32) w_CALL w_DAILY w_MONTHLY w_PROVIDER_DAILY w_PROVIDER_MONTHLY w_USER_DAILY w_USER_MONTHLY w_RUN S_w_CALL S_w_DAILY S_w_MONTHLY S_w_PROVIDER_DAILY S_w_PROVIDER_MONTHLY S_w_USER_DAILY S_w_USER_MONTHLY S_w_RUN) (by decide) (by decide) (g := (mkF m 9 #[.val (.int p0), .val (.int (1 : Int32)), .unset, .unset, .unset, .unset] [(.int (1 : Int32))])) rfl (by rw [hml]; rfl) (lenOf own_pd0 rfl) rfl (by show 2 * 0 + _ ≤ _; exact Nat.le_of_eq rfl) (hb hby at_9) e0 (by decide) (by decide)
    refine own_go (T2 := T91) (g2 := (mkF m 12 #[.val (.int p0), .val (.int (1 : Int32)), .unset, .unset, .unset, .unset] [(.ref (own_f63 (1 : Int32) w_CALL w_DAILY w_MONTHLY w_PROVIDER_DAILY w_PROVIDER_MONTHLY w_USER_DAILY w_USER_MONTHLY w_RUN))])) st91 ?_
    rw [show (own_f63 (1 : Int32) w_CALL w_DAILY w_MONTHLY w_PROVIDER_DAILY w_PROVIDER_MONTHLY w_USER_DAILY w_USER_MONTHLY w_RUN) = w_DAILY from by first | rfl | rw [own_f63, if_neg (show ¬ ((1 : Int32) = (0 : Int32)) from (by decide)), if_pos (show (1 : Int32) = (1 : Int32) from (by decide))] | simp only [own_f63, if_neg (show ¬ ((1 : Int32) = (0 : Int32)) from (by decide)), if_pos (show (1 : Int32) = (1 : Int32) from (by decide))]]
    refine own_go (T2 := T91) (g2 := (mkF m 13 #[.val (.int p0), .val (.int (1 : Int32)), .val (.ref w_DAILY), .unset, .unset, .unset] [])) (fun t k => XS.astoreN X91.here hx rfl (hb hby at_12) rfl rfl (l' := #[.val (.int p0), .val (.int (1 : Int32)), .val (.ref w_DAILY), .unset, .unset, .unset]) rfl k) ?_
    refine own_go (T2 := T91) (g2 := (mkF m 14 #[.val (.int p0), .val (.int (1 : Int32)), .val (.ref w_DAILY), .unset, .unset, .unset] [(.int (1 : Int32))])) (fun t k => XS.iloadN X91.here hx rfl (hb hby at_13) rfl  k) ?_
    refine own_go (T2 := T91) (g2 := (mkF m 21 #[.val (.int p0), .val (.int (1 : Int32)), .val (.ref w_DAILY), .unset, .unset, .unset] [])) (fun t k => XS.ifYes X91.here hx rfl (pc0 := 14) (pc' := 21) rfl (hb hby at_14) rfl ((if0 _ _).trans (feq (show ¬ ((1 : Int32) = (0 : Int32)) from (by decide))).2) (by decide) (by decide) k) ?_
    refine own_go (T2 := T91) (g2 := (mkF m 22 #[.val (.int p0), .val (.int (1 : Int32)), .val (.ref w_DAILY), .unset, .unset, .unset] [(.int (0 : Int32))])) (fun t k => XS.iconst X91.here hx rfl (hb hby at_21) k) ?_
    refine own_go (T2 := T91) (g2 := (mkF m 23 #[.val (.int p0), .val (.int (1 : Int32)), .val (.ref w_DAILY), .val (.int (0 : Int32)), .unset, .unset] [])) (fun t k => XS.istoreN X91.here hx rfl (hb hby at_22) rfl (l' := #[.val (.int p0), .val (.int (1 : Int32)), .val (.ref w_DAILY), .val (.int (0 : Int32)), .unset, .unset]) rfl k) ?_
    refine own_go (T2 := T91) (g2 := (mkF m 24 #[.val (.int p0), .val (.int (1 : Int32)), .val (.ref w_DAILY), .val (.int (0 : Int32)), .unset, .unset] [(.ref w_DAILY)])) (fun t k => XS.aloadN X91.here hx rfl (hb hby at_23) rfl rfl k) ?_
    obtain ⟨_, T92, _, X92, ⟨rfl, rfl, e92⟩, st92⟩ := own_virtual X91 hx hZ (y := (⟨"com/example/pactolus/pactolus/gate/Scope", "perCall", "()Z"⟩ : MethodName)) (z := (⟨"com/example/pactolus/pactolus/gate/Scope", "perCall", "()Z"⟩ : MethodName)) (C := "com/example/pactolus/pactolus/gate/Scope") hown (own_wd hw 8 rfl) (own_wd hw 9 rfl) (notFace_of_selects (args := #[]) (mvT hZ (own_wd hw 11 rfl))) (own_wd hw 11 rfl) (own_wd hw 10 rfl) (own_wd hw 6 rfl) (own_wd hw 12 rfl) (by decide) 0 (argsL := []) (rest := []) (own_rm80 l Z a0 hw h0 w_DAILY Value.null (Value.ref w_DAILY60) F_label_w_DAILY rfl F_period_w_DAILY rfl) (by decide) (by decide) E_w_DAILY (g := (mkF m 24 #[.val (.int p0), .val (.int (1 : Int32)), .val (.ref w_DAILY), .val (.int (0 : Int32)), .unset, .unset] [(.ref w_DAILY)])) rfl (by rw [hml]; rfl) (lenOf own_pd1 rfl) rfl (by show 2 * 0 + _ ≤ _; exact Nat.le_of_eq rfl) (hb hby at_24) e91 (by decide) (by decide)
    refine own_go (T2 := T92) (g2 := (mkF m 27 #[.val (.int p0), .val (.int (1 : Int32)), .val (.ref w_DAILY), .val (.int (0 : Int32)), .unset, .unset] [(.int (own_f80 w_DAILY Value.null (Value.ref w_DAILY60)))])) st92 ?_
    rw [show (own_f80 w_DAILY Value.null (Value.ref w_DAILY60)) = (0 : Int32) from by first | rfl | rw [own_f80, if_pos (show Value.null = Value.null from rfl), if_neg (show ¬ ((Value.ref w_DAILY60) = Value.null) from (fun q => nomatch q))] | simp only [own_f80, if_pos (show Value.null = Value.null from rfl), if_neg (show ¬ ((Value.ref w_DAILY60) = Value.null) from (fun q => nomatch q))]]
    refine own_go (T2 := T92) (g2 := (mkF m 29 #[.val (.int p0), .val (.int (1 : Int32)), .val (.ref w_DAILY), .val (.int (0 : Int32)), .val (.int (0 : Int32)), .unset] [])) (fun t k => XS.istore X92.here hx rfl (hb hby at_27) rfl (l' := #[.val (.int p0), .val (.int (1 : Int32)), .val (.ref w_DAILY), .val (.int (0 : Int32)), .val (.int (0 : Int32)), .unset]) rfl k) ?_
    refine own_go (T2 := T92) (g2 := (mkF m 31 #[.val (.int p0), .val (.int (1 : Int32)), .val (.ref w_DAILY), .val (.int (0 : Int32)), .val (.int (0 : Int32)), .unset] [(.int (0 : Int32))])) (fun t k => XS.iload X92.here hx rfl (hb hby at_29) rfl  k) ?_
    refine own_go (T2 := T92) (g2 := (mkF m 41 #[.val (.int p0), .val (.int (1 : Int32)), .val (.ref w_DAILY), .val (.int (0 : Int32)), .val (.int (0 : Int32)), .unset] [])) (fun t k => XS.ifYes X92.here hx rfl (pc0 := 31) (pc' := 41) rfl (hb hby at_31) rfl ((if0 _ _).trans (teq (show (0 : Int32) = (0 : Int32) from (by decide))).1) (by decide) (by decide) k) ?_
    refine own_go (T2 := T92) (g2 := (mkF m 42 #[.val (.int p0), .val (.int (1 : Int32)), .val (.ref w_DAILY), .val (.int (0 : Int32)), .val (.int (0 : Int32)), .unset] [(.int (1 : Int32))])) (fun t k => XS.iconst X92.here hx rfl (hb hby at_41) k) ?_
    refine own_go (T2 := T92) (g2 := (mkF m 46 #[.val (.int p0), .val (.int (1 : Int32)), .val (.ref w_DAILY), .val (.int (0 : Int32)), .val (.int (0 : Int32)), .unset] [(.int (1 : Int32))])) (fun t k => XS.goto X92.here hx rfl (pc0 := 42) (pc' := 46) rfl (hb hby at_42) (by decide) (by decide) k) ?_
    refine own_go (T2 := T92) (g2 := (mkF m 48 #[.val (.int p0), .val (.int (1 : Int32)), .val (.ref w_DAILY), .val (.int (0 : Int32)), .val (.int (0 : Int32)), .val (.int (1 : Int32))] [])) (fun t k => XS.istore X92.here hx rfl (hb hby at_46) rfl (l' := #[.val (.int p0), .val (.int (1 : Int32)), .val (.ref w_DAILY), .val (.int (0 : Int32)), .val (.int (0 : Int32)), .val (.int (1 : Int32))]) rfl k) ?_
    refine own_go (T2 := T92) (g2 := (mkF m 50 #[.val (.int p0), .val (.int (1 : Int32)), .val (.ref w_DAILY), .val (.int (0 : Int32)), .val (.int (0 : Int32)), .val (.int (1 : Int32))] [(.int (0 : Int32))])) (fun t k => XS.iload X92.here hx rfl (hb hby at_48) rfl  k) ?_
    refine own_go (T2 := T92) (g2 := (mkF m 51 #[.val (.int p0), .val (.int (1 : Int32)), .val (.ref w_DAILY), .val (.int (0 : Int32)), .val (.int (0 : Int32)), .val (.int (1 : Int32))] [(.int (0 : Int32)), (.int (0 : Int32))])) (fun t k => XS.iloadN X92.here hx rfl (hb hby at_50) rfl  k) ?_
    refine own_go (T2 := T92) (g2 := (mkF m 54 #[.val (.int p0), .val (.int (1 : Int32)), .val (.ref w_DAILY), .val (.int (0 : Int32)), .val (.int (0 : Int32)), .val (.int (1 : Int32))] [])) (fun t k => XS.icmpNo X92.here hx rfl (hb hby at_51) rfl (teq (show (0 : Int32) = (0 : Int32) from (by decide))).2 k) ?_
    refine own_go (T2 := T92) (g2 := (mkF m 56 #[.val (.int p0), .val (.int (1 : Int32)), .val (.ref w_DAILY), .val (.int (0 : Int32)), .val (.int (0 : Int32)), .val (.int (1 : Int32))] [(.int (1 : Int32))])) (fun t k => XS.iload X92.here hx rfl (hb hby at_54) rfl  k) ?_
    refine own_go (T2 := T92) (g2 := (mkF m 59 #[.val (.int p0), .val (.int (1 : Int32)), .val (.ref w_DAILY), .val (.int (0 : Int32)), .val (.int (0 : Int32)), .val (.int (1 : Int32))] [])) (fun t k => XS.ifNo X92.here hx rfl (hb hby at_56) rfl ((if0 _ _).trans (feq (show ¬ ((1 : Int32) = (0 : Int32)) from (by decide))).1) k) ?_
    refine own_go (T2 := T92) (g2 := (mkF m 60 #[.val (.int p0), .val (.int (1 : Int32)), .val (.ref w_DAILY), .val (.int (0 : Int32)), .val (.int (0 : Int32)), .val (.int (1 : Int32))] [(.int (1 : Int32))])) (fun t k => XS.iconst X92.here hx rfl (hb hby at_59) k) ?_
    refine own_go (T2 := T92) (g2 := (mkF m 64 #[.val (.int p0), .val (.int (1 : Int32)), .val (.ref w_DAILY), .val (.int (0 : Int32)), .val (.int (0 : Int32)), .val (.int (1 : Int32))] [(.int (1 : Int32))])) (fun t k => XS.goto X92.here hx rfl (pc0 := 60) (pc' := 64) rfl (hb hby at_60) (by decide) (by decide) k) ?_
    exact own_endN X92 hx Bd.notSynchronized (t := .boolean) Bd.returns (by simp) (hb hby at_64) (z' := (1 : Int32)) rfl (by decide) (by decide) ⟨rfl, Fr.nil _⟩
  · refine own_go (T2 := s₁) (g2 := (mkF m 8 #[.val (.int p0), .val (.int (2 : Int32)), .unset, .unset, .unset, .unset] [])) (fun t k => XS.istoreN X0.here hx rfl (hb hby at_7) rfl (l' := #[.val (.int p0), .val (.int (2 : Int32)), .unset, .unset, .unset, .unset]) rfl k) ?_
    refine own_go (T2 := s₁) (g2 := (mkF m 9 #[.val (.int p0), .val (.int (2 : Int32)), .unset, .unset, .unset, .unset] [(.int (2 : Int32))])) (fun t k => XS.iloadN X0.here hx rfl (hb hby at_8) rfl  k) ?_
    obtain ⟨_, T93, _, X93, ⟨rfl, rfl, e93⟩, st93⟩ := own_static X0 hx hZ (y := (⟨"com/example/pactolus/pactolus/gate/ScopePerCallPinLaw", "pick", "(I)Lcom/example/pactolus/pactolus/gate/Scope;"⟩ : MethodName)) hown (own_wd hw 1 rfl) (own_wd hw 2 rfl) (own_wd hw 3 rfl) (own_wd hw 4 rfl) (by decide) 0 (argsL := [(.int (2 : Int32))]) (rest := []) (own_rm63 l Z a0 hw h0 (2 : Int32) w_CALL w_DAILY w_MONTHLY w_PROVIDER_DAILY w_PROVIDER_MONTHLY w_USER_DAILY w_USER_MONTHLY w_RUN S_w_CALL S_w_DAILY S_w_MONTHLY S_w_PROVIDER_DAILY S_w_PROVIDER_MONTHLY S_w_USER_DAILY S_w_USER_MONTHLY S_w_RUN) (by decide) (by decide) (g := (mkF m 9 #[.val (.int p0), .val (.int (2 : Int32)), .unset, .unset, .unset, .unset] [(.int (2 : Int32))])) rfl (by rw [hml]; rfl) (lenOf own_pd0 rfl) rfl (by show 2 * 0 + _ ≤ _; exact Nat.le_of_eq rfl) (hb hby at_9) e0 (by decide) (by decide)
    refine own_go (T2 := T93) (g2 := (mkF m 12 #[.val (.int p0), .val (.int (2 : Int32)), .unset, .unset, .unset, .unset] [(.ref (own_f63 (2 : Int32) w_CALL w_DAILY w_MONTHLY w_PROVIDER_DAILY w_PROVIDER_MONTHLY w_USER_DAILY w_USER_MONTHLY w_RUN))])) st93 ?_
    rw [show (own_f63 (2 : Int32) w_CALL w_DAILY w_MONTHLY w_PROVIDER_DAILY w_PROVIDER_MONTHLY w_USER_DAILY w_USER_MONTHLY w_RUN) = w_MONTHLY from by first | rfl | rw [own_f63, if_neg (show ¬ ((2 : Int32) = (0 : Int32)) from (by decide)), if_neg (show ¬ ((2 : Int32) = (1 : Int32)) from (by decide)), if_pos (show (2 : Int32) = (2 : Int32) from (by decide))] | simp only [own_f63, if_neg (show ¬ ((2 : Int32) = (0 : Int32)) from (by decide)), if_neg (show ¬ ((2 : Int32) = (1 : Int32)) from (by decide)), if_pos (show (2 : Int32) = (2 : Int32) from (by decide))]]
    refine own_go (T2 := T93) (g2 := (mkF m 13 #[.val (.int p0), .val (.int (2 : Int32)), .val (.ref w_MONTHLY), .unset, .unset, .unset] [])) (fun t k => XS.astoreN X93.here hx rfl (hb hby at_12) rfl rfl (l' := #[.val (.int p0), .val (.int (2 : Int32)), .val (.ref w_MONTHLY), .unset, .unset, .unset]) rfl k) ?_
    refine own_go (T2 := T93) (g2 := (mkF m 14 #[.val (.int p0), .val (.int (2 : Int32)), .val (.ref w_MONTHLY), .unset, .unset, .unset] [(.int (2 : Int32))])) (fun t k => XS.iloadN X93.here hx rfl (hb hby at_13) rfl  k) ?_
    refine own_go (T2 := T93) (g2 := (mkF m 21 #[.val (.int p0), .val (.int (2 : Int32)), .val (.ref w_MONTHLY), .unset, .unset, .unset] [])) (fun t k => XS.ifYes X93.here hx rfl (pc0 := 14) (pc' := 21) rfl (hb hby at_14) rfl ((if0 _ _).trans (feq (show ¬ ((2 : Int32) = (0 : Int32)) from (by decide))).2) (by decide) (by decide) k) ?_
    refine own_go (T2 := T93) (g2 := (mkF m 22 #[.val (.int p0), .val (.int (2 : Int32)), .val (.ref w_MONTHLY), .unset, .unset, .unset] [(.int (0 : Int32))])) (fun t k => XS.iconst X93.here hx rfl (hb hby at_21) k) ?_
    refine own_go (T2 := T93) (g2 := (mkF m 23 #[.val (.int p0), .val (.int (2 : Int32)), .val (.ref w_MONTHLY), .val (.int (0 : Int32)), .unset, .unset] [])) (fun t k => XS.istoreN X93.here hx rfl (hb hby at_22) rfl (l' := #[.val (.int p0), .val (.int (2 : Int32)), .val (.ref w_MONTHLY), .val (.int (0 : Int32)), .unset, .unset]) rfl k) ?_
    refine own_go (T2 := T93) (g2 := (mkF m 24 #[.val (.int p0), .val (.int (2 : Int32)), .val (.ref w_MONTHLY), .val (.int (0 : Int32)), .unset, .unset] [(.ref w_MONTHLY)])) (fun t k => XS.aloadN X93.here hx rfl (hb hby at_23) rfl rfl k) ?_
    obtain ⟨_, T94, _, X94, ⟨rfl, rfl, e94⟩, st94⟩ := own_virtual X93 hx hZ (y := (⟨"com/example/pactolus/pactolus/gate/Scope", "perCall", "()Z"⟩ : MethodName)) (z := (⟨"com/example/pactolus/pactolus/gate/Scope", "perCall", "()Z"⟩ : MethodName)) (C := "com/example/pactolus/pactolus/gate/Scope") hown (own_wd hw 8 rfl) (own_wd hw 9 rfl) (notFace_of_selects (args := #[]) (mvT hZ (own_wd hw 11 rfl))) (own_wd hw 11 rfl) (own_wd hw 10 rfl) (own_wd hw 6 rfl) (own_wd hw 12 rfl) (by decide) 0 (argsL := []) (rest := []) (own_rm80 l Z a0 hw h0 w_MONTHLY Value.null (Value.ref w_MONTHLY59) F_label_w_MONTHLY rfl F_period_w_MONTHLY rfl) (by decide) (by decide) E_w_MONTHLY (g := (mkF m 24 #[.val (.int p0), .val (.int (2 : Int32)), .val (.ref w_MONTHLY), .val (.int (0 : Int32)), .unset, .unset] [(.ref w_MONTHLY)])) rfl (by rw [hml]; rfl) (lenOf own_pd1 rfl) rfl (by show 2 * 0 + _ ≤ _; exact Nat.le_of_eq rfl) (hb hby at_24) e93 (by decide) (by decide)
    refine own_go (T2 := T94) (g2 := (mkF m 27 #[.val (.int p0), .val (.int (2 : Int32)), .val (.ref w_MONTHLY), .val (.int (0 : Int32)), .unset, .unset] [(.int (own_f80 w_MONTHLY Value.null (Value.ref w_MONTHLY59)))])) st94 ?_
    rw [show (own_f80 w_MONTHLY Value.null (Value.ref w_MONTHLY59)) = (0 : Int32) from by first | rfl | rw [own_f80, if_pos (show Value.null = Value.null from rfl), if_neg (show ¬ ((Value.ref w_MONTHLY59) = Value.null) from (fun q => nomatch q))] | simp only [own_f80, if_pos (show Value.null = Value.null from rfl), if_neg (show ¬ ((Value.ref w_MONTHLY59) = Value.null) from (fun q => nomatch q))]]
    refine own_go (T2 := T94) (g2 := (mkF m 29 #[.val (.int p0), .val (.int (2 : Int32)), .val (.ref w_MONTHLY), .val (.int (0 : Int32)), .val (.int (0 : Int32)), .unset] [])) (fun t k => XS.istore X94.here hx rfl (hb hby at_27) rfl (l' := #[.val (.int p0), .val (.int (2 : Int32)), .val (.ref w_MONTHLY), .val (.int (0 : Int32)), .val (.int (0 : Int32)), .unset]) rfl k) ?_
    refine own_go (T2 := T94) (g2 := (mkF m 31 #[.val (.int p0), .val (.int (2 : Int32)), .val (.ref w_MONTHLY), .val (.int (0 : Int32)), .val (.int (0 : Int32)), .unset] [(.int (0 : Int32))])) (fun t k => XS.iload X94.here hx rfl (hb hby at_29) rfl  k) ?_
    refine own_go (T2 := T94) (g2 := (mkF m 41 #[.val (.int p0), .val (.int (2 : Int32)), .val (.ref w_MONTHLY), .val (.int (0 : Int32)), .val (.int (0 : Int32)), .unset] [])) (fun t k => XS.ifYes X94.here hx rfl (pc0 := 31) (pc' := 41) rfl (hb hby at_31) rfl ((if0 _ _).trans (teq (show (0 : Int32) = (0 : Int32) from (by decide))).1) (by decide) (by decide) k) ?_
    refine own_go (T2 := T94) (g2 := (mkF m 42 #[.val (.int p0), .val (.int (2 : Int32)), .val (.ref w_MONTHLY), .val (.int (0 : Int32)), .val (.int (0 : Int32)), .unset] [(.int (1 : Int32))])) (fun t k => XS.iconst X94.here hx rfl (hb hby at_41) k) ?_
    refine own_go (T2 := T94) (g2 := (mkF m 46 #[.val (.int p0), .val (.int (2 : Int32)), .val (.ref w_MONTHLY), .val (.int (0 : Int32)), .val (.int (0 : Int32)), .unset] [(.int (1 : Int32))])) (fun t k => XS.goto X94.here hx rfl (pc0 := 42) (pc' := 46) rfl (hb hby at_42) (by decide) (by decide) k) ?_
    refine own_go (T2 := T94) (g2 := (mkF m 48 #[.val (.int p0), .val (.int (2 : Int32)), .val (.ref w_MONTHLY), .val (.int (0 : Int32)), .val (.int (0 : Int32)), .val (.int (1 : Int32))] [])) (fun t k => XS.istore X94.here hx rfl (hb hby at_46) rfl (l' := #[.val (.int p0), .val (.int (2 : Int32)), .val (.ref w_MONTHLY), .val (.int (0 : Int32)), .val (.int (0 : Int32)), .val (.int (1 : Int32))]) rfl k) ?_
    refine own_go (T2 := T94) (g2 := (mkF m 50 #[.val (.int p0), .val (.int (2 : Int32)), .val (.ref w_MONTHLY), .val (.int (0 : Int32)), .val (.int (0 : Int32)), .val (.int (1 : Int32))] [(.int (0 : Int32))])) (fun t k => XS.iload X94.here hx rfl (hb hby at_48) rfl  k) ?_
    refine own_go (T2 := T94) (g2 := (mkF m 51 #[.val (.int p0), .val (.int (2 : Int32)), .val (.ref w_MONTHLY), .val (.int (0 : Int32)), .val (.int (0 : Int32)), .val (.int (1 : Int32))] [(.int (0 : Int32)), (.int (0 : Int32))])) (fun t k => XS.iloadN X94.here hx rfl (hb hby at_50) rfl  k) ?_
    refine own_go (T2 := T94) (g2 := (mkF m 54 #[.val (.int p0), .val (.int (2 : Int32)), .val (.ref w_MONTHLY), .val (.int (0 : Int32)), .val (.int (0 : Int32)), .val (.int (1 : Int32))] [])) (fun t k => XS.icmpNo X94.here hx rfl (hb hby at_51) rfl (teq (show (0 : Int32) = (0 : Int32) from (by decide))).2 k) ?_
    refine own_go (T2 := T94) (g2 := (mkF m 56 #[.val (.int p0), .val (.int (2 : Int32)), .val (.ref w_MONTHLY), .val (.int (0 : Int32)), .val (.int (0 : Int32)), .val (.int (1 : Int32))] [(.int (1 : Int32))])) (fun t k => XS.iload X94.here hx rfl (hb hby at_54) rfl  k) ?_
    refine own_go (T2 := T94) (g2 := (mkF m 59 #[.val (.int p0), .val (.int (2 : Int32)), .val (.ref w_MONTHLY), .val (.int (0 : Int32)), .val (.int (0 : Int32)), .val (.int (1 : Int32))] [])) (fun t k => XS.ifNo X94.here hx rfl (hb hby at_56) rfl ((if0 _ _).trans (feq (show ¬ ((1 : Int32) = (0 : Int32)) from (by decide))).1) k) ?_
    refine own_go (T2 := T94) (g2 := (mkF m 60 #[.val (.int p0), .val (.int (2 : Int32)), .val (.ref w_MONTHLY), .val (.int (0 : Int32)), .val (.int (0 : Int32)), .val (.int (1 : Int32))] [(.int (1 : Int32))])) (fun t k => XS.iconst X94.here hx rfl (hb hby at_59) k) ?_
    refine own_go (T2 := T94) (g2 := (mkF m 64 #[.val (.int p0), .val (.int (2 : Int32)), .val (.ref w_MONTHLY), .val (.int (0 : Int32)), .val (.int (0 : Int32)), .val (.int (1 : Int32))] [(.int (1 : Int32))])) (fun t k => XS.goto X94.here hx rfl (pc0 := 60) (pc' := 64) rfl (hb hby at_60) (by decide) (by decide) k) ?_
    exact own_endN X94 hx Bd.notSynchronized (t := .boolean) Bd.returns (by simp) (hb hby at_64) (z' := (1 : Int32)) rfl (by decide) (by decide) ⟨rfl, Fr.nil _⟩
  · refine own_go (T2 := s₁) (g2 := (mkF m 8 #[.val (.int p0), .val (.int (3 : Int32)), .unset, .unset, .unset, .unset] [])) (fun t k => XS.istoreN X0.here hx rfl (hb hby at_7) rfl (l' := #[.val (.int p0), .val (.int (3 : Int32)), .unset, .unset, .unset, .unset]) rfl k) ?_
    refine own_go (T2 := s₁) (g2 := (mkF m 9 #[.val (.int p0), .val (.int (3 : Int32)), .unset, .unset, .unset, .unset] [(.int (3 : Int32))])) (fun t k => XS.iloadN X0.here hx rfl (hb hby at_8) rfl  k) ?_
    obtain ⟨_, T95, _, X95, ⟨rfl, rfl, e95⟩, st95⟩ := own_static X0 hx hZ (y := (⟨"com/example/pactolus/pactolus/gate/ScopePerCallPinLaw", "pick", "(I)Lcom/example/pactolus/pactolus/gate/Scope;"⟩ : MethodName)) hown (own_wd hw 1 rfl) (own_wd hw 2 rfl) (own_wd hw 3 rfl) (own_wd hw 4 rfl) (by decide) 0 (argsL := [(.int (3 : Int32))]) (rest := []) (own_rm63 l Z a0 hw h0 (3 : Int32) w_CALL w_DAILY w_MONTHLY w_PROVIDER_DAILY w_PROVIDER_MONTHLY w_USER_DAILY w_USER_MONTHLY w_RUN S_w_CALL S_w_DAILY S_w_MONTHLY S_w_PROVIDER_DAILY S_w_PROVIDER_MONTHLY S_w_USER_DAILY S_w_USER_MONTHLY S_w_RUN) (by decide) (by decide) (g := (mkF m 9 #[.val (.int p0), .val (.int (3 : Int32)), .unset, .unset, .unset, .unset] [(.int (3 : Int32))])) rfl (by rw [hml]; rfl) (lenOf own_pd0 rfl) rfl (by show 2 * 0 + _ ≤ _; exact Nat.le_of_eq rfl) (hb hby at_9) e0 (by decide) (by decide)
    refine own_go (T2 := T95) (g2 := (mkF m 12 #[.val (.int p0), .val (.int (3 : Int32)), .unset, .unset, .unset, .unset] [(.ref (own_f63 (3 : Int32) w_CALL w_DAILY w_MONTHLY w_PROVIDER_DAILY w_PROVIDER_MONTHLY w_USER_DAILY w_USER_MONTHLY w_RUN))])) st95 ?_
    rw [show (own_f63 (3 : Int32) w_CALL w_DAILY w_MONTHLY w_PROVIDER_DAILY w_PROVIDER_MONTHLY w_USER_DAILY w_USER_MONTHLY w_RUN) = w_PROVIDER_DAILY from by first | rfl | rw [own_f63, if_neg (show ¬ ((3 : Int32) = (0 : Int32)) from (by decide)), if_neg (show ¬ ((3 : Int32) = (1 : Int32)) from (by decide)), if_neg (show ¬ ((3 : Int32) = (2 : Int32)) from (by decide)), if_pos (show (3 : Int32) = (3 : Int32) from (by decide))] | simp only [own_f63, if_neg (show ¬ ((3 : Int32) = (0 : Int32)) from (by decide)), if_neg (show ¬ ((3 : Int32) = (1 : Int32)) from (by decide)), if_neg (show ¬ ((3 : Int32) = (2 : Int32)) from (by decide)), if_pos (show (3 : Int32) = (3 : Int32) from (by decide))]]
    refine own_go (T2 := T95) (g2 := (mkF m 13 #[.val (.int p0), .val (.int (3 : Int32)), .val (.ref w_PROVIDER_DAILY), .unset, .unset, .unset] [])) (fun t k => XS.astoreN X95.here hx rfl (hb hby at_12) rfl rfl (l' := #[.val (.int p0), .val (.int (3 : Int32)), .val (.ref w_PROVIDER_DAILY), .unset, .unset, .unset]) rfl k) ?_
    refine own_go (T2 := T95) (g2 := (mkF m 14 #[.val (.int p0), .val (.int (3 : Int32)), .val (.ref w_PROVIDER_DAILY), .unset, .unset, .unset] [(.int (3 : Int32))])) (fun t k => XS.iloadN X95.here hx rfl (hb hby at_13) rfl  k) ?_
    refine own_go (T2 := T95) (g2 := (mkF m 21 #[.val (.int p0), .val (.int (3 : Int32)), .val (.ref w_PROVIDER_DAILY), .unset, .unset, .unset] [])) (fun t k => XS.ifYes X95.here hx rfl (pc0 := 14) (pc' := 21) rfl (hb hby at_14) rfl ((if0 _ _).trans (feq (show ¬ ((3 : Int32) = (0 : Int32)) from (by decide))).2) (by decide) (by decide) k) ?_
    refine own_go (T2 := T95) (g2 := (mkF m 22 #[.val (.int p0), .val (.int (3 : Int32)), .val (.ref w_PROVIDER_DAILY), .unset, .unset, .unset] [(.int (0 : Int32))])) (fun t k => XS.iconst X95.here hx rfl (hb hby at_21) k) ?_
    refine own_go (T2 := T95) (g2 := (mkF m 23 #[.val (.int p0), .val (.int (3 : Int32)), .val (.ref w_PROVIDER_DAILY), .val (.int (0 : Int32)), .unset, .unset] [])) (fun t k => XS.istoreN X95.here hx rfl (hb hby at_22) rfl (l' := #[.val (.int p0), .val (.int (3 : Int32)), .val (.ref w_PROVIDER_DAILY), .val (.int (0 : Int32)), .unset, .unset]) rfl k) ?_
    refine own_go (T2 := T95) (g2 := (mkF m 24 #[.val (.int p0), .val (.int (3 : Int32)), .val (.ref w_PROVIDER_DAILY), .val (.int (0 : Int32)), .unset, .unset] [(.ref w_PROVIDER_DAILY)])) (fun t k => XS.aloadN X95.here hx rfl (hb hby at_23) rfl rfl k) ?_
    obtain ⟨_, T96, _, X96, ⟨rfl, rfl, e96⟩, st96⟩ := own_virtual X95 hx hZ (y := (⟨"com/example/pactolus/pactolus/gate/Scope", "perCall", "()Z"⟩ : MethodName)) (z := (⟨"com/example/pactolus/pactolus/gate/Scope", "perCall", "()Z"⟩ : MethodName)) (C := "com/example/pactolus/pactolus/gate/Scope") hown (own_wd hw 8 rfl) (own_wd hw 9 rfl) (notFace_of_selects (args := #[]) (mvT hZ (own_wd hw 11 rfl))) (own_wd hw 11 rfl) (own_wd hw 10 rfl) (own_wd hw 6 rfl) (own_wd hw 12 rfl) (by decide) 0 (argsL := []) (rest := []) (own_rm80 l Z a0 hw h0 w_PROVIDER_DAILY (Value.ref w_PROVIDER) (Value.ref w_DAILY60) F_label_w_PROVIDER_DAILY rfl F_period_w_PROVIDER_DAILY rfl) (by decide) (by decide) E_w_PROVIDER_DAILY (g := (mkF m 24 #[.val (.int p0), .val (.int (3 : Int32)), .val (.ref w_PROVIDER_DAILY), .val (.int (0 : Int32)), .unset, .unset] [(.ref w_PROVIDER_DAILY)])) rfl (by rw [hml]; rfl) (lenOf own_pd1 rfl) rfl (by show 2 * 0 + _ ≤ _; exact Nat.le_of_eq rfl) (hb hby at_24) e95 (by decide) (by decide)
    refine own_go (T2 := T96) (g2 := (mkF m 27 #[.val (.int p0), .val (.int (3 : Int32)), .val (.ref w_PROVIDER_DAILY), .val (.int (0 : Int32)), .unset, .unset] [(.int (own_f80 w_PROVIDER_DAILY (Value.ref w_PROVIDER) (Value.ref w_DAILY60)))])) st96 ?_
    rw [show (own_f80 w_PROVIDER_DAILY (Value.ref w_PROVIDER) (Value.ref w_DAILY60)) = (0 : Int32) from by first | rfl | rw [own_f80, if_neg (show ¬ ((Value.ref w_PROVIDER) = Value.null) from (fun q => nomatch q))] | simp only [own_f80, if_neg (show ¬ ((Value.ref w_PROVIDER) = Value.null) from (fun q => nomatch q))]]
    refine own_go (T2 := T96) (g2 := (mkF m 29 #[.val (.int p0), .val (.int (3 : Int32)), .val (.ref w_PROVIDER_DAILY), .val (.int (0 : Int32)), .val (.int (0 : Int32)), .unset] [])) (fun t k => XS.istore X96.here hx rfl (hb hby at_27) rfl (l' := #[.val (.int p0), .val (.int (3 : Int32)), .val (.ref w_PROVIDER_DAILY), .val (.int (0 : Int32)), .val (.int (0 : Int32)), .unset]) rfl k) ?_
    refine own_go (T2 := T96) (g2 := (mkF m 31 #[.val (.int p0), .val (.int (3 : Int32)), .val (.ref w_PROVIDER_DAILY), .val (.int (0 : Int32)), .val (.int (0 : Int32)), .unset] [(.int (0 : Int32))])) (fun t k => XS.iload X96.here hx rfl (hb hby at_29) rfl  k) ?_
    refine own_go (T2 := T96) (g2 := (mkF m 41 #[.val (.int p0), .val (.int (3 : Int32)), .val (.ref w_PROVIDER_DAILY), .val (.int (0 : Int32)), .val (.int (0 : Int32)), .unset] [])) (fun t k => XS.ifYes X96.here hx rfl (pc0 := 31) (pc' := 41) rfl (hb hby at_31) rfl ((if0 _ _).trans (teq (show (0 : Int32) = (0 : Int32) from (by decide))).1) (by decide) (by decide) k) ?_
    refine own_go (T2 := T96) (g2 := (mkF m 42 #[.val (.int p0), .val (.int (3 : Int32)), .val (.ref w_PROVIDER_DAILY), .val (.int (0 : Int32)), .val (.int (0 : Int32)), .unset] [(.int (1 : Int32))])) (fun t k => XS.iconst X96.here hx rfl (hb hby at_41) k) ?_
    refine own_go (T2 := T96) (g2 := (mkF m 46 #[.val (.int p0), .val (.int (3 : Int32)), .val (.ref w_PROVIDER_DAILY), .val (.int (0 : Int32)), .val (.int (0 : Int32)), .unset] [(.int (1 : Int32))])) (fun t k => XS.goto X96.here hx rfl (pc0 := 42) (pc' := 46) rfl (hb hby at_42) (by decide) (by decide) k) ?_
    refine own_go (T2 := T96) (g2 := (mkF m 48 #[.val (.int p0), .val (.int (3 : Int32)), .val (.ref w_PROVIDER_DAILY), .val (.int (0 : Int32)), .val (.int (0 : Int32)), .val (.int (1 : Int32))] [])) (fun t k => XS.istore X96.here hx rfl (hb hby at_46) rfl (l' := #[.val (.int p0), .val (.int (3 : Int32)), .val (.ref w_PROVIDER_DAILY), .val (.int (0 : Int32)), .val (.int (0 : Int32)), .val (.int (1 : Int32))]) rfl k) ?_
    refine own_go (T2 := T96) (g2 := (mkF m 50 #[.val (.int p0), .val (.int (3 : Int32)), .val (.ref w_PROVIDER_DAILY), .val (.int (0 : Int32)), .val (.int (0 : Int32)), .val (.int (1 : Int32))] [(.int (0 : Int32))])) (fun t k => XS.iload X96.here hx rfl (hb hby at_48) rfl  k) ?_
    refine own_go (T2 := T96) (g2 := (mkF m 51 #[.val (.int p0), .val (.int (3 : Int32)), .val (.ref w_PROVIDER_DAILY), .val (.int (0 : Int32)), .val (.int (0 : Int32)), .val (.int (1 : Int32))] [(.int (0 : Int32)), (.int (0 : Int32))])) (fun t k => XS.iloadN X96.here hx rfl (hb hby at_50) rfl  k) ?_
    refine own_go (T2 := T96) (g2 := (mkF m 54 #[.val (.int p0), .val (.int (3 : Int32)), .val (.ref w_PROVIDER_DAILY), .val (.int (0 : Int32)), .val (.int (0 : Int32)), .val (.int (1 : Int32))] [])) (fun t k => XS.icmpNo X96.here hx rfl (hb hby at_51) rfl (teq (show (0 : Int32) = (0 : Int32) from (by decide))).2 k) ?_
    refine own_go (T2 := T96) (g2 := (mkF m 56 #[.val (.int p0), .val (.int (3 : Int32)), .val (.ref w_PROVIDER_DAILY), .val (.int (0 : Int32)), .val (.int (0 : Int32)), .val (.int (1 : Int32))] [(.int (1 : Int32))])) (fun t k => XS.iload X96.here hx rfl (hb hby at_54) rfl  k) ?_
    refine own_go (T2 := T96) (g2 := (mkF m 59 #[.val (.int p0), .val (.int (3 : Int32)), .val (.ref w_PROVIDER_DAILY), .val (.int (0 : Int32)), .val (.int (0 : Int32)), .val (.int (1 : Int32))] [])) (fun t k => XS.ifNo X96.here hx rfl (hb hby at_56) rfl ((if0 _ _).trans (feq (show ¬ ((1 : Int32) = (0 : Int32)) from (by decide))).1) k) ?_
    refine own_go (T2 := T96) (g2 := (mkF m 60 #[.val (.int p0), .val (.int (3 : Int32)), .val (.ref w_PROVIDER_DAILY), .val (.int (0 : Int32)), .val (.int (0 : Int32)), .val (.int (1 : Int32))] [(.int (1 : Int32))])) (fun t k => XS.iconst X96.here hx rfl (hb hby at_59) k) ?_
    refine own_go (T2 := T96) (g2 := (mkF m 64 #[.val (.int p0), .val (.int (3 : Int32)), .val (.ref w_PROVIDER_DAILY), .val (.int (0 : Int32)), .val (.int (0 : Int32)), .val (.int (1 : Int32))] [(.int (1 : Int32))])) (fun t k => XS.goto X96.here hx rfl (pc0 := 60) (pc' := 64) rfl (hb hby at_60) (by decide) (by decide) k) ?_
    exact own_endN X96 hx Bd.notSynchronized (t := .boolean) Bd.returns (by simp) (hb hby at_64) (z' := (1 : Int32)) rfl (by decide) (by decide) ⟨rfl, Fr.nil _⟩
  · refine own_go (T2 := s₁) (g2 := (mkF m 8 #[.val (.int p0), .val (.int (4 : Int32)), .unset, .unset, .unset, .unset] [])) (fun t k => XS.istoreN X0.here hx rfl (hb hby at_7) rfl (l' := #[.val (.int p0), .val (.int (4 : Int32)), .unset, .unset, .unset, .unset]) rfl k) ?_
    refine own_go (T2 := s₁) (g2 := (mkF m 9 #[.val (.int p0), .val (.int (4 : Int32)), .unset, .unset, .unset, .unset] [(.int (4 : Int32))])) (fun t k => XS.iloadN X0.here hx rfl (hb hby at_8) rfl  k) ?_
    obtain ⟨_, T97, _, X97, ⟨rfl, rfl, e97⟩, st97⟩ := own_static X0 hx hZ (y := (⟨"com/example/pactolus/pactolus/gate/ScopePerCallPinLaw", "pick", "(I)Lcom/example/pactolus/pactolus/gate/Scope;"⟩ : MethodName)) hown (own_wd hw 1 rfl) (own_wd hw 2 rfl) (own_wd hw 3 rfl) (own_wd hw 4 rfl) (by decide) 0 (argsL := [(.int (4 : Int32))]) (rest := []) (own_rm63 l Z a0 hw h0 (4 : Int32) w_CALL w_DAILY w_MONTHLY w_PROVIDER_DAILY w_PROVIDER_MONTHLY w_USER_DAILY w_USER_MONTHLY w_RUN S_w_CALL S_w_DAILY S_w_MONTHLY S_w_PROVIDER_DAILY S_w_PROVIDER_MONTHLY S_w_USER_DAILY S_w_USER_MONTHLY S_w_RUN) (by decide) (by decide) (g := (mkF m 9 #[.val (.int p0), .val (.int (4 : Int32)), .unset, .unset, .unset, .unset] [(.int (4 : Int32))])) rfl (by rw [hml]; rfl) (lenOf own_pd0 rfl) rfl (by show 2 * 0 + _ ≤ _; exact Nat.le_of_eq rfl) (hb hby at_9) e0 (by decide) (by decide)
    refine own_go (T2 := T97) (g2 := (mkF m 12 #[.val (.int p0), .val (.int (4 : Int32)), .unset, .unset, .unset, .unset] [(.ref (own_f63 (4 : Int32) w_CALL w_DAILY w_MONTHLY w_PROVIDER_DAILY w_PROVIDER_MONTHLY w_USER_DAILY w_USER_MONTHLY w_RUN))])) st97 ?_
    rw [show (own_f63 (4 : Int32) w_CALL w_DAILY w_MONTHLY w_PROVIDER_DAILY w_PROVIDER_MONTHLY w_USER_DAILY w_USER_MONTHLY w_RUN) = w_PROVIDER_MONTHLY from by first | rfl | rw [own_f63, if_neg (show ¬ ((4 : Int32) = (0 : Int32)) from (by decide)), if_neg (show ¬ ((4 : Int32) = (1 : Int32)) from (by decide)), if_neg (show ¬ ((4 : Int32) = (2 : Int32)) from (by decide)), if_neg (show ¬ ((4 : Int32) = (3 : Int32)) from (by decide)), if_pos (show (4 : Int32) = (4 : Int32) from (by decide))] | simp only [own_f63, if_neg (show ¬ ((4 : Int32) = (0 : Int32)) from (by decide)), if_neg (show ¬ ((4 : Int32) = (1 : Int32)) from (by decide)), if_neg (show ¬ ((4 : Int32) = (2 : Int32)) from (by decide)), if_neg (show ¬ ((4 : Int32) = (3 : Int32)) from (by decide)), if_pos (show (4 : Int32) = (4 : Int32) from (by decide))]]
    refine own_go (T2 := T97) (g2 := (mkF m 13 #[.val (.int p0), .val (.int (4 : Int32)), .val (.ref w_PROVIDER_MONTHLY), .unset, .unset, .unset] [])) (fun t k => XS.astoreN X97.here hx rfl (hb hby at_12) rfl rfl (l' := #[.val (.int p0), .val (.int (4 : Int32)), .val (.ref w_PROVIDER_MONTHLY), .unset, .unset, .unset]) rfl k) ?_
    refine own_go (T2 := T97) (g2 := (mkF m 14 #[.val (.int p0), .val (.int (4 : Int32)), .val (.ref w_PROVIDER_MONTHLY), .unset, .unset, .unset] [(.int (4 : Int32))])) (fun t k => XS.iloadN X97.here hx rfl (hb hby at_13) rfl  k) ?_
    refine own_go (T2 := T97) (g2 := (mkF m 21 #[.val (.int p0), .val (.int (4 : Int32)), .val (.ref w_PROVIDER_MONTHLY), .unset, .unset, .unset] [])) (fun t k => XS.ifYes X97.here hx rfl (pc0 := 14) (pc' := 21) rfl (hb hby at_14) rfl ((if0 _ _).trans (feq (show ¬ ((4 : Int32) = (0 : Int32)) from (by decide))).2) (by decide) (by decide) k) ?_
    refine own_go (T2 := T97) (g2 := (mkF m 22 #[.val (.int p0), .val (.int (4 : Int32)), .val (.ref w_PROVIDER_MONTHLY), .unset, .unset, .unset] [(.int (0 : Int32))])) (fun t k => XS.iconst X97.here hx rfl (hb hby at_21) k) ?_
    refine own_go (T2 := T97) (g2 := (mkF m 23 #[.val (.int p0), .val (.int (4 : Int32)), .val (.ref w_PROVIDER_MONTHLY), .val (.int (0 : Int32)), .unset, .unset] [])) (fun t k => XS.istoreN X97.here hx rfl (hb hby at_22) rfl (l' := #[.val (.int p0), .val (.int (4 : Int32)), .val (.ref w_PROVIDER_MONTHLY), .val (.int (0 : Int32)), .unset, .unset]) rfl k) ?_
    refine own_go (T2 := T97) (g2 := (mkF m 24 #[.val (.int p0), .val (.int (4 : Int32)), .val (.ref w_PROVIDER_MONTHLY), .val (.int (0 : Int32)), .unset, .unset] [(.ref w_PROVIDER_MONTHLY)])) (fun t k => XS.aloadN X97.here hx rfl (hb hby at_23) rfl rfl k) ?_
    obtain ⟨_, T98, _, X98, ⟨rfl, rfl, e98⟩, st98⟩ := own_virtual X97 hx hZ (y := (⟨"com/example/pactolus/pactolus/gate/Scope", "perCall", "()Z"⟩ : MethodName)) (z := (⟨"com/example/pactolus/pactolus/gate/Scope", "perCall", "()Z"⟩ : MethodName)) (C := "com/example/pactolus/pactolus/gate/Scope") hown (own_wd hw 8 rfl) (own_wd hw 9 rfl) (notFace_of_selects (args := #[]) (mvT hZ (own_wd hw 11 rfl))) (own_wd hw 11 rfl) (own_wd hw 10 rfl) (own_wd hw 6 rfl) (own_wd hw 12 rfl) (by decide) 0 (argsL := []) (rest := []) (own_rm80 l Z a0 hw h0 w_PROVIDER_MONTHLY (Value.ref w_PROVIDER) (Value.ref w_MONTHLY59) F_label_w_PROVIDER_MONTHLY rfl F_period_w_PROVIDER_MONTHLY rfl) (by decide) (by decide) E_w_PROVIDER_MONTHLY (g := (mkF m 24 #[.val (.int p0), .val (.int (4 : Int32)), .val (.ref w_PROVIDER_MONTHLY), .val (.int (0 : Int32)), .unset, .unset] [(.ref w_PROVIDER_MONTHLY)])) rfl (by rw [hml]; rfl) (lenOf own_pd1 rfl) rfl (by show 2 * 0 + _ ≤ _; exact Nat.le_of_eq rfl) (hb hby at_24) e97 (by decide) (by decide)
    refine own_go (T2 := T98) (g2 := (mkF m 27 #[.val (.int p0), .val (.int (4 : Int32)), .val (.ref w_PROVIDER_MONTHLY), .val (.int (0 : Int32)), .unset, .unset] [(.int (own_f80 w_PROVIDER_MONTHLY (Value.ref w_PROVIDER) (Value.ref w_MONTHLY59)))])) st98 ?_
    rw [show (own_f80 w_PROVIDER_MONTHLY (Value.ref w_PROVIDER) (Value.ref w_MONTHLY59)) = (0 : Int32) from by first | rfl | rw [own_f80, if_neg (show ¬ ((Value.ref w_PROVIDER) = Value.null) from (fun q => nomatch q))] | simp only [own_f80, if_neg (show ¬ ((Value.ref w_PROVIDER) = Value.null) from (fun q => nomatch q))]]
    refine own_go (T2 := T98) (g2 := (mkF m 29 #[.val (.int p0), .val (.int (4 : Int32)), .val (.ref w_PROVIDER_MONTHLY), .val (.int (0 : Int32)), .val (.int (0 : Int32)), .unset] [])) (fun t k => XS.istore X98.here hx rfl (hb hby at_27) rfl (l' := #[.val (.int p0), .val (.int (4 : Int32)), .val (.ref w_PROVIDER_MONTHLY), .val (.int (0 : Int32)), .val (.int (0 : Int32)), .unset]) rfl k) ?_
    refine own_go (T2 := T98) (g2 := (mkF m 31 #[.val (.int p0), .val (.int (4 : Int32)), .val (.ref w_PROVIDER_MONTHLY), .val (.int (0 : Int32)), .val (.int (0 : Int32)), .unset] [(.int (0 : Int32))])) (fun t k => XS.iload X98.here hx rfl (hb hby at_29) rfl  k) ?_
    refine own_go (T2 := T98) (g2 := (mkF m 41 #[.val (.int p0), .val (.int (4 : Int32)), .val (.ref w_PROVIDER_MONTHLY), .val (.int (0 : Int32)), .val (.int (0 : Int32)), .unset] [])) (fun t k => XS.ifYes X98.here hx rfl (pc0 := 31) (pc' := 41) rfl (hb hby at_31) rfl ((if0 _ _).trans (teq (show (0 : Int32) = (0 : Int32) from (by decide))).1) (by decide) (by decide) k) ?_
    refine own_go (T2 := T98) (g2 := (mkF m 42 #[.val (.int p0), .val (.int (4 : Int32)), .val (.ref w_PROVIDER_MONTHLY), .val (.int (0 : Int32)), .val (.int (0 : Int32)), .unset] [(.int (1 : Int32))])) (fun t k => XS.iconst X98.here hx rfl (hb hby at_41) k) ?_
    refine own_go (T2 := T98) (g2 := (mkF m 46 #[.val (.int p0), .val (.int (4 : Int32)), .val (.ref w_PROVIDER_MONTHLY), .val (.int (0 : Int32)), .val (.int (0 : Int32)), .unset] [(.int (1 : Int32))])) (fun t k => XS.goto X98.here hx rfl (pc0 := 42) (pc' := 46) rfl (hb hby at_42) (by decide) (by decide) k) ?_
    refine own_go (T2 := T98) (g2 := (mkF m 48 #[.val (.int p0), .val (.int (4 : Int32)), .val (.ref w_PROVIDER_MONTHLY), .val (.int (0 : Int32)), .val (.int (0 : Int32)), .val (.int (1 : Int32))] [])) (fun t k => XS.istore X98.here hx rfl (hb hby at_46) rfl (l' := #[.val (.int p0), .val (.int (4 : Int32)), .val (.ref w_PROVIDER_MONTHLY), .val (.int (0 : Int32)), .val (.int (0 : Int32)), .val (.int (1 : Int32))]) rfl k) ?_
    refine own_go (T2 := T98) (g2 := (mkF m 50 #[.val (.int p0), .val (.int (4 : Int32)), .val (.ref w_PROVIDER_MONTHLY), .val (.int (0 : Int32)), .val (.int (0 : Int32)), .val (.int (1 : Int32))] [(.int (0 : Int32))])) (fun t k => XS.iload X98.here hx rfl (hb hby at_48) rfl  k) ?_
    refine own_go (T2 := T98) (g2 := (mkF m 51 #[.val (.int p0), .val (.int (4 : Int32)), .val (.ref w_PROVIDER_MONTHLY), .val (.int (0 : Int32)), .val (.int (0 : Int32)), .val (.int (1 : Int32))] [(.int (0 : Int32)), (.int (0 : Int32))])) (fun t k => XS.iloadN X98.here hx rfl (hb hby at_50) rfl  k) ?_
    refine own_go (T2 := T98) (g2 := (mkF m 54 #[.val (.int p0), .val (.int (4 : Int32)), .val (.ref w_PROVIDER_MONTHLY), .val (.int (0 : Int32)), .val (.int (0 : Int32)), .val (.int (1 : Int32))] [])) (fun t k => XS.icmpNo X98.here hx rfl (hb hby at_51) rfl (teq (show (0 : Int32) = (0 : Int32) from (by decide))).2 k) ?_
    refine own_go (T2 := T98) (g2 := (mkF m 56 #[.val (.int p0), .val (.int (4 : Int32)), .val (.ref w_PROVIDER_MONTHLY), .val (.int (0 : Int32)), .val (.int (0 : Int32)), .val (.int (1 : Int32))] [(.int (1 : Int32))])) (fun t k => XS.iload X98.here hx rfl (hb hby at_54) rfl  k) ?_
    refine own_go (T2 := T98) (g2 := (mkF m 59 #[.val (.int p0), .val (.int (4 : Int32)), .val (.ref w_PROVIDER_MONTHLY), .val (.int (0 : Int32)), .val (.int (0 : Int32)), .val (.int (1 : Int32))] [])) (fun t k => XS.ifNo X98.here hx rfl (hb hby at_56) rfl ((if0 _ _).trans (feq (show ¬ ((1 : Int32) = (0 : Int32)) from (by decide))).1) k) ?_
    refine own_go (T2 := T98) (g2 := (mkF m 60 #[.val (.int p0), .val (.int (4 : Int32)), .val (.ref w_PROVIDER_MONTHLY), .val (.int (0 : Int32)), .val (.int (0 : Int32)), .val (.int (1 : Int32))] [(.int (1 : Int32))])) (fun t k => XS.iconst X98.here hx rfl (hb hby at_59) k) ?_
    refine own_go (T2 := T98) (g2 := (mkF m 64 #[.val (.int p0), .val (.int (4 : Int32)), .val (.ref w_PROVIDER_MONTHLY), .val (.int (0 : Int32)), .val (.int (0 : Int32)), .val (.int (1 : Int32))] [(.int (1 : Int32))])) (fun t k => XS.goto X98.here hx rfl (pc0 := 60) (pc' := 64) rfl (hb hby at_60) (by decide) (by decide) k) ?_
    exact own_endN X98 hx Bd.notSynchronized (t := .boolean) Bd.returns (by simp) (hb hby at_64) (z' := (1 : Int32)) rfl (by decide) (by decide) ⟨rfl, Fr.nil _⟩
  · refine own_go (T2 := s₁) (g2 := (mkF m 8 #[.val (.int p0), .val (.int (5 : Int32)), .unset, .unset, .unset, .unset] [])) (fun t k => XS.istoreN X0.here hx rfl (hb hby at_7) rfl (l' := #[.val (.int p0), .val (.int (5 : Int32)), .unset, .unset, .unset, .unset]) rfl k) ?_
    refine own_go (T2 := s₁) (g2 := (mkF m 9 #[.val (.int p0), .val (.int (5 : Int32)), .unset, .unset, .unset, .unset] [(.int (5 : Int32))])) (fun t k => XS.iloadN X0.here hx rfl (hb hby at_8) rfl  k) ?_
    obtain ⟨_, T99, _, X99, ⟨rfl, rfl, e99⟩, st99⟩ := own_static X0 hx hZ (y := (⟨"com/example/pactolus/pactolus/gate/ScopePerCallPinLaw", "pick", "(I)Lcom/example/pactolus/pactolus/gate/Scope;"⟩ : MethodName)) hown (own_wd hw 1 rfl) (own_wd hw 2 rfl) (own_wd hw 3 rfl) (own_wd hw 4 rfl) (by decide) 0 (argsL := [(.int (5 : Int32))]) (rest := []) (own_rm63 l Z a0 hw h0 (5 : Int32) w_CALL w_DAILY w_MONTHLY w_PROVIDER_DAILY w_PROVIDER_MONTHLY w_USER_DAILY w_USER_MONTHLY w_RUN S_w_CALL S_w_DAILY S_w_MONTHLY S_w_PROVIDER_DAILY S_w_PROVIDER_MONTHLY S_w_USER_DAILY S_w_USER_MONTHLY S_w_RUN) (by decide) (by decide) (g := (mkF m 9 #[.val (.int p0), .val (.int (5 : Int32)), .unset, .unset, .unset, .unset] [(.int (5 : Int32))])) rfl (by rw [hml]; rfl) (lenOf own_pd0 rfl) rfl (by show 2 * 0 + _ ≤ _; exact Nat.le_of_eq rfl) (hb hby at_9) e0 (by decide) (by decide)
    refine own_go (T2 := T99) (g2 := (mkF m 12 #[.val (.int p0), .val (.int (5 : Int32)), .unset, .unset, .unset, .unset] [(.ref (own_f63 (5 : Int32) w_CALL w_DAILY w_MONTHLY w_PROVIDER_DAILY w_PROVIDER_MONTHLY w_USER_DAILY w_USER_MONTHLY w_RUN))])) st99 ?_
    rw [show (own_f63 (5 : Int32) w_CALL w_DAILY w_MONTHLY w_PROVIDER_DAILY w_PROVIDER_MONTHLY w_USER_DAILY w_USER_MONTHLY w_RUN) = w_USER_DAILY from by first | rfl | rw [own_f63, if_neg (show ¬ ((5 : Int32) = (0 : Int32)) from (by decide)), if_neg (show ¬ ((5 : Int32) = (1 : Int32)) from (by decide)), if_neg (show ¬ ((5 : Int32) = (2 : Int32)) from (by decide)), if_neg (show ¬ ((5 : Int32) = (3 : Int32)) from (by decide)), if_neg (show ¬ ((5 : Int32) = (4 : Int32)) from (by decide)), if_pos (show (5 : Int32) = (5 : Int32) from (by decide))] | simp only [own_f63, if_neg (show ¬ ((5 : Int32) = (0 : Int32)) from (by decide)), if_neg (show ¬ ((5 : Int32) = (1 : Int32)) from (by decide)), if_neg (show ¬ ((5 : Int32) = (2 : Int32)) from (by decide)), if_neg (show ¬ ((5 : Int32) = (3 : Int32)) from (by decide)), if_neg (show ¬ ((5 : Int32) = (4 : Int32)) from (by decide)), if_pos (show (5 : Int32) = (5 : Int32) from (by decide))]]
    refine own_go (T2 := T99) (g2 := (mkF m 13 #[.val (.int p0), .val (.int (5 : Int32)), .val (.ref w_USER_DAILY), .unset, .unset, .unset] [])) (fun t k => XS.astoreN X99.here hx rfl (hb hby at_12) rfl rfl (l' := #[.val (.int p0), .val (.int (5 : Int32)), .val (.ref w_USER_DAILY), .unset, .unset, .unset]) rfl k) ?_
    refine own_go (T2 := T99) (g2 := (mkF m 14 #[.val (.int p0), .val (.int (5 : Int32)), .val (.ref w_USER_DAILY), .unset, .unset, .unset] [(.int (5 : Int32))])) (fun t k => XS.iloadN X99.here hx rfl (hb hby at_13) rfl  k) ?_
    refine own_go (T2 := T99) (g2 := (mkF m 21 #[.val (.int p0), .val (.int (5 : Int32)), .val (.ref w_USER_DAILY), .unset, .unset, .unset] [])) (fun t k => XS.ifYes X99.here hx rfl (pc0 := 14) (pc' := 21) rfl (hb hby at_14) rfl ((if0 _ _).trans (feq (show ¬ ((5 : Int32) = (0 : Int32)) from (by decide))).2) (by decide) (by decide) k) ?_
    refine own_go (T2 := T99) (g2 := (mkF m 22 #[.val (.int p0), .val (.int (5 : Int32)), .val (.ref w_USER_DAILY), .unset, .unset, .unset] [(.int (0 : Int32))])) (fun t k => XS.iconst X99.here hx rfl (hb hby at_21) k) ?_
    refine own_go (T2 := T99) (g2 := (mkF m 23 #[.val (.int p0), .val (.int (5 : Int32)), .val (.ref w_USER_DAILY), .val (.int (0 : Int32)), .unset, .unset] [])) (fun t k => XS.istoreN X99.here hx rfl (hb hby at_22) rfl (l' := #[.val (.int p0), .val (.int (5 : Int32)), .val (.ref w_USER_DAILY), .val (.int (0 : Int32)), .unset, .unset]) rfl k) ?_
    refine own_go (T2 := T99) (g2 := (mkF m 24 #[.val (.int p0), .val (.int (5 : Int32)), .val (.ref w_USER_DAILY), .val (.int (0 : Int32)), .unset, .unset] [(.ref w_USER_DAILY)])) (fun t k => XS.aloadN X99.here hx rfl (hb hby at_23) rfl rfl k) ?_
    obtain ⟨_, T100, _, X100, ⟨rfl, rfl, e100⟩, st100⟩ := own_virtual X99 hx hZ (y := (⟨"com/example/pactolus/pactolus/gate/Scope", "perCall", "()Z"⟩ : MethodName)) (z := (⟨"com/example/pactolus/pactolus/gate/Scope", "perCall", "()Z"⟩ : MethodName)) (C := "com/example/pactolus/pactolus/gate/Scope") hown (own_wd hw 8 rfl) (own_wd hw 9 rfl) (notFace_of_selects (args := #[]) (mvT hZ (own_wd hw 11 rfl))) (own_wd hw 11 rfl) (own_wd hw 10 rfl) (own_wd hw 6 rfl) (own_wd hw 12 rfl) (by decide) 0 (argsL := []) (rest := []) (own_rm80 l Z a0 hw h0 w_USER_DAILY (Value.ref w_USER) (Value.ref w_DAILY60) F_label_w_USER_DAILY rfl F_period_w_USER_DAILY rfl) (by decide) (by decide) E_w_USER_DAILY (g := (mkF m 24 #[.val (.int p0), .val (.int (5 : Int32)), .val (.ref w_USER_DAILY), .val (.int (0 : Int32)), .unset, .unset] [(.ref w_USER_DAILY)])) rfl (by rw [hml]; rfl) (lenOf own_pd1 rfl) rfl (by show 2 * 0 + _ ≤ _; exact Nat.le_of_eq rfl) (hb hby at_24) e99 (by decide) (by decide)
    refine own_go (T2 := T100) (g2 := (mkF m 27 #[.val (.int p0), .val (.int (5 : Int32)), .val (.ref w_USER_DAILY), .val (.int (0 : Int32)), .unset, .unset] [(.int (own_f80 w_USER_DAILY (Value.ref w_USER) (Value.ref w_DAILY60)))])) st100 ?_
    rw [show (own_f80 w_USER_DAILY (Value.ref w_USER) (Value.ref w_DAILY60)) = (0 : Int32) from by first | rfl | rw [own_f80, if_neg (show ¬ ((Value.ref w_USER) = Value.null) from (fun q => nomatch q))] | simp only [own_f80, if_neg (show ¬ ((Value.ref w_USER) = Value.null) from (fun q => nomatch q))]]
    refine own_go (T2 := T100) (g2 := (mkF m 29 #[.val (.int p0), .val (.int (5 : Int32)), .val (.ref w_USER_DAILY), .val (.int (0 : Int32)), .val (.int (0 : Int32)), .unset] [])) (fun t k => XS.istore X100.here hx rfl (hb hby at_27) rfl (l' := #[.val (.int p0), .val (.int (5 : Int32)), .val (.ref w_USER_DAILY), .val (.int (0 : Int32)), .val (.int (0 : Int32)), .unset]) rfl k) ?_
    refine own_go (T2 := T100) (g2 := (mkF m 31 #[.val (.int p0), .val (.int (5 : Int32)), .val (.ref w_USER_DAILY), .val (.int (0 : Int32)), .val (.int (0 : Int32)), .unset] [(.int (0 : Int32))])) (fun t k => XS.iload X100.here hx rfl (hb hby at_29) rfl  k) ?_
    refine own_go (T2 := T100) (g2 := (mkF m 41 #[.val (.int p0), .val (.int (5 : Int32)), .val (.ref w_USER_DAILY), .val (.int (0 : Int32)), .val (.int (0 : Int32)), .unset] [])) (fun t k => XS.ifYes X100.here hx rfl (pc0 := 31) (pc' := 41) rfl (hb hby at_31) rfl ((if0 _ _).trans (teq (show (0 : Int32) = (0 : Int32) from (by decide))).1) (by decide) (by decide) k) ?_
    refine own_go (T2 := T100) (g2 := (mkF m 42 #[.val (.int p0), .val (.int (5 : Int32)), .val (.ref w_USER_DAILY), .val (.int (0 : Int32)), .val (.int (0 : Int32)), .unset] [(.int (1 : Int32))])) (fun t k => XS.iconst X100.here hx rfl (hb hby at_41) k) ?_
    refine own_go (T2 := T100) (g2 := (mkF m 46 #[.val (.int p0), .val (.int (5 : Int32)), .val (.ref w_USER_DAILY), .val (.int (0 : Int32)), .val (.int (0 : Int32)), .unset] [(.int (1 : Int32))])) (fun t k => XS.goto X100.here hx rfl (pc0 := 42) (pc' := 46) rfl (hb hby at_42) (by decide) (by decide) k) ?_
    refine own_go (T2 := T100) (g2 := (mkF m 48 #[.val (.int p0), .val (.int (5 : Int32)), .val (.ref w_USER_DAILY), .val (.int (0 : Int32)), .val (.int (0 : Int32)), .val (.int (1 : Int32))] [])) (fun t k => XS.istore X100.here hx rfl (hb hby at_46) rfl (l' := #[.val (.int p0), .val (.int (5 : Int32)), .val (.ref w_USER_DAILY), .val (.int (0 : Int32)), .val (.int (0 : Int32)), .val (.int (1 : Int32))]) rfl k) ?_
    refine own_go (T2 := T100) (g2 := (mkF m 50 #[.val (.int p0), .val (.int (5 : Int32)), .val (.ref w_USER_DAILY), .val (.int (0 : Int32)), .val (.int (0 : Int32)), .val (.int (1 : Int32))] [(.int (0 : Int32))])) (fun t k => XS.iload X100.here hx rfl (hb hby at_48) rfl  k) ?_
    refine own_go (T2 := T100) (g2 := (mkF m 51 #[.val (.int p0), .val (.int (5 : Int32)), .val (.ref w_USER_DAILY), .val (.int (0 : Int32)), .val (.int (0 : Int32)), .val (.int (1 : Int32))] [(.int (0 : Int32)), (.int (0 : Int32))])) (fun t k => XS.iloadN X100.here hx rfl (hb hby at_50) rfl  k) ?_
    refine own_go (T2 := T100) (g2 := (mkF m 54 #[.val (.int p0), .val (.int (5 : Int32)), .val (.ref w_USER_DAILY), .val (.int (0 : Int32)), .val (.int (0 : Int32)), .val (.int (1 : Int32))] [])) (fun t k => XS.icmpNo X100.here hx rfl (hb hby at_51) rfl (teq (show (0 : Int32) = (0 : Int32) from (by decide))).2 k) ?_
    refine own_go (T2 := T100) (g2 := (mkF m 56 #[.val (.int p0), .val (.int (5 : Int32)), .val (.ref w_USER_DAILY), .val (.int (0 : Int32)), .val (.int (0 : Int32)), .val (.int (1 : Int32))] [(.int (1 : Int32))])) (fun t k => XS.iload X100.here hx rfl (hb hby at_54) rfl  k) ?_
    refine own_go (T2 := T100) (g2 := (mkF m 59 #[.val (.int p0), .val (.int (5 : Int32)), .val (.ref w_USER_DAILY), .val (.int (0 : Int32)), .val (.int (0 : Int32)), .val (.int (1 : Int32))] [])) (fun t k => XS.ifNo X100.here hx rfl (hb hby at_56) rfl ((if0 _ _).trans (feq (show ¬ ((1 : Int32) = (0 : Int32)) from (by decide))).1) k) ?_
    refine own_go (T2 := T100) (g2 := (mkF m 60 #[.val (.int p0), .val (.int (5 : Int32)), .val (.ref w_USER_DAILY), .val (.int (0 : Int32)), .val (.int (0 : Int32)), .val (.int (1 : Int32))] [(.int (1 : Int32))])) (fun t k => XS.iconst X100.here hx rfl (hb hby at_59) k) ?_
    refine own_go (T2 := T100) (g2 := (mkF m 64 #[.val (.int p0), .val (.int (5 : Int32)), .val (.ref w_USER_DAILY), .val (.int (0 : Int32)), .val (.int (0 : Int32)), .val (.int (1 : Int32))] [(.int (1 : Int32))])) (fun t k => XS.goto X100.here hx rfl (pc0 := 60) (pc' := 64) rfl (hb hby at_60) (by decide) (by decide) k) ?_
    exact own_endN X100 hx Bd.notSynchronized (t := .boolean) Bd.returns (by simp) (hb hby at_64) (z' := (1 : Int32)) rfl (by decide) (by decide) ⟨rfl, Fr.nil _⟩
  · refine own_go (T2 := s₁) (g2 := (mkF m 8 #[.val (.int p0), .val (.int (6 : Int32)), .unset, .unset, .unset, .unset] [])) (fun t k => XS.istoreN X0.here hx rfl (hb hby at_7) rfl (l' := #[.val (.int p0), .val (.int (6 : Int32)), .unset, .unset, .unset, .unset]) rfl k) ?_
    refine own_go (T2 := s₁) (g2 := (mkF m 9 #[.val (.int p0), .val (.int (6 : Int32)), .unset, .unset, .unset, .unset] [(.int (6 : Int32))])) (fun t k => XS.iloadN X0.here hx rfl (hb hby at_8) rfl  k) ?_
    obtain ⟨_, T101, _, X101, ⟨rfl, rfl, e101⟩, st101⟩ := own_static X0 hx hZ (y := (⟨"com/example/pactolus/pactolus/gate/ScopePerCallPinLaw", "pick", "(I)Lcom/example/pactolus/pactolus/gate/Scope;"⟩ : MethodName)) hown (own_wd hw 1 rfl) (own_wd hw 2 rfl) (own_wd hw 3 rfl) (own_wd hw 4 rfl) (by decide) 0 (argsL := [(.int (6 : Int32))]) (rest := []) (own_rm63 l Z a0 hw h0 (6 : Int32) w_CALL w_DAILY w_MONTHLY w_PROVIDER_DAILY w_PROVIDER_MONTHLY w_USER_DAILY w_USER_MONTHLY w_RUN S_w_CALL S_w_DAILY S_w_MONTHLY S_w_PROVIDER_DAILY S_w_PROVIDER_MONTHLY S_w_USER_DAILY S_w_USER_MONTHLY S_w_RUN) (by decide) (by decide) (g := (mkF m 9 #[.val (.int p0), .val (.int (6 : Int32)), .unset, .unset, .unset, .unset] [(.int (6 : Int32))])) rfl (by rw [hml]; rfl) (lenOf own_pd0 rfl) rfl (by show 2 * 0 + _ ≤ _; exact Nat.le_of_eq rfl) (hb hby at_9) e0 (by decide) (by decide)
    refine own_go (T2 := T101) (g2 := (mkF m 12 #[.val (.int p0), .val (.int (6 : Int32)), .unset, .unset, .unset, .unset] [(.ref (own_f63 (6 : Int32) w_CALL w_DAILY w_MONTHLY w_PROVIDER_DAILY w_PROVIDER_MONTHLY w_USER_DAILY w_USER_MONTHLY w_RUN))])) st101 ?_
    rw [show (own_f63 (6 : Int32) w_CALL w_DAILY w_MONTHLY w_PROVIDER_DAILY w_PROVIDER_MONTHLY w_USER_DAILY w_USER_MONTHLY w_RUN) = w_USER_MONTHLY from by first | rfl | rw [own_f63, if_neg (show ¬ ((6 : Int32) = (0 : Int32)) from (by decide)), if_neg (show ¬ ((6 : Int32) = (1 : Int32)) from (by decide)), if_neg (show ¬ ((6 : Int32) = (2 : Int32)) from (by decide)), if_neg (show ¬ ((6 : Int32) = (3 : Int32)) from (by decide)), if_neg (show ¬ ((6 : Int32) = (4 : Int32)) from (by decide)), if_neg (show ¬ ((6 : Int32) = (5 : Int32)) from (by decide)), if_pos (show (6 : Int32) = (6 : Int32) from (by decide))] | simp only [own_f63, if_neg (show ¬ ((6 : Int32) = (0 : Int32)) from (by decide)), if_neg (show ¬ ((6 : Int32) = (1 : Int32)) from (by decide)), if_neg (show ¬ ((6 : Int32) = (2 : Int32)) from (by decide)), if_neg (show ¬ ((6 : Int32) = (3 : Int32)) from (by decide)), if_neg (show ¬ ((6 : Int32) = (4 : Int32)) from (by decide)), if_neg (show ¬ ((6 : Int32) = (5 : Int32)) from (by decide)), if_pos (show (6 : Int32) = (6 : Int32) from (by decide))]]
    refine own_go (T2 := T101) (g2 := (mkF m 13 #[.val (.int p0), .val (.int (6 : Int32)), .val (.ref w_USER_MONTHLY), .unset, .unset, .unset] [])) (fun t k => XS.astoreN X101.here hx rfl (hb hby at_12) rfl rfl (l' := #[.val (.int p0), .val (.int (6 : Int32)), .val (.ref w_USER_MONTHLY), .unset, .unset, .unset]) rfl k) ?_
    refine own_go (T2 := T101) (g2 := (mkF m 14 #[.val (.int p0), .val (.int (6 : Int32)), .val (.ref w_USER_MONTHLY), .unset, .unset, .unset] [(.int (6 : Int32))])) (fun t k => XS.iloadN X101.here hx rfl (hb hby at_13) rfl  k) ?_
    refine own_go (T2 := T101) (g2 := (mkF m 21 #[.val (.int p0), .val (.int (6 : Int32)), .val (.ref w_USER_MONTHLY), .unset, .unset, .unset] [])) (fun t k => XS.ifYes X101.here hx rfl (pc0 := 14) (pc' := 21) rfl (hb hby at_14) rfl ((if0 _ _).trans (feq (show ¬ ((6 : Int32) = (0 : Int32)) from (by decide))).2) (by decide) (by decide) k) ?_
    refine own_go (T2 := T101) (g2 := (mkF m 22 #[.val (.int p0), .val (.int (6 : Int32)), .val (.ref w_USER_MONTHLY), .unset, .unset, .unset] [(.int (0 : Int32))])) (fun t k => XS.iconst X101.here hx rfl (hb hby at_21) k) ?_
    refine own_go (T2 := T101) (g2 := (mkF m 23 #[.val (.int p0), .val (.int (6 : Int32)), .val (.ref w_USER_MONTHLY), .val (.int (0 : Int32)), .unset, .unset] [])) (fun t k => XS.istoreN X101.here hx rfl (hb hby at_22) rfl (l' := #[.val (.int p0), .val (.int (6 : Int32)), .val (.ref w_USER_MONTHLY), .val (.int (0 : Int32)), .unset, .unset]) rfl k) ?_
    refine own_go (T2 := T101) (g2 := (mkF m 24 #[.val (.int p0), .val (.int (6 : Int32)), .val (.ref w_USER_MONTHLY), .val (.int (0 : Int32)), .unset, .unset] [(.ref w_USER_MONTHLY)])) (fun t k => XS.aloadN X101.here hx rfl (hb hby at_23) rfl rfl k) ?_
    obtain ⟨_, T102, _, X102, ⟨rfl, rfl, e102⟩, st102⟩ := own_virtual X101 hx hZ (y := (⟨"com/example/pactolus/pactolus/gate/Scope", "perCall", "()Z"⟩ : MethodName)) (z := (⟨"com/example/pactolus/pactolus/gate/Scope", "perCall", "()Z"⟩ : MethodName)) (C := "com/example/pactolus/pactolus/gate/Scope") hown (own_wd hw 8 rfl) (own_wd hw 9 rfl) (notFace_of_selects (args := #[]) (mvT hZ (own_wd hw 11 rfl))) (own_wd hw 11 rfl) (own_wd hw 10 rfl) (own_wd hw 6 rfl) (own_wd hw 12 rfl) (by decide) 0 (argsL := []) (rest := []) (own_rm80 l Z a0 hw h0 w_USER_MONTHLY (Value.ref w_USER) (Value.ref w_MONTHLY59) F_label_w_USER_MONTHLY rfl F_period_w_USER_MONTHLY rfl) (by decide) (by decide) E_w_USER_MONTHLY (g := (mkF m 24 #[.val (.int p0), .val (.int (6 : Int32)), .val (.ref w_USER_MONTHLY), .val (.int (0 : Int32)), .unset, .unset] [(.ref w_USER_MONTHLY)])) rfl (by rw [hml]; rfl) (lenOf own_pd1 rfl) rfl (by show 2 * 0 + _ ≤ _; exact Nat.le_of_eq rfl) (hb hby at_24) e101 (by decide) (by decide)
    refine own_go (T2 := T102) (g2 := (mkF m 27 #[.val (.int p0), .val (.int (6 : Int32)), .val (.ref w_USER_MONTHLY), .val (.int (0 : Int32)), .unset, .unset] [(.int (own_f80 w_USER_MONTHLY (Value.ref w_USER) (Value.ref w_MONTHLY59)))])) st102 ?_
    rw [show (own_f80 w_USER_MONTHLY (Value.ref w_USER) (Value.ref w_MONTHLY59)) = (0 : Int32) from by first | rfl | rw [own_f80, if_neg (show ¬ ((Value.ref w_USER) = Value.null) from (fun q => nomatch q))] | simp only [own_f80, if_neg (show ¬ ((Value.ref w_USER) = Value.null) from (fun q => nomatch q))]]
    refine own_go (T2 := T102) (g2 := (mkF m 29 #[.val (.int p0), .val (.int (6 : Int32)), .val (.ref w_USER_MONTHLY), .val (.int (0 : Int32)), .val (.int (0 : Int32)), .unset] [])) (fun t k => XS.istore X102.here hx rfl (hb hby at_27) rfl (l' := #[.val (.int p0), .val (.int (6 : Int32)), .val (.ref w_USER_MONTHLY), .val (.int (0 : Int32)), .val (.int (0 : Int32)), .unset]) rfl k) ?_
    refine own_go (T2 := T102) (g2 := (mkF m 31 #[.val (.int p0), .val (.int (6 : Int32)), .val (.ref w_USER_MONTHLY), .val (.int (0 : Int32)), .val (.int (0 : Int32)), .unset] [(.int (0 : Int32))])) (fun t k => XS.iload X102.here hx rfl (hb hby at_29) rfl  k) ?_
    refine own_go (T2 := T102) (g2 := (mkF m 41 #[.val (.int p0), .val (.int (6 : Int32)), .val (.ref w_USER_MONTHLY), .val (.int (0 : Int32)), .val (.int (0 : Int32)), .unset] [])) (fun t k => XS.ifYes X102.here hx rfl (pc0 := 31) (pc' := 41) rfl (hb hby at_31) rfl ((if0 _ _).trans (teq (show (0 : Int32) = (0 : Int32) from (by decide))).1) (by decide) (by decide) k) ?_
    refine own_go (T2 := T102) (g2 := (mkF m 42 #[.val (.int p0), .val (.int (6 : Int32)), .val (.ref w_USER_MONTHLY), .val (.int (0 : Int32)), .val (.int (0 : Int32)), .unset] [(.int (1 : Int32))])) (fun t k => XS.iconst X102.here hx rfl (hb hby at_41) k) ?_
    refine own_go (T2 := T102) (g2 := (mkF m 46 #[.val (.int p0), .val (.int (6 : Int32)), .val (.ref w_USER_MONTHLY), .val (.int (0 : Int32)), .val (.int (0 : Int32)), .unset] [(.int (1 : Int32))])) (fun t k => XS.goto X102.here hx rfl (pc0 := 42) (pc' := 46) rfl (hb hby at_42) (by decide) (by decide) k) ?_
    refine own_go (T2 := T102) (g2 := (mkF m 48 #[.val (.int p0), .val (.int (6 : Int32)), .val (.ref w_USER_MONTHLY), .val (.int (0 : Int32)), .val (.int (0 : Int32)), .val (.int (1 : Int32))] [])) (fun t k => XS.istore X102.here hx rfl (hb hby at_46) rfl (l' := #[.val (.int p0), .val (.int (6 : Int32)), .val (.ref w_USER_MONTHLY), .val (.int (0 : Int32)), .val (.int (0 : Int32)), .val (.int (1 : Int32))]) rfl k) ?_
    refine own_go (T2 := T102) (g2 := (mkF m 50 #[.val (.int p0), .val (.int (6 : Int32)), .val (.ref w_USER_MONTHLY), .val (.int (0 : Int32)), .val (.int (0 : Int32)), .val (.int (1 : Int32))] [(.int (0 : Int32))])) (fun t k => XS.iload X102.here hx rfl (hb hby at_48) rfl  k) ?_
    refine own_go (T2 := T102) (g2 := (mkF m 51 #[.val (.int p0), .val (.int (6 : Int32)), .val (.ref w_USER_MONTHLY), .val (.int (0 : Int32)), .val (.int (0 : Int32)), .val (.int (1 : Int32))] [(.int (0 : Int32)), (.int (0 : Int32))])) (fun t k => XS.iloadN X102.here hx rfl (hb hby at_50) rfl  k) ?_
    refine own_go (T2 := T102) (g2 := (mkF m 54 #[.val (.int p0), .val (.int (6 : Int32)), .val (.ref w_USER_MONTHLY), .val (.int (0 : Int32)), .val (.int (0 : Int32)), .val (.int (1 : Int32))] [])) (fun t k => XS.icmpNo X102.here hx rfl (hb hby at_51) rfl (teq (show (0 : Int32) = (0 : Int32) from (by decide))).2 k) ?_
    refine own_go (T2 := T102) (g2 := (mkF m 56 #[.val (.int p0), .val (.int (6 : Int32)), .val (.ref w_USER_MONTHLY), .val (.int (0 : Int32)), .val (.int (0 : Int32)), .val (.int (1 : Int32))] [(.int (1 : Int32))])) (fun t k => XS.iload X102.here hx rfl (hb hby at_54) rfl  k) ?_
    refine own_go (T2 := T102) (g2 := (mkF m 59 #[.val (.int p0), .val (.int (6 : Int32)), .val (.ref w_USER_MONTHLY), .val (.int (0 : Int32)), .val (.int (0 : Int32)), .val (.int (1 : Int32))] [])) (fun t k => XS.ifNo X102.here hx rfl (hb hby at_56) rfl ((if0 _ _).trans (feq (show ¬ ((1 : Int32) = (0 : Int32)) from (by decide))).1) k) ?_
    refine own_go (T2 := T102) (g2 := (mkF m 60 #[.val (.int p0), .val (.int (6 : Int32)), .val (.ref w_USER_MONTHLY), .val (.int (0 : Int32)), .val (.int (0 : Int32)), .val (.int (1 : Int32))] [(.int (1 : Int32))])) (fun t k => XS.iconst X102.here hx rfl (hb hby at_59) k) ?_
    refine own_go (T2 := T102) (g2 := (mkF m 64 #[.val (.int p0), .val (.int (6 : Int32)), .val (.ref w_USER_MONTHLY), .val (.int (0 : Int32)), .val (.int (0 : Int32)), .val (.int (1 : Int32))] [(.int (1 : Int32))])) (fun t k => XS.goto X102.here hx rfl (pc0 := 60) (pc' := 64) rfl (hb hby at_60) (by decide) (by decide) k) ?_
    exact own_endN X102 hx Bd.notSynchronized (t := .boolean) Bd.returns (by simp) (hb hby at_64) (z' := (1 : Int32)) rfl (by decide) (by decide) ⟨rfl, Fr.nil _⟩
  · refine own_go (T2 := s₁) (g2 := (mkF m 8 #[.val (.int p0), .val (.int (7 : Int32)), .unset, .unset, .unset, .unset] [])) (fun t k => XS.istoreN X0.here hx rfl (hb hby at_7) rfl (l' := #[.val (.int p0), .val (.int (7 : Int32)), .unset, .unset, .unset, .unset]) rfl k) ?_
    refine own_go (T2 := s₁) (g2 := (mkF m 9 #[.val (.int p0), .val (.int (7 : Int32)), .unset, .unset, .unset, .unset] [(.int (7 : Int32))])) (fun t k => XS.iloadN X0.here hx rfl (hb hby at_8) rfl  k) ?_
    obtain ⟨_, T103, _, X103, ⟨rfl, rfl, e103⟩, st103⟩ := own_static X0 hx hZ (y := (⟨"com/example/pactolus/pactolus/gate/ScopePerCallPinLaw", "pick", "(I)Lcom/example/pactolus/pactolus/gate/Scope;"⟩ : MethodName)) hown (own_wd hw 1 rfl) (own_wd hw 2 rfl) (own_wd hw 3 rfl) (own_wd hw 4 rfl) (by decide) 0 (argsL := [(.int (7 : Int32))]) (rest := []) (own_rm63 l Z a0 hw h0 (7 : Int32) w_CALL w_DAILY w_MONTHLY w_PROVIDER_DAILY w_PROVIDER_MONTHLY w_USER_DAILY w_USER_MONTHLY w_RUN S_w_CALL S_w_DAILY S_w_MONTHLY S_w_PROVIDER_DAILY S_w_PROVIDER_MONTHLY S_w_USER_DAILY S_w_USER_MONTHLY S_w_RUN) (by decide) (by decide) (g := (mkF m 9 #[.val (.int p0), .val (.int (7 : Int32)), .unset, .unset, .unset, .unset] [(.int (7 : Int32))])) rfl (by rw [hml]; rfl) (lenOf own_pd0 rfl) rfl (by show 2 * 0 + _ ≤ _; exact Nat.le_of_eq rfl) (hb hby at_9) e0 (by decide) (by decide)
    refine own_go (T2 := T103) (g2 := (mkF m 12 #[.val (.int p0), .val (.int (7 : Int32)), .unset, .unset, .unset, .unset] [(.ref (own_f63 (7 : Int32) w_CALL w_DAILY w_MONTHLY w_PROVIDER_DAILY w_PROVIDER_MONTHLY w_USER_DAILY w_USER_MONTHLY w_RUN))])) st103 ?_
    rw [show (own_f63 (7 : Int32) w_CALL w_DAILY w_MONTHLY w_PROVIDER_DAILY w_PROVIDER_MONTHLY w_USER_DAILY w_USER_MONTHLY w_RUN) = w_RUN from by first | rfl | rw [own_f63, if_neg (show ¬ ((7 : Int32) = (0 : Int32)) from (by decide)), if_neg (show ¬ ((7 : Int32) = (1 : Int32)) from (by decide)), if_neg (show ¬ ((7 : Int32) = (2 : Int32)) from (by decide)), if_neg (show ¬ ((7 : Int32) = (3 : Int32)) from (by decide)), if_neg (show ¬ ((7 : Int32) = (4 : Int32)) from (by decide)), if_neg (show ¬ ((7 : Int32) = (5 : Int32)) from (by decide)), if_neg (show ¬ ((7 : Int32) = (6 : Int32)) from (by decide))] | simp only [own_f63, if_neg (show ¬ ((7 : Int32) = (0 : Int32)) from (by decide)), if_neg (show ¬ ((7 : Int32) = (1 : Int32)) from (by decide)), if_neg (show ¬ ((7 : Int32) = (2 : Int32)) from (by decide)), if_neg (show ¬ ((7 : Int32) = (3 : Int32)) from (by decide)), if_neg (show ¬ ((7 : Int32) = (4 : Int32)) from (by decide)), if_neg (show ¬ ((7 : Int32) = (5 : Int32)) from (by decide)), if_neg (show ¬ ((7 : Int32) = (6 : Int32)) from (by decide))]]
    refine own_go (T2 := T103) (g2 := (mkF m 13 #[.val (.int p0), .val (.int (7 : Int32)), .val (.ref w_RUN), .unset, .unset, .unset] [])) (fun t k => XS.astoreN X103.here hx rfl (hb hby at_12) rfl rfl (l' := #[.val (.int p0), .val (.int (7 : Int32)), .val (.ref w_RUN), .unset, .unset, .unset]) rfl k) ?_
    refine own_go (T2 := T103) (g2 := (mkF m 14 #[.val (.int p0), .val (.int (7 : Int32)), .val (.ref w_RUN), .unset, .unset, .unset] [(.int (7 : Int32))])) (fun t k => XS.iloadN X103.here hx rfl (hb hby at_13) rfl  k) ?_
    refine own_go (T2 := T103) (g2 := (mkF m 21 #[.val (.int p0), .val (.int (7 : Int32)), .val (.ref w_RUN), .unset, .unset, .unset] [])) (fun t k => XS.ifYes X103.here hx rfl (pc0 := 14) (pc' := 21) rfl (hb hby at_14) rfl ((if0 _ _).trans (feq (show ¬ ((7 : Int32) = (0 : Int32)) from (by decide))).2) (by decide) (by decide) k) ?_
    refine own_go (T2 := T103) (g2 := (mkF m 22 #[.val (.int p0), .val (.int (7 : Int32)), .val (.ref w_RUN), .unset, .unset, .unset] [(.int (0 : Int32))])) (fun t k => XS.iconst X103.here hx rfl (hb hby at_21) k) ?_
    refine own_go (T2 := T103) (g2 := (mkF m 23 #[.val (.int p0), .val (.int (7 : Int32)), .val (.ref w_RUN), .val (.int (0 : Int32)), .unset, .unset] [])) (fun t k => XS.istoreN X103.here hx rfl (hb hby at_22) rfl (l' := #[.val (.int p0), .val (.int (7 : Int32)), .val (.ref w_RUN), .val (.int (0 : Int32)), .unset, .unset]) rfl k) ?_
    refine own_go (T2 := T103) (g2 := (mkF m 24 #[.val (.int p0), .val (.int (7 : Int32)), .val (.ref w_RUN), .val (.int (0 : Int32)), .unset, .unset] [(.ref w_RUN)])) (fun t k => XS.aloadN X103.here hx rfl (hb hby at_23) rfl rfl k) ?_
    obtain ⟨_, T104, _, X104, ⟨rfl, rfl, e104⟩, st104⟩ := own_virtual X103 hx hZ (y := (⟨"com/example/pactolus/pactolus/gate/Scope", "perCall", "()Z"⟩ : MethodName)) (z := (⟨"com/example/pactolus/pactolus/gate/Scope", "perCall", "()Z"⟩ : MethodName)) (C := "com/example/pactolus/pactolus/gate/Scope") hown (own_wd hw 8 rfl) (own_wd hw 9 rfl) (notFace_of_selects (args := #[]) (mvT hZ (own_wd hw 11 rfl))) (own_wd hw 11 rfl) (own_wd hw 10 rfl) (own_wd hw 6 rfl) (own_wd hw 12 rfl) (by decide) 0 (argsL := []) (rest := []) (own_rm80 l Z a0 hw h0 w_RUN (Value.ref w_RUN58) Value.null F_label_w_RUN rfl F_period_w_RUN rfl) (by decide) (by decide) E_w_RUN (g := (mkF m 24 #[.val (.int p0), .val (.int (7 : Int32)), .val (.ref w_RUN), .val (.int (0 : Int32)), .unset, .unset] [(.ref w_RUN)])) rfl (by rw [hml]; rfl) (lenOf own_pd1 rfl) rfl (by show 2 * 0 + _ ≤ _; exact Nat.le_of_eq rfl) (hb hby at_24) e103 (by decide) (by decide)
    refine own_go (T2 := T104) (g2 := (mkF m 27 #[.val (.int p0), .val (.int (7 : Int32)), .val (.ref w_RUN), .val (.int (0 : Int32)), .unset, .unset] [(.int (own_f80 w_RUN (Value.ref w_RUN58) Value.null))])) st104 ?_
    rw [show (own_f80 w_RUN (Value.ref w_RUN58) Value.null) = (0 : Int32) from by first | rfl | rw [own_f80, if_neg (show ¬ ((Value.ref w_RUN58) = Value.null) from (fun q => nomatch q))] | simp only [own_f80, if_neg (show ¬ ((Value.ref w_RUN58) = Value.null) from (fun q => nomatch q))]]
    refine own_go (T2 := T104) (g2 := (mkF m 29 #[.val (.int p0), .val (.int (7 : Int32)), .val (.ref w_RUN), .val (.int (0 : Int32)), .val (.int (0 : Int32)), .unset] [])) (fun t k => XS.istore X104.here hx rfl (hb hby at_27) rfl (l' := #[.val (.int p0), .val (.int (7 : Int32)), .val (.ref w_RUN), .val (.int (0 : Int32)), .val (.int (0 : Int32)), .unset]) rfl k) ?_
    refine own_go (T2 := T104) (g2 := (mkF m 31 #[.val (.int p0), .val (.int (7 : Int32)), .val (.ref w_RUN), .val (.int (0 : Int32)), .val (.int (0 : Int32)), .unset] [(.int (0 : Int32))])) (fun t k => XS.iload X104.here hx rfl (hb hby at_29) rfl  k) ?_
    refine own_go (T2 := T104) (g2 := (mkF m 41 #[.val (.int p0), .val (.int (7 : Int32)), .val (.ref w_RUN), .val (.int (0 : Int32)), .val (.int (0 : Int32)), .unset] [])) (fun t k => XS.ifYes X104.here hx rfl (pc0 := 31) (pc' := 41) rfl (hb hby at_31) rfl ((if0 _ _).trans (teq (show (0 : Int32) = (0 : Int32) from (by decide))).1) (by decide) (by decide) k) ?_
    refine own_go (T2 := T104) (g2 := (mkF m 42 #[.val (.int p0), .val (.int (7 : Int32)), .val (.ref w_RUN), .val (.int (0 : Int32)), .val (.int (0 : Int32)), .unset] [(.int (1 : Int32))])) (fun t k => XS.iconst X104.here hx rfl (hb hby at_41) k) ?_
    refine own_go (T2 := T104) (g2 := (mkF m 46 #[.val (.int p0), .val (.int (7 : Int32)), .val (.ref w_RUN), .val (.int (0 : Int32)), .val (.int (0 : Int32)), .unset] [(.int (1 : Int32))])) (fun t k => XS.goto X104.here hx rfl (pc0 := 42) (pc' := 46) rfl (hb hby at_42) (by decide) (by decide) k) ?_
    refine own_go (T2 := T104) (g2 := (mkF m 48 #[.val (.int p0), .val (.int (7 : Int32)), .val (.ref w_RUN), .val (.int (0 : Int32)), .val (.int (0 : Int32)), .val (.int (1 : Int32))] [])) (fun t k => XS.istore X104.here hx rfl (hb hby at_46) rfl (l' := #[.val (.int p0), .val (.int (7 : Int32)), .val (.ref w_RUN), .val (.int (0 : Int32)), .val (.int (0 : Int32)), .val (.int (1 : Int32))]) rfl k) ?_
    refine own_go (T2 := T104) (g2 := (mkF m 50 #[.val (.int p0), .val (.int (7 : Int32)), .val (.ref w_RUN), .val (.int (0 : Int32)), .val (.int (0 : Int32)), .val (.int (1 : Int32))] [(.int (0 : Int32))])) (fun t k => XS.iload X104.here hx rfl (hb hby at_48) rfl  k) ?_
    refine own_go (T2 := T104) (g2 := (mkF m 51 #[.val (.int p0), .val (.int (7 : Int32)), .val (.ref w_RUN), .val (.int (0 : Int32)), .val (.int (0 : Int32)), .val (.int (1 : Int32))] [(.int (0 : Int32)), (.int (0 : Int32))])) (fun t k => XS.iloadN X104.here hx rfl (hb hby at_50) rfl  k) ?_
    refine own_go (T2 := T104) (g2 := (mkF m 54 #[.val (.int p0), .val (.int (7 : Int32)), .val (.ref w_RUN), .val (.int (0 : Int32)), .val (.int (0 : Int32)), .val (.int (1 : Int32))] [])) (fun t k => XS.icmpNo X104.here hx rfl (hb hby at_51) rfl (teq (show (0 : Int32) = (0 : Int32) from (by decide))).2 k) ?_
    refine own_go (T2 := T104) (g2 := (mkF m 56 #[.val (.int p0), .val (.int (7 : Int32)), .val (.ref w_RUN), .val (.int (0 : Int32)), .val (.int (0 : Int32)), .val (.int (1 : Int32))] [(.int (1 : Int32))])) (fun t k => XS.iload X104.here hx rfl (hb hby at_54) rfl  k) ?_
    refine own_go (T2 := T104) (g2 := (mkF m 59 #[.val (.int p0), .val (.int (7 : Int32)), .val (.ref w_RUN), .val (.int (0 : Int32)), .val (.int (0 : Int32)), .val (.int (1 : Int32))] [])) (fun t k => XS.ifNo X104.here hx rfl (hb hby at_56) rfl ((if0 _ _).trans (feq (show ¬ ((1 : Int32) = (0 : Int32)) from (by decide))).1) k) ?_
    refine own_go (T2 := T104) (g2 := (mkF m 60 #[.val (.int p0), .val (.int (7 : Int32)), .val (.ref w_RUN), .val (.int (0 : Int32)), .val (.int (0 : Int32)), .val (.int (1 : Int32))] [(.int (1 : Int32))])) (fun t k => XS.iconst X104.here hx rfl (hb hby at_59) k) ?_
    refine own_go (T2 := T104) (g2 := (mkF m 64 #[.val (.int p0), .val (.int (7 : Int32)), .val (.ref w_RUN), .val (.int (0 : Int32)), .val (.int (0 : Int32)), .val (.int (1 : Int32))] [(.int (1 : Int32))])) (fun t k => XS.goto X104.here hx rfl (pc0 := 60) (pc' := 64) rfl (hb hby at_60) (by decide) (by decide) k) ?_
    exact own_endN X104 hx Bd.notSynchronized (t := .boolean) Bd.returns (by simp) (hb hby at_64) (z' := (1 : Int32)) rfl (by decide) (by decide) ⟨rfl, Fr.nil _⟩
set_option maxRecDepth 65536 in
set_option maxHeartbeats 40000000 in
theorem comes_1 {Post : Tables → Env → Array Value → State → Outcome → State → Prop} (hpost : ∀ tb e args s v u, (limb_1_1.after args s (.returned v) u = true ∧ limb_1_2.after args s (.returned v) u = true ∧ True) → FrameEnd s (.returned v) u (Jvm.fieldLocs frame_1_writes args s ++ Jvm.arrayLocs frame_1_arrays args s ++ Jvm.staticLocs frame_1_statics s) 0 0 → Post tb e args s (.returned v) u) :
    ArmFor flags0 classFile x code maxLocals ret World_1 tables_1 room_1 Calls_1 rest_1 Pre_1 Post := by
  intro l hfl _ _ p e ha hc hk s m args below hf hA hF happ hP
  obtain ⟨hcalls, hrest, hpre⟩ := hP
  obtain ⟨-, -, -, hnamed, -, -, -, hat⟩ := (Spec.applies_iff hf).mp happ
  obtain ⟨hg, hn⟩ := and_e (Cond.before_iff.mp (show (Jvm.Cond.and given_1 narrow_1).before args s = true from hpre))
  obtain ⟨g105, g106⟩ := and_e hg
  obtain ⟨w0, rfl⟩ : ∃ w0 : Value, args = #[w0] := by
    have hs : args.size = 1 := by simpa [Cond.value, given_1] using g105
    obtain ⟨L⟩ := args
    match L, hs with
    | [w0], _ => exact ⟨w0, rfl⟩
  have hw := fun d (hd : d ∈ tables_1) => atoms_spec (ws := Jvm.Cond.code x code maxLocals ret :: tables_1) hat d (List.mem_cons_of_mem _ hd)
  have hfit : Fit s := fun {y c} hc i hi => by
    obtain ⟨ha, rfl⟩ := Array.getElem?_eq_some_iff.mp hc
    have q := List.all_eq_true.mp ((Array.all_eq_true_iff_forall_mem.mp hF) _ (Array.getElem_mem ha)) i (List.mem_range.mpr hi)
    simpa [Array.getElem?_eq_getElem hi] using q
  obtain ⟨i0, ei0⟩ := is_v g106
  obtain rfl : w0 = (.int i0) := Option.some.inj ei0
  obtain ⟨n2, n3⟩ := and_e hn
  obtain ⟨n4, n5⟩ := and_e n3
  obtain ⟨n6, n7⟩ := and_e n5
  obtain ⟨n8, n9⟩ := and_e n7
  obtain ⟨n10, n11⟩ := and_e n9
  obtain ⟨n12, n13⟩ := and_e n11
  obtain ⟨n14, n15⟩ := and_e n13
  obtain ⟨n16, n17⟩ := and_e n15
  obtain ⟨n18, n19⟩ := and_e n17
  obtain ⟨n20, n21⟩ := and_e n19
  obtain ⟨n22, n23⟩ := and_e n21
  obtain ⟨n24, n25⟩ := and_e n23
  obtain ⟨n26, n27⟩ := and_e n25
  obtain ⟨n28, n29⟩ := and_e n27
  obtain ⟨n30, n31⟩ := and_e n29
  obtain ⟨n32, n33⟩ := and_e n31
  obtain ⟨n34, n35⟩ := and_e n33
  obtain ⟨n36, n37⟩ := and_e n35
  obtain ⟨n38, n39⟩ := and_e n37
  obtain ⟨n40, n41⟩ := and_e n39
  obtain ⟨n42, n43⟩ := and_e n41
  obtain ⟨n44, n45⟩ := and_e n43
  obtain ⟨n46, n47⟩ := and_e n45
  obtain ⟨n48, n49⟩ := and_e n47
  obtain ⟨n50, n51⟩ := and_e n49
  obtain ⟨n52, n53⟩ := and_e n51
  obtain ⟨n54, n55⟩ := and_e n53
  obtain ⟨n56, n57⟩ := and_e n55
  obtain ⟨w_CALL, ev_w_CALL⟩ := exa_v n2
  obtain ⟨w_PROVIDER_DAILY, ev_w_PROVIDER_DAILY⟩ := exa_v n8
  obtain ⟨w_PROVIDER, ev_w_PROVIDER⟩ := exa_v n10
  obtain ⟨w_USER_MONTHLY, ev_w_USER_MONTHLY⟩ := exa_v n14
  obtain ⟨w_USER, ev_w_USER⟩ := exa_v n16
  obtain ⟨w_RUN, ev_w_RUN⟩ := exa_v n20
  obtain ⟨w_RUN58, ev_w_RUN58⟩ := exa_v n22
  obtain ⟨w_MONTHLY, ev_w_MONTHLY⟩ := exa_v n26
  obtain ⟨w_MONTHLY59, ev_w_MONTHLY59⟩ := exa_v n30
  obtain ⟨w_DAILY, ev_w_DAILY⟩ := exa_v n34
  obtain ⟨w_DAILY60, ev_w_DAILY60⟩ := exa_v n38
  obtain ⟨w_PROVIDER_MONTHLY, ev_w_PROVIDER_MONTHLY⟩ := exa_v n42
  obtain ⟨w_USER_DAILY, ev_w_USER_DAILY⟩ := exa_v n46
  obtain ⟨n, o, h1, h2, h3, _, L, rfl, ⟨rfl, N⟩, hq⟩ := own_rm0 l s _ hw tables_1 s.heap s.heap.size (Nat.le_refl _) i0 w_CALL w_PROVIDER_DAILY w_PROVIDER w_USER_MONTHLY w_USER w_RUN w_RUN58 w_MONTHLY w_MONTHLY59 w_DAILY w_DAILY60 w_PROVIDER_MONTHLY w_USER_DAILY (Sta.start ev_w_CALL (Or.inr ⟨(own_wd hw 6 rfl), (own_wd hw 7 rfl)⟩))
    (Exa.start ev_w_CALL n2)
    (Sta.start ev_w_PROVIDER_DAILY (Or.inr ⟨(own_wd hw 6 rfl), (own_wd hw 23 rfl)⟩))
    (Exa.start ev_w_PROVIDER_DAILY n8)
    (Sta.start ev_w_PROVIDER (Or.inr ⟨(own_wd hw 24 rfl), (own_wd hw 25 rfl)⟩))
    (Exa.start ev_w_PROVIDER n10)
    (Sta.start ev_w_USER_MONTHLY (Or.inr ⟨(own_wd hw 6 rfl), (own_wd hw 27 rfl)⟩))
    (Exa.start ev_w_USER_MONTHLY n14)
    (Sta.start ev_w_USER (Or.inr ⟨(own_wd hw 24 rfl), (own_wd hw 28 rfl)⟩))
    (Exa.start ev_w_USER n16)
    (Sta.start ev_w_RUN (Or.inr ⟨(own_wd hw 6 rfl), (own_wd hw 30 rfl)⟩))
    (Exa.start ev_w_RUN n20)
    (Sta.start ev_w_RUN58 (Or.inr ⟨(own_wd hw 24 rfl), (own_wd hw 31 rfl)⟩))
    (Exa.start ev_w_RUN58 n22)
    (Sta.start ev_w_MONTHLY (Or.inr ⟨(own_wd hw 6 rfl), (own_wd hw 33 rfl)⟩))
    (Exa.start ev_w_MONTHLY n26)
    (Sta.start ev_w_MONTHLY59 (Or.inr ⟨(own_wd hw 34 rfl), (own_wd hw 35 rfl)⟩))
    (Exa.start ev_w_MONTHLY59 n30)
    (Sta.start ev_w_DAILY (Or.inr ⟨(own_wd hw 6 rfl), (own_wd hw 37 rfl)⟩))
    (Exa.start ev_w_DAILY n34)
    (Sta.start ev_w_DAILY60 (Or.inr ⟨(own_wd hw 34 rfl), (own_wd hw 38 rfl)⟩))
    (Exa.start ev_w_DAILY60 n38)
    (Sta.start ev_w_PROVIDER_MONTHLY (Or.inr ⟨(own_wd hw 6 rfl), (own_wd hw 40 rfl)⟩))
    (Exa.start ev_w_PROVIDER_MONTHLY n42)
    (Sta.start ev_w_USER_DAILY (Or.inr ⟨(own_wd hw 6 rfl), (own_wd hw 42 rfl)⟩))
    (Exa.start ev_w_USER_DAILY n46)
    (own_fldN ev_w_CALL n4)
    (own_fldN ev_w_CALL n6)
    (own_fldR ev_w_PROVIDER_DAILY ev_w_PROVIDER n12)
    (own_fldR ev_w_USER_MONTHLY ev_w_USER n18)
    (own_fldR ev_w_RUN ev_w_RUN58 n24)
    (own_fldN ev_w_MONTHLY n28)
    (own_fldR ev_w_MONTHLY ev_w_MONTHLY59 n32)
    (own_fldN ev_w_DAILY n36)
    (own_fldR ev_w_DAILY ev_w_DAILY60 n40)
    (own_fldR ev_w_PROVIDER_MONTHLY ev_w_PROVIDER n44)
    (own_fldR ev_w_USER_DAILY ev_w_USER n48)
    (own_fldR ev_w_PROVIDER_DAILY ev_w_DAILY60 n50)
    (own_fldR ev_w_USER_MONTHLY ev_w_MONTHLY59 n52)
    (own_fldN ev_w_RUN n54)
    (own_fldR ev_w_PROVIDER_MONTHLY ev_w_MONTHLY59 n56)
    (own_fldR ev_w_USER_DAILY ev_w_DAILY60 n57) p e ha hc hk s m _ below hf ((Spec.applies_iff_loose hf).mp happ).1 ⟨rfl, State.Warmed39.refl s, rfl⟩ trivial
  refine ⟨n, _, h1, h2, h3, hpost _ _ _ _ _ _ ⟨Cond.after_iff.mpr rfl, Cond.after_iff.mpr (eq_i res_at (Term.int_eval (1)) rfl), trivial⟩ ⟨hq.1, hq.2.1, (hq.2.2.sift fun y hy => Or.inr (N y hy)).mono (by decide) (by decide)⟩⟩
theorem main_1_1 : Claimed_1_1 := comes_1 fun _ _ _ _ _ _ h hF => ⟨h.1, hF⟩
theorem main_1_2 : Claimed_1_2 := comes_1 fun _ _ _ _ _ _ h hF => ⟨h.2.1, hF⟩
end Jvm.Pilot.@@N@@
namespace Jvm.Pilot.@@N@@
open Jvm Jvm.ClassFile Sem Op Lib Jvm.Free Jvm.Stand Jvm.Pilot.@@N@@.Jvm.D
/-! MADE BY PROGRAM (witnessworld.py) out of the Statement's table words and the real class files: 14 classes; the members and pool entries that the words name. The judged class is class 1, her method 2. -/
namespace start1
open Jvm.ClassFile
def u (s : String) : CpInfo := .utf8 (stringToUtf16 s)
/-- a pool by its gaps: so many unusable entries, then the entry; so many at the end -/
def gap : Nat → List CpInfo → List CpInfo
  | 0, r => r
  | n + 1, r => .unusable :: gap n r
def poolList (es : List (Nat × CpInfo)) (last : Nat) : List CpInfo := es.foldr (fun e r => gap e.1 (e.2 :: r)) (gap last [])
def pool (es : List (Nat × CpInfo)) (last : Nat) : Array CpInfo := ⟨poolList es last⟩
def fileOf (pool : Array CpInfo) (this : Nat) (attrs : Array Attribute := #[]) (ms : Array MethodInfo := #[]) (fl : Nat := 33) (sup : Nat := 0) (ifs : Array Nat := #[]) (fds : Array FieldInfo := #[]) : ClassFile where
  minorVersion := 0
  majorVersion := 65
  constantPool := pool
  accessFlags := fl
  thisClass := this
  superClass := sup
  interfaces := ifs
  fields := fds
  methods := ms
  attributes := attrs
def plain (name : String) (sup : Option ClassId) : Class where
  name := name
  kind := .ordinary
  loader := none
  accessFlags := 33
  super := sup
  interfaces := #[]
  cf := none
  fields := #[]
  methods := #[]
  instanceTypes := #[]
  staticTypes := #[]
  resolved := #[]
  callSites := []
  init := .initialized
  statics := none
  mirror := none

def pool0 : Array CpInfo := pool [(5, u "<init>"), (0, u "()V"), (1, .class_ 10), (1, u "java/lang/Object")] 113

def k0m0 : Method := { name := "<init>", desc := "()V", sig := { parameters := [], returnType := none }, accessFlags := 1, code := none }
/-- java/lang/Object -/
def k0 : Class := { plain "java/lang/Object" none with
  accessFlags := 33
  interfaces := #[]
  cf := some (fileOf pool0 8 #[] #[{ accessFlags := 1, nameIndex := 5, descriptorIndex := 6, attributes := #[] }] 33 0 #[] #[])
  fields := #[]
  methods := #[k0m0]
  instanceTypes := #[]
  staticTypes := #[]
  resolved := Array.replicate 124 none
  statics := none }

def pool1 : Array CpInfo := pool [(2, .class_ 4), (1, u "java/lang/Object"), (0, u "<init>"), (0, u "()V"), (0, .fieldref 8 9), (0, .class_ 10), (0, .nameAndType 11 12), (0, u "com/example/pactolus/pactolus/gate/Scope"), (0, u "CALL"), (0, u "Lcom/example/pactolus/pactolus/gate/Scope;"), (0, .fieldref 8 14), (0, .nameAndType 15 12), (0, u "DAILY"), (0, .fieldref 8 17), (0, .nameAndType 18 12), (0, u "MONTHLY"), (0, .fieldref 8 20), (0, .nameAndType 21 12), (0, u "PROVIDER_DAILY"), (0, .fieldref 8 23), (0, .nameAndType 24 12), (0, u "PROVIDER_MONTHLY"), (0, .fieldref 8 26), (0, .nameAndType 27 12), (0, u "USER_DAILY"), (0, .fieldref 8 29), (0, .nameAndType 30 12), (0, u "USER_MONTHLY"), (0, .fieldref 8 32), (0, .nameAndType 33 12), (0, u "RUN"), (0, .integer 2147483647), (0, .methodref 36 37), (0, .class_ 38), (0, .nameAndType 39 40), (0, u "com/example/pactolus/pactolus/gate/ScopePerCallPinLaw"), (0, u "pick"), (0, u "(I)Lcom/example/pactolus/pactolus/gate/Scope;"), (0, .methodref 8 42), (0, .nameAndType 43 44), (0, u "perCall"), (0, u "()Z"), (0, .methodref 8 46), (0, .nameAndType 47 44), (0, u "allCallsOverPeriod"), (3, u "law"), (0, u "(I)Z")] 2

def k1m0 : Method := { name := "<init>", desc := "()V", sig := { parameters := [], returnType := none }, accessFlags := 2, code := none }
def k1c1 : Code := { maxStack := 2, maxLocals := 2, code := method_2_code, exceptionTable := #[], attributes := #[] }
def k1m1 : Method := { name := "pick", desc := "(I)Lcom/example/pactolus/pactolus/gate/Scope;", sig := { parameters := [.int], returnType := some (.object "com/example/pactolus/pactolus/gate/Scope") }, accessFlags := 10, code := some k1c1 }
def k1c2 : Code := { maxStack := 2, maxLocals := 6, code := code, exceptionTable := #[], attributes := #[] }
def k1m2 : Method := { name := "law", desc := "(I)Z", sig := { parameters := [.int], returnType := some .boolean }, accessFlags := 9, code := some k1c2 }
/-- com/example/pactolus/pactolus/gate/ScopePerCallPinLaw -/
def k1 : Class := { plain "com/example/pactolus/pactolus/gate/ScopePerCallPinLaw" (some 0) with
  accessFlags := 49
  interfaces := #[]
  cf := some (fileOf pool1 36 #[] #[{ accessFlags := 2, nameIndex := 5, descriptorIndex := 6, attributes := #[] }, { accessFlags := 10, nameIndex := 39, descriptorIndex := 40, attributes := #[] }, { accessFlags := 9, nameIndex := 51, descriptorIndex := 52, attributes := #[] }] 49 2 #[] #[])
  fields := #[]
  methods := #[k1m0, k1m1, k1m2]
  instanceTypes := #[]
  staticTypes := #[]
  resolved := Array.replicate 55 none
  statics := none }

def pool2 : Array CpInfo := pool [(1, .class_ 2), (0, u "java/lang/constant/Constable"), (0, .class_ 4), (0, u "java/lang/Object")] 6

/-- java/lang/constant/Constable -/
def k2 : Class := { plain "java/lang/constant/Constable" (some 0) with
  accessFlags := 1537
  interfaces := #[]
  cf := some (fileOf pool2 1 #[] #[] 1537 3 #[] #[])
  fields := #[]
  methods := #[]
  instanceTypes := #[]
  staticTypes := #[]
  resolved := Array.replicate 11 none
  statics := none }

def pool3 : Array CpInfo := pool [(1, .class_ 2), (0, u "java/lang/Comparable"), (0, .class_ 4), (0, u "java/lang/Object")] 7

/-- java/lang/Comparable -/
def k3 : Class := { plain "java/lang/Comparable" (some 0) with
  accessFlags := 1537
  interfaces := #[]
  cf := some (fileOf pool3 1 #[] #[] 1537 3 #[] #[])
  fields := #[]
  methods := #[]
  instanceTypes := #[]
  staticTypes := #[]
  resolved := Array.replicate 12 none
  statics := none }

def pool4 : Array CpInfo := pool [(1, .class_ 2), (0, u "java/io/Serializable"), (0, .class_ 4), (0, u "java/lang/Object")] 2

/-- java/io/Serializable -/
def k4 : Class := { plain "java/io/Serializable" (some 0) with
  accessFlags := 1537
  interfaces := #[]
  cf := some (fileOf pool4 1 #[] #[] 1537 3 #[] #[])
  fields := #[]
  methods := #[]
  instanceTypes := #[]
  staticTypes := #[]
  resolved := Array.replicate 7 none
  statics := none }

def pool5 : Array CpInfo := pool [(2, .class_ 4), (1, u "java/lang/Enum"), (0, u "name"), (0, u "Ljava/lang/String;"), (2, u "ordinal"), (0, u "I"), (1, .class_ 14), (1, u "java/lang/Object"), (4, u "hash"), (86, .class_ 108), (1, u "java/lang/Enum$EnumDesc"), (2, .class_ 112), (0, u "java/lang/constant/Constable"), (0, .class_ 114), (0, u "java/lang/Comparable"), (0, .class_ 116), (0, u "java/io/Serializable")] 87

/-- java/lang/Enum -/
def k5 : Class := { plain "java/lang/Enum" (some 0) with
  accessFlags := 1057
  interfaces := #[2, 3, 4]
  cf := some (fileOf pool5 2 #[.nestMembers #[106]] #[] 1057 12 #[111, 113, 115] #[{ accessFlags := 18, nameIndex := 5, descriptorIndex := 6, attributes := #[] }, { accessFlags := 18, nameIndex := 9, descriptorIndex := 10, attributes := #[] }, { accessFlags := 2, nameIndex := 19, descriptorIndex := 10, attributes := #[] }])
  fields := #[{ name := "name", type := (.object "java/lang/String"), accessFlags := 18, slot := 0, constantValue := 0 }, { name := "ordinal", type := .int, accessFlags := 18, slot := 1, constantValue := 0 }, { name := "hash", type := .int, accessFlags := 2, slot := 2, constantValue := 0 }]
  methods := #[]
  instanceTypes := #[(.object "java/lang/String"), .int, .int]
  staticTypes := #[]
  resolved := Array.replicate 204 none
  statics := none }

def pool6 : Array CpInfo := pool [(1, .class_ 2), (0, u "com/example/pactolus/pactolus/gate/Scope"), (2, u "CALL"), (0, u "Lcom/example/pactolus/pactolus/gate/Scope;"), (2, u "DAILY"), (2, u "MONTHLY"), (2, u "PROVIDER_DAILY"), (2, u "PROVIDER_MONTHLY"), (2, u "USER_DAILY"), (2, u "USER_MONTHLY"), (2, u "RUN"), (2, u "$VALUES"), (0, u "[Lcom/example/pactolus/pactolus/gate/Scope;"), (6, .class_ 40), (1, u "java/lang/Enum"), (22, u "table"), (0, u "Ljava/util/List;"), (19, u "key"), (0, u "Ljava/lang/String;"), (0, .fieldref 1 87), (0, .nameAndType 88 89), (0, u "label"), (0, u "Lcom/example/pactolus/pactolus/ledger/Label;"), (0, .fieldref 1 91), (0, .nameAndType 92 93), (0, u "period"), (0, u "Lcom/example/pactolus/pactolus/gate/Period;"), (10, u "overTokens"), (0, u "Lcom/example/pactolus/pactolus/gate/Refusal;"), (2, u "overUsd"), (12, u "()Z"), (151, u "ANY_NAME"), (16, u "allCallsOverPeriod"), (0, u "perCall")] 21

def k6c0 : Code := { maxStack := 1, maxLocals := 1, code := prog_16_method_10_code, exceptionTable := #[], attributes := #[] }
def k6m0 : Method := { name := "allCallsOverPeriod", desc := "()Z", sig := { parameters := [], returnType := some .boolean }, accessFlags := 1, code := some k6c0 }
def k6c1 : Code := { maxStack := 1, maxLocals := 1, code := prog_16_method_11_code, exceptionTable := #[], attributes := #[] }
def k6m1 : Method := { name := "perCall", desc := "()Z", sig := { parameters := [], returnType := some .boolean }, accessFlags := 1, code := some k6c1 }
/-- com/example/pactolus/pactolus/gate/Scope -/
def k6 : Class := { plain "com/example/pactolus/pactolus/gate/Scope" (some 5) with
  accessFlags := 16433
  interfaces := #[]
  cf := some (fileOf pool6 1 #[] #[{ accessFlags := 1, nameIndex := 290, descriptorIndex := 121, attributes := #[] }, { accessFlags := 1, nameIndex := 291, descriptorIndex := 121, attributes := #[] }] 16433 38 #[] #[{ accessFlags := 16409, nameIndex := 5, descriptorIndex := 6, attributes := #[] }, { accessFlags := 16409, nameIndex := 9, descriptorIndex := 6, attributes := #[] }, { accessFlags := 16409, nameIndex := 12, descriptorIndex := 6, attributes := #[] }, { accessFlags := 16409, nameIndex := 15, descriptorIndex := 6, attributes := #[] }, { accessFlags := 16409, nameIndex := 18, descriptorIndex := 6, attributes := #[] }, { accessFlags := 16409, nameIndex := 21, descriptorIndex := 6, attributes := #[] }, { accessFlags := 16409, nameIndex := 24, descriptorIndex := 6, attributes := #[] }, { accessFlags := 16409, nameIndex := 27, descriptorIndex := 6, attributes := #[] }, { accessFlags := 25, nameIndex := 273, descriptorIndex := 85, attributes := #[] }, { accessFlags := 18, nameIndex := 63, descriptorIndex := 64, attributes := #[] }, { accessFlags := 18, nameIndex := 84, descriptorIndex := 85, attributes := #[] }, { accessFlags := 18, nameIndex := 88, descriptorIndex := 89, attributes := #[] }, { accessFlags := 18, nameIndex := 92, descriptorIndex := 93, attributes := #[] }, { accessFlags := 18, nameIndex := 104, descriptorIndex := 105, attributes := #[] }, { accessFlags := 18, nameIndex := 108, descriptorIndex := 105, attributes := #[] }, { accessFlags := 4122, nameIndex := 30, descriptorIndex := 31, attributes := #[] }])
  fields := #[{ name := "CALL", type := (.object "com/example/pactolus/pactolus/gate/Scope"), accessFlags := 16409, slot := 0, constantValue := 0 }, { name := "DAILY", type := (.object "com/example/pactolus/pactolus/gate/Scope"), accessFlags := 16409, slot := 1, constantValue := 0 }, { name := "MONTHLY", type := (.object "com/example/pactolus/pactolus/gate/Scope"), accessFlags := 16409, slot := 2, constantValue := 0 }, { name := "PROVIDER_DAILY", type := (.object "com/example/pactolus/pactolus/gate/Scope"), accessFlags := 16409, slot := 3, constantValue := 0 }, { name := "PROVIDER_MONTHLY", type := (.object "com/example/pactolus/pactolus/gate/Scope"), accessFlags := 16409, slot := 4, constantValue := 0 }, { name := "USER_DAILY", type := (.object "com/example/pactolus/pactolus/gate/Scope"), accessFlags := 16409, slot := 5, constantValue := 0 }, { name := "USER_MONTHLY", type := (.object "com/example/pactolus/pactolus/gate/Scope"), accessFlags := 16409, slot := 6, constantValue := 0 }, { name := "RUN", type := (.object "com/example/pactolus/pactolus/gate/Scope"), accessFlags := 16409, slot := 7, constantValue := 0 }, { name := "ANY_NAME", type := (.object "java/lang/String"), accessFlags := 25, slot := 8, constantValue := 0 }, { name := "table", type := (.object "java/util/List"), accessFlags := 18, slot := 3, constantValue := 0 }, { name := "key", type := (.object "java/lang/String"), accessFlags := 18, slot := 4, constantValue := 0 }, { name := "label", type := (.object "com/example/pactolus/pactolus/ledger/Label"), accessFlags := 18, slot := 5, constantValue := 0 }, { name := "period", type := (.object "com/example/pactolus/pactolus/gate/Period"), accessFlags := 18, slot := 6, constantValue := 0 }, { name := "overTokens", type := (.object "com/example/pactolus/pactolus/gate/Refusal"), accessFlags := 18, slot := 7, constantValue := 0 }, { name := "overUsd", type := (.object "com/example/pactolus/pactolus/gate/Refusal"), accessFlags := 18, slot := 8, constantValue := 0 }, { name := "$VALUES", type := (.array (.object "com/example/pactolus/pactolus/gate/Scope")), accessFlags := 4122, slot := 9, constantValue := 0 }]
  methods := #[k6m0, k6m1]
  instanceTypes := #[(.object "java/lang/String"), .int, .int, (.object "java/util/List"), (.object "java/lang/String"), (.object "com/example/pactolus/pactolus/ledger/Label"), (.object "com/example/pactolus/pactolus/gate/Period"), (.object "com/example/pactolus/pactolus/gate/Refusal"), (.object "com/example/pactolus/pactolus/gate/Refusal")]
  staticTypes := #[(.object "com/example/pactolus/pactolus/gate/Scope"), (.object "com/example/pactolus/pactolus/gate/Scope"), (.object "com/example/pactolus/pactolus/gate/Scope"), (.object "com/example/pactolus/pactolus/gate/Scope"), (.object "com/example/pactolus/pactolus/gate/Scope"), (.object "com/example/pactolus/pactolus/gate/Scope"), (.object "com/example/pactolus/pactolus/gate/Scope"), (.object "com/example/pactolus/pactolus/gate/Scope"), (.object "java/lang/String"), (.array (.object "com/example/pactolus/pactolus/gate/Scope"))]
  resolved := Array.replicate 313 none
  statics := some 0 }

def pool7 : Array CpInfo := pool [(1, .class_ 2), (0, u "com/example/pactolus/pactolus/ledger/Label"), (2, u "USER"), (0, u "Lcom/example/pactolus/pactolus/ledger/Label;"), (2, u "RUN"), (2, u "PROVIDER"), (2, u "MODEL"), (2, u "$VALUES"), (0, u "[Lcom/example/pactolus/pactolus/ledger/Label;"), (6, .class_ 28), (1, u "java/lang/Enum"), (8, u "column"), (0, u "Ljava/lang/String;"), (2, u "since"), (0, u "I"), (76, u "NAME_ORDER"), (0, u "Ljava/util/Comparator;")] 45

/-- com/example/pactolus/pactolus/ledger/Label -/
def k7 : Class := { plain "com/example/pactolus/pactolus/ledger/Label" (some 5) with
  accessFlags := 16433
  interfaces := #[]
  cf := some (fileOf pool7 1 #[] #[] 16433 26 #[] #[{ accessFlags := 16409, nameIndex := 5, descriptorIndex := 6, attributes := #[] }, { accessFlags := 16409, nameIndex := 9, descriptorIndex := 6, attributes := #[] }, { accessFlags := 16409, nameIndex := 12, descriptorIndex := 6, attributes := #[] }, { accessFlags := 16409, nameIndex := 15, descriptorIndex := 6, attributes := #[] }, { accessFlags := 25, nameIndex := 119, descriptorIndex := 120, attributes := #[] }, { accessFlags := 18, nameIndex := 37, descriptorIndex := 38, attributes := #[] }, { accessFlags := 18, nameIndex := 41, descriptorIndex := 42, attributes := #[] }, { accessFlags := 4122, nameIndex := 18, descriptorIndex := 19, attributes := #[] }])
  fields := #[{ name := "USER", type := (.object "com/example/pactolus/pactolus/ledger/Label"), accessFlags := 16409, slot := 0, constantValue := 0 }, { name := "RUN", type := (.object "com/example/pactolus/pactolus/ledger/Label"), accessFlags := 16409, slot := 1, constantValue := 0 }, { name := "PROVIDER", type := (.object "com/example/pactolus/pactolus/ledger/Label"), accessFlags := 16409, slot := 2, constantValue := 0 }, { name := "MODEL", type := (.object "com/example/pactolus/pactolus/ledger/Label"), accessFlags := 16409, slot := 3, constantValue := 0 }, { name := "NAME_ORDER", type := (.object "java/util/Comparator"), accessFlags := 25, slot := 4, constantValue := 0 }, { name := "column", type := (.object "java/lang/String"), accessFlags := 18, slot := 3, constantValue := 0 }, { name := "since", type := .int, accessFlags := 18, slot := 4, constantValue := 0 }, { name := "$VALUES", type := (.array (.object "com/example/pactolus/pactolus/ledger/Label")), accessFlags := 4122, slot := 5, constantValue := 0 }]
  methods := #[]
  instanceTypes := #[(.object "java/lang/String"), .int, .int, (.object "java/lang/String"), .int]
  staticTypes := #[(.object "com/example/pactolus/pactolus/ledger/Label"), (.object "com/example/pactolus/pactolus/ledger/Label"), (.object "com/example/pactolus/pactolus/ledger/Label"), (.object "com/example/pactolus/pactolus/ledger/Label"), (.object "java/util/Comparator"), (.array (.object "com/example/pactolus/pactolus/ledger/Label"))]
  resolved := Array.replicate 166 none
  statics := some 1 }

def pool8 : Array CpInfo := pool [(1, .class_ 2), (0, u "com/example/pactolus/pactolus/gate/Period"), (2, u "DAILY"), (0, u "Lcom/example/pactolus/pactolus/gate/Period;"), (2, u "MONTHLY"), (2, u "$VALUES"), (0, u "[Lcom/example/pactolus/pactolus/gate/Period;"), (6, .class_ 22), (1, u "java/lang/Enum"), (8, u "key"), (0, u "Ljava/lang/String;")] 55

/-- com/example/pactolus/pactolus/gate/Period -/
def k8 : Class := { plain "com/example/pactolus/pactolus/gate/Period" (some 5) with
  accessFlags := 16433
  interfaces := #[]
  cf := some (fileOf pool8 1 #[] #[] 16433 20 #[] #[{ accessFlags := 16409, nameIndex := 5, descriptorIndex := 6, attributes := #[] }, { accessFlags := 16409, nameIndex := 9, descriptorIndex := 6, attributes := #[] }, { accessFlags := 18, nameIndex := 31, descriptorIndex := 32, attributes := #[] }, { accessFlags := 4122, nameIndex := 12, descriptorIndex := 13, attributes := #[] }])
  fields := #[{ name := "DAILY", type := (.object "com/example/pactolus/pactolus/gate/Period"), accessFlags := 16409, slot := 0, constantValue := 0 }, { name := "MONTHLY", type := (.object "com/example/pactolus/pactolus/gate/Period"), accessFlags := 16409, slot := 1, constantValue := 0 }, { name := "key", type := (.object "java/lang/String"), accessFlags := 18, slot := 3, constantValue := 0 }, { name := "$VALUES", type := (.array (.object "com/example/pactolus/pactolus/gate/Period")), accessFlags := 4122, slot := 2, constantValue := 0 }]
  methods := #[]
  instanceTypes := #[(.object "java/lang/String"), .int, .int, (.object "java/lang/String")]
  staticTypes := #[(.object "com/example/pactolus/pactolus/gate/Period"), (.object "com/example/pactolus/pactolus/gate/Period"), (.array (.object "com/example/pactolus/pactolus/gate/Period"))]
  resolved := Array.replicate 88 none
  statics := some 2 }

def pool9 : Array CpInfo := pool [(1, u "java/lang/Cloneable"), (0, .class_ 1), (0, u "java/lang/Object"), (0, .class_ 3)] 3

/-- java/lang/Cloneable -/
def k9 : Class := { plain "java/lang/Cloneable" (some 0) with
  accessFlags := 1537
  interfaces := #[]
  cf := some (fileOf pool9 2 #[] #[] 1537 4 #[] #[])
  fields := #[]
  methods := #[]
  instanceTypes := #[]
  staticTypes := #[]
  resolved := Array.replicate 8 none
  statics := none }

/-- the primitive byte -/
def k10 : Class := { plain "byte" none with kind := .primitive 'B', accessFlags := 0x411 }
/-- [B -/
def k11 : Class := { plain "[B" (some 0) with kind := .array 10 .byte, interfaces := #[9, 4], accessFlags := 1041 }

/-- the primitive int -/
def k12 : Class := { plain "int" none with kind := .primitive 'I', accessFlags := 0x411 }
/-- [I -/
def k13 : Class := { plain "[I" (some 0) with kind := .array 12 .int, interfaces := #[9, 4], accessFlags := 1041 }

def heap : Heap := #[{ cls := 6, slots := #[.ref 3, .ref 12, .ref 10, .ref 4, .ref 14, .ref 15, .ref 6, .ref 8, .null, .null], vm := .statics 6 },
  { cls := 7, slots := #[.ref 7, .ref 9, .ref 5, .null, .null, .null], vm := .statics 7 },
  { cls := 8, slots := #[.ref 13, .ref 11, .null], vm := .statics 8 },
  { cls := 6, slots := #[.null, .int (0), .int (0), .null, .null, .null, .null, .null, .null], vm := .none },
  { cls := 6, slots := #[.null, .int (0), .int (0), .null, .null, .ref 5, .ref 13, .null, .null], vm := .none },
  { cls := 7, slots := #[.null, .int (0), .int (0), .null, .int (0)], vm := .none },
  { cls := 6, slots := #[.null, .int (0), .int (0), .null, .null, .ref 7, .ref 11, .null, .null], vm := .none },
  { cls := 7, slots := #[.null, .int (0), .int (0), .null, .int (0)], vm := .none },
  { cls := 6, slots := #[.null, .int (0), .int (0), .null, .null, .ref 9, .null, .null, .null], vm := .none },
  { cls := 7, slots := #[.null, .int (0), .int (0), .null, .int (0)], vm := .none },
  { cls := 6, slots := #[.null, .int (0), .int (0), .null, .null, .null, .ref 11, .null, .null], vm := .none },
  { cls := 8, slots := #[.null, .int (0), .int (0), .null], vm := .none },
  { cls := 6, slots := #[.null, .int (0), .int (0), .null, .null, .null, .ref 13, .null, .null], vm := .none },
  { cls := 8, slots := #[.null, .int (0), .int (0), .null], vm := .none },
  { cls := 6, slots := #[.null, .int (0), .int (0), .null, .null, .ref 5, .ref 11, .null, .null], vm := .none },
  { cls := 6, slots := #[.null, .int (0), .int (0), .null, .null, .ref 7, .ref 13, .null, .null], vm := .none }]
def classes : Array Class := #[k0, k1, k2, k3, k4, k5, k6, k7, k8, k9, k10, k11, k12, k13]
def interned : List (Array UInt16 × Addr) := []
def slotsUsed : Nat := 114
def theMethod : MethodId := ⟨1, 2⟩
def args0 : Array Value := #[.int 5]
def aboutOver (below : List Frame) : State where
  vm := { classes := classes, interned := interned.toArray }
  heap := heap
  slotsUsed := slotsUsed
  threads := #[{ frames := .invoking theMethod args0 :: below }]
def below0 : List Frame := [.native { method := ⟨0, 0⟩, args := #[] }]
def about1 : State := aboutOver below0
def p0 : Program := .bare "" "" ""
def e0 : Env := launch0.env 0 0 0
theorem w_frames : about1.frames = Frame.invoking theMethod args0 :: below0 := rfl
set_option maxRecDepth 65536 in
theorem w_args : argsFit about1.vm theMethod args0 = true := by decide +kernel
set_option maxRecDepth 65536 in
theorem w_heap : heapFits about1 = true := by decide +kernel
set_option maxRecDepth 65536 in
theorem w_runnable : about1.curStatus? = some .runnable := by decide +kernel
set_option maxRecDepth 65536 in
theorem w_alone : about1.alone = true := by decide +kernel
set_option maxRecDepth 65536 in
theorem w_named : about1.methodNamed? x = some theMethod := by decide +kernel
set_option maxRecDepth 65536 in
theorem w_hears : about1.hears theMethod below0 = true := by decide +kernel
set_option maxRecDepth 65536 in
theorem w_ripe : about1.ripe theMethod args0 below0 = true := by decide +kernel
theorem w_running : about1.status = .running := rfl
set_option maxRecDepth 65536 in
theorem w_room : about1.hasRoom e0.platform room_1 = true :=
  launch0.hasRoom_least _ room_1 (by decide +kernel) (by decide +kernel) (by decide +kernel) (by decide +kernel) (by decide +kernel) (by decide +kernel)
theorem allAtoms_all (ts : List Jvm.Cond) (a : Array Jvm.Value) (st : Jvm.State) : (allAtoms ts).before a st = ts.all (fun c => c.before a st) := by
  induction ts with
  | nil => rfl
  | cons c t ih =>
    show (Jvm.Cond.and c (allAtoms t)).before a st = _
    rw [Jvm.Cond.before_and, ih, List.all_cons]
def words1 : List Jvm.Cond := Jvm.Cond.code x code maxLocals ret :: tables_1
/-- a 'code' word, met by the world's own term for the bytes: nothing is compared byte by byte -/
theorem code_word {y : MethodName} {bytes : ByteArray} {mx : Nat} {rt : Option FieldType} {a : Array Value} {s : State} {m : MethodId} {meth : Method} {c : Code} (h1 : s.methodNamed? y = some m) (h2 : s.vm.method? m = some meth) (h3 : meth.code = some c) (h4 : c.code = bytes)
    (h5 : (c.maxLocals == mx && c.exceptionTable.isEmpty && decide (c.maxStack ≤ mostOperands) && decide (meth.sig.returnType = rt) && !meth.locks && decide (parseMethodDescriptor y.desc = some meth.sig)) = true) : (Jvm.Cond.code y bytes mx rt).before a s = true := by
  simp only [Bool.and_eq_true, beq_iff_eq, Bool.not_eq_true', decide_eq_true_eq] at h5
  obtain ⟨⟨⟨⟨⟨g1, g2⟩, g3⟩, g4⟩, g5⟩, g6⟩ := h5
  simp [Cond.before, Cond.holds, Cond.value, h1, h2, h3, h4, g1, g2, g3, g4, g5, g6]
def isCode : Jvm.Cond → Bool
  | .code _ _ _ _ => true
  | _ => false
theorem all_split {L : List Jvm.Cond} {P : Jvm.Cond → Bool} (h1 : L.all (fun c => isCode c || P c) = true) (h2 : ∀ c ∈ L.filter isCode, P c = true) : L.all P = true := by
  refine List.all_eq_true.mpr fun c hc => ?_
  have h := List.all_eq_true.mp h1 c hc
  rcases Bool.eq_false_or_eq_true (isCode c) with hi | hi
  · exact h2 c (List.mem_filter.mpr ⟨hc, hi⟩)
  · simpa [hi] using h
set_option maxRecDepth 65536 in
theorem w_c0 : (Jvm.Cond.code x code maxLocals ret).before args0 about1 = true := code_word (m := ⟨1, 2⟩) (meth := k1m2) (c := k1c2) (by decide +kernel) rfl rfl rfl (by decide +kernel)
set_option maxRecDepth 65536 in
theorem w_c1 : (Jvm.Cond.code ({ cls := "com/example/pactolus/pactolus/gate/ScopePerCallPinLaw", name := "pick", desc := "(I)Lcom/example/pactolus/pactolus/gate/Scope;" } : Jvm.MethodName) method_2_code (2 : Nat) (Option.some (Jvm.ClassFile.FieldType.object "com/example/pactolus/pactolus/gate/Scope"))).before args0 about1 = true := code_word (m := ⟨1, 1⟩) (meth := k1m1) (c := k1c1) (by decide +kernel) rfl rfl rfl (by decide +kernel)
set_option maxRecDepth 65536 in
theorem w_c2 : (Jvm.Cond.code ({ cls := "com/example/pactolus/pactolus/gate/Scope", name := "perCall", desc := "()Z" } : Jvm.MethodName) prog_16_method_11_code (1 : Nat) (Option.some Jvm.ClassFile.FieldType.boolean)).before args0 about1 = true := code_word (m := ⟨6, 1⟩) (meth := k6m1) (c := k6c1) (by decide +kernel) rfl rfl rfl (by decide +kernel)
set_option maxRecDepth 65536 in
theorem w_c3 : (Jvm.Cond.code ({ cls := "com/example/pactolus/pactolus/gate/Scope", name := "allCallsOverPeriod", desc := "()Z" } : Jvm.MethodName) prog_16_method_10_code (1 : Nat) (Option.some Jvm.ClassFile.FieldType.boolean)).before args0 about1 = true := code_word (m := ⟨6, 0⟩) (meth := k6m0) (c := k6c0) (by decide +kernel) rfl rfl rfl (by decide +kernel)
def codes1 : List Jvm.Cond := [Jvm.Cond.code x code maxLocals ret, Jvm.Cond.code ({ cls := "com/example/pactolus/pactolus/gate/ScopePerCallPinLaw", name := "pick", desc := "(I)Lcom/example/pactolus/pactolus/gate/Scope;" } : Jvm.MethodName) method_2_code (2 : Nat) (Option.some (Jvm.ClassFile.FieldType.object "com/example/pactolus/pactolus/gate/Scope")), Jvm.Cond.code ({ cls := "com/example/pactolus/pactolus/gate/Scope", name := "perCall", desc := "()Z" } : Jvm.MethodName) prog_16_method_11_code (1 : Nat) (Option.some Jvm.ClassFile.FieldType.boolean), Jvm.Cond.code ({ cls := "com/example/pactolus/pactolus/gate/Scope", name := "allCallsOverPeriod", desc := "()Z" } : Jvm.MethodName) prog_16_method_10_code (1 : Nat) (Option.some Jvm.ClassFile.FieldType.boolean)]
set_option maxRecDepth 65536 in
theorem codes_eq : words1.filter isCode = codes1 := rfl
theorem w_codes : ∀ c ∈ words1.filter isCode, c.before args0 about1 = true := by
  rw [codes_eq]
  intro c hc
  simp only [codes1, List.mem_cons, List.not_mem_nil, or_false] at hc
  rcases hc with rfl | rfl | rfl | rfl
  · exact w_c0
  · exact w_c1
  · exact w_c2
  · exact w_c3
set_option maxRecDepth 65536 in
theorem w_t1 : (words1.take 24).all (fun c => isCode c || c.before args0 about1) = true := by decide +kernel
set_option maxRecDepth 65536 in
theorem w_t2 : (words1.drop 24).all (fun c => isCode c || c.before args0 about1) = true := by decide +kernel
theorem w_tables : (allAtoms (Jvm.Cond.code x code maxLocals ret :: tables_1)).before args0 about1 = true := by
  rw [allAtoms_all]
  show words1.all (fun c => c.before args0 about1) = true
  refine all_split ?_ w_codes
  rw [← List.take_append_drop 24 words1, List.all_append, w_t1, w_t2]
  rfl
set_option maxRecDepth 65536 in
theorem w_case : (Jvm.Cond.and given_1 narrow_1).before args0 about1 = true := by decide +kernel
theorem w_applies : (headSpec (Jvm.Cond.code x code maxLocals ret :: tables_1) room_1).applies x e0.platform about1 = true :=
  (Spec.applies_iff w_frames).mpr ⟨w_running, w_runnable, w_alone, w_named, w_hears, w_ripe, w_room, w_tables⟩
theorem atStart : AtStart classFile x code maxLocals ret World_1 tables_1 room_1 Calls_1 rest_1 Pre_1 launch0 p0 e0 about1 theMethod args0 below0 :=
  ⟨lists_1, trivial, launch0.admits_env _ _ _, launch0.least_env, fairChoices_fair.cas, fairChoices_fair.clock, w_frames, w_args, w_heap, w_applies, trivial, trivial, w_case⟩
end start1
theorem witness_1 : WitnessClaimed_1 := ⟨start1.p0, start1.e0, start1.about1, start1.theMethod, start1.args0, start1.below0, start1.atStart⟩
end Jvm.Pilot.@@N@@
