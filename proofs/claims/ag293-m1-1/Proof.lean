import JvmDerived
import JvmDerived.Pilot.@@N@@Statement
import JvmDerived.Pilot.@@N@@Code
set_option linter.unusedVariables false
set_option linter.unusedSimpArgs false
namespace Jvm.RoadKit
open Sem ClassFile Op Lib Jvm.Stand Jvm.Free Jvm.LawKit
section Own
variable {p : Program} {l : Launch} {e : Env} {R : Room} {s : State} {m : MethodId} {args : Array Value} {below : List Frame} {meth : Method} {c : Code} {T : State} {locs : List Loc} {cells slots : Nat}
def own_Go (p : Program) (e : Env) (below : List Frame) (K : State → Outcome → Prop) (T : State) (g : JFrame) : Prop :=
  ∃ t o, Steps p.tables e below (T.setTop g) t ∧ t.status = .running ∧ Ended t below o ∧ K t o
theorem own_go {K : State → Outcome → Prop} {T1 T2 : State} {g1 g2 : JFrame} (h : ∀ t, Steps p.tables e below (T2.setTop g2) t → Steps p.tables e below (T1.setTop g1) t) (k : own_Go p e below K T2 g2) : own_Go p e below K T1 g1 := by
  obtain ⟨t, o, h1, h2⟩ := k
  exact ⟨t, o, h t h1, h2⟩
def own_K (s : State) (Q : Option Value → Heap → List Loc → Prop) (C S : Nat) (t : State) (o : Outcome) : Prop := ∃ v L, o = .returned v ∧ Q v t.heap L ∧ FrameEnd s o t L C S
def own_QP (r : Option Value) (h0 : Heap) (v : Option Value) (h : Heap) (L : List Loc) : Prop := v = r ∧ L = [] ∧ h = h0
def own_Con (l : Launch) (Z : State) (y : MethodName) (bytes : ByteArray) (maxL : Nat) (ret : Option FieldType) (rm : Room) (as' : Array Value) (h : Heap) (Q : Option Value → Heap → List Loc → Prop) : Prop :=
  MetFree l y (head1 [Cond.code y bytes maxL ret] rm) (fun a U => a = as' ∧ Z.Warmed39 U.vm ∧ U.heap = h) (fun _ _ _ _ _ => True) (fun _ U o U' => ∃ v L, o = .returned v ∧ Q v U'.heap L ∧ FrameEnd U o U' L rm.cells rm.slots)
theorem own_end (X : Stand p l e R s m args below meth c T locs cells slots) {v : Option Value} (hl : meth.locks = false) (hv : meth.sig.returnType = none → v = none) {g : JFrame} {Q : Option Value → Heap → List Loc → Prop} {C S : Nat}
    (hstep : ∀ fs, (∀ (f : JFrame) (acts : List Action), f.method = m → f.locked = none → f.entered = [] → (doReturn e (T.setTop f) acts v).1 = T.setFrames fs) → Steps p.tables e below (T.setTop g) (T.setFrames fs))
    (hc : cells ≤ C) (hs : slots ≤ S) (hQ : Q v T.heap locs) : own_Go p e below (own_K s Q C S) T g := by
  obtain ⟨fs, hr, hrun, hended, hW, hsame⟩ := X.leave hv hl
  exact ⟨_, _, hstep fs hr, hrun, hended, v, locs, rfl, hQ, ⟨_, rfl⟩, hW, hsame.mono hc hs⟩
theorem own_endN (X : Stand p l e R s m args below meth c T locs cells slots) (hx : p.tables.exec = Jvm.exec) (hl : meth.locks = false) {pc : Nat} {Ls : Array Slot} {z z' : Int32} {t : FieldType} {rest : List Value} {Q : Option Value → Heap → List Loc → Prop} {C S : Nat}
    (hret : meth.sig.returnType = some t) (ht : t = .boolean ∨ t = .byte ∨ t = .char ∨ t = .short) (hd : decode c.code pc = .ok (.ireturn, 1)) (hz : nar t z = z') (hc : cells ≤ C) (hs : slots ≤ S) (hQ : Q (some (.int z')) T.heap locs) :
    own_Go p e below (own_K s Q C S) T (mkF m pc Ls (.int z :: rest)) := by
  subst hz
  exact own_end X hl (fun h => by rw [hret] at h; cases h) (fun fs hr => retN X hx hret ht hd hr) hc hs hQ
theorem own_endI (X : Stand p l e R s m args below meth c T locs cells slots) (hx : p.tables.exec = Jvm.exec) (hl : meth.locks = false) {pc : Nat} {Ls : Array Slot} {z : Int32} {rest : List Value} {Q : Option Value → Heap → List Loc → Prop} {C S : Nat}
    (hret : meth.sig.returnType = some .int) (hd : decode c.code pc = .ok (.ireturn, 1)) (hc : cells ≤ C) (hs : slots ≤ S) (hQ : Q (some (.int z)) T.heap locs) :
    own_Go p e below (own_K s Q C S) T (mkF m pc Ls (.int z :: rest)) :=
  own_end X hl (fun h => by rw [hret] at h; cases h) (fun fs hr => retOut X hx hret rfl (Or.inl ⟨rfl, Or.inl rfl, z, rfl⟩) hd hr) hc hs hQ
theorem own_endJ (X : Stand p l e R s m args below meth c T locs cells slots) (hx : p.tables.exec = Jvm.exec) (hl : meth.locks = false) {pc : Nat} {Ls : Array Slot} {z : Int64} {rest : List Value} {Q : Option Value → Heap → List Loc → Prop} {C S : Nat}
    (hret : meth.sig.returnType = some .long) (hd : decode c.code pc = .ok (.lreturn, 1)) (hc : cells ≤ C) (hs : slots ≤ S) (hQ : Q (some (.long z)) T.heap locs) :
    own_Go p e below (own_K s Q C S) T (mkF m pc Ls (.long z :: rest)) :=
  own_end X hl (fun h => by rw [hret] at h; cases h) (fun fs hr => retOut X hx hret rfl (Or.inr (Or.inl ⟨rfl, rfl, z, rfl⟩)) hd hr) hc hs hQ
theorem own_endR (X : Stand p l e R s m args below meth c T locs cells slots) (hx : p.tables.exec = Jvm.exec) (hl : meth.locks = false) {pc : Nat} {Ls : Array Slot} {w : Value} {t : FieldType} {rest : List Value} {Q : Option Value → Heap → List Loc → Prop} {C S : Nat}
    (hret : meth.sig.returnType = some t) (ht : t.isReference = true) (hw : w.isRef = true) (hd : decode c.code pc = .ok (.areturn, 1)) (hc : cells ≤ C) (hs : slots ≤ S) (hQ : Q (some w) T.heap locs) :
    own_Go p e below (own_K s Q C S) T (mkF m pc Ls (w :: rest)) :=
  own_end X hl (fun h => by rw [hret] at h; cases h) (fun fs hr => retOut X hx hret (by rcases ref_cases hw with rfl | ⟨a, rfl⟩ <;> cases t <;> first | rfl | (cases ht)) (Or.inr (Or.inr (Or.inr (Or.inr ⟨rfl, ht, hw⟩)))) hd hr) hc hs hQ
theorem own_endV (X : Stand p l e R s m args below meth c T locs cells slots) (hx : p.tables.exec = Jvm.exec) (hl : meth.locks = false) {pc : Nat} {Ls : Array Slot} {Q : Option Value → Heap → List Loc → Prop} {C S : Nat}
    (hret : meth.sig.returnType = none) (hd : decode c.code pc = .ok (.return_, 1)) (hc : cells ≤ C) (hs : slots ≤ S) (hQ : Q none T.heap locs) :
    own_Go p e below (own_K s Q C S) T (mkF m pc Ls []) :=
  own_end X hl (fun _ => rfl) (fun fs hr => X.returnOut hx hret hd hr) hc hs hQ
variable {Z : State} {a0 : Array Value} {h : Heap} {y z : MethodName} {bytes : ByteArray} {maxL : Nat} {ret : Option FieldType} {rm : Room} {as' : Array Value} {Q : Option Value → Heap → List Loc → Prop}
theorem own_static (X : Stand p l e R s m args below meth c T locs cells slots) (hx : p.tables.exec = Jvm.exec) (hZ : Z.Warmed39 s.vm) {own : String} {index : Nat} (hown : s.vm.findClass own = some m.cls)
    (w1 : (Cond.methodLink own index y).before a0 Z = true) (w2 : (Cond.static y).before a0 Z = true) (w3 : (Cond.initialized y.cls).before a0 Z = true) (w4 : (Cond.code y bytes maxL ret).before a0 Z = true) (hy : y.cls ≠ "java/lang/invoke/MethodHandle" ∧ y.cls ≠ "java/lang/invoke/VarHandle")
    (W : Nat) {argsL rest : List Value} (hM : own_Con l Z y bytes maxL ret rm argsL.toArray h Q) (hf : rm.frames + 1 ≤ R.frames) (hl : W + (maxL + 11) + rm.locals ≤ R.locals)
    {g : JFrame} (hg : g.method = m) (hsize : g.locals.size = c.maxLocals) (hlen : ∀ sig, parseMethodDescriptor y.desc = some sig → argsL.length = sig.parameters.length) (hstack : g.stack = argsL.reverse ++ rest)
    (hW : 2 * g.monitorRoom + (rest.map fun v => v.category).sum ≤ W) (hdg : decode c.code g.pc = .ok (.invokestatic index, 3)) (eT : T.heap = h) (hc : cells + rm.cells ≤ R.cells) (hs : slots + rm.slots ≤ R.slots) :
    ∃ (v : Option Value) (T' : State) (L : List Loc), Stand p l e R s m args below meth c T' (locs ++ L) (cells + rm.cells) (slots + rm.slots) ∧ Q v T'.heap L ∧
      ∀ target, Steps p.tables e below (T'.setTop { g with pc := g.pc + 3, stack := v.toList ++ rest }) target → Steps p.tables e below (T.setTop g) target := by
  obtain ⟨v, _, ⟨T', L', k', n'⟩, -, X', ⟨L, hQ, e1, e2, e3⟩, st⟩ := Jvm.LawKit.callS X hx (y := y) hown (mvT hZ w1) (mvT hZ w2) (mvT hZ w3) (mvT hZ w4) hy (backOf (W := W) hM hZ w4 w3 hf hl) hg hsize hlen hstack hW hdg (fun _ _ => ⟨rfl, eT, hc, hs⟩)
  dsimp only [Pt.U, Pt.locs, Pt.cells, Pt.slots] at X' e1 e2 e3 st hQ
  subst e1 e2 e3
  exact ⟨v, T', L, X', hQ, st⟩
theorem own_special (X : Stand p l e R s m args below meth c T locs cells slots) (hx : p.tables.exec = Jvm.exec) (hZ : Z.Warmed39 s.vm) {own : String} {index : Nat} (hy1 : y.name = "<init>") (hown : s.vm.findClass own = some m.cls)
    (w1 : (Cond.methodLink own index y).before a0 Z = true) (w2 : (Cond.instanceMethod y).before a0 Z = true) (w3 : (Cond.initialized y.cls).before a0 Z = true) (w4 : (Cond.code y bytes maxL none).before a0 Z = true) (hy : y.cls ≠ "java/lang/invoke/MethodHandle" ∧ y.cls ≠ "java/lang/invoke/VarHandle")
    (W : Nat) {a : Addr} {argsL rest : List Value} (hM : own_Con l Z y bytes maxL none rm (.ref a :: argsL).toArray h Q) (hf : rm.frames + 1 ≤ R.frames) (hl : W + (maxL + 11) + rm.locals ≤ R.locals)
    {g : JFrame} (hg : g.method = m) (hsize : g.locals.size = c.maxLocals) (hlen : ∀ sig, parseMethodDescriptor y.desc = some sig → argsL.length = sig.parameters.length) (hstack : g.stack = argsL.reverse ++ .ref a :: rest)
    (hW : 2 * g.monitorRoom + (rest.map fun v => v.category).sum ≤ W) (hdg : decode c.code g.pc = .ok (.invokespecial index, 3)) (eT : T.heap = h) (hc : cells + rm.cells ≤ R.cells) (hs : slots + rm.slots ≤ R.slots) :
    ∃ (v : Option Value) (T' : State) (L : List Loc), Stand p l e R s m args below meth c T' (locs ++ L) (cells + rm.cells) (slots + rm.slots) ∧ Q v T'.heap L ∧
      ∀ target, Steps p.tables e below (T'.setTop { g with pc := g.pc + 3, stack := v.toList ++ rest }) target → Steps p.tables e below (T.setTop g) target := by
  obtain ⟨v, _, ⟨T', L', k', n'⟩, -, X', ⟨L, hQ, e1, e2, e3⟩, st⟩ := X.specialBack hx (y := y) hy1 hown (mvT hZ w1) (mvT hZ w2) (mvT hZ w4) hy (backOf (W := W) hM hZ w4 w3 hf hl) hg hsize (Steps.refl _) hlen hstack hW hdg (fun _ _ => ⟨rfl, eT, hc, hs⟩)
  dsimp only [Pt.U, Pt.locs, Pt.cells, Pt.slots] at X' e1 e2 e3 st hQ
  subst e1 e2 e3
  exact ⟨v, T', L, X', hQ, fun t k => st.trans k⟩
theorem own_virtual (X : Stand p l e R s m args below meth c T locs cells slots) (hx : p.tables.exec = Jvm.exec) (hZ : Z.Warmed39 s.vm) {own C : String} {index : Nat} (hown : s.vm.findClass own = some m.cls)
    (w1 : (Cond.methodLink own index y).before a0 Z = true) (w2 : (Cond.declares y).before a0 Z = true) (hnf : NotFace s y) (w5 : (Cond.selects C y z).before a0 Z = true) (w6 : (Cond.instanceMethod z).before a0 Z = true)
    (w3 : (Cond.initialized z.cls).before a0 Z = true) (w4 : (Cond.code z bytes maxL ret).before a0 Z = true) (hy : y.cls ≠ "java/lang/invoke/MethodHandle" ∧ y.cls ≠ "java/lang/invoke/VarHandle")
    (W : Nat) {a : Addr} {argsL rest : List Value} (hM : own_Con l Z z bytes maxL ret rm (.ref a :: argsL).toArray h Q) (hf : rm.frames + 1 ≤ R.frames) (hl : W + (maxL + 11) + rm.locals ≤ R.locals) (E : Exa Z h a C)
    {g : JFrame} (hg : g.method = m) (hsize : g.locals.size = c.maxLocals) (hlen : ∀ sig, parseMethodDescriptor y.desc = some sig → argsL.length = sig.parameters.length) (hstack : g.stack = argsL.reverse ++ .ref a :: rest)
    (hW : 2 * g.monitorRoom + (rest.map fun v => v.category).sum ≤ W) (hdg : decode c.code g.pc = .ok (.invokevirtual index, 3)) (eT : T.heap = h) (hc : cells + rm.cells ≤ R.cells) (hs : slots + rm.slots ≤ R.slots) :
    ∃ (v : Option Value) (T' : State) (L : List Loc), Stand p l e R s m args below meth c T' (locs ++ L) (cells + rm.cells) (slots + rm.slots) ∧ Q v T'.heap L ∧
      ∀ target, Steps p.tables e below (T'.setTop { g with pc := g.pc + 3, stack := v.toList ++ rest }) target → Steps p.tables e below (T.setTop g) target := by
  obtain ⟨cB, kB, q1, -, q2⟩ := isOf hZ eT E
  obtain ⟨v, _, ⟨T', L', k', n'⟩, -, X', ⟨L, hQ, e1, e2, e3⟩, st⟩ := X.virtualBack hx (y := y) (z := z) hown (mvT hZ w1) (mvT hZ w2) hnf (mvT hZ w5) (mvT hZ w6) hy (backOf (W := W) hM hZ w4 w3 hf hl) q1 q2 hg hsize (Steps.refl _) hlen hstack hW hdg (fun _ _ => ⟨rfl, eT, hc, hs⟩)
  dsimp only [Pt.U, Pt.locs, Pt.cells, Pt.slots] at X' e1 e2 e3 st hQ
  subst e1 e2 e3
  exact ⟨v, T', L, X', hQ, fun t k => st.trans k⟩
theorem own_virtualUp (X : Stand p l e R s m args below meth c T locs cells slots) (hx : p.tables.exec = Jvm.exec) (hZ : Z.Warmed39 s.vm) {own C owner : String} {index : Nat} (hown : s.vm.findClass own = some m.cls)
    (w1 : (Cond.methodLink own index y).before a0 Z = true) (w7 : (Cond.sameMethod y.cls owner y.name y.desc).before a0 Z = true) (w2 : (Cond.declares ⟨owner, y.name, y.desc⟩).before a0 Z = true) (ho : owner ≠ "java/lang/invoke/MethodHandle" ∧ owner ≠ "java/lang/invoke/VarHandle") (w5 : (Cond.selects C y z).before a0 Z = true) (w6 : (Cond.instanceMethod z).before a0 Z = true)
    (w3 : (Cond.initialized z.cls).before a0 Z = true) (w4 : (Cond.code z bytes maxL ret).before a0 Z = true)
    (W : Nat) {a : Addr} {argsL rest : List Value} (hM : own_Con l Z z bytes maxL ret rm (.ref a :: argsL).toArray h Q) (hf : rm.frames + 1 ≤ R.frames) (hl : W + (maxL + 11) + rm.locals ≤ R.locals) (E : Exa Z h a C)
    {g : JFrame} (hg : g.method = m) (hsize : g.locals.size = c.maxLocals) (hlen : ∀ sig, parseMethodDescriptor y.desc = some sig → argsL.length = sig.parameters.length) (hstack : g.stack = argsL.reverse ++ .ref a :: rest)
    (hW : 2 * g.monitorRoom + (rest.map fun v => v.category).sum ≤ W) (hdg : decode c.code g.pc = .ok (.invokevirtual index, 3)) (eT : T.heap = h) (hc : cells + rm.cells ≤ R.cells) (hs : slots + rm.slots ≤ R.slots) :
    ∃ (v : Option Value) (T' : State) (L : List Loc), Stand p l e R s m args below meth c T' (locs ++ L) (cells + rm.cells) (slots + rm.slots) ∧ Q v T'.heap L ∧
      ∀ target, Steps p.tables e below (T'.setTop { g with pc := g.pc + 3, stack := v.toList ++ rest }) target → Steps p.tables e below (T.setTop g) target := by
  obtain ⟨cB, kB, q1, -, q2⟩ := isOf hZ eT E
  obtain ⟨v, _, ⟨T', L', k', n'⟩, -, X', ⟨L, hQ, e1, e2, e3⟩, st⟩ := X.virtualBackUp hx (x := y) (y := z) (owner := owner) hown (mvT hZ w1) (mvT hZ w7) (mvT hZ w2) ho (mvT hZ w5) (mvT hZ w6) (backOf (W := W) hM hZ w4 w3 hf hl) q1 q2 hg hsize (Steps.refl _) hlen hstack hW hdg (fun _ _ => ⟨rfl, eT, hc, hs⟩)
  dsimp only [Pt.U, Pt.locs, Pt.cells, Pt.slots] at X' e1 e2 e3 st hQ
  subst e1 e2 e3
  exact ⟨v, T', L, X', hQ, fun t k => st.trans k⟩
theorem own_wd {ts : List Cond} (hw : ∀ d ∈ ts, d.before a0 Z = true) {d : Cond} (n : Nat) (h : ts[n]? = some d) : d.before a0 Z = true := hw d (List.mem_of_getElem? h)
theorem own_fldI {t : Term} {w : Addr} {C n d : String} {k : Int32} (ev : t.eval args s none [] s = some (.ref w)) (h : (Cond.eq (Term.field t C n d) (Term.int k)).value args s none s [] = some true) : Fld s s.heap w C n d (.int k) := by
  apply Fld.start
  cases hf : s.fieldOf? w C n d with
  | none => simp [Cond.value, Term.eval, ev, hf] at h
  | some x => cases x <;> simp [Cond.value, Term.eval, ev, hf] at h ⊢; exact h
theorem own_fldN {t : Term} {w : Addr} {C n d : String} (ev : t.eval args s none [] s = some (.ref w)) (h : (Cond.eq (Term.field t C n d) Term.null).value args s none s [] = some true) : Fld s s.heap w C n d .null := by
  have q := null_v h
  rw [fld_at ev] at q
  exact Fld.start q
theorem own_fldR {t u : Term} {w b : Addr} {C n d : String} (ev : t.eval args s none [] s = some (.ref w)) (eu : u.eval args s none [] s = some (.ref b)) (h : (Cond.eq (Term.field t C n d) u).value args s none s [] = some true) : Fld s s.heap w C n d (.ref b) := by
  apply Fld.start
  cases hf : s.fieldOf? w C n d with
  | none => simp [Cond.value, Term.eval, ev, eu, hf] at h
  | some x => cases x <;> simp [Cond.value, Term.eval, ev, eu, hf] at h ⊢; exact h
theorem own_ne {t u : Term} {w b : Addr} (ev : t.eval args s none [] s = some (.ref w)) (eu : u.eval args s none [] s = some (.ref b)) (h : (Cond.not (Cond.eq t u)).value args s none s [] = some true) : w ≠ b := by
  have q := not_v h
  intro e
  subst e
  simp [Cond.value, ev, eu] at q
end Own
end Jvm.RoadKit
namespace Jvm.Pilot.@@N@@
open Jvm Jvm.ClassFile Sem Op Lib Jvm.Free Jvm.Stand Jvm.LawKit Jvm.RoadKit Bundle Jvm.Pilot.@@N@@.Jvm.D
theorem own_d_prog_68_method_4_code_0 : decode prog_68_method_4_code 0 = .ok (.iload_n 1, 1) := by decide +kernel
theorem own_d_prog_68_method_4_code_1 : decode prog_68_method_4_code 1 = .ok (.aload_n 0, 1) := by decide +kernel
theorem own_d_prog_68_method_4_code_2 : decode prog_68_method_4_code 2 = .ok (.getfield 29, 3) := by decide +kernel
theorem own_d_prog_68_method_4_code_5 : decode prog_68_method_4_code 5 = .ok (.if_icmp .eq 50, 3) := by decide +kernel
theorem own_d_prog_68_method_4_code_55 : decode prog_68_method_4_code 55 = .ok (.iconst 1, 1) := by decide +kernel
theorem own_d_prog_68_method_4_code_56 : decode prog_68_method_4_code 56 = .ok (.goto 4, 3) := by decide +kernel
theorem own_d_prog_68_method_4_code_60 : decode prog_68_method_4_code 60 = .ok (.ireturn, 1) := by decide +kernel
theorem own_d_prog_68_method_4_code_8 : decode prog_68_method_4_code 8 = .ok (.iload_n 1, 1) := by decide +kernel
theorem own_d_prog_68_method_4_code_9 : decode prog_68_method_4_code 9 = .ok (.aload_n 0, 1) := by decide +kernel
theorem own_d_prog_68_method_4_code_10 : decode prog_68_method_4_code 10 = .ok (.getfield 33, 3) := by decide +kernel
theorem own_d_prog_68_method_4_code_13 : decode prog_68_method_4_code 13 = .ok (.if_icmp .eq 42, 3) := by decide +kernel
theorem own_d_prog_68_method_4_code_16 : decode prog_68_method_4_code 16 = .ok (.iload_n 1, 1) := by decide +kernel
theorem own_d_prog_68_method_4_code_17 : decode prog_68_method_4_code 17 = .ok (.aload_n 0, 1) := by decide +kernel
theorem own_d_prog_68_method_4_code_18 : decode prog_68_method_4_code 18 = .ok (.getfield 36, 3) := by decide +kernel
theorem own_d_prog_68_method_4_code_21 : decode prog_68_method_4_code 21 = .ok (.if_icmp .lt 16, 3) := by decide +kernel
theorem own_d_prog_68_method_4_code_37 : decode prog_68_method_4_code 37 = .ok (.iload_n 1, 1) := by decide +kernel
theorem own_d_prog_68_method_4_code_38 : decode prog_68_method_4_code 38 = .ok (.aload_n 0, 1) := by decide +kernel
theorem own_d_prog_68_method_4_code_39 : decode prog_68_method_4_code 39 = .ok (.getfield 42, 3) := by decide +kernel
theorem own_d_prog_68_method_4_code_42 : decode prog_68_method_4_code 42 = .ok (.if_icmp .lt 17, 3) := by decide +kernel
theorem own_d_prog_68_method_4_code_59 : decode prog_68_method_4_code 59 = .ok (.iconst 0, 1) := by decide +kernel
theorem own_d_prog_68_method_4_code_45 : decode prog_68_method_4_code 45 = .ok (.iload_n 1, 1) := by decide +kernel
theorem own_d_prog_68_method_4_code_46 : decode prog_68_method_4_code 46 = .ok (.aload_n 0, 1) := by decide +kernel
theorem own_d_prog_68_method_4_code_47 : decode prog_68_method_4_code 47 = .ok (.getfield 42, 3) := by decide +kernel
theorem own_d_prog_68_method_4_code_50 : decode prog_68_method_4_code 50 = .ok (.iconst 3, 1) := by decide +kernel
theorem own_d_prog_68_method_4_code_51 : decode prog_68_method_4_code 51 = .ok (.iadd, 1) := by decide +kernel
theorem own_d_prog_68_method_4_code_52 : decode prog_68_method_4_code 52 = .ok (.if_icmp .gt 7, 3) := by decide +kernel
theorem own_d_prog_68_method_4_code_24 : decode prog_68_method_4_code 24 = .ok (.iload_n 1, 1) := by decide +kernel
theorem own_d_prog_68_method_4_code_25 : decode prog_68_method_4_code 25 = .ok (.aload_n 0, 1) := by decide +kernel
theorem own_d_prog_68_method_4_code_26 : decode prog_68_method_4_code 26 = .ok (.getfield 36, 3) := by decide +kernel
theorem own_d_prog_68_method_4_code_29 : decode prog_68_method_4_code 29 = .ok (.aload_n 0, 1) := by decide +kernel
theorem own_d_prog_68_method_4_code_30 : decode prog_68_method_4_code 30 = .ok (.getfield 39, 3) := by decide +kernel
theorem own_d_prog_68_method_4_code_33 : decode prog_68_method_4_code 33 = .ok (.iadd, 1) := by decide +kernel
theorem own_d_prog_68_method_4_code_34 : decode prog_68_method_4_code 34 = .ok (.if_icmp .le 21, 3) := by decide +kernel
def own_f26 (a1 : Addr) (p2 : Int32) (w3 : Int32) (w5 : Int32) (w7 : Int32) (w9 : Int32) (w11 : Int32) : Int32 := (if p2 = w3 then (1 : Int32) else (if p2 = w5 then (1 : Int32) else (if p2 < w7 then (if p2 < w9 then (0 : Int32) else (if (w9 + (3 : Int32)) < p2 then (0 : Int32) else (1 : Int32))) else (if (w7 + w11) < p2 then (if p2 < w9 then (0 : Int32) else (if (w9 + (3 : Int32)) < p2 then (0 : Int32) else (1 : Int32))) else (1 : Int32)))))
theorem own_ef26 (m : MethodId) (x0 : Addr) (x1 : Int32) : entryFrame m #[(.ref x0), (.int x1)] 2 = mkF m 0 #[.val (.ref x0), .val (.int x1)] [] := by first | (simp [entryFrame, mkF, argsToLocals, Value.category]; done) | rfl
theorem own_pn0 : plainName "com/example/bellwire/bellwire/hessian/Chunked" = true := by first | (simp [plainName, overriddenIn]; done) | decide +kernel
set_option maxRecDepth 65536 in
set_option maxHeartbeats 40000000 in
theorem own_rm26 (l : Launch) (Z : State) (a0 : Array Value) (hw : ∀ d ∈ tables_1, d.before a0 Z = true) (h0 : Heap) (a1 : Addr) (p2 : Int32) (w3 : Int32) (w5 : Int32) (w7 : Int32) (w9 : Int32) (w11 : Int32) (F4 : Fld Z h0 a1 "com/example/bellwire/bellwire/hessian/Chunked" "chunkCode" "I" (.int w3)) (F6 : Fld Z h0 a1 "com/example/bellwire/bellwire/hessian/Chunked" "finalCode" "I" (.int w5)) (F8 : Fld Z h0 a1 "com/example/bellwire/bellwire/hessian/Chunked" "tinyCode" "I" (.int w7)) (F10 : Fld Z h0 a1 "com/example/bellwire/bellwire/hessian/Chunked" "shortCode" "I" (.int w9)) (F12 : Fld Z h0 a1 "com/example/bellwire/bellwire/hessian/Chunked" "tinyMax" "I" (.int w11)) :
    own_Con l Z (⟨"com/example/bellwire/bellwire/hessian/Chunked", "startsChunk", "(I)Z"⟩ : MethodName) prog_68_method_4_code 2 (some .boolean) ({ frames := 0, cells := 0, slots := 0, locals := 0 } : Room) #[(.ref a1), (.int p2)] h0 (own_QP (some (.int (own_f26 a1 p2 w3 w5 w7 w9 w11))) h0) := by
  refine MetFree.of_bodySF (plainFor_of_name own_pn0) hisR ?_
  intro p e s m args below meth c s₁ Bd hml0 hP hK
  obtain ⟨rfl, hZ, hh⟩ := hP
  have hx := Bd.exec
  have hby := Bd.bytes
  have hml : c.maxLocals = 2 := hml0
  have hown : s.vm.findClass "com/example/bellwire/bellwire/hessian/Chunked" = some m.cls := findClass_of_methodNamed Bd.named
  have X0 : Stand p l e ({ frames := 0, cells := 0, slots := 0, locals := 0 } : Room) s m #[(.ref a1), (.int p2)] below meth c s₁ [] 0 0 := Stand.of_body Bd
  have e0 : s₁.heap = h0 := by rw [← hh, Bd.state]; rfl
  show own_Go p e below (own_K s (own_QP (some (.int (own_f26 a1 p2 w3 w5 w7 w9 w11))) h0) 0 0) s₁ (entryFrame m #[(.ref a1), (.int p2)] 2)
  rw [own_ef26]
  refine own_go (T2 := s₁) (g2 := (mkF m 1 #[.val (.ref a1), .val (.int p2)] [(.int p2)])) (fun t k => XS.iloadN X0.here hx rfl (hb hby own_d_prog_68_method_4_code_0) rfl  k) ?_
  refine own_go (T2 := s₁) (g2 := (mkF m 2 #[.val (.ref a1), .val (.int p2)] [(.ref a1), (.int p2)])) (fun t k => XS.aloadN X0.here hx rfl (hb hby own_d_prog_68_method_4_code_1) rfl rfl k) ?_
  obtain ⟨T27, X27, e27, st27⟩ := getF X0 hx hZ hown (host := "") (Or.inl (own_wd hw 8 rfl)) Via.refl e0 F4 (g := (mkF m 2 #[.val (.ref a1), .val (.int p2)] [(.ref a1), (.int p2)])) rfl rfl (hb hby own_d_prog_68_method_4_code_2)
  refine own_go (T2 := T27) (g2 := (mkF m 5 #[.val (.ref a1), .val (.int p2)] [(.int w3), (.int p2)])) st27 ?_
  by_cases hc28 : p2 = w3
  · refine own_go (T2 := T27) (g2 := (mkF m 55 #[.val (.ref a1), .val (.int p2)] [])) (fun t k => XS.icmpYes X27.here hx rfl (pc0 := 5) (pc' := 55) rfl (hb hby own_d_prog_68_method_4_code_5) rfl (teq (show p2 = w3 from hc28)).1 (by decide) (by decide) k) ?_
    refine own_go (T2 := T27) (g2 := (mkF m 56 #[.val (.ref a1), .val (.int p2)] [(.int (1 : Int32))])) (fun t k => XS.iconst X27.here hx rfl (hb hby own_d_prog_68_method_4_code_55) k) ?_
    refine own_go (T2 := T27) (g2 := (mkF m 60 #[.val (.ref a1), .val (.int p2)] [(.int (1 : Int32))])) (fun t k => XS.goto X27.here hx rfl (pc0 := 56) (pc' := 60) rfl (hb hby own_d_prog_68_method_4_code_56) (by decide) (by decide) k) ?_
    exact own_endN X27 hx Bd.notSynchronized (t := .boolean) Bd.returns (by simp) (hb hby own_d_prog_68_method_4_code_60) (z' := (1 : Int32)) rfl (by decide) (by decide) ⟨(by simp only [own_f26, if_pos hc28]), rfl, e27⟩
  · refine own_go (T2 := T27) (g2 := (mkF m 8 #[.val (.ref a1), .val (.int p2)] [])) (fun t k => XS.icmpNo X27.here hx rfl (hb hby own_d_prog_68_method_4_code_5) rfl (feq (show ¬ (p2 = w3) from hc28)).1 k) ?_
    refine own_go (T2 := T27) (g2 := (mkF m 9 #[.val (.ref a1), .val (.int p2)] [(.int p2)])) (fun t k => XS.iloadN X27.here hx rfl (hb hby own_d_prog_68_method_4_code_8) rfl  k) ?_
    refine own_go (T2 := T27) (g2 := (mkF m 10 #[.val (.ref a1), .val (.int p2)] [(.ref a1), (.int p2)])) (fun t k => XS.aloadN X27.here hx rfl (hb hby own_d_prog_68_method_4_code_9) rfl rfl k) ?_
    obtain ⟨T29, X29, e29, st29⟩ := getF X27 hx hZ hown (host := "") (Or.inl (own_wd hw 10 rfl)) Via.refl e27 F6 (g := (mkF m 10 #[.val (.ref a1), .val (.int p2)] [(.ref a1), (.int p2)])) rfl rfl (hb hby own_d_prog_68_method_4_code_10)
    refine own_go (T2 := T29) (g2 := (mkF m 13 #[.val (.ref a1), .val (.int p2)] [(.int w5), (.int p2)])) st29 ?_
    by_cases hc30 : p2 = w5
    · refine own_go (T2 := T29) (g2 := (mkF m 55 #[.val (.ref a1), .val (.int p2)] [])) (fun t k => XS.icmpYes X29.here hx rfl (pc0 := 13) (pc' := 55) rfl (hb hby own_d_prog_68_method_4_code_13) rfl (teq (show p2 = w5 from hc30)).1 (by decide) (by decide) k) ?_
      refine own_go (T2 := T29) (g2 := (mkF m 56 #[.val (.ref a1), .val (.int p2)] [(.int (1 : Int32))])) (fun t k => XS.iconst X29.here hx rfl (hb hby own_d_prog_68_method_4_code_55) k) ?_
      refine own_go (T2 := T29) (g2 := (mkF m 60 #[.val (.ref a1), .val (.int p2)] [(.int (1 : Int32))])) (fun t k => XS.goto X29.here hx rfl (pc0 := 56) (pc' := 60) rfl (hb hby own_d_prog_68_method_4_code_56) (by decide) (by decide) k) ?_
      exact own_endN X29 hx Bd.notSynchronized (t := .boolean) Bd.returns (by simp) (hb hby own_d_prog_68_method_4_code_60) (z' := (1 : Int32)) rfl (by decide) (by decide) ⟨(by simp only [own_f26, if_neg hc28, if_pos hc30]), rfl, e29⟩
    · refine own_go (T2 := T29) (g2 := (mkF m 16 #[.val (.ref a1), .val (.int p2)] [])) (fun t k => XS.icmpNo X29.here hx rfl (hb hby own_d_prog_68_method_4_code_13) rfl (feq (show ¬ (p2 = w5) from hc30)).1 k) ?_
      refine own_go (T2 := T29) (g2 := (mkF m 17 #[.val (.ref a1), .val (.int p2)] [(.int p2)])) (fun t k => XS.iloadN X29.here hx rfl (hb hby own_d_prog_68_method_4_code_16) rfl  k) ?_
      refine own_go (T2 := T29) (g2 := (mkF m 18 #[.val (.ref a1), .val (.int p2)] [(.ref a1), (.int p2)])) (fun t k => XS.aloadN X29.here hx rfl (hb hby own_d_prog_68_method_4_code_17) rfl rfl k) ?_
      obtain ⟨T31, X31, e31, st31⟩ := getF X29 hx hZ hown (host := "") (Or.inl (own_wd hw 12 rfl)) Via.refl e29 F8 (g := (mkF m 18 #[.val (.ref a1), .val (.int p2)] [(.ref a1), (.int p2)])) rfl rfl (hb hby own_d_prog_68_method_4_code_18)
      refine own_go (T2 := T31) (g2 := (mkF m 21 #[.val (.ref a1), .val (.int p2)] [(.int w7), (.int p2)])) st31 ?_
      by_cases hc32 : p2 < w7
      · refine own_go (T2 := T31) (g2 := (mkF m 37 #[.val (.ref a1), .val (.int p2)] [])) (fun t k => XS.icmpYes X31.here hx rfl (pc0 := 21) (pc' := 37) rfl (hb hby own_d_prog_68_method_4_code_21) rfl (tlt (show p2 < w7 from hc32)).1 (by decide) (by decide) k) ?_
        refine own_go (T2 := T31) (g2 := (mkF m 38 #[.val (.ref a1), .val (.int p2)] [(.int p2)])) (fun t k => XS.iloadN X31.here hx rfl (hb hby own_d_prog_68_method_4_code_37) rfl  k) ?_
        refine own_go (T2 := T31) (g2 := (mkF m 39 #[.val (.ref a1), .val (.int p2)] [(.ref a1), (.int p2)])) (fun t k => XS.aloadN X31.here hx rfl (hb hby own_d_prog_68_method_4_code_38) rfl rfl k) ?_
        obtain ⟨T33, X33, e33, st33⟩ := getF X31 hx hZ hown (host := "") (Or.inl (own_wd hw 22 rfl)) Via.refl e31 F10 (g := (mkF m 39 #[.val (.ref a1), .val (.int p2)] [(.ref a1), (.int p2)])) rfl rfl (hb hby own_d_prog_68_method_4_code_39)
        refine own_go (T2 := T33) (g2 := (mkF m 42 #[.val (.ref a1), .val (.int p2)] [(.int w9), (.int p2)])) st33 ?_
        by_cases hc34 : p2 < w9
        · refine own_go (T2 := T33) (g2 := (mkF m 59 #[.val (.ref a1), .val (.int p2)] [])) (fun t k => XS.icmpYes X33.here hx rfl (pc0 := 42) (pc' := 59) rfl (hb hby own_d_prog_68_method_4_code_42) rfl (tlt (show p2 < w9 from hc34)).1 (by decide) (by decide) k) ?_
          refine own_go (T2 := T33) (g2 := (mkF m 60 #[.val (.ref a1), .val (.int p2)] [(.int (0 : Int32))])) (fun t k => XS.iconst X33.here hx rfl (hb hby own_d_prog_68_method_4_code_59) k) ?_
          exact own_endN X33 hx Bd.notSynchronized (t := .boolean) Bd.returns (by simp) (hb hby own_d_prog_68_method_4_code_60) (z' := (0 : Int32)) rfl (by decide) (by decide) ⟨(by simp only [own_f26, if_neg hc28, if_neg hc30, if_pos hc32, if_pos hc34]), rfl, e33⟩
        · refine own_go (T2 := T33) (g2 := (mkF m 45 #[.val (.ref a1), .val (.int p2)] [])) (fun t k => XS.icmpNo X33.here hx rfl (hb hby own_d_prog_68_method_4_code_42) rfl (flt (show ¬ (p2 < w9) from hc34)).1 k) ?_
          refine own_go (T2 := T33) (g2 := (mkF m 46 #[.val (.ref a1), .val (.int p2)] [(.int p2)])) (fun t k => XS.iloadN X33.here hx rfl (hb hby own_d_prog_68_method_4_code_45) rfl  k) ?_
          refine own_go (T2 := T33) (g2 := (mkF m 47 #[.val (.ref a1), .val (.int p2)] [(.ref a1), (.int p2)])) (fun t k => XS.aloadN X33.here hx rfl (hb hby own_d_prog_68_method_4_code_46) rfl rfl k) ?_
          obtain ⟨T35, X35, e35, st35⟩ := getF X33 hx hZ hown (host := "") (Or.inl (own_wd hw 22 rfl)) Via.refl e33 F10 (g := (mkF m 47 #[.val (.ref a1), .val (.int p2)] [(.ref a1), (.int p2)])) rfl rfl (hb hby own_d_prog_68_method_4_code_47)
          refine own_go (T2 := T35) (g2 := (mkF m 50 #[.val (.ref a1), .val (.int p2)] [(.int w9), (.int p2)])) st35 ?_
          refine own_go (T2 := T35) (g2 := (mkF m 51 #[.val (.ref a1), .val (.int p2)] [(.int (3 : Int32)), (.int w9), (.int p2)])) (fun t k => XS.iconst X35.here hx rfl (hb hby own_d_prog_68_method_4_code_50) k) ?_
          refine own_go (T2 := T35) (g2 := (mkF m 52 #[.val (.ref a1), .val (.int p2)] [(.int (w9 + (3 : Int32))), (.int p2)])) (fun t k => XS.iadd X35.here hx rfl (hb hby own_d_prog_68_method_4_code_51) rfl k) ?_
          by_cases hc36 : (w9 + (3 : Int32)) < p2
          · refine own_go (T2 := T35) (g2 := (mkF m 59 #[.val (.ref a1), .val (.int p2)] [])) (fun t k => XS.icmpYes X35.here hx rfl (pc0 := 52) (pc' := 59) rfl (hb hby own_d_prog_68_method_4_code_52) rfl (tlt (show (w9 + (3 : Int32)) < p2 from hc36)).2.2.1 (by decide) (by decide) k) ?_
            refine own_go (T2 := T35) (g2 := (mkF m 60 #[.val (.ref a1), .val (.int p2)] [(.int (0 : Int32))])) (fun t k => XS.iconst X35.here hx rfl (hb hby own_d_prog_68_method_4_code_59) k) ?_
            exact own_endN X35 hx Bd.notSynchronized (t := .boolean) Bd.returns (by simp) (hb hby own_d_prog_68_method_4_code_60) (z' := (0 : Int32)) rfl (by decide) (by decide) ⟨(by simp only [own_f26, if_neg hc28, if_neg hc30, if_pos hc32, if_neg hc34, if_pos hc36]), rfl, e35⟩
          · refine own_go (T2 := T35) (g2 := (mkF m 55 #[.val (.ref a1), .val (.int p2)] [])) (fun t k => XS.icmpNo X35.here hx rfl (hb hby own_d_prog_68_method_4_code_52) rfl (flt (show ¬ ((w9 + (3 : Int32)) < p2) from hc36)).2.2.1 k) ?_
            refine own_go (T2 := T35) (g2 := (mkF m 56 #[.val (.ref a1), .val (.int p2)] [(.int (1 : Int32))])) (fun t k => XS.iconst X35.here hx rfl (hb hby own_d_prog_68_method_4_code_55) k) ?_
            refine own_go (T2 := T35) (g2 := (mkF m 60 #[.val (.ref a1), .val (.int p2)] [(.int (1 : Int32))])) (fun t k => XS.goto X35.here hx rfl (pc0 := 56) (pc' := 60) rfl (hb hby own_d_prog_68_method_4_code_56) (by decide) (by decide) k) ?_
            exact own_endN X35 hx Bd.notSynchronized (t := .boolean) Bd.returns (by simp) (hb hby own_d_prog_68_method_4_code_60) (z' := (1 : Int32)) rfl (by decide) (by decide) ⟨(by simp only [own_f26, if_neg hc28, if_neg hc30, if_pos hc32, if_neg hc34, if_neg hc36]), rfl, e35⟩
      · refine own_go (T2 := T31) (g2 := (mkF m 24 #[.val (.ref a1), .val (.int p2)] [])) (fun t k => XS.icmpNo X31.here hx rfl (hb hby own_d_prog_68_method_4_code_21) rfl (flt (show ¬ (p2 < w7) from hc32)).1 k) ?_
        refine own_go (T2 := T31) (g2 := (mkF m 25 #[.val (.ref a1), .val (.int p2)] [(.int p2)])) (fun t k => XS.iloadN X31.here hx rfl (hb hby own_d_prog_68_method_4_code_24) rfl  k) ?_
        refine own_go (T2 := T31) (g2 := (mkF m 26 #[.val (.ref a1), .val (.int p2)] [(.ref a1), (.int p2)])) (fun t k => XS.aloadN X31.here hx rfl (hb hby own_d_prog_68_method_4_code_25) rfl rfl k) ?_
        obtain ⟨T37, X37, e37, st37⟩ := getF X31 hx hZ hown (host := "") (Or.inl (own_wd hw 12 rfl)) Via.refl e31 F8 (g := (mkF m 26 #[.val (.ref a1), .val (.int p2)] [(.ref a1), (.int p2)])) rfl rfl (hb hby own_d_prog_68_method_4_code_26)
        refine own_go (T2 := T37) (g2 := (mkF m 29 #[.val (.ref a1), .val (.int p2)] [(.int w7), (.int p2)])) st37 ?_
        refine own_go (T2 := T37) (g2 := (mkF m 30 #[.val (.ref a1), .val (.int p2)] [(.ref a1), (.int w7), (.int p2)])) (fun t k => XS.aloadN X37.here hx rfl (hb hby own_d_prog_68_method_4_code_29) rfl rfl k) ?_
        obtain ⟨T38, X38, e38, st38⟩ := getF X37 hx hZ hown (host := "") (Or.inl (own_wd hw 14 rfl)) Via.refl e37 F12 (g := (mkF m 30 #[.val (.ref a1), .val (.int p2)] [(.ref a1), (.int w7), (.int p2)])) rfl rfl (hb hby own_d_prog_68_method_4_code_30)
        refine own_go (T2 := T38) (g2 := (mkF m 33 #[.val (.ref a1), .val (.int p2)] [(.int w11), (.int w7), (.int p2)])) st38 ?_
        refine own_go (T2 := T38) (g2 := (mkF m 34 #[.val (.ref a1), .val (.int p2)] [(.int (w7 + w11)), (.int p2)])) (fun t k => XS.iadd X38.here hx rfl (hb hby own_d_prog_68_method_4_code_33) rfl k) ?_
        by_cases hc39 : (w7 + w11) < p2
        · refine own_go (T2 := T38) (g2 := (mkF m 37 #[.val (.ref a1), .val (.int p2)] [])) (fun t k => XS.icmpNo X38.here hx rfl (hb hby own_d_prog_68_method_4_code_34) rfl (tlt (show (w7 + w11) < p2 from hc39)).2.2.2 k) ?_
          refine own_go (T2 := T38) (g2 := (mkF m 38 #[.val (.ref a1), .val (.int p2)] [(.int p2)])) (fun t k => XS.iloadN X38.here hx rfl (hb hby own_d_prog_68_method_4_code_37) rfl  k) ?_
          refine own_go (T2 := T38) (g2 := (mkF m 39 #[.val (.ref a1), .val (.int p2)] [(.ref a1), (.int p2)])) (fun t k => XS.aloadN X38.here hx rfl (hb hby own_d_prog_68_method_4_code_38) rfl rfl k) ?_
          obtain ⟨T40, X40, e40, st40⟩ := getF X38 hx hZ hown (host := "") (Or.inl (own_wd hw 22 rfl)) Via.refl e38 F10 (g := (mkF m 39 #[.val (.ref a1), .val (.int p2)] [(.ref a1), (.int p2)])) rfl rfl (hb hby own_d_prog_68_method_4_code_39)
          refine own_go (T2 := T40) (g2 := (mkF m 42 #[.val (.ref a1), .val (.int p2)] [(.int w9), (.int p2)])) st40 ?_
          by_cases hc41 : p2 < w9
          · refine own_go (T2 := T40) (g2 := (mkF m 59 #[.val (.ref a1), .val (.int p2)] [])) (fun t k => XS.icmpYes X40.here hx rfl (pc0 := 42) (pc' := 59) rfl (hb hby own_d_prog_68_method_4_code_42) rfl (tlt (show p2 < w9 from hc41)).1 (by decide) (by decide) k) ?_
            refine own_go (T2 := T40) (g2 := (mkF m 60 #[.val (.ref a1), .val (.int p2)] [(.int (0 : Int32))])) (fun t k => XS.iconst X40.here hx rfl (hb hby own_d_prog_68_method_4_code_59) k) ?_
            exact own_endN X40 hx Bd.notSynchronized (t := .boolean) Bd.returns (by simp) (hb hby own_d_prog_68_method_4_code_60) (z' := (0 : Int32)) rfl (by decide) (by decide) ⟨(by simp only [own_f26, if_neg hc28, if_neg hc30, if_neg hc32, if_pos hc39, if_pos hc41]), rfl, e40⟩
          · refine own_go (T2 := T40) (g2 := (mkF m 45 #[.val (.ref a1), .val (.int p2)] [])) (fun t k => XS.icmpNo X40.here hx rfl (hb hby own_d_prog_68_method_4_code_42) rfl (flt (show ¬ (p2 < w9) from hc41)).1 k) ?_
            refine own_go (T2 := T40) (g2 := (mkF m 46 #[.val (.ref a1), .val (.int p2)] [(.int p2)])) (fun t k => XS.iloadN X40.here hx rfl (hb hby own_d_prog_68_method_4_code_45) rfl  k) ?_
            refine own_go (T2 := T40) (g2 := (mkF m 47 #[.val (.ref a1), .val (.int p2)] [(.ref a1), (.int p2)])) (fun t k => XS.aloadN X40.here hx rfl (hb hby own_d_prog_68_method_4_code_46) rfl rfl k) ?_
            obtain ⟨T42, X42, e42, st42⟩ := getF X40 hx hZ hown (host := "") (Or.inl (own_wd hw 22 rfl)) Via.refl e40 F10 (g := (mkF m 47 #[.val (.ref a1), .val (.int p2)] [(.ref a1), (.int p2)])) rfl rfl (hb hby own_d_prog_68_method_4_code_47)
            refine own_go (T2 := T42) (g2 := (mkF m 50 #[.val (.ref a1), .val (.int p2)] [(.int w9), (.int p2)])) st42 ?_
            refine own_go (T2 := T42) (g2 := (mkF m 51 #[.val (.ref a1), .val (.int p2)] [(.int (3 : Int32)), (.int w9), (.int p2)])) (fun t k => XS.iconst X42.here hx rfl (hb hby own_d_prog_68_method_4_code_50) k) ?_
            refine own_go (T2 := T42) (g2 := (mkF m 52 #[.val (.ref a1), .val (.int p2)] [(.int (w9 + (3 : Int32))), (.int p2)])) (fun t k => XS.iadd X42.here hx rfl (hb hby own_d_prog_68_method_4_code_51) rfl k) ?_
            by_cases hc43 : (w9 + (3 : Int32)) < p2
            · refine own_go (T2 := T42) (g2 := (mkF m 59 #[.val (.ref a1), .val (.int p2)] [])) (fun t k => XS.icmpYes X42.here hx rfl (pc0 := 52) (pc' := 59) rfl (hb hby own_d_prog_68_method_4_code_52) rfl (tlt (show (w9 + (3 : Int32)) < p2 from hc43)).2.2.1 (by decide) (by decide) k) ?_
              refine own_go (T2 := T42) (g2 := (mkF m 60 #[.val (.ref a1), .val (.int p2)] [(.int (0 : Int32))])) (fun t k => XS.iconst X42.here hx rfl (hb hby own_d_prog_68_method_4_code_59) k) ?_
              exact own_endN X42 hx Bd.notSynchronized (t := .boolean) Bd.returns (by simp) (hb hby own_d_prog_68_method_4_code_60) (z' := (0 : Int32)) rfl (by decide) (by decide) ⟨(by simp only [own_f26, if_neg hc28, if_neg hc30, if_neg hc32, if_pos hc39, if_neg hc41, if_pos hc43]), rfl, e42⟩
            · refine own_go (T2 := T42) (g2 := (mkF m 55 #[.val (.ref a1), .val (.int p2)] [])) (fun t k => XS.icmpNo X42.here hx rfl (hb hby own_d_prog_68_method_4_code_52) rfl (flt (show ¬ ((w9 + (3 : Int32)) < p2) from hc43)).2.2.1 k) ?_
              refine own_go (T2 := T42) (g2 := (mkF m 56 #[.val (.ref a1), .val (.int p2)] [(.int (1 : Int32))])) (fun t k => XS.iconst X42.here hx rfl (hb hby own_d_prog_68_method_4_code_55) k) ?_
              refine own_go (T2 := T42) (g2 := (mkF m 60 #[.val (.ref a1), .val (.int p2)] [(.int (1 : Int32))])) (fun t k => XS.goto X42.here hx rfl (pc0 := 56) (pc' := 60) rfl (hb hby own_d_prog_68_method_4_code_56) (by decide) (by decide) k) ?_
              exact own_endN X42 hx Bd.notSynchronized (t := .boolean) Bd.returns (by simp) (hb hby own_d_prog_68_method_4_code_60) (z' := (1 : Int32)) rfl (by decide) (by decide) ⟨(by simp only [own_f26, if_neg hc28, if_neg hc30, if_neg hc32, if_pos hc39, if_neg hc41, if_neg hc43]), rfl, e42⟩
        · refine own_go (T2 := T38) (g2 := (mkF m 55 #[.val (.ref a1), .val (.int p2)] [])) (fun t k => XS.icmpYes X38.here hx rfl (pc0 := 34) (pc' := 55) rfl (hb hby own_d_prog_68_method_4_code_34) rfl (flt (show ¬ ((w7 + w11) < p2) from hc39)).2.2.2 (by decide) (by decide) k) ?_
          refine own_go (T2 := T38) (g2 := (mkF m 56 #[.val (.ref a1), .val (.int p2)] [(.int (1 : Int32))])) (fun t k => XS.iconst X38.here hx rfl (hb hby own_d_prog_68_method_4_code_55) k) ?_
          refine own_go (T2 := T38) (g2 := (mkF m 60 #[.val (.ref a1), .val (.int p2)] [(.int (1 : Int32))])) (fun t k => XS.goto X38.here hx rfl (pc0 := 56) (pc' := 60) rfl (hb hby own_d_prog_68_method_4_code_56) (by decide) (by decide) k) ?_
          exact own_endN X38 hx Bd.notSynchronized (t := .boolean) Bd.returns (by simp) (hb hby own_d_prog_68_method_4_code_60) (z' := (1 : Int32)) rfl (by decide) (by decide) ⟨(by simp only [own_f26, if_neg hc28, if_neg hc30, if_neg hc32, if_neg hc39]), rfl, e38⟩
theorem own_pd0 : parseMethodDescriptor "(I)Z" = some ⟨[.int], some .boolean⟩ := by decide +kernel
theorem own_d_method_2_code_0 : decode method_2_code 0 = .ok (.iload_n 0, 1) := by decide +kernel
theorem own_d_method_2_code_1 : decode method_2_code 1 = .ok (.bipush 82, 2) := by decide +kernel
theorem own_d_method_2_code_3 : decode method_2_code 3 = .ok (.if_icmp .eq 9, 3) := by decide +kernel
theorem own_d_method_2_code_12 : decode method_2_code 12 = .ok (.iconst 1, 1) := by decide +kernel
theorem own_d_method_2_code_13 : decode method_2_code 13 = .ok (.ireturn, 1) := by decide +kernel
theorem own_d_method_2_code_6 : decode method_2_code 6 = .ok (.iload_n 0, 1) := by decide +kernel
theorem own_d_method_2_code_7 : decode method_2_code 7 = .ok (.bipush 83, 2) := by decide +kernel
theorem own_d_method_2_code_9 : decode method_2_code 9 = .ok (.if_icmp .ne 5, 3) := by decide +kernel
theorem own_d_method_2_code_14 : decode method_2_code 14 = .ok (.iload_n 0, 1) := by decide +kernel
theorem own_d_method_2_code_15 : decode method_2_code 15 = .ok (.ifCond .lt 11, 3) := by decide +kernel
theorem own_d_method_2_code_26 : decode method_2_code 26 = .ok (.iload_n 0, 1) := by decide +kernel
theorem own_d_method_2_code_27 : decode method_2_code 27 = .ok (.bipush 48, 2) := by decide +kernel
theorem own_d_method_2_code_29 : decode method_2_code 29 = .ok (.if_icmp .lt 11, 3) := by decide +kernel
theorem own_d_method_2_code_40 : decode method_2_code 40 = .ok (.iconst 0, 1) := by decide +kernel
theorem own_d_method_2_code_41 : decode method_2_code 41 = .ok (.ireturn, 1) := by decide +kernel
theorem own_d_method_2_code_32 : decode method_2_code 32 = .ok (.iload_n 0, 1) := by decide +kernel
theorem own_d_method_2_code_33 : decode method_2_code 33 = .ok (.bipush 51, 2) := by decide +kernel
theorem own_d_method_2_code_35 : decode method_2_code 35 = .ok (.if_icmp .gt 5, 3) := by decide +kernel
theorem own_d_method_2_code_38 : decode method_2_code 38 = .ok (.iconst 1, 1) := by decide +kernel
theorem own_d_method_2_code_39 : decode method_2_code 39 = .ok (.ireturn, 1) := by decide +kernel
theorem own_d_method_2_code_18 : decode method_2_code 18 = .ok (.iload_n 0, 1) := by decide +kernel
theorem own_d_method_2_code_19 : decode method_2_code 19 = .ok (.bipush 31, 2) := by decide +kernel
theorem own_d_method_2_code_21 : decode method_2_code 21 = .ok (.if_icmp .gt 5, 3) := by decide +kernel
theorem own_d_method_2_code_24 : decode method_2_code 24 = .ok (.iconst 1, 1) := by decide +kernel
theorem own_d_method_2_code_25 : decode method_2_code 25 = .ok (.ireturn, 1) := by decide +kernel
def own_f45 (p1 : Int32) : Int32 := (if p1 = (82 : Int32) then (1 : Int32) else (if p1 = (83 : Int32) then (1 : Int32) else (if p1 < (0 : Int32) then (if p1 < (48 : Int32) then (0 : Int32) else (if (51 : Int32) < p1 then (0 : Int32) else (1 : Int32))) else (if (31 : Int32) < p1 then (if p1 < (48 : Int32) then (0 : Int32) else (if (51 : Int32) < p1 then (0 : Int32) else (1 : Int32))) else (1 : Int32)))))
theorem own_ef45 (m : MethodId) (x0 : Int32) : entryFrame m #[(.int x0)] 1 = mkF m 0 #[.val (.int x0)] [] := by first | (simp [entryFrame, mkF, argsToLocals, Value.category]; done) | rfl
theorem own_pn1 : plainName "com/example/bellwire/bellwire/hessian/ChunkedStartsChunkPinLaw" = true := by first | (simp [plainName, overriddenIn]; done) | decide +kernel
set_option maxRecDepth 65536 in
set_option maxHeartbeats 40000000 in
theorem own_rm45 (l : Launch) (Z : State) (a0 : Array Value) (hw : ∀ d ∈ tables_1, d.before a0 Z = true) (h0 : Heap) (p1 : Int32)  :
    own_Con l Z (⟨"com/example/bellwire/bellwire/hessian/ChunkedStartsChunkPinLaw", "refString", "(I)Z"⟩ : MethodName) method_2_code 1 (some .boolean) ({ frames := 0, cells := 0, slots := 0, locals := 0 } : Room) #[(.int p1)] h0 (own_QP (some (.int (own_f45 p1))) h0) := by
  refine MetFree.of_bodySF (plainFor_of_name own_pn1) hisR ?_
  intro p e s m args below meth c s₁ Bd hml0 hP hK
  obtain ⟨rfl, hZ, hh⟩ := hP
  have hx := Bd.exec
  have hby := Bd.bytes
  have hml : c.maxLocals = 1 := hml0
  have hown : s.vm.findClass "com/example/bellwire/bellwire/hessian/ChunkedStartsChunkPinLaw" = some m.cls := findClass_of_methodNamed Bd.named
  have X0 : Stand p l e ({ frames := 0, cells := 0, slots := 0, locals := 0 } : Room) s m #[(.int p1)] below meth c s₁ [] 0 0 := Stand.of_body Bd
  have e0 : s₁.heap = h0 := by rw [← hh, Bd.state]; rfl
  show own_Go p e below (own_K s (own_QP (some (.int (own_f45 p1))) h0) 0 0) s₁ (entryFrame m #[(.int p1)] 1)
  rw [own_ef45]
  refine own_go (T2 := s₁) (g2 := (mkF m 1 #[.val (.int p1)] [(.int p1)])) (fun t k => XS.iloadN X0.here hx rfl (hb hby own_d_method_2_code_0) rfl  k) ?_
  refine own_go (T2 := s₁) (g2 := (mkF m 3 #[.val (.int p1)] [(.int (82 : Int32)), (.int p1)])) (fun t k => XS.bipush X0.here hx rfl (hb hby own_d_method_2_code_1) k) ?_
  by_cases hc46 : p1 = (82 : Int32)
  · refine own_go (T2 := s₁) (g2 := (mkF m 12 #[.val (.int p1)] [])) (fun t k => XS.icmpYes X0.here hx rfl (pc0 := 3) (pc' := 12) rfl (hb hby own_d_method_2_code_3) rfl (teq (show p1 = (82 : Int32) from hc46)).1 (by decide) (by decide) k) ?_
    refine own_go (T2 := s₁) (g2 := (mkF m 13 #[.val (.int p1)] [(.int (1 : Int32))])) (fun t k => XS.iconst X0.here hx rfl (hb hby own_d_method_2_code_12) k) ?_
    exact own_endN X0 hx Bd.notSynchronized (t := .boolean) Bd.returns (by simp) (hb hby own_d_method_2_code_13) (z' := (1 : Int32)) rfl (by decide) (by decide) ⟨(by simp only [own_f45, if_pos hc46]), rfl, e0⟩
  · refine own_go (T2 := s₁) (g2 := (mkF m 6 #[.val (.int p1)] [])) (fun t k => XS.icmpNo X0.here hx rfl (hb hby own_d_method_2_code_3) rfl (feq (show ¬ (p1 = (82 : Int32)) from hc46)).1 k) ?_
    refine own_go (T2 := s₁) (g2 := (mkF m 7 #[.val (.int p1)] [(.int p1)])) (fun t k => XS.iloadN X0.here hx rfl (hb hby own_d_method_2_code_6) rfl  k) ?_
    refine own_go (T2 := s₁) (g2 := (mkF m 9 #[.val (.int p1)] [(.int (83 : Int32)), (.int p1)])) (fun t k => XS.bipush X0.here hx rfl (hb hby own_d_method_2_code_7) k) ?_
    by_cases hc47 : p1 = (83 : Int32)
    · refine own_go (T2 := s₁) (g2 := (mkF m 12 #[.val (.int p1)] [])) (fun t k => XS.icmpNo X0.here hx rfl (hb hby own_d_method_2_code_9) rfl (teq (show p1 = (83 : Int32) from hc47)).2 k) ?_
      refine own_go (T2 := s₁) (g2 := (mkF m 13 #[.val (.int p1)] [(.int (1 : Int32))])) (fun t k => XS.iconst X0.here hx rfl (hb hby own_d_method_2_code_12) k) ?_
      exact own_endN X0 hx Bd.notSynchronized (t := .boolean) Bd.returns (by simp) (hb hby own_d_method_2_code_13) (z' := (1 : Int32)) rfl (by decide) (by decide) ⟨(by simp only [own_f45, if_neg hc46, if_pos hc47]), rfl, e0⟩
    · refine own_go (T2 := s₁) (g2 := (mkF m 14 #[.val (.int p1)] [])) (fun t k => XS.icmpYes X0.here hx rfl (pc0 := 9) (pc' := 14) rfl (hb hby own_d_method_2_code_9) rfl (feq (show ¬ (p1 = (83 : Int32)) from hc47)).2 (by decide) (by decide) k) ?_
      refine own_go (T2 := s₁) (g2 := (mkF m 15 #[.val (.int p1)] [(.int p1)])) (fun t k => XS.iloadN X0.here hx rfl (hb hby own_d_method_2_code_14) rfl  k) ?_
      by_cases hc48 : p1 < (0 : Int32)
      · refine own_go (T2 := s₁) (g2 := (mkF m 26 #[.val (.int p1)] [])) (fun t k => XS.ifYes X0.here hx rfl (pc0 := 15) (pc' := 26) rfl (hb hby own_d_method_2_code_15) rfl ((if0 _ _).trans (tlt (show p1 < (0 : Int32) from hc48)).1) (by decide) (by decide) k) ?_
        refine own_go (T2 := s₁) (g2 := (mkF m 27 #[.val (.int p1)] [(.int p1)])) (fun t k => XS.iloadN X0.here hx rfl (hb hby own_d_method_2_code_26) rfl  k) ?_
        refine own_go (T2 := s₁) (g2 := (mkF m 29 #[.val (.int p1)] [(.int (48 : Int32)), (.int p1)])) (fun t k => XS.bipush X0.here hx rfl (hb hby own_d_method_2_code_27) k) ?_
        by_cases hc49 : p1 < (48 : Int32)
        · refine own_go (T2 := s₁) (g2 := (mkF m 40 #[.val (.int p1)] [])) (fun t k => XS.icmpYes X0.here hx rfl (pc0 := 29) (pc' := 40) rfl (hb hby own_d_method_2_code_29) rfl (tlt (show p1 < (48 : Int32) from hc49)).1 (by decide) (by decide) k) ?_
          refine own_go (T2 := s₁) (g2 := (mkF m 41 #[.val (.int p1)] [(.int (0 : Int32))])) (fun t k => XS.iconst X0.here hx rfl (hb hby own_d_method_2_code_40) k) ?_
          exact own_endN X0 hx Bd.notSynchronized (t := .boolean) Bd.returns (by simp) (hb hby own_d_method_2_code_41) (z' := (0 : Int32)) rfl (by decide) (by decide) ⟨(by simp only [own_f45, if_neg hc46, if_neg hc47, if_pos hc48, if_pos hc49]), rfl, e0⟩
        · refine own_go (T2 := s₁) (g2 := (mkF m 32 #[.val (.int p1)] [])) (fun t k => XS.icmpNo X0.here hx rfl (hb hby own_d_method_2_code_29) rfl (flt (show ¬ (p1 < (48 : Int32)) from hc49)).1 k) ?_
          refine own_go (T2 := s₁) (g2 := (mkF m 33 #[.val (.int p1)] [(.int p1)])) (fun t k => XS.iloadN X0.here hx rfl (hb hby own_d_method_2_code_32) rfl  k) ?_
          refine own_go (T2 := s₁) (g2 := (mkF m 35 #[.val (.int p1)] [(.int (51 : Int32)), (.int p1)])) (fun t k => XS.bipush X0.here hx rfl (hb hby own_d_method_2_code_33) k) ?_
          by_cases hc50 : (51 : Int32) < p1
          · refine own_go (T2 := s₁) (g2 := (mkF m 40 #[.val (.int p1)] [])) (fun t k => XS.icmpYes X0.here hx rfl (pc0 := 35) (pc' := 40) rfl (hb hby own_d_method_2_code_35) rfl (tlt (show (51 : Int32) < p1 from hc50)).2.2.1 (by decide) (by decide) k) ?_
            refine own_go (T2 := s₁) (g2 := (mkF m 41 #[.val (.int p1)] [(.int (0 : Int32))])) (fun t k => XS.iconst X0.here hx rfl (hb hby own_d_method_2_code_40) k) ?_
            exact own_endN X0 hx Bd.notSynchronized (t := .boolean) Bd.returns (by simp) (hb hby own_d_method_2_code_41) (z' := (0 : Int32)) rfl (by decide) (by decide) ⟨(by simp only [own_f45, if_neg hc46, if_neg hc47, if_pos hc48, if_neg hc49, if_pos hc50]), rfl, e0⟩
          · refine own_go (T2 := s₁) (g2 := (mkF m 38 #[.val (.int p1)] [])) (fun t k => XS.icmpNo X0.here hx rfl (hb hby own_d_method_2_code_35) rfl (flt (show ¬ ((51 : Int32) < p1) from hc50)).2.2.1 k) ?_
            refine own_go (T2 := s₁) (g2 := (mkF m 39 #[.val (.int p1)] [(.int (1 : Int32))])) (fun t k => XS.iconst X0.here hx rfl (hb hby own_d_method_2_code_38) k) ?_
            exact own_endN X0 hx Bd.notSynchronized (t := .boolean) Bd.returns (by simp) (hb hby own_d_method_2_code_39) (z' := (1 : Int32)) rfl (by decide) (by decide) ⟨(by simp only [own_f45, if_neg hc46, if_neg hc47, if_pos hc48, if_neg hc49, if_neg hc50]), rfl, e0⟩
      · refine own_go (T2 := s₁) (g2 := (mkF m 18 #[.val (.int p1)] [])) (fun t k => XS.ifNo X0.here hx rfl (hb hby own_d_method_2_code_15) rfl ((if0 _ _).trans (flt (show ¬ (p1 < (0 : Int32)) from hc48)).1) k) ?_
        refine own_go (T2 := s₁) (g2 := (mkF m 19 #[.val (.int p1)] [(.int p1)])) (fun t k => XS.iloadN X0.here hx rfl (hb hby own_d_method_2_code_18) rfl  k) ?_
        refine own_go (T2 := s₁) (g2 := (mkF m 21 #[.val (.int p1)] [(.int (31 : Int32)), (.int p1)])) (fun t k => XS.bipush X0.here hx rfl (hb hby own_d_method_2_code_19) k) ?_
        by_cases hc51 : (31 : Int32) < p1
        · refine own_go (T2 := s₁) (g2 := (mkF m 26 #[.val (.int p1)] [])) (fun t k => XS.icmpYes X0.here hx rfl (pc0 := 21) (pc' := 26) rfl (hb hby own_d_method_2_code_21) rfl (tlt (show (31 : Int32) < p1 from hc51)).2.2.1 (by decide) (by decide) k) ?_
          refine own_go (T2 := s₁) (g2 := (mkF m 27 #[.val (.int p1)] [(.int p1)])) (fun t k => XS.iloadN X0.here hx rfl (hb hby own_d_method_2_code_26) rfl  k) ?_
          refine own_go (T2 := s₁) (g2 := (mkF m 29 #[.val (.int p1)] [(.int (48 : Int32)), (.int p1)])) (fun t k => XS.bipush X0.here hx rfl (hb hby own_d_method_2_code_27) k) ?_
          by_cases hc52 : p1 < (48 : Int32)
          · refine own_go (T2 := s₁) (g2 := (mkF m 40 #[.val (.int p1)] [])) (fun t k => XS.icmpYes X0.here hx rfl (pc0 := 29) (pc' := 40) rfl (hb hby own_d_method_2_code_29) rfl (tlt (show p1 < (48 : Int32) from hc52)).1 (by decide) (by decide) k) ?_
            refine own_go (T2 := s₁) (g2 := (mkF m 41 #[.val (.int p1)] [(.int (0 : Int32))])) (fun t k => XS.iconst X0.here hx rfl (hb hby own_d_method_2_code_40) k) ?_
            exact own_endN X0 hx Bd.notSynchronized (t := .boolean) Bd.returns (by simp) (hb hby own_d_method_2_code_41) (z' := (0 : Int32)) rfl (by decide) (by decide) ⟨(by simp only [own_f45, if_neg hc46, if_neg hc47, if_neg hc48, if_pos hc51, if_pos hc52]), rfl, e0⟩
          · refine own_go (T2 := s₁) (g2 := (mkF m 32 #[.val (.int p1)] [])) (fun t k => XS.icmpNo X0.here hx rfl (hb hby own_d_method_2_code_29) rfl (flt (show ¬ (p1 < (48 : Int32)) from hc52)).1 k) ?_
            refine own_go (T2 := s₁) (g2 := (mkF m 33 #[.val (.int p1)] [(.int p1)])) (fun t k => XS.iloadN X0.here hx rfl (hb hby own_d_method_2_code_32) rfl  k) ?_
            refine own_go (T2 := s₁) (g2 := (mkF m 35 #[.val (.int p1)] [(.int (51 : Int32)), (.int p1)])) (fun t k => XS.bipush X0.here hx rfl (hb hby own_d_method_2_code_33) k) ?_
            by_cases hc53 : (51 : Int32) < p1
            · refine own_go (T2 := s₁) (g2 := (mkF m 40 #[.val (.int p1)] [])) (fun t k => XS.icmpYes X0.here hx rfl (pc0 := 35) (pc' := 40) rfl (hb hby own_d_method_2_code_35) rfl (tlt (show (51 : Int32) < p1 from hc53)).2.2.1 (by decide) (by decide) k) ?_
              refine own_go (T2 := s₁) (g2 := (mkF m 41 #[.val (.int p1)] [(.int (0 : Int32))])) (fun t k => XS.iconst X0.here hx rfl (hb hby own_d_method_2_code_40) k) ?_
              exact own_endN X0 hx Bd.notSynchronized (t := .boolean) Bd.returns (by simp) (hb hby own_d_method_2_code_41) (z' := (0 : Int32)) rfl (by decide) (by decide) ⟨(by simp only [own_f45, if_neg hc46, if_neg hc47, if_neg hc48, if_pos hc51, if_neg hc52, if_pos hc53]), rfl, e0⟩
            · refine own_go (T2 := s₁) (g2 := (mkF m 38 #[.val (.int p1)] [])) (fun t k => XS.icmpNo X0.here hx rfl (hb hby own_d_method_2_code_35) rfl (flt (show ¬ ((51 : Int32) < p1) from hc53)).2.2.1 k) ?_
              refine own_go (T2 := s₁) (g2 := (mkF m 39 #[.val (.int p1)] [(.int (1 : Int32))])) (fun t k => XS.iconst X0.here hx rfl (hb hby own_d_method_2_code_38) k) ?_
              exact own_endN X0 hx Bd.notSynchronized (t := .boolean) Bd.returns (by simp) (hb hby own_d_method_2_code_39) (z' := (1 : Int32)) rfl (by decide) (by decide) ⟨(by simp only [own_f45, if_neg hc46, if_neg hc47, if_neg hc48, if_pos hc51, if_neg hc52, if_neg hc53]), rfl, e0⟩
        · refine own_go (T2 := s₁) (g2 := (mkF m 24 #[.val (.int p1)] [])) (fun t k => XS.icmpNo X0.here hx rfl (hb hby own_d_method_2_code_21) rfl (flt (show ¬ ((31 : Int32) < p1) from hc51)).2.2.1 k) ?_
          refine own_go (T2 := s₁) (g2 := (mkF m 25 #[.val (.int p1)] [(.int (1 : Int32))])) (fun t k => XS.iconst X0.here hx rfl (hb hby own_d_method_2_code_24) k) ?_
          exact own_endN X0 hx Bd.notSynchronized (t := .boolean) Bd.returns (by simp) (hb hby own_d_method_2_code_25) (z' := (1 : Int32)) rfl (by decide) (by decide) ⟨(by simp only [own_f45, if_neg hc46, if_neg hc47, if_neg hc48, if_neg hc51]), rfl, e0⟩
theorem own_d_method_3_code_0 : decode method_3_code 0 = .ok (.iload_n 0, 1) := by decide +kernel
theorem own_d_method_3_code_1 : decode method_3_code 1 = .ok (.bipush 65, 2) := by decide +kernel
theorem own_d_method_3_code_3 : decode method_3_code 3 = .ok (.if_icmp .eq 9, 3) := by decide +kernel
theorem own_d_method_3_code_12 : decode method_3_code 12 = .ok (.iconst 1, 1) := by decide +kernel
theorem own_d_method_3_code_13 : decode method_3_code 13 = .ok (.ireturn, 1) := by decide +kernel
theorem own_d_method_3_code_6 : decode method_3_code 6 = .ok (.iload_n 0, 1) := by decide +kernel
theorem own_d_method_3_code_7 : decode method_3_code 7 = .ok (.bipush 66, 2) := by decide +kernel
theorem own_d_method_3_code_9 : decode method_3_code 9 = .ok (.if_icmp .ne 5, 3) := by decide +kernel
theorem own_d_method_3_code_14 : decode method_3_code 14 = .ok (.iload_n 0, 1) := by decide +kernel
theorem own_d_method_3_code_15 : decode method_3_code 15 = .ok (.bipush 32, 2) := by decide +kernel
theorem own_d_method_3_code_17 : decode method_3_code 17 = .ok (.if_icmp .lt 11, 3) := by decide +kernel
theorem own_d_method_3_code_28 : decode method_3_code 28 = .ok (.iload_n 0, 1) := by decide +kernel
theorem own_d_method_3_code_29 : decode method_3_code 29 = .ok (.bipush 52, 2) := by decide +kernel
theorem own_d_method_3_code_31 : decode method_3_code 31 = .ok (.if_icmp .lt 11, 3) := by decide +kernel
theorem own_d_method_3_code_42 : decode method_3_code 42 = .ok (.iconst 0, 1) := by decide +kernel
theorem own_d_method_3_code_43 : decode method_3_code 43 = .ok (.ireturn, 1) := by decide +kernel
theorem own_d_method_3_code_34 : decode method_3_code 34 = .ok (.iload_n 0, 1) := by decide +kernel
theorem own_d_method_3_code_35 : decode method_3_code 35 = .ok (.bipush 55, 2) := by decide +kernel
theorem own_d_method_3_code_37 : decode method_3_code 37 = .ok (.if_icmp .gt 5, 3) := by decide +kernel
theorem own_d_method_3_code_40 : decode method_3_code 40 = .ok (.iconst 1, 1) := by decide +kernel
theorem own_d_method_3_code_41 : decode method_3_code 41 = .ok (.ireturn, 1) := by decide +kernel
theorem own_d_method_3_code_20 : decode method_3_code 20 = .ok (.iload_n 0, 1) := by decide +kernel
theorem own_d_method_3_code_21 : decode method_3_code 21 = .ok (.bipush 47, 2) := by decide +kernel
theorem own_d_method_3_code_23 : decode method_3_code 23 = .ok (.if_icmp .gt 5, 3) := by decide +kernel
theorem own_d_method_3_code_26 : decode method_3_code 26 = .ok (.iconst 1, 1) := by decide +kernel
theorem own_d_method_3_code_27 : decode method_3_code 27 = .ok (.ireturn, 1) := by decide +kernel
def own_f57 (p1 : Int32) : Int32 := (if p1 = (65 : Int32) then (1 : Int32) else (if p1 = (66 : Int32) then (1 : Int32) else (if p1 < (32 : Int32) then (if p1 < (52 : Int32) then (0 : Int32) else (if (55 : Int32) < p1 then (0 : Int32) else (1 : Int32))) else (if (47 : Int32) < p1 then (if p1 < (52 : Int32) then (0 : Int32) else (if (55 : Int32) < p1 then (0 : Int32) else (1 : Int32))) else (1 : Int32)))))
theorem own_ef57 (m : MethodId) (x0 : Int32) : entryFrame m #[(.int x0)] 1 = mkF m 0 #[.val (.int x0)] [] := by first | (simp [entryFrame, mkF, argsToLocals, Value.category]; done) | rfl
set_option maxRecDepth 65536 in
set_option maxHeartbeats 40000000 in
theorem own_rm57 (l : Launch) (Z : State) (a0 : Array Value) (hw : ∀ d ∈ tables_1, d.before a0 Z = true) (h0 : Heap) (p1 : Int32)  :
    own_Con l Z (⟨"com/example/bellwire/bellwire/hessian/ChunkedStartsChunkPinLaw", "refBinary", "(I)Z"⟩ : MethodName) method_3_code 1 (some .boolean) ({ frames := 0, cells := 0, slots := 0, locals := 0 } : Room) #[(.int p1)] h0 (own_QP (some (.int (own_f57 p1))) h0) := by
  refine MetFree.of_bodySF (plainFor_of_name own_pn1) hisR ?_
  intro p e s m args below meth c s₁ Bd hml0 hP hK
  obtain ⟨rfl, hZ, hh⟩ := hP
  have hx := Bd.exec
  have hby := Bd.bytes
  have hml : c.maxLocals = 1 := hml0
  have hown : s.vm.findClass "com/example/bellwire/bellwire/hessian/ChunkedStartsChunkPinLaw" = some m.cls := findClass_of_methodNamed Bd.named
  have X0 : Stand p l e ({ frames := 0, cells := 0, slots := 0, locals := 0 } : Room) s m #[(.int p1)] below meth c s₁ [] 0 0 := Stand.of_body Bd
  have e0 : s₁.heap = h0 := by rw [← hh, Bd.state]; rfl
  show own_Go p e below (own_K s (own_QP (some (.int (own_f57 p1))) h0) 0 0) s₁ (entryFrame m #[(.int p1)] 1)
  rw [own_ef57]
  refine own_go (T2 := s₁) (g2 := (mkF m 1 #[.val (.int p1)] [(.int p1)])) (fun t k => XS.iloadN X0.here hx rfl (hb hby own_d_method_3_code_0) rfl  k) ?_
  refine own_go (T2 := s₁) (g2 := (mkF m 3 #[.val (.int p1)] [(.int (65 : Int32)), (.int p1)])) (fun t k => XS.bipush X0.here hx rfl (hb hby own_d_method_3_code_1) k) ?_
  by_cases hc58 : p1 = (65 : Int32)
  · refine own_go (T2 := s₁) (g2 := (mkF m 12 #[.val (.int p1)] [])) (fun t k => XS.icmpYes X0.here hx rfl (pc0 := 3) (pc' := 12) rfl (hb hby own_d_method_3_code_3) rfl (teq (show p1 = (65 : Int32) from hc58)).1 (by decide) (by decide) k) ?_
    refine own_go (T2 := s₁) (g2 := (mkF m 13 #[.val (.int p1)] [(.int (1 : Int32))])) (fun t k => XS.iconst X0.here hx rfl (hb hby own_d_method_3_code_12) k) ?_
    exact own_endN X0 hx Bd.notSynchronized (t := .boolean) Bd.returns (by simp) (hb hby own_d_method_3_code_13) (z' := (1 : Int32)) rfl (by decide) (by decide) ⟨(by simp only [own_f57, if_pos hc58]), rfl, e0⟩
  · refine own_go (T2 := s₁) (g2 := (mkF m 6 #[.val (.int p1)] [])) (fun t k => XS.icmpNo X0.here hx rfl (hb hby own_d_method_3_code_3) rfl (feq (show ¬ (p1 = (65 : Int32)) from hc58)).1 k) ?_
    refine own_go (T2 := s₁) (g2 := (mkF m 7 #[.val (.int p1)] [(.int p1)])) (fun t k => XS.iloadN X0.here hx rfl (hb hby own_d_method_3_code_6) rfl  k) ?_
    refine own_go (T2 := s₁) (g2 := (mkF m 9 #[.val (.int p1)] [(.int (66 : Int32)), (.int p1)])) (fun t k => XS.bipush X0.here hx rfl (hb hby own_d_method_3_code_7) k) ?_
    by_cases hc59 : p1 = (66 : Int32)
    · refine own_go (T2 := s₁) (g2 := (mkF m 12 #[.val (.int p1)] [])) (fun t k => XS.icmpNo X0.here hx rfl (hb hby own_d_method_3_code_9) rfl (teq (show p1 = (66 : Int32) from hc59)).2 k) ?_
      refine own_go (T2 := s₁) (g2 := (mkF m 13 #[.val (.int p1)] [(.int (1 : Int32))])) (fun t k => XS.iconst X0.here hx rfl (hb hby own_d_method_3_code_12) k) ?_
      exact own_endN X0 hx Bd.notSynchronized (t := .boolean) Bd.returns (by simp) (hb hby own_d_method_3_code_13) (z' := (1 : Int32)) rfl (by decide) (by decide) ⟨(by simp only [own_f57, if_neg hc58, if_pos hc59]), rfl, e0⟩
    · refine own_go (T2 := s₁) (g2 := (mkF m 14 #[.val (.int p1)] [])) (fun t k => XS.icmpYes X0.here hx rfl (pc0 := 9) (pc' := 14) rfl (hb hby own_d_method_3_code_9) rfl (feq (show ¬ (p1 = (66 : Int32)) from hc59)).2 (by decide) (by decide) k) ?_
      refine own_go (T2 := s₁) (g2 := (mkF m 15 #[.val (.int p1)] [(.int p1)])) (fun t k => XS.iloadN X0.here hx rfl (hb hby own_d_method_3_code_14) rfl  k) ?_
      refine own_go (T2 := s₁) (g2 := (mkF m 17 #[.val (.int p1)] [(.int (32 : Int32)), (.int p1)])) (fun t k => XS.bipush X0.here hx rfl (hb hby own_d_method_3_code_15) k) ?_
      by_cases hc60 : p1 < (32 : Int32)
      · refine own_go (T2 := s₁) (g2 := (mkF m 28 #[.val (.int p1)] [])) (fun t k => XS.icmpYes X0.here hx rfl (pc0 := 17) (pc' := 28) rfl (hb hby own_d_method_3_code_17) rfl (tlt (show p1 < (32 : Int32) from hc60)).1 (by decide) (by decide) k) ?_
        refine own_go (T2 := s₁) (g2 := (mkF m 29 #[.val (.int p1)] [(.int p1)])) (fun t k => XS.iloadN X0.here hx rfl (hb hby own_d_method_3_code_28) rfl  k) ?_
        refine own_go (T2 := s₁) (g2 := (mkF m 31 #[.val (.int p1)] [(.int (52 : Int32)), (.int p1)])) (fun t k => XS.bipush X0.here hx rfl (hb hby own_d_method_3_code_29) k) ?_
        by_cases hc61 : p1 < (52 : Int32)
        · refine own_go (T2 := s₁) (g2 := (mkF m 42 #[.val (.int p1)] [])) (fun t k => XS.icmpYes X0.here hx rfl (pc0 := 31) (pc' := 42) rfl (hb hby own_d_method_3_code_31) rfl (tlt (show p1 < (52 : Int32) from hc61)).1 (by decide) (by decide) k) ?_
          refine own_go (T2 := s₁) (g2 := (mkF m 43 #[.val (.int p1)] [(.int (0 : Int32))])) (fun t k => XS.iconst X0.here hx rfl (hb hby own_d_method_3_code_42) k) ?_
          exact own_endN X0 hx Bd.notSynchronized (t := .boolean) Bd.returns (by simp) (hb hby own_d_method_3_code_43) (z' := (0 : Int32)) rfl (by decide) (by decide) ⟨(by simp only [own_f57, if_neg hc58, if_neg hc59, if_pos hc60, if_pos hc61]), rfl, e0⟩
        · refine own_go (T2 := s₁) (g2 := (mkF m 34 #[.val (.int p1)] [])) (fun t k => XS.icmpNo X0.here hx rfl (hb hby own_d_method_3_code_31) rfl (flt (show ¬ (p1 < (52 : Int32)) from hc61)).1 k) ?_
          refine own_go (T2 := s₁) (g2 := (mkF m 35 #[.val (.int p1)] [(.int p1)])) (fun t k => XS.iloadN X0.here hx rfl (hb hby own_d_method_3_code_34) rfl  k) ?_
          refine own_go (T2 := s₁) (g2 := (mkF m 37 #[.val (.int p1)] [(.int (55 : Int32)), (.int p1)])) (fun t k => XS.bipush X0.here hx rfl (hb hby own_d_method_3_code_35) k) ?_
          by_cases hc62 : (55 : Int32) < p1
          · refine own_go (T2 := s₁) (g2 := (mkF m 42 #[.val (.int p1)] [])) (fun t k => XS.icmpYes X0.here hx rfl (pc0 := 37) (pc' := 42) rfl (hb hby own_d_method_3_code_37) rfl (tlt (show (55 : Int32) < p1 from hc62)).2.2.1 (by decide) (by decide) k) ?_
            refine own_go (T2 := s₁) (g2 := (mkF m 43 #[.val (.int p1)] [(.int (0 : Int32))])) (fun t k => XS.iconst X0.here hx rfl (hb hby own_d_method_3_code_42) k) ?_
            exact own_endN X0 hx Bd.notSynchronized (t := .boolean) Bd.returns (by simp) (hb hby own_d_method_3_code_43) (z' := (0 : Int32)) rfl (by decide) (by decide) ⟨(by simp only [own_f57, if_neg hc58, if_neg hc59, if_pos hc60, if_neg hc61, if_pos hc62]), rfl, e0⟩
          · refine own_go (T2 := s₁) (g2 := (mkF m 40 #[.val (.int p1)] [])) (fun t k => XS.icmpNo X0.here hx rfl (hb hby own_d_method_3_code_37) rfl (flt (show ¬ ((55 : Int32) < p1) from hc62)).2.2.1 k) ?_
            refine own_go (T2 := s₁) (g2 := (mkF m 41 #[.val (.int p1)] [(.int (1 : Int32))])) (fun t k => XS.iconst X0.here hx rfl (hb hby own_d_method_3_code_40) k) ?_
            exact own_endN X0 hx Bd.notSynchronized (t := .boolean) Bd.returns (by simp) (hb hby own_d_method_3_code_41) (z' := (1 : Int32)) rfl (by decide) (by decide) ⟨(by simp only [own_f57, if_neg hc58, if_neg hc59, if_pos hc60, if_neg hc61, if_neg hc62]), rfl, e0⟩
      · refine own_go (T2 := s₁) (g2 := (mkF m 20 #[.val (.int p1)] [])) (fun t k => XS.icmpNo X0.here hx rfl (hb hby own_d_method_3_code_17) rfl (flt (show ¬ (p1 < (32 : Int32)) from hc60)).1 k) ?_
        refine own_go (T2 := s₁) (g2 := (mkF m 21 #[.val (.int p1)] [(.int p1)])) (fun t k => XS.iloadN X0.here hx rfl (hb hby own_d_method_3_code_20) rfl  k) ?_
        refine own_go (T2 := s₁) (g2 := (mkF m 23 #[.val (.int p1)] [(.int (47 : Int32)), (.int p1)])) (fun t k => XS.bipush X0.here hx rfl (hb hby own_d_method_3_code_21) k) ?_
        by_cases hc63 : (47 : Int32) < p1
        · refine own_go (T2 := s₁) (g2 := (mkF m 28 #[.val (.int p1)] [])) (fun t k => XS.icmpYes X0.here hx rfl (pc0 := 23) (pc' := 28) rfl (hb hby own_d_method_3_code_23) rfl (tlt (show (47 : Int32) < p1 from hc63)).2.2.1 (by decide) (by decide) k) ?_
          refine own_go (T2 := s₁) (g2 := (mkF m 29 #[.val (.int p1)] [(.int p1)])) (fun t k => XS.iloadN X0.here hx rfl (hb hby own_d_method_3_code_28) rfl  k) ?_
          refine own_go (T2 := s₁) (g2 := (mkF m 31 #[.val (.int p1)] [(.int (52 : Int32)), (.int p1)])) (fun t k => XS.bipush X0.here hx rfl (hb hby own_d_method_3_code_29) k) ?_
          by_cases hc64 : p1 < (52 : Int32)
          · refine own_go (T2 := s₁) (g2 := (mkF m 42 #[.val (.int p1)] [])) (fun t k => XS.icmpYes X0.here hx rfl (pc0 := 31) (pc' := 42) rfl (hb hby own_d_method_3_code_31) rfl (tlt (show p1 < (52 : Int32) from hc64)).1 (by decide) (by decide) k) ?_
            refine own_go (T2 := s₁) (g2 := (mkF m 43 #[.val (.int p1)] [(.int (0 : Int32))])) (fun t k => XS.iconst X0.here hx rfl (hb hby own_d_method_3_code_42) k) ?_
            exact own_endN X0 hx Bd.notSynchronized (t := .boolean) Bd.returns (by simp) (hb hby own_d_method_3_code_43) (z' := (0 : Int32)) rfl (by decide) (by decide) ⟨(by simp only [own_f57, if_neg hc58, if_neg hc59, if_neg hc60, if_pos hc63, if_pos hc64]), rfl, e0⟩
          · refine own_go (T2 := s₁) (g2 := (mkF m 34 #[.val (.int p1)] [])) (fun t k => XS.icmpNo X0.here hx rfl (hb hby own_d_method_3_code_31) rfl (flt (show ¬ (p1 < (52 : Int32)) from hc64)).1 k) ?_
            refine own_go (T2 := s₁) (g2 := (mkF m 35 #[.val (.int p1)] [(.int p1)])) (fun t k => XS.iloadN X0.here hx rfl (hb hby own_d_method_3_code_34) rfl  k) ?_
            refine own_go (T2 := s₁) (g2 := (mkF m 37 #[.val (.int p1)] [(.int (55 : Int32)), (.int p1)])) (fun t k => XS.bipush X0.here hx rfl (hb hby own_d_method_3_code_35) k) ?_
            by_cases hc65 : (55 : Int32) < p1
            · refine own_go (T2 := s₁) (g2 := (mkF m 42 #[.val (.int p1)] [])) (fun t k => XS.icmpYes X0.here hx rfl (pc0 := 37) (pc' := 42) rfl (hb hby own_d_method_3_code_37) rfl (tlt (show (55 : Int32) < p1 from hc65)).2.2.1 (by decide) (by decide) k) ?_
              refine own_go (T2 := s₁) (g2 := (mkF m 43 #[.val (.int p1)] [(.int (0 : Int32))])) (fun t k => XS.iconst X0.here hx rfl (hb hby own_d_method_3_code_42) k) ?_
              exact own_endN X0 hx Bd.notSynchronized (t := .boolean) Bd.returns (by simp) (hb hby own_d_method_3_code_43) (z' := (0 : Int32)) rfl (by decide) (by decide) ⟨(by simp only [own_f57, if_neg hc58, if_neg hc59, if_neg hc60, if_pos hc63, if_neg hc64, if_pos hc65]), rfl, e0⟩
            · refine own_go (T2 := s₁) (g2 := (mkF m 40 #[.val (.int p1)] [])) (fun t k => XS.icmpNo X0.here hx rfl (hb hby own_d_method_3_code_37) rfl (flt (show ¬ ((55 : Int32) < p1) from hc65)).2.2.1 k) ?_
              refine own_go (T2 := s₁) (g2 := (mkF m 41 #[.val (.int p1)] [(.int (1 : Int32))])) (fun t k => XS.iconst X0.here hx rfl (hb hby own_d_method_3_code_40) k) ?_
              exact own_endN X0 hx Bd.notSynchronized (t := .boolean) Bd.returns (by simp) (hb hby own_d_method_3_code_41) (z' := (1 : Int32)) rfl (by decide) (by decide) ⟨(by simp only [own_f57, if_neg hc58, if_neg hc59, if_neg hc60, if_pos hc63, if_neg hc64, if_neg hc65]), rfl, e0⟩
        · refine own_go (T2 := s₁) (g2 := (mkF m 26 #[.val (.int p1)] [])) (fun t k => XS.icmpNo X0.here hx rfl (hb hby own_d_method_3_code_23) rfl (flt (show ¬ ((47 : Int32) < p1) from hc63)).2.2.1 k) ?_
          refine own_go (T2 := s₁) (g2 := (mkF m 27 #[.val (.int p1)] [(.int (1 : Int32))])) (fun t k => XS.iconst X0.here hx rfl (hb hby own_d_method_3_code_26) k) ?_
          exact own_endN X0 hx Bd.notSynchronized (t := .boolean) Bd.returns (by simp) (hb hby own_d_method_3_code_27) (z' := (1 : Int32)) rfl (by decide) (by decide) ⟨(by simp only [own_f57, if_neg hc58, if_neg hc59, if_neg hc60, if_neg hc63]), rfl, e0⟩
theorem own_ef0 (m : MethodId) (x0 : Int32) (x1 : Int32) : entryFrame m #[(.int x0), (.int x1)] maxLocals = mkF m 0 #[.val (.int x0), .val (.int x1), .unset, .unset, .unset] [] := by first | (simp [entryFrame, mkF, argsToLocals, Value.category, maxLocals]; done) | rfl
def own_Q0 (n0 : Nat) (v : Option Value) (h : Heap) (L : List Loc) : Prop := v = some (.int 1) ∧ Fr n0 L
set_option maxRecDepth 65536 in
set_option maxHeartbeats 40000000 in
theorem own_rm0 (l : Launch) (Z : State) (a0 : Array Value) (hw : ∀ d ∈ tables_1, d.before a0 Z = true) (ws : List Jvm.Cond) (h0 : Heap) (n0 : Nat) (Z0 : n0 ≤ h0.size) (p0 : Int32) (p1 : Int32) (w_STRING : Addr) (w_BINARY : Addr)
    (S_w_STRING : Sta Z h0 "com/example/bellwire/bellwire/hessian/Chunked" "STRING" "Lcom/example/bellwire/bellwire/hessian/Chunked;" (.ref w_STRING))
    (E_w_STRING : Exa Z h0 w_STRING "com/example/bellwire/bellwire/hessian/Chunked")
    (S_w_BINARY : Sta Z h0 "com/example/bellwire/bellwire/hessian/Chunked" "BINARY" "Lcom/example/bellwire/bellwire/hessian/Chunked;" (.ref w_BINARY))
    (E_w_BINARY : Exa Z h0 w_BINARY "com/example/bellwire/bellwire/hessian/Chunked")
    (F_chunkCode_w_STRING : Fld Z h0 w_STRING "com/example/bellwire/bellwire/hessian/Chunked" "chunkCode" "I" (.int (82 : Int32)))
    (F_finalCode_w_STRING : Fld Z h0 w_STRING "com/example/bellwire/bellwire/hessian/Chunked" "finalCode" "I" (.int (83 : Int32)))
    (F_tinyCode_w_STRING : Fld Z h0 w_STRING "com/example/bellwire/bellwire/hessian/Chunked" "tinyCode" "I" (.int (0 : Int32)))
    (F_tinyMax_w_STRING : Fld Z h0 w_STRING "com/example/bellwire/bellwire/hessian/Chunked" "tinyMax" "I" (.int (31 : Int32)))
    (F_chunkCode_w_BINARY : Fld Z h0 w_BINARY "com/example/bellwire/bellwire/hessian/Chunked" "chunkCode" "I" (.int (65 : Int32)))
    (F_finalCode_w_BINARY : Fld Z h0 w_BINARY "com/example/bellwire/bellwire/hessian/Chunked" "finalCode" "I" (.int (66 : Int32)))
    (F_tinyCode_w_BINARY : Fld Z h0 w_BINARY "com/example/bellwire/bellwire/hessian/Chunked" "tinyCode" "I" (.int (32 : Int32)))
    (F_shortCode_w_BINARY : Fld Z h0 w_BINARY "com/example/bellwire/bellwire/hessian/Chunked" "shortCode" "I" (.int (52 : Int32)))
    (F_shortCode_w_STRING : Fld Z h0 w_STRING "com/example/bellwire/bellwire/hessian/Chunked" "shortCode" "I" (.int (48 : Int32)))
    (F_tinyMax_w_BINARY : Fld Z h0 w_BINARY "com/example/bellwire/bellwire/hessian/Chunked" "tinyMax" "I" (.int (15 : Int32))) :
    MetFree l x (head1 (Jvm.Cond.code x code maxLocals ret :: ws) room_1) (fun a U => a = #[(.int p0), (.int p1)] ∧ Z.Warmed39 U.vm ∧ U.heap = h0) (fun _ _ _ _ _ => True) (fun _ U o U' => ∃ v L, o = .returned v ∧ own_Q0 n0 v U'.heap L ∧ FrameEnd U o U' L room_1.cells room_1.slots) := by
  refine MetFree.of_bodySF (plainFor_of_name own_pn1) hisR ?_
  intro p e s m args below meth c s₁ Bd hml0 hP hK
  obtain ⟨rfl, hZ, hh⟩ := hP
  have hx := Bd.exec
  have hby := Bd.bytes
  have hml : c.maxLocals = 5 := hml0
  have hown : s.vm.findClass "com/example/bellwire/bellwire/hessian/ChunkedStartsChunkPinLaw" = some m.cls := findClass_of_methodNamed Bd.named
  have X0 : Stand p l e room_1 s m #[(.int p0), (.int p1)] below meth c s₁ [] 0 0 := Stand.of_body Bd
  have e0 : s₁.heap = h0 := by rw [← hh, Bd.state]; rfl
  show own_Go p e below (own_K s (own_Q0 n0) room_1.cells room_1.slots) s₁ (entryFrame m #[(.int p0), (.int p1)] maxLocals)
  rw [own_ef0]
  refine own_go (T2 := s₁) (g2 := (mkF m 1 #[.val (.int p0), .val (.int p1), .unset, .unset, .unset] [(.int p0)])) (fun t k => XS.iloadN X0.here hx rfl (hb hby at_0) rfl  k) ?_
  refine own_go (T2 := s₁) (g2 := (mkF m 2 #[.val (.int p0), .val (.int p1), .val (.int p0), .unset, .unset] [])) (fun t k => XS.istoreN X0.here hx rfl (hb hby at_1) rfl (l' := #[.val (.int p0), .val (.int p1), .val (.int p0), .unset, .unset]) rfl k) ?_
  refine own_go (T2 := s₁) (g2 := (mkF m 3 #[.val (.int p0), .val (.int p1), .val (.int p0), .unset, .unset] [(.int p1)])) (fun t k => XS.iloadN X0.here hx rfl (hb hby at_2) rfl  k) ?_
  refine own_go (T2 := s₁) (g2 := (mkF m 6 #[.val (.int p0), .val (.int p1), .val (.int p0), .unset, .unset] [(.int (255 : Int32)), (.int p1)])) (fun t k => XS.sipush X0.here hx rfl (hb hby at_3) k) ?_
  refine own_go (T2 := s₁) (g2 := (mkF m 7 #[.val (.int p0), .val (.int p1), .val (.int p0), .unset, .unset] [(.int (p1 &&& (255 : Int32)))])) (fun t k => XS.iand X0.here hx rfl (hb hby at_6) rfl k) ?_
  refine own_go (T2 := s₁) (g2 := (mkF m 8 #[.val (.int p0), .val (.int p1), .val (.int p0), .val (.int (p1 &&& (255 : Int32))), .unset] [])) (fun t k => XS.istoreN X0.here hx rfl (hb hby at_7) rfl (l' := #[.val (.int p0), .val (.int p1), .val (.int p0), .val (.int (p1 &&& (255 : Int32))), .unset]) rfl k) ?_
  refine own_go (T2 := s₁) (g2 := (mkF m 9 #[.val (.int p0), .val (.int p1), .val (.int p0), .val (.int (p1 &&& (255 : Int32))), .unset] [(.int (1 : Int32))])) (fun t k => XS.iconst X0.here hx rfl (hb hby at_8) k) ?_
  refine own_go (T2 := s₁) (g2 := (mkF m 11 #[.val (.int p0), .val (.int p1), .val (.int p0), .val (.int (p1 &&& (255 : Int32))), .val (.int (1 : Int32))] [])) (fun t k => XS.istore X0.here hx rfl (hb hby at_9) rfl (l' := #[.val (.int p0), .val (.int p1), .val (.int p0), .val (.int (p1 &&& (255 : Int32))), .val (.int (1 : Int32))]) rfl k) ?_
  refine own_go (T2 := s₁) (g2 := (mkF m 13 #[.val (.int p0), .val (.int p1), .val (.int p0), .val (.int (p1 &&& (255 : Int32))), .val (.int (1 : Int32))] [(.int (1 : Int32))])) (fun t k => XS.iload X0.here hx rfl (hb hby at_11) rfl  k) ?_
  refine own_go (T2 := s₁) (g2 := (mkF m 16 #[.val (.int p0), .val (.int p1), .val (.int p0), .val (.int (p1 &&& (255 : Int32))), .val (.int (1 : Int32))] [])) (fun t k => XS.ifNo X0.here hx rfl (hb hby at_13) rfl ((if0 _ _).trans (feq (show ¬ ((1 : Int32) = (0 : Int32)) from (by decide))).1) k) ?_
  obtain ⟨T24, X24, e24, st24⟩ := getS2 X0 hx hZ hown (host := "") (Or.inl (own_wd hw 0 rfl)) Via.refl e0 S_w_STRING (g := (mkF m 16 #[.val (.int p0), .val (.int p1), .val (.int p0), .val (.int (p1 &&& (255 : Int32))), .val (.int (1 : Int32))] [])) rfl (hb hby at_16)
  refine own_go (T2 := T24) (g2 := (mkF m 19 #[.val (.int p0), .val (.int p1), .val (.int p0), .val (.int (p1 &&& (255 : Int32))), .val (.int (1 : Int32))] [(.ref w_STRING)])) st24 ?_
  refine own_go (T2 := T24) (g2 := (mkF m 20 #[.val (.int p0), .val (.int p1), .val (.int p0), .val (.int (p1 &&& (255 : Int32))), .val (.int (1 : Int32))] [(.int p0), (.ref w_STRING)])) (fun t k => XS.iloadN X24.here hx rfl (hb hby at_19) rfl  k) ?_
  obtain ⟨_, T25, _, X25, ⟨rfl, rfl, e25⟩, st25⟩ := own_virtual X24 hx hZ (y := (⟨"com/example/bellwire/bellwire/hessian/Chunked", "startsChunk", "(I)Z"⟩ : MethodName)) (z := (⟨"com/example/bellwire/bellwire/hessian/Chunked", "startsChunk", "(I)Z"⟩ : MethodName)) (C := "com/example/bellwire/bellwire/hessian/Chunked") hown (own_wd hw 3 rfl) (own_wd hw 4 rfl) (notFace_of_selects (args := #[]) (mvT hZ (own_wd hw 6 rfl))) (own_wd hw 6 rfl) (own_wd hw 5 rfl) (own_wd hw 1 rfl) (own_wd hw 7 rfl) (by decide) 0 (argsL := [(.int p0)]) (rest := []) (own_rm26 l Z a0 hw h0 w_STRING p0 (82 : Int32) (83 : Int32) (0 : Int32) (48 : Int32) (31 : Int32) F_chunkCode_w_STRING F_finalCode_w_STRING F_tinyCode_w_STRING F_shortCode_w_STRING F_tinyMax_w_STRING) (by decide) (by decide) E_w_STRING (g := (mkF m 20 #[.val (.int p0), .val (.int p1), .val (.int p0), .val (.int (p1 &&& (255 : Int32))), .val (.int (1 : Int32))] [(.int p0), (.ref w_STRING)])) rfl (by rw [hml]; rfl) (lenOf own_pd0 rfl) rfl (by show 2 * 0 + _ ≤ _; exact Nat.le_of_eq rfl) (hb hby at_20) e24 (by decide) (by decide)
  refine own_go (T2 := T25) (g2 := (mkF m 23 #[.val (.int p0), .val (.int p1), .val (.int p0), .val (.int (p1 &&& (255 : Int32))), .val (.int (1 : Int32))] [(.int (own_f26 w_STRING p0 (82 : Int32) (83 : Int32) (0 : Int32) (48 : Int32) (31 : Int32)))])) st25 ?_
  refine own_go (T2 := T25) (g2 := (mkF m 24 #[.val (.int p0), .val (.int p1), .val (.int p0), .val (.int (p1 &&& (255 : Int32))), .val (.int (1 : Int32))] [(.int p0), (.int (own_f26 w_STRING p0 (82 : Int32) (83 : Int32) (0 : Int32) (48 : Int32) (31 : Int32)))])) (fun t k => XS.iloadN X25.here hx rfl (hb hby at_23) rfl  k) ?_
  obtain ⟨_, T44, _, X44, ⟨rfl, rfl, e44⟩, st44⟩ := own_static X25 hx hZ (y := (⟨"com/example/bellwire/bellwire/hessian/ChunkedStartsChunkPinLaw", "refString", "(I)Z"⟩ : MethodName)) hown (own_wd hw 16 rfl) (own_wd hw 17 rfl) (own_wd hw 18 rfl) (own_wd hw 19 rfl) (by decide) 1 (argsL := [(.int p0)]) (rest := [(.int (own_f26 w_STRING p0 (82 : Int32) (83 : Int32) (0 : Int32) (48 : Int32) (31 : Int32)))]) (own_rm45 l Z a0 hw h0 p0 ) (by decide) (by decide) (g := (mkF m 24 #[.val (.int p0), .val (.int p1), .val (.int p0), .val (.int (p1 &&& (255 : Int32))), .val (.int (1 : Int32))] [(.int p0), (.int (own_f26 w_STRING p0 (82 : Int32) (83 : Int32) (0 : Int32) (48 : Int32) (31 : Int32)))])) rfl (by rw [hml]; rfl) (lenOf own_pd0 rfl) rfl (by show 2 * 0 + _ ≤ _; exact Nat.le_of_eq rfl) (hb hby at_24) e25 (by decide) (by decide)
  refine own_go (T2 := T44) (g2 := (mkF m 27 #[.val (.int p0), .val (.int p1), .val (.int p0), .val (.int (p1 &&& (255 : Int32))), .val (.int (1 : Int32))] [(.int (own_f45 p0)), (.int (own_f26 w_STRING p0 (82 : Int32) (83 : Int32) (0 : Int32) (48 : Int32) (31 : Int32)))])) st44 ?_
  refine own_go (T2 := T44) (g2 := (mkF m 30 #[.val (.int p0), .val (.int p1), .val (.int p0), .val (.int (p1 &&& (255 : Int32))), .val (.int (1 : Int32))] [])) (fun t k => XS.icmpNo X44.here hx rfl (hb hby at_27) rfl (teq (show (own_f26 w_STRING p0 (82 : Int32) (83 : Int32) (0 : Int32) (48 : Int32) (31 : Int32)) = (own_f45 p0) from rfl)).2 k) ?_
  refine own_go (T2 := T44) (g2 := (mkF m 31 #[.val (.int p0), .val (.int p1), .val (.int p0), .val (.int (p1 &&& (255 : Int32))), .val (.int (1 : Int32))] [(.int (1 : Int32))])) (fun t k => XS.iconst X44.here hx rfl (hb hby at_30) k) ?_
  refine own_go (T2 := T44) (g2 := (mkF m 35 #[.val (.int p0), .val (.int p1), .val (.int p0), .val (.int (p1 &&& (255 : Int32))), .val (.int (1 : Int32))] [(.int (1 : Int32))])) (fun t k => XS.goto X44.here hx rfl (pc0 := 31) (pc' := 35) rfl (hb hby at_31) (by decide) (by decide) k) ?_
  refine own_go (T2 := T44) (g2 := (mkF m 37 #[.val (.int p0), .val (.int p1), .val (.int p0), .val (.int (p1 &&& (255 : Int32))), .val (.int (1 : Int32))] [])) (fun t k => XS.istore X44.here hx rfl (hb hby at_35) rfl (l' := #[.val (.int p0), .val (.int p1), .val (.int p0), .val (.int (p1 &&& (255 : Int32))), .val (.int (1 : Int32))]) rfl k) ?_
  refine own_go (T2 := T44) (g2 := (mkF m 39 #[.val (.int p0), .val (.int p1), .val (.int p0), .val (.int (p1 &&& (255 : Int32))), .val (.int (1 : Int32))] [(.int (1 : Int32))])) (fun t k => XS.iload X44.here hx rfl (hb hby at_37) rfl  k) ?_
  refine own_go (T2 := T44) (g2 := (mkF m 42 #[.val (.int p0), .val (.int p1), .val (.int p0), .val (.int (p1 &&& (255 : Int32))), .val (.int (1 : Int32))] [])) (fun t k => XS.ifNo X44.here hx rfl (hb hby at_39) rfl ((if0 _ _).trans (feq (show ¬ ((1 : Int32) = (0 : Int32)) from (by decide))).1) k) ?_
  obtain ⟨T54, X54, e54, st54⟩ := getS2 X44 hx hZ hown (host := "") (Or.inl (own_wd hw 20 rfl)) Via.refl e44 S_w_BINARY (g := (mkF m 42 #[.val (.int p0), .val (.int p1), .val (.int p0), .val (.int (p1 &&& (255 : Int32))), .val (.int (1 : Int32))] [])) rfl (hb hby at_42)
  refine own_go (T2 := T54) (g2 := (mkF m 45 #[.val (.int p0), .val (.int p1), .val (.int p0), .val (.int (p1 &&& (255 : Int32))), .val (.int (1 : Int32))] [(.ref w_BINARY)])) st54 ?_
  refine own_go (T2 := T54) (g2 := (mkF m 46 #[.val (.int p0), .val (.int p1), .val (.int p0), .val (.int (p1 &&& (255 : Int32))), .val (.int (1 : Int32))] [(.int p0), (.ref w_BINARY)])) (fun t k => XS.iloadN X54.here hx rfl (hb hby at_45) rfl  k) ?_
  obtain ⟨_, T55, _, X55, ⟨rfl, rfl, e55⟩, st55⟩ := own_virtual X54 hx hZ (y := (⟨"com/example/bellwire/bellwire/hessian/Chunked", "startsChunk", "(I)Z"⟩ : MethodName)) (z := (⟨"com/example/bellwire/bellwire/hessian/Chunked", "startsChunk", "(I)Z"⟩ : MethodName)) (C := "com/example/bellwire/bellwire/hessian/Chunked") hown (own_wd hw 3 rfl) (own_wd hw 4 rfl) (notFace_of_selects (args := #[]) (mvT hZ (own_wd hw 6 rfl))) (own_wd hw 6 rfl) (own_wd hw 5 rfl) (own_wd hw 1 rfl) (own_wd hw 7 rfl) (by decide) 0 (argsL := [(.int p0)]) (rest := []) (own_rm26 l Z a0 hw h0 w_BINARY p0 (65 : Int32) (66 : Int32) (32 : Int32) (52 : Int32) (15 : Int32) F_chunkCode_w_BINARY F_finalCode_w_BINARY F_tinyCode_w_BINARY F_shortCode_w_BINARY F_tinyMax_w_BINARY) (by decide) (by decide) E_w_BINARY (g := (mkF m 46 #[.val (.int p0), .val (.int p1), .val (.int p0), .val (.int (p1 &&& (255 : Int32))), .val (.int (1 : Int32))] [(.int p0), (.ref w_BINARY)])) rfl (by rw [hml]; rfl) (lenOf own_pd0 rfl) rfl (by show 2 * 0 + _ ≤ _; exact Nat.le_of_eq rfl) (hb hby at_46) e54 (by decide) (by decide)
  refine own_go (T2 := T55) (g2 := (mkF m 49 #[.val (.int p0), .val (.int p1), .val (.int p0), .val (.int (p1 &&& (255 : Int32))), .val (.int (1 : Int32))] [(.int (own_f26 w_BINARY p0 (65 : Int32) (66 : Int32) (32 : Int32) (52 : Int32) (15 : Int32)))])) st55 ?_
  refine own_go (T2 := T55) (g2 := (mkF m 50 #[.val (.int p0), .val (.int p1), .val (.int p0), .val (.int (p1 &&& (255 : Int32))), .val (.int (1 : Int32))] [(.int p0), (.int (own_f26 w_BINARY p0 (65 : Int32) (66 : Int32) (32 : Int32) (52 : Int32) (15 : Int32)))])) (fun t k => XS.iloadN X55.here hx rfl (hb hby at_49) rfl  k) ?_
  obtain ⟨_, T56, _, X56, ⟨rfl, rfl, e56⟩, st56⟩ := own_static X55 hx hZ (y := (⟨"com/example/bellwire/bellwire/hessian/ChunkedStartsChunkPinLaw", "refBinary", "(I)Z"⟩ : MethodName)) hown (own_wd hw 24 rfl) (own_wd hw 25 rfl) (own_wd hw 18 rfl) (own_wd hw 26 rfl) (by decide) 1 (argsL := [(.int p0)]) (rest := [(.int (own_f26 w_BINARY p0 (65 : Int32) (66 : Int32) (32 : Int32) (52 : Int32) (15 : Int32)))]) (own_rm57 l Z a0 hw h0 p0 ) (by decide) (by decide) (g := (mkF m 50 #[.val (.int p0), .val (.int p1), .val (.int p0), .val (.int (p1 &&& (255 : Int32))), .val (.int (1 : Int32))] [(.int p0), (.int (own_f26 w_BINARY p0 (65 : Int32) (66 : Int32) (32 : Int32) (52 : Int32) (15 : Int32)))])) rfl (by rw [hml]; rfl) (lenOf own_pd0 rfl) rfl (by show 2 * 0 + _ ≤ _; exact Nat.le_of_eq rfl) (hb hby at_50) e55 (by decide) (by decide)
  refine own_go (T2 := T56) (g2 := (mkF m 53 #[.val (.int p0), .val (.int p1), .val (.int p0), .val (.int (p1 &&& (255 : Int32))), .val (.int (1 : Int32))] [(.int (own_f57 p0)), (.int (own_f26 w_BINARY p0 (65 : Int32) (66 : Int32) (32 : Int32) (52 : Int32) (15 : Int32)))])) st56 ?_
  refine own_go (T2 := T56) (g2 := (mkF m 56 #[.val (.int p0), .val (.int p1), .val (.int p0), .val (.int (p1 &&& (255 : Int32))), .val (.int (1 : Int32))] [])) (fun t k => XS.icmpNo X56.here hx rfl (hb hby at_53) rfl (teq (show (own_f26 w_BINARY p0 (65 : Int32) (66 : Int32) (32 : Int32) (52 : Int32) (15 : Int32)) = (own_f57 p0) from rfl)).2 k) ?_
  refine own_go (T2 := T56) (g2 := (mkF m 57 #[.val (.int p0), .val (.int p1), .val (.int p0), .val (.int (p1 &&& (255 : Int32))), .val (.int (1 : Int32))] [(.int (1 : Int32))])) (fun t k => XS.iconst X56.here hx rfl (hb hby at_56) k) ?_
  refine own_go (T2 := T56) (g2 := (mkF m 61 #[.val (.int p0), .val (.int p1), .val (.int p0), .val (.int (p1 &&& (255 : Int32))), .val (.int (1 : Int32))] [(.int (1 : Int32))])) (fun t k => XS.goto X56.here hx rfl (pc0 := 57) (pc' := 61) rfl (hb hby at_57) (by decide) (by decide) k) ?_
  refine own_go (T2 := T56) (g2 := (mkF m 63 #[.val (.int p0), .val (.int p1), .val (.int p0), .val (.int (p1 &&& (255 : Int32))), .val (.int (1 : Int32))] [])) (fun t k => XS.istore X56.here hx rfl (hb hby at_61) rfl (l' := #[.val (.int p0), .val (.int p1), .val (.int p0), .val (.int (p1 &&& (255 : Int32))), .val (.int (1 : Int32))]) rfl k) ?_
  refine own_go (T2 := T56) (g2 := (mkF m 65 #[.val (.int p0), .val (.int p1), .val (.int p0), .val (.int (p1 &&& (255 : Int32))), .val (.int (1 : Int32))] [(.int (1 : Int32))])) (fun t k => XS.iload X56.here hx rfl (hb hby at_63) rfl  k) ?_
  refine own_go (T2 := T56) (g2 := (mkF m 68 #[.val (.int p0), .val (.int p1), .val (.int p0), .val (.int (p1 &&& (255 : Int32))), .val (.int (1 : Int32))] [])) (fun t k => XS.ifNo X56.here hx rfl (hb hby at_65) rfl ((if0 _ _).trans (feq (show ¬ ((1 : Int32) = (0 : Int32)) from (by decide))).1) k) ?_
  obtain ⟨T66, X66, e66, st66⟩ := getS2 X56 hx hZ hown (host := "") (Or.inl (own_wd hw 0 rfl)) Via.refl e56 S_w_STRING (g := (mkF m 68 #[.val (.int p0), .val (.int p1), .val (.int p0), .val (.int (p1 &&& (255 : Int32))), .val (.int (1 : Int32))] [])) rfl (hb hby at_68)
  refine own_go (T2 := T66) (g2 := (mkF m 71 #[.val (.int p0), .val (.int p1), .val (.int p0), .val (.int (p1 &&& (255 : Int32))), .val (.int (1 : Int32))] [(.ref w_STRING)])) st66 ?_
  refine own_go (T2 := T66) (g2 := (mkF m 72 #[.val (.int p0), .val (.int p1), .val (.int p0), .val (.int (p1 &&& (255 : Int32))), .val (.int (1 : Int32))] [(.int (p1 &&& (255 : Int32))), (.ref w_STRING)])) (fun t k => XS.iloadN X66.here hx rfl (hb hby at_71) rfl  k) ?_
  obtain ⟨_, T67, _, X67, ⟨rfl, rfl, e67⟩, st67⟩ := own_virtual X66 hx hZ (y := (⟨"com/example/bellwire/bellwire/hessian/Chunked", "startsChunk", "(I)Z"⟩ : MethodName)) (z := (⟨"com/example/bellwire/bellwire/hessian/Chunked", "startsChunk", "(I)Z"⟩ : MethodName)) (C := "com/example/bellwire/bellwire/hessian/Chunked") hown (own_wd hw 3 rfl) (own_wd hw 4 rfl) (notFace_of_selects (args := #[]) (mvT hZ (own_wd hw 6 rfl))) (own_wd hw 6 rfl) (own_wd hw 5 rfl) (own_wd hw 1 rfl) (own_wd hw 7 rfl) (by decide) 0 (argsL := [(.int (p1 &&& (255 : Int32)))]) (rest := []) (own_rm26 l Z a0 hw h0 w_STRING (p1 &&& (255 : Int32)) (82 : Int32) (83 : Int32) (0 : Int32) (48 : Int32) (31 : Int32) F_chunkCode_w_STRING F_finalCode_w_STRING F_tinyCode_w_STRING F_shortCode_w_STRING F_tinyMax_w_STRING) (by decide) (by decide) E_w_STRING (g := (mkF m 72 #[.val (.int p0), .val (.int p1), .val (.int p0), .val (.int (p1 &&& (255 : Int32))), .val (.int (1 : Int32))] [(.int (p1 &&& (255 : Int32))), (.ref w_STRING)])) rfl (by rw [hml]; rfl) (lenOf own_pd0 rfl) rfl (by show 2 * 0 + _ ≤ _; exact Nat.le_of_eq rfl) (hb hby at_72) e66 (by decide) (by decide)
  refine own_go (T2 := T67) (g2 := (mkF m 75 #[.val (.int p0), .val (.int p1), .val (.int p0), .val (.int (p1 &&& (255 : Int32))), .val (.int (1 : Int32))] [(.int (own_f26 w_STRING (p1 &&& (255 : Int32)) (82 : Int32) (83 : Int32) (0 : Int32) (48 : Int32) (31 : Int32)))])) st67 ?_
  refine own_go (T2 := T67) (g2 := (mkF m 76 #[.val (.int p0), .val (.int p1), .val (.int p0), .val (.int (p1 &&& (255 : Int32))), .val (.int (1 : Int32))] [(.int (p1 &&& (255 : Int32))), (.int (own_f26 w_STRING (p1 &&& (255 : Int32)) (82 : Int32) (83 : Int32) (0 : Int32) (48 : Int32) (31 : Int32)))])) (fun t k => XS.iloadN X67.here hx rfl (hb hby at_75) rfl  k) ?_
  obtain ⟨_, T68, _, X68, ⟨rfl, rfl, e68⟩, st68⟩ := own_static X67 hx hZ (y := (⟨"com/example/bellwire/bellwire/hessian/ChunkedStartsChunkPinLaw", "refString", "(I)Z"⟩ : MethodName)) hown (own_wd hw 16 rfl) (own_wd hw 17 rfl) (own_wd hw 18 rfl) (own_wd hw 19 rfl) (by decide) 1 (argsL := [(.int (p1 &&& (255 : Int32)))]) (rest := [(.int (own_f26 w_STRING (p1 &&& (255 : Int32)) (82 : Int32) (83 : Int32) (0 : Int32) (48 : Int32) (31 : Int32)))]) (own_rm45 l Z a0 hw h0 (p1 &&& (255 : Int32)) ) (by decide) (by decide) (g := (mkF m 76 #[.val (.int p0), .val (.int p1), .val (.int p0), .val (.int (p1 &&& (255 : Int32))), .val (.int (1 : Int32))] [(.int (p1 &&& (255 : Int32))), (.int (own_f26 w_STRING (p1 &&& (255 : Int32)) (82 : Int32) (83 : Int32) (0 : Int32) (48 : Int32) (31 : Int32)))])) rfl (by rw [hml]; rfl) (lenOf own_pd0 rfl) rfl (by show 2 * 0 + _ ≤ _; exact Nat.le_of_eq rfl) (hb hby at_76) e67 (by decide) (by decide)
  refine own_go (T2 := T68) (g2 := (mkF m 79 #[.val (.int p0), .val (.int p1), .val (.int p0), .val (.int (p1 &&& (255 : Int32))), .val (.int (1 : Int32))] [(.int (own_f45 (p1 &&& (255 : Int32)))), (.int (own_f26 w_STRING (p1 &&& (255 : Int32)) (82 : Int32) (83 : Int32) (0 : Int32) (48 : Int32) (31 : Int32)))])) st68 ?_
  refine own_go (T2 := T68) (g2 := (mkF m 82 #[.val (.int p0), .val (.int p1), .val (.int p0), .val (.int (p1 &&& (255 : Int32))), .val (.int (1 : Int32))] [])) (fun t k => XS.icmpNo X68.here hx rfl (hb hby at_79) rfl (teq (show (own_f26 w_STRING (p1 &&& (255 : Int32)) (82 : Int32) (83 : Int32) (0 : Int32) (48 : Int32) (31 : Int32)) = (own_f45 (p1 &&& (255 : Int32))) from rfl)).2 k) ?_
  refine own_go (T2 := T68) (g2 := (mkF m 83 #[.val (.int p0), .val (.int p1), .val (.int p0), .val (.int (p1 &&& (255 : Int32))), .val (.int (1 : Int32))] [(.int (1 : Int32))])) (fun t k => XS.iconst X68.here hx rfl (hb hby at_82) k) ?_
  refine own_go (T2 := T68) (g2 := (mkF m 87 #[.val (.int p0), .val (.int p1), .val (.int p0), .val (.int (p1 &&& (255 : Int32))), .val (.int (1 : Int32))] [(.int (1 : Int32))])) (fun t k => XS.goto X68.here hx rfl (pc0 := 83) (pc' := 87) rfl (hb hby at_83) (by decide) (by decide) k) ?_
  refine own_go (T2 := T68) (g2 := (mkF m 89 #[.val (.int p0), .val (.int p1), .val (.int p0), .val (.int (p1 &&& (255 : Int32))), .val (.int (1 : Int32))] [])) (fun t k => XS.istore X68.here hx rfl (hb hby at_87) rfl (l' := #[.val (.int p0), .val (.int p1), .val (.int p0), .val (.int (p1 &&& (255 : Int32))), .val (.int (1 : Int32))]) rfl k) ?_
  refine own_go (T2 := T68) (g2 := (mkF m 91 #[.val (.int p0), .val (.int p1), .val (.int p0), .val (.int (p1 &&& (255 : Int32))), .val (.int (1 : Int32))] [(.int (1 : Int32))])) (fun t k => XS.iload X68.here hx rfl (hb hby at_89) rfl  k) ?_
  refine own_go (T2 := T68) (g2 := (mkF m 94 #[.val (.int p0), .val (.int p1), .val (.int p0), .val (.int (p1 &&& (255 : Int32))), .val (.int (1 : Int32))] [])) (fun t k => XS.ifNo X68.here hx rfl (hb hby at_91) rfl ((if0 _ _).trans (feq (show ¬ ((1 : Int32) = (0 : Int32)) from (by decide))).1) k) ?_
  obtain ⟨T69, X69, e69, st69⟩ := getS2 X68 hx hZ hown (host := "") (Or.inl (own_wd hw 20 rfl)) Via.refl e68 S_w_BINARY (g := (mkF m 94 #[.val (.int p0), .val (.int p1), .val (.int p0), .val (.int (p1 &&& (255 : Int32))), .val (.int (1 : Int32))] [])) rfl (hb hby at_94)
  refine own_go (T2 := T69) (g2 := (mkF m 97 #[.val (.int p0), .val (.int p1), .val (.int p0), .val (.int (p1 &&& (255 : Int32))), .val (.int (1 : Int32))] [(.ref w_BINARY)])) st69 ?_
  refine own_go (T2 := T69) (g2 := (mkF m 98 #[.val (.int p0), .val (.int p1), .val (.int p0), .val (.int (p1 &&& (255 : Int32))), .val (.int (1 : Int32))] [(.int (p1 &&& (255 : Int32))), (.ref w_BINARY)])) (fun t k => XS.iloadN X69.here hx rfl (hb hby at_97) rfl  k) ?_
  obtain ⟨_, T70, _, X70, ⟨rfl, rfl, e70⟩, st70⟩ := own_virtual X69 hx hZ (y := (⟨"com/example/bellwire/bellwire/hessian/Chunked", "startsChunk", "(I)Z"⟩ : MethodName)) (z := (⟨"com/example/bellwire/bellwire/hessian/Chunked", "startsChunk", "(I)Z"⟩ : MethodName)) (C := "com/example/bellwire/bellwire/hessian/Chunked") hown (own_wd hw 3 rfl) (own_wd hw 4 rfl) (notFace_of_selects (args := #[]) (mvT hZ (own_wd hw 6 rfl))) (own_wd hw 6 rfl) (own_wd hw 5 rfl) (own_wd hw 1 rfl) (own_wd hw 7 rfl) (by decide) 0 (argsL := [(.int (p1 &&& (255 : Int32)))]) (rest := []) (own_rm26 l Z a0 hw h0 w_BINARY (p1 &&& (255 : Int32)) (65 : Int32) (66 : Int32) (32 : Int32) (52 : Int32) (15 : Int32) F_chunkCode_w_BINARY F_finalCode_w_BINARY F_tinyCode_w_BINARY F_shortCode_w_BINARY F_tinyMax_w_BINARY) (by decide) (by decide) E_w_BINARY (g := (mkF m 98 #[.val (.int p0), .val (.int p1), .val (.int p0), .val (.int (p1 &&& (255 : Int32))), .val (.int (1 : Int32))] [(.int (p1 &&& (255 : Int32))), (.ref w_BINARY)])) rfl (by rw [hml]; rfl) (lenOf own_pd0 rfl) rfl (by show 2 * 0 + _ ≤ _; exact Nat.le_of_eq rfl) (hb hby at_98) e69 (by decide) (by decide)
  refine own_go (T2 := T70) (g2 := (mkF m 101 #[.val (.int p0), .val (.int p1), .val (.int p0), .val (.int (p1 &&& (255 : Int32))), .val (.int (1 : Int32))] [(.int (own_f26 w_BINARY (p1 &&& (255 : Int32)) (65 : Int32) (66 : Int32) (32 : Int32) (52 : Int32) (15 : Int32)))])) st70 ?_
  refine own_go (T2 := T70) (g2 := (mkF m 102 #[.val (.int p0), .val (.int p1), .val (.int p0), .val (.int (p1 &&& (255 : Int32))), .val (.int (1 : Int32))] [(.int (p1 &&& (255 : Int32))), (.int (own_f26 w_BINARY (p1 &&& (255 : Int32)) (65 : Int32) (66 : Int32) (32 : Int32) (52 : Int32) (15 : Int32)))])) (fun t k => XS.iloadN X70.here hx rfl (hb hby at_101) rfl  k) ?_
  obtain ⟨_, T71, _, X71, ⟨rfl, rfl, e71⟩, st71⟩ := own_static X70 hx hZ (y := (⟨"com/example/bellwire/bellwire/hessian/ChunkedStartsChunkPinLaw", "refBinary", "(I)Z"⟩ : MethodName)) hown (own_wd hw 24 rfl) (own_wd hw 25 rfl) (own_wd hw 18 rfl) (own_wd hw 26 rfl) (by decide) 1 (argsL := [(.int (p1 &&& (255 : Int32)))]) (rest := [(.int (own_f26 w_BINARY (p1 &&& (255 : Int32)) (65 : Int32) (66 : Int32) (32 : Int32) (52 : Int32) (15 : Int32)))]) (own_rm57 l Z a0 hw h0 (p1 &&& (255 : Int32)) ) (by decide) (by decide) (g := (mkF m 102 #[.val (.int p0), .val (.int p1), .val (.int p0), .val (.int (p1 &&& (255 : Int32))), .val (.int (1 : Int32))] [(.int (p1 &&& (255 : Int32))), (.int (own_f26 w_BINARY (p1 &&& (255 : Int32)) (65 : Int32) (66 : Int32) (32 : Int32) (52 : Int32) (15 : Int32)))])) rfl (by rw [hml]; rfl) (lenOf own_pd0 rfl) rfl (by show 2 * 0 + _ ≤ _; exact Nat.le_of_eq rfl) (hb hby at_102) e70 (by decide) (by decide)
  refine own_go (T2 := T71) (g2 := (mkF m 105 #[.val (.int p0), .val (.int p1), .val (.int p0), .val (.int (p1 &&& (255 : Int32))), .val (.int (1 : Int32))] [(.int (own_f57 (p1 &&& (255 : Int32)))), (.int (own_f26 w_BINARY (p1 &&& (255 : Int32)) (65 : Int32) (66 : Int32) (32 : Int32) (52 : Int32) (15 : Int32)))])) st71 ?_
  refine own_go (T2 := T71) (g2 := (mkF m 108 #[.val (.int p0), .val (.int p1), .val (.int p0), .val (.int (p1 &&& (255 : Int32))), .val (.int (1 : Int32))] [])) (fun t k => XS.icmpNo X71.here hx rfl (hb hby at_105) rfl (teq (show (own_f26 w_BINARY (p1 &&& (255 : Int32)) (65 : Int32) (66 : Int32) (32 : Int32) (52 : Int32) (15 : Int32)) = (own_f57 (p1 &&& (255 : Int32))) from rfl)).2 k) ?_
  refine own_go (T2 := T71) (g2 := (mkF m 109 #[.val (.int p0), .val (.int p1), .val (.int p0), .val (.int (p1 &&& (255 : Int32))), .val (.int (1 : Int32))] [(.int (1 : Int32))])) (fun t k => XS.iconst X71.here hx rfl (hb hby at_108) k) ?_
  refine own_go (T2 := T71) (g2 := (mkF m 113 #[.val (.int p0), .val (.int p1), .val (.int p0), .val (.int (p1 &&& (255 : Int32))), .val (.int (1 : Int32))] [(.int (1 : Int32))])) (fun t k => XS.goto X71.here hx rfl (pc0 := 109) (pc' := 113) rfl (hb hby at_109) (by decide) (by decide) k) ?_
  refine own_go (T2 := T71) (g2 := (mkF m 115 #[.val (.int p0), .val (.int p1), .val (.int p0), .val (.int (p1 &&& (255 : Int32))), .val (.int (1 : Int32))] [])) (fun t k => XS.istore X71.here hx rfl (hb hby at_113) rfl (l' := #[.val (.int p0), .val (.int p1), .val (.int p0), .val (.int (p1 &&& (255 : Int32))), .val (.int (1 : Int32))]) rfl k) ?_
  refine own_go (T2 := T71) (g2 := (mkF m 117 #[.val (.int p0), .val (.int p1), .val (.int p0), .val (.int (p1 &&& (255 : Int32))), .val (.int (1 : Int32))] [(.int (1 : Int32))])) (fun t k => XS.iload X71.here hx rfl (hb hby at_115) rfl  k) ?_
  exact own_endN X71 hx Bd.notSynchronized (t := .boolean) Bd.returns (by simp) (hb hby at_117) (z' := (1 : Int32)) rfl (by decide) (by decide) ⟨rfl, Fr.nil _⟩
set_option maxRecDepth 65536 in
set_option maxHeartbeats 40000000 in
theorem comes_1 {Post : Tables → Env → Array Value → State → Outcome → State → Prop} (hpost : ∀ tb e args s v u, (limb_1_1.after args s (.returned v) u = true ∧ limb_1_2.after args s (.returned v) u = true ∧ True) → FrameEnd s (.returned v) u (Jvm.fieldLocs frame_1_writes args s ++ Jvm.arrayLocs frame_1_arrays args s ++ Jvm.staticLocs frame_1_statics s) 0 0 → Post tb e args s (.returned v) u) :
    ArmFor flags0 classFile x code maxLocals ret World_1 tables_1 room_1 Calls_1 rest_1 Pre_1 Post := by
  intro l hfl _ _ p e ha hc hk s m args below hf hA hF happ hP
  obtain ⟨hcalls, hrest, hpre⟩ := hP
  obtain ⟨-, -, -, hnamed, -, -, -, hat⟩ := (Spec.applies_iff hf).mp happ
  obtain ⟨hg, hn⟩ := and_e (Cond.before_iff.mp (show (Jvm.Cond.and given_1 narrow_1).before args s = true from hpre))
  obtain ⟨g72, g73⟩ := and_e hg
  obtain ⟨g74, g75⟩ := and_e g73
  obtain ⟨w0, w1, rfl⟩ : ∃ w0 w1 : Value, args = #[w0, w1] := by
    have hs : args.size = 2 := by simpa [Cond.value, given_1] using g72
    obtain ⟨L⟩ := args
    match L, hs with
    | [w0, w1], _ => exact ⟨w0, w1, rfl⟩
  have hw := fun d (hd : d ∈ tables_1) => atoms_spec (ws := Jvm.Cond.code x code maxLocals ret :: tables_1) hat d (List.mem_cons_of_mem _ hd)
  have hfit : Fit s := fun {y c} hc i hi => by
    obtain ⟨ha, rfl⟩ := Array.getElem?_eq_some_iff.mp hc
    have q := List.all_eq_true.mp ((Array.all_eq_true_iff_forall_mem.mp hF) _ (Array.getElem_mem ha)) i (List.mem_range.mpr hi)
    simpa [Array.getElem?_eq_getElem hi] using q
  obtain ⟨i0, ei0⟩ := is_v g74
  obtain rfl : w0 = (.int i0) := Option.some.inj ei0
  obtain ⟨i1, ei1⟩ := is_v g75
  obtain rfl : w1 = (.int i1) := Option.some.inj ei1
  obtain ⟨n2, n3⟩ := and_e hn
  obtain ⟨n4, n5⟩ := and_e n3
  obtain ⟨n6, n7⟩ := and_e n5
  obtain ⟨n8, n9⟩ := and_e n7
  obtain ⟨n10, n11⟩ := and_e n9
  obtain ⟨n12, n13⟩ := and_e n11
  obtain ⟨n14, n15⟩ := and_e n13
  obtain ⟨n16, n17⟩ := and_e n15
  obtain ⟨n18, n19⟩ := and_e n17
  obtain ⟨n20, n21⟩ := and_e n19
  obtain ⟨n22, n23⟩ := and_e n21
  obtain ⟨w_STRING, ev_w_STRING⟩ := exa_v n2
  obtain ⟨w_BINARY, ev_w_BINARY⟩ := exa_v n12
  obtain ⟨n, o, h1, h2, h3, _, L, rfl, ⟨rfl, N⟩, hq⟩ := own_rm0 l s _ hw tables_1 s.heap s.heap.size (Nat.le_refl _) i0 i1 w_STRING w_BINARY (Sta.start ev_w_STRING (Or.inr ⟨(own_wd hw 1 rfl), (own_wd hw 2 rfl)⟩))
    (Exa.start ev_w_STRING n2)
    (Sta.start ev_w_BINARY (Or.inr ⟨(own_wd hw 1 rfl), (own_wd hw 21 rfl)⟩))
    (Exa.start ev_w_BINARY n12)
    (own_fldI ev_w_STRING n4)
    (own_fldI ev_w_STRING n6)
    (own_fldI ev_w_STRING n8)
    (own_fldI ev_w_STRING n10)
    (own_fldI ev_w_BINARY n14)
    (own_fldI ev_w_BINARY n16)
    (own_fldI ev_w_BINARY n18)
    (own_fldI ev_w_BINARY n20)
    (own_fldI ev_w_STRING n22)
    (own_fldI ev_w_BINARY n23) p e ha hc hk s m _ below hf ((Spec.applies_iff_loose hf).mp happ).1 ⟨rfl, State.Warmed39.refl s, rfl⟩ trivial
  refine ⟨n, _, h1, h2, h3, hpost _ _ _ _ _ _ ⟨Cond.after_iff.mpr rfl, Cond.after_iff.mpr (eq_i res_at (Term.int_eval (1)) rfl), trivial⟩ ⟨hq.1, hq.2.1, (hq.2.2.sift fun y hy => Or.inr (N y hy)).mono (by decide) (by decide)⟩⟩
theorem main_1_1 : Claimed_1_1 := comes_1 fun _ _ _ _ _ _ h hF => ⟨h.1, hF⟩
theorem main_1_2 : Claimed_1_2 := comes_1 fun _ _ _ _ _ _ h hF => ⟨h.2.1, hF⟩
end Jvm.Pilot.@@N@@
namespace Jvm.Pilot.@@N@@
open Jvm Jvm.ClassFile Sem Op Lib Jvm.Free Jvm.Stand Jvm.Pilot.@@N@@.Jvm.D
/-! MADE BY PROGRAM (witnessworld.py) out of the Statement's table words and the real class files: 12 classes; the members and pool entries that the words name. The judged class is class 1, her method 3. -/
namespace start1
open Jvm.ClassFile
def u (s : String) : CpInfo := .utf8 (stringToUtf16 s)
/-- a pool by its gaps: so many unusable entries, then the entry; so many at the end -/
def gap : Nat → List CpInfo → List CpInfo
  | 0, r => r
  | n + 1, r => .unusable :: gap n r
def poolList (es : List (Nat × CpInfo)) (last : Nat) : List CpInfo := es.foldr (fun e r => gap e.1 (e.2 :: r)) (gap last [])
def pool (es : List (Nat × CpInfo)) (last : Nat) : Array CpInfo := ⟨poolList es last⟩
def fileOf (pool : Array CpInfo) (this : Nat) (attrs : Array Attribute := #[]) (ms : Array MethodInfo := #[]) (fl : Nat := 33) (sup : Nat := 0) (ifs : Array Nat := #[]) (fds : Array FieldInfo := #[]) : ClassFile where
  minorVersion := 0
  majorVersion := 65
  constantPool := pool
  accessFlags := fl
  thisClass := this
  superClass := sup
  interfaces := ifs
  fields := fds
  methods := ms
  attributes := attrs
def plain (name : String) (sup : Option ClassId) : Class where
  name := name
  kind := .ordinary
  loader := none
  accessFlags := 33
  super := sup
  interfaces := #[]
  cf := none
  fields := #[]
  methods := #[]
  instanceTypes := #[]
  staticTypes := #[]
  resolved := #[]
  callSites := []
  init := .initialized
  statics := none
  mirror := none

def pool0 : Array CpInfo := pool [(5, u "<init>"), (0, u "()V"), (1, .class_ 10), (1, u "java/lang/Object")] 113

def k0m0 : Method := { name := "<init>", desc := "()V", sig := { parameters := [], returnType := none }, accessFlags := 1, code := none }
/-- java/lang/Object -/
def k0 : Class := { plain "java/lang/Object" none with
  accessFlags := 33
  interfaces := #[]
  cf := some (fileOf pool0 8 #[] #[{ accessFlags := 1, nameIndex := 5, descriptorIndex := 6, attributes := #[] }] 33 0 #[] #[])
  fields := #[]
  methods := #[k0m0]
  instanceTypes := #[]
  staticTypes := #[]
  resolved := Array.replicate 124 none
  statics := none }

def pool1 : Array CpInfo := pool [(2, .class_ 4), (1, u "java/lang/Object"), (0, u "<init>"), (0, u "()V"), (0, .fieldref 8 9), (0, .class_ 10), (0, .nameAndType 11 12), (0, u "com/example/bellwire/bellwire/hessian/Chunked"), (0, u "STRING"), (0, u "Lcom/example/bellwire/bellwire/hessian/Chunked;"), (0, .methodref 8 14), (0, .nameAndType 15 16), (0, u "startsChunk"), (0, u "(I)Z"), (0, .methodref 18 19), (0, .class_ 20), (0, .nameAndType 21 16), (0, u "com/example/bellwire/bellwire/hessian/ChunkedStartsChunkPinLaw"), (0, u "refString"), (0, .fieldref 8 23), (0, .nameAndType 24 12), (0, u "BINARY"), (0, .methodref 18 26), (0, .nameAndType 27 16), (0, u "refBinary"), (3, u "law"), (0, u "(II)Z")] 2

def k1m0 : Method := { name := "<init>", desc := "()V", sig := { parameters := [], returnType := none }, accessFlags := 1, code := none }
def k1c1 : Code := { maxStack := 2, maxLocals := 1, code := method_2_code, exceptionTable := #[], attributes := #[] }
def k1m1 : Method := { name := "refString", desc := "(I)Z", sig := { parameters := [.int], returnType := some .boolean }, accessFlags := 10, code := some k1c1 }
def k1c2 : Code := { maxStack := 2, maxLocals := 1, code := method_3_code, exceptionTable := #[], attributes := #[] }
def k1m2 : Method := { name := "refBinary", desc := "(I)Z", sig := { parameters := [.int], returnType := some .boolean }, accessFlags := 10, code := some k1c2 }
def k1c3 : Code := { maxStack := 2, maxLocals := 5, code := code, exceptionTable := #[], attributes := #[] }
def k1m3 : Method := { name := "law", desc := "(II)Z", sig := { parameters := [.int, .int], returnType := some .boolean }, accessFlags := 9, code := some k1c3 }
/-- com/example/bellwire/bellwire/hessian/ChunkedStartsChunkPinLaw -/
def k1 : Class := { plain "com/example/bellwire/bellwire/hessian/ChunkedStartsChunkPinLaw" (some 0) with
  accessFlags := 49
  interfaces := #[]
  cf := some (fileOf pool1 18 #[] #[{ accessFlags := 1, nameIndex := 5, descriptorIndex := 6, attributes := #[] }, { accessFlags := 10, nameIndex := 21, descriptorIndex := 16, attributes := #[] }, { accessFlags := 10, nameIndex := 27, descriptorIndex := 16, attributes := #[] }, { accessFlags := 9, nameIndex := 31, descriptorIndex := 32, attributes := #[] }] 49 2 #[] #[])
  fields := #[]
  methods := #[k1m0, k1m1, k1m2, k1m3]
  instanceTypes := #[]
  staticTypes := #[]
  resolved := Array.replicate 35 none
  statics := none }

def pool2 : Array CpInfo := pool [(1, .class_ 2), (0, u "java/lang/constant/Constable"), (0, .class_ 4), (0, u "java/lang/Object")] 6

/-- java/lang/constant/Constable -/
def k2 : Class := { plain "java/lang/constant/Constable" (some 0) with
  accessFlags := 1537
  interfaces := #[]
  cf := some (fileOf pool2 1 #[] #[] 1537 3 #[] #[])
  fields := #[]
  methods := #[]
  instanceTypes := #[]
  staticTypes := #[]
  resolved := Array.replicate 11 none
  statics := none }

def pool3 : Array CpInfo := pool [(1, .class_ 2), (0, u "java/lang/Comparable"), (0, .class_ 4), (0, u "java/lang/Object")] 7

/-- java/lang/Comparable -/
def k3 : Class := { plain "java/lang/Comparable" (some 0) with
  accessFlags := 1537
  interfaces := #[]
  cf := some (fileOf pool3 1 #[] #[] 1537 3 #[] #[])
  fields := #[]
  methods := #[]
  instanceTypes := #[]
  staticTypes := #[]
  resolved := Array.replicate 12 none
  statics := none }

def pool4 : Array CpInfo := pool [(1, .class_ 2), (0, u "java/io/Serializable"), (0, .class_ 4), (0, u "java/lang/Object")] 2

/-- java/io/Serializable -/
def k4 : Class := { plain "java/io/Serializable" (some 0) with
  accessFlags := 1537
  interfaces := #[]
  cf := some (fileOf pool4 1 #[] #[] 1537 3 #[] #[])
  fields := #[]
  methods := #[]
  instanceTypes := #[]
  staticTypes := #[]
  resolved := Array.replicate 7 none
  statics := none }

def pool5 : Array CpInfo := pool [(2, .class_ 4), (1, u "java/lang/Enum"), (0, u "name"), (0, u "Ljava/lang/String;"), (2, u "ordinal"), (0, u "I"), (1, .class_ 14), (1, u "java/lang/Object"), (4, u "hash"), (86, .class_ 108), (1, u "java/lang/Enum$EnumDesc"), (2, .class_ 112), (0, u "java/lang/constant/Constable"), (0, .class_ 114), (0, u "java/lang/Comparable"), (0, .class_ 116), (0, u "java/io/Serializable")] 87

/-- java/lang/Enum -/
def k5 : Class := { plain "java/lang/Enum" (some 0) with
  accessFlags := 1057
  interfaces := #[2, 3, 4]
  cf := some (fileOf pool5 2 #[.nestMembers #[106]] #[] 1057 12 #[111, 113, 115] #[{ accessFlags := 18, nameIndex := 5, descriptorIndex := 6, attributes := #[] }, { accessFlags := 18, nameIndex := 9, descriptorIndex := 10, attributes := #[] }, { accessFlags := 2, nameIndex := 19, descriptorIndex := 10, attributes := #[] }])
  fields := #[{ name := "name", type := (.object "java/lang/String"), accessFlags := 18, slot := 0, constantValue := 0 }, { name := "ordinal", type := .int, accessFlags := 18, slot := 1, constantValue := 0 }, { name := "hash", type := .int, accessFlags := 2, slot := 2, constantValue := 0 }]
  methods := #[]
  instanceTypes := #[(.object "java/lang/String"), .int, .int]
  staticTypes := #[]
  resolved := Array.replicate 204 none
  statics := none }

def pool6 : Array CpInfo := pool [(1, .class_ 2), (0, u "com/example/bellwire/bellwire/hessian/Chunked"), (2, u "STRING"), (0, u "Lcom/example/bellwire/bellwire/hessian/Chunked;"), (2, u "BINARY"), (2, u "$VALUES"), (0, u "[Lcom/example/bellwire/bellwire/hessian/Chunked;"), (6, .class_ 22), (1, u "java/lang/Enum"), (6, .fieldref 1 30), (0, .nameAndType 31 32), (0, u "chunkCode"), (0, u "I"), (0, .fieldref 1 34), (0, .nameAndType 35 32), (0, u "finalCode"), (0, .fieldref 1 37), (0, .nameAndType 38 32), (0, u "tinyCode"), (0, .fieldref 1 40), (0, .nameAndType 41 32), (0, u "tinyMax"), (0, .fieldref 1 43), (0, .nameAndType 44 32), (0, u "shortCode"), (9, u "MAX_LENGTH"), (2, u "SHORT_MAX"), (8, u "startsChunk"), (0, u "(I)Z")] 6

def k6c0 : Code := { maxStack := 3, maxLocals := 2, code := prog_68_method_4_code, exceptionTable := #[], attributes := #[] }
def k6m0 : Method := { name := "startsChunk", desc := "(I)Z", sig := { parameters := [.int], returnType := some .boolean }, accessFlags := 0, code := some k6c0 }
/-- com/example/bellwire/bellwire/hessian/Chunked -/
def k6 : Class := { plain "com/example/bellwire/bellwire/hessian/Chunked" (some 5) with
  accessFlags := 16432
  interfaces := #[]
  cf := some (fileOf pool6 1 #[] #[{ accessFlags := 0, nameIndex := 66, descriptorIndex := 67, attributes := #[] }] 16432 20 #[] #[{ accessFlags := 16409, nameIndex := 5, descriptorIndex := 6, attributes := #[] }, { accessFlags := 16409, nameIndex := 9, descriptorIndex := 6, attributes := #[] }, { accessFlags := 24, nameIndex := 54, descriptorIndex := 32, attributes := #[] }, { accessFlags := 24, nameIndex := 57, descriptorIndex := 32, attributes := #[] }, { accessFlags := 16, nameIndex := 31, descriptorIndex := 32, attributes := #[] }, { accessFlags := 16, nameIndex := 35, descriptorIndex := 32, attributes := #[] }, { accessFlags := 16, nameIndex := 38, descriptorIndex := 32, attributes := #[] }, { accessFlags := 16, nameIndex := 41, descriptorIndex := 32, attributes := #[] }, { accessFlags := 16, nameIndex := 44, descriptorIndex := 32, attributes := #[] }, { accessFlags := 4122, nameIndex := 12, descriptorIndex := 13, attributes := #[] }])
  fields := #[{ name := "STRING", type := (.object "com/example/bellwire/bellwire/hessian/Chunked"), accessFlags := 16409, slot := 0, constantValue := 0 }, { name := "BINARY", type := (.object "com/example/bellwire/bellwire/hessian/Chunked"), accessFlags := 16409, slot := 1, constantValue := 0 }, { name := "MAX_LENGTH", type := .int, accessFlags := 24, slot := 2, constantValue := 0 }, { name := "SHORT_MAX", type := .int, accessFlags := 24, slot := 3, constantValue := 0 }, { name := "chunkCode", type := .int, accessFlags := 16, slot := 3, constantValue := 0 }, { name := "finalCode", type := .int, accessFlags := 16, slot := 4, constantValue := 0 }, { name := "tinyCode", type := .int, accessFlags := 16, slot := 5, constantValue := 0 }, { name := "tinyMax", type := .int, accessFlags := 16, slot := 6, constantValue := 0 }, { name := "shortCode", type := .int, accessFlags := 16, slot := 7, constantValue := 0 }, { name := "$VALUES", type := (.array (.object "com/example/bellwire/bellwire/hessian/Chunked")), accessFlags := 4122, slot := 4, constantValue := 0 }]
  methods := #[k6m0]
  instanceTypes := #[(.object "java/lang/String"), .int, .int, .int, .int, .int, .int, .int]
  staticTypes := #[(.object "com/example/bellwire/bellwire/hessian/Chunked"), (.object "com/example/bellwire/bellwire/hessian/Chunked"), .int, .int, (.array (.object "com/example/bellwire/bellwire/hessian/Chunked"))]
  resolved := Array.replicate 74 none
  statics := some 0 }

def pool7 : Array CpInfo := pool [(1, u "java/lang/Cloneable"), (0, .class_ 1), (0, u "java/lang/Object"), (0, .class_ 3)] 3

/-- java/lang/Cloneable -/
def k7 : Class := { plain "java/lang/Cloneable" (some 0) with
  accessFlags := 1537
  interfaces := #[]
  cf := some (fileOf pool7 2 #[] #[] 1537 4 #[] #[])
  fields := #[]
  methods := #[]
  instanceTypes := #[]
  staticTypes := #[]
  resolved := Array.replicate 8 none
  statics := none }

/-- the primitive byte -/
def k8 : Class := { plain "byte" none with kind := .primitive 'B', accessFlags := 0x411 }
/-- [B -/
def k9 : Class := { plain "[B" (some 0) with kind := .array 8 .byte, interfaces := #[7, 4], accessFlags := 1041 }

/-- the primitive int -/
def k10 : Class := { plain "int" none with kind := .primitive 'I', accessFlags := 0x411 }
/-- [I -/
def k11 : Class := { plain "[I" (some 0) with kind := .array 10 .int, interfaces := #[7, 4], accessFlags := 1041 }

def heap : Heap := #[{ cls := 6, slots := #[.ref 1, .ref 2, .int 0, .int 0, .null], vm := .statics 6 },
  { cls := 6, slots := #[.null, .int (0), .int (0), .int (82), .int (83), .int (0), .int (31), .int (48)], vm := .none },
  { cls := 6, slots := #[.null, .int (0), .int (0), .int (65), .int (66), .int (32), .int (15), .int (52)], vm := .none }]
def classes : Array Class := #[k0, k1, k2, k3, k4, k5, k6, k7, k8, k9, k10, k11]
def interned : List (Array UInt16 × Addr) := []
def slotsUsed : Nat := 21
def theMethod : MethodId := ⟨1, 3⟩
def args0 : Array Value := #[.int 5, .int 5]
def aboutOver (below : List Frame) : State where
  vm := { classes := classes, interned := interned.toArray }
  heap := heap
  slotsUsed := slotsUsed
  threads := #[{ frames := .invoking theMethod args0 :: below }]
def below0 : List Frame := [.native { method := ⟨0, 0⟩, args := #[] }]
def about1 : State := aboutOver below0
def p0 : Program := .bare "" "" ""
def e0 : Env := launch0.env 0 0 0
theorem w_frames : about1.frames = Frame.invoking theMethod args0 :: below0 := rfl
set_option maxRecDepth 65536 in
theorem w_args : argsFit about1.vm theMethod args0 = true := by decide +kernel
set_option maxRecDepth 65536 in
theorem w_heap : heapFits about1 = true := by decide +kernel
set_option maxRecDepth 65536 in
theorem w_runnable : about1.curStatus? = some .runnable := by decide +kernel
set_option maxRecDepth 65536 in
theorem w_alone : about1.alone = true := by decide +kernel
set_option maxRecDepth 65536 in
theorem w_named : about1.methodNamed? x = some theMethod := by decide +kernel
set_option maxRecDepth 65536 in
theorem w_hears : about1.hears theMethod below0 = true := by decide +kernel
set_option maxRecDepth 65536 in
theorem w_ripe : about1.ripe theMethod args0 below0 = true := by decide +kernel
theorem w_running : about1.status = .running := rfl
set_option maxRecDepth 65536 in
theorem w_room : about1.hasRoom e0.platform room_1 = true :=
  launch0.hasRoom_least _ room_1 (by decide +kernel) (by decide +kernel) (by decide +kernel) (by decide +kernel) (by decide +kernel) (by decide +kernel)
theorem allAtoms_all (ts : List Jvm.Cond) (a : Array Jvm.Value) (st : Jvm.State) : (allAtoms ts).before a st = ts.all (fun c => c.before a st) := by
  induction ts with
  | nil => rfl
  | cons c t ih =>
    show (Jvm.Cond.and c (allAtoms t)).before a st = _
    rw [Jvm.Cond.before_and, ih, List.all_cons]
def words1 : List Jvm.Cond := Jvm.Cond.code x code maxLocals ret :: tables_1
/-- a 'code' word, met by the world's own term for the bytes: nothing is compared byte by byte -/
theorem code_word {y : MethodName} {bytes : ByteArray} {mx : Nat} {rt : Option FieldType} {a : Array Value} {s : State} {m : MethodId} {meth : Method} {c : Code} (h1 : s.methodNamed? y = some m) (h2 : s.vm.method? m = some meth) (h3 : meth.code = some c) (h4 : c.code = bytes)
    (h5 : (c.maxLocals == mx && c.exceptionTable.isEmpty && decide (c.maxStack ≤ mostOperands) && decide (meth.sig.returnType = rt) && !meth.locks && decide (parseMethodDescriptor y.desc = some meth.sig)) = true) : (Jvm.Cond.code y bytes mx rt).before a s = true := by
  simp only [Bool.and_eq_true, beq_iff_eq, Bool.not_eq_true', decide_eq_true_eq] at h5
  obtain ⟨⟨⟨⟨⟨g1, g2⟩, g3⟩, g4⟩, g5⟩, g6⟩ := h5
  simp [Cond.before, Cond.holds, Cond.value, h1, h2, h3, h4, g1, g2, g3, g4, g5, g6]
def isCode : Jvm.Cond → Bool
  | .code _ _ _ _ => true
  | _ => false
theorem all_split {L : List Jvm.Cond} {P : Jvm.Cond → Bool} (h1 : L.all (fun c => isCode c || P c) = true) (h2 : ∀ c ∈ L.filter isCode, P c = true) : L.all P = true := by
  refine List.all_eq_true.mpr fun c hc => ?_
  have h := List.all_eq_true.mp h1 c hc
  rcases Bool.eq_false_or_eq_true (isCode c) with hi | hi
  · exact h2 c (List.mem_filter.mpr ⟨hc, hi⟩)
  · simpa [hi] using h
set_option maxRecDepth 65536 in
theorem w_c0 : (Jvm.Cond.code x code maxLocals ret).before args0 about1 = true := code_word (m := ⟨1, 3⟩) (meth := k1m3) (c := k1c3) (by decide +kernel) rfl rfl rfl (by decide +kernel)
set_option maxRecDepth 65536 in
theorem w_c1 : (Jvm.Cond.code ({ cls := "com/example/bellwire/bellwire/hessian/Chunked", name := "startsChunk", desc := "(I)Z" } : Jvm.MethodName) prog_68_method_4_code (2 : Nat) (Option.some Jvm.ClassFile.FieldType.boolean)).before args0 about1 = true := code_word (m := ⟨6, 0⟩) (meth := k6m0) (c := k6c0) (by decide +kernel) rfl rfl rfl (by decide +kernel)
set_option maxRecDepth 65536 in
theorem w_c2 : (Jvm.Cond.code ({ cls := "com/example/bellwire/bellwire/hessian/ChunkedStartsChunkPinLaw", name := "refString", desc := "(I)Z" } : Jvm.MethodName) method_2_code (1 : Nat) (Option.some Jvm.ClassFile.FieldType.boolean)).before args0 about1 = true := code_word (m := ⟨1, 1⟩) (meth := k1m1) (c := k1c1) (by decide +kernel) rfl rfl rfl (by decide +kernel)
set_option maxRecDepth 65536 in
theorem w_c3 : (Jvm.Cond.code ({ cls := "com/example/bellwire/bellwire/hessian/ChunkedStartsChunkPinLaw", name := "refBinary", desc := "(I)Z" } : Jvm.MethodName) method_3_code (1 : Nat) (Option.some Jvm.ClassFile.FieldType.boolean)).before args0 about1 = true := code_word (m := ⟨1, 2⟩) (meth := k1m2) (c := k1c2) (by decide +kernel) rfl rfl rfl (by decide +kernel)
def codes1 : List Jvm.Cond := [Jvm.Cond.code x code maxLocals ret, Jvm.Cond.code ({ cls := "com/example/bellwire/bellwire/hessian/Chunked", name := "startsChunk", desc := "(I)Z" } : Jvm.MethodName) prog_68_method_4_code (2 : Nat) (Option.some Jvm.ClassFile.FieldType.boolean), Jvm.Cond.code ({ cls := "com/example/bellwire/bellwire/hessian/ChunkedStartsChunkPinLaw", name := "refString", desc := "(I)Z" } : Jvm.MethodName) method_2_code (1 : Nat) (Option.some Jvm.ClassFile.FieldType.boolean), Jvm.Cond.code ({ cls := "com/example/bellwire/bellwire/hessian/ChunkedStartsChunkPinLaw", name := "refBinary", desc := "(I)Z" } : Jvm.MethodName) method_3_code (1 : Nat) (Option.some Jvm.ClassFile.FieldType.boolean)]
set_option maxRecDepth 65536 in
theorem codes_eq : words1.filter isCode = codes1 := rfl
theorem w_codes : ∀ c ∈ words1.filter isCode, c.before args0 about1 = true := by
  rw [codes_eq]
  intro c hc
  simp only [codes1, List.mem_cons, List.not_mem_nil, or_false] at hc
  rcases hc with rfl | rfl | rfl | rfl
  · exact w_c0
  · exact w_c1
  · exact w_c2
  · exact w_c3
set_option maxRecDepth 65536 in
theorem w_t1 : (words1.take 24).all (fun c => isCode c || c.before args0 about1) = true := by decide +kernel
set_option maxRecDepth 65536 in
theorem w_t2 : (words1.drop 24).all (fun c => isCode c || c.before args0 about1) = true := by decide +kernel
theorem w_tables : (allAtoms (Jvm.Cond.code x code maxLocals ret :: tables_1)).before args0 about1 = true := by
  rw [allAtoms_all]
  show words1.all (fun c => c.before args0 about1) = true
  refine all_split ?_ w_codes
  rw [← List.take_append_drop 24 words1, List.all_append, w_t1, w_t2]
  rfl
set_option maxRecDepth 65536 in
theorem w_case : (Jvm.Cond.and given_1 narrow_1).before args0 about1 = true := by decide +kernel
theorem w_applies : (headSpec (Jvm.Cond.code x code maxLocals ret :: tables_1) room_1).applies x e0.platform about1 = true :=
  (Spec.applies_iff w_frames).mpr ⟨w_running, w_runnable, w_alone, w_named, w_hears, w_ripe, w_room, w_tables⟩
theorem atStart : AtStart classFile x code maxLocals ret World_1 tables_1 room_1 Calls_1 rest_1 Pre_1 launch0 p0 e0 about1 theMethod args0 below0 :=
  ⟨lists_1, trivial, launch0.admits_env _ _ _, launch0.least_env, fairChoices_fair.cas, fairChoices_fair.clock, w_frames, w_args, w_heap, w_applies, trivial, trivial, w_case⟩
end start1
theorem witness_1 : WitnessClaimed_1 := ⟨start1.p0, start1.e0, start1.about1, start1.theMethod, start1.args0, start1.below0, start1.atStart⟩
end Jvm.Pilot.@@N@@
