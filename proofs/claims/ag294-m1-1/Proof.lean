import JvmDerived
import JvmDerived.Pilot.@@N@@Statement
import JvmDerived.Pilot.@@N@@Code
set_option linter.unusedVariables false
set_option linter.unusedSimpArgs false
namespace Jvm.RoadKit
open Sem ClassFile Op Lib Jvm.Stand Jvm.Free Jvm.LawKit
section Own
variable {p : Program} {l : Launch} {e : Env} {R : Room} {s : State} {m : MethodId} {args : Array Value} {below : List Frame} {meth : Method} {c : Code} {T : State} {locs : List Loc} {cells slots : Nat}
def own_Go (p : Program) (e : Env) (below : List Frame) (K : State → Outcome → Prop) (T : State) (g : JFrame) : Prop :=
  ∃ t o, Steps p.tables e below (T.setTop g) t ∧ t.status = .running ∧ Ended t below o ∧ K t o
theorem own_go {K : State → Outcome → Prop} {T1 T2 : State} {g1 g2 : JFrame} (h : ∀ t, Steps p.tables e below (T2.setTop g2) t → Steps p.tables e below (T1.setTop g1) t) (k : own_Go p e below K T2 g2) : own_Go p e below K T1 g1 := by
  obtain ⟨t, o, h1, h2⟩ := k
  exact ⟨t, o, h t h1, h2⟩
def own_K (s : State) (Q : Option Value → Heap → List Loc → Prop) (C S : Nat) (t : State) (o : Outcome) : Prop := ∃ v L, o = .returned v ∧ Q v t.heap L ∧ FrameEnd s o t L C S
def own_QP (r : Option Value) (h0 : Heap) (v : Option Value) (h : Heap) (L : List Loc) : Prop := v = r ∧ L = [] ∧ h = h0
def own_Con (l : Launch) (Z : State) (y : MethodName) (bytes : ByteArray) (maxL : Nat) (ret : Option FieldType) (rm : Room) (as' : Array Value) (h : Heap) (Q : Option Value → Heap → List Loc → Prop) : Prop :=
  MetFree l y (head1 [Cond.code y bytes maxL ret] rm) (fun a U => a = as' ∧ Z.Warmed39 U.vm ∧ U.heap = h) (fun _ _ _ _ _ => True) (fun _ U o U' => ∃ v L, o = .returned v ∧ Q v U'.heap L ∧ FrameEnd U o U' L rm.cells rm.slots)
theorem own_end (X : Stand p l e R s m args below meth c T locs cells slots) {v : Option Value} (hl : meth.locks = false) (hv : meth.sig.returnType = none → v = none) {g : JFrame} {Q : Option Value → Heap → List Loc → Prop} {C S : Nat}
    (hstep : ∀ fs, (∀ (f : JFrame) (acts : List Action), f.method = m → f.locked = none → f.entered = [] → (doReturn e (T.setTop f) acts v).1 = T.setFrames fs) → Steps p.tables e below (T.setTop g) (T.setFrames fs))
    (hc : cells ≤ C) (hs : slots ≤ S) (hQ : Q v T.heap locs) : own_Go p e below (own_K s Q C S) T g := by
  obtain ⟨fs, hr, hrun, hended, hW, hsame⟩ := X.leave hv hl
  exact ⟨_, _, hstep fs hr, hrun, hended, v, locs, rfl, hQ, ⟨_, rfl⟩, hW, hsame.mono hc hs⟩
theorem own_endN (X : Stand p l e R s m args below meth c T locs cells slots) (hx : p.tables.exec = Jvm.exec) (hl : meth.locks = false) {pc : Nat} {Ls : Array Slot} {z z' : Int32} {t : FieldType} {rest : List Value} {Q : Option Value → Heap → List Loc → Prop} {C S : Nat}
    (hret : meth.sig.returnType = some t) (ht : t = .boolean ∨ t = .byte ∨ t = .char ∨ t = .short) (hd : decode c.code pc = .ok (.ireturn, 1)) (hz : nar t z = z') (hc : cells ≤ C) (hs : slots ≤ S) (hQ : Q (some (.int z')) T.heap locs) :
    own_Go p e below (own_K s Q C S) T (mkF m pc Ls (.int z :: rest)) := by
  subst hz
  exact own_end X hl (fun h => by rw [hret] at h; cases h) (fun fs hr => retN X hx hret ht hd hr) hc hs hQ
theorem own_endI (X : Stand p l e R s m args below meth c T locs cells slots) (hx : p.tables.exec = Jvm.exec) (hl : meth.locks = false) {pc : Nat} {Ls : Array Slot} {z : Int32} {rest : List Value} {Q : Option Value → Heap → List Loc → Prop} {C S : Nat}
    (hret : meth.sig.returnType = some .int) (hd : decode c.code pc = .ok (.ireturn, 1)) (hc : cells ≤ C) (hs : slots ≤ S) (hQ : Q (some (.int z)) T.heap locs) :
    own_Go p e below (own_K s Q C S) T (mkF m pc Ls (.int z :: rest)) :=
  own_end X hl (fun h => by rw [hret] at h; cases h) (fun fs hr => retOut X hx hret rfl (Or.inl ⟨rfl, Or.inl rfl, z, rfl⟩) hd hr) hc hs hQ
theorem own_endJ (X : Stand p l e R s m args below meth c T locs cells slots) (hx : p.tables.exec = Jvm.exec) (hl : meth.locks = false) {pc : Nat} {Ls : Array Slot} {z : Int64} {rest : List Value} {Q : Option Value → Heap → List Loc → Prop} {C S : Nat}
    (hret : meth.sig.returnType = some .long) (hd : decode c.code pc = .ok (.lreturn, 1)) (hc : cells ≤ C) (hs : slots ≤ S) (hQ : Q (some (.long z)) T.heap locs) :
    own_Go p e below (own_K s Q C S) T (mkF m pc Ls (.long z :: rest)) :=
  own_end X hl (fun h => by rw [hret] at h; cases h) (fun fs hr => retOut X hx hret rfl (Or.inr (Or.inl ⟨rfl, rfl, z, rfl⟩)) hd hr) hc hs hQ
theorem own_endR (X : Stand p l e R s m args below meth c T locs cells slots) (hx : p.tables.exec = Jvm.exec) (hl : meth.locks = false) {pc : Nat} {Ls : Array Slot} {w : Value} {t : FieldType} {rest : List Value} {Q : Option Value → Heap → List Loc → Prop} {C S : Nat}
    (hret : meth.sig.returnType = some t) (ht : t.isReference = true) (hw : w.isRef = true) (hd : decode c.code pc = .ok (.areturn, 1)) (hc : cells ≤ C) (hs : slots ≤ S) (hQ : Q (some w) T.heap locs) :
    own_Go p e below (own_K s Q C S) T (mkF m pc Ls (w :: rest)) :=
  own_end X hl (fun h => by rw [hret] at h; cases h) (fun fs hr => retOut X hx hret (by rcases ref_cases hw with rfl | ⟨a, rfl⟩ <;> cases t <;> first | rfl | (cases ht)) (Or.inr (Or.inr (Or.inr (Or.inr ⟨rfl, ht, hw⟩)))) hd hr) hc hs hQ
theorem own_endV (X : Stand p l e R s m args below meth c T locs cells slots) (hx : p.tables.exec = Jvm.exec) (hl : meth.locks = false) {pc : Nat} {Ls : Array Slot} {Q : Option Value → Heap → List Loc → Prop} {C S : Nat}
    (hret : meth.sig.returnType = none) (hd : decode c.code pc = .ok (.return_, 1)) (hc : cells ≤ C) (hs : slots ≤ S) (hQ : Q none T.heap locs) :
    own_Go p e below (own_K s Q C S) T (mkF m pc Ls []) :=
  own_end X hl (fun _ => rfl) (fun fs hr => X.returnOut hx hret hd hr) hc hs hQ
variable {Z : State} {a0 : Array Value} {h : Heap} {y z : MethodName} {bytes : ByteArray} {maxL : Nat} {ret : Option FieldType} {rm : Room} {as' : Array Value} {Q : Option Value → Heap → List Loc → Prop}
theorem own_static (X : Stand p l e R s m args below meth c T locs cells slots) (hx : p.tables.exec = Jvm.exec) (hZ : Z.Warmed39 s.vm) {own : String} {index : Nat} (hown : s.vm.findClass own = some m.cls)
    (w1 : (Cond.methodLink own index y).before a0 Z = true) (w2 : (Cond.static y).before a0 Z = true) (w3 : (Cond.initialized y.cls).before a0 Z = true) (w4 : (Cond.code y bytes maxL ret).before a0 Z = true) (hy : y.cls ≠ "java/lang/invoke/MethodHandle" ∧ y.cls ≠ "java/lang/invoke/VarHandle")
    (W : Nat) {argsL rest : List Value} (hM : own_Con l Z y bytes maxL ret rm argsL.toArray h Q) (hf : rm.frames + 1 ≤ R.frames) (hl : W + (maxL + 11) + rm.locals ≤ R.locals)
    {g : JFrame} (hg : g.method = m) (hsize : g.locals.size = c.maxLocals) (hlen : ∀ sig, parseMethodDescriptor y.desc = some sig → argsL.length = sig.parameters.length) (hstack : g.stack = argsL.reverse ++ rest)
    (hW : 2 * g.monitorRoom + (rest.map fun v => v.category).sum ≤ W) (hdg : decode c.code g.pc = .ok (.invokestatic index, 3)) (eT : T.heap = h) (hc : cells + rm.cells ≤ R.cells) (hs : slots + rm.slots ≤ R.slots) :
    ∃ (v : Option Value) (T' : State) (L : List Loc), Stand p l e R s m args below meth c T' (locs ++ L) (cells + rm.cells) (slots + rm.slots) ∧ Q v T'.heap L ∧
      ∀ target, Steps p.tables e below (T'.setTop { g with pc := g.pc + 3, stack := v.toList ++ rest }) target → Steps p.tables e below (T.setTop g) target := by
  obtain ⟨v, _, ⟨T', L', k', n'⟩, -, X', ⟨L, hQ, e1, e2, e3⟩, st⟩ := Jvm.LawKit.callS X hx (y := y) hown (mvT hZ w1) (mvT hZ w2) (mvT hZ w3) (mvT hZ w4) hy (backOf (W := W) hM hZ w4 w3 hf hl) hg hsize hlen hstack hW hdg (fun _ _ => ⟨rfl, eT, hc, hs⟩)
  dsimp only [Pt.U, Pt.locs, Pt.cells, Pt.slots] at X' e1 e2 e3 st hQ
  subst e1 e2 e3
  exact ⟨v, T', L, X', hQ, st⟩
theorem own_special (X : Stand p l e R s m args below meth c T locs cells slots) (hx : p.tables.exec = Jvm.exec) (hZ : Z.Warmed39 s.vm) {own : String} {index : Nat} (hy1 : y.name = "<init>") (hown : s.vm.findClass own = some m.cls)
    (w1 : (Cond.methodLink own index y).before a0 Z = true) (w2 : (Cond.instanceMethod y).before a0 Z = true) (w3 : (Cond.initialized y.cls).before a0 Z = true) (w4 : (Cond.code y bytes maxL none).before a0 Z = true) (hy : y.cls ≠ "java/lang/invoke/MethodHandle" ∧ y.cls ≠ "java/lang/invoke/VarHandle")
    (W : Nat) {a : Addr} {argsL rest : List Value} (hM : own_Con l Z y bytes maxL none rm (.ref a :: argsL).toArray h Q) (hf : rm.frames + 1 ≤ R.frames) (hl : W + (maxL + 11) + rm.locals ≤ R.locals)
    {g : JFrame} (hg : g.method = m) (hsize : g.locals.size = c.maxLocals) (hlen : ∀ sig, parseMethodDescriptor y.desc = some sig → argsL.length = sig.parameters.length) (hstack : g.stack = argsL.reverse ++ .ref a :: rest)
    (hW : 2 * g.monitorRoom + (rest.map fun v => v.category).sum ≤ W) (hdg : decode c.code g.pc = .ok (.invokespecial index, 3)) (eT : T.heap = h) (hc : cells + rm.cells ≤ R.cells) (hs : slots + rm.slots ≤ R.slots) :
    ∃ (v : Option Value) (T' : State) (L : List Loc), Stand p l e R s m args below meth c T' (locs ++ L) (cells + rm.cells) (slots + rm.slots) ∧ Q v T'.heap L ∧
      ∀ target, Steps p.tables e below (T'.setTop { g with pc := g.pc + 3, stack := v.toList ++ rest }) target → Steps p.tables e below (T.setTop g) target := by
  obtain ⟨v, _, ⟨T', L', k', n'⟩, -, X', ⟨L, hQ, e1, e2, e3⟩, st⟩ := X.specialBack hx (y := y) hy1 hown (mvT hZ w1) (mvT hZ w2) (mvT hZ w4) hy (backOf (W := W) hM hZ w4 w3 hf hl) hg hsize (Steps.refl _) hlen hstack hW hdg (fun _ _ => ⟨rfl, eT, hc, hs⟩)
  dsimp only [Pt.U, Pt.locs, Pt.cells, Pt.slots] at X' e1 e2 e3 st hQ
  subst e1 e2 e3
  exact ⟨v, T', L, X', hQ, fun t k => st.trans k⟩
theorem own_virtual (X : Stand p l e R s m args below meth c T locs cells slots) (hx : p.tables.exec = Jvm.exec) (hZ : Z.Warmed39 s.vm) {own C : String} {index : Nat} (hown : s.vm.findClass own = some m.cls)
    (w1 : (Cond.methodLink own index y).before a0 Z = true) (w2 : (Cond.declares y).before a0 Z = true) (hnf : NotFace s y) (w5 : (Cond.selects C y z).before a0 Z = true) (w6 : (Cond.instanceMethod z).before a0 Z = true)
    (w3 : (Cond.initialized z.cls).before a0 Z = true) (w4 : (Cond.code z bytes maxL ret).before a0 Z = true) (hy : y.cls ≠ "java/lang/invoke/MethodHandle" ∧ y.cls ≠ "java/lang/invoke/VarHandle")
    (W : Nat) {a : Addr} {argsL rest : List Value} (hM : own_Con l Z z bytes maxL ret rm (.ref a :: argsL).toArray h Q) (hf : rm.frames + 1 ≤ R.frames) (hl : W + (maxL + 11) + rm.locals ≤ R.locals) (E : Exa Z h a C)
    {g : JFrame} (hg : g.method = m) (hsize : g.locals.size = c.maxLocals) (hlen : ∀ sig, parseMethodDescriptor y.desc = some sig → argsL.length = sig.parameters.length) (hstack : g.stack = argsL.reverse ++ .ref a :: rest)
    (hW : 2 * g.monitorRoom + (rest.map fun v => v.category).sum ≤ W) (hdg : decode c.code g.pc = .ok (.invokevirtual index, 3)) (eT : T.heap = h) (hc : cells + rm.cells ≤ R.cells) (hs : slots + rm.slots ≤ R.slots) :
    ∃ (v : Option Value) (T' : State) (L : List Loc), Stand p l e R s m args below meth c T' (locs ++ L) (cells + rm.cells) (slots + rm.slots) ∧ Q v T'.heap L ∧
      ∀ target, Steps p.tables e below (T'.setTop { g with pc := g.pc + 3, stack := v.toList ++ rest }) target → Steps p.tables e below (T.setTop g) target := by
  obtain ⟨cB, kB, q1, -, q2⟩ := isOf hZ eT E
  obtain ⟨v, _, ⟨T', L', k', n'⟩, -, X', ⟨L, hQ, e1, e2, e3⟩, st⟩ := X.virtualBack hx (y := y) (z := z) hown (mvT hZ w1) (mvT hZ w2) hnf (mvT hZ w5) (mvT hZ w6) hy (backOf (W := W) hM hZ w4 w3 hf hl) q1 q2 hg hsize (Steps.refl _) hlen hstack hW hdg (fun _ _ => ⟨rfl, eT, hc, hs⟩)
  dsimp only [Pt.U, Pt.locs, Pt.cells, Pt.slots] at X' e1 e2 e3 st hQ
  subst e1 e2 e3
  exact ⟨v, T', L, X', hQ, fun t k => st.trans k⟩
theorem own_virtualUp (X : Stand p l e R s m args below meth c T locs cells slots) (hx : p.tables.exec = Jvm.exec) (hZ : Z.Warmed39 s.vm) {own C owner : String} {index : Nat} (hown : s.vm.findClass own = some m.cls)
    (w1 : (Cond.methodLink own index y).before a0 Z = true) (w7 : (Cond.sameMethod y.cls owner y.name y.desc).before a0 Z = true) (w2 : (Cond.declares ⟨owner, y.name, y.desc⟩).before a0 Z = true) (ho : owner ≠ "java/lang/invoke/MethodHandle" ∧ owner ≠ "java/lang/invoke/VarHandle") (w5 : (Cond.selects C y z).before a0 Z = true) (w6 : (Cond.instanceMethod z).before a0 Z = true)
    (w3 : (Cond.initialized z.cls).before a0 Z = true) (w4 : (Cond.code z bytes maxL ret).before a0 Z = true)
    (W : Nat) {a : Addr} {argsL rest : List Value} (hM : own_Con l Z z bytes maxL ret rm (.ref a :: argsL).toArray h Q) (hf : rm.frames + 1 ≤ R.frames) (hl : W + (maxL + 11) + rm.locals ≤ R.locals) (E : Exa Z h a C)
    {g : JFrame} (hg : g.method = m) (hsize : g.locals.size = c.maxLocals) (hlen : ∀ sig, parseMethodDescriptor y.desc = some sig → argsL.length = sig.parameters.length) (hstack : g.stack = argsL.reverse ++ .ref a :: rest)
    (hW : 2 * g.monitorRoom + (rest.map fun v => v.category).sum ≤ W) (hdg : decode c.code g.pc = .ok (.invokevirtual index, 3)) (eT : T.heap = h) (hc : cells + rm.cells ≤ R.cells) (hs : slots + rm.slots ≤ R.slots) :
    ∃ (v : Option Value) (T' : State) (L : List Loc), Stand p l e R s m args below meth c T' (locs ++ L) (cells + rm.cells) (slots + rm.slots) ∧ Q v T'.heap L ∧
      ∀ target, Steps p.tables e below (T'.setTop { g with pc := g.pc + 3, stack := v.toList ++ rest }) target → Steps p.tables e below (T.setTop g) target := by
  obtain ⟨cB, kB, q1, -, q2⟩ := isOf hZ eT E
  obtain ⟨v, _, ⟨T', L', k', n'⟩, -, X', ⟨L, hQ, e1, e2, e3⟩, st⟩ := X.virtualBackUp hx (x := y) (y := z) (owner := owner) hown (mvT hZ w1) (mvT hZ w7) (mvT hZ w2) ho (mvT hZ w5) (mvT hZ w6) (backOf (W := W) hM hZ w4 w3 hf hl) q1 q2 hg hsize (Steps.refl _) hlen hstack hW hdg (fun _ _ => ⟨rfl, eT, hc, hs⟩)
  dsimp only [Pt.U, Pt.locs, Pt.cells, Pt.slots] at X' e1 e2 e3 st hQ
  subst e1 e2 e3
  exact ⟨v, T', L, X', hQ, fun t k => st.trans k⟩
theorem own_wd {ts : List Cond} (hw : ∀ d ∈ ts, d.before a0 Z = true) {d : Cond} (n : Nat) (h : ts[n]? = some d) : d.before a0 Z = true := hw d (List.mem_of_getElem? h)
theorem own_fldI {t : Term} {w : Addr} {C n d : String} {k : Int32} (ev : t.eval args s none [] s = some (.ref w)) (h : (Cond.eq (Term.field t C n d) (Term.int k)).value args s none s [] = some true) : Fld s s.heap w C n d (.int k) := by
  apply Fld.start
  cases hf : s.fieldOf? w C n d with
  | none => simp [Cond.value, Term.eval, ev, hf] at h
  | some x => cases x <;> simp [Cond.value, Term.eval, ev, hf] at h ⊢; exact h
theorem own_fldN {t : Term} {w : Addr} {C n d : String} (ev : t.eval args s none [] s = some (.ref w)) (h : (Cond.eq (Term.field t C n d) Term.null).value args s none s [] = some true) : Fld s s.heap w C n d .null := by
  have q := null_v h
  rw [fld_at ev] at q
  exact Fld.start q
theorem own_fldR {t u : Term} {w b : Addr} {C n d : String} (ev : t.eval args s none [] s = some (.ref w)) (eu : u.eval args s none [] s = some (.ref b)) (h : (Cond.eq (Term.field t C n d) u).value args s none s [] = some true) : Fld s s.heap w C n d (.ref b) := by
  apply Fld.start
  cases hf : s.fieldOf? w C n d with
  | none => simp [Cond.value, Term.eval, ev, eu, hf] at h
  | some x => cases x <;> simp [Cond.value, Term.eval, ev, eu, hf] at h ⊢; exact h
theorem own_ne {t u : Term} {w b : Addr} (ev : t.eval args s none [] s = some (.ref w)) (eu : u.eval args s none [] s = some (.ref b)) (h : (Cond.not (Cond.eq t u)).value args s none s [] = some true) : w ≠ b := by
  have q := not_v h
  intro e
  subst e
  simp [Cond.value, ev, eu] at q
end Own
end Jvm.RoadKit
namespace Jvm.Pilot.@@N@@
open Jvm Jvm.ClassFile Sem Op Lib Jvm.Free Jvm.Stand Jvm.LawKit Jvm.RoadKit Bundle Jvm.Pilot.@@N@@.Jvm.D
theorem own_mod3 (x : Int32) : (x &&& (2147483647 : Int32)) % (3 : Int32) = (0 : Int32) ∨ (x &&& (2147483647 : Int32)) % (3 : Int32) = (1 : Int32) ∨ (x &&& (2147483647 : Int32)) % (3 : Int32) = (2 : Int32) := by
  have h1 := c_mask x 2147483647 31 (by decide) (by decide)
  have h2 := (c_irem (x &&& 2147483647) 3 3 (by decide)).1 (by omega)
  have h3 := Int.emod_nonneg (x &&& (2147483647 : Int32)).toInt (show (3 : Int) ≠ 0 by decide)
  have h4 := Int.emod_lt_of_pos (x &&& (2147483647 : Int32)).toInt (show (0 : Int) < 3 by decide)
  rw [← h2] at h3 h4
  clear h1 h2
  generalize (x &&& (2147483647 : Int32)) % (3 : Int32) = k at h3 h4 ⊢
  have q : k.toInt = 0 ∨ k.toInt = 1 ∨ k.toInt = 2 := by omega
  simp only [← Int32.toInt_inj]
  exact q
theorem own_d_prog_32_method_5_code_0 : decode prog_32_method_5_code 0 = .ok (.aload_n 0, 1) := by decide +kernel
theorem own_d_prog_32_method_5_code_1 : decode prog_32_method_5_code 1 = .ok (.getstatic 3, 3) := by decide +kernel
theorem own_d_prog_32_method_5_code_4 : decode prog_32_method_5_code 4 = .ok (.if_acmp .eq 7, 3) := by decide +kernel
theorem own_d_prog_32_method_5_code_11 : decode prog_32_method_5_code 11 = .ok (.iconst 0, 1) := by decide +kernel
theorem own_d_prog_32_method_5_code_12 : decode prog_32_method_5_code 12 = .ok (.ireturn, 1) := by decide +kernel
theorem own_d_prog_32_method_5_code_7 : decode prog_32_method_5_code 7 = .ok (.iconst 1, 1) := by decide +kernel
theorem own_d_prog_32_method_5_code_8 : decode prog_32_method_5_code 8 = .ok (.goto 4, 3) := by decide +kernel
def own_f15 (a1 : Addr) (w2 : Addr) : Int32 := (if a1 = w2 then (0 : Int32) else (1 : Int32))
theorem own_ef15 (m : MethodId) (x0 : Addr) : entryFrame m #[(.ref x0)] 1 = mkF m 0 #[.val (.ref x0)] [] := by first | (simp [entryFrame, mkF, argsToLocals, Value.category]; done) | rfl
theorem own_pn0 : plainName "com/example/upriver/upriver/Clearance$Ways" = true := by first | (simp [plainName, overriddenIn]; done) | decide +kernel
set_option maxRecDepth 65536 in
set_option maxHeartbeats 40000000 in
theorem own_rm15 (l : Launch) (Z : State) (a0 : Array Value) (hw : ∀ d ∈ tables_1, d.before a0 Z = true) (h0 : Heap) (a1 : Addr) (w2 : Addr) (S3 : Sta Z h0 "com/example/upriver/upriver/Clearance$Ways" "KEPT" "Lcom/example/upriver/upriver/Clearance$Ways;" (.ref w2)) :
    own_Con l Z (⟨"com/example/upriver/upriver/Clearance$Ways", "clears", "()Z"⟩ : MethodName) prog_32_method_5_code 1 (some .boolean) ({ frames := 0, cells := 0, slots := 0, locals := 0 } : Room) #[(.ref a1)] h0 (own_QP (some (.int (own_f15 a1 w2))) h0) := by
  refine MetFree.of_bodySF (plainFor_of_name own_pn0) hisR ?_
  intro p e s m args below meth c s₁ Bd hml0 hP hK
  obtain ⟨rfl, hZ, hh⟩ := hP
  have hx := Bd.exec
  have hby := Bd.bytes
  have hml : c.maxLocals = 1 := hml0
  have hown : s.vm.findClass "com/example/upriver/upriver/Clearance$Ways" = some m.cls := findClass_of_methodNamed Bd.named
  have X0 : Stand p l e ({ frames := 0, cells := 0, slots := 0, locals := 0 } : Room) s m #[(.ref a1)] below meth c s₁ [] 0 0 := Stand.of_body Bd
  have e0 : s₁.heap = h0 := by rw [← hh, Bd.state]; rfl
  show own_Go p e below (own_K s (own_QP (some (.int (own_f15 a1 w2))) h0) 0 0) s₁ (entryFrame m #[(.ref a1)] 1)
  rw [own_ef15]
  refine own_go (T2 := s₁) (g2 := (mkF m 1 #[.val (.ref a1)] [(.ref a1)])) (fun t k => XS.aloadN X0.here hx rfl (hb hby own_d_prog_32_method_5_code_0) rfl rfl k) ?_
  obtain ⟨T16, X16, e16, st16⟩ := getS2 X0 hx hZ hown (host := "") (Or.inl (own_wd hw 9 rfl)) Via.refl e0 S3 (g := (mkF m 1 #[.val (.ref a1)] [(.ref a1)])) rfl (hb hby own_d_prog_32_method_5_code_1)
  refine own_go (T2 := T16) (g2 := (mkF m 4 #[.val (.ref a1)] [(.ref w2), (.ref a1)])) st16 ?_
  by_cases hc17 : a1 = w2
  · refine own_go (T2 := T16) (g2 := (mkF m 11 #[.val (.ref a1)] [])) (fun t k => Jvm.RoadKit.acmp (g := (mkF m 4 #[.val (.ref a1)] [(.ref w2), (.ref a1)])) X16 hx rfl rfl rfl (pc0 := 4) (pc' := 11) (same := true) rfl (hb hby own_d_prog_32_method_5_code_4) rfl (decide_eq_true (congrArg Value.ref hc17)) (by decide) (by decide) k) ?_
    refine own_go (T2 := T16) (g2 := (mkF m 12 #[.val (.ref a1)] [(.int (0 : Int32))])) (fun t k => XS.iconst X16.here hx rfl (hb hby own_d_prog_32_method_5_code_11) k) ?_
    exact own_endN X16 hx Bd.notSynchronized (t := .boolean) Bd.returns (by simp) (hb hby own_d_prog_32_method_5_code_12) (z' := (0 : Int32)) rfl (by decide) (by decide) ⟨(by first | rfl | rw [own_f15, if_pos hc17] | simp only [own_f15, if_pos hc17]), rfl, e16⟩
  · refine own_go (T2 := T16) (g2 := (mkF m 7 #[.val (.ref a1)] [])) (fun t k => Jvm.RoadKit.acmp (g := (mkF m 4 #[.val (.ref a1)] [(.ref w2), (.ref a1)])) X16 hx rfl rfl rfl (pc0 := 4) (pc' := 7) (same := false) rfl (hb hby own_d_prog_32_method_5_code_4) rfl (decide_eq_false fun q => hc17 (Value.ref.inj q)) (by decide) (by decide) k) ?_
    refine own_go (T2 := T16) (g2 := (mkF m 8 #[.val (.ref a1)] [(.int (1 : Int32))])) (fun t k => XS.iconst X16.here hx rfl (hb hby own_d_prog_32_method_5_code_7) k) ?_
    refine own_go (T2 := T16) (g2 := (mkF m 12 #[.val (.ref a1)] [(.int (1 : Int32))])) (fun t k => XS.goto X16.here hx rfl (pc0 := 8) (pc' := 12) rfl (hb hby own_d_prog_32_method_5_code_8) (by decide) (by decide) k) ?_
    exact own_endN X16 hx Bd.notSynchronized (t := .boolean) Bd.returns (by simp) (hb hby own_d_prog_32_method_5_code_12) (z' := (1 : Int32)) rfl (by decide) (by decide) ⟨(by first | rfl | rw [own_f15, if_neg hc17] | simp only [own_f15, if_neg hc17]), rfl, e16⟩
theorem own_pd0 : parseMethodDescriptor "()Z" = some ⟨[], some .boolean⟩ := by decide +kernel
theorem own_d_prog_32_method_4_code_0 : decode prog_32_method_4_code 0 = .ok (.aload_n 0, 1) := by decide +kernel
theorem own_d_prog_32_method_4_code_1 : decode prog_32_method_4_code 1 = .ok (.getstatic 7, 3) := by decide +kernel
theorem own_d_prog_32_method_4_code_4 : decode prog_32_method_4_code 4 = .ok (.if_acmp .eq 7, 3) := by decide +kernel
theorem own_d_prog_32_method_4_code_11 : decode prog_32_method_4_code 11 = .ok (.iconst 0, 1) := by decide +kernel
theorem own_d_prog_32_method_4_code_12 : decode prog_32_method_4_code 12 = .ok (.ireturn, 1) := by decide +kernel
theorem own_d_prog_32_method_4_code_7 : decode prog_32_method_4_code 7 = .ok (.iconst 1, 1) := by decide +kernel
theorem own_d_prog_32_method_4_code_8 : decode prog_32_method_4_code 8 = .ok (.goto 4, 3) := by decide +kernel
def own_f19 (a1 : Addr) (w2 : Addr) : Int32 := (if a1 = w2 then (0 : Int32) else (1 : Int32))
theorem own_ef19 (m : MethodId) (x0 : Addr) : entryFrame m #[(.ref x0)] 1 = mkF m 0 #[.val (.ref x0)] [] := by first | (simp [entryFrame, mkF, argsToLocals, Value.category]; done) | rfl
set_option maxRecDepth 65536 in
set_option maxHeartbeats 40000000 in
theorem own_rm19 (l : Launch) (Z : State) (a0 : Array Value) (hw : ∀ d ∈ tables_1, d.before a0 Z = true) (h0 : Heap) (a1 : Addr) (w2 : Addr) (S3 : Sta Z h0 "com/example/upriver/upriver/Clearance$Ways" "CLEARED" "Lcom/example/upriver/upriver/Clearance$Ways;" (.ref w2)) :
    own_Con l Z (⟨"com/example/upriver/upriver/Clearance$Ways", "keeps", "()Z"⟩ : MethodName) prog_32_method_4_code 1 (some .boolean) ({ frames := 0, cells := 0, slots := 0, locals := 0 } : Room) #[(.ref a1)] h0 (own_QP (some (.int (own_f19 a1 w2))) h0) := by
  refine MetFree.of_bodySF (plainFor_of_name own_pn0) hisR ?_
  intro p e s m args below meth c s₁ Bd hml0 hP hK
  obtain ⟨rfl, hZ, hh⟩ := hP
  have hx := Bd.exec
  have hby := Bd.bytes
  have hml : c.maxLocals = 1 := hml0
  have hown : s.vm.findClass "com/example/upriver/upriver/Clearance$Ways" = some m.cls := findClass_of_methodNamed Bd.named
  have X0 : Stand p l e ({ frames := 0, cells := 0, slots := 0, locals := 0 } : Room) s m #[(.ref a1)] below meth c s₁ [] 0 0 := Stand.of_body Bd
  have e0 : s₁.heap = h0 := by rw [← hh, Bd.state]; rfl
  show own_Go p e below (own_K s (own_QP (some (.int (own_f19 a1 w2))) h0) 0 0) s₁ (entryFrame m #[(.ref a1)] 1)
  rw [own_ef19]
  refine own_go (T2 := s₁) (g2 := (mkF m 1 #[.val (.ref a1)] [(.ref a1)])) (fun t k => XS.aloadN X0.here hx rfl (hb hby own_d_prog_32_method_4_code_0) rfl rfl k) ?_
  obtain ⟨T20, X20, e20, st20⟩ := getS2 X0 hx hZ hown (host := "") (Or.inl (own_wd hw 15 rfl)) Via.refl e0 S3 (g := (mkF m 1 #[.val (.ref a1)] [(.ref a1)])) rfl (hb hby own_d_prog_32_method_4_code_1)
  refine own_go (T2 := T20) (g2 := (mkF m 4 #[.val (.ref a1)] [(.ref w2), (.ref a1)])) st20 ?_
  by_cases hc21 : a1 = w2
  · refine own_go (T2 := T20) (g2 := (mkF m 11 #[.val (.ref a1)] [])) (fun t k => Jvm.RoadKit.acmp (g := (mkF m 4 #[.val (.ref a1)] [(.ref w2), (.ref a1)])) X20 hx rfl rfl rfl (pc0 := 4) (pc' := 11) (same := true) rfl (hb hby own_d_prog_32_method_4_code_4) rfl (decide_eq_true (congrArg Value.ref hc21)) (by decide) (by decide) k) ?_
    refine own_go (T2 := T20) (g2 := (mkF m 12 #[.val (.ref a1)] [(.int (0 : Int32))])) (fun t k => XS.iconst X20.here hx rfl (hb hby own_d_prog_32_method_4_code_11) k) ?_
    exact own_endN X20 hx Bd.notSynchronized (t := .boolean) Bd.returns (by simp) (hb hby own_d_prog_32_method_4_code_12) (z' := (0 : Int32)) rfl (by decide) (by decide) ⟨(by first | rfl | rw [own_f19, if_pos hc21] | simp only [own_f19, if_pos hc21]), rfl, e20⟩
  · refine own_go (T2 := T20) (g2 := (mkF m 7 #[.val (.ref a1)] [])) (fun t k => Jvm.RoadKit.acmp (g := (mkF m 4 #[.val (.ref a1)] [(.ref w2), (.ref a1)])) X20 hx rfl rfl rfl (pc0 := 4) (pc' := 7) (same := false) rfl (hb hby own_d_prog_32_method_4_code_4) rfl (decide_eq_false fun q => hc21 (Value.ref.inj q)) (by decide) (by decide) k) ?_
    refine own_go (T2 := T20) (g2 := (mkF m 8 #[.val (.ref a1)] [(.int (1 : Int32))])) (fun t k => XS.iconst X20.here hx rfl (hb hby own_d_prog_32_method_4_code_7) k) ?_
    refine own_go (T2 := T20) (g2 := (mkF m 12 #[.val (.ref a1)] [(.int (1 : Int32))])) (fun t k => XS.goto X20.here hx rfl (pc0 := 8) (pc' := 12) rfl (hb hby own_d_prog_32_method_4_code_8) (by decide) (by decide) k) ?_
    exact own_endN X20 hx Bd.notSynchronized (t := .boolean) Bd.returns (by simp) (hb hby own_d_prog_32_method_4_code_12) (z' := (1 : Int32)) rfl (by decide) (by decide) ⟨(by first | rfl | rw [own_f19, if_neg hc21] | simp only [own_f19, if_neg hc21]), rfl, e20⟩
theorem own_pn1 : plainName "com/example/upriver/upriver/WaysClearsPinLaw" = true := by first | (simp [plainName, overriddenIn]; done) | decide +kernel
theorem own_ef0 (m : MethodId) (x0 : Int32) : entryFrame m #[(.int x0)] maxLocals = mkF m 0 #[.val (.int x0), .unset, .unset, .unset, .unset, .unset] [] := by first | (simp [entryFrame, mkF, argsToLocals, Value.category, maxLocals]; done) | rfl
def own_Q0 (n0 : Nat) (v : Option Value) (h : Heap) (L : List Loc) : Prop := v = some (.int 1) ∧ Fr n0 L
set_option maxRecDepth 65536 in
set_option maxHeartbeats 40000000 in
theorem own_rm0 (l : Launch) (Z : State) (a0 : Array Value) (hw : ∀ d ∈ tables_1, d.before a0 Z = true) (ws : List Jvm.Cond) (h0 : Heap) (n0 : Nat) (Z0 : n0 ≤ h0.size) (p0 : Int32) (w_KEPT : Addr) (w_CLEARED : Addr) (w_BOTH : Addr)
    (S_w_KEPT : Sta Z h0 "com/example/upriver/upriver/Clearance$Ways" "KEPT" "Lcom/example/upriver/upriver/Clearance$Ways;" (.ref w_KEPT))
    (E_w_KEPT : Exa Z h0 w_KEPT "com/example/upriver/upriver/Clearance$Ways")
    (S_w_CLEARED : Sta Z h0 "com/example/upriver/upriver/Clearance$Ways" "CLEARED" "Lcom/example/upriver/upriver/Clearance$Ways;" (.ref w_CLEARED))
    (E_w_CLEARED : Exa Z h0 w_CLEARED "com/example/upriver/upriver/Clearance$Ways")
    (S_w_BOTH : Sta Z h0 "com/example/upriver/upriver/Clearance$Ways" "BOTH" "Lcom/example/upriver/upriver/Clearance$Ways;" (.ref w_BOTH))
    (E_w_BOTH : Exa Z h0 w_BOTH "com/example/upriver/upriver/Clearance$Ways")
    (F_ordinal_w_KEPT : Fld Z h0 w_KEPT "java/lang/Enum" "ordinal" "I" (.int (0 : Int32)))
    (F_ordinal_w_CLEARED : Fld Z h0 w_CLEARED "java/lang/Enum" "ordinal" "I" (.int (1 : Int32)))
    (F_ordinal_w_BOTH : Fld Z h0 w_BOTH "java/lang/Enum" "ordinal" "I" (.int (2 : Int32))) :
    MetFree l x (head1 (Jvm.Cond.code x code maxLocals ret :: ws) room_1) (fun a U => a = #[(.int p0)] ∧ Z.Warmed39 U.vm ∧ U.heap = h0) (fun _ _ _ _ _ => True) (fun _ U o U' => ∃ v L, o = .returned v ∧ own_Q0 n0 v U'.heap L ∧ FrameEnd U o U' L room_1.cells room_1.slots) := by
  refine MetFree.of_bodySF (plainFor_of_name own_pn1) hisR ?_
  intro p e s m args below meth c s₁ Bd hml0 hP hK
  obtain ⟨rfl, hZ, hh⟩ := hP
  have hx := Bd.exec
  have hby := Bd.bytes
  have hml : c.maxLocals = 6 := hml0
  have hown : s.vm.findClass "com/example/upriver/upriver/WaysClearsPinLaw" = some m.cls := findClass_of_methodNamed Bd.named
  have X0 : Stand p l e room_1 s m #[(.int p0)] below meth c s₁ [] 0 0 := Stand.of_body Bd
  have e0 : s₁.heap = h0 := by rw [← hh, Bd.state]; rfl
  show own_Go p e below (own_K s (own_Q0 n0) room_1.cells room_1.slots) s₁ (entryFrame m #[(.int p0)] maxLocals)
  rw [own_ef0]
  refine own_go (T2 := s₁) (g2 := (mkF m 1 #[.val (.int p0), .unset, .unset, .unset, .unset, .unset] [(.int p0)])) (fun t k => XS.iloadN X0.here hx rfl (hb hby at_0) rfl  k) ?_
  refine own_go (T2 := s₁) (g2 := (mkF m 3 #[.val (.int p0), .unset, .unset, .unset, .unset, .unset] [(.int (2147483647 : Int32)), (.int p0)])) (fun t k => Jvm.Stand.ldcI X0 hx hown (mvT hZ (own_wd hw 0 rfl)) (g := (mkF m 1 #[.val (.int p0), .unset, .unset, .unset, .unset, .unset] [(.int p0)])) rfl (hb hby at_1) k) ?_
  refine own_go (T2 := s₁) (g2 := (mkF m 4 #[.val (.int p0), .unset, .unset, .unset, .unset, .unset] [(.int (p0 &&& (2147483647 : Int32)))])) (fun t k => XS.iand X0.here hx rfl (hb hby at_3) rfl k) ?_
  refine own_go (T2 := s₁) (g2 := (mkF m 5 #[.val (.int p0), .unset, .unset, .unset, .unset, .unset] [(.int (3 : Int32)), (.int (p0 &&& (2147483647 : Int32)))])) (fun t k => XS.iconst X0.here hx rfl (hb hby at_4) k) ?_
  refine own_go (T2 := s₁) (g2 := (mkF m 6 #[.val (.int p0), .unset, .unset, .unset, .unset, .unset] [(.int ((p0 &&& (2147483647 : Int32)) % (3 : Int32)))])) (fun t k => iremM (g := (mkF m 5 #[.val (.int p0), .unset, .unset, .unset, .unset, .unset] [(.int (3 : Int32)), (.int (p0 &&& (2147483647 : Int32)))])) X0 hx rfl (hb hby at_5) rfl (by decide) k) ?_
  have hrk12 := own_mod3 p0
  generalize ((p0 &&& (2147483647 : Int32)) % (3 : Int32)) = k12 at hrk12 ⊢
  rcases hrk12 with rfl | rfl | rfl
  · refine own_go (T2 := s₁) (g2 := (mkF m 7 #[.val (.int p0), .val (.int (0 : Int32)), .unset, .unset, .unset, .unset] [])) (fun t k => XS.istoreN X0.here hx rfl (hb hby at_6) rfl (l' := #[.val (.int p0), .val (.int (0 : Int32)), .unset, .unset, .unset, .unset]) rfl k) ?_
    refine own_go (T2 := s₁) (g2 := (mkF m 8 #[.val (.int p0), .val (.int (0 : Int32)), .unset, .unset, .unset, .unset] [(.int (0 : Int32))])) (fun t k => XS.iloadN X0.here hx rfl (hb hby at_7) rfl  k) ?_
    refine own_go (T2 := s₁) (g2 := (mkF m 11 #[.val (.int p0), .val (.int (0 : Int32)), .unset, .unset, .unset, .unset] [])) (fun t k => XS.ifNo X0.here hx rfl (hb hby at_8) rfl ((if0 _ _).trans (teq (show (0 : Int32) = (0 : Int32) from (by decide))).2) k) ?_
    obtain ⟨T13, X13, e13, st13⟩ := getS2 X0 hx hZ hown (host := "") (Or.inl (own_wd hw 1 rfl)) Via.refl e0 S_w_KEPT (g := (mkF m 11 #[.val (.int p0), .val (.int (0 : Int32)), .unset, .unset, .unset, .unset] [])) rfl (hb hby at_11)
    refine own_go (T2 := T13) (g2 := (mkF m 14 #[.val (.int p0), .val (.int (0 : Int32)), .unset, .unset, .unset, .unset] [(.ref w_KEPT)])) st13 ?_
    refine own_go (T2 := T13) (g2 := (mkF m 31 #[.val (.int p0), .val (.int (0 : Int32)), .unset, .unset, .unset, .unset] [(.ref w_KEPT)])) (fun t k => XS.goto X13.here hx rfl (pc0 := 14) (pc' := 31) rfl (hb hby at_14) (by decide) (by decide) k) ?_
    refine own_go (T2 := T13) (g2 := (mkF m 32 #[.val (.int p0), .val (.int (0 : Int32)), .val (.ref w_KEPT), .unset, .unset, .unset] [])) (fun t k => XS.astoreN X13.here hx rfl (hb hby at_31) rfl rfl (l' := #[.val (.int p0), .val (.int (0 : Int32)), .val (.ref w_KEPT), .unset, .unset, .unset]) rfl k) ?_
    refine own_go (T2 := T13) (g2 := (mkF m 33 #[.val (.int p0), .val (.int (0 : Int32)), .val (.ref w_KEPT), .unset, .unset, .unset] [(.int (0 : Int32))])) (fun t k => XS.iloadN X13.here hx rfl (hb hby at_32) rfl  k) ?_
    refine own_go (T2 := T13) (g2 := (mkF m 40 #[.val (.int p0), .val (.int (0 : Int32)), .val (.ref w_KEPT), .unset, .unset, .unset] [])) (fun t k => XS.ifYes X13.here hx rfl (pc0 := 33) (pc' := 40) rfl (hb hby at_33) rfl ((if0 _ _).trans (teq (show (0 : Int32) = (0 : Int32) from (by decide))).1) (by decide) (by decide) k) ?_
    refine own_go (T2 := T13) (g2 := (mkF m 41 #[.val (.int p0), .val (.int (0 : Int32)), .val (.ref w_KEPT), .unset, .unset, .unset] [(.int (0 : Int32))])) (fun t k => XS.iconst X13.here hx rfl (hb hby at_40) k) ?_
    refine own_go (T2 := T13) (g2 := (mkF m 42 #[.val (.int p0), .val (.int (0 : Int32)), .val (.ref w_KEPT), .val (.int (0 : Int32)), .unset, .unset] [])) (fun t k => XS.istoreN X13.here hx rfl (hb hby at_41) rfl (l' := #[.val (.int p0), .val (.int (0 : Int32)), .val (.ref w_KEPT), .val (.int (0 : Int32)), .unset, .unset]) rfl k) ?_
    refine own_go (T2 := T13) (g2 := (mkF m 43 #[.val (.int p0), .val (.int (0 : Int32)), .val (.ref w_KEPT), .val (.int (0 : Int32)), .unset, .unset] [(.ref w_KEPT)])) (fun t k => XS.aloadN X13.here hx rfl (hb hby at_42) rfl rfl k) ?_
    obtain ⟨_, T14, _, X14, ⟨rfl, rfl, e14⟩, st14⟩ := own_virtual X13 hx hZ (y := (⟨"com/example/upriver/upriver/Clearance$Ways", "clears", "()Z"⟩ : MethodName)) (z := (⟨"com/example/upriver/upriver/Clearance$Ways", "clears", "()Z"⟩ : MethodName)) (C := "com/example/upriver/upriver/Clearance$Ways") hown (own_wd hw 4 rfl) (own_wd hw 5 rfl) (notFace_of_selects (args := #[]) (mvT hZ (own_wd hw 7 rfl))) (own_wd hw 7 rfl) (own_wd hw 6 rfl) (own_wd hw 2 rfl) (own_wd hw 8 rfl) (by decide) 0 (argsL := []) (rest := []) (own_rm15 l Z a0 hw h0 w_KEPT w_KEPT S_w_KEPT) (by decide) (by decide) E_w_KEPT (g := (mkF m 43 #[.val (.int p0), .val (.int (0 : Int32)), .val (.ref w_KEPT), .val (.int (0 : Int32)), .unset, .unset] [(.ref w_KEPT)])) rfl (by rw [hml]; rfl) (lenOf own_pd0 rfl) rfl (by show 2 * 0 + _ ≤ _; exact Nat.le_of_eq rfl) (hb hby at_43) e13 (by decide) (by decide)
    refine own_go (T2 := T14) (g2 := (mkF m 46 #[.val (.int p0), .val (.int (0 : Int32)), .val (.ref w_KEPT), .val (.int (0 : Int32)), .unset, .unset] [(.int (own_f15 w_KEPT w_KEPT))])) st14 ?_
    rw [show (own_f15 w_KEPT w_KEPT) = (0 : Int32) from by first | rfl | rw [own_f15, if_pos (show w_KEPT = w_KEPT from rfl)] | simp only [own_f15, if_pos (show w_KEPT = w_KEPT from rfl)]]
    refine own_go (T2 := T14) (g2 := (mkF m 48 #[.val (.int p0), .val (.int (0 : Int32)), .val (.ref w_KEPT), .val (.int (0 : Int32)), .val (.int (0 : Int32)), .unset] [])) (fun t k => XS.istore X14.here hx rfl (hb hby at_46) rfl (l' := #[.val (.int p0), .val (.int (0 : Int32)), .val (.ref w_KEPT), .val (.int (0 : Int32)), .val (.int (0 : Int32)), .unset]) rfl k) ?_
    refine own_go (T2 := T14) (g2 := (mkF m 49 #[.val (.int p0), .val (.int (0 : Int32)), .val (.ref w_KEPT), .val (.int (0 : Int32)), .val (.int (0 : Int32)), .unset] [(.ref w_KEPT)])) (fun t k => XS.aloadN X14.here hx rfl (hb hby at_48) rfl rfl k) ?_
    obtain ⟨_, T18, _, X18, ⟨rfl, rfl, e18⟩, st18⟩ := own_virtual X14 hx hZ (y := (⟨"com/example/upriver/upriver/Clearance$Ways", "keeps", "()Z"⟩ : MethodName)) (z := (⟨"com/example/upriver/upriver/Clearance$Ways", "keeps", "()Z"⟩ : MethodName)) (C := "com/example/upriver/upriver/Clearance$Ways") hown (own_wd hw 10 rfl) (own_wd hw 11 rfl) (notFace_of_selects (args := #[]) (mvT hZ (own_wd hw 13 rfl))) (own_wd hw 13 rfl) (own_wd hw 12 rfl) (own_wd hw 2 rfl) (own_wd hw 14 rfl) (by decide) 0 (argsL := []) (rest := []) (own_rm19 l Z a0 hw h0 w_KEPT w_CLEARED S_w_CLEARED) (by decide) (by decide) E_w_KEPT (g := (mkF m 49 #[.val (.int p0), .val (.int (0 : Int32)), .val (.ref w_KEPT), .val (.int (0 : Int32)), .val (.int (0 : Int32)), .unset] [(.ref w_KEPT)])) rfl (by rw [hml]; rfl) (lenOf own_pd0 rfl) rfl (by show 2 * 0 + _ ≤ _; exact Nat.le_of_eq rfl) (hb hby at_49) e14 (by decide) (by decide)
    refine own_go (T2 := T18) (g2 := (mkF m 52 #[.val (.int p0), .val (.int (0 : Int32)), .val (.ref w_KEPT), .val (.int (0 : Int32)), .val (.int (0 : Int32)), .unset] [(.int (own_f19 w_KEPT w_CLEARED))])) st18 ?_
    rw [show (own_f19 w_KEPT w_CLEARED) = (1 : Int32) from by first | rfl | rw [own_f19, if_neg (show ¬ (w_KEPT = w_CLEARED) from (Fld.ne F_ordinal_w_KEPT F_ordinal_w_CLEARED (by decide)))] | simp only [own_f19, if_neg (show ¬ (w_KEPT = w_CLEARED) from (Fld.ne F_ordinal_w_KEPT F_ordinal_w_CLEARED (by decide)))]]
    refine own_go (T2 := T18) (g2 := (mkF m 54 #[.val (.int p0), .val (.int (0 : Int32)), .val (.ref w_KEPT), .val (.int (0 : Int32)), .val (.int (0 : Int32)), .val (.int (1 : Int32))] [])) (fun t k => XS.istore X18.here hx rfl (hb hby at_52) rfl (l' := #[.val (.int p0), .val (.int (0 : Int32)), .val (.ref w_KEPT), .val (.int (0 : Int32)), .val (.int (0 : Int32)), .val (.int (1 : Int32))]) rfl k) ?_
    refine own_go (T2 := T18) (g2 := (mkF m 56 #[.val (.int p0), .val (.int (0 : Int32)), .val (.ref w_KEPT), .val (.int (0 : Int32)), .val (.int (0 : Int32)), .val (.int (1 : Int32))] [(.int (0 : Int32))])) (fun t k => XS.iload X18.here hx rfl (hb hby at_54) rfl  k) ?_
    refine own_go (T2 := T18) (g2 := (mkF m 57 #[.val (.int p0), .val (.int (0 : Int32)), .val (.ref w_KEPT), .val (.int (0 : Int32)), .val (.int (0 : Int32)), .val (.int (1 : Int32))] [(.int (0 : Int32)), (.int (0 : Int32))])) (fun t k => XS.iloadN X18.here hx rfl (hb hby at_56) rfl  k) ?_
    refine own_go (T2 := T18) (g2 := (mkF m 60 #[.val (.int p0), .val (.int (0 : Int32)), .val (.ref w_KEPT), .val (.int (0 : Int32)), .val (.int (0 : Int32)), .val (.int (1 : Int32))] [])) (fun t k => XS.icmpNo X18.here hx rfl (hb hby at_57) rfl (teq (show (0 : Int32) = (0 : Int32) from (by decide))).2 k) ?_
    refine own_go (T2 := T18) (g2 := (mkF m 62 #[.val (.int p0), .val (.int (0 : Int32)), .val (.ref w_KEPT), .val (.int (0 : Int32)), .val (.int (0 : Int32)), .val (.int (1 : Int32))] [(.int (0 : Int32))])) (fun t k => XS.iload X18.here hx rfl (hb hby at_60) rfl  k) ?_
    refine own_go (T2 := T18) (g2 := (mkF m 65 #[.val (.int p0), .val (.int (0 : Int32)), .val (.ref w_KEPT), .val (.int (0 : Int32)), .val (.int (0 : Int32)), .val (.int (1 : Int32))] [])) (fun t k => XS.ifNo X18.here hx rfl (hb hby at_62) rfl ((if0 _ _).trans (teq (show (0 : Int32) = (0 : Int32) from (by decide))).2) k) ?_
    refine own_go (T2 := T18) (g2 := (mkF m 67 #[.val (.int p0), .val (.int (0 : Int32)), .val (.ref w_KEPT), .val (.int (0 : Int32)), .val (.int (0 : Int32)), .val (.int (1 : Int32))] [(.int (1 : Int32))])) (fun t k => XS.iload X18.here hx rfl (hb hby at_65) rfl  k) ?_
    refine own_go (T2 := T18) (g2 := (mkF m 70 #[.val (.int p0), .val (.int (0 : Int32)), .val (.ref w_KEPT), .val (.int (0 : Int32)), .val (.int (0 : Int32)), .val (.int (1 : Int32))] [])) (fun t k => XS.ifNo X18.here hx rfl (hb hby at_67) rfl ((if0 _ _).trans (feq (show ¬ ((1 : Int32) = (0 : Int32)) from (by decide))).1) k) ?_
    refine own_go (T2 := T18) (g2 := (mkF m 72 #[.val (.int p0), .val (.int (0 : Int32)), .val (.ref w_KEPT), .val (.int (0 : Int32)), .val (.int (0 : Int32)), .val (.int (1 : Int32))] [(.int (0 : Int32))])) (fun t k => XS.iload X18.here hx rfl (hb hby at_70) rfl  k) ?_
    refine own_go (T2 := T18) (g2 := (mkF m 84 #[.val (.int p0), .val (.int (0 : Int32)), .val (.ref w_KEPT), .val (.int (0 : Int32)), .val (.int (0 : Int32)), .val (.int (1 : Int32))] [])) (fun t k => XS.ifYes X18.here hx rfl (pc0 := 72) (pc' := 84) rfl (hb hby at_72) rfl ((if0 _ _).trans (teq (show (0 : Int32) = (0 : Int32) from (by decide))).1) (by decide) (by decide) k) ?_
    refine own_go (T2 := T18) (g2 := (mkF m 85 #[.val (.int p0), .val (.int (0 : Int32)), .val (.ref w_KEPT), .val (.int (0 : Int32)), .val (.int (0 : Int32)), .val (.int (1 : Int32))] [(.int (0 : Int32))])) (fun t k => XS.iconst X18.here hx rfl (hb hby at_84) k) ?_
    refine own_go (T2 := T18) (g2 := (mkF m 86 #[.val (.int p0), .val (.int (0 : Int32)), .val (.ref w_KEPT), .val (.int (0 : Int32)), .val (.int (0 : Int32)), .val (.int (1 : Int32))] [(.int (0 : Int32)), (.int (0 : Int32))])) (fun t k => XS.iloadN X18.here hx rfl (hb hby at_85) rfl  k) ?_
    refine own_go (T2 := T18) (g2 := (mkF m 87 #[.val (.int p0), .val (.int (0 : Int32)), .val (.ref w_KEPT), .val (.int (0 : Int32)), .val (.int (0 : Int32)), .val (.int (1 : Int32))] [(.int (2 : Int32)), (.int (0 : Int32)), (.int (0 : Int32))])) (fun t k => XS.iconst X18.here hx rfl (hb hby at_86) k) ?_
    refine own_go (T2 := T18) (g2 := (mkF m 94 #[.val (.int p0), .val (.int (0 : Int32)), .val (.ref w_KEPT), .val (.int (0 : Int32)), .val (.int (0 : Int32)), .val (.int (1 : Int32))] [(.int (0 : Int32))])) (fun t k => XS.icmpYes X18.here hx rfl (pc0 := 87) (pc' := 94) rfl (hb hby at_87) rfl (feq (show ¬ ((0 : Int32) = (2 : Int32)) from (by decide))).2 (by decide) (by decide) k) ?_
    refine own_go (T2 := T18) (g2 := (mkF m 95 #[.val (.int p0), .val (.int (0 : Int32)), .val (.ref w_KEPT), .val (.int (0 : Int32)), .val (.int (0 : Int32)), .val (.int (1 : Int32))] [(.int (0 : Int32)), (.int (0 : Int32))])) (fun t k => XS.iconst X18.here hx rfl (hb hby at_94) k) ?_
    refine own_go (T2 := T18) (g2 := (mkF m 98 #[.val (.int p0), .val (.int (0 : Int32)), .val (.ref w_KEPT), .val (.int (0 : Int32)), .val (.int (0 : Int32)), .val (.int (1 : Int32))] [])) (fun t k => XS.icmpNo X18.here hx rfl (hb hby at_95) rfl (teq (show (0 : Int32) = (0 : Int32) from (by decide))).2 k) ?_
    refine own_go (T2 := T18) (g2 := (mkF m 99 #[.val (.int p0), .val (.int (0 : Int32)), .val (.ref w_KEPT), .val (.int (0 : Int32)), .val (.int (0 : Int32)), .val (.int (1 : Int32))] [(.int (1 : Int32))])) (fun t k => XS.iconst X18.here hx rfl (hb hby at_98) k) ?_
    refine own_go (T2 := T18) (g2 := (mkF m 103 #[.val (.int p0), .val (.int (0 : Int32)), .val (.ref w_KEPT), .val (.int (0 : Int32)), .val (.int (0 : Int32)), .val (.int (1 : Int32))] [(.int (1 : Int32))])) (fun t k => XS.goto X18.here hx rfl (pc0 := 99) (pc' := 103) rfl (hb hby at_99) (by decide) (by decide) k) ?_
    exact own_endN X18 hx Bd.notSynchronized (t := .boolean) Bd.returns (by simp) (hb hby at_103) (z' := (1 : Int32)) rfl (by decide) (by decide) ⟨rfl, Fr.nil _⟩
  · refine own_go (T2 := s₁) (g2 := (mkF m 7 #[.val (.int p0), .val (.int (1 : Int32)), .unset, .unset, .unset, .unset] [])) (fun t k => XS.istoreN X0.here hx rfl (hb hby at_6) rfl (l' := #[.val (.int p0), .val (.int (1 : Int32)), .unset, .unset, .unset, .unset]) rfl k) ?_
    refine own_go (T2 := s₁) (g2 := (mkF m 8 #[.val (.int p0), .val (.int (1 : Int32)), .unset, .unset, .unset, .unset] [(.int (1 : Int32))])) (fun t k => XS.iloadN X0.here hx rfl (hb hby at_7) rfl  k) ?_
    refine own_go (T2 := s₁) (g2 := (mkF m 17 #[.val (.int p0), .val (.int (1 : Int32)), .unset, .unset, .unset, .unset] [])) (fun t k => XS.ifYes X0.here hx rfl (pc0 := 8) (pc' := 17) rfl (hb hby at_8) rfl ((if0 _ _).trans (feq (show ¬ ((1 : Int32) = (0 : Int32)) from (by decide))).2) (by decide) (by decide) k) ?_
    refine own_go (T2 := s₁) (g2 := (mkF m 18 #[.val (.int p0), .val (.int (1 : Int32)), .unset, .unset, .unset, .unset] [(.int (1 : Int32))])) (fun t k => XS.iloadN X0.here hx rfl (hb hby at_17) rfl  k) ?_
    refine own_go (T2 := s₁) (g2 := (mkF m 19 #[.val (.int p0), .val (.int (1 : Int32)), .unset, .unset, .unset, .unset] [(.int (1 : Int32)), (.int (1 : Int32))])) (fun t k => XS.iconst X0.here hx rfl (hb hby at_18) k) ?_
    refine own_go (T2 := s₁) (g2 := (mkF m 22 #[.val (.int p0), .val (.int (1 : Int32)), .unset, .unset, .unset, .unset] [])) (fun t k => XS.icmpNo X0.here hx rfl (hb hby at_19) rfl (teq (show (1 : Int32) = (1 : Int32) from (by decide))).2 k) ?_
    obtain ⟨T22, X22, e22, st22⟩ := getS2 X0 hx hZ hown (host := "") (Or.inl (own_wd hw 19 rfl)) Via.refl e0 S_w_CLEARED (g := (mkF m 22 #[.val (.int p0), .val (.int (1 : Int32)), .unset, .unset, .unset, .unset] [])) rfl (hb hby at_22)
    refine own_go (T2 := T22) (g2 := (mkF m 25 #[.val (.int p0), .val (.int (1 : Int32)), .unset, .unset, .unset, .unset] [(.ref w_CLEARED)])) st22 ?_
    refine own_go (T2 := T22) (g2 := (mkF m 31 #[.val (.int p0), .val (.int (1 : Int32)), .unset, .unset, .unset, .unset] [(.ref w_CLEARED)])) (fun t k => XS.goto X22.here hx rfl (pc0 := 25) (pc' := 31) rfl (hb hby at_25) (by decide) (by decide) k) ?_
    refine own_go (T2 := T22) (g2 := (mkF m 32 #[.val (.int p0), .val (.int (1 : Int32)), .val (.ref w_CLEARED), .unset, .unset, .unset] [])) (fun t k => XS.astoreN X22.here hx rfl (hb hby at_31) rfl rfl (l' := #[.val (.int p0), .val (.int (1 : Int32)), .val (.ref w_CLEARED), .unset, .unset, .unset]) rfl k) ?_
    refine own_go (T2 := T22) (g2 := (mkF m 33 #[.val (.int p0), .val (.int (1 : Int32)), .val (.ref w_CLEARED), .unset, .unset, .unset] [(.int (1 : Int32))])) (fun t k => XS.iloadN X22.here hx rfl (hb hby at_32) rfl  k) ?_
    refine own_go (T2 := T22) (g2 := (mkF m 36 #[.val (.int p0), .val (.int (1 : Int32)), .val (.ref w_CLEARED), .unset, .unset, .unset] [])) (fun t k => XS.ifNo X22.here hx rfl (hb hby at_33) rfl ((if0 _ _).trans (feq (show ¬ ((1 : Int32) = (0 : Int32)) from (by decide))).1) k) ?_
    refine own_go (T2 := T22) (g2 := (mkF m 37 #[.val (.int p0), .val (.int (1 : Int32)), .val (.ref w_CLEARED), .unset, .unset, .unset] [(.int (1 : Int32))])) (fun t k => XS.iconst X22.here hx rfl (hb hby at_36) k) ?_
    refine own_go (T2 := T22) (g2 := (mkF m 41 #[.val (.int p0), .val (.int (1 : Int32)), .val (.ref w_CLEARED), .unset, .unset, .unset] [(.int (1 : Int32))])) (fun t k => XS.goto X22.here hx rfl (pc0 := 37) (pc' := 41) rfl (hb hby at_37) (by decide) (by decide) k) ?_
    refine own_go (T2 := T22) (g2 := (mkF m 42 #[.val (.int p0), .val (.int (1 : Int32)), .val (.ref w_CLEARED), .val (.int (1 : Int32)), .unset, .unset] [])) (fun t k => XS.istoreN X22.here hx rfl (hb hby at_41) rfl (l' := #[.val (.int p0), .val (.int (1 : Int32)), .val (.ref w_CLEARED), .val (.int (1 : Int32)), .unset, .unset]) rfl k) ?_
    refine own_go (T2 := T22) (g2 := (mkF m 43 #[.val (.int p0), .val (.int (1 : Int32)), .val (.ref w_CLEARED), .val (.int (1 : Int32)), .unset, .unset] [(.ref w_CLEARED)])) (fun t k => XS.aloadN X22.here hx rfl (hb hby at_42) rfl rfl k) ?_
    obtain ⟨_, T23, _, X23, ⟨rfl, rfl, e23⟩, st23⟩ := own_virtual X22 hx hZ (y := (⟨"com/example/upriver/upriver/Clearance$Ways", "clears", "()Z"⟩ : MethodName)) (z := (⟨"com/example/upriver/upriver/Clearance$Ways", "clears", "()Z"⟩ : MethodName)) (C := "com/example/upriver/upriver/Clearance$Ways") hown (own_wd hw 4 rfl) (own_wd hw 5 rfl) (notFace_of_selects (args := #[]) (mvT hZ (own_wd hw 7 rfl))) (own_wd hw 7 rfl) (own_wd hw 6 rfl) (own_wd hw 2 rfl) (own_wd hw 8 rfl) (by decide) 0 (argsL := []) (rest := []) (own_rm15 l Z a0 hw h0 w_CLEARED w_KEPT S_w_KEPT) (by decide) (by decide) E_w_CLEARED (g := (mkF m 43 #[.val (.int p0), .val (.int (1 : Int32)), .val (.ref w_CLEARED), .val (.int (1 : Int32)), .unset, .unset] [(.ref w_CLEARED)])) rfl (by rw [hml]; rfl) (lenOf own_pd0 rfl) rfl (by show 2 * 0 + _ ≤ _; exact Nat.le_of_eq rfl) (hb hby at_43) e22 (by decide) (by decide)
    refine own_go (T2 := T23) (g2 := (mkF m 46 #[.val (.int p0), .val (.int (1 : Int32)), .val (.ref w_CLEARED), .val (.int (1 : Int32)), .unset, .unset] [(.int (own_f15 w_CLEARED w_KEPT))])) st23 ?_
    rw [show (own_f15 w_CLEARED w_KEPT) = (1 : Int32) from by first | rfl | rw [own_f15, if_neg (show ¬ (w_CLEARED = w_KEPT) from (Fld.ne F_ordinal_w_CLEARED F_ordinal_w_KEPT (by decide)))] | simp only [own_f15, if_neg (show ¬ (w_CLEARED = w_KEPT) from (Fld.ne F_ordinal_w_CLEARED F_ordinal_w_KEPT (by decide)))]]
    refine own_go (T2 := T23) (g2 := (mkF m 48 #[.val (.int p0), .val (.int (1 : Int32)), .val (.ref w_CLEARED), .val (.int (1 : Int32)), .val (.int (1 : Int32)), .unset] [])) (fun t k => XS.istore X23.here hx rfl (hb hby at_46) rfl (l' := #[.val (.int p0), .val (.int (1 : Int32)), .val (.ref w_CLEARED), .val (.int (1 : Int32)), .val (.int (1 : Int32)), .unset]) rfl k) ?_
    refine own_go (T2 := T23) (g2 := (mkF m 49 #[.val (.int p0), .val (.int (1 : Int32)), .val (.ref w_CLEARED), .val (.int (1 : Int32)), .val (.int (1 : Int32)), .unset] [(.ref w_CLEARED)])) (fun t k => XS.aloadN X23.here hx rfl (hb hby at_48) rfl rfl k) ?_
    obtain ⟨_, T24, _, X24, ⟨rfl, rfl, e24⟩, st24⟩ := own_virtual X23 hx hZ (y := (⟨"com/example/upriver/upriver/Clearance$Ways", "keeps", "()Z"⟩ : MethodName)) (z := (⟨"com/example/upriver/upriver/Clearance$Ways", "keeps", "()Z"⟩ : MethodName)) (C := "com/example/upriver/upriver/Clearance$Ways") hown (own_wd hw 10 rfl) (own_wd hw 11 rfl) (notFace_of_selects (args := #[]) (mvT hZ (own_wd hw 13 rfl))) (own_wd hw 13 rfl) (own_wd hw 12 rfl) (own_wd hw 2 rfl) (own_wd hw 14 rfl) (by decide) 0 (argsL := []) (rest := []) (own_rm19 l Z a0 hw h0 w_CLEARED w_CLEARED S_w_CLEARED) (by decide) (by decide) E_w_CLEARED (g := (mkF m 49 #[.val (.int p0), .val (.int (1 : Int32)), .val (.ref w_CLEARED), .val (.int (1 : Int32)), .val (.int (1 : Int32)), .unset] [(.ref w_CLEARED)])) rfl (by rw [hml]; rfl) (lenOf own_pd0 rfl) rfl (by show 2 * 0 + _ ≤ _; exact Nat.le_of_eq rfl) (hb hby at_49) e23 (by decide) (by decide)
    refine own_go (T2 := T24) (g2 := (mkF m 52 #[.val (.int p0), .val (.int (1 : Int32)), .val (.ref w_CLEARED), .val (.int (1 : Int32)), .val (.int (1 : Int32)), .unset] [(.int (own_f19 w_CLEARED w_CLEARED))])) st24 ?_
    rw [show (own_f19 w_CLEARED w_CLEARED) = (0 : Int32) from by first | rfl | rw [own_f19, if_pos (show w_CLEARED = w_CLEARED from rfl)] | simp only [own_f19, if_pos (show w_CLEARED = w_CLEARED from rfl)]]
    refine own_go (T2 := T24) (g2 := (mkF m 54 #[.val (.int p0), .val (.int (1 : Int32)), .val (.ref w_CLEARED), .val (.int (1 : Int32)), .val (.int (1 : Int32)), .val (.int (0 : Int32))] [])) (fun t k => XS.istore X24.here hx rfl (hb hby at_52) rfl (l' := #[.val (.int p0), .val (.int (1 : Int32)), .val (.ref w_CLEARED), .val (.int (1 : Int32)), .val (.int (1 : Int32)), .val (.int (0 : Int32))]) rfl k) ?_
    refine own_go (T2 := T24) (g2 := (mkF m 56 #[.val (.int p0), .val (.int (1 : Int32)), .val (.ref w_CLEARED), .val (.int (1 : Int32)), .val (.int (1 : Int32)), .val (.int (0 : Int32))] [(.int (1 : Int32))])) (fun t k => XS.iload X24.here hx rfl (hb hby at_54) rfl  k) ?_
    refine own_go (T2 := T24) (g2 := (mkF m 57 #[.val (.int p0), .val (.int (1 : Int32)), .val (.ref w_CLEARED), .val (.int (1 : Int32)), .val (.int (1 : Int32)), .val (.int (0 : Int32))] [(.int (1 : Int32)), (.int (1 : Int32))])) (fun t k => XS.iloadN X24.here hx rfl (hb hby at_56) rfl  k) ?_
    refine own_go (T2 := T24) (g2 := (mkF m 60 #[.val (.int p0), .val (.int (1 : Int32)), .val (.ref w_CLEARED), .val (.int (1 : Int32)), .val (.int (1 : Int32)), .val (.int (0 : Int32))] [])) (fun t k => XS.icmpNo X24.here hx rfl (hb hby at_57) rfl (teq (show (1 : Int32) = (1 : Int32) from (by decide))).2 k) ?_
    refine own_go (T2 := T24) (g2 := (mkF m 62 #[.val (.int p0), .val (.int (1 : Int32)), .val (.ref w_CLEARED), .val (.int (1 : Int32)), .val (.int (1 : Int32)), .val (.int (0 : Int32))] [(.int (1 : Int32))])) (fun t k => XS.iload X24.here hx rfl (hb hby at_60) rfl  k) ?_
    refine own_go (T2 := T24) (g2 := (mkF m 70 #[.val (.int p0), .val (.int (1 : Int32)), .val (.ref w_CLEARED), .val (.int (1 : Int32)), .val (.int (1 : Int32)), .val (.int (0 : Int32))] [])) (fun t k => XS.ifYes X24.here hx rfl (pc0 := 62) (pc' := 70) rfl (hb hby at_62) rfl ((if0 _ _).trans (feq (show ¬ ((1 : Int32) = (0 : Int32)) from (by decide))).2) (by decide) (by decide) k) ?_
    refine own_go (T2 := T24) (g2 := (mkF m 72 #[.val (.int p0), .val (.int (1 : Int32)), .val (.ref w_CLEARED), .val (.int (1 : Int32)), .val (.int (1 : Int32)), .val (.int (0 : Int32))] [(.int (1 : Int32))])) (fun t k => XS.iload X24.here hx rfl (hb hby at_70) rfl  k) ?_
    refine own_go (T2 := T24) (g2 := (mkF m 75 #[.val (.int p0), .val (.int (1 : Int32)), .val (.ref w_CLEARED), .val (.int (1 : Int32)), .val (.int (1 : Int32)), .val (.int (0 : Int32))] [])) (fun t k => XS.ifNo X24.here hx rfl (hb hby at_72) rfl ((if0 _ _).trans (feq (show ¬ ((1 : Int32) = (0 : Int32)) from (by decide))).1) k) ?_
    refine own_go (T2 := T24) (g2 := (mkF m 77 #[.val (.int p0), .val (.int (1 : Int32)), .val (.ref w_CLEARED), .val (.int (1 : Int32)), .val (.int (1 : Int32)), .val (.int (0 : Int32))] [(.int (0 : Int32))])) (fun t k => XS.iload X24.here hx rfl (hb hby at_75) rfl  k) ?_
    refine own_go (T2 := T24) (g2 := (mkF m 84 #[.val (.int p0), .val (.int (1 : Int32)), .val (.ref w_CLEARED), .val (.int (1 : Int32)), .val (.int (1 : Int32)), .val (.int (0 : Int32))] [])) (fun t k => XS.ifYes X24.here hx rfl (pc0 := 77) (pc' := 84) rfl (hb hby at_77) rfl ((if0 _ _).trans (teq (show (0 : Int32) = (0 : Int32) from (by decide))).1) (by decide) (by decide) k) ?_
    refine own_go (T2 := T24) (g2 := (mkF m 85 #[.val (.int p0), .val (.int (1 : Int32)), .val (.ref w_CLEARED), .val (.int (1 : Int32)), .val (.int (1 : Int32)), .val (.int (0 : Int32))] [(.int (0 : Int32))])) (fun t k => XS.iconst X24.here hx rfl (hb hby at_84) k) ?_
    refine own_go (T2 := T24) (g2 := (mkF m 86 #[.val (.int p0), .val (.int (1 : Int32)), .val (.ref w_CLEARED), .val (.int (1 : Int32)), .val (.int (1 : Int32)), .val (.int (0 : Int32))] [(.int (1 : Int32)), (.int (0 : Int32))])) (fun t k => XS.iloadN X24.here hx rfl (hb hby at_85) rfl  k) ?_
    refine own_go (T2 := T24) (g2 := (mkF m 87 #[.val (.int p0), .val (.int (1 : Int32)), .val (.ref w_CLEARED), .val (.int (1 : Int32)), .val (.int (1 : Int32)), .val (.int (0 : Int32))] [(.int (2 : Int32)), (.int (1 : Int32)), (.int (0 : Int32))])) (fun t k => XS.iconst X24.here hx rfl (hb hby at_86) k) ?_
    refine own_go (T2 := T24) (g2 := (mkF m 94 #[.val (.int p0), .val (.int (1 : Int32)), .val (.ref w_CLEARED), .val (.int (1 : Int32)), .val (.int (1 : Int32)), .val (.int (0 : Int32))] [(.int (0 : Int32))])) (fun t k => XS.icmpYes X24.here hx rfl (pc0 := 87) (pc' := 94) rfl (hb hby at_87) rfl (feq (show ¬ ((1 : Int32) = (2 : Int32)) from (by decide))).2 (by decide) (by decide) k) ?_
    refine own_go (T2 := T24) (g2 := (mkF m 95 #[.val (.int p0), .val (.int (1 : Int32)), .val (.ref w_CLEARED), .val (.int (1 : Int32)), .val (.int (1 : Int32)), .val (.int (0 : Int32))] [(.int (0 : Int32)), (.int (0 : Int32))])) (fun t k => XS.iconst X24.here hx rfl (hb hby at_94) k) ?_
    refine own_go (T2 := T24) (g2 := (mkF m 98 #[.val (.int p0), .val (.int (1 : Int32)), .val (.ref w_CLEARED), .val (.int (1 : Int32)), .val (.int (1 : Int32)), .val (.int (0 : Int32))] [])) (fun t k => XS.icmpNo X24.here hx rfl (hb hby at_95) rfl (teq (show (0 : Int32) = (0 : Int32) from (by decide))).2 k) ?_
    refine own_go (T2 := T24) (g2 := (mkF m 99 #[.val (.int p0), .val (.int (1 : Int32)), .val (.ref w_CLEARED), .val (.int (1 : Int32)), .val (.int (1 : Int32)), .val (.int (0 : Int32))] [(.int (1 : Int32))])) (fun t k => XS.iconst X24.here hx rfl (hb hby at_98) k) ?_
    refine own_go (T2 := T24) (g2 := (mkF m 103 #[.val (.int p0), .val (.int (1 : Int32)), .val (.ref w_CLEARED), .val (.int (1 : Int32)), .val (.int (1 : Int32)), .val (.int (0 : Int32))] [(.int (1 : Int32))])) (fun t k => XS.goto X24.here hx rfl (pc0 := 99) (pc' := 103) rfl (hb hby at_99) (by decide) (by decide) k) ?_
    exact own_endN X24 hx Bd.notSynchronized (t := .boolean) Bd.returns (by simp) (hb hby at_103) (z' := (1 : Int32)) rfl (by decide) (by decide) ⟨rfl, Fr.nil _⟩
  · refine own_go (T2 := s₁) (g2 := (mkF m 7 #[.val (.int p0), .val (.int (2 : Int32)), .unset, .unset, .unset, .unset] [])) (fun t k => XS.istoreN X0.here hx rfl (hb hby at_6) rfl (l' := #[.val (.int p0), .val (.int (2 : Int32)), .unset, .unset, .unset, .unset]) rfl k) ?_
    refine own_go (T2 := s₁) (g2 := (mkF m 8 #[.val (.int p0), .val (.int (2 : Int32)), .unset, .unset, .unset, .unset] [(.int (2 : Int32))])) (fun t k => XS.iloadN X0.here hx rfl (hb hby at_7) rfl  k) ?_
    refine own_go (T2 := s₁) (g2 := (mkF m 17 #[.val (.int p0), .val (.int (2 : Int32)), .unset, .unset, .unset, .unset] [])) (fun t k => XS.ifYes X0.here hx rfl (pc0 := 8) (pc' := 17) rfl (hb hby at_8) rfl ((if0 _ _).trans (feq (show ¬ ((2 : Int32) = (0 : Int32)) from (by decide))).2) (by decide) (by decide) k) ?_
    refine own_go (T2 := s₁) (g2 := (mkF m 18 #[.val (.int p0), .val (.int (2 : Int32)), .unset, .unset, .unset, .unset] [(.int (2 : Int32))])) (fun t k => XS.iloadN X0.here hx rfl (hb hby at_17) rfl  k) ?_
    refine own_go (T2 := s₁) (g2 := (mkF m 19 #[.val (.int p0), .val (.int (2 : Int32)), .unset, .unset, .unset, .unset] [(.int (1 : Int32)), (.int (2 : Int32))])) (fun t k => XS.iconst X0.here hx rfl (hb hby at_18) k) ?_
    refine own_go (T2 := s₁) (g2 := (mkF m 28 #[.val (.int p0), .val (.int (2 : Int32)), .unset, .unset, .unset, .unset] [])) (fun t k => XS.icmpYes X0.here hx rfl (pc0 := 19) (pc' := 28) rfl (hb hby at_19) rfl (feq (show ¬ ((2 : Int32) = (1 : Int32)) from (by decide))).2 (by decide) (by decide) k) ?_
    obtain ⟨T25, X25, e25, st25⟩ := getS2 X0 hx hZ hown (host := "") (Or.inl (own_wd hw 17 rfl)) Via.refl e0 S_w_BOTH (g := (mkF m 28 #[.val (.int p0), .val (.int (2 : Int32)), .unset, .unset, .unset, .unset] [])) rfl (hb hby at_28)
    refine own_go (T2 := T25) (g2 := (mkF m 31 #[.val (.int p0), .val (.int (2 : Int32)), .unset, .unset, .unset, .unset] [(.ref w_BOTH)])) st25 ?_
    refine own_go (T2 := T25) (g2 := (mkF m 32 #[.val (.int p0), .val (.int (2 : Int32)), .val (.ref w_BOTH), .unset, .unset, .unset] [])) (fun t k => XS.astoreN X25.here hx rfl (hb hby at_31) rfl rfl (l' := #[.val (.int p0), .val (.int (2 : Int32)), .val (.ref w_BOTH), .unset, .unset, .unset]) rfl k) ?_
    refine own_go (T2 := T25) (g2 := (mkF m 33 #[.val (.int p0), .val (.int (2 : Int32)), .val (.ref w_BOTH), .unset, .unset, .unset] [(.int (2 : Int32))])) (fun t k => XS.iloadN X25.here hx rfl (hb hby at_32) rfl  k) ?_
    refine own_go (T2 := T25) (g2 := (mkF m 36 #[.val (.int p0), .val (.int (2 : Int32)), .val (.ref w_BOTH), .unset, .unset, .unset] [])) (fun t k => XS.ifNo X25.here hx rfl (hb hby at_33) rfl ((if0 _ _).trans (feq (show ¬ ((2 : Int32) = (0 : Int32)) from (by decide))).1) k) ?_
    refine own_go (T2 := T25) (g2 := (mkF m 37 #[.val (.int p0), .val (.int (2 : Int32)), .val (.ref w_BOTH), .unset, .unset, .unset] [(.int (1 : Int32))])) (fun t k => XS.iconst X25.here hx rfl (hb hby at_36) k) ?_
    refine own_go (T2 := T25) (g2 := (mkF m 41 #[.val (.int p0), .val (.int (2 : Int32)), .val (.ref w_BOTH), .unset, .unset, .unset] [(.int (1 : Int32))])) (fun t k => XS.goto X25.here hx rfl (pc0 := 37) (pc' := 41) rfl (hb hby at_37) (by decide) (by decide) k) ?_
    refine own_go (T2 := T25) (g2 := (mkF m 42 #[.val (.int p0), .val (.int (2 : Int32)), .val (.ref w_BOTH), .val (.int (1 : Int32)), .unset, .unset] [])) (fun t k => XS.istoreN X25.here hx rfl (hb hby at_41) rfl (l' := #[.val (.int p0), .val (.int (2 : Int32)), .val (.ref w_BOTH), .val (.int (1 : Int32)), .unset, .unset]) rfl k) ?_
    refine own_go (T2 := T25) (g2 := (mkF m 43 #[.val (.int p0), .val (.int (2 : Int32)), .val (.ref w_BOTH), .val (.int (1 : Int32)), .unset, .unset] [(.ref w_BOTH)])) (fun t k => XS.aloadN X25.here hx rfl (hb hby at_42) rfl rfl k) ?_
    obtain ⟨_, T26, _, X26, ⟨rfl, rfl, e26⟩, st26⟩ := own_virtual X25 hx hZ (y := (⟨"com/example/upriver/upriver/Clearance$Ways", "clears", "()Z"⟩ : MethodName)) (z := (⟨"com/example/upriver/upriver/Clearance$Ways", "clears", "()Z"⟩ : MethodName)) (C := "com/example/upriver/upriver/Clearance$Ways") hown (own_wd hw 4 rfl) (own_wd hw 5 rfl) (notFace_of_selects (args := #[]) (mvT hZ (own_wd hw 7 rfl))) (own_wd hw 7 rfl) (own_wd hw 6 rfl) (own_wd hw 2 rfl) (own_wd hw 8 rfl) (by decide) 0 (argsL := []) (rest := []) (own_rm15 l Z a0 hw h0 w_BOTH w_KEPT S_w_KEPT) (by decide) (by decide) E_w_BOTH (g := (mkF m 43 #[.val (.int p0), .val (.int (2 : Int32)), .val (.ref w_BOTH), .val (.int (1 : Int32)), .unset, .unset] [(.ref w_BOTH)])) rfl (by rw [hml]; rfl) (lenOf own_pd0 rfl) rfl (by show 2 * 0 + _ ≤ _; exact Nat.le_of_eq rfl) (hb hby at_43) e25 (by decide) (by decide)
    refine own_go (T2 := T26) (g2 := (mkF m 46 #[.val (.int p0), .val (.int (2 : Int32)), .val (.ref w_BOTH), .val (.int (1 : Int32)), .unset, .unset] [(.int (own_f15 w_BOTH w_KEPT))])) st26 ?_
    rw [show (own_f15 w_BOTH w_KEPT) = (1 : Int32) from by first | rfl | rw [own_f15, if_neg (show ¬ (w_BOTH = w_KEPT) from (Fld.ne F_ordinal_w_BOTH F_ordinal_w_KEPT (by decide)))] | simp only [own_f15, if_neg (show ¬ (w_BOTH = w_KEPT) from (Fld.ne F_ordinal_w_BOTH F_ordinal_w_KEPT (by decide)))]]
    refine own_go (T2 := T26) (g2 := (mkF m 48 #[.val (.int p0), .val (.int (2 : Int32)), .val (.ref w_BOTH), .val (.int (1 : Int32)), .val (.int (1 : Int32)), .unset] [])) (fun t k => XS.istore X26.here hx rfl (hb hby at_46) rfl (l' := #[.val (.int p0), .val (.int (2 : Int32)), .val (.ref w_BOTH), .val (.int (1 : Int32)), .val (.int (1 : Int32)), .unset]) rfl k) ?_
    refine own_go (T2 := T26) (g2 := (mkF m 49 #[.val (.int p0), .val (.int (2 : Int32)), .val (.ref w_BOTH), .val (.int (1 : Int32)), .val (.int (1 : Int32)), .unset] [(.ref w_BOTH)])) (fun t k => XS.aloadN X26.here hx rfl (hb hby at_48) rfl rfl k) ?_
    obtain ⟨_, T27, _, X27, ⟨rfl, rfl, e27⟩, st27⟩ := own_virtual X26 hx hZ (y := (⟨"com/example/upriver/upriver/Clearance$Ways", "keeps", "()Z"⟩ : MethodName)) (z := (⟨"com/example/upriver/upriver/Clearance$Ways", "keeps", "()Z"⟩ : MethodName)) (C := "com/example/upriver/upriver/Clearance$Ways") hown (own_wd hw 10 rfl) (own_wd hw 11 rfl) (notFace_of_selects (args := #[]) (mvT hZ (own_wd hw 13 rfl))) (own_wd hw 13 rfl) (own_wd hw 12 rfl) (own_wd hw 2 rfl) (own_wd hw 14 rfl) (by decide) 0 (argsL := []) (rest := []) (own_rm19 l Z a0 hw h0 w_BOTH w_CLEARED S_w_CLEARED) (by decide) (by decide) E_w_BOTH (g := (mkF m 49 #[.val (.int p0), .val (.int (2 : Int32)), .val (.ref w_BOTH), .val (.int (1 : Int32)), .val (.int (1 : Int32)), .unset] [(.ref w_BOTH)])) rfl (by rw [hml]; rfl) (lenOf own_pd0 rfl) rfl (by show 2 * 0 + _ ≤ _; exact Nat.le_of_eq rfl) (hb hby at_49) e26 (by decide) (by decide)
    refine own_go (T2 := T27) (g2 := (mkF m 52 #[.val (.int p0), .val (.int (2 : Int32)), .val (.ref w_BOTH), .val (.int (1 : Int32)), .val (.int (1 : Int32)), .unset] [(.int (own_f19 w_BOTH w_CLEARED))])) st27 ?_
    rw [show (own_f19 w_BOTH w_CLEARED) = (1 : Int32) from by first | rfl | rw [own_f19, if_neg (show ¬ (w_BOTH = w_CLEARED) from (Fld.ne F_ordinal_w_BOTH F_ordinal_w_CLEARED (by decide)))] | simp only [own_f19, if_neg (show ¬ (w_BOTH = w_CLEARED) from (Fld.ne F_ordinal_w_BOTH F_ordinal_w_CLEARED (by decide)))]]
    refine own_go (T2 := T27) (g2 := (mkF m 54 #[.val (.int p0), .val (.int (2 : Int32)), .val (.ref w_BOTH), .val (.int (1 : Int32)), .val (.int (1 : Int32)), .val (.int (1 : Int32))] [])) (fun t k => XS.istore X27.here hx rfl (hb hby at_52) rfl (l' := #[.val (.int p0), .val (.int (2 : Int32)), .val (.ref w_BOTH), .val (.int (1 : Int32)), .val (.int (1 : Int32)), .val (.int (1 : Int32))]) rfl k) ?_
    refine own_go (T2 := T27) (g2 := (mkF m 56 #[.val (.int p0), .val (.int (2 : Int32)), .val (.ref w_BOTH), .val (.int (1 : Int32)), .val (.int (1 : Int32)), .val (.int (1 : Int32))] [(.int (1 : Int32))])) (fun t k => XS.iload X27.here hx rfl (hb hby at_54) rfl  k) ?_
    refine own_go (T2 := T27) (g2 := (mkF m 57 #[.val (.int p0), .val (.int (2 : Int32)), .val (.ref w_BOTH), .val (.int (1 : Int32)), .val (.int (1 : Int32)), .val (.int (1 : Int32))] [(.int (1 : Int32)), (.int (1 : Int32))])) (fun t k => XS.iloadN X27.here hx rfl (hb hby at_56) rfl  k) ?_
    refine own_go (T2 := T27) (g2 := (mkF m 60 #[.val (.int p0), .val (.int (2 : Int32)), .val (.ref w_BOTH), .val (.int (1 : Int32)), .val (.int (1 : Int32)), .val (.int (1 : Int32))] [])) (fun t k => XS.icmpNo X27.here hx rfl (hb hby at_57) rfl (teq (show (1 : Int32) = (1 : Int32) from (by decide))).2 k) ?_
    refine own_go (T2 := T27) (g2 := (mkF m 62 #[.val (.int p0), .val (.int (2 : Int32)), .val (.ref w_BOTH), .val (.int (1 : Int32)), .val (.int (1 : Int32)), .val (.int (1 : Int32))] [(.int (1 : Int32))])) (fun t k => XS.iload X27.here hx rfl (hb hby at_60) rfl  k) ?_
    refine own_go (T2 := T27) (g2 := (mkF m 70 #[.val (.int p0), .val (.int (2 : Int32)), .val (.ref w_BOTH), .val (.int (1 : Int32)), .val (.int (1 : Int32)), .val (.int (1 : Int32))] [])) (fun t k => XS.ifYes X27.here hx rfl (pc0 := 62) (pc' := 70) rfl (hb hby at_62) rfl ((if0 _ _).trans (feq (show ¬ ((1 : Int32) = (0 : Int32)) from (by decide))).2) (by decide) (by decide) k) ?_
    refine own_go (T2 := T27) (g2 := (mkF m 72 #[.val (.int p0), .val (.int (2 : Int32)), .val (.ref w_BOTH), .val (.int (1 : Int32)), .val (.int (1 : Int32)), .val (.int (1 : Int32))] [(.int (1 : Int32))])) (fun t k => XS.iload X27.here hx rfl (hb hby at_70) rfl  k) ?_
    refine own_go (T2 := T27) (g2 := (mkF m 75 #[.val (.int p0), .val (.int (2 : Int32)), .val (.ref w_BOTH), .val (.int (1 : Int32)), .val (.int (1 : Int32)), .val (.int (1 : Int32))] [])) (fun t k => XS.ifNo X27.here hx rfl (hb hby at_72) rfl ((if0 _ _).trans (feq (show ¬ ((1 : Int32) = (0 : Int32)) from (by decide))).1) k) ?_
    refine own_go (T2 := T27) (g2 := (mkF m 77 #[.val (.int p0), .val (.int (2 : Int32)), .val (.ref w_BOTH), .val (.int (1 : Int32)), .val (.int (1 : Int32)), .val (.int (1 : Int32))] [(.int (1 : Int32))])) (fun t k => XS.iload X27.here hx rfl (hb hby at_75) rfl  k) ?_
    refine own_go (T2 := T27) (g2 := (mkF m 80 #[.val (.int p0), .val (.int (2 : Int32)), .val (.ref w_BOTH), .val (.int (1 : Int32)), .val (.int (1 : Int32)), .val (.int (1 : Int32))] [])) (fun t k => XS.ifNo X27.here hx rfl (hb hby at_77) rfl ((if0 _ _).trans (feq (show ¬ ((1 : Int32) = (0 : Int32)) from (by decide))).1) k) ?_
    refine own_go (T2 := T27) (g2 := (mkF m 81 #[.val (.int p0), .val (.int (2 : Int32)), .val (.ref w_BOTH), .val (.int (1 : Int32)), .val (.int (1 : Int32)), .val (.int (1 : Int32))] [(.int (1 : Int32))])) (fun t k => XS.iconst X27.here hx rfl (hb hby at_80) k) ?_
    refine own_go (T2 := T27) (g2 := (mkF m 85 #[.val (.int p0), .val (.int (2 : Int32)), .val (.ref w_BOTH), .val (.int (1 : Int32)), .val (.int (1 : Int32)), .val (.int (1 : Int32))] [(.int (1 : Int32))])) (fun t k => XS.goto X27.here hx rfl (pc0 := 81) (pc' := 85) rfl (hb hby at_81) (by decide) (by decide) k) ?_
    refine own_go (T2 := T27) (g2 := (mkF m 86 #[.val (.int p0), .val (.int (2 : Int32)), .val (.ref w_BOTH), .val (.int (1 : Int32)), .val (.int (1 : Int32)), .val (.int (1 : Int32))] [(.int (2 : Int32)), (.int (1 : Int32))])) (fun t k => XS.iloadN X27.here hx rfl (hb hby at_85) rfl  k) ?_
    refine own_go (T2 := T27) (g2 := (mkF m 87 #[.val (.int p0), .val (.int (2 : Int32)), .val (.ref w_BOTH), .val (.int (1 : Int32)), .val (.int (1 : Int32)), .val (.int (1 : Int32))] [(.int (2 : Int32)), (.int (2 : Int32)), (.int (1 : Int32))])) (fun t k => XS.iconst X27.here hx rfl (hb hby at_86) k) ?_
    refine own_go (T2 := T27) (g2 := (mkF m 90 #[.val (.int p0), .val (.int (2 : Int32)), .val (.ref w_BOTH), .val (.int (1 : Int32)), .val (.int (1 : Int32)), .val (.int (1 : Int32))] [(.int (1 : Int32))])) (fun t k => XS.icmpNo X27.here hx rfl (hb hby at_87) rfl (teq (show (2 : Int32) = (2 : Int32) from (by decide))).2 k) ?_
    refine own_go (T2 := T27) (g2 := (mkF m 91 #[.val (.int p0), .val (.int (2 : Int32)), .val (.ref w_BOTH), .val (.int (1 : Int32)), .val (.int (1 : Int32)), .val (.int (1 : Int32))] [(.int (1 : Int32)), (.int (1 : Int32))])) (fun t k => XS.iconst X27.here hx rfl (hb hby at_90) k) ?_
    refine own_go (T2 := T27) (g2 := (mkF m 95 #[.val (.int p0), .val (.int (2 : Int32)), .val (.ref w_BOTH), .val (.int (1 : Int32)), .val (.int (1 : Int32)), .val (.int (1 : Int32))] [(.int (1 : Int32)), (.int (1 : Int32))])) (fun t k => XS.goto X27.here hx rfl (pc0 := 91) (pc' := 95) rfl (hb hby at_91) (by decide) (by decide) k) ?_
    refine own_go (T2 := T27) (g2 := (mkF m 98 #[.val (.int p0), .val (.int (2 : Int32)), .val (.ref w_BOTH), .val (.int (1 : Int32)), .val (.int (1 : Int32)), .val (.int (1 : Int32))] [])) (fun t k => XS.icmpNo X27.here hx rfl (hb hby at_95) rfl (teq (show (1 : Int32) = (1 : Int32) from (by decide))).2 k) ?_
    refine own_go (T2 := T27) (g2 := (mkF m 99 #[.val (.int p0), .val (.int (2 : Int32)), .val (.ref w_BOTH), .val (.int (1 : Int32)), .val (.int (1 : Int32)), .val (.int (1 : Int32))] [(.int (1 : Int32))])) (fun t k => XS.iconst X27.here hx rfl (hb hby at_98) k) ?_
    refine own_go (T2 := T27) (g2 := (mkF m 103 #[.val (.int p0), .val (.int (2 : Int32)), .val (.ref w_BOTH), .val (.int (1 : Int32)), .val (.int (1 : Int32)), .val (.int (1 : Int32))] [(.int (1 : Int32))])) (fun t k => XS.goto X27.here hx rfl (pc0 := 99) (pc' := 103) rfl (hb hby at_99) (by decide) (by decide) k) ?_
    exact own_endN X27 hx Bd.notSynchronized (t := .boolean) Bd.returns (by simp) (hb hby at_103) (z' := (1 : Int32)) rfl (by decide) (by decide) ⟨rfl, Fr.nil _⟩
set_option maxRecDepth 65536 in
set_option maxHeartbeats 40000000 in
theorem comes_1 {Post : Tables → Env → Array Value → State → Outcome → State → Prop} (hpost : ∀ tb e args s v u, (limb_1_1.after args s (.returned v) u = true ∧ limb_1_2.after args s (.returned v) u = true ∧ True) → FrameEnd s (.returned v) u (Jvm.fieldLocs frame_1_writes args s ++ Jvm.arrayLocs frame_1_arrays args s ++ Jvm.staticLocs frame_1_statics s) 0 0 → Post tb e args s (.returned v) u) :
    ArmFor flags0 classFile x code maxLocals ret World_1 tables_1 room_1 Calls_1 rest_1 Pre_1 Post := by
  intro l hfl _ _ p e ha hc hk s m args below hf hA hF happ hP
  obtain ⟨hcalls, hrest, hpre⟩ := hP
  obtain ⟨-, -, -, hnamed, -, -, -, hat⟩ := (Spec.applies_iff hf).mp happ
  obtain ⟨hg, hn⟩ := and_e (Cond.before_iff.mp (show (Jvm.Cond.and given_1 narrow_1).before args s = true from hpre))
  obtain ⟨g28, g29⟩ := and_e hg
  obtain ⟨w0, rfl⟩ : ∃ w0 : Value, args = #[w0] := by
    have hs : args.size = 1 := by simpa [Cond.value, given_1] using g28
    obtain ⟨L⟩ := args
    match L, hs with
    | [w0], _ => exact ⟨w0, rfl⟩
  have hw := fun d (hd : d ∈ tables_1) => atoms_spec (ws := Jvm.Cond.code x code maxLocals ret :: tables_1) hat d (List.mem_cons_of_mem _ hd)
  have hfit : Fit s := fun {y c} hc i hi => by
    obtain ⟨ha, rfl⟩ := Array.getElem?_eq_some_iff.mp hc
    have q := List.all_eq_true.mp ((Array.all_eq_true_iff_forall_mem.mp hF) _ (Array.getElem_mem ha)) i (List.mem_range.mpr hi)
    simpa [Array.getElem?_eq_getElem hi] using q
  obtain ⟨i0, ei0⟩ := is_v g29
  obtain rfl : w0 = (.int i0) := Option.some.inj ei0
  obtain ⟨n2, n3⟩ := and_e hn
  obtain ⟨n4, n5⟩ := and_e n3
  obtain ⟨n6, n7⟩ := and_e n5
  obtain ⟨n8, n9⟩ := and_e n7
  obtain ⟨n10, n11⟩ := and_e n9
  obtain ⟨w_KEPT, ev_w_KEPT⟩ := exa_v n2
  obtain ⟨w_CLEARED, ev_w_CLEARED⟩ := exa_v n4
  obtain ⟨w_BOTH, ev_w_BOTH⟩ := exa_v n10
  obtain ⟨n, o, h1, h2, h3, _, L, rfl, ⟨rfl, N⟩, hq⟩ := own_rm0 l s _ hw tables_1 s.heap s.heap.size (Nat.le_refl _) i0 w_KEPT w_CLEARED w_BOTH (Sta.start ev_w_KEPT (Or.inr ⟨(own_wd hw 2 rfl), (own_wd hw 3 rfl)⟩))
    (Exa.start ev_w_KEPT n2)
    (Sta.start ev_w_CLEARED (Or.inr ⟨(own_wd hw 2 rfl), (own_wd hw 16 rfl)⟩))
    (Exa.start ev_w_CLEARED n4)
    (Sta.start ev_w_BOTH (Or.inr ⟨(own_wd hw 2 rfl), (own_wd hw 18 rfl)⟩))
    (Exa.start ev_w_BOTH n10)
    (own_fldI ev_w_KEPT n6)
    (own_fldI ev_w_CLEARED n8)
    (own_fldI ev_w_BOTH n11) p e ha hc hk s m _ below hf ((Spec.applies_iff_loose hf).mp happ).1 ⟨rfl, State.Warmed39.refl s, rfl⟩ trivial
  refine ⟨n, _, h1, h2, h3, hpost _ _ _ _ _ _ ⟨Cond.after_iff.mpr rfl, Cond.after_iff.mpr (eq_i res_at (Term.int_eval (1)) rfl), trivial⟩ ⟨hq.1, hq.2.1, (hq.2.2.sift fun y hy => Or.inr (N y hy)).mono (by decide) (by decide)⟩⟩
theorem main_1_1 : Claimed_1_1 := comes_1 fun _ _ _ _ _ _ h hF => ⟨h.1, hF⟩
theorem main_1_2 : Claimed_1_2 := comes_1 fun _ _ _ _ _ _ h hF => ⟨h.2.1, hF⟩
end Jvm.Pilot.@@N@@
namespace Jvm.Pilot.@@N@@
open Jvm Jvm.ClassFile Sem Op Lib Jvm.Free Jvm.Stand Jvm.Pilot.@@N@@.Jvm.D
/-! MADE BY PROGRAM (witnessworld.py) out of the Statement's table words and the real class files: 12 classes; the members and pool entries that the words name. The judged class is class 1, her method 1. -/
namespace start1
open Jvm.ClassFile
def u (s : String) : CpInfo := .utf8 (stringToUtf16 s)
/-- a pool by its gaps: so many unusable entries, then the entry; so many at the end -/
def gap : Nat → List CpInfo → List CpInfo
  | 0, r => r
  | n + 1, r => .unusable :: gap n r
def poolList (es : List (Nat × CpInfo)) (last : Nat) : List CpInfo := es.foldr (fun e r => gap e.1 (e.2 :: r)) (gap last [])
def pool (es : List (Nat × CpInfo)) (last : Nat) : Array CpInfo := ⟨poolList es last⟩
def fileOf (pool : Array CpInfo) (this : Nat) (attrs : Array Attribute := #[]) (ms : Array MethodInfo := #[]) (fl : Nat := 33) (sup : Nat := 0) (ifs : Array Nat := #[]) (fds : Array FieldInfo := #[]) : ClassFile where
  minorVersion := 0
  majorVersion := 65
  constantPool := pool
  accessFlags := fl
  thisClass := this
  superClass := sup
  interfaces := ifs
  fields := fds
  methods := ms
  attributes := attrs
def plain (name : String) (sup : Option ClassId) : Class where
  name := name
  kind := .ordinary
  loader := none
  accessFlags := 33
  super := sup
  interfaces := #[]
  cf := none
  fields := #[]
  methods := #[]
  instanceTypes := #[]
  staticTypes := #[]
  resolved := #[]
  callSites := []
  init := .initialized
  statics := none
  mirror := none

def pool0 : Array CpInfo := pool [(5, u "<init>"), (0, u "()V"), (1, .class_ 10), (1, u "java/lang/Object")] 113

def k0m0 : Method := { name := "<init>", desc := "()V", sig := { parameters := [], returnType := none }, accessFlags := 1, code := none }
/-- java/lang/Object -/
def k0 : Class := { plain "java/lang/Object" none with
  accessFlags := 33
  interfaces := #[]
  cf := some (fileOf pool0 8 #[] #[{ accessFlags := 1, nameIndex := 5, descriptorIndex := 6, attributes := #[] }] 33 0 #[] #[])
  fields := #[]
  methods := #[k0m0]
  instanceTypes := #[]
  staticTypes := #[]
  resolved := Array.replicate 124 none
  statics := none }

def pool1 : Array CpInfo := pool [(2, .class_ 4), (1, u "java/lang/Object"), (0, u "<init>"), (0, u "()V"), (0, .integer 2147483647), (0, .fieldref 9 10), (0, .class_ 11), (0, .nameAndType 12 13), (0, u "com/example/upriver/upriver/Clearance$Ways"), (0, u "KEPT"), (0, u "Lcom/example/upriver/upriver/Clearance$Ways;"), (0, .fieldref 9 15), (0, .nameAndType 16 13), (0, u "CLEARED"), (0, .fieldref 9 18), (0, .nameAndType 19 13), (0, u "BOTH"), (0, .methodref 9 21), (0, .nameAndType 22 23), (0, u "clears"), (0, u "()Z"), (0, .methodref 9 25), (0, .nameAndType 26 23), (0, u "keeps"), (0, .class_ 28), (0, u "com/example/upriver/upriver/WaysClearsPinLaw"), (2, u "law"), (0, u "(I)Z")] 7

def k1m0 : Method := { name := "<init>", desc := "()V", sig := { parameters := [], returnType := none }, accessFlags := 1, code := none }
def k1c1 : Code := { maxStack := 3, maxLocals := 6, code := code, exceptionTable := #[], attributes := #[] }
def k1m1 : Method := { name := "law", desc := "(I)Z", sig := { parameters := [.int], returnType := some .boolean }, accessFlags := 9, code := some k1c1 }
/-- com/example/upriver/upriver/WaysClearsPinLaw -/
def k1 : Class := { plain "com/example/upriver/upriver/WaysClearsPinLaw" (some 0) with
  accessFlags := 49
  interfaces := #[]
  cf := some (fileOf pool1 27 #[] #[{ accessFlags := 1, nameIndex := 5, descriptorIndex := 6, attributes := #[] }, { accessFlags := 9, nameIndex := 31, descriptorIndex := 32, attributes := #[] }] 49 2 #[] #[])
  fields := #[]
  methods := #[k1m0, k1m1]
  instanceTypes := #[]
  staticTypes := #[]
  resolved := Array.replicate 40 none
  statics := none }

def pool2 : Array CpInfo := pool [(1, .class_ 2), (0, u "java/lang/constant/Constable"), (0, .class_ 4), (0, u "java/lang/Object")] 6

/-- java/lang/constant/Constable -/
def k2 : Class := { plain "java/lang/constant/Constable" (some 0) with
  accessFlags := 1537
  interfaces := #[]
  cf := some (fileOf pool2 1 #[] #[] 1537 3 #[] #[])
  fields := #[]
  methods := #[]
  instanceTypes := #[]
  staticTypes := #[]
  resolved := Array.replicate 11 none
  statics := none }

def pool3 : Array CpInfo := pool [(1, .class_ 2), (0, u "java/lang/Comparable"), (0, .class_ 4), (0, u "java/lang/Object")] 7

/-- java/lang/Comparable -/
def k3 : Class := { plain "java/lang/Comparable" (some 0) with
  accessFlags := 1537
  interfaces := #[]
  cf := some (fileOf pool3 1 #[] #[] 1537 3 #[] #[])
  fields := #[]
  methods := #[]
  instanceTypes := #[]
  staticTypes := #[]
  resolved := Array.replicate 12 none
  statics := none }

def pool4 : Array CpInfo := pool [(1, .class_ 2), (0, u "java/io/Serializable"), (0, .class_ 4), (0, u "java/lang/Object")] 2

/-- java/io/Serializable -/
def k4 : Class := { plain "java/io/Serializable" (some 0) with
  accessFlags := 1537
  interfaces := #[]
  cf := some (fileOf pool4 1 #[] #[] 1537 3 #[] #[])
  fields := #[]
  methods := #[]
  instanceTypes := #[]
  staticTypes := #[]
  resolved := Array.replicate 7 none
  statics := none }

def pool5 : Array CpInfo := pool [(2, .class_ 4), (1, u "java/lang/Enum"), (0, u "name"), (0, u "Ljava/lang/String;"), (2, u "ordinal"), (0, u "I"), (1, .class_ 14), (1, u "java/lang/Object"), (4, u "hash"), (86, .class_ 108), (1, u "java/lang/Enum$EnumDesc"), (2, .class_ 112), (0, u "java/lang/constant/Constable"), (0, .class_ 114), (0, u "java/lang/Comparable"), (0, .class_ 116), (0, u "java/io/Serializable")] 87

/-- java/lang/Enum -/
def k5 : Class := { plain "java/lang/Enum" (some 0) with
  accessFlags := 1057
  interfaces := #[2, 3, 4]
  cf := some (fileOf pool5 2 #[.nestMembers #[106]] #[] 1057 12 #[111, 113, 115] #[{ accessFlags := 18, nameIndex := 5, descriptorIndex := 6, attributes := #[] }, { accessFlags := 18, nameIndex := 9, descriptorIndex := 10, attributes := #[] }, { accessFlags := 2, nameIndex := 19, descriptorIndex := 10, attributes := #[] }])
  fields := #[{ name := "name", type := (.object "java/lang/String"), accessFlags := 18, slot := 0, constantValue := 0 }, { name := "ordinal", type := .int, accessFlags := 18, slot := 1, constantValue := 0 }, { name := "hash", type := .int, accessFlags := 2, slot := 2, constantValue := 0 }]
  methods := #[]
  instanceTypes := #[(.object "java/lang/String"), .int, .int]
  staticTypes := #[]
  resolved := Array.replicate 204 none
  statics := none }

def pool6 : Array CpInfo := pool [(1, .class_ 2), (0, u "com/example/upriver/upriver/Clearance$Ways"), (0, .fieldref 1 4), (0, .nameAndType 5 6), (0, u "KEPT"), (0, u "Lcom/example/upriver/upriver/Clearance$Ways;"), (0, .fieldref 1 8), (0, .nameAndType 9 6), (0, u "CLEARED"), (2, u "BOTH"), (2, u "$VALUES"), (0, u "[Lcom/example/upriver/upriver/Clearance$Ways;"), (6, .class_ 25), (1, u "java/lang/Enum"), (8, u "keeps"), (0, u "()Z"), (2, u "clears"), (28, .class_ 68), (0, u "com/example/upriver/upriver/Clearance")] 2

def k6c0 : Code := { maxStack := 2, maxLocals := 1, code := prog_32_method_4_code, exceptionTable := #[], attributes := #[] }
def k6m0 : Method := { name := "keeps", desc := "()Z", sig := { parameters := [], returnType := some .boolean }, accessFlags := 0, code := some k6c0 }
def k6c1 : Code := { maxStack := 2, maxLocals := 1, code := prog_32_method_5_code, exceptionTable := #[], attributes := #[] }
def k6m1 : Method := { name := "clears", desc := "()Z", sig := { parameters := [], returnType := some .boolean }, accessFlags := 0, code := some k6c1 }
/-- com/example/upriver/upriver/Clearance$Ways -/
def k6 : Class := { plain "com/example/upriver/upriver/Clearance$Ways" (some 5) with
  accessFlags := 16432
  interfaces := #[]
  cf := some (fileOf pool6 1 #[.nestHost 67] #[{ accessFlags := 0, nameIndex := 34, descriptorIndex := 35, attributes := #[] }, { accessFlags := 0, nameIndex := 38, descriptorIndex := 35, attributes := #[] }] 16432 23 #[] #[{ accessFlags := 16409, nameIndex := 5, descriptorIndex := 6, attributes := #[] }, { accessFlags := 16409, nameIndex := 9, descriptorIndex := 6, attributes := #[] }, { accessFlags := 16409, nameIndex := 12, descriptorIndex := 6, attributes := #[] }, { accessFlags := 4122, nameIndex := 15, descriptorIndex := 16, attributes := #[] }])
  fields := #[{ name := "KEPT", type := (.object "com/example/upriver/upriver/Clearance$Ways"), accessFlags := 16409, slot := 0, constantValue := 0 }, { name := "CLEARED", type := (.object "com/example/upriver/upriver/Clearance$Ways"), accessFlags := 16409, slot := 1, constantValue := 0 }, { name := "BOTH", type := (.object "com/example/upriver/upriver/Clearance$Ways"), accessFlags := 16409, slot := 2, constantValue := 0 }, { name := "$VALUES", type := (.array (.object "com/example/upriver/upriver/Clearance$Ways")), accessFlags := 4122, slot := 3, constantValue := 0 }]
  methods := #[k6m0, k6m1]
  instanceTypes := #[(.object "java/lang/String"), .int, .int]
  staticTypes := #[(.object "com/example/upriver/upriver/Clearance$Ways"), (.object "com/example/upriver/upriver/Clearance$Ways"), (.object "com/example/upriver/upriver/Clearance$Ways"), (.array (.object "com/example/upriver/upriver/Clearance$Ways"))]
  resolved := Array.replicate 71 none
  statics := some 0 }

def pool7 : Array CpInfo := pool [(1, u "java/lang/Cloneable"), (0, .class_ 1), (0, u "java/lang/Object"), (0, .class_ 3)] 3

/-- java/lang/Cloneable -/
def k7 : Class := { plain "java/lang/Cloneable" (some 0) with
  accessFlags := 1537
  interfaces := #[]
  cf := some (fileOf pool7 2 #[] #[] 1537 4 #[] #[])
  fields := #[]
  methods := #[]
  instanceTypes := #[]
  staticTypes := #[]
  resolved := Array.replicate 8 none
  statics := none }

/-- the primitive byte -/
def k8 : Class := { plain "byte" none with kind := .primitive 'B', accessFlags := 0x411 }
/-- [B -/
def k9 : Class := { plain "[B" (some 0) with kind := .array 8 .byte, interfaces := #[7, 4], accessFlags := 1041 }

/-- the primitive int -/
def k10 : Class := { plain "int" none with kind := .primitive 'I', accessFlags := 0x411 }
/-- [I -/
def k11 : Class := { plain "[I" (some 0) with kind := .array 10 .int, interfaces := #[7, 4], accessFlags := 1041 }

def heap : Heap := #[{ cls := 6, slots := #[.ref 1, .ref 2, .ref 3, .null], vm := .statics 6 },
  { cls := 6, slots := #[.null, .int (0), .int (0)], vm := .none },
  { cls := 6, slots := #[.null, .int (1), .int (0)], vm := .none },
  { cls := 6, slots := #[.null, .int (2), .int (0)], vm := .none }]
def classes : Array Class := #[k0, k1, k2, k3, k4, k5, k6, k7, k8, k9, k10, k11]
def interned : List (Array UInt16 × Addr) := []
def slotsUsed : Nat := 13
def theMethod : MethodId := ⟨1, 1⟩
def args0 : Array Value := #[.int 5]
def aboutOver (below : List Frame) : State where
  vm := { classes := classes, interned := interned.toArray }
  heap := heap
  slotsUsed := slotsUsed
  threads := #[{ frames := .invoking theMethod args0 :: below }]
def below0 : List Frame := [.native { method := ⟨0, 0⟩, args := #[] }]
def about1 : State := aboutOver below0
def p0 : Program := .bare "" "" ""
def e0 : Env := launch0.env 0 0 0
theorem w_frames : about1.frames = Frame.invoking theMethod args0 :: below0 := rfl
set_option maxRecDepth 65536 in
theorem w_args : argsFit about1.vm theMethod args0 = true := by decide +kernel
set_option maxRecDepth 65536 in
theorem w_heap : heapFits about1 = true := by decide +kernel
set_option maxRecDepth 65536 in
theorem w_runnable : about1.curStatus? = some .runnable := by decide +kernel
set_option maxRecDepth 65536 in
theorem w_alone : about1.alone = true := by decide +kernel
set_option maxRecDepth 65536 in
theorem w_named : about1.methodNamed? x = some theMethod := by decide +kernel
set_option maxRecDepth 65536 in
theorem w_hears : about1.hears theMethod below0 = true := by decide +kernel
set_option maxRecDepth 65536 in
theorem w_ripe : about1.ripe theMethod args0 below0 = true := by decide +kernel
theorem w_running : about1.status = .running := rfl
set_option maxRecDepth 65536 in
theorem w_room : about1.hasRoom e0.platform room_1 = true :=
  launch0.hasRoom_least _ room_1 (by decide +kernel) (by decide +kernel) (by decide +kernel) (by decide +kernel) (by decide +kernel) (by decide +kernel)
theorem allAtoms_all (ts : List Jvm.Cond) (a : Array Jvm.Value) (st : Jvm.State) : (allAtoms ts).before a st = ts.all (fun c => c.before a st) := by
  induction ts with
  | nil => rfl
  | cons c t ih =>
    show (Jvm.Cond.and c (allAtoms t)).before a st = _
    rw [Jvm.Cond.before_and, ih, List.all_cons]
def words1 : List Jvm.Cond := Jvm.Cond.code x code maxLocals ret :: tables_1
/-- a 'code' word, met by the world's own term for the bytes: nothing is compared byte by byte -/
theorem code_word {y : MethodName} {bytes : ByteArray} {mx : Nat} {rt : Option FieldType} {a : Array Value} {s : State} {m : MethodId} {meth : Method} {c : Code} (h1 : s.methodNamed? y = some m) (h2 : s.vm.method? m = some meth) (h3 : meth.code = some c) (h4 : c.code = bytes)
    (h5 : (c.maxLocals == mx && c.exceptionTable.isEmpty && decide (c.maxStack ≤ mostOperands) && decide (meth.sig.returnType = rt) && !meth.locks && decide (parseMethodDescriptor y.desc = some meth.sig)) = true) : (Jvm.Cond.code y bytes mx rt).before a s = true := by
  simp only [Bool.and_eq_true, beq_iff_eq, Bool.not_eq_true', decide_eq_true_eq] at h5
  obtain ⟨⟨⟨⟨⟨g1, g2⟩, g3⟩, g4⟩, g5⟩, g6⟩ := h5
  simp [Cond.before, Cond.holds, Cond.value, h1, h2, h3, h4, g1, g2, g3, g4, g5, g6]
def isCode : Jvm.Cond → Bool
  | .code _ _ _ _ => true
  | _ => false
theorem all_split {L : List Jvm.Cond} {P : Jvm.Cond → Bool} (h1 : L.all (fun c => isCode c || P c) = true) (h2 : ∀ c ∈ L.filter isCode, P c = true) : L.all P = true := by
  refine List.all_eq_true.mpr fun c hc => ?_
  have h := List.all_eq_true.mp h1 c hc
  rcases Bool.eq_false_or_eq_true (isCode c) with hi | hi
  · exact h2 c (List.mem_filter.mpr ⟨hc, hi⟩)
  · simpa [hi] using h
set_option maxRecDepth 65536 in
theorem w_c0 : (Jvm.Cond.code x code maxLocals ret).before args0 about1 = true := code_word (m := ⟨1, 1⟩) (meth := k1m1) (c := k1c1) (by decide +kernel) rfl rfl rfl (by decide +kernel)
set_option maxRecDepth 65536 in
theorem w_c1 : (Jvm.Cond.code ({ cls := "com/example/upriver/upriver/Clearance$Ways", name := "clears", desc := "()Z" } : Jvm.MethodName) prog_32_method_5_code (1 : Nat) (Option.some Jvm.ClassFile.FieldType.boolean)).before args0 about1 = true := code_word (m := ⟨6, 1⟩) (meth := k6m1) (c := k6c1) (by decide +kernel) rfl rfl rfl (by decide +kernel)
set_option maxRecDepth 65536 in
theorem w_c2 : (Jvm.Cond.code ({ cls := "com/example/upriver/upriver/Clearance$Ways", name := "keeps", desc := "()Z" } : Jvm.MethodName) prog_32_method_4_code (1 : Nat) (Option.some Jvm.ClassFile.FieldType.boolean)).before args0 about1 = true := code_word (m := ⟨6, 0⟩) (meth := k6m0) (c := k6c0) (by decide +kernel) rfl rfl rfl (by decide +kernel)
def codes1 : List Jvm.Cond := [Jvm.Cond.code x code maxLocals ret, Jvm.Cond.code ({ cls := "com/example/upriver/upriver/Clearance$Ways", name := "clears", desc := "()Z" } : Jvm.MethodName) prog_32_method_5_code (1 : Nat) (Option.some Jvm.ClassFile.FieldType.boolean), Jvm.Cond.code ({ cls := "com/example/upriver/upriver/Clearance$Ways", name := "keeps", desc := "()Z" } : Jvm.MethodName) prog_32_method_4_code (1 : Nat) (Option.some Jvm.ClassFile.FieldType.boolean)]
set_option maxRecDepth 65536 in
theorem codes_eq : words1.filter isCode = codes1 := rfl
theorem w_codes : ∀ c ∈ words1.filter isCode, c.before args0 about1 = true := by
  rw [codes_eq]
  intro c hc
  simp only [codes1, List.mem_cons, List.not_mem_nil, or_false] at hc
  rcases hc with rfl | rfl | rfl
  · exact w_c0
  · exact w_c1
  · exact w_c2
set_option maxRecDepth 65536 in
theorem w_t1 : words1.all (fun c => isCode c || c.before args0 about1) = true := by decide +kernel
theorem w_tables : (allAtoms (Jvm.Cond.code x code maxLocals ret :: tables_1)).before args0 about1 = true := by
  rw [allAtoms_all]
  show words1.all (fun c => c.before args0 about1) = true
  refine all_split ?_ w_codes
  rw [w_t1]
set_option maxRecDepth 65536 in
theorem w_case : (Jvm.Cond.and given_1 narrow_1).before args0 about1 = true := by decide +kernel
theorem w_applies : (headSpec (Jvm.Cond.code x code maxLocals ret :: tables_1) room_1).applies x e0.platform about1 = true :=
  (Spec.applies_iff w_frames).mpr ⟨w_running, w_runnable, w_alone, w_named, w_hears, w_ripe, w_room, w_tables⟩
theorem atStart : AtStart classFile x code maxLocals ret World_1 tables_1 room_1 Calls_1 rest_1 Pre_1 launch0 p0 e0 about1 theMethod args0 below0 :=
  ⟨lists_1, trivial, launch0.admits_env _ _ _, launch0.least_env, fairChoices_fair.cas, fairChoices_fair.clock, w_frames, w_args, w_heap, w_applies, trivial, trivial, w_case⟩
end start1
theorem witness_1 : WitnessClaimed_1 := ⟨start1.p0, start1.e0, start1.about1, start1.theMethod, start1.args0, start1.below0, start1.atStart⟩
end Jvm.Pilot.@@N@@
