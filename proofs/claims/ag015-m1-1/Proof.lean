import JvmDerived
import JvmDerived.Pilot.@@N@@Statement
import JvmDerived.Pilot.@@N@@Code
set_option linter.unusedVariables false
set_option linter.unusedSimpArgs false
namespace Jvm.RoadKit
open Sem ClassFile Op Lib Jvm.Stand Jvm.Free Jvm.LawKit
section Own
variable {p : Program} {l : Launch} {e : Env} {R : Room} {s : State} {m : MethodId} {args : Array Value} {below : List Frame} {meth : Method} {c : Code} {T : State} {locs : List Loc} {cells slots : Nat}
def own_Go (p : Program) (e : Env) (below : List Frame) (K : State → Outcome → Prop) (T : State) (g : JFrame) : Prop :=
  ∃ t o, Steps p.tables e below (T.setTop g) t ∧ t.status = .running ∧ Ended t below o ∧ K t o
theorem own_go {K : State → Outcome → Prop} {T1 T2 : State} {g1 g2 : JFrame} (h : ∀ t, Steps p.tables e below (T2.setTop g2) t → Steps p.tables e below (T1.setTop g1) t) (k : own_Go p e below K T2 g2) : own_Go p e below K T1 g1 := by
  obtain ⟨t, o, h1, h2⟩ := k
  exact ⟨t, o, h t h1, h2⟩
def own_K (s : State) (Q : Option Value → Heap → List Loc → Prop) (C S : Nat) (t : State) (o : Outcome) : Prop := ∃ v L, o = .returned v ∧ Q v t.heap L ∧ FrameEnd s o t L C S
def own_QP (r : Option Value) (h0 : Heap) (v : Option Value) (h : Heap) (L : List Loc) : Prop := v = r ∧ L = [] ∧ h = h0
def own_Con (l : Launch) (Z : State) (y : MethodName) (bytes : ByteArray) (maxL : Nat) (ret : Option FieldType) (rm : Room) (as' : Array Value) (h : Heap) (Q : Option Value → Heap → List Loc → Prop) : Prop :=
  MetFree l y (head1 [Cond.code y bytes maxL ret] rm) (fun a U => a = as' ∧ Z.Warmed39 U.vm ∧ U.heap = h) (fun _ _ _ _ _ => True) (fun _ U o U' => ∃ v L, o = .returned v ∧ Q v U'.heap L ∧ FrameEnd U o U' L rm.cells rm.slots)
theorem own_end (X : Stand p l e R s m args below meth c T locs cells slots) {v : Option Value} (hl : meth.locks = false) (hv : meth.sig.returnType = none → v = none) {g : JFrame} {Q : Option Value → Heap → List Loc → Prop} {C S : Nat}
    (hstep : ∀ fs, (∀ (f : JFrame) (acts : List Action), f.method = m → f.locked = none → f.entered = [] → (doReturn e (T.setTop f) acts v).1 = T.setFrames fs) → Steps p.tables e below (T.setTop g) (T.setFrames fs))
    (hc : cells ≤ C) (hs : slots ≤ S) (hQ : Q v T.heap locs) : own_Go p e below (own_K s Q C S) T g := by
  obtain ⟨fs, hr, hrun, hended, hW, hsame⟩ := X.leave hv hl
  exact ⟨_, _, hstep fs hr, hrun, hended, v, locs, rfl, hQ, ⟨_, rfl⟩, hW, hsame.mono hc hs⟩
theorem own_endN (X : Stand p l e R s m args below meth c T locs cells slots) (hx : p.tables.exec = Jvm.exec) (hl : meth.locks = false) {pc : Nat} {Ls : Array Slot} {z z' : Int32} {t : FieldType} {rest : List Value} {Q : Option Value → Heap → List Loc → Prop} {C S : Nat}
    (hret : meth.sig.returnType = some t) (ht : t = .boolean ∨ t = .byte ∨ t = .char ∨ t = .short) (hd : decode c.code pc = .ok (.ireturn, 1)) (hz : nar t z = z') (hc : cells ≤ C) (hs : slots ≤ S) (hQ : Q (some (.int z')) T.heap locs) :
    own_Go p e below (own_K s Q C S) T (mkF m pc Ls (.int z :: rest)) := by
  subst hz
  exact own_end X hl (fun h => by rw [hret] at h; cases h) (fun fs hr => retN X hx hret ht hd hr) hc hs hQ
theorem own_endI (X : Stand p l e R s m args below meth c T locs cells slots) (hx : p.tables.exec = Jvm.exec) (hl : meth.locks = false) {pc : Nat} {Ls : Array Slot} {z : Int32} {rest : List Value} {Q : Option Value → Heap → List Loc → Prop} {C S : Nat}
    (hret : meth.sig.returnType = some .int) (hd : decode c.code pc = .ok (.ireturn, 1)) (hc : cells ≤ C) (hs : slots ≤ S) (hQ : Q (some (.int z)) T.heap locs) :
    own_Go p e below (own_K s Q C S) T (mkF m pc Ls (.int z :: rest)) :=
  own_end X hl (fun h => by rw [hret] at h; cases h) (fun fs hr => retOut X hx hret rfl (Or.inl ⟨rfl, Or.inl rfl, z, rfl⟩) hd hr) hc hs hQ
theorem own_endJ (X : Stand p l e R s m args below meth c T locs cells slots) (hx : p.tables.exec = Jvm.exec) (hl : meth.locks = false) {pc : Nat} {Ls : Array Slot} {z : Int64} {rest : List Value} {Q : Option Value → Heap → List Loc → Prop} {C S : Nat}
    (hret : meth.sig.returnType = some .long) (hd : decode c.code pc = .ok (.lreturn, 1)) (hc : cells ≤ C) (hs : slots ≤ S) (hQ : Q (some (.long z)) T.heap locs) :
    own_Go p e below (own_K s Q C S) T (mkF m pc Ls (.long z :: rest)) :=
  own_end X hl (fun h => by rw [hret] at h; cases h) (fun fs hr => retOut X hx hret rfl (Or.inr (Or.inl ⟨rfl, rfl, z, rfl⟩)) hd hr) hc hs hQ
theorem own_endR (X : Stand p l e R s m args below meth c T locs cells slots) (hx : p.tables.exec = Jvm.exec) (hl : meth.locks = false) {pc : Nat} {Ls : Array Slot} {w : Value} {t : FieldType} {rest : List Value} {Q : Option Value → Heap → List Loc → Prop} {C S : Nat}
    (hret : meth.sig.returnType = some t) (ht : t.isReference = true) (hw : w.isRef = true) (hd : decode c.code pc = .ok (.areturn, 1)) (hc : cells ≤ C) (hs : slots ≤ S) (hQ : Q (some w) T.heap locs) :
    own_Go p e below (own_K s Q C S) T (mkF m pc Ls (w :: rest)) :=
  own_end X hl (fun h => by rw [hret] at h; cases h) (fun fs hr => retOut X hx hret (by rcases ref_cases hw with rfl | ⟨a, rfl⟩ <;> cases t <;> first | rfl | (cases ht)) (Or.inr (Or.inr (Or.inr (Or.inr ⟨rfl, ht, hw⟩)))) hd hr) hc hs hQ
theorem own_endV (X : Stand p l e R s m args below meth c T locs cells slots) (hx : p.tables.exec = Jvm.exec) (hl : meth.locks = false) {pc : Nat} {Ls : Array Slot} {Q : Option Value → Heap → List Loc → Prop} {C S : Nat}
    (hret : meth.sig.returnType = none) (hd : decode c.code pc = .ok (.return_, 1)) (hc : cells ≤ C) (hs : slots ≤ S) (hQ : Q none T.heap locs) :
    own_Go p e below (own_K s Q C S) T (mkF m pc Ls []) :=
  own_end X hl (fun _ => rfl) (fun fs hr => X.returnOut hx hret hd hr) hc hs hQ
variable {Z : State} {a0 : Array Value} {h : Heap} {y z : MethodName} {bytes : ByteArray} {maxL : Nat} {ret : Option FieldType} {rm : Room} {as' : Array Value} {Q : Option Value → Heap → List Loc → Prop}
theorem own_static (X : Stand p l e R s m args below meth c T locs cells slots) (hx : p.tables.exec = Jvm.exec) (hZ : Z.Warmed39 s.vm) {own : String} {index : Nat} (hown : s.vm.findClass own = some m.cls)
    (w1 : (Cond.methodLink own index y).before a0 Z = true) (w2 : (Cond.static y).before a0 Z = true) (w3 : (Cond.initialized y.cls).before a0 Z = true) (w4 : (Cond.code y bytes maxL ret).before a0 Z = true) (hy : y.cls ≠ "java/lang/invoke/MethodHandle" ∧ y.cls ≠ "java/lang/invoke/VarHandle")
    (W : Nat) {argsL rest : List Value} (hM : own_Con l Z y bytes maxL ret rm argsL.toArray h Q) (hf : rm.frames + 1 ≤ R.frames) (hl : W + (maxL + 11) + rm.locals ≤ R.locals)
    {g : JFrame} (hg : g.method = m) (hsize : g.locals.size = c.maxLocals) (hlen : ∀ sig, parseMethodDescriptor y.desc = some sig → argsL.length = sig.parameters.length) (hstack : g.stack = argsL.reverse ++ rest)
    (hW : 2 * g.monitorRoom + (rest.map fun v => v.category).sum ≤ W) (hdg : decode c.code g.pc = .ok (.invokestatic index, 3)) (eT : T.heap = h) (hc : cells + rm.cells ≤ R.cells) (hs : slots + rm.slots ≤ R.slots) :
    ∃ (v : Option Value) (T' : State) (L : List Loc), Stand p l e R s m args below meth c T' (locs ++ L) (cells + rm.cells) (slots + rm.slots) ∧ Q v T'.heap L ∧
      ∀ target, Steps p.tables e below (T'.setTop { g with pc := g.pc + 3, stack := v.toList ++ rest }) target → Steps p.tables e below (T.setTop g) target := by
  obtain ⟨v, _, ⟨T', L', k', n'⟩, -, X', ⟨L, hQ, e1, e2, e3⟩, st⟩ := Jvm.LawKit.callS X hx (y := y) hown (mvT hZ w1) (mvT hZ w2) (mvT hZ w3) (mvT hZ w4) hy (backOf (W := W) hM hZ w4 w3 hf hl) hg hsize hlen hstack hW hdg (fun _ _ => ⟨rfl, eT, hc, hs⟩)
  dsimp only [Pt.U, Pt.locs, Pt.cells, Pt.slots] at X' e1 e2 e3 st hQ
  subst e1 e2 e3
  exact ⟨v, T', L, X', hQ, st⟩
theorem own_special (X : Stand p l e R s m args below meth c T locs cells slots) (hx : p.tables.exec = Jvm.exec) (hZ : Z.Warmed39 s.vm) {own : String} {index : Nat} (hy1 : y.name = "<init>") (hown : s.vm.findClass own = some m.cls)
    (w1 : (Cond.methodLink own index y).before a0 Z = true) (w2 : (Cond.instanceMethod y).before a0 Z = true) (w3 : (Cond.initialized y.cls).before a0 Z = true) (w4 : (Cond.code y bytes maxL none).before a0 Z = true) (hy : y.cls ≠ "java/lang/invoke/MethodHandle" ∧ y.cls ≠ "java/lang/invoke/VarHandle")
    (W : Nat) {a : Addr} {argsL rest : List Value} (hM : own_Con l Z y bytes maxL none rm (.ref a :: argsL).toArray h Q) (hf : rm.frames + 1 ≤ R.frames) (hl : W + (maxL + 11) + rm.locals ≤ R.locals)
    {g : JFrame} (hg : g.method = m) (hsize : g.locals.size = c.maxLocals) (hlen : ∀ sig, parseMethodDescriptor y.desc = some sig → argsL.length = sig.parameters.length) (hstack : g.stack = argsL.reverse ++ .ref a :: rest)
    (hW : 2 * g.monitorRoom + (rest.map fun v => v.category).sum ≤ W) (hdg : decode c.code g.pc = .ok (.invokespecial index, 3)) (eT : T.heap = h) (hc : cells + rm.cells ≤ R.cells) (hs : slots + rm.slots ≤ R.slots) :
    ∃ (v : Option Value) (T' : State) (L : List Loc), Stand p l e R s m args below meth c T' (locs ++ L) (cells + rm.cells) (slots + rm.slots) ∧ Q v T'.heap L ∧
      ∀ target, Steps p.tables e below (T'.setTop { g with pc := g.pc + 3, stack := v.toList ++ rest }) target → Steps p.tables e below (T.setTop g) target := by
  obtain ⟨v, _, ⟨T', L', k', n'⟩, -, X', ⟨L, hQ, e1, e2, e3⟩, st⟩ := X.specialBack hx (y := y) hy1 hown (mvT hZ w1) (mvT hZ w2) (mvT hZ w4) hy (backOf (W := W) hM hZ w4 w3 hf hl) hg hsize (Steps.refl _) hlen hstack hW hdg (fun _ _ => ⟨rfl, eT, hc, hs⟩)
  dsimp only [Pt.U, Pt.locs, Pt.cells, Pt.slots] at X' e1 e2 e3 st hQ
  subst e1 e2 e3
  exact ⟨v, T', L, X', hQ, fun t k => st.trans k⟩
theorem own_virtual (X : Stand p l e R s m args below meth c T locs cells slots) (hx : p.tables.exec = Jvm.exec) (hZ : Z.Warmed39 s.vm) {own C : String} {index : Nat} (hown : s.vm.findClass own = some m.cls)
    (w1 : (Cond.methodLink own index y).before a0 Z = true) (w2 : (Cond.declares y).before a0 Z = true) (hnf : NotFace s y) (w5 : (Cond.selects C y z).before a0 Z = true) (w6 : (Cond.instanceMethod z).before a0 Z = true)
    (w3 : (Cond.initialized z.cls).before a0 Z = true) (w4 : (Cond.code z bytes maxL ret).before a0 Z = true) (hy : y.cls ≠ "java/lang/invoke/MethodHandle" ∧ y.cls ≠ "java/lang/invoke/VarHandle")
    (W : Nat) {a : Addr} {argsL rest : List Value} (hM : own_Con l Z z bytes maxL ret rm (.ref a :: argsL).toArray h Q) (hf : rm.frames + 1 ≤ R.frames) (hl : W + (maxL + 11) + rm.locals ≤ R.locals) (E : Exa Z h a C)
    {g : JFrame} (hg : g.method = m) (hsize : g.locals.size = c.maxLocals) (hlen : ∀ sig, parseMethodDescriptor y.desc = some sig → argsL.length = sig.parameters.length) (hstack : g.stack = argsL.reverse ++ .ref a :: rest)
    (hW : 2 * g.monitorRoom + (rest.map fun v => v.category).sum ≤ W) (hdg : decode c.code g.pc = .ok (.invokevirtual index, 3)) (eT : T.heap = h) (hc : cells + rm.cells ≤ R.cells) (hs : slots + rm.slots ≤ R.slots) :
    ∃ (v : Option Value) (T' : State) (L : List Loc), Stand p l e R s m args below meth c T' (locs ++ L) (cells + rm.cells) (slots + rm.slots) ∧ Q v T'.heap L ∧
      ∀ target, Steps p.tables e below (T'.setTop { g with pc := g.pc + 3, stack := v.toList ++ rest }) target → Steps p.tables e below (T.setTop g) target := by
  obtain ⟨cB, kB, q1, -, q2⟩ := isOf hZ eT E
  obtain ⟨v, _, ⟨T', L', k', n'⟩, -, X', ⟨L, hQ, e1, e2, e3⟩, st⟩ := X.virtualBack hx (y := y) (z := z) hown (mvT hZ w1) (mvT hZ w2) hnf (mvT hZ w5) (mvT hZ w6) hy (backOf (W := W) hM hZ w4 w3 hf hl) q1 q2 hg hsize (Steps.refl _) hlen hstack hW hdg (fun _ _ => ⟨rfl, eT, hc, hs⟩)
  dsimp only [Pt.U, Pt.locs, Pt.cells, Pt.slots] at X' e1 e2 e3 st hQ
  subst e1 e2 e3
  exact ⟨v, T', L, X', hQ, fun t k => st.trans k⟩
theorem own_virtualUp (X : Stand p l e R s m args below meth c T locs cells slots) (hx : p.tables.exec = Jvm.exec) (hZ : Z.Warmed39 s.vm) {own C owner : String} {index : Nat} (hown : s.vm.findClass own = some m.cls)
    (w1 : (Cond.methodLink own index y).before a0 Z = true) (w7 : (Cond.sameMethod y.cls owner y.name y.desc).before a0 Z = true) (w2 : (Cond.declares ⟨owner, y.name, y.desc⟩).before a0 Z = true) (ho : owner ≠ "java/lang/invoke/MethodHandle" ∧ owner ≠ "java/lang/invoke/VarHandle") (w5 : (Cond.selects C y z).before a0 Z = true) (w6 : (Cond.instanceMethod z).before a0 Z = true)
    (w3 : (Cond.initialized z.cls).before a0 Z = true) (w4 : (Cond.code z bytes maxL ret).before a0 Z = true)
    (W : Nat) {a : Addr} {argsL rest : List Value} (hM : own_Con l Z z bytes maxL ret rm (.ref a :: argsL).toArray h Q) (hf : rm.frames + 1 ≤ R.frames) (hl : W + (maxL + 11) + rm.locals ≤ R.locals) (E : Exa Z h a C)
    {g : JFrame} (hg : g.method = m) (hsize : g.locals.size = c.maxLocals) (hlen : ∀ sig, parseMethodDescriptor y.desc = some sig → argsL.length = sig.parameters.length) (hstack : g.stack = argsL.reverse ++ .ref a :: rest)
    (hW : 2 * g.monitorRoom + (rest.map fun v => v.category).sum ≤ W) (hdg : decode c.code g.pc = .ok (.invokevirtual index, 3)) (eT : T.heap = h) (hc : cells + rm.cells ≤ R.cells) (hs : slots + rm.slots ≤ R.slots) :
    ∃ (v : Option Value) (T' : State) (L : List Loc), Stand p l e R s m args below meth c T' (locs ++ L) (cells + rm.cells) (slots + rm.slots) ∧ Q v T'.heap L ∧
      ∀ target, Steps p.tables e below (T'.setTop { g with pc := g.pc + 3, stack := v.toList ++ rest }) target → Steps p.tables e below (T.setTop g) target := by
  obtain ⟨cB, kB, q1, -, q2⟩ := isOf hZ eT E
  obtain ⟨v, _, ⟨T', L', k', n'⟩, -, X', ⟨L, hQ, e1, e2, e3⟩, st⟩ := X.virtualBackUp hx (x := y) (y := z) (owner := owner) hown (mvT hZ w1) (mvT hZ w7) (mvT hZ w2) ho (mvT hZ w5) (mvT hZ w6) (backOf (W := W) hM hZ w4 w3 hf hl) q1 q2 hg hsize (Steps.refl _) hlen hstack hW hdg (fun _ _ => ⟨rfl, eT, hc, hs⟩)
  dsimp only [Pt.U, Pt.locs, Pt.cells, Pt.slots] at X' e1 e2 e3 st hQ
  subst e1 e2 e3
  exact ⟨v, T', L, X', hQ, fun t k => st.trans k⟩
theorem own_wd {ts : List Cond} (hw : ∀ d ∈ ts, d.before a0 Z = true) {d : Cond} (n : Nat) (h : ts[n]? = some d) : d.before a0 Z = true := hw d (List.mem_of_getElem? h)
theorem own_fldI {t : Term} {w : Addr} {C n d : String} {k : Int32} (ev : t.eval args s none [] s = some (.ref w)) (h : (Cond.eq (Term.field t C n d) (Term.int k)).value args s none s [] = some true) : Fld s s.heap w C n d (.int k) := by
  apply Fld.start
  cases hf : s.fieldOf? w C n d with
  | none => simp [Cond.value, Term.eval, ev, hf] at h
  | some x => cases x <;> simp [Cond.value, Term.eval, ev, hf] at h ⊢; exact h
theorem own_fldN {t : Term} {w : Addr} {C n d : String} (ev : t.eval args s none [] s = some (.ref w)) (h : (Cond.eq (Term.field t C n d) Term.null).value args s none s [] = some true) : Fld s s.heap w C n d .null := by
  have q := null_v h
  rw [fld_at ev] at q
  exact Fld.start q
theorem own_fldR {t u : Term} {w b : Addr} {C n d : String} (ev : t.eval args s none [] s = some (.ref w)) (eu : u.eval args s none [] s = some (.ref b)) (h : (Cond.eq (Term.field t C n d) u).value args s none s [] = some true) : Fld s s.heap w C n d (.ref b) := by
  apply Fld.start
  cases hf : s.fieldOf? w C n d with
  | none => simp [Cond.value, Term.eval, ev, eu, hf] at h
  | some x => cases x <;> simp [Cond.value, Term.eval, ev, eu, hf] at h ⊢; exact h
theorem own_ne {t u : Term} {w b : Addr} (ev : t.eval args s none [] s = some (.ref w)) (eu : u.eval args s none [] s = some (.ref b)) (h : (Cond.not (Cond.eq t u)).value args s none s [] = some true) : w ≠ b := by
  have q := not_v h
  intro e
  subst e
  simp [Cond.value, ev, eu] at q
end Own
end Jvm.RoadKit
namespace Jvm.Pilot.@@N@@
open Jvm Jvm.ClassFile Sem Op Lib Jvm.Free Jvm.Stand Jvm.LawKit Jvm.RoadKit Bundle Jvm.Pilot.@@N@@.Jvm.D
theorem own_d_prog_8_method_5_code_0 : decode prog_8_method_5_code 0 = .ok (.aload_n 0, 1) := by decide +kernel
theorem own_d_prog_8_method_5_code_1 : decode prog_8_method_5_code 1 = .ok (.getstatic 3, 3) := by decide +kernel
theorem own_d_prog_8_method_5_code_4 : decode prog_8_method_5_code 4 = .ok (.if_acmp .eq 14, 3) := by decide +kernel
theorem own_d_prog_8_method_5_code_18 : decode prog_8_method_5_code 18 = .ok (.iconst 0, 1) := by decide +kernel
theorem own_d_prog_8_method_5_code_19 : decode prog_8_method_5_code 19 = .ok (.ireturn, 1) := by decide +kernel
theorem own_d_prog_8_method_5_code_7 : decode prog_8_method_5_code 7 = .ok (.aload_n 0, 1) := by decide +kernel
theorem own_d_prog_8_method_5_code_8 : decode prog_8_method_5_code 8 = .ok (.getstatic 16, 3) := by decide +kernel
theorem own_d_prog_8_method_5_code_11 : decode prog_8_method_5_code 11 = .ok (.if_acmp .eq 7, 3) := by decide +kernel
theorem own_d_prog_8_method_5_code_14 : decode prog_8_method_5_code 14 = .ok (.iconst 1, 1) := by decide +kernel
theorem own_d_prog_8_method_5_code_15 : decode prog_8_method_5_code 15 = .ok (.goto 4, 3) := by decide +kernel
def own_f28 (a1 : Addr) (w2 : Addr) (w4 : Addr) : Int32 := (if a1 = w2 then (0 : Int32) else (if a1 = w4 then (0 : Int32) else (1 : Int32)))
theorem own_ef28 (m : MethodId) (x0 : Addr) : entryFrame m #[(.ref x0)] 1 = mkF m 0 #[.val (.ref x0)] [] := by first | (simp [entryFrame, mkF, argsToLocals, Value.category]; done) | rfl
theorem own_pn0 : plainName "com/example/termwise/termwise/ContractStatus" = true := by first | (simp [plainName, overriddenIn]; done) | decide +kernel
set_option maxRecDepth 65536 in
set_option maxHeartbeats 40000000 in
theorem own_rm28 (l : Launch) (Z : State) (a0 : Array Value) (hw : ∀ d ∈ tables_1, d.before a0 Z = true) (h0 : Heap) (a1 : Addr) (w2 : Addr) (w4 : Addr) (S3 : Sta Z h0 "com/example/termwise/termwise/ContractStatus" "ENTERED" "Lcom/example/termwise/termwise/ContractStatus;" (.ref w2)) (S5 : Sta Z h0 "com/example/termwise/termwise/ContractStatus" "CANCELED" "Lcom/example/termwise/termwise/ContractStatus;" (.ref w4)) :
    own_Con l Z (⟨"com/example/termwise/termwise/ContractStatus", "holdsTerm", "(Lcom/example/termwise/termwise/ContractStatus;)Z"⟩ : MethodName) prog_8_method_5_code 1 (some .boolean) ({ frames := 0, cells := 0, slots := 0, locals := 0 } : Room) #[(.ref a1)] h0 (own_QP (some (.int (own_f28 a1 w2 w4))) h0) := by
  refine MetFree.of_bodySF (plainFor_of_name own_pn0) hisR ?_
  intro p e s m args below meth c s₁ Bd hml0 hP hK
  obtain ⟨rfl, hZ, hh⟩ := hP
  have hx := Bd.exec
  have hby := Bd.bytes
  have hml : c.maxLocals = 1 := hml0
  have hown : s.vm.findClass "com/example/termwise/termwise/ContractStatus" = some m.cls := findClass_of_methodNamed Bd.named
  have X0 : Stand p l e ({ frames := 0, cells := 0, slots := 0, locals := 0 } : Room) s m #[(.ref a1)] below meth c s₁ [] 0 0 := Stand.of_body Bd
  have e0 : s₁.heap = h0 := by rw [← hh, Bd.state]; rfl
  show own_Go p e below (own_K s (own_QP (some (.int (own_f28 a1 w2 w4))) h0) 0 0) s₁ (entryFrame m #[(.ref a1)] 1)
  rw [own_ef28]
  refine own_go (T2 := s₁) (g2 := (mkF m 1 #[.val (.ref a1)] [(.ref a1)])) (fun t k => XS.aloadN X0.here hx rfl (hb hby own_d_prog_8_method_5_code_0) rfl rfl k) ?_
  obtain ⟨T29, X29, e29, st29⟩ := getS2 X0 hx hZ hown (host := "") (Or.inl (own_wd hw 7 rfl)) Via.refl e0 S3 (g := (mkF m 1 #[.val (.ref a1)] [(.ref a1)])) rfl (hb hby own_d_prog_8_method_5_code_1)
  refine own_go (T2 := T29) (g2 := (mkF m 4 #[.val (.ref a1)] [(.ref w2), (.ref a1)])) st29 ?_
  by_cases hc30 : a1 = w2
  · refine own_go (T2 := T29) (g2 := (mkF m 18 #[.val (.ref a1)] [])) (fun t k => Jvm.RoadKit.acmp (g := (mkF m 4 #[.val (.ref a1)] [(.ref w2), (.ref a1)])) X29 hx rfl rfl rfl (pc0 := 4) (pc' := 18) (same := true) rfl (hb hby own_d_prog_8_method_5_code_4) rfl (decide_eq_true (congrArg Value.ref hc30)) (by decide) (by decide) k) ?_
    refine own_go (T2 := T29) (g2 := (mkF m 19 #[.val (.ref a1)] [(.int (0 : Int32))])) (fun t k => XS.iconst X29.here hx rfl (hb hby own_d_prog_8_method_5_code_18) k) ?_
    exact own_endN X29 hx Bd.notSynchronized (t := .boolean) Bd.returns (by simp) (hb hby own_d_prog_8_method_5_code_19) (z' := (0 : Int32)) rfl (by decide) (by decide) ⟨(by simp only [own_f28, if_pos hc30]), rfl, e29⟩
  · refine own_go (T2 := T29) (g2 := (mkF m 7 #[.val (.ref a1)] [])) (fun t k => Jvm.RoadKit.acmp (g := (mkF m 4 #[.val (.ref a1)] [(.ref w2), (.ref a1)])) X29 hx rfl rfl rfl (pc0 := 4) (pc' := 7) (same := false) rfl (hb hby own_d_prog_8_method_5_code_4) rfl (decide_eq_false fun q => hc30 (Value.ref.inj q)) (by decide) (by decide) k) ?_
    refine own_go (T2 := T29) (g2 := (mkF m 8 #[.val (.ref a1)] [(.ref a1)])) (fun t k => XS.aloadN X29.here hx rfl (hb hby own_d_prog_8_method_5_code_7) rfl rfl k) ?_
    obtain ⟨T31, X31, e31, st31⟩ := getS2 X29 hx hZ hown (host := "") (Or.inl (own_wd hw 10 rfl)) Via.refl e29 S5 (g := (mkF m 8 #[.val (.ref a1)] [(.ref a1)])) rfl (hb hby own_d_prog_8_method_5_code_8)
    refine own_go (T2 := T31) (g2 := (mkF m 11 #[.val (.ref a1)] [(.ref w4), (.ref a1)])) st31 ?_
    by_cases hc32 : a1 = w4
    · refine own_go (T2 := T31) (g2 := (mkF m 18 #[.val (.ref a1)] [])) (fun t k => Jvm.RoadKit.acmp (g := (mkF m 11 #[.val (.ref a1)] [(.ref w4), (.ref a1)])) X31 hx rfl rfl rfl (pc0 := 11) (pc' := 18) (same := true) rfl (hb hby own_d_prog_8_method_5_code_11) rfl (decide_eq_true (congrArg Value.ref hc32)) (by decide) (by decide) k) ?_
      refine own_go (T2 := T31) (g2 := (mkF m 19 #[.val (.ref a1)] [(.int (0 : Int32))])) (fun t k => XS.iconst X31.here hx rfl (hb hby own_d_prog_8_method_5_code_18) k) ?_
      exact own_endN X31 hx Bd.notSynchronized (t := .boolean) Bd.returns (by simp) (hb hby own_d_prog_8_method_5_code_19) (z' := (0 : Int32)) rfl (by decide) (by decide) ⟨(by simp only [own_f28, if_neg hc30, if_pos hc32]), rfl, e31⟩
    · refine own_go (T2 := T31) (g2 := (mkF m 14 #[.val (.ref a1)] [])) (fun t k => Jvm.RoadKit.acmp (g := (mkF m 11 #[.val (.ref a1)] [(.ref w4), (.ref a1)])) X31 hx rfl rfl rfl (pc0 := 11) (pc' := 14) (same := false) rfl (hb hby own_d_prog_8_method_5_code_11) rfl (decide_eq_false fun q => hc32 (Value.ref.inj q)) (by decide) (by decide) k) ?_
      refine own_go (T2 := T31) (g2 := (mkF m 15 #[.val (.ref a1)] [(.int (1 : Int32))])) (fun t k => XS.iconst X31.here hx rfl (hb hby own_d_prog_8_method_5_code_14) k) ?_
      refine own_go (T2 := T31) (g2 := (mkF m 19 #[.val (.ref a1)] [(.int (1 : Int32))])) (fun t k => XS.goto X31.here hx rfl (pc0 := 15) (pc' := 19) rfl (hb hby own_d_prog_8_method_5_code_15) (by decide) (by decide) k) ?_
      exact own_endN X31 hx Bd.notSynchronized (t := .boolean) Bd.returns (by simp) (hb hby own_d_prog_8_method_5_code_19) (z' := (1 : Int32)) rfl (by decide) (by decide) ⟨(by simp only [own_f28, if_neg hc30, if_neg hc32]), rfl, e31⟩
theorem own_pd0 : parseMethodDescriptor "(Lcom/example/termwise/termwise/ContractStatus;)Z" = some ⟨[(.object "com/example/termwise/termwise/ContractStatus")], some .boolean⟩ := by decide +kernel
theorem own_pn1 : plainName "com/example/termwise/termwise/ContractStatusHoldsTermPinLaw" = true := by first | (simp [plainName, overriddenIn]; done) | decide +kernel
theorem own_ef0 (m : MethodId) (x0 : Int32) : entryFrame m #[(.int x0)] maxLocals = mkF m 0 #[.val (.int x0), .unset, .unset, .unset] [] := by first | (simp [entryFrame, mkF, argsToLocals, Value.category, maxLocals]; done) | rfl
def own_Q0 (n0 : Nat) (v : Option Value) (h : Heap) (L : List Loc) : Prop := v = some (.int 1) ∧ Fr n0 L
set_option maxRecDepth 65536 in
set_option maxHeartbeats 40000000 in
theorem own_rm0 (l : Launch) (Z : State) (a0 : Array Value) (hw : ∀ d ∈ tables_1, d.before a0 Z = true) (ws : List Jvm.Cond) (h0 : Heap) (n0 : Nat) (Z0 : n0 ≤ h0.size) (p0 : Int32) (w_ENTERED : Addr) (w_EXPIRED : Addr) (w_CANCELED : Addr) (w_ACTIVE : Addr) (w_SIGNED : Addr) (w_TERMINATED : Addr)
    (S_w_ENTERED : Sta Z h0 "com/example/termwise/termwise/ContractStatus" "ENTERED" "Lcom/example/termwise/termwise/ContractStatus;" (.ref w_ENTERED))
    (E_w_ENTERED : Exa Z h0 w_ENTERED "com/example/termwise/termwise/ContractStatus")
    (S_w_EXPIRED : Sta Z h0 "com/example/termwise/termwise/ContractStatus" "EXPIRED" "Lcom/example/termwise/termwise/ContractStatus;" (.ref w_EXPIRED))
    (E_w_EXPIRED : Exa Z h0 w_EXPIRED "com/example/termwise/termwise/ContractStatus")
    (S_w_CANCELED : Sta Z h0 "com/example/termwise/termwise/ContractStatus" "CANCELED" "Lcom/example/termwise/termwise/ContractStatus;" (.ref w_CANCELED))
    (E_w_CANCELED : Exa Z h0 w_CANCELED "com/example/termwise/termwise/ContractStatus")
    (S_w_ACTIVE : Sta Z h0 "com/example/termwise/termwise/ContractStatus" "ACTIVE" "Lcom/example/termwise/termwise/ContractStatus;" (.ref w_ACTIVE))
    (E_w_ACTIVE : Exa Z h0 w_ACTIVE "com/example/termwise/termwise/ContractStatus")
    (S_w_SIGNED : Sta Z h0 "com/example/termwise/termwise/ContractStatus" "SIGNED" "Lcom/example/termwise/termwise/ContractStatus;" (.ref w_SIGNED))
    (E_w_SIGNED : Exa Z h0 w_SIGNED "com/example/termwise/termwise/ContractStatus")
    (S_w_TERMINATED : Sta Z h0 "com/example/termwise/termwise/ContractStatus" "TERMINATED" "Lcom/example/termwise/termwise/ContractStatus;" (.ref w_TERMINATED))
    (E_w_TERMINATED : Exa Z h0 w_TERMINATED "com/example/termwise/termwise/ContractStatus")
    (F_ordinal_w_EXPIRED : Fld Z h0 w_EXPIRED "java/lang/Enum" "ordinal" "I" (.int (3 : Int32)))
    (F_ordinal_w_ENTERED : Fld Z h0 w_ENTERED "java/lang/Enum" "ordinal" "I" (.int (0 : Int32)))
    (F_ordinal_w_CANCELED : Fld Z h0 w_CANCELED "java/lang/Enum" "ordinal" "I" (.int (4 : Int32)))
    (F_ordinal_w_ACTIVE : Fld Z h0 w_ACTIVE "java/lang/Enum" "ordinal" "I" (.int (2 : Int32)))
    (F_ordinal_w_SIGNED : Fld Z h0 w_SIGNED "java/lang/Enum" "ordinal" "I" (.int (1 : Int32)))
    (F_ordinal_w_TERMINATED : Fld Z h0 w_TERMINATED "java/lang/Enum" "ordinal" "I" (.int (5 : Int32))) :
    MetFree l x (head1 (Jvm.Cond.code x code maxLocals ret :: ws) room_1) (fun a U => a = #[(.int p0)] ∧ Z.Warmed39 U.vm ∧ U.heap = h0) (fun _ _ _ _ _ => True) (fun _ U o U' => ∃ v L, o = .returned v ∧ own_Q0 n0 v U'.heap L ∧ FrameEnd U o U' L room_1.cells room_1.slots) := by
  refine MetFree.of_bodySF (plainFor_of_name own_pn1) hisR ?_
  intro p e s m args below meth c s₁ Bd hml0 hP hK
  obtain ⟨rfl, hZ, hh⟩ := hP
  have hx := Bd.exec
  have hby := Bd.bytes
  have hml : c.maxLocals = 4 := hml0
  have hown : s.vm.findClass "com/example/termwise/termwise/ContractStatusHoldsTermPinLaw" = some m.cls := findClass_of_methodNamed Bd.named
  have X0 : Stand p l e room_1 s m #[(.int p0)] below meth c s₁ [] 0 0 := Stand.of_body Bd
  have e0 : s₁.heap = h0 := by rw [← hh, Bd.state]; rfl
  show own_Go p e below (own_K s (own_Q0 n0) room_1.cells room_1.slots) s₁ (entryFrame m #[(.int p0)] maxLocals)
  rw [own_ef0]
  refine own_go (T2 := s₁) (g2 := (mkF m 1 #[.val (.int p0), .unset, .unset, .unset] [(.int p0)])) (fun t k => XS.iloadN X0.here hx rfl (hb hby at_0) rfl  k) ?_
  refine own_go (T2 := s₁) (g2 := (mkF m 3 #[.val (.int p0), .unset, .unset, .unset] [(.int (2147483647 : Int32)), (.int p0)])) (fun t k => Jvm.Stand.ldcI X0 hx hown (mvT hZ (own_wd hw 0 rfl)) (g := (mkF m 1 #[.val (.int p0), .unset, .unset, .unset] [(.int p0)])) rfl (hb hby at_1) k) ?_
  refine own_go (T2 := s₁) (g2 := (mkF m 4 #[.val (.int p0), .unset, .unset, .unset] [(.int (p0 &&& (2147483647 : Int32)))])) (fun t k => XS.iand X0.here hx rfl (hb hby at_3) rfl k) ?_
  refine own_go (T2 := s₁) (g2 := (mkF m 6 #[.val (.int p0), .unset, .unset, .unset] [(.int (6 : Int32)), (.int (p0 &&& (2147483647 : Int32)))])) (fun t k => XS.bipush X0.here hx rfl (hb hby at_4) k) ?_
  refine own_go (T2 := s₁) (g2 := (mkF m 7 #[.val (.int p0), .unset, .unset, .unset] [(.int ((p0 &&& (2147483647 : Int32)) % (6 : Int32)))])) (fun t k => iremM (g := (mkF m 6 #[.val (.int p0), .unset, .unset, .unset] [(.int (6 : Int32)), (.int (p0 &&& (2147483647 : Int32)))])) X0 hx rfl (hb hby at_6) rfl (by decide) k) ?_
  generalize ((p0 &&& (2147483647 : Int32)) % (6 : Int32)) = k24
  refine own_go (T2 := s₁) (g2 := (mkF m 8 #[.val (.int p0), .val (.int k24), .unset, .unset] [])) (fun t k => XS.istoreN X0.here hx rfl (hb hby at_7) rfl (l' := #[.val (.int p0), .val (.int k24), .unset, .unset]) rfl k) ?_
  refine own_go (T2 := s₁) (g2 := (mkF m 9 #[.val (.int p0), .val (.int k24), .unset, .unset] [(.int k24)])) (fun t k => XS.iloadN X0.here hx rfl (hb hby at_8) rfl  k) ?_
  by_cases hc25 : k24 = (0 : Int32)
  · refine own_go (T2 := s₁) (g2 := (mkF m 12 #[.val (.int p0), .val (.int k24), .unset, .unset] [])) (fun t k => XS.ifNo X0.here hx rfl (hb hby at_9) rfl ((if0 _ _).trans (teq (show k24 = (0 : Int32) from hc25)).2) k) ?_
    subst hc25
    obtain ⟨T26, X26, e26, st26⟩ := getS2 X0 hx hZ hown (host := "") (Or.inl (own_wd hw 1 rfl)) Via.refl e0 S_w_ENTERED (g := (mkF m 12 #[.val (.int p0), .val (.int (0 : Int32)), .unset, .unset] [])) rfl (hb hby at_12)
    refine own_go (T2 := T26) (g2 := (mkF m 15 #[.val (.int p0), .val (.int (0 : Int32)), .unset, .unset] [(.ref w_ENTERED)])) st26 ?_
    refine own_go (T2 := T26) (g2 := (mkF m 16 #[.val (.int p0), .val (.int (0 : Int32)), .val (.ref w_ENTERED), .unset] [])) (fun t k => XS.astoreN X26.here hx rfl (hb hby at_15) rfl rfl (l' := #[.val (.int p0), .val (.int (0 : Int32)), .val (.ref w_ENTERED), .unset]) rfl k) ?_
    refine own_go (T2 := T26) (g2 := (mkF m 17 #[.val (.int p0), .val (.int (0 : Int32)), .val (.ref w_ENTERED), .unset] [(.int (0 : Int32))])) (fun t k => XS.iconst X26.here hx rfl (hb hby at_16) k) ?_
    refine own_go (T2 := T26) (g2 := (mkF m 18 #[.val (.int p0), .val (.int (0 : Int32)), .val (.ref w_ENTERED), .val (.int (0 : Int32))] [])) (fun t k => XS.istoreN X26.here hx rfl (hb hby at_17) rfl (l' := #[.val (.int p0), .val (.int (0 : Int32)), .val (.ref w_ENTERED), .val (.int (0 : Int32))]) rfl k) ?_
    refine own_go (T2 := T26) (g2 := (mkF m 83 #[.val (.int p0), .val (.int (0 : Int32)), .val (.ref w_ENTERED), .val (.int (0 : Int32))] [])) (fun t k => XS.goto X26.here hx rfl (pc0 := 18) (pc' := 83) rfl (hb hby at_18) (by decide) (by decide) k) ?_
    refine own_go (T2 := T26) (g2 := (mkF m 84 #[.val (.int p0), .val (.int (0 : Int32)), .val (.ref w_ENTERED), .val (.int (0 : Int32))] [(.ref w_ENTERED)])) (fun t k => XS.aloadN X26.here hx rfl (hb hby at_83) rfl rfl k) ?_
    obtain ⟨_, T27, _, X27, ⟨rfl, rfl, e27⟩, st27⟩ := own_static X26 hx hZ (y := (⟨"com/example/termwise/termwise/ContractStatus", "holdsTerm", "(Lcom/example/termwise/termwise/ContractStatus;)Z"⟩ : MethodName)) hown (own_wd hw 4 rfl) (own_wd hw 5 rfl) (own_wd hw 2 rfl) (own_wd hw 6 rfl) (by decide) 0 (argsL := [(.ref w_ENTERED)]) (rest := []) (own_rm28 l Z a0 hw h0 w_ENTERED w_ENTERED w_CANCELED S_w_ENTERED S_w_CANCELED) (by decide) (by decide) (g := (mkF m 84 #[.val (.int p0), .val (.int (0 : Int32)), .val (.ref w_ENTERED), .val (.int (0 : Int32))] [(.ref w_ENTERED)])) rfl (by rw [hml]; rfl) (lenOf own_pd0 rfl) rfl (by show 2 * 0 + _ ≤ _; exact Nat.le_of_eq rfl) (hb hby at_84) e26 (by decide) (by decide)
    refine own_go (T2 := T27) (g2 := (mkF m 87 #[.val (.int p0), .val (.int (0 : Int32)), .val (.ref w_ENTERED), .val (.int (0 : Int32))] [(.int (own_f28 w_ENTERED w_ENTERED w_CANCELED))])) st27 ?_
    rw [show (own_f28 w_ENTERED w_ENTERED w_CANCELED) = (0 : Int32) from by first | rfl | rw [own_f28, if_pos (show w_ENTERED = w_ENTERED from rfl)] | simp only [own_f28, if_pos (show w_ENTERED = w_ENTERED from rfl)]]
    refine own_go (T2 := T27) (g2 := (mkF m 88 #[.val (.int p0), .val (.int (0 : Int32)), .val (.ref w_ENTERED), .val (.int (0 : Int32))] [(.int (0 : Int32)), (.int (0 : Int32))])) (fun t k => XS.iloadN X27.here hx rfl (hb hby at_87) rfl  k) ?_
    refine own_go (T2 := T27) (g2 := (mkF m 91 #[.val (.int p0), .val (.int (0 : Int32)), .val (.ref w_ENTERED), .val (.int (0 : Int32))] [])) (fun t k => XS.icmpNo X27.here hx rfl (hb hby at_88) rfl (teq (show (0 : Int32) = (0 : Int32) from (by decide))).2 k) ?_
    refine own_go (T2 := T27) (g2 := (mkF m 92 #[.val (.int p0), .val (.int (0 : Int32)), .val (.ref w_ENTERED), .val (.int (0 : Int32))] [(.int (1 : Int32))])) (fun t k => XS.iconst X27.here hx rfl (hb hby at_91) k) ?_
    refine own_go (T2 := T27) (g2 := (mkF m 96 #[.val (.int p0), .val (.int (0 : Int32)), .val (.ref w_ENTERED), .val (.int (0 : Int32))] [(.int (1 : Int32))])) (fun t k => XS.goto X27.here hx rfl (pc0 := 92) (pc' := 96) rfl (hb hby at_92) (by decide) (by decide) k) ?_
    exact own_endN X27 hx Bd.notSynchronized (t := .boolean) Bd.returns (by simp) (hb hby at_96) (z' := (1 : Int32)) rfl (by decide) (by decide) ⟨rfl, Fr.nil _⟩
  · refine own_go (T2 := s₁) (g2 := (mkF m 21 #[.val (.int p0), .val (.int k24), .unset, .unset] [])) (fun t k => XS.ifYes X0.here hx rfl (pc0 := 9) (pc' := 21) rfl (hb hby at_9) rfl ((if0 _ _).trans (feq (show ¬ (k24 = (0 : Int32)) from hc25)).2) (by decide) (by decide) k) ?_
    refine own_go (T2 := s₁) (g2 := (mkF m 22 #[.val (.int p0), .val (.int k24), .unset, .unset] [(.int k24)])) (fun t k => XS.iloadN X0.here hx rfl (hb hby at_21) rfl  k) ?_
    refine own_go (T2 := s₁) (g2 := (mkF m 23 #[.val (.int p0), .val (.int k24), .unset, .unset] [(.int (1 : Int32)), (.int k24)])) (fun t k => XS.iconst X0.here hx rfl (hb hby at_22) k) ?_
    by_cases hc33 : k24 = (1 : Int32)
    · refine own_go (T2 := s₁) (g2 := (mkF m 26 #[.val (.int p0), .val (.int k24), .unset, .unset] [])) (fun t k => XS.icmpNo X0.here hx rfl (hb hby at_23) rfl (teq (show k24 = (1 : Int32) from hc33)).2 k) ?_
      subst hc33
      obtain ⟨T34, X34, e34, st34⟩ := getS2 X0 hx hZ hown (host := "") (Or.inl (own_wd hw 14 rfl)) Via.refl e0 S_w_SIGNED (g := (mkF m 26 #[.val (.int p0), .val (.int (1 : Int32)), .unset, .unset] [])) rfl (hb hby at_26)
      refine own_go (T2 := T34) (g2 := (mkF m 29 #[.val (.int p0), .val (.int (1 : Int32)), .unset, .unset] [(.ref w_SIGNED)])) st34 ?_
      refine own_go (T2 := T34) (g2 := (mkF m 30 #[.val (.int p0), .val (.int (1 : Int32)), .val (.ref w_SIGNED), .unset] [])) (fun t k => XS.astoreN X34.here hx rfl (hb hby at_29) rfl rfl (l' := #[.val (.int p0), .val (.int (1 : Int32)), .val (.ref w_SIGNED), .unset]) rfl k) ?_
      refine own_go (T2 := T34) (g2 := (mkF m 31 #[.val (.int p0), .val (.int (1 : Int32)), .val (.ref w_SIGNED), .unset] [(.int (1 : Int32))])) (fun t k => XS.iconst X34.here hx rfl (hb hby at_30) k) ?_
      refine own_go (T2 := T34) (g2 := (mkF m 32 #[.val (.int p0), .val (.int (1 : Int32)), .val (.ref w_SIGNED), .val (.int (1 : Int32))] [])) (fun t k => XS.istoreN X34.here hx rfl (hb hby at_31) rfl (l' := #[.val (.int p0), .val (.int (1 : Int32)), .val (.ref w_SIGNED), .val (.int (1 : Int32))]) rfl k) ?_
      refine own_go (T2 := T34) (g2 := (mkF m 83 #[.val (.int p0), .val (.int (1 : Int32)), .val (.ref w_SIGNED), .val (.int (1 : Int32))] [])) (fun t k => XS.goto X34.here hx rfl (pc0 := 32) (pc' := 83) rfl (hb hby at_32) (by decide) (by decide) k) ?_
      refine own_go (T2 := T34) (g2 := (mkF m 84 #[.val (.int p0), .val (.int (1 : Int32)), .val (.ref w_SIGNED), .val (.int (1 : Int32))] [(.ref w_SIGNED)])) (fun t k => XS.aloadN X34.here hx rfl (hb hby at_83) rfl rfl k) ?_
      obtain ⟨_, T35, _, X35, ⟨rfl, rfl, e35⟩, st35⟩ := own_static X34 hx hZ (y := (⟨"com/example/termwise/termwise/ContractStatus", "holdsTerm", "(Lcom/example/termwise/termwise/ContractStatus;)Z"⟩ : MethodName)) hown (own_wd hw 4 rfl) (own_wd hw 5 rfl) (own_wd hw 2 rfl) (own_wd hw 6 rfl) (by decide) 0 (argsL := [(.ref w_SIGNED)]) (rest := []) (own_rm28 l Z a0 hw h0 w_SIGNED w_ENTERED w_CANCELED S_w_ENTERED S_w_CANCELED) (by decide) (by decide) (g := (mkF m 84 #[.val (.int p0), .val (.int (1 : Int32)), .val (.ref w_SIGNED), .val (.int (1 : Int32))] [(.ref w_SIGNED)])) rfl (by rw [hml]; rfl) (lenOf own_pd0 rfl) rfl (by show 2 * 0 + _ ≤ _; exact Nat.le_of_eq rfl) (hb hby at_84) e34 (by decide) (by decide)
      refine own_go (T2 := T35) (g2 := (mkF m 87 #[.val (.int p0), .val (.int (1 : Int32)), .val (.ref w_SIGNED), .val (.int (1 : Int32))] [(.int (own_f28 w_SIGNED w_ENTERED w_CANCELED))])) st35 ?_
      rw [show (own_f28 w_SIGNED w_ENTERED w_CANCELED) = (1 : Int32) from by first | rfl | rw [own_f28, if_neg (show ¬ (w_SIGNED = w_ENTERED) from (Fld.ne F_ordinal_w_SIGNED F_ordinal_w_ENTERED (by decide))), if_neg (show ¬ (w_SIGNED = w_CANCELED) from (Fld.ne F_ordinal_w_SIGNED F_ordinal_w_CANCELED (by decide)))] | simp only [own_f28, if_neg (show ¬ (w_SIGNED = w_ENTERED) from (Fld.ne F_ordinal_w_SIGNED F_ordinal_w_ENTERED (by decide))), if_neg (show ¬ (w_SIGNED = w_CANCELED) from (Fld.ne F_ordinal_w_SIGNED F_ordinal_w_CANCELED (by decide)))]]
      refine own_go (T2 := T35) (g2 := (mkF m 88 #[.val (.int p0), .val (.int (1 : Int32)), .val (.ref w_SIGNED), .val (.int (1 : Int32))] [(.int (1 : Int32)), (.int (1 : Int32))])) (fun t k => XS.iloadN X35.here hx rfl (hb hby at_87) rfl  k) ?_
      refine own_go (T2 := T35) (g2 := (mkF m 91 #[.val (.int p0), .val (.int (1 : Int32)), .val (.ref w_SIGNED), .val (.int (1 : Int32))] [])) (fun t k => XS.icmpNo X35.here hx rfl (hb hby at_88) rfl (teq (show (1 : Int32) = (1 : Int32) from (by decide))).2 k) ?_
      refine own_go (T2 := T35) (g2 := (mkF m 92 #[.val (.int p0), .val (.int (1 : Int32)), .val (.ref w_SIGNED), .val (.int (1 : Int32))] [(.int (1 : Int32))])) (fun t k => XS.iconst X35.here hx rfl (hb hby at_91) k) ?_
      refine own_go (T2 := T35) (g2 := (mkF m 96 #[.val (.int p0), .val (.int (1 : Int32)), .val (.ref w_SIGNED), .val (.int (1 : Int32))] [(.int (1 : Int32))])) (fun t k => XS.goto X35.here hx rfl (pc0 := 92) (pc' := 96) rfl (hb hby at_92) (by decide) (by decide) k) ?_
      exact own_endN X35 hx Bd.notSynchronized (t := .boolean) Bd.returns (by simp) (hb hby at_96) (z' := (1 : Int32)) rfl (by decide) (by decide) ⟨rfl, Fr.nil _⟩
    · refine own_go (T2 := s₁) (g2 := (mkF m 35 #[.val (.int p0), .val (.int k24), .unset, .unset] [])) (fun t k => XS.icmpYes X0.here hx rfl (pc0 := 23) (pc' := 35) rfl (hb hby at_23) rfl (feq (show ¬ (k24 = (1 : Int32)) from hc33)).2 (by decide) (by decide) k) ?_
      refine own_go (T2 := s₁) (g2 := (mkF m 36 #[.val (.int p0), .val (.int k24), .unset, .unset] [(.int k24)])) (fun t k => XS.iloadN X0.here hx rfl (hb hby at_35) rfl  k) ?_
      refine own_go (T2 := s₁) (g2 := (mkF m 37 #[.val (.int p0), .val (.int k24), .unset, .unset] [(.int (2 : Int32)), (.int k24)])) (fun t k => XS.iconst X0.here hx rfl (hb hby at_36) k) ?_
      by_cases hc36 : k24 = (2 : Int32)
      · refine own_go (T2 := s₁) (g2 := (mkF m 40 #[.val (.int p0), .val (.int k24), .unset, .unset] [])) (fun t k => XS.icmpNo X0.here hx rfl (hb hby at_37) rfl (teq (show k24 = (2 : Int32) from hc36)).2 k) ?_
        subst hc36
        obtain ⟨T37, X37, e37, st37⟩ := getS2 X0 hx hZ hown (host := "") (Or.inl (own_wd hw 12 rfl)) Via.refl e0 S_w_ACTIVE (g := (mkF m 40 #[.val (.int p0), .val (.int (2 : Int32)), .unset, .unset] [])) rfl (hb hby at_40)
        refine own_go (T2 := T37) (g2 := (mkF m 43 #[.val (.int p0), .val (.int (2 : Int32)), .unset, .unset] [(.ref w_ACTIVE)])) st37 ?_
        refine own_go (T2 := T37) (g2 := (mkF m 44 #[.val (.int p0), .val (.int (2 : Int32)), .val (.ref w_ACTIVE), .unset] [])) (fun t k => XS.astoreN X37.here hx rfl (hb hby at_43) rfl rfl (l' := #[.val (.int p0), .val (.int (2 : Int32)), .val (.ref w_ACTIVE), .unset]) rfl k) ?_
        refine own_go (T2 := T37) (g2 := (mkF m 45 #[.val (.int p0), .val (.int (2 : Int32)), .val (.ref w_ACTIVE), .unset] [(.int (1 : Int32))])) (fun t k => XS.iconst X37.here hx rfl (hb hby at_44) k) ?_
        refine own_go (T2 := T37) (g2 := (mkF m 46 #[.val (.int p0), .val (.int (2 : Int32)), .val (.ref w_ACTIVE), .val (.int (1 : Int32))] [])) (fun t k => XS.istoreN X37.here hx rfl (hb hby at_45) rfl (l' := #[.val (.int p0), .val (.int (2 : Int32)), .val (.ref w_ACTIVE), .val (.int (1 : Int32))]) rfl k) ?_
        refine own_go (T2 := T37) (g2 := (mkF m 83 #[.val (.int p0), .val (.int (2 : Int32)), .val (.ref w_ACTIVE), .val (.int (1 : Int32))] [])) (fun t k => XS.goto X37.here hx rfl (pc0 := 46) (pc' := 83) rfl (hb hby at_46) (by decide) (by decide) k) ?_
        refine own_go (T2 := T37) (g2 := (mkF m 84 #[.val (.int p0), .val (.int (2 : Int32)), .val (.ref w_ACTIVE), .val (.int (1 : Int32))] [(.ref w_ACTIVE)])) (fun t k => XS.aloadN X37.here hx rfl (hb hby at_83) rfl rfl k) ?_
        obtain ⟨_, T38, _, X38, ⟨rfl, rfl, e38⟩, st38⟩ := own_static X37 hx hZ (y := (⟨"com/example/termwise/termwise/ContractStatus", "holdsTerm", "(Lcom/example/termwise/termwise/ContractStatus;)Z"⟩ : MethodName)) hown (own_wd hw 4 rfl) (own_wd hw 5 rfl) (own_wd hw 2 rfl) (own_wd hw 6 rfl) (by decide) 0 (argsL := [(.ref w_ACTIVE)]) (rest := []) (own_rm28 l Z a0 hw h0 w_ACTIVE w_ENTERED w_CANCELED S_w_ENTERED S_w_CANCELED) (by decide) (by decide) (g := (mkF m 84 #[.val (.int p0), .val (.int (2 : Int32)), .val (.ref w_ACTIVE), .val (.int (1 : Int32))] [(.ref w_ACTIVE)])) rfl (by rw [hml]; rfl) (lenOf own_pd0 rfl) rfl (by show 2 * 0 + _ ≤ _; exact Nat.le_of_eq rfl) (hb hby at_84) e37 (by decide) (by decide)
        refine own_go (T2 := T38) (g2 := (mkF m 87 #[.val (.int p0), .val (.int (2 : Int32)), .val (.ref w_ACTIVE), .val (.int (1 : Int32))] [(.int (own_f28 w_ACTIVE w_ENTERED w_CANCELED))])) st38 ?_
        rw [show (own_f28 w_ACTIVE w_ENTERED w_CANCELED) = (1 : Int32) from by first | rfl | rw [own_f28, if_neg (show ¬ (w_ACTIVE = w_ENTERED) from (Fld.ne F_ordinal_w_ACTIVE F_ordinal_w_ENTERED (by decide))), if_neg (show ¬ (w_ACTIVE = w_CANCELED) from (Fld.ne F_ordinal_w_ACTIVE F_ordinal_w_CANCELED (by decide)))] | simp only [own_f28, if_neg (show ¬ (w_ACTIVE = w_ENTERED) from (Fld.ne F_ordinal_w_ACTIVE F_ordinal_w_ENTERED (by decide))), if_neg (show ¬ (w_ACTIVE = w_CANCELED) from (Fld.ne F_ordinal_w_ACTIVE F_ordinal_w_CANCELED (by decide)))]]
        refine own_go (T2 := T38) (g2 := (mkF m 88 #[.val (.int p0), .val (.int (2 : Int32)), .val (.ref w_ACTIVE), .val (.int (1 : Int32))] [(.int (1 : Int32)), (.int (1 : Int32))])) (fun t k => XS.iloadN X38.here hx rfl (hb hby at_87) rfl  k) ?_
        refine own_go (T2 := T38) (g2 := (mkF m 91 #[.val (.int p0), .val (.int (2 : Int32)), .val (.ref w_ACTIVE), .val (.int (1 : Int32))] [])) (fun t k => XS.icmpNo X38.here hx rfl (hb hby at_88) rfl (teq (show (1 : Int32) = (1 : Int32) from (by decide))).2 k) ?_
        refine own_go (T2 := T38) (g2 := (mkF m 92 #[.val (.int p0), .val (.int (2 : Int32)), .val (.ref w_ACTIVE), .val (.int (1 : Int32))] [(.int (1 : Int32))])) (fun t k => XS.iconst X38.here hx rfl (hb hby at_91) k) ?_
        refine own_go (T2 := T38) (g2 := (mkF m 96 #[.val (.int p0), .val (.int (2 : Int32)), .val (.ref w_ACTIVE), .val (.int (1 : Int32))] [(.int (1 : Int32))])) (fun t k => XS.goto X38.here hx rfl (pc0 := 92) (pc' := 96) rfl (hb hby at_92) (by decide) (by decide) k) ?_
        exact own_endN X38 hx Bd.notSynchronized (t := .boolean) Bd.returns (by simp) (hb hby at_96) (z' := (1 : Int32)) rfl (by decide) (by decide) ⟨rfl, Fr.nil _⟩
      · refine own_go (T2 := s₁) (g2 := (mkF m 49 #[.val (.int p0), .val (.int k24), .unset, .unset] [])) (fun t k => XS.icmpYes X0.here hx rfl (pc0 := 37) (pc' := 49) rfl (hb hby at_37) rfl (feq (show ¬ (k24 = (2 : Int32)) from hc36)).2 (by decide) (by decide) k) ?_
        refine own_go (T2 := s₁) (g2 := (mkF m 50 #[.val (.int p0), .val (.int k24), .unset, .unset] [(.int k24)])) (fun t k => XS.iloadN X0.here hx rfl (hb hby at_49) rfl  k) ?_
        refine own_go (T2 := s₁) (g2 := (mkF m 51 #[.val (.int p0), .val (.int k24), .unset, .unset] [(.int (3 : Int32)), (.int k24)])) (fun t k => XS.iconst X0.here hx rfl (hb hby at_50) k) ?_
        by_cases hc39 : k24 = (3 : Int32)
        · refine own_go (T2 := s₁) (g2 := (mkF m 54 #[.val (.int p0), .val (.int k24), .unset, .unset] [])) (fun t k => XS.icmpNo X0.here hx rfl (hb hby at_51) rfl (teq (show k24 = (3 : Int32) from hc39)).2 k) ?_
          subst hc39
          obtain ⟨T40, X40, e40, st40⟩ := getS2 X0 hx hZ hown (host := "") (Or.inl (own_wd hw 8 rfl)) Via.refl e0 S_w_EXPIRED (g := (mkF m 54 #[.val (.int p0), .val (.int (3 : Int32)), .unset, .unset] [])) rfl (hb hby at_54)
          refine own_go (T2 := T40) (g2 := (mkF m 57 #[.val (.int p0), .val (.int (3 : Int32)), .unset, .unset] [(.ref w_EXPIRED)])) st40 ?_
          refine own_go (T2 := T40) (g2 := (mkF m 58 #[.val (.int p0), .val (.int (3 : Int32)), .val (.ref w_EXPIRED), .unset] [])) (fun t k => XS.astoreN X40.here hx rfl (hb hby at_57) rfl rfl (l' := #[.val (.int p0), .val (.int (3 : Int32)), .val (.ref w_EXPIRED), .unset]) rfl k) ?_
          refine own_go (T2 := T40) (g2 := (mkF m 59 #[.val (.int p0), .val (.int (3 : Int32)), .val (.ref w_EXPIRED), .unset] [(.int (1 : Int32))])) (fun t k => XS.iconst X40.here hx rfl (hb hby at_58) k) ?_
          refine own_go (T2 := T40) (g2 := (mkF m 60 #[.val (.int p0), .val (.int (3 : Int32)), .val (.ref w_EXPIRED), .val (.int (1 : Int32))] [])) (fun t k => XS.istoreN X40.here hx rfl (hb hby at_59) rfl (l' := #[.val (.int p0), .val (.int (3 : Int32)), .val (.ref w_EXPIRED), .val (.int (1 : Int32))]) rfl k) ?_
          refine own_go (T2 := T40) (g2 := (mkF m 83 #[.val (.int p0), .val (.int (3 : Int32)), .val (.ref w_EXPIRED), .val (.int (1 : Int32))] [])) (fun t k => XS.goto X40.here hx rfl (pc0 := 60) (pc' := 83) rfl (hb hby at_60) (by decide) (by decide) k) ?_
          refine own_go (T2 := T40) (g2 := (mkF m 84 #[.val (.int p0), .val (.int (3 : Int32)), .val (.ref w_EXPIRED), .val (.int (1 : Int32))] [(.ref w_EXPIRED)])) (fun t k => XS.aloadN X40.here hx rfl (hb hby at_83) rfl rfl k) ?_
          obtain ⟨_, T41, _, X41, ⟨rfl, rfl, e41⟩, st41⟩ := own_static X40 hx hZ (y := (⟨"com/example/termwise/termwise/ContractStatus", "holdsTerm", "(Lcom/example/termwise/termwise/ContractStatus;)Z"⟩ : MethodName)) hown (own_wd hw 4 rfl) (own_wd hw 5 rfl) (own_wd hw 2 rfl) (own_wd hw 6 rfl) (by decide) 0 (argsL := [(.ref w_EXPIRED)]) (rest := []) (own_rm28 l Z a0 hw h0 w_EXPIRED w_ENTERED w_CANCELED S_w_ENTERED S_w_CANCELED) (by decide) (by decide) (g := (mkF m 84 #[.val (.int p0), .val (.int (3 : Int32)), .val (.ref w_EXPIRED), .val (.int (1 : Int32))] [(.ref w_EXPIRED)])) rfl (by rw [hml]; rfl) (lenOf own_pd0 rfl) rfl (by show 2 * 0 + _ ≤ _; exact Nat.le_of_eq rfl) (hb hby at_84) e40 (by decide) (by decide)
          refine own_go (T2 := T41) (g2 := (mkF m 87 #[.val (.int p0), .val (.int (3 : Int32)), .val (.ref w_EXPIRED), .val (.int (1 : Int32))] [(.int (own_f28 w_EXPIRED w_ENTERED w_CANCELED))])) st41 ?_
          rw [show (own_f28 w_EXPIRED w_ENTERED w_CANCELED) = (1 : Int32) from by first | rfl | rw [own_f28, if_neg (show ¬ (w_EXPIRED = w_ENTERED) from (Fld.ne F_ordinal_w_EXPIRED F_ordinal_w_ENTERED (by decide))), if_neg (show ¬ (w_EXPIRED = w_CANCELED) from (Fld.ne F_ordinal_w_EXPIRED F_ordinal_w_CANCELED (by decide)))] | simp only [own_f28, if_neg (show ¬ (w_EXPIRED = w_ENTERED) from (Fld.ne F_ordinal_w_EXPIRED F_ordinal_w_ENTERED (by decide))), if_neg (show ¬ (w_EXPIRED = w_CANCELED) from (Fld.ne F_ordinal_w_EXPIRED F_ordinal_w_CANCELED (by decide)))]]
          refine own_go (T2 := T41) (g2 := (mkF m 88 #[.val (.int p0), .val (.int (3 : Int32)), .val (.ref w_EXPIRED), .val (.int (1 : Int32))] [(.int (1 : Int32)), (.int (1 : Int32))])) (fun t k => XS.iloadN X41.here hx rfl (hb hby at_87) rfl  k) ?_
          refine own_go (T2 := T41) (g2 := (mkF m 91 #[.val (.int p0), .val (.int (3 : Int32)), .val (.ref w_EXPIRED), .val (.int (1 : Int32))] [])) (fun t k => XS.icmpNo X41.here hx rfl (hb hby at_88) rfl (teq (show (1 : Int32) = (1 : Int32) from (by decide))).2 k) ?_
          refine own_go (T2 := T41) (g2 := (mkF m 92 #[.val (.int p0), .val (.int (3 : Int32)), .val (.ref w_EXPIRED), .val (.int (1 : Int32))] [(.int (1 : Int32))])) (fun t k => XS.iconst X41.here hx rfl (hb hby at_91) k) ?_
          refine own_go (T2 := T41) (g2 := (mkF m 96 #[.val (.int p0), .val (.int (3 : Int32)), .val (.ref w_EXPIRED), .val (.int (1 : Int32))] [(.int (1 : Int32))])) (fun t k => XS.goto X41.here hx rfl (pc0 := 92) (pc' := 96) rfl (hb hby at_92) (by decide) (by decide) k) ?_
          exact own_endN X41 hx Bd.notSynchronized (t := .boolean) Bd.returns (by simp) (hb hby at_96) (z' := (1 : Int32)) rfl (by decide) (by decide) ⟨rfl, Fr.nil _⟩
        · refine own_go (T2 := s₁) (g2 := (mkF m 63 #[.val (.int p0), .val (.int k24), .unset, .unset] [])) (fun t k => XS.icmpYes X0.here hx rfl (pc0 := 51) (pc' := 63) rfl (hb hby at_51) rfl (feq (show ¬ (k24 = (3 : Int32)) from hc39)).2 (by decide) (by decide) k) ?_
          refine own_go (T2 := s₁) (g2 := (mkF m 64 #[.val (.int p0), .val (.int k24), .unset, .unset] [(.int k24)])) (fun t k => XS.iloadN X0.here hx rfl (hb hby at_63) rfl  k) ?_
          refine own_go (T2 := s₁) (g2 := (mkF m 65 #[.val (.int p0), .val (.int k24), .unset, .unset] [(.int (4 : Int32)), (.int k24)])) (fun t k => XS.iconst X0.here hx rfl (hb hby at_64) k) ?_
          by_cases hc42 : k24 = (4 : Int32)
          · refine own_go (T2 := s₁) (g2 := (mkF m 68 #[.val (.int p0), .val (.int k24), .unset, .unset] [])) (fun t k => XS.icmpNo X0.here hx rfl (hb hby at_65) rfl (teq (show k24 = (4 : Int32) from hc42)).2 k) ?_
            subst hc42
            obtain ⟨T43, X43, e43, st43⟩ := getS2 X0 hx hZ hown (host := "") (Or.inl (own_wd hw 18 rfl)) Via.refl e0 S_w_CANCELED (g := (mkF m 68 #[.val (.int p0), .val (.int (4 : Int32)), .unset, .unset] [])) rfl (hb hby at_68)
            refine own_go (T2 := T43) (g2 := (mkF m 71 #[.val (.int p0), .val (.int (4 : Int32)), .unset, .unset] [(.ref w_CANCELED)])) st43 ?_
            refine own_go (T2 := T43) (g2 := (mkF m 72 #[.val (.int p0), .val (.int (4 : Int32)), .val (.ref w_CANCELED), .unset] [])) (fun t k => XS.astoreN X43.here hx rfl (hb hby at_71) rfl rfl (l' := #[.val (.int p0), .val (.int (4 : Int32)), .val (.ref w_CANCELED), .unset]) rfl k) ?_
            refine own_go (T2 := T43) (g2 := (mkF m 73 #[.val (.int p0), .val (.int (4 : Int32)), .val (.ref w_CANCELED), .unset] [(.int (0 : Int32))])) (fun t k => XS.iconst X43.here hx rfl (hb hby at_72) k) ?_
            refine own_go (T2 := T43) (g2 := (mkF m 74 #[.val (.int p0), .val (.int (4 : Int32)), .val (.ref w_CANCELED), .val (.int (0 : Int32))] [])) (fun t k => XS.istoreN X43.here hx rfl (hb hby at_73) rfl (l' := #[.val (.int p0), .val (.int (4 : Int32)), .val (.ref w_CANCELED), .val (.int (0 : Int32))]) rfl k) ?_
            refine own_go (T2 := T43) (g2 := (mkF m 83 #[.val (.int p0), .val (.int (4 : Int32)), .val (.ref w_CANCELED), .val (.int (0 : Int32))] [])) (fun t k => XS.goto X43.here hx rfl (pc0 := 74) (pc' := 83) rfl (hb hby at_74) (by decide) (by decide) k) ?_
            refine own_go (T2 := T43) (g2 := (mkF m 84 #[.val (.int p0), .val (.int (4 : Int32)), .val (.ref w_CANCELED), .val (.int (0 : Int32))] [(.ref w_CANCELED)])) (fun t k => XS.aloadN X43.here hx rfl (hb hby at_83) rfl rfl k) ?_
            obtain ⟨_, T44, _, X44, ⟨rfl, rfl, e44⟩, st44⟩ := own_static X43 hx hZ (y := (⟨"com/example/termwise/termwise/ContractStatus", "holdsTerm", "(Lcom/example/termwise/termwise/ContractStatus;)Z"⟩ : MethodName)) hown (own_wd hw 4 rfl) (own_wd hw 5 rfl) (own_wd hw 2 rfl) (own_wd hw 6 rfl) (by decide) 0 (argsL := [(.ref w_CANCELED)]) (rest := []) (own_rm28 l Z a0 hw h0 w_CANCELED w_ENTERED w_CANCELED S_w_ENTERED S_w_CANCELED) (by decide) (by decide) (g := (mkF m 84 #[.val (.int p0), .val (.int (4 : Int32)), .val (.ref w_CANCELED), .val (.int (0 : Int32))] [(.ref w_CANCELED)])) rfl (by rw [hml]; rfl) (lenOf own_pd0 rfl) rfl (by show 2 * 0 + _ ≤ _; exact Nat.le_of_eq rfl) (hb hby at_84) e43 (by decide) (by decide)
            refine own_go (T2 := T44) (g2 := (mkF m 87 #[.val (.int p0), .val (.int (4 : Int32)), .val (.ref w_CANCELED), .val (.int (0 : Int32))] [(.int (own_f28 w_CANCELED w_ENTERED w_CANCELED))])) st44 ?_
            rw [show (own_f28 w_CANCELED w_ENTERED w_CANCELED) = (0 : Int32) from by first | rfl | rw [own_f28, if_neg (show ¬ (w_CANCELED = w_ENTERED) from (Fld.ne F_ordinal_w_CANCELED F_ordinal_w_ENTERED (by decide))), if_pos (show w_CANCELED = w_CANCELED from rfl)] | simp only [own_f28, if_neg (show ¬ (w_CANCELED = w_ENTERED) from (Fld.ne F_ordinal_w_CANCELED F_ordinal_w_ENTERED (by decide))), if_pos (show w_CANCELED = w_CANCELED from rfl)]]
            refine own_go (T2 := T44) (g2 := (mkF m 88 #[.val (.int p0), .val (.int (4 : Int32)), .val (.ref w_CANCELED), .val (.int (0 : Int32))] [(.int (0 : Int32)), (.int (0 : Int32))])) (fun t k => XS.iloadN X44.here hx rfl (hb hby at_87) rfl  k) ?_
            refine own_go (T2 := T44) (g2 := (mkF m 91 #[.val (.int p0), .val (.int (4 : Int32)), .val (.ref w_CANCELED), .val (.int (0 : Int32))] [])) (fun t k => XS.icmpNo X44.here hx rfl (hb hby at_88) rfl (teq (show (0 : Int32) = (0 : Int32) from (by decide))).2 k) ?_
            refine own_go (T2 := T44) (g2 := (mkF m 92 #[.val (.int p0), .val (.int (4 : Int32)), .val (.ref w_CANCELED), .val (.int (0 : Int32))] [(.int (1 : Int32))])) (fun t k => XS.iconst X44.here hx rfl (hb hby at_91) k) ?_
            refine own_go (T2 := T44) (g2 := (mkF m 96 #[.val (.int p0), .val (.int (4 : Int32)), .val (.ref w_CANCELED), .val (.int (0 : Int32))] [(.int (1 : Int32))])) (fun t k => XS.goto X44.here hx rfl (pc0 := 92) (pc' := 96) rfl (hb hby at_92) (by decide) (by decide) k) ?_
            exact own_endN X44 hx Bd.notSynchronized (t := .boolean) Bd.returns (by simp) (hb hby at_96) (z' := (1 : Int32)) rfl (by decide) (by decide) ⟨rfl, Fr.nil _⟩
          · refine own_go (T2 := s₁) (g2 := (mkF m 77 #[.val (.int p0), .val (.int k24), .unset, .unset] [])) (fun t k => XS.icmpYes X0.here hx rfl (pc0 := 65) (pc' := 77) rfl (hb hby at_65) rfl (feq (show ¬ (k24 = (4 : Int32)) from hc42)).2 (by decide) (by decide) k) ?_
            obtain ⟨T45, X45, e45, st45⟩ := getS2 X0 hx hZ hown (host := "") (Or.inl (own_wd hw 16 rfl)) Via.refl e0 S_w_TERMINATED (g := (mkF m 77 #[.val (.int p0), .val (.int k24), .unset, .unset] [])) rfl (hb hby at_77)
            refine own_go (T2 := T45) (g2 := (mkF m 80 #[.val (.int p0), .val (.int k24), .unset, .unset] [(.ref w_TERMINATED)])) st45 ?_
            refine own_go (T2 := T45) (g2 := (mkF m 81 #[.val (.int p0), .val (.int k24), .val (.ref w_TERMINATED), .unset] [])) (fun t k => XS.astoreN X45.here hx rfl (hb hby at_80) rfl rfl (l' := #[.val (.int p0), .val (.int k24), .val (.ref w_TERMINATED), .unset]) rfl k) ?_
            refine own_go (T2 := T45) (g2 := (mkF m 82 #[.val (.int p0), .val (.int k24), .val (.ref w_TERMINATED), .unset] [(.int (1 : Int32))])) (fun t k => XS.iconst X45.here hx rfl (hb hby at_81) k) ?_
            refine own_go (T2 := T45) (g2 := (mkF m 83 #[.val (.int p0), .val (.int k24), .val (.ref w_TERMINATED), .val (.int (1 : Int32))] [])) (fun t k => XS.istoreN X45.here hx rfl (hb hby at_82) rfl (l' := #[.val (.int p0), .val (.int k24), .val (.ref w_TERMINATED), .val (.int (1 : Int32))]) rfl k) ?_
            refine own_go (T2 := T45) (g2 := (mkF m 84 #[.val (.int p0), .val (.int k24), .val (.ref w_TERMINATED), .val (.int (1 : Int32))] [(.ref w_TERMINATED)])) (fun t k => XS.aloadN X45.here hx rfl (hb hby at_83) rfl rfl k) ?_
            obtain ⟨_, T46, _, X46, ⟨rfl, rfl, e46⟩, st46⟩ := own_static X45 hx hZ (y := (⟨"com/example/termwise/termwise/ContractStatus", "holdsTerm", "(Lcom/example/termwise/termwise/ContractStatus;)Z"⟩ : MethodName)) hown (own_wd hw 4 rfl) (own_wd hw 5 rfl) (own_wd hw 2 rfl) (own_wd hw 6 rfl) (by decide) 0 (argsL := [(.ref w_TERMINATED)]) (rest := []) (own_rm28 l Z a0 hw h0 w_TERMINATED w_ENTERED w_CANCELED S_w_ENTERED S_w_CANCELED) (by decide) (by decide) (g := (mkF m 84 #[.val (.int p0), .val (.int k24), .val (.ref w_TERMINATED), .val (.int (1 : Int32))] [(.ref w_TERMINATED)])) rfl (by rw [hml]; rfl) (lenOf own_pd0 rfl) rfl (by show 2 * 0 + _ ≤ _; exact Nat.le_of_eq rfl) (hb hby at_84) e45 (by decide) (by decide)
            refine own_go (T2 := T46) (g2 := (mkF m 87 #[.val (.int p0), .val (.int k24), .val (.ref w_TERMINATED), .val (.int (1 : Int32))] [(.int (own_f28 w_TERMINATED w_ENTERED w_CANCELED))])) st46 ?_
            rw [show (own_f28 w_TERMINATED w_ENTERED w_CANCELED) = (1 : Int32) from by first | rfl | rw [own_f28, if_neg (show ¬ (w_TERMINATED = w_ENTERED) from (Fld.ne F_ordinal_w_TERMINATED F_ordinal_w_ENTERED (by decide))), if_neg (show ¬ (w_TERMINATED = w_CANCELED) from (Fld.ne F_ordinal_w_TERMINATED F_ordinal_w_CANCELED (by decide)))] | simp only [own_f28, if_neg (show ¬ (w_TERMINATED = w_ENTERED) from (Fld.ne F_ordinal_w_TERMINATED F_ordinal_w_ENTERED (by decide))), if_neg (show ¬ (w_TERMINATED = w_CANCELED) from (Fld.ne F_ordinal_w_TERMINATED F_ordinal_w_CANCELED (by decide)))]]
            refine own_go (T2 := T46) (g2 := (mkF m 88 #[.val (.int p0), .val (.int k24), .val (.ref w_TERMINATED), .val (.int (1 : Int32))] [(.int (1 : Int32)), (.int (1 : Int32))])) (fun t k => XS.iloadN X46.here hx rfl (hb hby at_87) rfl  k) ?_
            refine own_go (T2 := T46) (g2 := (mkF m 91 #[.val (.int p0), .val (.int k24), .val (.ref w_TERMINATED), .val (.int (1 : Int32))] [])) (fun t k => XS.icmpNo X46.here hx rfl (hb hby at_88) rfl (teq (show (1 : Int32) = (1 : Int32) from (by decide))).2 k) ?_
            refine own_go (T2 := T46) (g2 := (mkF m 92 #[.val (.int p0), .val (.int k24), .val (.ref w_TERMINATED), .val (.int (1 : Int32))] [(.int (1 : Int32))])) (fun t k => XS.iconst X46.here hx rfl (hb hby at_91) k) ?_
            refine own_go (T2 := T46) (g2 := (mkF m 96 #[.val (.int p0), .val (.int k24), .val (.ref w_TERMINATED), .val (.int (1 : Int32))] [(.int (1 : Int32))])) (fun t k => XS.goto X46.here hx rfl (pc0 := 92) (pc' := 96) rfl (hb hby at_92) (by decide) (by decide) k) ?_
            exact own_endN X46 hx Bd.notSynchronized (t := .boolean) Bd.returns (by simp) (hb hby at_96) (z' := (1 : Int32)) rfl (by decide) (by decide) ⟨rfl, Fr.nil _⟩
set_option maxRecDepth 65536 in
set_option maxHeartbeats 40000000 in
theorem comes_1 {Post : Tables → Env → Array Value → State → Outcome → State → Prop} (hpost : ∀ tb e args s v u, (limb_1_1.after args s (.returned v) u = true ∧ limb_1_2.after args s (.returned v) u = true ∧ True) → FrameEnd s (.returned v) u (Jvm.fieldLocs frame_1_writes args s ++ Jvm.arrayLocs frame_1_arrays args s ++ Jvm.staticLocs frame_1_statics s) 0 0 → Post tb e args s (.returned v) u) :
    ArmFor flags0 classFile x code maxLocals ret World_1 tables_1 room_1 Calls_1 rest_1 Pre_1 Post := by
  intro l hfl _ _ p e ha hc hk s m args below hf hA hF happ hP
  obtain ⟨hcalls, hrest, hpre⟩ := hP
  obtain ⟨-, -, -, hnamed, -, -, -, hat⟩ := (Spec.applies_iff hf).mp happ
  obtain ⟨hg, hn⟩ := and_e (Cond.before_iff.mp (show (Jvm.Cond.and given_1 narrow_1).before args s = true from hpre))
  obtain ⟨g47, g48⟩ := and_e hg
  obtain ⟨w0, rfl⟩ : ∃ w0 : Value, args = #[w0] := by
    have hs : args.size = 1 := by simpa [Cond.value, given_1] using g47
    obtain ⟨L⟩ := args
    match L, hs with
    | [w0], _ => exact ⟨w0, rfl⟩
  have hw := fun d (hd : d ∈ tables_1) => atoms_spec (ws := Jvm.Cond.code x code maxLocals ret :: tables_1) hat d (List.mem_cons_of_mem _ hd)
  have hfit : Fit s := fun {y c} hc i hi => by
    obtain ⟨ha, rfl⟩ := Array.getElem?_eq_some_iff.mp hc
    have q := List.all_eq_true.mp ((Array.all_eq_true_iff_forall_mem.mp hF) _ (Array.getElem_mem ha)) i (List.mem_range.mpr hi)
    simpa [Array.getElem?_eq_getElem hi] using q
  obtain ⟨i0, ei0⟩ := is_v g48
  obtain rfl : w0 = (.int i0) := Option.some.inj ei0
  obtain ⟨n2, n3⟩ := and_e hn
  obtain ⟨n4, n5⟩ := and_e n3
  obtain ⟨n6, n7⟩ := and_e n5
  obtain ⟨n8, n9⟩ := and_e n7
  obtain ⟨n10, n11⟩ := and_e n9
  obtain ⟨n12, n13⟩ := and_e n11
  obtain ⟨n14, n15⟩ := and_e n13
  obtain ⟨n16, n17⟩ := and_e n15
  obtain ⟨n18, n19⟩ := and_e n17
  obtain ⟨n20, n21⟩ := and_e n19
  obtain ⟨n22, n23⟩ := and_e n21
  obtain ⟨w_ENTERED, ev_w_ENTERED⟩ := exa_v n2
  obtain ⟨w_EXPIRED, ev_w_EXPIRED⟩ := exa_v n4
  obtain ⟨w_CANCELED, ev_w_CANCELED⟩ := exa_v n10
  obtain ⟨w_ACTIVE, ev_w_ACTIVE⟩ := exa_v n14
  obtain ⟨w_SIGNED, ev_w_SIGNED⟩ := exa_v n18
  obtain ⟨w_TERMINATED, ev_w_TERMINATED⟩ := exa_v n22
  obtain ⟨n, o, h1, h2, h3, _, L, rfl, ⟨rfl, N⟩, hq⟩ := own_rm0 l s _ hw tables_1 s.heap s.heap.size (Nat.le_refl _) i0 w_ENTERED w_EXPIRED w_CANCELED w_ACTIVE w_SIGNED w_TERMINATED (Sta.start ev_w_ENTERED (Or.inr ⟨(own_wd hw 2 rfl), (own_wd hw 3 rfl)⟩))
    (Exa.start ev_w_ENTERED n2)
    (Sta.start ev_w_EXPIRED (Or.inr ⟨(own_wd hw 2 rfl), (own_wd hw 9 rfl)⟩))
    (Exa.start ev_w_EXPIRED n4)
    (Sta.start ev_w_CANCELED (Or.inr ⟨(own_wd hw 2 rfl), (own_wd hw 11 rfl)⟩))
    (Exa.start ev_w_CANCELED n10)
    (Sta.start ev_w_ACTIVE (Or.inr ⟨(own_wd hw 2 rfl), (own_wd hw 13 rfl)⟩))
    (Exa.start ev_w_ACTIVE n14)
    (Sta.start ev_w_SIGNED (Or.inr ⟨(own_wd hw 2 rfl), (own_wd hw 15 rfl)⟩))
    (Exa.start ev_w_SIGNED n18)
    (Sta.start ev_w_TERMINATED (Or.inr ⟨(own_wd hw 2 rfl), (own_wd hw 17 rfl)⟩))
    (Exa.start ev_w_TERMINATED n22)
    (own_fldI ev_w_EXPIRED n6)
    (own_fldI ev_w_ENTERED n8)
    (own_fldI ev_w_CANCELED n12)
    (own_fldI ev_w_ACTIVE n16)
    (own_fldI ev_w_SIGNED n20)
    (own_fldI ev_w_TERMINATED n23) p e ha hc hk s m _ below hf ((Spec.applies_iff_loose hf).mp happ).1 ⟨rfl, State.Warmed39.refl s, rfl⟩ trivial
  refine ⟨n, _, h1, h2, h3, hpost _ _ _ _ _ _ ⟨Cond.after_iff.mpr rfl, Cond.after_iff.mpr (eq_i res_at (Term.int_eval (1)) rfl), trivial⟩ ⟨hq.1, hq.2.1, (hq.2.2.sift fun y hy => Or.inr (N y hy)).mono (by decide) (by decide)⟩⟩
theorem main_1_1 : Claimed_1_1 := comes_1 fun _ _ _ _ _ _ h hF => ⟨h.1, hF⟩
theorem main_1_2 : Claimed_1_2 := comes_1 fun _ _ _ _ _ _ h hF => ⟨h.2.1, hF⟩
end Jvm.Pilot.@@N@@
namespace Jvm.Pilot.@@N@@
open Jvm Jvm.ClassFile Sem Op Lib Jvm.Free Jvm.Stand Jvm.Pilot.@@N@@.Jvm.D
/-! MADE BY PROGRAM (witnessworld.py) out of the Statement's table words and the real class files: 12 classes; the members and pool entries that the words name. The judged class is class 1, her method 1. -/
namespace start1
open Jvm.ClassFile
def u (s : String) : CpInfo := .utf8 (stringToUtf16 s)
/-- a pool by its gaps: so many unusable entries, then the entry; so many at the end -/
def gap : Nat → List CpInfo → List CpInfo
  | 0, r => r
  | n + 1, r => .unusable :: gap n r
def poolList (es : List (Nat × CpInfo)) (last : Nat) : List CpInfo := es.foldr (fun e r => gap e.1 (e.2 :: r)) (gap last [])
def pool (es : List (Nat × CpInfo)) (last : Nat) : Array CpInfo := ⟨poolList es last⟩
def fileOf (pool : Array CpInfo) (this : Nat) (attrs : Array Attribute := #[]) (ms : Array MethodInfo := #[]) (fl : Nat := 33) (sup : Nat := 0) (ifs : Array Nat := #[]) (fds : Array FieldInfo := #[]) : ClassFile where
  minorVersion := 0
  majorVersion := 65
  constantPool := pool
  accessFlags := fl
  thisClass := this
  superClass := sup
  interfaces := ifs
  fields := fds
  methods := ms
  attributes := attrs
def plain (name : String) (sup : Option ClassId) : Class where
  name := name
  kind := .ordinary
  loader := none
  accessFlags := 33
  super := sup
  interfaces := #[]
  cf := none
  fields := #[]
  methods := #[]
  instanceTypes := #[]
  staticTypes := #[]
  resolved := #[]
  callSites := []
  init := .initialized
  statics := none
  mirror := none

def pool0 : Array CpInfo := pool [(5, u "<init>"), (0, u "()V"), (1, .class_ 10), (1, u "java/lang/Object")] 113

def k0m0 : Method := { name := "<init>", desc := "()V", sig := { parameters := [], returnType := none }, accessFlags := 1, code := none }
/-- java/lang/Object -/
def k0 : Class := { plain "java/lang/Object" none with
  accessFlags := 33
  interfaces := #[]
  cf := some (fileOf pool0 8 #[] #[{ accessFlags := 1, nameIndex := 5, descriptorIndex := 6, attributes := #[] }] 33 0 #[] #[])
  fields := #[]
  methods := #[k0m0]
  instanceTypes := #[]
  staticTypes := #[]
  resolved := Array.replicate 124 none
  statics := none }

def pool1 : Array CpInfo := pool [(2, .class_ 4), (1, u "java/lang/Object"), (0, u "<init>"), (0, u "()V"), (0, .integer 2147483647), (0, .fieldref 9 10), (0, .class_ 11), (0, .nameAndType 12 13), (0, u "com/example/termwise/termwise/ContractStatus"), (0, u "ENTERED"), (0, u "Lcom/example/termwise/termwise/ContractStatus;"), (0, .fieldref 9 15), (0, .nameAndType 16 13), (0, u "SIGNED"), (0, .fieldref 9 18), (0, .nameAndType 19 13), (0, u "ACTIVE"), (0, .fieldref 9 21), (0, .nameAndType 22 13), (0, u "EXPIRED"), (0, .fieldref 9 24), (0, .nameAndType 25 13), (0, u "CANCELED"), (0, .fieldref 9 27), (0, .nameAndType 28 13), (0, u "TERMINATED"), (0, .methodref 9 30), (0, .nameAndType 31 32), (0, u "holdsTerm"), (0, u "(Lcom/example/termwise/termwise/ContractStatus;)Z"), (0, .class_ 34), (0, u "com/example/termwise/termwise/ContractStatusHoldsTermPinLaw"), (2, u "law"), (0, u "(I)Z")] 3

def k1m0 : Method := { name := "<init>", desc := "()V", sig := { parameters := [], returnType := none }, accessFlags := 2, code := none }
def k1c1 : Code := { maxStack := 2, maxLocals := 4, code := code, exceptionTable := #[], attributes := #[] }
def k1m1 : Method := { name := "law", desc := "(I)Z", sig := { parameters := [.int], returnType := some .boolean }, accessFlags := 9, code := some k1c1 }
/-- com/example/termwise/termwise/ContractStatusHoldsTermPinLaw -/
def k1 : Class := { plain "com/example/termwise/termwise/ContractStatusHoldsTermPinLaw" (some 0) with
  accessFlags := 49
  interfaces := #[]
  cf := some (fileOf pool1 33 #[] #[{ accessFlags := 2, nameIndex := 5, descriptorIndex := 6, attributes := #[] }, { accessFlags := 9, nameIndex := 37, descriptorIndex := 38, attributes := #[] }] 49 2 #[] #[])
  fields := #[]
  methods := #[k1m0, k1m1]
  instanceTypes := #[]
  staticTypes := #[]
  resolved := Array.replicate 42 none
  statics := none }

def pool2 : Array CpInfo := pool [(1, .class_ 2), (0, u "java/lang/constant/Constable"), (0, .class_ 4), (0, u "java/lang/Object")] 6

/-- java/lang/constant/Constable -/
def k2 : Class := { plain "java/lang/constant/Constable" (some 0) with
  accessFlags := 1537
  interfaces := #[]
  cf := some (fileOf pool2 1 #[] #[] 1537 3 #[] #[])
  fields := #[]
  methods := #[]
  instanceTypes := #[]
  staticTypes := #[]
  resolved := Array.replicate 11 none
  statics := none }

def pool3 : Array CpInfo := pool [(1, .class_ 2), (0, u "java/lang/Comparable"), (0, .class_ 4), (0, u "java/lang/Object")] 7

/-- java/lang/Comparable -/
def k3 : Class := { plain "java/lang/Comparable" (some 0) with
  accessFlags := 1537
  interfaces := #[]
  cf := some (fileOf pool3 1 #[] #[] 1537 3 #[] #[])
  fields := #[]
  methods := #[]
  instanceTypes := #[]
  staticTypes := #[]
  resolved := Array.replicate 12 none
  statics := none }

def pool4 : Array CpInfo := pool [(1, .class_ 2), (0, u "java/io/Serializable"), (0, .class_ 4), (0, u "java/lang/Object")] 2

/-- java/io/Serializable -/
def k4 : Class := { plain "java/io/Serializable" (some 0) with
  accessFlags := 1537
  interfaces := #[]
  cf := some (fileOf pool4 1 #[] #[] 1537 3 #[] #[])
  fields := #[]
  methods := #[]
  instanceTypes := #[]
  staticTypes := #[]
  resolved := Array.replicate 7 none
  statics := none }

def pool5 : Array CpInfo := pool [(2, .class_ 4), (1, u "java/lang/Enum"), (0, u "name"), (0, u "Ljava/lang/String;"), (2, u "ordinal"), (0, u "I"), (1, .class_ 14), (1, u "java/lang/Object"), (4, u "hash"), (86, .class_ 108), (1, u "java/lang/Enum$EnumDesc"), (2, .class_ 112), (0, u "java/lang/constant/Constable"), (0, .class_ 114), (0, u "java/lang/Comparable"), (0, .class_ 116), (0, u "java/io/Serializable")] 87

/-- java/lang/Enum -/
def k5 : Class := { plain "java/lang/Enum" (some 0) with
  accessFlags := 1057
  interfaces := #[2, 3, 4]
  cf := some (fileOf pool5 2 #[.nestMembers #[106]] #[] 1057 12 #[111, 113, 115] #[{ accessFlags := 18, nameIndex := 5, descriptorIndex := 6, attributes := #[] }, { accessFlags := 18, nameIndex := 9, descriptorIndex := 10, attributes := #[] }, { accessFlags := 2, nameIndex := 19, descriptorIndex := 10, attributes := #[] }])
  fields := #[{ name := "name", type := (.object "java/lang/String"), accessFlags := 18, slot := 0, constantValue := 0 }, { name := "ordinal", type := .int, accessFlags := 18, slot := 1, constantValue := 0 }, { name := "hash", type := .int, accessFlags := 2, slot := 2, constantValue := 0 }]
  methods := #[]
  instanceTypes := #[(.object "java/lang/String"), .int, .int]
  staticTypes := #[]
  resolved := Array.replicate 204 none
  statics := none }

def pool6 : Array CpInfo := pool [(1, .class_ 2), (0, u "com/example/termwise/termwise/ContractStatus"), (0, .fieldref 1 4), (0, .nameAndType 5 6), (0, u "ENTERED"), (0, u "Lcom/example/termwise/termwise/ContractStatus;"), (2, u "SIGNED"), (2, u "ACTIVE"), (2, u "EXPIRED"), (0, .fieldref 1 17), (0, .nameAndType 18 6), (0, u "CANCELED"), (2, u "TERMINATED"), (2, u "$VALUES"), (0, u "[Lcom/example/termwise/termwise/ContractStatus;"), (6, .class_ 34), (1, u "java/lang/Enum"), (8, u "label"), (0, u "Ljava/lang/String;"), (33, u "holdsTerm"), (0, u "(Lcom/example/termwise/termwise/ContractStatus;)Z")] 6

def k6c0 : Code := { maxStack := 2, maxLocals := 1, code := prog_8_method_5_code, exceptionTable := #[], attributes := #[] }
def k6m0 : Method := { name := "holdsTerm", desc := "(Lcom/example/termwise/termwise/ContractStatus;)Z", sig := { parameters := [(.object "com/example/termwise/termwise/ContractStatus")], returnType := some .boolean }, accessFlags := 8, code := some k6c0 }
/-- com/example/termwise/termwise/ContractStatus -/
def k6 : Class := { plain "com/example/termwise/termwise/ContractStatus" (some 5) with
  accessFlags := 16433
  interfaces := #[]
  cf := some (fileOf pool6 1 #[] #[{ accessFlags := 8, nameIndex := 78, descriptorIndex := 79, attributes := #[] }] 16433 32 #[] #[{ accessFlags := 16409, nameIndex := 5, descriptorIndex := 6, attributes := #[] }, { accessFlags := 16409, nameIndex := 9, descriptorIndex := 6, attributes := #[] }, { accessFlags := 16409, nameIndex := 12, descriptorIndex := 6, attributes := #[] }, { accessFlags := 16409, nameIndex := 15, descriptorIndex := 6, attributes := #[] }, { accessFlags := 16409, nameIndex := 18, descriptorIndex := 6, attributes := #[] }, { accessFlags := 16409, nameIndex := 21, descriptorIndex := 6, attributes := #[] }, { accessFlags := 18, nameIndex := 43, descriptorIndex := 44, attributes := #[] }, { accessFlags := 4122, nameIndex := 24, descriptorIndex := 25, attributes := #[] }])
  fields := #[{ name := "ENTERED", type := (.object "com/example/termwise/termwise/ContractStatus"), accessFlags := 16409, slot := 0, constantValue := 0 }, { name := "SIGNED", type := (.object "com/example/termwise/termwise/ContractStatus"), accessFlags := 16409, slot := 1, constantValue := 0 }, { name := "ACTIVE", type := (.object "com/example/termwise/termwise/ContractStatus"), accessFlags := 16409, slot := 2, constantValue := 0 }, { name := "EXPIRED", type := (.object "com/example/termwise/termwise/ContractStatus"), accessFlags := 16409, slot := 3, constantValue := 0 }, { name := "CANCELED", type := (.object "com/example/termwise/termwise/ContractStatus"), accessFlags := 16409, slot := 4, constantValue := 0 }, { name := "TERMINATED", type := (.object "com/example/termwise/termwise/ContractStatus"), accessFlags := 16409, slot := 5, constantValue := 0 }, { name := "label", type := (.object "java/lang/String"), accessFlags := 18, slot := 3, constantValue := 0 }, { name := "$VALUES", type := (.array (.object "com/example/termwise/termwise/ContractStatus")), accessFlags := 4122, slot := 6, constantValue := 0 }]
  methods := #[k6m0]
  instanceTypes := #[(.object "java/lang/String"), .int, .int, (.object "java/lang/String")]
  staticTypes := #[(.object "com/example/termwise/termwise/ContractStatus"), (.object "com/example/termwise/termwise/ContractStatus"), (.object "com/example/termwise/termwise/ContractStatus"), (.object "com/example/termwise/termwise/ContractStatus"), (.object "com/example/termwise/termwise/ContractStatus"), (.object "com/example/termwise/termwise/ContractStatus"), (.array (.object "com/example/termwise/termwise/ContractStatus"))]
  resolved := Array.replicate 86 none
  statics := some 0 }

def pool7 : Array CpInfo := pool [(1, u "java/lang/Cloneable"), (0, .class_ 1), (0, u "java/lang/Object"), (0, .class_ 3)] 3

/-- java/lang/Cloneable -/
def k7 : Class := { plain "java/lang/Cloneable" (some 0) with
  accessFlags := 1537
  interfaces := #[]
  cf := some (fileOf pool7 2 #[] #[] 1537 4 #[] #[])
  fields := #[]
  methods := #[]
  instanceTypes := #[]
  staticTypes := #[]
  resolved := Array.replicate 8 none
  statics := none }

/-- the primitive byte -/
def k8 : Class := { plain "byte" none with kind := .primitive 'B', accessFlags := 0x411 }
/-- [B -/
def k9 : Class := { plain "[B" (some 0) with kind := .array 8 .byte, interfaces := #[7, 4], accessFlags := 1041 }

/-- the primitive int -/
def k10 : Class := { plain "int" none with kind := .primitive 'I', accessFlags := 0x411 }
/-- [I -/
def k11 : Class := { plain "[I" (some 0) with kind := .array 10 .int, interfaces := #[7, 4], accessFlags := 1041 }

def heap : Heap := #[{ cls := 6, slots := #[.ref 1, .ref 5, .ref 4, .ref 2, .ref 3, .ref 6, .null], vm := .statics 6 },
  { cls := 6, slots := #[.null, .int (0), .int (0), .null], vm := .none },
  { cls := 6, slots := #[.null, .int (3), .int (0), .null], vm := .none },
  { cls := 6, slots := #[.null, .int (4), .int (0), .null], vm := .none },
  { cls := 6, slots := #[.null, .int (2), .int (0), .null], vm := .none },
  { cls := 6, slots := #[.null, .int (1), .int (0), .null], vm := .none },
  { cls := 6, slots := #[.null, .int (5), .int (0), .null], vm := .none }]
def classes : Array Class := #[k0, k1, k2, k3, k4, k5, k6, k7, k8, k9, k10, k11]
def interned : List (Array UInt16 × Addr) := []
def slotsUsed : Nat := 31
def theMethod : MethodId := ⟨1, 1⟩
def args0 : Array Value := #[.int 5]
def aboutOver (below : List Frame) : State where
  vm := { classes := classes, interned := interned.toArray }
  heap := heap
  slotsUsed := slotsUsed
  threads := #[{ frames := .invoking theMethod args0 :: below }]
def below0 : List Frame := [.native { method := ⟨0, 0⟩, args := #[] }]
def about1 : State := aboutOver below0
def p0 : Program := .bare "" "" ""
def e0 : Env := launch0.env 0 0 0
theorem w_frames : about1.frames = Frame.invoking theMethod args0 :: below0 := rfl
set_option maxRecDepth 65536 in
theorem w_args : argsFit about1.vm theMethod args0 = true := by decide +kernel
set_option maxRecDepth 65536 in
theorem w_heap : heapFits about1 = true := by decide +kernel
set_option maxRecDepth 65536 in
theorem w_runnable : about1.curStatus? = some .runnable := by decide +kernel
set_option maxRecDepth 65536 in
theorem w_alone : about1.alone = true := by decide +kernel
set_option maxRecDepth 65536 in
theorem w_named : about1.methodNamed? x = some theMethod := by decide +kernel
set_option maxRecDepth 65536 in
theorem w_hears : about1.hears theMethod below0 = true := by decide +kernel
set_option maxRecDepth 65536 in
theorem w_ripe : about1.ripe theMethod args0 below0 = true := by decide +kernel
theorem w_running : about1.status = .running := rfl
set_option maxRecDepth 65536 in
theorem w_room : about1.hasRoom e0.platform room_1 = true :=
  launch0.hasRoom_least _ room_1 (by decide +kernel) (by decide +kernel) (by decide +kernel) (by decide +kernel) (by decide +kernel) (by decide +kernel)
theorem allAtoms_all (ts : List Jvm.Cond) (a : Array Jvm.Value) (st : Jvm.State) : (allAtoms ts).before a st = ts.all (fun c => c.before a st) := by
  induction ts with
  | nil => rfl
  | cons c t ih =>
    show (Jvm.Cond.and c (allAtoms t)).before a st = _
    rw [Jvm.Cond.before_and, ih, List.all_cons]
def words1 : List Jvm.Cond := Jvm.Cond.code x code maxLocals ret :: tables_1
/-- a 'code' word, met by the world's own term for the bytes: nothing is compared byte by byte -/
theorem code_word {y : MethodName} {bytes : ByteArray} {mx : Nat} {rt : Option FieldType} {a : Array Value} {s : State} {m : MethodId} {meth : Method} {c : Code} (h1 : s.methodNamed? y = some m) (h2 : s.vm.method? m = some meth) (h3 : meth.code = some c) (h4 : c.code = bytes)
    (h5 : (c.maxLocals == mx && c.exceptionTable.isEmpty && decide (c.maxStack ≤ mostOperands) && decide (meth.sig.returnType = rt) && !meth.locks && decide (parseMethodDescriptor y.desc = some meth.sig)) = true) : (Jvm.Cond.code y bytes mx rt).before a s = true := by
  simp only [Bool.and_eq_true, beq_iff_eq, Bool.not_eq_true', decide_eq_true_eq] at h5
  obtain ⟨⟨⟨⟨⟨g1, g2⟩, g3⟩, g4⟩, g5⟩, g6⟩ := h5
  simp [Cond.before, Cond.holds, Cond.value, h1, h2, h3, h4, g1, g2, g3, g4, g5, g6]
def isCode : Jvm.Cond → Bool
  | .code _ _ _ _ => true
  | _ => false
theorem all_split {L : List Jvm.Cond} {P : Jvm.Cond → Bool} (h1 : L.all (fun c => isCode c || P c) = true) (h2 : ∀ c ∈ L.filter isCode, P c = true) : L.all P = true := by
  refine List.all_eq_true.mpr fun c hc => ?_
  have h := List.all_eq_true.mp h1 c hc
  rcases Bool.eq_false_or_eq_true (isCode c) with hi | hi
  · exact h2 c (List.mem_filter.mpr ⟨hc, hi⟩)
  · simpa [hi] using h
set_option maxRecDepth 65536 in
theorem w_c0 : (Jvm.Cond.code x code maxLocals ret).before args0 about1 = true := code_word (m := ⟨1, 1⟩) (meth := k1m1) (c := k1c1) (by decide +kernel) rfl rfl rfl (by decide +kernel)
set_option maxRecDepth 65536 in
theorem w_c1 : (Jvm.Cond.code ({ cls := "com/example/termwise/termwise/ContractStatus", name := "holdsTerm", desc := "(Lcom/example/termwise/termwise/ContractStatus;)Z" } : Jvm.MethodName) prog_8_method_5_code (1 : Nat) (Option.some Jvm.ClassFile.FieldType.boolean)).before args0 about1 = true := code_word (m := ⟨6, 0⟩) (meth := k6m0) (c := k6c0) (by decide +kernel) rfl rfl rfl (by decide +kernel)
def codes1 : List Jvm.Cond := [Jvm.Cond.code x code maxLocals ret, Jvm.Cond.code ({ cls := "com/example/termwise/termwise/ContractStatus", name := "holdsTerm", desc := "(Lcom/example/termwise/termwise/ContractStatus;)Z" } : Jvm.MethodName) prog_8_method_5_code (1 : Nat) (Option.some Jvm.ClassFile.FieldType.boolean)]
set_option maxRecDepth 65536 in
theorem codes_eq : words1.filter isCode = codes1 := rfl
theorem w_codes : ∀ c ∈ words1.filter isCode, c.before args0 about1 = true := by
  rw [codes_eq]
  intro c hc
  simp only [codes1, List.mem_cons, List.not_mem_nil, or_false] at hc
  rcases hc with rfl | rfl
  · exact w_c0
  · exact w_c1
set_option maxRecDepth 65536 in
theorem w_t1 : words1.all (fun c => isCode c || c.before args0 about1) = true := by decide +kernel
theorem w_tables : (allAtoms (Jvm.Cond.code x code maxLocals ret :: tables_1)).before args0 about1 = true := by
  rw [allAtoms_all]
  show words1.all (fun c => c.before args0 about1) = true
  refine all_split ?_ w_codes
  rw [w_t1]
set_option maxRecDepth 65536 in
theorem w_case : (Jvm.Cond.and given_1 narrow_1).before args0 about1 = true := by decide +kernel
theorem w_applies : (headSpec (Jvm.Cond.code x code maxLocals ret :: tables_1) room_1).applies x e0.platform about1 = true :=
  (Spec.applies_iff w_frames).mpr ⟨w_running, w_runnable, w_alone, w_named, w_hears, w_ripe, w_room, w_tables⟩
theorem atStart : AtStart classFile x code maxLocals ret World_1 tables_1 room_1 Calls_1 rest_1 Pre_1 launch0 p0 e0 about1 theMethod args0 below0 :=
  ⟨lists_1, trivial, launch0.admits_env _ _ _, launch0.least_env, fairChoices_fair.cas, fairChoices_fair.clock, w_frames, w_args, w_heap, w_applies, trivial, trivial, w_case⟩
end start1
theorem witness_1 : WitnessClaimed_1 := ⟨start1.p0, start1.e0, start1.about1, start1.theMethod, start1.args0, start1.below0, start1.atStart⟩
end Jvm.Pilot.@@N@@
