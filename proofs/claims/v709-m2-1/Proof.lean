import JvmDerived
import JvmDerived.Pilot.@@N@@Statement
import JvmDerived.Pilot.@@N@@Code
set_option linter.unusedVariables false
set_option linter.unusedSimpArgs false
namespace Jvm.Pilot.@@N@@
open Jvm Jvm.ClassFile Sem Op Lib Jvm.Free Jvm.Stand Jvm.LawKit Jvm.RoadKit Bundle Jvm.Pilot.@@N@@.Jvm.D

section Own
variable {p : Program} {l : Launch} {e : Env} {R : Room} {s : State} {m : MethodId} {args : Array Value} {below : List Frame} {meth : Method} {c : Code} {T : State} {locs : List Loc} {cells slots : Nat} {Z : State} {a0 : Array Value} {h h' : Heap} {Q : Option Value → Heap → List Loc → Prop} {C N : Nat}
/-- the run from F comes to the method's end, and Q holds of what it returns, of the heap and of the slots written -/
def own_Go (p : Program) (e : Env) (below : List Frame) (s : State) (Q : Option Value → Heap → List Loc → Prop) (C N : Nat) (F : State) : Prop :=
  ∃ s₂ o, Steps p.tables e below F s₂ ∧ s₂.status = .running ∧ Ended s₂ below o ∧ ∃ v L, o = .returned v ∧ Q v s₂.heap L ∧ FrameEnd s o s₂ L C N
theorem own_via {F F' : State} (k : ∀ t, Steps p.tables e below F' t → Steps p.tables e below F t) (h : own_Go p e below s Q C N F') : own_Go p e below s Q C N F := by
  obtain ⟨s₂, o, h1, r⟩ := h
  exact ⟨s₂, o, k _ h1, r⟩
/-- a method's contract: from the arguments as' and the heap h0 it returns, and Q holds -/
def own_Con (l : Launch) (Z : State) (y : MethodName) (bytes : ByteArray) (maxL : Nat) (ret : Option FieldType) (rm : Room) (as' : Array Value) (h0 : Heap) (Q : Option Value → Heap → List Loc → Prop) : Prop :=
  ∀ ws : List Jvm.Cond, MetFree l y (head1 (Jvm.Cond.code y bytes maxL ret :: ws) rm) (fun a U => a = as' ∧ Z.Warmed39 U.vm ∧ U.heap = h0) (fun _ _ _ _ _ => True) (fun _ U o U' => ∃ v L, o = .returned v ∧ Q v U'.heap L ∧ FrameEnd U o U' L rm.cells rm.slots)
theorem own_con {y : MethodName} {bytes : ByteArray} {maxL : Nat} {ret : Option FieldType} {rm : Room} {as' : Array Value} {h0 : Heap} (hp : plainName y.cls = true)
    (body : ∀ (p : Program) (e : Env) (s : State) (m : MethodId) (below : List Frame) (meth : Method) (c : Code) (T : State), p.tables.exec = Jvm.exec → c.code = bytes → c.maxLocals = maxL → Z.Warmed39 s.vm → s.vm.findClass y.cls = some m.cls → meth.name = y.name → meth.sig.returnType = ret → meth.locks = false →
      Stand p l e rm s m as' below meth c T [] 0 0 → T.heap = h0 → s.heap = h0 → own_Go p e below s Q rm.cells rm.slots (T.setTop (entryFrame m as' maxL))) : own_Con l Z y bytes maxL ret rm as' h0 Q := by
  intro ws
  refine MetFree.of_bodySF (plainFor_of_name hp) hisR ?_
  intro p e s m args below meth c s₁ Bd hml0 hP hK
  obtain ⟨ha, hZ, hh⟩ := hP
  subst ha
  exact body p e s m below meth c s₁ Bd.exec Bd.bytes hml0 hZ (findClass_of_methodNamed Bd.named) (name_of_methodNamed Bd.named Bd.method).1 Bd.returns Bd.notSynchronized (Stand.of_body Bd) (by rw [← hh, Bd.state]; rfl) hh
theorem own_leave (X : Stand p l e R s m args below meth c T locs cells slots) {F : JFrame} {v : Option Value} (hv : meth.sig.returnType = none → v = none) (hlk : meth.locks = false)
    (k : ∀ fs, (∀ (f : JFrame) (acts : List Action), f.method = m → f.locked = none → f.entered = [] → (doReturn e (T.setTop f) acts v).1 = T.setFrames fs) → Steps p.tables e below (T.setTop F) (T.setFrames fs))
    (hQ : Q v T.heap locs) (hc : cells ≤ C) (hn : slots ≤ N) : own_Go p e below s Q C N (T.setTop F) := by
  obtain ⟨fs, hr, hrun, hended, hW, hsame⟩ := X.leave (v := v) hv hlk
  exact ⟨_, _, k fs hr, hrun, hended, v, locs, rfl, hQ, ⟨v, rfl⟩, hW, hsame.mono hc hn⟩
theorem own_ret0 (X : Stand p l e R s m args below meth c T locs cells slots) (hx : p.tables.exec = Jvm.exec) {pc : Nat} {Ls : Array Slot} (hret : meth.sig.returnType = none) (hlk : meth.locks = false) (hd : decode c.code pc = .ok (.return_, 1))
    (hQ : Q none T.heap locs) (hc : cells ≤ C) (hn : slots ≤ N) : own_Go p e below s Q C N (T.setTop (mkF m pc Ls [])) :=
  own_leave X (fun _ => rfl) hlk (fun fs hr => X.returnOut hx hret hd hr) hQ hc hn
theorem own_retZ (X : Stand p l e R s m args below meth c T locs cells slots) (hx : p.tables.exec = Jvm.exec) {pc : Nat} {Ls : Array Slot} {z : Int32} {rest : List Value} (hret : meth.sig.returnType = some .boolean) (hlk : meth.locks = false) (hd : decode c.code pc = .ok (.ireturn, 1))
    (hQ : Q (some (.int (nar .boolean z))) T.heap locs) (hc : cells ≤ C) (hn : slots ≤ N) : own_Go p e below s Q C N (T.setTop (mkF m pc Ls (.int z :: rest))) :=
  own_leave X (fun h => by rw [hret] at h; cases h) hlk (fun fs hr => retN X hx (t := .boolean) hret (by simp) hd hr) hQ hc hn
theorem own_retI (X : Stand p l e R s m args below meth c T locs cells slots) (hx : p.tables.exec = Jvm.exec) {pc : Nat} {Ls : Array Slot} {z : Int32} {rest : List Value} (hret : meth.sig.returnType = some .int) (hlk : meth.locks = false) (hd : decode c.code pc = .ok (.ireturn, 1))
    (hQ : Q (some (.int z)) T.heap locs) (hc : cells ≤ C) (hn : slots ≤ N) : own_Go p e below s Q C N (T.setTop (mkF m pc Ls (.int z :: rest))) :=
  own_leave X (fun h => by rw [hret] at h; cases h) hlk (fun fs hr => retOut X hx (t := .int) hret rfl (Or.inl ⟨rfl, Or.inl rfl, z, rfl⟩) hd hr) hQ hc hn
theorem own_retJ (X : Stand p l e R s m args below meth c T locs cells slots) (hx : p.tables.exec = Jvm.exec) {pc : Nat} {Ls : Array Slot} {z : Int64} {rest : List Value} (hret : meth.sig.returnType = some .long) (hlk : meth.locks = false) (hd : decode c.code pc = .ok (.lreturn, 1))
    (hQ : Q (some (.long z)) T.heap locs) (hc : cells ≤ C) (hn : slots ≤ N) : own_Go p e below s Q C N (T.setTop (mkF m pc Ls (.long z :: rest))) :=
  own_leave X (fun h => by rw [hret] at h; cases h) hlk (fun fs hr => retOut X hx (t := .long) hret rfl (Or.inr (Or.inl ⟨rfl, rfl, z, rfl⟩)) hd hr) hQ hc hn
theorem own_retA (X : Stand p l e R s m args below meth c T locs cells slots) (hx : p.tables.exec = Jvm.exec) {pc : Nat} {Ls : Array Slot} {w : Value} {t : FieldType} {rest : List Value} (hret : meth.sig.returnType = some t) (ht : t.isReference = true) (hw : w.isRef = true) (hlk : meth.locks = false) (hd : decode c.code pc = .ok (.areturn, 1))
    (hQ : Q (some w) T.heap locs) (hc : cells ≤ C) (hn : slots ≤ N) : own_Go p e below s Q C N (T.setTop (mkF m pc Ls (w :: rest))) :=
  own_leave X (fun h => by rw [hret] at h; cases h) hlk (fun fs hr => retOut X hx (t := t) hret (by rcases ref_cases hw with rfl | ⟨a, rfl⟩ <;> cases t <;> first | rfl | cases ht) (Or.inr (Or.inr (Or.inr (Or.inr ⟨rfl, ht, hw⟩)))) hd hr) hQ hc hn
section Calls
variable {y z : MethodName} {bytes : ByteArray} {maxL : Nat} {ret : Option FieldType} {rm : Room} {as' : Array Value} {Qc : Option Value → Heap → List Loc → Prop} {own : String} {index : Nat} {g : JFrame} {argsL rest : List Value}
theorem own_callS (X : Stand p l e R s m args below meth c T locs cells slots) (hx : p.tables.exec = Jvm.exec) (hZ : Z.Warmed39 s.vm) (K : own_Con l Z y bytes maxL ret rm as' h Qc) (hown : s.vm.findClass own = some m.cls)
    (w1 : (Jvm.Cond.methodLink own index y).before a0 Z = true) (w2 : (Jvm.Cond.static y).before a0 Z = true) (w3 : (Jvm.Cond.initialized y.cls).before a0 Z = true) (w4 : (Jvm.Cond.code y bytes maxL ret).before a0 Z = true)
    (hy : y.cls ≠ "java/lang/invoke/MethodHandle" ∧ y.cls ≠ "java/lang/invoke/VarHandle") (eT : T.heap = h) (hg : g.method = m) (hsize : g.locals.size = c.maxLocals) (has : argsL.toArray = as')
    (hlen : ∀ sig, parseMethodDescriptor y.desc = some sig → argsL.length = sig.parameters.length) (hst : g.stack = argsL.reverse ++ rest) (W : Nat) (hW : 2 * g.monitorRoom + (rest.map fun v => v.category).sum ≤ W) (hd : decode c.code g.pc = .ok (.invokestatic index, 3))
    (hf : rm.frames + 1 ≤ R.frames) (hl : W + (maxL + 11) + rm.locals ≤ R.locals) (hc : cells + rm.cells ≤ R.cells) (hs : slots + rm.slots ≤ R.slots)
    (k : ∀ (v : Option Value) (T' : State) (L : List Loc), Qc v T'.heap L → Stand p l e R s m args below meth c T' (locs ++ L) (cells + rm.cells) (slots + rm.slots) → own_Go p e below s Q C N (T'.setTop { g with pc := g.pc + 3, stack := v.toList ++ rest })) :
    own_Go p e below s Q C N (T.setTop g) := by
  obtain ⟨v, _, ⟨T', L', k', n'⟩, -, X', ⟨Lc, hQ, l', y', z'⟩, st⟩ := Jvm.LawKit.callS X hx (y := y) hown (mvT hZ w1) (mvT hZ w2) (mvT hZ w3) (mvT hZ w4) hy (backOf (W := W) (K []) hZ w4 w3 hf hl) (g := g) hg hsize (argsL := argsL) (rest := rest) hlen hst hW hd (fun _ _ => ⟨has, eT, hc, hs⟩)
  dsimp only [Pt.U, Pt.locs, Pt.cells, Pt.slots] at X' l' y' z' st hQ
  subst l' y' z'
  exact own_via st (k v T' Lc hQ X')
theorem own_callI (X : Stand p l e R s m args below meth c T locs cells slots) (hx : p.tables.exec = Jvm.exec) (hZ : Z.Warmed39 s.vm) (K : own_Con l Z y bytes maxL none rm as' h Qc) (hown : s.vm.findClass own = some m.cls) (hy1 : y.name = "<init>")
    (w1 : (Jvm.Cond.methodLink own index y).before a0 Z = true) (w2 : (Jvm.Cond.instanceMethod y).before a0 Z = true) (w3 : (Jvm.Cond.initialized y.cls).before a0 Z = true) (w4 : (Jvm.Cond.code y bytes maxL none).before a0 Z = true)
    (hy : y.cls ≠ "java/lang/invoke/MethodHandle" ∧ y.cls ≠ "java/lang/invoke/VarHandle") (eT : T.heap = h) (hg : g.method = m) (hsize : g.locals.size = c.maxLocals) {a : Addr} (has : (.ref a :: argsL).toArray = as')
    (hlen : ∀ sig, parseMethodDescriptor y.desc = some sig → argsL.length = sig.parameters.length) (hst : g.stack = argsL.reverse ++ .ref a :: rest) (W : Nat) (hW : 2 * g.monitorRoom + (rest.map fun v => v.category).sum ≤ W) (hd : decode c.code g.pc = .ok (.invokespecial index, 3))
    (hf : rm.frames + 1 ≤ R.frames) (hl : W + (maxL + 11) + rm.locals ≤ R.locals) (hc : cells + rm.cells ≤ R.cells) (hs : slots + rm.slots ≤ R.slots)
    (k : ∀ (v : Option Value) (T' : State) (L : List Loc), Qc v T'.heap L → Stand p l e R s m args below meth c T' (locs ++ L) (cells + rm.cells) (slots + rm.slots) → own_Go p e below s Q C N (T'.setTop { g with pc := g.pc + 3, stack := v.toList ++ rest })) :
    own_Go p e below s Q C N (T.setTop g) := by
  obtain ⟨v, _, ⟨T', L', k', n'⟩, -, X', ⟨Lc, hQ, l', y', z'⟩, st⟩ := X.specialBack hx (y := y) hy1 hown (mvT hZ w1) (mvT hZ w2) (mvT hZ w4) hy (backOf (W := W) (K []) hZ w4 w3 hf hl) (g := g) hg hsize (Steps.refl _) (a := a) (argsL := argsL) (rest := rest) hlen hst hW hd (fun _ _ => ⟨has, eT, hc, hs⟩)
  dsimp only [Pt.U, Pt.locs, Pt.cells, Pt.slots] at X' l' y' z' st hQ
  subst l' y' z'
  exact own_via (fun t q => st.trans q) (k v T' Lc hQ X')
theorem own_callV (X : Stand p l e R s m args below meth c T locs cells slots) (hx : p.tables.exec = Jvm.exec) (hZ : Z.Warmed39 s.vm) (K : own_Con l Z z bytes maxL ret rm as' h Qc) (hown : s.vm.findClass own = some m.cls) {CC : String} {a : Addr} (E : Exa Z h a CC)
    (w1 : (Jvm.Cond.methodLink own index y).before a0 Z = true) (w5 : (Jvm.Cond.declares y).before a0 Z = true) (w6 : (Jvm.Cond.selects CC y z).before a0 Z = true) (w2 : (Jvm.Cond.instanceMethod z).before a0 Z = true) (w3 : (Jvm.Cond.initialized z.cls).before a0 Z = true) (w4 : (Jvm.Cond.code z bytes maxL ret).before a0 Z = true)
    (nf : NotFace s y) (hy : y.cls ≠ "java/lang/invoke/MethodHandle" ∧ y.cls ≠ "java/lang/invoke/VarHandle") (eT : T.heap = h) (hg : g.method = m) (hsize : g.locals.size = c.maxLocals) (has : (.ref a :: argsL).toArray = as')
    (hlen : ∀ sig, parseMethodDescriptor y.desc = some sig → argsL.length = sig.parameters.length) (hst : g.stack = argsL.reverse ++ .ref a :: rest) (W : Nat) (hW : 2 * g.monitorRoom + (rest.map fun v => v.category).sum ≤ W) (hd : decode c.code g.pc = .ok (.invokevirtual index, 3))
    (hf : rm.frames + 1 ≤ R.frames) (hl : W + (maxL + 11) + rm.locals ≤ R.locals) (hc : cells + rm.cells ≤ R.cells) (hs : slots + rm.slots ≤ R.slots)
    (k : ∀ (v : Option Value) (T' : State) (L : List Loc), Qc v T'.heap L → Stand p l e R s m args below meth c T' (locs ++ L) (cells + rm.cells) (slots + rm.slots) → own_Go p e below s Q C N (T'.setTop { g with pc := g.pc + 3, stack := v.toList ++ rest })) :
    own_Go p e below s Q C N (T.setTop g) := by
  obtain ⟨cB, kB, q1, q2, q3⟩ := isOf hZ eT E
  obtain ⟨v, _, ⟨T', L', k', n'⟩, -, X', ⟨Lc, hQ, l', y', z'⟩, st⟩ := X.virtualBack hx (y := y) (z := z) hown (mvT hZ w1) (mvT hZ w5) nf (mvT hZ w6) (mvT hZ w2) hy (backOf (W := W) (K []) hZ w4 w3 hf hl) q1 q3 (g := g) hg hsize (Steps.refl _) (argsL := argsL) (rest := rest) hlen hst hW hd (fun _ _ => ⟨has, eT, hc, hs⟩)
  dsimp only [Pt.U, Pt.locs, Pt.cells, Pt.slots] at X' l' y' z' st hQ
  subst l' y' z'
  exact own_via (fun t q => st.trans q) (k v T' Lc hQ X')
end Calls
theorem own_eqi {t : Term} {n : Int32} (h : (Jvm.Cond.eq t (Term.int n)).value a0 Z none Z [] = some true) : t.eval a0 Z none [] Z = some (.int n) := by
  obtain ⟨x, y, e1, e2, k1, k2⟩ := cmp_v (Or.inl h)
  have e3 : y = .int n := (Option.some.inj e2).symm
  subst e3
  obtain ⟨w, rfl⟩ := k2
  have q : (Jvm.Cond.eq t (Term.int n)).value a0 Z none Z [] = some (decide (w = n)) := by simp [Jvm.Cond.value, e1, e2]
  rw [e1, gotT q h]
theorem own_fld {t : Term} {a : Addr} {CC f d : String} {v : Value} (ev : t.eval a0 Z none [] Z = some (.ref a)) (h : (Term.field t CC f d).eval a0 Z none [] Z = some v) : Fld Z Z.heap a CC f d v :=
  Fld.start ((fld_at ev).symm.trans h)
end Own

theorem own_pn : plainName "com/example/isocline/isocline/core/sql/Statement$Control" = true := by first | (simp [plainName, overriddenIn]; done) | decide +kernel
theorem own_pnL : plainName "com/example/isocline/isocline/core/sql/ControlEndsOrRollsBackPinLaw" = true := by first | (simp [plainName, overriddenIn]; done) | decide +kernel
theorem d1_0 : decode prog_71_method_4_code 0 = .ok (.aload_n 0, 1) := by decide +kernel
theorem d1_1 : decode prog_71_method_4_code 1 = .ok (.getstatic 3, 3) := by decide +kernel
theorem d1_4 : decode prog_71_method_4_code 4 = .ok (.if_acmp .eq 21, 3) := by decide +kernel
theorem d1_7 : decode prog_71_method_4_code 7 = .ok (.aload_n 0, 1) := by decide +kernel
theorem d1_8 : decode prog_71_method_4_code 8 = .ok (.getstatic 19, 3) := by decide +kernel
theorem d1_11 : decode prog_71_method_4_code 11 = .ok (.if_acmp .eq 14, 3) := by decide +kernel
theorem d1_14 : decode prog_71_method_4_code 14 = .ok (.aload_n 0, 1) := by decide +kernel
theorem d1_15 : decode prog_71_method_4_code 15 = .ok (.getstatic 22, 3) := by decide +kernel
theorem d1_18 : decode prog_71_method_4_code 18 = .ok (.if_acmp .eq 7, 3) := by decide +kernel
theorem d1_21 : decode prog_71_method_4_code 21 = .ok (.iconst 1, 1) := by decide +kernel
theorem d1_22 : decode prog_71_method_4_code 22 = .ok (.goto 4, 3) := by decide +kernel
theorem d1_25 : decode prog_71_method_4_code 25 = .ok (.iconst 0, 1) := by decide +kernel
theorem d1_26 : decode prog_71_method_4_code 26 = .ok (.ireturn, 1) := by decide +kernel
theorem own_pd0 : parseMethodDescriptor "()Z" = some ⟨[], some .boolean⟩ := by decide +kernel
theorem own_ef0 (m : MethodId) (x0 : Int32) : entryFrame m #[(.int x0)] maxLocals = mkF m 0 #[.val (.int x0), .unset, .unset, .unset] [] := by first | (simp [entryFrame, mkF, argsToLocals, Value.category, maxLocals]; done) | rfl
theorem own_ef1 (m : MethodId) (x0 : Addr) : entryFrame m #[(.ref x0)] 1 = mkF m 0 #[.val (.ref x0)] [] := by first | (simp [entryFrame, mkF, argsToLocals, Value.category]; done) | rfl
theorem own_ef2 (m : MethodId) (x0 : Int32) : entryFrame m #[(.int x0)] 1 = mkF m 0 #[.val (.int x0)] [] := by first | (simp [entryFrame, mkF, argsToLocals, Value.category]; done) | rfl
set_option maxRecDepth 65536 in
set_option maxHeartbeats 40000000 in
theorem own_k1 (l : Launch) (Z : State) (az : Array Value) (hw : ∀ d ∈ tables_1, d.before az Z = true) (a a0 a5 a6 : Addr) (h0 : Heap) (S0 : Sta Z h0 "com/example/isocline/isocline/core/sql/Statement$Control" "BEGIN" "Lcom/example/isocline/isocline/core/sql/Statement$Control;" (.ref a0)) (S5 : Sta Z h0 "com/example/isocline/isocline/core/sql/Statement$Control" "SAVEPOINT" "Lcom/example/isocline/isocline/core/sql/Statement$Control;" (.ref a5)) (S6 : Sta Z h0 "com/example/isocline/isocline/core/sql/Statement$Control" "RELEASE" "Lcom/example/isocline/isocline/core/sql/Statement$Control;" (.ref a6)) (r : Int32) (hr : (if a = a0 ∨ a = a5 ∨ a = a6 then (0 : Int32) else (1 : Int32)) = r) :
    own_Con l Z (⟨"com/example/isocline/isocline/core/sql/Statement$Control", "endsOrRollsBack", "()Z"⟩ : MethodName) prog_71_method_4_code 1 (some .boolean) ({ frames := 0, cells := 0, slots := 0, locals := 0 } : Room) #[(.ref a)] h0 (fun v h L => v = some (.int r) ∧ h = h0 ∧ L = []) := by
  refine own_con own_pn ?_
  intro p e s m below meth c T0 hx hby hml hZ hown hnm hret hlk X0 e0 eh
  refine own_via (F' := T0.setTop (mkF m 0 #[.val (.ref a)] [])) (fun t k => castTop (own_ef1 m a) k) ?_
  refine own_via (F' := T0.setTop (mkF m 1 #[.val (.ref a)] [(.ref a)])) (fun t k => XS.aloadN X0.here hx rfl (hb hby d1_0) rfl rfl k) ?_
  obtain ⟨T1, X1, e1, s1⟩ := getS X0 hx hZ (host := "") hown (hw _ (List.mem_of_getElem? (i := 9) rfl)) Via.refl e0 S0 (g := (mkF m 1 #[.val (.ref a)] [(.ref a)])) rfl (hb hby d1_1)
  refine own_via (F' := T1.setTop (mkF m 4 #[.val (.ref a)] [(.ref a0), (.ref a)])) s1 ?_
  by_cases q2 : a = a0
  · refine own_via (F' := T1.setTop (mkF m 25 #[.val (.ref a)] [])) (fun t k => XT.acmpYes X1.here hx rfl (pc0 := 4) (pc' := 25) rfl (hb hby d1_4) rfl rfl rfl (XT.aa_eq_t (congrArg Value.ref q2)) (by decide) (by decide) k) ?_
    refine own_via (F' := T1.setTop (mkF m 26 #[.val (.ref a)] [(.int (0 : Int32))])) (fun t k => XT.iconstV X1.here hx rfl (0 : Int32) (hb hby d1_25) (by decide) k) ?_
    exact own_retZ X1 hx hret hlk (hb hby d1_26) ⟨by rw [← hr]; first | (simp [q2]; done) | (simp [q2]; rfl) | rfl, e1, rfl⟩ (Nat.le_refl _) (Nat.le_refl _)
  · refine own_via (F' := T1.setTop (mkF m 7 #[.val (.ref a)] [])) (fun t k => XT.acmpNo X1.here hx rfl (hb hby d1_4) rfl rfl rfl (XT.aa_eq_f (fun z => q2 (Value.ref.inj z))) k) ?_
    refine own_via (F' := T1.setTop (mkF m 8 #[.val (.ref a)] [(.ref a)])) (fun t k => XS.aloadN X1.here hx rfl (hb hby d1_7) rfl rfl k) ?_
    obtain ⟨T3, X3, e3, s3⟩ := getS X1 hx hZ (host := "") hown (hw _ (List.mem_of_getElem? (i := 12) rfl)) Via.refl e1 S5 (g := (mkF m 8 #[.val (.ref a)] [(.ref a)])) rfl (hb hby d1_8)
    refine own_via (F' := T3.setTop (mkF m 11 #[.val (.ref a)] [(.ref a5), (.ref a)])) s3 ?_
    by_cases q4 : a = a5
    · refine own_via (F' := T3.setTop (mkF m 25 #[.val (.ref a)] [])) (fun t k => XT.acmpYes X3.here hx rfl (pc0 := 11) (pc' := 25) rfl (hb hby d1_11) rfl rfl rfl (XT.aa_eq_t (congrArg Value.ref q4)) (by decide) (by decide) k) ?_
      refine own_via (F' := T3.setTop (mkF m 26 #[.val (.ref a)] [(.int (0 : Int32))])) (fun t k => XT.iconstV X3.here hx rfl (0 : Int32) (hb hby d1_25) (by decide) k) ?_
      exact own_retZ X3 hx hret hlk (hb hby d1_26) ⟨by rw [← hr]; first | (simp [q2, q4]; done) | (simp [q2, q4]; rfl) | rfl, e3, rfl⟩ (Nat.le_refl _) (Nat.le_refl _)
    · refine own_via (F' := T3.setTop (mkF m 14 #[.val (.ref a)] [])) (fun t k => XT.acmpNo X3.here hx rfl (hb hby d1_11) rfl rfl rfl (XT.aa_eq_f (fun z => q4 (Value.ref.inj z))) k) ?_
      refine own_via (F' := T3.setTop (mkF m 15 #[.val (.ref a)] [(.ref a)])) (fun t k => XS.aloadN X3.here hx rfl (hb hby d1_14) rfl rfl k) ?_
      obtain ⟨T5, X5, e5, s5⟩ := getS X3 hx hZ (host := "") hown (hw _ (List.mem_of_getElem? (i := 14) rfl)) Via.refl e3 S6 (g := (mkF m 15 #[.val (.ref a)] [(.ref a)])) rfl (hb hby d1_15)
      refine own_via (F' := T5.setTop (mkF m 18 #[.val (.ref a)] [(.ref a6), (.ref a)])) s5 ?_
      by_cases q6 : a = a6
      · refine own_via (F' := T5.setTop (mkF m 25 #[.val (.ref a)] [])) (fun t k => XT.acmpYes X5.here hx rfl (pc0 := 18) (pc' := 25) rfl (hb hby d1_18) rfl rfl rfl (XT.aa_eq_t (congrArg Value.ref q6)) (by decide) (by decide) k) ?_
        refine own_via (F' := T5.setTop (mkF m 26 #[.val (.ref a)] [(.int (0 : Int32))])) (fun t k => XT.iconstV X5.here hx rfl (0 : Int32) (hb hby d1_25) (by decide) k) ?_
        exact own_retZ X5 hx hret hlk (hb hby d1_26) ⟨by rw [← hr]; first | (simp [q2, q4, q6]; done) | (simp [q2, q4, q6]; rfl) | rfl, e5, rfl⟩ (Nat.le_refl _) (Nat.le_refl _)
      · refine own_via (F' := T5.setTop (mkF m 21 #[.val (.ref a)] [])) (fun t k => XT.acmpNo X5.here hx rfl (hb hby d1_18) rfl rfl rfl (XT.aa_eq_f (fun z => q6 (Value.ref.inj z))) k) ?_
        refine own_via (F' := T5.setTop (mkF m 22 #[.val (.ref a)] [(.int (1 : Int32))])) (fun t k => XT.iconstV X5.here hx rfl (1 : Int32) (hb hby d1_21) (by decide) k) ?_
        refine own_via (F' := T5.setTop (mkF m 26 #[.val (.ref a)] [(.int (1 : Int32))])) (fun t k => XS.goto X5.here hx rfl (pc0 := 22) (pc' := 26) rfl (hb hby d1_22) (by decide) (by decide) k) ?_
        exact own_retZ X5 hx hret hlk (hb hby d1_26) ⟨by rw [← hr]; first | (simp [q2, q4, q6]; done) | (simp [q2, q4, q6]; rfl) | rfl, e5, rfl⟩ (Nat.le_refl _) (Nat.le_refl _)
set_option maxRecDepth 65536 in
set_option maxHeartbeats 40000000 in
theorem own_law (l : Launch) (Z : State) (az : Array Value) (hw : ∀ d ∈ tables_1, d.before az Z = true) (p0 : Int32) (a0 a1 a2 a3 a4 a5 a6 a7 a8 : Addr) (h0 : Heap) (n0 : Nat) (S0 : Sta Z h0 "com/example/isocline/isocline/core/sql/Statement$Control" "BEGIN" "Lcom/example/isocline/isocline/core/sql/Statement$Control;" (.ref a0)) (S1 : Sta Z h0 "com/example/isocline/isocline/core/sql/Statement$Control" "COMMIT" "Lcom/example/isocline/isocline/core/sql/Statement$Control;" (.ref a1)) (S2 : Sta Z h0 "com/example/isocline/isocline/core/sql/Statement$Control" "COMMIT_AND_CHAIN" "Lcom/example/isocline/isocline/core/sql/Statement$Control;" (.ref a2)) (S3 : Sta Z h0 "com/example/isocline/isocline/core/sql/Statement$Control" "ROLLBACK" "Lcom/example/isocline/isocline/core/sql/Statement$Control;" (.ref a3)) (S4 : Sta Z h0 "com/example/isocline/isocline/core/sql/Statement$Control" "ROLLBACK_AND_CHAIN" "Lcom/example/isocline/isocline/core/sql/Statement$Control;" (.ref a4)) (S5 : Sta Z h0 "com/example/isocline/isocline/core/sql/Statement$Control" "SAVEPOINT" "Lcom/example/isocline/isocline/core/sql/Statement$Control;" (.ref a5)) (S6 : Sta Z h0 "com/example/isocline/isocline/core/sql/Statement$Control" "RELEASE" "Lcom/example/isocline/isocline/core/sql/Statement$Control;" (.ref a6)) (S7 : Sta Z h0 "com/example/isocline/isocline/core/sql/Statement$Control" "ROLLBACK_TO" "Lcom/example/isocline/isocline/core/sql/Statement$Control;" (.ref a7)) (S8 : Sta Z h0 "com/example/isocline/isocline/core/sql/Statement$Control" "TWO_PHASE" "Lcom/example/isocline/isocline/core/sql/Statement$Control;" (.ref a8)) (E0 : Exa Z h0 a0 "com/example/isocline/isocline/core/sql/Statement$Control") (E1 : Exa Z h0 a1 "com/example/isocline/isocline/core/sql/Statement$Control") (E2 : Exa Z h0 a2 "com/example/isocline/isocline/core/sql/Statement$Control") (E3 : Exa Z h0 a3 "com/example/isocline/isocline/core/sql/Statement$Control") (E4 : Exa Z h0 a4 "com/example/isocline/isocline/core/sql/Statement$Control") (E5 : Exa Z h0 a5 "com/example/isocline/isocline/core/sql/Statement$Control") (E6 : Exa Z h0 a6 "com/example/isocline/isocline/core/sql/Statement$Control") (E7 : Exa Z h0 a7 "com/example/isocline/isocline/core/sql/Statement$Control") (E8 : Exa Z h0 a8 "com/example/isocline/isocline/core/sql/Statement$Control") (n0_1 : a0 ≠ a1) (n0_2 : a0 ≠ a2) (n0_3 : a0 ≠ a3) (n0_4 : a0 ≠ a4) (n0_5 : a0 ≠ a5) (n0_6 : a0 ≠ a6) (n0_7 : a0 ≠ a7) (n0_8 : a0 ≠ a8) (n1_0 : a1 ≠ a0) (n1_2 : a1 ≠ a2) (n1_3 : a1 ≠ a3) (n1_4 : a1 ≠ a4) (n1_5 : a1 ≠ a5) (n1_6 : a1 ≠ a6) (n1_7 : a1 ≠ a7) (n1_8 : a1 ≠ a8) (n2_0 : a2 ≠ a0) (n2_1 : a2 ≠ a1) (n2_3 : a2 ≠ a3) (n2_4 : a2 ≠ a4) (n2_5 : a2 ≠ a5) (n2_6 : a2 ≠ a6) (n2_7 : a2 ≠ a7) (n2_8 : a2 ≠ a8) (n3_0 : a3 ≠ a0) (n3_1 : a3 ≠ a1) (n3_2 : a3 ≠ a2) (n3_4 : a3 ≠ a4) (n3_5 : a3 ≠ a5) (n3_6 : a3 ≠ a6) (n3_7 : a3 ≠ a7) (n3_8 : a3 ≠ a8) (n4_0 : a4 ≠ a0) (n4_1 : a4 ≠ a1) (n4_2 : a4 ≠ a2) (n4_3 : a4 ≠ a3) (n4_5 : a4 ≠ a5) (n4_6 : a4 ≠ a6) (n4_7 : a4 ≠ a7) (n4_8 : a4 ≠ a8) (n5_0 : a5 ≠ a0) (n5_1 : a5 ≠ a1) (n5_2 : a5 ≠ a2) (n5_3 : a5 ≠ a3) (n5_4 : a5 ≠ a4) (n5_6 : a5 ≠ a6) (n5_7 : a5 ≠ a7) (n5_8 : a5 ≠ a8) (n6_0 : a6 ≠ a0) (n6_1 : a6 ≠ a1) (n6_2 : a6 ≠ a2) (n6_3 : a6 ≠ a3) (n6_4 : a6 ≠ a4) (n6_5 : a6 ≠ a5) (n6_7 : a6 ≠ a7) (n6_8 : a6 ≠ a8) (n7_0 : a7 ≠ a0) (n7_1 : a7 ≠ a1) (n7_2 : a7 ≠ a2) (n7_3 : a7 ≠ a3) (n7_4 : a7 ≠ a4) (n7_5 : a7 ≠ a5) (n7_6 : a7 ≠ a6) (n7_8 : a7 ≠ a8) (n8_0 : a8 ≠ a0) (n8_1 : a8 ≠ a1) (n8_2 : a8 ≠ a2) (n8_3 : a8 ≠ a3) (n8_4 : a8 ≠ a4) (n8_5 : a8 ≠ a5) (n8_6 : a8 ≠ a6) (n8_7 : a8 ≠ a7) :
    own_Con l Z x code maxLocals ret room_1 #[(.int p0)] h0 (fun v h L => v = some (.int 1) ∧ Fr n0 L) := by
  refine own_con own_pnL ?_
  intro p e s m below meth c T0 hx hby hml hZ hown hnm hret hlk X0 e0 eh
  have hown : s.vm.findClass "com/example/isocline/isocline/core/sql/ControlEndsOrRollsBackPinLaw" = some m.cls := hown
  refine own_via (F' := T0.setTop (mkF m 0 #[.val (.int p0), .unset, .unset, .unset] [])) (fun t k => castTop (own_ef0 m p0) k) ?_
  refine own_via (F' := T0.setTop (mkF m 1 #[.val (.int p0), .unset, .unset, .unset] [(.int p0)])) (fun t k => XS.iloadN X0.here hx rfl (hb hby at_0) rfl k) ?_
  refine own_via (F' := T0.setTop (mkF m 3 #[.val (.int p0), .unset, .unset, .unset] [(.int (2147483647 : Int32)), (.int p0)])) (fun t k => Jvm.Stand.ldcI X0 hx hown (mvT hZ (hw _ (List.mem_of_getElem? (i := 0) rfl))) rfl (hb hby at_1) k) ?_
  refine own_via (F' := T0.setTop (mkF m 4 #[.val (.int p0), .unset, .unset, .unset] [(.int (p0 &&& (2147483647 : Int32)))])) (fun t k => XS.iand X0.here hx rfl (hb hby at_3) rfl k) ?_
  refine own_via (F' := T0.setTop (mkF m 6 #[.val (.int p0), .unset, .unset, .unset] [(.int (9 : Int32)), (.int (p0 &&& (2147483647 : Int32)))])) (fun t k => XT.bipushV X0.here hx rfl (9 : Int32) (hb hby at_4) (by decide) k) ?_
  refine own_via (F' := T0.setTop (mkF m 7 #[.val (.int p0), .unset, .unset, .unset] [(.int ((p0 &&& (2147483647 : Int32)) % (9 : Int32)))])) (fun t k => iremM X0 hx rfl (hb hby at_6) rfl (by decide) k) ?_
  refine own_via (F' := T0.setTop (mkF m 8 #[.val (.int p0), .val (.int ((p0 &&& (2147483647 : Int32)) % (9 : Int32))), .unset, .unset] [])) (fun t k => XS.istoreN X0.here hx rfl (hb hby at_7) rfl (l' := #[.val (.int p0), .val (.int ((p0 &&& (2147483647 : Int32)) % (9 : Int32))), .unset, .unset]) rfl k) ?_
  refine own_via (F' := T0.setTop (mkF m 9 #[.val (.int p0), .val (.int ((p0 &&& (2147483647 : Int32)) % (9 : Int32))), .unset, .unset] [(.int ((p0 &&& (2147483647 : Int32)) % (9 : Int32)))])) (fun t k => XS.iloadN X0.here hx rfl (hb hby at_8) rfl k) ?_
  by_cases q1 : ((p0 &&& (2147483647 : Int32)) % (9 : Int32)) = (0 : Int32)
  · refine own_via (F' := T0.setTop (mkF m 12 #[.val (.int p0), .val (.int ((p0 &&& (2147483647 : Int32)) % (9 : Int32))), .unset, .unset] [])) (fun t k => XS.ifNo X0.here hx rfl (hb hby at_9) rfl (XT.i0_ne_f q1) k) ?_
    obtain ⟨T2, X2, e2, s2⟩ := getS X0 hx hZ (host := "") hown (hw _ (List.mem_of_getElem? (i := 1) rfl)) Via.refl e0 S0 (g := (mkF m 12 #[.val (.int p0), .val (.int ((p0 &&& (2147483647 : Int32)) % (9 : Int32))), .unset, .unset] [])) rfl (hb hby at_12)
    refine own_via (F' := T2.setTop (mkF m 15 #[.val (.int p0), .val (.int ((p0 &&& (2147483647 : Int32)) % (9 : Int32))), .unset, .unset] [(.ref a0)])) s2 ?_
    refine own_via (F' := T2.setTop (mkF m 16 #[.val (.int p0), .val (.int ((p0 &&& (2147483647 : Int32)) % (9 : Int32))), .val (.ref a0), .unset] [])) (fun t k => XS.astoreN X2.here hx rfl (hb hby at_15) rfl rfl (l' := #[.val (.int p0), .val (.int ((p0 &&& (2147483647 : Int32)) % (9 : Int32))), .val (.ref a0), .unset]) rfl k) ?_
    refine own_via (F' := T2.setTop (mkF m 17 #[.val (.int p0), .val (.int ((p0 &&& (2147483647 : Int32)) % (9 : Int32))), .val (.ref a0), .unset] [(.int (0 : Int32))])) (fun t k => XT.iconstV X2.here hx rfl (0 : Int32) (hb hby at_16) (by decide) k) ?_
    refine own_via (F' := T2.setTop (mkF m 18 #[.val (.int p0), .val (.int ((p0 &&& (2147483647 : Int32)) % (9 : Int32))), .val (.ref a0), .val (.int (0 : Int32))] [])) (fun t k => XS.istoreN X2.here hx rfl (hb hby at_17) rfl (l' := #[.val (.int p0), .val (.int ((p0 &&& (2147483647 : Int32)) % (9 : Int32))), .val (.ref a0), .val (.int (0 : Int32))]) rfl k) ?_
    refine own_via (F' := T2.setTop (mkF m 127 #[.val (.int p0), .val (.int ((p0 &&& (2147483647 : Int32)) % (9 : Int32))), .val (.ref a0), .val (.int (0 : Int32))] [])) (fun t k => XS.goto X2.here hx rfl (pc0 := 18) (pc' := 127) rfl (hb hby at_18) (by decide) (by decide) k) ?_
    refine own_via (F' := T2.setTop (mkF m 128 #[.val (.int p0), .val (.int ((p0 &&& (2147483647 : Int32)) % (9 : Int32))), .val (.ref a0), .val (.int (0 : Int32))] [(.ref a0)])) (fun t k => XS.aloadN X2.here hx rfl (hb hby at_127) rfl rfl k) ?_
    refine own_callV X2 hx hZ (own_k1 l Z az hw a0 a0 a5 a6 h0 S0 S5 S6 (0 : Int32) (by first | (simp [n0_1, n0_2, n0_3, n0_4, n0_5, n0_6, n0_7, n0_8]; done) | rfl)) hown E0 (hw _ (List.mem_of_getElem? (i := 4) rfl)) (hw _ (List.mem_of_getElem? (i := 5) rfl)) (hw _ (List.mem_of_getElem? (i := 7) rfl)) (hw _ (List.mem_of_getElem? (i := 6) rfl)) (hw _ (List.mem_of_getElem? (i := 2) rfl)) (hw _ (List.mem_of_getElem? (i := 8) rfl)) (notFace_of_selects (args := #[]) (mvT hZ (hw _ (List.mem_of_getElem? (i := 7) rfl)))) (by decide) e2 (g := (mkF m 128 #[.val (.int p0), .val (.int ((p0 &&& (2147483647 : Int32)) % (9 : Int32))), .val (.ref a0), .val (.int (0 : Int32))] [(.ref a0)])) rfl (by rw [hml]; rfl) (argsL := []) (rest := []) rfl (lenOf own_pd0 rfl) rfl 0 (by show 2 * 0 + _ ≤ _; exact Nat.le_of_eq rfl) (hb hby at_128) (by decide) (by decide) (by decide) (by decide) ?_
    intro v3 T3 L3 hQ3 X3
    obtain ⟨rfl, e3, rfl⟩ := hQ3
    refine own_via (F' := T3.setTop (mkF m 131 #[.val (.int p0), .val (.int ((p0 &&& (2147483647 : Int32)) % (9 : Int32))), .val (.ref a0), .val (.int (0 : Int32))] [(.int (0 : Int32))])) (fun t k => k) ?_
    refine own_via (F' := T3.setTop (mkF m 132 #[.val (.int p0), .val (.int ((p0 &&& (2147483647 : Int32)) % (9 : Int32))), .val (.ref a0), .val (.int (0 : Int32))] [(.int (0 : Int32)), (.int (0 : Int32))])) (fun t k => XS.iloadN X3.here hx rfl (hb hby at_131) rfl k) ?_
    refine own_via (F' := T3.setTop (mkF m 135 #[.val (.int p0), .val (.int ((p0 &&& (2147483647 : Int32)) % (9 : Int32))), .val (.ref a0), .val (.int (0 : Int32))] [])) (fun t k => XS.icmpNo X3.here hx rfl (hb hby at_132) rfl (XT.ii_ne_f (by decide)) k) ?_
    refine own_via (F' := T3.setTop (mkF m 136 #[.val (.int p0), .val (.int ((p0 &&& (2147483647 : Int32)) % (9 : Int32))), .val (.ref a0), .val (.int (0 : Int32))] [(.int (1 : Int32))])) (fun t k => XT.iconstV X3.here hx rfl (1 : Int32) (hb hby at_135) (by decide) k) ?_
    refine own_via (F' := T3.setTop (mkF m 140 #[.val (.int p0), .val (.int ((p0 &&& (2147483647 : Int32)) % (9 : Int32))), .val (.ref a0), .val (.int (0 : Int32))] [(.int (1 : Int32))])) (fun t k => XS.goto X3.here hx rfl (pc0 := 136) (pc' := 140) rfl (hb hby at_136) (by decide) (by decide) k) ?_
    exact own_retZ X3 hx hret hlk (hb hby at_140) ⟨rfl, Fr.nil _⟩ (by decide) (by decide)
  · refine own_via (F' := T0.setTop (mkF m 21 #[.val (.int p0), .val (.int ((p0 &&& (2147483647 : Int32)) % (9 : Int32))), .unset, .unset] [])) (fun t k => XS.ifYes X0.here hx rfl (pc0 := 9) (pc' := 21) rfl (hb hby at_9) rfl (XT.i0_ne_t q1) (by decide) (by decide) k) ?_
    refine own_via (F' := T0.setTop (mkF m 22 #[.val (.int p0), .val (.int ((p0 &&& (2147483647 : Int32)) % (9 : Int32))), .unset, .unset] [(.int ((p0 &&& (2147483647 : Int32)) % (9 : Int32)))])) (fun t k => XS.iloadN X0.here hx rfl (hb hby at_21) rfl k) ?_
    refine own_via (F' := T0.setTop (mkF m 23 #[.val (.int p0), .val (.int ((p0 &&& (2147483647 : Int32)) % (9 : Int32))), .unset, .unset] [(.int (1 : Int32)), (.int ((p0 &&& (2147483647 : Int32)) % (9 : Int32)))])) (fun t k => XT.iconstV X0.here hx rfl (1 : Int32) (hb hby at_22) (by decide) k) ?_
    by_cases q4 : ((p0 &&& (2147483647 : Int32)) % (9 : Int32)) = (1 : Int32)
    · refine own_via (F' := T0.setTop (mkF m 26 #[.val (.int p0), .val (.int ((p0 &&& (2147483647 : Int32)) % (9 : Int32))), .unset, .unset] [])) (fun t k => XS.icmpNo X0.here hx rfl (hb hby at_23) rfl (XT.ii_ne_f q4) k) ?_
      obtain ⟨T5, X5, e5, s5⟩ := getS X0 hx hZ (host := "") hown (hw _ (List.mem_of_getElem? (i := 18) rfl)) Via.refl e0 S1 (g := (mkF m 26 #[.val (.int p0), .val (.int ((p0 &&& (2147483647 : Int32)) % (9 : Int32))), .unset, .unset] [])) rfl (hb hby at_26)
      refine own_via (F' := T5.setTop (mkF m 29 #[.val (.int p0), .val (.int ((p0 &&& (2147483647 : Int32)) % (9 : Int32))), .unset, .unset] [(.ref a1)])) s5 ?_
      refine own_via (F' := T5.setTop (mkF m 30 #[.val (.int p0), .val (.int ((p0 &&& (2147483647 : Int32)) % (9 : Int32))), .val (.ref a1), .unset] [])) (fun t k => XS.astoreN X5.here hx rfl (hb hby at_29) rfl rfl (l' := #[.val (.int p0), .val (.int ((p0 &&& (2147483647 : Int32)) % (9 : Int32))), .val (.ref a1), .unset]) rfl k) ?_
      refine own_via (F' := T5.setTop (mkF m 31 #[.val (.int p0), .val (.int ((p0 &&& (2147483647 : Int32)) % (9 : Int32))), .val (.ref a1), .unset] [(.int (1 : Int32))])) (fun t k => XT.iconstV X5.here hx rfl (1 : Int32) (hb hby at_30) (by decide) k) ?_
      refine own_via (F' := T5.setTop (mkF m 32 #[.val (.int p0), .val (.int ((p0 &&& (2147483647 : Int32)) % (9 : Int32))), .val (.ref a1), .val (.int (1 : Int32))] [])) (fun t k => XS.istoreN X5.here hx rfl (hb hby at_31) rfl (l' := #[.val (.int p0), .val (.int ((p0 &&& (2147483647 : Int32)) % (9 : Int32))), .val (.ref a1), .val (.int (1 : Int32))]) rfl k) ?_
      refine own_via (F' := T5.setTop (mkF m 127 #[.val (.int p0), .val (.int ((p0 &&& (2147483647 : Int32)) % (9 : Int32))), .val (.ref a1), .val (.int (1 : Int32))] [])) (fun t k => XS.goto X5.here hx rfl (pc0 := 32) (pc' := 127) rfl (hb hby at_32) (by decide) (by decide) k) ?_
      refine own_via (F' := T5.setTop (mkF m 128 #[.val (.int p0), .val (.int ((p0 &&& (2147483647 : Int32)) % (9 : Int32))), .val (.ref a1), .val (.int (1 : Int32))] [(.ref a1)])) (fun t k => XS.aloadN X5.here hx rfl (hb hby at_127) rfl rfl k) ?_
      refine own_callV X5 hx hZ (own_k1 l Z az hw a1 a0 a5 a6 h0 S0 S5 S6 (1 : Int32) (by first | (simp [n1_0, n1_2, n1_3, n1_4, n1_5, n1_6, n1_7, n1_8]; done) | rfl)) hown E1 (hw _ (List.mem_of_getElem? (i := 4) rfl)) (hw _ (List.mem_of_getElem? (i := 5) rfl)) (hw _ (List.mem_of_getElem? (i := 7) rfl)) (hw _ (List.mem_of_getElem? (i := 6) rfl)) (hw _ (List.mem_of_getElem? (i := 2) rfl)) (hw _ (List.mem_of_getElem? (i := 8) rfl)) (notFace_of_selects (args := #[]) (mvT hZ (hw _ (List.mem_of_getElem? (i := 7) rfl)))) (by decide) e5 (g := (mkF m 128 #[.val (.int p0), .val (.int ((p0 &&& (2147483647 : Int32)) % (9 : Int32))), .val (.ref a1), .val (.int (1 : Int32))] [(.ref a1)])) rfl (by rw [hml]; rfl) (argsL := []) (rest := []) rfl (lenOf own_pd0 rfl) rfl 0 (by show 2 * 0 + _ ≤ _; exact Nat.le_of_eq rfl) (hb hby at_128) (by decide) (by decide) (by decide) (by decide) ?_
      intro v6 T6 L6 hQ6 X6
      obtain ⟨rfl, e6, rfl⟩ := hQ6
      refine own_via (F' := T6.setTop (mkF m 131 #[.val (.int p0), .val (.int ((p0 &&& (2147483647 : Int32)) % (9 : Int32))), .val (.ref a1), .val (.int (1 : Int32))] [(.int (1 : Int32))])) (fun t k => k) ?_
      refine own_via (F' := T6.setTop (mkF m 132 #[.val (.int p0), .val (.int ((p0 &&& (2147483647 : Int32)) % (9 : Int32))), .val (.ref a1), .val (.int (1 : Int32))] [(.int (1 : Int32)), (.int (1 : Int32))])) (fun t k => XS.iloadN X6.here hx rfl (hb hby at_131) rfl k) ?_
      refine own_via (F' := T6.setTop (mkF m 135 #[.val (.int p0), .val (.int ((p0 &&& (2147483647 : Int32)) % (9 : Int32))), .val (.ref a1), .val (.int (1 : Int32))] [])) (fun t k => XS.icmpNo X6.here hx rfl (hb hby at_132) rfl (XT.ii_ne_f (by decide)) k) ?_
      refine own_via (F' := T6.setTop (mkF m 136 #[.val (.int p0), .val (.int ((p0 &&& (2147483647 : Int32)) % (9 : Int32))), .val (.ref a1), .val (.int (1 : Int32))] [(.int (1 : Int32))])) (fun t k => XT.iconstV X6.here hx rfl (1 : Int32) (hb hby at_135) (by decide) k) ?_
      refine own_via (F' := T6.setTop (mkF m 140 #[.val (.int p0), .val (.int ((p0 &&& (2147483647 : Int32)) % (9 : Int32))), .val (.ref a1), .val (.int (1 : Int32))] [(.int (1 : Int32))])) (fun t k => XS.goto X6.here hx rfl (pc0 := 136) (pc' := 140) rfl (hb hby at_136) (by decide) (by decide) k) ?_
      exact own_retZ X6 hx hret hlk (hb hby at_140) ⟨rfl, Fr.nil _⟩ (by decide) (by decide)
    · refine own_via (F' := T0.setTop (mkF m 35 #[.val (.int p0), .val (.int ((p0 &&& (2147483647 : Int32)) % (9 : Int32))), .unset, .unset] [])) (fun t k => XS.icmpYes X0.here hx rfl (pc0 := 23) (pc' := 35) rfl (hb hby at_23) rfl (XT.ii_ne_t q4) (by decide) (by decide) k) ?_
      refine own_via (F' := T0.setTop (mkF m 36 #[.val (.int p0), .val (.int ((p0 &&& (2147483647 : Int32)) % (9 : Int32))), .unset, .unset] [(.int ((p0 &&& (2147483647 : Int32)) % (9 : Int32)))])) (fun t k => XS.iloadN X0.here hx rfl (hb hby at_35) rfl k) ?_
      refine own_via (F' := T0.setTop (mkF m 37 #[.val (.int p0), .val (.int ((p0 &&& (2147483647 : Int32)) % (9 : Int32))), .unset, .unset] [(.int (2 : Int32)), (.int ((p0 &&& (2147483647 : Int32)) % (9 : Int32)))])) (fun t k => XT.iconstV X0.here hx rfl (2 : Int32) (hb hby at_36) (by decide) k) ?_
      by_cases q7 : ((p0 &&& (2147483647 : Int32)) % (9 : Int32)) = (2 : Int32)
      · refine own_via (F' := T0.setTop (mkF m 40 #[.val (.int p0), .val (.int ((p0 &&& (2147483647 : Int32)) % (9 : Int32))), .unset, .unset] [])) (fun t k => XS.icmpNo X0.here hx rfl (hb hby at_37) rfl (XT.ii_ne_f q7) k) ?_
        obtain ⟨T8, X8, e8, s8⟩ := getS X0 hx hZ (host := "") hown (hw _ (List.mem_of_getElem? (i := 16) rfl)) Via.refl e0 S2 (g := (mkF m 40 #[.val (.int p0), .val (.int ((p0 &&& (2147483647 : Int32)) % (9 : Int32))), .unset, .unset] [])) rfl (hb hby at_40)
        refine own_via (F' := T8.setTop (mkF m 43 #[.val (.int p0), .val (.int ((p0 &&& (2147483647 : Int32)) % (9 : Int32))), .unset, .unset] [(.ref a2)])) s8 ?_
        refine own_via (F' := T8.setTop (mkF m 44 #[.val (.int p0), .val (.int ((p0 &&& (2147483647 : Int32)) % (9 : Int32))), .val (.ref a2), .unset] [])) (fun t k => XS.astoreN X8.here hx rfl (hb hby at_43) rfl rfl (l' := #[.val (.int p0), .val (.int ((p0 &&& (2147483647 : Int32)) % (9 : Int32))), .val (.ref a2), .unset]) rfl k) ?_
        refine own_via (F' := T8.setTop (mkF m 45 #[.val (.int p0), .val (.int ((p0 &&& (2147483647 : Int32)) % (9 : Int32))), .val (.ref a2), .unset] [(.int (1 : Int32))])) (fun t k => XT.iconstV X8.here hx rfl (1 : Int32) (hb hby at_44) (by decide) k) ?_
        refine own_via (F' := T8.setTop (mkF m 46 #[.val (.int p0), .val (.int ((p0 &&& (2147483647 : Int32)) % (9 : Int32))), .val (.ref a2), .val (.int (1 : Int32))] [])) (fun t k => XS.istoreN X8.here hx rfl (hb hby at_45) rfl (l' := #[.val (.int p0), .val (.int ((p0 &&& (2147483647 : Int32)) % (9 : Int32))), .val (.ref a2), .val (.int (1 : Int32))]) rfl k) ?_
        refine own_via (F' := T8.setTop (mkF m 127 #[.val (.int p0), .val (.int ((p0 &&& (2147483647 : Int32)) % (9 : Int32))), .val (.ref a2), .val (.int (1 : Int32))] [])) (fun t k => XS.goto X8.here hx rfl (pc0 := 46) (pc' := 127) rfl (hb hby at_46) (by decide) (by decide) k) ?_
        refine own_via (F' := T8.setTop (mkF m 128 #[.val (.int p0), .val (.int ((p0 &&& (2147483647 : Int32)) % (9 : Int32))), .val (.ref a2), .val (.int (1 : Int32))] [(.ref a2)])) (fun t k => XS.aloadN X8.here hx rfl (hb hby at_127) rfl rfl k) ?_
        refine own_callV X8 hx hZ (own_k1 l Z az hw a2 a0 a5 a6 h0 S0 S5 S6 (1 : Int32) (by first | (simp [n2_0, n2_1, n2_3, n2_4, n2_5, n2_6, n2_7, n2_8]; done) | rfl)) hown E2 (hw _ (List.mem_of_getElem? (i := 4) rfl)) (hw _ (List.mem_of_getElem? (i := 5) rfl)) (hw _ (List.mem_of_getElem? (i := 7) rfl)) (hw _ (List.mem_of_getElem? (i := 6) rfl)) (hw _ (List.mem_of_getElem? (i := 2) rfl)) (hw _ (List.mem_of_getElem? (i := 8) rfl)) (notFace_of_selects (args := #[]) (mvT hZ (hw _ (List.mem_of_getElem? (i := 7) rfl)))) (by decide) e8 (g := (mkF m 128 #[.val (.int p0), .val (.int ((p0 &&& (2147483647 : Int32)) % (9 : Int32))), .val (.ref a2), .val (.int (1 : Int32))] [(.ref a2)])) rfl (by rw [hml]; rfl) (argsL := []) (rest := []) rfl (lenOf own_pd0 rfl) rfl 0 (by show 2 * 0 + _ ≤ _; exact Nat.le_of_eq rfl) (hb hby at_128) (by decide) (by decide) (by decide) (by decide) ?_
        intro v9 T9 L9 hQ9 X9
        obtain ⟨rfl, e9, rfl⟩ := hQ9
        refine own_via (F' := T9.setTop (mkF m 131 #[.val (.int p0), .val (.int ((p0 &&& (2147483647 : Int32)) % (9 : Int32))), .val (.ref a2), .val (.int (1 : Int32))] [(.int (1 : Int32))])) (fun t k => k) ?_
        refine own_via (F' := T9.setTop (mkF m 132 #[.val (.int p0), .val (.int ((p0 &&& (2147483647 : Int32)) % (9 : Int32))), .val (.ref a2), .val (.int (1 : Int32))] [(.int (1 : Int32)), (.int (1 : Int32))])) (fun t k => XS.iloadN X9.here hx rfl (hb hby at_131) rfl k) ?_
        refine own_via (F' := T9.setTop (mkF m 135 #[.val (.int p0), .val (.int ((p0 &&& (2147483647 : Int32)) % (9 : Int32))), .val (.ref a2), .val (.int (1 : Int32))] [])) (fun t k => XS.icmpNo X9.here hx rfl (hb hby at_132) rfl (XT.ii_ne_f (by decide)) k) ?_
        refine own_via (F' := T9.setTop (mkF m 136 #[.val (.int p0), .val (.int ((p0 &&& (2147483647 : Int32)) % (9 : Int32))), .val (.ref a2), .val (.int (1 : Int32))] [(.int (1 : Int32))])) (fun t k => XT.iconstV X9.here hx rfl (1 : Int32) (hb hby at_135) (by decide) k) ?_
        refine own_via (F' := T9.setTop (mkF m 140 #[.val (.int p0), .val (.int ((p0 &&& (2147483647 : Int32)) % (9 : Int32))), .val (.ref a2), .val (.int (1 : Int32))] [(.int (1 : Int32))])) (fun t k => XS.goto X9.here hx rfl (pc0 := 136) (pc' := 140) rfl (hb hby at_136) (by decide) (by decide) k) ?_
        exact own_retZ X9 hx hret hlk (hb hby at_140) ⟨rfl, Fr.nil _⟩ (by decide) (by decide)
      · refine own_via (F' := T0.setTop (mkF m 49 #[.val (.int p0), .val (.int ((p0 &&& (2147483647 : Int32)) % (9 : Int32))), .unset, .unset] [])) (fun t k => XS.icmpYes X0.here hx rfl (pc0 := 37) (pc' := 49) rfl (hb hby at_37) rfl (XT.ii_ne_t q7) (by decide) (by decide) k) ?_
        refine own_via (F' := T0.setTop (mkF m 50 #[.val (.int p0), .val (.int ((p0 &&& (2147483647 : Int32)) % (9 : Int32))), .unset, .unset] [(.int ((p0 &&& (2147483647 : Int32)) % (9 : Int32)))])) (fun t k => XS.iloadN X0.here hx rfl (hb hby at_49) rfl k) ?_
        refine own_via (F' := T0.setTop (mkF m 51 #[.val (.int p0), .val (.int ((p0 &&& (2147483647 : Int32)) % (9 : Int32))), .unset, .unset] [(.int (3 : Int32)), (.int ((p0 &&& (2147483647 : Int32)) % (9 : Int32)))])) (fun t k => XT.iconstV X0.here hx rfl (3 : Int32) (hb hby at_50) (by decide) k) ?_
        by_cases q10 : ((p0 &&& (2147483647 : Int32)) % (9 : Int32)) = (3 : Int32)
        · refine own_via (F' := T0.setTop (mkF m 54 #[.val (.int p0), .val (.int ((p0 &&& (2147483647 : Int32)) % (9 : Int32))), .unset, .unset] [])) (fun t k => XS.icmpNo X0.here hx rfl (hb hby at_51) rfl (XT.ii_ne_f q10) k) ?_
          obtain ⟨T11, X11, e11, s11⟩ := getS X0 hx hZ (host := "") hown (hw _ (List.mem_of_getElem? (i := 10) rfl)) Via.refl e0 S3 (g := (mkF m 54 #[.val (.int p0), .val (.int ((p0 &&& (2147483647 : Int32)) % (9 : Int32))), .unset, .unset] [])) rfl (hb hby at_54)
          refine own_via (F' := T11.setTop (mkF m 57 #[.val (.int p0), .val (.int ((p0 &&& (2147483647 : Int32)) % (9 : Int32))), .unset, .unset] [(.ref a3)])) s11 ?_
          refine own_via (F' := T11.setTop (mkF m 58 #[.val (.int p0), .val (.int ((p0 &&& (2147483647 : Int32)) % (9 : Int32))), .val (.ref a3), .unset] [])) (fun t k => XS.astoreN X11.here hx rfl (hb hby at_57) rfl rfl (l' := #[.val (.int p0), .val (.int ((p0 &&& (2147483647 : Int32)) % (9 : Int32))), .val (.ref a3), .unset]) rfl k) ?_
          refine own_via (F' := T11.setTop (mkF m 59 #[.val (.int p0), .val (.int ((p0 &&& (2147483647 : Int32)) % (9 : Int32))), .val (.ref a3), .unset] [(.int (1 : Int32))])) (fun t k => XT.iconstV X11.here hx rfl (1 : Int32) (hb hby at_58) (by decide) k) ?_
          refine own_via (F' := T11.setTop (mkF m 60 #[.val (.int p0), .val (.int ((p0 &&& (2147483647 : Int32)) % (9 : Int32))), .val (.ref a3), .val (.int (1 : Int32))] [])) (fun t k => XS.istoreN X11.here hx rfl (hb hby at_59) rfl (l' := #[.val (.int p0), .val (.int ((p0 &&& (2147483647 : Int32)) % (9 : Int32))), .val (.ref a3), .val (.int (1 : Int32))]) rfl k) ?_
          refine own_via (F' := T11.setTop (mkF m 127 #[.val (.int p0), .val (.int ((p0 &&& (2147483647 : Int32)) % (9 : Int32))), .val (.ref a3), .val (.int (1 : Int32))] [])) (fun t k => XS.goto X11.here hx rfl (pc0 := 60) (pc' := 127) rfl (hb hby at_60) (by decide) (by decide) k) ?_
          refine own_via (F' := T11.setTop (mkF m 128 #[.val (.int p0), .val (.int ((p0 &&& (2147483647 : Int32)) % (9 : Int32))), .val (.ref a3), .val (.int (1 : Int32))] [(.ref a3)])) (fun t k => XS.aloadN X11.here hx rfl (hb hby at_127) rfl rfl k) ?_
          refine own_callV X11 hx hZ (own_k1 l Z az hw a3 a0 a5 a6 h0 S0 S5 S6 (1 : Int32) (by first | (simp [n3_0, n3_1, n3_2, n3_4, n3_5, n3_6, n3_7, n3_8]; done) | rfl)) hown E3 (hw _ (List.mem_of_getElem? (i := 4) rfl)) (hw _ (List.mem_of_getElem? (i := 5) rfl)) (hw _ (List.mem_of_getElem? (i := 7) rfl)) (hw _ (List.mem_of_getElem? (i := 6) rfl)) (hw _ (List.mem_of_getElem? (i := 2) rfl)) (hw _ (List.mem_of_getElem? (i := 8) rfl)) (notFace_of_selects (args := #[]) (mvT hZ (hw _ (List.mem_of_getElem? (i := 7) rfl)))) (by decide) e11 (g := (mkF m 128 #[.val (.int p0), .val (.int ((p0 &&& (2147483647 : Int32)) % (9 : Int32))), .val (.ref a3), .val (.int (1 : Int32))] [(.ref a3)])) rfl (by rw [hml]; rfl) (argsL := []) (rest := []) rfl (lenOf own_pd0 rfl) rfl 0 (by show 2 * 0 + _ ≤ _; exact Nat.le_of_eq rfl) (hb hby at_128) (by decide) (by decide) (by decide) (by decide) ?_
          intro v12 T12 L12 hQ12 X12
          obtain ⟨rfl, e12, rfl⟩ := hQ12
          refine own_via (F' := T12.setTop (mkF m 131 #[.val (.int p0), .val (.int ((p0 &&& (2147483647 : Int32)) % (9 : Int32))), .val (.ref a3), .val (.int (1 : Int32))] [(.int (1 : Int32))])) (fun t k => k) ?_
          refine own_via (F' := T12.setTop (mkF m 132 #[.val (.int p0), .val (.int ((p0 &&& (2147483647 : Int32)) % (9 : Int32))), .val (.ref a3), .val (.int (1 : Int32))] [(.int (1 : Int32)), (.int (1 : Int32))])) (fun t k => XS.iloadN X12.here hx rfl (hb hby at_131) rfl k) ?_
          refine own_via (F' := T12.setTop (mkF m 135 #[.val (.int p0), .val (.int ((p0 &&& (2147483647 : Int32)) % (9 : Int32))), .val (.ref a3), .val (.int (1 : Int32))] [])) (fun t k => XS.icmpNo X12.here hx rfl (hb hby at_132) rfl (XT.ii_ne_f (by decide)) k) ?_
          refine own_via (F' := T12.setTop (mkF m 136 #[.val (.int p0), .val (.int ((p0 &&& (2147483647 : Int32)) % (9 : Int32))), .val (.ref a3), .val (.int (1 : Int32))] [(.int (1 : Int32))])) (fun t k => XT.iconstV X12.here hx rfl (1 : Int32) (hb hby at_135) (by decide) k) ?_
          refine own_via (F' := T12.setTop (mkF m 140 #[.val (.int p0), .val (.int ((p0 &&& (2147483647 : Int32)) % (9 : Int32))), .val (.ref a3), .val (.int (1 : Int32))] [(.int (1 : Int32))])) (fun t k => XS.goto X12.here hx rfl (pc0 := 136) (pc' := 140) rfl (hb hby at_136) (by decide) (by decide) k) ?_
          exact own_retZ X12 hx hret hlk (hb hby at_140) ⟨rfl, Fr.nil _⟩ (by decide) (by decide)
        · refine own_via (F' := T0.setTop (mkF m 63 #[.val (.int p0), .val (.int ((p0 &&& (2147483647 : Int32)) % (9 : Int32))), .unset, .unset] [])) (fun t k => XS.icmpYes X0.here hx rfl (pc0 := 51) (pc' := 63) rfl (hb hby at_51) rfl (XT.ii_ne_t q10) (by decide) (by decide) k) ?_
          refine own_via (F' := T0.setTop (mkF m 64 #[.val (.int p0), .val (.int ((p0 &&& (2147483647 : Int32)) % (9 : Int32))), .unset, .unset] [(.int ((p0 &&& (2147483647 : Int32)) % (9 : Int32)))])) (fun t k => XS.iloadN X0.here hx rfl (hb hby at_63) rfl k) ?_
          refine own_via (F' := T0.setTop (mkF m 65 #[.val (.int p0), .val (.int ((p0 &&& (2147483647 : Int32)) % (9 : Int32))), .unset, .unset] [(.int (4 : Int32)), (.int ((p0 &&& (2147483647 : Int32)) % (9 : Int32)))])) (fun t k => XT.iconstV X0.here hx rfl (4 : Int32) (hb hby at_64) (by decide) k) ?_
          by_cases q13 : ((p0 &&& (2147483647 : Int32)) % (9 : Int32)) = (4 : Int32)
          · refine own_via (F' := T0.setTop (mkF m 68 #[.val (.int p0), .val (.int ((p0 &&& (2147483647 : Int32)) % (9 : Int32))), .unset, .unset] [])) (fun t k => XS.icmpNo X0.here hx rfl (hb hby at_65) rfl (XT.ii_ne_f q13) k) ?_
            obtain ⟨T14, X14, e14, s14⟩ := getS X0 hx hZ (host := "") hown (hw _ (List.mem_of_getElem? (i := 22) rfl)) Via.refl e0 S4 (g := (mkF m 68 #[.val (.int p0), .val (.int ((p0 &&& (2147483647 : Int32)) % (9 : Int32))), .unset, .unset] [])) rfl (hb hby at_68)
            refine own_via (F' := T14.setTop (mkF m 71 #[.val (.int p0), .val (.int ((p0 &&& (2147483647 : Int32)) % (9 : Int32))), .unset, .unset] [(.ref a4)])) s14 ?_
            refine own_via (F' := T14.setTop (mkF m 72 #[.val (.int p0), .val (.int ((p0 &&& (2147483647 : Int32)) % (9 : Int32))), .val (.ref a4), .unset] [])) (fun t k => XS.astoreN X14.here hx rfl (hb hby at_71) rfl rfl (l' := #[.val (.int p0), .val (.int ((p0 &&& (2147483647 : Int32)) % (9 : Int32))), .val (.ref a4), .unset]) rfl k) ?_
            refine own_via (F' := T14.setTop (mkF m 73 #[.val (.int p0), .val (.int ((p0 &&& (2147483647 : Int32)) % (9 : Int32))), .val (.ref a4), .unset] [(.int (1 : Int32))])) (fun t k => XT.iconstV X14.here hx rfl (1 : Int32) (hb hby at_72) (by decide) k) ?_
            refine own_via (F' := T14.setTop (mkF m 74 #[.val (.int p0), .val (.int ((p0 &&& (2147483647 : Int32)) % (9 : Int32))), .val (.ref a4), .val (.int (1 : Int32))] [])) (fun t k => XS.istoreN X14.here hx rfl (hb hby at_73) rfl (l' := #[.val (.int p0), .val (.int ((p0 &&& (2147483647 : Int32)) % (9 : Int32))), .val (.ref a4), .val (.int (1 : Int32))]) rfl k) ?_
            refine own_via (F' := T14.setTop (mkF m 127 #[.val (.int p0), .val (.int ((p0 &&& (2147483647 : Int32)) % (9 : Int32))), .val (.ref a4), .val (.int (1 : Int32))] [])) (fun t k => XS.goto X14.here hx rfl (pc0 := 74) (pc' := 127) rfl (hb hby at_74) (by decide) (by decide) k) ?_
            refine own_via (F' := T14.setTop (mkF m 128 #[.val (.int p0), .val (.int ((p0 &&& (2147483647 : Int32)) % (9 : Int32))), .val (.ref a4), .val (.int (1 : Int32))] [(.ref a4)])) (fun t k => XS.aloadN X14.here hx rfl (hb hby at_127) rfl rfl k) ?_
            refine own_callV X14 hx hZ (own_k1 l Z az hw a4 a0 a5 a6 h0 S0 S5 S6 (1 : Int32) (by first | (simp [n4_0, n4_1, n4_2, n4_3, n4_5, n4_6, n4_7, n4_8]; done) | rfl)) hown E4 (hw _ (List.mem_of_getElem? (i := 4) rfl)) (hw _ (List.mem_of_getElem? (i := 5) rfl)) (hw _ (List.mem_of_getElem? (i := 7) rfl)) (hw _ (List.mem_of_getElem? (i := 6) rfl)) (hw _ (List.mem_of_getElem? (i := 2) rfl)) (hw _ (List.mem_of_getElem? (i := 8) rfl)) (notFace_of_selects (args := #[]) (mvT hZ (hw _ (List.mem_of_getElem? (i := 7) rfl)))) (by decide) e14 (g := (mkF m 128 #[.val (.int p0), .val (.int ((p0 &&& (2147483647 : Int32)) % (9 : Int32))), .val (.ref a4), .val (.int (1 : Int32))] [(.ref a4)])) rfl (by rw [hml]; rfl) (argsL := []) (rest := []) rfl (lenOf own_pd0 rfl) rfl 0 (by show 2 * 0 + _ ≤ _; exact Nat.le_of_eq rfl) (hb hby at_128) (by decide) (by decide) (by decide) (by decide) ?_
            intro v15 T15 L15 hQ15 X15
            obtain ⟨rfl, e15, rfl⟩ := hQ15
            refine own_via (F' := T15.setTop (mkF m 131 #[.val (.int p0), .val (.int ((p0 &&& (2147483647 : Int32)) % (9 : Int32))), .val (.ref a4), .val (.int (1 : Int32))] [(.int (1 : Int32))])) (fun t k => k) ?_
            refine own_via (F' := T15.setTop (mkF m 132 #[.val (.int p0), .val (.int ((p0 &&& (2147483647 : Int32)) % (9 : Int32))), .val (.ref a4), .val (.int (1 : Int32))] [(.int (1 : Int32)), (.int (1 : Int32))])) (fun t k => XS.iloadN X15.here hx rfl (hb hby at_131) rfl k) ?_
            refine own_via (F' := T15.setTop (mkF m 135 #[.val (.int p0), .val (.int ((p0 &&& (2147483647 : Int32)) % (9 : Int32))), .val (.ref a4), .val (.int (1 : Int32))] [])) (fun t k => XS.icmpNo X15.here hx rfl (hb hby at_132) rfl (XT.ii_ne_f (by decide)) k) ?_
            refine own_via (F' := T15.setTop (mkF m 136 #[.val (.int p0), .val (.int ((p0 &&& (2147483647 : Int32)) % (9 : Int32))), .val (.ref a4), .val (.int (1 : Int32))] [(.int (1 : Int32))])) (fun t k => XT.iconstV X15.here hx rfl (1 : Int32) (hb hby at_135) (by decide) k) ?_
            refine own_via (F' := T15.setTop (mkF m 140 #[.val (.int p0), .val (.int ((p0 &&& (2147483647 : Int32)) % (9 : Int32))), .val (.ref a4), .val (.int (1 : Int32))] [(.int (1 : Int32))])) (fun t k => XS.goto X15.here hx rfl (pc0 := 136) (pc' := 140) rfl (hb hby at_136) (by decide) (by decide) k) ?_
            exact own_retZ X15 hx hret hlk (hb hby at_140) ⟨rfl, Fr.nil _⟩ (by decide) (by decide)
          · refine own_via (F' := T0.setTop (mkF m 77 #[.val (.int p0), .val (.int ((p0 &&& (2147483647 : Int32)) % (9 : Int32))), .unset, .unset] [])) (fun t k => XS.icmpYes X0.here hx rfl (pc0 := 65) (pc' := 77) rfl (hb hby at_65) rfl (XT.ii_ne_t q13) (by decide) (by decide) k) ?_
            refine own_via (F' := T0.setTop (mkF m 78 #[.val (.int p0), .val (.int ((p0 &&& (2147483647 : Int32)) % (9 : Int32))), .unset, .unset] [(.int ((p0 &&& (2147483647 : Int32)) % (9 : Int32)))])) (fun t k => XS.iloadN X0.here hx rfl (hb hby at_77) rfl k) ?_
            refine own_via (F' := T0.setTop (mkF m 79 #[.val (.int p0), .val (.int ((p0 &&& (2147483647 : Int32)) % (9 : Int32))), .unset, .unset] [(.int (5 : Int32)), (.int ((p0 &&& (2147483647 : Int32)) % (9 : Int32)))])) (fun t k => XT.iconstV X0.here hx rfl (5 : Int32) (hb hby at_78) (by decide) k) ?_
            by_cases q16 : ((p0 &&& (2147483647 : Int32)) % (9 : Int32)) = (5 : Int32)
            · refine own_via (F' := T0.setTop (mkF m 82 #[.val (.int p0), .val (.int ((p0 &&& (2147483647 : Int32)) % (9 : Int32))), .unset, .unset] [])) (fun t k => XS.icmpNo X0.here hx rfl (hb hby at_79) rfl (XT.ii_ne_f q16) k) ?_
              obtain ⟨T17, X17, e17, s17⟩ := getS X0 hx hZ (host := "") hown (hw _ (List.mem_of_getElem? (i := 27) rfl)) Via.refl e0 S5 (g := (mkF m 82 #[.val (.int p0), .val (.int ((p0 &&& (2147483647 : Int32)) % (9 : Int32))), .unset, .unset] [])) rfl (hb hby at_82)
              refine own_via (F' := T17.setTop (mkF m 85 #[.val (.int p0), .val (.int ((p0 &&& (2147483647 : Int32)) % (9 : Int32))), .unset, .unset] [(.ref a5)])) s17 ?_
              refine own_via (F' := T17.setTop (mkF m 86 #[.val (.int p0), .val (.int ((p0 &&& (2147483647 : Int32)) % (9 : Int32))), .val (.ref a5), .unset] [])) (fun t k => XS.astoreN X17.here hx rfl (hb hby at_85) rfl rfl (l' := #[.val (.int p0), .val (.int ((p0 &&& (2147483647 : Int32)) % (9 : Int32))), .val (.ref a5), .unset]) rfl k) ?_
              refine own_via (F' := T17.setTop (mkF m 87 #[.val (.int p0), .val (.int ((p0 &&& (2147483647 : Int32)) % (9 : Int32))), .val (.ref a5), .unset] [(.int (0 : Int32))])) (fun t k => XT.iconstV X17.here hx rfl (0 : Int32) (hb hby at_86) (by decide) k) ?_
              refine own_via (F' := T17.setTop (mkF m 88 #[.val (.int p0), .val (.int ((p0 &&& (2147483647 : Int32)) % (9 : Int32))), .val (.ref a5), .val (.int (0 : Int32))] [])) (fun t k => XS.istoreN X17.here hx rfl (hb hby at_87) rfl (l' := #[.val (.int p0), .val (.int ((p0 &&& (2147483647 : Int32)) % (9 : Int32))), .val (.ref a5), .val (.int (0 : Int32))]) rfl k) ?_
              refine own_via (F' := T17.setTop (mkF m 127 #[.val (.int p0), .val (.int ((p0 &&& (2147483647 : Int32)) % (9 : Int32))), .val (.ref a5), .val (.int (0 : Int32))] [])) (fun t k => XS.goto X17.here hx rfl (pc0 := 88) (pc' := 127) rfl (hb hby at_88) (by decide) (by decide) k) ?_
              refine own_via (F' := T17.setTop (mkF m 128 #[.val (.int p0), .val (.int ((p0 &&& (2147483647 : Int32)) % (9 : Int32))), .val (.ref a5), .val (.int (0 : Int32))] [(.ref a5)])) (fun t k => XS.aloadN X17.here hx rfl (hb hby at_127) rfl rfl k) ?_
              refine own_callV X17 hx hZ (own_k1 l Z az hw a5 a0 a5 a6 h0 S0 S5 S6 (0 : Int32) (by first | (simp [n5_0, n5_1, n5_2, n5_3, n5_4, n5_6, n5_7, n5_8]; done) | rfl)) hown E5 (hw _ (List.mem_of_getElem? (i := 4) rfl)) (hw _ (List.mem_of_getElem? (i := 5) rfl)) (hw _ (List.mem_of_getElem? (i := 7) rfl)) (hw _ (List.mem_of_getElem? (i := 6) rfl)) (hw _ (List.mem_of_getElem? (i := 2) rfl)) (hw _ (List.mem_of_getElem? (i := 8) rfl)) (notFace_of_selects (args := #[]) (mvT hZ (hw _ (List.mem_of_getElem? (i := 7) rfl)))) (by decide) e17 (g := (mkF m 128 #[.val (.int p0), .val (.int ((p0 &&& (2147483647 : Int32)) % (9 : Int32))), .val (.ref a5), .val (.int (0 : Int32))] [(.ref a5)])) rfl (by rw [hml]; rfl) (argsL := []) (rest := []) rfl (lenOf own_pd0 rfl) rfl 0 (by show 2 * 0 + _ ≤ _; exact Nat.le_of_eq rfl) (hb hby at_128) (by decide) (by decide) (by decide) (by decide) ?_
              intro v18 T18 L18 hQ18 X18
              obtain ⟨rfl, e18, rfl⟩ := hQ18
              refine own_via (F' := T18.setTop (mkF m 131 #[.val (.int p0), .val (.int ((p0 &&& (2147483647 : Int32)) % (9 : Int32))), .val (.ref a5), .val (.int (0 : Int32))] [(.int (0 : Int32))])) (fun t k => k) ?_
              refine own_via (F' := T18.setTop (mkF m 132 #[.val (.int p0), .val (.int ((p0 &&& (2147483647 : Int32)) % (9 : Int32))), .val (.ref a5), .val (.int (0 : Int32))] [(.int (0 : Int32)), (.int (0 : Int32))])) (fun t k => XS.iloadN X18.here hx rfl (hb hby at_131) rfl k) ?_
              refine own_via (F' := T18.setTop (mkF m 135 #[.val (.int p0), .val (.int ((p0 &&& (2147483647 : Int32)) % (9 : Int32))), .val (.ref a5), .val (.int (0 : Int32))] [])) (fun t k => XS.icmpNo X18.here hx rfl (hb hby at_132) rfl (XT.ii_ne_f (by decide)) k) ?_
              refine own_via (F' := T18.setTop (mkF m 136 #[.val (.int p0), .val (.int ((p0 &&& (2147483647 : Int32)) % (9 : Int32))), .val (.ref a5), .val (.int (0 : Int32))] [(.int (1 : Int32))])) (fun t k => XT.iconstV X18.here hx rfl (1 : Int32) (hb hby at_135) (by decide) k) ?_
              refine own_via (F' := T18.setTop (mkF m 140 #[.val (.int p0), .val (.int ((p0 &&& (2147483647 : Int32)) % (9 : Int32))), .val (.ref a5), .val (.int (0 : Int32))] [(.int (1 : Int32))])) (fun t k => XS.goto X18.here hx rfl (pc0 := 136) (pc' := 140) rfl (hb hby at_136) (by decide) (by decide) k) ?_
              exact own_retZ X18 hx hret hlk (hb hby at_140) ⟨rfl, Fr.nil _⟩ (by decide) (by decide)
            · refine own_via (F' := T0.setTop (mkF m 91 #[.val (.int p0), .val (.int ((p0 &&& (2147483647 : Int32)) % (9 : Int32))), .unset, .unset] [])) (fun t k => XS.icmpYes X0.here hx rfl (pc0 := 79) (pc' := 91) rfl (hb hby at_79) rfl (XT.ii_ne_t q16) (by decide) (by decide) k) ?_
              refine own_via (F' := T0.setTop (mkF m 92 #[.val (.int p0), .val (.int ((p0 &&& (2147483647 : Int32)) % (9 : Int32))), .unset, .unset] [(.int ((p0 &&& (2147483647 : Int32)) % (9 : Int32)))])) (fun t k => XS.iloadN X0.here hx rfl (hb hby at_91) rfl k) ?_
              refine own_via (F' := T0.setTop (mkF m 94 #[.val (.int p0), .val (.int ((p0 &&& (2147483647 : Int32)) % (9 : Int32))), .unset, .unset] [(.int (6 : Int32)), (.int ((p0 &&& (2147483647 : Int32)) % (9 : Int32)))])) (fun t k => XT.bipushV X0.here hx rfl (6 : Int32) (hb hby at_92) (by decide) k) ?_
              by_cases q19 : ((p0 &&& (2147483647 : Int32)) % (9 : Int32)) = (6 : Int32)
              · refine own_via (F' := T0.setTop (mkF m 97 #[.val (.int p0), .val (.int ((p0 &&& (2147483647 : Int32)) % (9 : Int32))), .unset, .unset] [])) (fun t k => XS.icmpNo X0.here hx rfl (hb hby at_94) rfl (XT.ii_ne_f q19) k) ?_
                obtain ⟨T20, X20, e20, s20⟩ := getS X0 hx hZ (host := "") hown (hw _ (List.mem_of_getElem? (i := 26) rfl)) Via.refl e0 S6 (g := (mkF m 97 #[.val (.int p0), .val (.int ((p0 &&& (2147483647 : Int32)) % (9 : Int32))), .unset, .unset] [])) rfl (hb hby at_97)
                refine own_via (F' := T20.setTop (mkF m 100 #[.val (.int p0), .val (.int ((p0 &&& (2147483647 : Int32)) % (9 : Int32))), .unset, .unset] [(.ref a6)])) s20 ?_
                refine own_via (F' := T20.setTop (mkF m 101 #[.val (.int p0), .val (.int ((p0 &&& (2147483647 : Int32)) % (9 : Int32))), .val (.ref a6), .unset] [])) (fun t k => XS.astoreN X20.here hx rfl (hb hby at_100) rfl rfl (l' := #[.val (.int p0), .val (.int ((p0 &&& (2147483647 : Int32)) % (9 : Int32))), .val (.ref a6), .unset]) rfl k) ?_
                refine own_via (F' := T20.setTop (mkF m 102 #[.val (.int p0), .val (.int ((p0 &&& (2147483647 : Int32)) % (9 : Int32))), .val (.ref a6), .unset] [(.int (0 : Int32))])) (fun t k => XT.iconstV X20.here hx rfl (0 : Int32) (hb hby at_101) (by decide) k) ?_
                refine own_via (F' := T20.setTop (mkF m 103 #[.val (.int p0), .val (.int ((p0 &&& (2147483647 : Int32)) % (9 : Int32))), .val (.ref a6), .val (.int (0 : Int32))] [])) (fun t k => XS.istoreN X20.here hx rfl (hb hby at_102) rfl (l' := #[.val (.int p0), .val (.int ((p0 &&& (2147483647 : Int32)) % (9 : Int32))), .val (.ref a6), .val (.int (0 : Int32))]) rfl k) ?_
                refine own_via (F' := T20.setTop (mkF m 127 #[.val (.int p0), .val (.int ((p0 &&& (2147483647 : Int32)) % (9 : Int32))), .val (.ref a6), .val (.int (0 : Int32))] [])) (fun t k => XS.goto X20.here hx rfl (pc0 := 103) (pc' := 127) rfl (hb hby at_103) (by decide) (by decide) k) ?_
                refine own_via (F' := T20.setTop (mkF m 128 #[.val (.int p0), .val (.int ((p0 &&& (2147483647 : Int32)) % (9 : Int32))), .val (.ref a6), .val (.int (0 : Int32))] [(.ref a6)])) (fun t k => XS.aloadN X20.here hx rfl (hb hby at_127) rfl rfl k) ?_
                refine own_callV X20 hx hZ (own_k1 l Z az hw a6 a0 a5 a6 h0 S0 S5 S6 (0 : Int32) (by first | (simp [n6_0, n6_1, n6_2, n6_3, n6_4, n6_5, n6_7, n6_8]; done) | rfl)) hown E6 (hw _ (List.mem_of_getElem? (i := 4) rfl)) (hw _ (List.mem_of_getElem? (i := 5) rfl)) (hw _ (List.mem_of_getElem? (i := 7) rfl)) (hw _ (List.mem_of_getElem? (i := 6) rfl)) (hw _ (List.mem_of_getElem? (i := 2) rfl)) (hw _ (List.mem_of_getElem? (i := 8) rfl)) (notFace_of_selects (args := #[]) (mvT hZ (hw _ (List.mem_of_getElem? (i := 7) rfl)))) (by decide) e20 (g := (mkF m 128 #[.val (.int p0), .val (.int ((p0 &&& (2147483647 : Int32)) % (9 : Int32))), .val (.ref a6), .val (.int (0 : Int32))] [(.ref a6)])) rfl (by rw [hml]; rfl) (argsL := []) (rest := []) rfl (lenOf own_pd0 rfl) rfl 0 (by show 2 * 0 + _ ≤ _; exact Nat.le_of_eq rfl) (hb hby at_128) (by decide) (by decide) (by decide) (by decide) ?_
                intro v21 T21 L21 hQ21 X21
                obtain ⟨rfl, e21, rfl⟩ := hQ21
                refine own_via (F' := T21.setTop (mkF m 131 #[.val (.int p0), .val (.int ((p0 &&& (2147483647 : Int32)) % (9 : Int32))), .val (.ref a6), .val (.int (0 : Int32))] [(.int (0 : Int32))])) (fun t k => k) ?_
                refine own_via (F' := T21.setTop (mkF m 132 #[.val (.int p0), .val (.int ((p0 &&& (2147483647 : Int32)) % (9 : Int32))), .val (.ref a6), .val (.int (0 : Int32))] [(.int (0 : Int32)), (.int (0 : Int32))])) (fun t k => XS.iloadN X21.here hx rfl (hb hby at_131) rfl k) ?_
                refine own_via (F' := T21.setTop (mkF m 135 #[.val (.int p0), .val (.int ((p0 &&& (2147483647 : Int32)) % (9 : Int32))), .val (.ref a6), .val (.int (0 : Int32))] [])) (fun t k => XS.icmpNo X21.here hx rfl (hb hby at_132) rfl (XT.ii_ne_f (by decide)) k) ?_
                refine own_via (F' := T21.setTop (mkF m 136 #[.val (.int p0), .val (.int ((p0 &&& (2147483647 : Int32)) % (9 : Int32))), .val (.ref a6), .val (.int (0 : Int32))] [(.int (1 : Int32))])) (fun t k => XT.iconstV X21.here hx rfl (1 : Int32) (hb hby at_135) (by decide) k) ?_
                refine own_via (F' := T21.setTop (mkF m 140 #[.val (.int p0), .val (.int ((p0 &&& (2147483647 : Int32)) % (9 : Int32))), .val (.ref a6), .val (.int (0 : Int32))] [(.int (1 : Int32))])) (fun t k => XS.goto X21.here hx rfl (pc0 := 136) (pc' := 140) rfl (hb hby at_136) (by decide) (by decide) k) ?_
                exact own_retZ X21 hx hret hlk (hb hby at_140) ⟨rfl, Fr.nil _⟩ (by decide) (by decide)
              · refine own_via (F' := T0.setTop (mkF m 106 #[.val (.int p0), .val (.int ((p0 &&& (2147483647 : Int32)) % (9 : Int32))), .unset, .unset] [])) (fun t k => XS.icmpYes X0.here hx rfl (pc0 := 94) (pc' := 106) rfl (hb hby at_94) rfl (XT.ii_ne_t q19) (by decide) (by decide) k) ?_
                refine own_via (F' := T0.setTop (mkF m 107 #[.val (.int p0), .val (.int ((p0 &&& (2147483647 : Int32)) % (9 : Int32))), .unset, .unset] [(.int ((p0 &&& (2147483647 : Int32)) % (9 : Int32)))])) (fun t k => XS.iloadN X0.here hx rfl (hb hby at_106) rfl k) ?_
                refine own_via (F' := T0.setTop (mkF m 109 #[.val (.int p0), .val (.int ((p0 &&& (2147483647 : Int32)) % (9 : Int32))), .unset, .unset] [(.int (7 : Int32)), (.int ((p0 &&& (2147483647 : Int32)) % (9 : Int32)))])) (fun t k => XT.bipushV X0.here hx rfl (7 : Int32) (hb hby at_107) (by decide) k) ?_
                by_cases q22 : ((p0 &&& (2147483647 : Int32)) % (9 : Int32)) = (7 : Int32)
                · refine own_via (F' := T0.setTop (mkF m 112 #[.val (.int p0), .val (.int ((p0 &&& (2147483647 : Int32)) % (9 : Int32))), .unset, .unset] [])) (fun t k => XS.icmpNo X0.here hx rfl (hb hby at_109) rfl (XT.ii_ne_f q22) k) ?_
                  obtain ⟨T23, X23, e23, s23⟩ := getS X0 hx hZ (host := "") hown (hw _ (List.mem_of_getElem? (i := 20) rfl)) Via.refl e0 S7 (g := (mkF m 112 #[.val (.int p0), .val (.int ((p0 &&& (2147483647 : Int32)) % (9 : Int32))), .unset, .unset] [])) rfl (hb hby at_112)
                  refine own_via (F' := T23.setTop (mkF m 115 #[.val (.int p0), .val (.int ((p0 &&& (2147483647 : Int32)) % (9 : Int32))), .unset, .unset] [(.ref a7)])) s23 ?_
                  refine own_via (F' := T23.setTop (mkF m 116 #[.val (.int p0), .val (.int ((p0 &&& (2147483647 : Int32)) % (9 : Int32))), .val (.ref a7), .unset] [])) (fun t k => XS.astoreN X23.here hx rfl (hb hby at_115) rfl rfl (l' := #[.val (.int p0), .val (.int ((p0 &&& (2147483647 : Int32)) % (9 : Int32))), .val (.ref a7), .unset]) rfl k) ?_
                  refine own_via (F' := T23.setTop (mkF m 117 #[.val (.int p0), .val (.int ((p0 &&& (2147483647 : Int32)) % (9 : Int32))), .val (.ref a7), .unset] [(.int (1 : Int32))])) (fun t k => XT.iconstV X23.here hx rfl (1 : Int32) (hb hby at_116) (by decide) k) ?_
                  refine own_via (F' := T23.setTop (mkF m 118 #[.val (.int p0), .val (.int ((p0 &&& (2147483647 : Int32)) % (9 : Int32))), .val (.ref a7), .val (.int (1 : Int32))] [])) (fun t k => XS.istoreN X23.here hx rfl (hb hby at_117) rfl (l' := #[.val (.int p0), .val (.int ((p0 &&& (2147483647 : Int32)) % (9 : Int32))), .val (.ref a7), .val (.int (1 : Int32))]) rfl k) ?_
                  refine own_via (F' := T23.setTop (mkF m 127 #[.val (.int p0), .val (.int ((p0 &&& (2147483647 : Int32)) % (9 : Int32))), .val (.ref a7), .val (.int (1 : Int32))] [])) (fun t k => XS.goto X23.here hx rfl (pc0 := 118) (pc' := 127) rfl (hb hby at_118) (by decide) (by decide) k) ?_
                  refine own_via (F' := T23.setTop (mkF m 128 #[.val (.int p0), .val (.int ((p0 &&& (2147483647 : Int32)) % (9 : Int32))), .val (.ref a7), .val (.int (1 : Int32))] [(.ref a7)])) (fun t k => XS.aloadN X23.here hx rfl (hb hby at_127) rfl rfl k) ?_
                  refine own_callV X23 hx hZ (own_k1 l Z az hw a7 a0 a5 a6 h0 S0 S5 S6 (1 : Int32) (by first | (simp [n7_0, n7_1, n7_2, n7_3, n7_4, n7_5, n7_6, n7_8]; done) | rfl)) hown E7 (hw _ (List.mem_of_getElem? (i := 4) rfl)) (hw _ (List.mem_of_getElem? (i := 5) rfl)) (hw _ (List.mem_of_getElem? (i := 7) rfl)) (hw _ (List.mem_of_getElem? (i := 6) rfl)) (hw _ (List.mem_of_getElem? (i := 2) rfl)) (hw _ (List.mem_of_getElem? (i := 8) rfl)) (notFace_of_selects (args := #[]) (mvT hZ (hw _ (List.mem_of_getElem? (i := 7) rfl)))) (by decide) e23 (g := (mkF m 128 #[.val (.int p0), .val (.int ((p0 &&& (2147483647 : Int32)) % (9 : Int32))), .val (.ref a7), .val (.int (1 : Int32))] [(.ref a7)])) rfl (by rw [hml]; rfl) (argsL := []) (rest := []) rfl (lenOf own_pd0 rfl) rfl 0 (by show 2 * 0 + _ ≤ _; exact Nat.le_of_eq rfl) (hb hby at_128) (by decide) (by decide) (by decide) (by decide) ?_
                  intro v24 T24 L24 hQ24 X24
                  obtain ⟨rfl, e24, rfl⟩ := hQ24
                  refine own_via (F' := T24.setTop (mkF m 131 #[.val (.int p0), .val (.int ((p0 &&& (2147483647 : Int32)) % (9 : Int32))), .val (.ref a7), .val (.int (1 : Int32))] [(.int (1 : Int32))])) (fun t k => k) ?_
                  refine own_via (F' := T24.setTop (mkF m 132 #[.val (.int p0), .val (.int ((p0 &&& (2147483647 : Int32)) % (9 : Int32))), .val (.ref a7), .val (.int (1 : Int32))] [(.int (1 : Int32)), (.int (1 : Int32))])) (fun t k => XS.iloadN X24.here hx rfl (hb hby at_131) rfl k) ?_
                  refine own_via (F' := T24.setTop (mkF m 135 #[.val (.int p0), .val (.int ((p0 &&& (2147483647 : Int32)) % (9 : Int32))), .val (.ref a7), .val (.int (1 : Int32))] [])) (fun t k => XS.icmpNo X24.here hx rfl (hb hby at_132) rfl (XT.ii_ne_f (by decide)) k) ?_
                  refine own_via (F' := T24.setTop (mkF m 136 #[.val (.int p0), .val (.int ((p0 &&& (2147483647 : Int32)) % (9 : Int32))), .val (.ref a7), .val (.int (1 : Int32))] [(.int (1 : Int32))])) (fun t k => XT.iconstV X24.here hx rfl (1 : Int32) (hb hby at_135) (by decide) k) ?_
                  refine own_via (F' := T24.setTop (mkF m 140 #[.val (.int p0), .val (.int ((p0 &&& (2147483647 : Int32)) % (9 : Int32))), .val (.ref a7), .val (.int (1 : Int32))] [(.int (1 : Int32))])) (fun t k => XS.goto X24.here hx rfl (pc0 := 136) (pc' := 140) rfl (hb hby at_136) (by decide) (by decide) k) ?_
                  exact own_retZ X24 hx hret hlk (hb hby at_140) ⟨rfl, Fr.nil _⟩ (by decide) (by decide)
                · refine own_via (F' := T0.setTop (mkF m 121 #[.val (.int p0), .val (.int ((p0 &&& (2147483647 : Int32)) % (9 : Int32))), .unset, .unset] [])) (fun t k => XS.icmpYes X0.here hx rfl (pc0 := 109) (pc' := 121) rfl (hb hby at_109) rfl (XT.ii_ne_t q22) (by decide) (by decide) k) ?_
                  obtain ⟨T25, X25, e25, s25⟩ := getS X0 hx hZ (host := "") hown (hw _ (List.mem_of_getElem? (i := 24) rfl)) Via.refl e0 S8 (g := (mkF m 121 #[.val (.int p0), .val (.int ((p0 &&& (2147483647 : Int32)) % (9 : Int32))), .unset, .unset] [])) rfl (hb hby at_121)
                  refine own_via (F' := T25.setTop (mkF m 124 #[.val (.int p0), .val (.int ((p0 &&& (2147483647 : Int32)) % (9 : Int32))), .unset, .unset] [(.ref a8)])) s25 ?_
                  refine own_via (F' := T25.setTop (mkF m 125 #[.val (.int p0), .val (.int ((p0 &&& (2147483647 : Int32)) % (9 : Int32))), .val (.ref a8), .unset] [])) (fun t k => XS.astoreN X25.here hx rfl (hb hby at_124) rfl rfl (l' := #[.val (.int p0), .val (.int ((p0 &&& (2147483647 : Int32)) % (9 : Int32))), .val (.ref a8), .unset]) rfl k) ?_
                  refine own_via (F' := T25.setTop (mkF m 126 #[.val (.int p0), .val (.int ((p0 &&& (2147483647 : Int32)) % (9 : Int32))), .val (.ref a8), .unset] [(.int (1 : Int32))])) (fun t k => XT.iconstV X25.here hx rfl (1 : Int32) (hb hby at_125) (by decide) k) ?_
                  refine own_via (F' := T25.setTop (mkF m 127 #[.val (.int p0), .val (.int ((p0 &&& (2147483647 : Int32)) % (9 : Int32))), .val (.ref a8), .val (.int (1 : Int32))] [])) (fun t k => XS.istoreN X25.here hx rfl (hb hby at_126) rfl (l' := #[.val (.int p0), .val (.int ((p0 &&& (2147483647 : Int32)) % (9 : Int32))), .val (.ref a8), .val (.int (1 : Int32))]) rfl k) ?_
                  refine own_via (F' := T25.setTop (mkF m 128 #[.val (.int p0), .val (.int ((p0 &&& (2147483647 : Int32)) % (9 : Int32))), .val (.ref a8), .val (.int (1 : Int32))] [(.ref a8)])) (fun t k => XS.aloadN X25.here hx rfl (hb hby at_127) rfl rfl k) ?_
                  refine own_callV X25 hx hZ (own_k1 l Z az hw a8 a0 a5 a6 h0 S0 S5 S6 (1 : Int32) (by first | (simp [n8_0, n8_1, n8_2, n8_3, n8_4, n8_5, n8_6, n8_7]; done) | rfl)) hown E8 (hw _ (List.mem_of_getElem? (i := 4) rfl)) (hw _ (List.mem_of_getElem? (i := 5) rfl)) (hw _ (List.mem_of_getElem? (i := 7) rfl)) (hw _ (List.mem_of_getElem? (i := 6) rfl)) (hw _ (List.mem_of_getElem? (i := 2) rfl)) (hw _ (List.mem_of_getElem? (i := 8) rfl)) (notFace_of_selects (args := #[]) (mvT hZ (hw _ (List.mem_of_getElem? (i := 7) rfl)))) (by decide) e25 (g := (mkF m 128 #[.val (.int p0), .val (.int ((p0 &&& (2147483647 : Int32)) % (9 : Int32))), .val (.ref a8), .val (.int (1 : Int32))] [(.ref a8)])) rfl (by rw [hml]; rfl) (argsL := []) (rest := []) rfl (lenOf own_pd0 rfl) rfl 0 (by show 2 * 0 + _ ≤ _; exact Nat.le_of_eq rfl) (hb hby at_128) (by decide) (by decide) (by decide) (by decide) ?_
                  intro v26 T26 L26 hQ26 X26
                  obtain ⟨rfl, e26, rfl⟩ := hQ26
                  refine own_via (F' := T26.setTop (mkF m 131 #[.val (.int p0), .val (.int ((p0 &&& (2147483647 : Int32)) % (9 : Int32))), .val (.ref a8), .val (.int (1 : Int32))] [(.int (1 : Int32))])) (fun t k => k) ?_
                  refine own_via (F' := T26.setTop (mkF m 132 #[.val (.int p0), .val (.int ((p0 &&& (2147483647 : Int32)) % (9 : Int32))), .val (.ref a8), .val (.int (1 : Int32))] [(.int (1 : Int32)), (.int (1 : Int32))])) (fun t k => XS.iloadN X26.here hx rfl (hb hby at_131) rfl k) ?_
                  refine own_via (F' := T26.setTop (mkF m 135 #[.val (.int p0), .val (.int ((p0 &&& (2147483647 : Int32)) % (9 : Int32))), .val (.ref a8), .val (.int (1 : Int32))] [])) (fun t k => XS.icmpNo X26.here hx rfl (hb hby at_132) rfl (XT.ii_ne_f (by decide)) k) ?_
                  refine own_via (F' := T26.setTop (mkF m 136 #[.val (.int p0), .val (.int ((p0 &&& (2147483647 : Int32)) % (9 : Int32))), .val (.ref a8), .val (.int (1 : Int32))] [(.int (1 : Int32))])) (fun t k => XT.iconstV X26.here hx rfl (1 : Int32) (hb hby at_135) (by decide) k) ?_
                  refine own_via (F' := T26.setTop (mkF m 140 #[.val (.int p0), .val (.int ((p0 &&& (2147483647 : Int32)) % (9 : Int32))), .val (.ref a8), .val (.int (1 : Int32))] [(.int (1 : Int32))])) (fun t k => XS.goto X26.here hx rfl (pc0 := 136) (pc' := 140) rfl (hb hby at_136) (by decide) (by decide) k) ?_
                  exact own_retZ X26 hx hret hlk (hb hby at_140) ⟨rfl, Fr.nil _⟩ (by decide) (by decide)
set_option maxRecDepth 65536 in
set_option maxHeartbeats 40000000 in
theorem own_comes {Post : Tables → Env → Array Value → State → Outcome → State → Prop} (hpost : ∀ tb e args s v u, (limb_1_1.after args s (.returned v) u = true ∧ limb_1_2.after args s (.returned v) u = true ∧ True) → FrameEnd s (.returned v) u (Jvm.fieldLocs frame_1_writes args s ++ Jvm.arrayLocs frame_1_arrays args s ++ Jvm.staticLocs frame_1_statics s) 0 0 → Post tb e args s (.returned v) u) :
    ArmFor flags0 classFile x code maxLocals ret World_1 tables_1 room_1 Calls_1 rest_1 Pre_1 Post := by
  intro l hfl _ _ p e ha hc hk s m args below hf hA hF happ hP
  obtain ⟨hcalls, hrest, hpre⟩ := hP
  obtain ⟨-, -, -, hnamed, -, -, -, hat⟩ := (Spec.applies_iff hf).mp happ
  obtain ⟨hg, hn⟩ := and_e (Cond.before_iff.mp (show (Jvm.Cond.and given_1 narrow_1).before args s = true from hpre))
  obtain ⟨h1, h2⟩ := and_e hg
  obtain ⟨w0, rfl⟩ : ∃ w0 : Value, args = #[w0] := by
    have hs : args.size = 1 := by simpa [Cond.value, given_1] using h1
    obtain ⟨L⟩ := args
    match L, hs with
    | [w0], _ => exact ⟨w0, rfl⟩
  have hw := fun d (hd : d ∈ tables_1) => atoms_spec (ws := Jvm.Cond.code x code maxLocals ret :: tables_1) hat d (List.mem_cons_of_mem _ hd)
  obtain ⟨i4, e3⟩ := is_v h2
  obtain rfl : w0 = (.int i4) := Option.some.inj e3
  obtain ⟨k0, hn⟩ := and_e hn
  obtain ⟨k1, hn⟩ := and_e hn
  obtain ⟨k2, hn⟩ := and_e hn
  obtain ⟨k3, hn⟩ := and_e hn
  obtain ⟨k4, hn⟩ := and_e hn
  obtain ⟨k5, hn⟩ := and_e hn
  obtain ⟨k6, hn⟩ := and_e hn
  obtain ⟨k7, hn⟩ := and_e hn
  obtain ⟨k8, hn⟩ := and_e hn
  obtain ⟨k9, hn⟩ := and_e hn
  obtain ⟨k10, hn⟩ := and_e hn
  obtain ⟨k11, hn⟩ := and_e hn
  obtain ⟨k12, hn⟩ := and_e hn
  obtain ⟨k13, hn⟩ := and_e hn
  obtain ⟨k14, hn⟩ := and_e hn
  obtain ⟨k15, hn⟩ := and_e hn
  obtain ⟨k16, hn⟩ := and_e hn
  have k17 := hn
  obtain ⟨a0, v0⟩ := exa_v k0
  have E0 := Exa.start v0 k0
  have S0 := Sta.start v0 (Or.inr ⟨(hw _ (List.mem_of_getElem? (i := 2) rfl)), (hw _ (List.mem_of_getElem? (i := 3) rfl))⟩)
  obtain ⟨a3, v3⟩ := exa_v k1
  have E3 := Exa.start v3 k1
  have S3 := Sta.start v3 (Or.inr ⟨(hw _ (List.mem_of_getElem? (i := 2) rfl)), (hw _ (List.mem_of_getElem? (i := 11) rfl))⟩)
  obtain ⟨a5, v5⟩ := exa_v k4
  have E5 := Exa.start v5 k4
  have S5 := Sta.start v5 (Or.inr ⟨(hw _ (List.mem_of_getElem? (i := 2) rfl)), (hw _ (List.mem_of_getElem? (i := 13) rfl))⟩)
  obtain ⟨a6, v6⟩ := exa_v k6
  have E6 := Exa.start v6 k6
  have S6 := Sta.start v6 (Or.inr ⟨(hw _ (List.mem_of_getElem? (i := 2) rfl)), (hw _ (List.mem_of_getElem? (i := 15) rfl))⟩)
  obtain ⟨a2, v2⟩ := exa_v k8
  have E2 := Exa.start v2 k8
  have S2 := Sta.start v2 (Or.inr ⟨(hw _ (List.mem_of_getElem? (i := 2) rfl)), (hw _ (List.mem_of_getElem? (i := 17) rfl))⟩)
  obtain ⟨a1, v1⟩ := exa_v k10
  have E1 := Exa.start v1 k10
  have S1 := Sta.start v1 (Or.inr ⟨(hw _ (List.mem_of_getElem? (i := 2) rfl)), (hw _ (List.mem_of_getElem? (i := 19) rfl))⟩)
  obtain ⟨a7, v7⟩ := exa_v k12
  have E7 := Exa.start v7 k12
  have S7 := Sta.start v7 (Or.inr ⟨(hw _ (List.mem_of_getElem? (i := 2) rfl)), (hw _ (List.mem_of_getElem? (i := 21) rfl))⟩)
  obtain ⟨a4, v4⟩ := exa_v k14
  have E4 := Exa.start v4 k14
  have S4 := Sta.start v4 (Or.inr ⟨(hw _ (List.mem_of_getElem? (i := 2) rfl)), (hw _ (List.mem_of_getElem? (i := 23) rfl))⟩)
  obtain ⟨a8, v8⟩ := exa_v k16
  have E8 := Exa.start v8 k16
  have S8 := Sta.start v8 (Or.inr ⟨(hw _ (List.mem_of_getElem? (i := 2) rfl)), (hw _ (List.mem_of_getElem? (i := 25) rfl))⟩)
  have O3 := own_fld v3 (own_eqi k2)
  have O0 := own_fld v0 (own_eqi k3)
  have O5 := own_fld v5 (own_eqi k5)
  have O6 := own_fld v6 (own_eqi k7)
  have O2 := own_fld v2 (own_eqi k9)
  have O1 := own_fld v1 (own_eqi k11)
  have O7 := own_fld v7 (own_eqi k13)
  have O4 := own_fld v4 (own_eqi k15)
  have O8 := own_fld v8 (own_eqi k17)
  have n0_1 : a0 ≠ a1 := Fld.ne O0 O1 (by first | decide | simp)
  have n0_2 : a0 ≠ a2 := Fld.ne O0 O2 (by first | decide | simp)
  have n0_3 : a0 ≠ a3 := Fld.ne O0 O3 (by first | decide | simp)
  have n0_4 : a0 ≠ a4 := Fld.ne O0 O4 (by first | decide | simp)
  have n0_5 : a0 ≠ a5 := Fld.ne O0 O5 (by first | decide | simp)
  have n0_6 : a0 ≠ a6 := Fld.ne O0 O6 (by first | decide | simp)
  have n0_7 : a0 ≠ a7 := Fld.ne O0 O7 (by first | decide | simp)
  have n0_8 : a0 ≠ a8 := Fld.ne O0 O8 (by first | decide | simp)
  have n1_0 : a1 ≠ a0 := Fld.ne O1 O0 (by first | decide | simp)
  have n1_2 : a1 ≠ a2 := Fld.ne O1 O2 (by first | decide | simp)
  have n1_3 : a1 ≠ a3 := Fld.ne O1 O3 (by first | decide | simp)
  have n1_4 : a1 ≠ a4 := Fld.ne O1 O4 (by first | decide | simp)
  have n1_5 : a1 ≠ a5 := Fld.ne O1 O5 (by first | decide | simp)
  have n1_6 : a1 ≠ a6 := Fld.ne O1 O6 (by first | decide | simp)
  have n1_7 : a1 ≠ a7 := Fld.ne O1 O7 (by first | decide | simp)
  have n1_8 : a1 ≠ a8 := Fld.ne O1 O8 (by first | decide | simp)
  have n2_0 : a2 ≠ a0 := Fld.ne O2 O0 (by first | decide | simp)
  have n2_1 : a2 ≠ a1 := Fld.ne O2 O1 (by first | decide | simp)
  have n2_3 : a2 ≠ a3 := Fld.ne O2 O3 (by first | decide | simp)
  have n2_4 : a2 ≠ a4 := Fld.ne O2 O4 (by first | decide | simp)
  have n2_5 : a2 ≠ a5 := Fld.ne O2 O5 (by first | decide | simp)
  have n2_6 : a2 ≠ a6 := Fld.ne O2 O6 (by first | decide | simp)
  have n2_7 : a2 ≠ a7 := Fld.ne O2 O7 (by first | decide | simp)
  have n2_8 : a2 ≠ a8 := Fld.ne O2 O8 (by first | decide | simp)
  have n3_0 : a3 ≠ a0 := Fld.ne O3 O0 (by first | decide | simp)
  have n3_1 : a3 ≠ a1 := Fld.ne O3 O1 (by first | decide | simp)
  have n3_2 : a3 ≠ a2 := Fld.ne O3 O2 (by first | decide | simp)
  have n3_4 : a3 ≠ a4 := Fld.ne O3 O4 (by first | decide | simp)
  have n3_5 : a3 ≠ a5 := Fld.ne O3 O5 (by first | decide | simp)
  have n3_6 : a3 ≠ a6 := Fld.ne O3 O6 (by first | decide | simp)
  have n3_7 : a3 ≠ a7 := Fld.ne O3 O7 (by first | decide | simp)
  have n3_8 : a3 ≠ a8 := Fld.ne O3 O8 (by first | decide | simp)
  have n4_0 : a4 ≠ a0 := Fld.ne O4 O0 (by first | decide | simp)
  have n4_1 : a4 ≠ a1 := Fld.ne O4 O1 (by first | decide | simp)
  have n4_2 : a4 ≠ a2 := Fld.ne O4 O2 (by first | decide | simp)
  have n4_3 : a4 ≠ a3 := Fld.ne O4 O3 (by first | decide | simp)
  have n4_5 : a4 ≠ a5 := Fld.ne O4 O5 (by first | decide | simp)
  have n4_6 : a4 ≠ a6 := Fld.ne O4 O6 (by first | decide | simp)
  have n4_7 : a4 ≠ a7 := Fld.ne O4 O7 (by first | decide | simp)
  have n4_8 : a4 ≠ a8 := Fld.ne O4 O8 (by first | decide | simp)
  have n5_0 : a5 ≠ a0 := Fld.ne O5 O0 (by first | decide | simp)
  have n5_1 : a5 ≠ a1 := Fld.ne O5 O1 (by first | decide | simp)
  have n5_2 : a5 ≠ a2 := Fld.ne O5 O2 (by first | decide | simp)
  have n5_3 : a5 ≠ a3 := Fld.ne O5 O3 (by first | decide | simp)
  have n5_4 : a5 ≠ a4 := Fld.ne O5 O4 (by first | decide | simp)
  have n5_6 : a5 ≠ a6 := Fld.ne O5 O6 (by first | decide | simp)
  have n5_7 : a5 ≠ a7 := Fld.ne O5 O7 (by first | decide | simp)
  have n5_8 : a5 ≠ a8 := Fld.ne O5 O8 (by first | decide | simp)
  have n6_0 : a6 ≠ a0 := Fld.ne O6 O0 (by first | decide | simp)
  have n6_1 : a6 ≠ a1 := Fld.ne O6 O1 (by first | decide | simp)
  have n6_2 : a6 ≠ a2 := Fld.ne O6 O2 (by first | decide | simp)
  have n6_3 : a6 ≠ a3 := Fld.ne O6 O3 (by first | decide | simp)
  have n6_4 : a6 ≠ a4 := Fld.ne O6 O4 (by first | decide | simp)
  have n6_5 : a6 ≠ a5 := Fld.ne O6 O5 (by first | decide | simp)
  have n6_7 : a6 ≠ a7 := Fld.ne O6 O7 (by first | decide | simp)
  have n6_8 : a6 ≠ a8 := Fld.ne O6 O8 (by first | decide | simp)
  have n7_0 : a7 ≠ a0 := Fld.ne O7 O0 (by first | decide | simp)
  have n7_1 : a7 ≠ a1 := Fld.ne O7 O1 (by first | decide | simp)
  have n7_2 : a7 ≠ a2 := Fld.ne O7 O2 (by first | decide | simp)
  have n7_3 : a7 ≠ a3 := Fld.ne O7 O3 (by first | decide | simp)
  have n7_4 : a7 ≠ a4 := Fld.ne O7 O4 (by first | decide | simp)
  have n7_5 : a7 ≠ a5 := Fld.ne O7 O5 (by first | decide | simp)
  have n7_6 : a7 ≠ a6 := Fld.ne O7 O6 (by first | decide | simp)
  have n7_8 : a7 ≠ a8 := Fld.ne O7 O8 (by first | decide | simp)
  have n8_0 : a8 ≠ a0 := Fld.ne O8 O0 (by first | decide | simp)
  have n8_1 : a8 ≠ a1 := Fld.ne O8 O1 (by first | decide | simp)
  have n8_2 : a8 ≠ a2 := Fld.ne O8 O2 (by first | decide | simp)
  have n8_3 : a8 ≠ a3 := Fld.ne O8 O3 (by first | decide | simp)
  have n8_4 : a8 ≠ a4 := Fld.ne O8 O4 (by first | decide | simp)
  have n8_5 : a8 ≠ a5 := Fld.ne O8 O5 (by first | decide | simp)
  have n8_6 : a8 ≠ a6 := Fld.ne O8 O6 (by first | decide | simp)
  have n8_7 : a8 ≠ a7 := Fld.ne O8 O7 (by first | decide | simp)
  obtain ⟨n, o, h1, h2, h3, _, L, rfl, ⟨rfl, N⟩, hq⟩ := own_law l s _ hw i4 a0 a1 a2 a3 a4 a5 a6 a7 a8 s.heap s.heap.size S0 S1 S2 S3 S4 S5 S6 S7 S8 E0 E1 E2 E3 E4 E5 E6 E7 E8 n0_1 n0_2 n0_3 n0_4 n0_5 n0_6 n0_7 n0_8 n1_0 n1_2 n1_3 n1_4 n1_5 n1_6 n1_7 n1_8 n2_0 n2_1 n2_3 n2_4 n2_5 n2_6 n2_7 n2_8 n3_0 n3_1 n3_2 n3_4 n3_5 n3_6 n3_7 n3_8 n4_0 n4_1 n4_2 n4_3 n4_5 n4_6 n4_7 n4_8 n5_0 n5_1 n5_2 n5_3 n5_4 n5_6 n5_7 n5_8 n6_0 n6_1 n6_2 n6_3 n6_4 n6_5 n6_7 n6_8 n7_0 n7_1 n7_2 n7_3 n7_4 n7_5 n7_6 n7_8 n8_0 n8_1 n8_2 n8_3 n8_4 n8_5 n8_6 n8_7 tables_1 p e ha hc hk s m _ below hf ((Spec.applies_iff_loose hf).mp happ).1 ⟨rfl, State.Warmed39.refl s, rfl⟩ trivial
  refine ⟨n, _, h1, h2, h3, hpost _ _ _ _ _ _ ⟨Cond.after_iff.mpr rfl, Cond.after_iff.mpr (eq_i res_at (Term.int_eval (1)) rfl), trivial⟩ ⟨hq.1, hq.2.1, (hq.2.2.sift fun y hy => Or.inr (N y hy)).mono (by decide) (by decide)⟩⟩
theorem main_1_1 : Claimed_1_1 := own_comes fun _ _ _ _ _ _ h hF => ⟨h.1, hF⟩
theorem main_1_2 : Claimed_1_2 := own_comes fun _ _ _ _ _ _ h hF => ⟨h.2.1, hF⟩
end Jvm.Pilot.@@N@@
namespace Jvm.Pilot.@@N@@
open Jvm Jvm.ClassFile Sem Op Lib Jvm.Free Jvm.Stand Jvm.Pilot.@@N@@.Jvm.D
/-! MADE BY PROGRAM (witnessworld.py) out of the Statement's table words and the real class files: 12 classes; the members and pool entries that the words name. The judged class is class 1, her method 1. -/
namespace start1
open Jvm.ClassFile
def u (s : String) : CpInfo := .utf8 (stringToUtf16 s)
/-- a pool by its gaps: so many unusable entries, then the entry; so many at the end -/
def gap : Nat → List CpInfo → List CpInfo
  | 0, r => r
  | n + 1, r => .unusable :: gap n r
def poolList (es : List (Nat × CpInfo)) (last : Nat) : List CpInfo := es.foldr (fun e r => gap e.1 (e.2 :: r)) (gap last [])
def pool (es : List (Nat × CpInfo)) (last : Nat) : Array CpInfo := ⟨poolList es last⟩
def fileOf (pool : Array CpInfo) (this : Nat) (attrs : Array Attribute := #[]) (ms : Array MethodInfo := #[]) (fl : Nat := 33) (sup : Nat := 0) (ifs : Array Nat := #[]) (fds : Array FieldInfo := #[]) : ClassFile where
  minorVersion := 0
  majorVersion := 65
  constantPool := pool
  accessFlags := fl
  thisClass := this
  superClass := sup
  interfaces := ifs
  fields := fds
  methods := ms
  attributes := attrs
def plain (name : String) (sup : Option ClassId) : Class where
  name := name
  kind := .ordinary
  loader := none
  accessFlags := 33
  super := sup
  interfaces := #[]
  cf := none
  fields := #[]
  methods := #[]
  instanceTypes := #[]
  staticTypes := #[]
  resolved := #[]
  callSites := []
  init := .initialized
  statics := none
  mirror := none

def pool0 : Array CpInfo := pool [(5, u "<init>"), (0, u "()V"), (1, .class_ 10), (1, u "java/lang/Object")] 113

def k0m0 : Method := { name := "<init>", desc := "()V", sig := { parameters := [], returnType := none }, accessFlags := 1, code := none }
/-- java/lang/Object -/
def k0 : Class := { plain "java/lang/Object" none with
  accessFlags := 33
  interfaces := #[]
  cf := some (fileOf pool0 8 #[] #[{ accessFlags := 1, nameIndex := 5, descriptorIndex := 6, attributes := #[] }] 33 0 #[] #[])
  fields := #[]
  methods := #[k0m0]
  instanceTypes := #[]
  staticTypes := #[]
  resolved := Array.replicate 124 none
  statics := none }

def pool1 : Array CpInfo := pool [(2, .class_ 4), (1, u "java/lang/Object"), (0, u "<init>"), (0, u "()V"), (0, .integer 2147483647), (0, .fieldref 9 10), (0, .class_ 11), (0, .nameAndType 12 13), (0, u "com/example/isocline/isocline/core/sql/Statement$Control"), (0, u "BEGIN"), (0, u "Lcom/example/isocline/isocline/core/sql/Statement$Control;"), (0, .fieldref 9 15), (0, .nameAndType 16 13), (0, u "COMMIT"), (0, .fieldref 9 18), (0, .nameAndType 19 13), (0, u "COMMIT_AND_CHAIN"), (0, .fieldref 9 21), (0, .nameAndType 22 13), (0, u "ROLLBACK"), (0, .fieldref 9 24), (0, .nameAndType 25 13), (0, u "ROLLBACK_AND_CHAIN"), (0, .fieldref 9 27), (0, .nameAndType 28 13), (0, u "SAVEPOINT"), (0, .fieldref 9 30), (0, .nameAndType 31 13), (0, u "RELEASE"), (0, .fieldref 9 33), (0, .nameAndType 34 13), (0, u "ROLLBACK_TO"), (0, .fieldref 9 36), (0, .nameAndType 37 13), (0, u "TWO_PHASE"), (0, .methodref 9 39), (0, .nameAndType 40 41), (0, u "endsOrRollsBack"), (0, u "()Z"), (0, .class_ 43), (0, u "com/example/isocline/isocline/core/sql/ControlEndsOrRollsBackPinLaw"), (2, u "law"), (0, u "(I)Z")] 7

def k1m0 : Method := { name := "<init>", desc := "()V", sig := { parameters := [], returnType := none }, accessFlags := 1, code := none }
def k1c1 : Code := { maxStack := 2, maxLocals := 4, code := code, exceptionTable := #[], attributes := #[] }
def k1m1 : Method := { name := "law", desc := "(I)Z", sig := { parameters := [.int], returnType := some .boolean }, accessFlags := 9, code := some k1c1 }
/-- com/example/isocline/isocline/core/sql/ControlEndsOrRollsBackPinLaw -/
def k1 : Class := { plain "com/example/isocline/isocline/core/sql/ControlEndsOrRollsBackPinLaw" (some 0) with
  accessFlags := 49
  interfaces := #[]
  cf := some (fileOf pool1 42 #[] #[{ accessFlags := 1, nameIndex := 5, descriptorIndex := 6, attributes := #[] }, { accessFlags := 9, nameIndex := 46, descriptorIndex := 47, attributes := #[] }] 49 2 #[] #[])
  fields := #[]
  methods := #[k1m0, k1m1]
  instanceTypes := #[]
  staticTypes := #[]
  resolved := Array.replicate 55 none
  statics := none }

def pool2 : Array CpInfo := pool [(1, .class_ 2), (0, u "java/lang/constant/Constable"), (0, .class_ 4), (0, u "java/lang/Object")] 6

/-- java/lang/constant/Constable -/
def k2 : Class := { plain "java/lang/constant/Constable" (some 0) with
  accessFlags := 1537
  interfaces := #[]
  cf := some (fileOf pool2 1 #[] #[] 1537 3 #[] #[])
  fields := #[]
  methods := #[]
  instanceTypes := #[]
  staticTypes := #[]
  resolved := Array.replicate 11 none
  statics := none }

def pool3 : Array CpInfo := pool [(1, .class_ 2), (0, u "java/lang/Comparable"), (0, .class_ 4), (0, u "java/lang/Object")] 7

/-- java/lang/Comparable -/
def k3 : Class := { plain "java/lang/Comparable" (some 0) with
  accessFlags := 1537
  interfaces := #[]
  cf := some (fileOf pool3 1 #[] #[] 1537 3 #[] #[])
  fields := #[]
  methods := #[]
  instanceTypes := #[]
  staticTypes := #[]
  resolved := Array.replicate 12 none
  statics := none }

def pool4 : Array CpInfo := pool [(1, .class_ 2), (0, u "java/io/Serializable"), (0, .class_ 4), (0, u "java/lang/Object")] 2

/-- java/io/Serializable -/
def k4 : Class := { plain "java/io/Serializable" (some 0) with
  accessFlags := 1537
  interfaces := #[]
  cf := some (fileOf pool4 1 #[] #[] 1537 3 #[] #[])
  fields := #[]
  methods := #[]
  instanceTypes := #[]
  staticTypes := #[]
  resolved := Array.replicate 7 none
  statics := none }

def pool5 : Array CpInfo := pool [(2, .class_ 4), (1, u "java/lang/Enum"), (0, u "name"), (0, u "Ljava/lang/String;"), (2, u "ordinal"), (0, u "I"), (1, .class_ 14), (1, u "java/lang/Object"), (4, u "hash"), (86, .class_ 108), (1, u "java/lang/Enum$EnumDesc"), (2, .class_ 112), (0, u "java/lang/constant/Constable"), (0, .class_ 114), (0, u "java/lang/Comparable"), (0, .class_ 116), (0, u "java/io/Serializable")] 87

/-- java/lang/Enum -/
def k5 : Class := { plain "java/lang/Enum" (some 0) with
  accessFlags := 1057
  interfaces := #[2, 3, 4]
  cf := some (fileOf pool5 2 #[.nestMembers #[106]] #[] 1057 12 #[111, 113, 115] #[{ accessFlags := 18, nameIndex := 5, descriptorIndex := 6, attributes := #[] }, { accessFlags := 18, nameIndex := 9, descriptorIndex := 10, attributes := #[] }, { accessFlags := 2, nameIndex := 19, descriptorIndex := 10, attributes := #[] }])
  fields := #[{ name := "name", type := (.object "java/lang/String"), accessFlags := 18, slot := 0, constantValue := 0 }, { name := "ordinal", type := .int, accessFlags := 18, slot := 1, constantValue := 0 }, { name := "hash", type := .int, accessFlags := 2, slot := 2, constantValue := 0 }]
  methods := #[]
  instanceTypes := #[(.object "java/lang/String"), .int, .int]
  staticTypes := #[]
  resolved := Array.replicate 204 none
  statics := none }

def pool6 : Array CpInfo := pool [(1, .class_ 2), (0, u "com/example/isocline/isocline/core/sql/Statement$Control"), (0, .fieldref 1 4), (0, .nameAndType 5 6), (0, u "BEGIN"), (0, u "Lcom/example/isocline/isocline/core/sql/Statement$Control;"), (2, u "COMMIT"), (2, u "COMMIT_AND_CHAIN"), (2, u "ROLLBACK"), (2, u "ROLLBACK_AND_CHAIN"), (0, .fieldref 1 20), (0, .nameAndType 21 6), (0, u "SAVEPOINT"), (0, .fieldref 1 23), (0, .nameAndType 24 6), (0, u "RELEASE"), (2, u "ROLLBACK_TO"), (2, u "TWO_PHASE"), (2, u "$VALUES"), (0, u "[Lcom/example/isocline/isocline/core/sql/Statement$Control;"), (6, .class_ 43), (1, u "java/lang/Enum"), (27, u "endsOrRollsBack"), (0, u "()Z"), (6, .class_ 80), (0, u "com/example/isocline/isocline/core/sql/Statement")] 2

def k6c0 : Code := { maxStack := 2, maxLocals := 1, code := prog_71_method_4_code, exceptionTable := #[], attributes := #[] }
def k6m0 : Method := { name := "endsOrRollsBack", desc := "()Z", sig := { parameters := [], returnType := some .boolean }, accessFlags := 1, code := some k6c0 }
/-- com/example/isocline/isocline/core/sql/Statement$Control -/
def k6 : Class := { plain "com/example/isocline/isocline/core/sql/Statement$Control" (some 5) with
  accessFlags := 16433
  interfaces := #[]
  cf := some (fileOf pool6 1 #[.nestHost 79] #[{ accessFlags := 1, nameIndex := 71, descriptorIndex := 72, attributes := #[] }] 16433 41 #[] #[{ accessFlags := 16409, nameIndex := 5, descriptorIndex := 6, attributes := #[] }, { accessFlags := 16409, nameIndex := 9, descriptorIndex := 6, attributes := #[] }, { accessFlags := 16409, nameIndex := 12, descriptorIndex := 6, attributes := #[] }, { accessFlags := 16409, nameIndex := 15, descriptorIndex := 6, attributes := #[] }, { accessFlags := 16409, nameIndex := 18, descriptorIndex := 6, attributes := #[] }, { accessFlags := 16409, nameIndex := 21, descriptorIndex := 6, attributes := #[] }, { accessFlags := 16409, nameIndex := 24, descriptorIndex := 6, attributes := #[] }, { accessFlags := 16409, nameIndex := 27, descriptorIndex := 6, attributes := #[] }, { accessFlags := 16409, nameIndex := 30, descriptorIndex := 6, attributes := #[] }, { accessFlags := 4122, nameIndex := 33, descriptorIndex := 34, attributes := #[] }])
  fields := #[{ name := "BEGIN", type := (.object "com/example/isocline/isocline/core/sql/Statement$Control"), accessFlags := 16409, slot := 0, constantValue := 0 }, { name := "COMMIT", type := (.object "com/example/isocline/isocline/core/sql/Statement$Control"), accessFlags := 16409, slot := 1, constantValue := 0 }, { name := "COMMIT_AND_CHAIN", type := (.object "com/example/isocline/isocline/core/sql/Statement$Control"), accessFlags := 16409, slot := 2, constantValue := 0 }, { name := "ROLLBACK", type := (.object "com/example/isocline/isocline/core/sql/Statement$Control"), accessFlags := 16409, slot := 3, constantValue := 0 }, { name := "ROLLBACK_AND_CHAIN", type := (.object "com/example/isocline/isocline/core/sql/Statement$Control"), accessFlags := 16409, slot := 4, constantValue := 0 }, { name := "SAVEPOINT", type := (.object "com/example/isocline/isocline/core/sql/Statement$Control"), accessFlags := 16409, slot := 5, constantValue := 0 }, { name := "RELEASE", type := (.object "com/example/isocline/isocline/core/sql/Statement$Control"), accessFlags := 16409, slot := 6, constantValue := 0 }, { name := "ROLLBACK_TO", type := (.object "com/example/isocline/isocline/core/sql/Statement$Control"), accessFlags := 16409, slot := 7, constantValue := 0 }, { name := "TWO_PHASE", type := (.object "com/example/isocline/isocline/core/sql/Statement$Control"), accessFlags := 16409, slot := 8, constantValue := 0 }, { name := "$VALUES", type := (.array (.object "com/example/isocline/isocline/core/sql/Statement$Control")), accessFlags := 4122, slot := 9, constantValue := 0 }]
  methods := #[k6m0]
  instanceTypes := #[(.object "java/lang/String"), .int, .int]
  staticTypes := #[(.object "com/example/isocline/isocline/core/sql/Statement$Control"), (.object "com/example/isocline/isocline/core/sql/Statement$Control"), (.object "com/example/isocline/isocline/core/sql/Statement$Control"), (.object "com/example/isocline/isocline/core/sql/Statement$Control"), (.object "com/example/isocline/isocline/core/sql/Statement$Control"), (.object "com/example/isocline/isocline/core/sql/Statement$Control"), (.object "com/example/isocline/isocline/core/sql/Statement$Control"), (.object "com/example/isocline/isocline/core/sql/Statement$Control"), (.object "com/example/isocline/isocline/core/sql/Statement$Control"), (.array (.object "com/example/isocline/isocline/core/sql/Statement$Control"))]
  resolved := Array.replicate 83 none
  statics := some 0 }

def pool7 : Array CpInfo := pool [(1, u "java/lang/Cloneable"), (0, .class_ 1), (0, u "java/lang/Object"), (0, .class_ 3)] 3

/-- java/lang/Cloneable -/
def k7 : Class := { plain "java/lang/Cloneable" (some 0) with
  accessFlags := 1537
  interfaces := #[]
  cf := some (fileOf pool7 2 #[] #[] 1537 4 #[] #[])
  fields := #[]
  methods := #[]
  instanceTypes := #[]
  staticTypes := #[]
  resolved := Array.replicate 8 none
  statics := none }

/-- the primitive byte -/
def k8 : Class := { plain "byte" none with kind := .primitive 'B', accessFlags := 0x411 }
/-- [B -/
def k9 : Class := { plain "[B" (some 0) with kind := .array 8 .byte, interfaces := #[7, 4], accessFlags := 1041 }

/-- the primitive int -/
def k10 : Class := { plain "int" none with kind := .primitive 'I', accessFlags := 0x411 }
/-- [I -/
def k11 : Class := { plain "[I" (some 0) with kind := .array 10 .int, interfaces := #[7, 4], accessFlags := 1041 }

def heap : Heap := #[{ cls := 6, slots := #[.ref 1, .ref 6, .ref 5, .ref 2, .ref 8, .ref 3, .ref 4, .ref 7, .ref 9, .null], vm := .statics 6 },
  { cls := 6, slots := #[.null, .int 0, .int 0], vm := .none },
  { cls := 6, slots := #[.null, .int 3, .int 0], vm := .none },
  { cls := 6, slots := #[.null, .int 5, .int 0], vm := .none },
  { cls := 6, slots := #[.null, .int 6, .int 0], vm := .none },
  { cls := 6, slots := #[.null, .int 2, .int 0], vm := .none },
  { cls := 6, slots := #[.null, .int 1, .int 0], vm := .none },
  { cls := 6, slots := #[.null, .int 7, .int 0], vm := .none },
  { cls := 6, slots := #[.null, .int 4, .int 0], vm := .none },
  { cls := 6, slots := #[.null, .int 8, .int 0], vm := .none }]
def classes : Array Class := #[k0, k1, k2, k3, k4, k5, k6, k7, k8, k9, k10, k11]
def interned : List (Array UInt16 × Addr) := []
def slotsUsed : Nat := 37
def theMethod : MethodId := ⟨1, 1⟩
def args0 : Array Value := #[.int 7]
def aboutOver (below : List Frame) : State where
  vm := { classes := classes, interned := interned.toArray }
  heap := heap
  slotsUsed := slotsUsed
  threads := #[{ frames := .invoking theMethod args0 :: below }]
def below0 : List Frame := [.native { method := ⟨0, 0⟩, args := #[] }]
def about1 : State := aboutOver below0
def p0 : Program := .bare "" "" ""
def e0 : Env := launch0.env 0 0 0
theorem w_frames : about1.frames = Frame.invoking theMethod args0 :: below0 := rfl
set_option maxRecDepth 65536 in
theorem w_args : argsFit about1.vm theMethod args0 = true := by decide +kernel
set_option maxRecDepth 65536 in
theorem w_heap : heapFits about1 = true := by decide +kernel
set_option maxRecDepth 65536 in
theorem w_runnable : about1.curStatus? = some .runnable := by decide +kernel
set_option maxRecDepth 65536 in
theorem w_alone : about1.alone = true := by decide +kernel
set_option maxRecDepth 65536 in
theorem w_named : about1.methodNamed? x = some theMethod := by decide +kernel
set_option maxRecDepth 65536 in
theorem w_hears : about1.hears theMethod below0 = true := by decide +kernel
set_option maxRecDepth 65536 in
theorem w_ripe : about1.ripe theMethod args0 below0 = true := by decide +kernel
theorem w_running : about1.status = .running := rfl
set_option maxRecDepth 65536 in
theorem w_room : about1.hasRoom e0.platform room_1 = true :=
  launch0.hasRoom_least _ room_1 (by decide +kernel) (by decide +kernel) (by decide +kernel) (by decide +kernel) (by decide +kernel) (by decide +kernel)
theorem allAtoms_all (ts : List Jvm.Cond) (a : Array Jvm.Value) (st : Jvm.State) : (allAtoms ts).before a st = ts.all (fun c => c.before a st) := by
  induction ts with
  | nil => rfl
  | cons c t ih =>
    show (Jvm.Cond.and c (allAtoms t)).before a st = _
    rw [Jvm.Cond.before_and, ih, List.all_cons]
def words1 : List Jvm.Cond := Jvm.Cond.code x code maxLocals ret :: tables_1
/-- a 'code' word, met by the world's own term for the bytes: nothing is compared byte by byte -/
theorem code_word {y : MethodName} {bytes : ByteArray} {mx : Nat} {rt : Option FieldType} {a : Array Value} {s : State} {m : MethodId} {meth : Method} {c : Code} (h1 : s.methodNamed? y = some m) (h2 : s.vm.method? m = some meth) (h3 : meth.code = some c) (h4 : c.code = bytes)
    (h5 : (c.maxLocals == mx && c.exceptionTable.isEmpty && decide (c.maxStack ≤ mostOperands) && decide (meth.sig.returnType = rt) && !meth.locks && decide (parseMethodDescriptor y.desc = some meth.sig)) = true) : (Jvm.Cond.code y bytes mx rt).before a s = true := by
  simp only [Bool.and_eq_true, beq_iff_eq, Bool.not_eq_true', decide_eq_true_eq] at h5
  obtain ⟨⟨⟨⟨⟨g1, g2⟩, g3⟩, g4⟩, g5⟩, g6⟩ := h5
  simp [Cond.before, Cond.holds, Cond.value, h1, h2, h3, h4, g1, g2, g3, g4, g5, g6]
def isCode : Jvm.Cond → Bool
  | .code _ _ _ _ => true
  | _ => false
theorem all_split {L : List Jvm.Cond} {P : Jvm.Cond → Bool} (h1 : L.all (fun c => isCode c || P c) = true) (h2 : ∀ c ∈ L.filter isCode, P c = true) : L.all P = true := by
  refine List.all_eq_true.mpr fun c hc => ?_
  have h := List.all_eq_true.mp h1 c hc
  rcases Bool.eq_false_or_eq_true (isCode c) with hi | hi
  · exact h2 c (List.mem_filter.mpr ⟨hc, hi⟩)
  · simpa [hi] using h
set_option maxRecDepth 65536 in
theorem w_c0 : (Jvm.Cond.code x code maxLocals ret).before args0 about1 = true := code_word (m := ⟨1, 1⟩) (meth := k1m1) (c := k1c1) (by decide +kernel) rfl rfl rfl (by decide +kernel)
set_option maxRecDepth 65536 in
theorem w_c1 : (Jvm.Cond.code ({ cls := "com/example/isocline/isocline/core/sql/Statement$Control", name := "endsOrRollsBack", desc := "()Z" } : Jvm.MethodName) prog_71_method_4_code (1 : Nat) (Option.some Jvm.ClassFile.FieldType.boolean)).before args0 about1 = true := code_word (m := ⟨6, 0⟩) (meth := k6m0) (c := k6c0) (by decide +kernel) rfl rfl rfl (by decide +kernel)
def codes1 : List Jvm.Cond := [Jvm.Cond.code x code maxLocals ret, Jvm.Cond.code ({ cls := "com/example/isocline/isocline/core/sql/Statement$Control", name := "endsOrRollsBack", desc := "()Z" } : Jvm.MethodName) prog_71_method_4_code (1 : Nat) (Option.some Jvm.ClassFile.FieldType.boolean)]
set_option maxRecDepth 65536 in
theorem codes_eq : words1.filter isCode = codes1 := rfl
theorem w_codes : ∀ c ∈ words1.filter isCode, c.before args0 about1 = true := by
  rw [codes_eq]
  intro c hc
  simp only [codes1, List.mem_cons, List.not_mem_nil, or_false] at hc
  rcases hc with rfl | rfl
  · exact w_c0
  · exact w_c1
set_option maxRecDepth 65536 in
theorem w_t1 : (words1.take 24).all (fun c => isCode c || c.before args0 about1) = true := by decide +kernel
set_option maxRecDepth 65536 in
theorem w_t2 : (words1.drop 24).all (fun c => isCode c || c.before args0 about1) = true := by decide +kernel
theorem w_tables : (allAtoms (Jvm.Cond.code x code maxLocals ret :: tables_1)).before args0 about1 = true := by
  rw [allAtoms_all]
  show words1.all (fun c => c.before args0 about1) = true
  refine all_split ?_ w_codes
  rw [← List.take_append_drop 24 words1, List.all_append, w_t1, w_t2]
  rfl
set_option maxRecDepth 65536 in
theorem w_case : (Jvm.Cond.and given_1 narrow_1).before args0 about1 = true := by decide +kernel
theorem w_applies : (headSpec (Jvm.Cond.code x code maxLocals ret :: tables_1) room_1).applies x e0.platform about1 = true :=
  (Spec.applies_iff w_frames).mpr ⟨w_running, w_runnable, w_alone, w_named, w_hears, w_ripe, w_room, w_tables⟩
theorem atStart : AtStart classFile x code maxLocals ret World_1 tables_1 room_1 Calls_1 rest_1 Pre_1 launch0 p0 e0 about1 theMethod args0 below0 :=
  ⟨lists_1, trivial, launch0.admits_env _ _ _, launch0.least_env, fairChoices_fair.cas, fairChoices_fair.clock, w_frames, w_args, w_heap, w_applies, trivial, trivial, w_case⟩
end start1
theorem witness_1 : WitnessClaimed_1 := ⟨start1.p0, start1.e0, start1.about1, start1.theMethod, start1.args0, start1.below0, start1.atStart⟩
end Jvm.Pilot.@@N@@
