import JvmDerived
import JvmDerived.Pilot.@@N@@Statement
import JvmDerived.Pilot.@@N@@Code
set_option linter.unusedVariables false
set_option linter.unusedSimpArgs false
namespace Jvm.Pilot.@@N@@
open Jvm Jvm.ClassFile Sem Op Lib Jvm.Free Jvm.Stand Jvm.LawKit Jvm.RoadKit Bundle Jvm.Pilot.@@N@@.Jvm.D
section Own
variable {p : Program} {l : Launch} {e : Env} {R : Room} {s : State} {m : MethodId} {args : Array Value} {below : List Frame} {meth : Method} {c : Code} {T : State} {locs : List Loc} {cells slots : Nat} {Z : State} {a0 : Array Value} {h h' : Heap} {Q : Option Value → Heap → List Loc → Prop} {C N : Nat}
/-- the run from F comes to the method's end, and Q holds of what it returns, of the heap and of the slots written -/
def own_Go (p : Program) (e : Env) (below : List Frame) (s : State) (Q : Option Value → Heap → List Loc → Prop) (C N : Nat) (F : State) : Prop :=
  ∃ s₂ o, Steps p.tables e below F s₂ ∧ s₂.status = .running ∧ Ended s₂ below o ∧ ∃ v L, o = .returned v ∧ Q v s₂.heap L ∧ FrameEnd s o s₂ L C N
theorem own_via {F F' : State} (k : ∀ t, Steps p.tables e below F' t → Steps p.tables e below F t) (h : own_Go p e below s Q C N F') : own_Go p e below s Q C N F := by
  obtain ⟨s₂, o, h1, r⟩ := h
  exact ⟨s₂, o, k _ h1, r⟩
/-- a method's contract: from the arguments as' and the heap h0 it returns, and Q holds -/
def own_Con (l : Launch) (Z : State) (y : MethodName) (bytes : ByteArray) (maxL : Nat) (ret : Option FieldType) (rm : Room) (as' : Array Value) (h0 : Heap) (Q : Option Value → Heap → List Loc → Prop) : Prop :=
  ∀ ws : List Jvm.Cond, MetFree l y (head1 (Jvm.Cond.code y bytes maxL ret :: ws) rm) (fun a U => a = as' ∧ Z.Warmed39 U.vm ∧ U.heap = h0) (fun _ _ _ _ _ => True) (fun _ U o U' => ∃ v L, o = .returned v ∧ Q v U'.heap L ∧ FrameEnd U o U' L rm.cells rm.slots)
theorem own_con {y : MethodName} {bytes : ByteArray} {maxL : Nat} {ret : Option FieldType} {rm : Room} {as' : Array Value} {h0 : Heap} (hp : plainName y.cls = true)
    (body : ∀ (p : Program) (e : Env) (s : State) (m : MethodId) (below : List Frame) (meth : Method) (c : Code) (T : State), p.tables.exec = Jvm.exec → c.code = bytes → c.maxLocals = maxL → Z.Warmed39 s.vm → s.vm.findClass y.cls = some m.cls → meth.name = y.name → meth.sig.returnType = ret → meth.locks = false →
      Stand p l e rm s m as' below meth c T [] 0 0 → T.heap = h0 → s.heap = h0 → own_Go p e below s Q rm.cells rm.slots (T.setTop (entryFrame m as' maxL))) : own_Con l Z y bytes maxL ret rm as' h0 Q := by
  intro ws
  refine MetFree.of_bodySF (plainFor_of_name hp) hisR ?_
  intro p e s m args below meth c s₁ Bd hml0 hP hK
  obtain ⟨ha, hZ, hh⟩ := hP
  subst ha
  exact body p e s m below meth c s₁ Bd.exec Bd.bytes hml0 hZ (findClass_of_methodNamed Bd.named) (name_of_methodNamed Bd.named Bd.method).1 Bd.returns Bd.notSynchronized (Stand.of_body Bd) (by rw [← hh, Bd.state]; rfl) hh
theorem own_leave (X : Stand p l e R s m args below meth c T locs cells slots) {F : JFrame} {v : Option Value} (hv : meth.sig.returnType = none → v = none) (hlk : meth.locks = false)
    (k : ∀ fs, (∀ (f : JFrame) (acts : List Action), f.method = m → f.locked = none → f.entered = [] → (doReturn e (T.setTop f) acts v).1 = T.setFrames fs) → Steps p.tables e below (T.setTop F) (T.setFrames fs))
    (hQ : Q v T.heap locs) (hc : cells ≤ C) (hn : slots ≤ N) : own_Go p e below s Q C N (T.setTop F) := by
  obtain ⟨fs, hr, hrun, hended, hW, hsame⟩ := X.leave (v := v) hv hlk
  exact ⟨_, _, k fs hr, hrun, hended, v, locs, rfl, hQ, ⟨v, rfl⟩, hW, hsame.mono hc hn⟩
theorem own_ret0 (X : Stand p l e R s m args below meth c T locs cells slots) (hx : p.tables.exec = Jvm.exec) {pc : Nat} {Ls : Array Slot} (hret : meth.sig.returnType = none) (hlk : meth.locks = false) (hd : decode c.code pc = .ok (.return_, 1))
    (hQ : Q none T.heap locs) (hc : cells ≤ C) (hn : slots ≤ N) : own_Go p e below s Q C N (T.setTop (mkF m pc Ls [])) :=
  own_leave X (fun _ => rfl) hlk (fun fs hr => X.returnOut hx hret hd hr) hQ hc hn
theorem own_retZ (X : Stand p l e R s m args below meth c T locs cells slots) (hx : p.tables.exec = Jvm.exec) {pc : Nat} {Ls : Array Slot} {z : Int32} {rest : List Value} (hret : meth.sig.returnType = some .boolean) (hlk : meth.locks = false) (hd : decode c.code pc = .ok (.ireturn, 1))
    (hQ : Q (some (.int (nar .boolean z))) T.heap locs) (hc : cells ≤ C) (hn : slots ≤ N) : own_Go p e below s Q C N (T.setTop (mkF m pc Ls (.int z :: rest))) :=
  own_leave X (fun h => by rw [hret] at h; cases h) hlk (fun fs hr => retN X hx (t := .boolean) hret (by simp) hd hr) hQ hc hn
theorem own_retI (X : Stand p l e R s m args below meth c T locs cells slots) (hx : p.tables.exec = Jvm.exec) {pc : Nat} {Ls : Array Slot} {z : Int32} {rest : List Value} (hret : meth.sig.returnType = some .int) (hlk : meth.locks = false) (hd : decode c.code pc = .ok (.ireturn, 1))
    (hQ : Q (some (.int z)) T.heap locs) (hc : cells ≤ C) (hn : slots ≤ N) : own_Go p e below s Q C N (T.setTop (mkF m pc Ls (.int z :: rest))) :=
  own_leave X (fun h => by rw [hret] at h; cases h) hlk (fun fs hr => retOut X hx (t := .int) hret rfl (Or.inl ⟨rfl, Or.inl rfl, z, rfl⟩) hd hr) hQ hc hn
theorem own_retJ (X : Stand p l e R s m args below meth c T locs cells slots) (hx : p.tables.exec = Jvm.exec) {pc : Nat} {Ls : Array Slot} {z : Int64} {rest : List Value} (hret : meth.sig.returnType = some .long) (hlk : meth.locks = false) (hd : decode c.code pc = .ok (.lreturn, 1))
    (hQ : Q (some (.long z)) T.heap locs) (hc : cells ≤ C) (hn : slots ≤ N) : own_Go p e below s Q C N (T.setTop (mkF m pc Ls (.long z :: rest))) :=
  own_leave X (fun h => by rw [hret] at h; cases h) hlk (fun fs hr => retOut X hx (t := .long) hret rfl (Or.inr (Or.inl ⟨rfl, rfl, z, rfl⟩)) hd hr) hQ hc hn
theorem own_retA (X : Stand p l e R s m args below meth c T locs cells slots) (hx : p.tables.exec = Jvm.exec) {pc : Nat} {Ls : Array Slot} {w : Value} {t : FieldType} {rest : List Value} (hret : meth.sig.returnType = some t) (ht : t.isReference = true) (hw : w.isRef = true) (hlk : meth.locks = false) (hd : decode c.code pc = .ok (.areturn, 1))
    (hQ : Q (some w) T.heap locs) (hc : cells ≤ C) (hn : slots ≤ N) : own_Go p e below s Q C N (T.setTop (mkF m pc Ls (w :: rest))) :=
  own_leave X (fun h => by rw [hret] at h; cases h) hlk (fun fs hr => retOut X hx (t := t) hret (by rcases ref_cases hw with rfl | ⟨a, rfl⟩ <;> cases t <;> first | rfl | cases ht) (Or.inr (Or.inr (Or.inr (Or.inr ⟨rfl, ht, hw⟩)))) hd hr) hQ hc hn
section Calls
variable {y z : MethodName} {bytes : ByteArray} {maxL : Nat} {ret : Option FieldType} {rm : Room} {as' : Array Value} {Qc : Option Value → Heap → List Loc → Prop} {own : String} {index : Nat} {g : JFrame} {argsL rest : List Value}
theorem own_callS (X : Stand p l e R s m args below meth c T locs cells slots) (hx : p.tables.exec = Jvm.exec) (hZ : Z.Warmed39 s.vm) (K : own_Con l Z y bytes maxL ret rm as' h Qc) (hown : s.vm.findClass own = some m.cls)
    (w1 : (Jvm.Cond.methodLink own index y).before a0 Z = true) (w2 : (Jvm.Cond.static y).before a0 Z = true) (w3 : (Jvm.Cond.initialized y.cls).before a0 Z = true) (w4 : (Jvm.Cond.code y bytes maxL ret).before a0 Z = true)
    (hy : y.cls ≠ "java/lang/invoke/MethodHandle" ∧ y.cls ≠ "java/lang/invoke/VarHandle") (eT : T.heap = h) (hg : g.method = m) (hsize : g.locals.size = c.maxLocals) (has : argsL.toArray = as')
    (hlen : ∀ sig, parseMethodDescriptor y.desc = some sig → argsL.length = sig.parameters.length) (hst : g.stack = argsL.reverse ++ rest) (W : Nat) (hW : 2 * g.monitorRoom + (rest.map fun v => v.category).sum ≤ W) (hd : decode c.code g.pc = .ok (.invokestatic index, 3))
    (hf : rm.frames + 1 ≤ R.frames) (hl : W + (maxL + 11) + rm.locals ≤ R.locals) (hc : cells + rm.cells ≤ R.cells) (hs : slots + rm.slots ≤ R.slots)
    (k : ∀ (v : Option Value) (T' : State) (L : List Loc), Qc v T'.heap L → Stand p l e R s m args below meth c T' (locs ++ L) (cells + rm.cells) (slots + rm.slots) → own_Go p e below s Q C N (T'.setTop { g with pc := g.pc + 3, stack := v.toList ++ rest })) :
    own_Go p e below s Q C N (T.setTop g) := by
  obtain ⟨v, _, ⟨T', L', k', n'⟩, -, X', ⟨Lc, hQ, l', y', z'⟩, st⟩ := Jvm.LawKit.callS X hx (y := y) hown (mvT hZ w1) (mvT hZ w2) (mvT hZ w3) (mvT hZ w4) hy (backOf (W := W) (K []) hZ w4 w3 hf hl) (g := g) hg hsize (argsL := argsL) (rest := rest) hlen hst hW hd (fun _ _ => ⟨has, eT, hc, hs⟩)
  dsimp only [Pt.U, Pt.locs, Pt.cells, Pt.slots] at X' l' y' z' st hQ
  subst l' y' z'
  exact own_via st (k v T' Lc hQ X')
theorem own_callI (X : Stand p l e R s m args below meth c T locs cells slots) (hx : p.tables.exec = Jvm.exec) (hZ : Z.Warmed39 s.vm) (K : own_Con l Z y bytes maxL none rm as' h Qc) (hown : s.vm.findClass own = some m.cls) (hy1 : y.name = "<init>")
    (w1 : (Jvm.Cond.methodLink own index y).before a0 Z = true) (w2 : (Jvm.Cond.instanceMethod y).before a0 Z = true) (w3 : (Jvm.Cond.initialized y.cls).before a0 Z = true) (w4 : (Jvm.Cond.code y bytes maxL none).before a0 Z = true)
    (hy : y.cls ≠ "java/lang/invoke/MethodHandle" ∧ y.cls ≠ "java/lang/invoke/VarHandle") (eT : T.heap = h) (hg : g.method = m) (hsize : g.locals.size = c.maxLocals) {a : Addr} (has : (.ref a :: argsL).toArray = as')
    (hlen : ∀ sig, parseMethodDescriptor y.desc = some sig → argsL.length = sig.parameters.length) (hst : g.stack = argsL.reverse ++ .ref a :: rest) (W : Nat) (hW : 2 * g.monitorRoom + (rest.map fun v => v.category).sum ≤ W) (hd : decode c.code g.pc = .ok (.invokespecial index, 3))
    (hf : rm.frames + 1 ≤ R.frames) (hl : W + (maxL + 11) + rm.locals ≤ R.locals) (hc : cells + rm.cells ≤ R.cells) (hs : slots + rm.slots ≤ R.slots)
    (k : ∀ (v : Option Value) (T' : State) (L : List Loc), Qc v T'.heap L → Stand p l e R s m args below meth c T' (locs ++ L) (cells + rm.cells) (slots + rm.slots) → own_Go p e below s Q C N (T'.setTop { g with pc := g.pc + 3, stack := v.toList ++ rest })) :
    own_Go p e below s Q C N (T.setTop g) := by
  obtain ⟨v, _, ⟨T', L', k', n'⟩, -, X', ⟨Lc, hQ, l', y', z'⟩, st⟩ := X.specialBack hx (y := y) hy1 hown (mvT hZ w1) (mvT hZ w2) (mvT hZ w4) hy (backOf (W := W) (K []) hZ w4 w3 hf hl) (g := g) hg hsize (Steps.refl _) (a := a) (argsL := argsL) (rest := rest) hlen hst hW hd (fun _ _ => ⟨has, eT, hc, hs⟩)
  dsimp only [Pt.U, Pt.locs, Pt.cells, Pt.slots] at X' l' y' z' st hQ
  subst l' y' z'
  exact own_via (fun t q => st.trans q) (k v T' Lc hQ X')
theorem own_callV (X : Stand p l e R s m args below meth c T locs cells slots) (hx : p.tables.exec = Jvm.exec) (hZ : Z.Warmed39 s.vm) (K : own_Con l Z z bytes maxL ret rm as' h Qc) (hown : s.vm.findClass own = some m.cls) {CC : String} {a : Addr} (E : Exa Z h a CC)
    (w1 : (Jvm.Cond.methodLink own index y).before a0 Z = true) (w5 : (Jvm.Cond.declares y).before a0 Z = true) (w6 : (Jvm.Cond.selects CC y z).before a0 Z = true) (w2 : (Jvm.Cond.instanceMethod z).before a0 Z = true) (w3 : (Jvm.Cond.initialized z.cls).before a0 Z = true) (w4 : (Jvm.Cond.code z bytes maxL ret).before a0 Z = true)
    (nf : NotFace s y) (hy : y.cls ≠ "java/lang/invoke/MethodHandle" ∧ y.cls ≠ "java/lang/invoke/VarHandle") (eT : T.heap = h) (hg : g.method = m) (hsize : g.locals.size = c.maxLocals) (has : (.ref a :: argsL).toArray = as')
    (hlen : ∀ sig, parseMethodDescriptor y.desc = some sig → argsL.length = sig.parameters.length) (hst : g.stack = argsL.reverse ++ .ref a :: rest) (W : Nat) (hW : 2 * g.monitorRoom + (rest.map fun v => v.category).sum ≤ W) (hd : decode c.code g.pc = .ok (.invokevirtual index, 3))
    (hf : rm.frames + 1 ≤ R.frames) (hl : W + (maxL + 11) + rm.locals ≤ R.locals) (hc : cells + rm.cells ≤ R.cells) (hs : slots + rm.slots ≤ R.slots)
    (k : ∀ (v : Option Value) (T' : State) (L : List Loc), Qc v T'.heap L → Stand p l e R s m args below meth c T' (locs ++ L) (cells + rm.cells) (slots + rm.slots) → own_Go p e below s Q C N (T'.setTop { g with pc := g.pc + 3, stack := v.toList ++ rest })) :
    own_Go p e below s Q C N (T.setTop g) := by
  obtain ⟨cB, kB, q1, q2, q3⟩ := isOf hZ eT E
  obtain ⟨v, _, ⟨T', L', k', n'⟩, -, X', ⟨Lc, hQ, l', y', z'⟩, st⟩ := X.virtualBack hx (y := y) (z := z) hown (mvT hZ w1) (mvT hZ w5) nf (mvT hZ w6) (mvT hZ w2) hy (backOf (W := W) (K []) hZ w4 w3 hf hl) q1 q3 (g := g) hg hsize (Steps.refl _) (argsL := argsL) (rest := rest) hlen hst hW hd (fun _ _ => ⟨has, eT, hc, hs⟩)
  dsimp only [Pt.U, Pt.locs, Pt.cells, Pt.slots] at X' l' y' z' st hQ
  subst l' y' z'
  exact own_via (fun t q => st.trans q) (k v T' Lc hQ X')
end Calls
theorem own_eqi {t : Term} {n : Int32} (h : (Jvm.Cond.eq t (Term.int n)).value a0 Z none Z [] = some true) : t.eval a0 Z none [] Z = some (.int n) := by
  obtain ⟨x, y, e1, e2, k1, k2⟩ := cmp_v (Or.inl h)
  have e3 : y = .int n := (Option.some.inj e2).symm
  subst e3
  obtain ⟨w, rfl⟩ := k2
  have q : (Jvm.Cond.eq t (Term.int n)).value a0 Z none Z [] = some (decide (w = n)) := by simp [Jvm.Cond.value, e1, e2]
  rw [e1, gotT q h]
theorem own_fld {t : Term} {a : Addr} {CC f d : String} {v : Value} (ev : t.eval a0 Z none [] Z = some (.ref a)) (h : (Term.field t CC f d).eval a0 Z none [] Z = some v) : Fld Z Z.heap a CC f d v :=
  Fld.start ((fld_at ev).symm.trans h)
end Own
theorem own_pd0 : parseMethodDescriptor "(Z)Lcom/example/cite4/cite4/value/BooleanValue;" = some ⟨[.boolean], some (.object "com/example/cite4/cite4/value/BooleanValue")⟩ := by decide +kernel
theorem own_pd1 : parseMethodDescriptor "()Z" = some ⟨[], some .boolean⟩ := by decide +kernel
theorem own_pn : plainName "com/example/cite4/cite4/value/BooleanValue" = true := by first | (simp [plainName, overriddenIn]; done) | decide +kernel
theorem own_pnL : plainName "com/example/cite4/cite4/value/BooleanValueOfPinLaw" = true := by first | (simp [plainName, overriddenIn]; done) | decide +kernel
theorem d1_0 : decode prog_20_method_2_code 0 = .ok (.iload_n 0, 1) := by decide +kernel
theorem d1_1 : decode prog_20_method_2_code 1 = .ok (.ifCond .eq 9, 3) := by decide +kernel
theorem d1_4 : decode prog_20_method_2_code 4 = .ok (.getstatic 13, 3) := by decide +kernel
theorem d1_7 : decode prog_20_method_2_code 7 = .ok (.goto 6, 3) := by decide +kernel
theorem d1_10 : decode prog_20_method_2_code 10 = .ok (.getstatic 17, 3) := by decide +kernel
theorem d1_13 : decode prog_20_method_2_code 13 = .ok (.areturn, 1) := by decide +kernel
theorem d2_0 : decode prog_20_method_3_code 0 = .ok (.aload_n 0, 1) := by decide +kernel
theorem d2_1 : decode prog_20_method_3_code 1 = .ok (.getfield 7, 3) := by decide +kernel
theorem d2_4 : decode prog_20_method_3_code 4 = .ok (.ireturn, 1) := by decide +kernel
theorem own_ef0 (m : MethodId) (x0 : Int32) : entryFrame m #[(.int x0)] maxLocals = mkF m 0 #[.val (.int x0), .unset, .unset] [] := by first | (simp [entryFrame, mkF, argsToLocals, Value.category, maxLocals]; done) | rfl
theorem own_ef1 (m : MethodId) (x0 : Int32) : entryFrame m #[(.int x0)] 1 = mkF m 0 #[.val (.int x0)] [] := by first | (simp [entryFrame, mkF, argsToLocals, Value.category]; done) | rfl
theorem own_ef2 (m : MethodId) (x0 : Addr) : entryFrame m #[(.ref x0)] 1 = mkF m 0 #[.val (.ref x0)] [] := by first | (simp [entryFrame, mkF, argsToLocals, Value.category]; done) | rfl
set_option maxRecDepth 65536 in
set_option maxHeartbeats 40000000 in
theorem own_k1 (l : Launch) (Z : State) (az : Array Value) (hw : ∀ d ∈ tables_1, d.before az Z = true) (b : Int32) (aT aF : Addr) (h0 : Heap) (ST : Sta Z h0 "com/example/cite4/cite4/value/BooleanValue" "TRUE" "Lcom/example/cite4/cite4/value/BooleanValue;" (.ref aT)) (SF : Sta Z h0 "com/example/cite4/cite4/value/BooleanValue" "FALSE" "Lcom/example/cite4/cite4/value/BooleanValue;" (.ref aF)) (r : Addr) (hr : (if b = (0 : Int32) then aF else aT) = r) :
    own_Con l Z (⟨"com/example/cite4/cite4/value/BooleanValue", "of", "(Z)Lcom/example/cite4/cite4/value/BooleanValue;"⟩ : MethodName) prog_20_method_2_code 1 (some (.object "com/example/cite4/cite4/value/BooleanValue")) ({ frames := 0, cells := 0, slots := 0, locals := 0 } : Room) #[(.int b)] h0 (fun v h L => v = some (.ref r) ∧ h = h0 ∧ L = []) := by
  refine own_con own_pn ?_
  intro p e s m below meth c T0 hx hby hml hZ hown hnm hret hlk X0 e0 eh
  refine own_via (F' := T0.setTop (mkF m 0 #[.val (.int b)] [])) (fun tz kz => castTop (own_ef1 m b) kz) ?_
  refine own_via (F' := T0.setTop (mkF m 1 #[.val (.int b)] [(.int b)])) (fun tz kz => XS.iloadN X0.here hx rfl (hb hby d1_0) rfl kz) ?_
  by_cases q1 : b = (0 : Int32)
  · refine own_via (F' := T0.setTop (mkF m 10 #[.val (.int b)] [])) (fun tz kz => XS.ifYes X0.here hx rfl (pc0 := 1) (pc' := 10) rfl (hb hby d1_1) rfl (XT.i0_eq_t q1) (by decide) (by decide) kz) ?_
    obtain ⟨T2, X2, e2, s2⟩ := getS X0 hx hZ (host := "") hown (hw _ (List.mem_of_getElem? (i := 4) rfl)) Via.refl e0 SF (g := (mkF m 10 #[.val (.int b)] [])) rfl (hb hby d1_10)
    refine own_via (F' := T2.setTop (mkF m 13 #[.val (.int b)] [(.ref aF)])) s2 ?_
    exact own_retA X2 hx hret rfl rfl hlk (hb hby d1_13) ⟨by rw [← hr, if_pos q1], e2, rfl⟩ (Nat.le_refl _) (Nat.le_refl _)
  · refine own_via (F' := T0.setTop (mkF m 4 #[.val (.int b)] [])) (fun tz kz => XS.ifNo X0.here hx rfl (hb hby d1_1) rfl (XT.i0_eq_f q1) kz) ?_
    obtain ⟨T3, X3, e3, s3⟩ := getS X0 hx hZ (host := "") hown (hw _ (List.mem_of_getElem? (i := 14) rfl)) Via.refl e0 ST (g := (mkF m 4 #[.val (.int b)] [])) rfl (hb hby d1_4)
    refine own_via (F' := T3.setTop (mkF m 7 #[.val (.int b)] [(.ref aT)])) s3 ?_
    refine own_via (F' := T3.setTop (mkF m 13 #[.val (.int b)] [(.ref aT)])) (fun tz kz => XS.goto X3.here hx rfl (pc0 := 7) (pc' := 13) rfl (hb hby d1_7) (by decide) (by decide) kz) ?_
    exact own_retA X3 hx hret rfl rfl hlk (hb hby d1_13) ⟨by rw [← hr, if_neg q1], e3, rfl⟩ (Nat.le_refl _) (Nat.le_refl _)
set_option maxRecDepth 65536 in
set_option maxHeartbeats 40000000 in
theorem own_k2 (l : Launch) (Z : State) (az : Array Value) (hw : ∀ d ∈ tables_1, d.before az Z = true) (a : Addr) (v : Int32) (hv : nar .boolean v = v) (h0 : Heap) (FV : Fld Z h0 a "com/example/cite4/cite4/value/BooleanValue" "value" "Z" (.int v)) :
    own_Con l Z (⟨"com/example/cite4/cite4/value/BooleanValue", "getValue", "()Z"⟩ : MethodName) prog_20_method_3_code 1 (some .boolean) ({ frames := 0, cells := 0, slots := 0, locals := 0 } : Room) #[(.ref a)] h0 (fun r h L => r = some (.int v) ∧ h = h0 ∧ L = []) := by
  refine own_con own_pn ?_
  intro p e s m below meth c T0 hx hby hml hZ hown hnm hret hlk X0 e0 eh
  refine own_via (F' := T0.setTop (mkF m 0 #[.val (.ref a)] [])) (fun tz kz => castTop (own_ef2 m a) kz) ?_
  refine own_via (F' := T0.setTop (mkF m 1 #[.val (.ref a)] [(.ref a)])) (fun tz kz => XS.aloadN X0.here hx rfl (hb hby d2_0) rfl rfl kz) ?_
  obtain ⟨T1, X1, e1, s1⟩ := getF X0 hx hZ hown (host := "") (Or.inl (hw _ (List.mem_of_getElem? (i := 11) rfl))) Via.refl e0 FV (g := (mkF m 1 #[.val (.ref a)] [(.ref a)])) rfl rfl (hb hby d2_1)
  refine own_via (F' := T1.setTop (mkF m 4 #[.val (.ref a)] [(.int v)])) s1 ?_
  exact own_retZ X1 hx hret hlk (hb hby d2_4) ⟨by rw [hv], e1, rfl⟩ (Nat.le_refl _) (Nat.le_refl _)
set_option maxRecDepth 65536 in
set_option maxHeartbeats 40000000 in
theorem own_law (l : Launch) (Z : State) (az : Array Value) (hw : ∀ d ∈ tables_1, d.before az Z = true) (p0 : Int32) (aT aF : Addr) (h0 : Heap) (n0 : Nat) (ST : Sta Z h0 "com/example/cite4/cite4/value/BooleanValue" "TRUE" "Lcom/example/cite4/cite4/value/BooleanValue;" (.ref aT)) (SF : Sta Z h0 "com/example/cite4/cite4/value/BooleanValue" "FALSE" "Lcom/example/cite4/cite4/value/BooleanValue;" (.ref aF)) (ET : Exa Z h0 aT "com/example/cite4/cite4/value/BooleanValue") (EF : Exa Z h0 aF "com/example/cite4/cite4/value/BooleanValue") (FT : Fld Z h0 aT "com/example/cite4/cite4/value/BooleanValue" "value" "Z" (.int 1)) (FF : Fld Z h0 aF "com/example/cite4/cite4/value/BooleanValue" "value" "Z" (.int 0)) :
    own_Con l Z x code maxLocals ret room_1 #[(.int p0)] h0 (fun v h L => v = some (.int 1) ∧ Fr n0 L) := by
  refine own_con own_pnL ?_
  intro p e s m below meth c T0 hx hby hml hZ hown hnm hret hlk X0 e0 eh
  have hown : s.vm.findClass "com/example/cite4/cite4/value/BooleanValueOfPinLaw" = some m.cls := hown
  refine own_via (F' := T0.setTop (mkF m 0 #[.val (.int p0), .unset, .unset] [])) (fun tz kz => castTop (own_ef0 m p0) kz) ?_
  refine own_via (F' := T0.setTop (mkF m 1 #[.val (.int p0), .unset, .unset] [(.int p0)])) (fun tz kz => XS.iloadN X0.here hx rfl (hb hby at_0) rfl kz) ?_
  refine own_via (F' := T0.setTop (mkF m 2 #[.val (.int p0), .unset, .unset] [(.int (1 : Int32)), (.int p0)])) (fun tz kz => XT.iconstV X0.here hx rfl (1 : Int32) (hb hby at_1) (by decide) kz) ?_
  refine own_via (F' := T0.setTop (mkF m 3 #[.val (.int p0), .unset, .unset] [(.int (p0 &&& (1 : Int32)))])) (fun tz kz => XS.iand X0.here hx rfl (hb hby at_2) rfl kz) ?_
  by_cases q1 : (p0 &&& (1 : Int32)) = (0 : Int32)
  · refine own_via (F' := T0.setTop (mkF m 10 #[.val (.int p0), .unset, .unset] [])) (fun tz kz => XS.ifYes X0.here hx rfl (pc0 := 3) (pc' := 10) rfl (hb hby at_3) rfl (XT.i0_eq_t q1) (by decide) (by decide) kz) ?_
    refine own_via (F' := T0.setTop (mkF m 11 #[.val (.int p0), .unset, .unset] [(.int (0 : Int32))])) (fun tz kz => XT.iconstV X0.here hx rfl (0 : Int32) (hb hby at_10) (by decide) kz) ?_
    refine own_via (F' := T0.setTop (mkF m 12 #[.val (.int p0), .val (.int (0 : Int32)), .unset] [])) (fun tz kz => XS.istoreN X0.here hx rfl (hb hby at_11) rfl (l' := #[.val (.int p0), .val (.int (0 : Int32)), .unset]) rfl kz) ?_
    refine own_via (F' := T0.setTop (mkF m 13 #[.val (.int p0), .val (.int (0 : Int32)), .unset] [(.int (0 : Int32))])) (fun tz kz => XS.iloadN X0.here hx rfl (hb hby at_12) rfl kz) ?_
    refine own_callS X0 hx hZ (own_k1 l Z az hw (0 : Int32) aT aF h0 ST SF aF (if_pos rfl)) hown (hw _ (List.mem_of_getElem? (i := 0) rfl)) (hw _ (List.mem_of_getElem? (i := 1) rfl)) (hw _ (List.mem_of_getElem? (i := 2) rfl)) (hw _ (List.mem_of_getElem? (i := 3) rfl)) (by decide) e0 (g := (mkF m 13 #[.val (.int p0), .val (.int (0 : Int32)), .unset] [(.int (0 : Int32))])) rfl (by rw [hml]; rfl) (argsL := [(.int (0 : Int32))]) (rest := []) rfl (lenOf own_pd0 rfl) rfl 0 (by show 2 * 0 + _ ≤ _; exact Nat.le_of_eq rfl) (hb hby at_13) (by decide) (by decide) (by decide) (by decide) ?_
    intro v2 T2 L2 hQ2 X2
    obtain ⟨rfl, e2, rfl⟩ := hQ2
    refine own_via (F' := T2.setTop (mkF m 16 #[.val (.int p0), .val (.int (0 : Int32)), .unset] [(.ref aF)])) (fun tz kz => kz) ?_
    refine own_via (F' := T2.setTop (mkF m 17 #[.val (.int p0), .val (.int (0 : Int32)), .val (.ref aF)] [])) (fun tz kz => XS.astoreN X2.here hx rfl (hb hby at_16) rfl rfl (l' := #[.val (.int p0), .val (.int (0 : Int32)), .val (.ref aF)]) rfl kz) ?_
    refine own_via (F' := T2.setTop (mkF m 18 #[.val (.int p0), .val (.int (0 : Int32)), .val (.ref aF)] [(.ref aF)])) (fun tz kz => XS.aloadN X2.here hx rfl (hb hby at_17) rfl rfl kz) ?_
    refine own_via (F' := T2.setTop (mkF m 23 #[.val (.int p0), .val (.int (0 : Int32)), .val (.ref aF)] [])) (fun tz kz => XT.ifnonnullYes X2.here hx rfl (pc0 := 18) (pc' := 23) rfl (hb hby at_18) rfl (by decide) (by decide) kz) ?_
    refine own_via (F' := T2.setTop (mkF m 24 #[.val (.int p0), .val (.int (0 : Int32)), .val (.ref aF)] [(.ref aF)])) (fun tz kz => XS.aloadN X2.here hx rfl (hb hby at_23) rfl rfl kz) ?_
    refine own_callV X2 hx hZ (own_k2 l Z az hw aF (0 : Int32) (by decide) h0 FF) hown EF (hw _ (List.mem_of_getElem? (i := 6) rfl)) (hw _ (List.mem_of_getElem? (i := 7) rfl)) (hw _ (List.mem_of_getElem? (i := 9) rfl)) (hw _ (List.mem_of_getElem? (i := 8) rfl)) (hw _ (List.mem_of_getElem? (i := 2) rfl)) (hw _ (List.mem_of_getElem? (i := 10) rfl)) (notFace_of_selects (args := #[]) (mvT hZ (hw _ (List.mem_of_getElem? (i := 9) rfl)))) (by decide) e2 (g := (mkF m 24 #[.val (.int p0), .val (.int (0 : Int32)), .val (.ref aF)] [(.ref aF)])) rfl (by rw [hml]; rfl) (argsL := []) (rest := []) rfl (lenOf own_pd1 rfl) rfl 0 (by show 2 * 0 + _ ≤ _; exact Nat.le_of_eq rfl) (hb hby at_24) (by decide) (by decide) (by decide) (by decide) ?_
    intro v3 T3 L3 hQ3 X3
    obtain ⟨rfl, e3, rfl⟩ := hQ3
    refine own_via (F' := T3.setTop (mkF m 27 #[.val (.int p0), .val (.int (0 : Int32)), .val (.ref aF)] [(.int (0 : Int32))])) (fun tz kz => kz) ?_
    refine own_via (F' := T3.setTop (mkF m 28 #[.val (.int p0), .val (.int (0 : Int32)), .val (.ref aF)] [(.int (0 : Int32)), (.int (0 : Int32))])) (fun tz kz => XS.iloadN X3.here hx rfl (hb hby at_27) rfl kz) ?_
    refine own_via (F' := T3.setTop (mkF m 33 #[.val (.int p0), .val (.int (0 : Int32)), .val (.ref aF)] [])) (fun tz kz => XS.icmpYes X3.here hx rfl (pc0 := 28) (pc' := 33) rfl (hb hby at_28) rfl (XT.ii_eq_t (by decide)) (by decide) (by decide) kz) ?_
    refine own_via (F' := T3.setTop (mkF m 34 #[.val (.int p0), .val (.int (0 : Int32)), .val (.ref aF)] [(.ref aF)])) (fun tz kz => XS.aloadN X3.here hx rfl (hb hby at_33) rfl rfl kz) ?_
    refine own_via (F' := T3.setTop (mkF m 35 #[.val (.int p0), .val (.int (0 : Int32)), .val (.ref aF)] [(.int (0 : Int32)), (.ref aF)])) (fun tz kz => XS.iloadN X3.here hx rfl (hb hby at_34) rfl kz) ?_
    refine own_callS X3 hx hZ (own_k1 l Z az hw (0 : Int32) aT aF h0 ST SF aF (if_pos rfl)) hown (hw _ (List.mem_of_getElem? (i := 0) rfl)) (hw _ (List.mem_of_getElem? (i := 1) rfl)) (hw _ (List.mem_of_getElem? (i := 2) rfl)) (hw _ (List.mem_of_getElem? (i := 3) rfl)) (by decide) e3 (g := (mkF m 35 #[.val (.int p0), .val (.int (0 : Int32)), .val (.ref aF)] [(.int (0 : Int32)), (.ref aF)])) rfl (by rw [hml]; rfl) (argsL := [(.int (0 : Int32))]) (rest := [(.ref aF)]) rfl (lenOf own_pd0 rfl) rfl 1 (by show 2 * 0 + _ ≤ _; exact Nat.le_of_eq rfl) (hb hby at_35) (by decide) (by decide) (by decide) (by decide) ?_
    intro v4 T4 L4 hQ4 X4
    obtain ⟨rfl, e4, rfl⟩ := hQ4
    refine own_via (F' := T4.setTop (mkF m 38 #[.val (.int p0), .val (.int (0 : Int32)), .val (.ref aF)] [(.ref aF), (.ref aF)])) (fun tz kz => kz) ?_
    refine own_via (F' := T4.setTop (mkF m 43 #[.val (.int p0), .val (.int (0 : Int32)), .val (.ref aF)] [])) (fun tz kz => XT.acmpYes X4.here hx rfl (pc0 := 38) (pc' := 43) rfl (hb hby at_38) rfl rfl rfl (XT.aa_eq_t rfl) (by decide) (by decide) kz) ?_
    refine own_via (F' := T4.setTop (mkF m 44 #[.val (.int p0), .val (.int (0 : Int32)), .val (.ref aF)] [(.int (0 : Int32))])) (fun tz kz => XS.iloadN X4.here hx rfl (hb hby at_43) rfl kz) ?_
    refine own_via (F' := T4.setTop (mkF m 56 #[.val (.int p0), .val (.int (0 : Int32)), .val (.ref aF)] [])) (fun tz kz => XS.ifYes X4.here hx rfl (pc0 := 44) (pc' := 56) rfl (hb hby at_44) rfl (XT.i0_eq_t (by decide)) (by decide) (by decide) kz) ?_
    refine own_via (F' := T4.setTop (mkF m 57 #[.val (.int p0), .val (.int (0 : Int32)), .val (.ref aF)] [(.int (0 : Int32))])) (fun tz kz => XS.iloadN X4.here hx rfl (hb hby at_56) rfl kz) ?_
    refine own_via (F' := T4.setTop (mkF m 60 #[.val (.int p0), .val (.int (0 : Int32)), .val (.ref aF)] [])) (fun tz kz => XS.ifNo X4.here hx rfl (hb hby at_57) rfl (XT.i0_ne_f (by decide)) kz) ?_
    refine own_via (F' := T4.setTop (mkF m 61 #[.val (.int p0), .val (.int (0 : Int32)), .val (.ref aF)] [(.ref aF)])) (fun tz kz => XS.aloadN X4.here hx rfl (hb hby at_60) rfl rfl kz) ?_
    obtain ⟨T5, X5, e5, s5⟩ := getS X4 hx hZ (host := "") hown (hw _ (List.mem_of_getElem? (i := 13) rfl)) Via.refl e4 SF (g := (mkF m 61 #[.val (.int p0), .val (.int (0 : Int32)), .val (.ref aF)] [(.ref aF)])) rfl (hb hby at_61)
    refine own_via (F' := T5.setTop (mkF m 64 #[.val (.int p0), .val (.int (0 : Int32)), .val (.ref aF)] [(.ref aF), (.ref aF)])) s5 ?_
    refine own_via (F' := T5.setTop (mkF m 69 #[.val (.int p0), .val (.int (0 : Int32)), .val (.ref aF)] [])) (fun tz kz => XT.acmpYes X5.here hx rfl (pc0 := 64) (pc' := 69) rfl (hb hby at_64) rfl rfl rfl (XT.aa_eq_t rfl) (by decide) (by decide) kz) ?_
    refine own_via (F' := T5.setTop (mkF m 70 #[.val (.int p0), .val (.int (0 : Int32)), .val (.ref aF)] [(.int (1 : Int32))])) (fun tz kz => XT.iconstV X5.here hx rfl (1 : Int32) (hb hby at_69) (by decide) kz) ?_
    exact own_retZ X5 hx hret hlk (hb hby at_70) ⟨rfl, Fr.nil _⟩ (by decide) (by decide)
  · refine own_via (F' := T0.setTop (mkF m 6 #[.val (.int p0), .unset, .unset] [])) (fun tz kz => XS.ifNo X0.here hx rfl (hb hby at_3) rfl (XT.i0_eq_f q1) kz) ?_
    refine own_via (F' := T0.setTop (mkF m 7 #[.val (.int p0), .unset, .unset] [(.int (1 : Int32))])) (fun tz kz => XT.iconstV X0.here hx rfl (1 : Int32) (hb hby at_6) (by decide) kz) ?_
    refine own_via (F' := T0.setTop (mkF m 11 #[.val (.int p0), .unset, .unset] [(.int (1 : Int32))])) (fun tz kz => XS.goto X0.here hx rfl (pc0 := 7) (pc' := 11) rfl (hb hby at_7) (by decide) (by decide) kz) ?_
    refine own_via (F' := T0.setTop (mkF m 12 #[.val (.int p0), .val (.int (1 : Int32)), .unset] [])) (fun tz kz => XS.istoreN X0.here hx rfl (hb hby at_11) rfl (l' := #[.val (.int p0), .val (.int (1 : Int32)), .unset]) rfl kz) ?_
    refine own_via (F' := T0.setTop (mkF m 13 #[.val (.int p0), .val (.int (1 : Int32)), .unset] [(.int (1 : Int32))])) (fun tz kz => XS.iloadN X0.here hx rfl (hb hby at_12) rfl kz) ?_
    refine own_callS X0 hx hZ (own_k1 l Z az hw (1 : Int32) aT aF h0 ST SF aT (if_neg (by decide))) hown (hw _ (List.mem_of_getElem? (i := 0) rfl)) (hw _ (List.mem_of_getElem? (i := 1) rfl)) (hw _ (List.mem_of_getElem? (i := 2) rfl)) (hw _ (List.mem_of_getElem? (i := 3) rfl)) (by decide) e0 (g := (mkF m 13 #[.val (.int p0), .val (.int (1 : Int32)), .unset] [(.int (1 : Int32))])) rfl (by rw [hml]; rfl) (argsL := [(.int (1 : Int32))]) (rest := []) rfl (lenOf own_pd0 rfl) rfl 0 (by show 2 * 0 + _ ≤ _; exact Nat.le_of_eq rfl) (hb hby at_13) (by decide) (by decide) (by decide) (by decide) ?_
    intro v6 T6 L6 hQ6 X6
    obtain ⟨rfl, e6, rfl⟩ := hQ6
    refine own_via (F' := T6.setTop (mkF m 16 #[.val (.int p0), .val (.int (1 : Int32)), .unset] [(.ref aT)])) (fun tz kz => kz) ?_
    refine own_via (F' := T6.setTop (mkF m 17 #[.val (.int p0), .val (.int (1 : Int32)), .val (.ref aT)] [])) (fun tz kz => XS.astoreN X6.here hx rfl (hb hby at_16) rfl rfl (l' := #[.val (.int p0), .val (.int (1 : Int32)), .val (.ref aT)]) rfl kz) ?_
    refine own_via (F' := T6.setTop (mkF m 18 #[.val (.int p0), .val (.int (1 : Int32)), .val (.ref aT)] [(.ref aT)])) (fun tz kz => XS.aloadN X6.here hx rfl (hb hby at_17) rfl rfl kz) ?_
    refine own_via (F' := T6.setTop (mkF m 23 #[.val (.int p0), .val (.int (1 : Int32)), .val (.ref aT)] [])) (fun tz kz => XT.ifnonnullYes X6.here hx rfl (pc0 := 18) (pc' := 23) rfl (hb hby at_18) rfl (by decide) (by decide) kz) ?_
    refine own_via (F' := T6.setTop (mkF m 24 #[.val (.int p0), .val (.int (1 : Int32)), .val (.ref aT)] [(.ref aT)])) (fun tz kz => XS.aloadN X6.here hx rfl (hb hby at_23) rfl rfl kz) ?_
    refine own_callV X6 hx hZ (own_k2 l Z az hw aT (1 : Int32) (by decide) h0 FT) hown ET (hw _ (List.mem_of_getElem? (i := 6) rfl)) (hw _ (List.mem_of_getElem? (i := 7) rfl)) (hw _ (List.mem_of_getElem? (i := 9) rfl)) (hw _ (List.mem_of_getElem? (i := 8) rfl)) (hw _ (List.mem_of_getElem? (i := 2) rfl)) (hw _ (List.mem_of_getElem? (i := 10) rfl)) (notFace_of_selects (args := #[]) (mvT hZ (hw _ (List.mem_of_getElem? (i := 9) rfl)))) (by decide) e6 (g := (mkF m 24 #[.val (.int p0), .val (.int (1 : Int32)), .val (.ref aT)] [(.ref aT)])) rfl (by rw [hml]; rfl) (argsL := []) (rest := []) rfl (lenOf own_pd1 rfl) rfl 0 (by show 2 * 0 + _ ≤ _; exact Nat.le_of_eq rfl) (hb hby at_24) (by decide) (by decide) (by decide) (by decide) ?_
    intro v7 T7 L7 hQ7 X7
    obtain ⟨rfl, e7, rfl⟩ := hQ7
    refine own_via (F' := T7.setTop (mkF m 27 #[.val (.int p0), .val (.int (1 : Int32)), .val (.ref aT)] [(.int (1 : Int32))])) (fun tz kz => kz) ?_
    refine own_via (F' := T7.setTop (mkF m 28 #[.val (.int p0), .val (.int (1 : Int32)), .val (.ref aT)] [(.int (1 : Int32)), (.int (1 : Int32))])) (fun tz kz => XS.iloadN X7.here hx rfl (hb hby at_27) rfl kz) ?_
    refine own_via (F' := T7.setTop (mkF m 33 #[.val (.int p0), .val (.int (1 : Int32)), .val (.ref aT)] [])) (fun tz kz => XS.icmpYes X7.here hx rfl (pc0 := 28) (pc' := 33) rfl (hb hby at_28) rfl (XT.ii_eq_t (by decide)) (by decide) (by decide) kz) ?_
    refine own_via (F' := T7.setTop (mkF m 34 #[.val (.int p0), .val (.int (1 : Int32)), .val (.ref aT)] [(.ref aT)])) (fun tz kz => XS.aloadN X7.here hx rfl (hb hby at_33) rfl rfl kz) ?_
    refine own_via (F' := T7.setTop (mkF m 35 #[.val (.int p0), .val (.int (1 : Int32)), .val (.ref aT)] [(.int (1 : Int32)), (.ref aT)])) (fun tz kz => XS.iloadN X7.here hx rfl (hb hby at_34) rfl kz) ?_
    refine own_callS X7 hx hZ (own_k1 l Z az hw (1 : Int32) aT aF h0 ST SF aT (if_neg (by decide))) hown (hw _ (List.mem_of_getElem? (i := 0) rfl)) (hw _ (List.mem_of_getElem? (i := 1) rfl)) (hw _ (List.mem_of_getElem? (i := 2) rfl)) (hw _ (List.mem_of_getElem? (i := 3) rfl)) (by decide) e7 (g := (mkF m 35 #[.val (.int p0), .val (.int (1 : Int32)), .val (.ref aT)] [(.int (1 : Int32)), (.ref aT)])) rfl (by rw [hml]; rfl) (argsL := [(.int (1 : Int32))]) (rest := [(.ref aT)]) rfl (lenOf own_pd0 rfl) rfl 1 (by show 2 * 0 + _ ≤ _; exact Nat.le_of_eq rfl) (hb hby at_35) (by decide) (by decide) (by decide) (by decide) ?_
    intro v8 T8 L8 hQ8 X8
    obtain ⟨rfl, e8, rfl⟩ := hQ8
    refine own_via (F' := T8.setTop (mkF m 38 #[.val (.int p0), .val (.int (1 : Int32)), .val (.ref aT)] [(.ref aT), (.ref aT)])) (fun tz kz => kz) ?_
    refine own_via (F' := T8.setTop (mkF m 43 #[.val (.int p0), .val (.int (1 : Int32)), .val (.ref aT)] [])) (fun tz kz => XT.acmpYes X8.here hx rfl (pc0 := 38) (pc' := 43) rfl (hb hby at_38) rfl rfl rfl (XT.aa_eq_t rfl) (by decide) (by decide) kz) ?_
    refine own_via (F' := T8.setTop (mkF m 44 #[.val (.int p0), .val (.int (1 : Int32)), .val (.ref aT)] [(.int (1 : Int32))])) (fun tz kz => XS.iloadN X8.here hx rfl (hb hby at_43) rfl kz) ?_
    refine own_via (F' := T8.setTop (mkF m 47 #[.val (.int p0), .val (.int (1 : Int32)), .val (.ref aT)] [])) (fun tz kz => XS.ifNo X8.here hx rfl (hb hby at_44) rfl (XT.i0_eq_f (by decide)) kz) ?_
    refine own_via (F' := T8.setTop (mkF m 48 #[.val (.int p0), .val (.int (1 : Int32)), .val (.ref aT)] [(.ref aT)])) (fun tz kz => XS.aloadN X8.here hx rfl (hb hby at_47) rfl rfl kz) ?_
    obtain ⟨T9, X9, e9, s9⟩ := getS X8 hx hZ (host := "") hown (hw _ (List.mem_of_getElem? (i := 16) rfl)) Via.refl e8 ST (g := (mkF m 48 #[.val (.int p0), .val (.int (1 : Int32)), .val (.ref aT)] [(.ref aT)])) rfl (hb hby at_48)
    refine own_via (F' := T9.setTop (mkF m 51 #[.val (.int p0), .val (.int (1 : Int32)), .val (.ref aT)] [(.ref aT), (.ref aT)])) s9 ?_
    refine own_via (F' := T9.setTop (mkF m 56 #[.val (.int p0), .val (.int (1 : Int32)), .val (.ref aT)] [])) (fun tz kz => XT.acmpYes X9.here hx rfl (pc0 := 51) (pc' := 56) rfl (hb hby at_51) rfl rfl rfl (XT.aa_eq_t rfl) (by decide) (by decide) kz) ?_
    refine own_via (F' := T9.setTop (mkF m 57 #[.val (.int p0), .val (.int (1 : Int32)), .val (.ref aT)] [(.int (1 : Int32))])) (fun tz kz => XS.iloadN X9.here hx rfl (hb hby at_56) rfl kz) ?_
    refine own_via (F' := T9.setTop (mkF m 69 #[.val (.int p0), .val (.int (1 : Int32)), .val (.ref aT)] [])) (fun tz kz => XS.ifYes X9.here hx rfl (pc0 := 57) (pc' := 69) rfl (hb hby at_57) rfl (XT.i0_ne_t (by decide)) (by decide) (by decide) kz) ?_
    refine own_via (F' := T9.setTop (mkF m 70 #[.val (.int p0), .val (.int (1 : Int32)), .val (.ref aT)] [(.int (1 : Int32))])) (fun tz kz => XT.iconstV X9.here hx rfl (1 : Int32) (hb hby at_69) (by decide) kz) ?_
    exact own_retZ X9 hx hret hlk (hb hby at_70) ⟨rfl, Fr.nil _⟩ (by decide) (by decide)
set_option maxRecDepth 65536 in
set_option maxHeartbeats 40000000 in
theorem own_comes {Post : Tables → Env → Array Value → State → Outcome → State → Prop} (hpost : ∀ tb e args s v u, (limb_1_1.after args s (.returned v) u = true ∧ limb_1_2.after args s (.returned v) u = true ∧ True) → FrameEnd s (.returned v) u (Jvm.fieldLocs frame_1_writes args s ++ Jvm.arrayLocs frame_1_arrays args s ++ Jvm.staticLocs frame_1_statics s) 0 0 → Post tb e args s (.returned v) u) :
    ArmFor flags0 classFile x code maxLocals ret World_1 tables_1 room_1 Calls_1 rest_1 Pre_1 Post := by
  intro l hfl _ _ p e ha hc hk s m args below hf hA hF happ hP
  obtain ⟨hcalls, hrest, hpre⟩ := hP
  obtain ⟨-, -, -, hnamed, -, -, -, hat⟩ := (Spec.applies_iff hf).mp happ
  obtain ⟨hg, hn⟩ := and_e (Cond.before_iff.mp (show (Jvm.Cond.and given_1 narrow_1).before args s = true from hpre))
  obtain ⟨h1, hg⟩ := and_e hg
  have u0 := hg
  obtain ⟨w0, rfl⟩ : ∃ w0 : Value, args = #[w0] := by
    have hs : args.size = 1 := by simpa [Cond.value, given_1] using h1
    obtain ⟨L⟩ := args
    match L, hs with
    | [w0], _ => exact ⟨w0, rfl⟩
  have hw := fun d (hd : d ∈ tables_1) => atoms_spec (ws := Jvm.Cond.code x code maxLocals ret :: tables_1) hat d (List.mem_cons_of_mem _ hd)
  obtain ⟨p0, e0⟩ := is_v u0
  obtain rfl : w0 = (.int p0) := Option.some.inj e0
  obtain ⟨k0, hn⟩ := and_e hn
  obtain ⟨k1, hn⟩ := and_e hn
  obtain ⟨k2, k3⟩ := and_e hn
  obtain ⟨aF, vF⟩ := exa_v k0
  have EF := Exa.start vF k0
  have SF := Sta.start vF (Or.inr ⟨(hw _ (List.mem_of_getElem? (i := 2) rfl)), (hw _ (List.mem_of_getElem? (i := 5) rfl))⟩)
  have FF := own_fld vF (own_eqi k1)
  obtain ⟨aT, vT⟩ := exa_v k2
  have ET := Exa.start vT k2
  have ST := Sta.start vT (Or.inr ⟨(hw _ (List.mem_of_getElem? (i := 2) rfl)), (hw _ (List.mem_of_getElem? (i := 15) rfl))⟩)
  have FT := own_fld vT (own_eqi k3)
  obtain ⟨n, o, h1, h2, h3, _, L, rfl, ⟨rfl, N⟩, hq⟩ := own_law l s _ hw p0 aT aF s.heap s.heap.size ST SF ET EF FT FF tables_1 p e ha hc hk s m _ below hf ((Spec.applies_iff_loose hf).mp happ).1 ⟨rfl, State.Warmed39.refl s, rfl⟩ trivial
  refine ⟨n, _, h1, h2, h3, hpost _ _ _ _ _ _ ⟨Cond.after_iff.mpr rfl, Cond.after_iff.mpr (eq_i res_at (Term.int_eval (1)) rfl), trivial⟩ ⟨hq.1, hq.2.1, (hq.2.2.sift fun y hy => Or.inr (N y hy)).mono (by decide) (by decide)⟩⟩
theorem main_1_1 : Claimed_1_1 := own_comes fun _ _ _ _ _ _ h hF => ⟨h.1, hF⟩
theorem main_1_2 : Claimed_1_2 := own_comes fun _ _ _ _ _ _ h hF => ⟨h.2.1, hF⟩
end Jvm.Pilot.@@N@@
namespace Jvm.Pilot.@@N@@
open Jvm Jvm.ClassFile Sem Op Lib Jvm.Free Jvm.Stand Jvm.Pilot.@@N@@.Jvm.D
/-! MADE BY PROGRAM (witnessworld.py) out of the Statement's table words and the real class files: 10 classes; the members and pool entries that the words name. The judged class is class 1, her method 1. -/
namespace start1
open Jvm.ClassFile
def u (s : String) : CpInfo := .utf8 (stringToUtf16 s)
/-- a pool by its gaps: so many unusable entries, then the entry; so many at the end -/
def gap : Nat → List CpInfo → List CpInfo
  | 0, r => r
  | n + 1, r => .unusable :: gap n r
def poolList (es : List (Nat × CpInfo)) (last : Nat) : List CpInfo := es.foldr (fun e r => gap e.1 (e.2 :: r)) (gap last [])
def pool (es : List (Nat × CpInfo)) (last : Nat) : Array CpInfo := ⟨poolList es last⟩
def fileOf (pool : Array CpInfo) (this : Nat) (attrs : Array Attribute := #[]) (ms : Array MethodInfo := #[]) (fl : Nat := 33) (sup : Nat := 0) (ifs : Array Nat := #[]) (fds : Array FieldInfo := #[]) : ClassFile where
  minorVersion := 0
  majorVersion := 65
  constantPool := pool
  accessFlags := fl
  thisClass := this
  superClass := sup
  interfaces := ifs
  fields := fds
  methods := ms
  attributes := attrs
def plain (name : String) (sup : Option ClassId) : Class where
  name := name
  kind := .ordinary
  loader := none
  accessFlags := 33
  super := sup
  interfaces := #[]
  cf := none
  fields := #[]
  methods := #[]
  instanceTypes := #[]
  staticTypes := #[]
  resolved := #[]
  callSites := []
  init := .initialized
  statics := none
  mirror := none

def pool0 : Array CpInfo := pool [(5, u "<init>"), (0, u "()V"), (1, .class_ 10), (1, u "java/lang/Object")] 113

def k0m0 : Method := { name := "<init>", desc := "()V", sig := { parameters := [], returnType := none }, accessFlags := 1, code := none }
/-- java/lang/Object -/
def k0 : Class := { plain "java/lang/Object" none with
  accessFlags := 33
  interfaces := #[]
  cf := some (fileOf pool0 8 #[] #[{ accessFlags := 1, nameIndex := 5, descriptorIndex := 6, attributes := #[] }] 33 0 #[] #[])
  fields := #[]
  methods := #[k0m0]
  instanceTypes := #[]
  staticTypes := #[]
  resolved := Array.replicate 124 none
  statics := none }

def pool1 : Array CpInfo := pool [(2, .class_ 4), (1, u "java/lang/Object"), (0, u "<init>"), (0, u "()V"), (0, .methodref 8 9), (0, .class_ 10), (0, .nameAndType 11 12), (0, u "com/example/cite4/cite4/value/BooleanValue"), (0, u "of"), (0, u "(Z)Lcom/example/cite4/cite4/value/BooleanValue;"), (0, .methodref 8 14), (0, .nameAndType 15 16), (0, u "getValue"), (0, u "()Z"), (0, .fieldref 8 18), (0, .nameAndType 19 20), (0, u "TRUE"), (0, u "Lcom/example/cite4/cite4/value/BooleanValue;"), (0, .fieldref 8 22), (0, .nameAndType 23 20), (0, u "FALSE"), (0, .class_ 25), (0, u "com/example/cite4/cite4/value/BooleanValueOfPinLaw"), (2, u "law"), (0, u "(I)Z")] 3

def k1m0 : Method := { name := "<init>", desc := "()V", sig := { parameters := [], returnType := none }, accessFlags := 1, code := none }
def k1c1 : Code := { maxStack := 2, maxLocals := 3, code := code, exceptionTable := #[], attributes := #[] }
def k1m1 : Method := { name := "law", desc := "(I)Z", sig := { parameters := [.int], returnType := some .boolean }, accessFlags := 9, code := some k1c1 }
/-- com/example/cite4/cite4/value/BooleanValueOfPinLaw -/
def k1 : Class := { plain "com/example/cite4/cite4/value/BooleanValueOfPinLaw" (some 0) with
  accessFlags := 49
  interfaces := #[]
  cf := some (fileOf pool1 24 #[] #[{ accessFlags := 1, nameIndex := 5, descriptorIndex := 6, attributes := #[] }, { accessFlags := 9, nameIndex := 28, descriptorIndex := 29, attributes := #[] }] 49 2 #[] #[])
  fields := #[]
  methods := #[k1m0, k1m1]
  instanceTypes := #[]
  staticTypes := #[]
  resolved := Array.replicate 33 none
  statics := none }

def pool2 : Array CpInfo := pool [(1, .class_ 2), (0, u "com/example/cite4/cite4/value/Value"), (0, .class_ 4), (0, u "java/lang/Object")] 5

/-- com/example/cite4/cite4/value/Value -/
def k2 : Class := { plain "com/example/cite4/cite4/value/Value" (some 0) with
  accessFlags := 1537
  interfaces := #[]
  cf := some (fileOf pool2 1 #[] #[] 1537 3 #[] #[])
  fields := #[]
  methods := #[]
  instanceTypes := #[]
  staticTypes := #[]
  resolved := Array.replicate 10 none
  statics := none }

def pool3 : Array CpInfo := pool [(2, .class_ 4), (1, u "java/lang/Object"), (2, .fieldref 8 9), (0, .class_ 10), (0, .nameAndType 11 12), (0, u "com/example/cite4/cite4/value/BooleanValue"), (0, u "value"), (0, u "Z"), (0, .fieldref 8 14), (0, .nameAndType 15 16), (0, u "TRUE"), (0, u "Lcom/example/cite4/cite4/value/BooleanValue;"), (0, .fieldref 8 18), (0, .nameAndType 19 16), (0, u "FALSE"), (11, .class_ 32), (0, u "com/example/cite4/cite4/value/Value"), (2, u "of"), (0, u "(Z)Lcom/example/cite4/cite4/value/BooleanValue;"), (1, u "getValue"), (0, u "()Z")] 5

def k3c0 : Code := { maxStack := 1, maxLocals := 1, code := prog_20_method_2_code, exceptionTable := #[], attributes := #[] }
def k3m0 : Method := { name := "of", desc := "(Z)Lcom/example/cite4/cite4/value/BooleanValue;", sig := { parameters := [.boolean], returnType := some (.object "com/example/cite4/cite4/value/BooleanValue") }, accessFlags := 9, code := some k3c0 }
def k3c1 : Code := { maxStack := 1, maxLocals := 1, code := prog_20_method_3_code, exceptionTable := #[], attributes := #[] }
def k3m1 : Method := { name := "getValue", desc := "()Z", sig := { parameters := [], returnType := some .boolean }, accessFlags := 1, code := some k3c1 }
/-- com/example/cite4/cite4/value/BooleanValue -/
def k3 : Class := { plain "com/example/cite4/cite4/value/BooleanValue" (some 0) with
  accessFlags := 33
  interfaces := #[2]
  cf := some (fileOf pool3 8 #[] #[{ accessFlags := 9, nameIndex := 35, descriptorIndex := 36, attributes := #[] }, { accessFlags := 1, nameIndex := 38, descriptorIndex := 39, attributes := #[] }] 33 2 #[31] #[{ accessFlags := 25, nameIndex := 15, descriptorIndex := 16, attributes := #[] }, { accessFlags := 25, nameIndex := 19, descriptorIndex := 16, attributes := #[] }, { accessFlags := 18, nameIndex := 11, descriptorIndex := 12, attributes := #[] }])
  fields := #[{ name := "TRUE", type := (.object "com/example/cite4/cite4/value/BooleanValue"), accessFlags := 25, slot := 0, constantValue := 0 }, { name := "FALSE", type := (.object "com/example/cite4/cite4/value/BooleanValue"), accessFlags := 25, slot := 1, constantValue := 0 }, { name := "value", type := .boolean, accessFlags := 18, slot := 0, constantValue := 0 }]
  methods := #[k3m0, k3m1]
  instanceTypes := #[.boolean]
  staticTypes := #[(.object "com/example/cite4/cite4/value/BooleanValue"), (.object "com/example/cite4/cite4/value/BooleanValue")]
  resolved := Array.replicate 45 none
  statics := some 0 }

def pool4 : Array CpInfo := pool [(1, u "java/lang/Cloneable"), (0, .class_ 1), (0, u "java/lang/Object"), (0, .class_ 3)] 3

/-- java/lang/Cloneable -/
def k4 : Class := { plain "java/lang/Cloneable" (some 0) with
  accessFlags := 1537
  interfaces := #[]
  cf := some (fileOf pool4 2 #[] #[] 1537 4 #[] #[])
  fields := #[]
  methods := #[]
  instanceTypes := #[]
  staticTypes := #[]
  resolved := Array.replicate 8 none
  statics := none }

def pool5 : Array CpInfo := pool [(1, u "java/io/Serializable"), (0, .class_ 1), (0, u "java/lang/Object"), (0, .class_ 3)] 3

/-- java/io/Serializable -/
def k5 : Class := { plain "java/io/Serializable" (some 0) with
  accessFlags := 1537
  interfaces := #[]
  cf := some (fileOf pool5 2 #[] #[] 1537 4 #[] #[])
  fields := #[]
  methods := #[]
  instanceTypes := #[]
  staticTypes := #[]
  resolved := Array.replicate 8 none
  statics := none }

/-- the primitive byte -/
def k6 : Class := { plain "byte" none with kind := .primitive 'B', accessFlags := 0x411 }
/-- [B -/
def k7 : Class := { plain "[B" (some 0) with kind := .array 6 .byte, interfaces := #[4, 5], accessFlags := 1041 }

/-- the primitive int -/
def k8 : Class := { plain "int" none with kind := .primitive 'I', accessFlags := 0x411 }
/-- [I -/
def k9 : Class := { plain "[I" (some 0) with kind := .array 8 .int, interfaces := #[4, 5], accessFlags := 1041 }

def heap : Heap := #[{ cls := 3, slots := #[.ref 2, .ref 1], vm := .statics 3 },
  { cls := 3, slots := #[.int 0], vm := .none },
  { cls := 3, slots := #[.int 1], vm := .none }]
def classes : Array Class := #[k0, k1, k2, k3, k4, k5, k6, k7, k8, k9]
def interned : List (Array UInt16 × Addr) := []
def slotsUsed : Nat := 4
def theMethod : MethodId := ⟨1, 1⟩
def args0 : Array Value := #[.int 7]
def aboutOver (below : List Frame) : State where
  vm := { classes := classes, interned := interned.toArray }
  heap := heap
  slotsUsed := slotsUsed
  threads := #[{ frames := .invoking theMethod args0 :: below }]
def below0 : List Frame := [.native { method := ⟨0, 0⟩, args := #[] }]
def about1 : State := aboutOver below0
def p0 : Program := .bare "" "" ""
def e0 : Env := launch0.env 0 0 0
theorem w_frames : about1.frames = Frame.invoking theMethod args0 :: below0 := rfl
set_option maxRecDepth 65536 in
theorem w_args : argsFit about1.vm theMethod args0 = true := by decide +kernel
set_option maxRecDepth 65536 in
theorem w_heap : heapFits about1 = true := by decide +kernel
set_option maxRecDepth 65536 in
theorem w_runnable : about1.curStatus? = some .runnable := by decide +kernel
set_option maxRecDepth 65536 in
theorem w_alone : about1.alone = true := by decide +kernel
set_option maxRecDepth 65536 in
theorem w_named : about1.methodNamed? x = some theMethod := by decide +kernel
set_option maxRecDepth 65536 in
theorem w_hears : about1.hears theMethod below0 = true := by decide +kernel
set_option maxRecDepth 65536 in
theorem w_ripe : about1.ripe theMethod args0 below0 = true := by decide +kernel
theorem w_running : about1.status = .running := rfl
set_option maxRecDepth 65536 in
theorem w_room : about1.hasRoom e0.platform room_1 = true :=
  launch0.hasRoom_least _ room_1 (by decide +kernel) (by decide +kernel) (by decide +kernel) (by decide +kernel) (by decide +kernel) (by decide +kernel)
theorem allAtoms_all (ts : List Jvm.Cond) (a : Array Jvm.Value) (st : Jvm.State) : (allAtoms ts).before a st = ts.all (fun c => c.before a st) := by
  induction ts with
  | nil => rfl
  | cons c t ih =>
    show (Jvm.Cond.and c (allAtoms t)).before a st = _
    rw [Jvm.Cond.before_and, ih, List.all_cons]
def words1 : List Jvm.Cond := Jvm.Cond.code x code maxLocals ret :: tables_1
/-- a 'code' word, met by the world's own term for the bytes: nothing is compared byte by byte -/
theorem code_word {y : MethodName} {bytes : ByteArray} {mx : Nat} {rt : Option FieldType} {a : Array Value} {s : State} {m : MethodId} {meth : Method} {c : Code} (h1 : s.methodNamed? y = some m) (h2 : s.vm.method? m = some meth) (h3 : meth.code = some c) (h4 : c.code = bytes)
    (h5 : (c.maxLocals == mx && c.exceptionTable.isEmpty && decide (c.maxStack ≤ mostOperands) && decide (meth.sig.returnType = rt) && !meth.locks && decide (parseMethodDescriptor y.desc = some meth.sig)) = true) : (Jvm.Cond.code y bytes mx rt).before a s = true := by
  simp only [Bool.and_eq_true, beq_iff_eq, Bool.not_eq_true', decide_eq_true_eq] at h5
  obtain ⟨⟨⟨⟨⟨g1, g2⟩, g3⟩, g4⟩, g5⟩, g6⟩ := h5
  simp [Cond.before, Cond.holds, Cond.value, h1, h2, h3, h4, g1, g2, g3, g4, g5, g6]
def isCode : Jvm.Cond → Bool
  | .code _ _ _ _ => true
  | _ => false
theorem all_split {L : List Jvm.Cond} {P : Jvm.Cond → Bool} (h1 : L.all (fun c => isCode c || P c) = true) (h2 : ∀ c ∈ L.filter isCode, P c = true) : L.all P = true := by
  refine List.all_eq_true.mpr fun c hc => ?_
  have h := List.all_eq_true.mp h1 c hc
  rcases Bool.eq_false_or_eq_true (isCode c) with hi | hi
  · exact h2 c (List.mem_filter.mpr ⟨hc, hi⟩)
  · simpa [hi] using h
set_option maxRecDepth 65536 in
theorem w_c0 : (Jvm.Cond.code x code maxLocals ret).before args0 about1 = true := code_word (m := ⟨1, 1⟩) (meth := k1m1) (c := k1c1) (by decide +kernel) rfl rfl rfl (by decide +kernel)
set_option maxRecDepth 65536 in
theorem w_c1 : (Jvm.Cond.code ({ cls := "com/example/cite4/cite4/value/BooleanValue", name := "of", desc := "(Z)Lcom/example/cite4/cite4/value/BooleanValue;" } : Jvm.MethodName) prog_20_method_2_code (1 : Nat) (Option.some (Jvm.ClassFile.FieldType.object "com/example/cite4/cite4/value/BooleanValue"))).before args0 about1 = true := code_word (m := ⟨3, 0⟩) (meth := k3m0) (c := k3c0) (by decide +kernel) rfl rfl rfl (by decide +kernel)
set_option maxRecDepth 65536 in
theorem w_c2 : (Jvm.Cond.code ({ cls := "com/example/cite4/cite4/value/BooleanValue", name := "getValue", desc := "()Z" } : Jvm.MethodName) prog_20_method_3_code (1 : Nat) (Option.some Jvm.ClassFile.FieldType.boolean)).before args0 about1 = true := code_word (m := ⟨3, 1⟩) (meth := k3m1) (c := k3c1) (by decide +kernel) rfl rfl rfl (by decide +kernel)
def codes1 : List Jvm.Cond := [Jvm.Cond.code x code maxLocals ret, Jvm.Cond.code ({ cls := "com/example/cite4/cite4/value/BooleanValue", name := "of", desc := "(Z)Lcom/example/cite4/cite4/value/BooleanValue;" } : Jvm.MethodName) prog_20_method_2_code (1 : Nat) (Option.some (Jvm.ClassFile.FieldType.object "com/example/cite4/cite4/value/BooleanValue")), Jvm.Cond.code ({ cls := "com/example/cite4/cite4/value/BooleanValue", name := "getValue", desc := "()Z" } : Jvm.MethodName) prog_20_method_3_code (1 : Nat) (Option.some Jvm.ClassFile.FieldType.boolean)]
set_option maxRecDepth 65536 in
theorem codes_eq : words1.filter isCode = codes1 := rfl
theorem w_codes : ∀ c ∈ words1.filter isCode, c.before args0 about1 = true := by
  rw [codes_eq]
  intro c hc
  simp only [codes1, List.mem_cons, List.not_mem_nil, or_false] at hc
  rcases hc with rfl | rfl | rfl
  · exact w_c0
  · exact w_c1
  · exact w_c2
set_option maxRecDepth 65536 in
theorem w_t1 : words1.all (fun c => isCode c || c.before args0 about1) = true := by decide +kernel
theorem w_tables : (allAtoms (Jvm.Cond.code x code maxLocals ret :: tables_1)).before args0 about1 = true := by
  rw [allAtoms_all]
  show words1.all (fun c => c.before args0 about1) = true
  refine all_split ?_ w_codes
  rw [w_t1]
set_option maxRecDepth 65536 in
theorem w_case : (Jvm.Cond.and given_1 narrow_1).before args0 about1 = true := by decide +kernel
theorem w_applies : (headSpec (Jvm.Cond.code x code maxLocals ret :: tables_1) room_1).applies x e0.platform about1 = true :=
  (Spec.applies_iff w_frames).mpr ⟨w_running, w_runnable, w_alone, w_named, w_hears, w_ripe, w_room, w_tables⟩
theorem atStart : AtStart classFile x code maxLocals ret World_1 tables_1 room_1 Calls_1 rest_1 Pre_1 launch0 p0 e0 about1 theMethod args0 below0 :=
  ⟨lists_1, trivial, launch0.admits_env _ _ _, launch0.least_env, fairChoices_fair.cas, fairChoices_fair.clock, w_frames, w_args, w_heap, w_applies, trivial, trivial, w_case⟩
end start1
theorem witness_1 : WitnessClaimed_1 := ⟨start1.p0, start1.e0, start1.about1, start1.theMethod, start1.args0, start1.below0, start1.atStart⟩
end Jvm.Pilot.@@N@@
