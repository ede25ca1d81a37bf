import JvmDerived
import JvmDerived.Pilot.@@N@@Statement
import JvmDerived.Pilot.@@N@@Code
set_option linter.unusedVariables false
set_option linter.unusedSimpArgs false
namespace Jvm.Pilot.@@N@@
open Jvm Jvm.ClassFile Sem Op Lib Jvm.Free Jvm.Stand Jvm.LawKit Jvm.RoadKit Bundle Jvm.Pilot.@@N@@.Jvm.D

section Own
variable {p : Program} {l : Launch} {e : Env} {R : Room} {s : State} {m : MethodId} {args : Array Value} {below : List Frame} {meth : Method} {c : Code} {T : State} {locs : List Loc} {cells slots : Nat} {Z : State} {a0 : Array Value} {h h' : Heap} {Q : Option Value → Heap → List Loc → Prop} {C N : Nat}
/-- the run from F comes to the method's end, and Q holds of what it returns, of the heap and of the slots written -/
def own_Go (p : Program) (e : Env) (below : List Frame) (s : State) (Q : Option Value → Heap → List Loc → Prop) (C N : Nat) (F : State) : Prop :=
  ∃ s₂ o, Steps p.tables e below F s₂ ∧ s₂.status = .running ∧ Ended s₂ below o ∧ ∃ v L, o = .returned v ∧ Q v s₂.heap L ∧ FrameEnd s o s₂ L C N
theorem own_via {F F' : State} (k : ∀ t, Steps p.tables e below F' t → Steps p.tables e below F t) (h : own_Go p e below s Q C N F') : own_Go p e below s Q C N F := by
  obtain ⟨s₂, o, h1, r⟩ := h
  exact ⟨s₂, o, k _ h1, r⟩
/-- a method's contract: from the arguments as' and the heap h0 it returns, and Q holds -/
def own_Con (l : Launch) (Z : State) (y : MethodName) (bytes : ByteArray) (maxL : Nat) (ret : Option FieldType) (rm : Room) (as' : Array Value) (h0 : Heap) (Q : Option Value → Heap → List Loc → Prop) : Prop :=
  ∀ ws : List Jvm.Cond, MetFree l y (head1 (Jvm.Cond.code y bytes maxL ret :: ws) rm) (fun a U => a = as' ∧ Z.Warmed39 U.vm ∧ U.heap = h0) (fun _ _ _ _ _ => True) (fun _ U o U' => ∃ v L, o = .returned v ∧ Q v U'.heap L ∧ FrameEnd U o U' L rm.cells rm.slots)
theorem own_con {y : MethodName} {bytes : ByteArray} {maxL : Nat} {ret : Option FieldType} {rm : Room} {as' : Array Value} {h0 : Heap} (hp : plainName y.cls = true)
    (body : ∀ (p : Program) (e : Env) (s : State) (m : MethodId) (below : List Frame) (meth : Method) (c : Code) (T : State), p.tables.exec = Jvm.exec → c.code = bytes → c.maxLocals = maxL → Z.Warmed39 s.vm → s.vm.findClass y.cls = some m.cls → meth.name = y.name → meth.sig.returnType = ret → meth.locks = false →
      Stand p l e rm s m as' below meth c T [] 0 0 → T.heap = h0 → s.heap = h0 → own_Go p e below s Q rm.cells rm.slots (T.setTop (entryFrame m as' maxL))) : own_Con l Z y bytes maxL ret rm as' h0 Q := by
  intro ws
  refine MetFree.of_bodySF (plainFor_of_name hp) hisR ?_
  intro p e s m args below meth c s₁ Bd hml0 hP hK
  obtain ⟨ha, hZ, hh⟩ := hP
  subst ha
  exact body p e s m below meth c s₁ Bd.exec Bd.bytes hml0 hZ (findClass_of_methodNamed Bd.named) (name_of_methodNamed Bd.named Bd.method).1 Bd.returns Bd.notSynchronized (Stand.of_body Bd) (by rw [← hh, Bd.state]; rfl) hh
theorem own_leave (X : Stand p l e R s m args below meth c T locs cells slots) {F : JFrame} {v : Option Value} (hv : meth.sig.returnType = none → v = none) (hlk : meth.locks = false)
    (k : ∀ fs, (∀ (f : JFrame) (acts : List Action), f.method = m → f.locked = none → f.entered = [] → (doReturn e (T.setTop f) acts v).1 = T.setFrames fs) → Steps p.tables e below (T.setTop F) (T.setFrames fs))
    (hQ : Q v T.heap locs) (hc : cells ≤ C) (hn : slots ≤ N) : own_Go p e below s Q C N (T.setTop F) := by
  obtain ⟨fs, hr, hrun, hended, hW, hsame⟩ := X.leave (v := v) hv hlk
  exact ⟨_, _, k fs hr, hrun, hended, v, locs, rfl, hQ, ⟨v, rfl⟩, hW, hsame.mono hc hn⟩
theorem own_ret0 (X : Stand p l e R s m args below meth c T locs cells slots) (hx : p.tables.exec = Jvm.exec) {pc : Nat} {Ls : Array Slot} (hret : meth.sig.returnType = none) (hlk : meth.locks = false) (hd : decode c.code pc = .ok (.return_, 1))
    (hQ : Q none T.heap locs) (hc : cells ≤ C) (hn : slots ≤ N) : own_Go p e below s Q C N (T.setTop (mkF m pc Ls [])) :=
  own_leave X (fun _ => rfl) hlk (fun fs hr => X.returnOut hx hret hd hr) hQ hc hn
theorem own_retZ (X : Stand p l e R s m args below meth c T locs cells slots) (hx : p.tables.exec = Jvm.exec) {pc : Nat} {Ls : Array Slot} {z : Int32} {rest : List Value} (hret : meth.sig.returnType = some .boolean) (hlk : meth.locks = false) (hd : decode c.code pc = .ok (.ireturn, 1))
    (hQ : Q (some (.int (nar .boolean z))) T.heap locs) (hc : cells ≤ C) (hn : slots ≤ N) : own_Go p e below s Q C N (T.setTop (mkF m pc Ls (.int z :: rest))) :=
  own_leave X (fun h => by rw [hret] at h; cases h) hlk (fun fs hr => retN X hx (t := .boolean) hret (by simp) hd hr) hQ hc hn
theorem own_retI (X : Stand p l e R s m args below meth c T locs cells slots) (hx : p.tables.exec = Jvm.exec) {pc : Nat} {Ls : Array Slot} {z : Int32} {rest : List Value} (hret : meth.sig.returnType = some .int) (hlk : meth.locks = false) (hd : decode c.code pc = .ok (.ireturn, 1))
    (hQ : Q (some (.int z)) T.heap locs) (hc : cells ≤ C) (hn : slots ≤ N) : own_Go p e below s Q C N (T.setTop (mkF m pc Ls (.int z :: rest))) :=
  own_leave X (fun h => by rw [hret] at h; cases h) hlk (fun fs hr => retOut X hx (t := .int) hret rfl (Or.inl ⟨rfl, Or.inl rfl, z, rfl⟩) hd hr) hQ hc hn
theorem own_retJ (X : Stand p l e R s m args below meth c T locs cells slots) (hx : p.tables.exec = Jvm.exec) {pc : Nat} {Ls : Array Slot} {z : Int64} {rest : List Value} (hret : meth.sig.returnType = some .long) (hlk : meth.locks = false) (hd : decode c.code pc = .ok (.lreturn, 1))
    (hQ : Q (some (.long z)) T.heap locs) (hc : cells ≤ C) (hn : slots ≤ N) : own_Go p e below s Q C N (T.setTop (mkF m pc Ls (.long z :: rest))) :=
  own_leave X (fun h => by rw [hret] at h; cases h) hlk (fun fs hr => retOut X hx (t := .long) hret rfl (Or.inr (Or.inl ⟨rfl, rfl, z, rfl⟩)) hd hr) hQ hc hn
theorem own_retA (X : Stand p l e R s m args below meth c T locs cells slots) (hx : p.tables.exec = Jvm.exec) {pc : Nat} {Ls : Array Slot} {w : Value} {t : FieldType} {rest : List Value} (hret : meth.sig.returnType = some t) (ht : t.isReference = true) (hw : w.isRef = true) (hlk : meth.locks = false) (hd : decode c.code pc = .ok (.areturn, 1))
    (hQ : Q (some w) T.heap locs) (hc : cells ≤ C) (hn : slots ≤ N) : own_Go p e below s Q C N (T.setTop (mkF m pc Ls (w :: rest))) :=
  own_leave X (fun h => by rw [hret] at h; cases h) hlk (fun fs hr => retOut X hx (t := t) hret (by rcases ref_cases hw with rfl | ⟨a, rfl⟩ <;> cases t <;> first | rfl | cases ht) (Or.inr (Or.inr (Or.inr (Or.inr ⟨rfl, ht, hw⟩)))) hd hr) hQ hc hn
section Calls
variable {y z : MethodName} {bytes : ByteArray} {maxL : Nat} {ret : Option FieldType} {rm : Room} {as' : Array Value} {Qc : Option Value → Heap → List Loc → Prop} {own : String} {index : Nat} {g : JFrame} {argsL rest : List Value}
theorem own_callS (X : Stand p l e R s m args below meth c T locs cells slots) (hx : p.tables.exec = Jvm.exec) (hZ : Z.Warmed39 s.vm) (K : own_Con l Z y bytes maxL ret rm as' h Qc) (hown : s.vm.findClass own = some m.cls)
    (w1 : (Jvm.Cond.methodLink own index y).before a0 Z = true) (w2 : (Jvm.Cond.static y).before a0 Z = true) (w3 : (Jvm.Cond.initialized y.cls).before a0 Z = true) (w4 : (Jvm.Cond.code y bytes maxL ret).before a0 Z = true)
    (hy : y.cls ≠ "java/lang/invoke/MethodHandle" ∧ y.cls ≠ "java/lang/invoke/VarHandle") (eT : T.heap = h) (hg : g.method = m) (hsize : g.locals.size = c.maxLocals) (has : argsL.toArray = as')
    (hlen : ∀ sig, parseMethodDescriptor y.desc = some sig → argsL.length = sig.parameters.length) (hst : g.stack = argsL.reverse ++ rest) (W : Nat) (hW : 2 * g.monitorRoom + (rest.map fun v => v.category).sum ≤ W) (hd : decode c.code g.pc = .ok (.invokestatic index, 3))
    (hf : rm.frames + 1 ≤ R.frames) (hl : W + (maxL + 11) + rm.locals ≤ R.locals) (hc : cells + rm.cells ≤ R.cells) (hs : slots + rm.slots ≤ R.slots)
    (k : ∀ (v : Option Value) (T' : State) (L : List Loc), Qc v T'.heap L → Stand p l e R s m args below meth c T' (locs ++ L) (cells + rm.cells) (slots + rm.slots) → own_Go p e below s Q C N (T'.setTop { g with pc := g.pc + 3, stack := v.toList ++ rest })) :
    own_Go p e below s Q C N (T.setTop g) := by
  obtain ⟨v, _, ⟨T', L', k', n'⟩, -, X', ⟨Lc, hQ, l', y', z'⟩, st⟩ := Jvm.LawKit.callS X hx (y := y) hown (mvT hZ w1) (mvT hZ w2) (mvT hZ w3) (mvT hZ w4) hy (backOf (W := W) (K []) hZ w4 w3 hf hl) (g := g) hg hsize (argsL := argsL) (rest := rest) hlen hst hW hd (fun _ _ => ⟨has, eT, hc, hs⟩)
  dsimp only [Pt.U, Pt.locs, Pt.cells, Pt.slots] at X' l' y' z' st hQ
  subst l' y' z'
  exact own_via st (k v T' Lc hQ X')
theorem own_callI (X : Stand p l e R s m args below meth c T locs cells slots) (hx : p.tables.exec = Jvm.exec) (hZ : Z.Warmed39 s.vm) (K : own_Con l Z y bytes maxL none rm as' h Qc) (hown : s.vm.findClass own = some m.cls) (hy1 : y.name = "<init>")
    (w1 : (Jvm.Cond.methodLink own index y).before a0 Z = true) (w2 : (Jvm.Cond.instanceMethod y).before a0 Z = true) (w3 : (Jvm.Cond.initialized y.cls).before a0 Z = true) (w4 : (Jvm.Cond.code y bytes maxL none).before a0 Z = true)
    (hy : y.cls ≠ "java/lang/invoke/MethodHandle" ∧ y.cls ≠ "java/lang/invoke/VarHandle") (eT : T.heap = h) (hg : g.method = m) (hsize : g.locals.size = c.maxLocals) {a : Addr} (has : (.ref a :: argsL).toArray = as')
    (hlen : ∀ sig, parseMethodDescriptor y.desc = some sig → argsL.length = sig.parameters.length) (hst : g.stack = argsL.reverse ++ .ref a :: rest) (W : Nat) (hW : 2 * g.monitorRoom + (rest.map fun v => v.category).sum ≤ W) (hd : decode c.code g.pc = .ok (.invokespecial index, 3))
    (hf : rm.frames + 1 ≤ R.frames) (hl : W + (maxL + 11) + rm.locals ≤ R.locals) (hc : cells + rm.cells ≤ R.cells) (hs : slots + rm.slots ≤ R.slots)
    (k : ∀ (v : Option Value) (T' : State) (L : List Loc), Qc v T'.heap L → Stand p l e R s m args below meth c T' (locs ++ L) (cells + rm.cells) (slots + rm.slots) → own_Go p e below s Q C N (T'.setTop { g with pc := g.pc + 3, stack := v.toList ++ rest })) :
    own_Go p e below s Q C N (T.setTop g) := by
  obtain ⟨v, _, ⟨T', L', k', n'⟩, -, X', ⟨Lc, hQ, l', y', z'⟩, st⟩ := X.specialBack hx (y := y) hy1 hown (mvT hZ w1) (mvT hZ w2) (mvT hZ w4) hy (backOf (W := W) (K []) hZ w4 w3 hf hl) (g := g) hg hsize (Steps.refl _) (a := a) (argsL := argsL) (rest := rest) hlen hst hW hd (fun _ _ => ⟨has, eT, hc, hs⟩)
  dsimp only [Pt.U, Pt.locs, Pt.cells, Pt.slots] at X' l' y' z' st hQ
  subst l' y' z'
  exact own_via (fun t q => st.trans q) (k v T' Lc hQ X')
theorem own_callV (X : Stand p l e R s m args below meth c T locs cells slots) (hx : p.tables.exec = Jvm.exec) (hZ : Z.Warmed39 s.vm) (K : own_Con l Z z bytes maxL ret rm as' h Qc) (hown : s.vm.findClass own = some m.cls) {CC : String} {a : Addr} (E : Exa Z h a CC)
    (w1 : (Jvm.Cond.methodLink own index y).before a0 Z = true) (w5 : (Jvm.Cond.declares y).before a0 Z = true) (w6 : (Jvm.Cond.selects CC y z).before a0 Z = true) (w2 : (Jvm.Cond.instanceMethod z).before a0 Z = true) (w3 : (Jvm.Cond.initialized z.cls).before a0 Z = true) (w4 : (Jvm.Cond.code z bytes maxL ret).before a0 Z = true)
    (nf : NotFace s y) (hy : y.cls ≠ "java/lang/invoke/MethodHandle" ∧ y.cls ≠ "java/lang/invoke/VarHandle") (eT : T.heap = h) (hg : g.method = m) (hsize : g.locals.size = c.maxLocals) (has : (.ref a :: argsL).toArray = as')
    (hlen : ∀ sig, parseMethodDescriptor y.desc = some sig → argsL.length = sig.parameters.length) (hst : g.stack = argsL.reverse ++ .ref a :: rest) (W : Nat) (hW : 2 * g.monitorRoom + (rest.map fun v => v.category).sum ≤ W) (hd : decode c.code g.pc = .ok (.invokevirtual index, 3))
    (hf : rm.frames + 1 ≤ R.frames) (hl : W + (maxL + 11) + rm.locals ≤ R.locals) (hc : cells + rm.cells ≤ R.cells) (hs : slots + rm.slots ≤ R.slots)
    (k : ∀ (v : Option Value) (T' : State) (L : List Loc), Qc v T'.heap L → Stand p l e R s m args below meth c T' (locs ++ L) (cells + rm.cells) (slots + rm.slots) → own_Go p e below s Q C N (T'.setTop { g with pc := g.pc + 3, stack := v.toList ++ rest })) :
    own_Go p e below s Q C N (T.setTop g) := by
  obtain ⟨cB, kB, q1, q2, q3⟩ := isOf hZ eT E
  obtain ⟨v, _, ⟨T', L', k', n'⟩, -, X', ⟨Lc, hQ, l', y', z'⟩, st⟩ := X.virtualBack hx (y := y) (z := z) hown (mvT hZ w1) (mvT hZ w5) nf (mvT hZ w6) (mvT hZ w2) hy (backOf (W := W) (K []) hZ w4 w3 hf hl) q1 q3 (g := g) hg hsize (Steps.refl _) (argsL := argsL) (rest := rest) hlen hst hW hd (fun _ _ => ⟨has, eT, hc, hs⟩)
  dsimp only [Pt.U, Pt.locs, Pt.cells, Pt.slots] at X' l' y' z' st hQ
  subst l' y' z'
  exact own_via (fun t q => st.trans q) (k v T' Lc hQ X')
end Calls
theorem own_eqi {t : Term} {n : Int32} (h : (Jvm.Cond.eq t (Term.int n)).value a0 Z none Z [] = some true) : t.eval a0 Z none [] Z = some (.int n) := by
  obtain ⟨x, y, e1, e2, k1, k2⟩ := cmp_v (Or.inl h)
  have e3 : y = .int n := (Option.some.inj e2).symm
  subst e3
  obtain ⟨w, rfl⟩ := k2
  have q : (Jvm.Cond.eq t (Term.int n)).value a0 Z none Z [] = some (decide (w = n)) := by simp [Jvm.Cond.value, e1, e2]
  rw [e1, gotT q h]
theorem own_fld {t : Term} {a : Addr} {CC f d : String} {v : Value} (ev : t.eval a0 Z none [] Z = some (.ref a)) (h : (Term.field t CC f d).eval a0 Z none [] Z = some v) : Fld Z Z.heap a CC f d v :=
  Fld.start ((fld_at ev).symm.trans h)
end Own

theorem own_pn : plainName "com/example/orderloom/orderloom/lifecycle/FalloutCaseState" = true := by first | (simp [plainName, overriddenIn]; done) | decide +kernel
theorem own_pnL : plainName "com/example/orderloom/orderloom/lifecycle/FalloutCaseStateAwaitsRepairPinLaw" = true := by first | (simp [plainName, overriddenIn]; done) | decide +kernel
theorem d1_0 : decode method_2_code 0 = .ok (.iload_n 0, 1) := by decide +kernel
theorem d1_1 : decode method_2_code 1 = .ok (.ifCond .ne 7, 3) := by decide +kernel
theorem d1_4 : decode method_2_code 4 = .ok (.getstatic 7, 3) := by decide +kernel
theorem d1_7 : decode method_2_code 7 = .ok (.areturn, 1) := by decide +kernel
theorem d1_8 : decode method_2_code 8 = .ok (.iload_n 0, 1) := by decide +kernel
theorem d1_9 : decode method_2_code 9 = .ok (.iconst 1, 1) := by decide +kernel
theorem d1_10 : decode method_2_code 10 = .ok (.if_icmp .ne 7, 3) := by decide +kernel
theorem d1_13 : decode method_2_code 13 = .ok (.getstatic 13, 3) := by decide +kernel
theorem d1_16 : decode method_2_code 16 = .ok (.areturn, 1) := by decide +kernel
theorem d1_17 : decode method_2_code 17 = .ok (.iload_n 0, 1) := by decide +kernel
theorem d1_18 : decode method_2_code 18 = .ok (.iconst 2, 1) := by decide +kernel
theorem d1_19 : decode method_2_code 19 = .ok (.if_icmp .ne 7, 3) := by decide +kernel
theorem d1_22 : decode method_2_code 22 = .ok (.getstatic 16, 3) := by decide +kernel
theorem d1_25 : decode method_2_code 25 = .ok (.areturn, 1) := by decide +kernel
theorem d1_26 : decode method_2_code 26 = .ok (.iload_n 0, 1) := by decide +kernel
theorem d1_27 : decode method_2_code 27 = .ok (.iconst 3, 1) := by decide +kernel
theorem d1_28 : decode method_2_code 28 = .ok (.if_icmp .ne 7, 3) := by decide +kernel
theorem d1_31 : decode method_2_code 31 = .ok (.getstatic 19, 3) := by decide +kernel
theorem d1_34 : decode method_2_code 34 = .ok (.areturn, 1) := by decide +kernel
theorem d1_35 : decode method_2_code 35 = .ok (.iload_n 0, 1) := by decide +kernel
theorem d1_36 : decode method_2_code 36 = .ok (.iconst 4, 1) := by decide +kernel
theorem d1_37 : decode method_2_code 37 = .ok (.if_icmp .ne 7, 3) := by decide +kernel
theorem d1_40 : decode method_2_code 40 = .ok (.getstatic 22, 3) := by decide +kernel
theorem d1_43 : decode method_2_code 43 = .ok (.areturn, 1) := by decide +kernel
theorem d1_44 : decode method_2_code 44 = .ok (.getstatic 25, 3) := by decide +kernel
theorem d1_47 : decode method_2_code 47 = .ok (.areturn, 1) := by decide +kernel
theorem own_pd0 : parseMethodDescriptor "(I)Lcom/example/orderloom/orderloom/lifecycle/FalloutCaseState;" = some ⟨[.int], some (.object "com/example/orderloom/orderloom/lifecycle/FalloutCaseState")⟩ := by decide +kernel
theorem d2_0 : decode prog_16_method_5_code 0 = .ok (.aload_n 0, 1) := by decide +kernel
theorem d2_1 : decode prog_16_method_5_code 1 = .ok (.getstatic 3, 3) := by decide +kernel
theorem d2_4 : decode prog_16_method_5_code 4 = .ok (.if_acmp .eq 17, 3) := by decide +kernel
theorem d2_7 : decode prog_16_method_5_code 7 = .ok (.aload_n 0, 1) := by decide +kernel
theorem d2_8 : decode prog_16_method_5_code 8 = .ok (.getstatic 7, 3) := by decide +kernel
theorem d2_11 : decode prog_16_method_5_code 11 = .ok (.if_acmp .eq 10, 3) := by decide +kernel
theorem d2_14 : decode prog_16_method_5_code 14 = .ok (.aload_n 0, 1) := by decide +kernel
theorem d2_15 : decode prog_16_method_5_code 15 = .ok (.getstatic 10, 3) := by decide +kernel
theorem d2_18 : decode prog_16_method_5_code 18 = .ok (.if_acmp .ne 7, 3) := by decide +kernel
theorem d2_21 : decode prog_16_method_5_code 21 = .ok (.iconst 1, 1) := by decide +kernel
theorem d2_22 : decode prog_16_method_5_code 22 = .ok (.goto 4, 3) := by decide +kernel
theorem d2_25 : decode prog_16_method_5_code 25 = .ok (.iconst 0, 1) := by decide +kernel
theorem d2_26 : decode prog_16_method_5_code 26 = .ok (.ireturn, 1) := by decide +kernel
theorem own_pd1 : parseMethodDescriptor "()Z" = some ⟨[], some .boolean⟩ := by decide +kernel
theorem d3_0 : decode prog_16_method_4_code 0 = .ok (.aload_n 0, 1) := by decide +kernel
theorem d3_1 : decode prog_16_method_4_code 1 = .ok (.getstatic 16, 3) := by decide +kernel
theorem d3_4 : decode prog_16_method_4_code 4 = .ok (.if_acmp .eq 14, 3) := by decide +kernel
theorem d3_7 : decode prog_16_method_4_code 7 = .ok (.aload_n 0, 1) := by decide +kernel
theorem d3_8 : decode prog_16_method_4_code 8 = .ok (.getstatic 19, 3) := by decide +kernel
theorem d3_11 : decode prog_16_method_4_code 11 = .ok (.if_acmp .eq 7, 3) := by decide +kernel
theorem d3_14 : decode prog_16_method_4_code 14 = .ok (.iconst 1, 1) := by decide +kernel
theorem d3_15 : decode prog_16_method_4_code 15 = .ok (.goto 4, 3) := by decide +kernel
theorem d3_18 : decode prog_16_method_4_code 18 = .ok (.iconst 0, 1) := by decide +kernel
theorem d3_19 : decode prog_16_method_4_code 19 = .ok (.ireturn, 1) := by decide +kernel
theorem own_ef0 (m : MethodId) (x0 : Int32) : entryFrame m #[(.int x0)] maxLocals = mkF m 0 #[.val (.int x0), .unset, .unset, .unset, .unset] [] := by first | (simp [entryFrame, mkF, argsToLocals, Value.category, maxLocals]; done) | rfl
theorem own_ef1 (m : MethodId) (x0 : Addr) : entryFrame m #[(.ref x0)] 1 = mkF m 0 #[.val (.ref x0)] [] := by first | (simp [entryFrame, mkF, argsToLocals, Value.category]; done) | rfl
theorem own_ef2 (m : MethodId) (x0 : Int32) : entryFrame m #[(.int x0)] 1 = mkF m 0 #[.val (.int x0)] [] := by first | (simp [entryFrame, mkF, argsToLocals, Value.category]; done) | rfl
set_option maxRecDepth 65536 in
set_option maxHeartbeats 40000000 in
theorem own_k2 (l : Launch) (Z : State) (az : Array Value) (hw : ∀ d ∈ tables_1, d.before az Z = true) (a a0 a1 a2 : Addr) (h0 : Heap) (S0 : Sta Z h0 "com/example/orderloom/orderloom/lifecycle/FalloutCaseState" "OPEN" "Lcom/example/orderloom/orderloom/lifecycle/FalloutCaseState;" (.ref a0)) (S1 : Sta Z h0 "com/example/orderloom/orderloom/lifecycle/FalloutCaseState" "TRIAGING" "Lcom/example/orderloom/orderloom/lifecycle/FalloutCaseState;" (.ref a1)) (S2 : Sta Z h0 "com/example/orderloom/orderloom/lifecycle/FalloutCaseState" "WAITING_CUSTOMER" "Lcom/example/orderloom/orderloom/lifecycle/FalloutCaseState;" (.ref a2)) (r : Int32) (hr : (if a = a0 ∨ a = a1 ∨ a = a2 then (1 : Int32) else (0 : Int32)) = r) :
    own_Con l Z (⟨"com/example/orderloom/orderloom/lifecycle/FalloutCaseState", "awaitsRepair", "()Z"⟩ : MethodName) prog_16_method_5_code 1 (some .boolean) ({ frames := 0, cells := 0, slots := 0, locals := 0 } : Room) #[(.ref a)] h0 (fun v h L => v = some (.int r) ∧ h = h0 ∧ L = []) := by
  refine own_con own_pn ?_
  intro p e s m below meth c T0 hx hby hml hZ hown hnm hret hlk X0 e0 eh
  refine own_via (F' := T0.setTop (mkF m 0 #[.val (.ref a)] [])) (fun t k => castTop (own_ef1 m a) k) ?_
  refine own_via (F' := T0.setTop (mkF m 1 #[.val (.ref a)] [(.ref a)])) (fun t k => XS.aloadN X0.here hx rfl (hb hby d2_0) rfl rfl k) ?_
  obtain ⟨T1, X1, e1, s1⟩ := getS X0 hx hZ (host := "") hown (hw _ (List.mem_of_getElem? (i := 13) rfl)) Via.refl e0 S0 (g := (mkF m 1 #[.val (.ref a)] [(.ref a)])) rfl (hb hby d2_1)
  refine own_via (F' := T1.setTop (mkF m 4 #[.val (.ref a)] [(.ref a0), (.ref a)])) s1 ?_
  by_cases q2 : a = a0
  · refine own_via (F' := T1.setTop (mkF m 21 #[.val (.ref a)] [])) (fun t k => XT.acmpYes X1.here hx rfl (pc0 := 4) (pc' := 21) rfl (hb hby d2_4) rfl rfl rfl (XT.aa_eq_t (congrArg Value.ref q2)) (by decide) (by decide) k) ?_
    refine own_via (F' := T1.setTop (mkF m 22 #[.val (.ref a)] [(.int (1 : Int32))])) (fun t k => XT.iconstV X1.here hx rfl (1 : Int32) (hb hby d2_21) (by decide) k) ?_
    refine own_via (F' := T1.setTop (mkF m 26 #[.val (.ref a)] [(.int (1 : Int32))])) (fun t k => XS.goto X1.here hx rfl (pc0 := 22) (pc' := 26) rfl (hb hby d2_22) (by decide) (by decide) k) ?_
    exact own_retZ X1 hx hret hlk (hb hby d2_26) ⟨by rw [← hr]; first | (simp [q2]; done) | (simp [q2]; rfl) | rfl, e1, rfl⟩ (Nat.le_refl _) (Nat.le_refl _)
  · refine own_via (F' := T1.setTop (mkF m 7 #[.val (.ref a)] [])) (fun t k => XT.acmpNo X1.here hx rfl (hb hby d2_4) rfl rfl rfl (XT.aa_eq_f (fun z => q2 (Value.ref.inj z))) k) ?_
    refine own_via (F' := T1.setTop (mkF m 8 #[.val (.ref a)] [(.ref a)])) (fun t k => XS.aloadN X1.here hx rfl (hb hby d2_7) rfl rfl k) ?_
    obtain ⟨T3, X3, e3, s3⟩ := getS X1 hx hZ (host := "") hown (hw _ (List.mem_of_getElem? (i := 25) rfl)) Via.refl e1 S1 (g := (mkF m 8 #[.val (.ref a)] [(.ref a)])) rfl (hb hby d2_8)
    refine own_via (F' := T3.setTop (mkF m 11 #[.val (.ref a)] [(.ref a1), (.ref a)])) s3 ?_
    by_cases q4 : a = a1
    · refine own_via (F' := T3.setTop (mkF m 21 #[.val (.ref a)] [])) (fun t k => XT.acmpYes X3.here hx rfl (pc0 := 11) (pc' := 21) rfl (hb hby d2_11) rfl rfl rfl (XT.aa_eq_t (congrArg Value.ref q4)) (by decide) (by decide) k) ?_
      refine own_via (F' := T3.setTop (mkF m 22 #[.val (.ref a)] [(.int (1 : Int32))])) (fun t k => XT.iconstV X3.here hx rfl (1 : Int32) (hb hby d2_21) (by decide) k) ?_
      refine own_via (F' := T3.setTop (mkF m 26 #[.val (.ref a)] [(.int (1 : Int32))])) (fun t k => XS.goto X3.here hx rfl (pc0 := 22) (pc' := 26) rfl (hb hby d2_22) (by decide) (by decide) k) ?_
      exact own_retZ X3 hx hret hlk (hb hby d2_26) ⟨by rw [← hr]; first | (simp [q2, q4]; done) | (simp [q2, q4]; rfl) | rfl, e3, rfl⟩ (Nat.le_refl _) (Nat.le_refl _)
    · refine own_via (F' := T3.setTop (mkF m 14 #[.val (.ref a)] [])) (fun t k => XT.acmpNo X3.here hx rfl (hb hby d2_11) rfl rfl rfl (XT.aa_eq_f (fun z => q4 (Value.ref.inj z))) k) ?_
      refine own_via (F' := T3.setTop (mkF m 15 #[.val (.ref a)] [(.ref a)])) (fun t k => XS.aloadN X3.here hx rfl (hb hby d2_14) rfl rfl k) ?_
      obtain ⟨T5, X5, e5, s5⟩ := getS X3 hx hZ (host := "") hown (hw _ (List.mem_of_getElem? (i := 27) rfl)) Via.refl e3 S2 (g := (mkF m 15 #[.val (.ref a)] [(.ref a)])) rfl (hb hby d2_15)
      refine own_via (F' := T5.setTop (mkF m 18 #[.val (.ref a)] [(.ref a2), (.ref a)])) s5 ?_
      by_cases q6 : a = a2
      · refine own_via (F' := T5.setTop (mkF m 21 #[.val (.ref a)] [])) (fun t k => XT.acmpNo X5.here hx rfl (hb hby d2_18) rfl rfl rfl (XT.aa_ne_f (congrArg Value.ref q6)) k) ?_
        refine own_via (F' := T5.setTop (mkF m 22 #[.val (.ref a)] [(.int (1 : Int32))])) (fun t k => XT.iconstV X5.here hx rfl (1 : Int32) (hb hby d2_21) (by decide) k) ?_
        refine own_via (F' := T5.setTop (mkF m 26 #[.val (.ref a)] [(.int (1 : Int32))])) (fun t k => XS.goto X5.here hx rfl (pc0 := 22) (pc' := 26) rfl (hb hby d2_22) (by decide) (by decide) k) ?_
        exact own_retZ X5 hx hret hlk (hb hby d2_26) ⟨by rw [← hr]; first | (simp [q2, q4, q6]; done) | (simp [q2, q4, q6]; rfl) | rfl, e5, rfl⟩ (Nat.le_refl _) (Nat.le_refl _)
      · refine own_via (F' := T5.setTop (mkF m 25 #[.val (.ref a)] [])) (fun t k => XT.acmpYes X5.here hx rfl (pc0 := 18) (pc' := 25) rfl (hb hby d2_18) rfl rfl rfl (XT.aa_ne_t (fun z => q6 (Value.ref.inj z))) (by decide) (by decide) k) ?_
        refine own_via (F' := T5.setTop (mkF m 26 #[.val (.ref a)] [(.int (0 : Int32))])) (fun t k => XT.iconstV X5.here hx rfl (0 : Int32) (hb hby d2_25) (by decide) k) ?_
        exact own_retZ X5 hx hret hlk (hb hby d2_26) ⟨by rw [← hr]; first | (simp [q2, q4, q6]; done) | (simp [q2, q4, q6]; rfl) | rfl, e5, rfl⟩ (Nat.le_refl _) (Nat.le_refl _)
set_option maxRecDepth 65536 in
set_option maxHeartbeats 40000000 in
theorem own_k3 (l : Launch) (Z : State) (az : Array Value) (hw : ∀ d ∈ tables_1, d.before az Z = true) (a a4 a5 : Addr) (h0 : Heap) (S4 : Sta Z h0 "com/example/orderloom/orderloom/lifecycle/FalloutCaseState" "RESOLVED" "Lcom/example/orderloom/orderloom/lifecycle/FalloutCaseState;" (.ref a4)) (S5 : Sta Z h0 "com/example/orderloom/orderloom/lifecycle/FalloutCaseState" "CLOSED" "Lcom/example/orderloom/orderloom/lifecycle/FalloutCaseState;" (.ref a5)) (r : Int32) (hr : (if a = a4 ∨ a = a5 then (0 : Int32) else (1 : Int32)) = r) :
    own_Con l Z (⟨"com/example/orderloom/orderloom/lifecycle/FalloutCaseState", "blocksOrder", "()Z"⟩ : MethodName) prog_16_method_4_code 1 (some .boolean) ({ frames := 0, cells := 0, slots := 0, locals := 0 } : Room) #[(.ref a)] h0 (fun v h L => v = some (.int r) ∧ h = h0 ∧ L = []) := by
  refine own_con own_pn ?_
  intro p e s m below meth c T0 hx hby hml hZ hown hnm hret hlk X0 e0 eh
  refine own_via (F' := T0.setTop (mkF m 0 #[.val (.ref a)] [])) (fun t k => castTop (own_ef1 m a) k) ?_
  refine own_via (F' := T0.setTop (mkF m 1 #[.val (.ref a)] [(.ref a)])) (fun t k => XS.aloadN X0.here hx rfl (hb hby d3_0) rfl rfl k) ?_
  obtain ⟨T1, X1, e1, s1⟩ := getS X0 hx hZ (host := "") hown (hw _ (List.mem_of_getElem? (i := 19) rfl)) Via.refl e0 S4 (g := (mkF m 1 #[.val (.ref a)] [(.ref a)])) rfl (hb hby d3_1)
  refine own_via (F' := T1.setTop (mkF m 4 #[.val (.ref a)] [(.ref a4), (.ref a)])) s1 ?_
  by_cases q2 : a = a4
  · refine own_via (F' := T1.setTop (mkF m 18 #[.val (.ref a)] [])) (fun t k => XT.acmpYes X1.here hx rfl (pc0 := 4) (pc' := 18) rfl (hb hby d3_4) rfl rfl rfl (XT.aa_eq_t (congrArg Value.ref q2)) (by decide) (by decide) k) ?_
    refine own_via (F' := T1.setTop (mkF m 19 #[.val (.ref a)] [(.int (0 : Int32))])) (fun t k => XT.iconstV X1.here hx rfl (0 : Int32) (hb hby d3_18) (by decide) k) ?_
    exact own_retZ X1 hx hret hlk (hb hby d3_19) ⟨by rw [← hr]; first | (simp [q2]; done) | (simp [q2]; rfl) | rfl, e1, rfl⟩ (Nat.le_refl _) (Nat.le_refl _)
  · refine own_via (F' := T1.setTop (mkF m 7 #[.val (.ref a)] [])) (fun t k => XT.acmpNo X1.here hx rfl (hb hby d3_4) rfl rfl rfl (XT.aa_eq_f (fun z => q2 (Value.ref.inj z))) k) ?_
    refine own_via (F' := T1.setTop (mkF m 8 #[.val (.ref a)] [(.ref a)])) (fun t k => XS.aloadN X1.here hx rfl (hb hby d3_7) rfl rfl k) ?_
    obtain ⟨T3, X3, e3, s3⟩ := getS X1 hx hZ (host := "") hown (hw _ (List.mem_of_getElem? (i := 21) rfl)) Via.refl e1 S5 (g := (mkF m 8 #[.val (.ref a)] [(.ref a)])) rfl (hb hby d3_8)
    refine own_via (F' := T3.setTop (mkF m 11 #[.val (.ref a)] [(.ref a5), (.ref a)])) s3 ?_
    by_cases q4 : a = a5
    · refine own_via (F' := T3.setTop (mkF m 18 #[.val (.ref a)] [])) (fun t k => XT.acmpYes X3.here hx rfl (pc0 := 11) (pc' := 18) rfl (hb hby d3_11) rfl rfl rfl (XT.aa_eq_t (congrArg Value.ref q4)) (by decide) (by decide) k) ?_
      refine own_via (F' := T3.setTop (mkF m 19 #[.val (.ref a)] [(.int (0 : Int32))])) (fun t k => XT.iconstV X3.here hx rfl (0 : Int32) (hb hby d3_18) (by decide) k) ?_
      exact own_retZ X3 hx hret hlk (hb hby d3_19) ⟨by rw [← hr]; first | (simp [q2, q4]; done) | (simp [q2, q4]; rfl) | rfl, e3, rfl⟩ (Nat.le_refl _) (Nat.le_refl _)
    · refine own_via (F' := T3.setTop (mkF m 14 #[.val (.ref a)] [])) (fun t k => XT.acmpNo X3.here hx rfl (hb hby d3_11) rfl rfl rfl (XT.aa_eq_f (fun z => q4 (Value.ref.inj z))) k) ?_
      refine own_via (F' := T3.setTop (mkF m 15 #[.val (.ref a)] [(.int (1 : Int32))])) (fun t k => XT.iconstV X3.here hx rfl (1 : Int32) (hb hby d3_14) (by decide) k) ?_
      refine own_via (F' := T3.setTop (mkF m 19 #[.val (.ref a)] [(.int (1 : Int32))])) (fun t k => XS.goto X3.here hx rfl (pc0 := 15) (pc' := 19) rfl (hb hby d3_15) (by decide) (by decide) k) ?_
      exact own_retZ X3 hx hret hlk (hb hby d3_19) ⟨by rw [← hr]; first | (simp [q2, q4]; done) | (simp [q2, q4]; rfl) | rfl, e3, rfl⟩ (Nat.le_refl _) (Nat.le_refl _)
set_option maxRecDepth 65536 in
set_option maxHeartbeats 40000000 in
theorem own_k1 (l : Launch) (Z : State) (az : Array Value) (hw : ∀ d ∈ tables_1, d.before az Z = true) (kk : Int32) (a0 a1 a2 a3 a4 a5 : Addr) (h0 : Heap) (S0 : Sta Z h0 "com/example/orderloom/orderloom/lifecycle/FalloutCaseState" "OPEN" "Lcom/example/orderloom/orderloom/lifecycle/FalloutCaseState;" (.ref a0)) (S1 : Sta Z h0 "com/example/orderloom/orderloom/lifecycle/FalloutCaseState" "TRIAGING" "Lcom/example/orderloom/orderloom/lifecycle/FalloutCaseState;" (.ref a1)) (S2 : Sta Z h0 "com/example/orderloom/orderloom/lifecycle/FalloutCaseState" "WAITING_CUSTOMER" "Lcom/example/orderloom/orderloom/lifecycle/FalloutCaseState;" (.ref a2)) (S3 : Sta Z h0 "com/example/orderloom/orderloom/lifecycle/FalloutCaseState" "REPAIR_IN_PROGRESS" "Lcom/example/orderloom/orderloom/lifecycle/FalloutCaseState;" (.ref a3)) (S4 : Sta Z h0 "com/example/orderloom/orderloom/lifecycle/FalloutCaseState" "RESOLVED" "Lcom/example/orderloom/orderloom/lifecycle/FalloutCaseState;" (.ref a4)) (S5 : Sta Z h0 "com/example/orderloom/orderloom/lifecycle/FalloutCaseState" "CLOSED" "Lcom/example/orderloom/orderloom/lifecycle/FalloutCaseState;" (.ref a5)) (r : Addr) (hr : (if kk = (0 : Int32) then a0 else if kk = (1 : Int32) then a1 else if kk = (2 : Int32) then a2 else if kk = (3 : Int32) then a3 else if kk = (4 : Int32) then a4 else a5) = r) :
    own_Con l Z (⟨"com/example/orderloom/orderloom/lifecycle/FalloutCaseStateAwaitsRepairPinLaw", "pick", "(I)Lcom/example/orderloom/orderloom/lifecycle/FalloutCaseState;"⟩ : MethodName) method_2_code 1 (some (.object "com/example/orderloom/orderloom/lifecycle/FalloutCaseState")) ({ frames := 0, cells := 0, slots := 0, locals := 0 } : Room) #[(.int kk)] h0 (fun v h L => v = some (.ref r) ∧ h = h0 ∧ L = []) := by
  refine own_con own_pnL ?_
  intro p e s m below meth c T0 hx hby hml hZ hown hnm hret hlk X0 e0 eh
  refine own_via (F' := T0.setTop (mkF m 0 #[.val (.int kk)] [])) (fun t k => castTop (own_ef2 m kk) k) ?_
  refine own_via (F' := T0.setTop (mkF m 1 #[.val (.int kk)] [(.int kk)])) (fun t k => XS.iloadN X0.here hx rfl (hb hby d1_0) rfl k) ?_
  by_cases q1 : kk = (0 : Int32)
  · refine own_via (F' := T0.setTop (mkF m 4 #[.val (.int kk)] [])) (fun t k => XS.ifNo X0.here hx rfl (hb hby d1_1) rfl (XT.i0_ne_f q1) k) ?_
    obtain ⟨T2, X2, e2, s2⟩ := getS X0 hx hZ (host := "") hown (hw _ (List.mem_of_getElem? (i := 5) rfl)) Via.refl e0 S0 (g := (mkF m 4 #[.val (.int kk)] [])) rfl (hb hby d1_4)
    refine own_via (F' := T2.setTop (mkF m 7 #[.val (.int kk)] [(.ref a0)])) s2 ?_
    exact own_retA X2 hx hret rfl rfl hlk (hb hby d1_7) ⟨by rw [← hr]; simp [q1], e2, rfl⟩ (Nat.le_refl _) (Nat.le_refl _)
  · refine own_via (F' := T0.setTop (mkF m 8 #[.val (.int kk)] [])) (fun t k => XS.ifYes X0.here hx rfl (pc0 := 1) (pc' := 8) rfl (hb hby d1_1) rfl (XT.i0_ne_t q1) (by decide) (by decide) k) ?_
    refine own_via (F' := T0.setTop (mkF m 9 #[.val (.int kk)] [(.int kk)])) (fun t k => XS.iloadN X0.here hx rfl (hb hby d1_8) rfl k) ?_
    refine own_via (F' := T0.setTop (mkF m 10 #[.val (.int kk)] [(.int (1 : Int32)), (.int kk)])) (fun t k => XT.iconstV X0.here hx rfl (1 : Int32) (hb hby d1_9) (by decide) k) ?_
    by_cases q3 : kk = (1 : Int32)
    · refine own_via (F' := T0.setTop (mkF m 13 #[.val (.int kk)] [])) (fun t k => XS.icmpNo X0.here hx rfl (hb hby d1_10) rfl (XT.ii_ne_f q3) k) ?_
      obtain ⟨T4, X4, e4, s4⟩ := getS X0 hx hZ (host := "") hown (hw _ (List.mem_of_getElem? (i := 30) rfl)) Via.refl e0 S1 (g := (mkF m 13 #[.val (.int kk)] [])) rfl (hb hby d1_13)
      refine own_via (F' := T4.setTop (mkF m 16 #[.val (.int kk)] [(.ref a1)])) s4 ?_
      exact own_retA X4 hx hret rfl rfl hlk (hb hby d1_16) ⟨by rw [← hr]; simp [q1, q3], e4, rfl⟩ (Nat.le_refl _) (Nat.le_refl _)
    · refine own_via (F' := T0.setTop (mkF m 17 #[.val (.int kk)] [])) (fun t k => XS.icmpYes X0.here hx rfl (pc0 := 10) (pc' := 17) rfl (hb hby d1_10) rfl (XT.ii_ne_t q3) (by decide) (by decide) k) ?_
      refine own_via (F' := T0.setTop (mkF m 18 #[.val (.int kk)] [(.int kk)])) (fun t k => XS.iloadN X0.here hx rfl (hb hby d1_17) rfl k) ?_
      refine own_via (F' := T0.setTop (mkF m 19 #[.val (.int kk)] [(.int (2 : Int32)), (.int kk)])) (fun t k => XT.iconstV X0.here hx rfl (2 : Int32) (hb hby d1_18) (by decide) k) ?_
      by_cases q5 : kk = (2 : Int32)
      · refine own_via (F' := T0.setTop (mkF m 22 #[.val (.int kk)] [])) (fun t k => XS.icmpNo X0.here hx rfl (hb hby d1_19) rfl (XT.ii_ne_f q5) k) ?_
        obtain ⟨T6, X6, e6, s6⟩ := getS X0 hx hZ (host := "") hown (hw _ (List.mem_of_getElem? (i := 29) rfl)) Via.refl e0 S2 (g := (mkF m 22 #[.val (.int kk)] [])) rfl (hb hby d1_22)
        refine own_via (F' := T6.setTop (mkF m 25 #[.val (.int kk)] [(.ref a2)])) s6 ?_
        exact own_retA X6 hx hret rfl rfl hlk (hb hby d1_25) ⟨by rw [← hr]; simp [q1, q3, q5], e6, rfl⟩ (Nat.le_refl _) (Nat.le_refl _)
      · refine own_via (F' := T0.setTop (mkF m 26 #[.val (.int kk)] [])) (fun t k => XS.icmpYes X0.here hx rfl (pc0 := 19) (pc' := 26) rfl (hb hby d1_19) rfl (XT.ii_ne_t q5) (by decide) (by decide) k) ?_
        refine own_via (F' := T0.setTop (mkF m 27 #[.val (.int kk)] [(.int kk)])) (fun t k => XS.iloadN X0.here hx rfl (hb hby d1_26) rfl k) ?_
        refine own_via (F' := T0.setTop (mkF m 28 #[.val (.int kk)] [(.int (3 : Int32)), (.int kk)])) (fun t k => XT.iconstV X0.here hx rfl (3 : Int32) (hb hby d1_27) (by decide) k) ?_
        by_cases q7 : kk = (3 : Int32)
        · refine own_via (F' := T0.setTop (mkF m 31 #[.val (.int kk)] [])) (fun t k => XS.icmpNo X0.here hx rfl (hb hby d1_28) rfl (XT.ii_ne_f q7) k) ?_
          obtain ⟨T8, X8, e8, s8⟩ := getS X0 hx hZ (host := "") hown (hw _ (List.mem_of_getElem? (i := 23) rfl)) Via.refl e0 S3 (g := (mkF m 31 #[.val (.int kk)] [])) rfl (hb hby d1_31)
          refine own_via (F' := T8.setTop (mkF m 34 #[.val (.int kk)] [(.ref a3)])) s8 ?_
          exact own_retA X8 hx hret rfl rfl hlk (hb hby d1_34) ⟨by rw [← hr]; simp [q1, q3, q5, q7], e8, rfl⟩ (Nat.le_refl _) (Nat.le_refl _)
        · refine own_via (F' := T0.setTop (mkF m 35 #[.val (.int kk)] [])) (fun t k => XS.icmpYes X0.here hx rfl (pc0 := 28) (pc' := 35) rfl (hb hby d1_28) rfl (XT.ii_ne_t q7) (by decide) (by decide) k) ?_
          refine own_via (F' := T0.setTop (mkF m 36 #[.val (.int kk)] [(.int kk)])) (fun t k => XS.iloadN X0.here hx rfl (hb hby d1_35) rfl k) ?_
          refine own_via (F' := T0.setTop (mkF m 37 #[.val (.int kk)] [(.int (4 : Int32)), (.int kk)])) (fun t k => XT.iconstV X0.here hx rfl (4 : Int32) (hb hby d1_36) (by decide) k) ?_
          by_cases q9 : kk = (4 : Int32)
          · refine own_via (F' := T0.setTop (mkF m 40 #[.val (.int kk)] [])) (fun t k => XS.icmpNo X0.here hx rfl (hb hby d1_37) rfl (XT.ii_ne_f q9) k) ?_
            obtain ⟨T10, X10, e10, s10⟩ := getS X0 hx hZ (host := "") hown (hw _ (List.mem_of_getElem? (i := 32) rfl)) Via.refl e0 S4 (g := (mkF m 40 #[.val (.int kk)] [])) rfl (hb hby d1_40)
            refine own_via (F' := T10.setTop (mkF m 43 #[.val (.int kk)] [(.ref a4)])) s10 ?_
            exact own_retA X10 hx hret rfl rfl hlk (hb hby d1_43) ⟨by rw [← hr]; simp [q1, q3, q5, q7, q9], e10, rfl⟩ (Nat.le_refl _) (Nat.le_refl _)
          · refine own_via (F' := T0.setTop (mkF m 44 #[.val (.int kk)] [])) (fun t k => XS.icmpYes X0.here hx rfl (pc0 := 37) (pc' := 44) rfl (hb hby d1_37) rfl (XT.ii_ne_t q9) (by decide) (by decide) k) ?_
            obtain ⟨T11, X11, e11, s11⟩ := getS X0 hx hZ (host := "") hown (hw _ (List.mem_of_getElem? (i := 31) rfl)) Via.refl e0 S5 (g := (mkF m 44 #[.val (.int kk)] [])) rfl (hb hby d1_44)
            refine own_via (F' := T11.setTop (mkF m 47 #[.val (.int kk)] [(.ref a5)])) s11 ?_
            exact own_retA X11 hx hret rfl rfl hlk (hb hby d1_47) ⟨by rw [← hr]; simp [q1, q3, q5, q7, q9], e11, rfl⟩ (Nat.le_refl _) (Nat.le_refl _)
theorem own_big (x : Int32) (h0 : ¬ (x &&& (2147483647 : Int32)) % (6 : Int32) = (0 : Int32)) (h1 : ¬ (x &&& (2147483647 : Int32)) % (6 : Int32) = (1 : Int32)) (h2 : ¬ (x &&& (2147483647 : Int32)) % (6 : Int32) = (2 : Int32)) (h3 : ¬ (x &&& (2147483647 : Int32)) % (6 : Int32) = (3 : Int32)) (h4 : ¬ (x &&& (2147483647 : Int32)) % (6 : Int32) = (4 : Int32)) : (2 : Int32) < (x &&& (2147483647 : Int32)) % (6 : Int32) := by
  have a1 := c_mask x 2147483647 31 (by decide) (by decide)
  have a2 := c_irem (x &&& (2147483647 : Int32)) 6 6 (by decide)
  simp only [Int32.lt_iff_toInt_lt, ← Int32.toInt_inj, Int32.reduceToInt] at *
  have a3 := a2.1 (by omega)
  omega
set_option maxRecDepth 65536 in
set_option maxHeartbeats 40000000 in
theorem own_law (l : Launch) (Z : State) (az : Array Value) (hw : ∀ d ∈ tables_1, d.before az Z = true) (p0 : Int32) (a0 a1 a2 a3 a4 a5 : Addr) (h0 : Heap) (n0 : Nat) (S0 : Sta Z h0 "com/example/orderloom/orderloom/lifecycle/FalloutCaseState" "OPEN" "Lcom/example/orderloom/orderloom/lifecycle/FalloutCaseState;" (.ref a0)) (S1 : Sta Z h0 "com/example/orderloom/orderloom/lifecycle/FalloutCaseState" "TRIAGING" "Lcom/example/orderloom/orderloom/lifecycle/FalloutCaseState;" (.ref a1)) (S2 : Sta Z h0 "com/example/orderloom/orderloom/lifecycle/FalloutCaseState" "WAITING_CUSTOMER" "Lcom/example/orderloom/orderloom/lifecycle/FalloutCaseState;" (.ref a2)) (S3 : Sta Z h0 "com/example/orderloom/orderloom/lifecycle/FalloutCaseState" "REPAIR_IN_PROGRESS" "Lcom/example/orderloom/orderloom/lifecycle/FalloutCaseState;" (.ref a3)) (S4 : Sta Z h0 "com/example/orderloom/orderloom/lifecycle/FalloutCaseState" "RESOLVED" "Lcom/example/orderloom/orderloom/lifecycle/FalloutCaseState;" (.ref a4)) (S5 : Sta Z h0 "com/example/orderloom/orderloom/lifecycle/FalloutCaseState" "CLOSED" "Lcom/example/orderloom/orderloom/lifecycle/FalloutCaseState;" (.ref a5)) (E0 : Exa Z h0 a0 "com/example/orderloom/orderloom/lifecycle/FalloutCaseState") (E1 : Exa Z h0 a1 "com/example/orderloom/orderloom/lifecycle/FalloutCaseState") (E2 : Exa Z h0 a2 "com/example/orderloom/orderloom/lifecycle/FalloutCaseState") (E3 : Exa Z h0 a3 "com/example/orderloom/orderloom/lifecycle/FalloutCaseState") (E4 : Exa Z h0 a4 "com/example/orderloom/orderloom/lifecycle/FalloutCaseState") (E5 : Exa Z h0 a5 "com/example/orderloom/orderloom/lifecycle/FalloutCaseState") (n0_1 : a0 ≠ a1) (n0_2 : a0 ≠ a2) (n0_3 : a0 ≠ a3) (n0_4 : a0 ≠ a4) (n0_5 : a0 ≠ a5) (n1_0 : a1 ≠ a0) (n1_2 : a1 ≠ a2) (n1_3 : a1 ≠ a3) (n1_4 : a1 ≠ a4) (n1_5 : a1 ≠ a5) (n2_0 : a2 ≠ a0) (n2_1 : a2 ≠ a1) (n2_3 : a2 ≠ a3) (n2_4 : a2 ≠ a4) (n2_5 : a2 ≠ a5) (n3_0 : a3 ≠ a0) (n3_1 : a3 ≠ a1) (n3_2 : a3 ≠ a2) (n3_4 : a3 ≠ a4) (n3_5 : a3 ≠ a5) (n4_0 : a4 ≠ a0) (n4_1 : a4 ≠ a1) (n4_2 : a4 ≠ a2) (n4_3 : a4 ≠ a3) (n4_5 : a4 ≠ a5) (n5_0 : a5 ≠ a0) (n5_1 : a5 ≠ a1) (n5_2 : a5 ≠ a2) (n5_3 : a5 ≠ a3) (n5_4 : a5 ≠ a4) :
    own_Con l Z x code maxLocals ret room_1 #[(.int p0)] h0 (fun v h L => v = some (.int 1) ∧ Fr n0 L) := by
  refine own_con own_pnL ?_
  intro p e s m below meth c T0 hx hby hml hZ hown hnm hret hlk X0 e0 eh
  have hown : s.vm.findClass "com/example/orderloom/orderloom/lifecycle/FalloutCaseStateAwaitsRepairPinLaw" = some m.cls := hown
  refine own_via (F' := T0.setTop (mkF m 0 #[.val (.int p0), .unset, .unset, .unset, .unset] [])) (fun t k => castTop (own_ef0 m p0) k) ?_
  refine own_via (F' := T0.setTop (mkF m 1 #[.val (.int p0), .unset, .unset, .unset, .unset] [(.int p0)])) (fun t k => XS.iloadN X0.here hx rfl (hb hby at_0) rfl k) ?_
  refine own_via (F' := T0.setTop (mkF m 3 #[.val (.int p0), .unset, .unset, .unset, .unset] [(.int (2147483647 : Int32)), (.int p0)])) (fun t k => Jvm.Stand.ldcI X0 hx hown (mvT hZ (hw _ (List.mem_of_getElem? (i := 0) rfl))) rfl (hb hby at_1) k) ?_
  refine own_via (F' := T0.setTop (mkF m 4 #[.val (.int p0), .unset, .unset, .unset, .unset] [(.int (p0 &&& (2147483647 : Int32)))])) (fun t k => XS.iand X0.here hx rfl (hb hby at_3) rfl k) ?_
  refine own_via (F' := T0.setTop (mkF m 6 #[.val (.int p0), .unset, .unset, .unset, .unset] [(.int (6 : Int32)), (.int (p0 &&& (2147483647 : Int32)))])) (fun t k => XT.bipushV X0.here hx rfl (6 : Int32) (hb hby at_4) (by decide) k) ?_
  refine own_via (F' := T0.setTop (mkF m 7 #[.val (.int p0), .unset, .unset, .unset, .unset] [(.int ((p0 &&& (2147483647 : Int32)) % (6 : Int32)))])) (fun t k => iremM X0 hx rfl (hb hby at_6) rfl (by decide) k) ?_
  refine own_via (F' := T0.setTop (mkF m 8 #[.val (.int p0), .val (.int ((p0 &&& (2147483647 : Int32)) % (6 : Int32))), .unset, .unset, .unset] [])) (fun t k => XS.istoreN X0.here hx rfl (hb hby at_7) rfl (l' := #[.val (.int p0), .val (.int ((p0 &&& (2147483647 : Int32)) % (6 : Int32))), .unset, .unset, .unset]) rfl k) ?_
  refine own_via (F' := T0.setTop (mkF m 9 #[.val (.int p0), .val (.int ((p0 &&& (2147483647 : Int32)) % (6 : Int32))), .unset, .unset, .unset] [(.int ((p0 &&& (2147483647 : Int32)) % (6 : Int32)))])) (fun t k => XS.iloadN X0.here hx rfl (hb hby at_8) rfl k) ?_
  by_cases q2 : ((p0 &&& (2147483647 : Int32)) % (6 : Int32)) = (0 : Int32)
  · refine own_callS X0 hx hZ (own_k1 l Z az hw ((p0 &&& (2147483647 : Int32)) % (6 : Int32)) a0 a1 a2 a3 a4 a5 h0 S0 S1 S2 S3 S4 S5 a0 (by simp [q2])) hown (hw _ (List.mem_of_getElem? (i := 1) rfl)) (hw _ (List.mem_of_getElem? (i := 2) rfl)) (hw _ (List.mem_of_getElem? (i := 3) rfl)) (hw _ (List.mem_of_getElem? (i := 4) rfl)) (by decide) e0 (g := (mkF m 9 #[.val (.int p0), .val (.int ((p0 &&& (2147483647 : Int32)) % (6 : Int32))), .unset, .unset, .unset] [(.int ((p0 &&& (2147483647 : Int32)) % (6 : Int32)))])) rfl (by rw [hml]; rfl) (argsL := [(.int ((p0 &&& (2147483647 : Int32)) % (6 : Int32)))]) (rest := []) rfl (lenOf own_pd0 rfl) rfl 0 (by show 2 * 0 + _ ≤ _; exact Nat.le_of_eq rfl) (hb hby at_9) (by decide) (by decide) (by decide) (by decide) ?_
    intro v3 T3 L3 hQ3 X3
    obtain ⟨rfl, e3, rfl⟩ := hQ3
    refine own_via (F' := T3.setTop (mkF m 12 #[.val (.int p0), .val (.int ((p0 &&& (2147483647 : Int32)) % (6 : Int32))), .unset, .unset, .unset] [(.ref a0)])) (fun t k => k) ?_
    refine own_via (F' := T3.setTop (mkF m 13 #[.val (.int p0), .val (.int ((p0 &&& (2147483647 : Int32)) % (6 : Int32))), .val (.ref a0), .unset, .unset] [])) (fun t k => XS.astoreN X3.here hx rfl (hb hby at_12) rfl rfl (l' := #[.val (.int p0), .val (.int ((p0 &&& (2147483647 : Int32)) % (6 : Int32))), .val (.ref a0), .unset, .unset]) rfl k) ?_
    refine own_via (F' := T3.setTop (mkF m 14 #[.val (.int p0), .val (.int ((p0 &&& (2147483647 : Int32)) % (6 : Int32))), .val (.ref a0), .unset, .unset] [(.int ((p0 &&& (2147483647 : Int32)) % (6 : Int32)))])) (fun t k => XS.iloadN X3.here hx rfl (hb hby at_13) rfl k) ?_
    refine own_via (F' := T3.setTop (mkF m 15 #[.val (.int p0), .val (.int ((p0 &&& (2147483647 : Int32)) % (6 : Int32))), .val (.ref a0), .unset, .unset] [(.int (2 : Int32)), (.int ((p0 &&& (2147483647 : Int32)) % (6 : Int32)))])) (fun t k => XT.iconstV X3.here hx rfl (2 : Int32) (hb hby at_14) (by decide) k) ?_
    refine own_via (F' := T3.setTop (mkF m 18 #[.val (.int p0), .val (.int ((p0 &&& (2147483647 : Int32)) % (6 : Int32))), .val (.ref a0), .unset, .unset] [])) (fun t k => XS.icmpNo X3.here hx rfl (hb hby at_15) rfl (XT.ii_gt_f (by rw [q2]; decide)) k) ?_
    refine own_via (F' := T3.setTop (mkF m 19 #[.val (.int p0), .val (.int ((p0 &&& (2147483647 : Int32)) % (6 : Int32))), .val (.ref a0), .unset, .unset] [(.int (1 : Int32))])) (fun t k => XT.iconstV X3.here hx rfl (1 : Int32) (hb hby at_18) (by decide) k) ?_
    refine own_via (F' := T3.setTop (mkF m 23 #[.val (.int p0), .val (.int ((p0 &&& (2147483647 : Int32)) % (6 : Int32))), .val (.ref a0), .unset, .unset] [(.int (1 : Int32))])) (fun t k => XS.goto X3.here hx rfl (pc0 := 19) (pc' := 23) rfl (hb hby at_19) (by decide) (by decide) k) ?_
    refine own_via (F' := T3.setTop (mkF m 24 #[.val (.int p0), .val (.int ((p0 &&& (2147483647 : Int32)) % (6 : Int32))), .val (.ref a0), .val (.int (1 : Int32)), .unset] [])) (fun t k => XS.istoreN X3.here hx rfl (hb hby at_23) rfl (l' := #[.val (.int p0), .val (.int ((p0 &&& (2147483647 : Int32)) % (6 : Int32))), .val (.ref a0), .val (.int (1 : Int32)), .unset]) rfl k) ?_
    refine own_via (F' := T3.setTop (mkF m 25 #[.val (.int p0), .val (.int ((p0 &&& (2147483647 : Int32)) % (6 : Int32))), .val (.ref a0), .val (.int (1 : Int32)), .unset] [(.ref a0)])) (fun t k => XS.aloadN X3.here hx rfl (hb hby at_24) rfl rfl k) ?_
    refine own_callV X3 hx hZ (own_k2 l Z az hw a0 a0 a1 a2 h0 S0 S1 S2 (1 : Int32) (by first | (simp [n0_1, n0_2, n0_3, n0_4, n0_5]; done) | rfl)) hown E0 (hw _ (List.mem_of_getElem? (i := 8) rfl)) (hw _ (List.mem_of_getElem? (i := 9) rfl)) (hw _ (List.mem_of_getElem? (i := 11) rfl)) (hw _ (List.mem_of_getElem? (i := 10) rfl)) (hw _ (List.mem_of_getElem? (i := 6) rfl)) (hw _ (List.mem_of_getElem? (i := 12) rfl)) (notFace_of_selects (args := #[]) (mvT hZ (hw _ (List.mem_of_getElem? (i := 11) rfl)))) (by decide) e3 (g := (mkF m 25 #[.val (.int p0), .val (.int ((p0 &&& (2147483647 : Int32)) % (6 : Int32))), .val (.ref a0), .val (.int (1 : Int32)), .unset] [(.ref a0)])) rfl (by rw [hml]; rfl) (argsL := []) (rest := []) rfl (lenOf own_pd1 rfl) rfl 0 (by show 2 * 0 + _ ≤ _; exact Nat.le_of_eq rfl) (hb hby at_25) (by decide) (by decide) (by decide) (by decide) ?_
    intro v4 T4 L4 hQ4 X4
    obtain ⟨rfl, e4, rfl⟩ := hQ4
    refine own_via (F' := T4.setTop (mkF m 28 #[.val (.int p0), .val (.int ((p0 &&& (2147483647 : Int32)) % (6 : Int32))), .val (.ref a0), .val (.int (1 : Int32)), .unset] [(.int (1 : Int32))])) (fun t k => k) ?_
    refine own_via (F' := T4.setTop (mkF m 30 #[.val (.int p0), .val (.int ((p0 &&& (2147483647 : Int32)) % (6 : Int32))), .val (.ref a0), .val (.int (1 : Int32)), .val (.int (1 : Int32))] [])) (fun t k => XS.istore X4.here hx rfl (hb hby at_28) rfl (l' := #[.val (.int p0), .val (.int ((p0 &&& (2147483647 : Int32)) % (6 : Int32))), .val (.ref a0), .val (.int (1 : Int32)), .val (.int (1 : Int32))]) rfl k) ?_
    refine own_via (F' := T4.setTop (mkF m 32 #[.val (.int p0), .val (.int ((p0 &&& (2147483647 : Int32)) % (6 : Int32))), .val (.ref a0), .val (.int (1 : Int32)), .val (.int (1 : Int32))] [(.int (1 : Int32))])) (fun t k => XS.iload X4.here hx rfl (hb hby at_30) rfl k) ?_
    refine own_via (F' := T4.setTop (mkF m 33 #[.val (.int p0), .val (.int ((p0 &&& (2147483647 : Int32)) % (6 : Int32))), .val (.ref a0), .val (.int (1 : Int32)), .val (.int (1 : Int32))] [(.int (1 : Int32)), (.int (1 : Int32))])) (fun t k => XS.iloadN X4.here hx rfl (hb hby at_32) rfl k) ?_
    refine own_via (F' := T4.setTop (mkF m 38 #[.val (.int p0), .val (.int ((p0 &&& (2147483647 : Int32)) % (6 : Int32))), .val (.ref a0), .val (.int (1 : Int32)), .val (.int (1 : Int32))] [])) (fun t k => XS.icmpYes X4.here hx rfl (pc0 := 33) (pc' := 38) rfl (hb hby at_33) rfl (XT.ii_eq_t (by decide)) (by decide) (by decide) k) ?_
    refine own_via (F' := T4.setTop (mkF m 40 #[.val (.int p0), .val (.int ((p0 &&& (2147483647 : Int32)) % (6 : Int32))), .val (.ref a0), .val (.int (1 : Int32)), .val (.int (1 : Int32))] [(.int (1 : Int32))])) (fun t k => XS.iload X4.here hx rfl (hb hby at_38) rfl k) ?_
    refine own_via (F' := T4.setTop (mkF m 43 #[.val (.int p0), .val (.int ((p0 &&& (2147483647 : Int32)) % (6 : Int32))), .val (.ref a0), .val (.int (1 : Int32)), .val (.int (1 : Int32))] [])) (fun t k => XS.ifNo X4.here hx rfl (hb hby at_40) rfl (XT.i0_eq_f (by decide)) k) ?_
    refine own_via (F' := T4.setTop (mkF m 44 #[.val (.int p0), .val (.int ((p0 &&& (2147483647 : Int32)) % (6 : Int32))), .val (.ref a0), .val (.int (1 : Int32)), .val (.int (1 : Int32))] [(.ref a0)])) (fun t k => XS.aloadN X4.here hx rfl (hb hby at_43) rfl rfl k) ?_
    refine own_callV X4 hx hZ (own_k3 l Z az hw a0 a4 a5 h0 S4 S5 (1 : Int32) (by first | (simp [n0_1, n0_2, n0_3, n0_4, n0_5]; done) | rfl)) hown E0 (hw _ (List.mem_of_getElem? (i := 14) rfl)) (hw _ (List.mem_of_getElem? (i := 15) rfl)) (hw _ (List.mem_of_getElem? (i := 17) rfl)) (hw _ (List.mem_of_getElem? (i := 16) rfl)) (hw _ (List.mem_of_getElem? (i := 6) rfl)) (hw _ (List.mem_of_getElem? (i := 18) rfl)) (notFace_of_selects (args := #[]) (mvT hZ (hw _ (List.mem_of_getElem? (i := 17) rfl)))) (by decide) e4 (g := (mkF m 44 #[.val (.int p0), .val (.int ((p0 &&& (2147483647 : Int32)) % (6 : Int32))), .val (.ref a0), .val (.int (1 : Int32)), .val (.int (1 : Int32))] [(.ref a0)])) rfl (by rw [hml]; rfl) (argsL := []) (rest := []) rfl (lenOf own_pd1 rfl) rfl 0 (by show 2 * 0 + _ ≤ _; exact Nat.le_of_eq rfl) (hb hby at_44) (by decide) (by decide) (by decide) (by decide) ?_
    intro v5 T5 L5 hQ5 X5
    obtain ⟨rfl, e5, rfl⟩ := hQ5
    refine own_via (F' := T5.setTop (mkF m 47 #[.val (.int p0), .val (.int ((p0 &&& (2147483647 : Int32)) % (6 : Int32))), .val (.ref a0), .val (.int (1 : Int32)), .val (.int (1 : Int32))] [(.int (1 : Int32))])) (fun t k => k) ?_
    refine own_via (F' := T5.setTop (mkF m 52 #[.val (.int p0), .val (.int ((p0 &&& (2147483647 : Int32)) % (6 : Int32))), .val (.ref a0), .val (.int (1 : Int32)), .val (.int (1 : Int32))] [])) (fun t k => XS.ifYes X5.here hx rfl (pc0 := 47) (pc' := 52) rfl (hb hby at_47) rfl (XT.i0_ne_t (by decide)) (by decide) (by decide) k) ?_
    refine own_via (F' := T5.setTop (mkF m 53 #[.val (.int p0), .val (.int ((p0 &&& (2147483647 : Int32)) % (6 : Int32))), .val (.ref a0), .val (.int (1 : Int32)), .val (.int (1 : Int32))] [(.int (1 : Int32))])) (fun t k => XT.iconstV X5.here hx rfl (1 : Int32) (hb hby at_52) (by decide) k) ?_
    exact own_retZ X5 hx hret hlk (hb hby at_53) ⟨rfl, Fr.nil _⟩ (by decide) (by decide)
  · by_cases q6 : ((p0 &&& (2147483647 : Int32)) % (6 : Int32)) = (1 : Int32)
    · refine own_callS X0 hx hZ (own_k1 l Z az hw ((p0 &&& (2147483647 : Int32)) % (6 : Int32)) a0 a1 a2 a3 a4 a5 h0 S0 S1 S2 S3 S4 S5 a1 (by simp [q2, q6])) hown (hw _ (List.mem_of_getElem? (i := 1) rfl)) (hw _ (List.mem_of_getElem? (i := 2) rfl)) (hw _ (List.mem_of_getElem? (i := 3) rfl)) (hw _ (List.mem_of_getElem? (i := 4) rfl)) (by decide) e0 (g := (mkF m 9 #[.val (.int p0), .val (.int ((p0 &&& (2147483647 : Int32)) % (6 : Int32))), .unset, .unset, .unset] [(.int ((p0 &&& (2147483647 : Int32)) % (6 : Int32)))])) rfl (by rw [hml]; rfl) (argsL := [(.int ((p0 &&& (2147483647 : Int32)) % (6 : Int32)))]) (rest := []) rfl (lenOf own_pd0 rfl) rfl 0 (by show 2 * 0 + _ ≤ _; exact Nat.le_of_eq rfl) (hb hby at_9) (by decide) (by decide) (by decide) (by decide) ?_
      intro v7 T7 L7 hQ7 X7
      obtain ⟨rfl, e7, rfl⟩ := hQ7
      refine own_via (F' := T7.setTop (mkF m 12 #[.val (.int p0), .val (.int ((p0 &&& (2147483647 : Int32)) % (6 : Int32))), .unset, .unset, .unset] [(.ref a1)])) (fun t k => k) ?_
      refine own_via (F' := T7.setTop (mkF m 13 #[.val (.int p0), .val (.int ((p0 &&& (2147483647 : Int32)) % (6 : Int32))), .val (.ref a1), .unset, .unset] [])) (fun t k => XS.astoreN X7.here hx rfl (hb hby at_12) rfl rfl (l' := #[.val (.int p0), .val (.int ((p0 &&& (2147483647 : Int32)) % (6 : Int32))), .val (.ref a1), .unset, .unset]) rfl k) ?_
      refine own_via (F' := T7.setTop (mkF m 14 #[.val (.int p0), .val (.int ((p0 &&& (2147483647 : Int32)) % (6 : Int32))), .val (.ref a1), .unset, .unset] [(.int ((p0 &&& (2147483647 : Int32)) % (6 : Int32)))])) (fun t k => XS.iloadN X7.here hx rfl (hb hby at_13) rfl k) ?_
      refine own_via (F' := T7.setTop (mkF m 15 #[.val (.int p0), .val (.int ((p0 &&& (2147483647 : Int32)) % (6 : Int32))), .val (.ref a1), .unset, .unset] [(.int (2 : Int32)), (.int ((p0 &&& (2147483647 : Int32)) % (6 : Int32)))])) (fun t k => XT.iconstV X7.here hx rfl (2 : Int32) (hb hby at_14) (by decide) k) ?_
      refine own_via (F' := T7.setTop (mkF m 18 #[.val (.int p0), .val (.int ((p0 &&& (2147483647 : Int32)) % (6 : Int32))), .val (.ref a1), .unset, .unset] [])) (fun t k => XS.icmpNo X7.here hx rfl (hb hby at_15) rfl (XT.ii_gt_f (by rw [q6]; decide)) k) ?_
      refine own_via (F' := T7.setTop (mkF m 19 #[.val (.int p0), .val (.int ((p0 &&& (2147483647 : Int32)) % (6 : Int32))), .val (.ref a1), .unset, .unset] [(.int (1 : Int32))])) (fun t k => XT.iconstV X7.here hx rfl (1 : Int32) (hb hby at_18) (by decide) k) ?_
      refine own_via (F' := T7.setTop (mkF m 23 #[.val (.int p0), .val (.int ((p0 &&& (2147483647 : Int32)) % (6 : Int32))), .val (.ref a1), .unset, .unset] [(.int (1 : Int32))])) (fun t k => XS.goto X7.here hx rfl (pc0 := 19) (pc' := 23) rfl (hb hby at_19) (by decide) (by decide) k) ?_
      refine own_via (F' := T7.setTop (mkF m 24 #[.val (.int p0), .val (.int ((p0 &&& (2147483647 : Int32)) % (6 : Int32))), .val (.ref a1), .val (.int (1 : Int32)), .unset] [])) (fun t k => XS.istoreN X7.here hx rfl (hb hby at_23) rfl (l' := #[.val (.int p0), .val (.int ((p0 &&& (2147483647 : Int32)) % (6 : Int32))), .val (.ref a1), .val (.int (1 : Int32)), .unset]) rfl k) ?_
      refine own_via (F' := T7.setTop (mkF m 25 #[.val (.int p0), .val (.int ((p0 &&& (2147483647 : Int32)) % (6 : Int32))), .val (.ref a1), .val (.int (1 : Int32)), .unset] [(.ref a1)])) (fun t k => XS.aloadN X7.here hx rfl (hb hby at_24) rfl rfl k) ?_
      refine own_callV X7 hx hZ (own_k2 l Z az hw a1 a0 a1 a2 h0 S0 S1 S2 (1 : Int32) (by first | (simp [n1_0, n1_2, n1_3, n1_4, n1_5]; done) | rfl)) hown E1 (hw _ (List.mem_of_getElem? (i := 8) rfl)) (hw _ (List.mem_of_getElem? (i := 9) rfl)) (hw _ (List.mem_of_getElem? (i := 11) rfl)) (hw _ (List.mem_of_getElem? (i := 10) rfl)) (hw _ (List.mem_of_getElem? (i := 6) rfl)) (hw _ (List.mem_of_getElem? (i := 12) rfl)) (notFace_of_selects (args := #[]) (mvT hZ (hw _ (List.mem_of_getElem? (i := 11) rfl)))) (by decide) e7 (g := (mkF m 25 #[.val (.int p0), .val (.int ((p0 &&& (2147483647 : Int32)) % (6 : Int32))), .val (.ref a1), .val (.int (1 : Int32)), .unset] [(.ref a1)])) rfl (by rw [hml]; rfl) (argsL := []) (rest := []) rfl (lenOf own_pd1 rfl) rfl 0 (by show 2 * 0 + _ ≤ _; exact Nat.le_of_eq rfl) (hb hby at_25) (by decide) (by decide) (by decide) (by decide) ?_
      intro v8 T8 L8 hQ8 X8
      obtain ⟨rfl, e8, rfl⟩ := hQ8
      refine own_via (F' := T8.setTop (mkF m 28 #[.val (.int p0), .val (.int ((p0 &&& (2147483647 : Int32)) % (6 : Int32))), .val (.ref a1), .val (.int (1 : Int32)), .unset] [(.int (1 : Int32))])) (fun t k => k) ?_
      refine own_via (F' := T8.setTop (mkF m 30 #[.val (.int p0), .val (.int ((p0 &&& (2147483647 : Int32)) % (6 : Int32))), .val (.ref a1), .val (.int (1 : Int32)), .val (.int (1 : Int32))] [])) (fun t k => XS.istore X8.here hx rfl (hb hby at_28) rfl (l' := #[.val (.int p0), .val (.int ((p0 &&& (2147483647 : Int32)) % (6 : Int32))), .val (.ref a1), .val (.int (1 : Int32)), .val (.int (1 : Int32))]) rfl k) ?_
      refine own_via (F' := T8.setTop (mkF m 32 #[.val (.int p0), .val (.int ((p0 &&& (2147483647 : Int32)) % (6 : Int32))), .val (.ref a1), .val (.int (1 : Int32)), .val (.int (1 : Int32))] [(.int (1 : Int32))])) (fun t k => XS.iload X8.here hx rfl (hb hby at_30) rfl k) ?_
      refine own_via (F' := T8.setTop (mkF m 33 #[.val (.int p0), .val (.int ((p0 &&& (2147483647 : Int32)) % (6 : Int32))), .val (.ref a1), .val (.int (1 : Int32)), .val (.int (1 : Int32))] [(.int (1 : Int32)), (.int (1 : Int32))])) (fun t k => XS.iloadN X8.here hx rfl (hb hby at_32) rfl k) ?_
      refine own_via (F' := T8.setTop (mkF m 38 #[.val (.int p0), .val (.int ((p0 &&& (2147483647 : Int32)) % (6 : Int32))), .val (.ref a1), .val (.int (1 : Int32)), .val (.int (1 : Int32))] [])) (fun t k => XS.icmpYes X8.here hx rfl (pc0 := 33) (pc' := 38) rfl (hb hby at_33) rfl (XT.ii_eq_t (by decide)) (by decide) (by decide) k) ?_
      refine own_via (F' := T8.setTop (mkF m 40 #[.val (.int p0), .val (.int ((p0 &&& (2147483647 : Int32)) % (6 : Int32))), .val (.ref a1), .val (.int (1 : Int32)), .val (.int (1 : Int32))] [(.int (1 : Int32))])) (fun t k => XS.iload X8.here hx rfl (hb hby at_38) rfl k) ?_
      refine own_via (F' := T8.setTop (mkF m 43 #[.val (.int p0), .val (.int ((p0 &&& (2147483647 : Int32)) % (6 : Int32))), .val (.ref a1), .val (.int (1 : Int32)), .val (.int (1 : Int32))] [])) (fun t k => XS.ifNo X8.here hx rfl (hb hby at_40) rfl (XT.i0_eq_f (by decide)) k) ?_
      refine own_via (F' := T8.setTop (mkF m 44 #[.val (.int p0), .val (.int ((p0 &&& (2147483647 : Int32)) % (6 : Int32))), .val (.ref a1), .val (.int (1 : Int32)), .val (.int (1 : Int32))] [(.ref a1)])) (fun t k => XS.aloadN X8.here hx rfl (hb hby at_43) rfl rfl k) ?_
      refine own_callV X8 hx hZ (own_k3 l Z az hw a1 a4 a5 h0 S4 S5 (1 : Int32) (by first | (simp [n1_0, n1_2, n1_3, n1_4, n1_5]; done) | rfl)) hown E1 (hw _ (List.mem_of_getElem? (i := 14) rfl)) (hw _ (List.mem_of_getElem? (i := 15) rfl)) (hw _ (List.mem_of_getElem? (i := 17) rfl)) (hw _ (List.mem_of_getElem? (i := 16) rfl)) (hw _ (List.mem_of_getElem? (i := 6) rfl)) (hw _ (List.mem_of_getElem? (i := 18) rfl)) (notFace_of_selects (args := #[]) (mvT hZ (hw _ (List.mem_of_getElem? (i := 17) rfl)))) (by decide) e8 (g := (mkF m 44 #[.val (.int p0), .val (.int ((p0 &&& (2147483647 : Int32)) % (6 : Int32))), .val (.ref a1), .val (.int (1 : Int32)), .val (.int (1 : Int32))] [(.ref a1)])) rfl (by rw [hml]; rfl) (argsL := []) (rest := []) rfl (lenOf own_pd1 rfl) rfl 0 (by show 2 * 0 + _ ≤ _; exact Nat.le_of_eq rfl) (hb hby at_44) (by decide) (by decide) (by decide) (by decide) ?_
      intro v9 T9 L9 hQ9 X9
      obtain ⟨rfl, e9, rfl⟩ := hQ9
      refine own_via (F' := T9.setTop (mkF m 47 #[.val (.int p0), .val (.int ((p0 &&& (2147483647 : Int32)) % (6 : Int32))), .val (.ref a1), .val (.int (1 : Int32)), .val (.int (1 : Int32))] [(.int (1 : Int32))])) (fun t k => k) ?_
      refine own_via (F' := T9.setTop (mkF m 52 #[.val (.int p0), .val (.int ((p0 &&& (2147483647 : Int32)) % (6 : Int32))), .val (.ref a1), .val (.int (1 : Int32)), .val (.int (1 : Int32))] [])) (fun t k => XS.ifYes X9.here hx rfl (pc0 := 47) (pc' := 52) rfl (hb hby at_47) rfl (XT.i0_ne_t (by decide)) (by decide) (by decide) k) ?_
      refine own_via (F' := T9.setTop (mkF m 53 #[.val (.int p0), .val (.int ((p0 &&& (2147483647 : Int32)) % (6 : Int32))), .val (.ref a1), .val (.int (1 : Int32)), .val (.int (1 : Int32))] [(.int (1 : Int32))])) (fun t k => XT.iconstV X9.here hx rfl (1 : Int32) (hb hby at_52) (by decide) k) ?_
      exact own_retZ X9 hx hret hlk (hb hby at_53) ⟨rfl, Fr.nil _⟩ (by decide) (by decide)
    · by_cases q10 : ((p0 &&& (2147483647 : Int32)) % (6 : Int32)) = (2 : Int32)
      · refine own_callS X0 hx hZ (own_k1 l Z az hw ((p0 &&& (2147483647 : Int32)) % (6 : Int32)) a0 a1 a2 a3 a4 a5 h0 S0 S1 S2 S3 S4 S5 a2 (by simp [q2, q6, q10])) hown (hw _ (List.mem_of_getElem? (i := 1) rfl)) (hw _ (List.mem_of_getElem? (i := 2) rfl)) (hw _ (List.mem_of_getElem? (i := 3) rfl)) (hw _ (List.mem_of_getElem? (i := 4) rfl)) (by decide) e0 (g := (mkF m 9 #[.val (.int p0), .val (.int ((p0 &&& (2147483647 : Int32)) % (6 : Int32))), .unset, .unset, .unset] [(.int ((p0 &&& (2147483647 : Int32)) % (6 : Int32)))])) rfl (by rw [hml]; rfl) (argsL := [(.int ((p0 &&& (2147483647 : Int32)) % (6 : Int32)))]) (rest := []) rfl (lenOf own_pd0 rfl) rfl 0 (by show 2 * 0 + _ ≤ _; exact Nat.le_of_eq rfl) (hb hby at_9) (by decide) (by decide) (by decide) (by decide) ?_
        intro v11 T11 L11 hQ11 X11
        obtain ⟨rfl, e11, rfl⟩ := hQ11
        refine own_via (F' := T11.setTop (mkF m 12 #[.val (.int p0), .val (.int ((p0 &&& (2147483647 : Int32)) % (6 : Int32))), .unset, .unset, .unset] [(.ref a2)])) (fun t k => k) ?_
        refine own_via (F' := T11.setTop (mkF m 13 #[.val (.int p0), .val (.int ((p0 &&& (2147483647 : Int32)) % (6 : Int32))), .val (.ref a2), .unset, .unset] [])) (fun t k => XS.astoreN X11.here hx rfl (hb hby at_12) rfl rfl (l' := #[.val (.int p0), .val (.int ((p0 &&& (2147483647 : Int32)) % (6 : Int32))), .val (.ref a2), .unset, .unset]) rfl k) ?_
        refine own_via (F' := T11.setTop (mkF m 14 #[.val (.int p0), .val (.int ((p0 &&& (2147483647 : Int32)) % (6 : Int32))), .val (.ref a2), .unset, .unset] [(.int ((p0 &&& (2147483647 : Int32)) % (6 : Int32)))])) (fun t k => XS.iloadN X11.here hx rfl (hb hby at_13) rfl k) ?_
        refine own_via (F' := T11.setTop (mkF m 15 #[.val (.int p0), .val (.int ((p0 &&& (2147483647 : Int32)) % (6 : Int32))), .val (.ref a2), .unset, .unset] [(.int (2 : Int32)), (.int ((p0 &&& (2147483647 : Int32)) % (6 : Int32)))])) (fun t k => XT.iconstV X11.here hx rfl (2 : Int32) (hb hby at_14) (by decide) k) ?_
        refine own_via (F' := T11.setTop (mkF m 18 #[.val (.int p0), .val (.int ((p0 &&& (2147483647 : Int32)) % (6 : Int32))), .val (.ref a2), .unset, .unset] [])) (fun t k => XS.icmpNo X11.here hx rfl (hb hby at_15) rfl (XT.ii_gt_f (by rw [q10]; decide)) k) ?_
        refine own_via (F' := T11.setTop (mkF m 19 #[.val (.int p0), .val (.int ((p0 &&& (2147483647 : Int32)) % (6 : Int32))), .val (.ref a2), .unset, .unset] [(.int (1 : Int32))])) (fun t k => XT.iconstV X11.here hx rfl (1 : Int32) (hb hby at_18) (by decide) k) ?_
        refine own_via (F' := T11.setTop (mkF m 23 #[.val (.int p0), .val (.int ((p0 &&& (2147483647 : Int32)) % (6 : Int32))), .val (.ref a2), .unset, .unset] [(.int (1 : Int32))])) (fun t k => XS.goto X11.here hx rfl (pc0 := 19) (pc' := 23) rfl (hb hby at_19) (by decide) (by decide) k) ?_
        refine own_via (F' := T11.setTop (mkF m 24 #[.val (.int p0), .val (.int ((p0 &&& (2147483647 : Int32)) % (6 : Int32))), .val (.ref a2), .val (.int (1 : Int32)), .unset] [])) (fun t k => XS.istoreN X11.here hx rfl (hb hby at_23) rfl (l' := #[.val (.int p0), .val (.int ((p0 &&& (2147483647 : Int32)) % (6 : Int32))), .val (.ref a2), .val (.int (1 : Int32)), .unset]) rfl k) ?_
        refine own_via (F' := T11.setTop (mkF m 25 #[.val (.int p0), .val (.int ((p0 &&& (2147483647 : Int32)) % (6 : Int32))), .val (.ref a2), .val (.int (1 : Int32)), .unset] [(.ref a2)])) (fun t k => XS.aloadN X11.here hx rfl (hb hby at_24) rfl rfl k) ?_
        refine own_callV X11 hx hZ (own_k2 l Z az hw a2 a0 a1 a2 h0 S0 S1 S2 (1 : Int32) (by first | (simp [n2_0, n2_1, n2_3, n2_4, n2_5]; done) | rfl)) hown E2 (hw _ (List.mem_of_getElem? (i := 8) rfl)) (hw _ (List.mem_of_getElem? (i := 9) rfl)) (hw _ (List.mem_of_getElem? (i := 11) rfl)) (hw _ (List.mem_of_getElem? (i := 10) rfl)) (hw _ (List.mem_of_getElem? (i := 6) rfl)) (hw _ (List.mem_of_getElem? (i := 12) rfl)) (notFace_of_selects (args := #[]) (mvT hZ (hw _ (List.mem_of_getElem? (i := 11) rfl)))) (by decide) e11 (g := (mkF m 25 #[.val (.int p0), .val (.int ((p0 &&& (2147483647 : Int32)) % (6 : Int32))), .val (.ref a2), .val (.int (1 : Int32)), .unset] [(.ref a2)])) rfl (by rw [hml]; rfl) (argsL := []) (rest := []) rfl (lenOf own_pd1 rfl) rfl 0 (by show 2 * 0 + _ ≤ _; exact Nat.le_of_eq rfl) (hb hby at_25) (by decide) (by decide) (by decide) (by decide) ?_
        intro v12 T12 L12 hQ12 X12
        obtain ⟨rfl, e12, rfl⟩ := hQ12
        refine own_via (F' := T12.setTop (mkF m 28 #[.val (.int p0), .val (.int ((p0 &&& (2147483647 : Int32)) % (6 : Int32))), .val (.ref a2), .val (.int (1 : Int32)), .unset] [(.int (1 : Int32))])) (fun t k => k) ?_
        refine own_via (F' := T12.setTop (mkF m 30 #[.val (.int p0), .val (.int ((p0 &&& (2147483647 : Int32)) % (6 : Int32))), .val (.ref a2), .val (.int (1 : Int32)), .val (.int (1 : Int32))] [])) (fun t k => XS.istore X12.here hx rfl (hb hby at_28) rfl (l' := #[.val (.int p0), .val (.int ((p0 &&& (2147483647 : Int32)) % (6 : Int32))), .val (.ref a2), .val (.int (1 : Int32)), .val (.int (1 : Int32))]) rfl k) ?_
        refine own_via (F' := T12.setTop (mkF m 32 #[.val (.int p0), .val (.int ((p0 &&& (2147483647 : Int32)) % (6 : Int32))), .val (.ref a2), .val (.int (1 : Int32)), .val (.int (1 : Int32))] [(.int (1 : Int32))])) (fun t k => XS.iload X12.here hx rfl (hb hby at_30) rfl k) ?_
        refine own_via (F' := T12.setTop (mkF m 33 #[.val (.int p0), .val (.int ((p0 &&& (2147483647 : Int32)) % (6 : Int32))), .val (.ref a2), .val (.int (1 : Int32)), .val (.int (1 : Int32))] [(.int (1 : Int32)), (.int (1 : Int32))])) (fun t k => XS.iloadN X12.here hx rfl (hb hby at_32) rfl k) ?_
        refine own_via (F' := T12.setTop (mkF m 38 #[.val (.int p0), .val (.int ((p0 &&& (2147483647 : Int32)) % (6 : Int32))), .val (.ref a2), .val (.int (1 : Int32)), .val (.int (1 : Int32))] [])) (fun t k => XS.icmpYes X12.here hx rfl (pc0 := 33) (pc' := 38) rfl (hb hby at_33) rfl (XT.ii_eq_t (by decide)) (by decide) (by decide) k) ?_
        refine own_via (F' := T12.setTop (mkF m 40 #[.val (.int p0), .val (.int ((p0 &&& (2147483647 : Int32)) % (6 : Int32))), .val (.ref a2), .val (.int (1 : Int32)), .val (.int (1 : Int32))] [(.int (1 : Int32))])) (fun t k => XS.iload X12.here hx rfl (hb hby at_38) rfl k) ?_
        refine own_via (F' := T12.setTop (mkF m 43 #[.val (.int p0), .val (.int ((p0 &&& (2147483647 : Int32)) % (6 : Int32))), .val (.ref a2), .val (.int (1 : Int32)), .val (.int (1 : Int32))] [])) (fun t k => XS.ifNo X12.here hx rfl (hb hby at_40) rfl (XT.i0_eq_f (by decide)) k) ?_
        refine own_via (F' := T12.setTop (mkF m 44 #[.val (.int p0), .val (.int ((p0 &&& (2147483647 : Int32)) % (6 : Int32))), .val (.ref a2), .val (.int (1 : Int32)), .val (.int (1 : Int32))] [(.ref a2)])) (fun t k => XS.aloadN X12.here hx rfl (hb hby at_43) rfl rfl k) ?_
        refine own_callV X12 hx hZ (own_k3 l Z az hw a2 a4 a5 h0 S4 S5 (1 : Int32) (by first | (simp [n2_0, n2_1, n2_3, n2_4, n2_5]; done) | rfl)) hown E2 (hw _ (List.mem_of_getElem? (i := 14) rfl)) (hw _ (List.mem_of_getElem? (i := 15) rfl)) (hw _ (List.mem_of_getElem? (i := 17) rfl)) (hw _ (List.mem_of_getElem? (i := 16) rfl)) (hw _ (List.mem_of_getElem? (i := 6) rfl)) (hw _ (List.mem_of_getElem? (i := 18) rfl)) (notFace_of_selects (args := #[]) (mvT hZ (hw _ (List.mem_of_getElem? (i := 17) rfl)))) (by decide) e12 (g := (mkF m 44 #[.val (.int p0), .val (.int ((p0 &&& (2147483647 : Int32)) % (6 : Int32))), .val (.ref a2), .val (.int (1 : Int32)), .val (.int (1 : Int32))] [(.ref a2)])) rfl (by rw [hml]; rfl) (argsL := []) (rest := []) rfl (lenOf own_pd1 rfl) rfl 0 (by show 2 * 0 + _ ≤ _; exact Nat.le_of_eq rfl) (hb hby at_44) (by decide) (by decide) (by decide) (by decide) ?_
        intro v13 T13 L13 hQ13 X13
        obtain ⟨rfl, e13, rfl⟩ := hQ13
        refine own_via (F' := T13.setTop (mkF m 47 #[.val (.int p0), .val (.int ((p0 &&& (2147483647 : Int32)) % (6 : Int32))), .val (.ref a2), .val (.int (1 : Int32)), .val (.int (1 : Int32))] [(.int (1 : Int32))])) (fun t k => k) ?_
        refine own_via (F' := T13.setTop (mkF m 52 #[.val (.int p0), .val (.int ((p0 &&& (2147483647 : Int32)) % (6 : Int32))), .val (.ref a2), .val (.int (1 : Int32)), .val (.int (1 : Int32))] [])) (fun t k => XS.ifYes X13.here hx rfl (pc0 := 47) (pc' := 52) rfl (hb hby at_47) rfl (XT.i0_ne_t (by decide)) (by decide) (by decide) k) ?_
        refine own_via (F' := T13.setTop (mkF m 53 #[.val (.int p0), .val (.int ((p0 &&& (2147483647 : Int32)) % (6 : Int32))), .val (.ref a2), .val (.int (1 : Int32)), .val (.int (1 : Int32))] [(.int (1 : Int32))])) (fun t k => XT.iconstV X13.here hx rfl (1 : Int32) (hb hby at_52) (by decide) k) ?_
        exact own_retZ X13 hx hret hlk (hb hby at_53) ⟨rfl, Fr.nil _⟩ (by decide) (by decide)
      · by_cases q14 : ((p0 &&& (2147483647 : Int32)) % (6 : Int32)) = (3 : Int32)
        · refine own_callS X0 hx hZ (own_k1 l Z az hw ((p0 &&& (2147483647 : Int32)) % (6 : Int32)) a0 a1 a2 a3 a4 a5 h0 S0 S1 S2 S3 S4 S5 a3 (by simp [q2, q6, q10, q14])) hown (hw _ (List.mem_of_getElem? (i := 1) rfl)) (hw _ (List.mem_of_getElem? (i := 2) rfl)) (hw _ (List.mem_of_getElem? (i := 3) rfl)) (hw _ (List.mem_of_getElem? (i := 4) rfl)) (by decide) e0 (g := (mkF m 9 #[.val (.int p0), .val (.int ((p0 &&& (2147483647 : Int32)) % (6 : Int32))), .unset, .unset, .unset] [(.int ((p0 &&& (2147483647 : Int32)) % (6 : Int32)))])) rfl (by rw [hml]; rfl) (argsL := [(.int ((p0 &&& (2147483647 : Int32)) % (6 : Int32)))]) (rest := []) rfl (lenOf own_pd0 rfl) rfl 0 (by show 2 * 0 + _ ≤ _; exact Nat.le_of_eq rfl) (hb hby at_9) (by decide) (by decide) (by decide) (by decide) ?_
          intro v15 T15 L15 hQ15 X15
          obtain ⟨rfl, e15, rfl⟩ := hQ15
          refine own_via (F' := T15.setTop (mkF m 12 #[.val (.int p0), .val (.int ((p0 &&& (2147483647 : Int32)) % (6 : Int32))), .unset, .unset, .unset] [(.ref a3)])) (fun t k => k) ?_
          refine own_via (F' := T15.setTop (mkF m 13 #[.val (.int p0), .val (.int ((p0 &&& (2147483647 : Int32)) % (6 : Int32))), .val (.ref a3), .unset, .unset] [])) (fun t k => XS.astoreN X15.here hx rfl (hb hby at_12) rfl rfl (l' := #[.val (.int p0), .val (.int ((p0 &&& (2147483647 : Int32)) % (6 : Int32))), .val (.ref a3), .unset, .unset]) rfl k) ?_
          refine own_via (F' := T15.setTop (mkF m 14 #[.val (.int p0), .val (.int ((p0 &&& (2147483647 : Int32)) % (6 : Int32))), .val (.ref a3), .unset, .unset] [(.int ((p0 &&& (2147483647 : Int32)) % (6 : Int32)))])) (fun t k => XS.iloadN X15.here hx rfl (hb hby at_13) rfl k) ?_
          refine own_via (F' := T15.setTop (mkF m 15 #[.val (.int p0), .val (.int ((p0 &&& (2147483647 : Int32)) % (6 : Int32))), .val (.ref a3), .unset, .unset] [(.int (2 : Int32)), (.int ((p0 &&& (2147483647 : Int32)) % (6 : Int32)))])) (fun t k => XT.iconstV X15.here hx rfl (2 : Int32) (hb hby at_14) (by decide) k) ?_
          refine own_via (F' := T15.setTop (mkF m 22 #[.val (.int p0), .val (.int ((p0 &&& (2147483647 : Int32)) % (6 : Int32))), .val (.ref a3), .unset, .unset] [])) (fun t k => XS.icmpYes X15.here hx rfl (pc0 := 15) (pc' := 22) rfl (hb hby at_15) rfl (XT.ii_gt_t (by rw [q14]; decide)) (by decide) (by decide) k) ?_
          refine own_via (F' := T15.setTop (mkF m 23 #[.val (.int p0), .val (.int ((p0 &&& (2147483647 : Int32)) % (6 : Int32))), .val (.ref a3), .unset, .unset] [(.int (0 : Int32))])) (fun t k => XT.iconstV X15.here hx rfl (0 : Int32) (hb hby at_22) (by decide) k) ?_
          refine own_via (F' := T15.setTop (mkF m 24 #[.val (.int p0), .val (.int ((p0 &&& (2147483647 : Int32)) % (6 : Int32))), .val (.ref a3), .val (.int (0 : Int32)), .unset] [])) (fun t k => XS.istoreN X15.here hx rfl (hb hby at_23) rfl (l' := #[.val (.int p0), .val (.int ((p0 &&& (2147483647 : Int32)) % (6 : Int32))), .val (.ref a3), .val (.int (0 : Int32)), .unset]) rfl k) ?_
          refine own_via (F' := T15.setTop (mkF m 25 #[.val (.int p0), .val (.int ((p0 &&& (2147483647 : Int32)) % (6 : Int32))), .val (.ref a3), .val (.int (0 : Int32)), .unset] [(.ref a3)])) (fun t k => XS.aloadN X15.here hx rfl (hb hby at_24) rfl rfl k) ?_
          refine own_callV X15 hx hZ (own_k2 l Z az hw a3 a0 a1 a2 h0 S0 S1 S2 (0 : Int32) (by first | (simp [n3_0, n3_1, n3_2, n3_4, n3_5]; done) | rfl)) hown E3 (hw _ (List.mem_of_getElem? (i := 8) rfl)) (hw _ (List.mem_of_getElem? (i := 9) rfl)) (hw _ (List.mem_of_getElem? (i := 11) rfl)) (hw _ (List.mem_of_getElem? (i := 10) rfl)) (hw _ (List.mem_of_getElem? (i := 6) rfl)) (hw _ (List.mem_of_getElem? (i := 12) rfl)) (notFace_of_selects (args := #[]) (mvT hZ (hw _ (List.mem_of_getElem? (i := 11) rfl)))) (by decide) e15 (g := (mkF m 25 #[.val (.int p0), .val (.int ((p0 &&& (2147483647 : Int32)) % (6 : Int32))), .val (.ref a3), .val (.int (0 : Int32)), .unset] [(.ref a3)])) rfl (by rw [hml]; rfl) (argsL := []) (rest := []) rfl (lenOf own_pd1 rfl) rfl 0 (by show 2 * 0 + _ ≤ _; exact Nat.le_of_eq rfl) (hb hby at_25) (by decide) (by decide) (by decide) (by decide) ?_
          intro v16 T16 L16 hQ16 X16
          obtain ⟨rfl, e16, rfl⟩ := hQ16
          refine own_via (F' := T16.setTop (mkF m 28 #[.val (.int p0), .val (.int ((p0 &&& (2147483647 : Int32)) % (6 : Int32))), .val (.ref a3), .val (.int (0 : Int32)), .unset] [(.int (0 : Int32))])) (fun t k => k) ?_
          refine own_via (F' := T16.setTop (mkF m 30 #[.val (.int p0), .val (.int ((p0 &&& (2147483647 : Int32)) % (6 : Int32))), .val (.ref a3), .val (.int (0 : Int32)), .val (.int (0 : Int32))] [])) (fun t k => XS.istore X16.here hx rfl (hb hby at_28) rfl (l' := #[.val (.int p0), .val (.int ((p0 &&& (2147483647 : Int32)) % (6 : Int32))), .val (.ref a3), .val (.int (0 : Int32)), .val (.int (0 : Int32))]) rfl k) ?_
          refine own_via (F' := T16.setTop (mkF m 32 #[.val (.int p0), .val (.int ((p0 &&& (2147483647 : Int32)) % (6 : Int32))), .val (.ref a3), .val (.int (0 : Int32)), .val (.int (0 : Int32))] [(.int (0 : Int32))])) (fun t k => XS.iload X16.here hx rfl (hb hby at_30) rfl k) ?_
          refine own_via (F' := T16.setTop (mkF m 33 #[.val (.int p0), .val (.int ((p0 &&& (2147483647 : Int32)) % (6 : Int32))), .val (.ref a3), .val (.int (0 : Int32)), .val (.int (0 : Int32))] [(.int (0 : Int32)), (.int (0 : Int32))])) (fun t k => XS.iloadN X16.here hx rfl (hb hby at_32) rfl k) ?_
          refine own_via (F' := T16.setTop (mkF m 38 #[.val (.int p0), .val (.int ((p0 &&& (2147483647 : Int32)) % (6 : Int32))), .val (.ref a3), .val (.int (0 : Int32)), .val (.int (0 : Int32))] [])) (fun t k => XS.icmpYes X16.here hx rfl (pc0 := 33) (pc' := 38) rfl (hb hby at_33) rfl (XT.ii_eq_t (by decide)) (by decide) (by decide) k) ?_
          refine own_via (F' := T16.setTop (mkF m 40 #[.val (.int p0), .val (.int ((p0 &&& (2147483647 : Int32)) % (6 : Int32))), .val (.ref a3), .val (.int (0 : Int32)), .val (.int (0 : Int32))] [(.int (0 : Int32))])) (fun t k => XS.iload X16.here hx rfl (hb hby at_38) rfl k) ?_
          refine own_via (F' := T16.setTop (mkF m 52 #[.val (.int p0), .val (.int ((p0 &&& (2147483647 : Int32)) % (6 : Int32))), .val (.ref a3), .val (.int (0 : Int32)), .val (.int (0 : Int32))] [])) (fun t k => XS.ifYes X16.here hx rfl (pc0 := 40) (pc' := 52) rfl (hb hby at_40) rfl (XT.i0_eq_t (by decide)) (by decide) (by decide) k) ?_
          refine own_via (F' := T16.setTop (mkF m 53 #[.val (.int p0), .val (.int ((p0 &&& (2147483647 : Int32)) % (6 : Int32))), .val (.ref a3), .val (.int (0 : Int32)), .val (.int (0 : Int32))] [(.int (1 : Int32))])) (fun t k => XT.iconstV X16.here hx rfl (1 : Int32) (hb hby at_52) (by decide) k) ?_
          exact own_retZ X16 hx hret hlk (hb hby at_53) ⟨rfl, Fr.nil _⟩ (by decide) (by decide)
        · by_cases q17 : ((p0 &&& (2147483647 : Int32)) % (6 : Int32)) = (4 : Int32)
          · refine own_callS X0 hx hZ (own_k1 l Z az hw ((p0 &&& (2147483647 : Int32)) % (6 : Int32)) a0 a1 a2 a3 a4 a5 h0 S0 S1 S2 S3 S4 S5 a4 (by simp [q2, q6, q10, q14, q17])) hown (hw _ (List.mem_of_getElem? (i := 1) rfl)) (hw _ (List.mem_of_getElem? (i := 2) rfl)) (hw _ (List.mem_of_getElem? (i := 3) rfl)) (hw _ (List.mem_of_getElem? (i := 4) rfl)) (by decide) e0 (g := (mkF m 9 #[.val (.int p0), .val (.int ((p0 &&& (2147483647 : Int32)) % (6 : Int32))), .unset, .unset, .unset] [(.int ((p0 &&& (2147483647 : Int32)) % (6 : Int32)))])) rfl (by rw [hml]; rfl) (argsL := [(.int ((p0 &&& (2147483647 : Int32)) % (6 : Int32)))]) (rest := []) rfl (lenOf own_pd0 rfl) rfl 0 (by show 2 * 0 + _ ≤ _; exact Nat.le_of_eq rfl) (hb hby at_9) (by decide) (by decide) (by decide) (by decide) ?_
            intro v18 T18 L18 hQ18 X18
            obtain ⟨rfl, e18, rfl⟩ := hQ18
            refine own_via (F' := T18.setTop (mkF m 12 #[.val (.int p0), .val (.int ((p0 &&& (2147483647 : Int32)) % (6 : Int32))), .unset, .unset, .unset] [(.ref a4)])) (fun t k => k) ?_
            refine own_via (F' := T18.setTop (mkF m 13 #[.val (.int p0), .val (.int ((p0 &&& (2147483647 : Int32)) % (6 : Int32))), .val (.ref a4), .unset, .unset] [])) (fun t k => XS.astoreN X18.here hx rfl (hb hby at_12) rfl rfl (l' := #[.val (.int p0), .val (.int ((p0 &&& (2147483647 : Int32)) % (6 : Int32))), .val (.ref a4), .unset, .unset]) rfl k) ?_
            refine own_via (F' := T18.setTop (mkF m 14 #[.val (.int p0), .val (.int ((p0 &&& (2147483647 : Int32)) % (6 : Int32))), .val (.ref a4), .unset, .unset] [(.int ((p0 &&& (2147483647 : Int32)) % (6 : Int32)))])) (fun t k => XS.iloadN X18.here hx rfl (hb hby at_13) rfl k) ?_
            refine own_via (F' := T18.setTop (mkF m 15 #[.val (.int p0), .val (.int ((p0 &&& (2147483647 : Int32)) % (6 : Int32))), .val (.ref a4), .unset, .unset] [(.int (2 : Int32)), (.int ((p0 &&& (2147483647 : Int32)) % (6 : Int32)))])) (fun t k => XT.iconstV X18.here hx rfl (2 : Int32) (hb hby at_14) (by decide) k) ?_
            refine own_via (F' := T18.setTop (mkF m 22 #[.val (.int p0), .val (.int ((p0 &&& (2147483647 : Int32)) % (6 : Int32))), .val (.ref a4), .unset, .unset] [])) (fun t k => XS.icmpYes X18.here hx rfl (pc0 := 15) (pc' := 22) rfl (hb hby at_15) rfl (XT.ii_gt_t (by rw [q17]; decide)) (by decide) (by decide) k) ?_
            refine own_via (F' := T18.setTop (mkF m 23 #[.val (.int p0), .val (.int ((p0 &&& (2147483647 : Int32)) % (6 : Int32))), .val (.ref a4), .unset, .unset] [(.int (0 : Int32))])) (fun t k => XT.iconstV X18.here hx rfl (0 : Int32) (hb hby at_22) (by decide) k) ?_
            refine own_via (F' := T18.setTop (mkF m 24 #[.val (.int p0), .val (.int ((p0 &&& (2147483647 : Int32)) % (6 : Int32))), .val (.ref a4), .val (.int (0 : Int32)), .unset] [])) (fun t k => XS.istoreN X18.here hx rfl (hb hby at_23) rfl (l' := #[.val (.int p0), .val (.int ((p0 &&& (2147483647 : Int32)) % (6 : Int32))), .val (.ref a4), .val (.int (0 : Int32)), .unset]) rfl k) ?_
            refine own_via (F' := T18.setTop (mkF m 25 #[.val (.int p0), .val (.int ((p0 &&& (2147483647 : Int32)) % (6 : Int32))), .val (.ref a4), .val (.int (0 : Int32)), .unset] [(.ref a4)])) (fun t k => XS.aloadN X18.here hx rfl (hb hby at_24) rfl rfl k) ?_
            refine own_callV X18 hx hZ (own_k2 l Z az hw a4 a0 a1 a2 h0 S0 S1 S2 (0 : Int32) (by first | (simp [n4_0, n4_1, n4_2, n4_3, n4_5]; done) | rfl)) hown E4 (hw _ (List.mem_of_getElem? (i := 8) rfl)) (hw _ (List.mem_of_getElem? (i := 9) rfl)) (hw _ (List.mem_of_getElem? (i := 11) rfl)) (hw _ (List.mem_of_getElem? (i := 10) rfl)) (hw _ (List.mem_of_getElem? (i := 6) rfl)) (hw _ (List.mem_of_getElem? (i := 12) rfl)) (notFace_of_selects (args := #[]) (mvT hZ (hw _ (List.mem_of_getElem? (i := 11) rfl)))) (by decide) e18 (g := (mkF m 25 #[.val (.int p0), .val (.int ((p0 &&& (2147483647 : Int32)) % (6 : Int32))), .val (.ref a4), .val (.int (0 : Int32)), .unset] [(.ref a4)])) rfl (by rw [hml]; rfl) (argsL := []) (rest := []) rfl (lenOf own_pd1 rfl) rfl 0 (by show 2 * 0 + _ ≤ _; exact Nat.le_of_eq rfl) (hb hby at_25) (by decide) (by decide) (by decide) (by decide) ?_
            intro v19 T19 L19 hQ19 X19
            obtain ⟨rfl, e19, rfl⟩ := hQ19
            refine own_via (F' := T19.setTop (mkF m 28 #[.val (.int p0), .val (.int ((p0 &&& (2147483647 : Int32)) % (6 : Int32))), .val (.ref a4), .val (.int (0 : Int32)), .unset] [(.int (0 : Int32))])) (fun t k => k) ?_
            refine own_via (F' := T19.setTop (mkF m 30 #[.val (.int p0), .val (.int ((p0 &&& (2147483647 : Int32)) % (6 : Int32))), .val (.ref a4), .val (.int (0 : Int32)), .val (.int (0 : Int32))] [])) (fun t k => XS.istore X19.here hx rfl (hb hby at_28) rfl (l' := #[.val (.int p0), .val (.int ((p0 &&& (2147483647 : Int32)) % (6 : Int32))), .val (.ref a4), .val (.int (0 : Int32)), .val (.int (0 : Int32))]) rfl k) ?_
            refine own_via (F' := T19.setTop (mkF m 32 #[.val (.int p0), .val (.int ((p0 &&& (2147483647 : Int32)) % (6 : Int32))), .val (.ref a4), .val (.int (0 : Int32)), .val (.int (0 : Int32))] [(.int (0 : Int32))])) (fun t k => XS.iload X19.here hx rfl (hb hby at_30) rfl k) ?_
            refine own_via (F' := T19.setTop (mkF m 33 #[.val (.int p0), .val (.int ((p0 &&& (2147483647 : Int32)) % (6 : Int32))), .val (.ref a4), .val (.int (0 : Int32)), .val (.int (0 : Int32))] [(.int (0 : Int32)), (.int (0 : Int32))])) (fun t k => XS.iloadN X19.here hx rfl (hb hby at_32) rfl k) ?_
            refine own_via (F' := T19.setTop (mkF m 38 #[.val (.int p0), .val (.int ((p0 &&& (2147483647 : Int32)) % (6 : Int32))), .val (.ref a4), .val (.int (0 : Int32)), .val (.int (0 : Int32))] [])) (fun t k => XS.icmpYes X19.here hx rfl (pc0 := 33) (pc' := 38) rfl (hb hby at_33) rfl (XT.ii_eq_t (by decide)) (by decide) (by decide) k) ?_
            refine own_via (F' := T19.setTop (mkF m 40 #[.val (.int p0), .val (.int ((p0 &&& (2147483647 : Int32)) % (6 : Int32))), .val (.ref a4), .val (.int (0 : Int32)), .val (.int (0 : Int32))] [(.int (0 : Int32))])) (fun t k => XS.iload X19.here hx rfl (hb hby at_38) rfl k) ?_
            refine own_via (F' := T19.setTop (mkF m 52 #[.val (.int p0), .val (.int ((p0 &&& (2147483647 : Int32)) % (6 : Int32))), .val (.ref a4), .val (.int (0 : Int32)), .val (.int (0 : Int32))] [])) (fun t k => XS.ifYes X19.here hx rfl (pc0 := 40) (pc' := 52) rfl (hb hby at_40) rfl (XT.i0_eq_t (by decide)) (by decide) (by decide) k) ?_
            refine own_via (F' := T19.setTop (mkF m 53 #[.val (.int p0), .val (.int ((p0 &&& (2147483647 : Int32)) % (6 : Int32))), .val (.ref a4), .val (.int (0 : Int32)), .val (.int (0 : Int32))] [(.int (1 : Int32))])) (fun t k => XT.iconstV X19.here hx rfl (1 : Int32) (hb hby at_52) (by decide) k) ?_
            exact own_retZ X19 hx hret hlk (hb hby at_53) ⟨rfl, Fr.nil _⟩ (by decide) (by decide)
          · refine own_callS X0 hx hZ (own_k1 l Z az hw ((p0 &&& (2147483647 : Int32)) % (6 : Int32)) a0 a1 a2 a3 a4 a5 h0 S0 S1 S2 S3 S4 S5 a5 (by simp [q2, q6, q10, q14, q17])) hown (hw _ (List.mem_of_getElem? (i := 1) rfl)) (hw _ (List.mem_of_getElem? (i := 2) rfl)) (hw _ (List.mem_of_getElem? (i := 3) rfl)) (hw _ (List.mem_of_getElem? (i := 4) rfl)) (by decide) e0 (g := (mkF m 9 #[.val (.int p0), .val (.int ((p0 &&& (2147483647 : Int32)) % (6 : Int32))), .unset, .unset, .unset] [(.int ((p0 &&& (2147483647 : Int32)) % (6 : Int32)))])) rfl (by rw [hml]; rfl) (argsL := [(.int ((p0 &&& (2147483647 : Int32)) % (6 : Int32)))]) (rest := []) rfl (lenOf own_pd0 rfl) rfl 0 (by show 2 * 0 + _ ≤ _; exact Nat.le_of_eq rfl) (hb hby at_9) (by decide) (by decide) (by decide) (by decide) ?_
            intro v20 T20 L20 hQ20 X20
            obtain ⟨rfl, e20, rfl⟩ := hQ20
            refine own_via (F' := T20.setTop (mkF m 12 #[.val (.int p0), .val (.int ((p0 &&& (2147483647 : Int32)) % (6 : Int32))), .unset, .unset, .unset] [(.ref a5)])) (fun t k => k) ?_
            refine own_via (F' := T20.setTop (mkF m 13 #[.val (.int p0), .val (.int ((p0 &&& (2147483647 : Int32)) % (6 : Int32))), .val (.ref a5), .unset, .unset] [])) (fun t k => XS.astoreN X20.here hx rfl (hb hby at_12) rfl rfl (l' := #[.val (.int p0), .val (.int ((p0 &&& (2147483647 : Int32)) % (6 : Int32))), .val (.ref a5), .unset, .unset]) rfl k) ?_
            refine own_via (F' := T20.setTop (mkF m 14 #[.val (.int p0), .val (.int ((p0 &&& (2147483647 : Int32)) % (6 : Int32))), .val (.ref a5), .unset, .unset] [(.int ((p0 &&& (2147483647 : Int32)) % (6 : Int32)))])) (fun t k => XS.iloadN X20.here hx rfl (hb hby at_13) rfl k) ?_
            refine own_via (F' := T20.setTop (mkF m 15 #[.val (.int p0), .val (.int ((p0 &&& (2147483647 : Int32)) % (6 : Int32))), .val (.ref a5), .unset, .unset] [(.int (2 : Int32)), (.int ((p0 &&& (2147483647 : Int32)) % (6 : Int32)))])) (fun t k => XT.iconstV X20.here hx rfl (2 : Int32) (hb hby at_14) (by decide) k) ?_
            refine own_via (F' := T20.setTop (mkF m 22 #[.val (.int p0), .val (.int ((p0 &&& (2147483647 : Int32)) % (6 : Int32))), .val (.ref a5), .unset, .unset] [])) (fun t k => XS.icmpYes X20.here hx rfl (pc0 := 15) (pc' := 22) rfl (hb hby at_15) rfl (XT.ii_gt_t (own_big p0 q2 q6 q10 q14 q17)) (by decide) (by decide) k) ?_
            refine own_via (F' := T20.setTop (mkF m 23 #[.val (.int p0), .val (.int ((p0 &&& (2147483647 : Int32)) % (6 : Int32))), .val (.ref a5), .unset, .unset] [(.int (0 : Int32))])) (fun t k => XT.iconstV X20.here hx rfl (0 : Int32) (hb hby at_22) (by decide) k) ?_
            refine own_via (F' := T20.setTop (mkF m 24 #[.val (.int p0), .val (.int ((p0 &&& (2147483647 : Int32)) % (6 : Int32))), .val (.ref a5), .val (.int (0 : Int32)), .unset] [])) (fun t k => XS.istoreN X20.here hx rfl (hb hby at_23) rfl (l' := #[.val (.int p0), .val (.int ((p0 &&& (2147483647 : Int32)) % (6 : Int32))), .val (.ref a5), .val (.int (0 : Int32)), .unset]) rfl k) ?_
            refine own_via (F' := T20.setTop (mkF m 25 #[.val (.int p0), .val (.int ((p0 &&& (2147483647 : Int32)) % (6 : Int32))), .val (.ref a5), .val (.int (0 : Int32)), .unset] [(.ref a5)])) (fun t k => XS.aloadN X20.here hx rfl (hb hby at_24) rfl rfl k) ?_
            refine own_callV X20 hx hZ (own_k2 l Z az hw a5 a0 a1 a2 h0 S0 S1 S2 (0 : Int32) (by first | (simp [n5_0, n5_1, n5_2, n5_3, n5_4]; done) | rfl)) hown E5 (hw _ (List.mem_of_getElem? (i := 8) rfl)) (hw _ (List.mem_of_getElem? (i := 9) rfl)) (hw _ (List.mem_of_getElem? (i := 11) rfl)) (hw _ (List.mem_of_getElem? (i := 10) rfl)) (hw _ (List.mem_of_getElem? (i := 6) rfl)) (hw _ (List.mem_of_getElem? (i := 12) rfl)) (notFace_of_selects (args := #[]) (mvT hZ (hw _ (List.mem_of_getElem? (i := 11) rfl)))) (by decide) e20 (g := (mkF m 25 #[.val (.int p0), .val (.int ((p0 &&& (2147483647 : Int32)) % (6 : Int32))), .val (.ref a5), .val (.int (0 : Int32)), .unset] [(.ref a5)])) rfl (by rw [hml]; rfl) (argsL := []) (rest := []) rfl (lenOf own_pd1 rfl) rfl 0 (by show 2 * 0 + _ ≤ _; exact Nat.le_of_eq rfl) (hb hby at_25) (by decide) (by decide) (by decide) (by decide) ?_
            intro v21 T21 L21 hQ21 X21
            obtain ⟨rfl, e21, rfl⟩ := hQ21
            refine own_via (F' := T21.setTop (mkF m 28 #[.val (.int p0), .val (.int ((p0 &&& (2147483647 : Int32)) % (6 : Int32))), .val (.ref a5), .val (.int (0 : Int32)), .unset] [(.int (0 : Int32))])) (fun t k => k) ?_
            refine own_via (F' := T21.setTop (mkF m 30 #[.val (.int p0), .val (.int ((p0 &&& (2147483647 : Int32)) % (6 : Int32))), .val (.ref a5), .val (.int (0 : Int32)), .val (.int (0 : Int32))] [])) (fun t k => XS.istore X21.here hx rfl (hb hby at_28) rfl (l' := #[.val (.int p0), .val (.int ((p0 &&& (2147483647 : Int32)) % (6 : Int32))), .val (.ref a5), .val (.int (0 : Int32)), .val (.int (0 : Int32))]) rfl k) ?_
            refine own_via (F' := T21.setTop (mkF m 32 #[.val (.int p0), .val (.int ((p0 &&& (2147483647 : Int32)) % (6 : Int32))), .val (.ref a5), .val (.int (0 : Int32)), .val (.int (0 : Int32))] [(.int (0 : Int32))])) (fun t k => XS.iload X21.here hx rfl (hb hby at_30) rfl k) ?_
            refine own_via (F' := T21.setTop (mkF m 33 #[.val (.int p0), .val (.int ((p0 &&& (2147483647 : Int32)) % (6 : Int32))), .val (.ref a5), .val (.int (0 : Int32)), .val (.int (0 : Int32))] [(.int (0 : Int32)), (.int (0 : Int32))])) (fun t k => XS.iloadN X21.here hx rfl (hb hby at_32) rfl k) ?_
            refine own_via (F' := T21.setTop (mkF m 38 #[.val (.int p0), .val (.int ((p0 &&& (2147483647 : Int32)) % (6 : Int32))), .val (.ref a5), .val (.int (0 : Int32)), .val (.int (0 : Int32))] [])) (fun t k => XS.icmpYes X21.here hx rfl (pc0 := 33) (pc' := 38) rfl (hb hby at_33) rfl (XT.ii_eq_t (by decide)) (by decide) (by decide) k) ?_
            refine own_via (F' := T21.setTop (mkF m 40 #[.val (.int p0), .val (.int ((p0 &&& (2147483647 : Int32)) % (6 : Int32))), .val (.ref a5), .val (.int (0 : Int32)), .val (.int (0 : Int32))] [(.int (0 : Int32))])) (fun t k => XS.iload X21.here hx rfl (hb hby at_38) rfl k) ?_
            refine own_via (F' := T21.setTop (mkF m 52 #[.val (.int p0), .val (.int ((p0 &&& (2147483647 : Int32)) % (6 : Int32))), .val (.ref a5), .val (.int (0 : Int32)), .val (.int (0 : Int32))] [])) (fun t k => XS.ifYes X21.here hx rfl (pc0 := 40) (pc' := 52) rfl (hb hby at_40) rfl (XT.i0_eq_t (by decide)) (by decide) (by decide) k) ?_
            refine own_via (F' := T21.setTop (mkF m 53 #[.val (.int p0), .val (.int ((p0 &&& (2147483647 : Int32)) % (6 : Int32))), .val (.ref a5), .val (.int (0 : Int32)), .val (.int (0 : Int32))] [(.int (1 : Int32))])) (fun t k => XT.iconstV X21.here hx rfl (1 : Int32) (hb hby at_52) (by decide) k) ?_
            exact own_retZ X21 hx hret hlk (hb hby at_53) ⟨rfl, Fr.nil _⟩ (by decide) (by decide)
set_option maxRecDepth 65536 in
set_option maxHeartbeats 40000000 in
theorem own_comes {Post : Tables → Env → Array Value → State → Outcome → State → Prop} (hpost : ∀ tb e args s v u, (limb_1_1.after args s (.returned v) u = true ∧ limb_1_2.after args s (.returned v) u = true ∧ True) → FrameEnd s (.returned v) u (Jvm.fieldLocs frame_1_writes args s ++ Jvm.arrayLocs frame_1_arrays args s ++ Jvm.staticLocs frame_1_statics s) 0 0 → Post tb e args s (.returned v) u) :
    ArmFor flags0 classFile x code maxLocals ret World_1 tables_1 room_1 Calls_1 rest_1 Pre_1 Post := by
  intro l hfl _ _ p e ha hc hk s m args below hf hA hF happ hP
  obtain ⟨hcalls, hrest, hpre⟩ := hP
  obtain ⟨-, -, -, hnamed, -, -, -, hat⟩ := (Spec.applies_iff hf).mp happ
  obtain ⟨hg, hn⟩ := and_e (Cond.before_iff.mp (show (Jvm.Cond.and given_1 narrow_1).before args s = true from hpre))
  obtain ⟨h1, h2⟩ := and_e hg
  obtain ⟨w0, rfl⟩ : ∃ w0 : Value, args = #[w0] := by
    have hs : args.size = 1 := by simpa [Cond.value, given_1] using h1
    obtain ⟨L⟩ := args
    match L, hs with
    | [w0], _ => exact ⟨w0, rfl⟩
  have hw := fun d (hd : d ∈ tables_1) => atoms_spec (ws := Jvm.Cond.code x code maxLocals ret :: tables_1) hat d (List.mem_cons_of_mem _ hd)
  obtain ⟨i4, e3⟩ := is_v h2
  obtain rfl : w0 = (.int i4) := Option.some.inj e3
  obtain ⟨k0, hn⟩ := and_e hn
  obtain ⟨k1, hn⟩ := and_e hn
  obtain ⟨k2, hn⟩ := and_e hn
  obtain ⟨k3, hn⟩ := and_e hn
  obtain ⟨k4, hn⟩ := and_e hn
  obtain ⟨k5, hn⟩ := and_e hn
  obtain ⟨k6, hn⟩ := and_e hn
  obtain ⟨k7, hn⟩ := and_e hn
  obtain ⟨k8, hn⟩ := and_e hn
  obtain ⟨k9, hn⟩ := and_e hn
  obtain ⟨k10, hn⟩ := and_e hn
  have k11 := hn
  obtain ⟨a0, v0⟩ := exa_v k0
  have E0 := Exa.start v0 k0
  have S0 := Sta.start v0 (Or.inr ⟨(hw _ (List.mem_of_getElem? (i := 6) rfl)), (hw _ (List.mem_of_getElem? (i := 7) rfl))⟩)
  obtain ⟨a4, v4⟩ := exa_v k1
  have E4 := Exa.start v4 k1
  have S4 := Sta.start v4 (Or.inr ⟨(hw _ (List.mem_of_getElem? (i := 6) rfl)), (hw _ (List.mem_of_getElem? (i := 20) rfl))⟩)
  obtain ⟨a5, v5⟩ := exa_v k4
  have E5 := Exa.start v5 k4
  have S5 := Sta.start v5 (Or.inr ⟨(hw _ (List.mem_of_getElem? (i := 6) rfl)), (hw _ (List.mem_of_getElem? (i := 22) rfl))⟩)
  obtain ⟨a3, v3⟩ := exa_v k6
  have E3 := Exa.start v3 k6
  have S3 := Sta.start v3 (Or.inr ⟨(hw _ (List.mem_of_getElem? (i := 6) rfl)), (hw _ (List.mem_of_getElem? (i := 24) rfl))⟩)
  obtain ⟨a1, v1⟩ := exa_v k8
  have E1 := Exa.start v1 k8
  have S1 := Sta.start v1 (Or.inr ⟨(hw _ (List.mem_of_getElem? (i := 6) rfl)), (hw _ (List.mem_of_getElem? (i := 26) rfl))⟩)
  obtain ⟨a2, v2⟩ := exa_v k10
  have E2 := Exa.start v2 k10
  have S2 := Sta.start v2 (Or.inr ⟨(hw _ (List.mem_of_getElem? (i := 6) rfl)), (hw _ (List.mem_of_getElem? (i := 28) rfl))⟩)
  have O0 := own_fld v0 (own_eqi k2)
  have O4 := own_fld v4 (own_eqi k3)
  have O5 := own_fld v5 (own_eqi k5)
  have O3 := own_fld v3 (own_eqi k7)
  have O1 := own_fld v1 (own_eqi k9)
  have O2 := own_fld v2 (own_eqi k11)
  have n0_1 : a0 ≠ a1 := Fld.ne O0 O1 (by first | decide | simp)
  have n0_2 : a0 ≠ a2 := Fld.ne O0 O2 (by first | decide | simp)
  have n0_3 : a0 ≠ a3 := Fld.ne O0 O3 (by first | decide | simp)
  have n0_4 : a0 ≠ a4 := Fld.ne O0 O4 (by first | decide | simp)
  have n0_5 : a0 ≠ a5 := Fld.ne O0 O5 (by first | decide | simp)
  have n1_0 : a1 ≠ a0 := Fld.ne O1 O0 (by first | decide | simp)
  have n1_2 : a1 ≠ a2 := Fld.ne O1 O2 (by first | decide | simp)
  have n1_3 : a1 ≠ a3 := Fld.ne O1 O3 (by first | decide | simp)
  have n1_4 : a1 ≠ a4 := Fld.ne O1 O4 (by first | decide | simp)
  have n1_5 : a1 ≠ a5 := Fld.ne O1 O5 (by first | decide | simp)
  have n2_0 : a2 ≠ a0 := Fld.ne O2 O0 (by first | decide | simp)
  have n2_1 : a2 ≠ a1 := Fld.ne O2 O1 (by first | decide | simp)
  have n2_3 : a2 ≠ a3 := Fld.ne O2 O3 (by first | decide | simp)
  have n2_4 : a2 ≠ a4 := Fld.ne O2 O4 (by first | decide | simp)
  have n2_5 : a2 ≠ a5 := Fld.ne O2 O5 (by first | decide | simp)
  have n3_0 : a3 ≠ a0 := Fld.ne O3 O0 (by first | decide | simp)
  have n3_1 : a3 ≠ a1 := Fld.ne O3 O1 (by first | decide | simp)
  have n3_2 : a3 ≠ a2 := Fld.ne O3 O2 (by first | decide | simp)
  have n3_4 : a3 ≠ a4 := Fld.ne O3 O4 (by first | decide | simp)
  have n3_5 : a3 ≠ a5 := Fld.ne O3 O5 (by first | decide | simp)
  have n4_0 : a4 ≠ a0 := Fld.ne O4 O0 (by first | decide | simp)
  have n4_1 : a4 ≠ a1 := Fld.ne O4 O1 (by first | decide | simp)
  have n4_2 : a4 ≠ a2 := Fld.ne O4 O2 (by first | decide | simp)
  have n4_3 : a4 ≠ a3 := Fld.ne O4 O3 (by first | decide | simp)
  have n4_5 : a4 ≠ a5 := Fld.ne O4 O5 (by first | decide | simp)
  have n5_0 : a5 ≠ a0 := Fld.ne O5 O0 (by first | decide | simp)
  have n5_1 : a5 ≠ a1 := Fld.ne O5 O1 (by first | decide | simp)
  have n5_2 : a5 ≠ a2 := Fld.ne O5 O2 (by first | decide | simp)
  have n5_3 : a5 ≠ a3 := Fld.ne O5 O3 (by first | decide | simp)
  have n5_4 : a5 ≠ a4 := Fld.ne O5 O4 (by first | decide | simp)
  obtain ⟨n, o, h1, h2, h3, _, L, rfl, ⟨rfl, N⟩, hq⟩ := own_law l s _ hw i4 a0 a1 a2 a3 a4 a5 s.heap s.heap.size S0 S1 S2 S3 S4 S5 E0 E1 E2 E3 E4 E5 n0_1 n0_2 n0_3 n0_4 n0_5 n1_0 n1_2 n1_3 n1_4 n1_5 n2_0 n2_1 n2_3 n2_4 n2_5 n3_0 n3_1 n3_2 n3_4 n3_5 n4_0 n4_1 n4_2 n4_3 n4_5 n5_0 n5_1 n5_2 n5_3 n5_4 tables_1 p e ha hc hk s m _ below hf ((Spec.applies_iff_loose hf).mp happ).1 ⟨rfl, State.Warmed39.refl s, rfl⟩ trivial
  refine ⟨n, _, h1, h2, h3, hpost _ _ _ _ _ _ ⟨Cond.after_iff.mpr rfl, Cond.after_iff.mpr (eq_i res_at (Term.int_eval (1)) rfl), trivial⟩ ⟨hq.1, hq.2.1, (hq.2.2.sift fun y hy => Or.inr (N y hy)).mono (by decide) (by decide)⟩⟩
theorem main_1_1 : Claimed_1_1 := own_comes fun _ _ _ _ _ _ h hF => ⟨h.1, hF⟩
theorem main_1_2 : Claimed_1_2 := own_comes fun _ _ _ _ _ _ h hF => ⟨h.2.1, hF⟩
end Jvm.Pilot.@@N@@
namespace Jvm.Pilot.@@N@@
open Jvm Jvm.ClassFile Sem Op Lib Jvm.Free Jvm.Stand Jvm.Pilot.@@N@@.Jvm.D
/-! MADE BY PROGRAM (witnessworld.py) out of the Statement's table words and the real class files: 12 classes; the members and pool entries that the words name. The judged class is class 1, her method 2. -/
namespace start1
open Jvm.ClassFile
def u (s : String) : CpInfo := .utf8 (stringToUtf16 s)
/-- a pool by its gaps: so many unusable entries, then the entry; so many at the end -/
def gap : Nat → List CpInfo → List CpInfo
  | 0, r => r
  | n + 1, r => .unusable :: gap n r
def poolList (es : List (Nat × CpInfo)) (last : Nat) : List CpInfo := es.foldr (fun e r => gap e.1 (e.2 :: r)) (gap last [])
def pool (es : List (Nat × CpInfo)) (last : Nat) : Array CpInfo := ⟨poolList es last⟩
def fileOf (pool : Array CpInfo) (this : Nat) (attrs : Array Attribute := #[]) (ms : Array MethodInfo := #[]) (fl : Nat := 33) (sup : Nat := 0) (ifs : Array Nat := #[]) (fds : Array FieldInfo := #[]) : ClassFile where
  minorVersion := 0
  majorVersion := 65
  constantPool := pool
  accessFlags := fl
  thisClass := this
  superClass := sup
  interfaces := ifs
  fields := fds
  methods := ms
  attributes := attrs
def plain (name : String) (sup : Option ClassId) : Class where
  name := name
  kind := .ordinary
  loader := none
  accessFlags := 33
  super := sup
  interfaces := #[]
  cf := none
  fields := #[]
  methods := #[]
  instanceTypes := #[]
  staticTypes := #[]
  resolved := #[]
  callSites := []
  init := .initialized
  statics := none
  mirror := none

def pool0 : Array CpInfo := pool [(5, u "<init>"), (0, u "()V"), (1, .class_ 10), (1, u "java/lang/Object")] 113

def k0m0 : Method := { name := "<init>", desc := "()V", sig := { parameters := [], returnType := none }, accessFlags := 1, code := none }
/-- java/lang/Object -/
def k0 : Class := { plain "java/lang/Object" none with
  accessFlags := 33
  interfaces := #[]
  cf := some (fileOf pool0 8 #[] #[{ accessFlags := 1, nameIndex := 5, descriptorIndex := 6, attributes := #[] }] 33 0 #[] #[])
  fields := #[]
  methods := #[k0m0]
  instanceTypes := #[]
  staticTypes := #[]
  resolved := Array.replicate 124 none
  statics := none }

def pool1 : Array CpInfo := pool [(2, .class_ 4), (1, u "java/lang/Object"), (0, u "<init>"), (0, u "()V"), (0, .fieldref 8 9), (0, .class_ 10), (0, .nameAndType 11 12), (0, u "com/example/orderloom/orderloom/lifecycle/FalloutCaseState"), (0, u "OPEN"), (0, u "Lcom/example/orderloom/orderloom/lifecycle/FalloutCaseState;"), (0, .fieldref 8 14), (0, .nameAndType 15 12), (0, u "TRIAGING"), (0, .fieldref 8 17), (0, .nameAndType 18 12), (0, u "WAITING_CUSTOMER"), (0, .fieldref 8 20), (0, .nameAndType 21 12), (0, u "REPAIR_IN_PROGRESS"), (0, .fieldref 8 23), (0, .nameAndType 24 12), (0, u "RESOLVED"), (0, .fieldref 8 26), (0, .nameAndType 27 12), (0, u "CLOSED"), (0, .integer 2147483647), (0, .methodref 30 31), (0, .class_ 32), (0, .nameAndType 33 34), (0, u "com/example/orderloom/orderloom/lifecycle/FalloutCaseStateAwaitsRepairPinLaw"), (0, u "pick"), (0, u "(I)Lcom/example/orderloom/orderloom/lifecycle/FalloutCaseState;"), (0, .methodref 8 36), (0, .nameAndType 37 38), (0, u "awaitsRepair"), (0, u "()Z"), (0, .methodref 8 40), (0, .nameAndType 41 38), (0, u "blocksOrder"), (3, u "law"), (0, u "(I)Z")] 2

def k1m0 : Method := { name := "<init>", desc := "()V", sig := { parameters := [], returnType := none }, accessFlags := 1, code := none }
def k1c1 : Code := { maxStack := 2, maxLocals := 1, code := method_2_code, exceptionTable := #[], attributes := #[] }
def k1m1 : Method := { name := "pick", desc := "(I)Lcom/example/orderloom/orderloom/lifecycle/FalloutCaseState;", sig := { parameters := [.int], returnType := some (.object "com/example/orderloom/orderloom/lifecycle/FalloutCaseState") }, accessFlags := 10, code := some k1c1 }
def k1c2 : Code := { maxStack := 2, maxLocals := 5, code := code, exceptionTable := #[], attributes := #[] }
def k1m2 : Method := { name := "law", desc := "(I)Z", sig := { parameters := [.int], returnType := some .boolean }, accessFlags := 9, code := some k1c2 }
/-- com/example/orderloom/orderloom/lifecycle/FalloutCaseStateAwaitsRepairPinLaw -/
def k1 : Class := { plain "com/example/orderloom/orderloom/lifecycle/FalloutCaseStateAwaitsRepairPinLaw" (some 0) with
  accessFlags := 49
  interfaces := #[]
  cf := some (fileOf pool1 30 #[] #[{ accessFlags := 1, nameIndex := 5, descriptorIndex := 6, attributes := #[] }, { accessFlags := 10, nameIndex := 33, descriptorIndex := 34, attributes := #[] }, { accessFlags := 9, nameIndex := 45, descriptorIndex := 46, attributes := #[] }] 49 2 #[] #[])
  fields := #[]
  methods := #[k1m0, k1m1, k1m2]
  instanceTypes := #[]
  staticTypes := #[]
  resolved := Array.replicate 49 none
  statics := none }

def pool2 : Array CpInfo := pool [(1, .class_ 2), (0, u "java/lang/constant/Constable"), (0, .class_ 4), (0, u "java/lang/Object")] 6

/-- java/lang/constant/Constable -/
def k2 : Class := { plain "java/lang/constant/Constable" (some 0) with
  accessFlags := 1537
  interfaces := #[]
  cf := some (fileOf pool2 1 #[] #[] 1537 3 #[] #[])
  fields := #[]
  methods := #[]
  instanceTypes := #[]
  staticTypes := #[]
  resolved := Array.replicate 11 none
  statics := none }

def pool3 : Array CpInfo := pool [(1, .class_ 2), (0, u "java/lang/Comparable"), (0, .class_ 4), (0, u "java/lang/Object")] 7

/-- java/lang/Comparable -/
def k3 : Class := { plain "java/lang/Comparable" (some 0) with
  accessFlags := 1537
  interfaces := #[]
  cf := some (fileOf pool3 1 #[] #[] 1537 3 #[] #[])
  fields := #[]
  methods := #[]
  instanceTypes := #[]
  staticTypes := #[]
  resolved := Array.replicate 12 none
  statics := none }

def pool4 : Array CpInfo := pool [(1, .class_ 2), (0, u "java/io/Serializable"), (0, .class_ 4), (0, u "java/lang/Object")] 2

/-- java/io/Serializable -/
def k4 : Class := { plain "java/io/Serializable" (some 0) with
  accessFlags := 1537
  interfaces := #[]
  cf := some (fileOf pool4 1 #[] #[] 1537 3 #[] #[])
  fields := #[]
  methods := #[]
  instanceTypes := #[]
  staticTypes := #[]
  resolved := Array.replicate 7 none
  statics := none }

def pool5 : Array CpInfo := pool [(2, .class_ 4), (1, u "java/lang/Enum"), (0, u "name"), (0, u "Ljava/lang/String;"), (2, u "ordinal"), (0, u "I"), (1, .class_ 14), (1, u "java/lang/Object"), (4, u "hash"), (86, .class_ 108), (1, u "java/lang/Enum$EnumDesc"), (2, .class_ 112), (0, u "java/lang/constant/Constable"), (0, .class_ 114), (0, u "java/lang/Comparable"), (0, .class_ 116), (0, u "java/io/Serializable")] 87

/-- java/lang/Enum -/
def k5 : Class := { plain "java/lang/Enum" (some 0) with
  accessFlags := 1057
  interfaces := #[2, 3, 4]
  cf := some (fileOf pool5 2 #[.nestMembers #[106]] #[] 1057 12 #[111, 113, 115] #[{ accessFlags := 18, nameIndex := 5, descriptorIndex := 6, attributes := #[] }, { accessFlags := 18, nameIndex := 9, descriptorIndex := 10, attributes := #[] }, { accessFlags := 2, nameIndex := 19, descriptorIndex := 10, attributes := #[] }])
  fields := #[{ name := "name", type := (.object "java/lang/String"), accessFlags := 18, slot := 0, constantValue := 0 }, { name := "ordinal", type := .int, accessFlags := 18, slot := 1, constantValue := 0 }, { name := "hash", type := .int, accessFlags := 2, slot := 2, constantValue := 0 }]
  methods := #[]
  instanceTypes := #[(.object "java/lang/String"), .int, .int]
  staticTypes := #[]
  resolved := Array.replicate 204 none
  statics := none }

def pool6 : Array CpInfo := pool [(1, .class_ 2), (0, u "com/example/orderloom/orderloom/lifecycle/FalloutCaseState"), (0, .fieldref 1 4), (0, .nameAndType 5 6), (0, u "OPEN"), (0, u "Lcom/example/orderloom/orderloom/lifecycle/FalloutCaseState;"), (0, .fieldref 1 8), (0, .nameAndType 9 6), (0, u "TRIAGING"), (0, .fieldref 1 11), (0, .nameAndType 12 6), (0, u "WAITING_CUSTOMER"), (2, u "REPAIR_IN_PROGRESS"), (0, .fieldref 1 17), (0, .nameAndType 18 6), (0, u "RESOLVED"), (0, .fieldref 1 20), (0, .nameAndType 21 6), (0, u "CLOSED"), (2, u "$VALUES"), (0, u "[Lcom/example/orderloom/orderloom/lifecycle/FalloutCaseState;"), (6, .class_ 34), (1, u "java/lang/Enum"), (57, u "blocksOrder"), (0, u "()Z"), (1, u "awaitsRepair")] 32

def k6c0 : Code := { maxStack := 2, maxLocals := 1, code := prog_16_method_4_code, exceptionTable := #[], attributes := #[] }
def k6m0 : Method := { name := "blocksOrder", desc := "()Z", sig := { parameters := [], returnType := some .boolean }, accessFlags := 1, code := some k6c0 }
def k6c1 : Code := { maxStack := 2, maxLocals := 1, code := prog_16_method_5_code, exceptionTable := #[], attributes := #[] }
def k6m1 : Method := { name := "awaitsRepair", desc := "()Z", sig := { parameters := [], returnType := some .boolean }, accessFlags := 1, code := some k6c1 }
/-- com/example/orderloom/orderloom/lifecycle/FalloutCaseState -/
def k6 : Class := { plain "com/example/orderloom/orderloom/lifecycle/FalloutCaseState" (some 5) with
  accessFlags := 16433
  interfaces := #[]
  cf := some (fileOf pool6 1 #[] #[{ accessFlags := 1, nameIndex := 92, descriptorIndex := 93, attributes := #[] }, { accessFlags := 1, nameIndex := 95, descriptorIndex := 93, attributes := #[] }] 16433 32 #[] #[{ accessFlags := 16409, nameIndex := 5, descriptorIndex := 6, attributes := #[] }, { accessFlags := 16409, nameIndex := 9, descriptorIndex := 6, attributes := #[] }, { accessFlags := 16409, nameIndex := 12, descriptorIndex := 6, attributes := #[] }, { accessFlags := 16409, nameIndex := 15, descriptorIndex := 6, attributes := #[] }, { accessFlags := 16409, nameIndex := 18, descriptorIndex := 6, attributes := #[] }, { accessFlags := 16409, nameIndex := 21, descriptorIndex := 6, attributes := #[] }, { accessFlags := 4122, nameIndex := 24, descriptorIndex := 25, attributes := #[] }])
  fields := #[{ name := "OPEN", type := (.object "com/example/orderloom/orderloom/lifecycle/FalloutCaseState"), accessFlags := 16409, slot := 0, constantValue := 0 }, { name := "TRIAGING", type := (.object "com/example/orderloom/orderloom/lifecycle/FalloutCaseState"), accessFlags := 16409, slot := 1, constantValue := 0 }, { name := "WAITING_CUSTOMER", type := (.object "com/example/orderloom/orderloom/lifecycle/FalloutCaseState"), accessFlags := 16409, slot := 2, constantValue := 0 }, { name := "REPAIR_IN_PROGRESS", type := (.object "com/example/orderloom/orderloom/lifecycle/FalloutCaseState"), accessFlags := 16409, slot := 3, constantValue := 0 }, { name := "RESOLVED", type := (.object "com/example/orderloom/orderloom/lifecycle/FalloutCaseState"), accessFlags := 16409, slot := 4, constantValue := 0 }, { name := "CLOSED", type := (.object "com/example/orderloom/orderloom/lifecycle/FalloutCaseState"), accessFlags := 16409, slot := 5, constantValue := 0 }, { name := "$VALUES", type := (.array (.object "com/example/orderloom/orderloom/lifecycle/FalloutCaseState")), accessFlags := 4122, slot := 6, constantValue := 0 }]
  methods := #[k6m0, k6m1]
  instanceTypes := #[(.object "java/lang/String"), .int, .int]
  staticTypes := #[(.object "com/example/orderloom/orderloom/lifecycle/FalloutCaseState"), (.object "com/example/orderloom/orderloom/lifecycle/FalloutCaseState"), (.object "com/example/orderloom/orderloom/lifecycle/FalloutCaseState"), (.object "com/example/orderloom/orderloom/lifecycle/FalloutCaseState"), (.object "com/example/orderloom/orderloom/lifecycle/FalloutCaseState"), (.object "com/example/orderloom/orderloom/lifecycle/FalloutCaseState"), (.array (.object "com/example/orderloom/orderloom/lifecycle/FalloutCaseState"))]
  resolved := Array.replicate 128 none
  statics := some 0 }

def pool7 : Array CpInfo := pool [(1, u "java/lang/Cloneable"), (0, .class_ 1), (0, u "java/lang/Object"), (0, .class_ 3)] 3

/-- java/lang/Cloneable -/
def k7 : Class := { plain "java/lang/Cloneable" (some 0) with
  accessFlags := 1537
  interfaces := #[]
  cf := some (fileOf pool7 2 #[] #[] 1537 4 #[] #[])
  fields := #[]
  methods := #[]
  instanceTypes := #[]
  staticTypes := #[]
  resolved := Array.replicate 8 none
  statics := none }

/-- the primitive byte -/
def k8 : Class := { plain "byte" none with kind := .primitive 'B', accessFlags := 0x411 }
/-- [B -/
def k9 : Class := { plain "[B" (some 0) with kind := .array 8 .byte, interfaces := #[7, 4], accessFlags := 1041 }

/-- the primitive int -/
def k10 : Class := { plain "int" none with kind := .primitive 'I', accessFlags := 0x411 }
/-- [I -/
def k11 : Class := { plain "[I" (some 0) with kind := .array 10 .int, interfaces := #[7, 4], accessFlags := 1041 }

def heap : Heap := #[{ cls := 6, slots := #[.ref 1, .ref 5, .ref 6, .ref 4, .ref 2, .ref 3, .null], vm := .statics 6 },
  { cls := 6, slots := #[.null, .int 0, .int 0], vm := .none },
  { cls := 6, slots := #[.null, .int 4, .int 0], vm := .none },
  { cls := 6, slots := #[.null, .int 5, .int 0], vm := .none },
  { cls := 6, slots := #[.null, .int 3, .int 0], vm := .none },
  { cls := 6, slots := #[.null, .int 1, .int 0], vm := .none },
  { cls := 6, slots := #[.null, .int 2, .int 0], vm := .none }]
def classes : Array Class := #[k0, k1, k2, k3, k4, k5, k6, k7, k8, k9, k10, k11]
def interned : List (Array UInt16 × Addr) := []
def slotsUsed : Nat := 25
def theMethod : MethodId := ⟨1, 2⟩
def args0 : Array Value := #[.int 7]
def aboutOver (below : List Frame) : State where
  vm := { classes := classes, interned := interned.toArray }
  heap := heap
  slotsUsed := slotsUsed
  threads := #[{ frames := .invoking theMethod args0 :: below }]
def below0 : List Frame := [.native { method := ⟨0, 0⟩, args := #[] }]
def about1 : State := aboutOver below0
def p0 : Program := .bare "" "" ""
def e0 : Env := launch0.env 0 0 0
theorem w_frames : about1.frames = Frame.invoking theMethod args0 :: below0 := rfl
set_option maxRecDepth 65536 in
theorem w_args : argsFit about1.vm theMethod args0 = true := by decide +kernel
set_option maxRecDepth 65536 in
theorem w_heap : heapFits about1 = true := by decide +kernel
set_option maxRecDepth 65536 in
theorem w_runnable : about1.curStatus? = some .runnable := by decide +kernel
set_option maxRecDepth 65536 in
theorem w_alone : about1.alone = true := by decide +kernel
set_option maxRecDepth 65536 in
theorem w_named : about1.methodNamed? x = some theMethod := by decide +kernel
set_option maxRecDepth 65536 in
theorem w_hears : about1.hears theMethod below0 = true := by decide +kernel
set_option maxRecDepth 65536 in
theorem w_ripe : about1.ripe theMethod args0 below0 = true := by decide +kernel
theorem w_running : about1.status = .running := rfl
set_option maxRecDepth 65536 in
theorem w_room : about1.hasRoom e0.platform room_1 = true :=
  launch0.hasRoom_least _ room_1 (by decide +kernel) (by decide +kernel) (by decide +kernel) (by decide +kernel) (by decide +kernel) (by decide +kernel)
theorem allAtoms_all (ts : List Jvm.Cond) (a : Array Jvm.Value) (st : Jvm.State) : (allAtoms ts).before a st = ts.all (fun c => c.before a st) := by
  induction ts with
  | nil => rfl
  | cons c t ih =>
    show (Jvm.Cond.and c (allAtoms t)).before a st = _
    rw [Jvm.Cond.before_and, ih, List.all_cons]
def words1 : List Jvm.Cond := Jvm.Cond.code x code maxLocals ret :: tables_1
/-- a 'code' word, met by the world's own term for the bytes: nothing is compared byte by byte -/
theorem code_word {y : MethodName} {bytes : ByteArray} {mx : Nat} {rt : Option FieldType} {a : Array Value} {s : State} {m : MethodId} {meth : Method} {c : Code} (h1 : s.methodNamed? y = some m) (h2 : s.vm.method? m = some meth) (h3 : meth.code = some c) (h4 : c.code = bytes)
    (h5 : (c.maxLocals == mx && c.exceptionTable.isEmpty && decide (c.maxStack ≤ mostOperands) && decide (meth.sig.returnType = rt) && !meth.locks && decide (parseMethodDescriptor y.desc = some meth.sig)) = true) : (Jvm.Cond.code y bytes mx rt).before a s = true := by
  simp only [Bool.and_eq_true, beq_iff_eq, Bool.not_eq_true', decide_eq_true_eq] at h5
  obtain ⟨⟨⟨⟨⟨g1, g2⟩, g3⟩, g4⟩, g5⟩, g6⟩ := h5
  simp [Cond.before, Cond.holds, Cond.value, h1, h2, h3, h4, g1, g2, g3, g4, g5, g6]
def isCode : Jvm.Cond → Bool
  | .code _ _ _ _ => true
  | _ => false
theorem all_split {L : List Jvm.Cond} {P : Jvm.Cond → Bool} (h1 : L.all (fun c => isCode c || P c) = true) (h2 : ∀ c ∈ L.filter isCode, P c = true) : L.all P = true := by
  refine List.all_eq_true.mpr fun c hc => ?_
  have h := List.all_eq_true.mp h1 c hc
  rcases Bool.eq_false_or_eq_true (isCode c) with hi | hi
  · exact h2 c (List.mem_filter.mpr ⟨hc, hi⟩)
  · simpa [hi] using h
set_option maxRecDepth 65536 in
theorem w_c0 : (Jvm.Cond.code x code maxLocals ret).before args0 about1 = true := code_word (m := ⟨1, 2⟩) (meth := k1m2) (c := k1c2) (by decide +kernel) rfl rfl rfl (by decide +kernel)
set_option maxRecDepth 65536 in
theorem w_c1 : (Jvm.Cond.code ({ cls := "com/example/orderloom/orderloom/lifecycle/FalloutCaseStateAwaitsRepairPinLaw", name := "pick", desc := "(I)Lcom/example/orderloom/orderloom/lifecycle/FalloutCaseState;" } : Jvm.MethodName) method_2_code (1 : Nat) (Option.some (Jvm.ClassFile.FieldType.object "com/example/orderloom/orderloom/lifecycle/FalloutCaseState"))).before args0 about1 = true := code_word (m := ⟨1, 1⟩) (meth := k1m1) (c := k1c1) (by decide +kernel) rfl rfl rfl (by decide +kernel)
set_option maxRecDepth 65536 in
theorem w_c2 : (Jvm.Cond.code ({ cls := "com/example/orderloom/orderloom/lifecycle/FalloutCaseState", name := "awaitsRepair", desc := "()Z" } : Jvm.MethodName) prog_16_method_5_code (1 : Nat) (Option.some Jvm.ClassFile.FieldType.boolean)).before args0 about1 = true := code_word (m := ⟨6, 1⟩) (meth := k6m1) (c := k6c1) (by decide +kernel) rfl rfl rfl (by decide +kernel)
set_option maxRecDepth 65536 in
theorem w_c3 : (Jvm.Cond.code ({ cls := "com/example/orderloom/orderloom/lifecycle/FalloutCaseState", name := "blocksOrder", desc := "()Z" } : Jvm.MethodName) prog_16_method_4_code (1 : Nat) (Option.some Jvm.ClassFile.FieldType.boolean)).before args0 about1 = true := code_word (m := ⟨6, 0⟩) (meth := k6m0) (c := k6c0) (by decide +kernel) rfl rfl rfl (by decide +kernel)
def codes1 : List Jvm.Cond := [Jvm.Cond.code x code maxLocals ret, Jvm.Cond.code ({ cls := "com/example/orderloom/orderloom/lifecycle/FalloutCaseStateAwaitsRepairPinLaw", name := "pick", desc := "(I)Lcom/example/orderloom/orderloom/lifecycle/FalloutCaseState;" } : Jvm.MethodName) method_2_code (1 : Nat) (Option.some (Jvm.ClassFile.FieldType.object "com/example/orderloom/orderloom/lifecycle/FalloutCaseState")), Jvm.Cond.code ({ cls := "com/example/orderloom/orderloom/lifecycle/FalloutCaseState", name := "awaitsRepair", desc := "()Z" } : Jvm.MethodName) prog_16_method_5_code (1 : Nat) (Option.some Jvm.ClassFile.FieldType.boolean), Jvm.Cond.code ({ cls := "com/example/orderloom/orderloom/lifecycle/FalloutCaseState", name := "blocksOrder", desc := "()Z" } : Jvm.MethodName) prog_16_method_4_code (1 : Nat) (Option.some Jvm.ClassFile.FieldType.boolean)]
set_option maxRecDepth 65536 in
theorem codes_eq : words1.filter isCode = codes1 := rfl
theorem w_codes : ∀ c ∈ words1.filter isCode, c.before args0 about1 = true := by
  rw [codes_eq]
  intro c hc
  simp only [codes1, List.mem_cons, List.not_mem_nil, or_false] at hc
  rcases hc with rfl | rfl | rfl | rfl
  · exact w_c0
  · exact w_c1
  · exact w_c2
  · exact w_c3
set_option maxRecDepth 65536 in
theorem w_t1 : (words1.take 24).all (fun c => isCode c || c.before args0 about1) = true := by decide +kernel
set_option maxRecDepth 65536 in
theorem w_t2 : (words1.drop 24).all (fun c => isCode c || c.before args0 about1) = true := by decide +kernel
theorem w_tables : (allAtoms (Jvm.Cond.code x code maxLocals ret :: tables_1)).before args0 about1 = true := by
  rw [allAtoms_all]
  show words1.all (fun c => c.before args0 about1) = true
  refine all_split ?_ w_codes
  rw [← List.take_append_drop 24 words1, List.all_append, w_t1, w_t2]
  rfl
set_option maxRecDepth 65536 in
theorem w_case : (Jvm.Cond.and given_1 narrow_1).before args0 about1 = true := by decide +kernel
theorem w_applies : (headSpec (Jvm.Cond.code x code maxLocals ret :: tables_1) room_1).applies x e0.platform about1 = true :=
  (Spec.applies_iff w_frames).mpr ⟨w_running, w_runnable, w_alone, w_named, w_hears, w_ripe, w_room, w_tables⟩
theorem atStart : AtStart classFile x code maxLocals ret World_1 tables_1 room_1 Calls_1 rest_1 Pre_1 launch0 p0 e0 about1 theMethod args0 below0 :=
  ⟨lists_1, trivial, launch0.admits_env _ _ _, launch0.least_env, fairChoices_fair.cas, fairChoices_fair.clock, w_frames, w_args, w_heap, w_applies, trivial, trivial, w_case⟩
end start1
theorem witness_1 : WitnessClaimed_1 := ⟨start1.p0, start1.e0, start1.about1, start1.theMethod, start1.args0, start1.below0, start1.atStart⟩
end Jvm.Pilot.@@N@@
