import JvmDerived
import JvmDerived.Pilot.@@N@@Statement
import JvmDerived.Pilot.@@N@@Code
set_option linter.unusedVariables false
set_option linter.unusedSimpArgs false
namespace Jvm.Pilot.@@N@@
open Jvm Jvm.ClassFile Sem Op Lib Jvm.Free Jvm.Stand Jvm.LawKit Jvm.RoadKit Bundle Jvm.Pilot.@@N@@.Jvm.D
section Own
variable {p : Program} {l : Launch} {e : Env} {R : Room} {s : State} {m : MethodId} {args : Array Value} {below : List Frame} {meth : Method} {c : Code} {T : State} {locs : List Loc} {cells slots : Nat} {Z : State} {a0 : Array Value} {h h' : Heap} {Q : Option Value → Heap → List Loc → Prop} {C N : Nat}
/-- the run from F comes to the method's end, and Q holds of what it returns, of the heap and of the slots written -/
def own_Go (p : Program) (e : Env) (below : List Frame) (s : State) (Q : Option Value → Heap → List Loc → Prop) (C N : Nat) (F : State) : Prop :=
  ∃ s₂ o, Steps p.tables e below F s₂ ∧ s₂.status = .running ∧ Ended s₂ below o ∧ ∃ v L, o = .returned v ∧ Q v s₂.heap L ∧ FrameEnd s o s₂ L C N
theorem own_via {F F' : State} (k : ∀ t, Steps p.tables e below F' t → Steps p.tables e below F t) (h : own_Go p e below s Q C N F') : own_Go p e below s Q C N F := by
  obtain ⟨s₂, o, h1, r⟩ := h
  exact ⟨s₂, o, k _ h1, r⟩
/-- a method's contract: from the arguments as' and the heap h0 it returns, and Q holds -/
def own_Con (l : Launch) (Z : State) (y : MethodName) (bytes : ByteArray) (maxL : Nat) (ret : Option FieldType) (rm : Room) (as' : Array Value) (h0 : Heap) (Q : Option Value → Heap → List Loc → Prop) : Prop :=
  ∀ ws : List Jvm.Cond, MetFree l y (head1 (Jvm.Cond.code y bytes maxL ret :: ws) rm) (fun a U => a = as' ∧ Z.Warmed39 U.vm ∧ U.heap = h0) (fun _ _ _ _ _ => True) (fun _ U o U' => ∃ v L, o = .returned v ∧ Q v U'.heap L ∧ FrameEnd U o U' L rm.cells rm.slots)
theorem own_con {y : MethodName} {bytes : ByteArray} {maxL : Nat} {ret : Option FieldType} {rm : Room} {as' : Array Value} {h0 : Heap} (hp : plainName y.cls = true)
    (body : ∀ (p : Program) (e : Env) (s : State) (m : MethodId) (below : List Frame) (meth : Method) (c : Code) (T : State), p.tables.exec = Jvm.exec → c.code = bytes → c.maxLocals = maxL → Z.Warmed39 s.vm → s.vm.findClass y.cls = some m.cls → meth.name = y.name → meth.sig.returnType = ret → meth.locks = false →
      Stand p l e rm s m as' below meth c T [] 0 0 → T.heap = h0 → s.heap = h0 → own_Go p e below s Q rm.cells rm.slots (T.setTop (entryFrame m as' maxL))) : own_Con l Z y bytes maxL ret rm as' h0 Q := by
  intro ws
  refine MetFree.of_bodySF (plainFor_of_name hp) hisR ?_
  intro p e s m args below meth c s₁ Bd hml0 hP hK
  obtain ⟨ha, hZ, hh⟩ := hP
  subst ha
  exact body p e s m below meth c s₁ Bd.exec Bd.bytes hml0 hZ (findClass_of_methodNamed Bd.named) (name_of_methodNamed Bd.named Bd.method).1 Bd.returns Bd.notSynchronized (Stand.of_body Bd) (by rw [← hh, Bd.state]; rfl) hh
theorem own_leave (X : Stand p l e R s m args below meth c T locs cells slots) {F : JFrame} {v : Option Value} (hv : meth.sig.returnType = none → v = none) (hlk : meth.locks = false)
    (k : ∀ fs, (∀ (f : JFrame) (acts : List Action), f.method = m → f.locked = none → f.entered = [] → (doReturn e (T.setTop f) acts v).1 = T.setFrames fs) → Steps p.tables e below (T.setTop F) (T.setFrames fs))
    (hQ : Q v T.heap locs) (hc : cells ≤ C) (hn : slots ≤ N) : own_Go p e below s Q C N (T.setTop F) := by
  obtain ⟨fs, hr, hrun, hended, hW, hsame⟩ := X.leave (v := v) hv hlk
  exact ⟨_, _, k fs hr, hrun, hended, v, locs, rfl, hQ, ⟨v, rfl⟩, hW, hsame.mono hc hn⟩
theorem own_ret0 (X : Stand p l e R s m args below meth c T locs cells slots) (hx : p.tables.exec = Jvm.exec) {pc : Nat} {Ls : Array Slot} (hret : meth.sig.returnType = none) (hlk : meth.locks = false) (hd : decode c.code pc = .ok (.return_, 1))
    (hQ : Q none T.heap locs) (hc : cells ≤ C) (hn : slots ≤ N) : own_Go p e below s Q C N (T.setTop (mkF m pc Ls [])) :=
  own_leave X (fun _ => rfl) hlk (fun fs hr => X.returnOut hx hret hd hr) hQ hc hn
theorem own_retZ (X : Stand p l e R s m args below meth c T locs cells slots) (hx : p.tables.exec = Jvm.exec) {pc : Nat} {Ls : Array Slot} {z : Int32} {rest : List Value} (hret : meth.sig.returnType = some .boolean) (hlk : meth.locks = false) (hd : decode c.code pc = .ok (.ireturn, 1))
    (hQ : Q (some (.int (nar .boolean z))) T.heap locs) (hc : cells ≤ C) (hn : slots ≤ N) : own_Go p e below s Q C N (T.setTop (mkF m pc Ls (.int z :: rest))) :=
  own_leave X (fun h => by rw [hret] at h; cases h) hlk (fun fs hr => retN X hx (t := .boolean) hret (by simp) hd hr) hQ hc hn
theorem own_retI (X : Stand p l e R s m args below meth c T locs cells slots) (hx : p.tables.exec = Jvm.exec) {pc : Nat} {Ls : Array Slot} {z : Int32} {rest : List Value} (hret : meth.sig.returnType = some .int) (hlk : meth.locks = false) (hd : decode c.code pc = .ok (.ireturn, 1))
    (hQ : Q (some (.int z)) T.heap locs) (hc : cells ≤ C) (hn : slots ≤ N) : own_Go p e below s Q C N (T.setTop (mkF m pc Ls (.int z :: rest))) :=
  own_leave X (fun h => by rw [hret] at h; cases h) hlk (fun fs hr => retOut X hx (t := .int) hret rfl (Or.inl ⟨rfl, Or.inl rfl, z, rfl⟩) hd hr) hQ hc hn
theorem own_retJ (X : Stand p l e R s m args below meth c T locs cells slots) (hx : p.tables.exec = Jvm.exec) {pc : Nat} {Ls : Array Slot} {z : Int64} {rest : List Value} (hret : meth.sig.returnType = some .long) (hlk : meth.locks = false) (hd : decode c.code pc = .ok (.lreturn, 1))
    (hQ : Q (some (.long z)) T.heap locs) (hc : cells ≤ C) (hn : slots ≤ N) : own_Go p e below s Q C N (T.setTop (mkF m pc Ls (.long z :: rest))) :=
  own_leave X (fun h => by rw [hret] at h; cases h) hlk (fun fs hr => retOut X hx (t := .long) hret rfl (Or.inr (Or.inl ⟨rfl, rfl, z, rfl⟩)) hd hr) hQ hc hn
theorem own_retA (X : Stand p l e R s m args below meth c T locs cells slots) (hx : p.tables.exec = Jvm.exec) {pc : Nat} {Ls : Array Slot} {w : Value} {t : FieldType} {rest : List Value} (hret : meth.sig.returnType = some t) (ht : t.isReference = true) (hw : w.isRef = true) (hlk : meth.locks = false) (hd : decode c.code pc = .ok (.areturn, 1))
    (hQ : Q (some w) T.heap locs) (hc : cells ≤ C) (hn : slots ≤ N) : own_Go p e below s Q C N (T.setTop (mkF m pc Ls (w :: rest))) :=
  own_leave X (fun h => by rw [hret] at h; cases h) hlk (fun fs hr => retOut X hx (t := t) hret (by rcases ref_cases hw with rfl | ⟨a, rfl⟩ <;> cases t <;> first | rfl | cases ht) (Or.inr (Or.inr (Or.inr (Or.inr ⟨rfl, ht, hw⟩)))) hd hr) hQ hc hn
section Calls
variable {y z : MethodName} {bytes : ByteArray} {maxL : Nat} {ret : Option FieldType} {rm : Room} {as' : Array Value} {Qc : Option Value → Heap → List Loc → Prop} {own : String} {index : Nat} {g : JFrame} {argsL rest : List Value}
theorem own_callS (X : Stand p l e R s m args below meth c T locs cells slots) (hx : p.tables.exec = Jvm.exec) (hZ : Z.Warmed39 s.vm) (K : own_Con l Z y bytes maxL ret rm as' h Qc) (hown : s.vm.findClass own = some m.cls)
    (w1 : (Jvm.Cond.methodLink own index y).before a0 Z = true) (w2 : (Jvm.Cond.static y).before a0 Z = true) (w3 : (Jvm.Cond.initialized y.cls).before a0 Z = true) (w4 : (Jvm.Cond.code y bytes maxL ret).before a0 Z = true)
    (hy : y.cls ≠ "java/lang/invoke/MethodHandle" ∧ y.cls ≠ "java/lang/invoke/VarHandle") (eT : T.heap = h) (hg : g.method = m) (hsize : g.locals.size = c.maxLocals) (has : argsL.toArray = as')
    (hlen : ∀ sig, parseMethodDescriptor y.desc = some sig → argsL.length = sig.parameters.length) (hst : g.stack = argsL.reverse ++ rest) (W : Nat) (hW : 2 * g.monitorRoom + (rest.map fun v => v.category).sum ≤ W) (hd : decode c.code g.pc = .ok (.invokestatic index, 3))
    (hf : rm.frames + 1 ≤ R.frames) (hl : W + (maxL + 11) + rm.locals ≤ R.locals) (hc : cells + rm.cells ≤ R.cells) (hs : slots + rm.slots ≤ R.slots)
    (k : ∀ (v : Option Value) (T' : State) (L : List Loc), Qc v T'.heap L → Stand p l e R s m args below meth c T' (locs ++ L) (cells + rm.cells) (slots + rm.slots) → own_Go p e below s Q C N (T'.setTop { g with pc := g.pc + 3, stack := v.toList ++ rest })) :
    own_Go p e below s Q C N (T.setTop g) := by
  obtain ⟨v, _, ⟨T', L', k', n'⟩, -, X', ⟨Lc, hQ, l', y', z'⟩, st⟩ := Jvm.LawKit.callS X hx (y := y) hown (mvT hZ w1) (mvT hZ w2) (mvT hZ w3) (mvT hZ w4) hy (backOf (W := W) (K []) hZ w4 w3 hf hl) (g := g) hg hsize (argsL := argsL) (rest := rest) hlen hst hW hd (fun _ _ => ⟨has, eT, hc, hs⟩)
  dsimp only [Pt.U, Pt.locs, Pt.cells, Pt.slots] at X' l' y' z' st hQ
  subst l' y' z'
  exact own_via st (k v T' Lc hQ X')
theorem own_callI (X : Stand p l e R s m args below meth c T locs cells slots) (hx : p.tables.exec = Jvm.exec) (hZ : Z.Warmed39 s.vm) (K : own_Con l Z y bytes maxL none rm as' h Qc) (hown : s.vm.findClass own = some m.cls) (hy1 : y.name = "<init>")
    (w1 : (Jvm.Cond.methodLink own index y).before a0 Z = true) (w2 : (Jvm.Cond.instanceMethod y).before a0 Z = true) (w3 : (Jvm.Cond.initialized y.cls).before a0 Z = true) (w4 : (Jvm.Cond.code y bytes maxL none).before a0 Z = true)
    (hy : y.cls ≠ "java/lang/invoke/MethodHandle" ∧ y.cls ≠ "java/lang/invoke/VarHandle") (eT : T.heap = h) (hg : g.method = m) (hsize : g.locals.size = c.maxLocals) {a : Addr} (has : (.ref a :: argsL).toArray = as')
    (hlen : ∀ sig, parseMethodDescriptor y.desc = some sig → argsL.length = sig.parameters.length) (hst : g.stack = argsL.reverse ++ .ref a :: rest) (W : Nat) (hW : 2 * g.monitorRoom + (rest.map fun v => v.category).sum ≤ W) (hd : decode c.code g.pc = .ok (.invokespecial index, 3))
    (hf : rm.frames + 1 ≤ R.frames) (hl : W + (maxL + 11) + rm.locals ≤ R.locals) (hc : cells + rm.cells ≤ R.cells) (hs : slots + rm.slots ≤ R.slots)
    (k : ∀ (v : Option Value) (T' : State) (L : List Loc), Qc v T'.heap L → Stand p l e R s m args below meth c T' (locs ++ L) (cells + rm.cells) (slots + rm.slots) → own_Go p e below s Q C N (T'.setTop { g with pc := g.pc + 3, stack := v.toList ++ rest })) :
    own_Go p e below s Q C N (T.setTop g) := by
  obtain ⟨v, _, ⟨T', L', k', n'⟩, -, X', ⟨Lc, hQ, l', y', z'⟩, st⟩ := X.specialBack hx (y := y) hy1 hown (mvT hZ w1) (mvT hZ w2) (mvT hZ w4) hy (backOf (W := W) (K []) hZ w4 w3 hf hl) (g := g) hg hsize (Steps.refl _) (a := a) (argsL := argsL) (rest := rest) hlen hst hW hd (fun _ _ => ⟨has, eT, hc, hs⟩)
  dsimp only [Pt.U, Pt.locs, Pt.cells, Pt.slots] at X' l' y' z' st hQ
  subst l' y' z'
  exact own_via (fun t q => st.trans q) (k v T' Lc hQ X')
theorem own_callV (X : Stand p l e R s m args below meth c T locs cells slots) (hx : p.tables.exec = Jvm.exec) (hZ : Z.Warmed39 s.vm) (K : own_Con l Z z bytes maxL ret rm as' h Qc) (hown : s.vm.findClass own = some m.cls) {CC : String} {a : Addr} (E : Exa Z h a CC)
    (w1 : (Jvm.Cond.methodLink own index y).before a0 Z = true) (w5 : (Jvm.Cond.declares y).before a0 Z = true) (w6 : (Jvm.Cond.selects CC y z).before a0 Z = true) (w2 : (Jvm.Cond.instanceMethod z).before a0 Z = true) (w3 : (Jvm.Cond.initialized z.cls).before a0 Z = true) (w4 : (Jvm.Cond.code z bytes maxL ret).before a0 Z = true)
    (nf : NotFace s y) (hy : y.cls ≠ "java/lang/invoke/MethodHandle" ∧ y.cls ≠ "java/lang/invoke/VarHandle") (eT : T.heap = h) (hg : g.method = m) (hsize : g.locals.size = c.maxLocals) (has : (.ref a :: argsL).toArray = as')
    (hlen : ∀ sig, parseMethodDescriptor y.desc = some sig → argsL.length = sig.parameters.length) (hst : g.stack = argsL.reverse ++ .ref a :: rest) (W : Nat) (hW : 2 * g.monitorRoom + (rest.map fun v => v.category).sum ≤ W) (hd : decode c.code g.pc = .ok (.invokevirtual index, 3))
    (hf : rm.frames + 1 ≤ R.frames) (hl : W + (maxL + 11) + rm.locals ≤ R.locals) (hc : cells + rm.cells ≤ R.cells) (hs : slots + rm.slots ≤ R.slots)
    (k : ∀ (v : Option Value) (T' : State) (L : List Loc), Qc v T'.heap L → Stand p l e R s m args below meth c T' (locs ++ L) (cells + rm.cells) (slots + rm.slots) → own_Go p e below s Q C N (T'.setTop { g with pc := g.pc + 3, stack := v.toList ++ rest })) :
    own_Go p e below s Q C N (T.setTop g) := by
  obtain ⟨cB, kB, q1, q2, q3⟩ := isOf hZ eT E
  obtain ⟨v, _, ⟨T', L', k', n'⟩, -, X', ⟨Lc, hQ, l', y', z'⟩, st⟩ := X.virtualBack hx (y := y) (z := z) hown (mvT hZ w1) (mvT hZ w5) nf (mvT hZ w6) (mvT hZ w2) hy (backOf (W := W) (K []) hZ w4 w3 hf hl) q1 q3 (g := g) hg hsize (Steps.refl _) (argsL := argsL) (rest := rest) hlen hst hW hd (fun _ _ => ⟨has, eT, hc, hs⟩)
  dsimp only [Pt.U, Pt.locs, Pt.cells, Pt.slots] at X' l' y' z' st hQ
  subst l' y' z'
  exact own_via (fun t q => st.trans q) (k v T' Lc hQ X')
end Calls
theorem own_eqi {t : Term} {n : Int32} (h : (Jvm.Cond.eq t (Term.int n)).value a0 Z none Z [] = some true) : t.eval a0 Z none [] Z = some (.int n) := by
  obtain ⟨x, y, e1, e2, k1, k2⟩ := cmp_v (Or.inl h)
  have e3 : y = .int n := (Option.some.inj e2).symm
  subst e3
  obtain ⟨w, rfl⟩ := k2
  have q : (Jvm.Cond.eq t (Term.int n)).value a0 Z none Z [] = some (decide (w = n)) := by simp [Jvm.Cond.value, e1, e2]
  rw [e1, gotT q h]
theorem own_fld {t : Term} {a : Addr} {CC f d : String} {v : Value} (ev : t.eval a0 Z none [] Z = some (.ref a)) (h : (Term.field t CC f d).eval a0 Z none [] Z = some v) : Fld Z Z.heap a CC f d v :=
  Fld.start ((fld_at ev).symm.trans h)
end Own
theorem own_pd0 : parseMethodDescriptor "(ZJLjava/time/Duration;Z)V" = some ⟨[.boolean, .long, (.object "java/time/Duration"), .boolean], none⟩ := by decide +kernel
theorem own_pd1 : parseMethodDescriptor "(Ljava/lang/Object;)Z" = some ⟨[(.object "java/lang/Object")], some .boolean⟩ := by decide +kernel
theorem own_pd2 : parseMethodDescriptor "(J)Lcom/example/refill/refill/bucket/Decision;" = some ⟨[.long], some (.object "com/example/refill/refill/bucket/Decision")⟩ := by decide +kernel
theorem own_pd3 : parseMethodDescriptor "(Z)Lcom/example/refill/refill/bucket/Decision;" = some ⟨[.boolean], some (.object "com/example/refill/refill/bucket/Decision")⟩ := by decide +kernel
theorem own_pd4 : parseMethodDescriptor "()Z" = some ⟨[], some .boolean⟩ := by decide +kernel
theorem own_pd5 : parseMethodDescriptor "()J" = some ⟨[], some .long⟩ := by decide +kernel
theorem own_pd6 : parseMethodDescriptor "()Ljava/time/Duration;" = some ⟨[], some (.object "java/time/Duration")⟩ := by decide +kernel
theorem own_pn : plainName "com/example/refill/refill/bucket/Decision" = true := by first | (simp [plainName, overriddenIn]; done) | decide +kernel
theorem own_pnL : plainName "com/example/refill/refill/bucket/DecisionAllowedPinLaw" = true := by first | (simp [plainName, overriddenIn]; done) | decide +kernel
theorem own_pnD : plainName "java/time/Duration" = true := by first | (simp [plainName, overriddenIn]; done) | decide +kernel
theorem d1_0 : decode prog_2_method_2_code 0 = .ok (.new 8, 3) := by decide +kernel
theorem d1_3 : decode prog_2_method_2_code 3 = .ok (.dup, 1) := by decide +kernel
theorem d1_4 : decode prog_2_method_2_code 4 = .ok (.iconst 1, 1) := by decide +kernel
theorem d1_5 : decode prog_2_method_2_code 5 = .ok (.lload_n 0, 1) := by decide +kernel
theorem d1_6 : decode prog_2_method_2_code 6 = .ok (.getstatic 24, 3) := by decide +kernel
theorem d1_9 : decode prog_2_method_2_code 9 = .ok (.iconst 0, 1) := by decide +kernel
theorem d1_10 : decode prog_2_method_2_code 10 = .ok (.invokespecial 29, 3) := by decide +kernel
theorem d1_13 : decode prog_2_method_2_code 13 = .ok (.areturn, 1) := by decide +kernel
theorem d2_0 : decode prog_2_method_1_code 0 = .ok (.aload_n 0, 1) := by decide +kernel
theorem d2_1 : decode prog_2_method_1_code 1 = .ok (.invokespecial 1, 3) := by decide +kernel
theorem d2_4 : decode prog_2_method_1_code 4 = .ok (.aload_n 0, 1) := by decide +kernel
theorem d2_5 : decode prog_2_method_1_code 5 = .ok (.iload_n 1, 1) := by decide +kernel
theorem d2_6 : decode prog_2_method_1_code 6 = .ok (.putfield 7, 3) := by decide +kernel
theorem d2_9 : decode prog_2_method_1_code 9 = .ok (.aload_n 0, 1) := by decide +kernel
theorem d2_10 : decode prog_2_method_1_code 10 = .ok (.lload_n 2, 1) := by decide +kernel
theorem d2_11 : decode prog_2_method_1_code 11 = .ok (.putfield 13, 3) := by decide +kernel
theorem d2_14 : decode prog_2_method_1_code 14 = .ok (.aload_n 0, 1) := by decide +kernel
theorem d2_15 : decode prog_2_method_1_code 15 = .ok (.aload 4, 2) := by decide +kernel
theorem d2_17 : decode prog_2_method_1_code 17 = .ok (.putfield 17, 3) := by decide +kernel
theorem d2_20 : decode prog_2_method_1_code 20 = .ok (.aload_n 0, 1) := by decide +kernel
theorem d2_21 : decode prog_2_method_1_code 21 = .ok (.iload 5, 2) := by decide +kernel
theorem d2_23 : decode prog_2_method_1_code 23 = .ok (.putfield 21, 3) := by decide +kernel
theorem d2_26 : decode prog_2_method_1_code 26 = .ok (.return_, 1) := by decide +kernel
theorem d4_0 : decode prog_2_method_4_code 0 = .ok (.new 8, 3) := by decide +kernel
theorem d4_3 : decode prog_2_method_4_code 3 = .ok (.dup, 1) := by decide +kernel
theorem d4_4 : decode prog_2_method_4_code 4 = .ok (.iload_n 0, 1) := by decide +kernel
theorem d4_5 : decode prog_2_method_4_code 5 = .ok (.lconst 0, 1) := by decide +kernel
theorem d4_6 : decode prog_2_method_4_code 6 = .ok (.getstatic 24, 3) := by decide +kernel
theorem d4_9 : decode prog_2_method_4_code 9 = .ok (.iconst 1, 1) := by decide +kernel
theorem d4_10 : decode prog_2_method_4_code 10 = .ok (.invokespecial 29, 3) := by decide +kernel
theorem d4_13 : decode prog_2_method_4_code 13 = .ok (.areturn, 1) := by decide +kernel
theorem d5_0 : decode prog_2_method_5_code 0 = .ok (.aload_n 0, 1) := by decide +kernel
theorem d5_1 : decode prog_2_method_5_code 1 = .ok (.getfield 7, 3) := by decide +kernel
theorem d5_4 : decode prog_2_method_5_code 4 = .ok (.ireturn, 1) := by decide +kernel
theorem d6_0 : decode prog_2_method_6_code 0 = .ok (.aload_n 0, 1) := by decide +kernel
theorem d6_1 : decode prog_2_method_6_code 1 = .ok (.getfield 13, 3) := by decide +kernel
theorem d6_4 : decode prog_2_method_6_code 4 = .ok (.lreturn, 1) := by decide +kernel
theorem d7_0 : decode prog_2_method_8_code 0 = .ok (.aload_n 0, 1) := by decide +kernel
theorem d7_1 : decode prog_2_method_8_code 1 = .ok (.getfield 21, 3) := by decide +kernel
theorem d7_4 : decode prog_2_method_8_code 4 = .ok (.ireturn, 1) := by decide +kernel
theorem d8_0 : decode prog_2_method_7_code 0 = .ok (.aload_n 0, 1) := by decide +kernel
theorem d8_1 : decode prog_2_method_7_code 1 = .ok (.getfield 17, 3) := by decide +kernel
theorem d8_4 : decode prog_2_method_7_code 4 = .ok (.areturn, 1) := by decide +kernel
theorem d9_0 : decode jdk_2316_method_67_code 0 = .ok (.aload_n 0, 1) := by decide +kernel
theorem d9_1 : decode jdk_2316_method_67_code 1 = .ok (.aload_n 1, 1) := by decide +kernel
theorem d9_2 : decode jdk_2316_method_67_code 2 = .ok (.if_acmp .ne 5, 3) := by decide +kernel
theorem d9_5 : decode jdk_2316_method_67_code 5 = .ok (.iconst 1, 1) := by decide +kernel
theorem d9_6 : decode jdk_2316_method_67_code 6 = .ok (.ireturn, 1) := by decide +kernel
theorem d9_7 : decode jdk_2316_method_67_code 7 = .ok (.aload_n 1, 1) := by decide +kernel
theorem d9_8 : decode jdk_2316_method_67_code 8 = .ok (.instanceof 11, 3) := by decide +kernel
theorem d9_11 : decode jdk_2316_method_67_code 11 = .ok (.ifCond .eq 35, 3) := by decide +kernel
theorem d9_14 : decode jdk_2316_method_67_code 14 = .ok (.aload_n 1, 1) := by decide +kernel
theorem d9_15 : decode jdk_2316_method_67_code 15 = .ok (.checkcast 11, 3) := by decide +kernel
theorem d9_18 : decode jdk_2316_method_67_code 18 = .ok (.astore_n 2, 1) := by decide +kernel
theorem d9_19 : decode jdk_2316_method_67_code 19 = .ok (.aload_n 0, 1) := by decide +kernel
theorem d9_20 : decode jdk_2316_method_67_code 20 = .ok (.getfield 221, 3) := by decide +kernel
theorem d9_23 : decode jdk_2316_method_67_code 23 = .ok (.aload_n 2, 1) := by decide +kernel
theorem d9_24 : decode jdk_2316_method_67_code 24 = .ok (.getfield 221, 3) := by decide +kernel
theorem d9_27 : decode jdk_2316_method_67_code 27 = .ok (.lcmp, 1) := by decide +kernel
theorem d9_28 : decode jdk_2316_method_67_code 28 = .ok (.ifCond .ne 18, 3) := by decide +kernel
theorem d9_31 : decode jdk_2316_method_67_code 31 = .ok (.aload_n 0, 1) := by decide +kernel
theorem d9_32 : decode jdk_2316_method_67_code 32 = .ok (.getfield 224, 3) := by decide +kernel
theorem d9_35 : decode jdk_2316_method_67_code 35 = .ok (.aload_n 2, 1) := by decide +kernel
theorem d9_36 : decode jdk_2316_method_67_code 36 = .ok (.getfield 224, 3) := by decide +kernel
theorem d9_39 : decode jdk_2316_method_67_code 39 = .ok (.if_icmp .ne 7, 3) := by decide +kernel
theorem d9_42 : decode jdk_2316_method_67_code 42 = .ok (.iconst 1, 1) := by decide +kernel
theorem d9_43 : decode jdk_2316_method_67_code 43 = .ok (.goto 4, 3) := by decide +kernel
theorem d9_46 : decode jdk_2316_method_67_code 46 = .ok (.iconst 0, 1) := by decide +kernel
theorem d9_47 : decode jdk_2316_method_67_code 47 = .ok (.ireturn, 1) := by decide +kernel
theorem d10_0 : decode prog_2_method_9_code 0 = .ok (.aload_n 1, 1) := by decide +kernel
theorem d10_1 : decode prog_2_method_9_code 1 = .ok (.instanceof 8, 3) := by decide +kernel
theorem d10_4 : decode prog_2_method_9_code 4 = .ok (.ifCond .eq 60, 3) := by decide +kernel
theorem d10_7 : decode prog_2_method_9_code 7 = .ok (.aload_n 1, 1) := by decide +kernel
theorem d10_8 : decode prog_2_method_9_code 8 = .ok (.checkcast 8, 3) := by decide +kernel
theorem d10_11 : decode prog_2_method_9_code 11 = .ok (.astore_n 2, 1) := by decide +kernel
theorem d10_12 : decode prog_2_method_9_code 12 = .ok (.aload_n 0, 1) := by decide +kernel
theorem d10_13 : decode prog_2_method_9_code 13 = .ok (.getfield 7, 3) := by decide +kernel
theorem d10_16 : decode prog_2_method_9_code 16 = .ok (.aload_n 2, 1) := by decide +kernel
theorem d10_17 : decode prog_2_method_9_code 17 = .ok (.getfield 7, 3) := by decide +kernel
theorem d10_20 : decode prog_2_method_9_code 20 = .ok (.if_icmp .ne 44, 3) := by decide +kernel
theorem d10_23 : decode prog_2_method_9_code 23 = .ok (.aload_n 0, 1) := by decide +kernel
theorem d10_24 : decode prog_2_method_9_code 24 = .ok (.getfield 13, 3) := by decide +kernel
theorem d10_27 : decode prog_2_method_9_code 27 = .ok (.aload_n 2, 1) := by decide +kernel
theorem d10_28 : decode prog_2_method_9_code 28 = .ok (.getfield 13, 3) := by decide +kernel
theorem d10_31 : decode prog_2_method_9_code 31 = .ok (.lcmp, 1) := by decide +kernel
theorem d10_32 : decode prog_2_method_9_code 32 = .ok (.ifCond .ne 32, 3) := by decide +kernel
theorem d10_35 : decode prog_2_method_9_code 35 = .ok (.aload_n 0, 1) := by decide +kernel
theorem d10_36 : decode prog_2_method_9_code 36 = .ok (.getfield 17, 3) := by decide +kernel
theorem d10_39 : decode prog_2_method_9_code 39 = .ok (.aload_n 2, 1) := by decide +kernel
theorem d10_40 : decode prog_2_method_9_code 40 = .ok (.getfield 17, 3) := by decide +kernel
theorem d10_43 : decode prog_2_method_9_code 43 = .ok (.invokevirtual 39, 3) := by decide +kernel
theorem d10_46 : decode prog_2_method_9_code 46 = .ok (.ifCond .eq 18, 3) := by decide +kernel
theorem d10_49 : decode prog_2_method_9_code 49 = .ok (.aload_n 0, 1) := by decide +kernel
theorem d10_50 : decode prog_2_method_9_code 50 = .ok (.getfield 21, 3) := by decide +kernel
theorem d10_53 : decode prog_2_method_9_code 53 = .ok (.aload_n 2, 1) := by decide +kernel
theorem d10_54 : decode prog_2_method_9_code 54 = .ok (.getfield 21, 3) := by decide +kernel
theorem d10_57 : decode prog_2_method_9_code 57 = .ok (.if_icmp .ne 7, 3) := by decide +kernel
theorem d10_60 : decode prog_2_method_9_code 60 = .ok (.iconst 1, 1) := by decide +kernel
theorem d10_61 : decode prog_2_method_9_code 61 = .ok (.goto 4, 3) := by decide +kernel
theorem d10_64 : decode prog_2_method_9_code 64 = .ok (.iconst 0, 1) := by decide +kernel
theorem d10_65 : decode prog_2_method_9_code 65 = .ok (.ireturn, 1) := by decide +kernel
theorem own_efi (m : MethodId) (x0 : Addr) (x1 : Int32) (x2 : Int64) (x3 : Addr) (x4 : Int32) : entryFrame m #[(.ref x0), (.int x1), (.long x2), (.ref x3), (.int x4)] 6 = mkF m 0 #[.val (.ref x0), .val (.int x1), .val (.long x2), .second, .val (.ref x3), .val (.int x4)] [] := by first | (simp [entryFrame, mkF, argsToLocals, Value.category]; done) | rfl
set_option maxRecDepth 65536 in
set_option maxHeartbeats 40000000 in
theorem own_kd (l : Launch) (Z : State) (az : Array Value) (hw : ∀ d ∈ tables_1, d.before az Z = true) (a : Addr) (z1 : Int32) (r : Int64) (d : Addr) (z2 : Int32) (h0 : Heap) (n0 : Nat) (hz1 : narrow .boolean (.int z1) = .int z1) (fz1 : fits .boolean (.int z1) = true) (hz2 : narrow .boolean (.int z2) = .int z2) (fz2 : fits .boolean (.int z2) = true) (E0 : Exa Z h0 a "com/example/refill/refill/bucket/Decision") (F1 : Fld Z h0 a "com/example/refill/refill/bucket/Decision" "allowed" "Z" (.int (0 : Int32))) (F2 : Fld Z h0 a "com/example/refill/refill/bucket/Decision" "remaining" "J" (.long (0 : Int64))) (F3 : Fld Z h0 a "com/example/refill/refill/bucket/Decision" "retryAfter" "Ljava/time/Duration;" .null) (F4 : Fld Z h0 a "com/example/refill/refill/bucket/Decision" "fallback" "Z" (.int (0 : Int32))) (G0 : n0 ≤ a) :
    own_Con l Z (⟨"com/example/refill/refill/bucket/Decision", "<init>", "(ZJLjava/time/Duration;Z)V"⟩ : MethodName) prog_2_method_1_code 6 none ({ frames := 1, cells := 0, slots := 0, locals := 12 } : Room) #[(.ref a), (.int z1), (.long r), (.ref d), (.int z2)] h0 (fun v h L => v = none ∧ Fr n0 L ∧ Keep h0 h [a] ∧ Exa Z h a "com/example/refill/refill/bucket/Decision" ∧ Fld Z h a "com/example/refill/refill/bucket/Decision" "allowed" "Z" (.int z1) ∧ Fld Z h a "com/example/refill/refill/bucket/Decision" "remaining" "J" (.long r) ∧ Fld Z h a "com/example/refill/refill/bucket/Decision" "retryAfter" "Ljava/time/Duration;" (.ref d) ∧ Fld Z h a "com/example/refill/refill/bucket/Decision" "fallback" "Z" (.int z2)) := by
  refine own_con own_pn ?_
  intro p e s m below meth c T0 hx hby hml hZ hown hnm hret hlk X0 e0 eh
  refine own_via (F' := T0.setTop (mkF m 0 #[.val (.ref a), .val (.int z1), .val (.long r), .second, .val (.ref d), .val (.int z2)] [])) (fun t k => castTop (own_efi m a z1 r d z2) k) ?_
  refine own_via (F' := T0.setTop (mkF m 1 #[.val (.ref a), .val (.int z1), .val (.long r), .second, .val (.ref d), .val (.int z2)] [(.ref a)])) (fun t k => XS.aloadN X0.here hx rfl (hb hby d2_0) rfl rfl k) ?_
  obtain ⟨T11, X11, e11, s11⟩ := initO X0 hx hZ hown (hw _ (List.mem_of_getElem? (i := 11) rfl)) (hw _ (List.mem_of_getElem? (i := 12) rfl)) (hw _ (List.mem_of_getElem? (i := 13) rfl)) e0 (g := (mkF m 1 #[.val (.ref a), .val (.int z1), .val (.long r), .second, .val (.ref d), .val (.int z2)] [(.ref a)])) rfl (by rw [hml]; rfl) rfl (hb hby d2_1) (by decide) (W := 0) (by show 2 * 0 + _ ≤ _; exact Nat.le_of_eq rfl) (by decide)
  refine own_via (F' := T11.setTop (mkF m 4 #[.val (.ref a), .val (.int z1), .val (.long r), .second, .val (.ref d), .val (.int z2)] [])) s11 ?_
  refine own_via (F' := T11.setTop (mkF m 5 #[.val (.ref a), .val (.int z1), .val (.long r), .second, .val (.ref d), .val (.int z2)] [(.ref a)])) (fun t k => XS.aloadN X11.here hx rfl (hb hby d2_4) rfl rfl k) ?_
  refine own_via (F' := T11.setTop (mkF m 6 #[.val (.ref a), .val (.int z1), .val (.long r), .second, .val (.ref d), .val (.int z2)] [(.int z1), (.ref a)])) (fun t k => XS.iloadN X11.here hx rfl (hb hby d2_5) rfl k) ?_
  obtain ⟨T12, h12, X12, e12, W12, s12⟩ := putF X11 hx hZ hown (host := "") (Or.inl (hw _ (List.mem_of_getElem? (i := 14) rfl))) Via.refl e11 F1 E0 (Or.inr ⟨(hw _ (List.mem_of_getElem? (i := 15) rfl)), rfl, hnm⟩) (hw _ (List.mem_of_getElem? (i := 5) rfl)) (ty := .boolean) (by decide) hz1 fz1 (g := (mkF m 6 #[.val (.ref a), .val (.int z1), .val (.long r), .second, .val (.ref d), .val (.int z2)] [(.int z1), (.ref a)])) rfl rfl (hb hby d2_6)
  have F12 := F1.same W12
  have N12 := Fr.snoc X12 (Fr.nil n0) G0
  refine own_via (F' := T12.setTop (mkF m 9 #[.val (.ref a), .val (.int z1), .val (.long r), .second, .val (.ref d), .val (.int z2)] [])) s12 ?_
  refine own_via (F' := T12.setTop (mkF m 10 #[.val (.ref a), .val (.int z1), .val (.long r), .second, .val (.ref d), .val (.int z2)] [(.ref a)])) (fun t k => XS.aloadN X12.here hx rfl (hb hby d2_9) rfl rfl k) ?_
  refine own_via (F' := T12.setTop (mkF m 11 #[.val (.ref a), .val (.int z1), .val (.long r), .second, .val (.ref d), .val (.int z2)] [(.long r), (.ref a)])) (fun t k => XT.lloadN X12.here hx rfl (hb hby d2_10) rfl k) ?_
  have f13 := (F2.other W12 (Or.inr (slot_ne (Or.inr (hw _ (List.mem_of_getElem? (i := 17) rfl))) (Or.inr (hw _ (List.mem_of_getElem? (i := 15) rfl))) (by decide) (t := .long) (t' := .boolean) (by decide) (by decide))))
  have f14 := (E0.wr W12)
  obtain ⟨T15, h15, X15, e15, W15, s15⟩ := putF X12 hx hZ hown (host := "") (Or.inl (hw _ (List.mem_of_getElem? (i := 16) rfl))) Via.refl e12 f13 f14 (Or.inr ⟨(hw _ (List.mem_of_getElem? (i := 17) rfl)), rfl, hnm⟩) (hw _ (List.mem_of_getElem? (i := 5) rfl)) (ty := .long) (by decide) rfl rfl (g := (mkF m 11 #[.val (.ref a), .val (.int z1), .val (.long r), .second, .val (.ref d), .val (.int z2)] [(.long r), (.ref a)])) rfl rfl (hb hby d2_11)
  have F15 := f13.same W15
  have N15 := Fr.snoc X15 N12 G0
  refine own_via (F' := T15.setTop (mkF m 14 #[.val (.ref a), .val (.int z1), .val (.long r), .second, .val (.ref d), .val (.int z2)] [])) s15 ?_
  refine own_via (F' := T15.setTop (mkF m 15 #[.val (.ref a), .val (.int z1), .val (.long r), .second, .val (.ref d), .val (.int z2)] [(.ref a)])) (fun t k => XS.aloadN X15.here hx rfl (hb hby d2_14) rfl rfl k) ?_
  refine own_via (F' := T15.setTop (mkF m 17 #[.val (.ref a), .val (.int z1), .val (.long r), .second, .val (.ref d), .val (.int z2)] [(.ref d), (.ref a)])) (fun t k => XS.aload X15.here hx rfl (hb hby d2_15) rfl rfl k) ?_
  have f16 := ((F3.other W12 (Or.inr (slot_ne (Or.inr (hw _ (List.mem_of_getElem? (i := 19) rfl))) (Or.inr (hw _ (List.mem_of_getElem? (i := 15) rfl))) (by decide) (t := (.object "java/time/Duration")) (t' := .boolean) (by decide) (by decide)))).other W15 (Or.inr (slot_ne (Or.inr (hw _ (List.mem_of_getElem? (i := 19) rfl))) (Or.inr (hw _ (List.mem_of_getElem? (i := 17) rfl))) (by decide) (t := (.object "java/time/Duration")) (t' := .long) (by decide) (by decide))))
  have f17 := (f14.wr W15)
  obtain ⟨T18, h18, X18, e18, W18, s18⟩ := putF X15 hx hZ hown (host := "") (Or.inl (hw _ (List.mem_of_getElem? (i := 18) rfl))) Via.refl e15 f16 f17 (Or.inr ⟨(hw _ (List.mem_of_getElem? (i := 19) rfl)), rfl, hnm⟩) (hw _ (List.mem_of_getElem? (i := 5) rfl)) (ty := .object "java/time/Duration") (by decide) rfl rfl (g := (mkF m 17 #[.val (.ref a), .val (.int z1), .val (.long r), .second, .val (.ref d), .val (.int z2)] [(.ref d), (.ref a)])) rfl rfl (hb hby d2_17)
  have F18 := f16.same W18
  have N18 := Fr.snoc X18 N15 G0
  refine own_via (F' := T18.setTop (mkF m 20 #[.val (.ref a), .val (.int z1), .val (.long r), .second, .val (.ref d), .val (.int z2)] [])) s18 ?_
  refine own_via (F' := T18.setTop (mkF m 21 #[.val (.ref a), .val (.int z1), .val (.long r), .second, .val (.ref d), .val (.int z2)] [(.ref a)])) (fun t k => XS.aloadN X18.here hx rfl (hb hby d2_20) rfl rfl k) ?_
  refine own_via (F' := T18.setTop (mkF m 23 #[.val (.ref a), .val (.int z1), .val (.long r), .second, .val (.ref d), .val (.int z2)] [(.int z2), (.ref a)])) (fun t k => XS.iload X18.here hx rfl (hb hby d2_21) rfl k) ?_
  have f19 := (((F4.other W12 (Or.inr (slot_ne (Or.inr (hw _ (List.mem_of_getElem? (i := 21) rfl))) (Or.inr (hw _ (List.mem_of_getElem? (i := 15) rfl))) (by decide) (t := .boolean) (t' := .boolean) (by decide) (by decide)))).other W15 (Or.inr (slot_ne (Or.inr (hw _ (List.mem_of_getElem? (i := 21) rfl))) (Or.inr (hw _ (List.mem_of_getElem? (i := 17) rfl))) (by decide) (t := .boolean) (t' := .long) (by decide) (by decide)))).other W18 (Or.inr (slot_ne (Or.inr (hw _ (List.mem_of_getElem? (i := 21) rfl))) (Or.inr (hw _ (List.mem_of_getElem? (i := 19) rfl))) (by decide) (t := .boolean) (t' := (.object "java/time/Duration")) (by decide) (by decide))))
  have f20 := (f17.wr W18)
  obtain ⟨T21, h21, X21, e21, W21, s21⟩ := putF X18 hx hZ hown (host := "") (Or.inl (hw _ (List.mem_of_getElem? (i := 20) rfl))) Via.refl e18 f19 f20 (Or.inr ⟨(hw _ (List.mem_of_getElem? (i := 21) rfl)), rfl, hnm⟩) (hw _ (List.mem_of_getElem? (i := 5) rfl)) (ty := .boolean) (by decide) hz2 fz2 (g := (mkF m 23 #[.val (.ref a), .val (.int z1), .val (.long r), .second, .val (.ref d), .val (.int z2)] [(.int z2), (.ref a)])) rfl rfl (hb hby d2_23)
  have F21 := f19.same W21
  have N21 := Fr.snoc X21 N18 G0
  refine own_via (F' := T21.setTop (mkF m 26 #[.val (.ref a), .val (.int z1), .val (.long r), .second, .val (.ref d), .val (.int z2)] [])) s21 ?_
  have f22 := (f20.wr W21)
  have f23 := (((F12.other W15 (Or.inr (slot_ne (Or.inr (hw _ (List.mem_of_getElem? (i := 15) rfl))) (Or.inr (hw _ (List.mem_of_getElem? (i := 17) rfl))) (by decide) (t := .boolean) (t' := .long) (by decide) (by decide)))).other W18 (Or.inr (slot_ne (Or.inr (hw _ (List.mem_of_getElem? (i := 15) rfl))) (Or.inr (hw _ (List.mem_of_getElem? (i := 19) rfl))) (by decide) (t := .boolean) (t' := (.object "java/time/Duration")) (by decide) (by decide)))).other W21 (Or.inr (slot_ne (Or.inr (hw _ (List.mem_of_getElem? (i := 15) rfl))) (Or.inr (hw _ (List.mem_of_getElem? (i := 21) rfl))) (by decide) (t := .boolean) (t' := .boolean) (by decide) (by decide))))
  have f24 := ((F15.other W18 (Or.inr (slot_ne (Or.inr (hw _ (List.mem_of_getElem? (i := 17) rfl))) (Or.inr (hw _ (List.mem_of_getElem? (i := 19) rfl))) (by decide) (t := .long) (t' := (.object "java/time/Duration")) (by decide) (by decide)))).other W21 (Or.inr (slot_ne (Or.inr (hw _ (List.mem_of_getElem? (i := 17) rfl))) (Or.inr (hw _ (List.mem_of_getElem? (i := 21) rfl))) (by decide) (t := .long) (t' := .boolean) (by decide) (by decide))))
  have f25 := (F18.other W21 (Or.inr (slot_ne (Or.inr (hw _ (List.mem_of_getElem? (i := 19) rfl))) (Or.inr (hw _ (List.mem_of_getElem? (i := 21) rfl))) (by decide) (t := (.object "java/time/Duration")) (t' := .boolean) (by decide) (by decide))))
  exact own_ret0 X21 hx hret hlk (hb hby d2_26) (by rw [e21]; exact ⟨rfl, N21, (((((Keep.refl h0 [a]).wr W12 (Or.inl (List.mem_of_getElem? (i := 0) rfl))).wr W15 (Or.inl (List.mem_of_getElem? (i := 0) rfl))).wr W18 (Or.inl (List.mem_of_getElem? (i := 0) rfl))).wr W21 (Or.inl (List.mem_of_getElem? (i := 0) rfl))), f22, f23, f24, f25, F21⟩) (Nat.le_refl _) (Nat.le_refl _)
theorem own_ef_ka (m : MethodId) (x0 : Int64) : entryFrame m #[(.long x0)] 2 = mkF m 0 #[.val (.long x0), .second] [] := by first | (simp [entryFrame, mkF, argsToLocals, Value.category]; done) | rfl
set_option maxRecDepth 65536 in
set_option maxHeartbeats 40000000 in
theorem own_ka (l : Launch) (Z : State) (az : Array Value) (hw : ∀ d ∈ tables_1, d.before az Z = true) (r : Int64) (h0 : Heap) (n0 : Nat) (O0 : Old Z n0 h0) (aZ : Addr) (SZ : Sta Z Z.heap "java/time/Duration" "ZERO" "Ljava/time/Duration;" (.ref aZ)) :
    own_Con l Z (⟨"com/example/refill/refill/bucket/Decision", "allowed", "(J)Lcom/example/refill/refill/bucket/Decision;"⟩ : MethodName) prog_2_method_2_code 2 (some (.object "com/example/refill/refill/bucket/Decision")) ({ frames := 2, cells := 1, slots := 4, locals := 30 } : Room) #[(.long r)] h0 (fun v h L => ∃ b, v = some (.ref b) ∧ Fr n0 L ∧ Keep h0 h [] ∧ h0.size ≤ b ∧ Exa Z h b "com/example/refill/refill/bucket/Decision" ∧ Fld Z h b "com/example/refill/refill/bucket/Decision" "allowed" "Z" (.int (1 : Int32)) ∧ Fld Z h b "com/example/refill/refill/bucket/Decision" "remaining" "J" (.long r) ∧ Fld Z h b "com/example/refill/refill/bucket/Decision" "retryAfter" "Ljava/time/Duration;" (.ref aZ) ∧ Fld Z h b "com/example/refill/refill/bucket/Decision" "fallback" "Z" (.int (0 : Int32))) := by
  refine own_con own_pn ?_
  intro p e s m below meth c T0 hx hby hml hZ hown hnm hret hlk X0 e0 eh
  refine own_via (F' := T0.setTop (mkF m 0 #[.val (.long r), .second] [])) (fun t k => castTop (own_ef_ka m r) k) ?_
  obtain ⟨T11, h11, X11, e11, E11, A11, D11, -, s11⟩ := newO X0 hx hZ hown (hw _ (List.mem_of_getElem? (i := 4) rfl)) (hw _ (List.mem_of_getElem? (i := 5) rfl)) (hw _ (List.mem_of_getElem? (i := 2) rfl)) e0 (g := (mkF m 0 #[.val (.long r), .second] [])) rfl (hb hby d1_0) (by decide) (by decide)
  obtain ⟨a11, g11⟩ : ∃ z, z = h0.size := ⟨_, rfl⟩
  rw [← g11] at A11 D11 s11
  have G11 : n0 ≤ a11 := by have q := O0.2.1; have q2 := O0.1; omega
  have D12 : Fld Z h11 a11 "com/example/refill/refill/bucket/Decision" "allowed" "Z" (.int (0 : Int32)) := D11 (Or.inr (hw _ (List.mem_of_getElem? (i := 15) rfl))) (ty := .boolean) (by decide)
  have D13 : Fld Z h11 a11 "com/example/refill/refill/bucket/Decision" "remaining" "J" (.long (0 : Int64)) := D11 (Or.inr (hw _ (List.mem_of_getElem? (i := 17) rfl))) (ty := .long) (by decide)
  have D14 : Fld Z h11 a11 "com/example/refill/refill/bucket/Decision" "retryAfter" "Ljava/time/Duration;" .null := D11 (Or.inr (hw _ (List.mem_of_getElem? (i := 19) rfl))) (ty := .object "java/time/Duration") (by decide)
  have D15 : Fld Z h11 a11 "com/example/refill/refill/bucket/Decision" "fallback" "Z" (.int (0 : Int32)) := D11 (Or.inr (hw _ (List.mem_of_getElem? (i := 21) rfl))) (ty := .boolean) (by decide)
  refine own_via (F' := T11.setTop (mkF m 3 #[.val (.long r), .second] [(.ref a11)])) s11 ?_
  have B11 : h0.size ≤ a11 := by have q := (Keep.refl h0 []).1; omega
  refine own_via (F' := T11.setTop (mkF m 4 #[.val (.long r), .second] [(.ref a11), (.ref a11)])) (fun t k => XS.dup X11.here hx rfl (hb hby d1_3) rfl rfl k) ?_
  refine own_via (F' := T11.setTop (mkF m 5 #[.val (.long r), .second] [(.int (1 : Int32)), (.ref a11), (.ref a11)])) (fun t k => XT.iconstV X11.here hx rfl (1 : Int32) (hb hby d1_4) (by decide) k) ?_
  refine own_via (F' := T11.setTop (mkF m 6 #[.val (.long r), .second] [(.long r), (.int (1 : Int32)), (.ref a11), (.ref a11)])) (fun t k => XT.lloadN X11.here hx rfl (hb hby d1_5) rfl k) ?_
  have f16 := (O0.ext E11)
  obtain ⟨T17, X17, e17, s17⟩ := getS X11 hx hZ (host := "") hown (hw _ (List.mem_of_getElem? (i := 6) rfl)) Via.refl e11 (SZ.ext f16.2) (g := (mkF m 6 #[.val (.long r), .second] [(.long r), (.int (1 : Int32)), (.ref a11), (.ref a11)])) rfl (hb hby d1_6)
  refine own_via (F' := T17.setTop (mkF m 9 #[.val (.long r), .second] [(.ref aZ), (.long r), (.int (1 : Int32)), (.ref a11), (.ref a11)])) s17 ?_
  refine own_via (F' := T17.setTop (mkF m 10 #[.val (.long r), .second] [(.int (0 : Int32)), (.ref aZ), (.long r), (.int (1 : Int32)), (.ref a11), (.ref a11)])) (fun t k => XT.iconstV X17.here hx rfl (0 : Int32) (hb hby d1_9) (by decide) k) ?_
  refine own_callI X17 hx hZ (own_kd l Z az hw a11 (1 : Int32) r aZ (0 : Int32) h11 n0 (by decide) (by decide) (by decide) (by decide) A11 D12 D13 D14 D15 G11) hown rfl (hw _ (List.mem_of_getElem? (i := 8) rfl)) (hw _ (List.mem_of_getElem? (i := 9) rfl)) (hw _ (List.mem_of_getElem? (i := 2) rfl)) (hw _ (List.mem_of_getElem? (i := 10) rfl)) (by decide) e17 (g := (mkF m 10 #[.val (.long r), .second] [(.int (0 : Int32)), (.ref aZ), (.long r), (.int (1 : Int32)), (.ref a11), (.ref a11)])) rfl (by rw [hml]; rfl) (argsL := [(.int (1 : Int32)), (.long r), (.ref aZ), (.int (0 : Int32))]) (rest := [(.ref a11)]) rfl (lenOf own_pd0 rfl) rfl 1 (by show 2 * 0 + _ ≤ _; exact Nat.le_of_eq rfl) (hb hby d1_10) (by decide) (by decide) (by decide) (by decide) ?_
  intro v18 T18 L18 hQ18 X18
  obtain ⟨rfl, M18, K18, E18, Fa18, Fb18, Fc18, Fd18⟩ := hQ18
  refine own_via (F' := T18.setTop (mkF m 13 #[.val (.long r), .second] [(.ref a11)])) (fun t k => k) ?_
  exact own_retA X18 hx hret rfl rfl hlk (hb hby d1_13) ⟨_, rfl, (Fr.app (Fr.nil n0) M18), (((Keep.refl h0 []).ext E11).trans K18 (allS (Or.inr B11) all0)), B11, E18, Fa18, Fb18, Fc18, Fd18⟩ (by decide) (by decide)
theorem own_ef_kf (m : MethodId) (x0 : Int32) : entryFrame m #[(.int x0)] 1 = mkF m 0 #[.val (.int x0)] [] := by first | (simp [entryFrame, mkF, argsToLocals, Value.category]; done) | rfl
set_option maxRecDepth 65536 in
set_option maxHeartbeats 40000000 in
theorem own_kf (l : Launch) (Z : State) (az : Array Value) (hw : ∀ d ∈ tables_1, d.before az Z = true) (z : Int32) (h0 : Heap) (n0 : Nat) (O0 : Old Z n0 h0) (aZ : Addr) (SZ : Sta Z Z.heap "java/time/Duration" "ZERO" "Ljava/time/Duration;" (.ref aZ)) (hz : narrow .boolean (.int z) = .int z) (fz : fits .boolean (.int z) = true) :
    own_Con l Z (⟨"com/example/refill/refill/bucket/Decision", "fallback", "(Z)Lcom/example/refill/refill/bucket/Decision;"⟩ : MethodName) prog_2_method_4_code 1 (some (.object "com/example/refill/refill/bucket/Decision")) ({ frames := 2, cells := 1, slots := 4, locals := 30 } : Room) #[(.int z)] h0 (fun v h L => ∃ b, v = some (.ref b) ∧ Fr n0 L ∧ Keep h0 h [] ∧ h0.size ≤ b ∧ Exa Z h b "com/example/refill/refill/bucket/Decision" ∧ Fld Z h b "com/example/refill/refill/bucket/Decision" "allowed" "Z" (.int z) ∧ Fld Z h b "com/example/refill/refill/bucket/Decision" "remaining" "J" (.long (0 : Int64)) ∧ Fld Z h b "com/example/refill/refill/bucket/Decision" "retryAfter" "Ljava/time/Duration;" (.ref aZ) ∧ Fld Z h b "com/example/refill/refill/bucket/Decision" "fallback" "Z" (.int (1 : Int32))) := by
  refine own_con own_pn ?_
  intro p e s m below meth c T0 hx hby hml hZ hown hnm hret hlk X0 e0 eh
  refine own_via (F' := T0.setTop (mkF m 0 #[.val (.int z)] [])) (fun t k => castTop (own_ef_kf m z) k) ?_
  obtain ⟨T11, h11, X11, e11, E11, A11, D11, -, s11⟩ := newO X0 hx hZ hown (hw _ (List.mem_of_getElem? (i := 4) rfl)) (hw _ (List.mem_of_getElem? (i := 5) rfl)) (hw _ (List.mem_of_getElem? (i := 2) rfl)) e0 (g := (mkF m 0 #[.val (.int z)] [])) rfl (hb hby d4_0) (by decide) (by decide)
  obtain ⟨a11, g11⟩ : ∃ z, z = h0.size := ⟨_, rfl⟩
  rw [← g11] at A11 D11 s11
  have G11 : n0 ≤ a11 := by have q := O0.2.1; have q2 := O0.1; omega
  have D12 : Fld Z h11 a11 "com/example/refill/refill/bucket/Decision" "allowed" "Z" (.int (0 : Int32)) := D11 (Or.inr (hw _ (List.mem_of_getElem? (i := 15) rfl))) (ty := .boolean) (by decide)
  have D13 : Fld Z h11 a11 "com/example/refill/refill/bucket/Decision" "remaining" "J" (.long (0 : Int64)) := D11 (Or.inr (hw _ (List.mem_of_getElem? (i := 17) rfl))) (ty := .long) (by decide)
  have D14 : Fld Z h11 a11 "com/example/refill/refill/bucket/Decision" "retryAfter" "Ljava/time/Duration;" .null := D11 (Or.inr (hw _ (List.mem_of_getElem? (i := 19) rfl))) (ty := .object "java/time/Duration") (by decide)
  have D15 : Fld Z h11 a11 "com/example/refill/refill/bucket/Decision" "fallback" "Z" (.int (0 : Int32)) := D11 (Or.inr (hw _ (List.mem_of_getElem? (i := 21) rfl))) (ty := .boolean) (by decide)
  refine own_via (F' := T11.setTop (mkF m 3 #[.val (.int z)] [(.ref a11)])) s11 ?_
  have B11 : h0.size ≤ a11 := by have q := (Keep.refl h0 []).1; omega
  refine own_via (F' := T11.setTop (mkF m 4 #[.val (.int z)] [(.ref a11), (.ref a11)])) (fun t k => XS.dup X11.here hx rfl (hb hby d4_3) rfl rfl k) ?_
  refine own_via (F' := T11.setTop (mkF m 5 #[.val (.int z)] [(.int z), (.ref a11), (.ref a11)])) (fun t k => XS.iloadN X11.here hx rfl (hb hby d4_4) rfl k) ?_
  refine own_via (F' := T11.setTop (mkF m 6 #[.val (.int z)] [(.long (0 : Int64)), (.int z), (.ref a11), (.ref a11)])) (fun t k => XT.lconstV X11.here hx rfl (0 : Int64) (hb hby d4_5) (by decide) k) ?_
  have f16 := (O0.ext E11)
  obtain ⟨T17, X17, e17, s17⟩ := getS X11 hx hZ (host := "") hown (hw _ (List.mem_of_getElem? (i := 6) rfl)) Via.refl e11 (SZ.ext f16.2) (g := (mkF m 6 #[.val (.int z)] [(.long (0 : Int64)), (.int z), (.ref a11), (.ref a11)])) rfl (hb hby d4_6)
  refine own_via (F' := T17.setTop (mkF m 9 #[.val (.int z)] [(.ref aZ), (.long (0 : Int64)), (.int z), (.ref a11), (.ref a11)])) s17 ?_
  refine own_via (F' := T17.setTop (mkF m 10 #[.val (.int z)] [(.int (1 : Int32)), (.ref aZ), (.long (0 : Int64)), (.int z), (.ref a11), (.ref a11)])) (fun t k => XT.iconstV X17.here hx rfl (1 : Int32) (hb hby d4_9) (by decide) k) ?_
  refine own_callI X17 hx hZ (own_kd l Z az hw a11 z (0 : Int64) aZ (1 : Int32) h11 n0 hz fz (by decide) (by decide) A11 D12 D13 D14 D15 G11) hown rfl (hw _ (List.mem_of_getElem? (i := 8) rfl)) (hw _ (List.mem_of_getElem? (i := 9) rfl)) (hw _ (List.mem_of_getElem? (i := 2) rfl)) (hw _ (List.mem_of_getElem? (i := 10) rfl)) (by decide) e17 (g := (mkF m 10 #[.val (.int z)] [(.int (1 : Int32)), (.ref aZ), (.long (0 : Int64)), (.int z), (.ref a11), (.ref a11)])) rfl (by rw [hml]; rfl) (argsL := [(.int z), (.long (0 : Int64)), (.ref aZ), (.int (1 : Int32))]) (rest := [(.ref a11)]) rfl (lenOf own_pd0 rfl) rfl 1 (by show 2 * 0 + _ ≤ _; exact Nat.le_of_eq rfl) (hb hby d4_10) (by decide) (by decide) (by decide) (by decide) ?_
  intro v18 T18 L18 hQ18 X18
  obtain ⟨rfl, M18, K18, E18, Fa18, Fb18, Fc18, Fd18⟩ := hQ18
  refine own_via (F' := T18.setTop (mkF m 13 #[.val (.int z)] [(.ref a11)])) (fun t k => k) ?_
  exact own_retA X18 hx hret rfl rfl hlk (hb hby d4_13) ⟨_, rfl, (Fr.app (Fr.nil n0) M18), (((Keep.refl h0 []).ext E11).trans K18 (allS (Or.inr B11) all0)), B11, E18, Fa18, Fb18, Fc18, Fd18⟩ (by decide) (by decide)
theorem own_efg (m : MethodId) (x0 : Addr) : entryFrame m #[(.ref x0)] 1 = mkF m 0 #[.val (.ref x0)] [] := by first | (simp [entryFrame, mkF, argsToLocals, Value.category]; done) | rfl
set_option maxRecDepth 65536 in
set_option maxHeartbeats 40000000 in
theorem own_g_isAllowed (l : Launch) (Z : State) (az : Array Value) (hw : ∀ d ∈ tables_1, d.before az Z = true) (a : Addr) (v : Int32) (hv : nar .boolean v = v) (h0 : Heap) (FV : Fld Z h0 a "com/example/refill/refill/bucket/Decision" "allowed" "Z" (.int v)) :
    own_Con l Z (⟨"com/example/refill/refill/bucket/Decision", "isAllowed", "()Z"⟩ : MethodName) prog_2_method_5_code 1 (some .boolean) ({ frames := 0, cells := 0, slots := 0, locals := 0 } : Room) #[(.ref a)] h0 (fun r h L => r = some (.int v) ∧ h = h0 ∧ L = []) := by
  refine own_con own_pn ?_
  intro p e s m below meth c T0 hx hby hml hZ hown hnm hret hlk X0 e0 eh
  refine own_via (F' := T0.setTop (mkF m 0 #[.val (.ref a)] [])) (fun t k => castTop (own_efg m a) k) ?_
  refine own_via (F' := T0.setTop (mkF m 1 #[.val (.ref a)] [(.ref a)])) (fun t k => XS.aloadN X0.here hx rfl (hb hby d5_0) rfl rfl k) ?_
  obtain ⟨T1, X1, e1, s1⟩ := getF X0 hx hZ hown (host := "") (Or.inl (hw _ (List.mem_of_getElem? (i := 14) rfl))) Via.refl e0 FV (g := (mkF m 1 #[.val (.ref a)] [(.ref a)])) rfl rfl (hb hby d5_1)
  refine own_via (F' := T1.setTop (mkF m 4 #[.val (.ref a)] [(.int v)])) s1 ?_
  exact own_retZ X1 hx hret hlk (hb hby d5_4) ⟨by rw [hv], e1, rfl⟩ (Nat.le_refl _) (Nat.le_refl _)
set_option maxRecDepth 65536 in
set_option maxHeartbeats 40000000 in
theorem own_g_getRemaining (l : Launch) (Z : State) (az : Array Value) (hw : ∀ d ∈ tables_1, d.before az Z = true) (a : Addr) (v : Int64) (h0 : Heap) (FV : Fld Z h0 a "com/example/refill/refill/bucket/Decision" "remaining" "J" (.long v)) :
    own_Con l Z (⟨"com/example/refill/refill/bucket/Decision", "getRemaining", "()J"⟩ : MethodName) prog_2_method_6_code 1 (some .long) ({ frames := 0, cells := 0, slots := 0, locals := 0 } : Room) #[(.ref a)] h0 (fun r h L => r = some (.long v) ∧ h = h0 ∧ L = []) := by
  refine own_con own_pn ?_
  intro p e s m below meth c T0 hx hby hml hZ hown hnm hret hlk X0 e0 eh
  refine own_via (F' := T0.setTop (mkF m 0 #[.val (.ref a)] [])) (fun t k => castTop (own_efg m a) k) ?_
  refine own_via (F' := T0.setTop (mkF m 1 #[.val (.ref a)] [(.ref a)])) (fun t k => XS.aloadN X0.here hx rfl (hb hby d6_0) rfl rfl k) ?_
  obtain ⟨T1, X1, e1, s1⟩ := getF X0 hx hZ hown (host := "") (Or.inl (hw _ (List.mem_of_getElem? (i := 16) rfl))) Via.refl e0 FV (g := (mkF m 1 #[.val (.ref a)] [(.ref a)])) rfl rfl (hb hby d6_1)
  refine own_via (F' := T1.setTop (mkF m 4 #[.val (.ref a)] [(.long v)])) s1 ?_
  exact own_retJ X1 hx hret hlk (hb hby d6_4) ⟨rfl, e1, rfl⟩ (Nat.le_refl _) (Nat.le_refl _)
set_option maxRecDepth 65536 in
set_option maxHeartbeats 40000000 in
theorem own_g_isFallback (l : Launch) (Z : State) (az : Array Value) (hw : ∀ d ∈ tables_1, d.before az Z = true) (a : Addr) (v : Int32) (hv : nar .boolean v = v) (h0 : Heap) (FV : Fld Z h0 a "com/example/refill/refill/bucket/Decision" "fallback" "Z" (.int v)) :
    own_Con l Z (⟨"com/example/refill/refill/bucket/Decision", "isFallback", "()Z"⟩ : MethodName) prog_2_method_8_code 1 (some .boolean) ({ frames := 0, cells := 0, slots := 0, locals := 0 } : Room) #[(.ref a)] h0 (fun r h L => r = some (.int v) ∧ h = h0 ∧ L = []) := by
  refine own_con own_pn ?_
  intro p e s m below meth c T0 hx hby hml hZ hown hnm hret hlk X0 e0 eh
  refine own_via (F' := T0.setTop (mkF m 0 #[.val (.ref a)] [])) (fun t k => castTop (own_efg m a) k) ?_
  refine own_via (F' := T0.setTop (mkF m 1 #[.val (.ref a)] [(.ref a)])) (fun t k => XS.aloadN X0.here hx rfl (hb hby d7_0) rfl rfl k) ?_
  obtain ⟨T1, X1, e1, s1⟩ := getF X0 hx hZ hown (host := "") (Or.inl (hw _ (List.mem_of_getElem? (i := 20) rfl))) Via.refl e0 FV (g := (mkF m 1 #[.val (.ref a)] [(.ref a)])) rfl rfl (hb hby d7_1)
  refine own_via (F' := T1.setTop (mkF m 4 #[.val (.ref a)] [(.int v)])) s1 ?_
  exact own_retZ X1 hx hret hlk (hb hby d7_4) ⟨by rw [hv], e1, rfl⟩ (Nat.le_refl _) (Nat.le_refl _)
set_option maxRecDepth 65536 in
set_option maxHeartbeats 40000000 in
theorem own_g_getRetryAfter (l : Launch) (Z : State) (az : Array Value) (hw : ∀ d ∈ tables_1, d.before az Z = true) (a : Addr) (v : Addr) (h0 : Heap) (FV : Fld Z h0 a "com/example/refill/refill/bucket/Decision" "retryAfter" "Ljava/time/Duration;" (.ref v)) :
    own_Con l Z (⟨"com/example/refill/refill/bucket/Decision", "getRetryAfter", "()Ljava/time/Duration;"⟩ : MethodName) prog_2_method_7_code 1 (some (.object "java/time/Duration")) ({ frames := 0, cells := 0, slots := 0, locals := 0 } : Room) #[(.ref a)] h0 (fun r h L => r = some (.ref v) ∧ h = h0 ∧ L = []) := by
  refine own_con own_pn ?_
  intro p e s m below meth c T0 hx hby hml hZ hown hnm hret hlk X0 e0 eh
  refine own_via (F' := T0.setTop (mkF m 0 #[.val (.ref a)] [])) (fun t k => castTop (own_efg m a) k) ?_
  refine own_via (F' := T0.setTop (mkF m 1 #[.val (.ref a)] [(.ref a)])) (fun t k => XS.aloadN X0.here hx rfl (hb hby d8_0) rfl rfl k) ?_
  obtain ⟨T1, X1, e1, s1⟩ := getF X0 hx hZ hown (host := "") (Or.inl (hw _ (List.mem_of_getElem? (i := 18) rfl))) Via.refl e0 FV (g := (mkF m 1 #[.val (.ref a)] [(.ref a)])) rfl rfl (hb hby d8_1)
  refine own_via (F' := T1.setTop (mkF m 4 #[.val (.ref a)] [(.ref v)])) s1 ?_
  exact own_retA X1 hx hret rfl rfl hlk (hb hby d8_4) ⟨rfl, e1, rfl⟩ (Nat.le_refl _) (Nat.le_refl _)
theorem own_efq (m : MethodId) (x0 : Addr) (x1 : Addr) : entryFrame m #[(.ref x0), (.ref x1)] 3 = mkF m 0 #[.val (.ref x0), .val (.ref x1), .unset] [] := by first | (simp [entryFrame, mkF, argsToLocals, Value.category]; done) | rfl
set_option maxRecDepth 65536 in
set_option maxHeartbeats 40000000 in
theorem own_kq (l : Launch) (Z : State) (az : Array Value) (hw : ∀ d ∈ tables_1, d.before az Z = true) (a : Addr) (h0 : Heap) :
    own_Con l Z (⟨"java/time/Duration", "equals", "(Ljava/lang/Object;)Z"⟩ : MethodName) jdk_2316_method_67_code 3 (some .boolean) ({ frames := 0, cells := 0, slots := 0, locals := 0 } : Room) #[(.ref a), (.ref a)] h0 (fun r h L => r = some (.int (1 : Int32)) ∧ h = h0 ∧ L = []) := by
  refine own_con own_pnD ?_
  intro p e s m below meth c T0 hx hby hml hZ hown hnm hret hlk X0 e0 eh
  refine own_via (F' := T0.setTop (mkF m 0 #[.val (.ref a), .val (.ref a), .unset] [])) (fun t k => castTop (own_efq m a a) k) ?_
  refine own_via (F' := T0.setTop (mkF m 1 #[.val (.ref a), .val (.ref a), .unset] [(.ref a)])) (fun t k => XS.aloadN X0.here hx rfl (hb hby d9_0) rfl rfl k) ?_
  refine own_via (F' := T0.setTop (mkF m 2 #[.val (.ref a), .val (.ref a), .unset] [(.ref a), (.ref a)])) (fun t k => XS.aloadN X0.here hx rfl (hb hby d9_1) rfl rfl k) ?_
  refine own_via (F' := T0.setTop (mkF m 5 #[.val (.ref a), .val (.ref a), .unset] [])) (fun t k => XT.acmpNo X0.here hx rfl (hb hby d9_2) rfl rfl rfl (XT.aa_ne_f rfl) k) ?_
  refine own_via (F' := T0.setTop (mkF m 6 #[.val (.ref a), .val (.ref a), .unset] [(.int (1 : Int32))])) (fun t k => XT.iconstV X0.here hx rfl (1 : Int32) (hb hby d9_5) (by decide) k) ?_
  exact own_retZ X0 hx hret hlk (hb hby d9_6) ⟨rfl, e0, rfl⟩ (Nat.le_refl _) (Nat.le_refl _)
set_option maxRecDepth 65536 in
set_option maxHeartbeats 40000000 in
theorem own_ke (l : Launch) (Z : State) (az : Array Value) (hw : ∀ d ∈ tables_1, d.before az Z = true) (a b aZ : Addr) (u v : Int64) (h0 : Heap) (EZ : Exa Z h0 aZ "java/time/Duration") (Eb : Exa Z h0 b "com/example/refill/refill/bucket/Decision") (A0 : Fld Z h0 a "com/example/refill/refill/bucket/Decision" "allowed" "Z" (.int (1 : Int32))) (A1 : Fld Z h0 a "com/example/refill/refill/bucket/Decision" "remaining" "J" (.long u)) (A2 : Fld Z h0 a "com/example/refill/refill/bucket/Decision" "retryAfter" "Ljava/time/Duration;" (.ref aZ)) (A3 : Fld Z h0 a "com/example/refill/refill/bucket/Decision" "fallback" "Z" (.int (0 : Int32))) (B0 : Fld Z h0 b "com/example/refill/refill/bucket/Decision" "allowed" "Z" (.int (1 : Int32))) (B1 : Fld Z h0 b "com/example/refill/refill/bucket/Decision" "remaining" "J" (.long v)) (B2 : Fld Z h0 b "com/example/refill/refill/bucket/Decision" "retryAfter" "Ljava/time/Duration;" (.ref aZ)) (B3 : Fld Z h0 b "com/example/refill/refill/bucket/Decision" "fallback" "Z" (.int (0 : Int32))) (r : Int32) (hr : (if u = v then (1 : Int32) else (0 : Int32)) = r) :
    own_Con l Z (⟨"com/example/refill/refill/bucket/Decision", "equals", "(Ljava/lang/Object;)Z"⟩ : MethodName) prog_2_method_9_code 3 (some .boolean) ({ frames := 1, cells := 0, slots := 0, locals := 14 } : Room) #[(.ref a), (.ref b)] h0 (fun x h L => x = some (.int r) ∧ h = h0 ∧ L = []) := by
  refine own_con own_pn ?_
  intro p e s m below meth c T0 hx hby hml hZ hown hnm hret hlk X0 e0 eh
  refine own_via (F' := T0.setTop (mkF m 0 #[.val (.ref a), .val (.ref b), .unset] [])) (fun t k => castTop (own_efq m a b) k) ?_
  refine own_via (F' := T0.setTop (mkF m 1 #[.val (.ref a), .val (.ref b), .unset] [(.ref b)])) (fun t k => XS.aloadN X0.here hx rfl (hb hby d10_0) rfl rfl k) ?_
  obtain ⟨T11, X11, e11, s11⟩ := instY X0 hx hZ hown (hw _ (List.mem_of_getElem? (i := 4) rfl)) e0 (Ins.self Eb) (g := (mkF m 1 #[.val (.ref a), .val (.ref b), .unset] [(.ref b)])) rfl rfl (hb hby d10_1)
  refine own_via (F' := T11.setTop (mkF m 4 #[.val (.ref a), .val (.ref b), .unset] [(.int (1 : Int32))])) s11 ?_
  refine own_via (F' := T11.setTop (mkF m 7 #[.val (.ref a), .val (.ref b), .unset] [])) (fun t k => XS.ifNo X11.here hx rfl (hb hby d10_4) rfl (XT.i0_eq_f (by decide)) k) ?_
  refine own_via (F' := T11.setTop (mkF m 8 #[.val (.ref a), .val (.ref b), .unset] [(.ref b)])) (fun t k => XS.aloadN X11.here hx rfl (hb hby d10_7) rfl rfl k) ?_
  obtain ⟨T12, X12, e12, s12⟩ := castY X11 hx hZ hown (hw _ (List.mem_of_getElem? (i := 4) rfl)) e11 (Ins.self Eb) (g := (mkF m 8 #[.val (.ref a), .val (.ref b), .unset] [(.ref b)])) rfl rfl (hb hby d10_8)
  refine own_via (F' := T12.setTop (mkF m 11 #[.val (.ref a), .val (.ref b), .unset] [(.ref b)])) s12 ?_
  refine own_via (F' := T12.setTop (mkF m 12 #[.val (.ref a), .val (.ref b), .val (.ref b)] [])) (fun t k => XS.astoreN X12.here hx rfl (hb hby d10_11) rfl rfl (l' := #[.val (.ref a), .val (.ref b), .val (.ref b)]) rfl k) ?_
  refine own_via (F' := T12.setTop (mkF m 13 #[.val (.ref a), .val (.ref b), .val (.ref b)] [(.ref a)])) (fun t k => XS.aloadN X12.here hx rfl (hb hby d10_12) rfl rfl k) ?_
  obtain ⟨T13, X13, e13, s13⟩ := getF X12 hx hZ hown (host := "") (Or.inl (hw _ (List.mem_of_getElem? (i := 14) rfl))) Via.refl e12 A0 (g := (mkF m 13 #[.val (.ref a), .val (.ref b), .val (.ref b)] [(.ref a)])) rfl rfl (hb hby d10_13)
  refine own_via (F' := T13.setTop (mkF m 16 #[.val (.ref a), .val (.ref b), .val (.ref b)] [(.int (1 : Int32))])) s13 ?_
  refine own_via (F' := T13.setTop (mkF m 17 #[.val (.ref a), .val (.ref b), .val (.ref b)] [(.ref b), (.int (1 : Int32))])) (fun t k => XS.aloadN X13.here hx rfl (hb hby d10_16) rfl rfl k) ?_
  obtain ⟨T14, X14, e14, s14⟩ := getF X13 hx hZ hown (host := "") (Or.inl (hw _ (List.mem_of_getElem? (i := 14) rfl))) Via.refl e13 B0 (g := (mkF m 17 #[.val (.ref a), .val (.ref b), .val (.ref b)] [(.ref b), (.int (1 : Int32))])) rfl rfl (hb hby d10_17)
  refine own_via (F' := T14.setTop (mkF m 20 #[.val (.ref a), .val (.ref b), .val (.ref b)] [(.int (1 : Int32)), (.int (1 : Int32))])) s14 ?_
  refine own_via (F' := T14.setTop (mkF m 23 #[.val (.ref a), .val (.ref b), .val (.ref b)] [])) (fun t k => XS.icmpNo X14.here hx rfl (hb hby d10_20) rfl (XT.ii_ne_f (by decide)) k) ?_
  refine own_via (F' := T14.setTop (mkF m 24 #[.val (.ref a), .val (.ref b), .val (.ref b)] [(.ref a)])) (fun t k => XS.aloadN X14.here hx rfl (hb hby d10_23) rfl rfl k) ?_
  obtain ⟨T15, X15, e15, s15⟩ := getF X14 hx hZ hown (host := "") (Or.inl (hw _ (List.mem_of_getElem? (i := 16) rfl))) Via.refl e14 A1 (g := (mkF m 24 #[.val (.ref a), .val (.ref b), .val (.ref b)] [(.ref a)])) rfl rfl (hb hby d10_24)
  refine own_via (F' := T15.setTop (mkF m 27 #[.val (.ref a), .val (.ref b), .val (.ref b)] [(.long u)])) s15 ?_
  refine own_via (F' := T15.setTop (mkF m 28 #[.val (.ref a), .val (.ref b), .val (.ref b)] [(.ref b), (.long u)])) (fun t k => XS.aloadN X15.here hx rfl (hb hby d10_27) rfl rfl k) ?_
  obtain ⟨T16, X16, e16, s16⟩ := getF X15 hx hZ hown (host := "") (Or.inl (hw _ (List.mem_of_getElem? (i := 16) rfl))) Via.refl e15 B1 (g := (mkF m 28 #[.val (.ref a), .val (.ref b), .val (.ref b)] [(.ref b), (.long u)])) rfl rfl (hb hby d10_28)
  refine own_via (F' := T16.setTop (mkF m 31 #[.val (.ref a), .val (.ref b), .val (.ref b)] [(.long v), (.long u)])) s16 ?_
  refine own_via (F' := T16.setTop (mkF m 32 #[.val (.ref a), .val (.ref b), .val (.ref b)] [(.int (XT.cmpL u v))])) (fun t k => XT.lcmp X16.here hx rfl (hb hby d10_31) rfl k) ?_
  by_cases q17 : u = v
  · refine own_via (F' := T16.setTop (mkF m 35 #[.val (.ref a), .val (.ref b), .val (.ref b)] [])) (fun t k => XS.ifNo X16.here hx rfl (hb hby d10_32) rfl (XT.ll_ne_f q17) k) ?_
    refine own_via (F' := T16.setTop (mkF m 36 #[.val (.ref a), .val (.ref b), .val (.ref b)] [(.ref a)])) (fun t k => XS.aloadN X16.here hx rfl (hb hby d10_35) rfl rfl k) ?_
    obtain ⟨T18, X18, e18, s18⟩ := getF X16 hx hZ hown (host := "") (Or.inl (hw _ (List.mem_of_getElem? (i := 18) rfl))) Via.refl e16 A2 (g := (mkF m 36 #[.val (.ref a), .val (.ref b), .val (.ref b)] [(.ref a)])) rfl rfl (hb hby d10_36)
    refine own_via (F' := T18.setTop (mkF m 39 #[.val (.ref a), .val (.ref b), .val (.ref b)] [(.ref aZ)])) s18 ?_
    refine own_via (F' := T18.setTop (mkF m 40 #[.val (.ref a), .val (.ref b), .val (.ref b)] [(.ref b), (.ref aZ)])) (fun t k => XS.aloadN X18.here hx rfl (hb hby d10_39) rfl rfl k) ?_
    obtain ⟨T19, X19, e19, s19⟩ := getF X18 hx hZ hown (host := "") (Or.inl (hw _ (List.mem_of_getElem? (i := 18) rfl))) Via.refl e18 B2 (g := (mkF m 40 #[.val (.ref a), .val (.ref b), .val (.ref b)] [(.ref b), (.ref aZ)])) rfl rfl (hb hby d10_40)
    refine own_via (F' := T19.setTop (mkF m 43 #[.val (.ref a), .val (.ref b), .val (.ref b)] [(.ref aZ), (.ref aZ)])) s19 ?_
    refine own_callV X19 hx hZ (own_kq l Z az hw aZ h0) hown EZ (hw _ (List.mem_of_getElem? (i := 56) rfl)) (hw _ (List.mem_of_getElem? (i := 46) rfl)) (hw _ (List.mem_of_getElem? (i := 48) rfl)) (hw _ (List.mem_of_getElem? (i := 47) rfl)) (hw _ (List.mem_of_getElem? (i := 7) rfl)) (hw _ (List.mem_of_getElem? (i := 49) rfl)) (notFace_of_selects (args := #[]) (mvT hZ (hw _ (List.mem_of_getElem? (i := 48) rfl)))) (by decide) e19 (g := (mkF m 43 #[.val (.ref a), .val (.ref b), .val (.ref b)] [(.ref aZ), (.ref aZ)])) rfl (by rw [hml]; rfl) (argsL := [(.ref aZ)]) (rest := []) rfl (lenOf own_pd1 rfl) rfl 0 (by show 2 * 0 + _ ≤ _; exact Nat.le_of_eq rfl) (hb hby d10_43) (by decide) (by decide) (by decide) (by decide) ?_
    intro v20 T20 L20 hQ20 X20
    obtain ⟨rfl, e20, rfl⟩ := hQ20
    refine own_via (F' := T20.setTop (mkF m 46 #[.val (.ref a), .val (.ref b), .val (.ref b)] [(.int (1 : Int32))])) (fun t k => k) ?_
    refine own_via (F' := T20.setTop (mkF m 49 #[.val (.ref a), .val (.ref b), .val (.ref b)] [])) (fun t k => XS.ifNo X20.here hx rfl (hb hby d10_46) rfl (XT.i0_eq_f (by decide)) k) ?_
    refine own_via (F' := T20.setTop (mkF m 50 #[.val (.ref a), .val (.ref b), .val (.ref b)] [(.ref a)])) (fun t k => XS.aloadN X20.here hx rfl (hb hby d10_49) rfl rfl k) ?_
    obtain ⟨T21, X21, e21, s21⟩ := getF X20 hx hZ hown (host := "") (Or.inl (hw _ (List.mem_of_getElem? (i := 20) rfl))) Via.refl e20 A3 (g := (mkF m 50 #[.val (.ref a), .val (.ref b), .val (.ref b)] [(.ref a)])) rfl rfl (hb hby d10_50)
    refine own_via (F' := T21.setTop (mkF m 53 #[.val (.ref a), .val (.ref b), .val (.ref b)] [(.int (0 : Int32))])) s21 ?_
    refine own_via (F' := T21.setTop (mkF m 54 #[.val (.ref a), .val (.ref b), .val (.ref b)] [(.ref b), (.int (0 : Int32))])) (fun t k => XS.aloadN X21.here hx rfl (hb hby d10_53) rfl rfl k) ?_
    obtain ⟨T22, X22, e22, s22⟩ := getF X21 hx hZ hown (host := "") (Or.inl (hw _ (List.mem_of_getElem? (i := 20) rfl))) Via.refl e21 B3 (g := (mkF m 54 #[.val (.ref a), .val (.ref b), .val (.ref b)] [(.ref b), (.int (0 : Int32))])) rfl rfl (hb hby d10_54)
    refine own_via (F' := T22.setTop (mkF m 57 #[.val (.ref a), .val (.ref b), .val (.ref b)] [(.int (0 : Int32)), (.int (0 : Int32))])) s22 ?_
    refine own_via (F' := T22.setTop (mkF m 60 #[.val (.ref a), .val (.ref b), .val (.ref b)] [])) (fun t k => XS.icmpNo X22.here hx rfl (hb hby d10_57) rfl (XT.ii_ne_f (by decide)) k) ?_
    refine own_via (F' := T22.setTop (mkF m 61 #[.val (.ref a), .val (.ref b), .val (.ref b)] [(.int (1 : Int32))])) (fun t k => XT.iconstV X22.here hx rfl (1 : Int32) (hb hby d10_60) (by decide) k) ?_
    refine own_via (F' := T22.setTop (mkF m 65 #[.val (.ref a), .val (.ref b), .val (.ref b)] [(.int (1 : Int32))])) (fun t k => XS.goto X22.here hx rfl (pc0 := 61) (pc' := 65) rfl (hb hby d10_61) (by decide) (by decide) k) ?_
    exact own_retZ X22 hx hret hlk (hb hby d10_65) ⟨by rw [← hr, if_pos q17]; rfl, e22, rfl⟩ (by decide) (by decide)
  · refine own_via (F' := T16.setTop (mkF m 64 #[.val (.ref a), .val (.ref b), .val (.ref b)] [])) (fun t k => XS.ifYes X16.here hx rfl (pc0 := 32) (pc' := 64) rfl (hb hby d10_32) rfl (XT.ll_ne_t q17) (by decide) (by decide) k) ?_
    refine own_via (F' := T16.setTop (mkF m 65 #[.val (.ref a), .val (.ref b), .val (.ref b)] [(.int (0 : Int32))])) (fun t k => XT.iconstV X16.here hx rfl (0 : Int32) (hb hby d10_64) (by decide) k) ?_
    exact own_retZ X16 hx hret hlk (hb hby d10_65) ⟨by rw [← hr, if_neg q17]; rfl, e16, rfl⟩ (by decide) (by decide)
theorem own_ef0 (m : MethodId) (x0 : Int64) (x1 : Int64) (x2 : Int32) : entryFrame m #[(.long x0), (.long x1), (.int x2)] maxLocals = mkF m 0 #[.val (.long x0), .second, .val (.long x1), .second, .val (.int x2), .unset, .unset, .unset, .unset, .unset, .unset, .unset, .unset] [] := by first | (simp [entryFrame, mkF, argsToLocals, Value.category, maxLocals]; done) | rfl
set_option maxRecDepth 65536 in
set_option maxHeartbeats 40000000 in
theorem own_law (l : Launch) (Z : State) (az : Array Value) (hw : ∀ d ∈ tables_1, d.before az Z = true) (p0 : Int64) (p1 : Int64) (p2 : Int32) (h0 : Heap) (n0 : Nat) (O0 : Old Z n0 h0) (aZ : Addr) (SZ : Sta Z Z.heap "java/time/Duration" "ZERO" "Ljava/time/Duration;" (.ref aZ)) (EZ : Exa Z Z.heap aZ "java/time/Duration") :
    own_Con l Z x code maxLocals ret room_1 #[(.long p0), (.long p1), (.int p2)] h0 (fun v h L => v = some (.int 1) ∧ Fr n0 L) := by
  refine own_con own_pnL ?_
  intro p e s m below meth c T0 hx hby hml hZ hown hnm hret hlk X0 e0 eh
  have hown : s.vm.findClass "com/example/refill/refill/bucket/DecisionAllowedPinLaw" = some m.cls := hown
  have EZ0 := EZ.ext O0.2
  refine own_via (F' := T0.setTop (mkF m 0 #[.val (.long p0), .second, .val (.long p1), .second, .val (.int p2), .unset, .unset, .unset, .unset, .unset, .unset, .unset, .unset] [])) (fun t k => castTop (own_ef0 m p0 p1 p2) k) ?_
  refine own_via (F' := T0.setTop (mkF m 2 #[.val (.long p0), .second, .val (.long p1), .second, .val (.int p2), .unset, .unset, .unset, .unset, .unset, .unset, .unset, .unset] [(.int p2)])) (fun t k => XS.iload X0.here hx rfl (hb hby at_0) rfl k) ?_
  refine own_via (F' := T0.setTop (mkF m 3 #[.val (.long p0), .second, .val (.long p1), .second, .val (.int p2), .unset, .unset, .unset, .unset, .unset, .unset, .unset, .unset] [(.int (1 : Int32)), (.int p2)])) (fun t k => XT.iconstV X0.here hx rfl (1 : Int32) (hb hby at_2) (by decide) k) ?_
  refine own_via (F' := T0.setTop (mkF m 4 #[.val (.long p0), .second, .val (.long p1), .second, .val (.int p2), .unset, .unset, .unset, .unset, .unset, .unset, .unset, .unset] [(.int (p2 &&& (1 : Int32)))])) (fun t k => XS.iand X0.here hx rfl (hb hby at_3) rfl k) ?_
  by_cases q11 : (p2 &&& (1 : Int32)) = (0 : Int32)
  · refine own_via (F' := T0.setTop (mkF m 11 #[.val (.long p0), .second, .val (.long p1), .second, .val (.int p2), .unset, .unset, .unset, .unset, .unset, .unset, .unset, .unset] [])) (fun t k => XS.ifYes X0.here hx rfl (pc0 := 4) (pc' := 11) rfl (hb hby at_4) rfl (XT.i0_eq_t q11) (by decide) (by decide) k) ?_
    refine own_via (F' := T0.setTop (mkF m 12 #[.val (.long p0), .second, .val (.long p1), .second, .val (.int p2), .unset, .unset, .unset, .unset, .unset, .unset, .unset, .unset] [(.int (0 : Int32))])) (fun t k => XT.iconstV X0.here hx rfl (0 : Int32) (hb hby at_11) (by decide) k) ?_
    refine own_via (F' := T0.setTop (mkF m 14 #[.val (.long p0), .second, .val (.long p1), .second, .val (.int p2), .val (.int (0 : Int32)), .unset, .unset, .unset, .unset, .unset, .unset, .unset] [])) (fun t k => XS.istore X0.here hx rfl (hb hby at_12) rfl (l' := #[.val (.long p0), .second, .val (.long p1), .second, .val (.int p2), .val (.int (0 : Int32)), .unset, .unset, .unset, .unset, .unset, .unset, .unset]) rfl k) ?_
    refine own_via (F' := T0.setTop (mkF m 16 #[.val (.long p0), .second, .val (.long p1), .second, .val (.int p2), .val (.int (0 : Int32)), .unset, .unset, .unset, .unset, .unset, .unset, .unset] [(.int p2)])) (fun t k => XS.iload X0.here hx rfl (hb hby at_14) rfl k) ?_
    refine own_via (F' := T0.setTop (mkF m 17 #[.val (.long p0), .second, .val (.long p1), .second, .val (.int p2), .val (.int (0 : Int32)), .unset, .unset, .unset, .unset, .unset, .unset, .unset] [(.int (2 : Int32)), (.int p2)])) (fun t k => XT.iconstV X0.here hx rfl (2 : Int32) (hb hby at_16) (by decide) k) ?_
    refine own_via (F' := T0.setTop (mkF m 18 #[.val (.long p0), .second, .val (.long p1), .second, .val (.int p2), .val (.int (0 : Int32)), .unset, .unset, .unset, .unset, .unset, .unset, .unset] [(.int (p2 &&& (2 : Int32)))])) (fun t k => XS.iand X0.here hx rfl (hb hby at_17) rfl k) ?_
    by_cases q12 : (p2 &&& (2 : Int32)) = (0 : Int32)
    · refine own_via (F' := T0.setTop (mkF m 25 #[.val (.long p0), .second, .val (.long p1), .second, .val (.int p2), .val (.int (0 : Int32)), .unset, .unset, .unset, .unset, .unset, .unset, .unset] [])) (fun t k => XS.ifYes X0.here hx rfl (pc0 := 18) (pc' := 25) rfl (hb hby at_18) rfl (XT.i0_eq_t q12) (by decide) (by decide) k) ?_
      refine own_via (F' := T0.setTop (mkF m 26 #[.val (.long p0), .second, .val (.long p1), .second, .val (.int p2), .val (.int (0 : Int32)), .unset, .unset, .unset, .unset, .unset, .unset, .unset] [(.int (0 : Int32))])) (fun t k => XT.iconstV X0.here hx rfl (0 : Int32) (hb hby at_25) (by decide) k) ?_
      refine own_via (F' := T0.setTop (mkF m 28 #[.val (.long p0), .second, .val (.long p1), .second, .val (.int p2), .val (.int (0 : Int32)), .val (.int (0 : Int32)), .unset, .unset, .unset, .unset, .unset, .unset] [])) (fun t k => XS.istore X0.here hx rfl (hb hby at_26) rfl (l' := #[.val (.long p0), .second, .val (.long p1), .second, .val (.int p2), .val (.int (0 : Int32)), .val (.int (0 : Int32)), .unset, .unset, .unset, .unset, .unset, .unset]) rfl k) ?_
      refine own_via (F' := T0.setTop (mkF m 30 #[.val (.long p0), .second, .val (.long p1), .second, .val (.int p2), .val (.int (0 : Int32)), .val (.int (0 : Int32)), .unset, .unset, .unset, .unset, .unset, .unset] [(.int (0 : Int32))])) (fun t k => XS.iload X0.here hx rfl (hb hby at_28) rfl k) ?_
      refine own_via (F' := T0.setTop (mkF m 37 #[.val (.long p0), .second, .val (.long p1), .second, .val (.int p2), .val (.int (0 : Int32)), .val (.int (0 : Int32)), .unset, .unset, .unset, .unset, .unset, .unset] [])) (fun t k => XS.ifYes X0.here hx rfl (pc0 := 30) (pc' := 37) rfl (hb hby at_30) rfl (XT.i0_eq_t (by decide)) (by decide) (by decide) k) ?_
      refine own_via (F' := T0.setTop (mkF m 38 #[.val (.long p0), .second, .val (.long p1), .second, .val (.int p2), .val (.int (0 : Int32)), .val (.int (0 : Int32)), .unset, .unset, .unset, .unset, .unset, .unset] [(.long p1)])) (fun t k => XT.lloadN X0.here hx rfl (hb hby at_37) rfl k) ?_
      refine own_via (F' := T0.setTop (mkF m 40 #[.val (.long p0), .second, .val (.long p1), .second, .val (.int p2), .val (.int (0 : Int32)), .val (.int (0 : Int32)), .val (.long p1), .second, .unset, .unset, .unset, .unset] [])) (fun t k => XT.lstore X0.here hx rfl (hb hby at_38) rfl (l' := #[.val (.long p0), .second, .val (.long p1), .second, .val (.int p2), .val (.int (0 : Int32)), .val (.int (0 : Int32)), .val (.long p1), .second, .unset, .unset, .unset, .unset]) rfl k) ?_
      refine own_via (F' := T0.setTop (mkF m 41 #[.val (.long p0), .second, .val (.long p1), .second, .val (.int p2), .val (.int (0 : Int32)), .val (.int (0 : Int32)), .val (.long p1), .second, .unset, .unset, .unset, .unset] [(.long p0)])) (fun t k => XT.lloadN X0.here hx rfl (hb hby at_40) rfl k) ?_
      refine own_callS X0 hx hZ (own_ka l Z az hw p0 h0 n0 O0 aZ SZ) hown (hw _ (List.mem_of_getElem? (i := 0) rfl)) (hw _ (List.mem_of_getElem? (i := 1) rfl)) (hw _ (List.mem_of_getElem? (i := 2) rfl)) (hw _ (List.mem_of_getElem? (i := 3) rfl)) (by decide) e0 (g := (mkF m 41 #[.val (.long p0), .second, .val (.long p1), .second, .val (.int p2), .val (.int (0 : Int32)), .val (.int (0 : Int32)), .val (.long p1), .second, .unset, .unset, .unset, .unset] [(.long p0)])) rfl (by rw [hml]; rfl) (argsL := [(.long p0)]) (rest := []) rfl (lenOf own_pd2 rfl) rfl 0 (by show 2 * 0 + _ ≤ _; exact Nat.le_of_eq rfl) (hb hby at_41) (by decide) (by decide) (by decide) (by decide) ?_
      intro v13 T13 L13 hQ13 X13
      obtain ⟨b13, rfl, M13, K13, B13, E13, Fa13, Fb13, Fc13, Fd13⟩ := hQ13
      refine own_via (F' := T13.setTop (mkF m 44 #[.val (.long p0), .second, .val (.long p1), .second, .val (.int p2), .val (.int (0 : Int32)), .val (.int (0 : Int32)), .val (.long p1), .second, .unset, .unset, .unset, .unset] [(.ref b13)])) (fun t k => k) ?_
      refine own_via (F' := T13.setTop (mkF m 46 #[.val (.long p0), .second, .val (.long p1), .second, .val (.int p2), .val (.int (0 : Int32)), .val (.int (0 : Int32)), .val (.long p1), .second, .val (.ref b13), .unset, .unset, .unset] [])) (fun t k => XS.astore X13.here hx rfl (hb hby at_44) rfl rfl (l' := #[.val (.long p0), .second, .val (.long p1), .second, .val (.int p2), .val (.int (0 : Int32)), .val (.int (0 : Int32)), .val (.long p1), .second, .val (.ref b13), .unset, .unset, .unset]) rfl k) ?_
      refine own_via (F' := T13.setTop (mkF m 48 #[.val (.long p0), .second, .val (.long p1), .second, .val (.int p2), .val (.int (0 : Int32)), .val (.int (0 : Int32)), .val (.long p1), .second, .val (.ref b13), .unset, .unset, .unset] [(.long p1)])) (fun t k => XT.lload X13.here hx rfl (hb hby at_46) rfl k) ?_
      have f14 := (O0.keep K13 all0)
      refine own_callS X13 hx hZ (own_ka l Z az hw p1 T13.heap n0 f14 aZ SZ) hown (hw _ (List.mem_of_getElem? (i := 0) rfl)) (hw _ (List.mem_of_getElem? (i := 1) rfl)) (hw _ (List.mem_of_getElem? (i := 2) rfl)) (hw _ (List.mem_of_getElem? (i := 3) rfl)) (by decide) rfl (g := (mkF m 48 #[.val (.long p0), .second, .val (.long p1), .second, .val (.int p2), .val (.int (0 : Int32)), .val (.int (0 : Int32)), .val (.long p1), .second, .val (.ref b13), .unset, .unset, .unset] [(.long p1)])) rfl (by rw [hml]; rfl) (argsL := [(.long p1)]) (rest := []) rfl (lenOf own_pd2 rfl) rfl 0 (by show 2 * 0 + _ ≤ _; exact Nat.le_of_eq rfl) (hb hby at_48) (by decide) (by decide) (by decide) (by decide) ?_
      intro v15 T15 L15 hQ15 X15
      obtain ⟨b15, rfl, M15, K15, B15, E15, Fa15, Fb15, Fc15, Fd15⟩ := hQ15
      refine own_via (F' := T15.setTop (mkF m 51 #[.val (.long p0), .second, .val (.long p1), .second, .val (.int p2), .val (.int (0 : Int32)), .val (.int (0 : Int32)), .val (.long p1), .second, .val (.ref b13), .unset, .unset, .unset] [(.ref b15)])) (fun t k => k) ?_
      refine own_via (F' := T15.setTop (mkF m 53 #[.val (.long p0), .second, .val (.long p1), .second, .val (.int p2), .val (.int (0 : Int32)), .val (.int (0 : Int32)), .val (.long p1), .second, .val (.ref b13), .val (.ref b15), .unset, .unset] [])) (fun t k => XS.astore X15.here hx rfl (hb hby at_51) rfl rfl (l' := #[.val (.long p0), .second, .val (.long p1), .second, .val (.int p2), .val (.int (0 : Int32)), .val (.int (0 : Int32)), .val (.long p1), .second, .val (.ref b13), .val (.ref b15), .unset, .unset]) rfl k) ?_
      refine own_via (F' := T15.setTop (mkF m 55 #[.val (.long p0), .second, .val (.long p1), .second, .val (.int p2), .val (.int (0 : Int32)), .val (.int (0 : Int32)), .val (.long p1), .second, .val (.ref b13), .val (.ref b15), .unset, .unset] [(.int (0 : Int32))])) (fun t k => XS.iload X15.here hx rfl (hb hby at_53) rfl k) ?_
      have f16 := (f14.keep K15 all0)
      refine own_callS X15 hx hZ (own_kf l Z az hw (0 : Int32) T15.heap n0 f16 aZ SZ (by decide) (by decide)) hown (hw _ (List.mem_of_getElem? (i := 22) rfl)) (hw _ (List.mem_of_getElem? (i := 23) rfl)) (hw _ (List.mem_of_getElem? (i := 2) rfl)) (hw _ (List.mem_of_getElem? (i := 24) rfl)) (by decide) rfl (g := (mkF m 55 #[.val (.long p0), .second, .val (.long p1), .second, .val (.int p2), .val (.int (0 : Int32)), .val (.int (0 : Int32)), .val (.long p1), .second, .val (.ref b13), .val (.ref b15), .unset, .unset] [(.int (0 : Int32))])) rfl (by rw [hml]; rfl) (argsL := [(.int (0 : Int32))]) (rest := []) rfl (lenOf own_pd3 rfl) rfl 0 (by show 2 * 0 + _ ≤ _; exact Nat.le_of_eq rfl) (hb hby at_55) (by decide) (by decide) (by decide) (by decide) ?_
      intro v17 T17 L17 hQ17 X17
      obtain ⟨b17, rfl, M17, K17, B17, E17, Fa17, Fb17, Fc17, Fd17⟩ := hQ17
      refine own_via (F' := T17.setTop (mkF m 58 #[.val (.long p0), .second, .val (.long p1), .second, .val (.int p2), .val (.int (0 : Int32)), .val (.int (0 : Int32)), .val (.long p1), .second, .val (.ref b13), .val (.ref b15), .unset, .unset] [(.ref b17)])) (fun t k => k) ?_
      refine own_via (F' := T17.setTop (mkF m 60 #[.val (.long p0), .second, .val (.long p1), .second, .val (.int p2), .val (.int (0 : Int32)), .val (.int (0 : Int32)), .val (.long p1), .second, .val (.ref b13), .val (.ref b15), .val (.ref b17), .unset] [])) (fun t k => XS.astore X17.here hx rfl (hb hby at_58) rfl rfl (l' := #[.val (.long p0), .second, .val (.long p1), .second, .val (.int p2), .val (.int (0 : Int32)), .val (.int (0 : Int32)), .val (.long p1), .second, .val (.ref b13), .val (.ref b15), .val (.ref b17), .unset]) rfl k) ?_
      refine own_via (F' := T17.setTop (mkF m 62 #[.val (.long p0), .second, .val (.long p1), .second, .val (.int p2), .val (.int (0 : Int32)), .val (.int (0 : Int32)), .val (.long p1), .second, .val (.ref b13), .val (.ref b15), .val (.ref b17), .unset] [(.ref b13)])) (fun t k => XS.aload X17.here hx rfl (hb hby at_60) rfl rfl k) ?_
      have f18 := ((Fa13.keep K15 nin0).keep K17 nin0)
      have f20 := ((E13.keep K15).keep K17)
      refine own_callV X17 hx hZ (own_g_isAllowed l Z az hw b13 (1 : Int32) (by decide) T17.heap f18) hown f20 (hw _ (List.mem_of_getElem? (i := 25) rfl)) (hw _ (List.mem_of_getElem? (i := 26) rfl)) (hw _ (List.mem_of_getElem? (i := 28) rfl)) (hw _ (List.mem_of_getElem? (i := 27) rfl)) (hw _ (List.mem_of_getElem? (i := 2) rfl)) (hw _ (List.mem_of_getElem? (i := 29) rfl)) (notFace_of_selects (args := #[]) (mvT hZ (hw _ (List.mem_of_getElem? (i := 28) rfl)))) (by decide) rfl (g := (mkF m 62 #[.val (.long p0), .second, .val (.long p1), .second, .val (.int p2), .val (.int (0 : Int32)), .val (.int (0 : Int32)), .val (.long p1), .second, .val (.ref b13), .val (.ref b15), .val (.ref b17), .unset] [(.ref b13)])) rfl (by rw [hml]; rfl) (argsL := []) (rest := []) rfl (lenOf own_pd4 rfl) rfl 0 (by show 2 * 0 + _ ≤ _; exact Nat.le_of_eq rfl) (hb hby at_62) (by decide) (by decide) (by decide) (by decide) ?_
      intro v19 T19 L19 hQ19 X19
      obtain ⟨rfl, e19, rfl⟩ := hQ19
      refine own_via (F' := T19.setTop (mkF m 65 #[.val (.long p0), .second, .val (.long p1), .second, .val (.int p2), .val (.int (0 : Int32)), .val (.int (0 : Int32)), .val (.long p1), .second, .val (.ref b13), .val (.ref b15), .val (.ref b17), .unset] [(.int (1 : Int32))])) (fun t k => k) ?_
      refine own_via (F' := T19.setTop (mkF m 70 #[.val (.long p0), .second, .val (.long p1), .second, .val (.int p2), .val (.int (0 : Int32)), .val (.int (0 : Int32)), .val (.long p1), .second, .val (.ref b13), .val (.ref b15), .val (.ref b17), .unset] [])) (fun t k => XS.ifYes X19.here hx rfl (pc0 := 65) (pc' := 70) rfl (hb hby at_65) rfl (XT.i0_ne_t (by decide)) (by decide) (by decide) k) ?_
      refine own_via (F' := T19.setTop (mkF m 72 #[.val (.long p0), .second, .val (.long p1), .second, .val (.int p2), .val (.int (0 : Int32)), .val (.int (0 : Int32)), .val (.long p1), .second, .val (.ref b13), .val (.ref b15), .val (.ref b17), .unset] [(.ref b13)])) (fun t k => XS.aload X19.here hx rfl (hb hby at_70) rfl rfl k) ?_
      have f21 := ((Fb13.keep K15 nin0).keep K17 nin0)
      refine own_callV X19 hx hZ (own_g_getRemaining l Z az hw b13 p0 T17.heap f21) hown f20 (hw _ (List.mem_of_getElem? (i := 30) rfl)) (hw _ (List.mem_of_getElem? (i := 31) rfl)) (hw _ (List.mem_of_getElem? (i := 33) rfl)) (hw _ (List.mem_of_getElem? (i := 32) rfl)) (hw _ (List.mem_of_getElem? (i := 2) rfl)) (hw _ (List.mem_of_getElem? (i := 34) rfl)) (notFace_of_selects (args := #[]) (mvT hZ (hw _ (List.mem_of_getElem? (i := 33) rfl)))) (by decide) e19 (g := (mkF m 72 #[.val (.long p0), .second, .val (.long p1), .second, .val (.int p2), .val (.int (0 : Int32)), .val (.int (0 : Int32)), .val (.long p1), .second, .val (.ref b13), .val (.ref b15), .val (.ref b17), .unset] [(.ref b13)])) rfl (by rw [hml]; rfl) (argsL := []) (rest := []) rfl (lenOf own_pd5 rfl) rfl 0 (by show 2 * 0 + _ ≤ _; exact Nat.le_of_eq rfl) (hb hby at_72) (by decide) (by decide) (by decide) (by decide) ?_
      intro v22 T22 L22 hQ22 X22
      obtain ⟨rfl, e22, rfl⟩ := hQ22
      refine own_via (F' := T22.setTop (mkF m 75 #[.val (.long p0), .second, .val (.long p1), .second, .val (.int p2), .val (.int (0 : Int32)), .val (.int (0 : Int32)), .val (.long p1), .second, .val (.ref b13), .val (.ref b15), .val (.ref b17), .unset] [(.long p0)])) (fun t k => k) ?_
      refine own_via (F' := T22.setTop (mkF m 76 #[.val (.long p0), .second, .val (.long p1), .second, .val (.int p2), .val (.int (0 : Int32)), .val (.int (0 : Int32)), .val (.long p1), .second, .val (.ref b13), .val (.ref b15), .val (.ref b17), .unset] [(.long p0), (.long p0)])) (fun t k => XT.lloadN X22.here hx rfl (hb hby at_75) rfl k) ?_
      refine own_via (F' := T22.setTop (mkF m 77 #[.val (.long p0), .second, .val (.long p1), .second, .val (.int p2), .val (.int (0 : Int32)), .val (.int (0 : Int32)), .val (.long p1), .second, .val (.ref b13), .val (.ref b15), .val (.ref b17), .unset] [(.int (XT.cmpL p0 p0))])) (fun t k => XT.lcmp X22.here hx rfl (hb hby at_76) rfl k) ?_
      refine own_via (F' := T22.setTop (mkF m 82 #[.val (.long p0), .second, .val (.long p1), .second, .val (.int p2), .val (.int (0 : Int32)), .val (.int (0 : Int32)), .val (.long p1), .second, .val (.ref b13), .val (.ref b15), .val (.ref b17), .unset] [])) (fun t k => XS.ifYes X22.here hx rfl (pc0 := 77) (pc' := 82) rfl (hb hby at_77) rfl (XT.ll_eq_t rfl) (by decide) (by decide) k) ?_
      refine own_via (F' := T22.setTop (mkF m 84 #[.val (.long p0), .second, .val (.long p1), .second, .val (.int p2), .val (.int (0 : Int32)), .val (.int (0 : Int32)), .val (.long p1), .second, .val (.ref b13), .val (.ref b15), .val (.ref b17), .unset] [(.ref b13)])) (fun t k => XS.aload X22.here hx rfl (hb hby at_82) rfl rfl k) ?_
      have f23 := ((Fd13.keep K15 nin0).keep K17 nin0)
      refine own_callV X22 hx hZ (own_g_isFallback l Z az hw b13 (0 : Int32) (by decide) T17.heap f23) hown f20 (hw _ (List.mem_of_getElem? (i := 35) rfl)) (hw _ (List.mem_of_getElem? (i := 36) rfl)) (hw _ (List.mem_of_getElem? (i := 38) rfl)) (hw _ (List.mem_of_getElem? (i := 37) rfl)) (hw _ (List.mem_of_getElem? (i := 2) rfl)) (hw _ (List.mem_of_getElem? (i := 39) rfl)) (notFace_of_selects (args := #[]) (mvT hZ (hw _ (List.mem_of_getElem? (i := 38) rfl)))) (by decide) e22 (g := (mkF m 84 #[.val (.long p0), .second, .val (.long p1), .second, .val (.int p2), .val (.int (0 : Int32)), .val (.int (0 : Int32)), .val (.long p1), .second, .val (.ref b13), .val (.ref b15), .val (.ref b17), .unset] [(.ref b13)])) rfl (by rw [hml]; rfl) (argsL := []) (rest := []) rfl (lenOf own_pd4 rfl) rfl 0 (by show 2 * 0 + _ ≤ _; exact Nat.le_of_eq rfl) (hb hby at_84) (by decide) (by decide) (by decide) (by decide) ?_
      intro v24 T24 L24 hQ24 X24
      obtain ⟨rfl, e24, rfl⟩ := hQ24
      refine own_via (F' := T24.setTop (mkF m 87 #[.val (.long p0), .second, .val (.long p1), .second, .val (.int p2), .val (.int (0 : Int32)), .val (.int (0 : Int32)), .val (.long p1), .second, .val (.ref b13), .val (.ref b15), .val (.ref b17), .unset] [(.int (0 : Int32))])) (fun t k => k) ?_
      refine own_via (F' := T24.setTop (mkF m 92 #[.val (.long p0), .second, .val (.long p1), .second, .val (.int p2), .val (.int (0 : Int32)), .val (.int (0 : Int32)), .val (.long p1), .second, .val (.ref b13), .val (.ref b15), .val (.ref b17), .unset] [])) (fun t k => XS.ifYes X24.here hx rfl (pc0 := 87) (pc' := 92) rfl (hb hby at_87) rfl (XT.i0_eq_t (by decide)) (by decide) (by decide) k) ?_
      refine own_via (F' := T24.setTop (mkF m 94 #[.val (.long p0), .second, .val (.long p1), .second, .val (.int p2), .val (.int (0 : Int32)), .val (.int (0 : Int32)), .val (.long p1), .second, .val (.ref b13), .val (.ref b15), .val (.ref b17), .unset] [(.ref b13)])) (fun t k => XS.aload X24.here hx rfl (hb hby at_92) rfl rfl k) ?_
      have f25 := ((Fc13.keep K15 nin0).keep K17 nin0)
      refine own_callV X24 hx hZ (own_g_getRetryAfter l Z az hw b13 aZ T17.heap f25) hown f20 (hw _ (List.mem_of_getElem? (i := 40) rfl)) (hw _ (List.mem_of_getElem? (i := 41) rfl)) (hw _ (List.mem_of_getElem? (i := 43) rfl)) (hw _ (List.mem_of_getElem? (i := 42) rfl)) (hw _ (List.mem_of_getElem? (i := 2) rfl)) (hw _ (List.mem_of_getElem? (i := 44) rfl)) (notFace_of_selects (args := #[]) (mvT hZ (hw _ (List.mem_of_getElem? (i := 43) rfl)))) (by decide) e24 (g := (mkF m 94 #[.val (.long p0), .second, .val (.long p1), .second, .val (.int p2), .val (.int (0 : Int32)), .val (.int (0 : Int32)), .val (.long p1), .second, .val (.ref b13), .val (.ref b15), .val (.ref b17), .unset] [(.ref b13)])) rfl (by rw [hml]; rfl) (argsL := []) (rest := []) rfl (lenOf own_pd6 rfl) rfl 0 (by show 2 * 0 + _ ≤ _; exact Nat.le_of_eq rfl) (hb hby at_94) (by decide) (by decide) (by decide) (by decide) ?_
      intro v26 T26 L26 hQ26 X26
      obtain ⟨rfl, e26, rfl⟩ := hQ26
      refine own_via (F' := T26.setTop (mkF m 97 #[.val (.long p0), .second, .val (.long p1), .second, .val (.int p2), .val (.int (0 : Int32)), .val (.int (0 : Int32)), .val (.long p1), .second, .val (.ref b13), .val (.ref b15), .val (.ref b17), .unset] [(.ref aZ)])) (fun t k => k) ?_
      refine own_via (F' := T26.setTop (mkF m 99 #[.val (.long p0), .second, .val (.long p1), .second, .val (.int p2), .val (.int (0 : Int32)), .val (.int (0 : Int32)), .val (.long p1), .second, .val (.ref b13), .val (.ref b15), .val (.ref b17), .unset] [(.ref b17), (.ref aZ)])) (fun t k => XS.aload X26.here hx rfl (hb hby at_97) rfl rfl k) ?_
      refine own_callV X26 hx hZ (own_g_getRetryAfter l Z az hw b17 aZ T17.heap Fc17) hown E17 (hw _ (List.mem_of_getElem? (i := 40) rfl)) (hw _ (List.mem_of_getElem? (i := 41) rfl)) (hw _ (List.mem_of_getElem? (i := 43) rfl)) (hw _ (List.mem_of_getElem? (i := 42) rfl)) (hw _ (List.mem_of_getElem? (i := 2) rfl)) (hw _ (List.mem_of_getElem? (i := 44) rfl)) (notFace_of_selects (args := #[]) (mvT hZ (hw _ (List.mem_of_getElem? (i := 43) rfl)))) (by decide) e26 (g := (mkF m 99 #[.val (.long p0), .second, .val (.long p1), .second, .val (.int p2), .val (.int (0 : Int32)), .val (.int (0 : Int32)), .val (.long p1), .second, .val (.ref b13), .val (.ref b15), .val (.ref b17), .unset] [(.ref b17), (.ref aZ)])) rfl (by rw [hml]; rfl) (argsL := []) (rest := [(.ref aZ)]) rfl (lenOf own_pd6 rfl) rfl 1 (by show 2 * 0 + _ ≤ _; exact Nat.le_of_eq rfl) (hb hby at_99) (by decide) (by decide) (by decide) (by decide) ?_
      intro v27 T27 L27 hQ27 X27
      obtain ⟨rfl, e27, rfl⟩ := hQ27
      refine own_via (F' := T27.setTop (mkF m 102 #[.val (.long p0), .second, .val (.long p1), .second, .val (.int p2), .val (.int (0 : Int32)), .val (.int (0 : Int32)), .val (.long p1), .second, .val (.ref b13), .val (.ref b15), .val (.ref b17), .unset] [(.ref aZ), (.ref aZ)])) (fun t k => k) ?_
      have f29 := (((EZ0.keep K13).keep K15).keep K17)
      refine own_callV X27 hx hZ (own_kq l Z az hw aZ T17.heap) hown f29 (hw _ (List.mem_of_getElem? (i := 45) rfl)) (hw _ (List.mem_of_getElem? (i := 46) rfl)) (hw _ (List.mem_of_getElem? (i := 48) rfl)) (hw _ (List.mem_of_getElem? (i := 47) rfl)) (hw _ (List.mem_of_getElem? (i := 7) rfl)) (hw _ (List.mem_of_getElem? (i := 49) rfl)) (notFace_of_selects (args := #[]) (mvT hZ (hw _ (List.mem_of_getElem? (i := 48) rfl)))) (by decide) e27 (g := (mkF m 102 #[.val (.long p0), .second, .val (.long p1), .second, .val (.int p2), .val (.int (0 : Int32)), .val (.int (0 : Int32)), .val (.long p1), .second, .val (.ref b13), .val (.ref b15), .val (.ref b17), .unset] [(.ref aZ), (.ref aZ)])) rfl (by rw [hml]; rfl) (argsL := [(.ref aZ)]) (rest := []) rfl (lenOf own_pd1 rfl) rfl 0 (by show 2 * 0 + _ ≤ _; exact Nat.le_of_eq rfl) (hb hby at_102) (by decide) (by decide) (by decide) (by decide) ?_
      intro v28 T28 L28 hQ28 X28
      obtain ⟨rfl, e28, rfl⟩ := hQ28
      refine own_via (F' := T28.setTop (mkF m 105 #[.val (.long p0), .second, .val (.long p1), .second, .val (.int p2), .val (.int (0 : Int32)), .val (.int (0 : Int32)), .val (.long p1), .second, .val (.ref b13), .val (.ref b15), .val (.ref b17), .unset] [(.int (1 : Int32))])) (fun t k => k) ?_
      refine own_via (F' := T28.setTop (mkF m 110 #[.val (.long p0), .second, .val (.long p1), .second, .val (.int p2), .val (.int (0 : Int32)), .val (.int (0 : Int32)), .val (.long p1), .second, .val (.ref b13), .val (.ref b15), .val (.ref b17), .unset] [])) (fun t k => XS.ifYes X28.here hx rfl (pc0 := 105) (pc' := 110) rfl (hb hby at_105) rfl (XT.i0_ne_t (by decide)) (by decide) (by decide) k) ?_
      refine own_via (F' := T28.setTop (mkF m 112 #[.val (.long p0), .second, .val (.long p1), .second, .val (.int p2), .val (.int (0 : Int32)), .val (.int (0 : Int32)), .val (.long p1), .second, .val (.ref b13), .val (.ref b15), .val (.ref b17), .unset] [(.ref b13)])) (fun t k => XS.aload X28.here hx rfl (hb hby at_110) rfl rfl k) ?_
      refine own_via (F' := T28.setTop (mkF m 114 #[.val (.long p0), .second, .val (.long p1), .second, .val (.int p2), .val (.int (0 : Int32)), .val (.int (0 : Int32)), .val (.long p1), .second, .val (.ref b13), .val (.ref b15), .val (.ref b17), .unset] [(.ref b15), (.ref b13)])) (fun t k => XS.aload X28.here hx rfl (hb hby at_112) rfl rfl k) ?_
      by_cases q30 : p0 = p1
      · have f31 := (E15.keep K17)
        have f32 := (Fa15.keep K17 nin0)
        have f33 := (Fb15.keep K17 nin0)
        have f34 := (Fc15.keep K17 nin0)
        have f35 := (Fd15.keep K17 nin0)
        refine own_callV X28 hx hZ (own_ke l Z az hw b13 b15 aZ p0 p1 T17.heap f29 f31 f18 f21 f25 f23 f32 f33 f34 f35 (1 : Int32) (if_pos q30)) hown f20 (hw _ (List.mem_of_getElem? (i := 50) rfl)) (hw _ (List.mem_of_getElem? (i := 51) rfl)) (hw _ (List.mem_of_getElem? (i := 53) rfl)) (hw _ (List.mem_of_getElem? (i := 52) rfl)) (hw _ (List.mem_of_getElem? (i := 2) rfl)) (hw _ (List.mem_of_getElem? (i := 54) rfl)) (notFace_of_selects (args := #[]) (mvT hZ (hw _ (List.mem_of_getElem? (i := 53) rfl)))) (by decide) e28 (g := (mkF m 114 #[.val (.long p0), .second, .val (.long p1), .second, .val (.int p2), .val (.int (0 : Int32)), .val (.int (0 : Int32)), .val (.long p1), .second, .val (.ref b13), .val (.ref b15), .val (.ref b17), .unset] [(.ref b15), (.ref b13)])) rfl (by rw [hml]; rfl) (argsL := [(.ref b15)]) (rest := []) rfl (lenOf own_pd1 rfl) rfl 0 (by show 2 * 0 + _ ≤ _; exact Nat.le_of_eq rfl) (hb hby at_114) (by decide) (by decide) (by decide) (by decide) ?_
        intro v36 T36 L36 hQ36 X36
        obtain ⟨rfl, e36, rfl⟩ := hQ36
        refine own_via (F' := T36.setTop (mkF m 117 #[.val (.long p0), .second, .val (.long p1), .second, .val (.int p2), .val (.int (0 : Int32)), .val (.int (0 : Int32)), .val (.long p1), .second, .val (.ref b13), .val (.ref b15), .val (.ref b17), .unset] [(.int (1 : Int32))])) (fun t k => k) ?_
        refine own_via (F' := T36.setTop (mkF m 119 #[.val (.long p0), .second, .val (.long p1), .second, .val (.int p2), .val (.int (0 : Int32)), .val (.int (0 : Int32)), .val (.long p1), .second, .val (.ref b13), .val (.ref b15), .val (.ref b17), .val (.int (1 : Int32))] [])) (fun t k => XS.istore X36.here hx rfl (hb hby at_117) rfl (l' := #[.val (.long p0), .second, .val (.long p1), .second, .val (.int p2), .val (.int (0 : Int32)), .val (.int (0 : Int32)), .val (.long p1), .second, .val (.ref b13), .val (.ref b15), .val (.ref b17), .val (.int (1 : Int32))]) rfl k) ?_
        refine own_via (F' := T36.setTop (mkF m 121 #[.val (.long p0), .second, .val (.long p1), .second, .val (.int p2), .val (.int (0 : Int32)), .val (.int (0 : Int32)), .val (.long p1), .second, .val (.ref b13), .val (.ref b15), .val (.ref b17), .val (.int (1 : Int32))] [(.int (1 : Int32))])) (fun t k => XS.iload X36.here hx rfl (hb hby at_119) rfl k) ?_
        refine own_via (F' := T36.setTop (mkF m 122 #[.val (.long p0), .second, .val (.long p1), .second, .val (.int p2), .val (.int (0 : Int32)), .val (.int (0 : Int32)), .val (.long p1), .second, .val (.ref b13), .val (.ref b15), .val (.ref b17), .val (.int (1 : Int32))] [(.long p0), (.int (1 : Int32))])) (fun t k => XT.lloadN X36.here hx rfl (hb hby at_121) rfl k) ?_
        refine own_via (F' := T36.setTop (mkF m 124 #[.val (.long p0), .second, .val (.long p1), .second, .val (.int p2), .val (.int (0 : Int32)), .val (.int (0 : Int32)), .val (.long p1), .second, .val (.ref b13), .val (.ref b15), .val (.ref b17), .val (.int (1 : Int32))] [(.long p1), (.long p0), (.int (1 : Int32))])) (fun t k => XT.lload X36.here hx rfl (hb hby at_122) rfl k) ?_
        refine own_via (F' := T36.setTop (mkF m 125 #[.val (.long p0), .second, .val (.long p1), .second, .val (.int p2), .val (.int (0 : Int32)), .val (.int (0 : Int32)), .val (.long p1), .second, .val (.ref b13), .val (.ref b15), .val (.ref b17), .val (.int (1 : Int32))] [(.int (XT.cmpL p0 p1)), (.int (1 : Int32))])) (fun t k => XT.lcmp X36.here hx rfl (hb hby at_124) rfl k) ?_
        refine own_via (F' := T36.setTop (mkF m 128 #[.val (.long p0), .second, .val (.long p1), .second, .val (.int p2), .val (.int (0 : Int32)), .val (.int (0 : Int32)), .val (.long p1), .second, .val (.ref b13), .val (.ref b15), .val (.ref b17), .val (.int (1 : Int32))] [(.int (1 : Int32))])) (fun t k => XS.ifNo X36.here hx rfl (hb hby at_125) rfl (XT.ll_ne_f q30) k) ?_
        refine own_via (F' := T36.setTop (mkF m 129 #[.val (.long p0), .second, .val (.long p1), .second, .val (.int p2), .val (.int (0 : Int32)), .val (.int (0 : Int32)), .val (.long p1), .second, .val (.ref b13), .val (.ref b15), .val (.ref b17), .val (.int (1 : Int32))] [(.int (1 : Int32)), (.int (1 : Int32))])) (fun t k => XT.iconstV X36.here hx rfl (1 : Int32) (hb hby at_128) (by decide) k) ?_
        refine own_via (F' := T36.setTop (mkF m 133 #[.val (.long p0), .second, .val (.long p1), .second, .val (.int p2), .val (.int (0 : Int32)), .val (.int (0 : Int32)), .val (.long p1), .second, .val (.ref b13), .val (.ref b15), .val (.ref b17), .val (.int (1 : Int32))] [(.int (1 : Int32)), (.int (1 : Int32))])) (fun t k => XS.goto X36.here hx rfl (pc0 := 129) (pc' := 133) rfl (hb hby at_129) (by decide) (by decide) k) ?_
        refine own_via (F' := T36.setTop (mkF m 136 #[.val (.long p0), .second, .val (.long p1), .second, .val (.int p2), .val (.int (0 : Int32)), .val (.int (0 : Int32)), .val (.long p1), .second, .val (.ref b13), .val (.ref b15), .val (.ref b17), .val (.int (1 : Int32))] [])) (fun t k => XS.icmpNo X36.here hx rfl (hb hby at_133) rfl (XT.ii_ne_f (by decide)) k) ?_
        refine own_via (F' := T36.setTop (mkF m 137 #[.val (.long p0), .second, .val (.long p1), .second, .val (.int p2), .val (.int (0 : Int32)), .val (.int (0 : Int32)), .val (.long p1), .second, .val (.ref b13), .val (.ref b15), .val (.ref b17), .val (.int (1 : Int32))] [(.int (1 : Int32))])) (fun t k => XT.iconstV X36.here hx rfl (1 : Int32) (hb hby at_136) (by decide) k) ?_
        refine own_via (F' := T36.setTop (mkF m 141 #[.val (.long p0), .second, .val (.long p1), .second, .val (.int p2), .val (.int (0 : Int32)), .val (.int (0 : Int32)), .val (.long p1), .second, .val (.ref b13), .val (.ref b15), .val (.ref b17), .val (.int (1 : Int32))] [(.int (1 : Int32))])) (fun t k => XS.goto X36.here hx rfl (pc0 := 137) (pc' := 141) rfl (hb hby at_137) (by decide) (by decide) k) ?_
        exact own_retZ X36 hx hret hlk (hb hby at_141) ⟨rfl, (Fr.app (Fr.app (Fr.app (Fr.app (Fr.app (Fr.app (Fr.app (Fr.app (Fr.app (Fr.app (Fr.nil n0) M13) M15) M17) (Fr.nil _)) (Fr.nil _)) (Fr.nil _)) (Fr.nil _)) (Fr.nil _)) (Fr.nil _)) (Fr.nil _))⟩ (by decide) (by decide)
      · have f37 := (E15.keep K17)
        have f38 := (Fa15.keep K17 nin0)
        have f39 := (Fb15.keep K17 nin0)
        have f40 := (Fc15.keep K17 nin0)
        have f41 := (Fd15.keep K17 nin0)
        refine own_callV X28 hx hZ (own_ke l Z az hw b13 b15 aZ p0 p1 T17.heap f29 f37 f18 f21 f25 f23 f38 f39 f40 f41 (0 : Int32) (if_neg q30)) hown f20 (hw _ (List.mem_of_getElem? (i := 50) rfl)) (hw _ (List.mem_of_getElem? (i := 51) rfl)) (hw _ (List.mem_of_getElem? (i := 53) rfl)) (hw _ (List.mem_of_getElem? (i := 52) rfl)) (hw _ (List.mem_of_getElem? (i := 2) rfl)) (hw _ (List.mem_of_getElem? (i := 54) rfl)) (notFace_of_selects (args := #[]) (mvT hZ (hw _ (List.mem_of_getElem? (i := 53) rfl)))) (by decide) e28 (g := (mkF m 114 #[.val (.long p0), .second, .val (.long p1), .second, .val (.int p2), .val (.int (0 : Int32)), .val (.int (0 : Int32)), .val (.long p1), .second, .val (.ref b13), .val (.ref b15), .val (.ref b17), .unset] [(.ref b15), (.ref b13)])) rfl (by rw [hml]; rfl) (argsL := [(.ref b15)]) (rest := []) rfl (lenOf own_pd1 rfl) rfl 0 (by show 2 * 0 + _ ≤ _; exact Nat.le_of_eq rfl) (hb hby at_114) (by decide) (by decide) (by decide) (by decide) ?_
        intro v42 T42 L42 hQ42 X42
        obtain ⟨rfl, e42, rfl⟩ := hQ42
        refine own_via (F' := T42.setTop (mkF m 117 #[.val (.long p0), .second, .val (.long p1), .second, .val (.int p2), .val (.int (0 : Int32)), .val (.int (0 : Int32)), .val (.long p1), .second, .val (.ref b13), .val (.ref b15), .val (.ref b17), .unset] [(.int (0 : Int32))])) (fun t k => k) ?_
        refine own_via (F' := T42.setTop (mkF m 119 #[.val (.long p0), .second, .val (.long p1), .second, .val (.int p2), .val (.int (0 : Int32)), .val (.int (0 : Int32)), .val (.long p1), .second, .val (.ref b13), .val (.ref b15), .val (.ref b17), .val (.int (0 : Int32))] [])) (fun t k => XS.istore X42.here hx rfl (hb hby at_117) rfl (l' := #[.val (.long p0), .second, .val (.long p1), .second, .val (.int p2), .val (.int (0 : Int32)), .val (.int (0 : Int32)), .val (.long p1), .second, .val (.ref b13), .val (.ref b15), .val (.ref b17), .val (.int (0 : Int32))]) rfl k) ?_
        refine own_via (F' := T42.setTop (mkF m 121 #[.val (.long p0), .second, .val (.long p1), .second, .val (.int p2), .val (.int (0 : Int32)), .val (.int (0 : Int32)), .val (.long p1), .second, .val (.ref b13), .val (.ref b15), .val (.ref b17), .val (.int (0 : Int32))] [(.int (0 : Int32))])) (fun t k => XS.iload X42.here hx rfl (hb hby at_119) rfl k) ?_
        refine own_via (F' := T42.setTop (mkF m 122 #[.val (.long p0), .second, .val (.long p1), .second, .val (.int p2), .val (.int (0 : Int32)), .val (.int (0 : Int32)), .val (.long p1), .second, .val (.ref b13), .val (.ref b15), .val (.ref b17), .val (.int (0 : Int32))] [(.long p0), (.int (0 : Int32))])) (fun t k => XT.lloadN X42.here hx rfl (hb hby at_121) rfl k) ?_
        refine own_via (F' := T42.setTop (mkF m 124 #[.val (.long p0), .second, .val (.long p1), .second, .val (.int p2), .val (.int (0 : Int32)), .val (.int (0 : Int32)), .val (.long p1), .second, .val (.ref b13), .val (.ref b15), .val (.ref b17), .val (.int (0 : Int32))] [(.long p1), (.long p0), (.int (0 : Int32))])) (fun t k => XT.lload X42.here hx rfl (hb hby at_122) rfl k) ?_
        refine own_via (F' := T42.setTop (mkF m 125 #[.val (.long p0), .second, .val (.long p1), .second, .val (.int p2), .val (.int (0 : Int32)), .val (.int (0 : Int32)), .val (.long p1), .second, .val (.ref b13), .val (.ref b15), .val (.ref b17), .val (.int (0 : Int32))] [(.int (XT.cmpL p0 p1)), (.int (0 : Int32))])) (fun t k => XT.lcmp X42.here hx rfl (hb hby at_124) rfl k) ?_
        refine own_via (F' := T42.setTop (mkF m 132 #[.val (.long p0), .second, .val (.long p1), .second, .val (.int p2), .val (.int (0 : Int32)), .val (.int (0 : Int32)), .val (.long p1), .second, .val (.ref b13), .val (.ref b15), .val (.ref b17), .val (.int (0 : Int32))] [(.int (0 : Int32))])) (fun t k => XS.ifYes X42.here hx rfl (pc0 := 125) (pc' := 132) rfl (hb hby at_125) rfl (XT.ll_ne_t q30) (by decide) (by decide) k) ?_
        refine own_via (F' := T42.setTop (mkF m 133 #[.val (.long p0), .second, .val (.long p1), .second, .val (.int p2), .val (.int (0 : Int32)), .val (.int (0 : Int32)), .val (.long p1), .second, .val (.ref b13), .val (.ref b15), .val (.ref b17), .val (.int (0 : Int32))] [(.int (0 : Int32)), (.int (0 : Int32))])) (fun t k => XT.iconstV X42.here hx rfl (0 : Int32) (hb hby at_132) (by decide) k) ?_
        refine own_via (F' := T42.setTop (mkF m 136 #[.val (.long p0), .second, .val (.long p1), .second, .val (.int p2), .val (.int (0 : Int32)), .val (.int (0 : Int32)), .val (.long p1), .second, .val (.ref b13), .val (.ref b15), .val (.ref b17), .val (.int (0 : Int32))] [])) (fun t k => XS.icmpNo X42.here hx rfl (hb hby at_133) rfl (XT.ii_ne_f (by decide)) k) ?_
        refine own_via (F' := T42.setTop (mkF m 137 #[.val (.long p0), .second, .val (.long p1), .second, .val (.int p2), .val (.int (0 : Int32)), .val (.int (0 : Int32)), .val (.long p1), .second, .val (.ref b13), .val (.ref b15), .val (.ref b17), .val (.int (0 : Int32))] [(.int (1 : Int32))])) (fun t k => XT.iconstV X42.here hx rfl (1 : Int32) (hb hby at_136) (by decide) k) ?_
        refine own_via (F' := T42.setTop (mkF m 141 #[.val (.long p0), .second, .val (.long p1), .second, .val (.int p2), .val (.int (0 : Int32)), .val (.int (0 : Int32)), .val (.long p1), .second, .val (.ref b13), .val (.ref b15), .val (.ref b17), .val (.int (0 : Int32))] [(.int (1 : Int32))])) (fun t k => XS.goto X42.here hx rfl (pc0 := 137) (pc' := 141) rfl (hb hby at_137) (by decide) (by decide) k) ?_
        exact own_retZ X42 hx hret hlk (hb hby at_141) ⟨rfl, (Fr.app (Fr.app (Fr.app (Fr.app (Fr.app (Fr.app (Fr.app (Fr.app (Fr.app (Fr.app (Fr.nil n0) M13) M15) M17) (Fr.nil _)) (Fr.nil _)) (Fr.nil _)) (Fr.nil _)) (Fr.nil _)) (Fr.nil _)) (Fr.nil _))⟩ (by decide) (by decide)
    · refine own_via (F' := T0.setTop (mkF m 21 #[.val (.long p0), .second, .val (.long p1), .second, .val (.int p2), .val (.int (0 : Int32)), .unset, .unset, .unset, .unset, .unset, .unset, .unset] [])) (fun t k => XS.ifNo X0.here hx rfl (hb hby at_18) rfl (XT.i0_eq_f q12) k) ?_
      refine own_via (F' := T0.setTop (mkF m 22 #[.val (.long p0), .second, .val (.long p1), .second, .val (.int p2), .val (.int (0 : Int32)), .unset, .unset, .unset, .unset, .unset, .unset, .unset] [(.int (1 : Int32))])) (fun t k => XT.iconstV X0.here hx rfl (1 : Int32) (hb hby at_21) (by decide) k) ?_
      refine own_via (F' := T0.setTop (mkF m 26 #[.val (.long p0), .second, .val (.long p1), .second, .val (.int p2), .val (.int (0 : Int32)), .unset, .unset, .unset, .unset, .unset, .unset, .unset] [(.int (1 : Int32))])) (fun t k => XS.goto X0.here hx rfl (pc0 := 22) (pc' := 26) rfl (hb hby at_22) (by decide) (by decide) k) ?_
      refine own_via (F' := T0.setTop (mkF m 28 #[.val (.long p0), .second, .val (.long p1), .second, .val (.int p2), .val (.int (0 : Int32)), .val (.int (1 : Int32)), .unset, .unset, .unset, .unset, .unset, .unset] [])) (fun t k => XS.istore X0.here hx rfl (hb hby at_26) rfl (l' := #[.val (.long p0), .second, .val (.long p1), .second, .val (.int p2), .val (.int (0 : Int32)), .val (.int (1 : Int32)), .unset, .unset, .unset, .unset, .unset, .unset]) rfl k) ?_
      refine own_via (F' := T0.setTop (mkF m 30 #[.val (.long p0), .second, .val (.long p1), .second, .val (.int p2), .val (.int (0 : Int32)), .val (.int (1 : Int32)), .unset, .unset, .unset, .unset, .unset, .unset] [(.int (0 : Int32))])) (fun t k => XS.iload X0.here hx rfl (hb hby at_28) rfl k) ?_
      refine own_via (F' := T0.setTop (mkF m 37 #[.val (.long p0), .second, .val (.long p1), .second, .val (.int p2), .val (.int (0 : Int32)), .val (.int (1 : Int32)), .unset, .unset, .unset, .unset, .unset, .unset] [])) (fun t k => XS.ifYes X0.here hx rfl (pc0 := 30) (pc' := 37) rfl (hb hby at_30) rfl (XT.i0_eq_t (by decide)) (by decide) (by decide) k) ?_
      refine own_via (F' := T0.setTop (mkF m 38 #[.val (.long p0), .second, .val (.long p1), .second, .val (.int p2), .val (.int (0 : Int32)), .val (.int (1 : Int32)), .unset, .unset, .unset, .unset, .unset, .unset] [(.long p1)])) (fun t k => XT.lloadN X0.here hx rfl (hb hby at_37) rfl k) ?_
      refine own_via (F' := T0.setTop (mkF m 40 #[.val (.long p0), .second, .val (.long p1), .second, .val (.int p2), .val (.int (0 : Int32)), .val (.int (1 : Int32)), .val (.long p1), .second, .unset, .unset, .unset, .unset] [])) (fun t k => XT.lstore X0.here hx rfl (hb hby at_38) rfl (l' := #[.val (.long p0), .second, .val (.long p1), .second, .val (.int p2), .val (.int (0 : Int32)), .val (.int (1 : Int32)), .val (.long p1), .second, .unset, .unset, .unset, .unset]) rfl k) ?_
      refine own_via (F' := T0.setTop (mkF m 41 #[.val (.long p0), .second, .val (.long p1), .second, .val (.int p2), .val (.int (0 : Int32)), .val (.int (1 : Int32)), .val (.long p1), .second, .unset, .unset, .unset, .unset] [(.long p0)])) (fun t k => XT.lloadN X0.here hx rfl (hb hby at_40) rfl k) ?_
      refine own_callS X0 hx hZ (own_ka l Z az hw p0 h0 n0 O0 aZ SZ) hown (hw _ (List.mem_of_getElem? (i := 0) rfl)) (hw _ (List.mem_of_getElem? (i := 1) rfl)) (hw _ (List.mem_of_getElem? (i := 2) rfl)) (hw _ (List.mem_of_getElem? (i := 3) rfl)) (by decide) e0 (g := (mkF m 41 #[.val (.long p0), .second, .val (.long p1), .second, .val (.int p2), .val (.int (0 : Int32)), .val (.int (1 : Int32)), .val (.long p1), .second, .unset, .unset, .unset, .unset] [(.long p0)])) rfl (by rw [hml]; rfl) (argsL := [(.long p0)]) (rest := []) rfl (lenOf own_pd2 rfl) rfl 0 (by show 2 * 0 + _ ≤ _; exact Nat.le_of_eq rfl) (hb hby at_41) (by decide) (by decide) (by decide) (by decide) ?_
      intro v43 T43 L43 hQ43 X43
      obtain ⟨b43, rfl, M43, K43, B43, E43, Fa43, Fb43, Fc43, Fd43⟩ := hQ43
      refine own_via (F' := T43.setTop (mkF m 44 #[.val (.long p0), .second, .val (.long p1), .second, .val (.int p2), .val (.int (0 : Int32)), .val (.int (1 : Int32)), .val (.long p1), .second, .unset, .unset, .unset, .unset] [(.ref b43)])) (fun t k => k) ?_
      refine own_via (F' := T43.setTop (mkF m 46 #[.val (.long p0), .second, .val (.long p1), .second, .val (.int p2), .val (.int (0 : Int32)), .val (.int (1 : Int32)), .val (.long p1), .second, .val (.ref b43), .unset, .unset, .unset] [])) (fun t k => XS.astore X43.here hx rfl (hb hby at_44) rfl rfl (l' := #[.val (.long p0), .second, .val (.long p1), .second, .val (.int p2), .val (.int (0 : Int32)), .val (.int (1 : Int32)), .val (.long p1), .second, .val (.ref b43), .unset, .unset, .unset]) rfl k) ?_
      refine own_via (F' := T43.setTop (mkF m 48 #[.val (.long p0), .second, .val (.long p1), .second, .val (.int p2), .val (.int (0 : Int32)), .val (.int (1 : Int32)), .val (.long p1), .second, .val (.ref b43), .unset, .unset, .unset] [(.long p1)])) (fun t k => XT.lload X43.here hx rfl (hb hby at_46) rfl k) ?_
      have f44 := (O0.keep K43 all0)
      refine own_callS X43 hx hZ (own_ka l Z az hw p1 T43.heap n0 f44 aZ SZ) hown (hw _ (List.mem_of_getElem? (i := 0) rfl)) (hw _ (List.mem_of_getElem? (i := 1) rfl)) (hw _ (List.mem_of_getElem? (i := 2) rfl)) (hw _ (List.mem_of_getElem? (i := 3) rfl)) (by decide) rfl (g := (mkF m 48 #[.val (.long p0), .second, .val (.long p1), .second, .val (.int p2), .val (.int (0 : Int32)), .val (.int (1 : Int32)), .val (.long p1), .second, .val (.ref b43), .unset, .unset, .unset] [(.long p1)])) rfl (by rw [hml]; rfl) (argsL := [(.long p1)]) (rest := []) rfl (lenOf own_pd2 rfl) rfl 0 (by show 2 * 0 + _ ≤ _; exact Nat.le_of_eq rfl) (hb hby at_48) (by decide) (by decide) (by decide) (by decide) ?_
      intro v45 T45 L45 hQ45 X45
      obtain ⟨b45, rfl, M45, K45, B45, E45, Fa45, Fb45, Fc45, Fd45⟩ := hQ45
      refine own_via (F' := T45.setTop (mkF m 51 #[.val (.long p0), .second, .val (.long p1), .second, .val (.int p2), .val (.int (0 : Int32)), .val (.int (1 : Int32)), .val (.long p1), .second, .val (.ref b43), .unset, .unset, .unset] [(.ref b45)])) (fun t k => k) ?_
      refine own_via (F' := T45.setTop (mkF m 53 #[.val (.long p0), .second, .val (.long p1), .second, .val (.int p2), .val (.int (0 : Int32)), .val (.int (1 : Int32)), .val (.long p1), .second, .val (.ref b43), .val (.ref b45), .unset, .unset] [])) (fun t k => XS.astore X45.here hx rfl (hb hby at_51) rfl rfl (l' := #[.val (.long p0), .second, .val (.long p1), .second, .val (.int p2), .val (.int (0 : Int32)), .val (.int (1 : Int32)), .val (.long p1), .second, .val (.ref b43), .val (.ref b45), .unset, .unset]) rfl k) ?_
      refine own_via (F' := T45.setTop (mkF m 55 #[.val (.long p0), .second, .val (.long p1), .second, .val (.int p2), .val (.int (0 : Int32)), .val (.int (1 : Int32)), .val (.long p1), .second, .val (.ref b43), .val (.ref b45), .unset, .unset] [(.int (1 : Int32))])) (fun t k => XS.iload X45.here hx rfl (hb hby at_53) rfl k) ?_
      have f46 := (f44.keep K45 all0)
      refine own_callS X45 hx hZ (own_kf l Z az hw (1 : Int32) T45.heap n0 f46 aZ SZ (by decide) (by decide)) hown (hw _ (List.mem_of_getElem? (i := 22) rfl)) (hw _ (List.mem_of_getElem? (i := 23) rfl)) (hw _ (List.mem_of_getElem? (i := 2) rfl)) (hw _ (List.mem_of_getElem? (i := 24) rfl)) (by decide) rfl (g := (mkF m 55 #[.val (.long p0), .second, .val (.long p1), .second, .val (.int p2), .val (.int (0 : Int32)), .val (.int (1 : Int32)), .val (.long p1), .second, .val (.ref b43), .val (.ref b45), .unset, .unset] [(.int (1 : Int32))])) rfl (by rw [hml]; rfl) (argsL := [(.int (1 : Int32))]) (rest := []) rfl (lenOf own_pd3 rfl) rfl 0 (by show 2 * 0 + _ ≤ _; exact Nat.le_of_eq rfl) (hb hby at_55) (by decide) (by decide) (by decide) (by decide) ?_
      intro v47 T47 L47 hQ47 X47
      obtain ⟨b47, rfl, M47, K47, B47, E47, Fa47, Fb47, Fc47, Fd47⟩ := hQ47
      refine own_via (F' := T47.setTop (mkF m 58 #[.val (.long p0), .second, .val (.long p1), .second, .val (.int p2), .val (.int (0 : Int32)), .val (.int (1 : Int32)), .val (.long p1), .second, .val (.ref b43), .val (.ref b45), .unset, .unset] [(.ref b47)])) (fun t k => k) ?_
      refine own_via (F' := T47.setTop (mkF m 60 #[.val (.long p0), .second, .val (.long p1), .second, .val (.int p2), .val (.int (0 : Int32)), .val (.int (1 : Int32)), .val (.long p1), .second, .val (.ref b43), .val (.ref b45), .val (.ref b47), .unset] [])) (fun t k => XS.astore X47.here hx rfl (hb hby at_58) rfl rfl (l' := #[.val (.long p0), .second, .val (.long p1), .second, .val (.int p2), .val (.int (0 : Int32)), .val (.int (1 : Int32)), .val (.long p1), .second, .val (.ref b43), .val (.ref b45), .val (.ref b47), .unset]) rfl k) ?_
      refine own_via (F' := T47.setTop (mkF m 62 #[.val (.long p0), .second, .val (.long p1), .second, .val (.int p2), .val (.int (0 : Int32)), .val (.int (1 : Int32)), .val (.long p1), .second, .val (.ref b43), .val (.ref b45), .val (.ref b47), .unset] [(.ref b43)])) (fun t k => XS.aload X47.here hx rfl (hb hby at_60) rfl rfl k) ?_
      have f48 := ((Fa43.keep K45 nin0).keep K47 nin0)
      have f50 := ((E43.keep K45).keep K47)
      refine own_callV X47 hx hZ (own_g_isAllowed l Z az hw b43 (1 : Int32) (by decide) T47.heap f48) hown f50 (hw _ (List.mem_of_getElem? (i := 25) rfl)) (hw _ (List.mem_of_getElem? (i := 26) rfl)) (hw _ (List.mem_of_getElem? (i := 28) rfl)) (hw _ (List.mem_of_getElem? (i := 27) rfl)) (hw _ (List.mem_of_getElem? (i := 2) rfl)) (hw _ (List.mem_of_getElem? (i := 29) rfl)) (notFace_of_selects (args := #[]) (mvT hZ (hw _ (List.mem_of_getElem? (i := 28) rfl)))) (by decide) rfl (g := (mkF m 62 #[.val (.long p0), .second, .val (.long p1), .second, .val (.int p2), .val (.int (0 : Int32)), .val (.int (1 : Int32)), .val (.long p1), .second, .val (.ref b43), .val (.ref b45), .val (.ref b47), .unset] [(.ref b43)])) rfl (by rw [hml]; rfl) (argsL := []) (rest := []) rfl (lenOf own_pd4 rfl) rfl 0 (by show 2 * 0 + _ ≤ _; exact Nat.le_of_eq rfl) (hb hby at_62) (by decide) (by decide) (by decide) (by decide) ?_
      intro v49 T49 L49 hQ49 X49
      obtain ⟨rfl, e49, rfl⟩ := hQ49
      refine own_via (F' := T49.setTop (mkF m 65 #[.val (.long p0), .second, .val (.long p1), .second, .val (.int p2), .val (.int (0 : Int32)), .val (.int (1 : Int32)), .val (.long p1), .second, .val (.ref b43), .val (.ref b45), .val (.ref b47), .unset] [(.int (1 : Int32))])) (fun t k => k) ?_
      refine own_via (F' := T49.setTop (mkF m 70 #[.val (.long p0), .second, .val (.long p1), .second, .val (.int p2), .val (.int (0 : Int32)), .val (.int (1 : Int32)), .val (.long p1), .second, .val (.ref b43), .val (.ref b45), .val (.ref b47), .unset] [])) (fun t k => XS.ifYes X49.here hx rfl (pc0 := 65) (pc' := 70) rfl (hb hby at_65) rfl (XT.i0_ne_t (by decide)) (by decide) (by decide) k) ?_
      refine own_via (F' := T49.setTop (mkF m 72 #[.val (.long p0), .second, .val (.long p1), .second, .val (.int p2), .val (.int (0 : Int32)), .val (.int (1 : Int32)), .val (.long p1), .second, .val (.ref b43), .val (.ref b45), .val (.ref b47), .unset] [(.ref b43)])) (fun t k => XS.aload X49.here hx rfl (hb hby at_70) rfl rfl k) ?_
      have f51 := ((Fb43.keep K45 nin0).keep K47 nin0)
      refine own_callV X49 hx hZ (own_g_getRemaining l Z az hw b43 p0 T47.heap f51) hown f50 (hw _ (List.mem_of_getElem? (i := 30) rfl)) (hw _ (List.mem_of_getElem? (i := 31) rfl)) (hw _ (List.mem_of_getElem? (i := 33) rfl)) (hw _ (List.mem_of_getElem? (i := 32) rfl)) (hw _ (List.mem_of_getElem? (i := 2) rfl)) (hw _ (List.mem_of_getElem? (i := 34) rfl)) (notFace_of_selects (args := #[]) (mvT hZ (hw _ (List.mem_of_getElem? (i := 33) rfl)))) (by decide) e49 (g := (mkF m 72 #[.val (.long p0), .second, .val (.long p1), .second, .val (.int p2), .val (.int (0 : Int32)), .val (.int (1 : Int32)), .val (.long p1), .second, .val (.ref b43), .val (.ref b45), .val (.ref b47), .unset] [(.ref b43)])) rfl (by rw [hml]; rfl) (argsL := []) (rest := []) rfl (lenOf own_pd5 rfl) rfl 0 (by show 2 * 0 + _ ≤ _; exact Nat.le_of_eq rfl) (hb hby at_72) (by decide) (by decide) (by decide) (by decide) ?_
      intro v52 T52 L52 hQ52 X52
      obtain ⟨rfl, e52, rfl⟩ := hQ52
      refine own_via (F' := T52.setTop (mkF m 75 #[.val (.long p0), .second, .val (.long p1), .second, .val (.int p2), .val (.int (0 : Int32)), .val (.int (1 : Int32)), .val (.long p1), .second, .val (.ref b43), .val (.ref b45), .val (.ref b47), .unset] [(.long p0)])) (fun t k => k) ?_
      refine own_via (F' := T52.setTop (mkF m 76 #[.val (.long p0), .second, .val (.long p1), .second, .val (.int p2), .val (.int (0 : Int32)), .val (.int (1 : Int32)), .val (.long p1), .second, .val (.ref b43), .val (.ref b45), .val (.ref b47), .unset] [(.long p0), (.long p0)])) (fun t k => XT.lloadN X52.here hx rfl (hb hby at_75) rfl k) ?_
      refine own_via (F' := T52.setTop (mkF m 77 #[.val (.long p0), .second, .val (.long p1), .second, .val (.int p2), .val (.int (0 : Int32)), .val (.int (1 : Int32)), .val (.long p1), .second, .val (.ref b43), .val (.ref b45), .val (.ref b47), .unset] [(.int (XT.cmpL p0 p0))])) (fun t k => XT.lcmp X52.here hx rfl (hb hby at_76) rfl k) ?_
      refine own_via (F' := T52.setTop (mkF m 82 #[.val (.long p0), .second, .val (.long p1), .second, .val (.int p2), .val (.int (0 : Int32)), .val (.int (1 : Int32)), .val (.long p1), .second, .val (.ref b43), .val (.ref b45), .val (.ref b47), .unset] [])) (fun t k => XS.ifYes X52.here hx rfl (pc0 := 77) (pc' := 82) rfl (hb hby at_77) rfl (XT.ll_eq_t rfl) (by decide) (by decide) k) ?_
      refine own_via (F' := T52.setTop (mkF m 84 #[.val (.long p0), .second, .val (.long p1), .second, .val (.int p2), .val (.int (0 : Int32)), .val (.int (1 : Int32)), .val (.long p1), .second, .val (.ref b43), .val (.ref b45), .val (.ref b47), .unset] [(.ref b43)])) (fun t k => XS.aload X52.here hx rfl (hb hby at_82) rfl rfl k) ?_
      have f53 := ((Fd43.keep K45 nin0).keep K47 nin0)
      refine own_callV X52 hx hZ (own_g_isFallback l Z az hw b43 (0 : Int32) (by decide) T47.heap f53) hown f50 (hw _ (List.mem_of_getElem? (i := 35) rfl)) (hw _ (List.mem_of_getElem? (i := 36) rfl)) (hw _ (List.mem_of_getElem? (i := 38) rfl)) (hw _ (List.mem_of_getElem? (i := 37) rfl)) (hw _ (List.mem_of_getElem? (i := 2) rfl)) (hw _ (List.mem_of_getElem? (i := 39) rfl)) (notFace_of_selects (args := #[]) (mvT hZ (hw _ (List.mem_of_getElem? (i := 38) rfl)))) (by decide) e52 (g := (mkF m 84 #[.val (.long p0), .second, .val (.long p1), .second, .val (.int p2), .val (.int (0 : Int32)), .val (.int (1 : Int32)), .val (.long p1), .second, .val (.ref b43), .val (.ref b45), .val (.ref b47), .unset] [(.ref b43)])) rfl (by rw [hml]; rfl) (argsL := []) (rest := []) rfl (lenOf own_pd4 rfl) rfl 0 (by show 2 * 0 + _ ≤ _; exact Nat.le_of_eq rfl) (hb hby at_84) (by decide) (by decide) (by decide) (by decide) ?_
      intro v54 T54 L54 hQ54 X54
      obtain ⟨rfl, e54, rfl⟩ := hQ54
      refine own_via (F' := T54.setTop (mkF m 87 #[.val (.long p0), .second, .val (.long p1), .second, .val (.int p2), .val (.int (0 : Int32)), .val (.int (1 : Int32)), .val (.long p1), .second, .val (.ref b43), .val (.ref b45), .val (.ref b47), .unset] [(.int (0 : Int32))])) (fun t k => k) ?_
      refine own_via (F' := T54.setTop (mkF m 92 #[.val (.long p0), .second, .val (.long p1), .second, .val (.int p2), .val (.int (0 : Int32)), .val (.int (1 : Int32)), .val (.long p1), .second, .val (.ref b43), .val (.ref b45), .val (.ref b47), .unset] [])) (fun t k => XS.ifYes X54.here hx rfl (pc0 := 87) (pc' := 92) rfl (hb hby at_87) rfl (XT.i0_eq_t (by decide)) (by decide) (by decide) k) ?_
      refine own_via (F' := T54.setTop (mkF m 94 #[.val (.long p0), .second, .val (.long p1), .second, .val (.int p2), .val (.int (0 : Int32)), .val (.int (1 : Int32)), .val (.long p1), .second, .val (.ref b43), .val (.ref b45), .val (.ref b47), .unset] [(.ref b43)])) (fun t k => XS.aload X54.here hx rfl (hb hby at_92) rfl rfl k) ?_
      have f55 := ((Fc43.keep K45 nin0).keep K47 nin0)
      refine own_callV X54 hx hZ (own_g_getRetryAfter l Z az hw b43 aZ T47.heap f55) hown f50 (hw _ (List.mem_of_getElem? (i := 40) rfl)) (hw _ (List.mem_of_getElem? (i := 41) rfl)) (hw _ (List.mem_of_getElem? (i := 43) rfl)) (hw _ (List.mem_of_getElem? (i := 42) rfl)) (hw _ (List.mem_of_getElem? (i := 2) rfl)) (hw _ (List.mem_of_getElem? (i := 44) rfl)) (notFace_of_selects (args := #[]) (mvT hZ (hw _ (List.mem_of_getElem? (i := 43) rfl)))) (by decide) e54 (g := (mkF m 94 #[.val (.long p0), .second, .val (.long p1), .second, .val (.int p2), .val (.int (0 : Int32)), .val (.int (1 : Int32)), .val (.long p1), .second, .val (.ref b43), .val (.ref b45), .val (.ref b47), .unset] [(.ref b43)])) rfl (by rw [hml]; rfl) (argsL := []) (rest := []) rfl (lenOf own_pd6 rfl) rfl 0 (by show 2 * 0 + _ ≤ _; exact Nat.le_of_eq rfl) (hb hby at_94) (by decide) (by decide) (by decide) (by decide) ?_
      intro v56 T56 L56 hQ56 X56
      obtain ⟨rfl, e56, rfl⟩ := hQ56
      refine own_via (F' := T56.setTop (mkF m 97 #[.val (.long p0), .second, .val (.long p1), .second, .val (.int p2), .val (.int (0 : Int32)), .val (.int (1 : Int32)), .val (.long p1), .second, .val (.ref b43), .val (.ref b45), .val (.ref b47), .unset] [(.ref aZ)])) (fun t k => k) ?_
      refine own_via (F' := T56.setTop (mkF m 99 #[.val (.long p0), .second, .val (.long p1), .second, .val (.int p2), .val (.int (0 : Int32)), .val (.int (1 : Int32)), .val (.long p1), .second, .val (.ref b43), .val (.ref b45), .val (.ref b47), .unset] [(.ref b47), (.ref aZ)])) (fun t k => XS.aload X56.here hx rfl (hb hby at_97) rfl rfl k) ?_
      refine own_callV X56 hx hZ (own_g_getRetryAfter l Z az hw b47 aZ T47.heap Fc47) hown E47 (hw _ (List.mem_of_getElem? (i := 40) rfl)) (hw _ (List.mem_of_getElem? (i := 41) rfl)) (hw _ (List.mem_of_getElem? (i := 43) rfl)) (hw _ (List.mem_of_getElem? (i := 42) rfl)) (hw _ (List.mem_of_getElem? (i := 2) rfl)) (hw _ (List.mem_of_getElem? (i := 44) rfl)) (notFace_of_selects (args := #[]) (mvT hZ (hw _ (List.mem_of_getElem? (i := 43) rfl)))) (by decide) e56 (g := (mkF m 99 #[.val (.long p0), .second, .val (.long p1), .second, .val (.int p2), .val (.int (0 : Int32)), .val (.int (1 : Int32)), .val (.long p1), .second, .val (.ref b43), .val (.ref b45), .val (.ref b47), .unset] [(.ref b47), (.ref aZ)])) rfl (by rw [hml]; rfl) (argsL := []) (rest := [(.ref aZ)]) rfl (lenOf own_pd6 rfl) rfl 1 (by show 2 * 0 + _ ≤ _; exact Nat.le_of_eq rfl) (hb hby at_99) (by decide) (by decide) (by decide) (by decide) ?_
      intro v57 T57 L57 hQ57 X57
      obtain ⟨rfl, e57, rfl⟩ := hQ57
      refine own_via (F' := T57.setTop (mkF m 102 #[.val (.long p0), .second, .val (.long p1), .second, .val (.int p2), .val (.int (0 : Int32)), .val (.int (1 : Int32)), .val (.long p1), .second, .val (.ref b43), .val (.ref b45), .val (.ref b47), .unset] [(.ref aZ), (.ref aZ)])) (fun t k => k) ?_
      have f59 := (((EZ0.keep K43).keep K45).keep K47)
      refine own_callV X57 hx hZ (own_kq l Z az hw aZ T47.heap) hown f59 (hw _ (List.mem_of_getElem? (i := 45) rfl)) (hw _ (List.mem_of_getElem? (i := 46) rfl)) (hw _ (List.mem_of_getElem? (i := 48) rfl)) (hw _ (List.mem_of_getElem? (i := 47) rfl)) (hw _ (List.mem_of_getElem? (i := 7) rfl)) (hw _ (List.mem_of_getElem? (i := 49) rfl)) (notFace_of_selects (args := #[]) (mvT hZ (hw _ (List.mem_of_getElem? (i := 48) rfl)))) (by decide) e57 (g := (mkF m 102 #[.val (.long p0), .second, .val (.long p1), .second, .val (.int p2), .val (.int (0 : Int32)), .val (.int (1 : Int32)), .val (.long p1), .second, .val (.ref b43), .val (.ref b45), .val (.ref b47), .unset] [(.ref aZ), (.ref aZ)])) rfl (by rw [hml]; rfl) (argsL := [(.ref aZ)]) (rest := []) rfl (lenOf own_pd1 rfl) rfl 0 (by show 2 * 0 + _ ≤ _; exact Nat.le_of_eq rfl) (hb hby at_102) (by decide) (by decide) (by decide) (by decide) ?_
      intro v58 T58 L58 hQ58 X58
      obtain ⟨rfl, e58, rfl⟩ := hQ58
      refine own_via (F' := T58.setTop (mkF m 105 #[.val (.long p0), .second, .val (.long p1), .second, .val (.int p2), .val (.int (0 : Int32)), .val (.int (1 : Int32)), .val (.long p1), .second, .val (.ref b43), .val (.ref b45), .val (.ref b47), .unset] [(.int (1 : Int32))])) (fun t k => k) ?_
      refine own_via (F' := T58.setTop (mkF m 110 #[.val (.long p0), .second, .val (.long p1), .second, .val (.int p2), .val (.int (0 : Int32)), .val (.int (1 : Int32)), .val (.long p1), .second, .val (.ref b43), .val (.ref b45), .val (.ref b47), .unset] [])) (fun t k => XS.ifYes X58.here hx rfl (pc0 := 105) (pc' := 110) rfl (hb hby at_105) rfl (XT.i0_ne_t (by decide)) (by decide) (by decide) k) ?_
      refine own_via (F' := T58.setTop (mkF m 112 #[.val (.long p0), .second, .val (.long p1), .second, .val (.int p2), .val (.int (0 : Int32)), .val (.int (1 : Int32)), .val (.long p1), .second, .val (.ref b43), .val (.ref b45), .val (.ref b47), .unset] [(.ref b43)])) (fun t k => XS.aload X58.here hx rfl (hb hby at_110) rfl rfl k) ?_
      refine own_via (F' := T58.setTop (mkF m 114 #[.val (.long p0), .second, .val (.long p1), .second, .val (.int p2), .val (.int (0 : Int32)), .val (.int (1 : Int32)), .val (.long p1), .second, .val (.ref b43), .val (.ref b45), .val (.ref b47), .unset] [(.ref b45), (.ref b43)])) (fun t k => XS.aload X58.here hx rfl (hb hby at_112) rfl rfl k) ?_
      by_cases q60 : p0 = p1
      · have f61 := (E45.keep K47)
        have f62 := (Fa45.keep K47 nin0)
        have f63 := (Fb45.keep K47 nin0)
        have f64 := (Fc45.keep K47 nin0)
        have f65 := (Fd45.keep K47 nin0)
        refine own_callV X58 hx hZ (own_ke l Z az hw b43 b45 aZ p0 p1 T47.heap f59 f61 f48 f51 f55 f53 f62 f63 f64 f65 (1 : Int32) (if_pos q60)) hown f50 (hw _ (List.mem_of_getElem? (i := 50) rfl)) (hw _ (List.mem_of_getElem? (i := 51) rfl)) (hw _ (List.mem_of_getElem? (i := 53) rfl)) (hw _ (List.mem_of_getElem? (i := 52) rfl)) (hw _ (List.mem_of_getElem? (i := 2) rfl)) (hw _ (List.mem_of_getElem? (i := 54) rfl)) (notFace_of_selects (args := #[]) (mvT hZ (hw _ (List.mem_of_getElem? (i := 53) rfl)))) (by decide) e58 (g := (mkF m 114 #[.val (.long p0), .second, .val (.long p1), .second, .val (.int p2), .val (.int (0 : Int32)), .val (.int (1 : Int32)), .val (.long p1), .second, .val (.ref b43), .val (.ref b45), .val (.ref b47), .unset] [(.ref b45), (.ref b43)])) rfl (by rw [hml]; rfl) (argsL := [(.ref b45)]) (rest := []) rfl (lenOf own_pd1 rfl) rfl 0 (by show 2 * 0 + _ ≤ _; exact Nat.le_of_eq rfl) (hb hby at_114) (by decide) (by decide) (by decide) (by decide) ?_
        intro v66 T66 L66 hQ66 X66
        obtain ⟨rfl, e66, rfl⟩ := hQ66
        refine own_via (F' := T66.setTop (mkF m 117 #[.val (.long p0), .second, .val (.long p1), .second, .val (.int p2), .val (.int (0 : Int32)), .val (.int (1 : Int32)), .val (.long p1), .second, .val (.ref b43), .val (.ref b45), .val (.ref b47), .unset] [(.int (1 : Int32))])) (fun t k => k) ?_
        refine own_via (F' := T66.setTop (mkF m 119 #[.val (.long p0), .second, .val (.long p1), .second, .val (.int p2), .val (.int (0 : Int32)), .val (.int (1 : Int32)), .val (.long p1), .second, .val (.ref b43), .val (.ref b45), .val (.ref b47), .val (.int (1 : Int32))] [])) (fun t k => XS.istore X66.here hx rfl (hb hby at_117) rfl (l' := #[.val (.long p0), .second, .val (.long p1), .second, .val (.int p2), .val (.int (0 : Int32)), .val (.int (1 : Int32)), .val (.long p1), .second, .val (.ref b43), .val (.ref b45), .val (.ref b47), .val (.int (1 : Int32))]) rfl k) ?_
        refine own_via (F' := T66.setTop (mkF m 121 #[.val (.long p0), .second, .val (.long p1), .second, .val (.int p2), .val (.int (0 : Int32)), .val (.int (1 : Int32)), .val (.long p1), .second, .val (.ref b43), .val (.ref b45), .val (.ref b47), .val (.int (1 : Int32))] [(.int (1 : Int32))])) (fun t k => XS.iload X66.here hx rfl (hb hby at_119) rfl k) ?_
        refine own_via (F' := T66.setTop (mkF m 122 #[.val (.long p0), .second, .val (.long p1), .second, .val (.int p2), .val (.int (0 : Int32)), .val (.int (1 : Int32)), .val (.long p1), .second, .val (.ref b43), .val (.ref b45), .val (.ref b47), .val (.int (1 : Int32))] [(.long p0), (.int (1 : Int32))])) (fun t k => XT.lloadN X66.here hx rfl (hb hby at_121) rfl k) ?_
        refine own_via (F' := T66.setTop (mkF m 124 #[.val (.long p0), .second, .val (.long p1), .second, .val (.int p2), .val (.int (0 : Int32)), .val (.int (1 : Int32)), .val (.long p1), .second, .val (.ref b43), .val (.ref b45), .val (.ref b47), .val (.int (1 : Int32))] [(.long p1), (.long p0), (.int (1 : Int32))])) (fun t k => XT.lload X66.here hx rfl (hb hby at_122) rfl k) ?_
        refine own_via (F' := T66.setTop (mkF m 125 #[.val (.long p0), .second, .val (.long p1), .second, .val (.int p2), .val (.int (0 : Int32)), .val (.int (1 : Int32)), .val (.long p1), .second, .val (.ref b43), .val (.ref b45), .val (.ref b47), .val (.int (1 : Int32))] [(.int (XT.cmpL p0 p1)), (.int (1 : Int32))])) (fun t k => XT.lcmp X66.here hx rfl (hb hby at_124) rfl k) ?_
        refine own_via (F' := T66.setTop (mkF m 128 #[.val (.long p0), .second, .val (.long p1), .second, .val (.int p2), .val (.int (0 : Int32)), .val (.int (1 : Int32)), .val (.long p1), .second, .val (.ref b43), .val (.ref b45), .val (.ref b47), .val (.int (1 : Int32))] [(.int (1 : Int32))])) (fun t k => XS.ifNo X66.here hx rfl (hb hby at_125) rfl (XT.ll_ne_f q60) k) ?_
        refine own_via (F' := T66.setTop (mkF m 129 #[.val (.long p0), .second, .val (.long p1), .second, .val (.int p2), .val (.int (0 : Int32)), .val (.int (1 : Int32)), .val (.long p1), .second, .val (.ref b43), .val (.ref b45), .val (.ref b47), .val (.int (1 : Int32))] [(.int (1 : Int32)), (.int (1 : Int32))])) (fun t k => XT.iconstV X66.here hx rfl (1 : Int32) (hb hby at_128) (by decide) k) ?_
        refine own_via (F' := T66.setTop (mkF m 133 #[.val (.long p0), .second, .val (.long p1), .second, .val (.int p2), .val (.int (0 : Int32)), .val (.int (1 : Int32)), .val (.long p1), .second, .val (.ref b43), .val (.ref b45), .val (.ref b47), .val (.int (1 : Int32))] [(.int (1 : Int32)), (.int (1 : Int32))])) (fun t k => XS.goto X66.here hx rfl (pc0 := 129) (pc' := 133) rfl (hb hby at_129) (by decide) (by decide) k) ?_
        refine own_via (F' := T66.setTop (mkF m 136 #[.val (.long p0), .second, .val (.long p1), .second, .val (.int p2), .val (.int (0 : Int32)), .val (.int (1 : Int32)), .val (.long p1), .second, .val (.ref b43), .val (.ref b45), .val (.ref b47), .val (.int (1 : Int32))] [])) (fun t k => XS.icmpNo X66.here hx rfl (hb hby at_133) rfl (XT.ii_ne_f (by decide)) k) ?_
        refine own_via (F' := T66.setTop (mkF m 137 #[.val (.long p0), .second, .val (.long p1), .second, .val (.int p2), .val (.int (0 : Int32)), .val (.int (1 : Int32)), .val (.long p1), .second, .val (.ref b43), .val (.ref b45), .val (.ref b47), .val (.int (1 : Int32))] [(.int (1 : Int32))])) (fun t k => XT.iconstV X66.here hx rfl (1 : Int32) (hb hby at_136) (by decide) k) ?_
        refine own_via (F' := T66.setTop (mkF m 141 #[.val (.long p0), .second, .val (.long p1), .second, .val (.int p2), .val (.int (0 : Int32)), .val (.int (1 : Int32)), .val (.long p1), .second, .val (.ref b43), .val (.ref b45), .val (.ref b47), .val (.int (1 : Int32))] [(.int (1 : Int32))])) (fun t k => XS.goto X66.here hx rfl (pc0 := 137) (pc' := 141) rfl (hb hby at_137) (by decide) (by decide) k) ?_
        exact own_retZ X66 hx hret hlk (hb hby at_141) ⟨rfl, (Fr.app (Fr.app (Fr.app (Fr.app (Fr.app (Fr.app (Fr.app (Fr.app (Fr.app (Fr.app (Fr.nil n0) M43) M45) M47) (Fr.nil _)) (Fr.nil _)) (Fr.nil _)) (Fr.nil _)) (Fr.nil _)) (Fr.nil _)) (Fr.nil _))⟩ (by decide) (by decide)
      · have f67 := (E45.keep K47)
        have f68 := (Fa45.keep K47 nin0)
        have f69 := (Fb45.keep K47 nin0)
        have f70 := (Fc45.keep K47 nin0)
        have f71 := (Fd45.keep K47 nin0)
        refine own_callV X58 hx hZ (own_ke l Z az hw b43 b45 aZ p0 p1 T47.heap f59 f67 f48 f51 f55 f53 f68 f69 f70 f71 (0 : Int32) (if_neg q60)) hown f50 (hw _ (List.mem_of_getElem? (i := 50) rfl)) (hw _ (List.mem_of_getElem? (i := 51) rfl)) (hw _ (List.mem_of_getElem? (i := 53) rfl)) (hw _ (List.mem_of_getElem? (i := 52) rfl)) (hw _ (List.mem_of_getElem? (i := 2) rfl)) (hw _ (List.mem_of_getElem? (i := 54) rfl)) (notFace_of_selects (args := #[]) (mvT hZ (hw _ (List.mem_of_getElem? (i := 53) rfl)))) (by decide) e58 (g := (mkF m 114 #[.val (.long p0), .second, .val (.long p1), .second, .val (.int p2), .val (.int (0 : Int32)), .val (.int (1 : Int32)), .val (.long p1), .second, .val (.ref b43), .val (.ref b45), .val (.ref b47), .unset] [(.ref b45), (.ref b43)])) rfl (by rw [hml]; rfl) (argsL := [(.ref b45)]) (rest := []) rfl (lenOf own_pd1 rfl) rfl 0 (by show 2 * 0 + _ ≤ _; exact Nat.le_of_eq rfl) (hb hby at_114) (by decide) (by decide) (by decide) (by decide) ?_
        intro v72 T72 L72 hQ72 X72
        obtain ⟨rfl, e72, rfl⟩ := hQ72
        refine own_via (F' := T72.setTop (mkF m 117 #[.val (.long p0), .second, .val (.long p1), .second, .val (.int p2), .val (.int (0 : Int32)), .val (.int (1 : Int32)), .val (.long p1), .second, .val (.ref b43), .val (.ref b45), .val (.ref b47), .unset] [(.int (0 : Int32))])) (fun t k => k) ?_
        refine own_via (F' := T72.setTop (mkF m 119 #[.val (.long p0), .second, .val (.long p1), .second, .val (.int p2), .val (.int (0 : Int32)), .val (.int (1 : Int32)), .val (.long p1), .second, .val (.ref b43), .val (.ref b45), .val (.ref b47), .val (.int (0 : Int32))] [])) (fun t k => XS.istore X72.here hx rfl (hb hby at_117) rfl (l' := #[.val (.long p0), .second, .val (.long p1), .second, .val (.int p2), .val (.int (0 : Int32)), .val (.int (1 : Int32)), .val (.long p1), .second, .val (.ref b43), .val (.ref b45), .val (.ref b47), .val (.int (0 : Int32))]) rfl k) ?_
        refine own_via (F' := T72.setTop (mkF m 121 #[.val (.long p0), .second, .val (.long p1), .second, .val (.int p2), .val (.int (0 : Int32)), .val (.int (1 : Int32)), .val (.long p1), .second, .val (.ref b43), .val (.ref b45), .val (.ref b47), .val (.int (0 : Int32))] [(.int (0 : Int32))])) (fun t k => XS.iload X72.here hx rfl (hb hby at_119) rfl k) ?_
        refine own_via (F' := T72.setTop (mkF m 122 #[.val (.long p0), .second, .val (.long p1), .second, .val (.int p2), .val (.int (0 : Int32)), .val (.int (1 : Int32)), .val (.long p1), .second, .val (.ref b43), .val (.ref b45), .val (.ref b47), .val (.int (0 : Int32))] [(.long p0), (.int (0 : Int32))])) (fun t k => XT.lloadN X72.here hx rfl (hb hby at_121) rfl k) ?_
        refine own_via (F' := T72.setTop (mkF m 124 #[.val (.long p0), .second, .val (.long p1), .second, .val (.int p2), .val (.int (0 : Int32)), .val (.int (1 : Int32)), .val (.long p1), .second, .val (.ref b43), .val (.ref b45), .val (.ref b47), .val (.int (0 : Int32))] [(.long p1), (.long p0), (.int (0 : Int32))])) (fun t k => XT.lload X72.here hx rfl (hb hby at_122) rfl k) ?_
        refine own_via (F' := T72.setTop (mkF m 125 #[.val (.long p0), .second, .val (.long p1), .second, .val (.int p2), .val (.int (0 : Int32)), .val (.int (1 : Int32)), .val (.long p1), .second, .val (.ref b43), .val (.ref b45), .val (.ref b47), .val (.int (0 : Int32))] [(.int (XT.cmpL p0 p1)), (.int (0 : Int32))])) (fun t k => XT.lcmp X72.here hx rfl (hb hby at_124) rfl k) ?_
        refine own_via (F' := T72.setTop (mkF m 132 #[.val (.long p0), .second, .val (.long p1), .second, .val (.int p2), .val (.int (0 : Int32)), .val (.int (1 : Int32)), .val (.long p1), .second, .val (.ref b43), .val (.ref b45), .val (.ref b47), .val (.int (0 : Int32))] [(.int (0 : Int32))])) (fun t k => XS.ifYes X72.here hx rfl (pc0 := 125) (pc' := 132) rfl (hb hby at_125) rfl (XT.ll_ne_t q60) (by decide) (by decide) k) ?_
        refine own_via (F' := T72.setTop (mkF m 133 #[.val (.long p0), .second, .val (.long p1), .second, .val (.int p2), .val (.int (0 : Int32)), .val (.int (1 : Int32)), .val (.long p1), .second, .val (.ref b43), .val (.ref b45), .val (.ref b47), .val (.int (0 : Int32))] [(.int (0 : Int32)), (.int (0 : Int32))])) (fun t k => XT.iconstV X72.here hx rfl (0 : Int32) (hb hby at_132) (by decide) k) ?_
        refine own_via (F' := T72.setTop (mkF m 136 #[.val (.long p0), .second, .val (.long p1), .second, .val (.int p2), .val (.int (0 : Int32)), .val (.int (1 : Int32)), .val (.long p1), .second, .val (.ref b43), .val (.ref b45), .val (.ref b47), .val (.int (0 : Int32))] [])) (fun t k => XS.icmpNo X72.here hx rfl (hb hby at_133) rfl (XT.ii_ne_f (by decide)) k) ?_
        refine own_via (F' := T72.setTop (mkF m 137 #[.val (.long p0), .second, .val (.long p1), .second, .val (.int p2), .val (.int (0 : Int32)), .val (.int (1 : Int32)), .val (.long p1), .second, .val (.ref b43), .val (.ref b45), .val (.ref b47), .val (.int (0 : Int32))] [(.int (1 : Int32))])) (fun t k => XT.iconstV X72.here hx rfl (1 : Int32) (hb hby at_136) (by decide) k) ?_
        refine own_via (F' := T72.setTop (mkF m 141 #[.val (.long p0), .second, .val (.long p1), .second, .val (.int p2), .val (.int (0 : Int32)), .val (.int (1 : Int32)), .val (.long p1), .second, .val (.ref b43), .val (.ref b45), .val (.ref b47), .val (.int (0 : Int32))] [(.int (1 : Int32))])) (fun t k => XS.goto X72.here hx rfl (pc0 := 137) (pc' := 141) rfl (hb hby at_137) (by decide) (by decide) k) ?_
        exact own_retZ X72 hx hret hlk (hb hby at_141) ⟨rfl, (Fr.app (Fr.app (Fr.app (Fr.app (Fr.app (Fr.app (Fr.app (Fr.app (Fr.app (Fr.app (Fr.nil n0) M43) M45) M47) (Fr.nil _)) (Fr.nil _)) (Fr.nil _)) (Fr.nil _)) (Fr.nil _)) (Fr.nil _)) (Fr.nil _))⟩ (by decide) (by decide)
  · refine own_via (F' := T0.setTop (mkF m 7 #[.val (.long p0), .second, .val (.long p1), .second, .val (.int p2), .unset, .unset, .unset, .unset, .unset, .unset, .unset, .unset] [])) (fun t k => XS.ifNo X0.here hx rfl (hb hby at_4) rfl (XT.i0_eq_f q11) k) ?_
    refine own_via (F' := T0.setTop (mkF m 8 #[.val (.long p0), .second, .val (.long p1), .second, .val (.int p2), .unset, .unset, .unset, .unset, .unset, .unset, .unset, .unset] [(.int (1 : Int32))])) (fun t k => XT.iconstV X0.here hx rfl (1 : Int32) (hb hby at_7) (by decide) k) ?_
    refine own_via (F' := T0.setTop (mkF m 12 #[.val (.long p0), .second, .val (.long p1), .second, .val (.int p2), .unset, .unset, .unset, .unset, .unset, .unset, .unset, .unset] [(.int (1 : Int32))])) (fun t k => XS.goto X0.here hx rfl (pc0 := 8) (pc' := 12) rfl (hb hby at_8) (by decide) (by decide) k) ?_
    refine own_via (F' := T0.setTop (mkF m 14 #[.val (.long p0), .second, .val (.long p1), .second, .val (.int p2), .val (.int (1 : Int32)), .unset, .unset, .unset, .unset, .unset, .unset, .unset] [])) (fun t k => XS.istore X0.here hx rfl (hb hby at_12) rfl (l' := #[.val (.long p0), .second, .val (.long p1), .second, .val (.int p2), .val (.int (1 : Int32)), .unset, .unset, .unset, .unset, .unset, .unset, .unset]) rfl k) ?_
    refine own_via (F' := T0.setTop (mkF m 16 #[.val (.long p0), .second, .val (.long p1), .second, .val (.int p2), .val (.int (1 : Int32)), .unset, .unset, .unset, .unset, .unset, .unset, .unset] [(.int p2)])) (fun t k => XS.iload X0.here hx rfl (hb hby at_14) rfl k) ?_
    refine own_via (F' := T0.setTop (mkF m 17 #[.val (.long p0), .second, .val (.long p1), .second, .val (.int p2), .val (.int (1 : Int32)), .unset, .unset, .unset, .unset, .unset, .unset, .unset] [(.int (2 : Int32)), (.int p2)])) (fun t k => XT.iconstV X0.here hx rfl (2 : Int32) (hb hby at_16) (by decide) k) ?_
    refine own_via (F' := T0.setTop (mkF m 18 #[.val (.long p0), .second, .val (.long p1), .second, .val (.int p2), .val (.int (1 : Int32)), .unset, .unset, .unset, .unset, .unset, .unset, .unset] [(.int (p2 &&& (2 : Int32)))])) (fun t k => XS.iand X0.here hx rfl (hb hby at_17) rfl k) ?_
    by_cases q73 : (p2 &&& (2 : Int32)) = (0 : Int32)
    · refine own_via (F' := T0.setTop (mkF m 25 #[.val (.long p0), .second, .val (.long p1), .second, .val (.int p2), .val (.int (1 : Int32)), .unset, .unset, .unset, .unset, .unset, .unset, .unset] [])) (fun t k => XS.ifYes X0.here hx rfl (pc0 := 18) (pc' := 25) rfl (hb hby at_18) rfl (XT.i0_eq_t q73) (by decide) (by decide) k) ?_
      refine own_via (F' := T0.setTop (mkF m 26 #[.val (.long p0), .second, .val (.long p1), .second, .val (.int p2), .val (.int (1 : Int32)), .unset, .unset, .unset, .unset, .unset, .unset, .unset] [(.int (0 : Int32))])) (fun t k => XT.iconstV X0.here hx rfl (0 : Int32) (hb hby at_25) (by decide) k) ?_
      refine own_via (F' := T0.setTop (mkF m 28 #[.val (.long p0), .second, .val (.long p1), .second, .val (.int p2), .val (.int (1 : Int32)), .val (.int (0 : Int32)), .unset, .unset, .unset, .unset, .unset, .unset] [])) (fun t k => XS.istore X0.here hx rfl (hb hby at_26) rfl (l' := #[.val (.long p0), .second, .val (.long p1), .second, .val (.int p2), .val (.int (1 : Int32)), .val (.int (0 : Int32)), .unset, .unset, .unset, .unset, .unset, .unset]) rfl k) ?_
      refine own_via (F' := T0.setTop (mkF m 30 #[.val (.long p0), .second, .val (.long p1), .second, .val (.int p2), .val (.int (1 : Int32)), .val (.int (0 : Int32)), .unset, .unset, .unset, .unset, .unset, .unset] [(.int (1 : Int32))])) (fun t k => XS.iload X0.here hx rfl (hb hby at_28) rfl k) ?_
      refine own_via (F' := T0.setTop (mkF m 33 #[.val (.long p0), .second, .val (.long p1), .second, .val (.int p2), .val (.int (1 : Int32)), .val (.int (0 : Int32)), .unset, .unset, .unset, .unset, .unset, .unset] [])) (fun t k => XS.ifNo X0.here hx rfl (hb hby at_30) rfl (XT.i0_eq_f (by decide)) k) ?_
      refine own_via (F' := T0.setTop (mkF m 34 #[.val (.long p0), .second, .val (.long p1), .second, .val (.int p2), .val (.int (1 : Int32)), .val (.int (0 : Int32)), .unset, .unset, .unset, .unset, .unset, .unset] [(.long p0)])) (fun t k => XT.lloadN X0.here hx rfl (hb hby at_33) rfl k) ?_
      refine own_via (F' := T0.setTop (mkF m 38 #[.val (.long p0), .second, .val (.long p1), .second, .val (.int p2), .val (.int (1 : Int32)), .val (.int (0 : Int32)), .unset, .unset, .unset, .unset, .unset, .unset] [(.long p0)])) (fun t k => XS.goto X0.here hx rfl (pc0 := 34) (pc' := 38) rfl (hb hby at_34) (by decide) (by decide) k) ?_
      refine own_via (F' := T0.setTop (mkF m 40 #[.val (.long p0), .second, .val (.long p1), .second, .val (.int p2), .val (.int (1 : Int32)), .val (.int (0 : Int32)), .val (.long p0), .second, .unset, .unset, .unset, .unset] [])) (fun t k => XT.lstore X0.here hx rfl (hb hby at_38) rfl (l' := #[.val (.long p0), .second, .val (.long p1), .second, .val (.int p2), .val (.int (1 : Int32)), .val (.int (0 : Int32)), .val (.long p0), .second, .unset, .unset, .unset, .unset]) rfl k) ?_
      refine own_via (F' := T0.setTop (mkF m 41 #[.val (.long p0), .second, .val (.long p1), .second, .val (.int p2), .val (.int (1 : Int32)), .val (.int (0 : Int32)), .val (.long p0), .second, .unset, .unset, .unset, .unset] [(.long p0)])) (fun t k => XT.lloadN X0.here hx rfl (hb hby at_40) rfl k) ?_
      refine own_callS X0 hx hZ (own_ka l Z az hw p0 h0 n0 O0 aZ SZ) hown (hw _ (List.mem_of_getElem? (i := 0) rfl)) (hw _ (List.mem_of_getElem? (i := 1) rfl)) (hw _ (List.mem_of_getElem? (i := 2) rfl)) (hw _ (List.mem_of_getElem? (i := 3) rfl)) (by decide) e0 (g := (mkF m 41 #[.val (.long p0), .second, .val (.long p1), .second, .val (.int p2), .val (.int (1 : Int32)), .val (.int (0 : Int32)), .val (.long p0), .second, .unset, .unset, .unset, .unset] [(.long p0)])) rfl (by rw [hml]; rfl) (argsL := [(.long p0)]) (rest := []) rfl (lenOf own_pd2 rfl) rfl 0 (by show 2 * 0 + _ ≤ _; exact Nat.le_of_eq rfl) (hb hby at_41) (by decide) (by decide) (by decide) (by decide) ?_
      intro v74 T74 L74 hQ74 X74
      obtain ⟨b74, rfl, M74, K74, B74, E74, Fa74, Fb74, Fc74, Fd74⟩ := hQ74
      refine own_via (F' := T74.setTop (mkF m 44 #[.val (.long p0), .second, .val (.long p1), .second, .val (.int p2), .val (.int (1 : Int32)), .val (.int (0 : Int32)), .val (.long p0), .second, .unset, .unset, .unset, .unset] [(.ref b74)])) (fun t k => k) ?_
      refine own_via (F' := T74.setTop (mkF m 46 #[.val (.long p0), .second, .val (.long p1), .second, .val (.int p2), .val (.int (1 : Int32)), .val (.int (0 : Int32)), .val (.long p0), .second, .val (.ref b74), .unset, .unset, .unset] [])) (fun t k => XS.astore X74.here hx rfl (hb hby at_44) rfl rfl (l' := #[.val (.long p0), .second, .val (.long p1), .second, .val (.int p2), .val (.int (1 : Int32)), .val (.int (0 : Int32)), .val (.long p0), .second, .val (.ref b74), .unset, .unset, .unset]) rfl k) ?_
      refine own_via (F' := T74.setTop (mkF m 48 #[.val (.long p0), .second, .val (.long p1), .second, .val (.int p2), .val (.int (1 : Int32)), .val (.int (0 : Int32)), .val (.long p0), .second, .val (.ref b74), .unset, .unset, .unset] [(.long p0)])) (fun t k => XT.lload X74.here hx rfl (hb hby at_46) rfl k) ?_
      have f75 := (O0.keep K74 all0)
      refine own_callS X74 hx hZ (own_ka l Z az hw p0 T74.heap n0 f75 aZ SZ) hown (hw _ (List.mem_of_getElem? (i := 0) rfl)) (hw _ (List.mem_of_getElem? (i := 1) rfl)) (hw _ (List.mem_of_getElem? (i := 2) rfl)) (hw _ (List.mem_of_getElem? (i := 3) rfl)) (by decide) rfl (g := (mkF m 48 #[.val (.long p0), .second, .val (.long p1), .second, .val (.int p2), .val (.int (1 : Int32)), .val (.int (0 : Int32)), .val (.long p0), .second, .val (.ref b74), .unset, .unset, .unset] [(.long p0)])) rfl (by rw [hml]; rfl) (argsL := [(.long p0)]) (rest := []) rfl (lenOf own_pd2 rfl) rfl 0 (by show 2 * 0 + _ ≤ _; exact Nat.le_of_eq rfl) (hb hby at_48) (by decide) (by decide) (by decide) (by decide) ?_
      intro v76 T76 L76 hQ76 X76
      obtain ⟨b76, rfl, M76, K76, B76, E76, Fa76, Fb76, Fc76, Fd76⟩ := hQ76
      refine own_via (F' := T76.setTop (mkF m 51 #[.val (.long p0), .second, .val (.long p1), .second, .val (.int p2), .val (.int (1 : Int32)), .val (.int (0 : Int32)), .val (.long p0), .second, .val (.ref b74), .unset, .unset, .unset] [(.ref b76)])) (fun t k => k) ?_
      refine own_via (F' := T76.setTop (mkF m 53 #[.val (.long p0), .second, .val (.long p1), .second, .val (.int p2), .val (.int (1 : Int32)), .val (.int (0 : Int32)), .val (.long p0), .second, .val (.ref b74), .val (.ref b76), .unset, .unset] [])) (fun t k => XS.astore X76.here hx rfl (hb hby at_51) rfl rfl (l' := #[.val (.long p0), .second, .val (.long p1), .second, .val (.int p2), .val (.int (1 : Int32)), .val (.int (0 : Int32)), .val (.long p0), .second, .val (.ref b74), .val (.ref b76), .unset, .unset]) rfl k) ?_
      refine own_via (F' := T76.setTop (mkF m 55 #[.val (.long p0), .second, .val (.long p1), .second, .val (.int p2), .val (.int (1 : Int32)), .val (.int (0 : Int32)), .val (.long p0), .second, .val (.ref b74), .val (.ref b76), .unset, .unset] [(.int (0 : Int32))])) (fun t k => XS.iload X76.here hx rfl (hb hby at_53) rfl k) ?_
      have f77 := (f75.keep K76 all0)
      refine own_callS X76 hx hZ (own_kf l Z az hw (0 : Int32) T76.heap n0 f77 aZ SZ (by decide) (by decide)) hown (hw _ (List.mem_of_getElem? (i := 22) rfl)) (hw _ (List.mem_of_getElem? (i := 23) rfl)) (hw _ (List.mem_of_getElem? (i := 2) rfl)) (hw _ (List.mem_of_getElem? (i := 24) rfl)) (by decide) rfl (g := (mkF m 55 #[.val (.long p0), .second, .val (.long p1), .second, .val (.int p2), .val (.int (1 : Int32)), .val (.int (0 : Int32)), .val (.long p0), .second, .val (.ref b74), .val (.ref b76), .unset, .unset] [(.int (0 : Int32))])) rfl (by rw [hml]; rfl) (argsL := [(.int (0 : Int32))]) (rest := []) rfl (lenOf own_pd3 rfl) rfl 0 (by show 2 * 0 + _ ≤ _; exact Nat.le_of_eq rfl) (hb hby at_55) (by decide) (by decide) (by decide) (by decide) ?_
      intro v78 T78 L78 hQ78 X78
      obtain ⟨b78, rfl, M78, K78, B78, E78, Fa78, Fb78, Fc78, Fd78⟩ := hQ78
      refine own_via (F' := T78.setTop (mkF m 58 #[.val (.long p0), .second, .val (.long p1), .second, .val (.int p2), .val (.int (1 : Int32)), .val (.int (0 : Int32)), .val (.long p0), .second, .val (.ref b74), .val (.ref b76), .unset, .unset] [(.ref b78)])) (fun t k => k) ?_
      refine own_via (F' := T78.setTop (mkF m 60 #[.val (.long p0), .second, .val (.long p1), .second, .val (.int p2), .val (.int (1 : Int32)), .val (.int (0 : Int32)), .val (.long p0), .second, .val (.ref b74), .val (.ref b76), .val (.ref b78), .unset] [])) (fun t k => XS.astore X78.here hx rfl (hb hby at_58) rfl rfl (l' := #[.val (.long p0), .second, .val (.long p1), .second, .val (.int p2), .val (.int (1 : Int32)), .val (.int (0 : Int32)), .val (.long p0), .second, .val (.ref b74), .val (.ref b76), .val (.ref b78), .unset]) rfl k) ?_
      refine own_via (F' := T78.setTop (mkF m 62 #[.val (.long p0), .second, .val (.long p1), .second, .val (.int p2), .val (.int (1 : Int32)), .val (.int (0 : Int32)), .val (.long p0), .second, .val (.ref b74), .val (.ref b76), .val (.ref b78), .unset] [(.ref b74)])) (fun t k => XS.aload X78.here hx rfl (hb hby at_60) rfl rfl k) ?_
      have f79 := ((Fa74.keep K76 nin0).keep K78 nin0)
      have f81 := ((E74.keep K76).keep K78)
      refine own_callV X78 hx hZ (own_g_isAllowed l Z az hw b74 (1 : Int32) (by decide) T78.heap f79) hown f81 (hw _ (List.mem_of_getElem? (i := 25) rfl)) (hw _ (List.mem_of_getElem? (i := 26) rfl)) (hw _ (List.mem_of_getElem? (i := 28) rfl)) (hw _ (List.mem_of_getElem? (i := 27) rfl)) (hw _ (List.mem_of_getElem? (i := 2) rfl)) (hw _ (List.mem_of_getElem? (i := 29) rfl)) (notFace_of_selects (args := #[]) (mvT hZ (hw _ (List.mem_of_getElem? (i := 28) rfl)))) (by decide) rfl (g := (mkF m 62 #[.val (.long p0), .second, .val (.long p1), .second, .val (.int p2), .val (.int (1 : Int32)), .val (.int (0 : Int32)), .val (.long p0), .second, .val (.ref b74), .val (.ref b76), .val (.ref b78), .unset] [(.ref b74)])) rfl (by rw [hml]; rfl) (argsL := []) (rest := []) rfl (lenOf own_pd4 rfl) rfl 0 (by show 2 * 0 + _ ≤ _; exact Nat.le_of_eq rfl) (hb hby at_62) (by decide) (by decide) (by decide) (by decide) ?_
      intro v80 T80 L80 hQ80 X80
      obtain ⟨rfl, e80, rfl⟩ := hQ80
      refine own_via (F' := T80.setTop (mkF m 65 #[.val (.long p0), .second, .val (.long p1), .second, .val (.int p2), .val (.int (1 : Int32)), .val (.int (0 : Int32)), .val (.long p0), .second, .val (.ref b74), .val (.ref b76), .val (.ref b78), .unset] [(.int (1 : Int32))])) (fun t k => k) ?_
      refine own_via (F' := T80.setTop (mkF m 70 #[.val (.long p0), .second, .val (.long p1), .second, .val (.int p2), .val (.int (1 : Int32)), .val (.int (0 : Int32)), .val (.long p0), .second, .val (.ref b74), .val (.ref b76), .val (.ref b78), .unset] [])) (fun t k => XS.ifYes X80.here hx rfl (pc0 := 65) (pc' := 70) rfl (hb hby at_65) rfl (XT.i0_ne_t (by decide)) (by decide) (by decide) k) ?_
      refine own_via (F' := T80.setTop (mkF m 72 #[.val (.long p0), .second, .val (.long p1), .second, .val (.int p2), .val (.int (1 : Int32)), .val (.int (0 : Int32)), .val (.long p0), .second, .val (.ref b74), .val (.ref b76), .val (.ref b78), .unset] [(.ref b74)])) (fun t k => XS.aload X80.here hx rfl (hb hby at_70) rfl rfl k) ?_
      have f82 := ((Fb74.keep K76 nin0).keep K78 nin0)
      refine own_callV X80 hx hZ (own_g_getRemaining l Z az hw b74 p0 T78.heap f82) hown f81 (hw _ (List.mem_of_getElem? (i := 30) rfl)) (hw _ (List.mem_of_getElem? (i := 31) rfl)) (hw _ (List.mem_of_getElem? (i := 33) rfl)) (hw _ (List.mem_of_getElem? (i := 32) rfl)) (hw _ (List.mem_of_getElem? (i := 2) rfl)) (hw _ (List.mem_of_getElem? (i := 34) rfl)) (notFace_of_selects (args := #[]) (mvT hZ (hw _ (List.mem_of_getElem? (i := 33) rfl)))) (by decide) e80 (g := (mkF m 72 #[.val (.long p0), .second, .val (.long p1), .second, .val (.int p2), .val (.int (1 : Int32)), .val (.int (0 : Int32)), .val (.long p0), .second, .val (.ref b74), .val (.ref b76), .val (.ref b78), .unset] [(.ref b74)])) rfl (by rw [hml]; rfl) (argsL := []) (rest := []) rfl (lenOf own_pd5 rfl) rfl 0 (by show 2 * 0 + _ ≤ _; exact Nat.le_of_eq rfl) (hb hby at_72) (by decide) (by decide) (by decide) (by decide) ?_
      intro v83 T83 L83 hQ83 X83
      obtain ⟨rfl, e83, rfl⟩ := hQ83
      refine own_via (F' := T83.setTop (mkF m 75 #[.val (.long p0), .second, .val (.long p1), .second, .val (.int p2), .val (.int (1 : Int32)), .val (.int (0 : Int32)), .val (.long p0), .second, .val (.ref b74), .val (.ref b76), .val (.ref b78), .unset] [(.long p0)])) (fun t k => k) ?_
      refine own_via (F' := T83.setTop (mkF m 76 #[.val (.long p0), .second, .val (.long p1), .second, .val (.int p2), .val (.int (1 : Int32)), .val (.int (0 : Int32)), .val (.long p0), .second, .val (.ref b74), .val (.ref b76), .val (.ref b78), .unset] [(.long p0), (.long p0)])) (fun t k => XT.lloadN X83.here hx rfl (hb hby at_75) rfl k) ?_
      refine own_via (F' := T83.setTop (mkF m 77 #[.val (.long p0), .second, .val (.long p1), .second, .val (.int p2), .val (.int (1 : Int32)), .val (.int (0 : Int32)), .val (.long p0), .second, .val (.ref b74), .val (.ref b76), .val (.ref b78), .unset] [(.int (XT.cmpL p0 p0))])) (fun t k => XT.lcmp X83.here hx rfl (hb hby at_76) rfl k) ?_
      refine own_via (F' := T83.setTop (mkF m 82 #[.val (.long p0), .second, .val (.long p1), .second, .val (.int p2), .val (.int (1 : Int32)), .val (.int (0 : Int32)), .val (.long p0), .second, .val (.ref b74), .val (.ref b76), .val (.ref b78), .unset] [])) (fun t k => XS.ifYes X83.here hx rfl (pc0 := 77) (pc' := 82) rfl (hb hby at_77) rfl (XT.ll_eq_t rfl) (by decide) (by decide) k) ?_
      refine own_via (F' := T83.setTop (mkF m 84 #[.val (.long p0), .second, .val (.long p1), .second, .val (.int p2), .val (.int (1 : Int32)), .val (.int (0 : Int32)), .val (.long p0), .second, .val (.ref b74), .val (.ref b76), .val (.ref b78), .unset] [(.ref b74)])) (fun t k => XS.aload X83.here hx rfl (hb hby at_82) rfl rfl k) ?_
      have f84 := ((Fd74.keep K76 nin0).keep K78 nin0)
      refine own_callV X83 hx hZ (own_g_isFallback l Z az hw b74 (0 : Int32) (by decide) T78.heap f84) hown f81 (hw _ (List.mem_of_getElem? (i := 35) rfl)) (hw _ (List.mem_of_getElem? (i := 36) rfl)) (hw _ (List.mem_of_getElem? (i := 38) rfl)) (hw _ (List.mem_of_getElem? (i := 37) rfl)) (hw _ (List.mem_of_getElem? (i := 2) rfl)) (hw _ (List.mem_of_getElem? (i := 39) rfl)) (notFace_of_selects (args := #[]) (mvT hZ (hw _ (List.mem_of_getElem? (i := 38) rfl)))) (by decide) e83 (g := (mkF m 84 #[.val (.long p0), .second, .val (.long p1), .second, .val (.int p2), .val (.int (1 : Int32)), .val (.int (0 : Int32)), .val (.long p0), .second, .val (.ref b74), .val (.ref b76), .val (.ref b78), .unset] [(.ref b74)])) rfl (by rw [hml]; rfl) (argsL := []) (rest := []) rfl (lenOf own_pd4 rfl) rfl 0 (by show 2 * 0 + _ ≤ _; exact Nat.le_of_eq rfl) (hb hby at_84) (by decide) (by decide) (by decide) (by decide) ?_
      intro v85 T85 L85 hQ85 X85
      obtain ⟨rfl, e85, rfl⟩ := hQ85
      refine own_via (F' := T85.setTop (mkF m 87 #[.val (.long p0), .second, .val (.long p1), .second, .val (.int p2), .val (.int (1 : Int32)), .val (.int (0 : Int32)), .val (.long p0), .second, .val (.ref b74), .val (.ref b76), .val (.ref b78), .unset] [(.int (0 : Int32))])) (fun t k => k) ?_
      refine own_via (F' := T85.setTop (mkF m 92 #[.val (.long p0), .second, .val (.long p1), .second, .val (.int p2), .val (.int (1 : Int32)), .val (.int (0 : Int32)), .val (.long p0), .second, .val (.ref b74), .val (.ref b76), .val (.ref b78), .unset] [])) (fun t k => XS.ifYes X85.here hx rfl (pc0 := 87) (pc' := 92) rfl (hb hby at_87) rfl (XT.i0_eq_t (by decide)) (by decide) (by decide) k) ?_
      refine own_via (F' := T85.setTop (mkF m 94 #[.val (.long p0), .second, .val (.long p1), .second, .val (.int p2), .val (.int (1 : Int32)), .val (.int (0 : Int32)), .val (.long p0), .second, .val (.ref b74), .val (.ref b76), .val (.ref b78), .unset] [(.ref b74)])) (fun t k => XS.aload X85.here hx rfl (hb hby at_92) rfl rfl k) ?_
      have f86 := ((Fc74.keep K76 nin0).keep K78 nin0)
      refine own_callV X85 hx hZ (own_g_getRetryAfter l Z az hw b74 aZ T78.heap f86) hown f81 (hw _ (List.mem_of_getElem? (i := 40) rfl)) (hw _ (List.mem_of_getElem? (i := 41) rfl)) (hw _ (List.mem_of_getElem? (i := 43) rfl)) (hw _ (List.mem_of_getElem? (i := 42) rfl)) (hw _ (List.mem_of_getElem? (i := 2) rfl)) (hw _ (List.mem_of_getElem? (i := 44) rfl)) (notFace_of_selects (args := #[]) (mvT hZ (hw _ (List.mem_of_getElem? (i := 43) rfl)))) (by decide) e85 (g := (mkF m 94 #[.val (.long p0), .second, .val (.long p1), .second, .val (.int p2), .val (.int (1 : Int32)), .val (.int (0 : Int32)), .val (.long p0), .second, .val (.ref b74), .val (.ref b76), .val (.ref b78), .unset] [(.ref b74)])) rfl (by rw [hml]; rfl) (argsL := []) (rest := []) rfl (lenOf own_pd6 rfl) rfl 0 (by show 2 * 0 + _ ≤ _; exact Nat.le_of_eq rfl) (hb hby at_94) (by decide) (by decide) (by decide) (by decide) ?_
      intro v87 T87 L87 hQ87 X87
      obtain ⟨rfl, e87, rfl⟩ := hQ87
      refine own_via (F' := T87.setTop (mkF m 97 #[.val (.long p0), .second, .val (.long p1), .second, .val (.int p2), .val (.int (1 : Int32)), .val (.int (0 : Int32)), .val (.long p0), .second, .val (.ref b74), .val (.ref b76), .val (.ref b78), .unset] [(.ref aZ)])) (fun t k => k) ?_
      refine own_via (F' := T87.setTop (mkF m 99 #[.val (.long p0), .second, .val (.long p1), .second, .val (.int p2), .val (.int (1 : Int32)), .val (.int (0 : Int32)), .val (.long p0), .second, .val (.ref b74), .val (.ref b76), .val (.ref b78), .unset] [(.ref b78), (.ref aZ)])) (fun t k => XS.aload X87.here hx rfl (hb hby at_97) rfl rfl k) ?_
      refine own_callV X87 hx hZ (own_g_getRetryAfter l Z az hw b78 aZ T78.heap Fc78) hown E78 (hw _ (List.mem_of_getElem? (i := 40) rfl)) (hw _ (List.mem_of_getElem? (i := 41) rfl)) (hw _ (List.mem_of_getElem? (i := 43) rfl)) (hw _ (List.mem_of_getElem? (i := 42) rfl)) (hw _ (List.mem_of_getElem? (i := 2) rfl)) (hw _ (List.mem_of_getElem? (i := 44) rfl)) (notFace_of_selects (args := #[]) (mvT hZ (hw _ (List.mem_of_getElem? (i := 43) rfl)))) (by decide) e87 (g := (mkF m 99 #[.val (.long p0), .second, .val (.long p1), .second, .val (.int p2), .val (.int (1 : Int32)), .val (.int (0 : Int32)), .val (.long p0), .second, .val (.ref b74), .val (.ref b76), .val (.ref b78), .unset] [(.ref b78), (.ref aZ)])) rfl (by rw [hml]; rfl) (argsL := []) (rest := [(.ref aZ)]) rfl (lenOf own_pd6 rfl) rfl 1 (by show 2 * 0 + _ ≤ _; exact Nat.le_of_eq rfl) (hb hby at_99) (by decide) (by decide) (by decide) (by decide) ?_
      intro v88 T88 L88 hQ88 X88
      obtain ⟨rfl, e88, rfl⟩ := hQ88
      refine own_via (F' := T88.setTop (mkF m 102 #[.val (.long p0), .second, .val (.long p1), .second, .val (.int p2), .val (.int (1 : Int32)), .val (.int (0 : Int32)), .val (.long p0), .second, .val (.ref b74), .val (.ref b76), .val (.ref b78), .unset] [(.ref aZ), (.ref aZ)])) (fun t k => k) ?_
      have f90 := (((EZ0.keep K74).keep K76).keep K78)
      refine own_callV X88 hx hZ (own_kq l Z az hw aZ T78.heap) hown f90 (hw _ (List.mem_of_getElem? (i := 45) rfl)) (hw _ (List.mem_of_getElem? (i := 46) rfl)) (hw _ (List.mem_of_getElem? (i := 48) rfl)) (hw _ (List.mem_of_getElem? (i := 47) rfl)) (hw _ (List.mem_of_getElem? (i := 7) rfl)) (hw _ (List.mem_of_getElem? (i := 49) rfl)) (notFace_of_selects (args := #[]) (mvT hZ (hw _ (List.mem_of_getElem? (i := 48) rfl)))) (by decide) e88 (g := (mkF m 102 #[.val (.long p0), .second, .val (.long p1), .second, .val (.int p2), .val (.int (1 : Int32)), .val (.int (0 : Int32)), .val (.long p0), .second, .val (.ref b74), .val (.ref b76), .val (.ref b78), .unset] [(.ref aZ), (.ref aZ)])) rfl (by rw [hml]; rfl) (argsL := [(.ref aZ)]) (rest := []) rfl (lenOf own_pd1 rfl) rfl 0 (by show 2 * 0 + _ ≤ _; exact Nat.le_of_eq rfl) (hb hby at_102) (by decide) (by decide) (by decide) (by decide) ?_
      intro v89 T89 L89 hQ89 X89
      obtain ⟨rfl, e89, rfl⟩ := hQ89
      refine own_via (F' := T89.setTop (mkF m 105 #[.val (.long p0), .second, .val (.long p1), .second, .val (.int p2), .val (.int (1 : Int32)), .val (.int (0 : Int32)), .val (.long p0), .second, .val (.ref b74), .val (.ref b76), .val (.ref b78), .unset] [(.int (1 : Int32))])) (fun t k => k) ?_
      refine own_via (F' := T89.setTop (mkF m 110 #[.val (.long p0), .second, .val (.long p1), .second, .val (.int p2), .val (.int (1 : Int32)), .val (.int (0 : Int32)), .val (.long p0), .second, .val (.ref b74), .val (.ref b76), .val (.ref b78), .unset] [])) (fun t k => XS.ifYes X89.here hx rfl (pc0 := 105) (pc' := 110) rfl (hb hby at_105) rfl (XT.i0_ne_t (by decide)) (by decide) (by decide) k) ?_
      refine own_via (F' := T89.setTop (mkF m 112 #[.val (.long p0), .second, .val (.long p1), .second, .val (.int p2), .val (.int (1 : Int32)), .val (.int (0 : Int32)), .val (.long p0), .second, .val (.ref b74), .val (.ref b76), .val (.ref b78), .unset] [(.ref b74)])) (fun t k => XS.aload X89.here hx rfl (hb hby at_110) rfl rfl k) ?_
      refine own_via (F' := T89.setTop (mkF m 114 #[.val (.long p0), .second, .val (.long p1), .second, .val (.int p2), .val (.int (1 : Int32)), .val (.int (0 : Int32)), .val (.long p0), .second, .val (.ref b74), .val (.ref b76), .val (.ref b78), .unset] [(.ref b76), (.ref b74)])) (fun t k => XS.aload X89.here hx rfl (hb hby at_112) rfl rfl k) ?_
      have f91 := (E76.keep K78)
      have f92 := (Fa76.keep K78 nin0)
      have f93 := (Fb76.keep K78 nin0)
      have f94 := (Fc76.keep K78 nin0)
      have f95 := (Fd76.keep K78 nin0)
      refine own_callV X89 hx hZ (own_ke l Z az hw b74 b76 aZ p0 p0 T78.heap f90 f91 f79 f82 f86 f84 f92 f93 f94 f95 (1 : Int32) (if_pos rfl)) hown f81 (hw _ (List.mem_of_getElem? (i := 50) rfl)) (hw _ (List.mem_of_getElem? (i := 51) rfl)) (hw _ (List.mem_of_getElem? (i := 53) rfl)) (hw _ (List.mem_of_getElem? (i := 52) rfl)) (hw _ (List.mem_of_getElem? (i := 2) rfl)) (hw _ (List.mem_of_getElem? (i := 54) rfl)) (notFace_of_selects (args := #[]) (mvT hZ (hw _ (List.mem_of_getElem? (i := 53) rfl)))) (by decide) e89 (g := (mkF m 114 #[.val (.long p0), .second, .val (.long p1), .second, .val (.int p2), .val (.int (1 : Int32)), .val (.int (0 : Int32)), .val (.long p0), .second, .val (.ref b74), .val (.ref b76), .val (.ref b78), .unset] [(.ref b76), (.ref b74)])) rfl (by rw [hml]; rfl) (argsL := [(.ref b76)]) (rest := []) rfl (lenOf own_pd1 rfl) rfl 0 (by show 2 * 0 + _ ≤ _; exact Nat.le_of_eq rfl) (hb hby at_114) (by decide) (by decide) (by decide) (by decide) ?_
      intro v96 T96 L96 hQ96 X96
      obtain ⟨rfl, e96, rfl⟩ := hQ96
      refine own_via (F' := T96.setTop (mkF m 117 #[.val (.long p0), .second, .val (.long p1), .second, .val (.int p2), .val (.int (1 : Int32)), .val (.int (0 : Int32)), .val (.long p0), .second, .val (.ref b74), .val (.ref b76), .val (.ref b78), .unset] [(.int (1 : Int32))])) (fun t k => k) ?_
      refine own_via (F' := T96.setTop (mkF m 119 #[.val (.long p0), .second, .val (.long p1), .second, .val (.int p2), .val (.int (1 : Int32)), .val (.int (0 : Int32)), .val (.long p0), .second, .val (.ref b74), .val (.ref b76), .val (.ref b78), .val (.int (1 : Int32))] [])) (fun t k => XS.istore X96.here hx rfl (hb hby at_117) rfl (l' := #[.val (.long p0), .second, .val (.long p1), .second, .val (.int p2), .val (.int (1 : Int32)), .val (.int (0 : Int32)), .val (.long p0), .second, .val (.ref b74), .val (.ref b76), .val (.ref b78), .val (.int (1 : Int32))]) rfl k) ?_
      refine own_via (F' := T96.setTop (mkF m 121 #[.val (.long p0), .second, .val (.long p1), .second, .val (.int p2), .val (.int (1 : Int32)), .val (.int (0 : Int32)), .val (.long p0), .second, .val (.ref b74), .val (.ref b76), .val (.ref b78), .val (.int (1 : Int32))] [(.int (1 : Int32))])) (fun t k => XS.iload X96.here hx rfl (hb hby at_119) rfl k) ?_
      refine own_via (F' := T96.setTop (mkF m 122 #[.val (.long p0), .second, .val (.long p1), .second, .val (.int p2), .val (.int (1 : Int32)), .val (.int (0 : Int32)), .val (.long p0), .second, .val (.ref b74), .val (.ref b76), .val (.ref b78), .val (.int (1 : Int32))] [(.long p0), (.int (1 : Int32))])) (fun t k => XT.lloadN X96.here hx rfl (hb hby at_121) rfl k) ?_
      refine own_via (F' := T96.setTop (mkF m 124 #[.val (.long p0), .second, .val (.long p1), .second, .val (.int p2), .val (.int (1 : Int32)), .val (.int (0 : Int32)), .val (.long p0), .second, .val (.ref b74), .val (.ref b76), .val (.ref b78), .val (.int (1 : Int32))] [(.long p0), (.long p0), (.int (1 : Int32))])) (fun t k => XT.lload X96.here hx rfl (hb hby at_122) rfl k) ?_
      refine own_via (F' := T96.setTop (mkF m 125 #[.val (.long p0), .second, .val (.long p1), .second, .val (.int p2), .val (.int (1 : Int32)), .val (.int (0 : Int32)), .val (.long p0), .second, .val (.ref b74), .val (.ref b76), .val (.ref b78), .val (.int (1 : Int32))] [(.int (XT.cmpL p0 p0)), (.int (1 : Int32))])) (fun t k => XT.lcmp X96.here hx rfl (hb hby at_124) rfl k) ?_
      refine own_via (F' := T96.setTop (mkF m 128 #[.val (.long p0), .second, .val (.long p1), .second, .val (.int p2), .val (.int (1 : Int32)), .val (.int (0 : Int32)), .val (.long p0), .second, .val (.ref b74), .val (.ref b76), .val (.ref b78), .val (.int (1 : Int32))] [(.int (1 : Int32))])) (fun t k => XS.ifNo X96.here hx rfl (hb hby at_125) rfl (XT.ll_ne_f rfl) k) ?_
      refine own_via (F' := T96.setTop (mkF m 129 #[.val (.long p0), .second, .val (.long p1), .second, .val (.int p2), .val (.int (1 : Int32)), .val (.int (0 : Int32)), .val (.long p0), .second, .val (.ref b74), .val (.ref b76), .val (.ref b78), .val (.int (1 : Int32))] [(.int (1 : Int32)), (.int (1 : Int32))])) (fun t k => XT.iconstV X96.here hx rfl (1 : Int32) (hb hby at_128) (by decide) k) ?_
      refine own_via (F' := T96.setTop (mkF m 133 #[.val (.long p0), .second, .val (.long p1), .second, .val (.int p2), .val (.int (1 : Int32)), .val (.int (0 : Int32)), .val (.long p0), .second, .val (.ref b74), .val (.ref b76), .val (.ref b78), .val (.int (1 : Int32))] [(.int (1 : Int32)), (.int (1 : Int32))])) (fun t k => XS.goto X96.here hx rfl (pc0 := 129) (pc' := 133) rfl (hb hby at_129) (by decide) (by decide) k) ?_
      refine own_via (F' := T96.setTop (mkF m 136 #[.val (.long p0), .second, .val (.long p1), .second, .val (.int p2), .val (.int (1 : Int32)), .val (.int (0 : Int32)), .val (.long p0), .second, .val (.ref b74), .val (.ref b76), .val (.ref b78), .val (.int (1 : Int32))] [])) (fun t k => XS.icmpNo X96.here hx rfl (hb hby at_133) rfl (XT.ii_ne_f (by decide)) k) ?_
      refine own_via (F' := T96.setTop (mkF m 137 #[.val (.long p0), .second, .val (.long p1), .second, .val (.int p2), .val (.int (1 : Int32)), .val (.int (0 : Int32)), .val (.long p0), .second, .val (.ref b74), .val (.ref b76), .val (.ref b78), .val (.int (1 : Int32))] [(.int (1 : Int32))])) (fun t k => XT.iconstV X96.here hx rfl (1 : Int32) (hb hby at_136) (by decide) k) ?_
      refine own_via (F' := T96.setTop (mkF m 141 #[.val (.long p0), .second, .val (.long p1), .second, .val (.int p2), .val (.int (1 : Int32)), .val (.int (0 : Int32)), .val (.long p0), .second, .val (.ref b74), .val (.ref b76), .val (.ref b78), .val (.int (1 : Int32))] [(.int (1 : Int32))])) (fun t k => XS.goto X96.here hx rfl (pc0 := 137) (pc' := 141) rfl (hb hby at_137) (by decide) (by decide) k) ?_
      exact own_retZ X96 hx hret hlk (hb hby at_141) ⟨rfl, (Fr.app (Fr.app (Fr.app (Fr.app (Fr.app (Fr.app (Fr.app (Fr.app (Fr.app (Fr.app (Fr.nil n0) M74) M76) M78) (Fr.nil _)) (Fr.nil _)) (Fr.nil _)) (Fr.nil _)) (Fr.nil _)) (Fr.nil _)) (Fr.nil _))⟩ (by decide) (by decide)
    · refine own_via (F' := T0.setTop (mkF m 21 #[.val (.long p0), .second, .val (.long p1), .second, .val (.int p2), .val (.int (1 : Int32)), .unset, .unset, .unset, .unset, .unset, .unset, .unset] [])) (fun t k => XS.ifNo X0.here hx rfl (hb hby at_18) rfl (XT.i0_eq_f q73) k) ?_
      refine own_via (F' := T0.setTop (mkF m 22 #[.val (.long p0), .second, .val (.long p1), .second, .val (.int p2), .val (.int (1 : Int32)), .unset, .unset, .unset, .unset, .unset, .unset, .unset] [(.int (1 : Int32))])) (fun t k => XT.iconstV X0.here hx rfl (1 : Int32) (hb hby at_21) (by decide) k) ?_
      refine own_via (F' := T0.setTop (mkF m 26 #[.val (.long p0), .second, .val (.long p1), .second, .val (.int p2), .val (.int (1 : Int32)), .unset, .unset, .unset, .unset, .unset, .unset, .unset] [(.int (1 : Int32))])) (fun t k => XS.goto X0.here hx rfl (pc0 := 22) (pc' := 26) rfl (hb hby at_22) (by decide) (by decide) k) ?_
      refine own_via (F' := T0.setTop (mkF m 28 #[.val (.long p0), .second, .val (.long p1), .second, .val (.int p2), .val (.int (1 : Int32)), .val (.int (1 : Int32)), .unset, .unset, .unset, .unset, .unset, .unset] [])) (fun t k => XS.istore X0.here hx rfl (hb hby at_26) rfl (l' := #[.val (.long p0), .second, .val (.long p1), .second, .val (.int p2), .val (.int (1 : Int32)), .val (.int (1 : Int32)), .unset, .unset, .unset, .unset, .unset, .unset]) rfl k) ?_
      refine own_via (F' := T0.setTop (mkF m 30 #[.val (.long p0), .second, .val (.long p1), .second, .val (.int p2), .val (.int (1 : Int32)), .val (.int (1 : Int32)), .unset, .unset, .unset, .unset, .unset, .unset] [(.int (1 : Int32))])) (fun t k => XS.iload X0.here hx rfl (hb hby at_28) rfl k) ?_
      refine own_via (F' := T0.setTop (mkF m 33 #[.val (.long p0), .second, .val (.long p1), .second, .val (.int p2), .val (.int (1 : Int32)), .val (.int (1 : Int32)), .unset, .unset, .unset, .unset, .unset, .unset] [])) (fun t k => XS.ifNo X0.here hx rfl (hb hby at_30) rfl (XT.i0_eq_f (by decide)) k) ?_
      refine own_via (F' := T0.setTop (mkF m 34 #[.val (.long p0), .second, .val (.long p1), .second, .val (.int p2), .val (.int (1 : Int32)), .val (.int (1 : Int32)), .unset, .unset, .unset, .unset, .unset, .unset] [(.long p0)])) (fun t k => XT.lloadN X0.here hx rfl (hb hby at_33) rfl k) ?_
      refine own_via (F' := T0.setTop (mkF m 38 #[.val (.long p0), .second, .val (.long p1), .second, .val (.int p2), .val (.int (1 : Int32)), .val (.int (1 : Int32)), .unset, .unset, .unset, .unset, .unset, .unset] [(.long p0)])) (fun t k => XS.goto X0.here hx rfl (pc0 := 34) (pc' := 38) rfl (hb hby at_34) (by decide) (by decide) k) ?_
      refine own_via (F' := T0.setTop (mkF m 40 #[.val (.long p0), .second, .val (.long p1), .second, .val (.int p2), .val (.int (1 : Int32)), .val (.int (1 : Int32)), .val (.long p0), .second, .unset, .unset, .unset, .unset] [])) (fun t k => XT.lstore X0.here hx rfl (hb hby at_38) rfl (l' := #[.val (.long p0), .second, .val (.long p1), .second, .val (.int p2), .val (.int (1 : Int32)), .val (.int (1 : Int32)), .val (.long p0), .second, .unset, .unset, .unset, .unset]) rfl k) ?_
      refine own_via (F' := T0.setTop (mkF m 41 #[.val (.long p0), .second, .val (.long p1), .second, .val (.int p2), .val (.int (1 : Int32)), .val (.int (1 : Int32)), .val (.long p0), .second, .unset, .unset, .unset, .unset] [(.long p0)])) (fun t k => XT.lloadN X0.here hx rfl (hb hby at_40) rfl k) ?_
      refine own_callS X0 hx hZ (own_ka l Z az hw p0 h0 n0 O0 aZ SZ) hown (hw _ (List.mem_of_getElem? (i := 0) rfl)) (hw _ (List.mem_of_getElem? (i := 1) rfl)) (hw _ (List.mem_of_getElem? (i := 2) rfl)) (hw _ (List.mem_of_getElem? (i := 3) rfl)) (by decide) e0 (g := (mkF m 41 #[.val (.long p0), .second, .val (.long p1), .second, .val (.int p2), .val (.int (1 : Int32)), .val (.int (1 : Int32)), .val (.long p0), .second, .unset, .unset, .unset, .unset] [(.long p0)])) rfl (by rw [hml]; rfl) (argsL := [(.long p0)]) (rest := []) rfl (lenOf own_pd2 rfl) rfl 0 (by show 2 * 0 + _ ≤ _; exact Nat.le_of_eq rfl) (hb hby at_41) (by decide) (by decide) (by decide) (by decide) ?_
      intro v97 T97 L97 hQ97 X97
      obtain ⟨b97, rfl, M97, K97, B97, E97, Fa97, Fb97, Fc97, Fd97⟩ := hQ97
      refine own_via (F' := T97.setTop (mkF m 44 #[.val (.long p0), .second, .val (.long p1), .second, .val (.int p2), .val (.int (1 : Int32)), .val (.int (1 : Int32)), .val (.long p0), .second, .unset, .unset, .unset, .unset] [(.ref b97)])) (fun t k => k) ?_
      refine own_via (F' := T97.setTop (mkF m 46 #[.val (.long p0), .second, .val (.long p1), .second, .val (.int p2), .val (.int (1 : Int32)), .val (.int (1 : Int32)), .val (.long p0), .second, .val (.ref b97), .unset, .unset, .unset] [])) (fun t k => XS.astore X97.here hx rfl (hb hby at_44) rfl rfl (l' := #[.val (.long p0), .second, .val (.long p1), .second, .val (.int p2), .val (.int (1 : Int32)), .val (.int (1 : Int32)), .val (.long p0), .second, .val (.ref b97), .unset, .unset, .unset]) rfl k) ?_
      refine own_via (F' := T97.setTop (mkF m 48 #[.val (.long p0), .second, .val (.long p1), .second, .val (.int p2), .val (.int (1 : Int32)), .val (.int (1 : Int32)), .val (.long p0), .second, .val (.ref b97), .unset, .unset, .unset] [(.long p0)])) (fun t k => XT.lload X97.here hx rfl (hb hby at_46) rfl k) ?_
      have f98 := (O0.keep K97 all0)
      refine own_callS X97 hx hZ (own_ka l Z az hw p0 T97.heap n0 f98 aZ SZ) hown (hw _ (List.mem_of_getElem? (i := 0) rfl)) (hw _ (List.mem_of_getElem? (i := 1) rfl)) (hw _ (List.mem_of_getElem? (i := 2) rfl)) (hw _ (List.mem_of_getElem? (i := 3) rfl)) (by decide) rfl (g := (mkF m 48 #[.val (.long p0), .second, .val (.long p1), .second, .val (.int p2), .val (.int (1 : Int32)), .val (.int (1 : Int32)), .val (.long p0), .second, .val (.ref b97), .unset, .unset, .unset] [(.long p0)])) rfl (by rw [hml]; rfl) (argsL := [(.long p0)]) (rest := []) rfl (lenOf own_pd2 rfl) rfl 0 (by show 2 * 0 + _ ≤ _; exact Nat.le_of_eq rfl) (hb hby at_48) (by decide) (by decide) (by decide) (by decide) ?_
      intro v99 T99 L99 hQ99 X99
      obtain ⟨b99, rfl, M99, K99, B99, E99, Fa99, Fb99, Fc99, Fd99⟩ := hQ99
      refine own_via (F' := T99.setTop (mkF m 51 #[.val (.long p0), .second, .val (.long p1), .second, .val (.int p2), .val (.int (1 : Int32)), .val (.int (1 : Int32)), .val (.long p0), .second, .val (.ref b97), .unset, .unset, .unset] [(.ref b99)])) (fun t k => k) ?_
      refine own_via (F' := T99.setTop (mkF m 53 #[.val (.long p0), .second, .val (.long p1), .second, .val (.int p2), .val (.int (1 : Int32)), .val (.int (1 : Int32)), .val (.long p0), .second, .val (.ref b97), .val (.ref b99), .unset, .unset] [])) (fun t k => XS.astore X99.here hx rfl (hb hby at_51) rfl rfl (l' := #[.val (.long p0), .second, .val (.long p1), .second, .val (.int p2), .val (.int (1 : Int32)), .val (.int (1 : Int32)), .val (.long p0), .second, .val (.ref b97), .val (.ref b99), .unset, .unset]) rfl k) ?_
      refine own_via (F' := T99.setTop (mkF m 55 #[.val (.long p0), .second, .val (.long p1), .second, .val (.int p2), .val (.int (1 : Int32)), .val (.int (1 : Int32)), .val (.long p0), .second, .val (.ref b97), .val (.ref b99), .unset, .unset] [(.int (1 : Int32))])) (fun t k => XS.iload X99.here hx rfl (hb hby at_53) rfl k) ?_
      have f100 := (f98.keep K99 all0)
      refine own_callS X99 hx hZ (own_kf l Z az hw (1 : Int32) T99.heap n0 f100 aZ SZ (by decide) (by decide)) hown (hw _ (List.mem_of_getElem? (i := 22) rfl)) (hw _ (List.mem_of_getElem? (i := 23) rfl)) (hw _ (List.mem_of_getElem? (i := 2) rfl)) (hw _ (List.mem_of_getElem? (i := 24) rfl)) (by decide) rfl (g := (mkF m 55 #[.val (.long p0), .second, .val (.long p1), .second, .val (.int p2), .val (.int (1 : Int32)), .val (.int (1 : Int32)), .val (.long p0), .second, .val (.ref b97), .val (.ref b99), .unset, .unset] [(.int (1 : Int32))])) rfl (by rw [hml]; rfl) (argsL := [(.int (1 : Int32))]) (rest := []) rfl (lenOf own_pd3 rfl) rfl 0 (by show 2 * 0 + _ ≤ _; exact Nat.le_of_eq rfl) (hb hby at_55) (by decide) (by decide) (by decide) (by decide) ?_
      intro v101 T101 L101 hQ101 X101
      obtain ⟨b101, rfl, M101, K101, B101, E101, Fa101, Fb101, Fc101, Fd101⟩ := hQ101
      refine own_via (F' := T101.setTop (mkF m 58 #[.val (.long p0), .second, .val (.long p1), .second, .val (.int p2), .val (.int (1 : Int32)), .val (.int (1 : Int32)), .val (.long p0), .second, .val (.ref b97), .val (.ref b99), .unset, .unset] [(.ref b101)])) (fun t k => k) ?_
      refine own_via (F' := T101.setTop (mkF m 60 #[.val (.long p0), .second, .val (.long p1), .second, .val (.int p2), .val (.int (1 : Int32)), .val (.int (1 : Int32)), .val (.long p0), .second, .val (.ref b97), .val (.ref b99), .val (.ref b101), .unset] [])) (fun t k => XS.astore X101.here hx rfl (hb hby at_58) rfl rfl (l' := #[.val (.long p0), .second, .val (.long p1), .second, .val (.int p2), .val (.int (1 : Int32)), .val (.int (1 : Int32)), .val (.long p0), .second, .val (.ref b97), .val (.ref b99), .val (.ref b101), .unset]) rfl k) ?_
      refine own_via (F' := T101.setTop (mkF m 62 #[.val (.long p0), .second, .val (.long p1), .second, .val (.int p2), .val (.int (1 : Int32)), .val (.int (1 : Int32)), .val (.long p0), .second, .val (.ref b97), .val (.ref b99), .val (.ref b101), .unset] [(.ref b97)])) (fun t k => XS.aload X101.here hx rfl (hb hby at_60) rfl rfl k) ?_
      have f102 := ((Fa97.keep K99 nin0).keep K101 nin0)
      have f104 := ((E97.keep K99).keep K101)
      refine own_callV X101 hx hZ (own_g_isAllowed l Z az hw b97 (1 : Int32) (by decide) T101.heap f102) hown f104 (hw _ (List.mem_of_getElem? (i := 25) rfl)) (hw _ (List.mem_of_getElem? (i := 26) rfl)) (hw _ (List.mem_of_getElem? (i := 28) rfl)) (hw _ (List.mem_of_getElem? (i := 27) rfl)) (hw _ (List.mem_of_getElem? (i := 2) rfl)) (hw _ (List.mem_of_getElem? (i := 29) rfl)) (notFace_of_selects (args := #[]) (mvT hZ (hw _ (List.mem_of_getElem? (i := 28) rfl)))) (by decide) rfl (g := (mkF m 62 #[.val (.long p0), .second, .val (.long p1), .second, .val (.int p2), .val (.int (1 : Int32)), .val (.int (1 : Int32)), .val (.long p0), .second, .val (.ref b97), .val (.ref b99), .val (.ref b101), .unset] [(.ref b97)])) rfl (by rw [hml]; rfl) (argsL := []) (rest := []) rfl (lenOf own_pd4 rfl) rfl 0 (by show 2 * 0 + _ ≤ _; exact Nat.le_of_eq rfl) (hb hby at_62) (by decide) (by decide) (by decide) (by decide) ?_
      intro v103 T103 L103 hQ103 X103
      obtain ⟨rfl, e103, rfl⟩ := hQ103
      refine own_via (F' := T103.setTop (mkF m 65 #[.val (.long p0), .second, .val (.long p1), .second, .val (.int p2), .val (.int (1 : Int32)), .val (.int (1 : Int32)), .val (.long p0), .second, .val (.ref b97), .val (.ref b99), .val (.ref b101), .unset] [(.int (1 : Int32))])) (fun t k => k) ?_
      refine own_via (F' := T103.setTop (mkF m 70 #[.val (.long p0), .second, .val (.long p1), .second, .val (.int p2), .val (.int (1 : Int32)), .val (.int (1 : Int32)), .val (.long p0), .second, .val (.ref b97), .val (.ref b99), .val (.ref b101), .unset] [])) (fun t k => XS.ifYes X103.here hx rfl (pc0 := 65) (pc' := 70) rfl (hb hby at_65) rfl (XT.i0_ne_t (by decide)) (by decide) (by decide) k) ?_
      refine own_via (F' := T103.setTop (mkF m 72 #[.val (.long p0), .second, .val (.long p1), .second, .val (.int p2), .val (.int (1 : Int32)), .val (.int (1 : Int32)), .val (.long p0), .second, .val (.ref b97), .val (.ref b99), .val (.ref b101), .unset] [(.ref b97)])) (fun t k => XS.aload X103.here hx rfl (hb hby at_70) rfl rfl k) ?_
      have f105 := ((Fb97.keep K99 nin0).keep K101 nin0)
      refine own_callV X103 hx hZ (own_g_getRemaining l Z az hw b97 p0 T101.heap f105) hown f104 (hw _ (List.mem_of_getElem? (i := 30) rfl)) (hw _ (List.mem_of_getElem? (i := 31) rfl)) (hw _ (List.mem_of_getElem? (i := 33) rfl)) (hw _ (List.mem_of_getElem? (i := 32) rfl)) (hw _ (List.mem_of_getElem? (i := 2) rfl)) (hw _ (List.mem_of_getElem? (i := 34) rfl)) (notFace_of_selects (args := #[]) (mvT hZ (hw _ (List.mem_of_getElem? (i := 33) rfl)))) (by decide) e103 (g := (mkF m 72 #[.val (.long p0), .second, .val (.long p1), .second, .val (.int p2), .val (.int (1 : Int32)), .val (.int (1 : Int32)), .val (.long p0), .second, .val (.ref b97), .val (.ref b99), .val (.ref b101), .unset] [(.ref b97)])) rfl (by rw [hml]; rfl) (argsL := []) (rest := []) rfl (lenOf own_pd5 rfl) rfl 0 (by show 2 * 0 + _ ≤ _; exact Nat.le_of_eq rfl) (hb hby at_72) (by decide) (by decide) (by decide) (by decide) ?_
      intro v106 T106 L106 hQ106 X106
      obtain ⟨rfl, e106, rfl⟩ := hQ106
      refine own_via (F' := T106.setTop (mkF m 75 #[.val (.long p0), .second, .val (.long p1), .second, .val (.int p2), .val (.int (1 : Int32)), .val (.int (1 : Int32)), .val (.long p0), .second, .val (.ref b97), .val (.ref b99), .val (.ref b101), .unset] [(.long p0)])) (fun t k => k) ?_
      refine own_via (F' := T106.setTop (mkF m 76 #[.val (.long p0), .second, .val (.long p1), .second, .val (.int p2), .val (.int (1 : Int32)), .val (.int (1 : Int32)), .val (.long p0), .second, .val (.ref b97), .val (.ref b99), .val (.ref b101), .unset] [(.long p0), (.long p0)])) (fun t k => XT.lloadN X106.here hx rfl (hb hby at_75) rfl k) ?_
      refine own_via (F' := T106.setTop (mkF m 77 #[.val (.long p0), .second, .val (.long p1), .second, .val (.int p2), .val (.int (1 : Int32)), .val (.int (1 : Int32)), .val (.long p0), .second, .val (.ref b97), .val (.ref b99), .val (.ref b101), .unset] [(.int (XT.cmpL p0 p0))])) (fun t k => XT.lcmp X106.here hx rfl (hb hby at_76) rfl k) ?_
      refine own_via (F' := T106.setTop (mkF m 82 #[.val (.long p0), .second, .val (.long p1), .second, .val (.int p2), .val (.int (1 : Int32)), .val (.int (1 : Int32)), .val (.long p0), .second, .val (.ref b97), .val (.ref b99), .val (.ref b101), .unset] [])) (fun t k => XS.ifYes X106.here hx rfl (pc0 := 77) (pc' := 82) rfl (hb hby at_77) rfl (XT.ll_eq_t rfl) (by decide) (by decide) k) ?_
      refine own_via (F' := T106.setTop (mkF m 84 #[.val (.long p0), .second, .val (.long p1), .second, .val (.int p2), .val (.int (1 : Int32)), .val (.int (1 : Int32)), .val (.long p0), .second, .val (.ref b97), .val (.ref b99), .val (.ref b101), .unset] [(.ref b97)])) (fun t k => XS.aload X106.here hx rfl (hb hby at_82) rfl rfl k) ?_
      have f107 := ((Fd97.keep K99 nin0).keep K101 nin0)
      refine own_callV X106 hx hZ (own_g_isFallback l Z az hw b97 (0 : Int32) (by decide) T101.heap f107) hown f104 (hw _ (List.mem_of_getElem? (i := 35) rfl)) (hw _ (List.mem_of_getElem? (i := 36) rfl)) (hw _ (List.mem_of_getElem? (i := 38) rfl)) (hw _ (List.mem_of_getElem? (i := 37) rfl)) (hw _ (List.mem_of_getElem? (i := 2) rfl)) (hw _ (List.mem_of_getElem? (i := 39) rfl)) (notFace_of_selects (args := #[]) (mvT hZ (hw _ (List.mem_of_getElem? (i := 38) rfl)))) (by decide) e106 (g := (mkF m 84 #[.val (.long p0), .second, .val (.long p1), .second, .val (.int p2), .val (.int (1 : Int32)), .val (.int (1 : Int32)), .val (.long p0), .second, .val (.ref b97), .val (.ref b99), .val (.ref b101), .unset] [(.ref b97)])) rfl (by rw [hml]; rfl) (argsL := []) (rest := []) rfl (lenOf own_pd4 rfl) rfl 0 (by show 2 * 0 + _ ≤ _; exact Nat.le_of_eq rfl) (hb hby at_84) (by decide) (by decide) (by decide) (by decide) ?_
      intro v108 T108 L108 hQ108 X108
      obtain ⟨rfl, e108, rfl⟩ := hQ108
      refine own_via (F' := T108.setTop (mkF m 87 #[.val (.long p0), .second, .val (.long p1), .second, .val (.int p2), .val (.int (1 : Int32)), .val (.int (1 : Int32)), .val (.long p0), .second, .val (.ref b97), .val (.ref b99), .val (.ref b101), .unset] [(.int (0 : Int32))])) (fun t k => k) ?_
      refine own_via (F' := T108.setTop (mkF m 92 #[.val (.long p0), .second, .val (.long p1), .second, .val (.int p2), .val (.int (1 : Int32)), .val (.int (1 : Int32)), .val (.long p0), .second, .val (.ref b97), .val (.ref b99), .val (.ref b101), .unset] [])) (fun t k => XS.ifYes X108.here hx rfl (pc0 := 87) (pc' := 92) rfl (hb hby at_87) rfl (XT.i0_eq_t (by decide)) (by decide) (by decide) k) ?_
      refine own_via (F' := T108.setTop (mkF m 94 #[.val (.long p0), .second, .val (.long p1), .second, .val (.int p2), .val (.int (1 : Int32)), .val (.int (1 : Int32)), .val (.long p0), .second, .val (.ref b97), .val (.ref b99), .val (.ref b101), .unset] [(.ref b97)])) (fun t k => XS.aload X108.here hx rfl (hb hby at_92) rfl rfl k) ?_
      have f109 := ((Fc97.keep K99 nin0).keep K101 nin0)
      refine own_callV X108 hx hZ (own_g_getRetryAfter l Z az hw b97 aZ T101.heap f109) hown f104 (hw _ (List.mem_of_getElem? (i := 40) rfl)) (hw _ (List.mem_of_getElem? (i := 41) rfl)) (hw _ (List.mem_of_getElem? (i := 43) rfl)) (hw _ (List.mem_of_getElem? (i := 42) rfl)) (hw _ (List.mem_of_getElem? (i := 2) rfl)) (hw _ (List.mem_of_getElem? (i := 44) rfl)) (notFace_of_selects (args := #[]) (mvT hZ (hw _ (List.mem_of_getElem? (i := 43) rfl)))) (by decide) e108 (g := (mkF m 94 #[.val (.long p0), .second, .val (.long p1), .second, .val (.int p2), .val (.int (1 : Int32)), .val (.int (1 : Int32)), .val (.long p0), .second, .val (.ref b97), .val (.ref b99), .val (.ref b101), .unset] [(.ref b97)])) rfl (by rw [hml]; rfl) (argsL := []) (rest := []) rfl (lenOf own_pd6 rfl) rfl 0 (by show 2 * 0 + _ ≤ _; exact Nat.le_of_eq rfl) (hb hby at_94) (by decide) (by decide) (by decide) (by decide) ?_
      intro v110 T110 L110 hQ110 X110
      obtain ⟨rfl, e110, rfl⟩ := hQ110
      refine own_via (F' := T110.setTop (mkF m 97 #[.val (.long p0), .second, .val (.long p1), .second, .val (.int p2), .val (.int (1 : Int32)), .val (.int (1 : Int32)), .val (.long p0), .second, .val (.ref b97), .val (.ref b99), .val (.ref b101), .unset] [(.ref aZ)])) (fun t k => k) ?_
      refine own_via (F' := T110.setTop (mkF m 99 #[.val (.long p0), .second, .val (.long p1), .second, .val (.int p2), .val (.int (1 : Int32)), .val (.int (1 : Int32)), .val (.long p0), .second, .val (.ref b97), .val (.ref b99), .val (.ref b101), .unset] [(.ref b101), (.ref aZ)])) (fun t k => XS.aload X110.here hx rfl (hb hby at_97) rfl rfl k) ?_
      refine own_callV X110 hx hZ (own_g_getRetryAfter l Z az hw b101 aZ T101.heap Fc101) hown E101 (hw _ (List.mem_of_getElem? (i := 40) rfl)) (hw _ (List.mem_of_getElem? (i := 41) rfl)) (hw _ (List.mem_of_getElem? (i := 43) rfl)) (hw _ (List.mem_of_getElem? (i := 42) rfl)) (hw _ (List.mem_of_getElem? (i := 2) rfl)) (hw _ (List.mem_of_getElem? (i := 44) rfl)) (notFace_of_selects (args := #[]) (mvT hZ (hw _ (List.mem_of_getElem? (i := 43) rfl)))) (by decide) e110 (g := (mkF m 99 #[.val (.long p0), .second, .val (.long p1), .second, .val (.int p2), .val (.int (1 : Int32)), .val (.int (1 : Int32)), .val (.long p0), .second, .val (.ref b97), .val (.ref b99), .val (.ref b101), .unset] [(.ref b101), (.ref aZ)])) rfl (by rw [hml]; rfl) (argsL := []) (rest := [(.ref aZ)]) rfl (lenOf own_pd6 rfl) rfl 1 (by show 2 * 0 + _ ≤ _; exact Nat.le_of_eq rfl) (hb hby at_99) (by decide) (by decide) (by decide) (by decide) ?_
      intro v111 T111 L111 hQ111 X111
      obtain ⟨rfl, e111, rfl⟩ := hQ111
      refine own_via (F' := T111.setTop (mkF m 102 #[.val (.long p0), .second, .val (.long p1), .second, .val (.int p2), .val (.int (1 : Int32)), .val (.int (1 : Int32)), .val (.long p0), .second, .val (.ref b97), .val (.ref b99), .val (.ref b101), .unset] [(.ref aZ), (.ref aZ)])) (fun t k => k) ?_
      have f113 := (((EZ0.keep K97).keep K99).keep K101)
      refine own_callV X111 hx hZ (own_kq l Z az hw aZ T101.heap) hown f113 (hw _ (List.mem_of_getElem? (i := 45) rfl)) (hw _ (List.mem_of_getElem? (i := 46) rfl)) (hw _ (List.mem_of_getElem? (i := 48) rfl)) (hw _ (List.mem_of_getElem? (i := 47) rfl)) (hw _ (List.mem_of_getElem? (i := 7) rfl)) (hw _ (List.mem_of_getElem? (i := 49) rfl)) (notFace_of_selects (args := #[]) (mvT hZ (hw _ (List.mem_of_getElem? (i := 48) rfl)))) (by decide) e111 (g := (mkF m 102 #[.val (.long p0), .second, .val (.long p1), .second, .val (.int p2), .val (.int (1 : Int32)), .val (.int (1 : Int32)), .val (.long p0), .second, .val (.ref b97), .val (.ref b99), .val (.ref b101), .unset] [(.ref aZ), (.ref aZ)])) rfl (by rw [hml]; rfl) (argsL := [(.ref aZ)]) (rest := []) rfl (lenOf own_pd1 rfl) rfl 0 (by show 2 * 0 + _ ≤ _; exact Nat.le_of_eq rfl) (hb hby at_102) (by decide) (by decide) (by decide) (by decide) ?_
      intro v112 T112 L112 hQ112 X112
      obtain ⟨rfl, e112, rfl⟩ := hQ112
      refine own_via (F' := T112.setTop (mkF m 105 #[.val (.long p0), .second, .val (.long p1), .second, .val (.int p2), .val (.int (1 : Int32)), .val (.int (1 : Int32)), .val (.long p0), .second, .val (.ref b97), .val (.ref b99), .val (.ref b101), .unset] [(.int (1 : Int32))])) (fun t k => k) ?_
      refine own_via (F' := T112.setTop (mkF m 110 #[.val (.long p0), .second, .val (.long p1), .second, .val (.int p2), .val (.int (1 : Int32)), .val (.int (1 : Int32)), .val (.long p0), .second, .val (.ref b97), .val (.ref b99), .val (.ref b101), .unset] [])) (fun t k => XS.ifYes X112.here hx rfl (pc0 := 105) (pc' := 110) rfl (hb hby at_105) rfl (XT.i0_ne_t (by decide)) (by decide) (by decide) k) ?_
      refine own_via (F' := T112.setTop (mkF m 112 #[.val (.long p0), .second, .val (.long p1), .second, .val (.int p2), .val (.int (1 : Int32)), .val (.int (1 : Int32)), .val (.long p0), .second, .val (.ref b97), .val (.ref b99), .val (.ref b101), .unset] [(.ref b97)])) (fun t k => XS.aload X112.here hx rfl (hb hby at_110) rfl rfl k) ?_
      refine own_via (F' := T112.setTop (mkF m 114 #[.val (.long p0), .second, .val (.long p1), .second, .val (.int p2), .val (.int (1 : Int32)), .val (.int (1 : Int32)), .val (.long p0), .second, .val (.ref b97), .val (.ref b99), .val (.ref b101), .unset] [(.ref b99), (.ref b97)])) (fun t k => XS.aload X112.here hx rfl (hb hby at_112) rfl rfl k) ?_
      have f114 := (E99.keep K101)
      have f115 := (Fa99.keep K101 nin0)
      have f116 := (Fb99.keep K101 nin0)
      have f117 := (Fc99.keep K101 nin0)
      have f118 := (Fd99.keep K101 nin0)
      refine own_callV X112 hx hZ (own_ke l Z az hw b97 b99 aZ p0 p0 T101.heap f113 f114 f102 f105 f109 f107 f115 f116 f117 f118 (1 : Int32) (if_pos rfl)) hown f104 (hw _ (List.mem_of_getElem? (i := 50) rfl)) (hw _ (List.mem_of_getElem? (i := 51) rfl)) (hw _ (List.mem_of_getElem? (i := 53) rfl)) (hw _ (List.mem_of_getElem? (i := 52) rfl)) (hw _ (List.mem_of_getElem? (i := 2) rfl)) (hw _ (List.mem_of_getElem? (i := 54) rfl)) (notFace_of_selects (args := #[]) (mvT hZ (hw _ (List.mem_of_getElem? (i := 53) rfl)))) (by decide) e112 (g := (mkF m 114 #[.val (.long p0), .second, .val (.long p1), .second, .val (.int p2), .val (.int (1 : Int32)), .val (.int (1 : Int32)), .val (.long p0), .second, .val (.ref b97), .val (.ref b99), .val (.ref b101), .unset] [(.ref b99), (.ref b97)])) rfl (by rw [hml]; rfl) (argsL := [(.ref b99)]) (rest := []) rfl (lenOf own_pd1 rfl) rfl 0 (by show 2 * 0 + _ ≤ _; exact Nat.le_of_eq rfl) (hb hby at_114) (by decide) (by decide) (by decide) (by decide) ?_
      intro v119 T119 L119 hQ119 X119
      obtain ⟨rfl, e119, rfl⟩ := hQ119
      refine own_via (F' := T119.setTop (mkF m 117 #[.val (.long p0), .second, .val (.long p1), .second, .val (.int p2), .val (.int (1 : Int32)), .val (.int (1 : Int32)), .val (.long p0), .second, .val (.ref b97), .val (.ref b99), .val (.ref b101), .unset] [(.int (1 : Int32))])) (fun t k => k) ?_
      refine own_via (F' := T119.setTop (mkF m 119 #[.val (.long p0), .second, .val (.long p1), .second, .val (.int p2), .val (.int (1 : Int32)), .val (.int (1 : Int32)), .val (.long p0), .second, .val (.ref b97), .val (.ref b99), .val (.ref b101), .val (.int (1 : Int32))] [])) (fun t k => XS.istore X119.here hx rfl (hb hby at_117) rfl (l' := #[.val (.long p0), .second, .val (.long p1), .second, .val (.int p2), .val (.int (1 : Int32)), .val (.int (1 : Int32)), .val (.long p0), .second, .val (.ref b97), .val (.ref b99), .val (.ref b101), .val (.int (1 : Int32))]) rfl k) ?_
      refine own_via (F' := T119.setTop (mkF m 121 #[.val (.long p0), .second, .val (.long p1), .second, .val (.int p2), .val (.int (1 : Int32)), .val (.int (1 : Int32)), .val (.long p0), .second, .val (.ref b97), .val (.ref b99), .val (.ref b101), .val (.int (1 : Int32))] [(.int (1 : Int32))])) (fun t k => XS.iload X119.here hx rfl (hb hby at_119) rfl k) ?_
      refine own_via (F' := T119.setTop (mkF m 122 #[.val (.long p0), .second, .val (.long p1), .second, .val (.int p2), .val (.int (1 : Int32)), .val (.int (1 : Int32)), .val (.long p0), .second, .val (.ref b97), .val (.ref b99), .val (.ref b101), .val (.int (1 : Int32))] [(.long p0), (.int (1 : Int32))])) (fun t k => XT.lloadN X119.here hx rfl (hb hby at_121) rfl k) ?_
      refine own_via (F' := T119.setTop (mkF m 124 #[.val (.long p0), .second, .val (.long p1), .second, .val (.int p2), .val (.int (1 : Int32)), .val (.int (1 : Int32)), .val (.long p0), .second, .val (.ref b97), .val (.ref b99), .val (.ref b101), .val (.int (1 : Int32))] [(.long p0), (.long p0), (.int (1 : Int32))])) (fun t k => XT.lload X119.here hx rfl (hb hby at_122) rfl k) ?_
      refine own_via (F' := T119.setTop (mkF m 125 #[.val (.long p0), .second, .val (.long p1), .second, .val (.int p2), .val (.int (1 : Int32)), .val (.int (1 : Int32)), .val (.long p0), .second, .val (.ref b97), .val (.ref b99), .val (.ref b101), .val (.int (1 : Int32))] [(.int (XT.cmpL p0 p0)), (.int (1 : Int32))])) (fun t k => XT.lcmp X119.here hx rfl (hb hby at_124) rfl k) ?_
      refine own_via (F' := T119.setTop (mkF m 128 #[.val (.long p0), .second, .val (.long p1), .second, .val (.int p2), .val (.int (1 : Int32)), .val (.int (1 : Int32)), .val (.long p0), .second, .val (.ref b97), .val (.ref b99), .val (.ref b101), .val (.int (1 : Int32))] [(.int (1 : Int32))])) (fun t k => XS.ifNo X119.here hx rfl (hb hby at_125) rfl (XT.ll_ne_f rfl) k) ?_
      refine own_via (F' := T119.setTop (mkF m 129 #[.val (.long p0), .second, .val (.long p1), .second, .val (.int p2), .val (.int (1 : Int32)), .val (.int (1 : Int32)), .val (.long p0), .second, .val (.ref b97), .val (.ref b99), .val (.ref b101), .val (.int (1 : Int32))] [(.int (1 : Int32)), (.int (1 : Int32))])) (fun t k => XT.iconstV X119.here hx rfl (1 : Int32) (hb hby at_128) (by decide) k) ?_
      refine own_via (F' := T119.setTop (mkF m 133 #[.val (.long p0), .second, .val (.long p1), .second, .val (.int p2), .val (.int (1 : Int32)), .val (.int (1 : Int32)), .val (.long p0), .second, .val (.ref b97), .val (.ref b99), .val (.ref b101), .val (.int (1 : Int32))] [(.int (1 : Int32)), (.int (1 : Int32))])) (fun t k => XS.goto X119.here hx rfl (pc0 := 129) (pc' := 133) rfl (hb hby at_129) (by decide) (by decide) k) ?_
      refine own_via (F' := T119.setTop (mkF m 136 #[.val (.long p0), .second, .val (.long p1), .second, .val (.int p2), .val (.int (1 : Int32)), .val (.int (1 : Int32)), .val (.long p0), .second, .val (.ref b97), .val (.ref b99), .val (.ref b101), .val (.int (1 : Int32))] [])) (fun t k => XS.icmpNo X119.here hx rfl (hb hby at_133) rfl (XT.ii_ne_f (by decide)) k) ?_
      refine own_via (F' := T119.setTop (mkF m 137 #[.val (.long p0), .second, .val (.long p1), .second, .val (.int p2), .val (.int (1 : Int32)), .val (.int (1 : Int32)), .val (.long p0), .second, .val (.ref b97), .val (.ref b99), .val (.ref b101), .val (.int (1 : Int32))] [(.int (1 : Int32))])) (fun t k => XT.iconstV X119.here hx rfl (1 : Int32) (hb hby at_136) (by decide) k) ?_
      refine own_via (F' := T119.setTop (mkF m 141 #[.val (.long p0), .second, .val (.long p1), .second, .val (.int p2), .val (.int (1 : Int32)), .val (.int (1 : Int32)), .val (.long p0), .second, .val (.ref b97), .val (.ref b99), .val (.ref b101), .val (.int (1 : Int32))] [(.int (1 : Int32))])) (fun t k => XS.goto X119.here hx rfl (pc0 := 137) (pc' := 141) rfl (hb hby at_137) (by decide) (by decide) k) ?_
      exact own_retZ X119 hx hret hlk (hb hby at_141) ⟨rfl, (Fr.app (Fr.app (Fr.app (Fr.app (Fr.app (Fr.app (Fr.app (Fr.app (Fr.app (Fr.app (Fr.nil n0) M97) M99) M101) (Fr.nil _)) (Fr.nil _)) (Fr.nil _)) (Fr.nil _)) (Fr.nil _)) (Fr.nil _)) (Fr.nil _))⟩ (by decide) (by decide)
set_option maxRecDepth 65536 in
set_option maxHeartbeats 40000000 in
theorem own_comes {Post : Tables → Env → Array Value → State → Outcome → State → Prop} (hpost : ∀ tb e args s v u, (limb_1_1.after args s (.returned v) u = true ∧ limb_1_2.after args s (.returned v) u = true ∧ True) → FrameEnd s (.returned v) u (Jvm.fieldLocs frame_1_writes args s ++ Jvm.arrayLocs frame_1_arrays args s ++ Jvm.staticLocs frame_1_statics s) 16 128 → Post tb e args s (.returned v) u) :
    ArmFor flags0 classFile x code maxLocals ret World_1 tables_1 room_1 Calls_1 rest_1 Pre_1 Post := by
  intro l hfl _ _ p e ha hc hk s m args below hf hA hF happ hP
  obtain ⟨hcalls, hrest, hpre⟩ := hP
  obtain ⟨-, -, -, hnamed, -, -, -, hat⟩ := (Spec.applies_iff hf).mp happ
  obtain ⟨hg, hn⟩ := and_e (Cond.before_iff.mp (show (Jvm.Cond.and given_1 narrow_1).before args s = true from hpre))
  obtain ⟨h1, hg⟩ := and_e hg
  obtain ⟨u0, hg⟩ := and_e hg
  obtain ⟨u1, hg⟩ := and_e hg
  have u2 := hg
  obtain ⟨w0, w1, w2, rfl⟩ : ∃ w0 w1 w2 : Value, args = #[w0, w1, w2] := by
    have hs : args.size = 3 := by simpa [Cond.value, given_1] using h1
    obtain ⟨L⟩ := args
    match L, hs with
    | [w0, w1, w2], _ => exact ⟨w0, w1, w2, rfl⟩
  have hw := fun d (hd : d ∈ tables_1) => atoms_spec (ws := Jvm.Cond.code x code maxLocals ret :: tables_1) hat d (List.mem_cons_of_mem _ hd)
  obtain ⟨p0, e0⟩ := isL_v u0
  obtain rfl : w0 = (.long p0) := Option.some.inj e0
  obtain ⟨p1, e1⟩ := isL_v u1
  obtain rfl : w1 = (.long p1) := Option.some.inj e1
  obtain ⟨p2, e2⟩ := is_v u2
  obtain rfl : w2 = (.int p2) := Option.some.inj e2
  obtain ⟨hsets, hown0⟩ := atoms_of _ (rest_1_c_eq ▸ (show rest_1_c.before _ s = true from hrest))
  have z1 := hsets _ (List.mem_of_getElem? (i := 1) rfl)
  have z2 := Cond.before_iff.mp (hsets _ (List.mem_of_getElem? (i := 2) rfl))
  obtain ⟨aZ, vz⟩ := exa_v z2
  have SZ := Sta.start vz (Or.inl z1)
  have EZ := Exa.start vz z2
  obtain ⟨n, o, h1, h2, h3, _, L, rfl, ⟨rfl, N⟩, hq⟩ := own_law l s _ hw p0 p1 p2 s.heap s.heap.size (Old.start s) aZ SZ EZ tables_1 p e ha hc hk s m _ below hf ((Spec.applies_iff_loose hf).mp happ).1 ⟨rfl, State.Warmed39.refl s, rfl⟩ trivial
  refine ⟨n, _, h1, h2, h3, hpost _ _ _ _ _ _ ⟨Cond.after_iff.mpr rfl, Cond.after_iff.mpr (eq_i res_at (Term.int_eval (1)) rfl), trivial⟩ ⟨hq.1, hq.2.1, (hq.2.2.sift fun y hy => Or.inr (N y hy)).mono (by decide) (by decide)⟩⟩
theorem main_1_1 : Claimed_1_1 := own_comes fun _ _ _ _ _ _ h hF => ⟨h.1, hF⟩
theorem main_1_2 : Claimed_1_2 := own_comes fun _ _ _ _ _ _ h hF => ⟨h.2.1, hF⟩
end Jvm.Pilot.@@N@@
namespace Jvm.Pilot.@@N@@
open Jvm Jvm.ClassFile Sem Op Lib Jvm.Free Jvm.Stand Jvm.Pilot.@@N@@.Jvm.D
/-! MADE BY PROGRAM (witnessworld.py) out of the Statement's table words and the real class files: 12 classes; the members and pool entries that the words name. The judged class is class 1, her method 1. -/
namespace start1
open Jvm.ClassFile
def u (s : String) : CpInfo := .utf8 (stringToUtf16 s)
/-- a pool by its gaps: so many unusable entries, then the entry; so many at the end -/
def gap : Nat → List CpInfo → List CpInfo
  | 0, r => r
  | n + 1, r => .unusable :: gap n r
def poolList (es : List (Nat × CpInfo)) (last : Nat) : List CpInfo := es.foldr (fun e r => gap e.1 (e.2 :: r)) (gap last [])
def pool (es : List (Nat × CpInfo)) (last : Nat) : Array CpInfo := ⟨poolList es last⟩
def fileOf (pool : Array CpInfo) (this : Nat) (attrs : Array Attribute := #[]) (ms : Array MethodInfo := #[]) (fl : Nat := 33) (sup : Nat := 0) (ifs : Array Nat := #[]) (fds : Array FieldInfo := #[]) : ClassFile where
  minorVersion := 0
  majorVersion := 65
  constantPool := pool
  accessFlags := fl
  thisClass := this
  superClass := sup
  interfaces := ifs
  fields := fds
  methods := ms
  attributes := attrs
def plain (name : String) (sup : Option ClassId) : Class where
  name := name
  kind := .ordinary
  loader := none
  accessFlags := 33
  super := sup
  interfaces := #[]
  cf := none
  fields := #[]
  methods := #[]
  instanceTypes := #[]
  staticTypes := #[]
  resolved := #[]
  callSites := []
  init := .initialized
  statics := none
  mirror := none

def pool0 : Array CpInfo := pool [(5, u "<init>"), (0, u "()V"), (1, .class_ 10), (1, u "java/lang/Object")] 113

def k0c0 : Code := { maxStack := 0, maxLocals := 1, code := object_method_1_code, exceptionTable := #[], attributes := #[] }
def k0m0 : Method := { name := "<init>", desc := "()V", sig := { parameters := [], returnType := none }, accessFlags := 1, code := some k0c0 }
/-- java/lang/Object -/
def k0 : Class := { plain "java/lang/Object" none with
  accessFlags := 33
  interfaces := #[]
  cf := some (fileOf pool0 8 #[] #[{ accessFlags := 1, nameIndex := 5, descriptorIndex := 6, attributes := #[] }] 33 0 #[] #[])
  fields := #[]
  methods := #[k0m0]
  instanceTypes := #[]
  staticTypes := #[]
  resolved := Array.replicate 124 none
  statics := none }

def pool1 : Array CpInfo := pool [(2, .class_ 4), (1, u "java/lang/Object"), (0, u "<init>"), (0, u "()V"), (0, .methodref 8 9), (0, .class_ 10), (0, .nameAndType 11 12), (0, u "com/example/refill/refill/bucket/Decision"), (0, u "allowed"), (0, u "(J)Lcom/example/refill/refill/bucket/Decision;"), (0, .methodref 8 14), (0, .nameAndType 15 16), (0, u "fallback"), (0, u "(Z)Lcom/example/refill/refill/bucket/Decision;"), (0, .methodref 8 18), (0, .nameAndType 19 20), (0, u "isAllowed"), (0, u "()Z"), (0, .methodref 8 22), (0, .nameAndType 23 24), (0, u "getRemaining"), (0, u "()J"), (0, .methodref 8 26), (0, .nameAndType 27 20), (0, u "isFallback"), (0, .methodref 8 29), (0, .nameAndType 30 31), (0, u "getRetryAfter"), (0, u "()Ljava/time/Duration;"), (0, .methodref 33 34), (0, .class_ 35), (0, .nameAndType 36 37), (0, u "java/time/Duration"), (0, u "equals"), (0, u "(Ljava/lang/Object;)Z"), (0, .methodref 8 34), (0, .class_ 40), (0, u "com/example/refill/refill/bucket/DecisionAllowedPinLaw"), (2, u "law"), (0, u "(JJI)Z")] 3

def k1m0 : Method := { name := "<init>", desc := "()V", sig := { parameters := [], returnType := none }, accessFlags := 1, code := none }
def k1c1 : Code := { maxStack := 5, maxLocals := 13, code := code, exceptionTable := #[], attributes := #[] }
def k1m1 : Method := { name := "law", desc := "(JJI)Z", sig := { parameters := [.long, .long, .int], returnType := some .boolean }, accessFlags := 9, code := some k1c1 }
/-- com/example/refill/refill/bucket/DecisionAllowedPinLaw -/
def k1 : Class := { plain "com/example/refill/refill/bucket/DecisionAllowedPinLaw" (some 0) with
  accessFlags := 49
  interfaces := #[]
  cf := some (fileOf pool1 39 #[] #[{ accessFlags := 1, nameIndex := 5, descriptorIndex := 6, attributes := #[] }, { accessFlags := 9, nameIndex := 43, descriptorIndex := 44, attributes := #[] }] 49 2 #[] #[])
  fields := #[]
  methods := #[k1m0, k1m1]
  instanceTypes := #[]
  staticTypes := #[]
  resolved := Array.replicate 48 none
  statics := none }

def pool2 : Array CpInfo := pool [(1, .methodref 2 3), (0, .class_ 4), (0, .nameAndType 5 6), (0, u "java/lang/Object"), (0, u "<init>"), (0, u "()V"), (0, .fieldref 8 9), (0, .class_ 10), (0, .nameAndType 11 12), (0, u "com/example/refill/refill/bucket/Decision"), (0, u "allowed"), (0, u "Z"), (0, .fieldref 8 14), (0, .nameAndType 15 16), (0, u "remaining"), (0, u "J"), (0, .fieldref 8 18), (0, .nameAndType 19 20), (0, u "retryAfter"), (0, u "Ljava/time/Duration;"), (0, .fieldref 8 22), (0, .nameAndType 23 12), (0, u "fallback"), (0, .fieldref 25 26), (0, .class_ 27), (0, .nameAndType 28 20), (0, u "java/time/Duration"), (0, u "ZERO"), (0, .methodref 8 30), (0, .nameAndType 5 31), (0, u "(ZJLjava/time/Duration;Z)V"), (7, .methodref 25 40), (0, .nameAndType 41 42), (0, u "equals"), (0, u "(Ljava/lang/Object;)Z"), (26, u "(J)Lcom/example/refill/refill/bucket/Decision;"), (2, u "(Z)Lcom/example/refill/refill/bucket/Decision;"), (0, u "isAllowed"), (0, u "()Z"), (0, u "getRemaining"), (0, u "()J"), (0, u "getRetryAfter"), (0, u "()Ljava/time/Duration;"), (0, u "isFallback")] 22

def k2c0 : Code := { maxStack := 3, maxLocals := 6, code := prog_2_method_1_code, exceptionTable := #[], attributes := #[] }
def k2m0 : Method := { name := "<init>", desc := "(ZJLjava/time/Duration;Z)V", sig := { parameters := [.boolean, .long, (.object "java/time/Duration"), .boolean], returnType := none }, accessFlags := 2, code := some k2c0 }
def k2c1 : Code := { maxStack := 7, maxLocals := 2, code := prog_2_method_2_code, exceptionTable := #[], attributes := #[] }
def k2m1 : Method := { name := "allowed", desc := "(J)Lcom/example/refill/refill/bucket/Decision;", sig := { parameters := [.long], returnType := some (.object "com/example/refill/refill/bucket/Decision") }, accessFlags := 9, code := some k2c1 }
def k2c2 : Code := { maxStack := 7, maxLocals := 1, code := prog_2_method_4_code, exceptionTable := #[], attributes := #[] }
def k2m2 : Method := { name := "fallback", desc := "(Z)Lcom/example/refill/refill/bucket/Decision;", sig := { parameters := [.boolean], returnType := some (.object "com/example/refill/refill/bucket/Decision") }, accessFlags := 9, code := some k2c2 }
def k2c3 : Code := { maxStack := 1, maxLocals := 1, code := prog_2_method_5_code, exceptionTable := #[], attributes := #[] }
def k2m3 : Method := { name := "isAllowed", desc := "()Z", sig := { parameters := [], returnType := some .boolean }, accessFlags := 1, code := some k2c3 }
def k2c4 : Code := { maxStack := 2, maxLocals := 1, code := prog_2_method_6_code, exceptionTable := #[], attributes := #[] }
def k2m4 : Method := { name := "getRemaining", desc := "()J", sig := { parameters := [], returnType := some .long }, accessFlags := 1, code := some k2c4 }
def k2c5 : Code := { maxStack := 1, maxLocals := 1, code := prog_2_method_7_code, exceptionTable := #[], attributes := #[] }
def k2m5 : Method := { name := "getRetryAfter", desc := "()Ljava/time/Duration;", sig := { parameters := [], returnType := some (.object "java/time/Duration") }, accessFlags := 1, code := some k2c5 }
def k2c6 : Code := { maxStack := 1, maxLocals := 1, code := prog_2_method_8_code, exceptionTable := #[], attributes := #[] }
def k2m6 : Method := { name := "isFallback", desc := "()Z", sig := { parameters := [], returnType := some .boolean }, accessFlags := 1, code := some k2c6 }
def k2c7 : Code := { maxStack := 4, maxLocals := 3, code := prog_2_method_9_code, exceptionTable := #[], attributes := #[] }
def k2m7 : Method := { name := "equals", desc := "(Ljava/lang/Object;)Z", sig := { parameters := [(.object "java/lang/Object")], returnType := some .boolean }, accessFlags := 1, code := some k2c7 }
/-- com/example/refill/refill/bucket/Decision -/
def k2 : Class := { plain "com/example/refill/refill/bucket/Decision" (some 0) with
  accessFlags := 49
  interfaces := #[]
  cf := some (fileOf pool2 8 #[] #[{ accessFlags := 2, nameIndex := 5, descriptorIndex := 31, attributes := #[] }, { accessFlags := 9, nameIndex := 11, descriptorIndex := 69, attributes := #[] }, { accessFlags := 9, nameIndex := 23, descriptorIndex := 72, attributes := #[] }, { accessFlags := 1, nameIndex := 73, descriptorIndex := 74, attributes := #[] }, { accessFlags := 1, nameIndex := 75, descriptorIndex := 76, attributes := #[] }, { accessFlags := 1, nameIndex := 77, descriptorIndex := 78, attributes := #[] }, { accessFlags := 1, nameIndex := 79, descriptorIndex := 74, attributes := #[] }, { accessFlags := 1, nameIndex := 41, descriptorIndex := 42, attributes := #[] }] 49 2 #[] #[{ accessFlags := 18, nameIndex := 11, descriptorIndex := 12, attributes := #[] }, { accessFlags := 18, nameIndex := 15, descriptorIndex := 16, attributes := #[] }, { accessFlags := 18, nameIndex := 19, descriptorIndex := 20, attributes := #[] }, { accessFlags := 18, nameIndex := 23, descriptorIndex := 12, attributes := #[] }])
  fields := #[{ name := "allowed", type := .boolean, accessFlags := 18, slot := 0, constantValue := 0 }, { name := "remaining", type := .long, accessFlags := 18, slot := 1, constantValue := 0 }, { name := "retryAfter", type := (.object "java/time/Duration"), accessFlags := 18, slot := 2, constantValue := 0 }, { name := "fallback", type := .boolean, accessFlags := 18, slot := 3, constantValue := 0 }]
  methods := #[k2m0, k2m1, k2m2, k2m3, k2m4, k2m5, k2m6, k2m7]
  instanceTypes := #[.boolean, .long, (.object "java/time/Duration"), .boolean]
  staticTypes := #[]
  resolved := Array.replicate 102 none
  statics := none }

def pool3 : Array CpInfo := pool [(1, .class_ 2), (0, u "java/time/temporal/TemporalAmount"), (0, .class_ 4), (0, u "java/lang/Object")] 11

/-- java/time/temporal/TemporalAmount -/
def k3 : Class := { plain "java/time/temporal/TemporalAmount" (some 0) with
  accessFlags := 1537
  interfaces := #[]
  cf := some (fileOf pool3 1 #[] #[] 1537 3 #[] #[])
  fields := #[]
  methods := #[]
  instanceTypes := #[]
  staticTypes := #[]
  resolved := Array.replicate 16 none
  statics := none }

def pool4 : Array CpInfo := pool [(1, .class_ 2), (0, u "java/lang/Comparable"), (0, .class_ 4), (0, u "java/lang/Object")] 7

/-- java/lang/Comparable -/
def k4 : Class := { plain "java/lang/Comparable" (some 0) with
  accessFlags := 1537
  interfaces := #[]
  cf := some (fileOf pool4 1 #[] #[] 1537 3 #[] #[])
  fields := #[]
  methods := #[]
  instanceTypes := #[]
  staticTypes := #[]
  resolved := Array.replicate 12 none
  statics := none }

def pool5 : Array CpInfo := pool [(1, .class_ 2), (0, u "java/io/Serializable"), (0, .class_ 4), (0, u "java/lang/Object")] 2

/-- java/io/Serializable -/
def k5 : Class := { plain "java/io/Serializable" (some 0) with
  accessFlags := 1537
  interfaces := #[]
  cf := some (fileOf pool5 1 #[] #[] 1537 3 #[] #[])
  fields := #[]
  methods := #[]
  instanceTypes := #[]
  staticTypes := #[]
  resolved := Array.replicate 7 none
  statics := none }

def pool6 : Array CpInfo := pool [(11, .class_ 13), (1, u "java/time/Duration"), (20, u "ZERO"), (0, u "Ljava/time/Duration;"), (13, .class_ 51), (1, u "java/time/temporal/TemporalAmount"), (27, .class_ 81), (1, u "java/time/Duration$Lazy"), (35, u "seconds"), (101, .class_ 220), (0, u "java/lang/Object"), (2, u "J"), (2, u "nanos"), (0, u "I"), (11, .class_ 241), (1, u "java/time/Duration$DurationUnits"), (27, .class_ 271), (1, u "java/time/Duration$1"), (91, u "BI_NANOS_PER_SECOND"), (0, u "Ljava/math/BigInteger;"), (120, .class_ 486), (0, u "java/lang/Comparable"), (0, .class_ 488), (0, u "java/io/Serializable"), (0, u "serialVersionUID"), (129, u "equals"), (0, u "(Ljava/lang/Object;)Z")] 35

def k6c0 : Code := { maxStack := 4, maxLocals := 3, code := jdk_2316_method_67_code, exceptionTable := #[], attributes := #[] }
def k6m0 : Method := { name := "equals", desc := "(Ljava/lang/Object;)Z", sig := { parameters := [(.object "java/lang/Object")], returnType := some .boolean }, accessFlags := 1, code := some k6c0 }
/-- java/time/Duration -/
def k6 : Class := { plain "java/time/Duration" (some 0) with
  accessFlags := 49
  interfaces := #[3, 4, 5]
  cf := some (fileOf pool6 11 #[.nestMembers #[269, 239, 79]] #[{ accessFlags := 1, nameIndex := 619, descriptorIndex := 620, attributes := #[] }] 49 219 #[49, 485, 487] #[{ accessFlags := 25, nameIndex := 34, descriptorIndex := 35, attributes := #[] }, { accessFlags := 26, nameIndex := 489, descriptorIndex := 223, attributes := #[] }, { accessFlags := 26, nameIndex := 363, descriptorIndex := 364, attributes := #[] }, { accessFlags := 18, nameIndex := 117, descriptorIndex := 223, attributes := #[] }, { accessFlags := 18, nameIndex := 226, descriptorIndex := 227, attributes := #[] }])
  fields := #[{ name := "ZERO", type := (.object "java/time/Duration"), accessFlags := 25, slot := 0, constantValue := 0 }, { name := "serialVersionUID", type := .long, accessFlags := 26, slot := 1, constantValue := 0 }, { name := "BI_NANOS_PER_SECOND", type := (.object "java/math/BigInteger"), accessFlags := 26, slot := 2, constantValue := 0 }, { name := "seconds", type := .long, accessFlags := 18, slot := 0, constantValue := 0 }, { name := "nanos", type := .int, accessFlags := 18, slot := 1, constantValue := 0 }]
  methods := #[k6m0]
  instanceTypes := #[.long, .int]
  staticTypes := #[(.object "java/time/Duration"), .long, (.object "java/math/BigInteger")]
  resolved := Array.replicate 656 none
  statics := some 0 }

def pool7 : Array CpInfo := pool [(1, u "java/lang/Cloneable"), (0, .class_ 1), (0, u "java/lang/Object"), (0, .class_ 3)] 3

/-- java/lang/Cloneable -/
def k7 : Class := { plain "java/lang/Cloneable" (some 0) with
  accessFlags := 1537
  interfaces := #[]
  cf := some (fileOf pool7 2 #[] #[] 1537 4 #[] #[])
  fields := #[]
  methods := #[]
  instanceTypes := #[]
  staticTypes := #[]
  resolved := Array.replicate 8 none
  statics := none }

/-- the primitive byte -/
def k8 : Class := { plain "byte" none with kind := .primitive 'B', accessFlags := 0x411 }
/-- [B -/
def k9 : Class := { plain "[B" (some 0) with kind := .array 8 .byte, interfaces := #[7, 5], accessFlags := 1041 }

/-- the primitive int -/
def k10 : Class := { plain "int" none with kind := .primitive 'I', accessFlags := 0x411 }
/-- [I -/
def k11 : Class := { plain "[I" (some 0) with kind := .array 10 .int, interfaces := #[7, 5], accessFlags := 1041 }

def heap : Heap := #[{ cls := 6, slots := #[.ref 1, .long 0, .null], vm := .statics 6 },
  { cls := 6, slots := #[.long 0, .int 0], vm := .none }]
def classes : Array Class := #[k0, k1, k2, k3, k4, k5, k6, k7, k8, k9, k10, k11]
def interned : List (Array UInt16 × Addr) := []
def slotsUsed : Nat := 5
def theMethod : MethodId := ⟨1, 1⟩
def args0 : Array Value := #[.long 7, .long 9, .int 2]
def aboutOver (below : List Frame) : State where
  vm := { classes := classes, interned := interned.toArray }
  heap := heap
  slotsUsed := slotsUsed
  threads := #[{ frames := .invoking theMethod args0 :: below }]
def below0 : List Frame := [.native { method := ⟨0, 0⟩, args := #[] }]
def about1 : State := aboutOver below0
def p0 : Program := .bare "" "" ""
def e0 : Env := launch0.env 0 0 0
theorem w_frames : about1.frames = Frame.invoking theMethod args0 :: below0 := rfl
set_option maxRecDepth 65536 in
theorem w_args : argsFit about1.vm theMethod args0 = true := by decide +kernel
set_option maxRecDepth 65536 in
theorem w_heap : heapFits about1 = true := by decide +kernel
set_option maxRecDepth 65536 in
theorem w_runnable : about1.curStatus? = some .runnable := by decide +kernel
set_option maxRecDepth 65536 in
theorem w_alone : about1.alone = true := by decide +kernel
set_option maxRecDepth 65536 in
theorem w_named : about1.methodNamed? x = some theMethod := by decide +kernel
set_option maxRecDepth 65536 in
theorem w_hears : about1.hears theMethod below0 = true := by decide +kernel
set_option maxRecDepth 65536 in
theorem w_ripe : about1.ripe theMethod args0 below0 = true := by decide +kernel
theorem w_running : about1.status = .running := rfl
set_option maxRecDepth 65536 in
theorem w_room : about1.hasRoom e0.platform room_1 = true :=
  launch0.hasRoom_least _ room_1 (by decide +kernel) (by decide +kernel) (by decide +kernel) (by decide +kernel) (by decide +kernel) (by decide +kernel)
theorem allAtoms_all (ts : List Jvm.Cond) (a : Array Jvm.Value) (st : Jvm.State) : (allAtoms ts).before a st = ts.all (fun c => c.before a st) := by
  induction ts with
  | nil => rfl
  | cons c t ih =>
    show (Jvm.Cond.and c (allAtoms t)).before a st = _
    rw [Jvm.Cond.before_and, ih, List.all_cons]
def words1 : List Jvm.Cond := Jvm.Cond.code x code maxLocals ret :: tables_1
/-- a 'code' word, met by the world's own term for the bytes: nothing is compared byte by byte -/
theorem code_word {y : MethodName} {bytes : ByteArray} {mx : Nat} {rt : Option FieldType} {a : Array Value} {s : State} {m : MethodId} {meth : Method} {c : Code} (h1 : s.methodNamed? y = some m) (h2 : s.vm.method? m = some meth) (h3 : meth.code = some c) (h4 : c.code = bytes)
    (h5 : (c.maxLocals == mx && c.exceptionTable.isEmpty && decide (c.maxStack ≤ mostOperands) && decide (meth.sig.returnType = rt) && !meth.locks && decide (parseMethodDescriptor y.desc = some meth.sig)) = true) : (Jvm.Cond.code y bytes mx rt).before a s = true := by
  simp only [Bool.and_eq_true, beq_iff_eq, Bool.not_eq_true', decide_eq_true_eq] at h5
  obtain ⟨⟨⟨⟨⟨g1, g2⟩, g3⟩, g4⟩, g5⟩, g6⟩ := h5
  simp [Cond.before, Cond.holds, Cond.value, h1, h2, h3, h4, g1, g2, g3, g4, g5, g6]
def isCode : Jvm.Cond → Bool
  | .code _ _ _ _ => true
  | _ => false
theorem all_split {L : List Jvm.Cond} {P : Jvm.Cond → Bool} (h1 : L.all (fun c => isCode c || P c) = true) (h2 : ∀ c ∈ L.filter isCode, P c = true) : L.all P = true := by
  refine List.all_eq_true.mpr fun c hc => ?_
  have h := List.all_eq_true.mp h1 c hc
  rcases Bool.eq_false_or_eq_true (isCode c) with hi | hi
  · exact h2 c (List.mem_filter.mpr ⟨hc, hi⟩)
  · simpa [hi] using h
set_option maxRecDepth 65536 in
theorem w_c0 : (Jvm.Cond.code x code maxLocals ret).before args0 about1 = true := code_word (m := ⟨1, 1⟩) (meth := k1m1) (c := k1c1) (by decide +kernel) rfl rfl rfl (by decide +kernel)
set_option maxRecDepth 65536 in
theorem w_c1 : (Jvm.Cond.code ({ cls := "com/example/refill/refill/bucket/Decision", name := "allowed", desc := "(J)Lcom/example/refill/refill/bucket/Decision;" } : Jvm.MethodName) prog_2_method_2_code (2 : Nat) (Option.some (Jvm.ClassFile.FieldType.object "com/example/refill/refill/bucket/Decision"))).before args0 about1 = true := code_word (m := ⟨2, 1⟩) (meth := k2m1) (c := k2c1) (by decide +kernel) rfl rfl rfl (by decide +kernel)
set_option maxRecDepth 65536 in
theorem w_c2 : (Jvm.Cond.code ({ cls := "com/example/refill/refill/bucket/Decision", name := "<init>", desc := "(ZJLjava/time/Duration;Z)V" } : Jvm.MethodName) prog_2_method_1_code (6 : Nat) (Option.none : Option Jvm.ClassFile.FieldType)).before args0 about1 = true := code_word (m := ⟨2, 0⟩) (meth := k2m0) (c := k2c0) (by decide +kernel) rfl rfl rfl (by decide +kernel)
set_option maxRecDepth 65536 in
theorem w_c3 : (Jvm.Cond.code ({ cls := "java/lang/Object", name := "<init>", desc := "()V" } : Jvm.MethodName) object_method_1_code (1 : Nat) (Option.none : Option Jvm.ClassFile.FieldType)).before args0 about1 = true := code_word (m := ⟨0, 0⟩) (meth := k0m0) (c := k0c0) (by decide +kernel) rfl rfl rfl (by decide +kernel)
set_option maxRecDepth 65536 in
theorem w_c4 : (Jvm.Cond.code ({ cls := "com/example/refill/refill/bucket/Decision", name := "fallback", desc := "(Z)Lcom/example/refill/refill/bucket/Decision;" } : Jvm.MethodName) prog_2_method_4_code (1 : Nat) (Option.some (Jvm.ClassFile.FieldType.object "com/example/refill/refill/bucket/Decision"))).before args0 about1 = true := code_word (m := ⟨2, 2⟩) (meth := k2m2) (c := k2c2) (by decide +kernel) rfl rfl rfl (by decide +kernel)
set_option maxRecDepth 65536 in
theorem w_c5 : (Jvm.Cond.code ({ cls := "com/example/refill/refill/bucket/Decision", name := "isAllowed", desc := "()Z" } : Jvm.MethodName) prog_2_method_5_code (1 : Nat) (Option.some Jvm.ClassFile.FieldType.boolean)).before args0 about1 = true := code_word (m := ⟨2, 3⟩) (meth := k2m3) (c := k2c3) (by decide +kernel) rfl rfl rfl (by decide +kernel)
set_option maxRecDepth 65536 in
theorem w_c6 : (Jvm.Cond.code ({ cls := "com/example/refill/refill/bucket/Decision", name := "getRemaining", desc := "()J" } : Jvm.MethodName) prog_2_method_6_code (1 : Nat) (Option.some Jvm.ClassFile.FieldType.long)).before args0 about1 = true := code_word (m := ⟨2, 4⟩) (meth := k2m4) (c := k2c4) (by decide +kernel) rfl rfl rfl (by decide +kernel)
set_option maxRecDepth 65536 in
theorem w_c7 : (Jvm.Cond.code ({ cls := "com/example/refill/refill/bucket/Decision", name := "isFallback", desc := "()Z" } : Jvm.MethodName) prog_2_method_8_code (1 : Nat) (Option.some Jvm.ClassFile.FieldType.boolean)).before args0 about1 = true := code_word (m := ⟨2, 6⟩) (meth := k2m6) (c := k2c6) (by decide +kernel) rfl rfl rfl (by decide +kernel)
set_option maxRecDepth 65536 in
theorem w_c8 : (Jvm.Cond.code ({ cls := "com/example/refill/refill/bucket/Decision", name := "getRetryAfter", desc := "()Ljava/time/Duration;" } : Jvm.MethodName) prog_2_method_7_code (1 : Nat) (Option.some (Jvm.ClassFile.FieldType.object "java/time/Duration"))).before args0 about1 = true := code_word (m := ⟨2, 5⟩) (meth := k2m5) (c := k2c5) (by decide +kernel) rfl rfl rfl (by decide +kernel)
set_option maxRecDepth 65536 in
theorem w_c9 : (Jvm.Cond.code ({ cls := "java/time/Duration", name := "equals", desc := "(Ljava/lang/Object;)Z" } : Jvm.MethodName) jdk_2316_method_67_code (3 : Nat) (Option.some Jvm.ClassFile.FieldType.boolean)).before args0 about1 = true := code_word (m := ⟨6, 0⟩) (meth := k6m0) (c := k6c0) (by decide +kernel) rfl rfl rfl (by decide +kernel)
set_option maxRecDepth 65536 in
theorem w_c10 : (Jvm.Cond.code ({ cls := "com/example/refill/refill/bucket/Decision", name := "equals", desc := "(Ljava/lang/Object;)Z" } : Jvm.MethodName) prog_2_method_9_code (3 : Nat) (Option.some Jvm.ClassFile.FieldType.boolean)).before args0 about1 = true := code_word (m := ⟨2, 7⟩) (meth := k2m7) (c := k2c7) (by decide +kernel) rfl rfl rfl (by decide +kernel)
def codes1 : List Jvm.Cond := [Jvm.Cond.code x code maxLocals ret, Jvm.Cond.code ({ cls := "com/example/refill/refill/bucket/Decision", name := "allowed", desc := "(J)Lcom/example/refill/refill/bucket/Decision;" } : Jvm.MethodName) prog_2_method_2_code (2 : Nat) (Option.some (Jvm.ClassFile.FieldType.object "com/example/refill/refill/bucket/Decision")), Jvm.Cond.code ({ cls := "com/example/refill/refill/bucket/Decision", name := "<init>", desc := "(ZJLjava/time/Duration;Z)V" } : Jvm.MethodName) prog_2_method_1_code (6 : Nat) (Option.none : Option Jvm.ClassFile.FieldType), Jvm.Cond.code ({ cls := "java/lang/Object", name := "<init>", desc := "()V" } : Jvm.MethodName) object_method_1_code (1 : Nat) (Option.none : Option Jvm.ClassFile.FieldType), Jvm.Cond.code ({ cls := "com/example/refill/refill/bucket/Decision", name := "fallback", desc := "(Z)Lcom/example/refill/refill/bucket/Decision;" } : Jvm.MethodName) prog_2_method_4_code (1 : Nat) (Option.some (Jvm.ClassFile.FieldType.object "com/example/refill/refill/bucket/Decision")), Jvm.Cond.code ({ cls := "com/example/refill/refill/bucket/Decision", name := "isAllowed", desc := "()Z" } : Jvm.MethodName) prog_2_method_5_code (1 : Nat) (Option.some Jvm.ClassFile.FieldType.boolean), Jvm.Cond.code ({ cls := "com/example/refill/refill/bucket/Decision", name := "getRemaining", desc := "()J" } : Jvm.MethodName) prog_2_method_6_code (1 : Nat) (Option.some Jvm.ClassFile.FieldType.long), Jvm.Cond.code ({ cls := "com/example/refill/refill/bucket/Decision", name := "isFallback", desc := "()Z" } : Jvm.MethodName) prog_2_method_8_code (1 : Nat) (Option.some Jvm.ClassFile.FieldType.boolean), Jvm.Cond.code ({ cls := "com/example/refill/refill/bucket/Decision", name := "getRetryAfter", desc := "()Ljava/time/Duration;" } : Jvm.MethodName) prog_2_method_7_code (1 : Nat) (Option.some (Jvm.ClassFile.FieldType.object "java/time/Duration")), Jvm.Cond.code ({ cls := "java/time/Duration", name := "equals", desc := "(Ljava/lang/Object;)Z" } : Jvm.MethodName) jdk_2316_method_67_code (3 : Nat) (Option.some Jvm.ClassFile.FieldType.boolean), Jvm.Cond.code ({ cls := "com/example/refill/refill/bucket/Decision", name := "equals", desc := "(Ljava/lang/Object;)Z" } : Jvm.MethodName) prog_2_method_9_code (3 : Nat) (Option.some Jvm.ClassFile.FieldType.boolean)]
set_option maxRecDepth 65536 in
theorem codes_eq : words1.filter isCode = codes1 := rfl
theorem w_codes : ∀ c ∈ words1.filter isCode, c.before args0 about1 = true := by
  rw [codes_eq]
  intro c hc
  simp only [codes1, List.mem_cons, List.not_mem_nil, or_false] at hc
  rcases hc with rfl | rfl | rfl | rfl | rfl | rfl | rfl | rfl | rfl | rfl | rfl
  · exact w_c0
  · exact w_c1
  · exact w_c2
  · exact w_c3
  · exact w_c4
  · exact w_c5
  · exact w_c6
  · exact w_c7
  · exact w_c8
  · exact w_c9
  · exact w_c10
set_option maxRecDepth 65536 in
theorem w_t1 : (words1.take 24).all (fun c => isCode c || c.before args0 about1) = true := by decide +kernel
set_option maxRecDepth 65536 in
theorem w_t2 : ((words1.drop 24).take 24).all (fun c => isCode c || c.before args0 about1) = true := by decide +kernel
set_option maxRecDepth 65536 in
theorem w_t3 : ((words1.drop 24).drop 24).all (fun c => isCode c || c.before args0 about1) = true := by decide +kernel
theorem w_tables : (allAtoms (Jvm.Cond.code x code maxLocals ret :: tables_1)).before args0 about1 = true := by
  rw [allAtoms_all]
  show words1.all (fun c => c.before args0 about1) = true
  refine all_split ?_ w_codes
  rw [← List.take_append_drop 24 words1, List.all_append, w_t1, ← List.take_append_drop 24 (words1.drop 24), List.all_append, w_t2, w_t3]
  rfl
set_option maxRecDepth 65536 in
theorem w_rest : rest_1_c.before args0 about1 = true := by decide +kernel
set_option maxRecDepth 65536 in
theorem w_case : (Jvm.Cond.and given_1 narrow_1).before args0 about1 = true := by decide +kernel
theorem w_applies : (headSpec (Jvm.Cond.code x code maxLocals ret :: tables_1) room_1).applies x e0.platform about1 = true :=
  (Spec.applies_iff w_frames).mpr ⟨w_running, w_runnable, w_alone, w_named, w_hears, w_ripe, w_room, w_tables⟩
theorem atStart : AtStart classFile x code maxLocals ret World_1 tables_1 room_1 Calls_1 rest_1 Pre_1 launch0 p0 e0 about1 theMethod args0 below0 :=
  ⟨lists_1, trivial, launch0.admits_env _ _ _, launch0.least_env, fairChoices_fair.cas, fairChoices_fair.clock, w_frames, w_args, w_heap, w_applies, trivial, w_rest, w_case⟩
end start1
theorem witness_1 : WitnessClaimed_1 := ⟨start1.p0, start1.e0, start1.about1, start1.theMethod, start1.args0, start1.below0, start1.atStart⟩
end Jvm.Pilot.@@N@@
