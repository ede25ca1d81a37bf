import JvmDerived
import JvmDerived.Pilot.@@N@@Statement
import JvmDerived.Pilot.@@N@@Code
set_option linter.unusedVariables false
set_option linter.unusedSimpArgs false
namespace Jvm.Pilot.@@N@@
open Jvm Jvm.ClassFile Sem Op Lib Jvm.Free Jvm.Stand Jvm.LawKit Jvm.RoadKit Bundle Jvm.Pilot.@@N@@.Jvm.D
section Own
variable {p : Program} {l : Launch} {e : Env} {R : Room} {s : State} {m : MethodId} {args : Array Value} {below : List Frame} {meth : Method} {c : Code} {T : State} {locs : List Loc} {cells slots : Nat} {Z : State} {a0 : Array Value} {h h' : Heap} {Q : Option Value → Heap → List Loc → Prop} {C N : Nat}
/-- the run from F comes to the method's end, and Q holds of what it returns, of the heap and of the slots written -/
def own_Go (p : Program) (e : Env) (below : List Frame) (s : State) (Q : Option Value → Heap → List Loc → Prop) (C N : Nat) (F : State) : Prop :=
  ∃ s₂ o, Steps p.tables e below F s₂ ∧ s₂.status = .running ∧ Ended s₂ below o ∧ ∃ v L, o = .returned v ∧ Q v s₂.heap L ∧ FrameEnd s o s₂ L C N
theorem own_via {F F' : State} (k : ∀ t, Steps p.tables e below F' t → Steps p.tables e below F t) (h : own_Go p e below s Q C N F') : own_Go p e below s Q C N F := by
  obtain ⟨s₂, o, h1, r⟩ := h
  exact ⟨s₂, o, k _ h1, r⟩
/-- a method's contract: from the arguments as' and the heap h0 it returns, and Q holds -/
def own_Con (l : Launch) (Z : State) (y : MethodName) (bytes : ByteArray) (maxL : Nat) (ret : Option FieldType) (rm : Room) (as' : Array Value) (h0 : Heap) (Q : Option Value → Heap → List Loc → Prop) : Prop :=
  ∀ ws : List Jvm.Cond, MetFree l y (head1 (Jvm.Cond.code y bytes maxL ret :: ws) rm) (fun a U => a = as' ∧ Z.Warmed39 U.vm ∧ U.heap = h0) (fun _ _ _ _ _ => True) (fun _ U o U' => ∃ v L, o = .returned v ∧ Q v U'.heap L ∧ FrameEnd U o U' L rm.cells rm.slots)
theorem own_con {y : MethodName} {bytes : ByteArray} {maxL : Nat} {ret : Option FieldType} {rm : Room} {as' : Array Value} {h0 : Heap} (hp : plainName y.cls = true)
    (body : ∀ (p : Program) (e : Env) (s : State) (m : MethodId) (below : List Frame) (meth : Method) (c : Code) (T : State), p.tables.exec = Jvm.exec → c.code = bytes → c.maxLocals = maxL → Z.Warmed39 s.vm → s.vm.findClass y.cls = some m.cls → meth.name = y.name → meth.sig.returnType = ret → meth.locks = false →
      Stand p l e rm s m as' below meth c T [] 0 0 → T.heap = h0 → s.heap = h0 → own_Go p e below s Q rm.cells rm.slots (T.setTop (entryFrame m as' maxL))) : own_Con l Z y bytes maxL ret rm as' h0 Q := by
  intro ws
  refine MetFree.of_bodySF (plainFor_of_name hp) hisR ?_
  intro p e s m args below meth c s₁ Bd hml0 hP hK
  obtain ⟨ha, hZ, hh⟩ := hP
  subst ha
  exact body p e s m below meth c s₁ Bd.exec Bd.bytes hml0 hZ (findClass_of_methodNamed Bd.named) (name_of_methodNamed Bd.named Bd.method).1 Bd.returns Bd.notSynchronized (Stand.of_body Bd) (by rw [← hh, Bd.state]; rfl) hh
theorem own_leave (X : Stand p l e R s m args below meth c T locs cells slots) {F : JFrame} {v : Option Value} (hv : meth.sig.returnType = none → v = none) (hlk : meth.locks = false)
    (k : ∀ fs, (∀ (f : JFrame) (acts : List Action), f.method = m → f.locked = none → f.entered = [] → (doReturn e (T.setTop f) acts v).1 = T.setFrames fs) → Steps p.tables e below (T.setTop F) (T.setFrames fs))
    (hQ : Q v T.heap locs) (hc : cells ≤ C) (hn : slots ≤ N) : own_Go p e below s Q C N (T.setTop F) := by
  obtain ⟨fs, hr, hrun, hended, hW, hsame⟩ := X.leave (v := v) hv hlk
  exact ⟨_, _, k fs hr, hrun, hended, v, locs, rfl, hQ, ⟨v, rfl⟩, hW, hsame.mono hc hn⟩
theorem own_ret0 (X : Stand p l e R s m args below meth c T locs cells slots) (hx : p.tables.exec = Jvm.exec) {pc : Nat} {Ls : Array Slot} (hret : meth.sig.returnType = none) (hlk : meth.locks = false) (hd : decode c.code pc = .ok (.return_, 1))
    (hQ : Q none T.heap locs) (hc : cells ≤ C) (hn : slots ≤ N) : own_Go p e below s Q C N (T.setTop (mkF m pc Ls [])) :=
  own_leave X (fun _ => rfl) hlk (fun fs hr => X.returnOut hx hret hd hr) hQ hc hn
theorem own_retZ (X : Stand p l e R s m args below meth c T locs cells slots) (hx : p.tables.exec = Jvm.exec) {pc : Nat} {Ls : Array Slot} {z : Int32} {rest : List Value} (hret : meth.sig.returnType = some .boolean) (hlk : meth.locks = false) (hd : decode c.code pc = .ok (.ireturn, 1))
    (hQ : Q (some (.int (nar .boolean z))) T.heap locs) (hc : cells ≤ C) (hn : slots ≤ N) : own_Go p e below s Q C N (T.setTop (mkF m pc Ls (.int z :: rest))) :=
  own_leave X (fun h => by rw [hret] at h; cases h) hlk (fun fs hr => retN X hx (t := .boolean) hret (by simp) hd hr) hQ hc hn
theorem own_retI (X : Stand p l e R s m args below meth c T locs cells slots) (hx : p.tables.exec = Jvm.exec) {pc : Nat} {Ls : Array Slot} {z : Int32} {rest : List Value} (hret : meth.sig.returnType = some .int) (hlk : meth.locks = false) (hd : decode c.code pc = .ok (.ireturn, 1))
    (hQ : Q (some (.int z)) T.heap locs) (hc : cells ≤ C) (hn : slots ≤ N) : own_Go p e below s Q C N (T.setTop (mkF m pc Ls (.int z :: rest))) :=
  own_leave X (fun h => by rw [hret] at h; cases h) hlk (fun fs hr => retOut X hx (t := .int) hret rfl (Or.inl ⟨rfl, Or.inl rfl, z, rfl⟩) hd hr) hQ hc hn
theorem own_retJ (X : Stand p l e R s m args below meth c T locs cells slots) (hx : p.tables.exec = Jvm.exec) {pc : Nat} {Ls : Array Slot} {z : Int64} {rest : List Value} (hret : meth.sig.returnType = some .long) (hlk : meth.locks = false) (hd : decode c.code pc = .ok (.lreturn, 1))
    (hQ : Q (some (.long z)) T.heap locs) (hc : cells ≤ C) (hn : slots ≤ N) : own_Go p e below s Q C N (T.setTop (mkF m pc Ls (.long z :: rest))) :=
  own_leave X (fun h => by rw [hret] at h; cases h) hlk (fun fs hr => retOut X hx (t := .long) hret rfl (Or.inr (Or.inl ⟨rfl, rfl, z, rfl⟩)) hd hr) hQ hc hn
theorem own_retA (X : Stand p l e R s m args below meth c T locs cells slots) (hx : p.tables.exec = Jvm.exec) {pc : Nat} {Ls : Array Slot} {w : Value} {t : FieldType} {rest : List Value} (hret : meth.sig.returnType = some t) (ht : t.isReference = true) (hw : w.isRef = true) (hlk : meth.locks = false) (hd : decode c.code pc = .ok (.areturn, 1))
    (hQ : Q (some w) T.heap locs) (hc : cells ≤ C) (hn : slots ≤ N) : own_Go p e below s Q C N (T.setTop (mkF m pc Ls (w :: rest))) :=
  own_leave X (fun h => by rw [hret] at h; cases h) hlk (fun fs hr => retOut X hx (t := t) hret (by rcases ref_cases hw with rfl | ⟨a, rfl⟩ <;> cases t <;> first | rfl | cases ht) (Or.inr (Or.inr (Or.inr (Or.inr ⟨rfl, ht, hw⟩)))) hd hr) hQ hc hn
section Calls
variable {y z : MethodName} {bytes : ByteArray} {maxL : Nat} {ret : Option FieldType} {rm : Room} {as' : Array Value} {Qc : Option Value → Heap → List Loc → Prop} {own : String} {index : Nat} {g : JFrame} {argsL rest : List Value}
theorem own_callS (X : Stand p l e R s m args below meth c T locs cells slots) (hx : p.tables.exec = Jvm.exec) (hZ : Z.Warmed39 s.vm) (K : own_Con l Z y bytes maxL ret rm as' h Qc) (hown : s.vm.findClass own = some m.cls)
    (w1 : (Jvm.Cond.methodLink own index y).before a0 Z = true) (w2 : (Jvm.Cond.static y).before a0 Z = true) (w3 : (Jvm.Cond.initialized y.cls).before a0 Z = true) (w4 : (Jvm.Cond.code y bytes maxL ret).before a0 Z = true)
    (hy : y.cls ≠ "java/lang/invoke/MethodHandle" ∧ y.cls ≠ "java/lang/invoke/VarHandle") (eT : T.heap = h) (hg : g.method = m) (hsize : g.locals.size = c.maxLocals) (has : argsL.toArray = as')
    (hlen : ∀ sig, parseMethodDescriptor y.desc = some sig → argsL.length = sig.parameters.length) (hst : g.stack = argsL.reverse ++ rest) (W : Nat) (hW : 2 * g.monitorRoom + (rest.map fun v => v.category).sum ≤ W) (hd : decode c.code g.pc = .ok (.invokestatic index, 3))
    (hf : rm.frames + 1 ≤ R.frames) (hl : W + (maxL + 11) + rm.locals ≤ R.locals) (hc : cells + rm.cells ≤ R.cells) (hs : slots + rm.slots ≤ R.slots)
    (k : ∀ (v : Option Value) (T' : State) (L : List Loc), Qc v T'.heap L → Stand p l e R s m args below meth c T' (locs ++ L) (cells + rm.cells) (slots + rm.slots) → own_Go p e below s Q C N (T'.setTop { g with pc := g.pc + 3, stack := v.toList ++ rest })) :
    own_Go p e below s Q C N (T.setTop g) := by
  obtain ⟨v, _, ⟨T', L', k', n'⟩, -, X', ⟨Lc, hQ, l', y', z'⟩, st⟩ := Jvm.LawKit.callS X hx (y := y) hown (mvT hZ w1) (mvT hZ w2) (mvT hZ w3) (mvT hZ w4) hy (backOf (W := W) (K []) hZ w4 w3 hf hl) (g := g) hg hsize (argsL := argsL) (rest := rest) hlen hst hW hd (fun _ _ => ⟨has, eT, hc, hs⟩)
  dsimp only [Pt.U, Pt.locs, Pt.cells, Pt.slots] at X' l' y' z' st hQ
  subst l' y' z'
  exact own_via st (k v T' Lc hQ X')
theorem own_callI (X : Stand p l e R s m args below meth c T locs cells slots) (hx : p.tables.exec = Jvm.exec) (hZ : Z.Warmed39 s.vm) (K : own_Con l Z y bytes maxL none rm as' h Qc) (hown : s.vm.findClass own = some m.cls) (hy1 : y.name = "<init>")
    (w1 : (Jvm.Cond.methodLink own index y).before a0 Z = true) (w2 : (Jvm.Cond.instanceMethod y).before a0 Z = true) (w3 : (Jvm.Cond.initialized y.cls).before a0 Z = true) (w4 : (Jvm.Cond.code y bytes maxL none).before a0 Z = true)
    (hy : y.cls ≠ "java/lang/invoke/MethodHandle" ∧ y.cls ≠ "java/lang/invoke/VarHandle") (eT : T.heap = h) (hg : g.method = m) (hsize : g.locals.size = c.maxLocals) {a : Addr} (has : (.ref a :: argsL).toArray = as')
    (hlen : ∀ sig, parseMethodDescriptor y.desc = some sig → argsL.length = sig.parameters.length) (hst : g.stack = argsL.reverse ++ .ref a :: rest) (W : Nat) (hW : 2 * g.monitorRoom + (rest.map fun v => v.category).sum ≤ W) (hd : decode c.code g.pc = .ok (.invokespecial index, 3))
    (hf : rm.frames + 1 ≤ R.frames) (hl : W + (maxL + 11) + rm.locals ≤ R.locals) (hc : cells + rm.cells ≤ R.cells) (hs : slots + rm.slots ≤ R.slots)
    (k : ∀ (v : Option Value) (T' : State) (L : List Loc), Qc v T'.heap L → Stand p l e R s m args below meth c T' (locs ++ L) (cells + rm.cells) (slots + rm.slots) → own_Go p e below s Q C N (T'.setTop { g with pc := g.pc + 3, stack := v.toList ++ rest })) :
    own_Go p e below s Q C N (T.setTop g) := by
  obtain ⟨v, _, ⟨T', L', k', n'⟩, -, X', ⟨Lc, hQ, l', y', z'⟩, st⟩ := X.specialBack hx (y := y) hy1 hown (mvT hZ w1) (mvT hZ w2) (mvT hZ w4) hy (backOf (W := W) (K []) hZ w4 w3 hf hl) (g := g) hg hsize (Steps.refl _) (a := a) (argsL := argsL) (rest := rest) hlen hst hW hd (fun _ _ => ⟨has, eT, hc, hs⟩)
  dsimp only [Pt.U, Pt.locs, Pt.cells, Pt.slots] at X' l' y' z' st hQ
  subst l' y' z'
  exact own_via (fun t q => st.trans q) (k v T' Lc hQ X')
theorem own_callV (X : Stand p l e R s m args below meth c T locs cells slots) (hx : p.tables.exec = Jvm.exec) (hZ : Z.Warmed39 s.vm) (K : own_Con l Z z bytes maxL ret rm as' h Qc) (hown : s.vm.findClass own = some m.cls) {CC : String} {a : Addr} (E : Exa Z h a CC)
    (w1 : (Jvm.Cond.methodLink own index y).before a0 Z = true) (w5 : (Jvm.Cond.declares y).before a0 Z = true) (w6 : (Jvm.Cond.selects CC y z).before a0 Z = true) (w2 : (Jvm.Cond.instanceMethod z).before a0 Z = true) (w3 : (Jvm.Cond.initialized z.cls).before a0 Z = true) (w4 : (Jvm.Cond.code z bytes maxL ret).before a0 Z = true)
    (nf : NotFace s y) (hy : y.cls ≠ "java/lang/invoke/MethodHandle" ∧ y.cls ≠ "java/lang/invoke/VarHandle") (eT : T.heap = h) (hg : g.method = m) (hsize : g.locals.size = c.maxLocals) (has : (.ref a :: argsL).toArray = as')
    (hlen : ∀ sig, parseMethodDescriptor y.desc = some sig → argsL.length = sig.parameters.length) (hst : g.stack = argsL.reverse ++ .ref a :: rest) (W : Nat) (hW : 2 * g.monitorRoom + (rest.map fun v => v.category).sum ≤ W) (hd : decode c.code g.pc = .ok (.invokevirtual index, 3))
    (hf : rm.frames + 1 ≤ R.frames) (hl : W + (maxL + 11) + rm.locals ≤ R.locals) (hc : cells + rm.cells ≤ R.cells) (hs : slots + rm.slots ≤ R.slots)
    (k : ∀ (v : Option Value) (T' : State) (L : List Loc), Qc v T'.heap L → Stand p l e R s m args below meth c T' (locs ++ L) (cells + rm.cells) (slots + rm.slots) → own_Go p e below s Q C N (T'.setTop { g with pc := g.pc + 3, stack := v.toList ++ rest })) :
    own_Go p e below s Q C N (T.setTop g) := by
  obtain ⟨cB, kB, q1, q2, q3⟩ := isOf hZ eT E
  obtain ⟨v, _, ⟨T', L', k', n'⟩, -, X', ⟨Lc, hQ, l', y', z'⟩, st⟩ := X.virtualBack hx (y := y) (z := z) hown (mvT hZ w1) (mvT hZ w5) nf (mvT hZ w6) (mvT hZ w2) hy (backOf (W := W) (K []) hZ w4 w3 hf hl) q1 q3 (g := g) hg hsize (Steps.refl _) (argsL := argsL) (rest := rest) hlen hst hW hd (fun _ _ => ⟨has, eT, hc, hs⟩)
  dsimp only [Pt.U, Pt.locs, Pt.cells, Pt.slots] at X' l' y' z' st hQ
  subst l' y' z'
  exact own_via (fun t q => st.trans q) (k v T' Lc hQ X')
end Calls
theorem own_eqi {t : Term} {n : Int32} (h : (Jvm.Cond.eq t (Term.int n)).value a0 Z none Z [] = some true) : t.eval a0 Z none [] Z = some (.int n) := by
  obtain ⟨x, y, e1, e2, k1, k2⟩ := cmp_v (Or.inl h)
  have e3 : y = .int n := (Option.some.inj e2).symm
  subst e3
  obtain ⟨w, rfl⟩ := k2
  have q : (Jvm.Cond.eq t (Term.int n)).value a0 Z none Z [] = some (decide (w = n)) := by simp [Jvm.Cond.value, e1, e2]
  rw [e1, gotT q h]
theorem own_fld {t : Term} {a : Addr} {CC f d : String} {v : Value} (ev : t.eval a0 Z none [] Z = some (.ref a)) (h : (Term.field t CC f d).eval a0 Z none [] Z = some v) : Fld Z Z.heap a CC f d v :=
  Fld.start ((fld_at ev).symm.trans h)
end Own
theorem own_pd0 : parseMethodDescriptor "(ZJLjava/time/Duration;Z)V" = some ⟨[.boolean, .long, (.object "java/time/Duration"), .boolean], none⟩ := by decide +kernel
theorem own_pd1 : parseMethodDescriptor "(Z)Lcom/example/refill/refill/bucket/Decision;" = some ⟨[.boolean], some (.object "com/example/refill/refill/bucket/Decision")⟩ := by decide +kernel
theorem own_pd2 : parseMethodDescriptor "(J)Lcom/example/refill/refill/bucket/Decision;" = some ⟨[.long], some (.object "com/example/refill/refill/bucket/Decision")⟩ := by decide +kernel
theorem own_pd3 : parseMethodDescriptor "()Z" = some ⟨[], some .boolean⟩ := by decide +kernel
theorem own_pd4 : parseMethodDescriptor "()J" = some ⟨[], some .long⟩ := by decide +kernel
theorem own_pd5 : parseMethodDescriptor "()Ljava/time/Duration;" = some ⟨[], some (.object "java/time/Duration")⟩ := by decide +kernel
theorem own_pd6 : parseMethodDescriptor "(Ljava/lang/Object;)Z" = some ⟨[(.object "java/lang/Object")], some .boolean⟩ := by decide +kernel
theorem own_pn : plainName "com/example/refill/refill/bucket/Decision" = true := by first | (simp [plainName, overriddenIn]; done) | decide +kernel
theorem own_pnL : plainName "com/example/refill/refill/bucket/DecisionFallbackPinLaw" = true := by first | (simp [plainName, overriddenIn]; done) | decide +kernel
theorem own_pnD : plainName "java/time/Duration" = true := by first | (simp [plainName, overriddenIn]; done) | decide +kernel
theorem d1_0 : decode prog_2_method_4_code 0 = .ok (.new 8, 3) := by decide +kernel
theorem d1_3 : decode prog_2_method_4_code 3 = .ok (.dup, 1) := by decide +kernel
theorem d1_4 : decode prog_2_method_4_code 4 = .ok (.iload_n 0, 1) := by decide +kernel
theorem d1_5 : decode prog_2_method_4_code 5 = .ok (.lconst 0, 1) := by decide +kernel
theorem d1_6 : decode prog_2_method_4_code 6 = .ok (.getstatic 24, 3) := by decide +kernel
theorem d1_9 : decode prog_2_method_4_code 9 = .ok (.iconst 1, 1) := by decide +kernel
theorem d1_10 : decode prog_2_method_4_code 10 = .ok (.invokespecial 29, 3) := by decide +kernel
theorem d1_13 : decode prog_2_method_4_code 13 = .ok (.areturn, 1) := by decide +kernel
theorem d2_0 : decode prog_2_method_1_code 0 = .ok (.aload_n 0, 1) := by decide +kernel
theorem d2_1 : decode prog_2_method_1_code 1 = .ok (.invokespecial 1, 3) := by decide +kernel
theorem d2_4 : decode prog_2_method_1_code 4 = .ok (.aload_n 0, 1) := by decide +kernel
theorem d2_5 : decode prog_2_method_1_code 5 = .ok (.iload_n 1, 1) := by decide +kernel
theorem d2_6 : decode prog_2_method_1_code 6 = .ok (.putfield 7, 3) := by decide +kernel
theorem d2_9 : decode prog_2_method_1_code 9 = .ok (.aload_n 0, 1) := by decide +kernel
theorem d2_10 : decode prog_2_method_1_code 10 = .ok (.lload_n 2, 1) := by decide +kernel
theorem d2_11 : decode prog_2_method_1_code 11 = .ok (.putfield 13, 3) := by decide +kernel
theorem d2_14 : decode prog_2_method_1_code 14 = .ok (.aload_n 0, 1) := by decide +kernel
theorem d2_15 : decode prog_2_method_1_code 15 = .ok (.aload 4, 2) := by decide +kernel
theorem d2_17 : decode prog_2_method_1_code 17 = .ok (.putfield 17, 3) := by decide +kernel
theorem d2_20 : decode prog_2_method_1_code 20 = .ok (.aload_n 0, 1) := by decide +kernel
theorem d2_21 : decode prog_2_method_1_code 21 = .ok (.iload 5, 2) := by decide +kernel
theorem d2_23 : decode prog_2_method_1_code 23 = .ok (.putfield 21, 3) := by decide +kernel
theorem d2_26 : decode prog_2_method_1_code 26 = .ok (.return_, 1) := by decide +kernel
theorem d4_0 : decode prog_2_method_2_code 0 = .ok (.new 8, 3) := by decide +kernel
theorem d4_3 : decode prog_2_method_2_code 3 = .ok (.dup, 1) := by decide +kernel
theorem d4_4 : decode prog_2_method_2_code 4 = .ok (.iconst 1, 1) := by decide +kernel
theorem d4_5 : decode prog_2_method_2_code 5 = .ok (.lload_n 0, 1) := by decide +kernel
theorem d4_6 : decode prog_2_method_2_code 6 = .ok (.getstatic 24, 3) := by decide +kernel
theorem d4_9 : decode prog_2_method_2_code 9 = .ok (.iconst 0, 1) := by decide +kernel
theorem d4_10 : decode prog_2_method_2_code 10 = .ok (.invokespecial 29, 3) := by decide +kernel
theorem d4_13 : decode prog_2_method_2_code 13 = .ok (.areturn, 1) := by decide +kernel
theorem d5_0 : decode prog_2_method_5_code 0 = .ok (.aload_n 0, 1) := by decide +kernel
theorem d5_1 : decode prog_2_method_5_code 1 = .ok (.getfield 7, 3) := by decide +kernel
theorem d5_4 : decode prog_2_method_5_code 4 = .ok (.ireturn, 1) := by decide +kernel
theorem d6_0 : decode prog_2_method_6_code 0 = .ok (.aload_n 0, 1) := by decide +kernel
theorem d6_1 : decode prog_2_method_6_code 1 = .ok (.getfield 13, 3) := by decide +kernel
theorem d6_4 : decode prog_2_method_6_code 4 = .ok (.lreturn, 1) := by decide +kernel
theorem d7_0 : decode prog_2_method_8_code 0 = .ok (.aload_n 0, 1) := by decide +kernel
theorem d7_1 : decode prog_2_method_8_code 1 = .ok (.getfield 21, 3) := by decide +kernel
theorem d7_4 : decode prog_2_method_8_code 4 = .ok (.ireturn, 1) := by decide +kernel
theorem d8_0 : decode prog_2_method_7_code 0 = .ok (.aload_n 0, 1) := by decide +kernel
theorem d8_1 : decode prog_2_method_7_code 1 = .ok (.getfield 17, 3) := by decide +kernel
theorem d8_4 : decode prog_2_method_7_code 4 = .ok (.areturn, 1) := by decide +kernel
theorem d9_0 : decode jdk_2316_method_67_code 0 = .ok (.aload_n 0, 1) := by decide +kernel
theorem d9_1 : decode jdk_2316_method_67_code 1 = .ok (.aload_n 1, 1) := by decide +kernel
theorem d9_2 : decode jdk_2316_method_67_code 2 = .ok (.if_acmp .ne 5, 3) := by decide +kernel
theorem d9_5 : decode jdk_2316_method_67_code 5 = .ok (.iconst 1, 1) := by decide +kernel
theorem d9_6 : decode jdk_2316_method_67_code 6 = .ok (.ireturn, 1) := by decide +kernel
theorem d9_7 : decode jdk_2316_method_67_code 7 = .ok (.aload_n 1, 1) := by decide +kernel
theorem d9_8 : decode jdk_2316_method_67_code 8 = .ok (.instanceof 11, 3) := by decide +kernel
theorem d9_11 : decode jdk_2316_method_67_code 11 = .ok (.ifCond .eq 35, 3) := by decide +kernel
theorem d9_14 : decode jdk_2316_method_67_code 14 = .ok (.aload_n 1, 1) := by decide +kernel
theorem d9_15 : decode jdk_2316_method_67_code 15 = .ok (.checkcast 11, 3) := by decide +kernel
theorem d9_18 : decode jdk_2316_method_67_code 18 = .ok (.astore_n 2, 1) := by decide +kernel
theorem d9_19 : decode jdk_2316_method_67_code 19 = .ok (.aload_n 0, 1) := by decide +kernel
theorem d9_20 : decode jdk_2316_method_67_code 20 = .ok (.getfield 221, 3) := by decide +kernel
theorem d9_23 : decode jdk_2316_method_67_code 23 = .ok (.aload_n 2, 1) := by decide +kernel
theorem d9_24 : decode jdk_2316_method_67_code 24 = .ok (.getfield 221, 3) := by decide +kernel
theorem d9_27 : decode jdk_2316_method_67_code 27 = .ok (.lcmp, 1) := by decide +kernel
theorem d9_28 : decode jdk_2316_method_67_code 28 = .ok (.ifCond .ne 18, 3) := by decide +kernel
theorem d9_31 : decode jdk_2316_method_67_code 31 = .ok (.aload_n 0, 1) := by decide +kernel
theorem d9_32 : decode jdk_2316_method_67_code 32 = .ok (.getfield 224, 3) := by decide +kernel
theorem d9_35 : decode jdk_2316_method_67_code 35 = .ok (.aload_n 2, 1) := by decide +kernel
theorem d9_36 : decode jdk_2316_method_67_code 36 = .ok (.getfield 224, 3) := by decide +kernel
theorem d9_39 : decode jdk_2316_method_67_code 39 = .ok (.if_icmp .ne 7, 3) := by decide +kernel
theorem d9_42 : decode jdk_2316_method_67_code 42 = .ok (.iconst 1, 1) := by decide +kernel
theorem d9_43 : decode jdk_2316_method_67_code 43 = .ok (.goto 4, 3) := by decide +kernel
theorem d9_46 : decode jdk_2316_method_67_code 46 = .ok (.iconst 0, 1) := by decide +kernel
theorem d9_47 : decode jdk_2316_method_67_code 47 = .ok (.ireturn, 1) := by decide +kernel
theorem own_efi (m : MethodId) (x0 : Addr) (x1 : Int32) (x2 : Int64) (x3 : Addr) (x4 : Int32) : entryFrame m #[(.ref x0), (.int x1), (.long x2), (.ref x3), (.int x4)] 6 = mkF m 0 #[.val (.ref x0), .val (.int x1), .val (.long x2), .second, .val (.ref x3), .val (.int x4)] [] := by first | (simp [entryFrame, mkF, argsToLocals, Value.category]; done) | rfl
set_option maxRecDepth 65536 in
set_option maxHeartbeats 40000000 in
theorem own_kd (l : Launch) (Z : State) (az : Array Value) (hw : ∀ d ∈ tables_1, d.before az Z = true) (a : Addr) (z1 : Int32) (r : Int64) (d : Addr) (z2 : Int32) (h0 : Heap) (n0 : Nat) (hz1 : narrow .boolean (.int z1) = .int z1) (fz1 : fits .boolean (.int z1) = true) (hz2 : narrow .boolean (.int z2) = .int z2) (fz2 : fits .boolean (.int z2) = true) (E0 : Exa Z h0 a "com/example/refill/refill/bucket/Decision") (F1 : Fld Z h0 a "com/example/refill/refill/bucket/Decision" "allowed" "Z" (.int (0 : Int32))) (F2 : Fld Z h0 a "com/example/refill/refill/bucket/Decision" "remaining" "J" (.long (0 : Int64))) (F3 : Fld Z h0 a "com/example/refill/refill/bucket/Decision" "retryAfter" "Ljava/time/Duration;" .null) (F4 : Fld Z h0 a "com/example/refill/refill/bucket/Decision" "fallback" "Z" (.int (0 : Int32))) (G0 : n0 ≤ a) :
    own_Con l Z (⟨"com/example/refill/refill/bucket/Decision", "<init>", "(ZJLjava/time/Duration;Z)V"⟩ : MethodName) prog_2_method_1_code 6 none ({ frames := 1, cells := 0, slots := 0, locals := 12 } : Room) #[(.ref a), (.int z1), (.long r), (.ref d), (.int z2)] h0 (fun v h L => v = none ∧ Fr n0 L ∧ Keep h0 h [a] ∧ Exa Z h a "com/example/refill/refill/bucket/Decision" ∧ Fld Z h a "com/example/refill/refill/bucket/Decision" "allowed" "Z" (.int z1) ∧ Fld Z h a "com/example/refill/refill/bucket/Decision" "remaining" "J" (.long r) ∧ Fld Z h a "com/example/refill/refill/bucket/Decision" "retryAfter" "Ljava/time/Duration;" (.ref d) ∧ Fld Z h a "com/example/refill/refill/bucket/Decision" "fallback" "Z" (.int z2)) := by
  refine own_con own_pn ?_
  intro p e s m below meth c T0 hx hby hml hZ hown hnm hret hlk X0 e0 eh
  refine own_via (F' := T0.setTop (mkF m 0 #[.val (.ref a), .val (.int z1), .val (.long r), .second, .val (.ref d), .val (.int z2)] [])) (fun t k => castTop (own_efi m a z1 r d z2) k) ?_
  refine own_via (F' := T0.setTop (mkF m 1 #[.val (.ref a), .val (.int z1), .val (.long r), .second, .val (.ref d), .val (.int z2)] [(.ref a)])) (fun t k => XS.aloadN X0.here hx rfl (hb hby d2_0) rfl rfl k) ?_
  obtain ⟨T11, X11, e11, s11⟩ := initO X0 hx hZ hown (hw _ (List.mem_of_getElem? (i := 11) rfl)) (hw _ (List.mem_of_getElem? (i := 12) rfl)) (hw _ (List.mem_of_getElem? (i := 13) rfl)) e0 (g := (mkF m 1 #[.val (.ref a), .val (.int z1), .val (.long r), .second, .val (.ref d), .val (.int z2)] [(.ref a)])) rfl (by rw [hml]; rfl) rfl (hb hby d2_1) (by decide) (W := 0) (by show 2 * 0 + _ ≤ _; exact Nat.le_of_eq rfl) (by decide)
  refine own_via (F' := T11.setTop (mkF m 4 #[.val (.ref a), .val (.int z1), .val (.long r), .second, .val (.ref d), .val (.int z2)] [])) s11 ?_
  refine own_via (F' := T11.setTop (mkF m 5 #[.val (.ref a), .val (.int z1), .val (.long r), .second, .val (.ref d), .val (.int z2)] [(.ref a)])) (fun t k => XS.aloadN X11.here hx rfl (hb hby d2_4) rfl rfl k) ?_
  refine own_via (F' := T11.setTop (mkF m 6 #[.val (.ref a), .val (.int z1), .val (.long r), .second, .val (.ref d), .val (.int z2)] [(.int z1), (.ref a)])) (fun t k => XS.iloadN X11.here hx rfl (hb hby d2_5) rfl k) ?_
  obtain ⟨T12, h12, X12, e12, W12, s12⟩ := putF X11 hx hZ hown (host := "") (Or.inl (hw _ (List.mem_of_getElem? (i := 14) rfl))) Via.refl e11 F1 E0 (Or.inr ⟨(hw _ (List.mem_of_getElem? (i := 15) rfl)), rfl, hnm⟩) (hw _ (List.mem_of_getElem? (i := 5) rfl)) (ty := .boolean) (by decide) hz1 fz1 (g := (mkF m 6 #[.val (.ref a), .val (.int z1), .val (.long r), .second, .val (.ref d), .val (.int z2)] [(.int z1), (.ref a)])) rfl rfl (hb hby d2_6)
  have F12 := F1.same W12
  have N12 := Fr.snoc X12 (Fr.nil n0) G0
  refine own_via (F' := T12.setTop (mkF m 9 #[.val (.ref a), .val (.int z1), .val (.long r), .second, .val (.ref d), .val (.int z2)] [])) s12 ?_
  refine own_via (F' := T12.setTop (mkF m 10 #[.val (.ref a), .val (.int z1), .val (.long r), .second, .val (.ref d), .val (.int z2)] [(.ref a)])) (fun t k => XS.aloadN X12.here hx rfl (hb hby d2_9) rfl rfl k) ?_
  refine own_via (F' := T12.setTop (mkF m 11 #[.val (.ref a), .val (.int z1), .val (.long r), .second, .val (.ref d), .val (.int z2)] [(.long r), (.ref a)])) (fun t k => XT.lloadN X12.here hx rfl (hb hby d2_10) rfl k) ?_
  have f13 := (F2.other W12 (Or.inr (slot_ne (Or.inr (hw _ (List.mem_of_getElem? (i := 17) rfl))) (Or.inr (hw _ (List.mem_of_getElem? (i := 15) rfl))) (by decide) (t := .long) (t' := .boolean) (by decide) (by decide))))
  have f14 := (E0.wr W12)
  obtain ⟨T15, h15, X15, e15, W15, s15⟩ := putF X12 hx hZ hown (host := "") (Or.inl (hw _ (List.mem_of_getElem? (i := 16) rfl))) Via.refl e12 f13 f14 (Or.inr ⟨(hw _ (List.mem_of_getElem? (i := 17) rfl)), rfl, hnm⟩) (hw _ (List.mem_of_getElem? (i := 5) rfl)) (ty := .long) (by decide) rfl rfl (g := (mkF m 11 #[.val (.ref a), .val (.int z1), .val (.long r), .second, .val (.ref d), .val (.int z2)] [(.long r), (.ref a)])) rfl rfl (hb hby d2_11)
  have F15 := f13.same W15
  have N15 := Fr.snoc X15 N12 G0
  refine own_via (F' := T15.setTop (mkF m 14 #[.val (.ref a), .val (.int z1), .val (.long r), .second, .val (.ref d), .val (.int z2)] [])) s15 ?_
  refine own_via (F' := T15.setTop (mkF m 15 #[.val (.ref a), .val (.int z1), .val (.long r), .second, .val (.ref d), .val (.int z2)] [(.ref a)])) (fun t k => XS.aloadN X15.here hx rfl (hb hby d2_14) rfl rfl k) ?_
  refine own_via (F' := T15.setTop (mkF m 17 #[.val (.ref a), .val (.int z1), .val (.long r), .second, .val (.ref d), .val (.int z2)] [(.ref d), (.ref a)])) (fun t k => XS.aload X15.here hx rfl (hb hby d2_15) rfl rfl k) ?_
  have f16 := ((F3.other W12 (Or.inr (slot_ne (Or.inr (hw _ (List.mem_of_getElem? (i := 19) rfl))) (Or.inr (hw _ (List.mem_of_getElem? (i := 15) rfl))) (by decide) (t := (.object "java/time/Duration")) (t' := .boolean) (by decide) (by decide)))).other W15 (Or.inr (slot_ne (Or.inr (hw _ (List.mem_of_getElem? (i := 19) rfl))) (Or.inr (hw _ (List.mem_of_getElem? (i := 17) rfl))) (by decide) (t := (.object "java/time/Duration")) (t' := .long) (by decide) (by decide))))
  have f17 := (f14.wr W15)
  obtain ⟨T18, h18, X18, e18, W18, s18⟩ := putF X15 hx hZ hown (host := "") (Or.inl (hw _ (List.mem_of_getElem? (i := 18) rfl))) Via.refl e15 f16 f17 (Or.inr ⟨(hw _ (List.mem_of_getElem? (i := 19) rfl)), rfl, hnm⟩) (hw _ (List.mem_of_getElem? (i := 5) rfl)) (ty := .object "java/time/Duration") (by decide) rfl rfl (g := (mkF m 17 #[.val (.ref a), .val (.int z1), .val (.long r), .second, .val (.ref d), .val (.int z2)] [(.ref d), (.ref a)])) rfl rfl (hb hby d2_17)
  have F18 := f16.same W18
  have N18 := Fr.snoc X18 N15 G0
  refine own_via (F' := T18.setTop (mkF m 20 #[.val (.ref a), .val (.int z1), .val (.long r), .second, .val (.ref d), .val (.int z2)] [])) s18 ?_
  refine own_via (F' := T18.setTop (mkF m 21 #[.val (.ref a), .val (.int z1), .val (.long r), .second, .val (.ref d), .val (.int z2)] [(.ref a)])) (fun t k => XS.aloadN X18.here hx rfl (hb hby d2_20) rfl rfl k) ?_
  refine own_via (F' := T18.setTop (mkF m 23 #[.val (.ref a), .val (.int z1), .val (.long r), .second, .val (.ref d), .val (.int z2)] [(.int z2), (.ref a)])) (fun t k => XS.iload X18.here hx rfl (hb hby d2_21) rfl k) ?_
  have f19 := (((F4.other W12 (Or.inr (slot_ne (Or.inr (hw _ (List.mem_of_getElem? (i := 21) rfl))) (Or.inr (hw _ (List.mem_of_getElem? (i := 15) rfl))) (by decide) (t := .boolean) (t' := .boolean) (by decide) (by decide)))).other W15 (Or.inr (slot_ne (Or.inr (hw _ (List.mem_of_getElem? (i := 21) rfl))) (Or.inr (hw _ (List.mem_of_getElem? (i := 17) rfl))) (by decide) (t := .boolean) (t' := .long) (by decide) (by decide)))).other W18 (Or.inr (slot_ne (Or.inr (hw _ (List.mem_of_getElem? (i := 21) rfl))) (Or.inr (hw _ (List.mem_of_getElem? (i := 19) rfl))) (by decide) (t := .boolean) (t' := (.object "java/time/Duration")) (by decide) (by decide))))
  have f20 := (f17.wr W18)
  obtain ⟨T21, h21, X21, e21, W21, s21⟩ := putF X18 hx hZ hown (host := "") (Or.inl (hw _ (List.mem_of_getElem? (i := 20) rfl))) Via.refl e18 f19 f20 (Or.inr ⟨(hw _ (List.mem_of_getElem? (i := 21) rfl)), rfl, hnm⟩) (hw _ (List.mem_of_getElem? (i := 5) rfl)) (ty := .boolean) (by decide) hz2 fz2 (g := (mkF m 23 #[.val (.ref a), .val (.int z1), .val (.long r), .second, .val (.ref d), .val (.int z2)] [(.int z2), (.ref a)])) rfl rfl (hb hby d2_23)
  have F21 := f19.same W21
  have N21 := Fr.snoc X21 N18 G0
  refine own_via (F' := T21.setTop (mkF m 26 #[.val (.ref a), .val (.int z1), .val (.long r), .second, .val (.ref d), .val (.int z2)] [])) s21 ?_
  have f22 := (f20.wr W21)
  have f23 := (((F12.other W15 (Or.inr (slot_ne (Or.inr (hw _ (List.mem_of_getElem? (i := 15) rfl))) (Or.inr (hw _ (List.mem_of_getElem? (i := 17) rfl))) (by decide) (t := .boolean) (t' := .long) (by decide) (by decide)))).other W18 (Or.inr (slot_ne (Or.inr (hw _ (List.mem_of_getElem? (i := 15) rfl))) (Or.inr (hw _ (List.mem_of_getElem? (i := 19) rfl))) (by decide) (t := .boolean) (t' := (.object "java/time/Duration")) (by decide) (by decide)))).other W21 (Or.inr (slot_ne (Or.inr (hw _ (List.mem_of_getElem? (i := 15) rfl))) (Or.inr (hw _ (List.mem_of_getElem? (i := 21) rfl))) (by decide) (t := .boolean) (t' := .boolean) (by decide) (by decide))))
  have f24 := ((F15.other W18 (Or.inr (slot_ne (Or.inr (hw _ (List.mem_of_getElem? (i := 17) rfl))) (Or.inr (hw _ (List.mem_of_getElem? (i := 19) rfl))) (by decide) (t := .long) (t' := (.object "java/time/Duration")) (by decide) (by decide)))).other W21 (Or.inr (slot_ne (Or.inr (hw _ (List.mem_of_getElem? (i := 17) rfl))) (Or.inr (hw _ (List.mem_of_getElem? (i := 21) rfl))) (by decide) (t := .long) (t' := .boolean) (by decide) (by decide))))
  have f25 := (F18.other W21 (Or.inr (slot_ne (Or.inr (hw _ (List.mem_of_getElem? (i := 19) rfl))) (Or.inr (hw _ (List.mem_of_getElem? (i := 21) rfl))) (by decide) (t := (.object "java/time/Duration")) (t' := .boolean) (by decide) (by decide))))
  exact own_ret0 X21 hx hret hlk (hb hby d2_26) (by rw [e21]; exact ⟨rfl, N21, (((((Keep.refl h0 [a]).wr W12 (Or.inl (List.mem_of_getElem? (i := 0) rfl))).wr W15 (Or.inl (List.mem_of_getElem? (i := 0) rfl))).wr W18 (Or.inl (List.mem_of_getElem? (i := 0) rfl))).wr W21 (Or.inl (List.mem_of_getElem? (i := 0) rfl))), f22, f23, f24, f25, F21⟩) (Nat.le_refl _) (Nat.le_refl _)
theorem own_ef_ka (m : MethodId) (x0 : Int64) : entryFrame m #[(.long x0)] 2 = mkF m 0 #[.val (.long x0), .second] [] := by first | (simp [entryFrame, mkF, argsToLocals, Value.category]; done) | rfl
set_option maxRecDepth 65536 in
set_option maxHeartbeats 40000000 in
theorem own_ka (l : Launch) (Z : State) (az : Array Value) (hw : ∀ d ∈ tables_1, d.before az Z = true) (r : Int64) (h0 : Heap) (n0 : Nat) (O0 : Old Z n0 h0) (aZ : Addr) (SZ : Sta Z Z.heap "java/time/Duration" "ZERO" "Ljava/time/Duration;" (.ref aZ)) :
    own_Con l Z (⟨"com/example/refill/refill/bucket/Decision", "allowed", "(J)Lcom/example/refill/refill/bucket/Decision;"⟩ : MethodName) prog_2_method_2_code 2 (some (.object "com/example/refill/refill/bucket/Decision")) ({ frames := 2, cells := 1, slots := 4, locals := 30 } : Room) #[(.long r)] h0 (fun v h L => ∃ b, v = some (.ref b) ∧ Fr n0 L ∧ Keep h0 h [] ∧ h0.size ≤ b ∧ Exa Z h b "com/example/refill/refill/bucket/Decision" ∧ Fld Z h b "com/example/refill/refill/bucket/Decision" "allowed" "Z" (.int (1 : Int32)) ∧ Fld Z h b "com/example/refill/refill/bucket/Decision" "remaining" "J" (.long r) ∧ Fld Z h b "com/example/refill/refill/bucket/Decision" "retryAfter" "Ljava/time/Duration;" (.ref aZ) ∧ Fld Z h b "com/example/refill/refill/bucket/Decision" "fallback" "Z" (.int (0 : Int32))) := by
  refine own_con own_pn ?_
  intro p e s m below meth c T0 hx hby hml hZ hown hnm hret hlk X0 e0 eh
  refine own_via (F' := T0.setTop (mkF m 0 #[.val (.long r), .second] [])) (fun t k => castTop (own_ef_ka m r) k) ?_
  obtain ⟨T11, h11, X11, e11, E11, A11, D11, -, s11⟩ := newO X0 hx hZ hown (hw _ (List.mem_of_getElem? (i := 4) rfl)) (hw _ (List.mem_of_getElem? (i := 5) rfl)) (hw _ (List.mem_of_getElem? (i := 2) rfl)) e0 (g := (mkF m 0 #[.val (.long r), .second] [])) rfl (hb hby d4_0) (by decide) (by decide)
  obtain ⟨a11, g11⟩ : ∃ z, z = h0.size := ⟨_, rfl⟩
  rw [← g11] at A11 D11 s11
  have G11 : n0 ≤ a11 := by have q := O0.2.1; have q2 := O0.1; omega
  have D12 : Fld Z h11 a11 "com/example/refill/refill/bucket/Decision" "allowed" "Z" (.int (0 : Int32)) := D11 (Or.inr (hw _ (List.mem_of_getElem? (i := 15) rfl))) (ty := .boolean) (by decide)
  have D13 : Fld Z h11 a11 "com/example/refill/refill/bucket/Decision" "remaining" "J" (.long (0 : Int64)) := D11 (Or.inr (hw _ (List.mem_of_getElem? (i := 17) rfl))) (ty := .long) (by decide)
  have D14 : Fld Z h11 a11 "com/example/refill/refill/bucket/Decision" "retryAfter" "Ljava/time/Duration;" .null := D11 (Or.inr (hw _ (List.mem_of_getElem? (i := 19) rfl))) (ty := .object "java/time/Duration") (by decide)
  have D15 : Fld Z h11 a11 "com/example/refill/refill/bucket/Decision" "fallback" "Z" (.int (0 : Int32)) := D11 (Or.inr (hw _ (List.mem_of_getElem? (i := 21) rfl))) (ty := .boolean) (by decide)
  refine own_via (F' := T11.setTop (mkF m 3 #[.val (.long r), .second] [(.ref a11)])) s11 ?_
  have B11 : h0.size ≤ a11 := by have q := (Keep.refl h0 []).1; omega
  refine own_via (F' := T11.setTop (mkF m 4 #[.val (.long r), .second] [(.ref a11), (.ref a11)])) (fun t k => XS.dup X11.here hx rfl (hb hby d4_3) rfl rfl k) ?_
  refine own_via (F' := T11.setTop (mkF m 5 #[.val (.long r), .second] [(.int (1 : Int32)), (.ref a11), (.ref a11)])) (fun t k => XT.iconstV X11.here hx rfl (1 : Int32) (hb hby d4_4) (by decide) k) ?_
  refine own_via (F' := T11.setTop (mkF m 6 #[.val (.long r), .second] [(.long r), (.int (1 : Int32)), (.ref a11), (.ref a11)])) (fun t k => XT.lloadN X11.here hx rfl (hb hby d4_5) rfl k) ?_
  have f16 := (O0.ext E11)
  obtain ⟨T17, X17, e17, s17⟩ := getS X11 hx hZ (host := "") hown (hw _ (List.mem_of_getElem? (i := 6) rfl)) Via.refl e11 (SZ.ext f16.2) (g := (mkF m 6 #[.val (.long r), .second] [(.long r), (.int (1 : Int32)), (.ref a11), (.ref a11)])) rfl (hb hby d4_6)
  refine own_via (F' := T17.setTop (mkF m 9 #[.val (.long r), .second] [(.ref aZ), (.long r), (.int (1 : Int32)), (.ref a11), (.ref a11)])) s17 ?_
  refine own_via (F' := T17.setTop (mkF m 10 #[.val (.long r), .second] [(.int (0 : Int32)), (.ref aZ), (.long r), (.int (1 : Int32)), (.ref a11), (.ref a11)])) (fun t k => XT.iconstV X17.here hx rfl (0 : Int32) (hb hby d4_9) (by decide) k) ?_
  refine own_callI X17 hx hZ (own_kd l Z az hw a11 (1 : Int32) r aZ (0 : Int32) h11 n0 (by decide) (by decide) (by decide) (by decide) A11 D12 D13 D14 D15 G11) hown rfl (hw _ (List.mem_of_getElem? (i := 8) rfl)) (hw _ (List.mem_of_getElem? (i := 9) rfl)) (hw _ (List.mem_of_getElem? (i := 2) rfl)) (hw _ (List.mem_of_getElem? (i := 10) rfl)) (by decide) e17 (g := (mkF m 10 #[.val (.long r), .second] [(.int (0 : Int32)), (.ref aZ), (.long r), (.int (1 : Int32)), (.ref a11), (.ref a11)])) rfl (by rw [hml]; rfl) (argsL := [(.int (1 : Int32)), (.long r), (.ref aZ), (.int (0 : Int32))]) (rest := [(.ref a11)]) rfl (lenOf own_pd0 rfl) rfl 1 (by show 2 * 0 + _ ≤ _; exact Nat.le_of_eq rfl) (hb hby d4_10) (by decide) (by decide) (by decide) (by decide) ?_
  intro v18 T18 L18 hQ18 X18
  obtain ⟨rfl, M18, K18, E18, Fa18, Fb18, Fc18, Fd18⟩ := hQ18
  refine own_via (F' := T18.setTop (mkF m 13 #[.val (.long r), .second] [(.ref a11)])) (fun t k => k) ?_
  exact own_retA X18 hx hret rfl rfl hlk (hb hby d4_13) ⟨_, rfl, (Fr.app (Fr.nil n0) M18), (((Keep.refl h0 []).ext E11).trans K18 (allS (Or.inr B11) all0)), B11, E18, Fa18, Fb18, Fc18, Fd18⟩ (by decide) (by decide)
theorem own_ef_kf (m : MethodId) (x0 : Int32) : entryFrame m #[(.int x0)] 1 = mkF m 0 #[.val (.int x0)] [] := by first | (simp [entryFrame, mkF, argsToLocals, Value.category]; done) | rfl
set_option maxRecDepth 65536 in
set_option maxHeartbeats 40000000 in
theorem own_kf (l : Launch) (Z : State) (az : Array Value) (hw : ∀ d ∈ tables_1, d.before az Z = true) (z : Int32) (h0 : Heap) (n0 : Nat) (O0 : Old Z n0 h0) (aZ : Addr) (SZ : Sta Z Z.heap "java/time/Duration" "ZERO" "Ljava/time/Duration;" (.ref aZ)) (hz : narrow .boolean (.int z) = .int z) (fz : fits .boolean (.int z) = true) :
    own_Con l Z (⟨"com/example/refill/refill/bucket/Decision", "fallback", "(Z)Lcom/example/refill/refill/bucket/Decision;"⟩ : MethodName) prog_2_method_4_code 1 (some (.object "com/example/refill/refill/bucket/Decision")) ({ frames := 2, cells := 1, slots := 4, locals := 30 } : Room) #[(.int z)] h0 (fun v h L => ∃ b, v = some (.ref b) ∧ Fr n0 L ∧ Keep h0 h [] ∧ h0.size ≤ b ∧ Exa Z h b "com/example/refill/refill/bucket/Decision" ∧ Fld Z h b "com/example/refill/refill/bucket/Decision" "allowed" "Z" (.int z) ∧ Fld Z h b "com/example/refill/refill/bucket/Decision" "remaining" "J" (.long (0 : Int64)) ∧ Fld Z h b "com/example/refill/refill/bucket/Decision" "retryAfter" "Ljava/time/Duration;" (.ref aZ) ∧ Fld Z h b "com/example/refill/refill/bucket/Decision" "fallback" "Z" (.int (1 : Int32))) := by
  refine own_con own_pn ?_
  intro p e s m below meth c T0 hx hby hml hZ hown hnm hret hlk X0 e0 eh
  refine own_via (F' := T0.setTop (mkF m 0 #[.val (.int z)] [])) (fun t k => castTop (own_ef_kf m z) k) ?_
  obtain ⟨T11, h11, X11, e11, E11, A11, D11, -, s11⟩ := newO X0 hx hZ hown (hw _ (List.mem_of_getElem? (i := 4) rfl)) (hw _ (List.mem_of_getElem? (i := 5) rfl)) (hw _ (List.mem_of_getElem? (i := 2) rfl)) e0 (g := (mkF m 0 #[.val (.int z)] [])) rfl (hb hby d1_0) (by decide) (by decide)
  obtain ⟨a11, g11⟩ : ∃ z, z = h0.size := ⟨_, rfl⟩
  rw [← g11] at A11 D11 s11
  have G11 : n0 ≤ a11 := by have q := O0.2.1; have q2 := O0.1; omega
  have D12 : Fld Z h11 a11 "com/example/refill/refill/bucket/Decision" "allowed" "Z" (.int (0 : Int32)) := D11 (Or.inr (hw _ (List.mem_of_getElem? (i := 15) rfl))) (ty := .boolean) (by decide)
  have D13 : Fld Z h11 a11 "com/example/refill/refill/bucket/Decision" "remaining" "J" (.long (0 : Int64)) := D11 (Or.inr (hw _ (List.mem_of_getElem? (i := 17) rfl))) (ty := .long) (by decide)
  have D14 : Fld Z h11 a11 "com/example/refill/refill/bucket/Decision" "retryAfter" "Ljava/time/Duration;" .null := D11 (Or.inr (hw _ (List.mem_of_getElem? (i := 19) rfl))) (ty := .object "java/time/Duration") (by decide)
  have D15 : Fld Z h11 a11 "com/example/refill/refill/bucket/Decision" "fallback" "Z" (.int (0 : Int32)) := D11 (Or.inr (hw _ (List.mem_of_getElem? (i := 21) rfl))) (ty := .boolean) (by decide)
  refine own_via (F' := T11.setTop (mkF m 3 #[.val (.int z)] [(.ref a11)])) s11 ?_
  have B11 : h0.size ≤ a11 := by have q := (Keep.refl h0 []).1; omega
  refine own_via (F' := T11.setTop (mkF m 4 #[.val (.int z)] [(.ref a11), (.ref a11)])) (fun t k => XS.dup X11.here hx rfl (hb hby d1_3) rfl rfl k) ?_
  refine own_via (F' := T11.setTop (mkF m 5 #[.val (.int z)] [(.int z), (.ref a11), (.ref a11)])) (fun t k => XS.iloadN X11.here hx rfl (hb hby d1_4) rfl k) ?_
  refine own_via (F' := T11.setTop (mkF m 6 #[.val (.int z)] [(.long (0 : Int64)), (.int z), (.ref a11), (.ref a11)])) (fun t k => XT.lconstV X11.here hx rfl (0 : Int64) (hb hby d1_5) (by decide) k) ?_
  have f16 := (O0.ext E11)
  obtain ⟨T17, X17, e17, s17⟩ := getS X11 hx hZ (host := "") hown (hw _ (List.mem_of_getElem? (i := 6) rfl)) Via.refl e11 (SZ.ext f16.2) (g := (mkF m 6 #[.val (.int z)] [(.long (0 : Int64)), (.int z), (.ref a11), (.ref a11)])) rfl (hb hby d1_6)
  refine own_via (F' := T17.setTop (mkF m 9 #[.val (.int z)] [(.ref aZ), (.long (0 : Int64)), (.int z), (.ref a11), (.ref a11)])) s17 ?_
  refine own_via (F' := T17.setTop (mkF m 10 #[.val (.int z)] [(.int (1 : Int32)), (.ref aZ), (.long (0 : Int64)), (.int z), (.ref a11), (.ref a11)])) (fun t k => XT.iconstV X17.here hx rfl (1 : Int32) (hb hby d1_9) (by decide) k) ?_
  refine own_callI X17 hx hZ (own_kd l Z az hw a11 z (0 : Int64) aZ (1 : Int32) h11 n0 hz fz (by decide) (by decide) A11 D12 D13 D14 D15 G11) hown rfl (hw _ (List.mem_of_getElem? (i := 8) rfl)) (hw _ (List.mem_of_getElem? (i := 9) rfl)) (hw _ (List.mem_of_getElem? (i := 2) rfl)) (hw _ (List.mem_of_getElem? (i := 10) rfl)) (by decide) e17 (g := (mkF m 10 #[.val (.int z)] [(.int (1 : Int32)), (.ref aZ), (.long (0 : Int64)), (.int z), (.ref a11), (.ref a11)])) rfl (by rw [hml]; rfl) (argsL := [(.int z), (.long (0 : Int64)), (.ref aZ), (.int (1 : Int32))]) (rest := [(.ref a11)]) rfl (lenOf own_pd0 rfl) rfl 1 (by show 2 * 0 + _ ≤ _; exact Nat.le_of_eq rfl) (hb hby d1_10) (by decide) (by decide) (by decide) (by decide) ?_
  intro v18 T18 L18 hQ18 X18
  obtain ⟨rfl, M18, K18, E18, Fa18, Fb18, Fc18, Fd18⟩ := hQ18
  refine own_via (F' := T18.setTop (mkF m 13 #[.val (.int z)] [(.ref a11)])) (fun t k => k) ?_
  exact own_retA X18 hx hret rfl rfl hlk (hb hby d1_13) ⟨_, rfl, (Fr.app (Fr.nil n0) M18), (((Keep.refl h0 []).ext E11).trans K18 (allS (Or.inr B11) all0)), B11, E18, Fa18, Fb18, Fc18, Fd18⟩ (by decide) (by decide)
theorem own_efg (m : MethodId) (x0 : Addr) : entryFrame m #[(.ref x0)] 1 = mkF m 0 #[.val (.ref x0)] [] := by first | (simp [entryFrame, mkF, argsToLocals, Value.category]; done) | rfl
set_option maxRecDepth 65536 in
set_option maxHeartbeats 40000000 in
theorem own_g_isAllowed (l : Launch) (Z : State) (az : Array Value) (hw : ∀ d ∈ tables_1, d.before az Z = true) (a : Addr) (v : Int32) (hv : nar .boolean v = v) (h0 : Heap) (FV : Fld Z h0 a "com/example/refill/refill/bucket/Decision" "allowed" "Z" (.int v)) :
    own_Con l Z (⟨"com/example/refill/refill/bucket/Decision", "isAllowed", "()Z"⟩ : MethodName) prog_2_method_5_code 1 (some .boolean) ({ frames := 0, cells := 0, slots := 0, locals := 0 } : Room) #[(.ref a)] h0 (fun r h L => r = some (.int v) ∧ h = h0 ∧ L = []) := by
  refine own_con own_pn ?_
  intro p e s m below meth c T0 hx hby hml hZ hown hnm hret hlk X0 e0 eh
  refine own_via (F' := T0.setTop (mkF m 0 #[.val (.ref a)] [])) (fun t k => castTop (own_efg m a) k) ?_
  refine own_via (F' := T0.setTop (mkF m 1 #[.val (.ref a)] [(.ref a)])) (fun t k => XS.aloadN X0.here hx rfl (hb hby d5_0) rfl rfl k) ?_
  obtain ⟨T1, X1, e1, s1⟩ := getF X0 hx hZ hown (host := "") (Or.inl (hw _ (List.mem_of_getElem? (i := 14) rfl))) Via.refl e0 FV (g := (mkF m 1 #[.val (.ref a)] [(.ref a)])) rfl rfl (hb hby d5_1)
  refine own_via (F' := T1.setTop (mkF m 4 #[.val (.ref a)] [(.int v)])) s1 ?_
  exact own_retZ X1 hx hret hlk (hb hby d5_4) ⟨by rw [hv], e1, rfl⟩ (Nat.le_refl _) (Nat.le_refl _)
set_option maxRecDepth 65536 in
set_option maxHeartbeats 40000000 in
theorem own_g_getRemaining (l : Launch) (Z : State) (az : Array Value) (hw : ∀ d ∈ tables_1, d.before az Z = true) (a : Addr) (v : Int64) (h0 : Heap) (FV : Fld Z h0 a "com/example/refill/refill/bucket/Decision" "remaining" "J" (.long v)) :
    own_Con l Z (⟨"com/example/refill/refill/bucket/Decision", "getRemaining", "()J"⟩ : MethodName) prog_2_method_6_code 1 (some .long) ({ frames := 0, cells := 0, slots := 0, locals := 0 } : Room) #[(.ref a)] h0 (fun r h L => r = some (.long v) ∧ h = h0 ∧ L = []) := by
  refine own_con own_pn ?_
  intro p e s m below meth c T0 hx hby hml hZ hown hnm hret hlk X0 e0 eh
  refine own_via (F' := T0.setTop (mkF m 0 #[.val (.ref a)] [])) (fun t k => castTop (own_efg m a) k) ?_
  refine own_via (F' := T0.setTop (mkF m 1 #[.val (.ref a)] [(.ref a)])) (fun t k => XS.aloadN X0.here hx rfl (hb hby d6_0) rfl rfl k) ?_
  obtain ⟨T1, X1, e1, s1⟩ := getF X0 hx hZ hown (host := "") (Or.inl (hw _ (List.mem_of_getElem? (i := 16) rfl))) Via.refl e0 FV (g := (mkF m 1 #[.val (.ref a)] [(.ref a)])) rfl rfl (hb hby d6_1)
  refine own_via (F' := T1.setTop (mkF m 4 #[.val (.ref a)] [(.long v)])) s1 ?_
  exact own_retJ X1 hx hret hlk (hb hby d6_4) ⟨rfl, e1, rfl⟩ (Nat.le_refl _) (Nat.le_refl _)
set_option maxRecDepth 65536 in
set_option maxHeartbeats 40000000 in
theorem own_g_isFallback (l : Launch) (Z : State) (az : Array Value) (hw : ∀ d ∈ tables_1, d.before az Z = true) (a : Addr) (v : Int32) (hv : nar .boolean v = v) (h0 : Heap) (FV : Fld Z h0 a "com/example/refill/refill/bucket/Decision" "fallback" "Z" (.int v)) :
    own_Con l Z (⟨"com/example/refill/refill/bucket/Decision", "isFallback", "()Z"⟩ : MethodName) prog_2_method_8_code 1 (some .boolean) ({ frames := 0, cells := 0, slots := 0, locals := 0 } : Room) #[(.ref a)] h0 (fun r h L => r = some (.int v) ∧ h = h0 ∧ L = []) := by
  refine own_con own_pn ?_
  intro p e s m below meth c T0 hx hby hml hZ hown hnm hret hlk X0 e0 eh
  refine own_via (F' := T0.setTop (mkF m 0 #[.val (.ref a)] [])) (fun t k => castTop (own_efg m a) k) ?_
  refine own_via (F' := T0.setTop (mkF m 1 #[.val (.ref a)] [(.ref a)])) (fun t k => XS.aloadN X0.here hx rfl (hb hby d7_0) rfl rfl k) ?_
  obtain ⟨T1, X1, e1, s1⟩ := getF X0 hx hZ hown (host := "") (Or.inl (hw _ (List.mem_of_getElem? (i := 20) rfl))) Via.refl e0 FV (g := (mkF m 1 #[.val (.ref a)] [(.ref a)])) rfl rfl (hb hby d7_1)
  refine own_via (F' := T1.setTop (mkF m 4 #[.val (.ref a)] [(.int v)])) s1 ?_
  exact own_retZ X1 hx hret hlk (hb hby d7_4) ⟨by rw [hv], e1, rfl⟩ (Nat.le_refl _) (Nat.le_refl _)
set_option maxRecDepth 65536 in
set_option maxHeartbeats 40000000 in
theorem own_g_getRetryAfter (l : Launch) (Z : State) (az : Array Value) (hw : ∀ d ∈ tables_1, d.before az Z = true) (a : Addr) (v : Addr) (h0 : Heap) (FV : Fld Z h0 a "com/example/refill/refill/bucket/Decision" "retryAfter" "Ljava/time/Duration;" (.ref v)) :
    own_Con l Z (⟨"com/example/refill/refill/bucket/Decision", "getRetryAfter", "()Ljava/time/Duration;"⟩ : MethodName) prog_2_method_7_code 1 (some (.object "java/time/Duration")) ({ frames := 0, cells := 0, slots := 0, locals := 0 } : Room) #[(.ref a)] h0 (fun r h L => r = some (.ref v) ∧ h = h0 ∧ L = []) := by
  refine own_con own_pn ?_
  intro p e s m below meth c T0 hx hby hml hZ hown hnm hret hlk X0 e0 eh
  refine own_via (F' := T0.setTop (mkF m 0 #[.val (.ref a)] [])) (fun t k => castTop (own_efg m a) k) ?_
  refine own_via (F' := T0.setTop (mkF m 1 #[.val (.ref a)] [(.ref a)])) (fun t k => XS.aloadN X0.here hx rfl (hb hby d8_0) rfl rfl k) ?_
  obtain ⟨T1, X1, e1, s1⟩ := getF X0 hx hZ hown (host := "") (Or.inl (hw _ (List.mem_of_getElem? (i := 18) rfl))) Via.refl e0 FV (g := (mkF m 1 #[.val (.ref a)] [(.ref a)])) rfl rfl (hb hby d8_1)
  refine own_via (F' := T1.setTop (mkF m 4 #[.val (.ref a)] [(.ref v)])) s1 ?_
  exact own_retA X1 hx hret rfl rfl hlk (hb hby d8_4) ⟨rfl, e1, rfl⟩ (Nat.le_refl _) (Nat.le_refl _)
theorem own_efq (m : MethodId) (x0 : Addr) (x1 : Addr) : entryFrame m #[(.ref x0), (.ref x1)] 3 = mkF m 0 #[.val (.ref x0), .val (.ref x1), .unset] [] := by first | (simp [entryFrame, mkF, argsToLocals, Value.category]; done) | rfl
set_option maxRecDepth 65536 in
set_option maxHeartbeats 40000000 in
theorem own_kq (l : Launch) (Z : State) (az : Array Value) (hw : ∀ d ∈ tables_1, d.before az Z = true) (a : Addr) (h0 : Heap) :
    own_Con l Z (⟨"java/time/Duration", "equals", "(Ljava/lang/Object;)Z"⟩ : MethodName) jdk_2316_method_67_code 3 (some .boolean) ({ frames := 0, cells := 0, slots := 0, locals := 0 } : Room) #[(.ref a), (.ref a)] h0 (fun r h L => r = some (.int (1 : Int32)) ∧ h = h0 ∧ L = []) := by
  refine own_con own_pnD ?_
  intro p e s m below meth c T0 hx hby hml hZ hown hnm hret hlk X0 e0 eh
  refine own_via (F' := T0.setTop (mkF m 0 #[.val (.ref a), .val (.ref a), .unset] [])) (fun t k => castTop (own_efq m a a) k) ?_
  refine own_via (F' := T0.setTop (mkF m 1 #[.val (.ref a), .val (.ref a), .unset] [(.ref a)])) (fun t k => XS.aloadN X0.here hx rfl (hb hby d9_0) rfl rfl k) ?_
  refine own_via (F' := T0.setTop (mkF m 2 #[.val (.ref a), .val (.ref a), .unset] [(.ref a), (.ref a)])) (fun t k => XS.aloadN X0.here hx rfl (hb hby d9_1) rfl rfl k) ?_
  refine own_via (F' := T0.setTop (mkF m 5 #[.val (.ref a), .val (.ref a), .unset] [])) (fun t k => XT.acmpNo X0.here hx rfl (hb hby d9_2) rfl rfl rfl (XT.aa_ne_f rfl) k) ?_
  refine own_via (F' := T0.setTop (mkF m 6 #[.val (.ref a), .val (.ref a), .unset] [(.int (1 : Int32))])) (fun t k => XT.iconstV X0.here hx rfl (1 : Int32) (hb hby d9_5) (by decide) k) ?_
  exact own_retZ X0 hx hret hlk (hb hby d9_6) ⟨rfl, e0, rfl⟩ (Nat.le_refl _) (Nat.le_refl _)
theorem own_ef0 (m : MethodId) (x0 : Int32) : entryFrame m #[(.int x0)] maxLocals = mkF m 0 #[.val (.int x0), .unset, .unset, .unset] [] := by first | (simp [entryFrame, mkF, argsToLocals, Value.category, maxLocals]; done) | rfl
set_option maxRecDepth 65536 in
set_option maxHeartbeats 40000000 in
theorem own_law (l : Launch) (Z : State) (az : Array Value) (hw : ∀ d ∈ tables_1, d.before az Z = true) (p0 : Int32) (h0 : Heap) (n0 : Nat) (O0 : Old Z n0 h0) (aZ : Addr) (SZ : Sta Z Z.heap "java/time/Duration" "ZERO" "Ljava/time/Duration;" (.ref aZ)) (EZ : Exa Z Z.heap aZ "java/time/Duration") :
    own_Con l Z x code maxLocals ret room_1 #[(.int p0)] h0 (fun v h L => v = some (.int 1) ∧ Fr n0 L) := by
  refine own_con own_pnL ?_
  intro p e s m below meth c T0 hx hby hml hZ hown hnm hret hlk X0 e0 eh
  have hown : s.vm.findClass "com/example/refill/refill/bucket/DecisionFallbackPinLaw" = some m.cls := hown
  have EZ0 := EZ.ext O0.2
  refine own_via (F' := T0.setTop (mkF m 0 #[.val (.int p0), .unset, .unset, .unset] [])) (fun t k => castTop (own_ef0 m p0) k) ?_
  refine own_via (F' := T0.setTop (mkF m 1 #[.val (.int p0), .unset, .unset, .unset] [(.int p0)])) (fun t k => XS.iloadN X0.here hx rfl (hb hby at_0) rfl k) ?_
  refine own_via (F' := T0.setTop (mkF m 2 #[.val (.int p0), .unset, .unset, .unset] [(.int (1 : Int32)), (.int p0)])) (fun t k => XT.iconstV X0.here hx rfl (1 : Int32) (hb hby at_1) (by decide) k) ?_
  refine own_via (F' := T0.setTop (mkF m 3 #[.val (.int p0), .unset, .unset, .unset] [(.int (p0 &&& (1 : Int32)))])) (fun t k => XS.iand X0.here hx rfl (hb hby at_2) rfl k) ?_
  by_cases q11 : (p0 &&& (1 : Int32)) = (0 : Int32)
  · refine own_via (F' := T0.setTop (mkF m 10 #[.val (.int p0), .unset, .unset, .unset] [])) (fun t k => XS.ifYes X0.here hx rfl (pc0 := 3) (pc' := 10) rfl (hb hby at_3) rfl (XT.i0_eq_t q11) (by decide) (by decide) k) ?_
    refine own_via (F' := T0.setTop (mkF m 11 #[.val (.int p0), .unset, .unset, .unset] [(.int (0 : Int32))])) (fun t k => XT.iconstV X0.here hx rfl (0 : Int32) (hb hby at_10) (by decide) k) ?_
    refine own_via (F' := T0.setTop (mkF m 12 #[.val (.int p0), .val (.int (0 : Int32)), .unset, .unset] [])) (fun t k => XS.istoreN X0.here hx rfl (hb hby at_11) rfl (l' := #[.val (.int p0), .val (.int (0 : Int32)), .unset, .unset]) rfl k) ?_
    refine own_via (F' := T0.setTop (mkF m 13 #[.val (.int p0), .val (.int (0 : Int32)), .unset, .unset] [(.int (0 : Int32))])) (fun t k => XS.iloadN X0.here hx rfl (hb hby at_12) rfl k) ?_
    refine own_callS X0 hx hZ (own_kf l Z az hw (0 : Int32) h0 n0 O0 aZ SZ (by decide) (by decide)) hown (hw _ (List.mem_of_getElem? (i := 0) rfl)) (hw _ (List.mem_of_getElem? (i := 1) rfl)) (hw _ (List.mem_of_getElem? (i := 2) rfl)) (hw _ (List.mem_of_getElem? (i := 3) rfl)) (by decide) e0 (g := (mkF m 13 #[.val (.int p0), .val (.int (0 : Int32)), .unset, .unset] [(.int (0 : Int32))])) rfl (by rw [hml]; rfl) (argsL := [(.int (0 : Int32))]) (rest := []) rfl (lenOf own_pd1 rfl) rfl 0 (by show 2 * 0 + _ ≤ _; exact Nat.le_of_eq rfl) (hb hby at_13) (by decide) (by decide) (by decide) (by decide) ?_
    intro v12 T12 L12 hQ12 X12
    obtain ⟨b12, rfl, M12, K12, B12, E12, Fa12, Fb12, Fc12, Fd12⟩ := hQ12
    refine own_via (F' := T12.setTop (mkF m 16 #[.val (.int p0), .val (.int (0 : Int32)), .unset, .unset] [(.ref b12)])) (fun t k => k) ?_
    refine own_via (F' := T12.setTop (mkF m 17 #[.val (.int p0), .val (.int (0 : Int32)), .val (.ref b12), .unset] [])) (fun t k => XS.astoreN X12.here hx rfl (hb hby at_16) rfl rfl (l' := #[.val (.int p0), .val (.int (0 : Int32)), .val (.ref b12), .unset]) rfl k) ?_
    refine own_via (F' := T12.setTop (mkF m 18 #[.val (.int p0), .val (.int (0 : Int32)), .val (.ref b12), .unset] [(.long (0 : Int64))])) (fun t k => XT.lconstV X12.here hx rfl (0 : Int64) (hb hby at_17) (by decide) k) ?_
    have f13 := (O0.keep K12 all0)
    refine own_callS X12 hx hZ (own_ka l Z az hw (0 : Int64) T12.heap n0 f13 aZ SZ) hown (hw _ (List.mem_of_getElem? (i := 22) rfl)) (hw _ (List.mem_of_getElem? (i := 23) rfl)) (hw _ (List.mem_of_getElem? (i := 2) rfl)) (hw _ (List.mem_of_getElem? (i := 24) rfl)) (by decide) rfl (g := (mkF m 18 #[.val (.int p0), .val (.int (0 : Int32)), .val (.ref b12), .unset] [(.long (0 : Int64))])) rfl (by rw [hml]; rfl) (argsL := [(.long (0 : Int64))]) (rest := []) rfl (lenOf own_pd2 rfl) rfl 0 (by show 2 * 0 + _ ≤ _; exact Nat.le_of_eq rfl) (hb hby at_18) (by decide) (by decide) (by decide) (by decide) ?_
    intro v14 T14 L14 hQ14 X14
    obtain ⟨b14, rfl, M14, K14, B14, E14, Fa14, Fb14, Fc14, Fd14⟩ := hQ14
    refine own_via (F' := T14.setTop (mkF m 21 #[.val (.int p0), .val (.int (0 : Int32)), .val (.ref b12), .unset] [(.ref b14)])) (fun t k => k) ?_
    refine own_via (F' := T14.setTop (mkF m 22 #[.val (.int p0), .val (.int (0 : Int32)), .val (.ref b12), .val (.ref b14)] [])) (fun t k => XS.astoreN X14.here hx rfl (hb hby at_21) rfl rfl (l' := #[.val (.int p0), .val (.int (0 : Int32)), .val (.ref b12), .val (.ref b14)]) rfl k) ?_
    refine own_via (F' := T14.setTop (mkF m 23 #[.val (.int p0), .val (.int (0 : Int32)), .val (.ref b12), .val (.ref b14)] [(.ref b12)])) (fun t k => XS.aloadN X14.here hx rfl (hb hby at_22) rfl rfl k) ?_
    have f15 := (Fa12.keep K14 nin0)
    have f17 := (E12.keep K14)
    refine own_callV X14 hx hZ (own_g_isAllowed l Z az hw b12 (0 : Int32) (by decide) T14.heap f15) hown f17 (hw _ (List.mem_of_getElem? (i := 25) rfl)) (hw _ (List.mem_of_getElem? (i := 26) rfl)) (hw _ (List.mem_of_getElem? (i := 28) rfl)) (hw _ (List.mem_of_getElem? (i := 27) rfl)) (hw _ (List.mem_of_getElem? (i := 2) rfl)) (hw _ (List.mem_of_getElem? (i := 29) rfl)) (notFace_of_selects (args := #[]) (mvT hZ (hw _ (List.mem_of_getElem? (i := 28) rfl)))) (by decide) rfl (g := (mkF m 23 #[.val (.int p0), .val (.int (0 : Int32)), .val (.ref b12), .val (.ref b14)] [(.ref b12)])) rfl (by rw [hml]; rfl) (argsL := []) (rest := []) rfl (lenOf own_pd3 rfl) rfl 0 (by show 2 * 0 + _ ≤ _; exact Nat.le_of_eq rfl) (hb hby at_23) (by decide) (by decide) (by decide) (by decide) ?_
    intro v16 T16 L16 hQ16 X16
    obtain ⟨rfl, e16, rfl⟩ := hQ16
    refine own_via (F' := T16.setTop (mkF m 26 #[.val (.int p0), .val (.int (0 : Int32)), .val (.ref b12), .val (.ref b14)] [(.int (0 : Int32))])) (fun t k => k) ?_
    refine own_via (F' := T16.setTop (mkF m 27 #[.val (.int p0), .val (.int (0 : Int32)), .val (.ref b12), .val (.ref b14)] [(.int (0 : Int32)), (.int (0 : Int32))])) (fun t k => XS.iloadN X16.here hx rfl (hb hby at_26) rfl k) ?_
    refine own_via (F' := T16.setTop (mkF m 32 #[.val (.int p0), .val (.int (0 : Int32)), .val (.ref b12), .val (.ref b14)] [])) (fun t k => XS.icmpYes X16.here hx rfl (pc0 := 27) (pc' := 32) rfl (hb hby at_27) rfl (XT.ii_eq_t (by decide)) (by decide) (by decide) k) ?_
    refine own_via (F' := T16.setTop (mkF m 33 #[.val (.int p0), .val (.int (0 : Int32)), .val (.ref b12), .val (.ref b14)] [(.ref b12)])) (fun t k => XS.aloadN X16.here hx rfl (hb hby at_32) rfl rfl k) ?_
    have f18 := (Fb12.keep K14 nin0)
    refine own_callV X16 hx hZ (own_g_getRemaining l Z az hw b12 (0 : Int64) T14.heap f18) hown f17 (hw _ (List.mem_of_getElem? (i := 30) rfl)) (hw _ (List.mem_of_getElem? (i := 31) rfl)) (hw _ (List.mem_of_getElem? (i := 33) rfl)) (hw _ (List.mem_of_getElem? (i := 32) rfl)) (hw _ (List.mem_of_getElem? (i := 2) rfl)) (hw _ (List.mem_of_getElem? (i := 34) rfl)) (notFace_of_selects (args := #[]) (mvT hZ (hw _ (List.mem_of_getElem? (i := 33) rfl)))) (by decide) e16 (g := (mkF m 33 #[.val (.int p0), .val (.int (0 : Int32)), .val (.ref b12), .val (.ref b14)] [(.ref b12)])) rfl (by rw [hml]; rfl) (argsL := []) (rest := []) rfl (lenOf own_pd4 rfl) rfl 0 (by show 2 * 0 + _ ≤ _; exact Nat.le_of_eq rfl) (hb hby at_33) (by decide) (by decide) (by decide) (by decide) ?_
    intro v19 T19 L19 hQ19 X19
    obtain ⟨rfl, e19, rfl⟩ := hQ19
    refine own_via (F' := T19.setTop (mkF m 36 #[.val (.int p0), .val (.int (0 : Int32)), .val (.ref b12), .val (.ref b14)] [(.long (0 : Int64))])) (fun t k => k) ?_
    refine own_via (F' := T19.setTop (mkF m 37 #[.val (.int p0), .val (.int (0 : Int32)), .val (.ref b12), .val (.ref b14)] [(.long (0 : Int64)), (.long (0 : Int64))])) (fun t k => XT.lconstV X19.here hx rfl (0 : Int64) (hb hby at_36) (by decide) k) ?_
    refine own_via (F' := T19.setTop (mkF m 38 #[.val (.int p0), .val (.int (0 : Int32)), .val (.ref b12), .val (.ref b14)] [(.int (XT.cmpL (0 : Int64) (0 : Int64)))])) (fun t k => XT.lcmp X19.here hx rfl (hb hby at_37) rfl k) ?_
    refine own_via (F' := T19.setTop (mkF m 43 #[.val (.int p0), .val (.int (0 : Int32)), .val (.ref b12), .val (.ref b14)] [])) (fun t k => XS.ifYes X19.here hx rfl (pc0 := 38) (pc' := 43) rfl (hb hby at_38) rfl (XT.ll_eq_t rfl) (by decide) (by decide) k) ?_
    refine own_via (F' := T19.setTop (mkF m 44 #[.val (.int p0), .val (.int (0 : Int32)), .val (.ref b12), .val (.ref b14)] [(.ref b12)])) (fun t k => XS.aloadN X19.here hx rfl (hb hby at_43) rfl rfl k) ?_
    have f20 := (Fd12.keep K14 nin0)
    refine own_callV X19 hx hZ (own_g_isFallback l Z az hw b12 (1 : Int32) (by decide) T14.heap f20) hown f17 (hw _ (List.mem_of_getElem? (i := 35) rfl)) (hw _ (List.mem_of_getElem? (i := 36) rfl)) (hw _ (List.mem_of_getElem? (i := 38) rfl)) (hw _ (List.mem_of_getElem? (i := 37) rfl)) (hw _ (List.mem_of_getElem? (i := 2) rfl)) (hw _ (List.mem_of_getElem? (i := 39) rfl)) (notFace_of_selects (args := #[]) (mvT hZ (hw _ (List.mem_of_getElem? (i := 38) rfl)))) (by decide) e19 (g := (mkF m 44 #[.val (.int p0), .val (.int (0 : Int32)), .val (.ref b12), .val (.ref b14)] [(.ref b12)])) rfl (by rw [hml]; rfl) (argsL := []) (rest := []) rfl (lenOf own_pd3 rfl) rfl 0 (by show 2 * 0 + _ ≤ _; exact Nat.le_of_eq rfl) (hb hby at_44) (by decide) (by decide) (by decide) (by decide) ?_
    intro v21 T21 L21 hQ21 X21
    obtain ⟨rfl, e21, rfl⟩ := hQ21
    refine own_via (F' := T21.setTop (mkF m 47 #[.val (.int p0), .val (.int (0 : Int32)), .val (.ref b12), .val (.ref b14)] [(.int (1 : Int32))])) (fun t k => k) ?_
    refine own_via (F' := T21.setTop (mkF m 52 #[.val (.int p0), .val (.int (0 : Int32)), .val (.ref b12), .val (.ref b14)] [])) (fun t k => XS.ifYes X21.here hx rfl (pc0 := 47) (pc' := 52) rfl (hb hby at_47) rfl (XT.i0_ne_t (by decide)) (by decide) (by decide) k) ?_
    refine own_via (F' := T21.setTop (mkF m 53 #[.val (.int p0), .val (.int (0 : Int32)), .val (.ref b12), .val (.ref b14)] [(.ref b12)])) (fun t k => XS.aloadN X21.here hx rfl (hb hby at_52) rfl rfl k) ?_
    have f22 := (Fc12.keep K14 nin0)
    refine own_callV X21 hx hZ (own_g_getRetryAfter l Z az hw b12 aZ T14.heap f22) hown f17 (hw _ (List.mem_of_getElem? (i := 40) rfl)) (hw _ (List.mem_of_getElem? (i := 41) rfl)) (hw _ (List.mem_of_getElem? (i := 43) rfl)) (hw _ (List.mem_of_getElem? (i := 42) rfl)) (hw _ (List.mem_of_getElem? (i := 2) rfl)) (hw _ (List.mem_of_getElem? (i := 44) rfl)) (notFace_of_selects (args := #[]) (mvT hZ (hw _ (List.mem_of_getElem? (i := 43) rfl)))) (by decide) e21 (g := (mkF m 53 #[.val (.int p0), .val (.int (0 : Int32)), .val (.ref b12), .val (.ref b14)] [(.ref b12)])) rfl (by rw [hml]; rfl) (argsL := []) (rest := []) rfl (lenOf own_pd5 rfl) rfl 0 (by show 2 * 0 + _ ≤ _; exact Nat.le_of_eq rfl) (hb hby at_53) (by decide) (by decide) (by decide) (by decide) ?_
    intro v23 T23 L23 hQ23 X23
    obtain ⟨rfl, e23, rfl⟩ := hQ23
    refine own_via (F' := T23.setTop (mkF m 56 #[.val (.int p0), .val (.int (0 : Int32)), .val (.ref b12), .val (.ref b14)] [(.ref aZ)])) (fun t k => k) ?_
    refine own_via (F' := T23.setTop (mkF m 61 #[.val (.int p0), .val (.int (0 : Int32)), .val (.ref b12), .val (.ref b14)] [])) (fun t k => XT.ifnonnullYes X23.here hx rfl (pc0 := 56) (pc' := 61) rfl (hb hby at_56) rfl (by decide) (by decide) k) ?_
    refine own_via (F' := T23.setTop (mkF m 62 #[.val (.int p0), .val (.int (0 : Int32)), .val (.ref b12), .val (.ref b14)] [(.ref b12)])) (fun t k => XS.aloadN X23.here hx rfl (hb hby at_61) rfl rfl k) ?_
    refine own_callV X23 hx hZ (own_g_getRetryAfter l Z az hw b12 aZ T14.heap f22) hown f17 (hw _ (List.mem_of_getElem? (i := 40) rfl)) (hw _ (List.mem_of_getElem? (i := 41) rfl)) (hw _ (List.mem_of_getElem? (i := 43) rfl)) (hw _ (List.mem_of_getElem? (i := 42) rfl)) (hw _ (List.mem_of_getElem? (i := 2) rfl)) (hw _ (List.mem_of_getElem? (i := 44) rfl)) (notFace_of_selects (args := #[]) (mvT hZ (hw _ (List.mem_of_getElem? (i := 43) rfl)))) (by decide) e23 (g := (mkF m 62 #[.val (.int p0), .val (.int (0 : Int32)), .val (.ref b12), .val (.ref b14)] [(.ref b12)])) rfl (by rw [hml]; rfl) (argsL := []) (rest := []) rfl (lenOf own_pd5 rfl) rfl 0 (by show 2 * 0 + _ ≤ _; exact Nat.le_of_eq rfl) (hb hby at_62) (by decide) (by decide) (by decide) (by decide) ?_
    intro v24 T24 L24 hQ24 X24
    obtain ⟨rfl, e24, rfl⟩ := hQ24
    refine own_via (F' := T24.setTop (mkF m 65 #[.val (.int p0), .val (.int (0 : Int32)), .val (.ref b12), .val (.ref b14)] [(.ref aZ)])) (fun t k => k) ?_
    refine own_via (F' := T24.setTop (mkF m 66 #[.val (.int p0), .val (.int (0 : Int32)), .val (.ref b12), .val (.ref b14)] [(.ref b14), (.ref aZ)])) (fun t k => XS.aloadN X24.here hx rfl (hb hby at_65) rfl rfl k) ?_
    refine own_callV X24 hx hZ (own_g_getRetryAfter l Z az hw b14 aZ T14.heap Fc14) hown E14 (hw _ (List.mem_of_getElem? (i := 40) rfl)) (hw _ (List.mem_of_getElem? (i := 41) rfl)) (hw _ (List.mem_of_getElem? (i := 43) rfl)) (hw _ (List.mem_of_getElem? (i := 42) rfl)) (hw _ (List.mem_of_getElem? (i := 2) rfl)) (hw _ (List.mem_of_getElem? (i := 44) rfl)) (notFace_of_selects (args := #[]) (mvT hZ (hw _ (List.mem_of_getElem? (i := 43) rfl)))) (by decide) e24 (g := (mkF m 66 #[.val (.int p0), .val (.int (0 : Int32)), .val (.ref b12), .val (.ref b14)] [(.ref b14), (.ref aZ)])) rfl (by rw [hml]; rfl) (argsL := []) (rest := [(.ref aZ)]) rfl (lenOf own_pd5 rfl) rfl 1 (by show 2 * 0 + _ ≤ _; exact Nat.le_of_eq rfl) (hb hby at_66) (by decide) (by decide) (by decide) (by decide) ?_
    intro v25 T25 L25 hQ25 X25
    obtain ⟨rfl, e25, rfl⟩ := hQ25
    refine own_via (F' := T25.setTop (mkF m 69 #[.val (.int p0), .val (.int (0 : Int32)), .val (.ref b12), .val (.ref b14)] [(.ref aZ), (.ref aZ)])) (fun t k => k) ?_
    have f27 := ((EZ0.keep K12).keep K14)
    refine own_callV X25 hx hZ (own_kq l Z az hw aZ T14.heap) hown f27 (hw _ (List.mem_of_getElem? (i := 45) rfl)) (hw _ (List.mem_of_getElem? (i := 46) rfl)) (hw _ (List.mem_of_getElem? (i := 48) rfl)) (hw _ (List.mem_of_getElem? (i := 47) rfl)) (hw _ (List.mem_of_getElem? (i := 7) rfl)) (hw _ (List.mem_of_getElem? (i := 49) rfl)) (notFace_of_selects (args := #[]) (mvT hZ (hw _ (List.mem_of_getElem? (i := 48) rfl)))) (by decide) e25 (g := (mkF m 69 #[.val (.int p0), .val (.int (0 : Int32)), .val (.ref b12), .val (.ref b14)] [(.ref aZ), (.ref aZ)])) rfl (by rw [hml]; rfl) (argsL := [(.ref aZ)]) (rest := []) rfl (lenOf own_pd6 rfl) rfl 0 (by show 2 * 0 + _ ≤ _; exact Nat.le_of_eq rfl) (hb hby at_69) (by decide) (by decide) (by decide) (by decide) ?_
    intro v26 T26 L26 hQ26 X26
    obtain ⟨rfl, e26, rfl⟩ := hQ26
    refine own_via (F' := T26.setTop (mkF m 72 #[.val (.int p0), .val (.int (0 : Int32)), .val (.ref b12), .val (.ref b14)] [(.int (1 : Int32))])) (fun t k => k) ?_
    exact own_retZ X26 hx hret hlk (hb hby at_72) ⟨rfl, (Fr.app (Fr.app (Fr.app (Fr.app (Fr.app (Fr.app (Fr.app (Fr.app (Fr.app (Fr.nil n0) M12) M14) (Fr.nil _)) (Fr.nil _)) (Fr.nil _)) (Fr.nil _)) (Fr.nil _)) (Fr.nil _)) (Fr.nil _))⟩ (by decide) (by decide)
  · refine own_via (F' := T0.setTop (mkF m 6 #[.val (.int p0), .unset, .unset, .unset] [])) (fun t k => XS.ifNo X0.here hx rfl (hb hby at_3) rfl (XT.i0_eq_f q11) k) ?_
    refine own_via (F' := T0.setTop (mkF m 7 #[.val (.int p0), .unset, .unset, .unset] [(.int (1 : Int32))])) (fun t k => XT.iconstV X0.here hx rfl (1 : Int32) (hb hby at_6) (by decide) k) ?_
    refine own_via (F' := T0.setTop (mkF m 11 #[.val (.int p0), .unset, .unset, .unset] [(.int (1 : Int32))])) (fun t k => XS.goto X0.here hx rfl (pc0 := 7) (pc' := 11) rfl (hb hby at_7) (by decide) (by decide) k) ?_
    refine own_via (F' := T0.setTop (mkF m 12 #[.val (.int p0), .val (.int (1 : Int32)), .unset, .unset] [])) (fun t k => XS.istoreN X0.here hx rfl (hb hby at_11) rfl (l' := #[.val (.int p0), .val (.int (1 : Int32)), .unset, .unset]) rfl k) ?_
    refine own_via (F' := T0.setTop (mkF m 13 #[.val (.int p0), .val (.int (1 : Int32)), .unset, .unset] [(.int (1 : Int32))])) (fun t k => XS.iloadN X0.here hx rfl (hb hby at_12) rfl k) ?_
    refine own_callS X0 hx hZ (own_kf l Z az hw (1 : Int32) h0 n0 O0 aZ SZ (by decide) (by decide)) hown (hw _ (List.mem_of_getElem? (i := 0) rfl)) (hw _ (List.mem_of_getElem? (i := 1) rfl)) (hw _ (List.mem_of_getElem? (i := 2) rfl)) (hw _ (List.mem_of_getElem? (i := 3) rfl)) (by decide) e0 (g := (mkF m 13 #[.val (.int p0), .val (.int (1 : Int32)), .unset, .unset] [(.int (1 : Int32))])) rfl (by rw [hml]; rfl) (argsL := [(.int (1 : Int32))]) (rest := []) rfl (lenOf own_pd1 rfl) rfl 0 (by show 2 * 0 + _ ≤ _; exact Nat.le_of_eq rfl) (hb hby at_13) (by decide) (by decide) (by decide) (by decide) ?_
    intro v28 T28 L28 hQ28 X28
    obtain ⟨b28, rfl, M28, K28, B28, E28, Fa28, Fb28, Fc28, Fd28⟩ := hQ28
    refine own_via (F' := T28.setTop (mkF m 16 #[.val (.int p0), .val (.int (1 : Int32)), .unset, .unset] [(.ref b28)])) (fun t k => k) ?_
    refine own_via (F' := T28.setTop (mkF m 17 #[.val (.int p0), .val (.int (1 : Int32)), .val (.ref b28), .unset] [])) (fun t k => XS.astoreN X28.here hx rfl (hb hby at_16) rfl rfl (l' := #[.val (.int p0), .val (.int (1 : Int32)), .val (.ref b28), .unset]) rfl k) ?_
    refine own_via (F' := T28.setTop (mkF m 18 #[.val (.int p0), .val (.int (1 : Int32)), .val (.ref b28), .unset] [(.long (0 : Int64))])) (fun t k => XT.lconstV X28.here hx rfl (0 : Int64) (hb hby at_17) (by decide) k) ?_
    have f29 := (O0.keep K28 all0)
    refine own_callS X28 hx hZ (own_ka l Z az hw (0 : Int64) T28.heap n0 f29 aZ SZ) hown (hw _ (List.mem_of_getElem? (i := 22) rfl)) (hw _ (List.mem_of_getElem? (i := 23) rfl)) (hw _ (List.mem_of_getElem? (i := 2) rfl)) (hw _ (List.mem_of_getElem? (i := 24) rfl)) (by decide) rfl (g := (mkF m 18 #[.val (.int p0), .val (.int (1 : Int32)), .val (.ref b28), .unset] [(.long (0 : Int64))])) rfl (by rw [hml]; rfl) (argsL := [(.long (0 : Int64))]) (rest := []) rfl (lenOf own_pd2 rfl) rfl 0 (by show 2 * 0 + _ ≤ _; exact Nat.le_of_eq rfl) (hb hby at_18) (by decide) (by decide) (by decide) (by decide) ?_
    intro v30 T30 L30 hQ30 X30
    obtain ⟨b30, rfl, M30, K30, B30, E30, Fa30, Fb30, Fc30, Fd30⟩ := hQ30
    refine own_via (F' := T30.setTop (mkF m 21 #[.val (.int p0), .val (.int (1 : Int32)), .val (.ref b28), .unset] [(.ref b30)])) (fun t k => k) ?_
    refine own_via (F' := T30.setTop (mkF m 22 #[.val (.int p0), .val (.int (1 : Int32)), .val (.ref b28), .val (.ref b30)] [])) (fun t k => XS.astoreN X30.here hx rfl (hb hby at_21) rfl rfl (l' := #[.val (.int p0), .val (.int (1 : Int32)), .val (.ref b28), .val (.ref b30)]) rfl k) ?_
    refine own_via (F' := T30.setTop (mkF m 23 #[.val (.int p0), .val (.int (1 : Int32)), .val (.ref b28), .val (.ref b30)] [(.ref b28)])) (fun t k => XS.aloadN X30.here hx rfl (hb hby at_22) rfl rfl k) ?_
    have f31 := (Fa28.keep K30 nin0)
    have f33 := (E28.keep K30)
    refine own_callV X30 hx hZ (own_g_isAllowed l Z az hw b28 (1 : Int32) (by decide) T30.heap f31) hown f33 (hw _ (List.mem_of_getElem? (i := 25) rfl)) (hw _ (List.mem_of_getElem? (i := 26) rfl)) (hw _ (List.mem_of_getElem? (i := 28) rfl)) (hw _ (List.mem_of_getElem? (i := 27) rfl)) (hw _ (List.mem_of_getElem? (i := 2) rfl)) (hw _ (List.mem_of_getElem? (i := 29) rfl)) (notFace_of_selects (args := #[]) (mvT hZ (hw _ (List.mem_of_getElem? (i := 28) rfl)))) (by decide) rfl (g := (mkF m 23 #[.val (.int p0), .val (.int (1 : Int32)), .val (.ref b28), .val (.ref b30)] [(.ref b28)])) rfl (by rw [hml]; rfl) (argsL := []) (rest := []) rfl (lenOf own_pd3 rfl) rfl 0 (by show 2 * 0 + _ ≤ _; exact Nat.le_of_eq rfl) (hb hby at_23) (by decide) (by decide) (by decide) (by decide) ?_
    intro v32 T32 L32 hQ32 X32
    obtain ⟨rfl, e32, rfl⟩ := hQ32
    refine own_via (F' := T32.setTop (mkF m 26 #[.val (.int p0), .val (.int (1 : Int32)), .val (.ref b28), .val (.ref b30)] [(.int (1 : Int32))])) (fun t k => k) ?_
    refine own_via (F' := T32.setTop (mkF m 27 #[.val (.int p0), .val (.int (1 : Int32)), .val (.ref b28), .val (.ref b30)] [(.int (1 : Int32)), (.int (1 : Int32))])) (fun t k => XS.iloadN X32.here hx rfl (hb hby at_26) rfl k) ?_
    refine own_via (F' := T32.setTop (mkF m 32 #[.val (.int p0), .val (.int (1 : Int32)), .val (.ref b28), .val (.ref b30)] [])) (fun t k => XS.icmpYes X32.here hx rfl (pc0 := 27) (pc' := 32) rfl (hb hby at_27) rfl (XT.ii_eq_t (by decide)) (by decide) (by decide) k) ?_
    refine own_via (F' := T32.setTop (mkF m 33 #[.val (.int p0), .val (.int (1 : Int32)), .val (.ref b28), .val (.ref b30)] [(.ref b28)])) (fun t k => XS.aloadN X32.here hx rfl (hb hby at_32) rfl rfl k) ?_
    have f34 := (Fb28.keep K30 nin0)
    refine own_callV X32 hx hZ (own_g_getRemaining l Z az hw b28 (0 : Int64) T30.heap f34) hown f33 (hw _ (List.mem_of_getElem? (i := 30) rfl)) (hw _ (List.mem_of_getElem? (i := 31) rfl)) (hw _ (List.mem_of_getElem? (i := 33) rfl)) (hw _ (List.mem_of_getElem? (i := 32) rfl)) (hw _ (List.mem_of_getElem? (i := 2) rfl)) (hw _ (List.mem_of_getElem? (i := 34) rfl)) (notFace_of_selects (args := #[]) (mvT hZ (hw _ (List.mem_of_getElem? (i := 33) rfl)))) (by decide) e32 (g := (mkF m 33 #[.val (.int p0), .val (.int (1 : Int32)), .val (.ref b28), .val (.ref b30)] [(.ref b28)])) rfl (by rw [hml]; rfl) (argsL := []) (rest := []) rfl (lenOf own_pd4 rfl) rfl 0 (by show 2 * 0 + _ ≤ _; exact Nat.le_of_eq rfl) (hb hby at_33) (by decide) (by decide) (by decide) (by decide) ?_
    intro v35 T35 L35 hQ35 X35
    obtain ⟨rfl, e35, rfl⟩ := hQ35
    refine own_via (F' := T35.setTop (mkF m 36 #[.val (.int p0), .val (.int (1 : Int32)), .val (.ref b28), .val (.ref b30)] [(.long (0 : Int64))])) (fun t k => k) ?_
    refine own_via (F' := T35.setTop (mkF m 37 #[.val (.int p0), .val (.int (1 : Int32)), .val (.ref b28), .val (.ref b30)] [(.long (0 : Int64)), (.long (0 : Int64))])) (fun t k => XT.lconstV X35.here hx rfl (0 : Int64) (hb hby at_36) (by decide) k) ?_
    refine own_via (F' := T35.setTop (mkF m 38 #[.val (.int p0), .val (.int (1 : Int32)), .val (.ref b28), .val (.ref b30)] [(.int (XT.cmpL (0 : Int64) (0 : Int64)))])) (fun t k => XT.lcmp X35.here hx rfl (hb hby at_37) rfl k) ?_
    refine own_via (F' := T35.setTop (mkF m 43 #[.val (.int p0), .val (.int (1 : Int32)), .val (.ref b28), .val (.ref b30)] [])) (fun t k => XS.ifYes X35.here hx rfl (pc0 := 38) (pc' := 43) rfl (hb hby at_38) rfl (XT.ll_eq_t rfl) (by decide) (by decide) k) ?_
    refine own_via (F' := T35.setTop (mkF m 44 #[.val (.int p0), .val (.int (1 : Int32)), .val (.ref b28), .val (.ref b30)] [(.ref b28)])) (fun t k => XS.aloadN X35.here hx rfl (hb hby at_43) rfl rfl k) ?_
    have f36 := (Fd28.keep K30 nin0)
    refine own_callV X35 hx hZ (own_g_isFallback l Z az hw b28 (1 : Int32) (by decide) T30.heap f36) hown f33 (hw _ (List.mem_of_getElem? (i := 35) rfl)) (hw _ (List.mem_of_getElem? (i := 36) rfl)) (hw _ (List.mem_of_getElem? (i := 38) rfl)) (hw _ (List.mem_of_getElem? (i := 37) rfl)) (hw _ (List.mem_of_getElem? (i := 2) rfl)) (hw _ (List.mem_of_getElem? (i := 39) rfl)) (notFace_of_selects (args := #[]) (mvT hZ (hw _ (List.mem_of_getElem? (i := 38) rfl)))) (by decide) e35 (g := (mkF m 44 #[.val (.int p0), .val (.int (1 : Int32)), .val (.ref b28), .val (.ref b30)] [(.ref b28)])) rfl (by rw [hml]; rfl) (argsL := []) (rest := []) rfl (lenOf own_pd3 rfl) rfl 0 (by show 2 * 0 + _ ≤ _; exact Nat.le_of_eq rfl) (hb hby at_44) (by decide) (by decide) (by decide) (by decide) ?_
    intro v37 T37 L37 hQ37 X37
    obtain ⟨rfl, e37, rfl⟩ := hQ37
    refine own_via (F' := T37.setTop (mkF m 47 #[.val (.int p0), .val (.int (1 : Int32)), .val (.ref b28), .val (.ref b30)] [(.int (1 : Int32))])) (fun t k => k) ?_
    refine own_via (F' := T37.setTop (mkF m 52 #[.val (.int p0), .val (.int (1 : Int32)), .val (.ref b28), .val (.ref b30)] [])) (fun t k => XS.ifYes X37.here hx rfl (pc0 := 47) (pc' := 52) rfl (hb hby at_47) rfl (XT.i0_ne_t (by decide)) (by decide) (by decide) k) ?_
    refine own_via (F' := T37.setTop (mkF m 53 #[.val (.int p0), .val (.int (1 : Int32)), .val (.ref b28), .val (.ref b30)] [(.ref b28)])) (fun t k => XS.aloadN X37.here hx rfl (hb hby at_52) rfl rfl k) ?_
    have f38 := (Fc28.keep K30 nin0)
    refine own_callV X37 hx hZ (own_g_getRetryAfter l Z az hw b28 aZ T30.heap f38) hown f33 (hw _ (List.mem_of_getElem? (i := 40) rfl)) (hw _ (List.mem_of_getElem? (i := 41) rfl)) (hw _ (List.mem_of_getElem? (i := 43) rfl)) (hw _ (List.mem_of_getElem? (i := 42) rfl)) (hw _ (List.mem_of_getElem? (i := 2) rfl)) (hw _ (List.mem_of_getElem? (i := 44) rfl)) (notFace_of_selects (args := #[]) (mvT hZ (hw _ (List.mem_of_getElem? (i := 43) rfl)))) (by decide) e37 (g := (mkF m 53 #[.val (.int p0), .val (.int (1 : Int32)), .val (.ref b28), .val (.ref b30)] [(.ref b28)])) rfl (by rw [hml]; rfl) (argsL := []) (rest := []) rfl (lenOf own_pd5 rfl) rfl 0 (by show 2 * 0 + _ ≤ _; exact Nat.le_of_eq rfl) (hb hby at_53) (by decide) (by decide) (by decide) (by decide) ?_
    intro v39 T39 L39 hQ39 X39
    obtain ⟨rfl, e39, rfl⟩ := hQ39
    refine own_via (F' := T39.setTop (mkF m 56 #[.val (.int p0), .val (.int (1 : Int32)), .val (.ref b28), .val (.ref b30)] [(.ref aZ)])) (fun t k => k) ?_
    refine own_via (F' := T39.setTop (mkF m 61 #[.val (.int p0), .val (.int (1 : Int32)), .val (.ref b28), .val (.ref b30)] [])) (fun t k => XT.ifnonnullYes X39.here hx rfl (pc0 := 56) (pc' := 61) rfl (hb hby at_56) rfl (by decide) (by decide) k) ?_
    refine own_via (F' := T39.setTop (mkF m 62 #[.val (.int p0), .val (.int (1 : Int32)), .val (.ref b28), .val (.ref b30)] [(.ref b28)])) (fun t k => XS.aloadN X39.here hx rfl (hb hby at_61) rfl rfl k) ?_
    refine own_callV X39 hx hZ (own_g_getRetryAfter l Z az hw b28 aZ T30.heap f38) hown f33 (hw _ (List.mem_of_getElem? (i := 40) rfl)) (hw _ (List.mem_of_getElem? (i := 41) rfl)) (hw _ (List.mem_of_getElem? (i := 43) rfl)) (hw _ (List.mem_of_getElem? (i := 42) rfl)) (hw _ (List.mem_of_getElem? (i := 2) rfl)) (hw _ (List.mem_of_getElem? (i := 44) rfl)) (notFace_of_selects (args := #[]) (mvT hZ (hw _ (List.mem_of_getElem? (i := 43) rfl)))) (by decide) e39 (g := (mkF m 62 #[.val (.int p0), .val (.int (1 : Int32)), .val (.ref b28), .val (.ref b30)] [(.ref b28)])) rfl (by rw [hml]; rfl) (argsL := []) (rest := []) rfl (lenOf own_pd5 rfl) rfl 0 (by show 2 * 0 + _ ≤ _; exact Nat.le_of_eq rfl) (hb hby at_62) (by decide) (by decide) (by decide) (by decide) ?_
    intro v40 T40 L40 hQ40 X40
    obtain ⟨rfl, e40, rfl⟩ := hQ40
    refine own_via (F' := T40.setTop (mkF m 65 #[.val (.int p0), .val (.int (1 : Int32)), .val (.ref b28), .val (.ref b30)] [(.ref aZ)])) (fun t k => k) ?_
    refine own_via (F' := T40.setTop (mkF m 66 #[.val (.int p0), .val (.int (1 : Int32)), .val (.ref b28), .val (.ref b30)] [(.ref b30), (.ref aZ)])) (fun t k => XS.aloadN X40.here hx rfl (hb hby at_65) rfl rfl k) ?_
    refine own_callV X40 hx hZ (own_g_getRetryAfter l Z az hw b30 aZ T30.heap Fc30) hown E30 (hw _ (List.mem_of_getElem? (i := 40) rfl)) (hw _ (List.mem_of_getElem? (i := 41) rfl)) (hw _ (List.mem_of_getElem? (i := 43) rfl)) (hw _ (List.mem_of_getElem? (i := 42) rfl)) (hw _ (List.mem_of_getElem? (i := 2) rfl)) (hw _ (List.mem_of_getElem? (i := 44) rfl)) (notFace_of_selects (args := #[]) (mvT hZ (hw _ (List.mem_of_getElem? (i := 43) rfl)))) (by decide) e40 (g := (mkF m 66 #[.val (.int p0), .val (.int (1 : Int32)), .val (.ref b28), .val (.ref b30)] [(.ref b30), (.ref aZ)])) rfl (by rw [hml]; rfl) (argsL := []) (rest := [(.ref aZ)]) rfl (lenOf own_pd5 rfl) rfl 1 (by show 2 * 0 + _ ≤ _; exact Nat.le_of_eq rfl) (hb hby at_66) (by decide) (by decide) (by decide) (by decide) ?_
    intro v41 T41 L41 hQ41 X41
    obtain ⟨rfl, e41, rfl⟩ := hQ41
    refine own_via (F' := T41.setTop (mkF m 69 #[.val (.int p0), .val (.int (1 : Int32)), .val (.ref b28), .val (.ref b30)] [(.ref aZ), (.ref aZ)])) (fun t k => k) ?_
    have f43 := ((EZ0.keep K28).keep K30)
    refine own_callV X41 hx hZ (own_kq l Z az hw aZ T30.heap) hown f43 (hw _ (List.mem_of_getElem? (i := 45) rfl)) (hw _ (List.mem_of_getElem? (i := 46) rfl)) (hw _ (List.mem_of_getElem? (i := 48) rfl)) (hw _ (List.mem_of_getElem? (i := 47) rfl)) (hw _ (List.mem_of_getElem? (i := 7) rfl)) (hw _ (List.mem_of_getElem? (i := 49) rfl)) (notFace_of_selects (args := #[]) (mvT hZ (hw _ (List.mem_of_getElem? (i := 48) rfl)))) (by decide) e41 (g := (mkF m 69 #[.val (.int p0), .val (.int (1 : Int32)), .val (.ref b28), .val (.ref b30)] [(.ref aZ), (.ref aZ)])) rfl (by rw [hml]; rfl) (argsL := [(.ref aZ)]) (rest := []) rfl (lenOf own_pd6 rfl) rfl 0 (by show 2 * 0 + _ ≤ _; exact Nat.le_of_eq rfl) (hb hby at_69) (by decide) (by decide) (by decide) (by decide) ?_
    intro v42 T42 L42 hQ42 X42
    obtain ⟨rfl, e42, rfl⟩ := hQ42
    refine own_via (F' := T42.setTop (mkF m 72 #[.val (.int p0), .val (.int (1 : Int32)), .val (.ref b28), .val (.ref b30)] [(.int (1 : Int32))])) (fun t k => k) ?_
    exact own_retZ X42 hx hret hlk (hb hby at_72) ⟨rfl, (Fr.app (Fr.app (Fr.app (Fr.app (Fr.app (Fr.app (Fr.app (Fr.app (Fr.app (Fr.nil n0) M28) M30) (Fr.nil _)) (Fr.nil _)) (Fr.nil _)) (Fr.nil _)) (Fr.nil _)) (Fr.nil _)) (Fr.nil _))⟩ (by decide) (by decide)
set_option maxRecDepth 65536 in
set_option maxHeartbeats 40000000 in
theorem own_comes {Post : Tables → Env → Array Value → State → Outcome → State → Prop} (hpost : ∀ tb e args s v u, (limb_1_1.after args s (.returned v) u = true ∧ limb_1_2.after args s (.returned v) u = true ∧ True) → FrameEnd s (.returned v) u (Jvm.fieldLocs frame_1_writes args s ++ Jvm.arrayLocs frame_1_arrays args s ++ Jvm.staticLocs frame_1_statics s) 16 128 → Post tb e args s (.returned v) u) :
    ArmFor flags0 classFile x code maxLocals ret World_1 tables_1 room_1 Calls_1 rest_1 Pre_1 Post := by
  intro l hfl _ _ p e ha hc hk s m args below hf hA hF happ hP
  obtain ⟨hcalls, hrest, hpre⟩ := hP
  obtain ⟨-, -, -, hnamed, -, -, -, hat⟩ := (Spec.applies_iff hf).mp happ
  obtain ⟨hg, hn⟩ := and_e (Cond.before_iff.mp (show (Jvm.Cond.and given_1 narrow_1).before args s = true from hpre))
  obtain ⟨h1, hg⟩ := and_e hg
  have u0 := hg
  obtain ⟨w0, rfl⟩ : ∃ w0 : Value, args = #[w0] := by
    have hs : args.size = 1 := by simpa [Cond.value, given_1] using h1
    obtain ⟨L⟩ := args
    match L, hs with
    | [w0], _ => exact ⟨w0, rfl⟩
  have hw := fun d (hd : d ∈ tables_1) => atoms_spec (ws := Jvm.Cond.code x code maxLocals ret :: tables_1) hat d (List.mem_cons_of_mem _ hd)
  obtain ⟨p0, e0⟩ := is_v u0
  obtain rfl : w0 = (.int p0) := Option.some.inj e0
  obtain ⟨hsets, hown0⟩ := atoms_of _ (rest_1_c_eq ▸ (show rest_1_c.before _ s = true from hrest))
  have z1 := hsets _ (List.mem_of_getElem? (i := 1) rfl)
  have z2 := Cond.before_iff.mp (hsets _ (List.mem_of_getElem? (i := 2) rfl))
  obtain ⟨aZ, vz⟩ := exa_v z2
  have SZ := Sta.start vz (Or.inl z1)
  have EZ := Exa.start vz z2
  obtain ⟨n, o, h1, h2, h3, _, L, rfl, ⟨rfl, N⟩, hq⟩ := own_law l s _ hw p0 s.heap s.heap.size (Old.start s) aZ SZ EZ tables_1 p e ha hc hk s m _ below hf ((Spec.applies_iff_loose hf).mp happ).1 ⟨rfl, State.Warmed39.refl s, rfl⟩ trivial
  refine ⟨n, _, h1, h2, h3, hpost _ _ _ _ _ _ ⟨Cond.after_iff.mpr rfl, Cond.after_iff.mpr (eq_i res_at (Term.int_eval (1)) rfl), trivial⟩ ⟨hq.1, hq.2.1, (hq.2.2.sift fun y hy => Or.inr (N y hy)).mono (by decide) (by decide)⟩⟩
theorem main_1_1 : Claimed_1_1 := own_comes fun _ _ _ _ _ _ h hF => ⟨h.1, hF⟩
theorem main_1_2 : Claimed_1_2 := own_comes fun _ _ _ _ _ _ h hF => ⟨h.2.1, hF⟩
end Jvm.Pilot.@@N@@
namespace Jvm.Pilot.@@N@@
open Jvm Jvm.ClassFile Sem Op Lib Jvm.Free Jvm.Stand Jvm.Pilot.@@N@@.Jvm.D
/-! MADE BY PROGRAM (witnessworld.py) out of the Statement's table words and the real class files: 12 classes; the members and pool entries that the words name. The judged class is class 1, her method 1. -/
namespace start1
open Jvm.ClassFile
def u (s : String) : CpInfo := .utf8 (stringToUtf16 s)
/-- a pool by its gaps: so many unusable entries, then the entry; so many at the end -/
def gap : Nat → List CpInfo → List CpInfo
  | 0, r => r
  | n + 1, r => .unusable :: gap n r
def poolList (es : List (Nat × CpInfo)) (last : Nat) : List CpInfo := es.foldr (fun e r => gap e.1 (e.2 :: r)) (gap last [])
def pool (es : List (Nat × CpInfo)) (last : Nat) : Array CpInfo := ⟨poolList es last⟩
def fileOf (pool : Array CpInfo) (this : Nat) (attrs : Array Attribute := #[]) (ms : Array MethodInfo := #[]) (fl : Nat := 33) (sup : Nat := 0) (ifs : Array Nat := #[]) (fds : Array FieldInfo := #[]) : ClassFile where
  minorVersion := 0
  majorVersion := 65
  constantPool := pool
  accessFlags := fl
  thisClass := this
  superClass := sup
  interfaces := ifs
  fields := fds
  methods := ms
  attributes := attrs
def plain (name : String) (sup : Option ClassId) : Class where
  name := name
  kind := .ordinary
  loader := none
  accessFlags := 33
  super := sup
  interfaces := #[]
  cf := none
  fields := #[]
  methods := #[]
  instanceTypes := #[]
  staticTypes := #[]
  resolved := #[]
  callSites := []
  init := .initialized
  statics := none
  mirror := none

def pool0 : Array CpInfo := pool [(5, u "<init>"), (0, u "()V"), (1, .class_ 10), (1, u "java/lang/Object")] 113

def k0c0 : Code := { maxStack := 0, maxLocals := 1, code := object_method_1_code, exceptionTable := #[], attributes := #[] }
def k0m0 : Method := { name := "<init>", desc := "()V", sig := { parameters := [], returnType := none }, accessFlags := 1, code := some k0c0 }
/-- java/lang/Object -/
def k0 : Class := { plain "java/lang/Object" none with
  accessFlags := 33
  interfaces := #[]
  cf := some (fileOf pool0 8 #[] #[{ accessFlags := 1, nameIndex := 5, descriptorIndex := 6, attributes := #[] }] 33 0 #[] #[])
  fields := #[]
  methods := #[k0m0]
  instanceTypes := #[]
  staticTypes := #[]
  resolved := Array.replicate 124 none
  statics := none }

def pool1 : Array CpInfo := pool [(2, .class_ 4), (1, u "java/lang/Object"), (0, u "<init>"), (0, u "()V"), (0, .methodref 8 9), (0, .class_ 10), (0, .nameAndType 11 12), (0, u "com/example/refill/refill/bucket/Decision"), (0, u "fallback"), (0, u "(Z)Lcom/example/refill/refill/bucket/Decision;"), (0, .methodref 8 14), (0, .nameAndType 15 16), (0, u "allowed"), (0, u "(J)Lcom/example/refill/refill/bucket/Decision;"), (0, .methodref 8 18), (0, .nameAndType 19 20), (0, u "isAllowed"), (0, u "()Z"), (0, .methodref 8 22), (0, .nameAndType 23 24), (0, u "getRemaining"), (0, u "()J"), (0, .methodref 8 26), (0, .nameAndType 27 20), (0, u "isFallback"), (0, .methodref 8 29), (0, .nameAndType 30 31), (0, u "getRetryAfter"), (0, u "()Ljava/time/Duration;"), (0, .methodref 33 34), (0, .class_ 35), (0, .nameAndType 36 37), (0, u "java/time/Duration"), (0, u "equals"), (0, u "(Ljava/lang/Object;)Z"), (0, .class_ 39), (0, u "com/example/refill/refill/bucket/DecisionFallbackPinLaw"), (2, u "law"), (0, u "(I)Z")] 3

def k1m0 : Method := { name := "<init>", desc := "()V", sig := { parameters := [], returnType := none }, accessFlags := 1, code := none }
def k1c1 : Code := { maxStack := 4, maxLocals := 4, code := code, exceptionTable := #[], attributes := #[] }
def k1m1 : Method := { name := "law", desc := "(I)Z", sig := { parameters := [.int], returnType := some .boolean }, accessFlags := 9, code := some k1c1 }
/-- com/example/refill/refill/bucket/DecisionFallbackPinLaw -/
def k1 : Class := { plain "com/example/refill/refill/bucket/DecisionFallbackPinLaw" (some 0) with
  accessFlags := 49
  interfaces := #[]
  cf := some (fileOf pool1 38 #[] #[{ accessFlags := 1, nameIndex := 5, descriptorIndex := 6, attributes := #[] }, { accessFlags := 9, nameIndex := 42, descriptorIndex := 43, attributes := #[] }] 49 2 #[] #[])
  fields := #[]
  methods := #[k1m0, k1m1]
  instanceTypes := #[]
  staticTypes := #[]
  resolved := Array.replicate 47 none
  statics := none }

def pool2 : Array CpInfo := pool [(1, .methodref 2 3), (0, .class_ 4), (0, .nameAndType 5 6), (0, u "java/lang/Object"), (0, u "<init>"), (0, u "()V"), (0, .fieldref 8 9), (0, .class_ 10), (0, .nameAndType 11 12), (0, u "com/example/refill/refill/bucket/Decision"), (0, u "allowed"), (0, u "Z"), (0, .fieldref 8 14), (0, .nameAndType 15 16), (0, u "remaining"), (0, u "J"), (0, .fieldref 8 18), (0, .nameAndType 19 20), (0, u "retryAfter"), (0, u "Ljava/time/Duration;"), (0, .fieldref 8 22), (0, .nameAndType 23 12), (0, u "fallback"), (0, .fieldref 25 26), (0, .class_ 27), (0, .nameAndType 28 20), (0, u "java/time/Duration"), (0, u "ZERO"), (0, .methodref 8 30), (0, .nameAndType 5 31), (0, u "(ZJLjava/time/Duration;Z)V"), (37, u "(J)Lcom/example/refill/refill/bucket/Decision;"), (2, u "(Z)Lcom/example/refill/refill/bucket/Decision;"), (0, u "isAllowed"), (0, u "()Z"), (0, u "getRemaining"), (0, u "()J"), (0, u "getRetryAfter"), (0, u "()Ljava/time/Duration;"), (0, u "isFallback")] 22

def k2c0 : Code := { maxStack := 3, maxLocals := 6, code := prog_2_method_1_code, exceptionTable := #[], attributes := #[] }
def k2m0 : Method := { name := "<init>", desc := "(ZJLjava/time/Duration;Z)V", sig := { parameters := [.boolean, .long, (.object "java/time/Duration"), .boolean], returnType := none }, accessFlags := 2, code := some k2c0 }
def k2c1 : Code := { maxStack := 7, maxLocals := 2, code := prog_2_method_2_code, exceptionTable := #[], attributes := #[] }
def k2m1 : Method := { name := "allowed", desc := "(J)Lcom/example/refill/refill/bucket/Decision;", sig := { parameters := [.long], returnType := some (.object "com/example/refill/refill/bucket/Decision") }, accessFlags := 9, code := some k2c1 }
def k2c2 : Code := { maxStack := 7, maxLocals := 1, code := prog_2_method_4_code, exceptionTable := #[], attributes := #[] }
def k2m2 : Method := { name := "fallback", desc := "(Z)Lcom/example/refill/refill/bucket/Decision;", sig := { parameters := [.boolean], returnType := some (.object "com/example/refill/refill/bucket/Decision") }, accessFlags := 9, code := some k2c2 }
def k2c3 : Code := { maxStack := 1, maxLocals := 1, code := prog_2_method_5_code, exceptionTable := #[], attributes := #[] }
def k2m3 : Method := { name := "isAllowed", desc := "()Z", sig := { parameters := [], returnType := some .boolean }, accessFlags := 1, code := some k2c3 }
def k2c4 : Code := { maxStack := 2, maxLocals := 1, code := prog_2_method_6_code, exceptionTable := #[], attributes := #[] }
def k2m4 : Method := { name := "getRemaining", desc := "()J", sig := { parameters := [], returnType := some .long }, accessFlags := 1, code := some k2c4 }
def k2c5 : Code := { maxStack := 1, maxLocals := 1, code := prog_2_method_7_code, exceptionTable := #[], attributes := #[] }
def k2m5 : Method := { name := "getRetryAfter", desc := "()Ljava/time/Duration;", sig := { parameters := [], returnType := some (.object "java/time/Duration") }, accessFlags := 1, code := some k2c5 }
def k2c6 : Code := { maxStack := 1, maxLocals := 1, code := prog_2_method_8_code, exceptionTable := #[], attributes := #[] }
def k2m6 : Method := { name := "isFallback", desc := "()Z", sig := { parameters := [], returnType := some .boolean }, accessFlags := 1, code := some k2c6 }
/-- com/example/refill/refill/bucket/Decision -/
def k2 : Class := { plain "com/example/refill/refill/bucket/Decision" (some 0) with
  accessFlags := 49
  interfaces := #[]
  cf := some (fileOf pool2 8 #[] #[{ accessFlags := 2, nameIndex := 5, descriptorIndex := 31, attributes := #[] }, { accessFlags := 9, nameIndex := 11, descriptorIndex := 69, attributes := #[] }, { accessFlags := 9, nameIndex := 23, descriptorIndex := 72, attributes := #[] }, { accessFlags := 1, nameIndex := 73, descriptorIndex := 74, attributes := #[] }, { accessFlags := 1, nameIndex := 75, descriptorIndex := 76, attributes := #[] }, { accessFlags := 1, nameIndex := 77, descriptorIndex := 78, attributes := #[] }, { accessFlags := 1, nameIndex := 79, descriptorIndex := 74, attributes := #[] }] 49 2 #[] #[{ accessFlags := 18, nameIndex := 11, descriptorIndex := 12, attributes := #[] }, { accessFlags := 18, nameIndex := 15, descriptorIndex := 16, attributes := #[] }, { accessFlags := 18, nameIndex := 19, descriptorIndex := 20, attributes := #[] }, { accessFlags := 18, nameIndex := 23, descriptorIndex := 12, attributes := #[] }])
  fields := #[{ name := "allowed", type := .boolean, accessFlags := 18, slot := 0, constantValue := 0 }, { name := "remaining", type := .long, accessFlags := 18, slot := 1, constantValue := 0 }, { name := "retryAfter", type := (.object "java/time/Duration"), accessFlags := 18, slot := 2, constantValue := 0 }, { name := "fallback", type := .boolean, accessFlags := 18, slot := 3, constantValue := 0 }]
  methods := #[k2m0, k2m1, k2m2, k2m3, k2m4, k2m5, k2m6]
  instanceTypes := #[.boolean, .long, (.object "java/time/Duration"), .boolean]
  staticTypes := #[]
  resolved := Array.replicate 102 none
  statics := none }

def pool3 : Array CpInfo := pool [(1, .class_ 2), (0, u "java/time/temporal/TemporalAmount"), (0, .class_ 4), (0, u "java/lang/Object")] 11

/-- java/time/temporal/TemporalAmount -/
def k3 : Class := { plain "java/time/temporal/TemporalAmount" (some 0) with
  accessFlags := 1537
  interfaces := #[]
  cf := some (fileOf pool3 1 #[] #[] 1537 3 #[] #[])
  fields := #[]
  methods := #[]
  instanceTypes := #[]
  staticTypes := #[]
  resolved := Array.replicate 16 none
  statics := none }

def pool4 : Array CpInfo := pool [(1, .class_ 2), (0, u "java/lang/Comparable"), (0, .class_ 4), (0, u "java/lang/Object")] 7

/-- java/lang/Comparable -/
def k4 : Class := { plain "java/lang/Comparable" (some 0) with
  accessFlags := 1537
  interfaces := #[]
  cf := some (fileOf pool4 1 #[] #[] 1537 3 #[] #[])
  fields := #[]
  methods := #[]
  instanceTypes := #[]
  staticTypes := #[]
  resolved := Array.replicate 12 none
  statics := none }

def pool5 : Array CpInfo := pool [(1, .class_ 2), (0, u "java/io/Serializable"), (0, .class_ 4), (0, u "java/lang/Object")] 2

/-- java/io/Serializable -/
def k5 : Class := { plain "java/io/Serializable" (some 0) with
  accessFlags := 1537
  interfaces := #[]
  cf := some (fileOf pool5 1 #[] #[] 1537 3 #[] #[])
  fields := #[]
  methods := #[]
  instanceTypes := #[]
  staticTypes := #[]
  resolved := Array.replicate 7 none
  statics := none }

def pool6 : Array CpInfo := pool [(11, .class_ 13), (1, u "java/time/Duration"), (20, u "ZERO"), (0, u "Ljava/time/Duration;"), (13, .class_ 51), (1, u "java/time/temporal/TemporalAmount"), (27, .class_ 81), (1, u "java/time/Duration$Lazy"), (35, u "seconds"), (101, .class_ 220), (0, u "java/lang/Object"), (2, u "J"), (2, u "nanos"), (0, u "I"), (11, .class_ 241), (1, u "java/time/Duration$DurationUnits"), (27, .class_ 271), (1, u "java/time/Duration$1"), (91, u "BI_NANOS_PER_SECOND"), (0, u "Ljava/math/BigInteger;"), (120, .class_ 486), (0, u "java/lang/Comparable"), (0, .class_ 488), (0, u "java/io/Serializable"), (0, u "serialVersionUID"), (129, u "equals"), (0, u "(Ljava/lang/Object;)Z")] 35

def k6c0 : Code := { maxStack := 4, maxLocals := 3, code := jdk_2316_method_67_code, exceptionTable := #[], attributes := #[] }
def k6m0 : Method := { name := "equals", desc := "(Ljava/lang/Object;)Z", sig := { parameters := [(.object "java/lang/Object")], returnType := some .boolean }, accessFlags := 1, code := some k6c0 }
/-- java/time/Duration -/
def k6 : Class := { plain "java/time/Duration" (some 0) with
  accessFlags := 49
  interfaces := #[3, 4, 5]
  cf := some (fileOf pool6 11 #[.nestMembers #[269, 239, 79]] #[{ accessFlags := 1, nameIndex := 619, descriptorIndex := 620, attributes := #[] }] 49 219 #[49, 485, 487] #[{ accessFlags := 25, nameIndex := 34, descriptorIndex := 35, attributes := #[] }, { accessFlags := 26, nameIndex := 489, descriptorIndex := 223, attributes := #[] }, { accessFlags := 26, nameIndex := 363, descriptorIndex := 364, attributes := #[] }, { accessFlags := 18, nameIndex := 117, descriptorIndex := 223, attributes := #[] }, { accessFlags := 18, nameIndex := 226, descriptorIndex := 227, attributes := #[] }])
  fields := #[{ name := "ZERO", type := (.object "java/time/Duration"), accessFlags := 25, slot := 0, constantValue := 0 }, { name := "serialVersionUID", type := .long, accessFlags := 26, slot := 1, constantValue := 0 }, { name := "BI_NANOS_PER_SECOND", type := (.object "java/math/BigInteger"), accessFlags := 26, slot := 2, constantValue := 0 }, { name := "seconds", type := .long, accessFlags := 18, slot := 0, constantValue := 0 }, { name := "nanos", type := .int, accessFlags := 18, slot := 1, constantValue := 0 }]
  methods := #[k6m0]
  instanceTypes := #[.long, .int]
  staticTypes := #[(.object "java/time/Duration"), .long, (.object "java/math/BigInteger")]
  resolved := Array.replicate 656 none
  statics := some 0 }

def pool7 : Array CpInfo := pool [(1, u "java/lang/Cloneable"), (0, .class_ 1), (0, u "java/lang/Object"), (0, .class_ 3)] 3

/-- java/lang/Cloneable -/
def k7 : Class := { plain "java/lang/Cloneable" (some 0) with
  accessFlags := 1537
  interfaces := #[]
  cf := some (fileOf pool7 2 #[] #[] 1537 4 #[] #[])
  fields := #[]
  methods := #[]
  instanceTypes := #[]
  staticTypes := #[]
  resolved := Array.replicate 8 none
  statics := none }

/-- the primitive byte -/
def k8 : Class := { plain "byte" none with kind := .primitive 'B', accessFlags := 0x411 }
/-- [B -/
def k9 : Class := { plain "[B" (some 0) with kind := .array 8 .byte, interfaces := #[7, 5], accessFlags := 1041 }

/-- the primitive int -/
def k10 : Class := { plain "int" none with kind := .primitive 'I', accessFlags := 0x411 }
/-- [I -/
def k11 : Class := { plain "[I" (some 0) with kind := .array 10 .int, interfaces := #[7, 5], accessFlags := 1041 }

def heap : Heap := #[{ cls := 6, slots := #[.ref 1, .long 0, .null], vm := .statics 6 },
  { cls := 6, slots := #[.long 0, .int 0], vm := .none }]
def classes : Array Class := #[k0, k1, k2, k3, k4, k5, k6, k7, k8, k9, k10, k11]
def interned : List (Array UInt16 × Addr) := []
def slotsUsed : Nat := 5
def theMethod : MethodId := ⟨1, 1⟩
def args0 : Array Value := #[.int 7]
def aboutOver (below : List Frame) : State where
  vm := { classes := classes, interned := interned.toArray }
  heap := heap
  slotsUsed := slotsUsed
  threads := #[{ frames := .invoking theMethod args0 :: below }]
def below0 : List Frame := [.native { method := ⟨0, 0⟩, args := #[] }]
def about1 : State := aboutOver below0
def p0 : Program := .bare "" "" ""
def e0 : Env := launch0.env 0 0 0
theorem w_frames : about1.frames = Frame.invoking theMethod args0 :: below0 := rfl
set_option maxRecDepth 65536 in
theorem w_args : argsFit about1.vm theMethod args0 = true := by decide +kernel
set_option maxRecDepth 65536 in
theorem w_heap : heapFits about1 = true := by decide +kernel
set_option maxRecDepth 65536 in
theorem w_runnable : about1.curStatus? = some .runnable := by decide +kernel
set_option maxRecDepth 65536 in
theorem w_alone : about1.alone = true := by decide +kernel
set_option maxRecDepth 65536 in
theorem w_named : about1.methodNamed? x = some theMethod := by decide +kernel
set_option maxRecDepth 65536 in
theorem w_hears : about1.hears theMethod below0 = true := by decide +kernel
set_option maxRecDepth 65536 in
theorem w_ripe : about1.ripe theMethod args0 below0 = true := by decide +kernel
theorem w_running : about1.status = .running := rfl
set_option maxRecDepth 65536 in
theorem w_room : about1.hasRoom e0.platform room_1 = true :=
  launch0.hasRoom_least _ room_1 (by decide +kernel) (by decide +kernel) (by decide +kernel) (by decide +kernel) (by decide +kernel) (by decide +kernel)
theorem allAtoms_all (ts : List Jvm.Cond) (a : Array Jvm.Value) (st : Jvm.State) : (allAtoms ts).before a st = ts.all (fun c => c.before a st) := by
  induction ts with
  | nil => rfl
  | cons c t ih =>
    show (Jvm.Cond.and c (allAtoms t)).before a st = _
    rw [Jvm.Cond.before_and, ih, List.all_cons]
def words1 : List Jvm.Cond := Jvm.Cond.code x code maxLocals ret :: tables_1
/-- a 'code' word, met by the world's own term for the bytes: nothing is compared byte by byte -/
theorem code_word {y : MethodName} {bytes : ByteArray} {mx : Nat} {rt : Option FieldType} {a : Array Value} {s : State} {m : MethodId} {meth : Method} {c : Code} (h1 : s.methodNamed? y = some m) (h2 : s.vm.method? m = some meth) (h3 : meth.code = some c) (h4 : c.code = bytes)
    (h5 : (c.maxLocals == mx && c.exceptionTable.isEmpty && decide (c.maxStack ≤ mostOperands) && decide (meth.sig.returnType = rt) && !meth.locks && decide (parseMethodDescriptor y.desc = some meth.sig)) = true) : (Jvm.Cond.code y bytes mx rt).before a s = true := by
  simp only [Bool.and_eq_true, beq_iff_eq, Bool.not_eq_true', decide_eq_true_eq] at h5
  obtain ⟨⟨⟨⟨⟨g1, g2⟩, g3⟩, g4⟩, g5⟩, g6⟩ := h5
  simp [Cond.before, Cond.holds, Cond.value, h1, h2, h3, h4, g1, g2, g3, g4, g5, g6]
def isCode : Jvm.Cond → Bool
  | .code _ _ _ _ => true
  | _ => false
theorem all_split {L : List Jvm.Cond} {P : Jvm.Cond → Bool} (h1 : L.all (fun c => isCode c || P c) = true) (h2 : ∀ c ∈ L.filter isCode, P c = true) : L.all P = true := by
  refine List.all_eq_true.mpr fun c hc => ?_
  have h := List.all_eq_true.mp h1 c hc
  rcases Bool.eq_false_or_eq_true (isCode c) with hi | hi
  · exact h2 c (List.mem_filter.mpr ⟨hc, hi⟩)
  · simpa [hi] using h
set_option maxRecDepth 65536 in
theorem w_c0 : (Jvm.Cond.code x code maxLocals ret).before args0 about1 = true := code_word (m := ⟨1, 1⟩) (meth := k1m1) (c := k1c1) (by decide +kernel) rfl rfl rfl (by decide +kernel)
set_option maxRecDepth 65536 in
theorem w_c1 : (Jvm.Cond.code ({ cls := "com/example/refill/refill/bucket/Decision", name := "fallback", desc := "(Z)Lcom/example/refill/refill/bucket/Decision;" } : Jvm.MethodName) prog_2_method_4_code (1 : Nat) (Option.some (Jvm.ClassFile.FieldType.object "com/example/refill/refill/bucket/Decision"))).before args0 about1 = true := code_word (m := ⟨2, 2⟩) (meth := k2m2) (c := k2c2) (by decide +kernel) rfl rfl rfl (by decide +kernel)
set_option maxRecDepth 65536 in
theorem w_c2 : (Jvm.Cond.code ({ cls := "com/example/refill/refill/bucket/Decision", name := "<init>", desc := "(ZJLjava/time/Duration;Z)V" } : Jvm.MethodName) prog_2_method_1_code (6 : Nat) (Option.none : Option Jvm.ClassFile.FieldType)).before args0 about1 = true := code_word (m := ⟨2, 0⟩) (meth := k2m0) (c := k2c0) (by decide +kernel) rfl rfl rfl (by decide +kernel)
set_option maxRecDepth 65536 in
theorem w_c3 : (Jvm.Cond.code ({ cls := "java/lang/Object", name := "<init>", desc := "()V" } : Jvm.MethodName) object_method_1_code (1 : Nat) (Option.none : Option Jvm.ClassFile.FieldType)).before args0 about1 = true := code_word (m := ⟨0, 0⟩) (meth := k0m0) (c := k0c0) (by decide +kernel) rfl rfl rfl (by decide +kernel)
set_option maxRecDepth 65536 in
theorem w_c4 : (Jvm.Cond.code ({ cls := "com/example/refill/refill/bucket/Decision", name := "allowed", desc := "(J)Lcom/example/refill/refill/bucket/Decision;" } : Jvm.MethodName) prog_2_method_2_code (2 : Nat) (Option.some (Jvm.ClassFile.FieldType.object "com/example/refill/refill/bucket/Decision"))).before args0 about1 = true := code_word (m := ⟨2, 1⟩) (meth := k2m1) (c := k2c1) (by decide +kernel) rfl rfl rfl (by decide +kernel)
set_option maxRecDepth 65536 in
theorem w_c5 : (Jvm.Cond.code ({ cls := "com/example/refill/refill/bucket/Decision", name := "isAllowed", desc := "()Z" } : Jvm.MethodName) prog_2_method_5_code (1 : Nat) (Option.some Jvm.ClassFile.FieldType.boolean)).before args0 about1 = true := code_word (m := ⟨2, 3⟩) (meth := k2m3) (c := k2c3) (by decide +kernel) rfl rfl rfl (by decide +kernel)
set_option maxRecDepth 65536 in
theorem w_c6 : (Jvm.Cond.code ({ cls := "com/example/refill/refill/bucket/Decision", name := "getRemaining", desc := "()J" } : Jvm.MethodName) prog_2_method_6_code (1 : Nat) (Option.some Jvm.ClassFile.FieldType.long)).before args0 about1 = true := code_word (m := ⟨2, 4⟩) (meth := k2m4) (c := k2c4) (by decide +kernel) rfl rfl rfl (by decide +kernel)
set_option maxRecDepth 65536 in
theorem w_c7 : (Jvm.Cond.code ({ cls := "com/example/refill/refill/bucket/Decision", name := "isFallback", desc := "()Z" } : Jvm.MethodName) prog_2_method_8_code (1 : Nat) (Option.some Jvm.ClassFile.FieldType.boolean)).before args0 about1 = true := code_word (m := ⟨2, 6⟩) (meth := k2m6) (c := k2c6) (by decide +kernel) rfl rfl rfl (by decide +kernel)
set_option maxRecDepth 65536 in
theorem w_c8 : (Jvm.Cond.code ({ cls := "com/example/refill/refill/bucket/Decision", name := "getRetryAfter", desc := "()Ljava/time/Duration;" } : Jvm.MethodName) prog_2_method_7_code (1 : Nat) (Option.some (Jvm.ClassFile.FieldType.object "java/time/Duration"))).before args0 about1 = true := code_word (m := ⟨2, 5⟩) (meth := k2m5) (c := k2c5) (by decide +kernel) rfl rfl rfl (by decide +kernel)
set_option maxRecDepth 65536 in
theorem w_c9 : (Jvm.Cond.code ({ cls := "java/time/Duration", name := "equals", desc := "(Ljava/lang/Object;)Z" } : Jvm.MethodName) jdk_2316_method_67_code (3 : Nat) (Option.some Jvm.ClassFile.FieldType.boolean)).before args0 about1 = true := code_word (m := ⟨6, 0⟩) (meth := k6m0) (c := k6c0) (by decide +kernel) rfl rfl rfl (by decide +kernel)
def codes1 : List Jvm.Cond := [Jvm.Cond.code x code maxLocals ret, Jvm.Cond.code ({ cls := "com/example/refill/refill/bucket/Decision", name := "fallback", desc := "(Z)Lcom/example/refill/refill/bucket/Decision;" } : Jvm.MethodName) prog_2_method_4_code (1 : Nat) (Option.some (Jvm.ClassFile.FieldType.object "com/example/refill/refill/bucket/Decision")), Jvm.Cond.code ({ cls := "com/example/refill/refill/bucket/Decision", name := "<init>", desc := "(ZJLjava/time/Duration;Z)V" } : Jvm.MethodName) prog_2_method_1_code (6 : Nat) (Option.none : Option Jvm.ClassFile.FieldType), Jvm.Cond.code ({ cls := "java/lang/Object", name := "<init>", desc := "()V" } : Jvm.MethodName) object_method_1_code (1 : Nat) (Option.none : Option Jvm.ClassFile.FieldType), Jvm.Cond.code ({ cls := "com/example/refill/refill/bucket/Decision", name := "allowed", desc := "(J)Lcom/example/refill/refill/bucket/Decision;" } : Jvm.MethodName) prog_2_method_2_code (2 : Nat) (Option.some (Jvm.ClassFile.FieldType.object "com/example/refill/refill/bucket/Decision")), Jvm.Cond.code ({ cls := "com/example/refill/refill/bucket/Decision", name := "isAllowed", desc := "()Z" } : Jvm.MethodName) prog_2_method_5_code (1 : Nat) (Option.some Jvm.ClassFile.FieldType.boolean), Jvm.Cond.code ({ cls := "com/example/refill/refill/bucket/Decision", name := "getRemaining", desc := "()J" } : Jvm.MethodName) prog_2_method_6_code (1 : Nat) (Option.some Jvm.ClassFile.FieldType.long), Jvm.Cond.code ({ cls := "com/example/refill/refill/bucket/Decision", name := "isFallback", desc := "()Z" } : Jvm.MethodName) prog_2_method_8_code (1 : Nat) (Option.some Jvm.ClassFile.FieldType.boolean), Jvm.Cond.code ({ cls := "com/example/refill/refill/bucket/Decision", name := "getRetryAfter", desc := "()Ljava/time/Duration;" } : Jvm.MethodName) prog_2_method_7_code (1 : Nat) (Option.some (Jvm.ClassFile.FieldType.object "java/time/Duration")), Jvm.Cond.code ({ cls := "java/time/Duration", name := "equals", desc := "(Ljava/lang/Object;)Z" } : Jvm.MethodName) jdk_2316_method_67_code (3 : Nat) (Option.some Jvm.ClassFile.FieldType.boolean)]
set_option maxRecDepth 65536 in
theorem codes_eq : words1.filter isCode = codes1 := rfl
theorem w_codes : ∀ c ∈ words1.filter isCode, c.before args0 about1 = true := by
  rw [codes_eq]
  intro c hc
  simp only [codes1, List.mem_cons, List.not_mem_nil, or_false] at hc
  rcases hc with rfl | rfl | rfl | rfl | rfl | rfl | rfl | rfl | rfl | rfl
  · exact w_c0
  · exact w_c1
  · exact w_c2
  · exact w_c3
  · exact w_c4
  · exact w_c5
  · exact w_c6
  · exact w_c7
  · exact w_c8
  · exact w_c9
set_option maxRecDepth 65536 in
theorem w_t1 : (words1.take 24).all (fun c => isCode c || c.before args0 about1) = true := by decide +kernel
set_option maxRecDepth 65536 in
theorem w_t2 : ((words1.drop 24).take 24).all (fun c => isCode c || c.before args0 about1) = true := by decide +kernel
set_option maxRecDepth 65536 in
theorem w_t3 : ((words1.drop 24).drop 24).all (fun c => isCode c || c.before args0 about1) = true := by decide +kernel
theorem w_tables : (allAtoms (Jvm.Cond.code x code maxLocals ret :: tables_1)).before args0 about1 = true := by
  rw [allAtoms_all]
  show words1.all (fun c => c.before args0 about1) = true
  refine all_split ?_ w_codes
  rw [← List.take_append_drop 24 words1, List.all_append, w_t1, ← List.take_append_drop 24 (words1.drop 24), List.all_append, w_t2, w_t3]
  rfl
set_option maxRecDepth 65536 in
theorem w_rest : rest_1_c.before args0 about1 = true := by decide +kernel
set_option maxRecDepth 65536 in
theorem w_case : (Jvm.Cond.and given_1 narrow_1).before args0 about1 = true := by decide +kernel
theorem w_applies : (headSpec (Jvm.Cond.code x code maxLocals ret :: tables_1) room_1).applies x e0.platform about1 = true :=
  (Spec.applies_iff w_frames).mpr ⟨w_running, w_runnable, w_alone, w_named, w_hears, w_ripe, w_room, w_tables⟩
theorem atStart : AtStart classFile x code maxLocals ret World_1 tables_1 room_1 Calls_1 rest_1 Pre_1 launch0 p0 e0 about1 theMethod args0 below0 :=
  ⟨lists_1, trivial, launch0.admits_env _ _ _, launch0.least_env, fairChoices_fair.cas, fairChoices_fair.clock, w_frames, w_args, w_heap, w_applies, trivial, w_rest, w_case⟩
end start1
theorem witness_1 : WitnessClaimed_1 := ⟨start1.p0, start1.e0, start1.about1, start1.theMethod, start1.args0, start1.below0, start1.atStart⟩
end Jvm.Pilot.@@N@@
