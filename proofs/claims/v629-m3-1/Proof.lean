import JvmDerived
import JvmDerived.Pilot.@@N@@Statement
import JvmDerived.Pilot.@@N@@Code
set_option linter.unusedVariables false
set_option linter.unusedSimpArgs false
namespace Jvm.Pilot.@@N@@
open Jvm Jvm.ClassFile Sem Op Lib Jvm.Free Jvm.Stand Jvm.LawKit Jvm.RoadKit Bundle Jvm.Pilot.@@N@@.Jvm.D
theorem own_n {a b : Nat} (h : @LT.lt Addr _ a b) : a < b := h
section Own
variable {p : Program} {l : Launch} {e : Env} {R : Room} {s : State} {m : MethodId} {args : Array Value} {below : List Frame} {meth : Method} {c : Code} {T : State} {locs : List Loc} {cells slots : Nat} {Z : State} {a0 : Array Value} {h h' : Heap} {Q : Option Value → Heap → List Loc → Prop} {C N : Nat}
/-- the run from F comes to the method's end, and Q holds of what it returns, of the heap and of the slots written -/
def own_Go (p : Program) (e : Env) (below : List Frame) (s : State) (Q : Option Value → Heap → List Loc → Prop) (C N : Nat) (F : State) : Prop :=
  ∃ s₂ o, Steps p.tables e below F s₂ ∧ s₂.status = .running ∧ Ended s₂ below o ∧ ∃ v L, o = .returned v ∧ Q v s₂.heap L ∧ FrameEnd s o s₂ L C N
theorem own_via {F F' : State} (k : ∀ t, Steps p.tables e below F' t → Steps p.tables e below F t) (h : own_Go p e below s Q C N F') : own_Go p e below s Q C N F := by
  obtain ⟨s₂, o, h1, r⟩ := h
  exact ⟨s₂, o, k _ h1, r⟩
/-- a method's contract: from the arguments as' and the heap h0 it returns, and Q holds -/
def own_Con (l : Launch) (Z : State) (y : MethodName) (bytes : ByteArray) (maxL : Nat) (ret : Option FieldType) (rm : Room) (as' : Array Value) (h0 : Heap) (Q : Option Value → Heap → List Loc → Prop) : Prop :=
  ∀ ws : List Jvm.Cond, MetFree l y (head1 (Jvm.Cond.code y bytes maxL ret :: ws) rm) (fun a U => a = as' ∧ Z.Warmed39 U.vm ∧ U.heap = h0) (fun _ _ _ _ _ => True) (fun _ U o U' => ∃ v L, o = .returned v ∧ Q v U'.heap L ∧ FrameEnd U o U' L rm.cells rm.slots)
theorem own_con {y : MethodName} {bytes : ByteArray} {maxL : Nat} {ret : Option FieldType} {rm : Room} {as' : Array Value} {h0 : Heap} (hp : plainName y.cls = true)
    (body : ∀ (p : Program) (e : Env) (s : State) (m : MethodId) (below : List Frame) (meth : Method) (c : Code) (T : State), p.tables.exec = Jvm.exec → c.code = bytes → c.maxLocals = maxL → Z.Warmed39 s.vm → s.vm.findClass y.cls = some m.cls → meth.name = y.name → meth.sig.returnType = ret → meth.locks = false →
      Stand p l e rm s m as' below meth c T [] 0 0 → T.heap = h0 → s.heap = h0 → own_Go p e below s Q rm.cells rm.slots (T.setTop (entryFrame m as' maxL))) : own_Con l Z y bytes maxL ret rm as' h0 Q := by
  intro ws
  refine MetFree.of_bodySF (plainFor_of_name hp) hisR ?_
  intro p e s m args below meth c s₁ Bd hml0 hP hK
  obtain ⟨ha, hZ, hh⟩ := hP
  subst ha
  exact body p e s m below meth c s₁ Bd.exec Bd.bytes hml0 hZ (findClass_of_methodNamed Bd.named) (name_of_methodNamed Bd.named Bd.method).1 Bd.returns Bd.notSynchronized (Stand.of_body Bd) (by rw [← hh, Bd.state]; rfl) hh
theorem own_leave (X : Stand p l e R s m args below meth c T locs cells slots) {F : JFrame} {v : Option Value} (hv : meth.sig.returnType = none → v = none) (hlk : meth.locks = false)
    (k : ∀ fs, (∀ (f : JFrame) (acts : List Action), f.method = m → f.locked = none → f.entered = [] → (doReturn e (T.setTop f) acts v).1 = T.setFrames fs) → Steps p.tables e below (T.setTop F) (T.setFrames fs))
    (hQ : Q v T.heap locs) (hc : cells ≤ C) (hn : slots ≤ N) : own_Go p e below s Q C N (T.setTop F) := by
  obtain ⟨fs, hr, hrun, hended, hW, hsame⟩ := X.leave (v := v) hv hlk
  exact ⟨_, _, k fs hr, hrun, hended, v, locs, rfl, hQ, ⟨v, rfl⟩, hW, hsame.mono hc hn⟩
theorem own_ret0 (X : Stand p l e R s m args below meth c T locs cells slots) (hx : p.tables.exec = Jvm.exec) {pc : Nat} {Ls : Array Slot} (hret : meth.sig.returnType = none) (hlk : meth.locks = false) (hd : decode c.code pc = .ok (.return_, 1))
    (hQ : Q none T.heap locs) (hc : cells ≤ C) (hn : slots ≤ N) : own_Go p e below s Q C N (T.setTop (mkF m pc Ls [])) :=
  own_leave X (fun _ => rfl) hlk (fun fs hr => X.returnOut hx hret hd hr) hQ hc hn
theorem own_retZ (X : Stand p l e R s m args below meth c T locs cells slots) (hx : p.tables.exec = Jvm.exec) {pc : Nat} {Ls : Array Slot} {z : Int32} {rest : List Value} (hret : meth.sig.returnType = some .boolean) (hlk : meth.locks = false) (hd : decode c.code pc = .ok (.ireturn, 1))
    (hQ : Q (some (.int (nar .boolean z))) T.heap locs) (hc : cells ≤ C) (hn : slots ≤ N) : own_Go p e below s Q C N (T.setTop (mkF m pc Ls (.int z :: rest))) :=
  own_leave X (fun h => by rw [hret] at h; cases h) hlk (fun fs hr => retN X hx (t := .boolean) hret (by simp) hd hr) hQ hc hn
theorem own_retI (X : Stand p l e R s m args below meth c T locs cells slots) (hx : p.tables.exec = Jvm.exec) {pc : Nat} {Ls : Array Slot} {z : Int32} {rest : List Value} (hret : meth.sig.returnType = some .int) (hlk : meth.locks = false) (hd : decode c.code pc = .ok (.ireturn, 1))
    (hQ : Q (some (.int z)) T.heap locs) (hc : cells ≤ C) (hn : slots ≤ N) : own_Go p e below s Q C N (T.setTop (mkF m pc Ls (.int z :: rest))) :=
  own_leave X (fun h => by rw [hret] at h; cases h) hlk (fun fs hr => retOut X hx (t := .int) hret rfl (Or.inl ⟨rfl, Or.inl rfl, z, rfl⟩) hd hr) hQ hc hn
theorem own_retJ (X : Stand p l e R s m args below meth c T locs cells slots) (hx : p.tables.exec = Jvm.exec) {pc : Nat} {Ls : Array Slot} {z : Int64} {rest : List Value} (hret : meth.sig.returnType = some .long) (hlk : meth.locks = false) (hd : decode c.code pc = .ok (.lreturn, 1))
    (hQ : Q (some (.long z)) T.heap locs) (hc : cells ≤ C) (hn : slots ≤ N) : own_Go p e below s Q C N (T.setTop (mkF m pc Ls (.long z :: rest))) :=
  own_leave X (fun h => by rw [hret] at h; cases h) hlk (fun fs hr => retOut X hx (t := .long) hret rfl (Or.inr (Or.inl ⟨rfl, rfl, z, rfl⟩)) hd hr) hQ hc hn
theorem own_retA (X : Stand p l e R s m args below meth c T locs cells slots) (hx : p.tables.exec = Jvm.exec) {pc : Nat} {Ls : Array Slot} {w : Value} {t : FieldType} {rest : List Value} (hret : meth.sig.returnType = some t) (ht : t.isReference = true) (hw : w.isRef = true) (hlk : meth.locks = false) (hd : decode c.code pc = .ok (.areturn, 1))
    (hQ : Q (some w) T.heap locs) (hc : cells ≤ C) (hn : slots ≤ N) : own_Go p e below s Q C N (T.setTop (mkF m pc Ls (w :: rest))) :=
  own_leave X (fun h => by rw [hret] at h; cases h) hlk (fun fs hr => retOut X hx (t := t) hret (by rcases ref_cases hw with rfl | ⟨a, rfl⟩ <;> cases t <;> first | rfl | cases ht) (Or.inr (Or.inr (Or.inr (Or.inr ⟨rfl, ht, hw⟩)))) hd hr) hQ hc hn
section Calls
variable {y z : MethodName} {bytes : ByteArray} {maxL : Nat} {ret : Option FieldType} {rm : Room} {as' : Array Value} {Qc : Option Value → Heap → List Loc → Prop} {own : String} {index : Nat} {g : JFrame} {argsL rest : List Value}
theorem own_callS (X : Stand p l e R s m args below meth c T locs cells slots) (hx : p.tables.exec = Jvm.exec) (hZ : Z.Warmed39 s.vm) (K : own_Con l Z y bytes maxL ret rm as' h Qc) (hown : s.vm.findClass own = some m.cls)
    (w1 : (Jvm.Cond.methodLink own index y).before a0 Z = true) (w2 : (Jvm.Cond.static y).before a0 Z = true) (w3 : (Jvm.Cond.initialized y.cls).before a0 Z = true) (w4 : (Jvm.Cond.code y bytes maxL ret).before a0 Z = true)
    (hy : y.cls ≠ "java/lang/invoke/MethodHandle" ∧ y.cls ≠ "java/lang/invoke/VarHandle") (eT : T.heap = h) (hg : g.method = m) (hsize : g.locals.size = c.maxLocals) (has : argsL.toArray = as')
    (hlen : ∀ sig, parseMethodDescriptor y.desc = some sig → argsL.length = sig.parameters.length) (hst : g.stack = argsL.reverse ++ rest) (W : Nat) (hW : 2 * g.monitorRoom + (rest.map fun v => v.category).sum ≤ W) (hd : decode c.code g.pc = .ok (.invokestatic index, 3))
    (hf : rm.frames + 1 ≤ R.frames) (hl : W + (maxL + 11) + rm.locals ≤ R.locals) (hc : cells + rm.cells ≤ R.cells) (hs : slots + rm.slots ≤ R.slots)
    (k : ∀ (v : Option Value) (T' : State) (L : List Loc), Qc v T'.heap L → Stand p l e R s m args below meth c T' (locs ++ L) (cells + rm.cells) (slots + rm.slots) → own_Go p e below s Q C N (T'.setTop { g with pc := g.pc + 3, stack := v.toList ++ rest })) :
    own_Go p e below s Q C N (T.setTop g) := by
  obtain ⟨v, _, ⟨T', L', k', n'⟩, -, X', ⟨Lc, hQ, l', y', z'⟩, st⟩ := Jvm.LawKit.callS X hx (y := y) hown (mvT hZ w1) (mvT hZ w2) (mvT hZ w3) (mvT hZ w4) hy (backOf (W := W) (K []) hZ w4 w3 hf hl) (g := g) hg hsize (argsL := argsL) (rest := rest) hlen hst hW hd (fun _ _ => ⟨has, eT, hc, hs⟩)
  dsimp only [Pt.U, Pt.locs, Pt.cells, Pt.slots] at X' l' y' z' st hQ
  subst l' y' z'
  exact own_via st (k v T' Lc hQ X')
theorem own_callI (X : Stand p l e R s m args below meth c T locs cells slots) (hx : p.tables.exec = Jvm.exec) (hZ : Z.Warmed39 s.vm) (K : own_Con l Z y bytes maxL none rm as' h Qc) (hown : s.vm.findClass own = some m.cls) (hy1 : y.name = "<init>")
    (w1 : (Jvm.Cond.methodLink own index y).before a0 Z = true) (w2 : (Jvm.Cond.instanceMethod y).before a0 Z = true) (w3 : (Jvm.Cond.initialized y.cls).before a0 Z = true) (w4 : (Jvm.Cond.code y bytes maxL none).before a0 Z = true)
    (hy : y.cls ≠ "java/lang/invoke/MethodHandle" ∧ y.cls ≠ "java/lang/invoke/VarHandle") (eT : T.heap = h) (hg : g.method = m) (hsize : g.locals.size = c.maxLocals) {a : Addr} (has : (.ref a :: argsL).toArray = as')
    (hlen : ∀ sig, parseMethodDescriptor y.desc = some sig → argsL.length = sig.parameters.length) (hst : g.stack = argsL.reverse ++ .ref a :: rest) (W : Nat) (hW : 2 * g.monitorRoom + (rest.map fun v => v.category).sum ≤ W) (hd : decode c.code g.pc = .ok (.invokespecial index, 3))
    (hf : rm.frames + 1 ≤ R.frames) (hl : W + (maxL + 11) + rm.locals ≤ R.locals) (hc : cells + rm.cells ≤ R.cells) (hs : slots + rm.slots ≤ R.slots)
    (k : ∀ (v : Option Value) (T' : State) (L : List Loc), Qc v T'.heap L → Stand p l e R s m args below meth c T' (locs ++ L) (cells + rm.cells) (slots + rm.slots) → own_Go p e below s Q C N (T'.setTop { g with pc := g.pc + 3, stack := v.toList ++ rest })) :
    own_Go p e below s Q C N (T.setTop g) := by
  obtain ⟨v, _, ⟨T', L', k', n'⟩, -, X', ⟨Lc, hQ, l', y', z'⟩, st⟩ := X.specialBack hx (y := y) hy1 hown (mvT hZ w1) (mvT hZ w2) (mvT hZ w4) hy (backOf (W := W) (K []) hZ w4 w3 hf hl) (g := g) hg hsize (Steps.refl _) (a := a) (argsL := argsL) (rest := rest) hlen hst hW hd (fun _ _ => ⟨has, eT, hc, hs⟩)
  dsimp only [Pt.U, Pt.locs, Pt.cells, Pt.slots] at X' l' y' z' st hQ
  subst l' y' z'
  exact own_via (fun t q => st.trans q) (k v T' Lc hQ X')
theorem own_callV (X : Stand p l e R s m args below meth c T locs cells slots) (hx : p.tables.exec = Jvm.exec) (hZ : Z.Warmed39 s.vm) (K : own_Con l Z z bytes maxL ret rm as' h Qc) (hown : s.vm.findClass own = some m.cls) {CC : String} {a : Addr} (E : Exa Z h a CC)
    (w1 : (Jvm.Cond.methodLink own index y).before a0 Z = true) (w5 : (Jvm.Cond.declares y).before a0 Z = true) (w6 : (Jvm.Cond.selects CC y z).before a0 Z = true) (w2 : (Jvm.Cond.instanceMethod z).before a0 Z = true) (w3 : (Jvm.Cond.initialized z.cls).before a0 Z = true) (w4 : (Jvm.Cond.code z bytes maxL ret).before a0 Z = true)
    (nf : NotFace s y) (hy : y.cls ≠ "java/lang/invoke/MethodHandle" ∧ y.cls ≠ "java/lang/invoke/VarHandle") (eT : T.heap = h) (hg : g.method = m) (hsize : g.locals.size = c.maxLocals) (has : (.ref a :: argsL).toArray = as')
    (hlen : ∀ sig, parseMethodDescriptor y.desc = some sig → argsL.length = sig.parameters.length) (hst : g.stack = argsL.reverse ++ .ref a :: rest) (W : Nat) (hW : 2 * g.monitorRoom + (rest.map fun v => v.category).sum ≤ W) (hd : decode c.code g.pc = .ok (.invokevirtual index, 3))
    (hf : rm.frames + 1 ≤ R.frames) (hl : W + (maxL + 11) + rm.locals ≤ R.locals) (hc : cells + rm.cells ≤ R.cells) (hs : slots + rm.slots ≤ R.slots)
    (k : ∀ (v : Option Value) (T' : State) (L : List Loc), Qc v T'.heap L → Stand p l e R s m args below meth c T' (locs ++ L) (cells + rm.cells) (slots + rm.slots) → own_Go p e below s Q C N (T'.setTop { g with pc := g.pc + 3, stack := v.toList ++ rest })) :
    own_Go p e below s Q C N (T.setTop g) := by
  obtain ⟨cB, kB, q1, q2, q3⟩ := isOf hZ eT E
  obtain ⟨v, _, ⟨T', L', k', n'⟩, -, X', ⟨Lc, hQ, l', y', z'⟩, st⟩ := X.virtualBack hx (y := y) (z := z) hown (mvT hZ w1) (mvT hZ w5) nf (mvT hZ w6) (mvT hZ w2) hy (backOf (W := W) (K []) hZ w4 w3 hf hl) q1 q3 (g := g) hg hsize (Steps.refl _) (argsL := argsL) (rest := rest) hlen hst hW hd (fun _ _ => ⟨has, eT, hc, hs⟩)
  dsimp only [Pt.U, Pt.locs, Pt.cells, Pt.slots] at X' l' y' z' st hQ
  subst l' y' z'
  exact own_via (fun t q => st.trans q) (k v T' Lc hQ X')
end Calls
theorem own_eqi {t : Term} {n : Int32} (h : (Jvm.Cond.eq t (Term.int n)).value a0 Z none Z [] = some true) : t.eval a0 Z none [] Z = some (.int n) := by
  obtain ⟨x, y, e1, e2, k1, k2⟩ := cmp_v (Or.inl h)
  have e3 : y = .int n := (Option.some.inj e2).symm
  subst e3
  obtain ⟨w, rfl⟩ := k2
  have q : (Jvm.Cond.eq t (Term.int n)).value a0 Z none Z [] = some (decide (w = n)) := by simp [Jvm.Cond.value, e1, e2]
  rw [e1, gotT q h]
theorem own_fld {t : Term} {a : Addr} {CC f d : String} {v : Value} (ev : t.eval a0 Z none [] Z = some (.ref a)) (h : (Term.field t CC f d).eval a0 Z none [] Z = some v) : Fld Z Z.heap a CC f d v :=
  Fld.start ((fld_at ev).symm.trans h)
end Own
theorem own_pd0 : parseMethodDescriptor "(ZJLjava/time/Duration;Z)V" = some ⟨[.boolean, .long, (.object "java/time/Duration"), .boolean], none⟩ := by decide +kernel
theorem own_pd1 : parseMethodDescriptor "(Ljava/lang/Object;)Z" = some ⟨[(.object "java/lang/Object")], some .boolean⟩ := by decide +kernel
theorem own_pd2 : parseMethodDescriptor "(J)Lcom/example/refill/refill/bucket/Decision;" = some ⟨[.long], some (.object "com/example/refill/refill/bucket/Decision")⟩ := by decide +kernel
theorem own_pd3 : parseMethodDescriptor "(Lcom/example/refill/refill/bucket/Decision;J)V" = some ⟨[(.object "com/example/refill/refill/bucket/Decision"), .long], none⟩ := by decide +kernel
theorem own_pd4 : parseMethodDescriptor "(J)Lcom/example/refill/refill/bucket/internal/Reservation;" = some ⟨[.long], some (.object "com/example/refill/refill/bucket/internal/Reservation")⟩ := by decide +kernel
theorem own_pd5 : parseMethodDescriptor "()Lcom/example/refill/refill/bucket/Decision;" = some ⟨[], some (.object "com/example/refill/refill/bucket/Decision")⟩ := by decide +kernel
theorem own_pd6 : parseMethodDescriptor "()Z" = some ⟨[], some .boolean⟩ := by decide +kernel
theorem own_pd7 : parseMethodDescriptor "()J" = some ⟨[], some .long⟩ := by decide +kernel
theorem own_pn : plainName "com/example/refill/refill/bucket/Decision" = true := by first | (simp [plainName, overriddenIn]; done) | decide +kernel
theorem own_pnL : plainName "com/example/refill/refill/bucket/internal/ReservationAheadPinLaw" = true := by first | (simp [plainName, overriddenIn]; done) | decide +kernel
theorem own_pnD : plainName "java/time/Duration" = true := by first | (simp [plainName, overriddenIn]; done) | decide +kernel
theorem d1_0 : decode prog_10_method_3_code 0 = .ok (.lload_n 0, 1) := by decide +kernel
theorem d1_1 : decode prog_10_method_3_code 1 = .ok (.lconst 1, 1) := by decide +kernel
theorem d1_2 : decode prog_10_method_3_code 2 = .ok (.lcmp, 1) := by decide +kernel
theorem d1_3 : decode prog_10_method_3_code 3 = .ok (.ifCond .lt 11, 3) := by decide +kernel
theorem d1_6 : decode prog_10_method_3_code 6 = .ok (.lload_n 0, 1) := by decide +kernel
theorem d1_7 : decode prog_10_method_3_code 7 = .ok (.ldc2_w 31, 3) := by decide +kernel
theorem d1_10 : decode prog_10_method_3_code 10 = .ok (.lcmp, 1) := by decide +kernel
theorem d1_11 : decode prog_10_method_3_code 11 = .ok (.ifCond .le 17, 3) := by decide +kernel
theorem d1_14 : decode prog_10_method_3_code 14 = .ok (.new 33, 3) := by decide +kernel
theorem d1_17 : decode prog_10_method_3_code 17 = .ok (.dup, 1) := by decide +kernel
theorem d1_18 : decode prog_10_method_3_code 18 = .ok (.lload_n 0, 1) := by decide +kernel
theorem d1_19 : decode prog_10_method_3_code 19 = .ok (.invokedynamic 35, 5) := by decide +kernel
theorem d1_24 : decode prog_10_method_3_code 24 = .ok (.invokespecial 39, 3) := by decide +kernel
theorem d1_27 : decode prog_10_method_3_code 27 = .ok (.athrow, 1) := by decide +kernel
theorem d1_28 : decode prog_10_method_3_code 28 = .ok (.new 10, 3) := by decide +kernel
theorem d1_31 : decode prog_10_method_3_code 31 = .ok (.dup, 1) := by decide +kernel
theorem d1_32 : decode prog_10_method_3_code 32 = .ok (.lconst 0, 1) := by decide +kernel
theorem d1_33 : decode prog_10_method_3_code 33 = .ok (.invokestatic 42, 3) := by decide +kernel
theorem d1_36 : decode prog_10_method_3_code 36 = .ok (.lload_n 0, 1) := by decide +kernel
theorem d1_37 : decode prog_10_method_3_code 37 = .ok (.invokespecial 28, 3) := by decide +kernel
theorem d1_40 : decode prog_10_method_3_code 40 = .ok (.areturn, 1) := by decide +kernel
theorem d2_0 : decode prog_2_method_2_code 0 = .ok (.new 8, 3) := by decide +kernel
theorem d2_3 : decode prog_2_method_2_code 3 = .ok (.dup, 1) := by decide +kernel
theorem d2_4 : decode prog_2_method_2_code 4 = .ok (.iconst 1, 1) := by decide +kernel
theorem d2_5 : decode prog_2_method_2_code 5 = .ok (.lload_n 0, 1) := by decide +kernel
theorem d2_6 : decode prog_2_method_2_code 6 = .ok (.getstatic 24, 3) := by decide +kernel
theorem d2_9 : decode prog_2_method_2_code 9 = .ok (.iconst 0, 1) := by decide +kernel
theorem d2_10 : decode prog_2_method_2_code 10 = .ok (.invokespecial 29, 3) := by decide +kernel
theorem d2_13 : decode prog_2_method_2_code 13 = .ok (.areturn, 1) := by decide +kernel
theorem d3_0 : decode prog_2_method_1_code 0 = .ok (.aload_n 0, 1) := by decide +kernel
theorem d3_1 : decode prog_2_method_1_code 1 = .ok (.invokespecial 1, 3) := by decide +kernel
theorem d3_4 : decode prog_2_method_1_code 4 = .ok (.aload_n 0, 1) := by decide +kernel
theorem d3_5 : decode prog_2_method_1_code 5 = .ok (.iload_n 1, 1) := by decide +kernel
theorem d3_6 : decode prog_2_method_1_code 6 = .ok (.putfield 7, 3) := by decide +kernel
theorem d3_9 : decode prog_2_method_1_code 9 = .ok (.aload_n 0, 1) := by decide +kernel
theorem d3_10 : decode prog_2_method_1_code 10 = .ok (.lload_n 2, 1) := by decide +kernel
theorem d3_11 : decode prog_2_method_1_code 11 = .ok (.putfield 13, 3) := by decide +kernel
theorem d3_14 : decode prog_2_method_1_code 14 = .ok (.aload_n 0, 1) := by decide +kernel
theorem d3_15 : decode prog_2_method_1_code 15 = .ok (.aload 4, 2) := by decide +kernel
theorem d3_17 : decode prog_2_method_1_code 17 = .ok (.putfield 17, 3) := by decide +kernel
theorem d3_20 : decode prog_2_method_1_code 20 = .ok (.aload_n 0, 1) := by decide +kernel
theorem d3_21 : decode prog_2_method_1_code 21 = .ok (.iload 5, 2) := by decide +kernel
theorem d3_23 : decode prog_2_method_1_code 23 = .ok (.putfield 21, 3) := by decide +kernel
theorem d3_26 : decode prog_2_method_1_code 26 = .ok (.return_, 1) := by decide +kernel
theorem d5_0 : decode prog_10_method_1_code 0 = .ok (.aload_n 0, 1) := by decide +kernel
theorem d5_1 : decode prog_10_method_1_code 1 = .ok (.invokespecial 3, 3) := by decide +kernel
theorem d5_4 : decode prog_10_method_1_code 4 = .ok (.aload_n 0, 1) := by decide +kernel
theorem d5_5 : decode prog_10_method_1_code 5 = .ok (.aload_n 1, 1) := by decide +kernel
theorem d5_6 : decode prog_10_method_1_code 6 = .ok (.putfield 9, 3) := by decide +kernel
theorem d5_9 : decode prog_10_method_1_code 9 = .ok (.aload_n 0, 1) := by decide +kernel
theorem d5_10 : decode prog_10_method_1_code 10 = .ok (.lload_n 2, 1) := by decide +kernel
theorem d5_11 : decode prog_10_method_1_code 11 = .ok (.putfield 15, 3) := by decide +kernel
theorem d5_14 : decode prog_10_method_1_code 14 = .ok (.return_, 1) := by decide +kernel
theorem d6_0 : decode prog_10_method_5_code 0 = .ok (.aload_n 0, 1) := by decide +kernel
theorem d6_1 : decode prog_10_method_5_code 1 = .ok (.getfield 9, 3) := by decide +kernel
theorem d6_4 : decode prog_10_method_5_code 4 = .ok (.areturn, 1) := by decide +kernel
theorem d7_0 : decode prog_2_method_5_code 0 = .ok (.aload_n 0, 1) := by decide +kernel
theorem d7_1 : decode prog_2_method_5_code 1 = .ok (.getfield 7, 3) := by decide +kernel
theorem d7_4 : decode prog_2_method_5_code 4 = .ok (.ireturn, 1) := by decide +kernel
theorem d8_0 : decode prog_2_method_6_code 0 = .ok (.aload_n 0, 1) := by decide +kernel
theorem d8_1 : decode prog_2_method_6_code 1 = .ok (.getfield 13, 3) := by decide +kernel
theorem d8_4 : decode prog_2_method_6_code 4 = .ok (.lreturn, 1) := by decide +kernel
theorem d9_0 : decode prog_2_method_8_code 0 = .ok (.aload_n 0, 1) := by decide +kernel
theorem d9_1 : decode prog_2_method_8_code 1 = .ok (.getfield 21, 3) := by decide +kernel
theorem d9_4 : decode prog_2_method_8_code 4 = .ok (.ireturn, 1) := by decide +kernel
theorem d10_0 : decode prog_2_method_9_code 0 = .ok (.aload_n 1, 1) := by decide +kernel
theorem d10_1 : decode prog_2_method_9_code 1 = .ok (.instanceof 8, 3) := by decide +kernel
theorem d10_4 : decode prog_2_method_9_code 4 = .ok (.ifCond .eq 60, 3) := by decide +kernel
theorem d10_7 : decode prog_2_method_9_code 7 = .ok (.aload_n 1, 1) := by decide +kernel
theorem d10_8 : decode prog_2_method_9_code 8 = .ok (.checkcast 8, 3) := by decide +kernel
theorem d10_11 : decode prog_2_method_9_code 11 = .ok (.astore_n 2, 1) := by decide +kernel
theorem d10_12 : decode prog_2_method_9_code 12 = .ok (.aload_n 0, 1) := by decide +kernel
theorem d10_13 : decode prog_2_method_9_code 13 = .ok (.getfield 7, 3) := by decide +kernel
theorem d10_16 : decode prog_2_method_9_code 16 = .ok (.aload_n 2, 1) := by decide +kernel
theorem d10_17 : decode prog_2_method_9_code 17 = .ok (.getfield 7, 3) := by decide +kernel
theorem d10_20 : decode prog_2_method_9_code 20 = .ok (.if_icmp .ne 44, 3) := by decide +kernel
theorem d10_23 : decode prog_2_method_9_code 23 = .ok (.aload_n 0, 1) := by decide +kernel
theorem d10_24 : decode prog_2_method_9_code 24 = .ok (.getfield 13, 3) := by decide +kernel
theorem d10_27 : decode prog_2_method_9_code 27 = .ok (.aload_n 2, 1) := by decide +kernel
theorem d10_28 : decode prog_2_method_9_code 28 = .ok (.getfield 13, 3) := by decide +kernel
theorem d10_31 : decode prog_2_method_9_code 31 = .ok (.lcmp, 1) := by decide +kernel
theorem d10_32 : decode prog_2_method_9_code 32 = .ok (.ifCond .ne 32, 3) := by decide +kernel
theorem d10_35 : decode prog_2_method_9_code 35 = .ok (.aload_n 0, 1) := by decide +kernel
theorem d10_36 : decode prog_2_method_9_code 36 = .ok (.getfield 17, 3) := by decide +kernel
theorem d10_39 : decode prog_2_method_9_code 39 = .ok (.aload_n 2, 1) := by decide +kernel
theorem d10_40 : decode prog_2_method_9_code 40 = .ok (.getfield 17, 3) := by decide +kernel
theorem d10_43 : decode prog_2_method_9_code 43 = .ok (.invokevirtual 39, 3) := by decide +kernel
theorem d10_46 : decode prog_2_method_9_code 46 = .ok (.ifCond .eq 18, 3) := by decide +kernel
theorem d10_49 : decode prog_2_method_9_code 49 = .ok (.aload_n 0, 1) := by decide +kernel
theorem d10_50 : decode prog_2_method_9_code 50 = .ok (.getfield 21, 3) := by decide +kernel
theorem d10_53 : decode prog_2_method_9_code 53 = .ok (.aload_n 2, 1) := by decide +kernel
theorem d10_54 : decode prog_2_method_9_code 54 = .ok (.getfield 21, 3) := by decide +kernel
theorem d10_57 : decode prog_2_method_9_code 57 = .ok (.if_icmp .ne 7, 3) := by decide +kernel
theorem d10_60 : decode prog_2_method_9_code 60 = .ok (.iconst 1, 1) := by decide +kernel
theorem d10_61 : decode prog_2_method_9_code 61 = .ok (.goto 4, 3) := by decide +kernel
theorem d10_64 : decode prog_2_method_9_code 64 = .ok (.iconst 0, 1) := by decide +kernel
theorem d10_65 : decode prog_2_method_9_code 65 = .ok (.ireturn, 1) := by decide +kernel
theorem d11_0 : decode jdk_2316_method_67_code 0 = .ok (.aload_n 0, 1) := by decide +kernel
theorem d11_1 : decode jdk_2316_method_67_code 1 = .ok (.aload_n 1, 1) := by decide +kernel
theorem d11_2 : decode jdk_2316_method_67_code 2 = .ok (.if_acmp .ne 5, 3) := by decide +kernel
theorem d11_5 : decode jdk_2316_method_67_code 5 = .ok (.iconst 1, 1) := by decide +kernel
theorem d11_6 : decode jdk_2316_method_67_code 6 = .ok (.ireturn, 1) := by decide +kernel
theorem d11_7 : decode jdk_2316_method_67_code 7 = .ok (.aload_n 1, 1) := by decide +kernel
theorem d11_8 : decode jdk_2316_method_67_code 8 = .ok (.instanceof 11, 3) := by decide +kernel
theorem d11_11 : decode jdk_2316_method_67_code 11 = .ok (.ifCond .eq 35, 3) := by decide +kernel
theorem d11_14 : decode jdk_2316_method_67_code 14 = .ok (.aload_n 1, 1) := by decide +kernel
theorem d11_15 : decode jdk_2316_method_67_code 15 = .ok (.checkcast 11, 3) := by decide +kernel
theorem d11_18 : decode jdk_2316_method_67_code 18 = .ok (.astore_n 2, 1) := by decide +kernel
theorem d11_19 : decode jdk_2316_method_67_code 19 = .ok (.aload_n 0, 1) := by decide +kernel
theorem d11_20 : decode jdk_2316_method_67_code 20 = .ok (.getfield 221, 3) := by decide +kernel
theorem d11_23 : decode jdk_2316_method_67_code 23 = .ok (.aload_n 2, 1) := by decide +kernel
theorem d11_24 : decode jdk_2316_method_67_code 24 = .ok (.getfield 221, 3) := by decide +kernel
theorem d11_27 : decode jdk_2316_method_67_code 27 = .ok (.lcmp, 1) := by decide +kernel
theorem d11_28 : decode jdk_2316_method_67_code 28 = .ok (.ifCond .ne 18, 3) := by decide +kernel
theorem d11_31 : decode jdk_2316_method_67_code 31 = .ok (.aload_n 0, 1) := by decide +kernel
theorem d11_32 : decode jdk_2316_method_67_code 32 = .ok (.getfield 224, 3) := by decide +kernel
theorem d11_35 : decode jdk_2316_method_67_code 35 = .ok (.aload_n 2, 1) := by decide +kernel
theorem d11_36 : decode jdk_2316_method_67_code 36 = .ok (.getfield 224, 3) := by decide +kernel
theorem d11_39 : decode jdk_2316_method_67_code 39 = .ok (.if_icmp .ne 7, 3) := by decide +kernel
theorem d11_42 : decode jdk_2316_method_67_code 42 = .ok (.iconst 1, 1) := by decide +kernel
theorem d11_43 : decode jdk_2316_method_67_code 43 = .ok (.goto 4, 3) := by decide +kernel
theorem d11_46 : decode jdk_2316_method_67_code 46 = .ok (.iconst 0, 1) := by decide +kernel
theorem d11_47 : decode jdk_2316_method_67_code 47 = .ok (.ireturn, 1) := by decide +kernel
theorem own_efi (m : MethodId) (x0 : Nat) (x1 : Int32) (x2 : Int64) (x3 : Nat) (x4 : Int32) : entryFrame m #[(.ref x0), (.int x1), (.long x2), (.ref x3), (.int x4)] 6 = mkF m 0 #[.val (.ref x0), .val (.int x1), .val (.long x2), .second, .val (.ref x3), .val (.int x4)] [] := by first | (simp [entryFrame, mkF, argsToLocals, Value.category]; done) | rfl
set_option maxRecDepth 65536 in
set_option maxHeartbeats 40000000 in
theorem own_kd (l : Launch) (Z : State) (az : Array Value) (hw : ∀ d ∈ tables_1, d.before az Z = true) (a : Nat) (z1 : Int32) (r : Int64) (d : Nat) (z2 : Int32) (h0 : Heap) (n0 : Nat) (hz1 : narrow .boolean (.int z1) = .int z1) (fz1 : fits .boolean (.int z1) = true) (hz2 : narrow .boolean (.int z2) = .int z2) (fz2 : fits .boolean (.int z2) = true) (E0 : Exa Z h0 a "com/example/refill/refill/bucket/Decision") (F1 : Fld Z h0 a "com/example/refill/refill/bucket/Decision" "allowed" "Z" (.int (0 : Int32))) (F2 : Fld Z h0 a "com/example/refill/refill/bucket/Decision" "remaining" "J" (.long (0 : Int64))) (F3 : Fld Z h0 a "com/example/refill/refill/bucket/Decision" "retryAfter" "Ljava/time/Duration;" .null) (F4 : Fld Z h0 a "com/example/refill/refill/bucket/Decision" "fallback" "Z" (.int (0 : Int32))) (G0 : n0 ≤ a) :
    own_Con l Z (⟨"com/example/refill/refill/bucket/Decision", "<init>", "(ZJLjava/time/Duration;Z)V"⟩ : MethodName) prog_2_method_1_code 6 none ({ frames := 1, cells := 0, slots := 0, locals := 12 } : Room) #[(.ref a), (.int z1), (.long r), (.ref d), (.int z2)] h0 (fun v h L => v = none ∧ Fr n0 L ∧ Keep h0 h [a] ∧ Exa Z h a "com/example/refill/refill/bucket/Decision" ∧ Fld Z h a "com/example/refill/refill/bucket/Decision" "allowed" "Z" (.int z1) ∧ Fld Z h a "com/example/refill/refill/bucket/Decision" "remaining" "J" (.long r) ∧ Fld Z h a "com/example/refill/refill/bucket/Decision" "retryAfter" "Ljava/time/Duration;" (.ref d) ∧ Fld Z h a "com/example/refill/refill/bucket/Decision" "fallback" "Z" (.int z2)) := by
  refine own_con own_pn ?_
  intro p e s m below meth c T0 hx hby hml hZ hown hnm hret hlk X0 e0 eh
  refine own_via (F' := T0.setTop (mkF m 0 #[.val (.ref a), .val (.int z1), .val (.long r), .second, .val (.ref d), .val (.int z2)] [])) (fun tz kz => castTop (own_efi m a z1 r d z2) kz) ?_
  refine own_via (F' := T0.setTop (mkF m 1 #[.val (.ref a), .val (.int z1), .val (.long r), .second, .val (.ref d), .val (.int z2)] [(.ref a)])) (fun tz kz => XS.aloadN X0.here hx rfl (hb hby d3_0) rfl rfl kz) ?_
  obtain ⟨T11, X11, e11, s11⟩ := initO X0 hx hZ hown (hw _ (List.mem_of_getElem? (i := 20) rfl)) (hw _ (List.mem_of_getElem? (i := 21) rfl)) (hw _ (List.mem_of_getElem? (i := 22) rfl)) e0 (g := (mkF m 1 #[.val (.ref a), .val (.int z1), .val (.long r), .second, .val (.ref d), .val (.int z2)] [(.ref a)])) rfl (by rw [hml]; rfl) rfl (hb hby d3_1) (by decide) (W := 0) (by show 2 * 0 + _ ≤ _; exact Nat.le_of_eq rfl) (by decide)
  refine own_via (F' := T11.setTop (mkF m 4 #[.val (.ref a), .val (.int z1), .val (.long r), .second, .val (.ref d), .val (.int z2)] [])) s11 ?_
  refine own_via (F' := T11.setTop (mkF m 5 #[.val (.ref a), .val (.int z1), .val (.long r), .second, .val (.ref d), .val (.int z2)] [(.ref a)])) (fun tz kz => XS.aloadN X11.here hx rfl (hb hby d3_4) rfl rfl kz) ?_
  refine own_via (F' := T11.setTop (mkF m 6 #[.val (.ref a), .val (.int z1), .val (.long r), .second, .val (.ref d), .val (.int z2)] [(.int z1), (.ref a)])) (fun tz kz => XS.iloadN X11.here hx rfl (hb hby d3_5) rfl kz) ?_
  obtain ⟨T12, h12, X12, e12, W12, s12⟩ := putF X11 hx hZ hown (host := "") (Or.inl (hw _ (List.mem_of_getElem? (i := 23) rfl))) Via.refl e11 F1 E0 (Or.inr ⟨(hw _ (List.mem_of_getElem? (i := 24) rfl)), rfl, hnm⟩) (hw _ (List.mem_of_getElem? (i := 14) rfl)) (ty := .boolean) (by decide) hz1 fz1 (g := (mkF m 6 #[.val (.ref a), .val (.int z1), .val (.long r), .second, .val (.ref d), .val (.int z2)] [(.int z1), (.ref a)])) rfl rfl (hb hby d3_6)
  have F12 := F1.same W12
  have N12 := Fr.snoc X12 (Fr.nil n0) G0
  refine own_via (F' := T12.setTop (mkF m 9 #[.val (.ref a), .val (.int z1), .val (.long r), .second, .val (.ref d), .val (.int z2)] [])) s12 ?_
  refine own_via (F' := T12.setTop (mkF m 10 #[.val (.ref a), .val (.int z1), .val (.long r), .second, .val (.ref d), .val (.int z2)] [(.ref a)])) (fun tz kz => XS.aloadN X12.here hx rfl (hb hby d3_9) rfl rfl kz) ?_
  refine own_via (F' := T12.setTop (mkF m 11 #[.val (.ref a), .val (.int z1), .val (.long r), .second, .val (.ref d), .val (.int z2)] [(.long r), (.ref a)])) (fun tz kz => XT.lloadN X12.here hx rfl (hb hby d3_10) rfl kz) ?_
  have f13 := (F2.other W12 (Or.inr (slot_ne (Or.inr (hw _ (List.mem_of_getElem? (i := 26) rfl))) (Or.inr (hw _ (List.mem_of_getElem? (i := 24) rfl))) (by decide) (t := .long) (t' := .boolean) (by decide) (by decide))))
  have f14 := (E0.wr W12)
  obtain ⟨T15, h15, X15, e15, W15, s15⟩ := putF X12 hx hZ hown (host := "") (Or.inl (hw _ (List.mem_of_getElem? (i := 25) rfl))) Via.refl e12 f13 f14 (Or.inr ⟨(hw _ (List.mem_of_getElem? (i := 26) rfl)), rfl, hnm⟩) (hw _ (List.mem_of_getElem? (i := 14) rfl)) (ty := .long) (by decide) rfl rfl (g := (mkF m 11 #[.val (.ref a), .val (.int z1), .val (.long r), .second, .val (.ref d), .val (.int z2)] [(.long r), (.ref a)])) rfl rfl (hb hby d3_11)
  have F15 := f13.same W15
  have N15 := Fr.snoc X15 N12 G0
  refine own_via (F' := T15.setTop (mkF m 14 #[.val (.ref a), .val (.int z1), .val (.long r), .second, .val (.ref d), .val (.int z2)] [])) s15 ?_
  refine own_via (F' := T15.setTop (mkF m 15 #[.val (.ref a), .val (.int z1), .val (.long r), .second, .val (.ref d), .val (.int z2)] [(.ref a)])) (fun tz kz => XS.aloadN X15.here hx rfl (hb hby d3_14) rfl rfl kz) ?_
  refine own_via (F' := T15.setTop (mkF m 17 #[.val (.ref a), .val (.int z1), .val (.long r), .second, .val (.ref d), .val (.int z2)] [(.ref d), (.ref a)])) (fun tz kz => XS.aload X15.here hx rfl (hb hby d3_15) rfl rfl kz) ?_
  have f16 := ((F3.other W12 (Or.inr (slot_ne (Or.inr (hw _ (List.mem_of_getElem? (i := 28) rfl))) (Or.inr (hw _ (List.mem_of_getElem? (i := 24) rfl))) (by decide) (t := (.object "java/time/Duration")) (t' := .boolean) (by decide) (by decide)))).other W15 (Or.inr (slot_ne (Or.inr (hw _ (List.mem_of_getElem? (i := 28) rfl))) (Or.inr (hw _ (List.mem_of_getElem? (i := 26) rfl))) (by decide) (t := (.object "java/time/Duration")) (t' := .long) (by decide) (by decide))))
  have f17 := (f14.wr W15)
  obtain ⟨T18, h18, X18, e18, W18, s18⟩ := putF X15 hx hZ hown (host := "") (Or.inl (hw _ (List.mem_of_getElem? (i := 27) rfl))) Via.refl e15 f16 f17 (Or.inr ⟨(hw _ (List.mem_of_getElem? (i := 28) rfl)), rfl, hnm⟩) (hw _ (List.mem_of_getElem? (i := 14) rfl)) (ty := .object "java/time/Duration") (by decide) rfl rfl (g := (mkF m 17 #[.val (.ref a), .val (.int z1), .val (.long r), .second, .val (.ref d), .val (.int z2)] [(.ref d), (.ref a)])) rfl rfl (hb hby d3_17)
  have F18 := f16.same W18
  have N18 := Fr.snoc X18 N15 G0
  refine own_via (F' := T18.setTop (mkF m 20 #[.val (.ref a), .val (.int z1), .val (.long r), .second, .val (.ref d), .val (.int z2)] [])) s18 ?_
  refine own_via (F' := T18.setTop (mkF m 21 #[.val (.ref a), .val (.int z1), .val (.long r), .second, .val (.ref d), .val (.int z2)] [(.ref a)])) (fun tz kz => XS.aloadN X18.here hx rfl (hb hby d3_20) rfl rfl kz) ?_
  refine own_via (F' := T18.setTop (mkF m 23 #[.val (.ref a), .val (.int z1), .val (.long r), .second, .val (.ref d), .val (.int z2)] [(.int z2), (.ref a)])) (fun tz kz => XS.iload X18.here hx rfl (hb hby d3_21) rfl kz) ?_
  have f19 := (((F4.other W12 (Or.inr (slot_ne (Or.inr (hw _ (List.mem_of_getElem? (i := 30) rfl))) (Or.inr (hw _ (List.mem_of_getElem? (i := 24) rfl))) (by decide) (t := .boolean) (t' := .boolean) (by decide) (by decide)))).other W15 (Or.inr (slot_ne (Or.inr (hw _ (List.mem_of_getElem? (i := 30) rfl))) (Or.inr (hw _ (List.mem_of_getElem? (i := 26) rfl))) (by decide) (t := .boolean) (t' := .long) (by decide) (by decide)))).other W18 (Or.inr (slot_ne (Or.inr (hw _ (List.mem_of_getElem? (i := 30) rfl))) (Or.inr (hw _ (List.mem_of_getElem? (i := 28) rfl))) (by decide) (t := .boolean) (t' := (.object "java/time/Duration")) (by decide) (by decide))))
  have f20 := (f17.wr W18)
  obtain ⟨T21, h21, X21, e21, W21, s21⟩ := putF X18 hx hZ hown (host := "") (Or.inl (hw _ (List.mem_of_getElem? (i := 29) rfl))) Via.refl e18 f19 f20 (Or.inr ⟨(hw _ (List.mem_of_getElem? (i := 30) rfl)), rfl, hnm⟩) (hw _ (List.mem_of_getElem? (i := 14) rfl)) (ty := .boolean) (by decide) hz2 fz2 (g := (mkF m 23 #[.val (.ref a), .val (.int z1), .val (.long r), .second, .val (.ref d), .val (.int z2)] [(.int z2), (.ref a)])) rfl rfl (hb hby d3_23)
  have F21 := f19.same W21
  have N21 := Fr.snoc X21 N18 G0
  refine own_via (F' := T21.setTop (mkF m 26 #[.val (.ref a), .val (.int z1), .val (.long r), .second, .val (.ref d), .val (.int z2)] [])) s21 ?_
  have f22 := (f20.wr W21)
  have f23 := (((F12.other W15 (Or.inr (slot_ne (Or.inr (hw _ (List.mem_of_getElem? (i := 24) rfl))) (Or.inr (hw _ (List.mem_of_getElem? (i := 26) rfl))) (by decide) (t := .boolean) (t' := .long) (by decide) (by decide)))).other W18 (Or.inr (slot_ne (Or.inr (hw _ (List.mem_of_getElem? (i := 24) rfl))) (Or.inr (hw _ (List.mem_of_getElem? (i := 28) rfl))) (by decide) (t := .boolean) (t' := (.object "java/time/Duration")) (by decide) (by decide)))).other W21 (Or.inr (slot_ne (Or.inr (hw _ (List.mem_of_getElem? (i := 24) rfl))) (Or.inr (hw _ (List.mem_of_getElem? (i := 30) rfl))) (by decide) (t := .boolean) (t' := .boolean) (by decide) (by decide))))
  have f24 := ((F15.other W18 (Or.inr (slot_ne (Or.inr (hw _ (List.mem_of_getElem? (i := 26) rfl))) (Or.inr (hw _ (List.mem_of_getElem? (i := 28) rfl))) (by decide) (t := .long) (t' := (.object "java/time/Duration")) (by decide) (by decide)))).other W21 (Or.inr (slot_ne (Or.inr (hw _ (List.mem_of_getElem? (i := 26) rfl))) (Or.inr (hw _ (List.mem_of_getElem? (i := 30) rfl))) (by decide) (t := .long) (t' := .boolean) (by decide) (by decide))))
  have f25 := (F18.other W21 (Or.inr (slot_ne (Or.inr (hw _ (List.mem_of_getElem? (i := 28) rfl))) (Or.inr (hw _ (List.mem_of_getElem? (i := 30) rfl))) (by decide) (t := (.object "java/time/Duration")) (t' := .boolean) (by decide) (by decide))))
  exact own_ret0 X21 hx hret hlk (hb hby d3_26) (by rw [e21]; exact ⟨rfl, N21, (((((Keep.refl h0 [a]).wr W12 (Or.inl (List.mem_of_getElem? (i := 0) rfl))).wr W15 (Or.inl (List.mem_of_getElem? (i := 0) rfl))).wr W18 (Or.inl (List.mem_of_getElem? (i := 0) rfl))).wr W21 (Or.inl (List.mem_of_getElem? (i := 0) rfl))), f22, f23, f24, f25, F21⟩) (Nat.le_refl _) (Nat.le_refl _)
theorem own_ef_ka (m : MethodId) (x0 : Int64) : entryFrame m #[(.long x0)] 2 = mkF m 0 #[.val (.long x0), .second] [] := by first | (simp [entryFrame, mkF, argsToLocals, Value.category]; done) | rfl
set_option maxRecDepth 65536 in
set_option maxHeartbeats 40000000 in
theorem own_ka (l : Launch) (Z : State) (az : Array Value) (hw : ∀ d ∈ tables_1, d.before az Z = true) (r : Int64) (h0 : Heap) (n0 : Nat) (O0 : Old Z n0 h0) (aZ : Nat) (SZ : Sta Z Z.heap "java/time/Duration" "ZERO" "Ljava/time/Duration;" (.ref aZ)) :
    own_Con l Z (⟨"com/example/refill/refill/bucket/Decision", "allowed", "(J)Lcom/example/refill/refill/bucket/Decision;"⟩ : MethodName) prog_2_method_2_code 2 (some (.object "com/example/refill/refill/bucket/Decision")) ({ frames := 2, cells := 1, slots := 4, locals := 30 } : Room) #[(.long r)] h0 (fun v h L => ∃ b, v = some (.ref b) ∧ Fr n0 L ∧ Keep h0 h [] ∧ h0.size ≤ b ∧ Exa Z h b "com/example/refill/refill/bucket/Decision" ∧ Fld Z h b "com/example/refill/refill/bucket/Decision" "allowed" "Z" (.int (1 : Int32)) ∧ Fld Z h b "com/example/refill/refill/bucket/Decision" "remaining" "J" (.long r) ∧ Fld Z h b "com/example/refill/refill/bucket/Decision" "retryAfter" "Ljava/time/Duration;" (.ref aZ) ∧ Fld Z h b "com/example/refill/refill/bucket/Decision" "fallback" "Z" (.int (0 : Int32))) := by
  refine own_con own_pn ?_
  intro p e s m below meth c T0 hx hby hml hZ hown hnm hret hlk X0 e0 eh
  refine own_via (F' := T0.setTop (mkF m 0 #[.val (.long r), .second] [])) (fun tz kz => castTop (own_ef_ka m r) kz) ?_
  obtain ⟨T11, h11, X11, e11, E11, A11, D11, -, s11⟩ := newO X0 hx hZ hown (hw _ (List.mem_of_getElem? (i := 13) rfl)) (hw _ (List.mem_of_getElem? (i := 14) rfl)) (hw _ (List.mem_of_getElem? (i := 11) rfl)) e0 (g := (mkF m 0 #[.val (.long r), .second] [])) rfl (hb hby d2_0) (by decide) (by decide)
  obtain ⟨a11, g11⟩ : ∃ z, z = h0.size := ⟨_, rfl⟩
  rw [← g11] at A11 D11 s11
  have G11 : n0 ≤ a11 := by have q := O0.2.1; have q2 := O0.1; omega
  have D12 : Fld Z h11 a11 "com/example/refill/refill/bucket/Decision" "allowed" "Z" (.int (0 : Int32)) := D11 (Or.inr (hw _ (List.mem_of_getElem? (i := 24) rfl))) (ty := .boolean) (by decide)
  have D13 : Fld Z h11 a11 "com/example/refill/refill/bucket/Decision" "remaining" "J" (.long (0 : Int64)) := D11 (Or.inr (hw _ (List.mem_of_getElem? (i := 26) rfl))) (ty := .long) (by decide)
  have D14 : Fld Z h11 a11 "com/example/refill/refill/bucket/Decision" "retryAfter" "Ljava/time/Duration;" .null := D11 (Or.inr (hw _ (List.mem_of_getElem? (i := 28) rfl))) (ty := .object "java/time/Duration") (by decide)
  have D15 : Fld Z h11 a11 "com/example/refill/refill/bucket/Decision" "fallback" "Z" (.int (0 : Int32)) := D11 (Or.inr (hw _ (List.mem_of_getElem? (i := 30) rfl))) (ty := .boolean) (by decide)
  refine own_via (F' := T11.setTop (mkF m 3 #[.val (.long r), .second] [(.ref a11)])) s11 ?_
  have B11 : h0.size ≤ a11 := by have q := (Keep.refl h0 []).1; omega
  refine own_via (F' := T11.setTop (mkF m 4 #[.val (.long r), .second] [(.ref a11), (.ref a11)])) (fun tz kz => XS.dup X11.here hx rfl (hb hby d2_3) rfl rfl kz) ?_
  refine own_via (F' := T11.setTop (mkF m 5 #[.val (.long r), .second] [(.int (1 : Int32)), (.ref a11), (.ref a11)])) (fun tz kz => XT.iconstV X11.here hx rfl (1 : Int32) (hb hby d2_4) (by decide) kz) ?_
  refine own_via (F' := T11.setTop (mkF m 6 #[.val (.long r), .second] [(.long r), (.int (1 : Int32)), (.ref a11), (.ref a11)])) (fun tz kz => XT.lloadN X11.here hx rfl (hb hby d2_5) rfl kz) ?_
  have f16 := (O0.ext E11)
  obtain ⟨T17, X17, e17, s17⟩ := getS X11 hx hZ (host := "") hown (hw _ (List.mem_of_getElem? (i := 15) rfl)) Via.refl e11 (SZ.ext f16.2) (g := (mkF m 6 #[.val (.long r), .second] [(.long r), (.int (1 : Int32)), (.ref a11), (.ref a11)])) rfl (hb hby d2_6)
  refine own_via (F' := T17.setTop (mkF m 9 #[.val (.long r), .second] [(.ref aZ), (.long r), (.int (1 : Int32)), (.ref a11), (.ref a11)])) s17 ?_
  refine own_via (F' := T17.setTop (mkF m 10 #[.val (.long r), .second] [(.int (0 : Int32)), (.ref aZ), (.long r), (.int (1 : Int32)), (.ref a11), (.ref a11)])) (fun tz kz => XT.iconstV X17.here hx rfl (0 : Int32) (hb hby d2_9) (by decide) kz) ?_
  refine own_callI X17 hx hZ (own_kd l Z az hw a11 (1 : Int32) r aZ (0 : Int32) h11 n0 (by decide) (by decide) (by decide) (by decide) A11 D12 D13 D14 D15 G11) hown rfl (hw _ (List.mem_of_getElem? (i := 17) rfl)) (hw _ (List.mem_of_getElem? (i := 18) rfl)) (hw _ (List.mem_of_getElem? (i := 11) rfl)) (hw _ (List.mem_of_getElem? (i := 19) rfl)) (by decide) e17 (g := (mkF m 10 #[.val (.long r), .second] [(.int (0 : Int32)), (.ref aZ), (.long r), (.int (1 : Int32)), (.ref a11), (.ref a11)])) rfl (by rw [hml]; rfl) (argsL := [(.int (1 : Int32)), (.long r), (.ref aZ), (.int (0 : Int32))]) (rest := [(.ref a11)]) rfl (lenOf own_pd0 rfl) rfl 1 (by show 2 * 0 + _ ≤ _; exact Nat.le_of_eq rfl) (hb hby d2_10) (by decide) (by decide) (by decide) (by decide) ?_
  intro v18 T18 L18 hQ18 X18
  obtain ⟨rfl, M18, K18, E18, Fa18, Fb18, Fc18, Fd18⟩ := hQ18
  refine own_via (F' := T18.setTop (mkF m 13 #[.val (.long r), .second] [(.ref a11)])) (fun tz kz => kz) ?_
  exact own_retA X18 hx hret rfl rfl hlk (hb hby d2_13) ⟨_, rfl, (Fr.app (Fr.nil n0) M18), (((Keep.refl h0 []).ext E11).trans K18 (allS (Or.inr B11) all0)), B11, E18, Fa18, Fb18, Fc18, Fd18⟩ (by decide) (by decide)
theorem own_efg (m : MethodId) (x0 : Nat) : entryFrame m #[(.ref x0)] 1 = mkF m 0 #[.val (.ref x0)] [] := by first | (simp [entryFrame, mkF, argsToLocals, Value.category]; done) | rfl
set_option maxRecDepth 65536 in
set_option maxHeartbeats 40000000 in
theorem own_g_isAllowed (l : Launch) (Z : State) (az : Array Value) (hw : ∀ d ∈ tables_1, d.before az Z = true) (a : Nat) (v : Int32) (hv : nar .boolean v = v) (h0 : Heap) (FV : Fld Z h0 a "com/example/refill/refill/bucket/Decision" "allowed" "Z" (.int v)) :
    own_Con l Z (⟨"com/example/refill/refill/bucket/Decision", "isAllowed", "()Z"⟩ : MethodName) prog_2_method_5_code 1 (some .boolean) ({ frames := 0, cells := 0, slots := 0, locals := 0 } : Room) #[(.ref a)] h0 (fun r h L => r = some (.int v) ∧ h = h0 ∧ L = []) := by
  refine own_con own_pn ?_
  intro p e s m below meth c T0 hx hby hml hZ hown hnm hret hlk X0 e0 eh
  refine own_via (F' := T0.setTop (mkF m 0 #[.val (.ref a)] [])) (fun tz kz => castTop (own_efg m a) kz) ?_
  refine own_via (F' := T0.setTop (mkF m 1 #[.val (.ref a)] [(.ref a)])) (fun tz kz => XS.aloadN X0.here hx rfl (hb hby d7_0) rfl rfl kz) ?_
  obtain ⟨T1, X1, e1, s1⟩ := getF X0 hx hZ hown (host := "") (Or.inl (hw _ (List.mem_of_getElem? (i := 23) rfl))) Via.refl e0 FV (g := (mkF m 1 #[.val (.ref a)] [(.ref a)])) rfl rfl (hb hby d7_1)
  refine own_via (F' := T1.setTop (mkF m 4 #[.val (.ref a)] [(.int v)])) s1 ?_
  exact own_retZ X1 hx hret hlk (hb hby d7_4) ⟨by rw [hv], e1, rfl⟩ (Nat.le_refl _) (Nat.le_refl _)
set_option maxRecDepth 65536 in
set_option maxHeartbeats 40000000 in
theorem own_g_getRemaining (l : Launch) (Z : State) (az : Array Value) (hw : ∀ d ∈ tables_1, d.before az Z = true) (a : Nat) (v : Int64) (h0 : Heap) (FV : Fld Z h0 a "com/example/refill/refill/bucket/Decision" "remaining" "J" (.long v)) :
    own_Con l Z (⟨"com/example/refill/refill/bucket/Decision", "getRemaining", "()J"⟩ : MethodName) prog_2_method_6_code 1 (some .long) ({ frames := 0, cells := 0, slots := 0, locals := 0 } : Room) #[(.ref a)] h0 (fun r h L => r = some (.long v) ∧ h = h0 ∧ L = []) := by
  refine own_con own_pn ?_
  intro p e s m below meth c T0 hx hby hml hZ hown hnm hret hlk X0 e0 eh
  refine own_via (F' := T0.setTop (mkF m 0 #[.val (.ref a)] [])) (fun tz kz => castTop (own_efg m a) kz) ?_
  refine own_via (F' := T0.setTop (mkF m 1 #[.val (.ref a)] [(.ref a)])) (fun tz kz => XS.aloadN X0.here hx rfl (hb hby d8_0) rfl rfl kz) ?_
  obtain ⟨T1, X1, e1, s1⟩ := getF X0 hx hZ hown (host := "") (Or.inl (hw _ (List.mem_of_getElem? (i := 25) rfl))) Via.refl e0 FV (g := (mkF m 1 #[.val (.ref a)] [(.ref a)])) rfl rfl (hb hby d8_1)
  refine own_via (F' := T1.setTop (mkF m 4 #[.val (.ref a)] [(.long v)])) s1 ?_
  exact own_retJ X1 hx hret hlk (hb hby d8_4) ⟨rfl, e1, rfl⟩ (Nat.le_refl _) (Nat.le_refl _)
set_option maxRecDepth 65536 in
set_option maxHeartbeats 40000000 in
theorem own_g_isFallback (l : Launch) (Z : State) (az : Array Value) (hw : ∀ d ∈ tables_1, d.before az Z = true) (a : Nat) (v : Int32) (hv : nar .boolean v = v) (h0 : Heap) (FV : Fld Z h0 a "com/example/refill/refill/bucket/Decision" "fallback" "Z" (.int v)) :
    own_Con l Z (⟨"com/example/refill/refill/bucket/Decision", "isFallback", "()Z"⟩ : MethodName) prog_2_method_8_code 1 (some .boolean) ({ frames := 0, cells := 0, slots := 0, locals := 0 } : Room) #[(.ref a)] h0 (fun r h L => r = some (.int v) ∧ h = h0 ∧ L = []) := by
  refine own_con own_pn ?_
  intro p e s m below meth c T0 hx hby hml hZ hown hnm hret hlk X0 e0 eh
  refine own_via (F' := T0.setTop (mkF m 0 #[.val (.ref a)] [])) (fun tz kz => castTop (own_efg m a) kz) ?_
  refine own_via (F' := T0.setTop (mkF m 1 #[.val (.ref a)] [(.ref a)])) (fun tz kz => XS.aloadN X0.here hx rfl (hb hby d9_0) rfl rfl kz) ?_
  obtain ⟨T1, X1, e1, s1⟩ := getF X0 hx hZ hown (host := "") (Or.inl (hw _ (List.mem_of_getElem? (i := 29) rfl))) Via.refl e0 FV (g := (mkF m 1 #[.val (.ref a)] [(.ref a)])) rfl rfl (hb hby d9_1)
  refine own_via (F' := T1.setTop (mkF m 4 #[.val (.ref a)] [(.int v)])) s1 ?_
  exact own_retZ X1 hx hret hlk (hb hby d9_4) ⟨by rw [hv], e1, rfl⟩ (Nat.le_refl _) (Nat.le_refl _)
theorem own_efq (m : MethodId) (x0 : Nat) (x1 : Nat) : entryFrame m #[(.ref x0), (.ref x1)] 3 = mkF m 0 #[.val (.ref x0), .val (.ref x1), .unset] [] := by first | (simp [entryFrame, mkF, argsToLocals, Value.category]; done) | rfl
set_option maxRecDepth 65536 in
set_option maxHeartbeats 40000000 in
theorem own_kq (l : Launch) (Z : State) (az : Array Value) (hw : ∀ d ∈ tables_1, d.before az Z = true) (a : Nat) (h0 : Heap) :
    own_Con l Z (⟨"java/time/Duration", "equals", "(Ljava/lang/Object;)Z"⟩ : MethodName) jdk_2316_method_67_code 3 (some .boolean) ({ frames := 0, cells := 0, slots := 0, locals := 0 } : Room) #[(.ref a), (.ref a)] h0 (fun r h L => r = some (.int (1 : Int32)) ∧ h = h0 ∧ L = []) := by
  refine own_con own_pnD ?_
  intro p e s m below meth c T0 hx hby hml hZ hown hnm hret hlk X0 e0 eh
  refine own_via (F' := T0.setTop (mkF m 0 #[.val (.ref a), .val (.ref a), .unset] [])) (fun tz kz => castTop (own_efq m a a) kz) ?_
  refine own_via (F' := T0.setTop (mkF m 1 #[.val (.ref a), .val (.ref a), .unset] [(.ref a)])) (fun tz kz => XS.aloadN X0.here hx rfl (hb hby d11_0) rfl rfl kz) ?_
  refine own_via (F' := T0.setTop (mkF m 2 #[.val (.ref a), .val (.ref a), .unset] [(.ref a), (.ref a)])) (fun tz kz => XS.aloadN X0.here hx rfl (hb hby d11_1) rfl rfl kz) ?_
  refine own_via (F' := T0.setTop (mkF m 5 #[.val (.ref a), .val (.ref a), .unset] [])) (fun tz kz => XT.acmpNo X0.here hx rfl (hb hby d11_2) rfl rfl rfl (XT.aa_ne_f rfl) kz) ?_
  refine own_via (F' := T0.setTop (mkF m 6 #[.val (.ref a), .val (.ref a), .unset] [(.int (1 : Int32))])) (fun tz kz => XT.iconstV X0.here hx rfl (1 : Int32) (hb hby d11_5) (by decide) kz) ?_
  exact own_retZ X0 hx hret hlk (hb hby d11_6) ⟨rfl, e0, rfl⟩ (Nat.le_refl _) (Nat.le_refl _)
set_option maxRecDepth 65536 in
set_option maxHeartbeats 40000000 in
theorem own_ke (l : Launch) (Z : State) (az : Array Value) (hw : ∀ d ∈ tables_1, d.before az Z = true) (a b aZ : Nat) (u v : Int64) (h0 : Heap) (EZ : Exa Z h0 aZ "java/time/Duration") (Eb : Exa Z h0 b "com/example/refill/refill/bucket/Decision") (A0 : Fld Z h0 a "com/example/refill/refill/bucket/Decision" "allowed" "Z" (.int (1 : Int32))) (A1 : Fld Z h0 a "com/example/refill/refill/bucket/Decision" "remaining" "J" (.long u)) (A2 : Fld Z h0 a "com/example/refill/refill/bucket/Decision" "retryAfter" "Ljava/time/Duration;" (.ref aZ)) (A3 : Fld Z h0 a "com/example/refill/refill/bucket/Decision" "fallback" "Z" (.int (0 : Int32))) (B0 : Fld Z h0 b "com/example/refill/refill/bucket/Decision" "allowed" "Z" (.int (1 : Int32))) (B1 : Fld Z h0 b "com/example/refill/refill/bucket/Decision" "remaining" "J" (.long v)) (B2 : Fld Z h0 b "com/example/refill/refill/bucket/Decision" "retryAfter" "Ljava/time/Duration;" (.ref aZ)) (B3 : Fld Z h0 b "com/example/refill/refill/bucket/Decision" "fallback" "Z" (.int (0 : Int32))) (r : Int32) (hr : (if u = v then (1 : Int32) else (0 : Int32)) = r) :
    own_Con l Z (⟨"com/example/refill/refill/bucket/Decision", "equals", "(Ljava/lang/Object;)Z"⟩ : MethodName) prog_2_method_9_code 3 (some .boolean) ({ frames := 1, cells := 0, slots := 0, locals := 14 } : Room) #[(.ref a), (.ref b)] h0 (fun x h L => x = some (.int r) ∧ h = h0 ∧ L = []) := by
  refine own_con own_pn ?_
  intro p e s m below meth c T0 hx hby hml hZ hown hnm hret hlk X0 e0 eh
  refine own_via (F' := T0.setTop (mkF m 0 #[.val (.ref a), .val (.ref b), .unset] [])) (fun tz kz => castTop (own_efq m a b) kz) ?_
  refine own_via (F' := T0.setTop (mkF m 1 #[.val (.ref a), .val (.ref b), .unset] [(.ref b)])) (fun tz kz => XS.aloadN X0.here hx rfl (hb hby d10_0) rfl rfl kz) ?_
  obtain ⟨T11, X11, e11, s11⟩ := instY X0 hx hZ hown (hw _ (List.mem_of_getElem? (i := 13) rfl)) e0 (Ins.self Eb) (g := (mkF m 1 #[.val (.ref a), .val (.ref b), .unset] [(.ref b)])) rfl rfl (hb hby d10_1)
  refine own_via (F' := T11.setTop (mkF m 4 #[.val (.ref a), .val (.ref b), .unset] [(.int (1 : Int32))])) s11 ?_
  refine own_via (F' := T11.setTop (mkF m 7 #[.val (.ref a), .val (.ref b), .unset] [])) (fun tz kz => XS.ifNo X11.here hx rfl (hb hby d10_4) rfl (XT.i0_eq_f (by decide)) kz) ?_
  refine own_via (F' := T11.setTop (mkF m 8 #[.val (.ref a), .val (.ref b), .unset] [(.ref b)])) (fun tz kz => XS.aloadN X11.here hx rfl (hb hby d10_7) rfl rfl kz) ?_
  obtain ⟨T12, X12, e12, s12⟩ := castY X11 hx hZ hown (hw _ (List.mem_of_getElem? (i := 13) rfl)) e11 (Ins.self Eb) (g := (mkF m 8 #[.val (.ref a), .val (.ref b), .unset] [(.ref b)])) rfl rfl (hb hby d10_8)
  refine own_via (F' := T12.setTop (mkF m 11 #[.val (.ref a), .val (.ref b), .unset] [(.ref b)])) s12 ?_
  refine own_via (F' := T12.setTop (mkF m 12 #[.val (.ref a), .val (.ref b), .val (.ref b)] [])) (fun tz kz => XS.astoreN X12.here hx rfl (hb hby d10_11) rfl rfl (l' := #[.val (.ref a), .val (.ref b), .val (.ref b)]) rfl kz) ?_
  refine own_via (F' := T12.setTop (mkF m 13 #[.val (.ref a), .val (.ref b), .val (.ref b)] [(.ref a)])) (fun tz kz => XS.aloadN X12.here hx rfl (hb hby d10_12) rfl rfl kz) ?_
  obtain ⟨T13, X13, e13, s13⟩ := getF X12 hx hZ hown (host := "") (Or.inl (hw _ (List.mem_of_getElem? (i := 23) rfl))) Via.refl e12 A0 (g := (mkF m 13 #[.val (.ref a), .val (.ref b), .val (.ref b)] [(.ref a)])) rfl rfl (hb hby d10_13)
  refine own_via (F' := T13.setTop (mkF m 16 #[.val (.ref a), .val (.ref b), .val (.ref b)] [(.int (1 : Int32))])) s13 ?_
  refine own_via (F' := T13.setTop (mkF m 17 #[.val (.ref a), .val (.ref b), .val (.ref b)] [(.ref b), (.int (1 : Int32))])) (fun tz kz => XS.aloadN X13.here hx rfl (hb hby d10_16) rfl rfl kz) ?_
  obtain ⟨T14, X14, e14, s14⟩ := getF X13 hx hZ hown (host := "") (Or.inl (hw _ (List.mem_of_getElem? (i := 23) rfl))) Via.refl e13 B0 (g := (mkF m 17 #[.val (.ref a), .val (.ref b), .val (.ref b)] [(.ref b), (.int (1 : Int32))])) rfl rfl (hb hby d10_17)
  refine own_via (F' := T14.setTop (mkF m 20 #[.val (.ref a), .val (.ref b), .val (.ref b)] [(.int (1 : Int32)), (.int (1 : Int32))])) s14 ?_
  refine own_via (F' := T14.setTop (mkF m 23 #[.val (.ref a), .val (.ref b), .val (.ref b)] [])) (fun tz kz => XS.icmpNo X14.here hx rfl (hb hby d10_20) rfl (XT.ii_ne_f (by decide)) kz) ?_
  refine own_via (F' := T14.setTop (mkF m 24 #[.val (.ref a), .val (.ref b), .val (.ref b)] [(.ref a)])) (fun tz kz => XS.aloadN X14.here hx rfl (hb hby d10_23) rfl rfl kz) ?_
  obtain ⟨T15, X15, e15, s15⟩ := getF X14 hx hZ hown (host := "") (Or.inl (hw _ (List.mem_of_getElem? (i := 25) rfl))) Via.refl e14 A1 (g := (mkF m 24 #[.val (.ref a), .val (.ref b), .val (.ref b)] [(.ref a)])) rfl rfl (hb hby d10_24)
  refine own_via (F' := T15.setTop (mkF m 27 #[.val (.ref a), .val (.ref b), .val (.ref b)] [(.long u)])) s15 ?_
  refine own_via (F' := T15.setTop (mkF m 28 #[.val (.ref a), .val (.ref b), .val (.ref b)] [(.ref b), (.long u)])) (fun tz kz => XS.aloadN X15.here hx rfl (hb hby d10_27) rfl rfl kz) ?_
  obtain ⟨T16, X16, e16, s16⟩ := getF X15 hx hZ hown (host := "") (Or.inl (hw _ (List.mem_of_getElem? (i := 25) rfl))) Via.refl e15 B1 (g := (mkF m 28 #[.val (.ref a), .val (.ref b), .val (.ref b)] [(.ref b), (.long u)])) rfl rfl (hb hby d10_28)
  refine own_via (F' := T16.setTop (mkF m 31 #[.val (.ref a), .val (.ref b), .val (.ref b)] [(.long v), (.long u)])) s16 ?_
  refine own_via (F' := T16.setTop (mkF m 32 #[.val (.ref a), .val (.ref b), .val (.ref b)] [(.int (XT.cmpL u v))])) (fun tz kz => XT.lcmp X16.here hx rfl (hb hby d10_31) rfl kz) ?_
  by_cases q17 : u = v
  · refine own_via (F' := T16.setTop (mkF m 35 #[.val (.ref a), .val (.ref b), .val (.ref b)] [])) (fun tz kz => XS.ifNo X16.here hx rfl (hb hby d10_32) rfl (XT.ll_ne_f q17) kz) ?_
    refine own_via (F' := T16.setTop (mkF m 36 #[.val (.ref a), .val (.ref b), .val (.ref b)] [(.ref a)])) (fun tz kz => XS.aloadN X16.here hx rfl (hb hby d10_35) rfl rfl kz) ?_
    obtain ⟨T18, X18, e18, s18⟩ := getF X16 hx hZ hown (host := "") (Or.inl (hw _ (List.mem_of_getElem? (i := 27) rfl))) Via.refl e16 A2 (g := (mkF m 36 #[.val (.ref a), .val (.ref b), .val (.ref b)] [(.ref a)])) rfl rfl (hb hby d10_36)
    refine own_via (F' := T18.setTop (mkF m 39 #[.val (.ref a), .val (.ref b), .val (.ref b)] [(.ref aZ)])) s18 ?_
    refine own_via (F' := T18.setTop (mkF m 40 #[.val (.ref a), .val (.ref b), .val (.ref b)] [(.ref b), (.ref aZ)])) (fun tz kz => XS.aloadN X18.here hx rfl (hb hby d10_39) rfl rfl kz) ?_
    obtain ⟨T19, X19, e19, s19⟩ := getF X18 hx hZ hown (host := "") (Or.inl (hw _ (List.mem_of_getElem? (i := 27) rfl))) Via.refl e18 B2 (g := (mkF m 40 #[.val (.ref a), .val (.ref b), .val (.ref b)] [(.ref b), (.ref aZ)])) rfl rfl (hb hby d10_40)
    refine own_via (F' := T19.setTop (mkF m 43 #[.val (.ref a), .val (.ref b), .val (.ref b)] [(.ref aZ), (.ref aZ)])) s19 ?_
    refine own_callV X19 hx hZ (own_kq l Z az hw aZ h0) hown EZ (hw _ (List.mem_of_getElem? (i := 66) rfl)) (hw _ (List.mem_of_getElem? (i := 67) rfl)) (hw _ (List.mem_of_getElem? (i := 69) rfl)) (hw _ (List.mem_of_getElem? (i := 68) rfl)) (hw _ (List.mem_of_getElem? (i := 16) rfl)) (hw _ (List.mem_of_getElem? (i := 70) rfl)) (notFace_of_selects (args := #[]) (mvT hZ (hw _ (List.mem_of_getElem? (i := 69) rfl)))) (by decide) e19 (g := (mkF m 43 #[.val (.ref a), .val (.ref b), .val (.ref b)] [(.ref aZ), (.ref aZ)])) rfl (by rw [hml]; rfl) (argsL := [(.ref aZ)]) (rest := []) rfl (lenOf own_pd1 rfl) rfl 0 (by show 2 * 0 + _ ≤ _; exact Nat.le_of_eq rfl) (hb hby d10_43) (by decide) (by decide) (by decide) (by decide) ?_
    intro v20 T20 L20 hQ20 X20
    obtain ⟨rfl, e20, rfl⟩ := hQ20
    refine own_via (F' := T20.setTop (mkF m 46 #[.val (.ref a), .val (.ref b), .val (.ref b)] [(.int (1 : Int32))])) (fun tz kz => kz) ?_
    refine own_via (F' := T20.setTop (mkF m 49 #[.val (.ref a), .val (.ref b), .val (.ref b)] [])) (fun tz kz => XS.ifNo X20.here hx rfl (hb hby d10_46) rfl (XT.i0_eq_f (by decide)) kz) ?_
    refine own_via (F' := T20.setTop (mkF m 50 #[.val (.ref a), .val (.ref b), .val (.ref b)] [(.ref a)])) (fun tz kz => XS.aloadN X20.here hx rfl (hb hby d10_49) rfl rfl kz) ?_
    obtain ⟨T21, X21, e21, s21⟩ := getF X20 hx hZ hown (host := "") (Or.inl (hw _ (List.mem_of_getElem? (i := 29) rfl))) Via.refl e20 A3 (g := (mkF m 50 #[.val (.ref a), .val (.ref b), .val (.ref b)] [(.ref a)])) rfl rfl (hb hby d10_50)
    refine own_via (F' := T21.setTop (mkF m 53 #[.val (.ref a), .val (.ref b), .val (.ref b)] [(.int (0 : Int32))])) s21 ?_
    refine own_via (F' := T21.setTop (mkF m 54 #[.val (.ref a), .val (.ref b), .val (.ref b)] [(.ref b), (.int (0 : Int32))])) (fun tz kz => XS.aloadN X21.here hx rfl (hb hby d10_53) rfl rfl kz) ?_
    obtain ⟨T22, X22, e22, s22⟩ := getF X21 hx hZ hown (host := "") (Or.inl (hw _ (List.mem_of_getElem? (i := 29) rfl))) Via.refl e21 B3 (g := (mkF m 54 #[.val (.ref a), .val (.ref b), .val (.ref b)] [(.ref b), (.int (0 : Int32))])) rfl rfl (hb hby d10_54)
    refine own_via (F' := T22.setTop (mkF m 57 #[.val (.ref a), .val (.ref b), .val (.ref b)] [(.int (0 : Int32)), (.int (0 : Int32))])) s22 ?_
    refine own_via (F' := T22.setTop (mkF m 60 #[.val (.ref a), .val (.ref b), .val (.ref b)] [])) (fun tz kz => XS.icmpNo X22.here hx rfl (hb hby d10_57) rfl (XT.ii_ne_f (by decide)) kz) ?_
    refine own_via (F' := T22.setTop (mkF m 61 #[.val (.ref a), .val (.ref b), .val (.ref b)] [(.int (1 : Int32))])) (fun tz kz => XT.iconstV X22.here hx rfl (1 : Int32) (hb hby d10_60) (by decide) kz) ?_
    refine own_via (F' := T22.setTop (mkF m 65 #[.val (.ref a), .val (.ref b), .val (.ref b)] [(.int (1 : Int32))])) (fun tz kz => XS.goto X22.here hx rfl (pc0 := 61) (pc' := 65) rfl (hb hby d10_61) (by decide) (by decide) kz) ?_
    exact own_retZ X22 hx hret hlk (hb hby d10_65) ⟨by rw [← hr, if_pos q17]; rfl, e22, rfl⟩ (by decide) (by decide)
  · refine own_via (F' := T16.setTop (mkF m 64 #[.val (.ref a), .val (.ref b), .val (.ref b)] [])) (fun tz kz => XS.ifYes X16.here hx rfl (pc0 := 32) (pc' := 64) rfl (hb hby d10_32) rfl (XT.ll_ne_t q17) (by decide) (by decide) kz) ?_
    refine own_via (F' := T16.setTop (mkF m 65 #[.val (.ref a), .val (.ref b), .val (.ref b)] [(.int (0 : Int32))])) (fun tz kz => XT.iconstV X16.here hx rfl (0 : Int32) (hb hby d10_64) (by decide) kz) ?_
    exact own_retZ X16 hx hret hlk (hb hby d10_65) ⟨by rw [← hr, if_neg q17]; rfl, e16, rfl⟩ (by decide) (by decide)
theorem own_pnR : plainName "com/example/refill/refill/bucket/internal/Reservation" = true := by first | (simp [plainName, overriddenIn]; done) | decide +kernel
theorem own_efr (m : MethodId) (x0 : Nat) (x1 : Nat) (x2 : Int64) : entryFrame m #[(.ref x0), (.ref x1), (.long x2)] 4 = mkF m 0 #[.val (.ref x0), .val (.ref x1), .val (.long x2), .second] [] := by first | (simp [entryFrame, mkF, argsToLocals, Value.category]; done) | rfl
set_option maxRecDepth 65536 in
set_option maxHeartbeats 40000000 in
theorem own_kr (l : Launch) (Z : State) (az : Array Value) (hw : ∀ d ∈ tables_1, d.before az Z = true) (a b : Nat) (t : Int64) (h0 : Heap) (n0 : Nat) (E0 : Exa Z h0 a "com/example/refill/refill/bucket/internal/Reservation") (F1 : Fld Z h0 a "com/example/refill/refill/bucket/internal/Reservation" "decision" "Lcom/example/refill/refill/bucket/Decision;" .null) (F2 : Fld Z h0 a "com/example/refill/refill/bucket/internal/Reservation" "waitNanos" "J" (.long (0 : Int64))) (G0 : n0 ≤ a) :
    own_Con l Z (⟨"com/example/refill/refill/bucket/internal/Reservation", "<init>", "(Lcom/example/refill/refill/bucket/Decision;J)V"⟩ : MethodName) prog_10_method_1_code 4 none ({ frames := 1, cells := 0, slots := 0, locals := 12 } : Room) #[(.ref a), (.ref b), (.long t)] h0 (fun v h L => v = none ∧ Fr n0 L ∧ Keep h0 h [a] ∧ Exa Z h a "com/example/refill/refill/bucket/internal/Reservation" ∧ Fld Z h a "com/example/refill/refill/bucket/internal/Reservation" "decision" "Lcom/example/refill/refill/bucket/Decision;" (.ref b)) := by
  refine own_con own_pnR ?_
  intro p e s m below meth c T0 hx hby hml hZ hown hnm hret hlk X0 e0 eh
  refine own_via (F' := T0.setTop (mkF m 0 #[.val (.ref a), .val (.ref b), .val (.long t), .second] [])) (fun tz kz => castTop (own_efr m a b t) kz) ?_
  refine own_via (F' := T0.setTop (mkF m 1 #[.val (.ref a), .val (.ref b), .val (.long t), .second] [(.ref a)])) (fun tz kz => XS.aloadN X0.here hx rfl (hb hby d5_0) rfl rfl kz) ?_
  obtain ⟨T11, X11, e11, s11⟩ := initO X0 hx hZ hown (hw _ (List.mem_of_getElem? (i := 34) rfl)) (hw _ (List.mem_of_getElem? (i := 21) rfl)) (hw _ (List.mem_of_getElem? (i := 22) rfl)) e0 (g := (mkF m 1 #[.val (.ref a), .val (.ref b), .val (.long t), .second] [(.ref a)])) rfl (by rw [hml]; rfl) rfl (hb hby d5_1) (by decide) (W := 0) (by show 2 * 0 + _ ≤ _; exact Nat.le_of_eq rfl) (by decide)
  refine own_via (F' := T11.setTop (mkF m 4 #[.val (.ref a), .val (.ref b), .val (.long t), .second] [])) s11 ?_
  refine own_via (F' := T11.setTop (mkF m 5 #[.val (.ref a), .val (.ref b), .val (.long t), .second] [(.ref a)])) (fun tz kz => XS.aloadN X11.here hx rfl (hb hby d5_4) rfl rfl kz) ?_
  refine own_via (F' := T11.setTop (mkF m 6 #[.val (.ref a), .val (.ref b), .val (.long t), .second] [(.ref b), (.ref a)])) (fun tz kz => XS.aloadN X11.here hx rfl (hb hby d5_5) rfl rfl kz) ?_
  obtain ⟨T12, h12, X12, e12, W12, s12⟩ := putF X11 hx hZ hown (host := "") (Or.inl (hw _ (List.mem_of_getElem? (i := 35) rfl))) Via.refl e11 F1 E0 (Or.inr ⟨(hw _ (List.mem_of_getElem? (i := 36) rfl)), rfl, hnm⟩) (hw _ (List.mem_of_getElem? (i := 8) rfl)) (ty := .object "com/example/refill/refill/bucket/Decision") (by decide) rfl rfl (g := (mkF m 6 #[.val (.ref a), .val (.ref b), .val (.long t), .second] [(.ref b), (.ref a)])) rfl rfl (hb hby d5_6)
  have F12 := F1.same W12
  have N12 := Fr.snoc X12 (Fr.nil n0) G0
  refine own_via (F' := T12.setTop (mkF m 9 #[.val (.ref a), .val (.ref b), .val (.long t), .second] [])) s12 ?_
  refine own_via (F' := T12.setTop (mkF m 10 #[.val (.ref a), .val (.ref b), .val (.long t), .second] [(.ref a)])) (fun tz kz => XS.aloadN X12.here hx rfl (hb hby d5_9) rfl rfl kz) ?_
  refine own_via (F' := T12.setTop (mkF m 11 #[.val (.ref a), .val (.ref b), .val (.long t), .second] [(.long t), (.ref a)])) (fun tz kz => XT.lloadN X12.here hx rfl (hb hby d5_10) rfl kz) ?_
  have f13 := (F2.other W12 (Or.inr (slot_ne (Or.inr (hw _ (List.mem_of_getElem? (i := 38) rfl))) (Or.inr (hw _ (List.mem_of_getElem? (i := 36) rfl))) (by decide) (t := .long) (t' := (.object "com/example/refill/refill/bucket/Decision")) (by decide) (by decide))))
  have f14 := (E0.wr W12)
  obtain ⟨T15, h15, X15, e15, W15, s15⟩ := putF X12 hx hZ hown (host := "") (Or.inl (hw _ (List.mem_of_getElem? (i := 37) rfl))) Via.refl e12 f13 f14 (Or.inr ⟨(hw _ (List.mem_of_getElem? (i := 38) rfl)), rfl, hnm⟩) (hw _ (List.mem_of_getElem? (i := 8) rfl)) (ty := .long) (by decide) rfl rfl (g := (mkF m 11 #[.val (.ref a), .val (.ref b), .val (.long t), .second] [(.long t), (.ref a)])) rfl rfl (hb hby d5_11)
  have F15 := f13.same W15
  have N15 := Fr.snoc X15 N12 G0
  refine own_via (F' := T15.setTop (mkF m 14 #[.val (.ref a), .val (.ref b), .val (.long t), .second] [])) s15 ?_
  have f16 := (f14.wr W15)
  have f17 := (F12.other W15 (Or.inr (slot_ne (Or.inr (hw _ (List.mem_of_getElem? (i := 36) rfl))) (Or.inr (hw _ (List.mem_of_getElem? (i := 38) rfl))) (by decide) (t := (.object "com/example/refill/refill/bucket/Decision")) (t' := .long) (by decide) (by decide))))
  exact own_ret0 X15 hx hret hlk (hb hby d5_14) (by rw [e15]; exact ⟨rfl, N15, (((Keep.refl h0 [a]).wr W12 (Or.inl (List.mem_of_getElem? (i := 0) rfl))).wr W15 (Or.inl (List.mem_of_getElem? (i := 0) rfl))), f16, f17⟩) (Nat.le_refl _) (Nat.le_refl _)
theorem own_efh (m : MethodId) (x0 : Int64) : entryFrame m #[(.long x0)] 2 = mkF m 0 #[.val (.long x0), .second] [] := by first | (simp [entryFrame, mkF, argsToLocals, Value.category]; done) | rfl
set_option maxRecDepth 65536 in
set_option maxHeartbeats 40000000 in
theorem own_kh (l : Launch) (Z : State) (az : Array Value) (hw : ∀ d ∈ tables_1, d.before az Z = true) (t : Int64) (h0 : Heap) (n0 : Nat) (O0 : Old Z n0 h0) (aZ : Nat) (SZ : Sta Z Z.heap "java/time/Duration" "ZERO" "Ljava/time/Duration;" (.ref aZ)) (t1 : ¬ t < (1 : Int64)) (t2 : ¬ (9223372036854775806 : Int64) < t) :
    own_Con l Z (⟨"com/example/refill/refill/bucket/internal/Reservation", "ahead", "(J)Lcom/example/refill/refill/bucket/internal/Reservation;"⟩ : MethodName) prog_10_method_3_code 2 (some (.object "com/example/refill/refill/bucket/internal/Reservation")) ({ frames := 3, cells := 2, slots := 6, locals := 45 } : Room) #[(.long t)] h0 (fun v h L => ∃ r b, v = some (.ref r) ∧ Fr n0 L ∧ Keep h0 h [] ∧ Exa Z h r "com/example/refill/refill/bucket/internal/Reservation" ∧ Fld Z h r "com/example/refill/refill/bucket/internal/Reservation" "decision" "Lcom/example/refill/refill/bucket/Decision;" (.ref b) ∧ Exa Z h b "com/example/refill/refill/bucket/Decision" ∧ Fld Z h b "com/example/refill/refill/bucket/Decision" "allowed" "Z" (.int (1 : Int32)) ∧ Fld Z h b "com/example/refill/refill/bucket/Decision" "remaining" "J" (.long (0 : Int64)) ∧ Fld Z h b "com/example/refill/refill/bucket/Decision" "retryAfter" "Ljava/time/Duration;" (.ref aZ) ∧ Fld Z h b "com/example/refill/refill/bucket/Decision" "fallback" "Z" (.int (0 : Int32))) := by
  refine own_con own_pnR ?_
  intro p e s m below meth c T0 hx hby hml hZ hown hnm hret hlk X0 e0 eh
  refine own_via (F' := T0.setTop (mkF m 0 #[.val (.long t), .second] [])) (fun tz kz => castTop (own_efh m t) kz) ?_
  refine own_via (F' := T0.setTop (mkF m 1 #[.val (.long t), .second] [(.long t)])) (fun tz kz => XT.lloadN X0.here hx rfl (hb hby d1_0) rfl kz) ?_
  refine own_via (F' := T0.setTop (mkF m 2 #[.val (.long t), .second] [(.long (1 : Int64)), (.long t)])) (fun tz kz => XT.lconstV X0.here hx rfl (1 : Int64) (hb hby d1_1) (by decide) kz) ?_
  refine own_via (F' := T0.setTop (mkF m 3 #[.val (.long t), .second] [(.int (XT.cmpL t (1 : Int64)))])) (fun tz kz => XT.lcmp X0.here hx rfl (hb hby d1_2) rfl kz) ?_
  refine own_via (F' := T0.setTop (mkF m 6 #[.val (.long t), .second] [])) (fun tz kz => XS.ifNo X0.here hx rfl (hb hby d1_3) rfl (XT.ll_lt_f t1) kz) ?_
  refine own_via (F' := T0.setTop (mkF m 7 #[.val (.long t), .second] [(.long t)])) (fun tz kz => XT.lloadN X0.here hx rfl (hb hby d1_6) rfl kz) ?_
  refine own_via (F' := T0.setTop (mkF m 10 #[.val (.long t), .second] [(.long (9223372036854775806 : Int64)), (.long t)])) (fun tz kz => Jvm.Stand.ldc2J X0 hx hown (mvT hZ (hw _ (List.mem_of_getElem? (i := 6) rfl))) rfl (hb hby d1_7) kz) ?_
  refine own_via (F' := T0.setTop (mkF m 11 #[.val (.long t), .second] [(.int (XT.cmpL t (9223372036854775806 : Int64)))])) (fun tz kz => XT.lcmp X0.here hx rfl (hb hby d1_10) rfl kz) ?_
  refine own_via (F' := T0.setTop (mkF m 28 #[.val (.long t), .second] [])) (fun tz kz => XS.ifYes X0.here hx rfl (pc0 := 11) (pc' := 28) rfl (hb hby d1_11) rfl (XT.ll_le_t t2) (by decide) (by decide) kz) ?_
  obtain ⟨T11, h11, X11, e11, E11, A11, D11, -, s11⟩ := newO X0 hx hZ hown (hw _ (List.mem_of_getElem? (i := 7) rfl)) (hw _ (List.mem_of_getElem? (i := 8) rfl)) (hw _ (List.mem_of_getElem? (i := 4) rfl)) e0 (g := (mkF m 28 #[.val (.long t), .second] [])) rfl (hb hby d1_28) (by decide) (by decide)
  obtain ⟨a11, g11⟩ : ∃ z, z = h0.size := ⟨_, rfl⟩
  rw [← g11] at A11 D11 s11
  have G11 : n0 ≤ a11 := by have q := O0.2.1; have q2 := O0.1; omega
  have D12 : Fld Z h11 a11 "com/example/refill/refill/bucket/internal/Reservation" "decision" "Lcom/example/refill/refill/bucket/Decision;" .null := D11 (Or.inr (hw _ (List.mem_of_getElem? (i := 36) rfl))) (ty := .object "com/example/refill/refill/bucket/Decision") (by decide)
  have D13 : Fld Z h11 a11 "com/example/refill/refill/bucket/internal/Reservation" "waitNanos" "J" (.long (0 : Int64)) := D11 (Or.inr (hw _ (List.mem_of_getElem? (i := 38) rfl))) (ty := .long) (by decide)
  refine own_via (F' := T11.setTop (mkF m 31 #[.val (.long t), .second] [(.ref a11)])) s11 ?_
  have B11 : h0.size ≤ a11 := by have q := (Keep.refl h0 []).1; omega
  refine own_via (F' := T11.setTop (mkF m 32 #[.val (.long t), .second] [(.ref a11), (.ref a11)])) (fun tz kz => XS.dup X11.here hx rfl (hb hby d1_31) rfl rfl kz) ?_
  refine own_via (F' := T11.setTop (mkF m 33 #[.val (.long t), .second] [(.long (0 : Int64)), (.ref a11), (.ref a11)])) (fun tz kz => XT.lconstV X11.here hx rfl (0 : Int64) (hb hby d1_32) (by decide) kz) ?_
  have f14 := (O0.ext E11)
  refine own_callS X11 hx hZ (own_ka l Z az hw (0 : Int64) h11 n0 f14 aZ SZ) hown (hw _ (List.mem_of_getElem? (i := 9) rfl)) (hw _ (List.mem_of_getElem? (i := 10) rfl)) (hw _ (List.mem_of_getElem? (i := 11) rfl)) (hw _ (List.mem_of_getElem? (i := 12) rfl)) (by decide) e11 (g := (mkF m 33 #[.val (.long t), .second] [(.long (0 : Int64)), (.ref a11), (.ref a11)])) rfl (by rw [hml]; rfl) (argsL := [(.long (0 : Int64))]) (rest := [(.ref a11), (.ref a11)]) rfl (lenOf own_pd2 rfl) rfl 2 (by show 2 * 0 + _ ≤ _; exact Nat.le_of_eq rfl) (hb hby d1_33) (by decide) (by decide) (by decide) (by decide) ?_
  intro v15 T15 L15 hQ15 X15
  obtain ⟨b15, rfl, M15, K15, B15, E15, Fa15, Fb15, Fc15, Fd15⟩ := hQ15
  have ne15_a11 : a11 ≠ b15 := by have q := own_n A11.lt; have q2 := B15; omega
  refine own_via (F' := T15.setTop (mkF m 36 #[.val (.long t), .second] [(.ref b15), (.ref a11), (.ref a11)])) (fun tz kz => kz) ?_
  refine own_via (F' := T15.setTop (mkF m 37 #[.val (.long t), .second] [(.long t), (.ref b15), (.ref a11), (.ref a11)])) (fun tz kz => XT.lloadN X15.here hx rfl (hb hby d1_36) rfl kz) ?_
  have f16 := (A11.keep K15)
  have f17 := (D12.keep K15 nin0)
  have f18 := (D13.keep K15 nin0)
  refine own_callI X15 hx hZ (own_kr l Z az hw a11 b15 t T15.heap n0 f16 f17 f18 G11) hown rfl (hw _ (List.mem_of_getElem? (i := 31) rfl)) (hw _ (List.mem_of_getElem? (i := 32) rfl)) (hw _ (List.mem_of_getElem? (i := 4) rfl)) (hw _ (List.mem_of_getElem? (i := 33) rfl)) (by decide) rfl (g := (mkF m 37 #[.val (.long t), .second] [(.long t), (.ref b15), (.ref a11), (.ref a11)])) rfl (by rw [hml]; rfl) (argsL := [(.ref b15), (.long t)]) (rest := [(.ref a11)]) rfl (lenOf own_pd3 rfl) rfl 1 (by show 2 * 0 + _ ≤ _; exact Nat.le_of_eq rfl) (hb hby d1_37) (by decide) (by decide) (by decide) (by decide) ?_
  intro v19 T19 L19 hQ19 X19
  obtain ⟨rfl, M19, K19, E19, Fa19⟩ := hQ19
  refine own_via (F' := T19.setTop (mkF m 40 #[.val (.long t), .second] [(.ref a11)])) (fun tz kz => kz) ?_
  have f20 := (E15.keep K19)
  have f21 := (Fa15.keep K19 (ninS (Ne.symm ne15_a11) nin0))
  have f22 := (Fb15.keep K19 (ninS (Ne.symm ne15_a11) nin0))
  have f23 := (Fc15.keep K19 (ninS (Ne.symm ne15_a11) nin0))
  have f24 := (Fd15.keep K19 (ninS (Ne.symm ne15_a11) nin0))
  exact own_retA X19 hx hret rfl rfl hlk (hb hby d1_40) ⟨_, _, rfl, (Fr.app (Fr.app (Fr.nil n0) M15) M19), ((((Keep.refl h0 []).ext E11).trans K15 all0).trans K19 (allS (Or.inr B11) all0)), E19, Fa19, f20, f21, f22, f23, f24⟩ (by decide) (by decide)
set_option maxRecDepth 65536 in
set_option maxHeartbeats 40000000 in
theorem own_g_getDecision (l : Launch) (Z : State) (az : Array Value) (hw : ∀ d ∈ tables_1, d.before az Z = true) (a : Nat) (v : Nat) (h0 : Heap) (FV : Fld Z h0 a "com/example/refill/refill/bucket/internal/Reservation" "decision" "Lcom/example/refill/refill/bucket/Decision;" (.ref v)) :
    own_Con l Z (⟨"com/example/refill/refill/bucket/internal/Reservation", "getDecision", "()Lcom/example/refill/refill/bucket/Decision;"⟩ : MethodName) prog_10_method_5_code 1 (some (.object "com/example/refill/refill/bucket/Decision")) ({ frames := 0, cells := 0, slots := 0, locals := 0 } : Room) #[(.ref a)] h0 (fun r h L => r = some (.ref v) ∧ h = h0 ∧ L = []) := by
  refine own_con own_pnR ?_
  intro p e s m below meth c T0 hx hby hml hZ hown hnm hret hlk X0 e0 eh
  refine own_via (F' := T0.setTop (mkF m 0 #[.val (.ref a)] [])) (fun tz kz => castTop (own_efg m a) kz) ?_
  refine own_via (F' := T0.setTop (mkF m 1 #[.val (.ref a)] [(.ref a)])) (fun tz kz => XS.aloadN X0.here hx rfl (hb hby d6_0) rfl rfl kz) ?_
  obtain ⟨T1, X1, e1, s1⟩ := getF X0 hx hZ hown (host := "") (Or.inl (hw _ (List.mem_of_getElem? (i := 35) rfl))) Via.refl e0 FV (g := (mkF m 1 #[.val (.ref a)] [(.ref a)])) rfl rfl (hb hby d6_1)
  refine own_via (F' := T1.setTop (mkF m 4 #[.val (.ref a)] [(.ref v)])) s1 ?_
  exact own_retA X1 hx hret rfl rfl hlk (hb hby d6_4) ⟨rfl, e1, rfl⟩ (Nat.le_refl _) (Nat.le_refl _)
theorem own_t (x : Int64) : ¬ (((x &&& (9223372036854775807 : Int64)) - ((x &&& (9223372036854775807 : Int64)) / (9223372036854775806 : Int64)) * (9223372036854775806 : Int64)) + (1 : Int64)) < (1 : Int64) ∧ ¬ (9223372036854775806 : Int64) < (((x &&& (9223372036854775807 : Int64)) - ((x &&& (9223372036854775807 : Int64)) / (9223372036854775806 : Int64)) * (9223372036854775806 : Int64)) + (1 : Int64)) := by
  have a1 := c_maskL x 9223372036854775807 63 (by decide) (by decide)
  have a2 := c_lrem (x &&& (9223372036854775807 : Int64)) 9223372036854775806 9223372036854775806 (by decide)
  generalize (x &&& (9223372036854775807 : Int64)) = y at *
  have a3 := a2.1 (by omega)
  generalize (y - (y / (9223372036854775806 : Int64)) * (9223372036854775806 : Int64)) = z at *
  have a4 := c_ladd z 1
  have a5 := rng64 (z + 1)
  have e1 : (1 : Int64).toInt = 1 := by decide
  have e2 : (9223372036854775806 : Int64).toInt = 9223372036854775806 := by decide
  simp only [Int64.lt_iff_toInt_lt, e1, e2] at *
  omega
theorem own_ef0 (m : MethodId) (x0 : Int64) : entryFrame m #[(.long x0)] maxLocals = mkF m 0 #[.val (.long x0), .second, .unset, .unset, .unset, .unset, .unset] [] := by first | (simp [entryFrame, mkF, argsToLocals, Value.category, maxLocals]; done) | rfl
set_option maxRecDepth 65536 in
set_option maxHeartbeats 40000000 in
theorem own_law (l : Launch) (Z : State) (az : Array Value) (hw : ∀ d ∈ tables_1, d.before az Z = true) (p0 : Int64) (h0 : Heap) (n0 : Nat) (O0 : Old Z n0 h0) (aZ : Nat) (SZ : Sta Z Z.heap "java/time/Duration" "ZERO" "Ljava/time/Duration;" (.ref aZ)) (EZ : Exa Z Z.heap aZ "java/time/Duration") :
    own_Con l Z x code maxLocals ret room_1 #[(.long p0)] h0 (fun v h L => v = some (.int 1) ∧ Fr n0 L) := by
  refine own_con own_pnL ?_
  intro p e s m below meth c T0 hx hby hml hZ hown hnm hret hlk X0 e0 eh
  have hown : s.vm.findClass "com/example/refill/refill/bucket/internal/ReservationAheadPinLaw" = some m.cls := hown
  have EZ0 := EZ.ext O0.2
  refine own_via (F' := T0.setTop (mkF m 0 #[.val (.long p0), .second, .unset, .unset, .unset, .unset, .unset] [])) (fun tz kz => castTop (own_ef0 m p0) kz) ?_
  refine own_via (F' := T0.setTop (mkF m 1 #[.val (.long p0), .second, .unset, .unset, .unset, .unset, .unset] [(.long p0)])) (fun tz kz => XT.lloadN X0.here hx rfl (hb hby at_0) rfl kz) ?_
  refine own_via (F' := T0.setTop (mkF m 4 #[.val (.long p0), .second, .unset, .unset, .unset, .unset, .unset] [(.long (9223372036854775807 : Int64)), (.long p0)])) (fun tz kz => Jvm.Stand.ldc2J X0 hx hown (mvT hZ (hw _ (List.mem_of_getElem? (i := 0) rfl))) rfl (hb hby at_1) kz) ?_
  refine own_via (F' := T0.setTop (mkF m 5 #[.val (.long p0), .second, .unset, .unset, .unset, .unset, .unset] [(.long (p0 &&& (9223372036854775807 : Int64)))])) (fun tz kz => XT.land X0.here hx rfl (hb hby at_4) rfl kz) ?_
  refine own_via (F' := T0.setTop (mkF m 8 #[.val (.long p0), .second, .unset, .unset, .unset, .unset, .unset] [(.long (9223372036854775806 : Int64)), (.long (p0 &&& (9223372036854775807 : Int64)))])) (fun tz kz => Jvm.Stand.ldc2J X0 hx hown (mvT hZ (hw _ (List.mem_of_getElem? (i := 1) rfl))) rfl (hb hby at_5) kz) ?_
  refine own_via (F' := T0.setTop (mkF m 9 #[.val (.long p0), .second, .unset, .unset, .unset, .unset, .unset] [(.long ((p0 &&& (9223372036854775807 : Int64)) - ((p0 &&& (9223372036854775807 : Int64)) / (9223372036854775806 : Int64)) * (9223372036854775806 : Int64)))])) (fun tz kz => XT.lrem X0.here hx rfl (hb hby at_8) rfl (by decide) kz) ?_
  refine own_via (F' := T0.setTop (mkF m 10 #[.val (.long p0), .second, .unset, .unset, .unset, .unset, .unset] [(.long (1 : Int64)), (.long ((p0 &&& (9223372036854775807 : Int64)) - ((p0 &&& (9223372036854775807 : Int64)) / (9223372036854775806 : Int64)) * (9223372036854775806 : Int64)))])) (fun tz kz => XT.lconstV X0.here hx rfl (1 : Int64) (hb hby at_9) (by decide) kz) ?_
  refine own_via (F' := T0.setTop (mkF m 11 #[.val (.long p0), .second, .unset, .unset, .unset, .unset, .unset] [(.long (((p0 &&& (9223372036854775807 : Int64)) - ((p0 &&& (9223372036854775807 : Int64)) / (9223372036854775806 : Int64)) * (9223372036854775806 : Int64)) + (1 : Int64)))])) (fun tz kz => XT.ladd X0.here hx rfl (hb hby at_10) rfl kz) ?_
  refine own_via (F' := T0.setTop (mkF m 12 #[.val (.long p0), .second, .val (.long (((p0 &&& (9223372036854775807 : Int64)) - ((p0 &&& (9223372036854775807 : Int64)) / (9223372036854775806 : Int64)) * (9223372036854775806 : Int64)) + (1 : Int64))), .second, .unset, .unset, .unset] [])) (fun tz kz => XT.lstoreN X0.here hx rfl (hb hby at_11) rfl (l' := #[.val (.long p0), .second, .val (.long (((p0 &&& (9223372036854775807 : Int64)) - ((p0 &&& (9223372036854775807 : Int64)) / (9223372036854775806 : Int64)) * (9223372036854775806 : Int64)) + (1 : Int64))), .second, .unset, .unset, .unset]) rfl kz) ?_
  refine own_via (F' := T0.setTop (mkF m 13 #[.val (.long p0), .second, .val (.long (((p0 &&& (9223372036854775807 : Int64)) - ((p0 &&& (9223372036854775807 : Int64)) / (9223372036854775806 : Int64)) * (9223372036854775806 : Int64)) + (1 : Int64))), .second, .unset, .unset, .unset] [(.long (((p0 &&& (9223372036854775807 : Int64)) - ((p0 &&& (9223372036854775807 : Int64)) / (9223372036854775806 : Int64)) * (9223372036854775806 : Int64)) + (1 : Int64)))])) (fun tz kz => XT.lloadN X0.here hx rfl (hb hby at_12) rfl kz) ?_
  refine own_callS X0 hx hZ (own_kh l Z az hw (((p0 &&& (9223372036854775807 : Int64)) - ((p0 &&& (9223372036854775807 : Int64)) / (9223372036854775806 : Int64)) * (9223372036854775806 : Int64)) + (1 : Int64)) h0 n0 O0 aZ SZ (own_t p0).1 (own_t p0).2) hown (hw _ (List.mem_of_getElem? (i := 2) rfl)) (hw _ (List.mem_of_getElem? (i := 3) rfl)) (hw _ (List.mem_of_getElem? (i := 4) rfl)) (hw _ (List.mem_of_getElem? (i := 5) rfl)) (by decide) e0 (g := (mkF m 13 #[.val (.long p0), .second, .val (.long (((p0 &&& (9223372036854775807 : Int64)) - ((p0 &&& (9223372036854775807 : Int64)) / (9223372036854775806 : Int64)) * (9223372036854775806 : Int64)) + (1 : Int64))), .second, .unset, .unset, .unset] [(.long (((p0 &&& (9223372036854775807 : Int64)) - ((p0 &&& (9223372036854775807 : Int64)) / (9223372036854775806 : Int64)) * (9223372036854775806 : Int64)) + (1 : Int64)))])) rfl (by rw [hml]; rfl) (argsL := [(.long (((p0 &&& (9223372036854775807 : Int64)) - ((p0 &&& (9223372036854775807 : Int64)) / (9223372036854775806 : Int64)) * (9223372036854775806 : Int64)) + (1 : Int64)))]) (rest := []) rfl (lenOf own_pd4 rfl) rfl 0 (by show 2 * 0 + _ ≤ _; exact Nat.le_of_eq rfl) (hb hby at_13) (by decide) (by decide) (by decide) (by decide) ?_
  intro v11 T11 L11 hQ11 X11
  obtain ⟨r11, b11, rfl, M11, K11, E11, Fr11, Eb11, Fa11, Fb11, Fc11, Fd11⟩ := hQ11
  refine own_via (F' := T11.setTop (mkF m 16 #[.val (.long p0), .second, .val (.long (((p0 &&& (9223372036854775807 : Int64)) - ((p0 &&& (9223372036854775807 : Int64)) / (9223372036854775806 : Int64)) * (9223372036854775806 : Int64)) + (1 : Int64))), .second, .unset, .unset, .unset] [(.ref r11)])) (fun tz kz => kz) ?_
  refine own_via (F' := T11.setTop (mkF m 18 #[.val (.long p0), .second, .val (.long (((p0 &&& (9223372036854775807 : Int64)) - ((p0 &&& (9223372036854775807 : Int64)) / (9223372036854775806 : Int64)) * (9223372036854775806 : Int64)) + (1 : Int64))), .second, .val (.ref r11), .unset, .unset] [])) (fun tz kz => XS.astore X11.here hx rfl (hb hby at_16) rfl rfl (l' := #[.val (.long p0), .second, .val (.long (((p0 &&& (9223372036854775807 : Int64)) - ((p0 &&& (9223372036854775807 : Int64)) / (9223372036854775806 : Int64)) * (9223372036854775806 : Int64)) + (1 : Int64))), .second, .val (.ref r11), .unset, .unset]) rfl kz) ?_
  refine own_via (F' := T11.setTop (mkF m 20 #[.val (.long p0), .second, .val (.long (((p0 &&& (9223372036854775807 : Int64)) - ((p0 &&& (9223372036854775807 : Int64)) / (9223372036854775806 : Int64)) * (9223372036854775806 : Int64)) + (1 : Int64))), .second, .val (.ref r11), .unset, .unset] [(.ref r11)])) (fun tz kz => XS.aload X11.here hx rfl (hb hby at_18) rfl rfl kz) ?_
  refine own_callV X11 hx hZ (own_g_getDecision l Z az hw r11 b11 T11.heap Fr11) hown E11 (hw _ (List.mem_of_getElem? (i := 39) rfl)) (hw _ (List.mem_of_getElem? (i := 40) rfl)) (hw _ (List.mem_of_getElem? (i := 42) rfl)) (hw _ (List.mem_of_getElem? (i := 41) rfl)) (hw _ (List.mem_of_getElem? (i := 4) rfl)) (hw _ (List.mem_of_getElem? (i := 43) rfl)) (notFace_of_selects (args := #[]) (mvT hZ (hw _ (List.mem_of_getElem? (i := 42) rfl)))) (by decide) rfl (g := (mkF m 20 #[.val (.long p0), .second, .val (.long (((p0 &&& (9223372036854775807 : Int64)) - ((p0 &&& (9223372036854775807 : Int64)) / (9223372036854775806 : Int64)) * (9223372036854775806 : Int64)) + (1 : Int64))), .second, .val (.ref r11), .unset, .unset] [(.ref r11)])) rfl (by rw [hml]; rfl) (argsL := []) (rest := []) rfl (lenOf own_pd5 rfl) rfl 0 (by show 2 * 0 + _ ≤ _; exact Nat.le_of_eq rfl) (hb hby at_20) (by decide) (by decide) (by decide) (by decide) ?_
  intro v12 T12 L12 hQ12 X12
  obtain ⟨rfl, e12, rfl⟩ := hQ12
  refine own_via (F' := T12.setTop (mkF m 23 #[.val (.long p0), .second, .val (.long (((p0 &&& (9223372036854775807 : Int64)) - ((p0 &&& (9223372036854775807 : Int64)) / (9223372036854775806 : Int64)) * (9223372036854775806 : Int64)) + (1 : Int64))), .second, .val (.ref r11), .unset, .unset] [(.ref b11)])) (fun tz kz => kz) ?_
  refine own_via (F' := T12.setTop (mkF m 25 #[.val (.long p0), .second, .val (.long (((p0 &&& (9223372036854775807 : Int64)) - ((p0 &&& (9223372036854775807 : Int64)) / (9223372036854775806 : Int64)) * (9223372036854775806 : Int64)) + (1 : Int64))), .second, .val (.ref r11), .val (.ref b11), .unset] [])) (fun tz kz => XS.astore X12.here hx rfl (hb hby at_23) rfl rfl (l' := #[.val (.long p0), .second, .val (.long (((p0 &&& (9223372036854775807 : Int64)) - ((p0 &&& (9223372036854775807 : Int64)) / (9223372036854775806 : Int64)) * (9223372036854775806 : Int64)) + (1 : Int64))), .second, .val (.ref r11), .val (.ref b11), .unset]) rfl kz) ?_
  refine own_via (F' := T12.setTop (mkF m 27 #[.val (.long p0), .second, .val (.long (((p0 &&& (9223372036854775807 : Int64)) - ((p0 &&& (9223372036854775807 : Int64)) / (9223372036854775806 : Int64)) * (9223372036854775806 : Int64)) + (1 : Int64))), .second, .val (.ref r11), .val (.ref b11), .unset] [(.ref b11)])) (fun tz kz => XS.aload X12.here hx rfl (hb hby at_25) rfl rfl kz) ?_
  refine own_via (F' := T12.setTop (mkF m 32 #[.val (.long p0), .second, .val (.long (((p0 &&& (9223372036854775807 : Int64)) - ((p0 &&& (9223372036854775807 : Int64)) / (9223372036854775806 : Int64)) * (9223372036854775806 : Int64)) + (1 : Int64))), .second, .val (.ref r11), .val (.ref b11), .unset] [])) (fun tz kz => XT.ifnonnullYes X12.here hx rfl (pc0 := 27) (pc' := 32) rfl (hb hby at_27) rfl (by decide) (by decide) kz) ?_
  refine own_via (F' := T12.setTop (mkF m 33 #[.val (.long p0), .second, .val (.long (((p0 &&& (9223372036854775807 : Int64)) - ((p0 &&& (9223372036854775807 : Int64)) / (9223372036854775806 : Int64)) * (9223372036854775806 : Int64)) + (1 : Int64))), .second, .val (.ref r11), .val (.ref b11), .unset] [(.long (0 : Int64))])) (fun tz kz => XT.lconstV X12.here hx rfl (0 : Int64) (hb hby at_32) (by decide) kz) ?_
  have f13 := (O0.keep K11 all0)
  refine own_callS X12 hx hZ (own_ka l Z az hw (0 : Int64) T11.heap n0 f13 aZ SZ) hown (hw _ (List.mem_of_getElem? (i := 44) rfl)) (hw _ (List.mem_of_getElem? (i := 10) rfl)) (hw _ (List.mem_of_getElem? (i := 11) rfl)) (hw _ (List.mem_of_getElem? (i := 12) rfl)) (by decide) e12 (g := (mkF m 33 #[.val (.long p0), .second, .val (.long (((p0 &&& (9223372036854775807 : Int64)) - ((p0 &&& (9223372036854775807 : Int64)) / (9223372036854775806 : Int64)) * (9223372036854775806 : Int64)) + (1 : Int64))), .second, .val (.ref r11), .val (.ref b11), .unset] [(.long (0 : Int64))])) rfl (by rw [hml]; rfl) (argsL := [(.long (0 : Int64))]) (rest := []) rfl (lenOf own_pd2 rfl) rfl 0 (by show 2 * 0 + _ ≤ _; exact Nat.le_of_eq rfl) (hb hby at_33) (by decide) (by decide) (by decide) (by decide) ?_
  intro v14 T14 L14 hQ14 X14
  obtain ⟨b14, rfl, M14, K14, B14, E14, Fa14, Fb14, Fc14, Fd14⟩ := hQ14
  refine own_via (F' := T14.setTop (mkF m 36 #[.val (.long p0), .second, .val (.long (((p0 &&& (9223372036854775807 : Int64)) - ((p0 &&& (9223372036854775807 : Int64)) / (9223372036854775806 : Int64)) * (9223372036854775806 : Int64)) + (1 : Int64))), .second, .val (.ref r11), .val (.ref b11), .unset] [(.ref b14)])) (fun tz kz => kz) ?_
  refine own_via (F' := T14.setTop (mkF m 38 #[.val (.long p0), .second, .val (.long (((p0 &&& (9223372036854775807 : Int64)) - ((p0 &&& (9223372036854775807 : Int64)) / (9223372036854775806 : Int64)) * (9223372036854775806 : Int64)) + (1 : Int64))), .second, .val (.ref r11), .val (.ref b11), .val (.ref b14)] [])) (fun tz kz => XS.astore X14.here hx rfl (hb hby at_36) rfl rfl (l' := #[.val (.long p0), .second, .val (.long (((p0 &&& (9223372036854775807 : Int64)) - ((p0 &&& (9223372036854775807 : Int64)) / (9223372036854775806 : Int64)) * (9223372036854775806 : Int64)) + (1 : Int64))), .second, .val (.ref r11), .val (.ref b11), .val (.ref b14)]) rfl kz) ?_
  refine own_via (F' := T14.setTop (mkF m 40 #[.val (.long p0), .second, .val (.long (((p0 &&& (9223372036854775807 : Int64)) - ((p0 &&& (9223372036854775807 : Int64)) / (9223372036854775806 : Int64)) * (9223372036854775806 : Int64)) + (1 : Int64))), .second, .val (.ref r11), .val (.ref b11), .val (.ref b14)] [(.ref b11)])) (fun tz kz => XS.aload X14.here hx rfl (hb hby at_38) rfl rfl kz) ?_
  have f15 := (Fa11.keep K14 nin0)
  have f17 := (Eb11.keep K14)
  refine own_callV X14 hx hZ (own_g_isAllowed l Z az hw b11 (1 : Int32) (by decide) T14.heap f15) hown f17 (hw _ (List.mem_of_getElem? (i := 45) rfl)) (hw _ (List.mem_of_getElem? (i := 46) rfl)) (hw _ (List.mem_of_getElem? (i := 48) rfl)) (hw _ (List.mem_of_getElem? (i := 47) rfl)) (hw _ (List.mem_of_getElem? (i := 11) rfl)) (hw _ (List.mem_of_getElem? (i := 49) rfl)) (notFace_of_selects (args := #[]) (mvT hZ (hw _ (List.mem_of_getElem? (i := 48) rfl)))) (by decide) rfl (g := (mkF m 40 #[.val (.long p0), .second, .val (.long (((p0 &&& (9223372036854775807 : Int64)) - ((p0 &&& (9223372036854775807 : Int64)) / (9223372036854775806 : Int64)) * (9223372036854775806 : Int64)) + (1 : Int64))), .second, .val (.ref r11), .val (.ref b11), .val (.ref b14)] [(.ref b11)])) rfl (by rw [hml]; rfl) (argsL := []) (rest := []) rfl (lenOf own_pd6 rfl) rfl 0 (by show 2 * 0 + _ ≤ _; exact Nat.le_of_eq rfl) (hb hby at_40) (by decide) (by decide) (by decide) (by decide) ?_
  intro v16 T16 L16 hQ16 X16
  obtain ⟨rfl, e16, rfl⟩ := hQ16
  refine own_via (F' := T16.setTop (mkF m 43 #[.val (.long p0), .second, .val (.long (((p0 &&& (9223372036854775807 : Int64)) - ((p0 &&& (9223372036854775807 : Int64)) / (9223372036854775806 : Int64)) * (9223372036854775806 : Int64)) + (1 : Int64))), .second, .val (.ref r11), .val (.ref b11), .val (.ref b14)] [(.int (1 : Int32))])) (fun tz kz => kz) ?_
  refine own_via (F' := T16.setTop (mkF m 46 #[.val (.long p0), .second, .val (.long (((p0 &&& (9223372036854775807 : Int64)) - ((p0 &&& (9223372036854775807 : Int64)) / (9223372036854775806 : Int64)) * (9223372036854775806 : Int64)) + (1 : Int64))), .second, .val (.ref r11), .val (.ref b11), .val (.ref b14)] [])) (fun tz kz => XS.ifNo X16.here hx rfl (hb hby at_43) rfl (XT.i0_eq_f (by decide)) kz) ?_
  refine own_via (F' := T16.setTop (mkF m 48 #[.val (.long p0), .second, .val (.long (((p0 &&& (9223372036854775807 : Int64)) - ((p0 &&& (9223372036854775807 : Int64)) / (9223372036854775806 : Int64)) * (9223372036854775806 : Int64)) + (1 : Int64))), .second, .val (.ref r11), .val (.ref b11), .val (.ref b14)] [(.ref b11)])) (fun tz kz => XS.aload X16.here hx rfl (hb hby at_46) rfl rfl kz) ?_
  have f18 := (Fb11.keep K14 nin0)
  refine own_callV X16 hx hZ (own_g_getRemaining l Z az hw b11 (0 : Int64) T14.heap f18) hown f17 (hw _ (List.mem_of_getElem? (i := 50) rfl)) (hw _ (List.mem_of_getElem? (i := 51) rfl)) (hw _ (List.mem_of_getElem? (i := 53) rfl)) (hw _ (List.mem_of_getElem? (i := 52) rfl)) (hw _ (List.mem_of_getElem? (i := 11) rfl)) (hw _ (List.mem_of_getElem? (i := 54) rfl)) (notFace_of_selects (args := #[]) (mvT hZ (hw _ (List.mem_of_getElem? (i := 53) rfl)))) (by decide) e16 (g := (mkF m 48 #[.val (.long p0), .second, .val (.long (((p0 &&& (9223372036854775807 : Int64)) - ((p0 &&& (9223372036854775807 : Int64)) / (9223372036854775806 : Int64)) * (9223372036854775806 : Int64)) + (1 : Int64))), .second, .val (.ref r11), .val (.ref b11), .val (.ref b14)] [(.ref b11)])) rfl (by rw [hml]; rfl) (argsL := []) (rest := []) rfl (lenOf own_pd7 rfl) rfl 0 (by show 2 * 0 + _ ≤ _; exact Nat.le_of_eq rfl) (hb hby at_48) (by decide) (by decide) (by decide) (by decide) ?_
  intro v19 T19 L19 hQ19 X19
  obtain ⟨rfl, e19, rfl⟩ := hQ19
  refine own_via (F' := T19.setTop (mkF m 51 #[.val (.long p0), .second, .val (.long (((p0 &&& (9223372036854775807 : Int64)) - ((p0 &&& (9223372036854775807 : Int64)) / (9223372036854775806 : Int64)) * (9223372036854775806 : Int64)) + (1 : Int64))), .second, .val (.ref r11), .val (.ref b11), .val (.ref b14)] [(.long (0 : Int64))])) (fun tz kz => kz) ?_
  refine own_via (F' := T19.setTop (mkF m 52 #[.val (.long p0), .second, .val (.long (((p0 &&& (9223372036854775807 : Int64)) - ((p0 &&& (9223372036854775807 : Int64)) / (9223372036854775806 : Int64)) * (9223372036854775806 : Int64)) + (1 : Int64))), .second, .val (.ref r11), .val (.ref b11), .val (.ref b14)] [(.long (0 : Int64)), (.long (0 : Int64))])) (fun tz kz => XT.lconstV X19.here hx rfl (0 : Int64) (hb hby at_51) (by decide) kz) ?_
  refine own_via (F' := T19.setTop (mkF m 53 #[.val (.long p0), .second, .val (.long (((p0 &&& (9223372036854775807 : Int64)) - ((p0 &&& (9223372036854775807 : Int64)) / (9223372036854775806 : Int64)) * (9223372036854775806 : Int64)) + (1 : Int64))), .second, .val (.ref r11), .val (.ref b11), .val (.ref b14)] [(.int (XT.cmpL (0 : Int64) (0 : Int64)))])) (fun tz kz => XT.lcmp X19.here hx rfl (hb hby at_52) rfl kz) ?_
  refine own_via (F' := T19.setTop (mkF m 56 #[.val (.long p0), .second, .val (.long (((p0 &&& (9223372036854775807 : Int64)) - ((p0 &&& (9223372036854775807 : Int64)) / (9223372036854775806 : Int64)) * (9223372036854775806 : Int64)) + (1 : Int64))), .second, .val (.ref r11), .val (.ref b11), .val (.ref b14)] [])) (fun tz kz => XS.ifNo X19.here hx rfl (hb hby at_53) rfl (XT.ll_ne_f rfl) kz) ?_
  refine own_via (F' := T19.setTop (mkF m 58 #[.val (.long p0), .second, .val (.long (((p0 &&& (9223372036854775807 : Int64)) - ((p0 &&& (9223372036854775807 : Int64)) / (9223372036854775806 : Int64)) * (9223372036854775806 : Int64)) + (1 : Int64))), .second, .val (.ref r11), .val (.ref b11), .val (.ref b14)] [(.ref b11)])) (fun tz kz => XS.aload X19.here hx rfl (hb hby at_56) rfl rfl kz) ?_
  have f20 := (Fd11.keep K14 nin0)
  refine own_callV X19 hx hZ (own_g_isFallback l Z az hw b11 (0 : Int32) (by decide) T14.heap f20) hown f17 (hw _ (List.mem_of_getElem? (i := 55) rfl)) (hw _ (List.mem_of_getElem? (i := 56) rfl)) (hw _ (List.mem_of_getElem? (i := 58) rfl)) (hw _ (List.mem_of_getElem? (i := 57) rfl)) (hw _ (List.mem_of_getElem? (i := 11) rfl)) (hw _ (List.mem_of_getElem? (i := 59) rfl)) (notFace_of_selects (args := #[]) (mvT hZ (hw _ (List.mem_of_getElem? (i := 58) rfl)))) (by decide) e19 (g := (mkF m 58 #[.val (.long p0), .second, .val (.long (((p0 &&& (9223372036854775807 : Int64)) - ((p0 &&& (9223372036854775807 : Int64)) / (9223372036854775806 : Int64)) * (9223372036854775806 : Int64)) + (1 : Int64))), .second, .val (.ref r11), .val (.ref b11), .val (.ref b14)] [(.ref b11)])) rfl (by rw [hml]; rfl) (argsL := []) (rest := []) rfl (lenOf own_pd6 rfl) rfl 0 (by show 2 * 0 + _ ≤ _; exact Nat.le_of_eq rfl) (hb hby at_58) (by decide) (by decide) (by decide) (by decide) ?_
  intro v21 T21 L21 hQ21 X21
  obtain ⟨rfl, e21, rfl⟩ := hQ21
  refine own_via (F' := T21.setTop (mkF m 61 #[.val (.long p0), .second, .val (.long (((p0 &&& (9223372036854775807 : Int64)) - ((p0 &&& (9223372036854775807 : Int64)) / (9223372036854775806 : Int64)) * (9223372036854775806 : Int64)) + (1 : Int64))), .second, .val (.ref r11), .val (.ref b11), .val (.ref b14)] [(.int (0 : Int32))])) (fun tz kz => kz) ?_
  refine own_via (F' := T21.setTop (mkF m 64 #[.val (.long p0), .second, .val (.long (((p0 &&& (9223372036854775807 : Int64)) - ((p0 &&& (9223372036854775807 : Int64)) / (9223372036854775806 : Int64)) * (9223372036854775806 : Int64)) + (1 : Int64))), .second, .val (.ref r11), .val (.ref b11), .val (.ref b14)] [])) (fun tz kz => XS.ifNo X21.here hx rfl (hb hby at_61) rfl (XT.i0_ne_f (by decide)) kz) ?_
  refine own_via (F' := T21.setTop (mkF m 66 #[.val (.long p0), .second, .val (.long (((p0 &&& (9223372036854775807 : Int64)) - ((p0 &&& (9223372036854775807 : Int64)) / (9223372036854775806 : Int64)) * (9223372036854775806 : Int64)) + (1 : Int64))), .second, .val (.ref r11), .val (.ref b11), .val (.ref b14)] [(.ref b11)])) (fun tz kz => XS.aload X21.here hx rfl (hb hby at_64) rfl rfl kz) ?_
  refine own_via (F' := T21.setTop (mkF m 68 #[.val (.long p0), .second, .val (.long (((p0 &&& (9223372036854775807 : Int64)) - ((p0 &&& (9223372036854775807 : Int64)) / (9223372036854775806 : Int64)) * (9223372036854775806 : Int64)) + (1 : Int64))), .second, .val (.ref r11), .val (.ref b11), .val (.ref b14)] [(.ref b14), (.ref b11)])) (fun tz kz => XS.aload X21.here hx rfl (hb hby at_66) rfl rfl kz) ?_
  have f22 := ((EZ0.keep K11).keep K14)
  have f23 := (Fc11.keep K14 nin0)
  refine own_callV X21 hx hZ (own_ke l Z az hw b11 b14 aZ (0 : Int64) (0 : Int64) T14.heap f22 E14 f15 f18 f23 f20 Fa14 Fb14 Fc14 Fd14 (1 : Int32) (if_pos rfl)) hown f17 (hw _ (List.mem_of_getElem? (i := 60) rfl)) (hw _ (List.mem_of_getElem? (i := 61) rfl)) (hw _ (List.mem_of_getElem? (i := 63) rfl)) (hw _ (List.mem_of_getElem? (i := 62) rfl)) (hw _ (List.mem_of_getElem? (i := 11) rfl)) (hw _ (List.mem_of_getElem? (i := 64) rfl)) (notFace_of_selects (args := #[]) (mvT hZ (hw _ (List.mem_of_getElem? (i := 63) rfl)))) (by decide) e21 (g := (mkF m 68 #[.val (.long p0), .second, .val (.long (((p0 &&& (9223372036854775807 : Int64)) - ((p0 &&& (9223372036854775807 : Int64)) / (9223372036854775806 : Int64)) * (9223372036854775806 : Int64)) + (1 : Int64))), .second, .val (.ref r11), .val (.ref b11), .val (.ref b14)] [(.ref b14), (.ref b11)])) rfl (by rw [hml]; rfl) (argsL := [(.ref b14)]) (rest := []) rfl (lenOf own_pd1 rfl) rfl 0 (by show 2 * 0 + _ ≤ _; exact Nat.le_of_eq rfl) (hb hby at_68) (by decide) (by decide) (by decide) (by decide) ?_
  intro v24 T24 L24 hQ24 X24
  obtain ⟨rfl, e24, rfl⟩ := hQ24
  refine own_via (F' := T24.setTop (mkF m 71 #[.val (.long p0), .second, .val (.long (((p0 &&& (9223372036854775807 : Int64)) - ((p0 &&& (9223372036854775807 : Int64)) / (9223372036854775806 : Int64)) * (9223372036854775806 : Int64)) + (1 : Int64))), .second, .val (.ref r11), .val (.ref b11), .val (.ref b14)] [(.int (1 : Int32))])) (fun tz kz => kz) ?_
  refine own_via (F' := T24.setTop (mkF m 74 #[.val (.long p0), .second, .val (.long (((p0 &&& (9223372036854775807 : Int64)) - ((p0 &&& (9223372036854775807 : Int64)) / (9223372036854775806 : Int64)) * (9223372036854775806 : Int64)) + (1 : Int64))), .second, .val (.ref r11), .val (.ref b11), .val (.ref b14)] [])) (fun tz kz => XS.ifNo X24.here hx rfl (hb hby at_71) rfl (XT.i0_eq_f (by decide)) kz) ?_
  refine own_via (F' := T24.setTop (mkF m 75 #[.val (.long p0), .second, .val (.long (((p0 &&& (9223372036854775807 : Int64)) - ((p0 &&& (9223372036854775807 : Int64)) / (9223372036854775806 : Int64)) * (9223372036854775806 : Int64)) + (1 : Int64))), .second, .val (.ref r11), .val (.ref b11), .val (.ref b14)] [(.int (1 : Int32))])) (fun tz kz => XT.iconstV X24.here hx rfl (1 : Int32) (hb hby at_74) (by decide) kz) ?_
  refine own_via (F' := T24.setTop (mkF m 79 #[.val (.long p0), .second, .val (.long (((p0 &&& (9223372036854775807 : Int64)) - ((p0 &&& (9223372036854775807 : Int64)) / (9223372036854775806 : Int64)) * (9223372036854775806 : Int64)) + (1 : Int64))), .second, .val (.ref r11), .val (.ref b11), .val (.ref b14)] [(.int (1 : Int32))])) (fun tz kz => XS.goto X24.here hx rfl (pc0 := 75) (pc' := 79) rfl (hb hby at_75) (by decide) (by decide) kz) ?_
  exact own_retZ X24 hx hret hlk (hb hby at_79) ⟨rfl, (Fr.app (Fr.app (Fr.app (Fr.app (Fr.app (Fr.app (Fr.app (Fr.nil n0) M11) (Fr.nil _)) M14) (Fr.nil _)) (Fr.nil _)) (Fr.nil _)) (Fr.nil _))⟩ (by decide) (by decide)
set_option maxRecDepth 65536 in
set_option maxHeartbeats 40000000 in
theorem own_comes {Post : Tables → Env → Array Value → State → Outcome → State → Prop} (hpost : ∀ tb e args s v u, (limb_1_1.after args s (.returned v) u = true ∧ limb_1_2.after args s (.returned v) u = true ∧ True) → FrameEnd s (.returned v) u (Jvm.fieldLocs frame_1_writes args s ++ Jvm.arrayLocs frame_1_arrays args s ++ Jvm.staticLocs frame_1_statics s) 16 128 → Post tb e args s (.returned v) u) :
    ArmFor flags0 classFile x code maxLocals ret World_1 tables_1 room_1 Calls_1 rest_1 Pre_1 Post := by
  intro l hfl _ _ p e ha hc hk s m args below hf hA hF happ hP
  obtain ⟨hcalls, hrest, hpre⟩ := hP
  obtain ⟨-, -, -, hnamed, -, -, -, hat⟩ := (Spec.applies_iff hf).mp happ
  obtain ⟨hg, hn⟩ := and_e (Cond.before_iff.mp (show (Jvm.Cond.and given_1 narrow_1).before args s = true from hpre))
  obtain ⟨h1, hg⟩ := and_e hg
  have u0 := hg
  obtain ⟨w0, rfl⟩ : ∃ w0 : Value, args = #[w0] := by
    have hs : args.size = 1 := by simpa [Cond.value, given_1] using h1
    obtain ⟨L⟩ := args
    match L, hs with
    | [w0], _ => exact ⟨w0, rfl⟩
  have hw := fun d (hd : d ∈ tables_1) => atoms_spec (ws := Jvm.Cond.code x code maxLocals ret :: tables_1) hat d (List.mem_cons_of_mem _ hd)
  obtain ⟨p0, e0⟩ := isL_v u0
  obtain rfl : w0 = (.long p0) := Option.some.inj e0
  obtain ⟨hsets, hown0⟩ := atoms_of _ (rest_1_c_eq ▸ (show rest_1_c.before _ s = true from hrest))
  have z1 := hsets _ (List.mem_of_getElem? (i := 1) rfl)
  have z2 := Cond.before_iff.mp (hsets _ (List.mem_of_getElem? (i := 2) rfl))
  obtain ⟨aZ, vz⟩ := exa_v z2
  have SZ := Sta.start vz (Or.inl z1)
  have EZ := Exa.start vz z2
  obtain ⟨n, o, h1, h2, h3, _, L, rfl, ⟨rfl, N⟩, hq⟩ := own_law l s _ hw p0 s.heap s.heap.size (Old.start s) aZ SZ EZ tables_1 p e ha hc hk s m _ below hf ((Spec.applies_iff_loose hf).mp happ).1 ⟨rfl, State.Warmed39.refl s, rfl⟩ trivial
  refine ⟨n, _, h1, h2, h3, hpost _ _ _ _ _ _ ⟨Cond.after_iff.mpr rfl, Cond.after_iff.mpr (eq_i res_at (Term.int_eval (1)) rfl), trivial⟩ ⟨hq.1, hq.2.1, (hq.2.2.sift fun y hy => Or.inr (N y hy)).mono (by decide) (by decide)⟩⟩
theorem main_1_1 : Claimed_1_1 := own_comes fun _ _ _ _ _ _ h hF => ⟨h.1, hF⟩
theorem main_1_2 : Claimed_1_2 := own_comes fun _ _ _ _ _ _ h hF => ⟨h.2.1, hF⟩
end Jvm.Pilot.@@N@@
namespace Jvm.Pilot.@@N@@
open Jvm Jvm.ClassFile Sem Op Lib Jvm.Free Jvm.Stand Jvm.Pilot.@@N@@.Jvm.D
/-! MADE BY PROGRAM (witnessworld.py) out of the Statement's table words and the real class files: 13 classes; the members and pool entries that the words name. The judged class is class 1, her method 1. -/
namespace start1
open Jvm.ClassFile
def u (s : String) : CpInfo := .utf8 (stringToUtf16 s)
/-- a pool by its gaps: so many unusable entries, then the entry; so many at the end -/
def gap : Nat → List CpInfo → List CpInfo
  | 0, r => r
  | n + 1, r => .unusable :: gap n r
def poolList (es : List (Nat × CpInfo)) (last : Nat) : List CpInfo := es.foldr (fun e r => gap e.1 (e.2 :: r)) (gap last [])
def pool (es : List (Nat × CpInfo)) (last : Nat) : Array CpInfo := ⟨poolList es last⟩
def fileOf (pool : Array CpInfo) (this : Nat) (attrs : Array Attribute := #[]) (ms : Array MethodInfo := #[]) (fl : Nat := 33) (sup : Nat := 0) (ifs : Array Nat := #[]) (fds : Array FieldInfo := #[]) : ClassFile where
  minorVersion := 0
  majorVersion := 65
  constantPool := pool
  accessFlags := fl
  thisClass := this
  superClass := sup
  interfaces := ifs
  fields := fds
  methods := ms
  attributes := attrs
def plain (name : String) (sup : Option ClassId) : Class where
  name := name
  kind := .ordinary
  loader := none
  accessFlags := 33
  super := sup
  interfaces := #[]
  cf := none
  fields := #[]
  methods := #[]
  instanceTypes := #[]
  staticTypes := #[]
  resolved := #[]
  callSites := []
  init := .initialized
  statics := none
  mirror := none

def pool0 : Array CpInfo := pool [(5, u "<init>"), (0, u "()V"), (1, .class_ 10), (1, u "java/lang/Object")] 113

def k0c0 : Code := { maxStack := 0, maxLocals := 1, code := object_method_1_code, exceptionTable := #[], attributes := #[] }
def k0m0 : Method := { name := "<init>", desc := "()V", sig := { parameters := [], returnType := none }, accessFlags := 1, code := some k0c0 }
/-- java/lang/Object -/
def k0 : Class := { plain "java/lang/Object" none with
  accessFlags := 33
  interfaces := #[]
  cf := some (fileOf pool0 8 #[] #[{ accessFlags := 1, nameIndex := 5, descriptorIndex := 6, attributes := #[] }] 33 0 #[] #[])
  fields := #[]
  methods := #[k0m0]
  instanceTypes := #[]
  staticTypes := #[]
  resolved := Array.replicate 124 none
  statics := none }

def pool1 : Array CpInfo := pool [(2, .class_ 4), (1, u "java/lang/Object"), (0, u "<init>"), (0, u "()V"), (2, .long 9223372036854775807), (1, .long 9223372036854775806), (1, .methodref 14 15), (0, .class_ 16), (0, .nameAndType 17 18), (0, u "com/example/refill/refill/bucket/internal/Reservation"), (0, u "ahead"), (0, u "(J)Lcom/example/refill/refill/bucket/internal/Reservation;"), (0, .methodref 14 20), (0, .nameAndType 21 22), (0, u "getDecision"), (0, u "()Lcom/example/refill/refill/bucket/Decision;"), (0, .methodref 24 25), (0, .class_ 26), (0, .nameAndType 27 28), (0, u "com/example/refill/refill/bucket/Decision"), (0, u "allowed"), (0, u "(J)Lcom/example/refill/refill/bucket/Decision;"), (0, .methodref 24 30), (0, .nameAndType 31 32), (0, u "isAllowed"), (0, u "()Z"), (0, .methodref 24 34), (0, .nameAndType 35 36), (0, u "getRemaining"), (0, u "()J"), (0, .methodref 24 38), (0, .nameAndType 39 32), (0, u "isFallback"), (0, .methodref 24 41), (0, .nameAndType 42 43), (0, u "equals"), (0, u "(Ljava/lang/Object;)Z"), (0, .class_ 45), (0, u "com/example/refill/refill/bucket/internal/ReservationAheadPinLaw"), (2, u "law"), (0, u "(J)Z")] 3

def k1m0 : Method := { name := "<init>", desc := "()V", sig := { parameters := [], returnType := none }, accessFlags := 1, code := none }
def k1c1 : Code := { maxStack := 4, maxLocals := 7, code := code, exceptionTable := #[], attributes := #[] }
def k1m1 : Method := { name := "law", desc := "(J)Z", sig := { parameters := [.long], returnType := some .boolean }, accessFlags := 9, code := some k1c1 }
/-- com/example/refill/refill/bucket/internal/ReservationAheadPinLaw -/
def k1 : Class := { plain "com/example/refill/refill/bucket/internal/ReservationAheadPinLaw" (some 0) with
  accessFlags := 49
  interfaces := #[]
  cf := some (fileOf pool1 44 #[] #[{ accessFlags := 1, nameIndex := 5, descriptorIndex := 6, attributes := #[] }, { accessFlags := 9, nameIndex := 48, descriptorIndex := 49, attributes := #[] }] 49 2 #[] #[])
  fields := #[]
  methods := #[k1m0, k1m1]
  instanceTypes := #[]
  staticTypes := #[]
  resolved := Array.replicate 53 none
  statics := none }

def pool2 : Array CpInfo := pool [(3, .methodref 4 5), (0, .class_ 6), (0, .nameAndType 7 8), (0, u "java/lang/Object"), (0, u "<init>"), (0, u "()V"), (0, .fieldref 10 11), (0, .class_ 12), (0, .nameAndType 13 14), (0, u "com/example/refill/refill/bucket/internal/Reservation"), (0, u "decision"), (0, u "Lcom/example/refill/refill/bucket/Decision;"), (0, .fieldref 10 16), (0, .nameAndType 17 18), (0, u "waitNanos"), (0, u "J"), (7, .class_ 27), (0, u "com/example/refill/refill/bucket/Decision"), (0, .methodref 10 29), (0, .nameAndType 7 30), (0, u "(Lcom/example/refill/refill/bucket/Decision;J)V"), (0, .long 9223372036854775806), (10, .methodref 26 43), (0, .nameAndType 44 45), (0, u "allowed"), (0, u "(J)Lcom/example/refill/refill/bucket/Decision;"), (29, u "LONGEST_WAIT"), (0, u "Ljava/time/Duration;"), (39, u "LONGEST_WAIT_NANOS"), (5, u "ahead"), (0, u "(J)Lcom/example/refill/refill/bucket/internal/Reservation;"), (4, u "getDecision"), (0, u "()Lcom/example/refill/refill/bucket/Decision;")] 22

def k2c0 : Code := { maxStack := 3, maxLocals := 4, code := prog_10_method_1_code, exceptionTable := #[], attributes := #[] }
def k2m0 : Method := { name := "<init>", desc := "(Lcom/example/refill/refill/bucket/Decision;J)V", sig := { parameters := [(.object "com/example/refill/refill/bucket/Decision"), .long], returnType := none }, accessFlags := 2, code := some k2c0 }
def k2c1 : Code := { maxStack := 5, maxLocals := 2, code := prog_10_method_3_code, exceptionTable := #[], attributes := #[] }
def k2m1 : Method := { name := "ahead", desc := "(J)Lcom/example/refill/refill/bucket/internal/Reservation;", sig := { parameters := [.long], returnType := some (.object "com/example/refill/refill/bucket/internal/Reservation") }, accessFlags := 9, code := some k2c1 }
def k2c2 : Code := { maxStack := 1, maxLocals := 1, code := prog_10_method_5_code, exceptionTable := #[], attributes := #[] }
def k2m2 : Method := { name := "getDecision", desc := "()Lcom/example/refill/refill/bucket/Decision;", sig := { parameters := [], returnType := some (.object "com/example/refill/refill/bucket/Decision") }, accessFlags := 1, code := some k2c2 }
/-- com/example/refill/refill/bucket/internal/Reservation -/
def k2 : Class := { plain "com/example/refill/refill/bucket/internal/Reservation" (some 0) with
  accessFlags := 49
  interfaces := #[]
  cf := some (fileOf pool2 10 #[] #[{ accessFlags := 2, nameIndex := 7, descriptorIndex := 30, attributes := #[] }, { accessFlags := 9, nameIndex := 122, descriptorIndex := 123, attributes := #[] }, { accessFlags := 1, nameIndex := 128, descriptorIndex := 129, attributes := #[] }] 49 4 #[] #[{ accessFlags := 26, nameIndex := 116, descriptorIndex := 18, attributes := #[] }, { accessFlags := 26, nameIndex := 75, descriptorIndex := 76, attributes := #[] }, { accessFlags := 18, nameIndex := 13, descriptorIndex := 14, attributes := #[] }, { accessFlags := 18, nameIndex := 17, descriptorIndex := 18, attributes := #[] }])
  fields := #[{ name := "LONGEST_WAIT_NANOS", type := .long, accessFlags := 26, slot := 0, constantValue := 0 }, { name := "LONGEST_WAIT", type := (.object "java/time/Duration"), accessFlags := 26, slot := 1, constantValue := 0 }, { name := "decision", type := (.object "com/example/refill/refill/bucket/Decision"), accessFlags := 18, slot := 0, constantValue := 0 }, { name := "waitNanos", type := .long, accessFlags := 18, slot := 1, constantValue := 0 }]
  methods := #[k2m0, k2m1, k2m2]
  instanceTypes := #[(.object "com/example/refill/refill/bucket/Decision"), .long]
  staticTypes := #[.long, (.object "java/time/Duration")]
  resolved := Array.replicate 152 none
  statics := none }

def pool3 : Array CpInfo := pool [(1, .methodref 2 3), (0, .class_ 4), (0, .nameAndType 5 6), (0, u "java/lang/Object"), (0, u "<init>"), (0, u "()V"), (0, .fieldref 8 9), (0, .class_ 10), (0, .nameAndType 11 12), (0, u "com/example/refill/refill/bucket/Decision"), (0, u "allowed"), (0, u "Z"), (0, .fieldref 8 14), (0, .nameAndType 15 16), (0, u "remaining"), (0, u "J"), (0, .fieldref 8 18), (0, .nameAndType 19 20), (0, u "retryAfter"), (0, u "Ljava/time/Duration;"), (0, .fieldref 8 22), (0, .nameAndType 23 12), (0, u "fallback"), (0, .fieldref 25 26), (0, .class_ 27), (0, .nameAndType 28 20), (0, u "java/time/Duration"), (0, u "ZERO"), (0, .methodref 8 30), (0, .nameAndType 5 31), (0, u "(ZJLjava/time/Duration;Z)V"), (7, .methodref 25 40), (0, .nameAndType 41 42), (0, u "equals"), (0, u "(Ljava/lang/Object;)Z"), (26, u "(J)Lcom/example/refill/refill/bucket/Decision;"), (3, u "isAllowed"), (0, u "()Z"), (0, u "getRemaining"), (0, u "()J"), (2, u "isFallback")] 22

def k3c0 : Code := { maxStack := 3, maxLocals := 6, code := prog_2_method_1_code, exceptionTable := #[], attributes := #[] }
def k3m0 : Method := { name := "<init>", desc := "(ZJLjava/time/Duration;Z)V", sig := { parameters := [.boolean, .long, (.object "java/time/Duration"), .boolean], returnType := none }, accessFlags := 2, code := some k3c0 }
def k3c1 : Code := { maxStack := 7, maxLocals := 2, code := prog_2_method_2_code, exceptionTable := #[], attributes := #[] }
def k3m1 : Method := { name := "allowed", desc := "(J)Lcom/example/refill/refill/bucket/Decision;", sig := { parameters := [.long], returnType := some (.object "com/example/refill/refill/bucket/Decision") }, accessFlags := 9, code := some k3c1 }
def k3c2 : Code := { maxStack := 1, maxLocals := 1, code := prog_2_method_5_code, exceptionTable := #[], attributes := #[] }
def k3m2 : Method := { name := "isAllowed", desc := "()Z", sig := { parameters := [], returnType := some .boolean }, accessFlags := 1, code := some k3c2 }
def k3c3 : Code := { maxStack := 2, maxLocals := 1, code := prog_2_method_6_code, exceptionTable := #[], attributes := #[] }
def k3m3 : Method := { name := "getRemaining", desc := "()J", sig := { parameters := [], returnType := some .long }, accessFlags := 1, code := some k3c3 }
def k3c4 : Code := { maxStack := 1, maxLocals := 1, code := prog_2_method_8_code, exceptionTable := #[], attributes := #[] }
def k3m4 : Method := { name := "isFallback", desc := "()Z", sig := { parameters := [], returnType := some .boolean }, accessFlags := 1, code := some k3c4 }
def k3c5 : Code := { maxStack := 4, maxLocals := 3, code := prog_2_method_9_code, exceptionTable := #[], attributes := #[] }
def k3m5 : Method := { name := "equals", desc := "(Ljava/lang/Object;)Z", sig := { parameters := [(.object "java/lang/Object")], returnType := some .boolean }, accessFlags := 1, code := some k3c5 }
/-- com/example/refill/refill/bucket/Decision -/
def k3 : Class := { plain "com/example/refill/refill/bucket/Decision" (some 0) with
  accessFlags := 49
  interfaces := #[]
  cf := some (fileOf pool3 8 #[] #[{ accessFlags := 2, nameIndex := 5, descriptorIndex := 31, attributes := #[] }, { accessFlags := 9, nameIndex := 11, descriptorIndex := 69, attributes := #[] }, { accessFlags := 1, nameIndex := 73, descriptorIndex := 74, attributes := #[] }, { accessFlags := 1, nameIndex := 75, descriptorIndex := 76, attributes := #[] }, { accessFlags := 1, nameIndex := 79, descriptorIndex := 74, attributes := #[] }, { accessFlags := 1, nameIndex := 41, descriptorIndex := 42, attributes := #[] }] 49 2 #[] #[{ accessFlags := 18, nameIndex := 11, descriptorIndex := 12, attributes := #[] }, { accessFlags := 18, nameIndex := 15, descriptorIndex := 16, attributes := #[] }, { accessFlags := 18, nameIndex := 19, descriptorIndex := 20, attributes := #[] }, { accessFlags := 18, nameIndex := 23, descriptorIndex := 12, attributes := #[] }])
  fields := #[{ name := "allowed", type := .boolean, accessFlags := 18, slot := 0, constantValue := 0 }, { name := "remaining", type := .long, accessFlags := 18, slot := 1, constantValue := 0 }, { name := "retryAfter", type := (.object "java/time/Duration"), accessFlags := 18, slot := 2, constantValue := 0 }, { name := "fallback", type := .boolean, accessFlags := 18, slot := 3, constantValue := 0 }]
  methods := #[k3m0, k3m1, k3m2, k3m3, k3m4, k3m5]
  instanceTypes := #[.boolean, .long, (.object "java/time/Duration"), .boolean]
  staticTypes := #[]
  resolved := Array.replicate 102 none
  statics := none }

def pool4 : Array CpInfo := pool [(1, .class_ 2), (0, u "java/time/temporal/TemporalAmount"), (0, .class_ 4), (0, u "java/lang/Object")] 11

/-- java/time/temporal/TemporalAmount -/
def k4 : Class := { plain "java/time/temporal/TemporalAmount" (some 0) with
  accessFlags := 1537
  interfaces := #[]
  cf := some (fileOf pool4 1 #[] #[] 1537 3 #[] #[])
  fields := #[]
  methods := #[]
  instanceTypes := #[]
  staticTypes := #[]
  resolved := Array.replicate 16 none
  statics := none }

def pool5 : Array CpInfo := pool [(1, .class_ 2), (0, u "java/lang/Comparable"), (0, .class_ 4), (0, u "java/lang/Object")] 7

/-- java/lang/Comparable -/
def k5 : Class := { plain "java/lang/Comparable" (some 0) with
  accessFlags := 1537
  interfaces := #[]
  cf := some (fileOf pool5 1 #[] #[] 1537 3 #[] #[])
  fields := #[]
  methods := #[]
  instanceTypes := #[]
  staticTypes := #[]
  resolved := Array.replicate 12 none
  statics := none }

def pool6 : Array CpInfo := pool [(1, .class_ 2), (0, u "java/io/Serializable"), (0, .class_ 4), (0, u "java/lang/Object")] 2

/-- java/io/Serializable -/
def k6 : Class := { plain "java/io/Serializable" (some 0) with
  accessFlags := 1537
  interfaces := #[]
  cf := some (fileOf pool6 1 #[] #[] 1537 3 #[] #[])
  fields := #[]
  methods := #[]
  instanceTypes := #[]
  staticTypes := #[]
  resolved := Array.replicate 7 none
  statics := none }

def pool7 : Array CpInfo := pool [(11, .class_ 13), (1, u "java/time/Duration"), (20, u "ZERO"), (0, u "Ljava/time/Duration;"), (13, .class_ 51), (1, u "java/time/temporal/TemporalAmount"), (27, .class_ 81), (1, u "java/time/Duration$Lazy"), (35, u "seconds"), (101, .class_ 220), (0, u "java/lang/Object"), (2, u "J"), (2, u "nanos"), (0, u "I"), (11, .class_ 241), (1, u "java/time/Duration$DurationUnits"), (27, .class_ 271), (1, u "java/time/Duration$1"), (91, u "BI_NANOS_PER_SECOND"), (0, u "Ljava/math/BigInteger;"), (120, .class_ 486), (0, u "java/lang/Comparable"), (0, .class_ 488), (0, u "java/io/Serializable"), (0, u "serialVersionUID"), (129, u "equals"), (0, u "(Ljava/lang/Object;)Z")] 35

def k7c0 : Code := { maxStack := 4, maxLocals := 3, code := jdk_2316_method_67_code, exceptionTable := #[], attributes := #[] }
def k7m0 : Method := { name := "equals", desc := "(Ljava/lang/Object;)Z", sig := { parameters := [(.object "java/lang/Object")], returnType := some .boolean }, accessFlags := 1, code := some k7c0 }
/-- java/time/Duration -/
def k7 : Class := { plain "java/time/Duration" (some 0) with
  accessFlags := 49
  interfaces := #[4, 5, 6]
  cf := some (fileOf pool7 11 #[.nestMembers #[269, 239, 79]] #[{ accessFlags := 1, nameIndex := 619, descriptorIndex := 620, attributes := #[] }] 49 219 #[49, 485, 487] #[{ accessFlags := 25, nameIndex := 34, descriptorIndex := 35, attributes := #[] }, { accessFlags := 26, nameIndex := 489, descriptorIndex := 223, attributes := #[] }, { accessFlags := 26, nameIndex := 363, descriptorIndex := 364, attributes := #[] }, { accessFlags := 18, nameIndex := 117, descriptorIndex := 223, attributes := #[] }, { accessFlags := 18, nameIndex := 226, descriptorIndex := 227, attributes := #[] }])
  fields := #[{ name := "ZERO", type := (.object "java/time/Duration"), accessFlags := 25, slot := 0, constantValue := 0 }, { name := "serialVersionUID", type := .long, accessFlags := 26, slot := 1, constantValue := 0 }, { name := "BI_NANOS_PER_SECOND", type := (.object "java/math/BigInteger"), accessFlags := 26, slot := 2, constantValue := 0 }, { name := "seconds", type := .long, accessFlags := 18, slot := 0, constantValue := 0 }, { name := "nanos", type := .int, accessFlags := 18, slot := 1, constantValue := 0 }]
  methods := #[k7m0]
  instanceTypes := #[.long, .int]
  staticTypes := #[(.object "java/time/Duration"), .long, (.object "java/math/BigInteger")]
  resolved := Array.replicate 656 none
  statics := some 0 }

def pool8 : Array CpInfo := pool [(1, u "java/lang/Cloneable"), (0, .class_ 1), (0, u "java/lang/Object"), (0, .class_ 3)] 3

/-- java/lang/Cloneable -/
def k8 : Class := { plain "java/lang/Cloneable" (some 0) with
  accessFlags := 1537
  interfaces := #[]
  cf := some (fileOf pool8 2 #[] #[] 1537 4 #[] #[])
  fields := #[]
  methods := #[]
  instanceTypes := #[]
  staticTypes := #[]
  resolved := Array.replicate 8 none
  statics := none }

/-- the primitive byte -/
def k9 : Class := { plain "byte" none with kind := .primitive 'B', accessFlags := 0x411 }
/-- [B -/
def k10 : Class := { plain "[B" (some 0) with kind := .array 9 .byte, interfaces := #[8, 6], accessFlags := 1041 }

/-- the primitive int -/
def k11 : Class := { plain "int" none with kind := .primitive 'I', accessFlags := 0x411 }
/-- [I -/
def k12 : Class := { plain "[I" (some 0) with kind := .array 11 .int, interfaces := #[8, 6], accessFlags := 1041 }

def heap : Heap := #[{ cls := 7, slots := #[.ref 1, .long 0, .null], vm := .statics 7 },
  { cls := 7, slots := #[.long 0, .int 0], vm := .none }]
def classes : Array Class := #[k0, k1, k2, k3, k4, k5, k6, k7, k8, k9, k10, k11, k12]
def interned : List (Array UInt16 × Addr) := []
def slotsUsed : Nat := 5
def theMethod : MethodId := ⟨1, 1⟩
def args0 : Array Value := #[.long 7]
def aboutOver (below : List Frame) : State where
  vm := { classes := classes, interned := interned.toArray }
  heap := heap
  slotsUsed := slotsUsed
  threads := #[{ frames := .invoking theMethod args0 :: below }]
def below0 : List Frame := [.native { method := ⟨0, 0⟩, args := #[] }]
def about1 : State := aboutOver below0
def p0 : Program := .bare "" "" ""
def e0 : Env := launch0.env 0 0 0
theorem w_frames : about1.frames = Frame.invoking theMethod args0 :: below0 := rfl
set_option maxRecDepth 65536 in
theorem w_args : argsFit about1.vm theMethod args0 = true := by decide +kernel
set_option maxRecDepth 65536 in
theorem w_heap : heapFits about1 = true := by decide +kernel
set_option maxRecDepth 65536 in
theorem w_runnable : about1.curStatus? = some .runnable := by decide +kernel
set_option maxRecDepth 65536 in
theorem w_alone : about1.alone = true := by decide +kernel
set_option maxRecDepth 65536 in
theorem w_named : about1.methodNamed? x = some theMethod := by decide +kernel
set_option maxRecDepth 65536 in
theorem w_hears : about1.hears theMethod below0 = true := by decide +kernel
set_option maxRecDepth 65536 in
theorem w_ripe : about1.ripe theMethod args0 below0 = true := by decide +kernel
theorem w_running : about1.status = .running := rfl
set_option maxRecDepth 65536 in
theorem w_room : about1.hasRoom e0.platform room_1 = true :=
  launch0.hasRoom_least _ room_1 (by decide +kernel) (by decide +kernel) (by decide +kernel) (by decide +kernel) (by decide +kernel) (by decide +kernel)
theorem allAtoms_all (ts : List Jvm.Cond) (a : Array Jvm.Value) (st : Jvm.State) : (allAtoms ts).before a st = ts.all (fun c => c.before a st) := by
  induction ts with
  | nil => rfl
  | cons c t ih =>
    show (Jvm.Cond.and c (allAtoms t)).before a st = _
    rw [Jvm.Cond.before_and, ih, List.all_cons]
def words1 : List Jvm.Cond := Jvm.Cond.code x code maxLocals ret :: tables_1
/-- a 'code' word, met by the world's own term for the bytes: nothing is compared byte by byte -/
theorem code_word {y : MethodName} {bytes : ByteArray} {mx : Nat} {rt : Option FieldType} {a : Array Value} {s : State} {m : MethodId} {meth : Method} {c : Code} (h1 : s.methodNamed? y = some m) (h2 : s.vm.method? m = some meth) (h3 : meth.code = some c) (h4 : c.code = bytes)
    (h5 : (c.maxLocals == mx && c.exceptionTable.isEmpty && decide (c.maxStack ≤ mostOperands) && decide (meth.sig.returnType = rt) && !meth.locks && decide (parseMethodDescriptor y.desc = some meth.sig)) = true) : (Jvm.Cond.code y bytes mx rt).before a s = true := by
  simp only [Bool.and_eq_true, beq_iff_eq, Bool.not_eq_true', decide_eq_true_eq] at h5
  obtain ⟨⟨⟨⟨⟨g1, g2⟩, g3⟩, g4⟩, g5⟩, g6⟩ := h5
  simp [Cond.before, Cond.holds, Cond.value, h1, h2, h3, h4, g1, g2, g3, g4, g5, g6]
def isCode : Jvm.Cond → Bool
  | .code _ _ _ _ => true
  | _ => false
theorem all_split {L : List Jvm.Cond} {P : Jvm.Cond → Bool} (h1 : L.all (fun c => isCode c || P c) = true) (h2 : ∀ c ∈ L.filter isCode, P c = true) : L.all P = true := by
  refine List.all_eq_true.mpr fun c hc => ?_
  have h := List.all_eq_true.mp h1 c hc
  rcases Bool.eq_false_or_eq_true (isCode c) with hi | hi
  · exact h2 c (List.mem_filter.mpr ⟨hc, hi⟩)
  · simpa [hi] using h
set_option maxRecDepth 65536 in
theorem w_c0 : (Jvm.Cond.code x code maxLocals ret).before args0 about1 = true := code_word (m := ⟨1, 1⟩) (meth := k1m1) (c := k1c1) (by decide +kernel) rfl rfl rfl (by decide +kernel)
set_option maxRecDepth 65536 in
theorem w_c1 : (Jvm.Cond.code ({ cls := "com/example/refill/refill/bucket/internal/Reservation", name := "ahead", desc := "(J)Lcom/example/refill/refill/bucket/internal/Reservation;" } : Jvm.MethodName) prog_10_method_3_code (2 : Nat) (Option.some (Jvm.ClassFile.FieldType.object "com/example/refill/refill/bucket/internal/Reservation"))).before args0 about1 = true := code_word (m := ⟨2, 1⟩) (meth := k2m1) (c := k2c1) (by decide +kernel) rfl rfl rfl (by decide +kernel)
set_option maxRecDepth 65536 in
theorem w_c2 : (Jvm.Cond.code ({ cls := "com/example/refill/refill/bucket/Decision", name := "allowed", desc := "(J)Lcom/example/refill/refill/bucket/Decision;" } : Jvm.MethodName) prog_2_method_2_code (2 : Nat) (Option.some (Jvm.ClassFile.FieldType.object "com/example/refill/refill/bucket/Decision"))).before args0 about1 = true := code_word (m := ⟨3, 1⟩) (meth := k3m1) (c := k3c1) (by decide +kernel) rfl rfl rfl (by decide +kernel)
set_option maxRecDepth 65536 in
theorem w_c3 : (Jvm.Cond.code ({ cls := "com/example/refill/refill/bucket/Decision", name := "<init>", desc := "(ZJLjava/time/Duration;Z)V" } : Jvm.MethodName) prog_2_method_1_code (6 : Nat) (Option.none : Option Jvm.ClassFile.FieldType)).before args0 about1 = true := code_word (m := ⟨3, 0⟩) (meth := k3m0) (c := k3c0) (by decide +kernel) rfl rfl rfl (by decide +kernel)
set_option maxRecDepth 65536 in
theorem w_c4 : (Jvm.Cond.code ({ cls := "java/lang/Object", name := "<init>", desc := "()V" } : Jvm.MethodName) object_method_1_code (1 : Nat) (Option.none : Option Jvm.ClassFile.FieldType)).before args0 about1 = true := code_word (m := ⟨0, 0⟩) (meth := k0m0) (c := k0c0) (by decide +kernel) rfl rfl rfl (by decide +kernel)
set_option maxRecDepth 65536 in
theorem w_c5 : (Jvm.Cond.code ({ cls := "com/example/refill/refill/bucket/internal/Reservation", name := "<init>", desc := "(Lcom/example/refill/refill/bucket/Decision;J)V" } : Jvm.MethodName) prog_10_method_1_code (4 : Nat) (Option.none : Option Jvm.ClassFile.FieldType)).before args0 about1 = true := code_word (m := ⟨2, 0⟩) (meth := k2m0) (c := k2c0) (by decide +kernel) rfl rfl rfl (by decide +kernel)
set_option maxRecDepth 65536 in
theorem w_c6 : (Jvm.Cond.code ({ cls := "com/example/refill/refill/bucket/internal/Reservation", name := "getDecision", desc := "()Lcom/example/refill/refill/bucket/Decision;" } : Jvm.MethodName) prog_10_method_5_code (1 : Nat) (Option.some (Jvm.ClassFile.FieldType.object "com/example/refill/refill/bucket/Decision"))).before args0 about1 = true := code_word (m := ⟨2, 2⟩) (meth := k2m2) (c := k2c2) (by decide +kernel) rfl rfl rfl (by decide +kernel)
set_option maxRecDepth 65536 in
theorem w_c7 : (Jvm.Cond.code ({ cls := "com/example/refill/refill/bucket/Decision", name := "isAllowed", desc := "()Z" } : Jvm.MethodName) prog_2_method_5_code (1 : Nat) (Option.some Jvm.ClassFile.FieldType.boolean)).before args0 about1 = true := code_word (m := ⟨3, 2⟩) (meth := k3m2) (c := k3c2) (by decide +kernel) rfl rfl rfl (by decide +kernel)
set_option maxRecDepth 65536 in
theorem w_c8 : (Jvm.Cond.code ({ cls := "com/example/refill/refill/bucket/Decision", name := "getRemaining", desc := "()J" } : Jvm.MethodName) prog_2_method_6_code (1 : Nat) (Option.some Jvm.ClassFile.FieldType.long)).before args0 about1 = true := code_word (m := ⟨3, 3⟩) (meth := k3m3) (c := k3c3) (by decide +kernel) rfl rfl rfl (by decide +kernel)
set_option maxRecDepth 65536 in
theorem w_c9 : (Jvm.Cond.code ({ cls := "com/example/refill/refill/bucket/Decision", name := "isFallback", desc := "()Z" } : Jvm.MethodName) prog_2_method_8_code (1 : Nat) (Option.some Jvm.ClassFile.FieldType.boolean)).before args0 about1 = true := code_word (m := ⟨3, 4⟩) (meth := k3m4) (c := k3c4) (by decide +kernel) rfl rfl rfl (by decide +kernel)
set_option maxRecDepth 65536 in
theorem w_c10 : (Jvm.Cond.code ({ cls := "com/example/refill/refill/bucket/Decision", name := "equals", desc := "(Ljava/lang/Object;)Z" } : Jvm.MethodName) prog_2_method_9_code (3 : Nat) (Option.some Jvm.ClassFile.FieldType.boolean)).before args0 about1 = true := code_word (m := ⟨3, 5⟩) (meth := k3m5) (c := k3c5) (by decide +kernel) rfl rfl rfl (by decide +kernel)
set_option maxRecDepth 65536 in
theorem w_c11 : (Jvm.Cond.code ({ cls := "java/time/Duration", name := "equals", desc := "(Ljava/lang/Object;)Z" } : Jvm.MethodName) jdk_2316_method_67_code (3 : Nat) (Option.some Jvm.ClassFile.FieldType.boolean)).before args0 about1 = true := code_word (m := ⟨7, 0⟩) (meth := k7m0) (c := k7c0) (by decide +kernel) rfl rfl rfl (by decide +kernel)
def codes1 : List Jvm.Cond := [Jvm.Cond.code x code maxLocals ret, Jvm.Cond.code ({ cls := "com/example/refill/refill/bucket/internal/Reservation", name := "ahead", desc := "(J)Lcom/example/refill/refill/bucket/internal/Reservation;" } : Jvm.MethodName) prog_10_method_3_code (2 : Nat) (Option.some (Jvm.ClassFile.FieldType.object "com/example/refill/refill/bucket/internal/Reservation")), Jvm.Cond.code ({ cls := "com/example/refill/refill/bucket/Decision", name := "allowed", desc := "(J)Lcom/example/refill/refill/bucket/Decision;" } : Jvm.MethodName) prog_2_method_2_code (2 : Nat) (Option.some (Jvm.ClassFile.FieldType.object "com/example/refill/refill/bucket/Decision")), Jvm.Cond.code ({ cls := "com/example/refill/refill/bucket/Decision", name := "<init>", desc := "(ZJLjava/time/Duration;Z)V" } : Jvm.MethodName) prog_2_method_1_code (6 : Nat) (Option.none : Option Jvm.ClassFile.FieldType), Jvm.Cond.code ({ cls := "java/lang/Object", name := "<init>", desc := "()V" } : Jvm.MethodName) object_method_1_code (1 : Nat) (Option.none : Option Jvm.ClassFile.FieldType), Jvm.Cond.code ({ cls := "com/example/refill/refill/bucket/internal/Reservation", name := "<init>", desc := "(Lcom/example/refill/refill/bucket/Decision;J)V" } : Jvm.MethodName) prog_10_method_1_code (4 : Nat) (Option.none : Option Jvm.ClassFile.FieldType), Jvm.Cond.code ({ cls := "com/example/refill/refill/bucket/internal/Reservation", name := "getDecision", desc := "()Lcom/example/refill/refill/bucket/Decision;" } : Jvm.MethodName) prog_10_method_5_code (1 : Nat) (Option.some (Jvm.ClassFile.FieldType.object "com/example/refill/refill/bucket/Decision")), Jvm.Cond.code ({ cls := "com/example/refill/refill/bucket/Decision", name := "isAllowed", desc := "()Z" } : Jvm.MethodName) prog_2_method_5_code (1 : Nat) (Option.some Jvm.ClassFile.FieldType.boolean), Jvm.Cond.code ({ cls := "com/example/refill/refill/bucket/Decision", name := "getRemaining", desc := "()J" } : Jvm.MethodName) prog_2_method_6_code (1 : Nat) (Option.some Jvm.ClassFile.FieldType.long), Jvm.Cond.code ({ cls := "com/example/refill/refill/bucket/Decision", name := "isFallback", desc := "()Z" } : Jvm.MethodName) prog_2_method_8_code (1 : Nat) (Option.some Jvm.ClassFile.FieldType.boolean), Jvm.Cond.code ({ cls := "com/example/refill/refill/bucket/Decision", name := "equals", desc := "(Ljava/lang/Object;)Z" } : Jvm.MethodName) prog_2_method_9_code (3 : Nat) (Option.some Jvm.ClassFile.FieldType.boolean), Jvm.Cond.code ({ cls := "java/time/Duration", name := "equals", desc := "(Ljava/lang/Object;)Z" } : Jvm.MethodName) jdk_2316_method_67_code (3 : Nat) (Option.some Jvm.ClassFile.FieldType.boolean)]
set_option maxRecDepth 65536 in
theorem codes_eq : words1.filter isCode = codes1 := rfl
theorem w_codes : ∀ c ∈ words1.filter isCode, c.before args0 about1 = true := by
  rw [codes_eq]
  intro c hc
  simp only [codes1, List.mem_cons, List.not_mem_nil, or_false] at hc
  rcases hc with rfl | rfl | rfl | rfl | rfl | rfl | rfl | rfl | rfl | rfl | rfl | rfl
  · exact w_c0
  · exact w_c1
  · exact w_c2
  · exact w_c3
  · exact w_c4
  · exact w_c5
  · exact w_c6
  · exact w_c7
  · exact w_c8
  · exact w_c9
  · exact w_c10
  · exact w_c11
set_option maxRecDepth 65536 in
theorem w_t1 : (words1.take 24).all (fun c => isCode c || c.before args0 about1) = true := by decide +kernel
set_option maxRecDepth 65536 in
theorem w_t2 : ((words1.drop 24).take 24).all (fun c => isCode c || c.before args0 about1) = true := by decide +kernel
set_option maxRecDepth 65536 in
theorem w_t3 : ((words1.drop 24).drop 24).all (fun c => isCode c || c.before args0 about1) = true := by decide +kernel
theorem w_tables : (allAtoms (Jvm.Cond.code x code maxLocals ret :: tables_1)).before args0 about1 = true := by
  rw [allAtoms_all]
  show words1.all (fun c => c.before args0 about1) = true
  refine all_split ?_ w_codes
  rw [← List.take_append_drop 24 words1, List.all_append, w_t1, ← List.take_append_drop 24 (words1.drop 24), List.all_append, w_t2, w_t3]
  rfl
set_option maxRecDepth 65536 in
theorem w_rest : rest_1_c.before args0 about1 = true := by decide +kernel
set_option maxRecDepth 65536 in
theorem w_case : (Jvm.Cond.and given_1 narrow_1).before args0 about1 = true := by decide +kernel
theorem w_applies : (headSpec (Jvm.Cond.code x code maxLocals ret :: tables_1) room_1).applies x e0.platform about1 = true :=
  (Spec.applies_iff w_frames).mpr ⟨w_running, w_runnable, w_alone, w_named, w_hears, w_ripe, w_room, w_tables⟩
theorem atStart : AtStart classFile x code maxLocals ret World_1 tables_1 room_1 Calls_1 rest_1 Pre_1 launch0 p0 e0 about1 theMethod args0 below0 :=
  ⟨lists_1, trivial, launch0.admits_env _ _ _, launch0.least_env, fairChoices_fair.cas, fairChoices_fair.clock, w_frames, w_args, w_heap, w_applies, trivial, w_rest, w_case⟩
end start1
theorem witness_1 : WitnessClaimed_1 := ⟨start1.p0, start1.e0, start1.about1, start1.theMethod, start1.args0, start1.below0, start1.atStart⟩
end Jvm.Pilot.@@N@@
