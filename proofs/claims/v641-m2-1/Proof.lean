import JvmDerived
import JvmDerived.Pilot.@@N@@Statement
import JvmDerived.Pilot.@@N@@Code
set_option linter.unusedVariables false
set_option linter.unusedSimpArgs false
namespace Jvm.Pilot.@@N@@
open Jvm Jvm.ClassFile Sem Op Lib Jvm.Free Jvm.Stand Jvm.LawKit Jvm.RoadKit Bundle Jvm.Pilot.@@N@@.Jvm.D
theorem own_n {a b : Nat} (h : @LT.lt Addr _ a b) : a < b := h
section Own
variable {p : Program} {l : Launch} {e : Env} {R : Room} {s : State} {m : MethodId} {args : Array Value} {below : List Frame} {meth : Method} {c : Code} {T : State} {locs : List Loc} {cells slots : Nat} {Z : State} {a0 : Array Value} {h h' : Heap} {Q : Option Value → Heap → List Loc → Prop} {C N : Nat}
/-- the run from F comes to the method's end, and Q holds of what it returns, of the heap and of the slots written -/
def own_Go (p : Program) (e : Env) (below : List Frame) (s : State) (Q : Option Value → Heap → List Loc → Prop) (C N : Nat) (F : State) : Prop :=
  ∃ s₂ o, Steps p.tables e below F s₂ ∧ s₂.status = .running ∧ Ended s₂ below o ∧ ∃ v L, o = .returned v ∧ Q v s₂.heap L ∧ FrameEnd s o s₂ L C N
theorem own_via {F F' : State} (k : ∀ t, Steps p.tables e below F' t → Steps p.tables e below F t) (h : own_Go p e below s Q C N F') : own_Go p e below s Q C N F := by
  obtain ⟨s₂, o, h1, r⟩ := h
  exact ⟨s₂, o, k _ h1, r⟩
/-- a method's contract: from the arguments as' and the heap h0 it returns, and Q holds -/
def own_Con (l : Launch) (Z : State) (y : MethodName) (bytes : ByteArray) (maxL : Nat) (ret : Option FieldType) (rm : Room) (as' : Array Value) (h0 : Heap) (Q : Option Value → Heap → List Loc → Prop) : Prop :=
  ∀ ws : List Jvm.Cond, MetFree l y (head1 (Jvm.Cond.code y bytes maxL ret :: ws) rm) (fun a U => a = as' ∧ Z.Warmed39 U.vm ∧ U.heap = h0) (fun _ _ _ _ _ => True) (fun _ U o U' => ∃ v L, o = .returned v ∧ Q v U'.heap L ∧ FrameEnd U o U' L rm.cells rm.slots)
theorem own_con {y : MethodName} {bytes : ByteArray} {maxL : Nat} {ret : Option FieldType} {rm : Room} {as' : Array Value} {h0 : Heap} (hp : plainName y.cls = true)
    (body : ∀ (p : Program) (e : Env) (s : State) (m : MethodId) (below : List Frame) (meth : Method) (c : Code) (T : State), p.tables.exec = Jvm.exec → c.code = bytes → c.maxLocals = maxL → Z.Warmed39 s.vm → s.vm.findClass y.cls = some m.cls → meth.name = y.name → meth.sig.returnType = ret → meth.locks = false →
      Stand p l e rm s m as' below meth c T [] 0 0 → T.heap = h0 → s.heap = h0 → own_Go p e below s Q rm.cells rm.slots (T.setTop (entryFrame m as' maxL))) : own_Con l Z y bytes maxL ret rm as' h0 Q := by
  intro ws
  refine MetFree.of_bodySF (plainFor_of_name hp) hisR ?_
  intro p e s m args below meth c s₁ Bd hml0 hP hK
  obtain ⟨ha, hZ, hh⟩ := hP
  subst ha
  exact body p e s m below meth c s₁ Bd.exec Bd.bytes hml0 hZ (findClass_of_methodNamed Bd.named) (name_of_methodNamed Bd.named Bd.method).1 Bd.returns Bd.notSynchronized (Stand.of_body Bd) (by rw [← hh, Bd.state]; rfl) hh
theorem own_leave (X : Stand p l e R s m args below meth c T locs cells slots) {F : JFrame} {v : Option Value} (hv : meth.sig.returnType = none → v = none) (hlk : meth.locks = false)
    (k : ∀ fs, (∀ (f : JFrame) (acts : List Action), f.method = m → f.locked = none → f.entered = [] → (doReturn e (T.setTop f) acts v).1 = T.setFrames fs) → Steps p.tables e below (T.setTop F) (T.setFrames fs))
    (hQ : Q v T.heap locs) (hc : cells ≤ C) (hn : slots ≤ N) : own_Go p e below s Q C N (T.setTop F) := by
  obtain ⟨fs, hr, hrun, hended, hW, hsame⟩ := X.leave (v := v) hv hlk
  exact ⟨_, _, k fs hr, hrun, hended, v, locs, rfl, hQ, ⟨v, rfl⟩, hW, hsame.mono hc hn⟩
theorem own_ret0 (X : Stand p l e R s m args below meth c T locs cells slots) (hx : p.tables.exec = Jvm.exec) {pc : Nat} {Ls : Array Slot} (hret : meth.sig.returnType = none) (hlk : meth.locks = false) (hd : decode c.code pc = .ok (.return_, 1))
    (hQ : Q none T.heap locs) (hc : cells ≤ C) (hn : slots ≤ N) : own_Go p e below s Q C N (T.setTop (mkF m pc Ls [])) :=
  own_leave X (fun _ => rfl) hlk (fun fs hr => X.returnOut hx hret hd hr) hQ hc hn
theorem own_retZ (X : Stand p l e R s m args below meth c T locs cells slots) (hx : p.tables.exec = Jvm.exec) {pc : Nat} {Ls : Array Slot} {z : Int32} {rest : List Value} (hret : meth.sig.returnType = some .boolean) (hlk : meth.locks = false) (hd : decode c.code pc = .ok (.ireturn, 1))
    (hQ : Q (some (.int (nar .boolean z))) T.heap locs) (hc : cells ≤ C) (hn : slots ≤ N) : own_Go p e below s Q C N (T.setTop (mkF m pc Ls (.int z :: rest))) :=
  own_leave X (fun h => by rw [hret] at h; cases h) hlk (fun fs hr => retN X hx (t := .boolean) hret (by simp) hd hr) hQ hc hn
theorem own_retI (X : Stand p l e R s m args below meth c T locs cells slots) (hx : p.tables.exec = Jvm.exec) {pc : Nat} {Ls : Array Slot} {z : Int32} {rest : List Value} (hret : meth.sig.returnType = some .int) (hlk : meth.locks = false) (hd : decode c.code pc = .ok (.ireturn, 1))
    (hQ : Q (some (.int z)) T.heap locs) (hc : cells ≤ C) (hn : slots ≤ N) : own_Go p e below s Q C N (T.setTop (mkF m pc Ls (.int z :: rest))) :=
  own_leave X (fun h => by rw [hret] at h; cases h) hlk (fun fs hr => retOut X hx (t := .int) hret rfl (Or.inl ⟨rfl, Or.inl rfl, z, rfl⟩) hd hr) hQ hc hn
theorem own_retJ (X : Stand p l e R s m args below meth c T locs cells slots) (hx : p.tables.exec = Jvm.exec) {pc : Nat} {Ls : Array Slot} {z : Int64} {rest : List Value} (hret : meth.sig.returnType = some .long) (hlk : meth.locks = false) (hd : decode c.code pc = .ok (.lreturn, 1))
    (hQ : Q (some (.long z)) T.heap locs) (hc : cells ≤ C) (hn : slots ≤ N) : own_Go p e below s Q C N (T.setTop (mkF m pc Ls (.long z :: rest))) :=
  own_leave X (fun h => by rw [hret] at h; cases h) hlk (fun fs hr => retOut X hx (t := .long) hret rfl (Or.inr (Or.inl ⟨rfl, rfl, z, rfl⟩)) hd hr) hQ hc hn
theorem own_retA (X : Stand p l e R s m args below meth c T locs cells slots) (hx : p.tables.exec = Jvm.exec) {pc : Nat} {Ls : Array Slot} {w : Value} {t : FieldType} {rest : List Value} (hret : meth.sig.returnType = some t) (ht : t.isReference = true) (hw : w.isRef = true) (hlk : meth.locks = false) (hd : decode c.code pc = .ok (.areturn, 1))
    (hQ : Q (some w) T.heap locs) (hc : cells ≤ C) (hn : slots ≤ N) : own_Go p e below s Q C N (T.setTop (mkF m pc Ls (w :: rest))) :=
  own_leave X (fun h => by rw [hret] at h; cases h) hlk (fun fs hr => retOut X hx (t := t) hret (by rcases ref_cases hw with rfl | ⟨a, rfl⟩ <;> cases t <;> first | rfl | cases ht) (Or.inr (Or.inr (Or.inr (Or.inr ⟨rfl, ht, hw⟩)))) hd hr) hQ hc hn
section Calls
variable {y z : MethodName} {bytes : ByteArray} {maxL : Nat} {ret : Option FieldType} {rm : Room} {as' : Array Value} {Qc : Option Value → Heap → List Loc → Prop} {own : String} {index : Nat} {g : JFrame} {argsL rest : List Value}
theorem own_callS (X : Stand p l e R s m args below meth c T locs cells slots) (hx : p.tables.exec = Jvm.exec) (hZ : Z.Warmed39 s.vm) (K : own_Con l Z y bytes maxL ret rm as' h Qc) (hown : s.vm.findClass own = some m.cls)
    (w1 : (Jvm.Cond.methodLink own index y).before a0 Z = true) (w2 : (Jvm.Cond.static y).before a0 Z = true) (w3 : (Jvm.Cond.initialized y.cls).before a0 Z = true) (w4 : (Jvm.Cond.code y bytes maxL ret).before a0 Z = true)
    (hy : y.cls ≠ "java/lang/invoke/MethodHandle" ∧ y.cls ≠ "java/lang/invoke/VarHandle") (eT : T.heap = h) (hg : g.method = m) (hsize : g.locals.size = c.maxLocals) (has : argsL.toArray = as')
    (hlen : ∀ sig, parseMethodDescriptor y.desc = some sig → argsL.length = sig.parameters.length) (hst : g.stack = argsL.reverse ++ rest) (W : Nat) (hW : 2 * g.monitorRoom + (rest.map fun v => v.category).sum ≤ W) (hd : decode c.code g.pc = .ok (.invokestatic index, 3))
    (hf : rm.frames + 1 ≤ R.frames) (hl : W + (maxL + 11) + rm.locals ≤ R.locals) (hc : cells + rm.cells ≤ R.cells) (hs : slots + rm.slots ≤ R.slots)
    (k : ∀ (v : Option Value) (T' : State) (L : List Loc), Qc v T'.heap L → Stand p l e R s m args below meth c T' (locs ++ L) (cells + rm.cells) (slots + rm.slots) → own_Go p e below s Q C N (T'.setTop { g with pc := g.pc + 3, stack := v.toList ++ rest })) :
    own_Go p e below s Q C N (T.setTop g) := by
  obtain ⟨v, _, ⟨T', L', k', n'⟩, -, X', ⟨Lc, hQ, l', y', z'⟩, st⟩ := Jvm.LawKit.callS X hx (y := y) hown (mvT hZ w1) (mvT hZ w2) (mvT hZ w3) (mvT hZ w4) hy (backOf (W := W) (K []) hZ w4 w3 hf hl) (g := g) hg hsize (argsL := argsL) (rest := rest) hlen hst hW hd (fun _ _ => ⟨has, eT, hc, hs⟩)
  dsimp only [Pt.U, Pt.locs, Pt.cells, Pt.slots] at X' l' y' z' st hQ
  subst l' y' z'
  exact own_via st (k v T' Lc hQ X')
theorem own_callI (X : Stand p l e R s m args below meth c T locs cells slots) (hx : p.tables.exec = Jvm.exec) (hZ : Z.Warmed39 s.vm) (K : own_Con l Z y bytes maxL none rm as' h Qc) (hown : s.vm.findClass own = some m.cls) (hy1 : y.name = "<init>")
    (w1 : (Jvm.Cond.methodLink own index y).before a0 Z = true) (w2 : (Jvm.Cond.instanceMethod y).before a0 Z = true) (w3 : (Jvm.Cond.initialized y.cls).before a0 Z = true) (w4 : (Jvm.Cond.code y bytes maxL none).before a0 Z = true)
    (hy : y.cls ≠ "java/lang/invoke/MethodHandle" ∧ y.cls ≠ "java/lang/invoke/VarHandle") (eT : T.heap = h) (hg : g.method = m) (hsize : g.locals.size = c.maxLocals) {a : Addr} (has : (.ref a :: argsL).toArray = as')
    (hlen : ∀ sig, parseMethodDescriptor y.desc = some sig → argsL.length = sig.parameters.length) (hst : g.stack = argsL.reverse ++ .ref a :: rest) (W : Nat) (hW : 2 * g.monitorRoom + (rest.map fun v => v.category).sum ≤ W) (hd : decode c.code g.pc = .ok (.invokespecial index, 3))
    (hf : rm.frames + 1 ≤ R.frames) (hl : W + (maxL + 11) + rm.locals ≤ R.locals) (hc : cells + rm.cells ≤ R.cells) (hs : slots + rm.slots ≤ R.slots)
    (k : ∀ (v : Option Value) (T' : State) (L : List Loc), Qc v T'.heap L → Stand p l e R s m args below meth c T' (locs ++ L) (cells + rm.cells) (slots + rm.slots) → own_Go p e below s Q C N (T'.setTop { g with pc := g.pc + 3, stack := v.toList ++ rest })) :
    own_Go p e below s Q C N (T.setTop g) := by
  obtain ⟨v, _, ⟨T', L', k', n'⟩, -, X', ⟨Lc, hQ, l', y', z'⟩, st⟩ := X.specialBack hx (y := y) hy1 hown (mvT hZ w1) (mvT hZ w2) (mvT hZ w4) hy (backOf (W := W) (K []) hZ w4 w3 hf hl) (g := g) hg hsize (Steps.refl _) (a := a) (argsL := argsL) (rest := rest) hlen hst hW hd (fun _ _ => ⟨has, eT, hc, hs⟩)
  dsimp only [Pt.U, Pt.locs, Pt.cells, Pt.slots] at X' l' y' z' st hQ
  subst l' y' z'
  exact own_via (fun t q => st.trans q) (k v T' Lc hQ X')
theorem own_callV (X : Stand p l e R s m args below meth c T locs cells slots) (hx : p.tables.exec = Jvm.exec) (hZ : Z.Warmed39 s.vm) (K : own_Con l Z z bytes maxL ret rm as' h Qc) (hown : s.vm.findClass own = some m.cls) {CC : String} {a : Addr} (E : Exa Z h a CC)
    (w1 : (Jvm.Cond.methodLink own index y).before a0 Z = true) (w5 : (Jvm.Cond.declares y).before a0 Z = true) (w6 : (Jvm.Cond.selects CC y z).before a0 Z = true) (w2 : (Jvm.Cond.instanceMethod z).before a0 Z = true) (w3 : (Jvm.Cond.initialized z.cls).before a0 Z = true) (w4 : (Jvm.Cond.code z bytes maxL ret).before a0 Z = true)
    (nf : NotFace s y) (hy : y.cls ≠ "java/lang/invoke/MethodHandle" ∧ y.cls ≠ "java/lang/invoke/VarHandle") (eT : T.heap = h) (hg : g.method = m) (hsize : g.locals.size = c.maxLocals) (has : (.ref a :: argsL).toArray = as')
    (hlen : ∀ sig, parseMethodDescriptor y.desc = some sig → argsL.length = sig.parameters.length) (hst : g.stack = argsL.reverse ++ .ref a :: rest) (W : Nat) (hW : 2 * g.monitorRoom + (rest.map fun v => v.category).sum ≤ W) (hd : decode c.code g.pc = .ok (.invokevirtual index, 3))
    (hf : rm.frames + 1 ≤ R.frames) (hl : W + (maxL + 11) + rm.locals ≤ R.locals) (hc : cells + rm.cells ≤ R.cells) (hs : slots + rm.slots ≤ R.slots)
    (k : ∀ (v : Option Value) (T' : State) (L : List Loc), Qc v T'.heap L → Stand p l e R s m args below meth c T' (locs ++ L) (cells + rm.cells) (slots + rm.slots) → own_Go p e below s Q C N (T'.setTop { g with pc := g.pc + 3, stack := v.toList ++ rest })) :
    own_Go p e below s Q C N (T.setTop g) := by
  obtain ⟨cB, kB, q1, q2, q3⟩ := isOf hZ eT E
  obtain ⟨v, _, ⟨T', L', k', n'⟩, -, X', ⟨Lc, hQ, l', y', z'⟩, st⟩ := X.virtualBack hx (y := y) (z := z) hown (mvT hZ w1) (mvT hZ w5) nf (mvT hZ w6) (mvT hZ w2) hy (backOf (W := W) (K []) hZ w4 w3 hf hl) q1 q3 (g := g) hg hsize (Steps.refl _) (argsL := argsL) (rest := rest) hlen hst hW hd (fun _ _ => ⟨has, eT, hc, hs⟩)
  dsimp only [Pt.U, Pt.locs, Pt.cells, Pt.slots] at X' l' y' z' st hQ
  subst l' y' z'
  exact own_via (fun t q => st.trans q) (k v T' Lc hQ X')
end Calls
theorem own_eqi {t : Term} {n : Int32} (h : (Jvm.Cond.eq t (Term.int n)).value a0 Z none Z [] = some true) : t.eval a0 Z none [] Z = some (.int n) := by
  obtain ⟨x, y, e1, e2, k1, k2⟩ := cmp_v (Or.inl h)
  have e3 : y = .int n := (Option.some.inj e2).symm
  subst e3
  obtain ⟨w, rfl⟩ := k2
  have q : (Jvm.Cond.eq t (Term.int n)).value a0 Z none Z [] = some (decide (w = n)) := by simp [Jvm.Cond.value, e1, e2]
  rw [e1, gotT q h]
theorem own_fld {t : Term} {a : Addr} {CC f d : String} {v : Value} (ev : t.eval a0 Z none [] Z = some (.ref a)) (h : (Term.field t CC f d).eval a0 Z none [] Z = some v) : Fld Z Z.heap a CC f d v :=
  Fld.start ((fld_at ev).symm.trans h)
end Own
theorem own_pd0 : parseMethodDescriptor "()V" = some ⟨[], none⟩ := by decide +kernel
theorem own_pd1 : parseMethodDescriptor "(J)V" = some ⟨[.long], none⟩ := by decide +kernel
theorem own_pd2 : parseMethodDescriptor "(Ljava/lang/Object;)Z" = some ⟨[(.object "java/lang/Object")], some .boolean⟩ := by decide +kernel
theorem own_pd3 : parseMethodDescriptor "(J)Ljava/lang/Long;" = some ⟨[.long], some (.object "java/lang/Long")⟩ := by decide +kernel
theorem own_pn : plainName "com/example/cite4/cite4/value/LongValue" = true := by first | (simp [plainName, overriddenIn]; done) | decide +kernel
theorem own_pnL : plainName "com/example/cite4/cite4/value/LongValueEqualsPinLaw" = true := by first | (simp [plainName, overriddenIn]; done) | decide +kernel
theorem own_pnJ : plainName "java/lang/Long" = true := by first | (simp [plainName, overriddenIn]; done) | decide +kernel
theorem own_pnN : plainName "java/lang/Number" = true := by first | (simp [plainName, overriddenIn]; done) | decide +kernel
theorem d1_0 : decode prog_22_method_1_code 0 = .ok (.aload_n 0, 1) := by decide +kernel
theorem d1_1 : decode prog_22_method_1_code 1 = .ok (.invokespecial 1, 3) := by decide +kernel
theorem d1_4 : decode prog_22_method_1_code 4 = .ok (.aload_n 0, 1) := by decide +kernel
theorem d1_5 : decode prog_22_method_1_code 5 = .ok (.lload_n 1, 1) := by decide +kernel
theorem d1_6 : decode prog_22_method_1_code 6 = .ok (.putfield 7, 3) := by decide +kernel
theorem d1_9 : decode prog_22_method_1_code 9 = .ok (.return_, 1) := by decide +kernel
theorem d3_0 : decode prog_22_method_4_code 0 = .ok (.aload_n 1, 1) := by decide +kernel
theorem d3_1 : decode prog_22_method_4_code 1 = .ok (.instanceof 8, 3) := by decide +kernel
theorem d3_4 : decode prog_22_method_4_code 4 = .ok (.ifCond .eq 22, 3) := by decide +kernel
theorem d3_7 : decode prog_22_method_4_code 7 = .ok (.aload_n 0, 1) := by decide +kernel
theorem d3_8 : decode prog_22_method_4_code 8 = .ok (.getfield 7, 3) := by decide +kernel
theorem d3_11 : decode prog_22_method_4_code 11 = .ok (.aload_n 1, 1) := by decide +kernel
theorem d3_12 : decode prog_22_method_4_code 12 = .ok (.checkcast 8, 3) := by decide +kernel
theorem d3_15 : decode prog_22_method_4_code 15 = .ok (.getfield 7, 3) := by decide +kernel
theorem d3_18 : decode prog_22_method_4_code 18 = .ok (.lcmp, 1) := by decide +kernel
theorem d3_19 : decode prog_22_method_4_code 19 = .ok (.ifCond .ne 7, 3) := by decide +kernel
theorem d3_22 : decode prog_22_method_4_code 22 = .ok (.iconst 1, 1) := by decide +kernel
theorem d3_23 : decode prog_22_method_4_code 23 = .ok (.goto 4, 3) := by decide +kernel
theorem d3_26 : decode prog_22_method_4_code 26 = .ok (.iconst 0, 1) := by decide +kernel
theorem d3_27 : decode prog_22_method_4_code 27 = .ok (.ireturn, 1) := by decide +kernel
theorem d4_0 : decode jdk_35_method_24_code 0 = .ok (.sipush 128, 3) := by decide +kernel
theorem d4_3 : decode jdk_35_method_24_code 3 = .ok (.istore_n 2, 1) := by decide +kernel
theorem d4_4 : decode jdk_35_method_24_code 4 = .ok (.lload_n 0, 1) := by decide +kernel
theorem d4_5 : decode jdk_35_method_24_code 5 = .ok (.ldc2_w 230, 3) := by decide +kernel
theorem d4_8 : decode jdk_35_method_24_code 8 = .ok (.lcmp, 1) := by decide +kernel
theorem d4_9 : decode jdk_35_method_24_code 9 = .ok (.ifCond .lt 22, 3) := by decide +kernel
theorem d4_12 : decode jdk_35_method_24_code 12 = .ok (.lload_n 0, 1) := by decide +kernel
theorem d4_13 : decode jdk_35_method_24_code 13 = .ok (.ldc2_w 232, 3) := by decide +kernel
theorem d4_16 : decode jdk_35_method_24_code 16 = .ok (.lcmp, 1) := by decide +kernel
theorem d4_17 : decode jdk_35_method_24_code 17 = .ok (.ifCond .gt 14, 3) := by decide +kernel
theorem d4_20 : decode jdk_35_method_24_code 20 = .ok (.getstatic 234, 3) := by decide +kernel
theorem d4_23 : decode jdk_35_method_24_code 23 = .ok (.lload_n 0, 1) := by decide +kernel
theorem d4_24 : decode jdk_35_method_24_code 24 = .ok (.l2i, 1) := by decide +kernel
theorem d4_25 : decode jdk_35_method_24_code 25 = .ok (.sipush 128, 3) := by decide +kernel
theorem d4_28 : decode jdk_35_method_24_code 28 = .ok (.iadd, 1) := by decide +kernel
theorem d4_29 : decode jdk_35_method_24_code 29 = .ok (.aaload, 1) := by decide +kernel
theorem d4_30 : decode jdk_35_method_24_code 30 = .ok (.areturn, 1) := by decide +kernel
theorem d4_31 : decode jdk_35_method_24_code 31 = .ok (.new 1, 3) := by decide +kernel
theorem d4_34 : decode jdk_35_method_24_code 34 = .ok (.dup, 1) := by decide +kernel
theorem d4_35 : decode jdk_35_method_24_code 35 = .ok (.lload_n 0, 1) := by decide +kernel
theorem d4_36 : decode jdk_35_method_24_code 36 = .ok (.invokespecial 240, 3) := by decide +kernel
theorem d4_39 : decode jdk_35_method_24_code 39 = .ok (.areturn, 1) := by decide +kernel
theorem d5_0 : decode jdk_35_method_26_code 0 = .ok (.aload_n 0, 1) := by decide +kernel
theorem d5_1 : decode jdk_35_method_26_code 1 = .ok (.invokespecial 270, 3) := by decide +kernel
theorem d5_4 : decode jdk_35_method_26_code 4 = .ok (.aload_n 0, 1) := by decide +kernel
theorem d5_5 : decode jdk_35_method_26_code 5 = .ok (.lload_n 1, 1) := by decide +kernel
theorem d5_6 : decode jdk_35_method_26_code 6 = .ok (.putfield 273, 3) := by decide +kernel
theorem d5_9 : decode jdk_35_method_26_code 9 = .ok (.return_, 1) := by decide +kernel
theorem d6_0 : decode jdk_18_method_1_code 0 = .ok (.aload_n 0, 1) := by decide +kernel
theorem d6_1 : decode jdk_18_method_1_code 1 = .ok (.invokespecial 1, 3) := by decide +kernel
theorem d6_4 : decode jdk_18_method_1_code 4 = .ok (.return_, 1) := by decide +kernel
theorem own_ef0 (m : MethodId) (x0 : Int64) (x1 : Int64) (x2 : Int32) : entryFrame m #[(.long x0), (.long x1), (.int x2)] maxLocals = mkF m 0 #[.val (.long x0), .second, .val (.long x1), .second, .val (.int x2), .unset, .unset, .unset, .unset, .unset, .unset, .unset, .unset] [] := by first | (simp [entryFrame, mkF, argsToLocals, Value.category, maxLocals]; done) | rfl
theorem own_ef1 (m : MethodId) (x0 : Nat) (x1 : Int64) : entryFrame m #[(.ref x0), (.long x1)] 3 = mkF m 0 #[.val (.ref x0), .val (.long x1), .second] [] := by first | (simp [entryFrame, mkF, argsToLocals, Value.category]; done) | rfl
theorem own_ef2 (m : MethodId) (x0 : Nat) (x1 : Nat) : entryFrame m #[(.ref x0), (.ref x1)] 2 = mkF m 0 #[.val (.ref x0), .val (.ref x1)] [] := by first | (simp [entryFrame, mkF, argsToLocals, Value.category]; done) | rfl
theorem own_ef3 (m : MethodId) (x0 : Nat) : entryFrame m #[(.ref x0)] 1 = mkF m 0 #[.val (.ref x0)] [] := by first | (simp [entryFrame, mkF, argsToLocals, Value.category]; done) | rfl
theorem own_ef4 (m : MethodId) (x0 : Int64) : entryFrame m #[(.long x0)] 3 = mkF m 0 #[.val (.long x0), .second, .unset] [] := by first | (simp [entryFrame, mkF, argsToLocals, Value.category]; done) | rfl
theorem own_ef5 (m : MethodId) (x0 : Nat) : entryFrame m #[(.ref x0), .null] 2 = mkF m 0 #[.val (.ref x0), .val .null] [] := by first | (simp [entryFrame, mkF, argsToLocals, Value.category]; done) | rfl
theorem own_ix {v : Int64} {n : Nat} (h1 : ¬ v < (-128 : Int64)) (h2 : ¬ (127 : Int64) < v) (hn : n = (256 : Int32).toNatClampNeg) : ¬ (v.toInt32 + (128 : Int32) < 0 ∨ n ≤ (v.toInt32 + (128 : Int32)).toNatClampNeg) := by
  have a1 := c_l2i v
  have a2 := c_iadd v.toInt32 128
  have a3 := rng32 (v.toInt32 + 128)
  have a4 := rng32 v.toInt32
  have e1 : (256 : Int32).toNatClampNeg = 256 := by decide
  have e2 : (-128 : Int64).toInt = -128 := by decide
  have e3 : (127 : Int64).toInt = 127 := by decide
  have e4 : (128 : Int32).toInt = 128 := by decide
  have e5 : (0 : Int32).toInt = 0 := by decide
  simp only [Int64.lt_iff_toInt_lt, e2, e3] at h1 h2
  simp only [Int32.lt_iff_toInt_lt, e5, Int32.toNatClampNeg]
  rw [e1] at hn
  rw [e4] at a2
  omega
theorem own_notAsg {Z : State} {az : Array Value} {C A B O : String} {n : Nat} (w1 : (Jvm.Cond.superclass A B).before az Z = true) (w2 : (Jvm.Cond.superclass B O).before az Z = true) (w3 : (Jvm.Cond.noSuperclass O).before az Z = true) (wi : (Jvm.Cond.instantiable C n).before az Z = true)
    (n1 : A ≠ C) (n2 : B ≠ C) (n3 : O ≠ C) {h : Heap} {a : Nat} (E : Exa Z h a A) : Ins Z h a C false := by
  obtain ⟨cell, k, h1, h2, h3, h4, -⟩ := E
  obtain ⟨cC, kC, i1, i2, i3, i4, -⟩ := Cond.instantiable_spec wi
  refine ⟨cell, cC, h1, i1, ?_⟩
  have id_ne : ∀ {P : String} {i : ClassId}, Z.vm.findClass P = some i → P ≠ C → i ≠ cC := fun {P i} hp hn e => by
    subst e
    obtain ⟨k1, a1, a2⟩ := Vm.findClass_spec hp
    obtain ⟨k2, b1, b2⟩ := Vm.findClass_spec i1
    cases a1.symm.trans b1
    exact hn (a2.symm.trans b2)
  have sup : ∀ {P S : String}, (Jvm.Cond.superclass P S).before az Z = true → ∀ {i : ClassId}, Z.vm.findClass P = some i → ∃ (j : ClassId) (kk : Class), Z.vm.findClass S = some j ∧ Z.vm.classes[i]? = some kk ∧ kk.super = some j ∧ kk.kind = .ordinary := fun {P S} w {i} hp => by
    simp only [Jvm.Cond.before, Jvm.Cond.holds, Jvm.Cond.value, hp] at w
    cases hs : Z.vm.findClass S with
    | none => simp [hs] at w
    | some j =>
      cases hk : Z.vm.classes[i]? with
      | none => simp [hs, hk] at w
      | some kk =>
        cases hj : Z.vm.classes[j]? with
        | none => simp [hs, hk, hj] at w
        | some kj =>
          simp only [hs, hk, hj, Option.bind_some, Option.map_some] at w
          have w' : ((kk.super = some j ∧ kk.kind = .ordinary) ∧ kj.kind = .ordinary) ∧ kk.isInterface = false := by simpa using w
          exact ⟨j, kk, rfl, rfl, w'.1.1.1, w'.1.1.2⟩
  obtain ⟨jB, kA, b1, b2, b3, b4⟩ := sup w1 h2
  obtain ⟨jO, kB, o1, o2, o3, o4⟩ := sup w2 b1
  cases h3.symm.trans b2
  have hO : ∃ kO, Z.vm.classes[jO]? = some kO ∧ kO.super = none := by
    simp only [Jvm.Cond.before, Jvm.Cond.holds, Jvm.Cond.value, o1] at w3
    cases hk : Z.vm.classes[jO]? with
    | none => simp [hk] at w3
    | some kO =>
      simp only [hk, Option.bind_some, Option.map_some] at w3
      have w' : (kO.super = none ∧ kO.kind = .ordinary) ∧ kO.isInterface = false := by simpa using w3
      exact ⟨kO, rfl, w'.1.1⟩
  obtain ⟨kO, p1, p2⟩ := hO
  have x1 := id_ne h2 n1
  have x2 := id_ne b1 n2
  have x3 := id_ne o1 n3
  have key : ∀ f, Z.vm.isSubclassAux f cell.cls cC = false := fun f => by
    cases f with
    | zero => rfl
    | succ f =>
      simp only [Vm.isSubclassAux, h3, b3, beq_eq_false_iff_ne.mpr x1, Bool.false_or]
      cases f with
      | zero => rfl
      | succ f =>
        simp only [Vm.isSubclassAux, o2, o3, beq_eq_false_iff_ne.mpr x2, Bool.false_or]
        cases f with
        | zero => rfl
        | succ f => simp only [Vm.isSubclassAux, p1, p2, beq_eq_false_iff_ne.mpr x3, Bool.false_or]
  have i4' : kC.isInterface = false := by
    cases q : kC.isInterface with
    | false => rfl
    | true => simp [q] at i4
  have asg : Z.vm.assignable cell.cls cC = false := by
    unfold Vm.assignable
    rw [show (256 : Nat) = 255 + 1 from rfl]
    unfold Vm.assignableAux
    simp only [beq_eq_false_iff_ne.mpr x1, Bool.false_or, h3, i2, b4, i3, i4', Vm.isSubclass, key]
    first | done | simp
  simp [h4, asg]
set_option maxRecDepth 65536 in
set_option maxHeartbeats 40000000 in
theorem own_kn (l : Launch) (Z : State) (az : Array Value) (hw : ∀ d ∈ tables_1, d.before az Z = true) (a : Nat) (h0 : Heap) :
    own_Con l Z (⟨"java/lang/Number", "<init>", "()V"⟩ : MethodName) jdk_18_method_1_code 1 none ({ frames := 1, cells := 0, slots := 0, locals := 12 } : Room) #[(.ref a)] h0 (fun r h L => r = none ∧ h = h0 ∧ L = []) := by
  refine own_con own_pnN ?_
  intro p e s m below meth c T0 hx hby hml hZ hown hnm hret hlk X0 e0 eh
  refine own_via (F' := T0.setTop (mkF m 0 #[.val (.ref a)] [])) (fun tz kz => castTop (own_ef3 m a) kz) ?_
  refine own_via (F' := T0.setTop (mkF m 1 #[.val (.ref a)] [(.ref a)])) (fun tz kz => XS.aloadN X0.here hx rfl (hb hby d6_0) rfl rfl kz) ?_
  obtain ⟨T1, X1, e1, s1⟩ := initO X0 hx hZ hown (hw _ (List.mem_of_getElem? (i := 35) rfl)) (hw _ (List.mem_of_getElem? (i := 7) rfl)) (hw _ (List.mem_of_getElem? (i := 8) rfl)) e0 (g := (mkF m 1 #[.val (.ref a)] [(.ref a)])) rfl (by rw [hml]; rfl) rfl (hb hby d6_1) (by decide) (W := 0) (by show 2 * 0 + _ ≤ _; exact Nat.le_of_eq rfl) (by decide)
  refine own_via (F' := T1.setTop (mkF m 4 #[.val (.ref a)] [])) s1 ?_
  exact own_ret0 X1 hx hret hlk (hb hby d6_4) ⟨rfl, e1, rfl⟩ (Nat.le_refl _) (Nat.le_refl _)
set_option maxRecDepth 65536 in
set_option maxHeartbeats 40000000 in
theorem own_ki (l : Launch) (Z : State) (az : Array Value) (hw : ∀ d ∈ tables_1, d.before az Z = true) (a : Nat) (v : Int64) (h0 : Heap) (n0 : Nat) (E0 : Exa Z h0 a "com/example/cite4/cite4/value/LongValue") (F0 : Fld Z h0 a "com/example/cite4/cite4/value/LongValue" "value" "J" (.long (0 : Int64))) (G0 : n0 ≤ a) :
    own_Con l Z (⟨"com/example/cite4/cite4/value/LongValue", "<init>", "(J)V"⟩ : MethodName) prog_22_method_1_code 3 none ({ frames := 1, cells := 0, slots := 0, locals := 12 } : Room) #[(.ref a), (.long v)] h0 (fun r h L => r = none ∧ Fr n0 L ∧ Keep h0 h [a] ∧ Exa Z h a "com/example/cite4/cite4/value/LongValue" ∧ Fld Z h a "com/example/cite4/cite4/value/LongValue" "value" "J" (.long v)) := by
  refine own_con own_pn ?_
  intro p e s m below meth c T0 hx hby hml hZ hown hnm hret hlk X0 e0 eh
  refine own_via (F' := T0.setTop (mkF m 0 #[.val (.ref a), .val (.long v), .second] [])) (fun tz kz => castTop (own_ef1 m a v) kz) ?_
  refine own_via (F' := T0.setTop (mkF m 1 #[.val (.ref a), .val (.long v), .second] [(.ref a)])) (fun tz kz => XS.aloadN X0.here hx rfl (hb hby d1_0) rfl rfl kz) ?_
  obtain ⟨T1, X1, e1, s1⟩ := initO X0 hx hZ hown (hw _ (List.mem_of_getElem? (i := 6) rfl)) (hw _ (List.mem_of_getElem? (i := 7) rfl)) (hw _ (List.mem_of_getElem? (i := 8) rfl)) e0 (g := (mkF m 1 #[.val (.ref a), .val (.long v), .second] [(.ref a)])) rfl (by rw [hml]; rfl) rfl (hb hby d1_1) (by decide) (W := 0) (by show 2 * 0 + _ ≤ _; exact Nat.le_of_eq rfl) (by decide)
  refine own_via (F' := T1.setTop (mkF m 4 #[.val (.ref a), .val (.long v), .second] [])) s1 ?_
  refine own_via (F' := T1.setTop (mkF m 5 #[.val (.ref a), .val (.long v), .second] [(.ref a)])) (fun tz kz => XS.aloadN X1.here hx rfl (hb hby d1_4) rfl rfl kz) ?_
  refine own_via (F' := T1.setTop (mkF m 6 #[.val (.ref a), .val (.long v), .second] [(.long v), (.ref a)])) (fun tz kz => XT.lloadN X1.here hx rfl (hb hby d1_5) rfl kz) ?_
  obtain ⟨T2, h2, X2, e2, W2, s2⟩ := putF X1 hx hZ hown (host := "") (Or.inl (hw _ (List.mem_of_getElem? (i := 9) rfl))) Via.refl e1 F0 E0 (Or.inr ⟨(hw _ (List.mem_of_getElem? (i := 10) rfl)), rfl, hnm⟩) (hw _ (List.mem_of_getElem? (i := 1) rfl)) (ty := .long) (by decide) rfl rfl (g := (mkF m 6 #[.val (.ref a), .val (.long v), .second] [(.long v), (.ref a)])) rfl rfl (hb hby d1_6)
  have F2 := F0.same W2
  have N2 := Fr.snoc X2 (Fr.nil n0) G0
  refine own_via (F' := T2.setTop (mkF m 9 #[.val (.ref a), .val (.long v), .second] [])) s2 ?_
  have f3 := (E0.wr W2)
  exact own_ret0 X2 hx hret hlk (hb hby d1_9) (by rw [e2]; exact ⟨rfl, N2, ((Keep.refl h0 [a]).wr W2 (Or.inl (List.mem_of_getElem? (i := 0) rfl))), f3, F2⟩) (Nat.le_refl _) (Nat.le_refl _)
set_option maxRecDepth 65536 in
set_option maxHeartbeats 40000000 in
theorem own_kl (l : Launch) (Z : State) (az : Array Value) (hw : ∀ d ∈ tables_1, d.before az Z = true) (a : Nat) (v : Int64) (h0 : Heap) (n0 : Nat) (E0 : Exa Z h0 a "java/lang/Long") (F0 : Fld Z h0 a "java/lang/Long" "value" "J" (.long (0 : Int64))) (G0 : n0 ≤ a) :
    own_Con l Z (⟨"java/lang/Long", "<init>", "(J)V"⟩ : MethodName) jdk_35_method_26_code 3 none ({ frames := 2, cells := 0, slots := 0, locals := 24 } : Room) #[(.ref a), (.long v)] h0 (fun r h L => r = none ∧ Fr n0 L ∧ Keep h0 h [a] ∧ Exa Z h a "java/lang/Long" ∧ Fld Z h a "java/lang/Long" "value" "J" (.long v)) := by
  refine own_con own_pnJ ?_
  intro p e s m below meth c T0 hx hby hml hZ hown hnm hret hlk X0 e0 eh
  refine own_via (F' := T0.setTop (mkF m 0 #[.val (.ref a), .val (.long v), .second] [])) (fun tz kz => castTop (own_ef1 m a v) kz) ?_
  refine own_via (F' := T0.setTop (mkF m 1 #[.val (.ref a), .val (.long v), .second] [(.ref a)])) (fun tz kz => XS.aloadN X0.here hx rfl (hb hby d5_0) rfl rfl kz) ?_
  refine own_callI X0 hx hZ (own_kn l Z az hw a h0) hown rfl (hw _ (List.mem_of_getElem? (i := 29) rfl)) (hw _ (List.mem_of_getElem? (i := 30) rfl)) (hw _ (List.mem_of_getElem? (i := 33) rfl)) (hw _ (List.mem_of_getElem? (i := 34) rfl)) (by decide) e0 (g := (mkF m 1 #[.val (.ref a), .val (.long v), .second] [(.ref a)])) rfl (by rw [hml]; rfl) (argsL := []) (rest := []) rfl (lenOf own_pd0 rfl) rfl 0 (by show 2 * 0 + _ ≤ _; exact Nat.le_of_eq rfl) (hb hby d5_1) (by decide) (by decide) (by decide) (by decide) ?_
  intro v1 T1 L1 hQ1 X1
  obtain ⟨rfl, e1, rfl⟩ := hQ1
  refine own_via (F' := T1.setTop (mkF m 4 #[.val (.ref a), .val (.long v), .second] [])) (fun tz kz => kz) ?_
  refine own_via (F' := T1.setTop (mkF m 5 #[.val (.ref a), .val (.long v), .second] [(.ref a)])) (fun tz kz => XS.aloadN X1.here hx rfl (hb hby d5_4) rfl rfl kz) ?_
  refine own_via (F' := T1.setTop (mkF m 6 #[.val (.ref a), .val (.long v), .second] [(.long v), (.ref a)])) (fun tz kz => XT.lloadN X1.here hx rfl (hb hby d5_5) rfl kz) ?_
  obtain ⟨T2, h2, X2, e2, W2, s2⟩ := putF X1 hx hZ hown (host := "") (Or.inl (hw _ (List.mem_of_getElem? (i := 36) rfl))) Via.refl e1 F0 E0 (Or.inr ⟨(hw _ (List.mem_of_getElem? (i := 37) rfl)), rfl, hnm⟩) (hw _ (List.mem_of_getElem? (i := 24) rfl)) (ty := .long) (by decide) rfl rfl (g := (mkF m 6 #[.val (.ref a), .val (.long v), .second] [(.long v), (.ref a)])) rfl rfl (hb hby d5_6)
  have F2 := F0.same W2
  have N2 := Fr.snoc X2 (Fr.app (Fr.nil n0) (Fr.nil _)) G0
  refine own_via (F' := T2.setTop (mkF m 9 #[.val (.ref a), .val (.long v), .second] [])) s2 ?_
  have f3 := (E0.wr W2)
  exact own_ret0 X2 hx hret hlk (hb hby d5_9) (by rw [e2]; exact ⟨rfl, N2, ((Keep.refl h0 [a]).wr W2 (Or.inl (List.mem_of_getElem? (i := 0) rfl))), f3, F2⟩) (Nat.le_refl _) (Nat.le_refl _)
set_option maxRecDepth 65536 in
set_option maxHeartbeats 40000000 in
theorem own_kv (l : Launch) (Z : State) (az : Array Value) (hw : ∀ d ∈ tables_1, d.before az Z = true) (v : Int64) (h0 : Heap) (n0 : Nat) (O0 : Old Z n0 h0) (ca : Nat) (cc : Cell) (vl : Int32 → Value) (SC : Sta Z Z.heap "java/lang/Long$LongCache" "cache" "[Ljava/lang/Long;" (.ref ca)) (BX : Bxs Z ca cc "java/lang/Long" "J" 256 vl) :
    own_Con l Z (⟨"java/lang/Long", "valueOf", "(J)Ljava/lang/Long;"⟩ : MethodName) jdk_35_method_24_code 3 (some (.object "java/lang/Long")) ({ frames := 3, cells := 1, slots := 1, locals := 39 } : Room) #[(.long v)] h0 (fun r h L => ∃ b, r = some (.ref b) ∧ Fr n0 L ∧ Keep h0 h [] ∧ Exa Z h b "java/lang/Long") := by
  refine own_con own_pnJ ?_
  intro p e s m below meth c T0 hx hby hml hZ hown hnm hret hlk X0 e0 eh
  refine own_via (F' := T0.setTop (mkF m 0 #[.val (.long v), .second, .unset] [])) (fun tz kz => castTop (own_ef4 m v) kz) ?_
  refine own_via (F' := T0.setTop (mkF m 3 #[.val (.long v), .second, .unset] [(.int (128 : Int32))])) (fun tz kz => XT.sipushV X0.here hx rfl (128 : Int32) (hb hby d4_0) (by decide) kz) ?_
  refine own_via (F' := T0.setTop (mkF m 4 #[.val (.long v), .second, .val (.int (128 : Int32))] [])) (fun tz kz => XS.istoreN X0.here hx rfl (hb hby d4_3) rfl (l' := #[.val (.long v), .second, .val (.int (128 : Int32))]) rfl kz) ?_
  refine own_via (F' := T0.setTop (mkF m 5 #[.val (.long v), .second, .val (.int (128 : Int32))] [(.long v)])) (fun tz kz => XT.lloadN X0.here hx rfl (hb hby d4_4) rfl kz) ?_
  refine own_via (F' := T0.setTop (mkF m 8 #[.val (.long v), .second, .val (.int (128 : Int32))] [(.long (-128 : Int64)), (.long v)])) (fun tz kz => Jvm.Stand.ldc2J X0 hx hown (mvT hZ (hw _ (List.mem_of_getElem? (i := 22) rfl))) rfl (hb hby d4_5) kz) ?_
  refine own_via (F' := T0.setTop (mkF m 9 #[.val (.long v), .second, .val (.int (128 : Int32))] [(.int (XT.cmpL v (-128 : Int64)))])) (fun tz kz => XT.lcmp X0.here hx rfl (hb hby d4_8) rfl kz) ?_
  by_cases q1 : v < (-128 : Int64)
  · refine own_via (F' := T0.setTop (mkF m 31 #[.val (.long v), .second, .val (.int (128 : Int32))] [])) (fun tz kz => XS.ifYes X0.here hx rfl (pc0 := 9) (pc' := 31) rfl (hb hby d4_9) rfl (XT.ll_lt_t q1) (by decide) (by decide) kz) ?_
    obtain ⟨T2, h2, X2, e2, E2, A2, D2, -, s2⟩ := newO X0 hx hZ hown (hw _ (List.mem_of_getElem? (i := 23) rfl)) (hw _ (List.mem_of_getElem? (i := 24) rfl)) (hw _ (List.mem_of_getElem? (i := 20) rfl)) e0 (g := (mkF m 31 #[.val (.long v), .second, .val (.int (128 : Int32))] [])) rfl (hb hby d4_31) (by decide) (by decide)
    obtain ⟨a2, g2⟩ : ∃ z, z = h0.size := ⟨_, rfl⟩
    rw [← g2] at A2 D2 s2
    have G2 : n0 ≤ a2 := by have q := O0.2.1; have q2 := O0.1; omega
    have D3 : Fld Z h2 a2 "java/lang/Long" "value" "J" (.long (0 : Int64)) := D2 (Or.inr (hw _ (List.mem_of_getElem? (i := 37) rfl))) (ty := .long) (by decide)
    refine own_via (F' := T2.setTop (mkF m 34 #[.val (.long v), .second, .val (.int (128 : Int32))] [(.ref a2)])) s2 ?_
    have B2 : h0.size ≤ a2 := by have q := (Keep.refl h0 []).1; omega
    refine own_via (F' := T2.setTop (mkF m 35 #[.val (.long v), .second, .val (.int (128 : Int32))] [(.ref a2), (.ref a2)])) (fun tz kz => XS.dup X2.here hx rfl (hb hby d4_34) rfl rfl kz) ?_
    refine own_via (F' := T2.setTop (mkF m 36 #[.val (.long v), .second, .val (.int (128 : Int32))] [(.long v), (.ref a2), (.ref a2)])) (fun tz kz => XT.lloadN X2.here hx rfl (hb hby d4_35) rfl kz) ?_
    refine own_callI X2 hx hZ (own_kl l Z az hw a2 v h2 n0 A2 D3 G2) hown rfl (hw _ (List.mem_of_getElem? (i := 25) rfl)) (hw _ (List.mem_of_getElem? (i := 26) rfl)) (hw _ (List.mem_of_getElem? (i := 20) rfl)) (hw _ (List.mem_of_getElem? (i := 28) rfl)) (by decide) e2 (g := (mkF m 36 #[.val (.long v), .second, .val (.int (128 : Int32))] [(.long v), (.ref a2), (.ref a2)])) rfl (by rw [hml]; rfl) (argsL := [(.long v)]) (rest := [(.ref a2)]) rfl (lenOf own_pd1 rfl) rfl 1 (by show 2 * 0 + _ ≤ _; exact Nat.le_of_eq rfl) (hb hby d4_36) (by decide) (by decide) (by decide) (by decide) ?_
    intro v4 T4 L4 hQ4 X4
    obtain ⟨rfl, M4, K4, E4, F4⟩ := hQ4
    refine own_via (F' := T4.setTop (mkF m 39 #[.val (.long v), .second, .val (.int (128 : Int32))] [(.ref a2)])) (fun tz kz => kz) ?_
    exact own_retA X4 hx hret rfl rfl hlk (hb hby d4_39) ⟨_, rfl, (Fr.app (Fr.nil n0) M4), (((Keep.refl h0 []).ext E2).trans K4 (allS (Or.inr B2) all0)), E4⟩ (by decide) (by decide)
  · refine own_via (F' := T0.setTop (mkF m 12 #[.val (.long v), .second, .val (.int (128 : Int32))] [])) (fun tz kz => XS.ifNo X0.here hx rfl (hb hby d4_9) rfl (XT.ll_lt_f q1) kz) ?_
    refine own_via (F' := T0.setTop (mkF m 13 #[.val (.long v), .second, .val (.int (128 : Int32))] [(.long v)])) (fun tz kz => XT.lloadN X0.here hx rfl (hb hby d4_12) rfl kz) ?_
    refine own_via (F' := T0.setTop (mkF m 16 #[.val (.long v), .second, .val (.int (128 : Int32))] [(.long (127 : Int64)), (.long v)])) (fun tz kz => Jvm.Stand.ldc2J X0 hx hown (mvT hZ (hw _ (List.mem_of_getElem? (i := 41) rfl))) rfl (hb hby d4_13) kz) ?_
    refine own_via (F' := T0.setTop (mkF m 17 #[.val (.long v), .second, .val (.int (128 : Int32))] [(.int (XT.cmpL v (127 : Int64)))])) (fun tz kz => XT.lcmp X0.here hx rfl (hb hby d4_16) rfl kz) ?_
    by_cases q5 : (127 : Int64) < v
    · refine own_via (F' := T0.setTop (mkF m 31 #[.val (.long v), .second, .val (.int (128 : Int32))] [])) (fun tz kz => XS.ifYes X0.here hx rfl (pc0 := 17) (pc' := 31) rfl (hb hby d4_17) rfl (XT.ll_gt_t q5) (by decide) (by decide) kz) ?_
      obtain ⟨T6, h6, X6, e6, E6, A6, D6, -, s6⟩ := newO X0 hx hZ hown (hw _ (List.mem_of_getElem? (i := 23) rfl)) (hw _ (List.mem_of_getElem? (i := 24) rfl)) (hw _ (List.mem_of_getElem? (i := 20) rfl)) e0 (g := (mkF m 31 #[.val (.long v), .second, .val (.int (128 : Int32))] [])) rfl (hb hby d4_31) (by decide) (by decide)
      obtain ⟨a6, g6⟩ : ∃ z, z = h0.size := ⟨_, rfl⟩
      rw [← g6] at A6 D6 s6
      have G6 : n0 ≤ a6 := by have q := O0.2.1; have q2 := O0.1; omega
      have D7 : Fld Z h6 a6 "java/lang/Long" "value" "J" (.long (0 : Int64)) := D6 (Or.inr (hw _ (List.mem_of_getElem? (i := 37) rfl))) (ty := .long) (by decide)
      refine own_via (F' := T6.setTop (mkF m 34 #[.val (.long v), .second, .val (.int (128 : Int32))] [(.ref a6)])) s6 ?_
      have B6 : h0.size ≤ a6 := by have q := (Keep.refl h0 []).1; omega
      refine own_via (F' := T6.setTop (mkF m 35 #[.val (.long v), .second, .val (.int (128 : Int32))] [(.ref a6), (.ref a6)])) (fun tz kz => XS.dup X6.here hx rfl (hb hby d4_34) rfl rfl kz) ?_
      refine own_via (F' := T6.setTop (mkF m 36 #[.val (.long v), .second, .val (.int (128 : Int32))] [(.long v), (.ref a6), (.ref a6)])) (fun tz kz => XT.lloadN X6.here hx rfl (hb hby d4_35) rfl kz) ?_
      refine own_callI X6 hx hZ (own_kl l Z az hw a6 v h6 n0 A6 D7 G6) hown rfl (hw _ (List.mem_of_getElem? (i := 25) rfl)) (hw _ (List.mem_of_getElem? (i := 26) rfl)) (hw _ (List.mem_of_getElem? (i := 20) rfl)) (hw _ (List.mem_of_getElem? (i := 28) rfl)) (by decide) e6 (g := (mkF m 36 #[.val (.long v), .second, .val (.int (128 : Int32))] [(.long v), (.ref a6), (.ref a6)])) rfl (by rw [hml]; rfl) (argsL := [(.long v)]) (rest := [(.ref a6)]) rfl (lenOf own_pd1 rfl) rfl 1 (by show 2 * 0 + _ ≤ _; exact Nat.le_of_eq rfl) (hb hby d4_36) (by decide) (by decide) (by decide) (by decide) ?_
      intro v8 T8 L8 hQ8 X8
      obtain ⟨rfl, M8, K8, E8, F8⟩ := hQ8
      refine own_via (F' := T8.setTop (mkF m 39 #[.val (.long v), .second, .val (.int (128 : Int32))] [(.ref a6)])) (fun tz kz => kz) ?_
      exact own_retA X8 hx hret rfl rfl hlk (hb hby d4_39) ⟨_, rfl, (Fr.app (Fr.nil n0) M8), (((Keep.refl h0 []).ext E6).trans K8 (allS (Or.inr B6) all0)), E8⟩ (by decide) (by decide)
    · refine own_via (F' := T0.setTop (mkF m 20 #[.val (.long v), .second, .val (.int (128 : Int32))] [])) (fun tz kz => XS.ifNo X0.here hx rfl (hb hby d4_17) rfl (XT.ll_gt_f q5) kz) ?_
      obtain ⟨T9, X9, e9, s9⟩ := getS X0 hx hZ (host := "") hown (hw _ (List.mem_of_getElem? (i := 42) rfl)) Via.refl e0 (SC.ext O0.2) (g := (mkF m 20 #[.val (.long v), .second, .val (.int (128 : Int32))] [])) rfl (hb hby d4_20)
      refine own_via (F' := T9.setTop (mkF m 23 #[.val (.long v), .second, .val (.int (128 : Int32))] [(.ref ca)])) s9 ?_
      refine own_via (F' := T9.setTop (mkF m 24 #[.val (.long v), .second, .val (.int (128 : Int32))] [(.long v), (.ref ca)])) (fun tz kz => XT.lloadN X9.here hx rfl (hb hby d4_23) rfl kz) ?_
      refine own_via (F' := T9.setTop (mkF m 25 #[.val (.long v), .second, .val (.int (128 : Int32))] [(.int v.toInt32), (.ref ca)])) (fun tz kz => XT.l2i X9.here hx rfl (hb hby d4_24) rfl kz) ?_
      refine own_via (F' := T9.setTop (mkF m 28 #[.val (.long v), .second, .val (.int (128 : Int32))] [(.int (128 : Int32)), (.int v.toInt32), (.ref ca)])) (fun tz kz => XT.sipushV X9.here hx rfl (128 : Int32) (hb hby d4_25) (by decide) kz) ?_
      refine own_via (F' := T9.setTop (mkF m 29 #[.val (.long v), .second, .val (.int (128 : Int32))] [(.int (v.toInt32 + (128 : Int32))), (.ref ca)])) (fun tz kz => XS.iadd X9.here hx rfl (hb hby d4_28) rfl kz) ?_
      obtain ⟨b10, i10, E10, -⟩ := BX.2.2.2 _ (own_ix q1 q5 BX.2.1)
      have ar10 := State.isArrayOf_alike (T := s) hZ.alike BX.1.2.1
      have ce10 : T9.heap[ca]? = some cc := by rw [e9]; exact (BX.1.ext O0.2).1
      have ix10 := own_ix q1 q5 BX.2.1
      refine own_via (F' := T9.setTop (mkF m 30 #[.val (.long v), .second, .val (.int (128 : Int32))] [(.ref b10)])) (fun tz kz => Jvm.Stand.aaload X9 hx (a := ca) (cell := cc) (j := (v.toInt32 + (128 : Int32))) (v := (.ref b10)) (ty := .object "java/lang/Long") ce10 ar10 rfl BX.1.2.2 ix10 i10 (g := (mkF m 29 #[.val (.long v), .second, .val (.int (128 : Int32))] [(.int (v.toInt32 + (128 : Int32))), (.ref ca)])) rfl rfl (hb hby d4_29) tz kz) ?_
      exact own_retA X9 hx hret rfl rfl hlk (hb hby d4_30) (by rw [e9]; exact ⟨_, rfl, (Fr.nil n0), (Keep.refl h0 []), (E10.ext O0.2)⟩) (by decide) (by decide)
set_option maxRecDepth 65536 in
set_option maxHeartbeats 40000000 in
theorem own_ke (l : Launch) (Z : State) (az : Array Value) (hw : ∀ d ∈ tables_1, d.before az Z = true) (a b : Nat) (u v : Int64) (h0 : Heap) (Eb : Exa Z h0 b "com/example/cite4/cite4/value/LongValue") (Fa : Fld Z h0 a "com/example/cite4/cite4/value/LongValue" "value" "J" (.long u)) (Fb : Fld Z h0 b "com/example/cite4/cite4/value/LongValue" "value" "J" (.long v)) (r : Int32) (hr : (if u = v then (1 : Int32) else (0 : Int32)) = r) :
    own_Con l Z (⟨"com/example/cite4/cite4/value/LongValue", "equals", "(Ljava/lang/Object;)Z"⟩ : MethodName) prog_22_method_4_code 2 (some .boolean) ({ frames := 0, cells := 0, slots := 0, locals := 0 } : Room) #[(.ref a), (.ref b)] h0 (fun x h L => x = some (.int r) ∧ h = h0 ∧ L = []) := by
  refine own_con own_pn ?_
  intro p e s m below meth c T0 hx hby hml hZ hown hnm hret hlk X0 e0 eh
  refine own_via (F' := T0.setTop (mkF m 0 #[.val (.ref a), .val (.ref b)] [])) (fun tz kz => castTop (own_ef2 m a b) kz) ?_
  refine own_via (F' := T0.setTop (mkF m 1 #[.val (.ref a), .val (.ref b)] [(.ref b)])) (fun tz kz => XS.aloadN X0.here hx rfl (hb hby d3_0) rfl rfl kz) ?_
  obtain ⟨T1, X1, e1, s1⟩ := instY X0 hx hZ hown (hw _ (List.mem_of_getElem? (i := 16) rfl)) e0 (Ins.self Eb) (g := (mkF m 1 #[.val (.ref a), .val (.ref b)] [(.ref b)])) rfl rfl (hb hby d3_1)
  refine own_via (F' := T1.setTop (mkF m 4 #[.val (.ref a), .val (.ref b)] [(.int (1 : Int32))])) s1 ?_
  refine own_via (F' := T1.setTop (mkF m 7 #[.val (.ref a), .val (.ref b)] [])) (fun tz kz => XS.ifNo X1.here hx rfl (hb hby d3_4) rfl (XT.i0_eq_f (by decide)) kz) ?_
  refine own_via (F' := T1.setTop (mkF m 8 #[.val (.ref a), .val (.ref b)] [(.ref a)])) (fun tz kz => XS.aloadN X1.here hx rfl (hb hby d3_7) rfl rfl kz) ?_
  obtain ⟨T2, X2, e2, s2⟩ := getF X1 hx hZ hown (host := "") (Or.inl (hw _ (List.mem_of_getElem? (i := 9) rfl))) Via.refl e1 Fa (g := (mkF m 8 #[.val (.ref a), .val (.ref b)] [(.ref a)])) rfl rfl (hb hby d3_8)
  refine own_via (F' := T2.setTop (mkF m 11 #[.val (.ref a), .val (.ref b)] [(.long u)])) s2 ?_
  refine own_via (F' := T2.setTop (mkF m 12 #[.val (.ref a), .val (.ref b)] [(.ref b), (.long u)])) (fun tz kz => XS.aloadN X2.here hx rfl (hb hby d3_11) rfl rfl kz) ?_
  obtain ⟨T3, X3, e3, s3⟩ := castY X2 hx hZ hown (hw _ (List.mem_of_getElem? (i := 16) rfl)) e2 (Ins.self Eb) (g := (mkF m 12 #[.val (.ref a), .val (.ref b)] [(.ref b), (.long u)])) rfl rfl (hb hby d3_12)
  refine own_via (F' := T3.setTop (mkF m 15 #[.val (.ref a), .val (.ref b)] [(.ref b), (.long u)])) s3 ?_
  obtain ⟨T4, X4, e4, s4⟩ := getF X3 hx hZ hown (host := "") (Or.inl (hw _ (List.mem_of_getElem? (i := 9) rfl))) Via.refl e3 Fb (g := (mkF m 15 #[.val (.ref a), .val (.ref b)] [(.ref b), (.long u)])) rfl rfl (hb hby d3_15)
  refine own_via (F' := T4.setTop (mkF m 18 #[.val (.ref a), .val (.ref b)] [(.long v), (.long u)])) s4 ?_
  refine own_via (F' := T4.setTop (mkF m 19 #[.val (.ref a), .val (.ref b)] [(.int (XT.cmpL u v))])) (fun tz kz => XT.lcmp X4.here hx rfl (hb hby d3_18) rfl kz) ?_
  by_cases q5 : u = v
  · refine own_via (F' := T4.setTop (mkF m 22 #[.val (.ref a), .val (.ref b)] [])) (fun tz kz => XS.ifNo X4.here hx rfl (hb hby d3_19) rfl (XT.ll_ne_f q5) kz) ?_
    refine own_via (F' := T4.setTop (mkF m 23 #[.val (.ref a), .val (.ref b)] [(.int (1 : Int32))])) (fun tz kz => XT.iconstV X4.here hx rfl (1 : Int32) (hb hby d3_22) (by decide) kz) ?_
    refine own_via (F' := T4.setTop (mkF m 27 #[.val (.ref a), .val (.ref b)] [(.int (1 : Int32))])) (fun tz kz => XS.goto X4.here hx rfl (pc0 := 23) (pc' := 27) rfl (hb hby d3_23) (by decide) (by decide) kz) ?_
    exact own_retZ X4 hx hret hlk (hb hby d3_27) ⟨by rw [← hr, if_pos q5]; rfl, e4, rfl⟩ (Nat.le_refl _) (Nat.le_refl _)
  · refine own_via (F' := T4.setTop (mkF m 26 #[.val (.ref a), .val (.ref b)] [])) (fun tz kz => XS.ifYes X4.here hx rfl (pc0 := 19) (pc' := 26) rfl (hb hby d3_19) rfl (XT.ll_ne_t q5) (by decide) (by decide) kz) ?_
    refine own_via (F' := T4.setTop (mkF m 27 #[.val (.ref a), .val (.ref b)] [(.int (0 : Int32))])) (fun tz kz => XT.iconstV X4.here hx rfl (0 : Int32) (hb hby d3_26) (by decide) kz) ?_
    exact own_retZ X4 hx hret hlk (hb hby d3_27) ⟨by rw [← hr, if_neg q5]; rfl, e4, rfl⟩ (Nat.le_refl _) (Nat.le_refl _)
set_option maxRecDepth 65536 in
set_option maxHeartbeats 40000000 in
theorem own_kz (l : Launch) (Z : State) (az : Array Value) (hw : ∀ d ∈ tables_1, d.before az Z = true) (a : Nat) (h0 : Heap) :
    own_Con l Z (⟨"com/example/cite4/cite4/value/LongValue", "equals", "(Ljava/lang/Object;)Z"⟩ : MethodName) prog_22_method_4_code 2 (some .boolean) ({ frames := 0, cells := 0, slots := 0, locals := 0 } : Room) #[(.ref a), .null] h0 (fun x h L => x = some (.int (0 : Int32)) ∧ h = h0 ∧ L = []) := by
  refine own_con own_pn ?_
  intro p e s m below meth c T0 hx hby hml hZ hown hnm hret hlk X0 e0 eh
  refine own_via (F' := T0.setTop (mkF m 0 #[.val (.ref a), .val .null] [])) (fun tz kz => castTop (own_ef5 m a) kz) ?_
  refine own_via (F' := T0.setTop (mkF m 1 #[.val (.ref a), .val .null] [.null])) (fun tz kz => XS.aloadN X0.here hx rfl (hb hby d3_0) rfl rfl kz) ?_
  refine own_via (F' := T0.setTop (mkF m 4 #[.val (.ref a), .val .null] [(.int (0 : Int32))])) (fun tz kz => Jvm.Stand.instanceofNull X0 hx (g := (mkF m 1 #[.val (.ref a), .val .null] [.null])) rfl rfl (hb hby d3_1) tz kz) ?_
  refine own_via (F' := T0.setTop (mkF m 26 #[.val (.ref a), .val .null] [])) (fun tz kz => XS.ifYes X0.here hx rfl (pc0 := 4) (pc' := 26) rfl (hb hby d3_4) rfl (XT.i0_eq_t (by decide)) (by decide) (by decide) kz) ?_
  refine own_via (F' := T0.setTop (mkF m 27 #[.val (.ref a), .val .null] [(.int (0 : Int32))])) (fun tz kz => XT.iconstV X0.here hx rfl (0 : Int32) (hb hby d3_26) (by decide) kz) ?_
  exact own_retZ X0 hx hret hlk (hb hby d3_27) ⟨rfl, e0, rfl⟩ (Nat.le_refl _) (Nat.le_refl _)
set_option maxRecDepth 65536 in
set_option maxHeartbeats 40000000 in
theorem own_ko (l : Launch) (Z : State) (az : Array Value) (hw : ∀ d ∈ tables_1, d.before az Z = true) (a : Nat) (h0 : Heap) (b : Nat) (Eb : Exa Z h0 b "java/lang/Long") :
    own_Con l Z (⟨"com/example/cite4/cite4/value/LongValue", "equals", "(Ljava/lang/Object;)Z"⟩ : MethodName) prog_22_method_4_code 2 (some .boolean) ({ frames := 0, cells := 0, slots := 0, locals := 0 } : Room) #[(.ref a), (.ref b)] h0 (fun x h L => x = some (.int (0 : Int32)) ∧ h = h0 ∧ L = []) := by
  refine own_con own_pn ?_
  intro p e s m below meth c T0 hx hby hml hZ hown hnm hret hlk X0 e0 eh
  refine own_via (F' := T0.setTop (mkF m 0 #[.val (.ref a), .val (.ref b)] [])) (fun tz kz => castTop (own_ef2 m a b) kz) ?_
  refine own_via (F' := T0.setTop (mkF m 1 #[.val (.ref a), .val (.ref b)] [(.ref b)])) (fun tz kz => XS.aloadN X0.here hx rfl (hb hby d3_0) rfl rfl kz) ?_
  obtain ⟨T1, X1, e1, s1⟩ := instN X0 hx hZ hown (hw _ (List.mem_of_getElem? (i := 16) rfl)) e0 (by rw [eh]; exact own_notAsg (hw _ (List.mem_of_getElem? (i := 38) rfl)) (hw _ (List.mem_of_getElem? (i := 39) rfl)) (hw _ (List.mem_of_getElem? (i := 40) rfl)) (hw _ (List.mem_of_getElem? (i := 1) rfl)) (by decide) (by decide) (by decide) Eb) (by rw [eh]; exact Eb) (g := (mkF m 1 #[.val (.ref a), .val (.ref b)] [(.ref b)])) rfl rfl (hb hby d3_1)
  refine own_via (F' := T1.setTop (mkF m 4 #[.val (.ref a), .val (.ref b)] [(.int (0 : Int32))])) s1 ?_
  refine own_via (F' := T1.setTop (mkF m 26 #[.val (.ref a), .val (.ref b)] [])) (fun tz kz => XS.ifYes X1.here hx rfl (pc0 := 4) (pc' := 26) rfl (hb hby d3_4) rfl (XT.i0_eq_t (by decide)) (by decide) (by decide) kz) ?_
  refine own_via (F' := T1.setTop (mkF m 27 #[.val (.ref a), .val (.ref b)] [(.int (0 : Int32))])) (fun tz kz => XT.iconstV X1.here hx rfl (0 : Int32) (hb hby d3_26) (by decide) kz) ?_
  exact own_retZ X1 hx hret hlk (hb hby d3_27) ⟨rfl, e1, rfl⟩ (Nat.le_refl _) (Nat.le_refl _)
set_option maxRecDepth 65536 in
set_option maxHeartbeats 40000000 in
theorem own_law (l : Launch) (Z : State) (az : Array Value) (hw : ∀ d ∈ tables_1, d.before az Z = true) (p0 p1 : Int64) (p2 : Int32) (h0 : Heap) (n0 : Nat) (O0 : Old Z n0 h0) (ca : Nat) (cc : Cell) (vl : Int32 → Value) (SC : Sta Z Z.heap "java/lang/Long$LongCache" "cache" "[Ljava/lang/Long;" (.ref ca)) (BX : Bxs Z ca cc "java/lang/Long" "J" 256 vl) :
    own_Con l Z x code maxLocals ret room_1 #[(.long p0), (.long p1), (.int p2)] h0 (fun v h L => v = some (.int 1) ∧ Fr n0 L) := by
  refine own_con own_pnL ?_
  intro p e s m below meth c T0 hx hby hml hZ hown hnm hret hlk X0 e0 eh
  have hown : s.vm.findClass "com/example/cite4/cite4/value/LongValueEqualsPinLaw" = some m.cls := hown
  refine own_via (F' := T0.setTop (mkF m 0 #[.val (.long p0), .second, .val (.long p1), .second, .val (.int p2), .unset, .unset, .unset, .unset, .unset, .unset, .unset, .unset] [])) (fun tz kz => castTop (own_ef0 m p0 p1 p2) kz) ?_
  refine own_via (F' := T0.setTop (mkF m 2 #[.val (.long p0), .second, .val (.long p1), .second, .val (.int p2), .unset, .unset, .unset, .unset, .unset, .unset, .unset, .unset] [(.int p2)])) (fun tz kz => XS.iload X0.here hx rfl (hb hby at_0) rfl kz) ?_
  refine own_via (F' := T0.setTop (mkF m 3 #[.val (.long p0), .second, .val (.long p1), .second, .val (.int p2), .unset, .unset, .unset, .unset, .unset, .unset, .unset, .unset] [(.int (4 : Int32)), (.int p2)])) (fun tz kz => XT.iconstV X0.here hx rfl (4 : Int32) (hb hby at_2) (by decide) kz) ?_
  refine own_via (F' := T0.setTop (mkF m 4 #[.val (.long p0), .second, .val (.long p1), .second, .val (.int p2), .unset, .unset, .unset, .unset, .unset, .unset, .unset, .unset] [(.int (p2 &&& (4 : Int32)))])) (fun tz kz => XS.iand X0.here hx rfl (hb hby at_3) rfl kz) ?_
  by_cases q1 : (p2 &&& (4 : Int32)) = (0 : Int32)
  · refine own_via (F' := T0.setTop (mkF m 11 #[.val (.long p0), .second, .val (.long p1), .second, .val (.int p2), .unset, .unset, .unset, .unset, .unset, .unset, .unset, .unset] [])) (fun tz kz => XS.ifYes X0.here hx rfl (pc0 := 4) (pc' := 11) rfl (hb hby at_4) rfl (XT.i0_eq_t q1) (by decide) (by decide) kz) ?_
    refine own_via (F' := T0.setTop (mkF m 12 #[.val (.long p0), .second, .val (.long p1), .second, .val (.int p2), .unset, .unset, .unset, .unset, .unset, .unset, .unset, .unset] [(.long p1)])) (fun tz kz => XT.lloadN X0.here hx rfl (hb hby at_11) rfl kz) ?_
    refine own_via (F' := T0.setTop (mkF m 14 #[.val (.long p0), .second, .val (.long p1), .second, .val (.int p2), .val (.long p1), .second, .unset, .unset, .unset, .unset, .unset, .unset] [])) (fun tz kz => XT.lstore X0.here hx rfl (hb hby at_12) rfl (l' := #[.val (.long p0), .second, .val (.long p1), .second, .val (.int p2), .val (.long p1), .second, .unset, .unset, .unset, .unset, .unset, .unset]) rfl kz) ?_
    obtain ⟨T2, h2, X2, e2, E2, A2, D2, -, s2⟩ := newO X0 hx hZ hown (hw _ (List.mem_of_getElem? (i := 0) rfl)) (hw _ (List.mem_of_getElem? (i := 1) rfl)) (hw _ (List.mem_of_getElem? (i := 2) rfl)) e0 (g := (mkF m 14 #[.val (.long p0), .second, .val (.long p1), .second, .val (.int p2), .val (.long p1), .second, .unset, .unset, .unset, .unset, .unset, .unset] [])) rfl (hb hby at_14) (by decide) (by decide)
    obtain ⟨a2, g2⟩ : ∃ z, z = h0.size := ⟨_, rfl⟩
    rw [← g2] at A2 D2 s2
    have G2 : n0 ≤ a2 := by have q := O0.2.1; have q2 := O0.1; omega
    have D3 : Fld Z h2 a2 "com/example/cite4/cite4/value/LongValue" "value" "J" (.long (0 : Int64)) := D2 (Or.inr (hw _ (List.mem_of_getElem? (i := 10) rfl))) (ty := .long) (by decide)
    refine own_via (F' := T2.setTop (mkF m 17 #[.val (.long p0), .second, .val (.long p1), .second, .val (.int p2), .val (.long p1), .second, .unset, .unset, .unset, .unset, .unset, .unset] [(.ref a2)])) s2 ?_
    refine own_via (F' := T2.setTop (mkF m 18 #[.val (.long p0), .second, .val (.long p1), .second, .val (.int p2), .val (.long p1), .second, .unset, .unset, .unset, .unset, .unset, .unset] [(.ref a2), (.ref a2)])) (fun tz kz => XS.dup X2.here hx rfl (hb hby at_17) rfl rfl kz) ?_
    refine own_via (F' := T2.setTop (mkF m 19 #[.val (.long p0), .second, .val (.long p1), .second, .val (.int p2), .val (.long p1), .second, .unset, .unset, .unset, .unset, .unset, .unset] [(.long p0), (.ref a2), (.ref a2)])) (fun tz kz => XT.lloadN X2.here hx rfl (hb hby at_18) rfl kz) ?_
    refine own_callI X2 hx hZ (own_ki l Z az hw a2 p0 h2 n0 A2 D3 G2) hown rfl (hw _ (List.mem_of_getElem? (i := 3) rfl)) (hw _ (List.mem_of_getElem? (i := 4) rfl)) (hw _ (List.mem_of_getElem? (i := 2) rfl)) (hw _ (List.mem_of_getElem? (i := 5) rfl)) (by decide) e2 (g := (mkF m 19 #[.val (.long p0), .second, .val (.long p1), .second, .val (.int p2), .val (.long p1), .second, .unset, .unset, .unset, .unset, .unset, .unset] [(.long p0), (.ref a2), (.ref a2)])) rfl (by rw [hml]; rfl) (argsL := [(.long p0)]) (rest := [(.ref a2)]) rfl (lenOf own_pd1 rfl) rfl 1 (by show 2 * 0 + _ ≤ _; exact Nat.le_of_eq rfl) (hb hby at_19) (by decide) (by decide) (by decide) (by decide) ?_
    intro v4 T4 L4 hQ4 X4
    obtain ⟨rfl, M4, K4, E4, F4⟩ := hQ4
    refine own_via (F' := T4.setTop (mkF m 22 #[.val (.long p0), .second, .val (.long p1), .second, .val (.int p2), .val (.long p1), .second, .unset, .unset, .unset, .unset, .unset, .unset] [(.ref a2)])) (fun tz kz => kz) ?_
    refine own_via (F' := T4.setTop (mkF m 24 #[.val (.long p0), .second, .val (.long p1), .second, .val (.int p2), .val (.long p1), .second, .val (.ref a2), .unset, .unset, .unset, .unset, .unset] [])) (fun tz kz => XS.astore X4.here hx rfl (hb hby at_22) rfl rfl (l' := #[.val (.long p0), .second, .val (.long p1), .second, .val (.int p2), .val (.long p1), .second, .val (.ref a2), .unset, .unset, .unset, .unset, .unset]) rfl kz) ?_
    have f5 := ((O0.ext E2).keep K4 (allS G2 all0))
    obtain ⟨T6, h6, X6, e6, E6, A6, D6, -, s6⟩ := newO X4 hx hZ hown (hw _ (List.mem_of_getElem? (i := 0) rfl)) (hw _ (List.mem_of_getElem? (i := 1) rfl)) (hw _ (List.mem_of_getElem? (i := 2) rfl)) rfl (g := (mkF m 24 #[.val (.long p0), .second, .val (.long p1), .second, .val (.int p2), .val (.long p1), .second, .val (.ref a2), .unset, .unset, .unset, .unset, .unset] [])) rfl (hb hby at_24) (by decide) (by decide)
    obtain ⟨a6, g6⟩ : ∃ z, z = T4.heap.size := ⟨_, rfl⟩
    rw [← g6] at A6 D6 s6
    have G6 : n0 ≤ a6 := by have q := f5.2.1; have q2 := f5.1; omega
    have ne6_a2 : a2 ≠ a6 := by have q := own_n E4.lt; omega
    have D7 : Fld Z h6 a6 "com/example/cite4/cite4/value/LongValue" "value" "J" (.long (0 : Int64)) := D6 (Or.inr (hw _ (List.mem_of_getElem? (i := 10) rfl))) (ty := .long) (by decide)
    refine own_via (F' := T6.setTop (mkF m 27 #[.val (.long p0), .second, .val (.long p1), .second, .val (.int p2), .val (.long p1), .second, .val (.ref a2), .unset, .unset, .unset, .unset, .unset] [(.ref a6)])) s6 ?_
    refine own_via (F' := T6.setTop (mkF m 28 #[.val (.long p0), .second, .val (.long p1), .second, .val (.int p2), .val (.long p1), .second, .val (.ref a2), .unset, .unset, .unset, .unset, .unset] [(.ref a6), (.ref a6)])) (fun tz kz => XS.dup X6.here hx rfl (hb hby at_27) rfl rfl kz) ?_
    refine own_via (F' := T6.setTop (mkF m 30 #[.val (.long p0), .second, .val (.long p1), .second, .val (.int p2), .val (.long p1), .second, .val (.ref a2), .unset, .unset, .unset, .unset, .unset] [(.long p1), (.ref a6), (.ref a6)])) (fun tz kz => XT.lload X6.here hx rfl (hb hby at_28) rfl kz) ?_
    refine own_callI X6 hx hZ (own_ki l Z az hw a6 p1 h6 n0 A6 D7 G6) hown rfl (hw _ (List.mem_of_getElem? (i := 3) rfl)) (hw _ (List.mem_of_getElem? (i := 4) rfl)) (hw _ (List.mem_of_getElem? (i := 2) rfl)) (hw _ (List.mem_of_getElem? (i := 5) rfl)) (by decide) e6 (g := (mkF m 30 #[.val (.long p0), .second, .val (.long p1), .second, .val (.int p2), .val (.long p1), .second, .val (.ref a2), .unset, .unset, .unset, .unset, .unset] [(.long p1), (.ref a6), (.ref a6)])) rfl (by rw [hml]; rfl) (argsL := [(.long p1)]) (rest := [(.ref a6)]) rfl (lenOf own_pd1 rfl) rfl 1 (by show 2 * 0 + _ ≤ _; exact Nat.le_of_eq rfl) (hb hby at_30) (by decide) (by decide) (by decide) (by decide) ?_
    intro v8 T8 L8 hQ8 X8
    obtain ⟨rfl, M8, K8, E8, F8⟩ := hQ8
    refine own_via (F' := T8.setTop (mkF m 33 #[.val (.long p0), .second, .val (.long p1), .second, .val (.int p2), .val (.long p1), .second, .val (.ref a2), .unset, .unset, .unset, .unset, .unset] [(.ref a6)])) (fun tz kz => kz) ?_
    refine own_via (F' := T8.setTop (mkF m 35 #[.val (.long p0), .second, .val (.long p1), .second, .val (.int p2), .val (.long p1), .second, .val (.ref a2), .val (.ref a6), .unset, .unset, .unset, .unset] [])) (fun tz kz => XS.astore X8.here hx rfl (hb hby at_33) rfl rfl (l' := #[.val (.long p0), .second, .val (.long p1), .second, .val (.int p2), .val (.long p1), .second, .val (.ref a2), .val (.ref a6), .unset, .unset, .unset, .unset]) rfl kz) ?_
    refine own_via (F' := T8.setTop (mkF m 37 #[.val (.long p0), .second, .val (.long p1), .second, .val (.int p2), .val (.long p1), .second, .val (.ref a2), .val (.ref a6), .unset, .unset, .unset, .unset] [(.int p2)])) (fun tz kz => XS.iload X8.here hx rfl (hb hby at_35) rfl kz) ?_
    refine own_via (F' := T8.setTop (mkF m 38 #[.val (.long p0), .second, .val (.long p1), .second, .val (.int p2), .val (.long p1), .second, .val (.ref a2), .val (.ref a6), .unset, .unset, .unset, .unset] [(.int (3 : Int32)), (.int p2)])) (fun tz kz => XT.iconstV X8.here hx rfl (3 : Int32) (hb hby at_37) (by decide) kz) ?_
    refine own_via (F' := T8.setTop (mkF m 39 #[.val (.long p0), .second, .val (.long p1), .second, .val (.int p2), .val (.long p1), .second, .val (.ref a2), .val (.ref a6), .unset, .unset, .unset, .unset] [(.int (p2 &&& (3 : Int32)))])) (fun tz kz => XS.iand X8.here hx rfl (hb hby at_38) rfl kz) ?_
    refine own_via (F' := T8.setTop (mkF m 41 #[.val (.long p0), .second, .val (.long p1), .second, .val (.int p2), .val (.long p1), .second, .val (.ref a2), .val (.ref a6), .val (.int (p2 &&& (3 : Int32))), .unset, .unset, .unset] [])) (fun tz kz => XS.istore X8.here hx rfl (hb hby at_39) rfl (l' := #[.val (.long p0), .second, .val (.long p1), .second, .val (.int p2), .val (.long p1), .second, .val (.ref a2), .val (.ref a6), .val (.int (p2 &&& (3 : Int32))), .unset, .unset, .unset]) rfl kz) ?_
    refine own_via (F' := T8.setTop (mkF m 43 #[.val (.long p0), .second, .val (.long p1), .second, .val (.int p2), .val (.long p1), .second, .val (.ref a2), .val (.ref a6), .val (.int (p2 &&& (3 : Int32))), .unset, .unset, .unset] [(.int (p2 &&& (3 : Int32)))])) (fun tz kz => XS.iload X8.here hx rfl (hb hby at_41) rfl kz) ?_
    by_cases q9 : (p2 &&& (3 : Int32)) = (0 : Int32)
    · refine own_via (F' := T8.setTop (mkF m 46 #[.val (.long p0), .second, .val (.long p1), .second, .val (.int p2), .val (.long p1), .second, .val (.ref a2), .val (.ref a6), .val (.int (p2 &&& (3 : Int32))), .unset, .unset, .unset] [])) (fun tz kz => XS.ifNo X8.here hx rfl (hb hby at_43) rfl (XT.i0_ne_f q9) kz) ?_
      refine own_via (F' := T8.setTop (mkF m 47 #[.val (.long p0), .second, .val (.long p1), .second, .val (.int p2), .val (.long p1), .second, .val (.ref a2), .val (.ref a6), .val (.int (p2 &&& (3 : Int32))), .unset, .unset, .unset] [(.long p0)])) (fun tz kz => XT.lloadN X8.here hx rfl (hb hby at_46) rfl kz) ?_
      refine own_via (F' := T8.setTop (mkF m 49 #[.val (.long p0), .second, .val (.long p1), .second, .val (.int p2), .val (.long p1), .second, .val (.ref a2), .val (.ref a6), .val (.int (p2 &&& (3 : Int32))), .unset, .unset, .unset] [(.long p1), (.long p0)])) (fun tz kz => XT.lload X8.here hx rfl (hb hby at_47) rfl kz) ?_
      refine own_via (F' := T8.setTop (mkF m 50 #[.val (.long p0), .second, .val (.long p1), .second, .val (.int p2), .val (.long p1), .second, .val (.ref a2), .val (.ref a6), .val (.int (p2 &&& (3 : Int32))), .unset, .unset, .unset] [(.int (XT.cmpL p0 p1))])) (fun tz kz => XT.lcmp X8.here hx rfl (hb hby at_49) rfl kz) ?_
      by_cases q10 : p0 = p1
      · refine own_via (F' := T8.setTop (mkF m 53 #[.val (.long p0), .second, .val (.long p1), .second, .val (.int p2), .val (.long p1), .second, .val (.ref a2), .val (.ref a6), .val (.int (p2 &&& (3 : Int32))), .unset, .unset, .unset] [])) (fun tz kz => XS.ifNo X8.here hx rfl (hb hby at_50) rfl (XT.ll_ne_f q10) kz) ?_
        refine own_via (F' := T8.setTop (mkF m 54 #[.val (.long p0), .second, .val (.long p1), .second, .val (.int p2), .val (.long p1), .second, .val (.ref a2), .val (.ref a6), .val (.int (p2 &&& (3 : Int32))), .unset, .unset, .unset] [(.int (1 : Int32))])) (fun tz kz => XT.iconstV X8.here hx rfl (1 : Int32) (hb hby at_53) (by decide) kz) ?_
        refine own_via (F' := T8.setTop (mkF m 58 #[.val (.long p0), .second, .val (.long p1), .second, .val (.int p2), .val (.long p1), .second, .val (.ref a2), .val (.ref a6), .val (.int (p2 &&& (3 : Int32))), .unset, .unset, .unset] [(.int (1 : Int32))])) (fun tz kz => XS.goto X8.here hx rfl (pc0 := 54) (pc' := 58) rfl (hb hby at_54) (by decide) (by decide) kz) ?_
        refine own_via (F' := T8.setTop (mkF m 60 #[.val (.long p0), .second, .val (.long p1), .second, .val (.int p2), .val (.long p1), .second, .val (.ref a2), .val (.ref a6), .val (.int (p2 &&& (3 : Int32))), .val (.int (1 : Int32)), .unset, .unset] [])) (fun tz kz => XS.istore X8.here hx rfl (hb hby at_58) rfl (l' := #[.val (.long p0), .second, .val (.long p1), .second, .val (.int p2), .val (.long p1), .second, .val (.ref a2), .val (.ref a6), .val (.int (p2 &&& (3 : Int32))), .val (.int (1 : Int32)), .unset, .unset]) rfl kz) ?_
        refine own_via (F' := T8.setTop (mkF m 62 #[.val (.long p0), .second, .val (.long p1), .second, .val (.int p2), .val (.long p1), .second, .val (.ref a2), .val (.ref a6), .val (.int (p2 &&& (3 : Int32))), .val (.int (1 : Int32)), .unset, .unset] [(.ref a2)])) (fun tz kz => XS.aload X8.here hx rfl (hb hby at_60) rfl rfl kz) ?_
        refine own_via (F' := T8.setTop (mkF m 64 #[.val (.long p0), .second, .val (.long p1), .second, .val (.int p2), .val (.long p1), .second, .val (.ref a2), .val (.ref a6), .val (.int (p2 &&& (3 : Int32))), .val (.int (1 : Int32)), .unset, .unset] [(.ref a6), (.ref a2)])) (fun tz kz => XS.aload X8.here hx rfl (hb hby at_62) rfl rfl kz) ?_
        have f11 := ((F4.ext E6).keep K8 (ninS ne6_a2 nin0))
        have f13 := ((E4.ext E6).keep K8)
        refine own_callV X8 hx hZ (own_ke l Z az hw a2 a6 p0 p1 T8.heap E8 f11 F8 (1 : Int32) (if_pos q10)) hown f13 (hw _ (List.mem_of_getElem? (i := 11) rfl)) (hw _ (List.mem_of_getElem? (i := 12) rfl)) (hw _ (List.mem_of_getElem? (i := 14) rfl)) (hw _ (List.mem_of_getElem? (i := 13) rfl)) (hw _ (List.mem_of_getElem? (i := 2) rfl)) (hw _ (List.mem_of_getElem? (i := 15) rfl)) (notFace_of_selects (args := #[]) (mvT hZ (hw _ (List.mem_of_getElem? (i := 14) rfl)))) (by decide) rfl (g := (mkF m 64 #[.val (.long p0), .second, .val (.long p1), .second, .val (.int p2), .val (.long p1), .second, .val (.ref a2), .val (.ref a6), .val (.int (p2 &&& (3 : Int32))), .val (.int (1 : Int32)), .unset, .unset] [(.ref a6), (.ref a2)])) rfl (by rw [hml]; rfl) (argsL := [(.ref a6)]) (rest := []) rfl (lenOf own_pd2 rfl) rfl 0 (by show 2 * 0 + _ ≤ _; exact Nat.le_of_eq rfl) (hb hby at_64) (by decide) (by decide) (by decide) (by decide) ?_
        intro v12 T12 L12 hQ12 X12
        obtain ⟨rfl, e12, rfl⟩ := hQ12
        refine own_via (F' := T12.setTop (mkF m 67 #[.val (.long p0), .second, .val (.long p1), .second, .val (.int p2), .val (.long p1), .second, .val (.ref a2), .val (.ref a6), .val (.int (p2 &&& (3 : Int32))), .val (.int (1 : Int32)), .unset, .unset] [(.int (1 : Int32))])) (fun tz kz => kz) ?_
        refine own_via (F' := T12.setTop (mkF m 69 #[.val (.long p0), .second, .val (.long p1), .second, .val (.int p2), .val (.long p1), .second, .val (.ref a2), .val (.ref a6), .val (.int (p2 &&& (3 : Int32))), .val (.int (1 : Int32)), .val (.int (1 : Int32)), .unset] [])) (fun tz kz => XS.istore X12.here hx rfl (hb hby at_67) rfl (l' := #[.val (.long p0), .second, .val (.long p1), .second, .val (.int p2), .val (.long p1), .second, .val (.ref a2), .val (.ref a6), .val (.int (p2 &&& (3 : Int32))), .val (.int (1 : Int32)), .val (.int (1 : Int32)), .unset]) rfl kz) ?_
        refine own_via (F' := T12.setTop (mkF m 71 #[.val (.long p0), .second, .val (.long p1), .second, .val (.int p2), .val (.long p1), .second, .val (.ref a2), .val (.ref a6), .val (.int (p2 &&& (3 : Int32))), .val (.int (1 : Int32)), .val (.int (1 : Int32)), .unset] [(.ref a6)])) (fun tz kz => XS.aload X12.here hx rfl (hb hby at_69) rfl rfl kz) ?_
        refine own_via (F' := T12.setTop (mkF m 73 #[.val (.long p0), .second, .val (.long p1), .second, .val (.int p2), .val (.long p1), .second, .val (.ref a2), .val (.ref a6), .val (.int (p2 &&& (3 : Int32))), .val (.int (1 : Int32)), .val (.int (1 : Int32)), .unset] [(.ref a2), (.ref a6)])) (fun tz kz => XS.aload X12.here hx rfl (hb hby at_71) rfl rfl kz) ?_
        refine own_callV X12 hx hZ (own_ke l Z az hw a6 a2 p1 p0 T8.heap f13 F8 f11 (1 : Int32) (if_pos q10.symm)) hown E8 (hw _ (List.mem_of_getElem? (i := 11) rfl)) (hw _ (List.mem_of_getElem? (i := 12) rfl)) (hw _ (List.mem_of_getElem? (i := 14) rfl)) (hw _ (List.mem_of_getElem? (i := 13) rfl)) (hw _ (List.mem_of_getElem? (i := 2) rfl)) (hw _ (List.mem_of_getElem? (i := 15) rfl)) (notFace_of_selects (args := #[]) (mvT hZ (hw _ (List.mem_of_getElem? (i := 14) rfl)))) (by decide) e12 (g := (mkF m 73 #[.val (.long p0), .second, .val (.long p1), .second, .val (.int p2), .val (.long p1), .second, .val (.ref a2), .val (.ref a6), .val (.int (p2 &&& (3 : Int32))), .val (.int (1 : Int32)), .val (.int (1 : Int32)), .unset] [(.ref a2), (.ref a6)])) rfl (by rw [hml]; rfl) (argsL := [(.ref a2)]) (rest := []) rfl (lenOf own_pd2 rfl) rfl 0 (by show 2 * 0 + _ ≤ _; exact Nat.le_of_eq rfl) (hb hby at_73) (by decide) (by decide) (by decide) (by decide) ?_
        intro v14 T14 L14 hQ14 X14
        obtain ⟨rfl, e14, rfl⟩ := hQ14
        refine own_via (F' := T14.setTop (mkF m 76 #[.val (.long p0), .second, .val (.long p1), .second, .val (.int p2), .val (.long p1), .second, .val (.ref a2), .val (.ref a6), .val (.int (p2 &&& (3 : Int32))), .val (.int (1 : Int32)), .val (.int (1 : Int32)), .unset] [(.int (1 : Int32))])) (fun tz kz => kz) ?_
        refine own_via (F' := T14.setTop (mkF m 78 #[.val (.long p0), .second, .val (.long p1), .second, .val (.int p2), .val (.long p1), .second, .val (.ref a2), .val (.ref a6), .val (.int (p2 &&& (3 : Int32))), .val (.int (1 : Int32)), .val (.int (1 : Int32)), .val (.int (1 : Int32))] [])) (fun tz kz => XS.istore X14.here hx rfl (hb hby at_76) rfl (l' := #[.val (.long p0), .second, .val (.long p1), .second, .val (.int p2), .val (.long p1), .second, .val (.ref a2), .val (.ref a6), .val (.int (p2 &&& (3 : Int32))), .val (.int (1 : Int32)), .val (.int (1 : Int32)), .val (.int (1 : Int32))]) rfl kz) ?_
        refine own_via (F' := T14.setTop (mkF m 80 #[.val (.long p0), .second, .val (.long p1), .second, .val (.int p2), .val (.long p1), .second, .val (.ref a2), .val (.ref a6), .val (.int (p2 &&& (3 : Int32))), .val (.int (1 : Int32)), .val (.int (1 : Int32)), .val (.int (1 : Int32))] [(.int (1 : Int32))])) (fun tz kz => XS.iload X14.here hx rfl (hb hby at_78) rfl kz) ?_
        refine own_via (F' := T14.setTop (mkF m 82 #[.val (.long p0), .second, .val (.long p1), .second, .val (.int p2), .val (.long p1), .second, .val (.ref a2), .val (.ref a6), .val (.int (p2 &&& (3 : Int32))), .val (.int (1 : Int32)), .val (.int (1 : Int32)), .val (.int (1 : Int32))] [(.int (1 : Int32)), (.int (1 : Int32))])) (fun tz kz => XS.iload X14.here hx rfl (hb hby at_80) rfl kz) ?_
        refine own_via (F' := T14.setTop (mkF m 85 #[.val (.long p0), .second, .val (.long p1), .second, .val (.int p2), .val (.long p1), .second, .val (.ref a2), .val (.ref a6), .val (.int (p2 &&& (3 : Int32))), .val (.int (1 : Int32)), .val (.int (1 : Int32)), .val (.int (1 : Int32))] [])) (fun tz kz => XS.icmpNo X14.here hx rfl (hb hby at_82) rfl (XT.ii_ne_f (by decide)) kz) ?_
        refine own_via (F' := T14.setTop (mkF m 87 #[.val (.long p0), .second, .val (.long p1), .second, .val (.int p2), .val (.long p1), .second, .val (.ref a2), .val (.ref a6), .val (.int (p2 &&& (3 : Int32))), .val (.int (1 : Int32)), .val (.int (1 : Int32)), .val (.int (1 : Int32))] [(.int (1 : Int32))])) (fun tz kz => XS.iload X14.here hx rfl (hb hby at_85) rfl kz) ?_
        refine own_via (F' := T14.setTop (mkF m 89 #[.val (.long p0), .second, .val (.long p1), .second, .val (.int p2), .val (.long p1), .second, .val (.ref a2), .val (.ref a6), .val (.int (p2 &&& (3 : Int32))), .val (.int (1 : Int32)), .val (.int (1 : Int32)), .val (.int (1 : Int32))] [(.int (1 : Int32)), (.int (1 : Int32))])) (fun tz kz => XS.iload X14.here hx rfl (hb hby at_87) rfl kz) ?_
        refine own_via (F' := T14.setTop (mkF m 92 #[.val (.long p0), .second, .val (.long p1), .second, .val (.int p2), .val (.long p1), .second, .val (.ref a2), .val (.ref a6), .val (.int (p2 &&& (3 : Int32))), .val (.int (1 : Int32)), .val (.int (1 : Int32)), .val (.int (1 : Int32))] [])) (fun tz kz => XS.icmpNo X14.here hx rfl (hb hby at_89) rfl (XT.ii_ne_f (by decide)) kz) ?_
        refine own_via (F' := T14.setTop (mkF m 93 #[.val (.long p0), .second, .val (.long p1), .second, .val (.int p2), .val (.long p1), .second, .val (.ref a2), .val (.ref a6), .val (.int (p2 &&& (3 : Int32))), .val (.int (1 : Int32)), .val (.int (1 : Int32)), .val (.int (1 : Int32))] [(.int (1 : Int32))])) (fun tz kz => XT.iconstV X14.here hx rfl (1 : Int32) (hb hby at_92) (by decide) kz) ?_
        refine own_via (F' := T14.setTop (mkF m 97 #[.val (.long p0), .second, .val (.long p1), .second, .val (.int p2), .val (.long p1), .second, .val (.ref a2), .val (.ref a6), .val (.int (p2 &&& (3 : Int32))), .val (.int (1 : Int32)), .val (.int (1 : Int32)), .val (.int (1 : Int32))] [(.int (1 : Int32))])) (fun tz kz => XS.goto X14.here hx rfl (pc0 := 93) (pc' := 97) rfl (hb hby at_93) (by decide) (by decide) kz) ?_
        exact own_retZ X14 hx hret hlk (hb hby at_97) ⟨rfl, (Fr.app (Fr.app (Fr.app (Fr.app (Fr.nil n0) M4) M8) (Fr.nil _)) (Fr.nil _))⟩ (by decide) (by decide)
      · refine own_via (F' := T8.setTop (mkF m 57 #[.val (.long p0), .second, .val (.long p1), .second, .val (.int p2), .val (.long p1), .second, .val (.ref a2), .val (.ref a6), .val (.int (p2 &&& (3 : Int32))), .unset, .unset, .unset] [])) (fun tz kz => XS.ifYes X8.here hx rfl (pc0 := 50) (pc' := 57) rfl (hb hby at_50) rfl (XT.ll_ne_t q10) (by decide) (by decide) kz) ?_
        refine own_via (F' := T8.setTop (mkF m 58 #[.val (.long p0), .second, .val (.long p1), .second, .val (.int p2), .val (.long p1), .second, .val (.ref a2), .val (.ref a6), .val (.int (p2 &&& (3 : Int32))), .unset, .unset, .unset] [(.int (0 : Int32))])) (fun tz kz => XT.iconstV X8.here hx rfl (0 : Int32) (hb hby at_57) (by decide) kz) ?_
        refine own_via (F' := T8.setTop (mkF m 60 #[.val (.long p0), .second, .val (.long p1), .second, .val (.int p2), .val (.long p1), .second, .val (.ref a2), .val (.ref a6), .val (.int (p2 &&& (3 : Int32))), .val (.int (0 : Int32)), .unset, .unset] [])) (fun tz kz => XS.istore X8.here hx rfl (hb hby at_58) rfl (l' := #[.val (.long p0), .second, .val (.long p1), .second, .val (.int p2), .val (.long p1), .second, .val (.ref a2), .val (.ref a6), .val (.int (p2 &&& (3 : Int32))), .val (.int (0 : Int32)), .unset, .unset]) rfl kz) ?_
        refine own_via (F' := T8.setTop (mkF m 62 #[.val (.long p0), .second, .val (.long p1), .second, .val (.int p2), .val (.long p1), .second, .val (.ref a2), .val (.ref a6), .val (.int (p2 &&& (3 : Int32))), .val (.int (0 : Int32)), .unset, .unset] [(.ref a2)])) (fun tz kz => XS.aload X8.here hx rfl (hb hby at_60) rfl rfl kz) ?_
        refine own_via (F' := T8.setTop (mkF m 64 #[.val (.long p0), .second, .val (.long p1), .second, .val (.int p2), .val (.long p1), .second, .val (.ref a2), .val (.ref a6), .val (.int (p2 &&& (3 : Int32))), .val (.int (0 : Int32)), .unset, .unset] [(.ref a6), (.ref a2)])) (fun tz kz => XS.aload X8.here hx rfl (hb hby at_62) rfl rfl kz) ?_
        have f15 := ((F4.ext E6).keep K8 (ninS ne6_a2 nin0))
        have f17 := ((E4.ext E6).keep K8)
        refine own_callV X8 hx hZ (own_ke l Z az hw a2 a6 p0 p1 T8.heap E8 f15 F8 (0 : Int32) (if_neg q10)) hown f17 (hw _ (List.mem_of_getElem? (i := 11) rfl)) (hw _ (List.mem_of_getElem? (i := 12) rfl)) (hw _ (List.mem_of_getElem? (i := 14) rfl)) (hw _ (List.mem_of_getElem? (i := 13) rfl)) (hw _ (List.mem_of_getElem? (i := 2) rfl)) (hw _ (List.mem_of_getElem? (i := 15) rfl)) (notFace_of_selects (args := #[]) (mvT hZ (hw _ (List.mem_of_getElem? (i := 14) rfl)))) (by decide) rfl (g := (mkF m 64 #[.val (.long p0), .second, .val (.long p1), .second, .val (.int p2), .val (.long p1), .second, .val (.ref a2), .val (.ref a6), .val (.int (p2 &&& (3 : Int32))), .val (.int (0 : Int32)), .unset, .unset] [(.ref a6), (.ref a2)])) rfl (by rw [hml]; rfl) (argsL := [(.ref a6)]) (rest := []) rfl (lenOf own_pd2 rfl) rfl 0 (by show 2 * 0 + _ ≤ _; exact Nat.le_of_eq rfl) (hb hby at_64) (by decide) (by decide) (by decide) (by decide) ?_
        intro v16 T16 L16 hQ16 X16
        obtain ⟨rfl, e16, rfl⟩ := hQ16
        refine own_via (F' := T16.setTop (mkF m 67 #[.val (.long p0), .second, .val (.long p1), .second, .val (.int p2), .val (.long p1), .second, .val (.ref a2), .val (.ref a6), .val (.int (p2 &&& (3 : Int32))), .val (.int (0 : Int32)), .unset, .unset] [(.int (0 : Int32))])) (fun tz kz => kz) ?_
        refine own_via (F' := T16.setTop (mkF m 69 #[.val (.long p0), .second, .val (.long p1), .second, .val (.int p2), .val (.long p1), .second, .val (.ref a2), .val (.ref a6), .val (.int (p2 &&& (3 : Int32))), .val (.int (0 : Int32)), .val (.int (0 : Int32)), .unset] [])) (fun tz kz => XS.istore X16.here hx rfl (hb hby at_67) rfl (l' := #[.val (.long p0), .second, .val (.long p1), .second, .val (.int p2), .val (.long p1), .second, .val (.ref a2), .val (.ref a6), .val (.int (p2 &&& (3 : Int32))), .val (.int (0 : Int32)), .val (.int (0 : Int32)), .unset]) rfl kz) ?_
        refine own_via (F' := T16.setTop (mkF m 71 #[.val (.long p0), .second, .val (.long p1), .second, .val (.int p2), .val (.long p1), .second, .val (.ref a2), .val (.ref a6), .val (.int (p2 &&& (3 : Int32))), .val (.int (0 : Int32)), .val (.int (0 : Int32)), .unset] [(.ref a6)])) (fun tz kz => XS.aload X16.here hx rfl (hb hby at_69) rfl rfl kz) ?_
        refine own_via (F' := T16.setTop (mkF m 73 #[.val (.long p0), .second, .val (.long p1), .second, .val (.int p2), .val (.long p1), .second, .val (.ref a2), .val (.ref a6), .val (.int (p2 &&& (3 : Int32))), .val (.int (0 : Int32)), .val (.int (0 : Int32)), .unset] [(.ref a2), (.ref a6)])) (fun tz kz => XS.aload X16.here hx rfl (hb hby at_71) rfl rfl kz) ?_
        refine own_callV X16 hx hZ (own_ke l Z az hw a6 a2 p1 p0 T8.heap f17 F8 f15 (0 : Int32) (if_neg (fun z => q10 z.symm))) hown E8 (hw _ (List.mem_of_getElem? (i := 11) rfl)) (hw _ (List.mem_of_getElem? (i := 12) rfl)) (hw _ (List.mem_of_getElem? (i := 14) rfl)) (hw _ (List.mem_of_getElem? (i := 13) rfl)) (hw _ (List.mem_of_getElem? (i := 2) rfl)) (hw _ (List.mem_of_getElem? (i := 15) rfl)) (notFace_of_selects (args := #[]) (mvT hZ (hw _ (List.mem_of_getElem? (i := 14) rfl)))) (by decide) e16 (g := (mkF m 73 #[.val (.long p0), .second, .val (.long p1), .second, .val (.int p2), .val (.long p1), .second, .val (.ref a2), .val (.ref a6), .val (.int (p2 &&& (3 : Int32))), .val (.int (0 : Int32)), .val (.int (0 : Int32)), .unset] [(.ref a2), (.ref a6)])) rfl (by rw [hml]; rfl) (argsL := [(.ref a2)]) (rest := []) rfl (lenOf own_pd2 rfl) rfl 0 (by show 2 * 0 + _ ≤ _; exact Nat.le_of_eq rfl) (hb hby at_73) (by decide) (by decide) (by decide) (by decide) ?_
        intro v18 T18 L18 hQ18 X18
        obtain ⟨rfl, e18, rfl⟩ := hQ18
        refine own_via (F' := T18.setTop (mkF m 76 #[.val (.long p0), .second, .val (.long p1), .second, .val (.int p2), .val (.long p1), .second, .val (.ref a2), .val (.ref a6), .val (.int (p2 &&& (3 : Int32))), .val (.int (0 : Int32)), .val (.int (0 : Int32)), .unset] [(.int (0 : Int32))])) (fun tz kz => kz) ?_
        refine own_via (F' := T18.setTop (mkF m 78 #[.val (.long p0), .second, .val (.long p1), .second, .val (.int p2), .val (.long p1), .second, .val (.ref a2), .val (.ref a6), .val (.int (p2 &&& (3 : Int32))), .val (.int (0 : Int32)), .val (.int (0 : Int32)), .val (.int (0 : Int32))] [])) (fun tz kz => XS.istore X18.here hx rfl (hb hby at_76) rfl (l' := #[.val (.long p0), .second, .val (.long p1), .second, .val (.int p2), .val (.long p1), .second, .val (.ref a2), .val (.ref a6), .val (.int (p2 &&& (3 : Int32))), .val (.int (0 : Int32)), .val (.int (0 : Int32)), .val (.int (0 : Int32))]) rfl kz) ?_
        refine own_via (F' := T18.setTop (mkF m 80 #[.val (.long p0), .second, .val (.long p1), .second, .val (.int p2), .val (.long p1), .second, .val (.ref a2), .val (.ref a6), .val (.int (p2 &&& (3 : Int32))), .val (.int (0 : Int32)), .val (.int (0 : Int32)), .val (.int (0 : Int32))] [(.int (0 : Int32))])) (fun tz kz => XS.iload X18.here hx rfl (hb hby at_78) rfl kz) ?_
        refine own_via (F' := T18.setTop (mkF m 82 #[.val (.long p0), .second, .val (.long p1), .second, .val (.int p2), .val (.long p1), .second, .val (.ref a2), .val (.ref a6), .val (.int (p2 &&& (3 : Int32))), .val (.int (0 : Int32)), .val (.int (0 : Int32)), .val (.int (0 : Int32))] [(.int (0 : Int32)), (.int (0 : Int32))])) (fun tz kz => XS.iload X18.here hx rfl (hb hby at_80) rfl kz) ?_
        refine own_via (F' := T18.setTop (mkF m 85 #[.val (.long p0), .second, .val (.long p1), .second, .val (.int p2), .val (.long p1), .second, .val (.ref a2), .val (.ref a6), .val (.int (p2 &&& (3 : Int32))), .val (.int (0 : Int32)), .val (.int (0 : Int32)), .val (.int (0 : Int32))] [])) (fun tz kz => XS.icmpNo X18.here hx rfl (hb hby at_82) rfl (XT.ii_ne_f (by decide)) kz) ?_
        refine own_via (F' := T18.setTop (mkF m 87 #[.val (.long p0), .second, .val (.long p1), .second, .val (.int p2), .val (.long p1), .second, .val (.ref a2), .val (.ref a6), .val (.int (p2 &&& (3 : Int32))), .val (.int (0 : Int32)), .val (.int (0 : Int32)), .val (.int (0 : Int32))] [(.int (0 : Int32))])) (fun tz kz => XS.iload X18.here hx rfl (hb hby at_85) rfl kz) ?_
        refine own_via (F' := T18.setTop (mkF m 89 #[.val (.long p0), .second, .val (.long p1), .second, .val (.int p2), .val (.long p1), .second, .val (.ref a2), .val (.ref a6), .val (.int (p2 &&& (3 : Int32))), .val (.int (0 : Int32)), .val (.int (0 : Int32)), .val (.int (0 : Int32))] [(.int (0 : Int32)), (.int (0 : Int32))])) (fun tz kz => XS.iload X18.here hx rfl (hb hby at_87) rfl kz) ?_
        refine own_via (F' := T18.setTop (mkF m 92 #[.val (.long p0), .second, .val (.long p1), .second, .val (.int p2), .val (.long p1), .second, .val (.ref a2), .val (.ref a6), .val (.int (p2 &&& (3 : Int32))), .val (.int (0 : Int32)), .val (.int (0 : Int32)), .val (.int (0 : Int32))] [])) (fun tz kz => XS.icmpNo X18.here hx rfl (hb hby at_89) rfl (XT.ii_ne_f (by decide)) kz) ?_
        refine own_via (F' := T18.setTop (mkF m 93 #[.val (.long p0), .second, .val (.long p1), .second, .val (.int p2), .val (.long p1), .second, .val (.ref a2), .val (.ref a6), .val (.int (p2 &&& (3 : Int32))), .val (.int (0 : Int32)), .val (.int (0 : Int32)), .val (.int (0 : Int32))] [(.int (1 : Int32))])) (fun tz kz => XT.iconstV X18.here hx rfl (1 : Int32) (hb hby at_92) (by decide) kz) ?_
        refine own_via (F' := T18.setTop (mkF m 97 #[.val (.long p0), .second, .val (.long p1), .second, .val (.int p2), .val (.long p1), .second, .val (.ref a2), .val (.ref a6), .val (.int (p2 &&& (3 : Int32))), .val (.int (0 : Int32)), .val (.int (0 : Int32)), .val (.int (0 : Int32))] [(.int (1 : Int32))])) (fun tz kz => XS.goto X18.here hx rfl (pc0 := 93) (pc' := 97) rfl (hb hby at_93) (by decide) (by decide) kz) ?_
        exact own_retZ X18 hx hret hlk (hb hby at_97) ⟨rfl, (Fr.app (Fr.app (Fr.app (Fr.app (Fr.nil n0) M4) M8) (Fr.nil _)) (Fr.nil _))⟩ (by decide) (by decide)
    · refine own_via (F' := T8.setTop (mkF m 98 #[.val (.long p0), .second, .val (.long p1), .second, .val (.int p2), .val (.long p1), .second, .val (.ref a2), .val (.ref a6), .val (.int (p2 &&& (3 : Int32))), .unset, .unset, .unset] [])) (fun tz kz => XS.ifYes X8.here hx rfl (pc0 := 43) (pc' := 98) rfl (hb hby at_43) rfl (XT.i0_ne_t q9) (by decide) (by decide) kz) ?_
      refine own_via (F' := T8.setTop (mkF m 100 #[.val (.long p0), .second, .val (.long p1), .second, .val (.int p2), .val (.long p1), .second, .val (.ref a2), .val (.ref a6), .val (.int (p2 &&& (3 : Int32))), .unset, .unset, .unset] [(.int (p2 &&& (3 : Int32)))])) (fun tz kz => XS.iload X8.here hx rfl (hb hby at_98) rfl kz) ?_
      refine own_via (F' := T8.setTop (mkF m 101 #[.val (.long p0), .second, .val (.long p1), .second, .val (.int p2), .val (.long p1), .second, .val (.ref a2), .val (.ref a6), .val (.int (p2 &&& (3 : Int32))), .unset, .unset, .unset] [(.int (1 : Int32)), (.int (p2 &&& (3 : Int32)))])) (fun tz kz => XT.iconstV X8.here hx rfl (1 : Int32) (hb hby at_100) (by decide) kz) ?_
      by_cases q19 : (p2 &&& (3 : Int32)) = (1 : Int32)
      · refine own_via (F' := T8.setTop (mkF m 104 #[.val (.long p0), .second, .val (.long p1), .second, .val (.int p2), .val (.long p1), .second, .val (.ref a2), .val (.ref a6), .val (.int (p2 &&& (3 : Int32))), .unset, .unset, .unset] [])) (fun tz kz => XS.icmpNo X8.here hx rfl (hb hby at_101) rfl (XT.ii_ne_f q19) kz) ?_
        refine own_via (F' := T8.setTop (mkF m 106 #[.val (.long p0), .second, .val (.long p1), .second, .val (.int p2), .val (.long p1), .second, .val (.ref a2), .val (.ref a6), .val (.int (p2 &&& (3 : Int32))), .unset, .unset, .unset] [(.ref a2)])) (fun tz kz => XS.aload X8.here hx rfl (hb hby at_104) rfl rfl kz) ?_
        refine own_via (F' := T8.setTop (mkF m 107 #[.val (.long p0), .second, .val (.long p1), .second, .val (.int p2), .val (.long p1), .second, .val (.ref a2), .val (.ref a6), .val (.int (p2 &&& (3 : Int32))), .unset, .unset, .unset] [.null, (.ref a2)])) (fun tz kz => XS.aconstNull X8.here hx rfl (hb hby at_106) kz) ?_
        have f21 := ((E4.ext E6).keep K8)
        refine own_callV X8 hx hZ (own_kz l Z az hw a2 T8.heap) hown f21 (hw _ (List.mem_of_getElem? (i := 11) rfl)) (hw _ (List.mem_of_getElem? (i := 12) rfl)) (hw _ (List.mem_of_getElem? (i := 14) rfl)) (hw _ (List.mem_of_getElem? (i := 13) rfl)) (hw _ (List.mem_of_getElem? (i := 2) rfl)) (hw _ (List.mem_of_getElem? (i := 15) rfl)) (notFace_of_selects (args := #[]) (mvT hZ (hw _ (List.mem_of_getElem? (i := 14) rfl)))) (by decide) rfl (g := (mkF m 107 #[.val (.long p0), .second, .val (.long p1), .second, .val (.int p2), .val (.long p1), .second, .val (.ref a2), .val (.ref a6), .val (.int (p2 &&& (3 : Int32))), .unset, .unset, .unset] [.null, (.ref a2)])) rfl (by rw [hml]; rfl) (argsL := [.null]) (rest := []) rfl (lenOf own_pd2 rfl) rfl 0 (by show 2 * 0 + _ ≤ _; exact Nat.le_of_eq rfl) (hb hby at_107) (by decide) (by decide) (by decide) (by decide) ?_
        intro v20 T20 L20 hQ20 X20
        obtain ⟨rfl, e20, rfl⟩ := hQ20
        refine own_via (F' := T20.setTop (mkF m 110 #[.val (.long p0), .second, .val (.long p1), .second, .val (.int p2), .val (.long p1), .second, .val (.ref a2), .val (.ref a6), .val (.int (p2 &&& (3 : Int32))), .unset, .unset, .unset] [(.int (0 : Int32))])) (fun tz kz => kz) ?_
        refine own_via (F' := T20.setTop (mkF m 113 #[.val (.long p0), .second, .val (.long p1), .second, .val (.int p2), .val (.long p1), .second, .val (.ref a2), .val (.ref a6), .val (.int (p2 &&& (3 : Int32))), .unset, .unset, .unset] [])) (fun tz kz => XS.ifNo X20.here hx rfl (hb hby at_110) rfl (XT.i0_ne_f (by decide)) kz) ?_
        refine own_via (F' := T20.setTop (mkF m 114 #[.val (.long p0), .second, .val (.long p1), .second, .val (.int p2), .val (.long p1), .second, .val (.ref a2), .val (.ref a6), .val (.int (p2 &&& (3 : Int32))), .unset, .unset, .unset] [(.int (1 : Int32))])) (fun tz kz => XT.iconstV X20.here hx rfl (1 : Int32) (hb hby at_113) (by decide) kz) ?_
        refine own_via (F' := T20.setTop (mkF m 118 #[.val (.long p0), .second, .val (.long p1), .second, .val (.int p2), .val (.long p1), .second, .val (.ref a2), .val (.ref a6), .val (.int (p2 &&& (3 : Int32))), .unset, .unset, .unset] [(.int (1 : Int32))])) (fun tz kz => XS.goto X20.here hx rfl (pc0 := 114) (pc' := 118) rfl (hb hby at_114) (by decide) (by decide) kz) ?_
        exact own_retZ X20 hx hret hlk (hb hby at_118) ⟨rfl, (Fr.app (Fr.app (Fr.app (Fr.nil n0) M4) M8) (Fr.nil _))⟩ (by decide) (by decide)
      · refine own_via (F' := T8.setTop (mkF m 119 #[.val (.long p0), .second, .val (.long p1), .second, .val (.int p2), .val (.long p1), .second, .val (.ref a2), .val (.ref a6), .val (.int (p2 &&& (3 : Int32))), .unset, .unset, .unset] [])) (fun tz kz => XS.icmpYes X8.here hx rfl (pc0 := 101) (pc' := 119) rfl (hb hby at_101) rfl (XT.ii_ne_t q19) (by decide) (by decide) kz) ?_
        refine own_via (F' := T8.setTop (mkF m 121 #[.val (.long p0), .second, .val (.long p1), .second, .val (.int p2), .val (.long p1), .second, .val (.ref a2), .val (.ref a6), .val (.int (p2 &&& (3 : Int32))), .unset, .unset, .unset] [(.int (p2 &&& (3 : Int32)))])) (fun tz kz => XS.iload X8.here hx rfl (hb hby at_119) rfl kz) ?_
        refine own_via (F' := T8.setTop (mkF m 122 #[.val (.long p0), .second, .val (.long p1), .second, .val (.int p2), .val (.long p1), .second, .val (.ref a2), .val (.ref a6), .val (.int (p2 &&& (3 : Int32))), .unset, .unset, .unset] [(.int (2 : Int32)), (.int (p2 &&& (3 : Int32)))])) (fun tz kz => XT.iconstV X8.here hx rfl (2 : Int32) (hb hby at_121) (by decide) kz) ?_
        by_cases q22 : (p2 &&& (3 : Int32)) = (2 : Int32)
        · refine own_via (F' := T8.setTop (mkF m 125 #[.val (.long p0), .second, .val (.long p1), .second, .val (.int p2), .val (.long p1), .second, .val (.ref a2), .val (.ref a6), .val (.int (p2 &&& (3 : Int32))), .unset, .unset, .unset] [])) (fun tz kz => XS.icmpNo X8.here hx rfl (hb hby at_122) rfl (XT.ii_ne_f q22) kz) ?_
          refine own_via (F' := T8.setTop (mkF m 126 #[.val (.long p0), .second, .val (.long p1), .second, .val (.int p2), .val (.long p1), .second, .val (.ref a2), .val (.ref a6), .val (.int (p2 &&& (3 : Int32))), .unset, .unset, .unset] [(.long p0)])) (fun tz kz => XT.lloadN X8.here hx rfl (hb hby at_125) rfl kz) ?_
          have f23 := ((f5.ext E6).keep K8 (allS G6 all0))
          refine own_callS X8 hx hZ (own_kv l Z az hw p0 T8.heap n0 f23 ca cc vl SC BX) hown (hw _ (List.mem_of_getElem? (i := 18) rfl)) (hw _ (List.mem_of_getElem? (i := 19) rfl)) (hw _ (List.mem_of_getElem? (i := 20) rfl)) (hw _ (List.mem_of_getElem? (i := 21) rfl)) (by decide) rfl (g := (mkF m 126 #[.val (.long p0), .second, .val (.long p1), .second, .val (.int p2), .val (.long p1), .second, .val (.ref a2), .val (.ref a6), .val (.int (p2 &&& (3 : Int32))), .unset, .unset, .unset] [(.long p0)])) rfl (by rw [hml]; rfl) (argsL := [(.long p0)]) (rest := []) rfl (lenOf own_pd3 rfl) rfl 0 (by show 2 * 0 + _ ≤ _; exact Nat.le_of_eq rfl) (hb hby at_126) (by decide) (by decide) (by decide) (by decide) ?_
          intro v24 T24 L24 hQ24 X24
          obtain ⟨b24, rfl, M24, K24, E24⟩ := hQ24
          refine own_via (F' := T24.setTop (mkF m 129 #[.val (.long p0), .second, .val (.long p1), .second, .val (.int p2), .val (.long p1), .second, .val (.ref a2), .val (.ref a6), .val (.int (p2 &&& (3 : Int32))), .unset, .unset, .unset] [(.ref b24)])) (fun tz kz => kz) ?_
          refine own_via (F' := T24.setTop (mkF m 131 #[.val (.long p0), .second, .val (.long p1), .second, .val (.int p2), .val (.long p1), .second, .val (.ref a2), .val (.ref a6), .val (.int (p2 &&& (3 : Int32))), .val (.ref b24), .unset, .unset] [])) (fun tz kz => XS.astore X24.here hx rfl (hb hby at_129) rfl rfl (l' := #[.val (.long p0), .second, .val (.long p1), .second, .val (.int p2), .val (.long p1), .second, .val (.ref a2), .val (.ref a6), .val (.int (p2 &&& (3 : Int32))), .val (.ref b24), .unset, .unset]) rfl kz) ?_
          refine own_via (F' := T24.setTop (mkF m 133 #[.val (.long p0), .second, .val (.long p1), .second, .val (.int p2), .val (.long p1), .second, .val (.ref a2), .val (.ref a6), .val (.int (p2 &&& (3 : Int32))), .val (.ref b24), .unset, .unset] [(.ref a2)])) (fun tz kz => XS.aload X24.here hx rfl (hb hby at_131) rfl rfl kz) ?_
          refine own_via (F' := T24.setTop (mkF m 135 #[.val (.long p0), .second, .val (.long p1), .second, .val (.int p2), .val (.long p1), .second, .val (.ref a2), .val (.ref a6), .val (.int (p2 &&& (3 : Int32))), .val (.ref b24), .unset, .unset] [(.ref b24), (.ref a2)])) (fun tz kz => XS.aload X24.here hx rfl (hb hby at_133) rfl rfl kz) ?_
          have f26 := (((E4.ext E6).keep K8).keep K24)
          refine own_callV X24 hx hZ (own_ko l Z az hw a2 T24.heap b24 E24) hown f26 (hw _ (List.mem_of_getElem? (i := 11) rfl)) (hw _ (List.mem_of_getElem? (i := 12) rfl)) (hw _ (List.mem_of_getElem? (i := 14) rfl)) (hw _ (List.mem_of_getElem? (i := 13) rfl)) (hw _ (List.mem_of_getElem? (i := 2) rfl)) (hw _ (List.mem_of_getElem? (i := 15) rfl)) (notFace_of_selects (args := #[]) (mvT hZ (hw _ (List.mem_of_getElem? (i := 14) rfl)))) (by decide) rfl (g := (mkF m 135 #[.val (.long p0), .second, .val (.long p1), .second, .val (.int p2), .val (.long p1), .second, .val (.ref a2), .val (.ref a6), .val (.int (p2 &&& (3 : Int32))), .val (.ref b24), .unset, .unset] [(.ref b24), (.ref a2)])) rfl (by rw [hml]; rfl) (argsL := [(.ref b24)]) (rest := []) rfl (lenOf own_pd2 rfl) rfl 0 (by show 2 * 0 + _ ≤ _; exact Nat.le_of_eq rfl) (hb hby at_135) (by decide) (by decide) (by decide) (by decide) ?_
          intro v25 T25 L25 hQ25 X25
          obtain ⟨rfl, e25, rfl⟩ := hQ25
          refine own_via (F' := T25.setTop (mkF m 138 #[.val (.long p0), .second, .val (.long p1), .second, .val (.int p2), .val (.long p1), .second, .val (.ref a2), .val (.ref a6), .val (.int (p2 &&& (3 : Int32))), .val (.ref b24), .unset, .unset] [(.int (0 : Int32))])) (fun tz kz => kz) ?_
          refine own_via (F' := T25.setTop (mkF m 141 #[.val (.long p0), .second, .val (.long p1), .second, .val (.int p2), .val (.long p1), .second, .val (.ref a2), .val (.ref a6), .val (.int (p2 &&& (3 : Int32))), .val (.ref b24), .unset, .unset] [])) (fun tz kz => XS.ifNo X25.here hx rfl (hb hby at_138) rfl (XT.i0_ne_f (by decide)) kz) ?_
          refine own_via (F' := T25.setTop (mkF m 142 #[.val (.long p0), .second, .val (.long p1), .second, .val (.int p2), .val (.long p1), .second, .val (.ref a2), .val (.ref a6), .val (.int (p2 &&& (3 : Int32))), .val (.ref b24), .unset, .unset] [(.int (1 : Int32))])) (fun tz kz => XT.iconstV X25.here hx rfl (1 : Int32) (hb hby at_141) (by decide) kz) ?_
          refine own_via (F' := T25.setTop (mkF m 146 #[.val (.long p0), .second, .val (.long p1), .second, .val (.int p2), .val (.long p1), .second, .val (.ref a2), .val (.ref a6), .val (.int (p2 &&& (3 : Int32))), .val (.ref b24), .unset, .unset] [(.int (1 : Int32))])) (fun tz kz => XS.goto X25.here hx rfl (pc0 := 142) (pc' := 146) rfl (hb hby at_142) (by decide) (by decide) kz) ?_
          exact own_retZ X25 hx hret hlk (hb hby at_146) ⟨rfl, (Fr.app (Fr.app (Fr.app (Fr.app (Fr.nil n0) M4) M8) M24) (Fr.nil _))⟩ (by decide) (by decide)
        · refine own_via (F' := T8.setTop (mkF m 147 #[.val (.long p0), .second, .val (.long p1), .second, .val (.int p2), .val (.long p1), .second, .val (.ref a2), .val (.ref a6), .val (.int (p2 &&& (3 : Int32))), .unset, .unset, .unset] [])) (fun tz kz => XS.icmpYes X8.here hx rfl (pc0 := 122) (pc' := 147) rfl (hb hby at_122) rfl (XT.ii_ne_t q22) (by decide) (by decide) kz) ?_
          refine own_via (F' := T8.setTop (mkF m 149 #[.val (.long p0), .second, .val (.long p1), .second, .val (.int p2), .val (.long p1), .second, .val (.ref a2), .val (.ref a6), .val (.int (p2 &&& (3 : Int32))), .unset, .unset, .unset] [(.ref a2)])) (fun tz kz => XS.aload X8.here hx rfl (hb hby at_147) rfl rfl kz) ?_
          refine own_via (F' := T8.setTop (mkF m 151 #[.val (.long p0), .second, .val (.long p1), .second, .val (.int p2), .val (.long p1), .second, .val (.ref a2), .val (.ref a6), .val (.int (p2 &&& (3 : Int32))), .unset, .unset, .unset] [(.ref a2), (.ref a2)])) (fun tz kz => XS.aload X8.here hx rfl (hb hby at_149) rfl rfl kz) ?_
          have f27 := ((E4.ext E6).keep K8)
          have f28 := ((F4.ext E6).keep K8 (ninS ne6_a2 nin0))
          refine own_callV X8 hx hZ (own_ke l Z az hw a2 a2 p0 p0 T8.heap f27 f28 f28 (1 : Int32) (if_pos rfl)) hown f27 (hw _ (List.mem_of_getElem? (i := 11) rfl)) (hw _ (List.mem_of_getElem? (i := 12) rfl)) (hw _ (List.mem_of_getElem? (i := 14) rfl)) (hw _ (List.mem_of_getElem? (i := 13) rfl)) (hw _ (List.mem_of_getElem? (i := 2) rfl)) (hw _ (List.mem_of_getElem? (i := 15) rfl)) (notFace_of_selects (args := #[]) (mvT hZ (hw _ (List.mem_of_getElem? (i := 14) rfl)))) (by decide) rfl (g := (mkF m 151 #[.val (.long p0), .second, .val (.long p1), .second, .val (.int p2), .val (.long p1), .second, .val (.ref a2), .val (.ref a6), .val (.int (p2 &&& (3 : Int32))), .unset, .unset, .unset] [(.ref a2), (.ref a2)])) rfl (by rw [hml]; rfl) (argsL := [(.ref a2)]) (rest := []) rfl (lenOf own_pd2 rfl) rfl 0 (by show 2 * 0 + _ ≤ _; exact Nat.le_of_eq rfl) (hb hby at_151) (by decide) (by decide) (by decide) (by decide) ?_
          intro v29 T29 L29 hQ29 X29
          obtain ⟨rfl, e29, rfl⟩ := hQ29
          refine own_via (F' := T29.setTop (mkF m 154 #[.val (.long p0), .second, .val (.long p1), .second, .val (.int p2), .val (.long p1), .second, .val (.ref a2), .val (.ref a6), .val (.int (p2 &&& (3 : Int32))), .unset, .unset, .unset] [(.int (1 : Int32))])) (fun tz kz => kz) ?_
          exact own_retZ X29 hx hret hlk (hb hby at_154) ⟨rfl, (Fr.app (Fr.app (Fr.app (Fr.nil n0) M4) M8) (Fr.nil _))⟩ (by decide) (by decide)
  · refine own_via (F' := T0.setTop (mkF m 7 #[.val (.long p0), .second, .val (.long p1), .second, .val (.int p2), .unset, .unset, .unset, .unset, .unset, .unset, .unset, .unset] [])) (fun tz kz => XS.ifNo X0.here hx rfl (hb hby at_4) rfl (XT.i0_eq_f q1) kz) ?_
    refine own_via (F' := T0.setTop (mkF m 8 #[.val (.long p0), .second, .val (.long p1), .second, .val (.int p2), .unset, .unset, .unset, .unset, .unset, .unset, .unset, .unset] [(.long p0)])) (fun tz kz => XT.lloadN X0.here hx rfl (hb hby at_7) rfl kz) ?_
    refine own_via (F' := T0.setTop (mkF m 12 #[.val (.long p0), .second, .val (.long p1), .second, .val (.int p2), .unset, .unset, .unset, .unset, .unset, .unset, .unset, .unset] [(.long p0)])) (fun tz kz => XS.goto X0.here hx rfl (pc0 := 8) (pc' := 12) rfl (hb hby at_8) (by decide) (by decide) kz) ?_
    refine own_via (F' := T0.setTop (mkF m 14 #[.val (.long p0), .second, .val (.long p1), .second, .val (.int p2), .val (.long p0), .second, .unset, .unset, .unset, .unset, .unset, .unset] [])) (fun tz kz => XT.lstore X0.here hx rfl (hb hby at_12) rfl (l' := #[.val (.long p0), .second, .val (.long p1), .second, .val (.int p2), .val (.long p0), .second, .unset, .unset, .unset, .unset, .unset, .unset]) rfl kz) ?_
    obtain ⟨T30, h30, X30, e30, E30, A30, D30, -, s30⟩ := newO X0 hx hZ hown (hw _ (List.mem_of_getElem? (i := 0) rfl)) (hw _ (List.mem_of_getElem? (i := 1) rfl)) (hw _ (List.mem_of_getElem? (i := 2) rfl)) e0 (g := (mkF m 14 #[.val (.long p0), .second, .val (.long p1), .second, .val (.int p2), .val (.long p0), .second, .unset, .unset, .unset, .unset, .unset, .unset] [])) rfl (hb hby at_14) (by decide) (by decide)
    obtain ⟨a30, g30⟩ : ∃ z, z = h0.size := ⟨_, rfl⟩
    rw [← g30] at A30 D30 s30
    have G30 : n0 ≤ a30 := by have q := O0.2.1; have q2 := O0.1; omega
    have D31 : Fld Z h30 a30 "com/example/cite4/cite4/value/LongValue" "value" "J" (.long (0 : Int64)) := D30 (Or.inr (hw _ (List.mem_of_getElem? (i := 10) rfl))) (ty := .long) (by decide)
    refine own_via (F' := T30.setTop (mkF m 17 #[.val (.long p0), .second, .val (.long p1), .second, .val (.int p2), .val (.long p0), .second, .unset, .unset, .unset, .unset, .unset, .unset] [(.ref a30)])) s30 ?_
    refine own_via (F' := T30.setTop (mkF m 18 #[.val (.long p0), .second, .val (.long p1), .second, .val (.int p2), .val (.long p0), .second, .unset, .unset, .unset, .unset, .unset, .unset] [(.ref a30), (.ref a30)])) (fun tz kz => XS.dup X30.here hx rfl (hb hby at_17) rfl rfl kz) ?_
    refine own_via (F' := T30.setTop (mkF m 19 #[.val (.long p0), .second, .val (.long p1), .second, .val (.int p2), .val (.long p0), .second, .unset, .unset, .unset, .unset, .unset, .unset] [(.long p0), (.ref a30), (.ref a30)])) (fun tz kz => XT.lloadN X30.here hx rfl (hb hby at_18) rfl kz) ?_
    refine own_callI X30 hx hZ (own_ki l Z az hw a30 p0 h30 n0 A30 D31 G30) hown rfl (hw _ (List.mem_of_getElem? (i := 3) rfl)) (hw _ (List.mem_of_getElem? (i := 4) rfl)) (hw _ (List.mem_of_getElem? (i := 2) rfl)) (hw _ (List.mem_of_getElem? (i := 5) rfl)) (by decide) e30 (g := (mkF m 19 #[.val (.long p0), .second, .val (.long p1), .second, .val (.int p2), .val (.long p0), .second, .unset, .unset, .unset, .unset, .unset, .unset] [(.long p0), (.ref a30), (.ref a30)])) rfl (by rw [hml]; rfl) (argsL := [(.long p0)]) (rest := [(.ref a30)]) rfl (lenOf own_pd1 rfl) rfl 1 (by show 2 * 0 + _ ≤ _; exact Nat.le_of_eq rfl) (hb hby at_19) (by decide) (by decide) (by decide) (by decide) ?_
    intro v32 T32 L32 hQ32 X32
    obtain ⟨rfl, M32, K32, E32, F32⟩ := hQ32
    refine own_via (F' := T32.setTop (mkF m 22 #[.val (.long p0), .second, .val (.long p1), .second, .val (.int p2), .val (.long p0), .second, .unset, .unset, .unset, .unset, .unset, .unset] [(.ref a30)])) (fun tz kz => kz) ?_
    refine own_via (F' := T32.setTop (mkF m 24 #[.val (.long p0), .second, .val (.long p1), .second, .val (.int p2), .val (.long p0), .second, .val (.ref a30), .unset, .unset, .unset, .unset, .unset] [])) (fun tz kz => XS.astore X32.here hx rfl (hb hby at_22) rfl rfl (l' := #[.val (.long p0), .second, .val (.long p1), .second, .val (.int p2), .val (.long p0), .second, .val (.ref a30), .unset, .unset, .unset, .unset, .unset]) rfl kz) ?_
    have f33 := ((O0.ext E30).keep K32 (allS G30 all0))
    obtain ⟨T34, h34, X34, e34, E34, A34, D34, -, s34⟩ := newO X32 hx hZ hown (hw _ (List.mem_of_getElem? (i := 0) rfl)) (hw _ (List.mem_of_getElem? (i := 1) rfl)) (hw _ (List.mem_of_getElem? (i := 2) rfl)) rfl (g := (mkF m 24 #[.val (.long p0), .second, .val (.long p1), .second, .val (.int p2), .val (.long p0), .second, .val (.ref a30), .unset, .unset, .unset, .unset, .unset] [])) rfl (hb hby at_24) (by decide) (by decide)
    obtain ⟨a34, g34⟩ : ∃ z, z = T32.heap.size := ⟨_, rfl⟩
    rw [← g34] at A34 D34 s34
    have G34 : n0 ≤ a34 := by have q := f33.2.1; have q2 := f33.1; omega
    have ne34_a30 : a30 ≠ a34 := by have q := own_n E32.lt; omega
    have D35 : Fld Z h34 a34 "com/example/cite4/cite4/value/LongValue" "value" "J" (.long (0 : Int64)) := D34 (Or.inr (hw _ (List.mem_of_getElem? (i := 10) rfl))) (ty := .long) (by decide)
    refine own_via (F' := T34.setTop (mkF m 27 #[.val (.long p0), .second, .val (.long p1), .second, .val (.int p2), .val (.long p0), .second, .val (.ref a30), .unset, .unset, .unset, .unset, .unset] [(.ref a34)])) s34 ?_
    refine own_via (F' := T34.setTop (mkF m 28 #[.val (.long p0), .second, .val (.long p1), .second, .val (.int p2), .val (.long p0), .second, .val (.ref a30), .unset, .unset, .unset, .unset, .unset] [(.ref a34), (.ref a34)])) (fun tz kz => XS.dup X34.here hx rfl (hb hby at_27) rfl rfl kz) ?_
    refine own_via (F' := T34.setTop (mkF m 30 #[.val (.long p0), .second, .val (.long p1), .second, .val (.int p2), .val (.long p0), .second, .val (.ref a30), .unset, .unset, .unset, .unset, .unset] [(.long p0), (.ref a34), (.ref a34)])) (fun tz kz => XT.lload X34.here hx rfl (hb hby at_28) rfl kz) ?_
    refine own_callI X34 hx hZ (own_ki l Z az hw a34 p0 h34 n0 A34 D35 G34) hown rfl (hw _ (List.mem_of_getElem? (i := 3) rfl)) (hw _ (List.mem_of_getElem? (i := 4) rfl)) (hw _ (List.mem_of_getElem? (i := 2) rfl)) (hw _ (List.mem_of_getElem? (i := 5) rfl)) (by decide) e34 (g := (mkF m 30 #[.val (.long p0), .second, .val (.long p1), .second, .val (.int p2), .val (.long p0), .second, .val (.ref a30), .unset, .unset, .unset, .unset, .unset] [(.long p0), (.ref a34), (.ref a34)])) rfl (by rw [hml]; rfl) (argsL := [(.long p0)]) (rest := [(.ref a34)]) rfl (lenOf own_pd1 rfl) rfl 1 (by show 2 * 0 + _ ≤ _; exact Nat.le_of_eq rfl) (hb hby at_30) (by decide) (by decide) (by decide) (by decide) ?_
    intro v36 T36 L36 hQ36 X36
    obtain ⟨rfl, M36, K36, E36, F36⟩ := hQ36
    refine own_via (F' := T36.setTop (mkF m 33 #[.val (.long p0), .second, .val (.long p1), .second, .val (.int p2), .val (.long p0), .second, .val (.ref a30), .unset, .unset, .unset, .unset, .unset] [(.ref a34)])) (fun tz kz => kz) ?_
    refine own_via (F' := T36.setTop (mkF m 35 #[.val (.long p0), .second, .val (.long p1), .second, .val (.int p2), .val (.long p0), .second, .val (.ref a30), .val (.ref a34), .unset, .unset, .unset, .unset] [])) (fun tz kz => XS.astore X36.here hx rfl (hb hby at_33) rfl rfl (l' := #[.val (.long p0), .second, .val (.long p1), .second, .val (.int p2), .val (.long p0), .second, .val (.ref a30), .val (.ref a34), .unset, .unset, .unset, .unset]) rfl kz) ?_
    refine own_via (F' := T36.setTop (mkF m 37 #[.val (.long p0), .second, .val (.long p1), .second, .val (.int p2), .val (.long p0), .second, .val (.ref a30), .val (.ref a34), .unset, .unset, .unset, .unset] [(.int p2)])) (fun tz kz => XS.iload X36.here hx rfl (hb hby at_35) rfl kz) ?_
    refine own_via (F' := T36.setTop (mkF m 38 #[.val (.long p0), .second, .val (.long p1), .second, .val (.int p2), .val (.long p0), .second, .val (.ref a30), .val (.ref a34), .unset, .unset, .unset, .unset] [(.int (3 : Int32)), (.int p2)])) (fun tz kz => XT.iconstV X36.here hx rfl (3 : Int32) (hb hby at_37) (by decide) kz) ?_
    refine own_via (F' := T36.setTop (mkF m 39 #[.val (.long p0), .second, .val (.long p1), .second, .val (.int p2), .val (.long p0), .second, .val (.ref a30), .val (.ref a34), .unset, .unset, .unset, .unset] [(.int (p2 &&& (3 : Int32)))])) (fun tz kz => XS.iand X36.here hx rfl (hb hby at_38) rfl kz) ?_
    refine own_via (F' := T36.setTop (mkF m 41 #[.val (.long p0), .second, .val (.long p1), .second, .val (.int p2), .val (.long p0), .second, .val (.ref a30), .val (.ref a34), .val (.int (p2 &&& (3 : Int32))), .unset, .unset, .unset] [])) (fun tz kz => XS.istore X36.here hx rfl (hb hby at_39) rfl (l' := #[.val (.long p0), .second, .val (.long p1), .second, .val (.int p2), .val (.long p0), .second, .val (.ref a30), .val (.ref a34), .val (.int (p2 &&& (3 : Int32))), .unset, .unset, .unset]) rfl kz) ?_
    refine own_via (F' := T36.setTop (mkF m 43 #[.val (.long p0), .second, .val (.long p1), .second, .val (.int p2), .val (.long p0), .second, .val (.ref a30), .val (.ref a34), .val (.int (p2 &&& (3 : Int32))), .unset, .unset, .unset] [(.int (p2 &&& (3 : Int32)))])) (fun tz kz => XS.iload X36.here hx rfl (hb hby at_41) rfl kz) ?_
    by_cases q37 : (p2 &&& (3 : Int32)) = (0 : Int32)
    · refine own_via (F' := T36.setTop (mkF m 46 #[.val (.long p0), .second, .val (.long p1), .second, .val (.int p2), .val (.long p0), .second, .val (.ref a30), .val (.ref a34), .val (.int (p2 &&& (3 : Int32))), .unset, .unset, .unset] [])) (fun tz kz => XS.ifNo X36.here hx rfl (hb hby at_43) rfl (XT.i0_ne_f q37) kz) ?_
      refine own_via (F' := T36.setTop (mkF m 47 #[.val (.long p0), .second, .val (.long p1), .second, .val (.int p2), .val (.long p0), .second, .val (.ref a30), .val (.ref a34), .val (.int (p2 &&& (3 : Int32))), .unset, .unset, .unset] [(.long p0)])) (fun tz kz => XT.lloadN X36.here hx rfl (hb hby at_46) rfl kz) ?_
      refine own_via (F' := T36.setTop (mkF m 49 #[.val (.long p0), .second, .val (.long p1), .second, .val (.int p2), .val (.long p0), .second, .val (.ref a30), .val (.ref a34), .val (.int (p2 &&& (3 : Int32))), .unset, .unset, .unset] [(.long p0), (.long p0)])) (fun tz kz => XT.lload X36.here hx rfl (hb hby at_47) rfl kz) ?_
      refine own_via (F' := T36.setTop (mkF m 50 #[.val (.long p0), .second, .val (.long p1), .second, .val (.int p2), .val (.long p0), .second, .val (.ref a30), .val (.ref a34), .val (.int (p2 &&& (3 : Int32))), .unset, .unset, .unset] [(.int (XT.cmpL p0 p0))])) (fun tz kz => XT.lcmp X36.here hx rfl (hb hby at_49) rfl kz) ?_
      refine own_via (F' := T36.setTop (mkF m 53 #[.val (.long p0), .second, .val (.long p1), .second, .val (.int p2), .val (.long p0), .second, .val (.ref a30), .val (.ref a34), .val (.int (p2 &&& (3 : Int32))), .unset, .unset, .unset] [])) (fun tz kz => XS.ifNo X36.here hx rfl (hb hby at_50) rfl (XT.ll_ne_f rfl) kz) ?_
      refine own_via (F' := T36.setTop (mkF m 54 #[.val (.long p0), .second, .val (.long p1), .second, .val (.int p2), .val (.long p0), .second, .val (.ref a30), .val (.ref a34), .val (.int (p2 &&& (3 : Int32))), .unset, .unset, .unset] [(.int (1 : Int32))])) (fun tz kz => XT.iconstV X36.here hx rfl (1 : Int32) (hb hby at_53) (by decide) kz) ?_
      refine own_via (F' := T36.setTop (mkF m 58 #[.val (.long p0), .second, .val (.long p1), .second, .val (.int p2), .val (.long p0), .second, .val (.ref a30), .val (.ref a34), .val (.int (p2 &&& (3 : Int32))), .unset, .unset, .unset] [(.int (1 : Int32))])) (fun tz kz => XS.goto X36.here hx rfl (pc0 := 54) (pc' := 58) rfl (hb hby at_54) (by decide) (by decide) kz) ?_
      refine own_via (F' := T36.setTop (mkF m 60 #[.val (.long p0), .second, .val (.long p1), .second, .val (.int p2), .val (.long p0), .second, .val (.ref a30), .val (.ref a34), .val (.int (p2 &&& (3 : Int32))), .val (.int (1 : Int32)), .unset, .unset] [])) (fun tz kz => XS.istore X36.here hx rfl (hb hby at_58) rfl (l' := #[.val (.long p0), .second, .val (.long p1), .second, .val (.int p2), .val (.long p0), .second, .val (.ref a30), .val (.ref a34), .val (.int (p2 &&& (3 : Int32))), .val (.int (1 : Int32)), .unset, .unset]) rfl kz) ?_
      refine own_via (F' := T36.setTop (mkF m 62 #[.val (.long p0), .second, .val (.long p1), .second, .val (.int p2), .val (.long p0), .second, .val (.ref a30), .val (.ref a34), .val (.int (p2 &&& (3 : Int32))), .val (.int (1 : Int32)), .unset, .unset] [(.ref a30)])) (fun tz kz => XS.aload X36.here hx rfl (hb hby at_60) rfl rfl kz) ?_
      refine own_via (F' := T36.setTop (mkF m 64 #[.val (.long p0), .second, .val (.long p1), .second, .val (.int p2), .val (.long p0), .second, .val (.ref a30), .val (.ref a34), .val (.int (p2 &&& (3 : Int32))), .val (.int (1 : Int32)), .unset, .unset] [(.ref a34), (.ref a30)])) (fun tz kz => XS.aload X36.here hx rfl (hb hby at_62) rfl rfl kz) ?_
      have f38 := ((F32.ext E34).keep K36 (ninS ne34_a30 nin0))
      have f40 := ((E32.ext E34).keep K36)
      refine own_callV X36 hx hZ (own_ke l Z az hw a30 a34 p0 p0 T36.heap E36 f38 F36 (1 : Int32) (if_pos rfl)) hown f40 (hw _ (List.mem_of_getElem? (i := 11) rfl)) (hw _ (List.mem_of_getElem? (i := 12) rfl)) (hw _ (List.mem_of_getElem? (i := 14) rfl)) (hw _ (List.mem_of_getElem? (i := 13) rfl)) (hw _ (List.mem_of_getElem? (i := 2) rfl)) (hw _ (List.mem_of_getElem? (i := 15) rfl)) (notFace_of_selects (args := #[]) (mvT hZ (hw _ (List.mem_of_getElem? (i := 14) rfl)))) (by decide) rfl (g := (mkF m 64 #[.val (.long p0), .second, .val (.long p1), .second, .val (.int p2), .val (.long p0), .second, .val (.ref a30), .val (.ref a34), .val (.int (p2 &&& (3 : Int32))), .val (.int (1 : Int32)), .unset, .unset] [(.ref a34), (.ref a30)])) rfl (by rw [hml]; rfl) (argsL := [(.ref a34)]) (rest := []) rfl (lenOf own_pd2 rfl) rfl 0 (by show 2 * 0 + _ ≤ _; exact Nat.le_of_eq rfl) (hb hby at_64) (by decide) (by decide) (by decide) (by decide) ?_
      intro v39 T39 L39 hQ39 X39
      obtain ⟨rfl, e39, rfl⟩ := hQ39
      refine own_via (F' := T39.setTop (mkF m 67 #[.val (.long p0), .second, .val (.long p1), .second, .val (.int p2), .val (.long p0), .second, .val (.ref a30), .val (.ref a34), .val (.int (p2 &&& (3 : Int32))), .val (.int (1 : Int32)), .unset, .unset] [(.int (1 : Int32))])) (fun tz kz => kz) ?_
      refine own_via (F' := T39.setTop (mkF m 69 #[.val (.long p0), .second, .val (.long p1), .second, .val (.int p2), .val (.long p0), .second, .val (.ref a30), .val (.ref a34), .val (.int (p2 &&& (3 : Int32))), .val (.int (1 : Int32)), .val (.int (1 : Int32)), .unset] [])) (fun tz kz => XS.istore X39.here hx rfl (hb hby at_67) rfl (l' := #[.val (.long p0), .second, .val (.long p1), .second, .val (.int p2), .val (.long p0), .second, .val (.ref a30), .val (.ref a34), .val (.int (p2 &&& (3 : Int32))), .val (.int (1 : Int32)), .val (.int (1 : Int32)), .unset]) rfl kz) ?_
      refine own_via (F' := T39.setTop (mkF m 71 #[.val (.long p0), .second, .val (.long p1), .second, .val (.int p2), .val (.long p0), .second, .val (.ref a30), .val (.ref a34), .val (.int (p2 &&& (3 : Int32))), .val (.int (1 : Int32)), .val (.int (1 : Int32)), .unset] [(.ref a34)])) (fun tz kz => XS.aload X39.here hx rfl (hb hby at_69) rfl rfl kz) ?_
      refine own_via (F' := T39.setTop (mkF m 73 #[.val (.long p0), .second, .val (.long p1), .second, .val (.int p2), .val (.long p0), .second, .val (.ref a30), .val (.ref a34), .val (.int (p2 &&& (3 : Int32))), .val (.int (1 : Int32)), .val (.int (1 : Int32)), .unset] [(.ref a30), (.ref a34)])) (fun tz kz => XS.aload X39.here hx rfl (hb hby at_71) rfl rfl kz) ?_
      refine own_callV X39 hx hZ (own_ke l Z az hw a34 a30 p0 p0 T36.heap f40 F36 f38 (1 : Int32) (if_pos rfl)) hown E36 (hw _ (List.mem_of_getElem? (i := 11) rfl)) (hw _ (List.mem_of_getElem? (i := 12) rfl)) (hw _ (List.mem_of_getElem? (i := 14) rfl)) (hw _ (List.mem_of_getElem? (i := 13) rfl)) (hw _ (List.mem_of_getElem? (i := 2) rfl)) (hw _ (List.mem_of_getElem? (i := 15) rfl)) (notFace_of_selects (args := #[]) (mvT hZ (hw _ (List.mem_of_getElem? (i := 14) rfl)))) (by decide) e39 (g := (mkF m 73 #[.val (.long p0), .second, .val (.long p1), .second, .val (.int p2), .val (.long p0), .second, .val (.ref a30), .val (.ref a34), .val (.int (p2 &&& (3 : Int32))), .val (.int (1 : Int32)), .val (.int (1 : Int32)), .unset] [(.ref a30), (.ref a34)])) rfl (by rw [hml]; rfl) (argsL := [(.ref a30)]) (rest := []) rfl (lenOf own_pd2 rfl) rfl 0 (by show 2 * 0 + _ ≤ _; exact Nat.le_of_eq rfl) (hb hby at_73) (by decide) (by decide) (by decide) (by decide) ?_
      intro v41 T41 L41 hQ41 X41
      obtain ⟨rfl, e41, rfl⟩ := hQ41
      refine own_via (F' := T41.setTop (mkF m 76 #[.val (.long p0), .second, .val (.long p1), .second, .val (.int p2), .val (.long p0), .second, .val (.ref a30), .val (.ref a34), .val (.int (p2 &&& (3 : Int32))), .val (.int (1 : Int32)), .val (.int (1 : Int32)), .unset] [(.int (1 : Int32))])) (fun tz kz => kz) ?_
      refine own_via (F' := T41.setTop (mkF m 78 #[.val (.long p0), .second, .val (.long p1), .second, .val (.int p2), .val (.long p0), .second, .val (.ref a30), .val (.ref a34), .val (.int (p2 &&& (3 : Int32))), .val (.int (1 : Int32)), .val (.int (1 : Int32)), .val (.int (1 : Int32))] [])) (fun tz kz => XS.istore X41.here hx rfl (hb hby at_76) rfl (l' := #[.val (.long p0), .second, .val (.long p1), .second, .val (.int p2), .val (.long p0), .second, .val (.ref a30), .val (.ref a34), .val (.int (p2 &&& (3 : Int32))), .val (.int (1 : Int32)), .val (.int (1 : Int32)), .val (.int (1 : Int32))]) rfl kz) ?_
      refine own_via (F' := T41.setTop (mkF m 80 #[.val (.long p0), .second, .val (.long p1), .second, .val (.int p2), .val (.long p0), .second, .val (.ref a30), .val (.ref a34), .val (.int (p2 &&& (3 : Int32))), .val (.int (1 : Int32)), .val (.int (1 : Int32)), .val (.int (1 : Int32))] [(.int (1 : Int32))])) (fun tz kz => XS.iload X41.here hx rfl (hb hby at_78) rfl kz) ?_
      refine own_via (F' := T41.setTop (mkF m 82 #[.val (.long p0), .second, .val (.long p1), .second, .val (.int p2), .val (.long p0), .second, .val (.ref a30), .val (.ref a34), .val (.int (p2 &&& (3 : Int32))), .val (.int (1 : Int32)), .val (.int (1 : Int32)), .val (.int (1 : Int32))] [(.int (1 : Int32)), (.int (1 : Int32))])) (fun tz kz => XS.iload X41.here hx rfl (hb hby at_80) rfl kz) ?_
      refine own_via (F' := T41.setTop (mkF m 85 #[.val (.long p0), .second, .val (.long p1), .second, .val (.int p2), .val (.long p0), .second, .val (.ref a30), .val (.ref a34), .val (.int (p2 &&& (3 : Int32))), .val (.int (1 : Int32)), .val (.int (1 : Int32)), .val (.int (1 : Int32))] [])) (fun tz kz => XS.icmpNo X41.here hx rfl (hb hby at_82) rfl (XT.ii_ne_f (by decide)) kz) ?_
      refine own_via (F' := T41.setTop (mkF m 87 #[.val (.long p0), .second, .val (.long p1), .second, .val (.int p2), .val (.long p0), .second, .val (.ref a30), .val (.ref a34), .val (.int (p2 &&& (3 : Int32))), .val (.int (1 : Int32)), .val (.int (1 : Int32)), .val (.int (1 : Int32))] [(.int (1 : Int32))])) (fun tz kz => XS.iload X41.here hx rfl (hb hby at_85) rfl kz) ?_
      refine own_via (F' := T41.setTop (mkF m 89 #[.val (.long p0), .second, .val (.long p1), .second, .val (.int p2), .val (.long p0), .second, .val (.ref a30), .val (.ref a34), .val (.int (p2 &&& (3 : Int32))), .val (.int (1 : Int32)), .val (.int (1 : Int32)), .val (.int (1 : Int32))] [(.int (1 : Int32)), (.int (1 : Int32))])) (fun tz kz => XS.iload X41.here hx rfl (hb hby at_87) rfl kz) ?_
      refine own_via (F' := T41.setTop (mkF m 92 #[.val (.long p0), .second, .val (.long p1), .second, .val (.int p2), .val (.long p0), .second, .val (.ref a30), .val (.ref a34), .val (.int (p2 &&& (3 : Int32))), .val (.int (1 : Int32)), .val (.int (1 : Int32)), .val (.int (1 : Int32))] [])) (fun tz kz => XS.icmpNo X41.here hx rfl (hb hby at_89) rfl (XT.ii_ne_f (by decide)) kz) ?_
      refine own_via (F' := T41.setTop (mkF m 93 #[.val (.long p0), .second, .val (.long p1), .second, .val (.int p2), .val (.long p0), .second, .val (.ref a30), .val (.ref a34), .val (.int (p2 &&& (3 : Int32))), .val (.int (1 : Int32)), .val (.int (1 : Int32)), .val (.int (1 : Int32))] [(.int (1 : Int32))])) (fun tz kz => XT.iconstV X41.here hx rfl (1 : Int32) (hb hby at_92) (by decide) kz) ?_
      refine own_via (F' := T41.setTop (mkF m 97 #[.val (.long p0), .second, .val (.long p1), .second, .val (.int p2), .val (.long p0), .second, .val (.ref a30), .val (.ref a34), .val (.int (p2 &&& (3 : Int32))), .val (.int (1 : Int32)), .val (.int (1 : Int32)), .val (.int (1 : Int32))] [(.int (1 : Int32))])) (fun tz kz => XS.goto X41.here hx rfl (pc0 := 93) (pc' := 97) rfl (hb hby at_93) (by decide) (by decide) kz) ?_
      exact own_retZ X41 hx hret hlk (hb hby at_97) ⟨rfl, (Fr.app (Fr.app (Fr.app (Fr.app (Fr.nil n0) M32) M36) (Fr.nil _)) (Fr.nil _))⟩ (by decide) (by decide)
    · refine own_via (F' := T36.setTop (mkF m 98 #[.val (.long p0), .second, .val (.long p1), .second, .val (.int p2), .val (.long p0), .second, .val (.ref a30), .val (.ref a34), .val (.int (p2 &&& (3 : Int32))), .unset, .unset, .unset] [])) (fun tz kz => XS.ifYes X36.here hx rfl (pc0 := 43) (pc' := 98) rfl (hb hby at_43) rfl (XT.i0_ne_t q37) (by decide) (by decide) kz) ?_
      refine own_via (F' := T36.setTop (mkF m 100 #[.val (.long p0), .second, .val (.long p1), .second, .val (.int p2), .val (.long p0), .second, .val (.ref a30), .val (.ref a34), .val (.int (p2 &&& (3 : Int32))), .unset, .unset, .unset] [(.int (p2 &&& (3 : Int32)))])) (fun tz kz => XS.iload X36.here hx rfl (hb hby at_98) rfl kz) ?_
      refine own_via (F' := T36.setTop (mkF m 101 #[.val (.long p0), .second, .val (.long p1), .second, .val (.int p2), .val (.long p0), .second, .val (.ref a30), .val (.ref a34), .val (.int (p2 &&& (3 : Int32))), .unset, .unset, .unset] [(.int (1 : Int32)), (.int (p2 &&& (3 : Int32)))])) (fun tz kz => XT.iconstV X36.here hx rfl (1 : Int32) (hb hby at_100) (by decide) kz) ?_
      by_cases q42 : (p2 &&& (3 : Int32)) = (1 : Int32)
      · refine own_via (F' := T36.setTop (mkF m 104 #[.val (.long p0), .second, .val (.long p1), .second, .val (.int p2), .val (.long p0), .second, .val (.ref a30), .val (.ref a34), .val (.int (p2 &&& (3 : Int32))), .unset, .unset, .unset] [])) (fun tz kz => XS.icmpNo X36.here hx rfl (hb hby at_101) rfl (XT.ii_ne_f q42) kz) ?_
        refine own_via (F' := T36.setTop (mkF m 106 #[.val (.long p0), .second, .val (.long p1), .second, .val (.int p2), .val (.long p0), .second, .val (.ref a30), .val (.ref a34), .val (.int (p2 &&& (3 : Int32))), .unset, .unset, .unset] [(.ref a30)])) (fun tz kz => XS.aload X36.here hx rfl (hb hby at_104) rfl rfl kz) ?_
        refine own_via (F' := T36.setTop (mkF m 107 #[.val (.long p0), .second, .val (.long p1), .second, .val (.int p2), .val (.long p0), .second, .val (.ref a30), .val (.ref a34), .val (.int (p2 &&& (3 : Int32))), .unset, .unset, .unset] [.null, (.ref a30)])) (fun tz kz => XS.aconstNull X36.here hx rfl (hb hby at_106) kz) ?_
        have f44 := ((E32.ext E34).keep K36)
        refine own_callV X36 hx hZ (own_kz l Z az hw a30 T36.heap) hown f44 (hw _ (List.mem_of_getElem? (i := 11) rfl)) (hw _ (List.mem_of_getElem? (i := 12) rfl)) (hw _ (List.mem_of_getElem? (i := 14) rfl)) (hw _ (List.mem_of_getElem? (i := 13) rfl)) (hw _ (List.mem_of_getElem? (i := 2) rfl)) (hw _ (List.mem_of_getElem? (i := 15) rfl)) (notFace_of_selects (args := #[]) (mvT hZ (hw _ (List.mem_of_getElem? (i := 14) rfl)))) (by decide) rfl (g := (mkF m 107 #[.val (.long p0), .second, .val (.long p1), .second, .val (.int p2), .val (.long p0), .second, .val (.ref a30), .val (.ref a34), .val (.int (p2 &&& (3 : Int32))), .unset, .unset, .unset] [.null, (.ref a30)])) rfl (by rw [hml]; rfl) (argsL := [.null]) (rest := []) rfl (lenOf own_pd2 rfl) rfl 0 (by show 2 * 0 + _ ≤ _; exact Nat.le_of_eq rfl) (hb hby at_107) (by decide) (by decide) (by decide) (by decide) ?_
        intro v43 T43 L43 hQ43 X43
        obtain ⟨rfl, e43, rfl⟩ := hQ43
        refine own_via (F' := T43.setTop (mkF m 110 #[.val (.long p0), .second, .val (.long p1), .second, .val (.int p2), .val (.long p0), .second, .val (.ref a30), .val (.ref a34), .val (.int (p2 &&& (3 : Int32))), .unset, .unset, .unset] [(.int (0 : Int32))])) (fun tz kz => kz) ?_
        refine own_via (F' := T43.setTop (mkF m 113 #[.val (.long p0), .second, .val (.long p1), .second, .val (.int p2), .val (.long p0), .second, .val (.ref a30), .val (.ref a34), .val (.int (p2 &&& (3 : Int32))), .unset, .unset, .unset] [])) (fun tz kz => XS.ifNo X43.here hx rfl (hb hby at_110) rfl (XT.i0_ne_f (by decide)) kz) ?_
        refine own_via (F' := T43.setTop (mkF m 114 #[.val (.long p0), .second, .val (.long p1), .second, .val (.int p2), .val (.long p0), .second, .val (.ref a30), .val (.ref a34), .val (.int (p2 &&& (3 : Int32))), .unset, .unset, .unset] [(.int (1 : Int32))])) (fun tz kz => XT.iconstV X43.here hx rfl (1 : Int32) (hb hby at_113) (by decide) kz) ?_
        refine own_via (F' := T43.setTop (mkF m 118 #[.val (.long p0), .second, .val (.long p1), .second, .val (.int p2), .val (.long p0), .second, .val (.ref a30), .val (.ref a34), .val (.int (p2 &&& (3 : Int32))), .unset, .unset, .unset] [(.int (1 : Int32))])) (fun tz kz => XS.goto X43.here hx rfl (pc0 := 114) (pc' := 118) rfl (hb hby at_114) (by decide) (by decide) kz) ?_
        exact own_retZ X43 hx hret hlk (hb hby at_118) ⟨rfl, (Fr.app (Fr.app (Fr.app (Fr.nil n0) M32) M36) (Fr.nil _))⟩ (by decide) (by decide)
      · refine own_via (F' := T36.setTop (mkF m 119 #[.val (.long p0), .second, .val (.long p1), .second, .val (.int p2), .val (.long p0), .second, .val (.ref a30), .val (.ref a34), .val (.int (p2 &&& (3 : Int32))), .unset, .unset, .unset] [])) (fun tz kz => XS.icmpYes X36.here hx rfl (pc0 := 101) (pc' := 119) rfl (hb hby at_101) rfl (XT.ii_ne_t q42) (by decide) (by decide) kz) ?_
        refine own_via (F' := T36.setTop (mkF m 121 #[.val (.long p0), .second, .val (.long p1), .second, .val (.int p2), .val (.long p0), .second, .val (.ref a30), .val (.ref a34), .val (.int (p2 &&& (3 : Int32))), .unset, .unset, .unset] [(.int (p2 &&& (3 : Int32)))])) (fun tz kz => XS.iload X36.here hx rfl (hb hby at_119) rfl kz) ?_
        refine own_via (F' := T36.setTop (mkF m 122 #[.val (.long p0), .second, .val (.long p1), .second, .val (.int p2), .val (.long p0), .second, .val (.ref a30), .val (.ref a34), .val (.int (p2 &&& (3 : Int32))), .unset, .unset, .unset] [(.int (2 : Int32)), (.int (p2 &&& (3 : Int32)))])) (fun tz kz => XT.iconstV X36.here hx rfl (2 : Int32) (hb hby at_121) (by decide) kz) ?_
        by_cases q45 : (p2 &&& (3 : Int32)) = (2 : Int32)
        · refine own_via (F' := T36.setTop (mkF m 125 #[.val (.long p0), .second, .val (.long p1), .second, .val (.int p2), .val (.long p0), .second, .val (.ref a30), .val (.ref a34), .val (.int (p2 &&& (3 : Int32))), .unset, .unset, .unset] [])) (fun tz kz => XS.icmpNo X36.here hx rfl (hb hby at_122) rfl (XT.ii_ne_f q45) kz) ?_
          refine own_via (F' := T36.setTop (mkF m 126 #[.val (.long p0), .second, .val (.long p1), .second, .val (.int p2), .val (.long p0), .second, .val (.ref a30), .val (.ref a34), .val (.int (p2 &&& (3 : Int32))), .unset, .unset, .unset] [(.long p0)])) (fun tz kz => XT.lloadN X36.here hx rfl (hb hby at_125) rfl kz) ?_
          have f46 := ((f33.ext E34).keep K36 (allS G34 all0))
          refine own_callS X36 hx hZ (own_kv l Z az hw p0 T36.heap n0 f46 ca cc vl SC BX) hown (hw _ (List.mem_of_getElem? (i := 18) rfl)) (hw _ (List.mem_of_getElem? (i := 19) rfl)) (hw _ (List.mem_of_getElem? (i := 20) rfl)) (hw _ (List.mem_of_getElem? (i := 21) rfl)) (by decide) rfl (g := (mkF m 126 #[.val (.long p0), .second, .val (.long p1), .second, .val (.int p2), .val (.long p0), .second, .val (.ref a30), .val (.ref a34), .val (.int (p2 &&& (3 : Int32))), .unset, .unset, .unset] [(.long p0)])) rfl (by rw [hml]; rfl) (argsL := [(.long p0)]) (rest := []) rfl (lenOf own_pd3 rfl) rfl 0 (by show 2 * 0 + _ ≤ _; exact Nat.le_of_eq rfl) (hb hby at_126) (by decide) (by decide) (by decide) (by decide) ?_
          intro v47 T47 L47 hQ47 X47
          obtain ⟨b47, rfl, M47, K47, E47⟩ := hQ47
          refine own_via (F' := T47.setTop (mkF m 129 #[.val (.long p0), .second, .val (.long p1), .second, .val (.int p2), .val (.long p0), .second, .val (.ref a30), .val (.ref a34), .val (.int (p2 &&& (3 : Int32))), .unset, .unset, .unset] [(.ref b47)])) (fun tz kz => kz) ?_
          refine own_via (F' := T47.setTop (mkF m 131 #[.val (.long p0), .second, .val (.long p1), .second, .val (.int p2), .val (.long p0), .second, .val (.ref a30), .val (.ref a34), .val (.int (p2 &&& (3 : Int32))), .val (.ref b47), .unset, .unset] [])) (fun tz kz => XS.astore X47.here hx rfl (hb hby at_129) rfl rfl (l' := #[.val (.long p0), .second, .val (.long p1), .second, .val (.int p2), .val (.long p0), .second, .val (.ref a30), .val (.ref a34), .val (.int (p2 &&& (3 : Int32))), .val (.ref b47), .unset, .unset]) rfl kz) ?_
          refine own_via (F' := T47.setTop (mkF m 133 #[.val (.long p0), .second, .val (.long p1), .second, .val (.int p2), .val (.long p0), .second, .val (.ref a30), .val (.ref a34), .val (.int (p2 &&& (3 : Int32))), .val (.ref b47), .unset, .unset] [(.ref a30)])) (fun tz kz => XS.aload X47.here hx rfl (hb hby at_131) rfl rfl kz) ?_
          refine own_via (F' := T47.setTop (mkF m 135 #[.val (.long p0), .second, .val (.long p1), .second, .val (.int p2), .val (.long p0), .second, .val (.ref a30), .val (.ref a34), .val (.int (p2 &&& (3 : Int32))), .val (.ref b47), .unset, .unset] [(.ref b47), (.ref a30)])) (fun tz kz => XS.aload X47.here hx rfl (hb hby at_133) rfl rfl kz) ?_
          have f49 := (((E32.ext E34).keep K36).keep K47)
          refine own_callV X47 hx hZ (own_ko l Z az hw a30 T47.heap b47 E47) hown f49 (hw _ (List.mem_of_getElem? (i := 11) rfl)) (hw _ (List.mem_of_getElem? (i := 12) rfl)) (hw _ (List.mem_of_getElem? (i := 14) rfl)) (hw _ (List.mem_of_getElem? (i := 13) rfl)) (hw _ (List.mem_of_getElem? (i := 2) rfl)) (hw _ (List.mem_of_getElem? (i := 15) rfl)) (notFace_of_selects (args := #[]) (mvT hZ (hw _ (List.mem_of_getElem? (i := 14) rfl)))) (by decide) rfl (g := (mkF m 135 #[.val (.long p0), .second, .val (.long p1), .second, .val (.int p2), .val (.long p0), .second, .val (.ref a30), .val (.ref a34), .val (.int (p2 &&& (3 : Int32))), .val (.ref b47), .unset, .unset] [(.ref b47), (.ref a30)])) rfl (by rw [hml]; rfl) (argsL := [(.ref b47)]) (rest := []) rfl (lenOf own_pd2 rfl) rfl 0 (by show 2 * 0 + _ ≤ _; exact Nat.le_of_eq rfl) (hb hby at_135) (by decide) (by decide) (by decide) (by decide) ?_
          intro v48 T48 L48 hQ48 X48
          obtain ⟨rfl, e48, rfl⟩ := hQ48
          refine own_via (F' := T48.setTop (mkF m 138 #[.val (.long p0), .second, .val (.long p1), .second, .val (.int p2), .val (.long p0), .second, .val (.ref a30), .val (.ref a34), .val (.int (p2 &&& (3 : Int32))), .val (.ref b47), .unset, .unset] [(.int (0 : Int32))])) (fun tz kz => kz) ?_
          refine own_via (F' := T48.setTop (mkF m 141 #[.val (.long p0), .second, .val (.long p1), .second, .val (.int p2), .val (.long p0), .second, .val (.ref a30), .val (.ref a34), .val (.int (p2 &&& (3 : Int32))), .val (.ref b47), .unset, .unset] [])) (fun tz kz => XS.ifNo X48.here hx rfl (hb hby at_138) rfl (XT.i0_ne_f (by decide)) kz) ?_
          refine own_via (F' := T48.setTop (mkF m 142 #[.val (.long p0), .second, .val (.long p1), .second, .val (.int p2), .val (.long p0), .second, .val (.ref a30), .val (.ref a34), .val (.int (p2 &&& (3 : Int32))), .val (.ref b47), .unset, .unset] [(.int (1 : Int32))])) (fun tz kz => XT.iconstV X48.here hx rfl (1 : Int32) (hb hby at_141) (by decide) kz) ?_
          refine own_via (F' := T48.setTop (mkF m 146 #[.val (.long p0), .second, .val (.long p1), .second, .val (.int p2), .val (.long p0), .second, .val (.ref a30), .val (.ref a34), .val (.int (p2 &&& (3 : Int32))), .val (.ref b47), .unset, .unset] [(.int (1 : Int32))])) (fun tz kz => XS.goto X48.here hx rfl (pc0 := 142) (pc' := 146) rfl (hb hby at_142) (by decide) (by decide) kz) ?_
          exact own_retZ X48 hx hret hlk (hb hby at_146) ⟨rfl, (Fr.app (Fr.app (Fr.app (Fr.app (Fr.nil n0) M32) M36) M47) (Fr.nil _))⟩ (by decide) (by decide)
        · refine own_via (F' := T36.setTop (mkF m 147 #[.val (.long p0), .second, .val (.long p1), .second, .val (.int p2), .val (.long p0), .second, .val (.ref a30), .val (.ref a34), .val (.int (p2 &&& (3 : Int32))), .unset, .unset, .unset] [])) (fun tz kz => XS.icmpYes X36.here hx rfl (pc0 := 122) (pc' := 147) rfl (hb hby at_122) rfl (XT.ii_ne_t q45) (by decide) (by decide) kz) ?_
          refine own_via (F' := T36.setTop (mkF m 149 #[.val (.long p0), .second, .val (.long p1), .second, .val (.int p2), .val (.long p0), .second, .val (.ref a30), .val (.ref a34), .val (.int (p2 &&& (3 : Int32))), .unset, .unset, .unset] [(.ref a30)])) (fun tz kz => XS.aload X36.here hx rfl (hb hby at_147) rfl rfl kz) ?_
          refine own_via (F' := T36.setTop (mkF m 151 #[.val (.long p0), .second, .val (.long p1), .second, .val (.int p2), .val (.long p0), .second, .val (.ref a30), .val (.ref a34), .val (.int (p2 &&& (3 : Int32))), .unset, .unset, .unset] [(.ref a30), (.ref a30)])) (fun tz kz => XS.aload X36.here hx rfl (hb hby at_149) rfl rfl kz) ?_
          have f50 := ((E32.ext E34).keep K36)
          have f51 := ((F32.ext E34).keep K36 (ninS ne34_a30 nin0))
          refine own_callV X36 hx hZ (own_ke l Z az hw a30 a30 p0 p0 T36.heap f50 f51 f51 (1 : Int32) (if_pos rfl)) hown f50 (hw _ (List.mem_of_getElem? (i := 11) rfl)) (hw _ (List.mem_of_getElem? (i := 12) rfl)) (hw _ (List.mem_of_getElem? (i := 14) rfl)) (hw _ (List.mem_of_getElem? (i := 13) rfl)) (hw _ (List.mem_of_getElem? (i := 2) rfl)) (hw _ (List.mem_of_getElem? (i := 15) rfl)) (notFace_of_selects (args := #[]) (mvT hZ (hw _ (List.mem_of_getElem? (i := 14) rfl)))) (by decide) rfl (g := (mkF m 151 #[.val (.long p0), .second, .val (.long p1), .second, .val (.int p2), .val (.long p0), .second, .val (.ref a30), .val (.ref a34), .val (.int (p2 &&& (3 : Int32))), .unset, .unset, .unset] [(.ref a30), (.ref a30)])) rfl (by rw [hml]; rfl) (argsL := [(.ref a30)]) (rest := []) rfl (lenOf own_pd2 rfl) rfl 0 (by show 2 * 0 + _ ≤ _; exact Nat.le_of_eq rfl) (hb hby at_151) (by decide) (by decide) (by decide) (by decide) ?_
          intro v52 T52 L52 hQ52 X52
          obtain ⟨rfl, e52, rfl⟩ := hQ52
          refine own_via (F' := T52.setTop (mkF m 154 #[.val (.long p0), .second, .val (.long p1), .second, .val (.int p2), .val (.long p0), .second, .val (.ref a30), .val (.ref a34), .val (.int (p2 &&& (3 : Int32))), .unset, .unset, .unset] [(.int (1 : Int32))])) (fun tz kz => kz) ?_
          exact own_retZ X52 hx hret hlk (hb hby at_154) ⟨rfl, (Fr.app (Fr.app (Fr.app (Fr.nil n0) M32) M36) (Fr.nil _))⟩ (by decide) (by decide)
theorem own_len {Z : State} {az : Array Value} {t : Term} {cl : Cell} {a : Nat} {n : Int32} {ty : FieldType} (h : (Term.length t).eval az Z none [] Z = some (.int n)) (ev : t.eval az Z none [] Z = some (.ref a)) (A : Arr Z Z.heap a cl ty) : cl.slots.size < 2 ^ 31 ∧ cl.slots.size.toInt32 = n := by
  have ha := A.fin (Vm.Alike.refl _)
  by_cases q : cl.slots.size < 2 ^ 31
  · have e := len_f ev ha q
    rw [e] at h
    cases h
    exact ⟨q, rfl⟩
  · simp [Term.eval, ev, ha, q] at h
set_option maxRecDepth 65536 in
set_option maxHeartbeats 40000000 in
theorem own_comes {Post : Tables → Env → Array Value → State → Outcome → State → Prop} (hpost : ∀ tb e args s v u, (limb_1_1.after args s (.returned v) u = true ∧ limb_1_2.after args s (.returned v) u = true ∧ True) → FrameEnd s (.returned v) u (Jvm.fieldLocs frame_1_writes args s ++ Jvm.arrayLocs frame_1_arrays args s ++ Jvm.staticLocs frame_1_statics s) 16 128 → Post tb e args s (.returned v) u) :
    ArmFor flags0 classFile x code maxLocals ret World_1 tables_1 room_1 Calls_1 rest_1 Pre_1 Post := by
  intro l hfl _ _ p e ha hc hk s m args below hf hA hF happ hP
  obtain ⟨hcalls, hrest, hpre⟩ := hP
  obtain ⟨-, -, -, hnamed, -, -, -, hat⟩ := (Spec.applies_iff hf).mp happ
  obtain ⟨hg, hn⟩ := and_e (Cond.before_iff.mp (show (Jvm.Cond.and given_1 narrow_1).before args s = true from hpre))
  obtain ⟨h1, hg⟩ := and_e hg
  obtain ⟨u0, hg⟩ := and_e hg
  obtain ⟨u1, hg⟩ := and_e hg
  have u2 := hg
  obtain ⟨w0, w1, w2, rfl⟩ : ∃ w0 w1 w2 : Value, args = #[w0, w1, w2] := by
    have hs : args.size = 3 := by simpa [Cond.value, given_1] using h1
    obtain ⟨L⟩ := args
    match L, hs with
    | [w0, w1, w2], _ => exact ⟨w0, w1, w2, rfl⟩
  have hw := fun d (hd : d ∈ tables_1) => atoms_spec (ws := Jvm.Cond.code x code maxLocals ret :: tables_1) hat d (List.mem_cons_of_mem _ hd)
  obtain ⟨p0, e0⟩ := isL_v u0
  obtain rfl : w0 = (.long p0) := Option.some.inj e0
  obtain ⟨p1, e1⟩ := isL_v u1
  obtain rfl : w1 = (.long p1) := Option.some.inj e1
  obtain ⟨p2, e2⟩ := is_v u2
  obtain rfl : w2 = (.int p2) := Option.some.inj e2
  obtain ⟨hsets, hown0⟩ := atoms_of _ (rest_1_c_eq ▸ (show rest_1_c.before _ s = true from hrest))
  have z1 := hsets _ (List.mem_of_getElem? (i := 1) rfl)
  have z2 := Cond.before_iff.mp (hsets _ (List.mem_of_getElem? (i := 2) rfl))
  have z4 := Cond.before_iff.mp (hsets _ (List.mem_of_getElem? (i := 4) rfl))
  have z5 := Cond.before_iff.mp (hsets _ (List.mem_of_getElem? (i := 5) rfl))
  obtain ⟨ca, vca⟩ := arr_v z2
  have SC := Sta.start vca (Or.inl z1)
  obtain ⟨cc, AC⟩ := Arr.start vca z2
  obtain ⟨y1, y2⟩ := own_len (own_eqi z4) vca AC
  have BX : Bxs s ca cc "java/lang/Long" "J" 256 (fun j => .long (j - 128).toInt64) := Bxs.start (fun _ => vca) AC y1 y2 (by decide) z5 (fun X j hj hX => eqv_l (i2l_at (Term.sub_int (idx_at hj) (Term.int_eval (128)))) hX)
  obtain ⟨n, o, h1, h2, h3, _, L, rfl, ⟨rfl, N⟩, hq⟩ := own_law l s _ hw p0 p1 p2 s.heap s.heap.size (Old.start s) ca cc _ SC BX tables_1 p e ha hc hk s m _ below hf ((Spec.applies_iff_loose hf).mp happ).1 ⟨rfl, State.Warmed39.refl s, rfl⟩ trivial
  refine ⟨n, _, h1, h2, h3, hpost _ _ _ _ _ _ ⟨Cond.after_iff.mpr rfl, Cond.after_iff.mpr (eq_i res_at (Term.int_eval (1)) rfl), trivial⟩ ⟨hq.1, hq.2.1, (hq.2.2.sift fun y hy => Or.inr (N y hy)).mono (by decide) (by decide)⟩⟩
theorem main_1_1 : Claimed_1_1 := own_comes fun _ _ _ _ _ _ h hF => ⟨h.1, hF⟩
theorem main_1_2 : Claimed_1_2 := own_comes fun _ _ _ _ _ _ h hF => ⟨h.2.1, hF⟩
end Jvm.Pilot.@@N@@
namespace Jvm.Pilot.@@N@@
open Jvm Jvm.ClassFile Sem Op Lib Jvm.Free Jvm.Stand Jvm.Pilot.@@N@@.Jvm.D
/-! MADE BY PROGRAM (witnessworld.py) out of the Statement's table words and the real class files: 17 classes; the members and pool entries that the words name. The judged class is class 1, her method 1. -/
namespace start1
open Jvm.ClassFile
def u (s : String) : CpInfo := .utf8 (stringToUtf16 s)
/-- a pool by its gaps: so many unusable entries, then the entry; so many at the end -/
def gap : Nat → List CpInfo → List CpInfo
  | 0, r => r
  | n + 1, r => .unusable :: gap n r
def poolList (es : List (Nat × CpInfo)) (last : Nat) : List CpInfo := es.foldr (fun e r => gap e.1 (e.2 :: r)) (gap last [])
def pool (es : List (Nat × CpInfo)) (last : Nat) : Array CpInfo := ⟨poolList es last⟩
def fileOf (pool : Array CpInfo) (this : Nat) (attrs : Array Attribute := #[]) (ms : Array MethodInfo := #[]) (fl : Nat := 33) (sup : Nat := 0) (ifs : Array Nat := #[]) (fds : Array FieldInfo := #[]) : ClassFile where
  minorVersion := 0
  majorVersion := 65
  constantPool := pool
  accessFlags := fl
  thisClass := this
  superClass := sup
  interfaces := ifs
  fields := fds
  methods := ms
  attributes := attrs
def plain (name : String) (sup : Option ClassId) : Class where
  name := name
  kind := .ordinary
  loader := none
  accessFlags := 33
  super := sup
  interfaces := #[]
  cf := none
  fields := #[]
  methods := #[]
  instanceTypes := #[]
  staticTypes := #[]
  resolved := #[]
  callSites := []
  init := .initialized
  statics := none
  mirror := none

def pool0 : Array CpInfo := pool [(5, u "<init>"), (0, u "()V"), (1, .class_ 10), (1, u "java/lang/Object")] 113

def k0c0 : Code := { maxStack := 0, maxLocals := 1, code := object_method_1_code, exceptionTable := #[], attributes := #[] }
def k0m0 : Method := { name := "<init>", desc := "()V", sig := { parameters := [], returnType := none }, accessFlags := 1, code := some k0c0 }
/-- java/lang/Object -/
def k0 : Class := { plain "java/lang/Object" none with
  accessFlags := 33
  interfaces := #[]
  cf := some (fileOf pool0 8 #[] #[{ accessFlags := 1, nameIndex := 5, descriptorIndex := 6, attributes := #[] }] 33 0 #[] #[])
  fields := #[]
  methods := #[k0m0]
  instanceTypes := #[]
  staticTypes := #[]
  resolved := Array.replicate 124 none
  statics := none }

def pool1 : Array CpInfo := pool [(2, .class_ 4), (1, u "java/lang/Object"), (0, u "<init>"), (0, u "()V"), (0, .class_ 8), (0, u "com/example/cite4/cite4/value/LongValue"), (0, .methodref 7 10), (0, .nameAndType 5 11), (0, u "(J)V"), (0, .methodref 7 13), (0, .nameAndType 14 15), (0, u "equals"), (0, u "(Ljava/lang/Object;)Z"), (0, .methodref 17 18), (0, .class_ 19), (0, .nameAndType 20 21), (0, u "java/lang/Long"), (0, u "valueOf"), (0, u "(J)Ljava/lang/Long;"), (0, .class_ 23), (0, u "com/example/cite4/cite4/value/LongValueEqualsPinLaw"), (2, u "law"), (0, u "(JJI)Z")] 3

def k1m0 : Method := { name := "<init>", desc := "()V", sig := { parameters := [], returnType := none }, accessFlags := 1, code := none }
def k1c1 : Code := { maxStack := 4, maxLocals := 13, code := code, exceptionTable := #[], attributes := #[] }
def k1m1 : Method := { name := "law", desc := "(JJI)Z", sig := { parameters := [.long, .long, .int], returnType := some .boolean }, accessFlags := 9, code := some k1c1 }
/-- com/example/cite4/cite4/value/LongValueEqualsPinLaw -/
def k1 : Class := { plain "com/example/cite4/cite4/value/LongValueEqualsPinLaw" (some 0) with
  accessFlags := 49
  interfaces := #[]
  cf := some (fileOf pool1 22 #[] #[{ accessFlags := 1, nameIndex := 5, descriptorIndex := 6, attributes := #[] }, { accessFlags := 9, nameIndex := 26, descriptorIndex := 27, attributes := #[] }] 49 2 #[] #[])
  fields := #[]
  methods := #[k1m0, k1m1]
  instanceTypes := #[]
  staticTypes := #[]
  resolved := Array.replicate 31 none
  statics := none }

def pool2 : Array CpInfo := pool [(1, .class_ 2), (0, u "com/example/cite4/cite4/value/Value"), (0, .class_ 4), (0, u "java/lang/Object")] 5

/-- com/example/cite4/cite4/value/Value -/
def k2 : Class := { plain "com/example/cite4/cite4/value/Value" (some 0) with
  accessFlags := 1537
  interfaces := #[]
  cf := some (fileOf pool2 1 #[] #[] 1537 3 #[] #[])
  fields := #[]
  methods := #[]
  instanceTypes := #[]
  staticTypes := #[]
  resolved := Array.replicate 10 none
  statics := none }

def pool3 : Array CpInfo := pool [(1, .methodref 2 3), (0, .class_ 4), (0, .nameAndType 5 6), (0, u "java/lang/Object"), (0, u "<init>"), (0, u "()V"), (0, .fieldref 8 9), (0, .class_ 10), (0, .nameAndType 11 12), (0, u "com/example/cite4/cite4/value/LongValue"), (0, u "value"), (0, u "J"), (12, .class_ 26), (0, u "com/example/cite4/cite4/value/Value"), (0, u "(J)V"), (6, u "equals"), (0, u "(Ljava/lang/Object;)Z")] 4

def k3c0 : Code := { maxStack := 3, maxLocals := 3, code := prog_22_method_1_code, exceptionTable := #[], attributes := #[] }
def k3m0 : Method := { name := "<init>", desc := "(J)V", sig := { parameters := [.long], returnType := none }, accessFlags := 1, code := some k3c0 }
def k3c1 : Code := { maxStack := 4, maxLocals := 2, code := prog_22_method_4_code, exceptionTable := #[], attributes := #[] }
def k3m1 : Method := { name := "equals", desc := "(Ljava/lang/Object;)Z", sig := { parameters := [(.object "java/lang/Object")], returnType := some .boolean }, accessFlags := 1, code := some k3c1 }
/-- com/example/cite4/cite4/value/LongValue -/
def k3 : Class := { plain "com/example/cite4/cite4/value/LongValue" (some 0) with
  accessFlags := 33
  interfaces := #[2]
  cf := some (fileOf pool3 8 #[] #[{ accessFlags := 1, nameIndex := 5, descriptorIndex := 27, attributes := #[] }, { accessFlags := 1, nameIndex := 34, descriptorIndex := 35, attributes := #[] }] 33 2 #[25] #[{ accessFlags := 18, nameIndex := 11, descriptorIndex := 12, attributes := #[] }])
  fields := #[{ name := "value", type := .long, accessFlags := 18, slot := 0, constantValue := 0 }]
  methods := #[k3m0, k3m1]
  instanceTypes := #[.long]
  staticTypes := #[]
  resolved := Array.replicate 40 none
  statics := none }

def pool4 : Array CpInfo := pool [(1, .class_ 2), (0, u "java/io/Serializable"), (0, .class_ 4), (0, u "java/lang/Object")] 2

/-- java/io/Serializable -/
def k4 : Class := { plain "java/io/Serializable" (some 0) with
  accessFlags := 1537
  interfaces := #[]
  cf := some (fileOf pool4 1 #[] #[] 1537 3 #[] #[])
  fields := #[]
  methods := #[]
  instanceTypes := #[]
  staticTypes := #[]
  resolved := Array.replicate 7 none
  statics := none }

def pool5 : Array CpInfo := pool [(1, .methodref 2 3), (0, .class_ 4), (0, .nameAndType 5 6), (0, u "java/lang/Object"), (0, u "<init>"), (0, u "()V"), (1, .class_ 10), (1, u "java/lang/Number"), (2, .class_ 14), (0, u "java/io/Serializable"), (0, u "serialVersionUID"), (0, u "J")] 20

def k5c0 : Code := { maxStack := 1, maxLocals := 1, code := jdk_18_method_1_code, exceptionTable := #[], attributes := #[] }
def k5m0 : Method := { name := "<init>", desc := "()V", sig := { parameters := [], returnType := none }, accessFlags := 1, code := some k5c0 }
/-- java/lang/Number -/
def k5 : Class := { plain "java/lang/Number" (some 0) with
  accessFlags := 1057
  interfaces := #[4]
  cf := some (fileOf pool5 8 #[] #[{ accessFlags := 1, nameIndex := 5, descriptorIndex := 6, attributes := #[] }] 1057 2 #[13] #[{ accessFlags := 26, nameIndex := 15, descriptorIndex := 16, attributes := #[] }])
  fields := #[{ name := "serialVersionUID", type := .long, accessFlags := 26, slot := 0, constantValue := 0 }]
  methods := #[k5m0]
  instanceTypes := #[]
  staticTypes := #[.long]
  resolved := Array.replicate 37 none
  statics := none }

def pool6 : Array CpInfo := pool [(1, .class_ 2), (0, u "java/lang/Comparable"), (0, .class_ 4), (0, u "java/lang/Object")] 7

/-- java/lang/Comparable -/
def k6 : Class := { plain "java/lang/Comparable" (some 0) with
  accessFlags := 1537
  interfaces := #[]
  cf := some (fileOf pool6 1 #[] #[] 1537 3 #[] #[])
  fields := #[]
  methods := #[]
  instanceTypes := #[]
  staticTypes := #[]
  resolved := Array.replicate 12 none
  statics := none }

def pool7 : Array CpInfo := pool [(1, .class_ 2), (0, u "java/lang/constant/Constable"), (0, .class_ 4), (0, u "java/lang/Object")] 6

/-- java/lang/constant/Constable -/
def k7 : Class := { plain "java/lang/constant/Constable" (some 0) with
  accessFlags := 1537
  interfaces := #[]
  cf := some (fileOf pool7 1 #[] #[] 1537 3 #[] #[])
  fields := #[]
  methods := #[]
  instanceTypes := #[]
  staticTypes := #[]
  resolved := Array.replicate 11 none
  statics := none }

def pool8 : Array CpInfo := pool [(1, .class_ 2), (0, u "java/lang/constant/ConstantDesc"), (0, .class_ 4), (0, u "java/lang/Object")] 32

/-- java/lang/constant/ConstantDesc -/
def k8 : Class := { plain "java/lang/constant/ConstantDesc" (some 0) with
  accessFlags := 1537
  interfaces := #[]
  cf := some (fileOf pool8 1 #[] #[] 1537 3 #[] #[])
  fields := #[]
  methods := #[]
  instanceTypes := #[]
  staticTypes := #[]
  resolved := Array.replicate 37 none
  statics := none }

def pool9 : Array CpInfo := pool [(1, .class_ 2), (0, u "java/lang/Long"), (55, .nameAndType 59 60), (0, u "<init>"), (0, u "()V"), (24, u "valueOf"), (143, u "(J)Ljava/lang/Long;"), (0, .long 18446744073709551488), (1, .long 127), (1, .fieldref 235 236), (0, .class_ 237), (0, .nameAndType 238 239), (0, u "java/lang/Long$LongCache"), (0, u "cache"), (0, u "[Ljava/lang/Long;"), (0, .methodref 1 241), (0, .nameAndType 59 242), (0, u "(J)V"), (27, .methodref 271 58), (0, .class_ 272), (0, u "java/lang/Number"), (0, .fieldref 1 274), (0, .nameAndType 275 276), (0, u "value"), (0, u "J"), (84, u "TYPE"), (0, u "Ljava/lang/Class;"), (0, .class_ 364), (0, u "java/lang/Comparable"), (0, .class_ 366), (0, u "java/lang/constant/Constable"), (0, .class_ 368), (0, u "java/lang/constant/ConstantDesc"), (0, u "MIN_VALUE"), (1, u "MAX_VALUE"), (4, u "SIZE"), (0, u "I"), (1, u "BYTES"), (1, u "serialVersionUID")] 142

def k9c0 : Code := { maxStack := 4, maxLocals := 3, code := jdk_35_method_24_code, exceptionTable := #[], attributes := #[] }
def k9m0 : Method := { name := "valueOf", desc := "(J)Ljava/lang/Long;", sig := { parameters := [.long], returnType := some (.object "java/lang/Long") }, accessFlags := 9, code := some k9c0 }
def k9c1 : Code := { maxStack := 3, maxLocals := 3, code := jdk_35_method_26_code, exceptionTable := #[], attributes := #[] }
def k9m1 : Method := { name := "<init>", desc := "(J)V", sig := { parameters := [.long], returnType := none }, accessFlags := 1, code := some k9c1 }
/-- java/lang/Long -/
def k9 : Class := { plain "java/lang/Long" (some 5) with
  accessFlags := 49
  interfaces := #[6, 7, 8]
  cf := some (fileOf pool9 1 #[.nestMembers #[235]] #[{ accessFlags := 9, nameIndex := 85, descriptorIndex := 229, attributes := #[] }, { accessFlags := 1, nameIndex := 59, descriptorIndex := 242, attributes := #[] }] 49 271 #[363, 365, 367] #[{ accessFlags := 25, nameIndex := 369, descriptorIndex := 276, attributes := #[] }, { accessFlags := 25, nameIndex := 371, descriptorIndex := 276, attributes := #[] }, { accessFlags := 25, nameIndex := 361, descriptorIndex := 362, attributes := #[] }, { accessFlags := 18, nameIndex := 275, descriptorIndex := 276, attributes := #[] }, { accessFlags := 25, nameIndex := 376, descriptorIndex := 377, attributes := #[] }, { accessFlags := 25, nameIndex := 379, descriptorIndex := 377, attributes := #[] }, { accessFlags := 26, nameIndex := 381, descriptorIndex := 276, attributes := #[] }])
  fields := #[{ name := "MIN_VALUE", type := .long, accessFlags := 25, slot := 0, constantValue := 0 }, { name := "MAX_VALUE", type := .long, accessFlags := 25, slot := 1, constantValue := 0 }, { name := "TYPE", type := (.object "java/lang/Class"), accessFlags := 25, slot := 2, constantValue := 0 }, { name := "value", type := .long, accessFlags := 18, slot := 0, constantValue := 0 }, { name := "SIZE", type := .int, accessFlags := 25, slot := 3, constantValue := 0 }, { name := "BYTES", type := .int, accessFlags := 25, slot := 4, constantValue := 0 }, { name := "serialVersionUID", type := .long, accessFlags := 26, slot := 5, constantValue := 0 }]
  methods := #[k9m0, k9m1]
  instanceTypes := #[.long]
  staticTypes := #[.long, .long, (.object "java/lang/Class"), .int, .int, .long]
  resolved := Array.replicate 524 none
  statics := none }

def pool10 : Array CpInfo := pool [(2, .class_ 4), (1, u "java/lang/Object"), (0, u "<init>"), (0, u "()V"), (0, .class_ 8), (0, u "java/lang/Long"), (7, .class_ 18), (1, u "java/lang/Long$LongCache"), (0, u "$assertionsDisabled"), (0, u "Z"), (8, u "archivedCache"), (0, u "[Ljava/lang/Long;"), (7, u "cache")] 24

def k10m0 : Method := { name := "<init>", desc := "()V", sig := { parameters := [], returnType := none }, accessFlags := 2, code := none }
/-- java/lang/Long$LongCache -/
def k10 : Class := { plain "java/lang/Long$LongCache" (some 0) with
  accessFlags := 48
  interfaces := #[]
  cf := some (fileOf pool10 16 #[.nestHost 7] #[{ accessFlags := 2, nameIndex := 5, descriptorIndex := 6, attributes := #[] }] 48 2 #[] #[{ accessFlags := 24, nameIndex := 38, descriptorIndex := 30, attributes := #[] }, { accessFlags := 8, nameIndex := 29, descriptorIndex := 30, attributes := #[] }, { accessFlags := 4120, nameIndex := 19, descriptorIndex := 20, attributes := #[] }])
  fields := #[{ name := "cache", type := (.array (.object "java/lang/Long")), accessFlags := 24, slot := 0, constantValue := 0 }, { name := "archivedCache", type := (.array (.object "java/lang/Long")), accessFlags := 8, slot := 1, constantValue := 0 }, { name := "$assertionsDisabled", type := .boolean, accessFlags := 4120, slot := 2, constantValue := 0 }]
  methods := #[k10m0]
  instanceTypes := #[]
  staticTypes := #[(.array (.object "java/lang/Long")), (.array (.object "java/lang/Long")), .boolean]
  resolved := Array.replicate 63 none
  statics := some 0 }

def pool11 : Array CpInfo := pool [(1, u "java/lang/Cloneable"), (0, .class_ 1), (0, u "java/lang/Object"), (0, .class_ 3)] 3

/-- java/lang/Cloneable -/
def k11 : Class := { plain "java/lang/Cloneable" (some 0) with
  accessFlags := 1537
  interfaces := #[]
  cf := some (fileOf pool11 2 #[] #[] 1537 4 #[] #[])
  fields := #[]
  methods := #[]
  instanceTypes := #[]
  staticTypes := #[]
  resolved := Array.replicate 8 none
  statics := none }

/-- the primitive byte -/
def k12 : Class := { plain "byte" none with kind := .primitive 'B', accessFlags := 0x411 }
/-- [B -/
def k13 : Class := { plain "[B" (some 0) with kind := .array 12 .byte, interfaces := #[11, 4], accessFlags := 1041 }

/-- the primitive int -/
def k14 : Class := { plain "int" none with kind := .primitive 'I', accessFlags := 0x411 }
/-- [I -/
def k15 : Class := { plain "[I" (some 0) with kind := .array 14 .int, interfaces := #[11, 4], accessFlags := 1041 }

/-- [Ljava/lang/Long; -/
def k16 : Class := { plain "[Ljava/lang/Long;" (some 0) with kind := .array 9 (.object "java/lang/Long"), interfaces := #[11, 4], accessFlags := 1041 }

def heap : Heap := #[{ cls := 10, slots := #[.ref 1, .null, .int 0], vm := .statics 10 },
  { cls := 16, slots := #[.ref 2, .ref 3, .ref 4, .ref 5, .ref 6, .ref 7, .ref 8, .ref 9, .ref 10, .ref 11, .ref 12, .ref 13, .ref 14, .ref 15, .ref 16, .ref 17, .ref 18, .ref 19, .ref 20, .ref 21, .ref 22, .ref 23, .ref 24, .ref 25, .ref 26, .ref 27, .ref 28, .ref 29, .ref 30, .ref 31, .ref 32, .ref 33, .ref 34, .ref 35, .ref 36, .ref 37, .ref 38, .ref 39, .ref 40, .ref 41, .ref 42, .ref 43, .ref 44, .ref 45, .ref 46, .ref 47, .ref 48, .ref 49, .ref 50, .ref 51, .ref 52, .ref 53, .ref 54, .ref 55, .ref 56, .ref 57, .ref 58, .ref 59, .ref 60, .ref 61, .ref 62, .ref 63, .ref 64, .ref 65, .ref 66, .ref 67, .ref 68, .ref 69, .ref 70, .ref 71, .ref 72, .ref 73, .ref 74, .ref 75, .ref 76, .ref 77, .ref 78, .ref 79, .ref 80, .ref 81, .ref 82, .ref 83, .ref 84, .ref 85, .ref 86, .ref 87, .ref 88, .ref 89, .ref 90, .ref 91, .ref 92, .ref 93, .ref 94, .ref 95, .ref 96, .ref 97, .ref 98, .ref 99, .ref 100, .ref 101, .ref 102, .ref 103, .ref 104, .ref 105, .ref 106, .ref 107, .ref 108, .ref 109, .ref 110, .ref 111, .ref 112, .ref 113, .ref 114, .ref 115, .ref 116, .ref 117, .ref 118, .ref 119, .ref 120, .ref 121, .ref 122, .ref 123, .ref 124, .ref 125, .ref 126, .ref 127, .ref 128, .ref 129, .ref 130, .ref 131, .ref 132, .ref 133, .ref 134, .ref 135, .ref 136, .ref 137, .ref 138, .ref 139, .ref 140, .ref 141, .ref 142, .ref 143, .ref 144, .ref 145, .ref 146, .ref 147, .ref 148, .ref 149, .ref 150, .ref 151, .ref 152, .ref 153, .ref 154, .ref 155, .ref 156, .ref 157, .ref 158, .ref 159, .ref 160, .ref 161, .ref 162, .ref 163, .ref 164, .ref 165, .ref 166, .ref 167, .ref 168, .ref 169, .ref 170, .ref 171, .ref 172, .ref 173, .ref 174, .ref 175, .ref 176, .ref 177, .ref 178, .ref 179, .ref 180, .ref 181, .ref 182, .ref 183, .ref 184, .ref 185, .ref 186, .ref 187, .ref 188, .ref 189, .ref 190, .ref 191, .ref 192, .ref 193, .ref 194, .ref 195, .ref 196, .ref 197, .ref 198, .ref 199, .ref 200, .ref 201, .ref 202, .ref 203, .ref 204, .ref 205, .ref 206, .ref 207, .ref 208, .ref 209, .ref 210, .ref 211, .ref 212, .ref 213, .ref 214, .ref 215, .ref 216, .ref 217, .ref 218, .ref 219, .ref 220, .ref 221, .ref 222, .ref 223, .ref 224, .ref 225, .ref 226, .ref 227, .ref 228, .ref 229, .ref 230, .ref 231, .ref 232, .ref 233, .ref 234, .ref 235, .ref 236, .ref 237, .ref 238, .ref 239, .ref 240, .ref 241, .ref 242, .ref 243, .ref 244, .ref 245, .ref 246, .ref 247, .ref 248, .ref 249, .ref 250, .ref 251, .ref 252, .ref 253, .ref 254, .ref 255, .ref 256, .ref 257], vm := .none },
  { cls := 9, slots := #[.long (-128)], vm := .none },
  { cls := 9, slots := #[.long (-127)], vm := .none },
  { cls := 9, slots := #[.long (-126)], vm := .none },
  { cls := 9, slots := #[.long (-125)], vm := .none },
  { cls := 9, slots := #[.long (-124)], vm := .none },
  { cls := 9, slots := #[.long (-123)], vm := .none },
  { cls := 9, slots := #[.long (-122)], vm := .none },
  { cls := 9, slots := #[.long (-121)], vm := .none },
  { cls := 9, slots := #[.long (-120)], vm := .none },
  { cls := 9, slots := #[.long (-119)], vm := .none },
  { cls := 9, slots := #[.long (-118)], vm := .none },
  { cls := 9, slots := #[.long (-117)], vm := .none },
  { cls := 9, slots := #[.long (-116)], vm := .none },
  { cls := 9, slots := #[.long (-115)], vm := .none },
  { cls := 9, slots := #[.long (-114)], vm := .none },
  { cls := 9, slots := #[.long (-113)], vm := .none },
  { cls := 9, slots := #[.long (-112)], vm := .none },
  { cls := 9, slots := #[.long (-111)], vm := .none },
  { cls := 9, slots := #[.long (-110)], vm := .none },
  { cls := 9, slots := #[.long (-109)], vm := .none },
  { cls := 9, slots := #[.long (-108)], vm := .none },
  { cls := 9, slots := #[.long (-107)], vm := .none },
  { cls := 9, slots := #[.long (-106)], vm := .none },
  { cls := 9, slots := #[.long (-105)], vm := .none },
  { cls := 9, slots := #[.long (-104)], vm := .none },
  { cls := 9, slots := #[.long (-103)], vm := .none },
  { cls := 9, slots := #[.long (-102)], vm := .none },
  { cls := 9, slots := #[.long (-101)], vm := .none },
  { cls := 9, slots := #[.long (-100)], vm := .none },
  { cls := 9, slots := #[.long (-99)], vm := .none },
  { cls := 9, slots := #[.long (-98)], vm := .none },
  { cls := 9, slots := #[.long (-97)], vm := .none },
  { cls := 9, slots := #[.long (-96)], vm := .none },
  { cls := 9, slots := #[.long (-95)], vm := .none },
  { cls := 9, slots := #[.long (-94)], vm := .none },
  { cls := 9, slots := #[.long (-93)], vm := .none },
  { cls := 9, slots := #[.long (-92)], vm := .none },
  { cls := 9, slots := #[.long (-91)], vm := .none },
  { cls := 9, slots := #[.long (-90)], vm := .none },
  { cls := 9, slots := #[.long (-89)], vm := .none },
  { cls := 9, slots := #[.long (-88)], vm := .none },
  { cls := 9, slots := #[.long (-87)], vm := .none },
  { cls := 9, slots := #[.long (-86)], vm := .none },
  { cls := 9, slots := #[.long (-85)], vm := .none },
  { cls := 9, slots := #[.long (-84)], vm := .none },
  { cls := 9, slots := #[.long (-83)], vm := .none },
  { cls := 9, slots := #[.long (-82)], vm := .none },
  { cls := 9, slots := #[.long (-81)], vm := .none },
  { cls := 9, slots := #[.long (-80)], vm := .none },
  { cls := 9, slots := #[.long (-79)], vm := .none },
  { cls := 9, slots := #[.long (-78)], vm := .none },
  { cls := 9, slots := #[.long (-77)], vm := .none },
  { cls := 9, slots := #[.long (-76)], vm := .none },
  { cls := 9, slots := #[.long (-75)], vm := .none },
  { cls := 9, slots := #[.long (-74)], vm := .none },
  { cls := 9, slots := #[.long (-73)], vm := .none },
  { cls := 9, slots := #[.long (-72)], vm := .none },
  { cls := 9, slots := #[.long (-71)], vm := .none },
  { cls := 9, slots := #[.long (-70)], vm := .none },
  { cls := 9, slots := #[.long (-69)], vm := .none },
  { cls := 9, slots := #[.long (-68)], vm := .none },
  { cls := 9, slots := #[.long (-67)], vm := .none },
  { cls := 9, slots := #[.long (-66)], vm := .none },
  { cls := 9, slots := #[.long (-65)], vm := .none },
  { cls := 9, slots := #[.long (-64)], vm := .none },
  { cls := 9, slots := #[.long (-63)], vm := .none },
  { cls := 9, slots := #[.long (-62)], vm := .none },
  { cls := 9, slots := #[.long (-61)], vm := .none },
  { cls := 9, slots := #[.long (-60)], vm := .none },
  { cls := 9, slots := #[.long (-59)], vm := .none },
  { cls := 9, slots := #[.long (-58)], vm := .none },
  { cls := 9, slots := #[.long (-57)], vm := .none },
  { cls := 9, slots := #[.long (-56)], vm := .none },
  { cls := 9, slots := #[.long (-55)], vm := .none },
  { cls := 9, slots := #[.long (-54)], vm := .none },
  { cls := 9, slots := #[.long (-53)], vm := .none },
  { cls := 9, slots := #[.long (-52)], vm := .none },
  { cls := 9, slots := #[.long (-51)], vm := .none },
  { cls := 9, slots := #[.long (-50)], vm := .none },
  { cls := 9, slots := #[.long (-49)], vm := .none },
  { cls := 9, slots := #[.long (-48)], vm := .none },
  { cls := 9, slots := #[.long (-47)], vm := .none },
  { cls := 9, slots := #[.long (-46)], vm := .none },
  { cls := 9, slots := #[.long (-45)], vm := .none },
  { cls := 9, slots := #[.long (-44)], vm := .none },
  { cls := 9, slots := #[.long (-43)], vm := .none },
  { cls := 9, slots := #[.long (-42)], vm := .none },
  { cls := 9, slots := #[.long (-41)], vm := .none },
  { cls := 9, slots := #[.long (-40)], vm := .none },
  { cls := 9, slots := #[.long (-39)], vm := .none },
  { cls := 9, slots := #[.long (-38)], vm := .none },
  { cls := 9, slots := #[.long (-37)], vm := .none },
  { cls := 9, slots := #[.long (-36)], vm := .none },
  { cls := 9, slots := #[.long (-35)], vm := .none },
  { cls := 9, slots := #[.long (-34)], vm := .none },
  { cls := 9, slots := #[.long (-33)], vm := .none },
  { cls := 9, slots := #[.long (-32)], vm := .none },
  { cls := 9, slots := #[.long (-31)], vm := .none },
  { cls := 9, slots := #[.long (-30)], vm := .none },
  { cls := 9, slots := #[.long (-29)], vm := .none },
  { cls := 9, slots := #[.long (-28)], vm := .none },
  { cls := 9, slots := #[.long (-27)], vm := .none },
  { cls := 9, slots := #[.long (-26)], vm := .none },
  { cls := 9, slots := #[.long (-25)], vm := .none },
  { cls := 9, slots := #[.long (-24)], vm := .none },
  { cls := 9, slots := #[.long (-23)], vm := .none },
  { cls := 9, slots := #[.long (-22)], vm := .none },
  { cls := 9, slots := #[.long (-21)], vm := .none },
  { cls := 9, slots := #[.long (-20)], vm := .none },
  { cls := 9, slots := #[.long (-19)], vm := .none },
  { cls := 9, slots := #[.long (-18)], vm := .none },
  { cls := 9, slots := #[.long (-17)], vm := .none },
  { cls := 9, slots := #[.long (-16)], vm := .none },
  { cls := 9, slots := #[.long (-15)], vm := .none },
  { cls := 9, slots := #[.long (-14)], vm := .none },
  { cls := 9, slots := #[.long (-13)], vm := .none },
  { cls := 9, slots := #[.long (-12)], vm := .none },
  { cls := 9, slots := #[.long (-11)], vm := .none },
  { cls := 9, slots := #[.long (-10)], vm := .none },
  { cls := 9, slots := #[.long (-9)], vm := .none },
  { cls := 9, slots := #[.long (-8)], vm := .none },
  { cls := 9, slots := #[.long (-7)], vm := .none },
  { cls := 9, slots := #[.long (-6)], vm := .none },
  { cls := 9, slots := #[.long (-5)], vm := .none },
  { cls := 9, slots := #[.long (-4)], vm := .none },
  { cls := 9, slots := #[.long (-3)], vm := .none },
  { cls := 9, slots := #[.long (-2)], vm := .none },
  { cls := 9, slots := #[.long (-1)], vm := .none },
  { cls := 9, slots := #[.long 0], vm := .none },
  { cls := 9, slots := #[.long 1], vm := .none },
  { cls := 9, slots := #[.long 2], vm := .none },
  { cls := 9, slots := #[.long 3], vm := .none },
  { cls := 9, slots := #[.long 4], vm := .none },
  { cls := 9, slots := #[.long 5], vm := .none },
  { cls := 9, slots := #[.long 6], vm := .none },
  { cls := 9, slots := #[.long 7], vm := .none },
  { cls := 9, slots := #[.long 8], vm := .none },
  { cls := 9, slots := #[.long 9], vm := .none },
  { cls := 9, slots := #[.long 10], vm := .none },
  { cls := 9, slots := #[.long 11], vm := .none },
  { cls := 9, slots := #[.long 12], vm := .none },
  { cls := 9, slots := #[.long 13], vm := .none },
  { cls := 9, slots := #[.long 14], vm := .none },
  { cls := 9, slots := #[.long 15], vm := .none },
  { cls := 9, slots := #[.long 16], vm := .none },
  { cls := 9, slots := #[.long 17], vm := .none },
  { cls := 9, slots := #[.long 18], vm := .none },
  { cls := 9, slots := #[.long 19], vm := .none },
  { cls := 9, slots := #[.long 20], vm := .none },
  { cls := 9, slots := #[.long 21], vm := .none },
  { cls := 9, slots := #[.long 22], vm := .none },
  { cls := 9, slots := #[.long 23], vm := .none },
  { cls := 9, slots := #[.long 24], vm := .none },
  { cls := 9, slots := #[.long 25], vm := .none },
  { cls := 9, slots := #[.long 26], vm := .none },
  { cls := 9, slots := #[.long 27], vm := .none },
  { cls := 9, slots := #[.long 28], vm := .none },
  { cls := 9, slots := #[.long 29], vm := .none },
  { cls := 9, slots := #[.long 30], vm := .none },
  { cls := 9, slots := #[.long 31], vm := .none },
  { cls := 9, slots := #[.long 32], vm := .none },
  { cls := 9, slots := #[.long 33], vm := .none },
  { cls := 9, slots := #[.long 34], vm := .none },
  { cls := 9, slots := #[.long 35], vm := .none },
  { cls := 9, slots := #[.long 36], vm := .none },
  { cls := 9, slots := #[.long 37], vm := .none },
  { cls := 9, slots := #[.long 38], vm := .none },
  { cls := 9, slots := #[.long 39], vm := .none },
  { cls := 9, slots := #[.long 40], vm := .none },
  { cls := 9, slots := #[.long 41], vm := .none },
  { cls := 9, slots := #[.long 42], vm := .none },
  { cls := 9, slots := #[.long 43], vm := .none },
  { cls := 9, slots := #[.long 44], vm := .none },
  { cls := 9, slots := #[.long 45], vm := .none },
  { cls := 9, slots := #[.long 46], vm := .none },
  { cls := 9, slots := #[.long 47], vm := .none },
  { cls := 9, slots := #[.long 48], vm := .none },
  { cls := 9, slots := #[.long 49], vm := .none },
  { cls := 9, slots := #[.long 50], vm := .none },
  { cls := 9, slots := #[.long 51], vm := .none },
  { cls := 9, slots := #[.long 52], vm := .none },
  { cls := 9, slots := #[.long 53], vm := .none },
  { cls := 9, slots := #[.long 54], vm := .none },
  { cls := 9, slots := #[.long 55], vm := .none },
  { cls := 9, slots := #[.long 56], vm := .none },
  { cls := 9, slots := #[.long 57], vm := .none },
  { cls := 9, slots := #[.long 58], vm := .none },
  { cls := 9, slots := #[.long 59], vm := .none },
  { cls := 9, slots := #[.long 60], vm := .none },
  { cls := 9, slots := #[.long 61], vm := .none },
  { cls := 9, slots := #[.long 62], vm := .none },
  { cls := 9, slots := #[.long 63], vm := .none },
  { cls := 9, slots := #[.long 64], vm := .none },
  { cls := 9, slots := #[.long 65], vm := .none },
  { cls := 9, slots := #[.long 66], vm := .none },
  { cls := 9, slots := #[.long 67], vm := .none },
  { cls := 9, slots := #[.long 68], vm := .none },
  { cls := 9, slots := #[.long 69], vm := .none },
  { cls := 9, slots := #[.long 70], vm := .none },
  { cls := 9, slots := #[.long 71], vm := .none },
  { cls := 9, slots := #[.long 72], vm := .none },
  { cls := 9, slots := #[.long 73], vm := .none },
  { cls := 9, slots := #[.long 74], vm := .none },
  { cls := 9, slots := #[.long 75], vm := .none },
  { cls := 9, slots := #[.long 76], vm := .none },
  { cls := 9, slots := #[.long 77], vm := .none },
  { cls := 9, slots := #[.long 78], vm := .none },
  { cls := 9, slots := #[.long 79], vm := .none },
  { cls := 9, slots := #[.long 80], vm := .none },
  { cls := 9, slots := #[.long 81], vm := .none },
  { cls := 9, slots := #[.long 82], vm := .none },
  { cls := 9, slots := #[.long 83], vm := .none },
  { cls := 9, slots := #[.long 84], vm := .none },
  { cls := 9, slots := #[.long 85], vm := .none },
  { cls := 9, slots := #[.long 86], vm := .none },
  { cls := 9, slots := #[.long 87], vm := .none },
  { cls := 9, slots := #[.long 88], vm := .none },
  { cls := 9, slots := #[.long 89], vm := .none },
  { cls := 9, slots := #[.long 90], vm := .none },
  { cls := 9, slots := #[.long 91], vm := .none },
  { cls := 9, slots := #[.long 92], vm := .none },
  { cls := 9, slots := #[.long 93], vm := .none },
  { cls := 9, slots := #[.long 94], vm := .none },
  { cls := 9, slots := #[.long 95], vm := .none },
  { cls := 9, slots := #[.long 96], vm := .none },
  { cls := 9, slots := #[.long 97], vm := .none },
  { cls := 9, slots := #[.long 98], vm := .none },
  { cls := 9, slots := #[.long 99], vm := .none },
  { cls := 9, slots := #[.long 100], vm := .none },
  { cls := 9, slots := #[.long 101], vm := .none },
  { cls := 9, slots := #[.long 102], vm := .none },
  { cls := 9, slots := #[.long 103], vm := .none },
  { cls := 9, slots := #[.long 104], vm := .none },
  { cls := 9, slots := #[.long 105], vm := .none },
  { cls := 9, slots := #[.long 106], vm := .none },
  { cls := 9, slots := #[.long 107], vm := .none },
  { cls := 9, slots := #[.long 108], vm := .none },
  { cls := 9, slots := #[.long 109], vm := .none },
  { cls := 9, slots := #[.long 110], vm := .none },
  { cls := 9, slots := #[.long 111], vm := .none },
  { cls := 9, slots := #[.long 112], vm := .none },
  { cls := 9, slots := #[.long 113], vm := .none },
  { cls := 9, slots := #[.long 114], vm := .none },
  { cls := 9, slots := #[.long 115], vm := .none },
  { cls := 9, slots := #[.long 116], vm := .none },
  { cls := 9, slots := #[.long 117], vm := .none },
  { cls := 9, slots := #[.long 118], vm := .none },
  { cls := 9, slots := #[.long 119], vm := .none },
  { cls := 9, slots := #[.long 120], vm := .none },
  { cls := 9, slots := #[.long 121], vm := .none },
  { cls := 9, slots := #[.long 122], vm := .none },
  { cls := 9, slots := #[.long 123], vm := .none },
  { cls := 9, slots := #[.long 124], vm := .none },
  { cls := 9, slots := #[.long 125], vm := .none },
  { cls := 9, slots := #[.long 126], vm := .none },
  { cls := 9, slots := #[.long 127], vm := .none }]
def classes : Array Class := #[k0, k1, k2, k3, k4, k5, k6, k7, k8, k9, k10, k11, k12, k13, k14, k15, k16]
def interned : List (Array UInt16 × Addr) := []
def slotsUsed : Nat := 515
def theMethod : MethodId := ⟨1, 1⟩
def args0 : Array Value := #[.long 7, .long 9, .int 2]
def aboutOver (below : List Frame) : State where
  vm := { classes := classes, interned := interned.toArray }
  heap := heap
  slotsUsed := slotsUsed
  threads := #[{ frames := .invoking theMethod args0 :: below }]
def below0 : List Frame := [.native { method := ⟨0, 0⟩, args := #[] }]
def about1 : State := aboutOver below0
def p0 : Program := .bare "" "" ""
def e0 : Env := launch0.env 0 0 0
theorem w_frames : about1.frames = Frame.invoking theMethod args0 :: below0 := rfl
set_option maxRecDepth 65536 in
theorem w_args : argsFit about1.vm theMethod args0 = true := by decide +kernel
set_option maxRecDepth 65536 in
theorem w_heap : heapFits about1 = true := by decide +kernel
set_option maxRecDepth 65536 in
theorem w_runnable : about1.curStatus? = some .runnable := by decide +kernel
set_option maxRecDepth 65536 in
theorem w_alone : about1.alone = true := by decide +kernel
set_option maxRecDepth 65536 in
theorem w_named : about1.methodNamed? x = some theMethod := by decide +kernel
set_option maxRecDepth 65536 in
theorem w_hears : about1.hears theMethod below0 = true := by decide +kernel
set_option maxRecDepth 65536 in
theorem w_ripe : about1.ripe theMethod args0 below0 = true := by decide +kernel
theorem w_running : about1.status = .running := rfl
set_option maxRecDepth 65536 in
theorem w_room : about1.hasRoom e0.platform room_1 = true :=
  launch0.hasRoom_least _ room_1 (by decide +kernel) (by decide +kernel) (by decide +kernel) (by decide +kernel) (by decide +kernel) (by decide +kernel)
theorem allAtoms_all (ts : List Jvm.Cond) (a : Array Jvm.Value) (st : Jvm.State) : (allAtoms ts).before a st = ts.all (fun c => c.before a st) := by
  induction ts with
  | nil => rfl
  | cons c t ih =>
    show (Jvm.Cond.and c (allAtoms t)).before a st = _
    rw [Jvm.Cond.before_and, ih, List.all_cons]
def words1 : List Jvm.Cond := Jvm.Cond.code x code maxLocals ret :: tables_1
/-- a 'code' word, met by the world's own term for the bytes: nothing is compared byte by byte -/
theorem code_word {y : MethodName} {bytes : ByteArray} {mx : Nat} {rt : Option FieldType} {a : Array Value} {s : State} {m : MethodId} {meth : Method} {c : Code} (h1 : s.methodNamed? y = some m) (h2 : s.vm.method? m = some meth) (h3 : meth.code = some c) (h4 : c.code = bytes)
    (h5 : (c.maxLocals == mx && c.exceptionTable.isEmpty && decide (c.maxStack ≤ mostOperands) && decide (meth.sig.returnType = rt) && !meth.locks && decide (parseMethodDescriptor y.desc = some meth.sig)) = true) : (Jvm.Cond.code y bytes mx rt).before a s = true := by
  simp only [Bool.and_eq_true, beq_iff_eq, Bool.not_eq_true', decide_eq_true_eq] at h5
  obtain ⟨⟨⟨⟨⟨g1, g2⟩, g3⟩, g4⟩, g5⟩, g6⟩ := h5
  simp [Cond.before, Cond.holds, Cond.value, h1, h2, h3, h4, g1, g2, g3, g4, g5, g6]
def isCode : Jvm.Cond → Bool
  | .code _ _ _ _ => true
  | _ => false
theorem all_split {L : List Jvm.Cond} {P : Jvm.Cond → Bool} (h1 : L.all (fun c => isCode c || P c) = true) (h2 : ∀ c ∈ L.filter isCode, P c = true) : L.all P = true := by
  refine List.all_eq_true.mpr fun c hc => ?_
  have h := List.all_eq_true.mp h1 c hc
  rcases Bool.eq_false_or_eq_true (isCode c) with hi | hi
  · exact h2 c (List.mem_filter.mpr ⟨hc, hi⟩)
  · simpa [hi] using h
set_option maxRecDepth 65536 in
theorem w_c0 : (Jvm.Cond.code x code maxLocals ret).before args0 about1 = true := code_word (m := ⟨1, 1⟩) (meth := k1m1) (c := k1c1) (by decide +kernel) rfl rfl rfl (by decide +kernel)
set_option maxRecDepth 65536 in
theorem w_c1 : (Jvm.Cond.code ({ cls := "com/example/cite4/cite4/value/LongValue", name := "<init>", desc := "(J)V" } : Jvm.MethodName) prog_22_method_1_code (3 : Nat) (Option.none : Option Jvm.ClassFile.FieldType)).before args0 about1 = true := code_word (m := ⟨3, 0⟩) (meth := k3m0) (c := k3c0) (by decide +kernel) rfl rfl rfl (by decide +kernel)
set_option maxRecDepth 65536 in
theorem w_c2 : (Jvm.Cond.code ({ cls := "java/lang/Object", name := "<init>", desc := "()V" } : Jvm.MethodName) object_method_1_code (1 : Nat) (Option.none : Option Jvm.ClassFile.FieldType)).before args0 about1 = true := code_word (m := ⟨0, 0⟩) (meth := k0m0) (c := k0c0) (by decide +kernel) rfl rfl rfl (by decide +kernel)
set_option maxRecDepth 65536 in
theorem w_c3 : (Jvm.Cond.code ({ cls := "com/example/cite4/cite4/value/LongValue", name := "equals", desc := "(Ljava/lang/Object;)Z" } : Jvm.MethodName) prog_22_method_4_code (2 : Nat) (Option.some Jvm.ClassFile.FieldType.boolean)).before args0 about1 = true := code_word (m := ⟨3, 1⟩) (meth := k3m1) (c := k3c1) (by decide +kernel) rfl rfl rfl (by decide +kernel)
set_option maxRecDepth 65536 in
theorem w_c4 : (Jvm.Cond.code ({ cls := "java/lang/Long", name := "valueOf", desc := "(J)Ljava/lang/Long;" } : Jvm.MethodName) jdk_35_method_24_code (3 : Nat) (Option.some (Jvm.ClassFile.FieldType.object "java/lang/Long"))).before args0 about1 = true := code_word (m := ⟨9, 0⟩) (meth := k9m0) (c := k9c0) (by decide +kernel) rfl rfl rfl (by decide +kernel)
set_option maxRecDepth 65536 in
theorem w_c5 : (Jvm.Cond.code ({ cls := "java/lang/Long", name := "<init>", desc := "(J)V" } : Jvm.MethodName) jdk_35_method_26_code (3 : Nat) (Option.none : Option Jvm.ClassFile.FieldType)).before args0 about1 = true := code_word (m := ⟨9, 1⟩) (meth := k9m1) (c := k9c1) (by decide +kernel) rfl rfl rfl (by decide +kernel)
set_option maxRecDepth 65536 in
theorem w_c6 : (Jvm.Cond.code ({ cls := "java/lang/Number", name := "<init>", desc := "()V" } : Jvm.MethodName) jdk_18_method_1_code (1 : Nat) (Option.none : Option Jvm.ClassFile.FieldType)).before args0 about1 = true := code_word (m := ⟨5, 0⟩) (meth := k5m0) (c := k5c0) (by decide +kernel) rfl rfl rfl (by decide +kernel)
def codes1 : List Jvm.Cond := [Jvm.Cond.code x code maxLocals ret, Jvm.Cond.code ({ cls := "com/example/cite4/cite4/value/LongValue", name := "<init>", desc := "(J)V" } : Jvm.MethodName) prog_22_method_1_code (3 : Nat) (Option.none : Option Jvm.ClassFile.FieldType), Jvm.Cond.code ({ cls := "java/lang/Object", name := "<init>", desc := "()V" } : Jvm.MethodName) object_method_1_code (1 : Nat) (Option.none : Option Jvm.ClassFile.FieldType), Jvm.Cond.code ({ cls := "com/example/cite4/cite4/value/LongValue", name := "equals", desc := "(Ljava/lang/Object;)Z" } : Jvm.MethodName) prog_22_method_4_code (2 : Nat) (Option.some Jvm.ClassFile.FieldType.boolean), Jvm.Cond.code ({ cls := "java/lang/Long", name := "valueOf", desc := "(J)Ljava/lang/Long;" } : Jvm.MethodName) jdk_35_method_24_code (3 : Nat) (Option.some (Jvm.ClassFile.FieldType.object "java/lang/Long")), Jvm.Cond.code ({ cls := "java/lang/Long", name := "<init>", desc := "(J)V" } : Jvm.MethodName) jdk_35_method_26_code (3 : Nat) (Option.none : Option Jvm.ClassFile.FieldType), Jvm.Cond.code ({ cls := "java/lang/Number", name := "<init>", desc := "()V" } : Jvm.MethodName) jdk_18_method_1_code (1 : Nat) (Option.none : Option Jvm.ClassFile.FieldType)]
set_option maxRecDepth 65536 in
theorem codes_eq : words1.filter isCode = codes1 := rfl
theorem w_codes : ∀ c ∈ words1.filter isCode, c.before args0 about1 = true := by
  rw [codes_eq]
  intro c hc
  simp only [codes1, List.mem_cons, List.not_mem_nil, or_false] at hc
  rcases hc with rfl | rfl | rfl | rfl | rfl | rfl | rfl
  · exact w_c0
  · exact w_c1
  · exact w_c2
  · exact w_c3
  · exact w_c4
  · exact w_c5
  · exact w_c6
set_option maxRecDepth 65536 in
theorem w_t1 : (words1.take 24).all (fun c => isCode c || c.before args0 about1) = true := by decide +kernel
set_option maxRecDepth 65536 in
theorem w_t2 : (words1.drop 24).all (fun c => isCode c || c.before args0 about1) = true := by decide +kernel
theorem w_tables : (allAtoms (Jvm.Cond.code x code maxLocals ret :: tables_1)).before args0 about1 = true := by
  rw [allAtoms_all]
  show words1.all (fun c => c.before args0 about1) = true
  refine all_split ?_ w_codes
  rw [← List.take_append_drop 24 words1, List.all_append, w_t1, w_t2]
  rfl
set_option maxRecDepth 65536 in
theorem w_rest : rest_1_c.before args0 about1 = true := by decide +kernel
set_option maxRecDepth 65536 in
theorem w_case : (Jvm.Cond.and given_1 narrow_1).before args0 about1 = true := by decide +kernel
theorem w_applies : (headSpec (Jvm.Cond.code x code maxLocals ret :: tables_1) room_1).applies x e0.platform about1 = true :=
  (Spec.applies_iff w_frames).mpr ⟨w_running, w_runnable, w_alone, w_named, w_hears, w_ripe, w_room, w_tables⟩
theorem atStart : AtStart classFile x code maxLocals ret World_1 tables_1 room_1 Calls_1 rest_1 Pre_1 launch0 p0 e0 about1 theMethod args0 below0 :=
  ⟨lists_1, trivial, launch0.admits_env _ _ _, launch0.least_env, fairChoices_fair.cas, fairChoices_fair.clock, w_frames, w_args, w_heap, w_applies, trivial, w_rest, w_case⟩
end start1
theorem witness_1 : WitnessClaimed_1 := ⟨start1.p0, start1.e0, start1.about1, start1.theMethod, start1.args0, start1.below0, start1.atStart⟩
end Jvm.Pilot.@@N@@
