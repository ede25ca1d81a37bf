import JvmDerived
import JvmDerived.Pilot.@@N@@Statement
import JvmDerived.Pilot.@@N@@Code
set_option linter.unusedVariables false
set_option linter.unusedSimpArgs false
namespace Jvm.Pilot.@@N@@
open Jvm Jvm.ClassFile Sem Op Lib Jvm.Free Jvm.Stand Jvm.LawKit Jvm.RoadKit Bundle Jvm.Pilot.@@N@@.Jvm.D
theorem own_ne {a b : Nat} (h : a < b ∨ b < a) : @Ne Addr a b := h.elim (fun q => Nat.ne_of_lt q) (fun q => Nat.ne_of_gt q)
theorem own_n {a b : Nat} (h : @LT.lt Addr _ a b) : a < b := h
section Own
variable {p : Program} {l : Launch} {e : Env} {R : Room} {s : State} {m : MethodId} {args : Array Value} {below : List Frame} {meth : Method} {c : Code} {T : State} {locs : List Loc} {cells slots : Nat} {Z : State} {a0 : Array Value} {h h' : Heap} {Q : Option Value → Heap → List Loc → Prop} {C N : Nat}
/-- the run from F comes to the method's end, and Q holds of what it returns, of the heap and of the slots written -/
def own_Go (p : Program) (e : Env) (below : List Frame) (s : State) (Q : Option Value → Heap → List Loc → Prop) (C N : Nat) (F : State) : Prop :=
  ∃ s₂ o, Steps p.tables e below F s₂ ∧ s₂.status = .running ∧ Ended s₂ below o ∧ ∃ v L, o = .returned v ∧ Q v s₂.heap L ∧ FrameEnd s o s₂ L C N
theorem own_via {F F' : State} (k : ∀ t, Steps p.tables e below F' t → Steps p.tables e below F t) (h : own_Go p e below s Q C N F') : own_Go p e below s Q C N F := by
  obtain ⟨s₂, o, h1, r⟩ := h
  exact ⟨s₂, o, k _ h1, r⟩
/-- a method's contract: from the arguments as' and the heap h0 it returns, and Q holds -/
def own_Con (l : Launch) (Z : State) (y : MethodName) (bytes : ByteArray) (maxL : Nat) (ret : Option FieldType) (rm : Room) (as' : Array Value) (h0 : Heap) (Q : Option Value → Heap → List Loc → Prop) : Prop :=
  ∀ ws : List Jvm.Cond, MetFree l y (head1 (Jvm.Cond.code y bytes maxL ret :: ws) rm) (fun a U => a = as' ∧ Z.Warmed39 U.vm ∧ U.heap = h0) (fun _ _ _ _ _ => True) (fun _ U o U' => ∃ v L, o = .returned v ∧ Q v U'.heap L ∧ FrameEnd U o U' L rm.cells rm.slots)
theorem own_con {y : MethodName} {bytes : ByteArray} {maxL : Nat} {ret : Option FieldType} {rm : Room} {as' : Array Value} {h0 : Heap} (hp : plainName y.cls = true)
    (body : ∀ (p : Program) (e : Env) (s : State) (m : MethodId) (below : List Frame) (meth : Method) (c : Code) (T : State), p.tables.exec = Jvm.exec → c.code = bytes → c.maxLocals = maxL → Z.Warmed39 s.vm → s.vm.findClass y.cls = some m.cls → meth.name = y.name → meth.sig.returnType = ret → meth.locks = false →
      Stand p l e rm s m as' below meth c T [] 0 0 → T.heap = h0 → s.heap = h0 → own_Go p e below s Q rm.cells rm.slots (T.setTop (entryFrame m as' maxL))) : own_Con l Z y bytes maxL ret rm as' h0 Q := by
  intro ws
  refine MetFree.of_bodySF (plainFor_of_name hp) hisR ?_
  intro p e s m args below meth c s₁ Bd hml0 hP hK
  obtain ⟨ha, hZ, hh⟩ := hP
  subst ha
  exact body p e s m below meth c s₁ Bd.exec Bd.bytes hml0 hZ (findClass_of_methodNamed Bd.named) (name_of_methodNamed Bd.named Bd.method).1 Bd.returns Bd.notSynchronized (Stand.of_body Bd) (by rw [← hh, Bd.state]; rfl) hh
theorem own_leave (X : Stand p l e R s m args below meth c T locs cells slots) {F : JFrame} {v : Option Value} (hv : meth.sig.returnType = none → v = none) (hlk : meth.locks = false)
    (k : ∀ fs, (∀ (f : JFrame) (acts : List Action), f.method = m → f.locked = none → f.entered = [] → (doReturn e (T.setTop f) acts v).1 = T.setFrames fs) → Steps p.tables e below (T.setTop F) (T.setFrames fs))
    (hQ : Q v T.heap locs) (hc : cells ≤ C) (hn : slots ≤ N) : own_Go p e below s Q C N (T.setTop F) := by
  obtain ⟨fs, hr, hrun, hended, hW, hsame⟩ := X.leave (v := v) hv hlk
  exact ⟨_, _, k fs hr, hrun, hended, v, locs, rfl, hQ, ⟨v, rfl⟩, hW, hsame.mono hc hn⟩
theorem own_ret0 (X : Stand p l e R s m args below meth c T locs cells slots) (hx : p.tables.exec = Jvm.exec) {pc : Nat} {Ls : Array Slot} (hret : meth.sig.returnType = none) (hlk : meth.locks = false) (hd : decode c.code pc = .ok (.return_, 1))
    (hQ : Q none T.heap locs) (hc : cells ≤ C) (hn : slots ≤ N) : own_Go p e below s Q C N (T.setTop (mkF m pc Ls [])) :=
  own_leave X (fun _ => rfl) hlk (fun fs hr => X.returnOut hx hret hd hr) hQ hc hn
theorem own_retZ (X : Stand p l e R s m args below meth c T locs cells slots) (hx : p.tables.exec = Jvm.exec) {pc : Nat} {Ls : Array Slot} {z : Int32} {rest : List Value} (hret : meth.sig.returnType = some .boolean) (hlk : meth.locks = false) (hd : decode c.code pc = .ok (.ireturn, 1))
    (hQ : Q (some (.int (nar .boolean z))) T.heap locs) (hc : cells ≤ C) (hn : slots ≤ N) : own_Go p e below s Q C N (T.setTop (mkF m pc Ls (.int z :: rest))) :=
  own_leave X (fun h => by rw [hret] at h; cases h) hlk (fun fs hr => retN X hx (t := .boolean) hret (by simp) hd hr) hQ hc hn
theorem own_retI (X : Stand p l e R s m args below meth c T locs cells slots) (hx : p.tables.exec = Jvm.exec) {pc : Nat} {Ls : Array Slot} {z : Int32} {rest : List Value} (hret : meth.sig.returnType = some .int) (hlk : meth.locks = false) (hd : decode c.code pc = .ok (.ireturn, 1))
    (hQ : Q (some (.int z)) T.heap locs) (hc : cells ≤ C) (hn : slots ≤ N) : own_Go p e below s Q C N (T.setTop (mkF m pc Ls (.int z :: rest))) :=
  own_leave X (fun h => by rw [hret] at h; cases h) hlk (fun fs hr => retOut X hx (t := .int) hret rfl (Or.inl ⟨rfl, Or.inl rfl, z, rfl⟩) hd hr) hQ hc hn
theorem own_retJ (X : Stand p l e R s m args below meth c T locs cells slots) (hx : p.tables.exec = Jvm.exec) {pc : Nat} {Ls : Array Slot} {z : Int64} {rest : List Value} (hret : meth.sig.returnType = some .long) (hlk : meth.locks = false) (hd : decode c.code pc = .ok (.lreturn, 1))
    (hQ : Q (some (.long z)) T.heap locs) (hc : cells ≤ C) (hn : slots ≤ N) : own_Go p e below s Q C N (T.setTop (mkF m pc Ls (.long z :: rest))) :=
  own_leave X (fun h => by rw [hret] at h; cases h) hlk (fun fs hr => retOut X hx (t := .long) hret rfl (Or.inr (Or.inl ⟨rfl, rfl, z, rfl⟩)) hd hr) hQ hc hn
theorem own_retA (X : Stand p l e R s m args below meth c T locs cells slots) (hx : p.tables.exec = Jvm.exec) {pc : Nat} {Ls : Array Slot} {w : Value} {t : FieldType} {rest : List Value} (hret : meth.sig.returnType = some t) (ht : t.isReference = true) (hw : w.isRef = true) (hlk : meth.locks = false) (hd : decode c.code pc = .ok (.areturn, 1))
    (hQ : Q (some w) T.heap locs) (hc : cells ≤ C) (hn : slots ≤ N) : own_Go p e below s Q C N (T.setTop (mkF m pc Ls (w :: rest))) :=
  own_leave X (fun h => by rw [hret] at h; cases h) hlk (fun fs hr => retOut X hx (t := t) hret (by rcases ref_cases hw with rfl | ⟨a, rfl⟩ <;> cases t <;> first | rfl | cases ht) (Or.inr (Or.inr (Or.inr (Or.inr ⟨rfl, ht, hw⟩)))) hd hr) hQ hc hn
section Calls
variable {y z : MethodName} {bytes : ByteArray} {maxL : Nat} {ret : Option FieldType} {rm : Room} {as' : Array Value} {Qc : Option Value → Heap → List Loc → Prop} {own : String} {index : Nat} {g : JFrame} {argsL rest : List Value}
theorem own_callS (X : Stand p l e R s m args below meth c T locs cells slots) (hx : p.tables.exec = Jvm.exec) (hZ : Z.Warmed39 s.vm) (K : own_Con l Z y bytes maxL ret rm as' h Qc) (hown : s.vm.findClass own = some m.cls)
    (w1 : (Jvm.Cond.methodLink own index y).before a0 Z = true) (w2 : (Jvm.Cond.static y).before a0 Z = true) (w3 : (Jvm.Cond.initialized y.cls).before a0 Z = true) (w4 : (Jvm.Cond.code y bytes maxL ret).before a0 Z = true)
    (hy : y.cls ≠ "java/lang/invoke/MethodHandle" ∧ y.cls ≠ "java/lang/invoke/VarHandle") (eT : T.heap = h) (hg : g.method = m) (hsize : g.locals.size = c.maxLocals) (has : argsL.toArray = as')
    (hlen : ∀ sig, parseMethodDescriptor y.desc = some sig → argsL.length = sig.parameters.length) (hst : g.stack = argsL.reverse ++ rest) (W : Nat) (hW : 2 * g.monitorRoom + (rest.map fun v => v.category).sum ≤ W) (hd : decode c.code g.pc = .ok (.invokestatic index, 3))
    (hf : rm.frames + 1 ≤ R.frames) (hl : W + (maxL + 11) + rm.locals ≤ R.locals) (hc : cells + rm.cells ≤ R.cells) (hs : slots + rm.slots ≤ R.slots)
    (k : ∀ (v : Option Value) (T' : State) (L : List Loc), Qc v T'.heap L → Stand p l e R s m args below meth c T' (locs ++ L) (cells + rm.cells) (slots + rm.slots) → own_Go p e below s Q C N (T'.setTop { g with pc := g.pc + 3, stack := v.toList ++ rest })) :
    own_Go p e below s Q C N (T.setTop g) := by
  obtain ⟨v, _, ⟨T', L', k', n'⟩, -, X', ⟨Lc, hQ, l', y', z'⟩, st⟩ := Jvm.LawKit.callS X hx (y := y) hown (mvT hZ w1) (mvT hZ w2) (mvT hZ w3) (mvT hZ w4) hy (backOf (W := W) (K []) hZ w4 w3 hf hl) (g := g) hg hsize (argsL := argsL) (rest := rest) hlen hst hW hd (fun _ _ => ⟨has, eT, hc, hs⟩)
  dsimp only [Pt.U, Pt.locs, Pt.cells, Pt.slots] at X' l' y' z' st hQ
  subst l' y' z'
  exact own_via st (k v T' Lc hQ X')
theorem own_callI (X : Stand p l e R s m args below meth c T locs cells slots) (hx : p.tables.exec = Jvm.exec) (hZ : Z.Warmed39 s.vm) (K : own_Con l Z y bytes maxL none rm as' h Qc) (hown : s.vm.findClass own = some m.cls) (hy1 : y.name = "<init>")
    (w1 : (Jvm.Cond.methodLink own index y).before a0 Z = true) (w2 : (Jvm.Cond.instanceMethod y).before a0 Z = true) (w3 : (Jvm.Cond.initialized y.cls).before a0 Z = true) (w4 : (Jvm.Cond.code y bytes maxL none).before a0 Z = true)
    (hy : y.cls ≠ "java/lang/invoke/MethodHandle" ∧ y.cls ≠ "java/lang/invoke/VarHandle") (eT : T.heap = h) (hg : g.method = m) (hsize : g.locals.size = c.maxLocals) {a : Addr} (has : (.ref a :: argsL).toArray = as')
    (hlen : ∀ sig, parseMethodDescriptor y.desc = some sig → argsL.length = sig.parameters.length) (hst : g.stack = argsL.reverse ++ .ref a :: rest) (W : Nat) (hW : 2 * g.monitorRoom + (rest.map fun v => v.category).sum ≤ W) (hd : decode c.code g.pc = .ok (.invokespecial index, 3))
    (hf : rm.frames + 1 ≤ R.frames) (hl : W + (maxL + 11) + rm.locals ≤ R.locals) (hc : cells + rm.cells ≤ R.cells) (hs : slots + rm.slots ≤ R.slots)
    (k : ∀ (v : Option Value) (T' : State) (L : List Loc), Qc v T'.heap L → Stand p l e R s m args below meth c T' (locs ++ L) (cells + rm.cells) (slots + rm.slots) → own_Go p e below s Q C N (T'.setTop { g with pc := g.pc + 3, stack := v.toList ++ rest })) :
    own_Go p e below s Q C N (T.setTop g) := by
  obtain ⟨v, _, ⟨T', L', k', n'⟩, -, X', ⟨Lc, hQ, l', y', z'⟩, st⟩ := X.specialBack hx (y := y) hy1 hown (mvT hZ w1) (mvT hZ w2) (mvT hZ w4) hy (backOf (W := W) (K []) hZ w4 w3 hf hl) (g := g) hg hsize (Steps.refl _) (a := a) (argsL := argsL) (rest := rest) hlen hst hW hd (fun _ _ => ⟨has, eT, hc, hs⟩)
  dsimp only [Pt.U, Pt.locs, Pt.cells, Pt.slots] at X' l' y' z' st hQ
  subst l' y' z'
  exact own_via (fun t q => st.trans q) (k v T' Lc hQ X')
theorem own_callV (X : Stand p l e R s m args below meth c T locs cells slots) (hx : p.tables.exec = Jvm.exec) (hZ : Z.Warmed39 s.vm) (K : own_Con l Z z bytes maxL ret rm as' h Qc) (hown : s.vm.findClass own = some m.cls) {CC : String} {a : Addr} (E : Exa Z h a CC)
    (w1 : (Jvm.Cond.methodLink own index y).before a0 Z = true) (w5 : (Jvm.Cond.declares y).before a0 Z = true) (w6 : (Jvm.Cond.selects CC y z).before a0 Z = true) (w2 : (Jvm.Cond.instanceMethod z).before a0 Z = true) (w3 : (Jvm.Cond.initialized z.cls).before a0 Z = true) (w4 : (Jvm.Cond.code z bytes maxL ret).before a0 Z = true)
    (nf : NotFace s y) (hy : y.cls ≠ "java/lang/invoke/MethodHandle" ∧ y.cls ≠ "java/lang/invoke/VarHandle") (eT : T.heap = h) (hg : g.method = m) (hsize : g.locals.size = c.maxLocals) (has : (.ref a :: argsL).toArray = as')
    (hlen : ∀ sig, parseMethodDescriptor y.desc = some sig → argsL.length = sig.parameters.length) (hst : g.stack = argsL.reverse ++ .ref a :: rest) (W : Nat) (hW : 2 * g.monitorRoom + (rest.map fun v => v.category).sum ≤ W) (hd : decode c.code g.pc = .ok (.invokevirtual index, 3))
    (hf : rm.frames + 1 ≤ R.frames) (hl : W + (maxL + 11) + rm.locals ≤ R.locals) (hc : cells + rm.cells ≤ R.cells) (hs : slots + rm.slots ≤ R.slots)
    (k : ∀ (v : Option Value) (T' : State) (L : List Loc), Qc v T'.heap L → Stand p l e R s m args below meth c T' (locs ++ L) (cells + rm.cells) (slots + rm.slots) → own_Go p e below s Q C N (T'.setTop { g with pc := g.pc + 3, stack := v.toList ++ rest })) :
    own_Go p e below s Q C N (T.setTop g) := by
  obtain ⟨cB, kB, q1, q2, q3⟩ := isOf hZ eT E
  obtain ⟨v, _, ⟨T', L', k', n'⟩, -, X', ⟨Lc, hQ, l', y', z'⟩, st⟩ := X.virtualBack hx (y := y) (z := z) hown (mvT hZ w1) (mvT hZ w5) nf (mvT hZ w6) (mvT hZ w2) hy (backOf (W := W) (K []) hZ w4 w3 hf hl) q1 q3 (g := g) hg hsize (Steps.refl _) (argsL := argsL) (rest := rest) hlen hst hW hd (fun _ _ => ⟨has, eT, hc, hs⟩)
  dsimp only [Pt.U, Pt.locs, Pt.cells, Pt.slots] at X' l' y' z' st hQ
  subst l' y' z'
  exact own_via (fun t q => st.trans q) (k v T' Lc hQ X')
end Calls
theorem own_eqi {t : Term} {n : Int32} (h : (Jvm.Cond.eq t (Term.int n)).value a0 Z none Z [] = some true) : t.eval a0 Z none [] Z = some (.int n) := by
  obtain ⟨x, y, e1, e2, k1, k2⟩ := cmp_v (Or.inl h)
  have e3 : y = .int n := (Option.some.inj e2).symm
  subst e3
  obtain ⟨w, rfl⟩ := k2
  have q : (Jvm.Cond.eq t (Term.int n)).value a0 Z none Z [] = some (decide (w = n)) := by simp [Jvm.Cond.value, e1, e2]
  rw [e1, gotT q h]
theorem own_fld {t : Term} {a : Addr} {CC f d : String} {v : Value} (ev : t.eval a0 Z none [] Z = some (.ref a)) (h : (Term.field t CC f d).eval a0 Z none [] Z = some v) : Fld Z Z.heap a CC f d v :=
  Fld.start ((fld_at ev).symm.trans h)
end Own
section OwnArr
variable {p : Program} {l : Launch} {e : Env} {R : Room} {s : State} {m : MethodId} {args : Array Value} {below : List Frame} {meth : Method} {c : Code} {T : State} {locs : List Loc} {cells slots : Nat} {Z : State} {a0 : Array Value} {h h' : Heap} {a b : Nat} {ty : FieldType} {K : ClassId} {n : Nat} {f f' : Nat → Value} {ws : List Nat} {g : JFrame} {rest : List Value}
/-- at a: an array of n places of the kind ty, of the class K; place i holds f i -/
def own_A (Z : State) (h : Heap) (a : Nat) (ty : FieldType) (K : ClassId) (n : Nat) (f : Nat → Value) : Prop := ∃ c : Cell, Arr Z h a c ty ∧ c.cls = K ∧ c.slots.size = n ∧ ∀ i, i < n → c.slots[i]? = some (f i)
theorem own_A.lt (F : own_A Z h a ty K n f) : a < h.size := by obtain ⟨c, A, -⟩ := F; exact A.lt
theorem own_A.ext (F : own_A Z h a ty K n f) (E : Ext h h') : own_A Z h' a ty K n f := by obtain ⟨c, A, r⟩ := F; exact ⟨c, A.ext E, r⟩
theorem own_A.other {sl : Nat} {v : Value} (F : own_A Z h b ty K n f) (W : Wr h h' a sl v) (q : b ≠ a) : own_A Z h' b ty K n f := by obtain ⟨c, A, r⟩ := F; exact ⟨c, Arr.other W A q, r⟩
theorem own_A.keep (F : own_A Z h a ty K n f) (Kp : Keep h h' ws) (q : a ∉ ws) : own_A Z h' a ty K n f := by obtain ⟨c, A, r⟩ := F; exact ⟨c, ⟨Kp.2.1 _ _ A.1 q, A.2⟩, r⟩
theorem own_A.congr (F : own_A Z h a ty K n f) (q : ∀ i, i < n → f i = f' i) : own_A Z h a ty K n f' := by
  obtain ⟨c, A, h1, h2, h3⟩ := F
  exact ⟨c, A, h1, h2, fun i hi => by rw [h3 i hi, q i hi]⟩
theorem own_A.set {j : Nat} {v : Value} (F : own_A Z h a ty K n f) (W : Wr h h' a j v) : own_A Z h' a ty K n (fun i => if i = j then v else f i) := by
  obtain ⟨c, A, h1, h2, h3⟩ := F
  refine ⟨c.setSlot j v, Arr.same W A, h1, by rw [sz_set]; exact h2, fun i hi => ?_⟩
  obtain ⟨c', w1, w2, w3, -⟩ := W
  cases A.1.symm.trans w1
  by_cases q : i = j
  · subst q
    simp only [if_pos rfl]
    show (c.slots.setIfInBounds i v)[i]? = some v
    simp [w3]
  · simp only [if_neg q]
    show (c.slots.setIfInBounds j v)[i]? = some (f i)
    rw [Array.getElem?_setIfInBounds_ne (Ne.symm q)]
    exact h3 i hi
theorem own_nat {j : Nat} (hj : j < 2 ^ 31) : j.toInt32.toNatClampNeg = j := by
  have q : j.toInt32.toInt = j := len_toInt hj
  simp only [Int32.toNatClampNeg, q]
  omega
theorem own_lt32 {i j : Nat} (hi : i < 2 ^ 31) (hj : j < 2 ^ 31) : i.toInt32 < j.toInt32 ↔ i < j := by
  have q1 : i.toInt32.toInt = i := len_toInt hi
  have q2 : j.toInt32.toInt = j := len_toInt hj
  simp only [Int32.lt_iff_toInt_lt, q1, q2]
  omega
theorem own_inj32 {i j : Nat} (hi : i < 2 ^ 31) (hj : j < 2 ^ 31) : i.toInt32 = j.toInt32 ↔ i = j := by
  have q1 : i.toInt32.toInt = i := len_toInt hi
  have q2 : j.toInt32.toInt = j := len_toInt hj
  rw [← Int32.toInt_inj, q1, q2]
  omega
theorem own_succ (i : Nat) : i.toInt32 + (1 : Int32) = (i + 1).toInt32 := by
  show Int32.ofNat i + Int32.ofNat 1 = Int32.ofNat (i + 1)
  exact (Int32.ofNat_add i 1).symm
theorem own_pred {i : Nat} (h : 0 < i) : i.toInt32 - (1 : Int32) = (i - 1).toInt32 := by
  obtain ⟨k, rfl⟩ : ∃ k, i = k + 1 := ⟨i - 1, by omega⟩
  rw [← own_succ]
  simp
theorem own_out {k : ClassId} {cl : Cell} (hs : cl.slots.size = n) {j : Nat} (hj : j < n) (hn : n < 2 ^ 31) : ¬ (j.toInt32 < 0 ∨ cl.slots.size ≤ j.toInt32.toNatClampNeg) := by
  rw [hs]; exact idx_in hj hn
theorem own_ialoadA (X : Stand p l e R s m args below meth c T locs cells slots) (hx : p.tables.exec = Jvm.exec) (hZ : Z.Warmed39 s.vm) (eT : T.heap = h) (F : own_A Z h a .int K n f) {j : Nat} {ji : Int32} (hji : ji = j.toInt32) (hj : j < n) (hn : n < 2 ^ 31) {v : Value} (hv : f j = v)
    (hg : g.method = m) (hs : g.stack = .int ji :: .ref a :: rest) (hd : decode c.code g.pc = .ok (.iaload, 1)) : ∀ t, Steps p.tables e below (T.setTop { g with pc := g.pc + 1, stack := v :: rest }) t → Steps p.tables e below (T.setTop g) t := fun t k => by
  subst hji
  obtain ⟨cl, A, h1, h2, h3⟩ := F
  exact X.iaload hx (by rw [eT]; exact A.1) (State.isArrayOf_alike hZ.alike A.2.1) A.2.2 (own_out (k := K) h2 hj hn) (by rw [own_nat (by omega), h3 j hj, hv]) hg hs hd t k
theorem own_baloadA (X : Stand p l e R s m args below meth c T locs cells slots) (hx : p.tables.exec = Jvm.exec) (hZ : Z.Warmed39 s.vm) (eT : T.heap = h) (F : own_A Z h a .boolean K n f) {j : Nat} {ji : Int32} (hji : ji = j.toInt32) (hj : j < n) (hn : n < 2 ^ 31) {v : Value} (hv : f j = v)
    (hg : g.method = m) (hs : g.stack = .int ji :: .ref a :: rest) (hd : decode c.code g.pc = .ok (.baload, 1)) : ∀ t, Steps p.tables e below (T.setTop { g with pc := g.pc + 1, stack := v :: rest }) t → Steps p.tables e below (T.setTop g) t := fun t k => by
  subst hji
  obtain ⟨cl, A, h1, h2, h3⟩ := F
  exact X.baloadBooleans hx (by rw [eT]; exact A.1) (State.isArrayOf_alike hZ.alike A.2.1) A.2.2 (own_out (k := K) h2 hj hn) (by rw [own_nat (by omega), h3 j hj, hv]) hg hs hd t k
theorem own_aaloadA (X : Stand p l e R s m args below meth c T locs cells slots) (hx : p.tables.exec = Jvm.exec) (hZ : Z.Warmed39 s.vm) (eT : T.heap = h) (F : own_A Z h a ty K n f) (hty : ty.isReference = true) {j : Nat} {ji : Int32} (hji : ji = j.toInt32) (hj : j < n) (hn : n < 2 ^ 31) {v : Value} (hv : f j = v)
    (hg : g.method = m) (hs : g.stack = .int ji :: .ref a :: rest) (hd : decode c.code g.pc = .ok (.aaload, 1)) : ∀ t, Steps p.tables e below (T.setTop { g with pc := g.pc + 1, stack := v :: rest }) t → Steps p.tables e below (T.setTop g) t := fun t k => by
  subst hji
  obtain ⟨cl, A, h1, h2, h3⟩ := F
  exact X.aaload hx (by rw [eT]; exact A.1) (State.isArrayOf_alike hZ.alike A.2.1) hty A.2.2 (own_out (k := K) h2 hj hn) (by rw [own_nat (by omega), h3 j hj, hv]) hg hs hd t k
theorem own_lenA (X : Stand p l e R s m args below meth c T locs cells slots) (hx : p.tables.exec = Jvm.exec) (hZ : Z.Warmed39 s.vm) (eT : T.heap = h) (F : own_A Z h a ty K n f)
    (hg : g.method = m) (hs : g.stack = .ref a :: rest) (hd : decode c.code g.pc = .ok (.arraylength, 1)) : ∀ t, Steps p.tables e below (T.setTop { g with pc := g.pc + 1, stack := .int n.toInt32 :: rest }) t → Steps p.tables e below (T.setTop g) t := fun t k => by
  obtain ⟨cl, A, h1, h2, h3⟩ := F
  subst h2
  exact X.arraylength hx (by rw [eT]; exact A.1) (State.isArrayOf_alike hZ.alike A.2.1) hg hs hd t k
theorem own_iastoreA (X : Stand p l e R s m args below meth c T locs cells slots) (hx : p.tables.exec = Jvm.exec) (hZ : Z.Warmed39 s.vm) (eT : T.heap = h) (F : own_A Z h a .int K n f) {j : Nat} {ji x : Int32} (hji : ji = j.toInt32) (hj : j < n) (hn : n < 2 ^ 31)
    (hg : g.method = m) (hs : g.stack = .int x :: .int ji :: .ref a :: rest) (hd : decode c.code g.pc = .ok (.iastore, 1)) :
    ∃ T' h', Stand p l e R s m args below meth c T' (locs ++ [⟨a, j⟩]) cells slots ∧ T'.heap = h' ∧ Wr h h' a j (.int x) ∧ ∀ t, Steps p.tables e below (T'.setTop { g with pc := g.pc + 1, stack := rest }) t → Steps p.tables e below (T.setTop g) t := by
  subst hji
  obtain ⟨cl, A, h1, h2, h3⟩ := F
  have q := stI X hx hZ eT A (own_out (k := K) h2 hj hn) (x := x) hg hs hd
  rw [own_nat (show j < 2 ^ 31 by omega)] at q
  exact q
theorem own_bastoreA (X : Stand p l e R s m args below meth c T locs cells slots) (hx : p.tables.exec = Jvm.exec) (hZ : Z.Warmed39 s.vm) (eT : T.heap = h) (F : own_A Z h a .boolean K n f) {j : Nat} {ji x : Int32} (hji : ji = j.toInt32) (hj : j < n) (hn : n < 2 ^ 31)
    (hg : g.method = m) (hs : g.stack = .int x :: .int ji :: .ref a :: rest) (hd : decode c.code g.pc = .ok (.bastore, 1)) :
    ∃ T' h', Stand p l e R s m args below meth c T' (locs ++ [⟨a, j⟩]) cells slots ∧ T'.heap = h' ∧ Wr h h' a j (.int (nar .boolean x)) ∧ ∀ t, Steps p.tables e below (T'.setTop { g with pc := g.pc + 1, stack := rest }) t → Steps p.tables e below (T.setTop g) t := by
  subst hji
  obtain ⟨cl, A, h1, h2, h3⟩ := F
  have q := stZ X hx hZ eT A (own_out (k := K) h2 hj hn) (x := x) hg hs hd
  rw [own_nat (show j < 2 ^ 31 by omega)] at q
  exact q
theorem own_aastoreA (X : Stand p l e R s m args below meth c T locs cells slots) (hx : p.tables.exec = Jvm.exec) (hZ : Z.Warmed39 s.vm) (eT : T.heap = h) (F : own_A Z h a ty K n f) (hty : ty.isReference = true) {j : Nat} {ji : Int32} {v : Value} (hji : ji = j.toInt32) (hj : j < n) (hn : n < 2 ^ 31) (S : Sto Z h a v)
    (hg : g.method = m) (hs : g.stack = v :: .int ji :: .ref a :: rest) (hd : decode c.code g.pc = .ok (.aastore, 1)) :
    ∃ T' h', Stand p l e R s m args below meth c T' (locs ++ [⟨a, j⟩]) cells slots ∧ T'.heap = h' ∧ Wr h h' a j v ∧ ∀ t, Steps p.tables e below (T'.setTop { g with pc := g.pc + 1, stack := rest }) t → Steps p.tables e below (T.setTop g) t := by
  subst hji
  obtain ⟨cl, A, h1, h2, h3⟩ := F
  have q := stR X hx hZ eT A (own_out (k := K) h2 hj hn) hty S hg hs hd
  rw [own_nat (show j < 2 ^ 31 by omega)] at q
  exact q
theorem own_newA (X : Stand p l e R s m args below meth c T locs cells slots) (hx : p.tables.exec = Jvm.exec) (hZ : Z.Warmed39 s.vm) {aty : ArrayType} {CC : String} (hC : "[" ++ (newarray.typeOf aty).toString = CC) (w : (Jvm.Cond.arrayClass (newarray.typeOf aty)).before a0 Z = true) (eT : T.heap = h) {ni : Int32} (hni : ni = n.toInt32) (hn : n < 2 ^ 20) {cap : Nat} (hcap : n ≤ cap) (hc : cells + 1 ≤ R.cells) (hl : slots + cap ≤ R.slots)
    (hg : g.method = m) (hs : g.stack = .int ni :: rest) (hd : decode c.code g.pc = .ok (.newarray aty, 2)) :
    ∃ T' h' cA, Stand p l e R s m args below meth c T' locs (cells + 1) (slots + cap) ∧ T'.heap = h' ∧ Ext h h' ∧ own_A Z h' h.size (newarray.typeOf aty) cA n (fun _ => defaultValue (newarray.typeOf aty)) ∧ Exa Z h' h.size CC ∧
      ∀ t, Steps p.tables e below (T'.setTop { g with pc := g.pc + 2, stack := .ref h.size :: rest }) t → Steps p.tables e below (T.setTop g) t := by
  subst hni
  have hN : n.toInt32.toNatClampNeg = n := own_nat (by omega)
  have hnn : ¬ n.toInt32 < 0 := by
    have q : n.toInt32.toInt = n := len_toInt (by omega)
    simp only [Int32.lt_iff_toInt_lt, q, Int32.reduceToInt]; omega
  have hcb : componentBytes (newarray.typeOf aty) ≤ 8 := by cases aty <;> decide
  obtain ⟨cA, kA, comp, h1, h2, h3, X', st⟩ := X.newarrayPrim hx (mvA hZ w) hg hd hs hnn (by rw [hN]; exact Nat.le_trans (Nat.mul_le_mul (Nat.le_of_lt hn) hcb) (by decide)) hc (by rw [hN]; omega)
  subst eT
  have f1 : Z.vm.findClass CC = some cA := by rw [← hC, ← hZ.alike.findClass]; exact h1
  obtain ⟨kZ, z1, -⟩ := Vm.findClass_spec f1
  obtain ⟨k', z2, z3⟩ := hZ.alike.2.2 _ _ z1
  cases h2.symm.trans z2
  have kk : kZ.kind = .array comp (newarray.typeOf aty) := by rw [← h3, z3]
  have hcell : (T.heap.push { cls := cA, slots := Array.replicate n.toInt32.toNatClampNeg (defaultValue (newarray.typeOf aty)), vm := .none })[T.heap.size]? = some { cls := cA, slots := Array.replicate n.toInt32.toNatClampNeg (defaultValue (newarray.typeOf aty)), vm := .none } := by simp
  have A : Arr Z (T.heap.push { cls := cA, slots := Array.replicate n.toInt32.toNatClampNeg (defaultValue (newarray.typeOf aty)), vm := .none }) T.heap.size { cls := cA, slots := Array.replicate n.toInt32.toNatClampNeg (defaultValue (newarray.typeOf aty)), vm := .none } (newarray.typeOf aty) := ⟨hcell, ⟨by simp, kZ, z1, comp, kk⟩, by simp⟩
  exact ⟨_, _, cA, X'.more (Nat.le_refl _) (by rw [hN]; omega), rfl, ext_of fun a q => (Array.getElem?_push_lt q).trans (Array.getElem?_eq_getElem q).symm, ⟨_, A, rfl, by simp [hN], fun i hi => by simp [hN, hi]⟩, exa_arr A f1 rfl, st⟩
theorem own_newRA (X : Stand p l e R s m args below meth c T locs cells slots) (hx : p.tables.exec = Jvm.exec) (hZ : Z.Warmed39 s.vm) {own CC : String} {tyy : FieldType} {index : Nat} (hown : s.vm.findClass own = some m.cls) (hC : (FieldType.array tyy).toString = CC) (w1 : (Jvm.Cond.classLink own index CC).before a0 Z = true) (w2 : (Jvm.Cond.arrayOver (.array tyy)).before a0 Z = true)
    (eT : T.heap = h) {ni : Int32} (hni : ni = n.toInt32) (hn : n < 2 ^ 20) {cap : Nat} (hcap : n ≤ cap) (hb : cap * 8 ≤ 536870912) (hc : cells + 1 ≤ R.cells) (hl : slots + cap ≤ R.slots)
    (hg : g.method = m) (hs : g.stack = .int ni :: rest) (hd : decode c.code g.pc = .ok (.anewarray index, 3)) :
    ∃ T' h' cA, Stand p l e R s m args below meth c T' locs (cells + 1) (slots + cap) ∧ T'.heap = h' ∧ Ext h h' ∧ own_A Z h' h.size (.array tyy) cA n (fun _ => .null) ∧ OvrA Z cA tyy CC ∧
      ∀ t, Steps p.tables e below (T'.setTop { g with pc := g.pc + 3, stack := .ref h.size :: rest }) t → Steps p.tables e below (T.setTop g) t := by
  subst hni
  have hN : n.toInt32.toNatClampNeg = n := own_nat (by omega)
  have hnn : ¬ n.toInt32 < 0 := by
    have q : n.toInt32.toInt = n := len_toInt (by omega)
    simp only [Int32.lt_iff_toInt_lt, q, Int32.reduceToInt]; omega
  obtain ⟨T', h', cA, X', e', E', A', -, O', st⟩ := newRA X hx hZ hown hC w1 w2 eT hg hd hs hnn (cap := cap) (by rw [hN]; exact hcap) hb hc hl rfl
  refine ⟨T', h', cA, X', e', E', ⟨_, A', rfl, by rw [sz_new, hN], fun i hi => ?_⟩, O', st⟩
  simp [newA, hN, hi, defaultValue]
/-- an array of K's places takes the array at b -/
theorem own_sto {CC : String} {tyy ty' : FieldType} {K' : ClassId} {n' : Nat} (F : own_A Z h a ty K n f) (O : OvrA Z K tyy CC) (I : Ins Z h b CC true) : Sto Z h a (.ref b) := by
  obtain ⟨cl, A, h1, -, -⟩ := F
  exact Sto.ofVA A h1 O I
end OwnArr
section OwnSRs
variable {p : Program} {l : Launch} {e : Env} {R : Room} {s : State} {m : MethodId} {args : Array Value} {below : List Frame} {meth : Method} {c : Code} {T : State} {locs : List Loc} {cells slots : Nat} {Z : State} {a0 : Array Value} {h h' : Heap} {a b : Nat} {ty : FieldType} {n : Nat} {ws : List Nat} {g : JFrame} {rest : List Value}
/-- an int[] of n places, place i holds φ i -/
def own_I (Z : State) (h : Heap) (a : Nat) (n : Nat) (φ : Nat → Nat) : Prop := ∃ K, own_A Z h a .int K n (fun i => .int (φ i).toInt32)
/-- an array of arrays of ty -/
def own_R (Z : State) (h : Heap) (a : Nat) (ty : FieldType) (CC : String) (n : Nat) (f : Nat → Value) : Prop := ∃ K, own_A Z h a (.array ty) K n f ∧ OvrA Z K ty CC
/-- a boolean[] -/
def own_B (Z : State) (h : Heap) (a : Nat) (n : Nat) (β : Nat → Nat) : Prop := ∃ K, own_A Z h a .boolean K n (fun i => .int (β i).toInt32)
section One
variable {φ φ' : Nat → Nat}
theorem own_I.lt (F : own_I Z h a n φ) : a < h.size := by obtain ⟨K, F⟩ := F; exact F.lt
theorem own_I.ext (F : own_I Z h a n φ) (E : Ext h h') : own_I Z h' a n φ := by obtain ⟨K, F⟩ := F; exact ⟨K, F.ext E⟩
theorem own_I.other {sl : Nat} {v : Value} (F : own_I Z h b n φ) (W : Wr h h' a sl v) (q : b ≠ a) : own_I Z h' b n φ := by obtain ⟨K, F⟩ := F; exact ⟨K, F.other W q⟩
theorem own_I.keep (F : own_I Z h a n φ) (Kp : Keep h h' ws) (q : a ∉ ws) : own_I Z h' a n φ := by obtain ⟨K, F⟩ := F; exact ⟨K, F.keep Kp q⟩
theorem own_I.congr (F : own_I Z h a n φ) (q : ∀ i, i < n → φ i = φ' i) : own_I Z h a n φ' := by obtain ⟨K, F⟩ := F; exact ⟨K, F.congr fun i hi => by rw [q i hi]⟩
theorem own_I.set {j y : Nat} {x : Int32} (F : own_I Z h a n φ) (W : Wr h h' a j (.int x)) (hx : x = y.toInt32) : own_I Z h' a n (fun i => if i = j then y else φ i) := by
  subst hx
  obtain ⟨K, F⟩ := F
  exact ⟨K, (F.set W).congr fun i hi => by by_cases q : i = j <;> simp [q]⟩
theorem own_I.load (F : own_I Z h a n φ) (X : Stand p l e R s m args below meth c T locs cells slots) (hx : p.tables.exec = Jvm.exec) (hZ : Z.Warmed39 s.vm) (eT : T.heap = h) {j : Nat} {ji : Int32} (hji : ji = j.toInt32) (hj : j < n) (hn : n < 2 ^ 31) {v : Value} (hv : Value.int (φ j).toInt32 = v)
    (hg : g.method = m) (hs : g.stack = .int ji :: .ref a :: rest) (hd : decode c.code g.pc = .ok (.iaload, 1)) : ∀ t, Steps p.tables e below (T.setTop { g with pc := g.pc + 1, stack := v :: rest }) t → Steps p.tables e below (T.setTop g) t := by
  obtain ⟨K, F⟩ := F
  exact own_ialoadA X hx hZ eT F hji hj hn hv hg hs hd
theorem own_I.store (F : own_I Z h a n φ) (X : Stand p l e R s m args below meth c T locs cells slots) (hx : p.tables.exec = Jvm.exec) (hZ : Z.Warmed39 s.vm) (eT : T.heap = h) {j : Nat} {ji x : Int32} (hji : ji = j.toInt32) (hj : j < n) (hn : n < 2 ^ 31)
    (hg : g.method = m) (hs : g.stack = .int x :: .int ji :: .ref a :: rest) (hd : decode c.code g.pc = .ok (.iastore, 1)) :
    ∃ T' h', Stand p l e R s m args below meth c T' (locs ++ [⟨a, j⟩]) cells slots ∧ T'.heap = h' ∧ Wr h h' a j (.int x) ∧ ∀ t, Steps p.tables e below (T'.setTop { g with pc := g.pc + 1, stack := rest }) t → Steps p.tables e below (T.setTop g) t := by
  obtain ⟨K, F⟩ := F
  exact own_iastoreA X hx hZ eT F hji hj hn hg hs hd
theorem own_B.lt (F : own_B Z h a n φ) : a < h.size := by obtain ⟨K, F⟩ := F; exact F.lt
theorem own_B.ext (F : own_B Z h a n φ) (E : Ext h h') : own_B Z h' a n φ := by obtain ⟨K, F⟩ := F; exact ⟨K, F.ext E⟩
theorem own_B.other {sl : Nat} {v : Value} (F : own_B Z h b n φ) (W : Wr h h' a sl v) (q : b ≠ a) : own_B Z h' b n φ := by obtain ⟨K, F⟩ := F; exact ⟨K, F.other W q⟩
theorem own_B.keep (F : own_B Z h a n φ) (Kp : Keep h h' ws) (q : a ∉ ws) : own_B Z h' a n φ := by obtain ⟨K, F⟩ := F; exact ⟨K, F.keep Kp q⟩
theorem own_B.congr (F : own_B Z h a n φ) (q : ∀ i, i < n → φ i = φ' i) : own_B Z h a n φ' := by obtain ⟨K, F⟩ := F; exact ⟨K, F.congr fun i hi => by rw [q i hi]⟩
theorem own_B.set {j y : Nat} {x : Int32} (F : own_B Z h a n φ) (W : Wr h h' a j (.int (nar .boolean x))) (hx : nar .boolean x = y.toInt32) : own_B Z h' a n (fun i => if i = j then y else φ i) := by
  rw [hx] at W
  obtain ⟨K, F⟩ := F
  exact ⟨K, (F.set W).congr fun i hi => by by_cases q : i = j <;> simp [q]⟩
theorem own_B.load (F : own_B Z h a n φ) (X : Stand p l e R s m args below meth c T locs cells slots) (hx : p.tables.exec = Jvm.exec) (hZ : Z.Warmed39 s.vm) (eT : T.heap = h) {j : Nat} {ji : Int32} (hji : ji = j.toInt32) (hj : j < n) (hn : n < 2 ^ 31) {v : Value} (hv : Value.int (φ j).toInt32 = v)
    (hg : g.method = m) (hs : g.stack = .int ji :: .ref a :: rest) (hd : decode c.code g.pc = .ok (.baload, 1)) : ∀ t, Steps p.tables e below (T.setTop { g with pc := g.pc + 1, stack := v :: rest }) t → Steps p.tables e below (T.setTop g) t := by
  obtain ⟨K, F⟩ := F
  exact own_baloadA X hx hZ eT F hji hj hn hv hg hs hd
theorem own_B.store (F : own_B Z h a n φ) (X : Stand p l e R s m args below meth c T locs cells slots) (hx : p.tables.exec = Jvm.exec) (hZ : Z.Warmed39 s.vm) (eT : T.heap = h) {j : Nat} {ji x : Int32} (hji : ji = j.toInt32) (hj : j < n) (hn : n < 2 ^ 31)
    (hg : g.method = m) (hs : g.stack = .int x :: .int ji :: .ref a :: rest) (hd : decode c.code g.pc = .ok (.bastore, 1)) :
    ∃ T' h', Stand p l e R s m args below meth c T' (locs ++ [⟨a, j⟩]) cells slots ∧ T'.heap = h' ∧ Wr h h' a j (.int (nar .boolean x)) ∧ ∀ t, Steps p.tables e below (T'.setTop { g with pc := g.pc + 1, stack := rest }) t → Steps p.tables e below (T.setTop g) t := by
  obtain ⟨K, F⟩ := F
  exact own_bastoreA X hx hZ eT F hji hj hn hg hs hd
end One
section Two
variable {CC : String} {f f' : Nat → Value}
theorem own_R.lt (F : own_R Z h a ty CC n f) : a < h.size := by obtain ⟨K, F, -⟩ := F; exact F.lt
theorem own_R.ext (F : own_R Z h a ty CC n f) (E : Ext h h') : own_R Z h' a ty CC n f := by obtain ⟨K, F, O⟩ := F; exact ⟨K, F.ext E, O⟩
theorem own_R.other {sl : Nat} {v : Value} (F : own_R Z h b ty CC n f) (W : Wr h h' a sl v) (q : b ≠ a) : own_R Z h' b ty CC n f := by obtain ⟨K, F, O⟩ := F; exact ⟨K, F.other W q, O⟩
theorem own_R.keep (F : own_R Z h a ty CC n f) (Kp : Keep h h' ws) (q : a ∉ ws) : own_R Z h' a ty CC n f := by obtain ⟨K, F, O⟩ := F; exact ⟨K, F.keep Kp q, O⟩
theorem own_R.congr (F : own_R Z h a ty CC n f) (q : ∀ i, i < n → f i = f' i) : own_R Z h a ty CC n f' := by obtain ⟨K, F, O⟩ := F; exact ⟨K, F.congr q, O⟩
theorem own_R.set {j : Nat} {v : Value} (F : own_R Z h a ty CC n f) (W : Wr h h' a j v) : own_R Z h' a ty CC n (fun i => if i = j then v else f i) := by obtain ⟨K, F, O⟩ := F; exact ⟨K, F.set W, O⟩
theorem own_R.load (F : own_R Z h a ty CC n f) (X : Stand p l e R s m args below meth c T locs cells slots) (hx : p.tables.exec = Jvm.exec) (hZ : Z.Warmed39 s.vm) (eT : T.heap = h) {j : Nat} {ji : Int32} (hji : ji = j.toInt32) (hj : j < n) (hn : n < 2 ^ 31) {v : Value} (hv : f j = v)
    (hg : g.method = m) (hs : g.stack = .int ji :: .ref a :: rest) (hd : decode c.code g.pc = .ok (.aaload, 1)) : ∀ t, Steps p.tables e below (T.setTop { g with pc := g.pc + 1, stack := v :: rest }) t → Steps p.tables e below (T.setTop g) t := by
  obtain ⟨K, F, -⟩ := F
  exact own_aaloadA X hx hZ eT F rfl hji hj hn hv hg hs hd
theorem own_R.store (F : own_R Z h a ty CC n f) (X : Stand p l e R s m args below meth c T locs cells slots) (hx : p.tables.exec = Jvm.exec) (hZ : Z.Warmed39 s.vm) (eT : T.heap = h) {j : Nat} {ji : Int32} {v : Value} (hji : ji = j.toInt32) (hj : j < n) (hn : n < 2 ^ 31) (I : v = .null ∨ ∃ y, v = .ref y ∧ Ins Z h y CC true)
    (hg : g.method = m) (hs : g.stack = v :: .int ji :: .ref a :: rest) (hd : decode c.code g.pc = .ok (.aastore, 1)) :
    ∃ T' h', Stand p l e R s m args below meth c T' (locs ++ [⟨a, j⟩]) cells slots ∧ T'.heap = h' ∧ Wr h h' a j v ∧ ∀ t, Steps p.tables e below (T'.setTop { g with pc := g.pc + 1, stack := rest }) t → Steps p.tables e below (T.setTop g) t := by
  obtain ⟨K, F, O⟩ := F
  refine own_aastoreA X hx hZ eT F rfl hji hj hn ?_ hg hs hd
  rcases I with rfl | ⟨y, rfl, I⟩
  · exact Or.inl rfl
  · exact own_sto (ty' := ty) (K' := K) (n' := n) F O I
end Two
theorem own_dupX2 {tb : Tables} [Ours tb] {e : Env} {below : List Frame} {T target : State} {m : MethodId} {c : Code} {g : JFrame} (h : At T m c below) (hx : tb.exec = Jvm.exec) (hg : g.method = m) {x y z : Value} {rest : List Value} (hd : decode c.code g.pc = .ok (.dup_x2, 1)) (hs : g.stack = x :: y :: z :: rest) (hc : x.category = 1) (hc' : y.category = 1) (hc2 : z.category = 1)
    (hr : Steps tb e below (T.setTop { g with pc := g.pc + 1, stack := x :: y :: z :: x :: rest }) target) : Steps tb e below (T.setTop g) target := by
  subst hg
  jvm_step h [h.top, hx, hd, hs, hc, hc', hc2]
  exact hr
theorem Ins.keep' {CC : String} (F : Ins Z h a CC true) (K : Keep h h' ws) : Ins Z h' a CC true := by
  obtain ⟨c1, cT, h1, h2, h3⟩ := F
  obtain ⟨c', q1, q2, q3, -⟩ := K.2.2 _ _ h1
  exact ⟨c', cT, q1, h2, by rw [q2, q3]; exact h3⟩
end OwnSRs
/-- how many of the first N values of γ are j -/
def own_cn (γ : Nat → Nat) : Nat → Nat → Nat
  | 0, _ => 0
  | k + 1, j => own_cn γ k j + (if γ k = j then 1 else 0)
theorem own_cn_le (γ : Nat → Nat) (j : Nat) : ∀ k n, k ≤ n → own_cn γ k j ≤ own_cn γ n j := fun k n h => by
  induction n with
  | zero => obtain rfl : k = 0 := by omega
            exact Nat.le_refl _
  | succ n ih =>
    by_cases q : k = n + 1
    · subst q; exact Nat.le_refl _
    · exact Nat.le_trans (ih (by omega)) (by simp only [own_cn]; omega)
theorem own_cn_bound (γ : Nat → Nat) (j : Nat) : ∀ n, own_cn γ n j ≤ n := fun n => by
  induction n with
  | zero => exact Nat.le_refl _
  | succ n ih => simp only [own_cn]; split <;> omega
theorem own_ltI {x y : Int32} {i j : Nat} (hx : x = i.toInt32) (hy : y = j.toInt32) (hi : i < 2 ^ 31) (hj : j < 2 ^ 31) : x < y ↔ i < j := by subst hx hy; exact own_lt32 hi hj
theorem own_eqI {x y : Int32} {i j : Nat} (hx : x = i.toInt32) (hy : y = j.toInt32) (hi : i < 2 ^ 31) (hj : j < 2 ^ 31) : x = y ↔ i = j := by subst hx hy; exact own_inj32 hi hj
theorem own_add (i j : Nat) : i.toInt32 + j.toInt32 = (i + j).toInt32 := (Int32.ofNat_add i j).symm
theorem own_I.len {p : Program} {l : Launch} {e : Env} {R : Room} {s : State} {m : MethodId} {args : Array Value} {below : List Frame} {meth : Method} {c : Code} {T : State} {locs : List Loc} {cells slots : Nat} {Z : State} {h : Heap} {a : Nat} {n : Nat} {φ : Nat → Nat} {g : JFrame} {rest : List Value} (F : own_I Z h a n φ) (X : Stand p l e R s m args below meth c T locs cells slots) (hx : p.tables.exec = Jvm.exec) (hZ : Z.Warmed39 s.vm) (eT : T.heap = h)
    (hg : g.method = m) (hs : g.stack = .ref a :: rest) (hd : decode c.code g.pc = .ok (.arraylength, 1)) : ∀ t, Steps p.tables e below (T.setTop { g with pc := g.pc + 1, stack := .int n.toInt32 :: rest }) t → Steps p.tables e below (T.setTop g) t := by
  obtain ⟨K, F⟩ := F
  exact own_lenA X hx hZ eT F hg hs hd
theorem own_andN (x m : Int32) (M : Nat) (hm : m.toInt = M) : ∃ n : Nat, x &&& m = n.toInt32 ∧ n ≤ M := by
  obtain ⟨h1, h2⟩ := c_and x m (by omega)
  have r := rng32 (x &&& m)
  refine ⟨(x &&& m).toInt.toNat, Int32.toInt_inj.mp ?_, by omega⟩
  rw [len_toInt (by omega)]
  omega
theorem own_modN {n : Nat} (hn : n < 2 ^ 31) (d : Int32) (D : Nat) (hd : d.toInt = D) : n.toInt32 % d = (n % D).toInt32 := by
  have q : n.toInt32.toInt = n := len_toInt hn
  have a := (c_irem n.toInt32 d D hd).1 (by omega)
  apply Int32.toInt_inj.mp
  have z : n % D ≤ n := Nat.mod_le _ _
  rw [a, q, len_toInt (by omega)]
  exact (Int.natCast_emod n D).symm
theorem own_ushrN (x : Int32) : True := trivial
section OwnF
variable {p : Program} {l : Launch} {e : Env} {R : Room} {s : State} {m : MethodId} {args : Array Value} {below : List Frame} {meth : Method} {c : Code} {T : State} {locs : List Loc} {cells slots : Nat} {Z : State} {a0 : Array Value} {h h' : Heap} {Q : Option Value → Heap → List Loc → Prop} {C N : Nat}
theorem own_conF {y : MethodName} {bytes : ByteArray} {maxL : Nat} {ret : Option FieldType} {rm : Room} {as' : Array Value} {h0 : Heap} (hp : plainFor y = true)
    (body : ∀ (p : Program) (e : Env) (s : State) (m : MethodId) (below : List Frame) (meth : Method) (c : Code) (T : State), p.tables.exec = Jvm.exec → c.code = bytes → c.maxLocals = maxL → Z.Warmed39 s.vm → s.vm.findClass y.cls = some m.cls → meth.name = y.name → meth.sig.returnType = ret → meth.locks = false →
      Stand p l e rm s m as' below meth c T [] 0 0 → T.heap = h0 → s.heap = h0 → own_Go p e below s Q rm.cells rm.slots (T.setTop (entryFrame m as' maxL))) : own_Con l Z y bytes maxL ret rm as' h0 Q := by
  intro ws
  refine MetFree.of_bodySF hp hisR ?_
  intro p e s m args below meth c s₁ Bd hml0 hP hK
  obtain ⟨ha, hZ, hh⟩ := hP
  subst ha
  exact body p e s m below meth c s₁ Bd.exec Bd.bytes hml0 hZ (findClass_of_methodNamed Bd.named) (name_of_methodNamed Bd.named Bd.method).1 Bd.returns Bd.notSynchronized (Stand.of_body Bd) (by rw [← hh, Bd.state]; rfl) hh
/-- a call of a private method -/
theorem own_callP {y : MethodName} {bytes : ByteArray} {maxL : Nat} {ret : Option FieldType} {rm : Room} {as' : Array Value} {Qc : Option Value → Heap → List Loc → Prop} {own : String} {index : Nat} {g : JFrame} {argsL rest : List Value} (X : Stand p l e R s m args below meth c T locs cells slots) (hx : p.tables.exec = Jvm.exec) (hZ : Z.Warmed39 s.vm) (K : own_Con l Z y bytes maxL ret rm as' h Qc) (hown : s.vm.findClass own = some m.cls) {CC : String} {a : Addr} (E : Exa Z h a CC)
    (w1 : (Jvm.Cond.methodLink own index y).before a0 Z = true) (w2 : (Jvm.Cond.instanceMethod y).before a0 Z = true) (w6 : (Jvm.Cond.selects y.cls y y).before a0 Z = true) (w7 : (Jvm.Cond.privateMethod y).before a0 Z = true) (w3 : (Jvm.Cond.initialized y.cls).before a0 Z = true) (w4 : (Jvm.Cond.code y bytes maxL ret).before a0 Z = true)
    (hy : y.cls ≠ "java/lang/invoke/MethodHandle" ∧ y.cls ≠ "java/lang/invoke/VarHandle") (eT : T.heap = h) (hg : g.method = m) (hsize : g.locals.size = c.maxLocals)  (has : (.ref a :: argsL).toArray = as')
    (hlen : ∀ sig, parseMethodDescriptor y.desc = some sig → argsL.length = sig.parameters.length) (hst : g.stack = argsL.reverse ++ .ref a :: rest) (W : Nat) (hW : 2 * g.monitorRoom + (rest.map fun v => v.category).sum ≤ W) (hd : decode c.code g.pc = .ok (.invokevirtual index, 3))
    (hf : rm.frames + 1 ≤ R.frames) (hl : W + (maxL + 11) + rm.locals ≤ R.locals) (hc : cells + rm.cells ≤ R.cells) (hs : slots + rm.slots ≤ R.slots)
    (k : ∀ (v : Option Value) (T' : State) (L : List Loc), Qc v T'.heap L → Stand p l e R s m args below meth c T' (locs ++ L) (cells + rm.cells) (slots + rm.slots) → own_Go p e below s Q C N (T'.setTop { g with pc := g.pc + 3, stack := v.toList ++ rest })) :
    own_Go p e below s Q C N (T.setTop g) := by
  obtain ⟨cB, kB, q1, q2, cell, hcell, -, hst0⟩ := isOf hZ eT E
  obtain ⟨v, _, ⟨T', L', k', n'⟩, -, X', ⟨Lc, hQ, l', y', z'⟩, st⟩ := X.privateBack hx (y := y) hown (mvT hZ w1) (mvT hZ w2) (mvT hZ w6) (Jvm.Cond.privateMethod_at (args := args) (mvP hZ w7)) (mvT hZ w4) hy (backOf (W := W) (K []) hZ w4 w3 hf hl) (g := g) hg hsize (Steps.refl _) hcell (fun q e0 => by rw [e0] at hst0; cases hst0) (argsL := argsL) (rest := rest) hlen hst hW hd (fun _ _ => ⟨has, eT, hc, hs⟩)
  dsimp only [Pt.U, Pt.locs, Pt.cells, Pt.slots] at X' l' y' z' st hQ
  subst l' y' z'
  exact own_via (fun t q => st.trans q) (k v T' Lc hQ X')
end OwnF
section OwnW
variable {p : Program} {l : Launch} {e : Env} {R : Room} {s : State} {m : MethodId} {args : Array Value} {below : List Frame} {meth : Method} {c : Code} {T : State} {locs : List Loc} {cells slots : Nat} {Z : State} {a0 : Array Value} {EL : List (String × Nat)} {h h' : Heap} {Q : Option Value → Heap → List Loc → Prop} {C N : Nat} {vm0 : Vm} {k0 : Nat}
/-- the run from F comes to the method's end, whatever constants it loads -/
def own_GoW (Z : State) (EL : List (String × Nat)) (p : Program) (e : Env) (below : List Frame) (s : State) (Q : Option Value → Heap → List Loc → Prop) (C N : Nat) (F : State) : Prop :=
  ∃ s₂ o, Steps p.tables e below F s₂ ∧ s₂.status = .running ∧ Ended s₂ below o ∧ ∃ v L, o = .returned v ∧ Q v s₂.heap L ∧ CHr Z EL s.vm s.heap s₂.vm s₂.heap ∧ ReturnedEndW s o s₂ L C N
theorem own_viaW {F F' : State} (k : ∀ t, Steps p.tables e below F' t → Steps p.tables e below F t) (h : own_GoW Z EL p e below s Q C N F') : own_GoW Z EL p e below s Q C N F := by
  obtain ⟨s₂, o, h1, r⟩ := h
  exact ⟨s₂, o, k _ h1, r⟩
/-- a contract of a method that may load String constants of EL -/
def own_ConW (l : Launch) (Z : State) (EL : List (String × Nat)) (y : MethodName) (bytes : ByteArray) (maxL : Nat) (ret : Option FieldType) (rm : Room) (as' : Array Value) (h0 : Heap) (Q : Option Value → Heap → List Loc → Prop) : Prop :=
  ∀ ws : List Jvm.Cond, MetFree l y (head1 (Jvm.Cond.code y bytes maxL ret :: ws) rm) (fun a U => a = as' ∧ Z.Warmed39 U.vm ∧ U.heap = h0 ∧ CHv Z EL U.vm h0) (fun _ _ _ _ _ => True) (fun _ U o U' => ∃ v L, o = .returned v ∧ Q v U'.heap L ∧ CHr Z EL U.vm U.heap U'.vm U'.heap ∧ ReturnedEndW U o U' L rm.cells rm.slots)
theorem own_conW {y : MethodName} {bytes : ByteArray} {maxL : Nat} {ret : Option FieldType} {rm : Room} {as' : Array Value} {h0 : Heap} (hp : plainName y.cls = true)
    (body : ∀ (p : Program) (e : Env) (s : State) (m : MethodId) (below : List Frame) (meth : Method) (c : Code) (T : State), p.tables.exec = Jvm.exec → c.code = bytes → c.maxLocals = maxL → Z.Warmed39 (s.setVm s.vm).vm → (s.setVm s.vm).vm.findClass y.cls = some m.cls → meth.name = y.name → meth.sig.returnType = ret → meth.locks = false →
      Stand p l e rm (s.setVm s.vm) m as' below meth c T [] 0 0 → T.heap = h0 → s.heap = h0 → s.Since s.vm h0.size → CHr Z EL s.vm s.heap s.vm h0 → own_GoW Z EL p e below s Q rm.cells rm.slots (T.setTop (entryFrame m as' maxL))) : own_ConW l Z EL y bytes maxL ret rm as' h0 Q := by
  intro ws
  refine MetFree.of_bodySF (plainFor_of_name hp) hisR ?_
  intro p e s m args below meth c s₁ Bd hml0 hP hK
  obtain ⟨ha, hZ, hh, hC⟩ := hP
  subst ha
  exact body p e s m below meth c s₁ Bd.exec Bd.bytes hml0 hZ (findClass_of_methodNamed Bd.named) (name_of_methodNamed Bd.named Bd.method).1 Bd.returns Bd.notSynchronized (Stand.of_body Bd) (by rw [← hh, Bd.state]; rfl) hh ((State.WarmedH.refl s).since _) (by rw [hh]; exact CHr.refl hC)
theorem own_leaveW (X : Stand p l e R (s.setVm vm0) m args below meth c T locs cells slots) (hS : s.Since vm0 k0) (hk : k0 ≤ T.heap.size) (hZ : Z.Warmed39 (s.setVm vm0).vm) (hEL : EW Z a0 EL) (H : CHr Z EL s.vm s.heap vm0 T.heap) {F : JFrame} {v : Option Value} (hv : meth.sig.returnType = none → v = none) (hlk : meth.locks = false)
    (k : ∀ fs, (∀ (f : JFrame) (acts : List Action), f.method = m → f.locked = none → f.entered = [] → (doReturn e (T.setTop f) acts v).1 = T.setFrames fs) → Steps p.tables e below (T.setTop F) (T.setFrames fs))
    (hQ : Q v T.heap locs) (hc : cells ≤ C) (hn : slots ≤ N) : own_GoW Z EL p e below s Q C N (T.setTop F) := by
  obtain ⟨fs, hr, hrun, hended, -, h2, h3, h4⟩ := X.leaveW hS hk (v := v) hv hlk
  have hcc : CHr Z EL s.vm s.heap T.vm T.heap := H.trans (CHv.at X hZ hEL H.1)
  exact ⟨_, _, k fs hr, hrun, hended, v, locs, rfl, hQ, hcc, ⟨v, rfl⟩, h2, h3, h4.mono hc hn⟩
theorem own_ret0W (X : Stand p l e R (s.setVm vm0) m args below meth c T locs cells slots) (hS : s.Since vm0 k0) (hk : k0 ≤ T.heap.size) (hZ : Z.Warmed39 (s.setVm vm0).vm) (hEL : EW Z a0 EL) (H : CHr Z EL s.vm s.heap vm0 T.heap) (hx : p.tables.exec = Jvm.exec) {pc : Nat} {Ls : Array Slot} (hret : meth.sig.returnType = none) (hlk : meth.locks = false) (hd : decode c.code pc = .ok (.return_, 1))
    (hQ : Q none T.heap locs) (hc : cells ≤ C) (hn : slots ≤ N) : own_GoW Z EL p e below s Q C N (T.setTop (mkF m pc Ls [])) :=
  own_leaveW X hS hk hZ hEL H (fun _ => rfl) hlk (fun fs hr => X.returnOut hx hret hd hr) hQ hc hn
theorem own_retZW (X : Stand p l e R (s.setVm vm0) m args below meth c T locs cells slots) (hS : s.Since vm0 k0) (hk : k0 ≤ T.heap.size) (hZ : Z.Warmed39 (s.setVm vm0).vm) (hEL : EW Z a0 EL) (H : CHr Z EL s.vm s.heap vm0 T.heap) (hx : p.tables.exec = Jvm.exec) {pc : Nat} {Ls : Array Slot} {z : Int32} {rest : List Value} (hret : meth.sig.returnType = some .boolean) (hlk : meth.locks = false) (hd : decode c.code pc = .ok (.ireturn, 1))
    (hQ : Q (some (.int (nar .boolean z))) T.heap locs) (hc : cells ≤ C) (hn : slots ≤ N) : own_GoW Z EL p e below s Q C N (T.setTop (mkF m pc Ls (.int z :: rest))) :=
  own_leaveW X hS hk hZ hEL H (fun h => by rw [hret] at h; cases h) hlk (fun fs hr => retN X hx (t := .boolean) hret (by simp) hd hr) hQ hc hn
theorem own_retIW (X : Stand p l e R (s.setVm vm0) m args below meth c T locs cells slots) (hS : s.Since vm0 k0) (hk : k0 ≤ T.heap.size) (hZ : Z.Warmed39 (s.setVm vm0).vm) (hEL : EW Z a0 EL) (H : CHr Z EL s.vm s.heap vm0 T.heap) (hx : p.tables.exec = Jvm.exec) {pc : Nat} {Ls : Array Slot} {z : Int32} {rest : List Value} (hret : meth.sig.returnType = some .int) (hlk : meth.locks = false) (hd : decode c.code pc = .ok (.ireturn, 1))
    (hQ : Q (some (.int z)) T.heap locs) (hc : cells ≤ C) (hn : slots ≤ N) : own_GoW Z EL p e below s Q C N (T.setTop (mkF m pc Ls (.int z :: rest))) :=
  own_leaveW X hS hk hZ hEL H (fun h => by rw [hret] at h; cases h) hlk (fun fs hr => retOut X hx (t := .int) hret rfl (Or.inl ⟨rfl, Or.inl rfl, z, rfl⟩) hd hr) hQ hc hn
theorem own_retAW (X : Stand p l e R (s.setVm vm0) m args below meth c T locs cells slots) (hS : s.Since vm0 k0) (hk : k0 ≤ T.heap.size) (hZ : Z.Warmed39 (s.setVm vm0).vm) (hEL : EW Z a0 EL) (H : CHr Z EL s.vm s.heap vm0 T.heap) (hx : p.tables.exec = Jvm.exec) {pc : Nat} {Ls : Array Slot} {w : Value} {t : FieldType} {rest : List Value} (hret : meth.sig.returnType = some t) (ht : t.isReference = true) (hw : w.isRef = true) (hlk : meth.locks = false) (hd : decode c.code pc = .ok (.areturn, 1))
    (hQ : Q (some w) T.heap locs) (hc : cells ≤ C) (hn : slots ≤ N) : own_GoW Z EL p e below s Q C N (T.setTop (mkF m pc Ls (w :: rest))) :=
  own_leaveW X hS hk hZ hEL H (fun h => by rw [hret] at h; cases h) hlk (fun fs hr => retOut X hx (t := t) hret (by rcases ref_cases hw with rfl | ⟨a, rfl⟩ <;> cases t <;> first | rfl | cases ht) (Or.inr (Or.inr (Or.inr (Or.inr ⟨rfl, ht, hw⟩)))) hd hr) hQ hc hn
section CallsW
variable {y z : MethodName} {bytes : ByteArray} {maxL : Nat} {ret : Option FieldType} {rm : Room} {as' : Array Value} {Qc : Option Value → Heap → List Loc → Prop} {own : String} {index count : Nat} {g : JFrame} {argsL rest : List Value}
theorem own_callSW (X : Stand p l e R (s.setVm vm0) m args below meth c T locs cells slots) (hx : p.tables.exec = Jvm.exec) (hZ : Z.Warmed39 (s.setVm vm0).vm) (K : own_Con l Z y bytes maxL ret rm as' h Qc) (hown : (s.setVm vm0).vm.findClass own = some m.cls)
    (w1 : (Jvm.Cond.methodLink own index y).before a0 Z = true) (w2 : (Jvm.Cond.static y).before a0 Z = true) (w3 : (Jvm.Cond.initialized y.cls).before a0 Z = true) (w4 : (Jvm.Cond.code y bytes maxL ret).before a0 Z = true)
    (hy : y.cls ≠ "java/lang/invoke/MethodHandle" ∧ y.cls ≠ "java/lang/invoke/VarHandle") (eT : T.heap = h) (hg : g.method = m) (hsize : g.locals.size = c.maxLocals) (has : argsL.toArray = as')
    (hlen : ∀ sig, parseMethodDescriptor y.desc = some sig → argsL.length = sig.parameters.length) (hst : g.stack = argsL.reverse ++ rest) (W : Nat) (hW : 2 * g.monitorRoom + (rest.map fun v => v.category).sum ≤ W) (hd : decode c.code g.pc = .ok (.invokestatic index, 3))
    (hf : rm.frames + 1 ≤ R.frames) (hl : W + (maxL + 11) + rm.locals ≤ R.locals) (hc : cells + rm.cells ≤ R.cells) (hs : slots + rm.slots ≤ R.slots)
    (k : ∀ (v : Option Value) (T' : State) (L : List Loc), Qc v T'.heap L → Stand p l e R (s.setVm vm0) m args below meth c T' (locs ++ L) (cells + rm.cells) (slots + rm.slots) → own_GoW Z EL p e below s Q C N (T'.setTop { g with pc := g.pc + 3, stack := v.toList ++ rest })) :
    own_GoW Z EL p e below s Q C N (T.setTop g) := by
  obtain ⟨v, _, ⟨T', L', k', n'⟩, -, X', ⟨Lc, hQ, l', y', z'⟩, st⟩ := Jvm.LawKit.callS X hx (y := y) hown (mvT hZ w1) (mvT hZ w2) (mvT hZ w3) (mvT hZ w4) hy (backOf (W := W) (K []) hZ w4 w3 hf hl) (g := g) hg hsize (argsL := argsL) (rest := rest) hlen hst hW hd (fun _ _ => ⟨has, eT, hc, hs⟩)
  dsimp only [Pt.U, Pt.locs, Pt.cells, Pt.slots] at X' l' y' z' st hQ
  subst l' y' z'
  exact own_viaW st (k v T' Lc hQ X')
theorem own_callIW (X : Stand p l e R (s.setVm vm0) m args below meth c T locs cells slots) (hx : p.tables.exec = Jvm.exec) (hZ : Z.Warmed39 (s.setVm vm0).vm) (K : own_Con l Z y bytes maxL none rm as' h Qc) (hown : (s.setVm vm0).vm.findClass own = some m.cls) (hy1 : y.name = "<init>")
    (w1 : (Jvm.Cond.methodLink own index y).before a0 Z = true) (w2 : (Jvm.Cond.instanceMethod y).before a0 Z = true) (w3 : (Jvm.Cond.initialized y.cls).before a0 Z = true) (w4 : (Jvm.Cond.code y bytes maxL none).before a0 Z = true)
    (hy : y.cls ≠ "java/lang/invoke/MethodHandle" ∧ y.cls ≠ "java/lang/invoke/VarHandle") (eT : T.heap = h) (hg : g.method = m) (hsize : g.locals.size = c.maxLocals) {a : Addr} (has : (.ref a :: argsL).toArray = as')
    (hlen : ∀ sig, parseMethodDescriptor y.desc = some sig → argsL.length = sig.parameters.length) (hst : g.stack = argsL.reverse ++ .ref a :: rest) (W : Nat) (hW : 2 * g.monitorRoom + (rest.map fun v => v.category).sum ≤ W) (hd : decode c.code g.pc = .ok (.invokespecial index, 3))
    (hf : rm.frames + 1 ≤ R.frames) (hl : W + (maxL + 11) + rm.locals ≤ R.locals) (hc : cells + rm.cells ≤ R.cells) (hs : slots + rm.slots ≤ R.slots)
    (k : ∀ (v : Option Value) (T' : State) (L : List Loc), Qc v T'.heap L → Stand p l e R (s.setVm vm0) m args below meth c T' (locs ++ L) (cells + rm.cells) (slots + rm.slots) → own_GoW Z EL p e below s Q C N (T'.setTop { g with pc := g.pc + 3, stack := v.toList ++ rest })) :
    own_GoW Z EL p e below s Q C N (T.setTop g) := by
  obtain ⟨v, _, ⟨T', L', k', n'⟩, -, X', ⟨Lc, hQ, l', y', z'⟩, st⟩ := X.specialBack hx (y := y) hy1 hown (mvT hZ w1) (mvT hZ w2) (mvT hZ w4) hy (backOf (W := W) (K []) hZ w4 w3 hf hl) (g := g) hg hsize (Steps.refl _) (a := a) (argsL := argsL) (rest := rest) hlen hst hW hd (fun _ _ => ⟨has, eT, hc, hs⟩)
  dsimp only [Pt.U, Pt.locs, Pt.cells, Pt.slots] at X' l' y' z' st hQ
  subst l' y' z'
  exact own_viaW (fun t q => st.trans q) (k v T' Lc hQ X')
theorem own_callVW (X : Stand p l e R (s.setVm vm0) m args below meth c T locs cells slots) (hx : p.tables.exec = Jvm.exec) (hZ : Z.Warmed39 (s.setVm vm0).vm) (K : own_Con l Z z bytes maxL ret rm as' h Qc) (hown : (s.setVm vm0).vm.findClass own = some m.cls) {CC : String} {a : Addr} (E : Exa Z h a CC)
    (w1 : (Jvm.Cond.methodLink own index y).before a0 Z = true) (w5 : (Jvm.Cond.declares y).before a0 Z = true) (w6 : (Jvm.Cond.selects CC y z).before a0 Z = true) (w2 : (Jvm.Cond.instanceMethod z).before a0 Z = true) (w3 : (Jvm.Cond.initialized z.cls).before a0 Z = true) (w4 : (Jvm.Cond.code z bytes maxL ret).before a0 Z = true)
    (nf : NotFace (s.setVm vm0) y) (hy : y.cls ≠ "java/lang/invoke/MethodHandle" ∧ y.cls ≠ "java/lang/invoke/VarHandle") (eT : T.heap = h) (hg : g.method = m) (hsize : g.locals.size = c.maxLocals) (has : (.ref a :: argsL).toArray = as')
    (hlen : ∀ sig, parseMethodDescriptor y.desc = some sig → argsL.length = sig.parameters.length) (hst : g.stack = argsL.reverse ++ .ref a :: rest) (W : Nat) (hW : 2 * g.monitorRoom + (rest.map fun v => v.category).sum ≤ W) (hd : decode c.code g.pc = .ok (.invokevirtual index, 3))
    (hf : rm.frames + 1 ≤ R.frames) (hl : W + (maxL + 11) + rm.locals ≤ R.locals) (hc : cells + rm.cells ≤ R.cells) (hs : slots + rm.slots ≤ R.slots)
    (k : ∀ (v : Option Value) (T' : State) (L : List Loc), Qc v T'.heap L → Stand p l e R (s.setVm vm0) m args below meth c T' (locs ++ L) (cells + rm.cells) (slots + rm.slots) → own_GoW Z EL p e below s Q C N (T'.setTop { g with pc := g.pc + 3, stack := v.toList ++ rest })) :
    own_GoW Z EL p e below s Q C N (T.setTop g) := by
  obtain ⟨cB, kB, q1, q2, q3⟩ := isOf hZ eT E
  obtain ⟨v, _, ⟨T', L', k', n'⟩, -, X', ⟨Lc, hQ, l', y', z'⟩, st⟩ := X.virtualBack hx (y := y) (z := z) hown (mvT hZ w1) (mvT hZ w5) nf (mvT hZ w6) (mvT hZ w2) hy (backOf (W := W) (K []) hZ w4 w3 hf hl) q1 q3 (g := g) hg hsize (Steps.refl _) (argsL := argsL) (rest := rest) hlen hst hW hd (fun _ _ => ⟨has, eT, hc, hs⟩)
  dsimp only [Pt.U, Pt.locs, Pt.cells, Pt.slots] at X' l' y' z' st hQ
  subst l' y' z'
  exact own_viaW (fun t q => st.trans q) (k v T' Lc hQ X')
theorem own_callFW (X : Stand p l e R (s.setVm vm0) m args below meth c T locs cells slots) (hx : p.tables.exec = Jvm.exec) (hZ : Z.Warmed39 (s.setVm vm0).vm) (K : own_Con l Z z bytes maxL ret rm as' h Qc) (hown : (s.setVm vm0).vm.findClass own = some m.cls) {CC : String} {a : Addr} (E : Exa Z h a CC)
    (w1 : (Jvm.Cond.methodLink own index y).before a0 Z = true) (w5 : (Jvm.Cond.declares y).before a0 Z = true) (w7 : (Jvm.Cond.interfaceMethod y.cls y.cls y.name y.desc).before a0 Z = true) (w6 : (Jvm.Cond.selects CC y z).before a0 Z = true) (w2 : (Jvm.Cond.instanceMethod z).before a0 Z = true) (w8 : (Jvm.Cond.publicMethod z).before a0 Z = true) (w9 : (Jvm.Cond.unhidden CC y.name y.desc).before a0 Z = true) (w10 : (Jvm.Cond.castable CC y.cls).before a0 Z = true) (w3 : (Jvm.Cond.initialized z.cls).before a0 Z = true) (w4 : (Jvm.Cond.code z bytes maxL ret).before a0 Z = true)
    (hy : y.cls ≠ "java/lang/invoke/MethodHandle" ∧ y.cls ≠ "java/lang/invoke/VarHandle") (eT : T.heap = h) (hg : g.method = m) (hsize : g.locals.size = c.maxLocals)  (has : (.ref a :: argsL).toArray = as')
    (hlen : ∀ sig, parseMethodDescriptor y.desc = some sig → argsL.length = sig.parameters.length) (hst : g.stack = argsL.reverse ++ .ref a :: rest) (W : Nat) (hW : 2 * g.monitorRoom + (rest.map fun v => v.category).sum ≤ W) (hd : decode c.code g.pc = .ok (.invokeinterface index count, 5))
    (hf : rm.frames + 1 ≤ R.frames) (hl : W + (maxL + 11) + rm.locals ≤ R.locals) (hc : cells + rm.cells ≤ R.cells) (hs : slots + rm.slots ≤ R.slots)
    (k : ∀ (v : Option Value) (T' : State) (L : List Loc), Qc v T'.heap L → Stand p l e R (s.setVm vm0) m args below meth c T' (locs ++ L) (cells + rm.cells) (slots + rm.slots) → own_GoW Z EL p e below s Q C N (T'.setTop { g with pc := g.pc + 5, stack := v.toList ++ rest })) :
    own_GoW Z EL p e below s Q C N (T.setTop g) := by
  obtain ⟨cB, kB, q1, q2, q3⟩ := isOf hZ eT E
  obtain ⟨v, _, ⟨T', L', k', n'⟩, -, X', ⟨Lc, hQ, l', y', z'⟩, st⟩ := X.interfaceBack hx (xi := y) (y := z) hown (mvT hZ w1) (mvT hZ w5) (mvT hZ w7 (by simp [Cond.onTables, Cond.keepsFace, Cond.keeps, Cond.steady, Cond.faceAtom, hy.1, hy.2])) (mvT hZ w6) (mvT hZ w2) (mvT hZ w8) (mvT hZ w9) (mvT hZ w10) hy (backOf (W := W) (K []) hZ w4 w3 hf hl) q1 q2 q3 (g := g) hg hsize (Steps.refl _) (argsL := argsL) (rest := rest) hlen hst hW hd (fun _ _ => ⟨has, eT, hc, hs⟩)
  dsimp only [Pt.U, Pt.locs, Pt.cells, Pt.slots] at X' l' y' z' st hQ
  subst l' y' z'
  exact own_viaW (fun t q => st.trans q) (k v T' Lc hQ X')
theorem own_callSX (X : Stand p l e R (s.setVm vm0) m args below meth c T locs cells slots) (hx : p.tables.exec = Jvm.exec) (hZ : Z.Warmed39 (s.setVm vm0).vm) (hEL : EW Z a0 EL) (hS : s.Since vm0 k0) (hk : k0 ≤ h.size) (H : CHr Z EL s.vm s.heap vm0 h) (K : own_ConW l Z EL y bytes maxL ret rm as' h Qc) (hown : (s.setVm vm0).vm.findClass own = some m.cls)
    (w1 : (Jvm.Cond.methodLink own index y).before a0 Z = true) (w2 : (Jvm.Cond.static y).before a0 Z = true) (w3 : (Jvm.Cond.initialized y.cls).before a0 Z = true) (w4 : (Jvm.Cond.code y bytes maxL ret).before a0 Z = true)
    (hy : y.cls ≠ "java/lang/invoke/MethodHandle" ∧ y.cls ≠ "java/lang/invoke/VarHandle") (eT : T.heap = h) (hg : g.method = m) (hsize : g.locals.size = c.maxLocals)  (has : argsL.toArray = as')
    (hlen : ∀ sig, parseMethodDescriptor y.desc = some sig → argsL.length = sig.parameters.length) (hst : g.stack = argsL.reverse ++ rest) (W : Nat) (hW : 2 * g.monitorRoom + (rest.map fun v => v.category).sum ≤ W) (hd : decode c.code g.pc = .ok (.invokestatic index, 3))
    (hf : rm.frames + 1 ≤ R.frames) (hl : W + (maxL + 11) + rm.locals ≤ R.locals) (hc : cells + rm.cells ≤ R.cells) (hs : slots + rm.slots ≤ R.slots)
    (k : ∀ (v : Option Value) (T' : State) (L : List Loc), Qc v T'.heap L → Stand p l e R (s.setVm T'.vm) m args below meth c T' (locs ++ L) (cells + rm.cells) (slots + rm.slots) → s.Since T'.vm T'.heap.size → Z.Warmed39 (s.setVm T'.vm).vm → (s.setVm T'.vm).vm.findClass own = some m.cls → CHr Z EL s.vm s.heap T'.vm T'.heap → own_GoW Z EL p e below s Q C N (T'.setTop { g with pc := g.pc + 3, stack := v.toList ++ rest })) :
    own_GoW Z EL p e below s Q C N (T.setTop g) := by
  obtain ⟨v, _, ⟨T', L', k', n'⟩, -, X', hS', hgr, ⟨Lc, hQ, l', y', z', hC⟩, st⟩ := callSS X hx (y := y) hown (mvT hZ w1) (mvT hZ w2) (mvT hZ w3) (mvT hZ w4) hy (backOfSH (W := W) (K []) hZ w4 w3 hf hl hEL H.1) (g := g) hg hsize (argsL := argsL) (rest := rest) hlen hst hW hd (fun _ _ => ⟨has, eT, hc, hs⟩)
  dsimp only [Pt.U, Pt.locs, Pt.cells, Pt.slots] at X' l' y' z' st hQ hS' hgr hC
  subst l' y' z'
  obtain ⟨X2, hS2, hZ2, hown2⟩ := rebS hS hk X' hS' (by rw [← eT]; exact hgr) hZ hown
  exact own_viaW (fun t q => st.trans q) (k v T' Lc hQ X2 hS2 hZ2 hown2 (H.trans hC))
theorem own_callIX (X : Stand p l e R (s.setVm vm0) m args below meth c T locs cells slots) (hx : p.tables.exec = Jvm.exec) (hZ : Z.Warmed39 (s.setVm vm0).vm) (hEL : EW Z a0 EL) (hS : s.Since vm0 k0) (hk : k0 ≤ h.size) (H : CHr Z EL s.vm s.heap vm0 h) (K : own_ConW l Z EL y bytes maxL none rm as' h Qc) (hown : (s.setVm vm0).vm.findClass own = some m.cls) (hy1 : y.name = "<init>")
    (w1 : (Jvm.Cond.methodLink own index y).before a0 Z = true) (w2 : (Jvm.Cond.instanceMethod y).before a0 Z = true) (w3 : (Jvm.Cond.initialized y.cls).before a0 Z = true) (w4 : (Jvm.Cond.code y bytes maxL none).before a0 Z = true)
    (hy : y.cls ≠ "java/lang/invoke/MethodHandle" ∧ y.cls ≠ "java/lang/invoke/VarHandle") (eT : T.heap = h) (hg : g.method = m) (hsize : g.locals.size = c.maxLocals) {a : Addr} (has : (.ref a :: argsL).toArray = as')
    (hlen : ∀ sig, parseMethodDescriptor y.desc = some sig → argsL.length = sig.parameters.length) (hst : g.stack = argsL.reverse ++ .ref a :: rest) (W : Nat) (hW : 2 * g.monitorRoom + (rest.map fun v => v.category).sum ≤ W) (hd : decode c.code g.pc = .ok (.invokespecial index, 3))
    (hf : rm.frames + 1 ≤ R.frames) (hl : W + (maxL + 11) + rm.locals ≤ R.locals) (hc : cells + rm.cells ≤ R.cells) (hs : slots + rm.slots ≤ R.slots)
    (k : ∀ (v : Option Value) (T' : State) (L : List Loc), Qc v T'.heap L → Stand p l e R (s.setVm T'.vm) m args below meth c T' (locs ++ L) (cells + rm.cells) (slots + rm.slots) → s.Since T'.vm T'.heap.size → Z.Warmed39 (s.setVm T'.vm).vm → (s.setVm T'.vm).vm.findClass own = some m.cls → CHr Z EL s.vm s.heap T'.vm T'.heap → own_GoW Z EL p e below s Q C N (T'.setTop { g with pc := g.pc + 3, stack := v.toList ++ rest })) :
    own_GoW Z EL p e below s Q C N (T.setTop g) := by
  obtain ⟨v, _, ⟨T', L', k', n'⟩, -, X', hS', hgr, ⟨Lc, hQ, l', y', z', hC⟩, st⟩ := X.specialBackS hx (y := y) hy1 hown (mvT hZ w1) (mvT hZ w2) (mvT hZ w4) hy (backOfSH (W := W) (K []) hZ w4 w3 hf hl hEL H.1) (g := g) hg hsize (Steps.refl _) (a := a) (argsL := argsL) (rest := rest) hlen hst hW hd (fun _ _ => ⟨has, eT, hc, hs⟩)
  dsimp only [Pt.U, Pt.locs, Pt.cells, Pt.slots] at X' l' y' z' st hQ hS' hgr hC
  subst l' y' z'
  obtain ⟨X2, hS2, hZ2, hown2⟩ := rebS hS hk X' hS' (by rw [← eT]; exact hgr) hZ hown
  exact own_viaW (fun t q => st.trans q) (k v T' Lc hQ X2 hS2 hZ2 hown2 (H.trans hC))
end CallsW
/-- one Latin-1 sign -/
def own_Str (Z : State) (h : Heap) (a ch : Nat) : Prop := ∃ b k, Exa Z h a "java/lang/String" ∧ Fld Z h a "java/lang/String" "coder" "B" (.int 0) ∧ Fld Z h a "java/lang/String" "value" "[B" (.ref b) ∧ own_A Z h b .byte k 1 (fun _ => .int ch.toInt32)
theorem own_arv1 {b : Nat} {k : ClassId} {x : Int32} (F : Arv Z h b k .byte 1 [.int x] (.int 0)) : own_A Z h b .byte k 1 (fun _ => .int x) := by
  obtain ⟨c, A, h1, h2, -, h4, -⟩ := F
  have h2' : c.slots.size = 1 := h2
  refine ⟨c, A, h1, h2', fun i hi => ?_⟩
  obtain rfl : i = 0 := by omega
  exact h4 0 (by omega)
theorem own_ldcW {own text : String} {index : Nat} (X : Stand p l e R (s.setVm vm0) m args below meth c T locs cells slots) (hx : p.tables.exec = Jvm.exec) (hZ : Z.Warmed39 (s.setVm vm0).vm) (hown : (s.setVm vm0).vm.findClass own = some m.cls) (w : (Cond.stringLink own index text).before a0 Z = true) (wS : ∀ a ∈ Bundle.stringAtoms, a.before a0 Z = true)
    (eT : T.heap = h) (hS : s.Since vm0 k0) (hk : k0 ≤ h.size) (hEL : EW Z a0 EL) (hmem : (own, index) ∈ EL) (H : CHr Z EL s.vm s.heap vm0 h) {ch : Nat}
    (ht : (∀ c ∈ text.toList, c.toNat < 256) ∧ text.toList.map (fun c => Value.int (Jvm.Lit.byteI c.toNat.toUInt16)) = [.int ch.toInt32]) (h4 : 4 * text.toList.length ≤ 4)
    {g : JFrame} (hg : g.method = m) (hd : decode c.code g.pc = .ok (.ldc index, 2)) (hc : cells + 2 ≤ R.cells) (hl' : slots + (4 + 4) ≤ R.slots) :
    ∃ (a : Nat) (T' : State) (h' : Heap), Stand p l e R (s.setVm T'.vm) m args below meth c T' locs (cells + 2) (slots + (4 + 4)) ∧ T'.heap = h' ∧ Ext h h' ∧ s.Since T'.vm h'.size ∧ Z.Warmed39 (s.setVm T'.vm).vm ∧ (s.setVm T'.vm).vm.findClass own = some m.cls ∧ own_Str Z h' a ch ∧ CHr Z EL s.vm s.heap T'.vm h' ∧ Lit (s.setVm T'.vm) own index a ∧ (∀ (own' : String) (ix' : Nat) (a' : Addr), Lit (s.setVm vm0) own' ix' a' → Lit (s.setVm T'.vm) own' ix' a') ∧
      ∀ target, Steps p.tables e below (T'.setTop { g with pc := g.pc + 2, stack := .ref a :: g.stack }) target → Steps p.tables e below (T.setTop g) target := by
  obtain ⟨a, T', h', k1, b, k, X', e', E', hS', hk', hZ', hown', f1, f2, f3, f4, -, -, hC, hL, -, st⟩ := ldcCH (s := s.setVm vm0) (vm0 := vm0) X hx hZ hown w wS eT ((State.WarmedH.refl (s.setVm vm0)).since h.size) (Nat.le_refl _) hEL hmem H.1 (z := 1) ht (by decide) rfl hg hd (n := 4) h4 (by decide) hc hl'
  have hS2 : (s.setVm vm0).Since T'.vm h'.size := ⟨hS'.1, fun j q hj hq => by
    obtain ⟨x, y⟩ := hS'.2 j q hj hq
    exact ⟨x, Nat.lt_of_lt_of_le y hk'⟩⟩
  exact ⟨a, T', h', X', e', E', hS.trans hS2 (Nat.le_trans hk E'.1), hZ', hown', ⟨b, k, f1, f2, f3, own_arv1 f4⟩, H.trans hC, hL, fun _ _ _ q => Lit.stays q hS'.1, st⟩
end OwnW
section Own709
variable {p : Program} {l : Launch} {e : Env} {R : Room} {s : State} {m : MethodId} {args : Array Value} {below : List Frame} {meth : Method} {c : Code} {T : State} {locs : List Loc} {cells slots : Nat} {Z : State} {a0 : Array Value} {h h' : Heap} {a b n : Nat} {f f' : Nat → Value} {ws : List Nat} {g : JFrame} {rest : List Value} {EL : List (String × Nat)} {vm : Vm}
/-- an Object[] of n places -/
def own_O (Z : State) (h : Heap) (a : Nat) (n : Nat) (f : Nat → Value) : Prop := ∃ K, own_A Z h a (.object "java/lang/Object") K n f ∧ Ovr Z K "java/lang/Object"
theorem own_O.lt (F : own_O Z h a n f) : a < h.size := by obtain ⟨K, F, -⟩ := F; exact F.lt
theorem own_O.ext (F : own_O Z h a n f) (E : Ext h h') : own_O Z h' a n f := by obtain ⟨K, F, O⟩ := F; exact ⟨K, F.ext E, O⟩
theorem own_O.other {sl : Nat} {v : Value} (F : own_O Z h b n f) (W : Wr h h' a sl v) (q : b ≠ a) : own_O Z h' b n f := by obtain ⟨K, F, O⟩ := F; exact ⟨K, F.other W q, O⟩
theorem own_O.keep (F : own_O Z h a n f) (Kp : Keep h h' ws) (q : a ∉ ws) : own_O Z h' a n f := by obtain ⟨K, F, O⟩ := F; exact ⟨K, F.keep Kp q, O⟩
theorem own_O.congr (F : own_O Z h a n f) (q : ∀ i, i < n → f i = f' i) : own_O Z h a n f' := by obtain ⟨K, F, O⟩ := F; exact ⟨K, F.congr q, O⟩
theorem own_O.set {j : Nat} {v : Value} (F : own_O Z h a n f) (W : Wr h h' a j v) : own_O Z h' a n (fun i => if i = j then v else f i) := by obtain ⟨K, F, O⟩ := F; exact ⟨K, F.set W, O⟩
theorem own_O.load (F : own_O Z h a n f) (X : Stand p l e R s m args below meth c T locs cells slots) (hx : p.tables.exec = Jvm.exec) (hZ : Z.Warmed39 s.vm) (eT : T.heap = h) {j : Nat} {ji : Int32} (hji : ji = j.toInt32) (hj : j < n) (hn : n < 2 ^ 31) {v : Value} (hv : f j = v)
    (hg : g.method = m) (hs : g.stack = .int ji :: .ref a :: rest) (hd : decode c.code g.pc = .ok (.aaload, 1)) : ∀ t, Steps p.tables e below (T.setTop { g with pc := g.pc + 1, stack := v :: rest }) t → Steps p.tables e below (T.setTop g) t := by
  obtain ⟨K, F, -⟩ := F
  exact own_aaloadA X hx hZ eT F rfl hji hj hn hv hg hs hd
theorem own_O.store (F : own_O Z h a n f) (X : Stand p l e R s m args below meth c T locs cells slots) (hx : p.tables.exec = Jvm.exec) (hZ : Z.Warmed39 s.vm) (eT : T.heap = h) {j y : Nat} {ji : Int32} (hji : ji = j.toInt32) (hj : j < n) (hn : n < 2 ^ 31) (I : Ins Z h y "java/lang/Object" true)
    (hg : g.method = m) (hs : g.stack = .ref y :: .int ji :: .ref a :: rest) (hd : decode c.code g.pc = .ok (.aastore, 1)) :
    ∃ T' h', Stand p l e R s m args below meth c T' (locs ++ [⟨a, j⟩]) cells slots ∧ T'.heap = h' ∧ Wr h h' a j (.ref y) ∧ ∀ t, Steps p.tables e below (T'.setTop { g with pc := g.pc + 1, stack := rest }) t → Steps p.tables e below (T.setTop g) t := by
  obtain ⟨K, F, O⟩ := F
  refine own_aastoreA X hx hZ eT F rfl hji hj hn ?_ hg hs hd
  obtain ⟨cl, A, h1, -, -⟩ := F
  exact Sto.of A (by rw [h1]; exact O) I
theorem own_newOA (X : Stand p l e R s m args below meth c T locs cells slots) (hx : p.tables.exec = Jvm.exec) (hZ : Z.Warmed39 s.vm) {own : String} {index : Nat} (hown : s.vm.findClass own = some m.cls) (w1 : (Jvm.Cond.classLink own index "java/lang/Object").before a0 Z = true) (w2 : (Jvm.Cond.arrayOver (.object "java/lang/Object")).before a0 Z = true)
    (eT : T.heap = h) {ni : Int32} (hni : ni = n.toInt32) (hn : n < 2 ^ 20) (hb : n * 8 ≤ 536870912) (hc : cells + 1 ≤ R.cells) (hl : slots + n ≤ R.slots)
    (hg : g.method = m) (hs : g.stack = .int ni :: rest) (hd : decode c.code g.pc = .ok (.anewarray index, 3)) :
    ∃ T' h', Stand p l e R s m args below meth c T' locs (cells + 1) (slots + n) ∧ T'.heap = h' ∧ Ext h h' ∧ own_O Z h' h.size n (fun _ => .null) ∧
      ∀ t, Steps p.tables e below (T'.setTop { g with pc := g.pc + 3, stack := .ref h.size :: rest }) t → Steps p.tables e below (T.setTop g) t := by
  subst hni
  have hN : n.toInt32.toNatClampNeg = n := own_nat (by omega)
  have hnn : ¬ n.toInt32 < 0 := by
    have q : n.toInt32.toInt = n := len_toInt (by omega)
    simp only [Int32.lt_iff_toInt_lt, q, Int32.reduceToInt]; omega
  obtain ⟨T', h', cA, X', e', E', A', O', st⟩ := newR X hx hZ hown w1 w2 eT hg hd hs hnn (cap := n) (by rw [hN]; exact Nat.le_refl _) hb hc hl
  refine ⟨T', h', X', e', E', ⟨cA, ⟨_, A', rfl, by rw [sz_new, hN], fun i hi => ?_⟩, O'⟩, st⟩
  simp [newA, hN, hi, defaultValue]
theorem own_baloadY (X : Stand p l e R s m args below meth c T locs cells slots) (hx : p.tables.exec = Jvm.exec) (hZ : Z.Warmed39 s.vm) (eT : T.heap = h) {K : ClassId} (F : own_A Z h a .byte K n f) {j : Nat} {ji : Int32} (hji : ji = j.toInt32) (hj : j < n) (hn : n < 2 ^ 31) {v : Value} (hv : f j = v)
    (hg : g.method = m) (hs : g.stack = .int ji :: .ref a :: rest) (hd : decode c.code g.pc = .ok (.baload, 1)) : ∀ t, Steps p.tables e below (T.setTop { g with pc := g.pc + 1, stack := v :: rest }) t → Steps p.tables e below (T.setTop g) t := fun t k => by
  subst hji
  obtain ⟨cl, A, h1, h2, h3⟩ := F
  exact X.baloadBytes hx (by rw [eT]; exact A.1) (State.isArrayOf_alike hZ.alike A.2.1) A.2.2 (own_out (k := K) h2 hj hn) (by rw [own_nat (by omega), h3 j hj, hv]) hg hs hd t k
theorem own_arr_ne {x y : Nat} {c1 c2 : Cell} {t1 t2 : FieldType} (A : Arr Z h x c1 t1) (B : Arr Z h y c2 t2) (q : t1 ≠ t2) : x ≠ y := fun e => by
  subst e
  obtain ⟨a1, ⟨-, k1, hk1, p1, q1⟩, -⟩ := A
  obtain ⟨b1, ⟨-, k2, hk2, p2, q2⟩, -⟩ := B
  cases a1.symm.trans b1
  cases hk1.symm.trans hk2
  have z := q1.symm.trans q2
  injection z with _ z2
  exact q z2
theorem own_I.arr {φ : Nat → Nat} (F : own_I Z h a n φ) : ∃ cl, Arr Z h a cl .int := by obtain ⟨K, cl, A, -⟩ := F; exact ⟨cl, A⟩
theorem own_O.arr (F : own_O Z h a n f) : ∃ cl, Arr Z h a cl (.object "java/lang/Object") := by obtain ⟨K, ⟨cl, A, -⟩, -⟩ := F; exact ⟨cl, A⟩
theorem own_I.safe {φ : Nat → Nat} (hal : Z.vm.Alike vm) (F : own_I Z h a n φ) : Safe Z EL vm h a := by obtain ⟨cl, A⟩ := F.arr; exact Safe.arr hal A (by decide)
theorem own_O.safe (hal : Z.vm.Alike vm) (F : own_O Z h a n f) : Safe Z EL vm h a := by obtain ⟨cl, A⟩ := F.arr; exact Safe.arr hal A (by decide)
/-- x is neither a String nor a String's array -/
def own_NS (Z : State) (h : Heap) (x : Nat) : Prop := Exa Z h x "com/example/isocline/isocline/core/sql/SqlToken" ∨ Exa Z h x "java/util/ArrayList" ∨ Exa Z h x "com/example/isocline/isocline/core/sql/Tokens" ∨ ∃ cl ty, Arr Z h x cl ty ∧ ty ≠ .byte
/-- .. nor a token -/
def own_NT (Z : State) (h : Heap) (x : Nat) : Prop := Exa Z h x "java/util/ArrayList" ∨ Exa Z h x "com/example/isocline/isocline/core/sql/Tokens" ∨ ∃ cl ty, Arr Z h x cl ty ∧ ty ≠ .byte
/-- .. nor of a list -/
def own_Far (Z : State) (h : Heap) (x : Nat) : Prop := Exa Z h x "com/example/isocline/isocline/core/sql/Tokens" ∨ ∃ cl, Arr Z h x cl .int
theorem own_NT.ns {x : Nat} (q : own_NT Z h x) : own_NS Z h x := Or.inr q
theorem own_Far.nt {x : Nat} (q : own_Far Z h x) : own_NT Z h x := by
  rcases q with q | ⟨cl, q⟩
  · exact Or.inr (Or.inl q)
  · exact Or.inr (Or.inr ⟨cl, _, q, by decide⟩)
theorem own_Str.keep (hw : ∀ d ∈ tables_1, d.before a0 Z = true) {ch : Nat} (F : own_Str Z h a ch) (K : Keep h h' ws) (q : ∀ x ∈ ws, own_NS Z h x) : own_Str Z h' a ch := by
  obtain ⟨b, k, E, F1, F2, A⟩ := F
  have n1 : a ∉ ws := fun hm => by
    rcases q a hm with X | X | X | ⟨cl, ty, X, ht⟩
    · exact ne_exa X E (by decide) rfl
    · exact ne_exa X E (by decide) rfl
    · exact ne_exa X E (by decide) rfl
    · exact ne_arr E (hw _ (List.mem_of_getElem? (i := 14) rfl)) X rfl
  have n2 : b ∉ ws := fun hm => by
    obtain ⟨cl0, A0, -⟩ := A
    rcases q b hm with X | X | X | ⟨cl, ty, X, ht⟩
    · exact ne_arr X (hw _ (List.mem_of_getElem? (i := 7) rfl)) A0 rfl
    · exact ne_arr X (hw _ (List.mem_of_getElem? (i := 40) rfl)) A0 rfl
    · exact ne_arr X (hw _ (List.mem_of_getElem? (i := 95) rfl)) A0 rfl
    · exact own_arr_ne X A0 ht rfl
  exact ⟨b, k, E.keep K, F1.keep K n1, F2.keep K n1, A.keep K n2⟩
/-- a token of the kind kd whose text is the one sign ch -/
def own_Tok (Z : State) (h : Heap) (t kd ch : Nat) : Prop := ∃ a, Exa Z h t "com/example/isocline/isocline/core/sql/SqlToken" ∧ Fld Z h t "com/example/isocline/isocline/core/sql/SqlToken" "kind" "Lcom/example/isocline/isocline/core/sql/SqlToken$Kind;" (.ref kd) ∧ Fld Z h t "com/example/isocline/isocline/core/sql/SqlToken" "text" "Ljava/lang/String;" (.ref a) ∧ own_Str Z h a ch
theorem own_Tok.keep (hw : ∀ d ∈ tables_1, d.before a0 Z = true) {t kd ch : Nat} (F : own_Tok Z h t kd ch) (K : Keep h h' ws) (q : ∀ x ∈ ws, own_NT Z h x) : own_Tok Z h' t kd ch := by
  obtain ⟨a, E, F1, F2, S⟩ := F
  have n1 : t ∉ ws := fun hm => by
    rcases q t hm with X | X | ⟨cl, ty, X, ht⟩
    · exact ne_exa X E (by decide) rfl
    · exact ne_exa X E (by decide) rfl
    · exact ne_arr E (hw _ (List.mem_of_getElem? (i := 7) rfl)) X rfl
  exact ⟨a, E.keep K, F1.keep K n1, F2.keep K n1, S.keep hw K fun x hx => (q x hx).ns⟩
theorem own_Tok.ext (hw : ∀ d ∈ tables_1, d.before a0 Z = true) {t kd ch : Nat} (F : own_Tok Z h t kd ch) (E : Ext h h') : own_Tok Z h' t kd ch := F.keep hw ((Keep.refl h []).ext E) all0
/-- the list at lst: n tokens, at te i -/
def own_LS (Z : State) (h : Heap) (lst n : Nat) (te kd ch : Nat → Nat) : Prop := ∃ ea cap f, Exa Z h lst "java/util/ArrayList" ∧ Fld Z h lst "java/util/ArrayList" "elementData" "[Ljava/lang/Object;" (.ref ea) ∧ Fld Z h lst "java/util/ArrayList" "size" "I" (.int n.toInt32) ∧ (0 < n → own_O Z h ea cap f) ∧ n ≤ cap ∧ cap < 100 ∧ (∀ i, i < n → f i = .ref (te i)) ∧ ∀ i, i < n → own_Tok Z h (te i) (kd i) (ch i)
theorem own_LS.keep (hw : ∀ d ∈ tables_1, d.before a0 Z = true) {lst : Nat} {te kd ch : Nat → Nat} (F : own_LS Z h lst n te kd ch) (K : Keep h h' ws) (q : ∀ x ∈ ws, own_Far Z h x) : own_LS Z h' lst n te kd ch := by
  obtain ⟨ea, cap, f, E, F1, F2, A, c1, c2, c3, c4⟩ := F
  have n1 : lst ∉ ws := fun hm => by
    rcases q lst hm with X | ⟨cl, X⟩
    · exact ne_exa X E (by decide) rfl
    · exact ne_arr E (hw _ (List.mem_of_getElem? (i := 40) rfl)) X rfl
  have n2 : 0 < n → ea ∉ ws := fun hn hm => by
    obtain ⟨cl0, A0⟩ := (A hn).arr
    rcases q ea hm with X | ⟨cl, X⟩
    · exact ne_arr X (hw _ (List.mem_of_getElem? (i := 95) rfl)) A0 rfl
    · exact own_arr_ne X A0 (by decide) rfl
  exact ⟨ea, cap, f, E.keep K, F1.keep K n1, F2.keep K n1, fun hn => (A hn).keep K (n2 hn), c1, c2, c3, fun i hi => (c4 i hi).keep hw K fun x hx => (q x hx).nt⟩
theorem own_LS.ext (hw : ∀ d ∈ tables_1, d.before a0 Z = true) {lst : Nat} {te kd ch : Nat → Nat} (F : own_LS Z h lst n te kd ch) (E : Ext h h') : own_LS Z h' lst n te kd ch := F.keep hw ((Keep.refl h []).ext E) all0
theorem own_LS.wr (hw : ∀ d ∈ tables_1, d.before a0 Z = true) {lst x sl : Nat} {v : Value} {te kd ch : Nat → Nat} (F : own_LS Z h lst n te kd ch) (W : Wr h h' x sl v) (q : own_Far Z h x) : own_LS Z h' lst n te kd ch := F.keep hw (Keep.of_wr W) (allS q all0)
theorem own_Tok.exa {t kd ch : Nat} (F : own_Tok Z h t kd ch) : Exa Z h t "com/example/isocline/isocline/core/sql/SqlToken" := by obtain ⟨a, E, -⟩ := F; exact E
theorem own_Tok.lt {t kd ch : Nat} (F : own_Tok Z h t kd ch) : t < h.size := own_n F.exa.lt
theorem own_LS.tok {lst i : Nat} {te kd ch : Nat → Nat} (F : own_LS Z h lst n te kd ch) (hi : i < n) : own_Tok Z h (te i) (kd i) (ch i) := by
  obtain ⟨ea, cap, f, -, -, -, -, -, -, -, c4⟩ := F
  exact c4 i hi
/-- the ArrayList lst with its array ea of ten places -/
def own_AL (Z : State) (h : Heap) (lst ea n : Nat) (f : Nat → Value) : Prop := Exa Z h lst "java/util/ArrayList" ∧ Fld Z h lst "java/util/ArrayList" "elementData" "[Ljava/lang/Object;" (.ref ea) ∧ Fld Z h lst "java/util/ArrayList" "size" "I" (.int n.toInt32) ∧ (∃ mc : Int32, Fld Z h lst "java/util/AbstractList" "modCount" "I" (.int mc)) ∧ own_O Z h ea 10 f ∧ lst < ea
theorem own_wS (hw : ∀ d ∈ tables_1, d.before a0 Z = true) : ∀ d ∈ Bundle.stringAtoms, d.before a0 Z = true := fun d hd => by
  simp only [Bundle.stringAtoms, List.mem_cons, List.not_mem_nil, or_false] at hd
  rcases hd with rfl | rfl | rfl | rfl | rfl | rfl | rfl
  · exact (hw _ (List.mem_of_getElem? (i := 13) rfl))
  · exact (hw _ (List.mem_of_getElem? (i := 14) rfl))
  · exact (hw _ (List.mem_of_getElem? (i := 15) rfl))
  · exact (hw _ (List.mem_of_getElem? (i := 16) rfl))
  · exact (hw _ (List.mem_of_getElem? (i := 17) rfl))
  · exact (hw _ (List.mem_of_getElem? (i := 18) rfl))
  · exact (hw _ (List.mem_of_getElem? (i := 19) rfl))
end Own709
def own_kd (kS kW c : Nat) : Nat := if c = 5 then kW else kS
def own_ch (c : Nat) : Nat := if c = 0 ∨ c = 6 then 40 else if c = 1 ∨ c = 7 then 41 else if c = 2 then 91 else if c = 3 then 93 else if c = 4 then 44 else 120
def own_op (c : Nat) : Bool := decide (c = 0 ∨ c = 6 ∨ c = 2)
def own_cl (c : Nat) : Bool := decide (c = 1 ∨ c = 7 ∨ c = 3)
/-- how deep before place i -/
def own_dp (c : Nat → Nat) : Nat → Nat
  | 0 => 0
  | i + 1 => if own_op (c i) then own_dp c i + 1 else if own_cl (c i) then own_dp c i - 1 else own_dp c i
/-- what the table holds at place i -/
def own_d (c : Nat → Nat) (i : Nat) : Nat := if own_cl (c i) then own_dp c i - 1 else own_dp c i
/-- the stack of the open places before place i -/
def own_sk (c : Nat → Nat) : Nat → Nat → Nat
  | 0, _ => 0
  | i + 1, j => if own_op (c i) ∧ j = own_dp c i then i else own_sk c i j
theorem own_oc {c : Nat} (h : own_op c = true) : own_cl c = false := by
  simp only [own_op, own_cl, decide_eq_true_eq, decide_eq_false_iff_not] at *; omega
theorem own_dp_le (c : Nat → Nat) : ∀ i, own_dp c i ≤ i := fun i => by
  induction i with
  | zero => exact Nat.le_refl _
  | succ i ih => simp only [own_dp]; split <;> (try split) <;> omega
theorem own_d_le (c : Nat → Nat) (i : Nat) : own_d c i ≤ own_dp c i := by unfold own_d; split <;> omega
theorem own_inv (c : Nat → Nat) : ∀ i j, j < own_dp c i → own_sk c i j < i ∧ own_d c (own_sk c i j) < j + 1 ∧ ∀ z, own_sk c i j < z → z < i → j + 1 ≤ own_d c z := fun i => by
  induction i with
  | zero => intro j hj; exact absurd hj (Nat.not_lt_zero _)
  | succ i ih =>
    intro j hj
    by_cases ho : own_op (c i) = true
    · have hcl := own_oc ho
      have hdp : own_dp c (i + 1) = own_dp c i + 1 := by show (if _ then _ else _) = _; rw [if_pos ho]
      have hd : own_d c i = own_dp c i := by unfold own_d; rw [hcl]; rfl
      by_cases q : j = own_dp c i
      · have hs : own_sk c (i + 1) j = i := by show (if _ then _ else _) = _; rw [if_pos ⟨ho, q⟩]
        rw [hs, hd]
        exact ⟨by omega, by omega, fun z h1 h2 => by omega⟩
      · have hs : own_sk c (i + 1) j = own_sk c i j := by show (if _ then _ else _) = _; rw [if_neg (fun x => q x.2)]
        rw [hs]
        obtain ⟨h1, h2, h3⟩ := ih j (by omega)
        refine ⟨by omega, h2, fun z z1 z2 => ?_⟩
        by_cases e : z = i
        · subst e; omega
        · exact h3 z z1 (by omega)
    · have ho' : own_op (c i) = false := by simpa using ho
      have hs : own_sk c (i + 1) j = own_sk c i j := by show (if _ then _ else _) = _; rw [if_neg (fun x => ho x.1)]
      rw [hs]
      by_cases hc : own_cl (c i) = true
      · have hdp : own_dp c (i + 1) = own_dp c i - 1 := by show (if _ then _ else if _ then _ else _) = _; rw [if_neg ho, if_pos hc]
        have hd : own_d c i = own_dp c i - 1 := by unfold own_d; rw [if_pos hc]
        obtain ⟨h1, h2, h3⟩ := ih j (by omega)
        refine ⟨by omega, h2, fun z z1 z2 => ?_⟩
        by_cases e : z = i
        · subst e; omega
        · exact h3 z z1 (by omega)
      · have hdp : own_dp c (i + 1) = own_dp c i := by show (if _ then _ else if _ then _ else _) = _; rw [if_neg ho, if_neg hc]
        have hd : own_d c i = own_dp c i := by unfold own_d; rw [if_neg hc]
        obtain ⟨h1, h2, h3⟩ := ih j (by omega)
        refine ⟨by omega, h2, fun z z1 z2 => ?_⟩
        by_cases e : z = i
        · subst e; omega
        · exact h3 z z1 (by omega)
/-- the search downwards for a place that is less deep -/
def own_fd (φ : Nat → Nat) (D : Nat) : Nat → Int32
  | 0 => -1
  | k + 1 => if φ k < D then k.toInt32 else own_fd φ D k
theorem own_fd_no (φ : Nat → Nat) (D : Nat) : ∀ k, (∀ z, z < k → D ≤ φ z) → own_fd φ D k = -1 := fun k => by
  induction k with
  | zero => intro _; rfl
  | succ k ih => intro q; show (if _ then _ else _) = _; rw [if_neg (by have := q k (by omega); omega)]; exact ih fun z hz => q z (by omega)
theorem own_fd_at (φ : Nat → Nat) (D i : Nat) (hi : φ i < D) : ∀ k, i < k → (∀ z, i < z → z < k → D ≤ φ z) → own_fd φ D k = i.toInt32 := fun k => by
  induction k with
  | zero => intro h; omega
  | succ k ih =>
    intro h q
    by_cases e : i = k
    · subst e; show (if _ then _ else _) = _; rw [if_pos hi]
    · show (if _ then _ else _) = _; rw [if_neg (by have := q k (by omega) (by omega); omega)]; exact ih (by omega) fun z z1 z2 => q z z1 (by omega)
/-- the table of a list of n -/
def own_tb (c : Nat → Nat) (n i : Nat) : Nat := if i < n then own_d c i else 0
/-- what the law expects at A -/
theorem own_exp (c : Nat → Nat) (n A : Nat) (hA : A < n) : own_fd (own_tb c n) (own_tb c n A) A = if own_d c A = 0 then -1 else (own_sk c A (own_d c A - 1)).toInt32 := by
  have e1 : own_tb c n A = own_d c A := if_pos hA
  rw [e1]
  by_cases q : own_d c A = 0
  · rw [if_pos q]; exact own_fd_no _ _ _ fun z _ => by omega
  · rw [if_neg q]
    have h0 := own_d_le c A
    obtain ⟨h1, h2, h3⟩ := own_inv c A (own_d c A - 1) (by omega)
    refine own_fd_at _ _ _ ?_ _ h1 fun z z1 z2 => ?_
    · show own_tb c n _ < _; unfold own_tb; rw [if_pos (by omega)]; omega
    · have h4 := h3 z z1 z2
      show _ ≤ own_tb c n z; unfold own_tb; rw [if_pos (by omega)]; omega
theorem own_exp2 (c : Nat → Nat) (n : Nat) : own_fd (own_tb c n) (own_tb c n n) n = -1 := by
  have e1 : own_tb c n n = 0 := if_neg (by omega)
  rw [e1]; exact own_fd_no _ _ _ fun z _ => by omega
theorem own_tb_le (c : Nat → Nat) (n i : Nat) : own_tb c n i ≤ n := by
  unfold own_tb
  split
  · have h1 := own_d_le c i
    have h2 := own_dp_le c i
    omega
  · omega
theorem own_ch_lt (x : Nat) : own_ch x < 1000 := by
  unfold own_ch
  repeat' split
  all_goals decide
theorem own_x8 {x : Nat} (h : x < 8) : x = 0 ∨ x = 1 ∨ x = 2 ∨ x = 3 ∨ x = 4 ∨ x = 5 ∨ x = 6 ∨ x = 7 := by omega
theorem own_sy41 {x kS kW : Nat} (h : x < 8) (hk : kS ≠ kW) : (if own_kd kS kW x = kS ∧ own_ch x = 41 then 1 else 0) = if x = 1 ∨ x = 7 then 1 else 0 := by
  rcases own_x8 h with rfl | rfl | rfl | rfl | rfl | rfl | rfl | rfl <;> simp [own_kd, own_ch]
theorem own_sy93 {x kS kW : Nat} (h : x < 8) (hk : kS ≠ kW) : (if own_kd kS kW x = kS ∧ own_ch x = 93 then 1 else 0) = if x = 3 then 1 else 0 := by
  rcases own_x8 h with rfl | rfl | rfl | rfl | rfl | rfl | rfl | rfl <;> simp [own_kd, own_ch]
theorem own_sy40 {x kS kW : Nat} (h : x < 8) (hk : kS ≠ kW) : (if own_kd kS kW x = kS ∧ own_ch x = 40 then 1 else 0) = if x = 0 ∨ x = 6 then 1 else 0 := by
  rcases own_x8 h with rfl | rfl | rfl | rfl | rfl | rfl | rfl | rfl <;> simp [own_kd, own_ch]
theorem own_sy91 {x kS kW : Nat} (h : x < 8) (hk : kS ≠ kW) : (if own_kd kS kW x = kS ∧ own_ch x = 91 then 1 else 0) = if x = 2 then 1 else 0 := by
  rcases own_x8 h with rfl | rfl | rfl | rfl | rfl | rfl | rfl | rfl <;> simp [own_kd, own_ch]
theorem own_am1 (x : Int32) : x + (-1) = x - 1 := by rw [Int32.sub_eq_add_neg]
theorem own_maxd {d : Nat} (hd : d < 100) : (if (0 : Int32) < d.toInt32 - 1 then d.toInt32 - 1 else 0) = (d - 1).toInt32 := by
  by_cases q : d = 0
  · subst q; rfl
  · rw [own_pred (by omega)]
    by_cases q2 : d - 1 = 0
    · rw [q2]; rfl
    · have hlt : (0 : Int32) < (d - 1).toInt32 := (own_ltI (i := 0) (j := d - 1) rfl rfl (by omega) (by omega)).mpr (by omega)
      rw [if_pos hlt]
theorem own_pd0 : parseMethodDescriptor "(I)Z" = some ⟨[.int], some .boolean⟩ := by decide +kernel
theorem own_pd1 : parseMethodDescriptor "()V" = some ⟨[], none⟩ := by decide +kernel
theorem own_pd2 : parseMethodDescriptor "(II)I" = some ⟨[.int, .int], some .int⟩ := by decide +kernel
theorem own_pd3 : parseMethodDescriptor "(I)[Ljava/lang/Object;" = some ⟨[.int], some (.array (.object "java/lang/Object"))⟩ := by decide +kernel
theorem own_pd4 : parseMethodDescriptor "()[Ljava/lang/Object;" = some ⟨[], some (.array (.object "java/lang/Object"))⟩ := by decide +kernel
theorem own_pd5 : parseMethodDescriptor "(Ljava/lang/Object;[Ljava/lang/Object;I)V" = some ⟨[(.object "java/lang/Object"), (.array (.object "java/lang/Object")), .int], none⟩ := by decide +kernel
theorem own_pd6 : parseMethodDescriptor "(IILjava/util/function/BiFunction;)I" = some ⟨[.int, .int, (.object "java/util/function/BiFunction")], some .int⟩ := by decide +kernel
theorem own_pd7 : parseMethodDescriptor "(I)Ljava/lang/Object;" = some ⟨[.int], some (.object "java/lang/Object")⟩ := by decide +kernel
theorem own_pd8 : parseMethodDescriptor "([B[B)Z" = some ⟨[(.array .byte), (.array .byte)], some .boolean⟩ := by decide +kernel
theorem own_pd9 : parseMethodDescriptor "(Ljava/lang/Object;)Z" = some ⟨[(.object "java/lang/Object")], some .boolean⟩ := by decide +kernel
theorem own_pd10 : parseMethodDescriptor "(Lcom/example/isocline/isocline/core/sql/SqlToken$Kind;Ljava/lang/String;II)V" = some ⟨[(.object "com/example/isocline/isocline/core/sql/SqlToken$Kind"), (.object "java/lang/String"), .int, .int], none⟩ := by decide +kernel
theorem own_pd11 : parseMethodDescriptor "()I" = some ⟨[], some .int⟩ := by decide +kernel
theorem own_pd12 : parseMethodDescriptor "(Ljava/lang/String;)Z" = some ⟨[(.object "java/lang/String")], some .boolean⟩ := by decide +kernel
theorem own_pd13 : parseMethodDescriptor "(I)Lcom/example/isocline/isocline/core/sql/SqlToken;" = some ⟨[.int], some (.object "com/example/isocline/isocline/core/sql/SqlToken")⟩ := by decide +kernel
theorem own_pd14 : parseMethodDescriptor "(Ljava/util/List;)V" = some ⟨[(.object "java/util/List")], none⟩ := by decide +kernel
theorem own_pd15 : parseMethodDescriptor "(I)I" = some ⟨[.int], some .int⟩ := by decide +kernel
theorem own_pd16 : parseMethodDescriptor "([IIII)I" = some ⟨[(.array .int), .int, .int, .int], some .int⟩ := by decide +kernel
theorem own_op_t {c : Nat} (h : c = 0 ∨ c = 6 ∨ c = 2) : own_op c = true := decide_eq_true h
theorem own_op_f {c : Nat} (h : ¬ (c = 0 ∨ c = 6 ∨ c = 2)) : ¬ own_op c = true := fun z => h (of_decide_eq_true z)
theorem own_op_i {c : Nat} (h : own_op c = true) : c = 0 ∨ c = 6 ∨ c = 2 := of_decide_eq_true h
theorem own_cl_t {c : Nat} (h : c = 1 ∨ c = 7 ∨ c = 3) : own_cl c = true := decide_eq_true h
theorem own_cl_f {c : Nat} (h : ¬ (c = 1 ∨ c = 7 ∨ c = 3)) : ¬ own_cl c = true := fun z => h (of_decide_eq_true z)
theorem own_cl_i {c : Nat} (h : own_cl c = true) : c = 1 ∨ c = 7 ∨ c = 3 := of_decide_eq_true h
theorem own_pnM : plainFor (⟨"java/lang/Math", "max", "(II)I"⟩ : MethodName) = true := by decide +kernel
theorem own_t40 : (∀ c ∈ ("(" : String).toList, c.toNat < 256) ∧ ("(" : String).toList.map (fun c => Value.int (Jvm.Lit.byteI c.toNat.toUInt16)) = [.int (40 : Nat).toInt32] := ⟨by decide +kernel, by first | rfl | decide +kernel⟩
theorem own_t41 : (∀ c ∈ (")" : String).toList, c.toNat < 256) ∧ (")" : String).toList.map (fun c => Value.int (Jvm.Lit.byteI c.toNat.toUInt16)) = [.int (41 : Nat).toInt32] := ⟨by decide +kernel, by first | rfl | decide +kernel⟩
theorem own_t91 : (∀ c ∈ ("[" : String).toList, c.toNat < 256) ∧ ("[" : String).toList.map (fun c => Value.int (Jvm.Lit.byteI c.toNat.toUInt16)) = [.int (91 : Nat).toInt32] := ⟨by decide +kernel, by first | rfl | decide +kernel⟩
theorem own_t93 : (∀ c ∈ ("]" : String).toList, c.toNat < 256) ∧ ("]" : String).toList.map (fun c => Value.int (Jvm.Lit.byteI c.toNat.toUInt16)) = [.int (93 : Nat).toInt32] := ⟨by decide +kernel, by first | rfl | decide +kernel⟩
theorem own_t44 : (∀ c ∈ ("," : String).toList, c.toNat < 256) ∧ ("," : String).toList.map (fun c => Value.int (Jvm.Lit.byteI c.toNat.toUInt16)) = [.int (44 : Nat).toInt32] := ⟨by decide +kernel, by first | rfl | decide +kernel⟩
theorem own_t120 : (∀ c ∈ ("x" : String).toList, c.toNat < 256) ∧ ("x" : String).toList.map (fun c => Value.int (Jvm.Lit.byteI c.toNat.toUInt16)) = [.int (120 : Nat).toInt32] := ⟨by decide +kernel, by first | rfl | decide +kernel⟩
theorem own_EW {Z : State} {a0 : Array Value} (hw : ∀ d ∈ tables_1, d.before a0 Z = true) : EW Z a0 consts_1 := (EW.cons (hw _ (List.mem_of_getElem? (i := 137) rfl)) own_t41.1 (EW.cons (hw _ (List.mem_of_getElem? (i := 158) rfl)) own_t93.1 (EW.cons (hw _ (List.mem_of_getElem? (i := 159) rfl)) own_t40.1 (EW.cons (hw _ (List.mem_of_getElem? (i := 171) rfl)) own_t91.1 (EW.cons (hw _ (List.mem_of_getElem? (i := 12) rfl)) own_t40.1 (EW.cons (hw _ (List.mem_of_getElem? (i := 168) rfl)) own_t41.1 (EW.cons (hw _ (List.mem_of_getElem? (i := 170) rfl)) own_t91.1 (EW.cons (hw _ (List.mem_of_getElem? (i := 178) rfl)) own_t93.1 (EW.cons (hw _ (List.mem_of_getElem? (i := 169) rfl)) own_t44.1 (EW.cons (hw _ (List.mem_of_getElem? (i := 182) rfl)) own_t120.1 EW.nil))))))))))
theorem d1_0 : decode method_2_code 0 = .ok (.iload_n 0, 1) := by decide +kernel
theorem d1_1 : decode method_2_code 1 = .ok (.ifCond .eq 9, 3) := by decide +kernel
theorem d1_4 : decode method_2_code 4 = .ok (.iload_n 0, 1) := by decide +kernel
theorem d1_5 : decode method_2_code 5 = .ok (.bipush 6, 2) := by decide +kernel
theorem d1_7 : decode method_2_code 7 = .ok (.if_icmp .ne 18, 3) := by decide +kernel
theorem d1_10 : decode method_2_code 10 = .ok (.new 7, 3) := by decide +kernel
theorem d1_13 : decode method_2_code 13 = .ok (.dup, 1) := by decide +kernel
theorem d1_14 : decode method_2_code 14 = .ok (.getstatic 9, 3) := by decide +kernel
theorem d1_17 : decode method_2_code 17 = .ok (.ldc 15, 2) := by decide +kernel
theorem d1_19 : decode method_2_code 19 = .ok (.iconst 0, 1) := by decide +kernel
theorem d1_20 : decode method_2_code 20 = .ok (.iconst 1, 1) := by decide +kernel
theorem d1_21 : decode method_2_code 21 = .ok (.invokespecial 17, 3) := by decide +kernel
theorem d1_24 : decode method_2_code 24 = .ok (.areturn, 1) := by decide +kernel
theorem d1_25 : decode method_2_code 25 = .ok (.iload_n 0, 1) := by decide +kernel
theorem d1_26 : decode method_2_code 26 = .ok (.iconst 1, 1) := by decide +kernel
theorem d1_27 : decode method_2_code 27 = .ok (.if_icmp .eq 9, 3) := by decide +kernel
theorem d1_30 : decode method_2_code 30 = .ok (.iload_n 0, 1) := by decide +kernel
theorem d1_31 : decode method_2_code 31 = .ok (.bipush 7, 2) := by decide +kernel
theorem d1_33 : decode method_2_code 33 = .ok (.if_icmp .ne 18, 3) := by decide +kernel
theorem d1_36 : decode method_2_code 36 = .ok (.new 7, 3) := by decide +kernel
theorem d1_39 : decode method_2_code 39 = .ok (.dup, 1) := by decide +kernel
theorem d1_40 : decode method_2_code 40 = .ok (.getstatic 9, 3) := by decide +kernel
theorem d1_43 : decode method_2_code 43 = .ok (.ldc 20, 2) := by decide +kernel
theorem d1_45 : decode method_2_code 45 = .ok (.iconst 0, 1) := by decide +kernel
theorem d1_46 : decode method_2_code 46 = .ok (.iconst 1, 1) := by decide +kernel
theorem d1_47 : decode method_2_code 47 = .ok (.invokespecial 17, 3) := by decide +kernel
theorem d1_50 : decode method_2_code 50 = .ok (.areturn, 1) := by decide +kernel
theorem d1_51 : decode method_2_code 51 = .ok (.iload_n 0, 1) := by decide +kernel
theorem d1_52 : decode method_2_code 52 = .ok (.iconst 2, 1) := by decide +kernel
theorem d1_53 : decode method_2_code 53 = .ok (.if_icmp .ne 18, 3) := by decide +kernel
theorem d1_56 : decode method_2_code 56 = .ok (.new 7, 3) := by decide +kernel
theorem d1_59 : decode method_2_code 59 = .ok (.dup, 1) := by decide +kernel
theorem d1_60 : decode method_2_code 60 = .ok (.getstatic 9, 3) := by decide +kernel
theorem d1_63 : decode method_2_code 63 = .ok (.ldc 22, 2) := by decide +kernel
theorem d1_65 : decode method_2_code 65 = .ok (.iconst 0, 1) := by decide +kernel
theorem d1_66 : decode method_2_code 66 = .ok (.iconst 1, 1) := by decide +kernel
theorem d1_67 : decode method_2_code 67 = .ok (.invokespecial 17, 3) := by decide +kernel
theorem d1_70 : decode method_2_code 70 = .ok (.areturn, 1) := by decide +kernel
theorem d1_71 : decode method_2_code 71 = .ok (.iload_n 0, 1) := by decide +kernel
theorem d1_72 : decode method_2_code 72 = .ok (.iconst 3, 1) := by decide +kernel
theorem d1_73 : decode method_2_code 73 = .ok (.if_icmp .ne 18, 3) := by decide +kernel
theorem d1_76 : decode method_2_code 76 = .ok (.new 7, 3) := by decide +kernel
theorem d1_79 : decode method_2_code 79 = .ok (.dup, 1) := by decide +kernel
theorem d1_80 : decode method_2_code 80 = .ok (.getstatic 9, 3) := by decide +kernel
theorem d1_83 : decode method_2_code 83 = .ok (.ldc 24, 2) := by decide +kernel
theorem d1_85 : decode method_2_code 85 = .ok (.iconst 0, 1) := by decide +kernel
theorem d1_86 : decode method_2_code 86 = .ok (.iconst 1, 1) := by decide +kernel
theorem d1_87 : decode method_2_code 87 = .ok (.invokespecial 17, 3) := by decide +kernel
theorem d1_90 : decode method_2_code 90 = .ok (.areturn, 1) := by decide +kernel
theorem d1_91 : decode method_2_code 91 = .ok (.iload_n 0, 1) := by decide +kernel
theorem d1_92 : decode method_2_code 92 = .ok (.iconst 4, 1) := by decide +kernel
theorem d1_93 : decode method_2_code 93 = .ok (.if_icmp .ne 18, 3) := by decide +kernel
theorem d1_96 : decode method_2_code 96 = .ok (.new 7, 3) := by decide +kernel
theorem d1_99 : decode method_2_code 99 = .ok (.dup, 1) := by decide +kernel
theorem d1_100 : decode method_2_code 100 = .ok (.getstatic 9, 3) := by decide +kernel
theorem d1_103 : decode method_2_code 103 = .ok (.ldc 26, 2) := by decide +kernel
theorem d1_105 : decode method_2_code 105 = .ok (.iconst 0, 1) := by decide +kernel
theorem d1_106 : decode method_2_code 106 = .ok (.iconst 1, 1) := by decide +kernel
theorem d1_107 : decode method_2_code 107 = .ok (.invokespecial 17, 3) := by decide +kernel
theorem d1_110 : decode method_2_code 110 = .ok (.areturn, 1) := by decide +kernel
theorem d1_111 : decode method_2_code 111 = .ok (.new 7, 3) := by decide +kernel
theorem d1_114 : decode method_2_code 114 = .ok (.dup, 1) := by decide +kernel
theorem d1_115 : decode method_2_code 115 = .ok (.getstatic 28, 3) := by decide +kernel
theorem d1_118 : decode method_2_code 118 = .ok (.ldc 31, 2) := by decide +kernel
theorem d1_120 : decode method_2_code 120 = .ok (.iconst 0, 1) := by decide +kernel
theorem d1_121 : decode method_2_code 121 = .ok (.iconst 1, 1) := by decide +kernel
theorem d1_122 : decode method_2_code 122 = .ok (.invokespecial 17, 3) := by decide +kernel
theorem d1_125 : decode method_2_code 125 = .ok (.areturn, 1) := by decide +kernel
theorem d2_0 : decode prog_65_method_1_code 0 = .ok (.aload_n 0, 1) := by decide +kernel
theorem d2_1 : decode prog_65_method_1_code 1 = .ok (.invokespecial 1, 3) := by decide +kernel
theorem d2_4 : decode prog_65_method_1_code 4 = .ok (.aload_n 0, 1) := by decide +kernel
theorem d2_5 : decode prog_65_method_1_code 5 = .ok (.aload_n 1, 1) := by decide +kernel
theorem d2_6 : decode prog_65_method_1_code 6 = .ok (.putfield 7, 3) := by decide +kernel
theorem d2_9 : decode prog_65_method_1_code 9 = .ok (.aload_n 0, 1) := by decide +kernel
theorem d2_10 : decode prog_65_method_1_code 10 = .ok (.aload_n 2, 1) := by decide +kernel
theorem d2_11 : decode prog_65_method_1_code 11 = .ok (.putfield 13, 3) := by decide +kernel
theorem d2_14 : decode prog_65_method_1_code 14 = .ok (.aload_n 0, 1) := by decide +kernel
theorem d2_15 : decode prog_65_method_1_code 15 = .ok (.iload_n 3, 1) := by decide +kernel
theorem d2_16 : decode prog_65_method_1_code 16 = .ok (.putfield 17, 3) := by decide +kernel
theorem d2_19 : decode prog_65_method_1_code 19 = .ok (.aload_n 0, 1) := by decide +kernel
theorem d2_20 : decode prog_65_method_1_code 20 = .ok (.iload 4, 2) := by decide +kernel
theorem d2_22 : decode prog_65_method_1_code 22 = .ok (.putfield 21, 3) := by decide +kernel
theorem d2_25 : decode prog_65_method_1_code 25 = .ok (.return_, 1) := by decide +kernel
theorem d3_0 : decode jdk_30_method_1_code 0 = .ok (.aload_n 0, 1) := by decide +kernel
theorem d3_1 : decode jdk_30_method_1_code 1 = .ok (.invokespecial 1, 3) := by decide +kernel
theorem d3_4 : decode jdk_30_method_1_code 4 = .ok (.return_, 1) := by decide +kernel
theorem d5_0 : decode jdk_38_method_2_code 0 = .ok (.aload_n 0, 1) := by decide +kernel
theorem d5_1 : decode jdk_38_method_2_code 1 = .ok (.invokespecial 1, 3) := by decide +kernel
theorem d5_4 : decode jdk_38_method_2_code 4 = .ok (.aload_n 0, 1) := by decide +kernel
theorem d5_5 : decode jdk_38_method_2_code 5 = .ok (.getstatic 39, 3) := by decide +kernel
theorem d5_8 : decode jdk_38_method_2_code 8 = .ok (.putfield 9, 3) := by decide +kernel
theorem d5_11 : decode jdk_38_method_2_code 11 = .ok (.return_, 1) := by decide +kernel
theorem d6_0 : decode jdk_39_method_1_code 0 = .ok (.aload_n 0, 1) := by decide +kernel
theorem d6_1 : decode jdk_39_method_1_code 1 = .ok (.invokespecial 1, 3) := by decide +kernel
theorem d6_4 : decode jdk_39_method_1_code 4 = .ok (.aload_n 0, 1) := by decide +kernel
theorem d6_5 : decode jdk_39_method_1_code 5 = .ok (.iconst 0, 1) := by decide +kernel
theorem d6_6 : decode jdk_39_method_1_code 6 = .ok (.putfield 7, 3) := by decide +kernel
theorem d6_9 : decode jdk_39_method_1_code 9 = .ok (.return_, 1) := by decide +kernel
theorem d7_0 : decode jdk_22_method_1_code 0 = .ok (.aload_n 0, 1) := by decide +kernel
theorem d7_1 : decode jdk_22_method_1_code 1 = .ok (.invokespecial 1, 3) := by decide +kernel
theorem d7_4 : decode jdk_22_method_1_code 4 = .ok (.return_, 1) := by decide +kernel
theorem d8_0 : decode jdk_38_method_25_code 0 = .ok (.aload_n 0, 1) := by decide +kernel
theorem d8_1 : decode jdk_38_method_25_code 1 = .ok (.dup, 1) := by decide +kernel
theorem d8_2 : decode jdk_38_method_25_code 2 = .ok (.getfield 63, 3) := by decide +kernel
theorem d8_5 : decode jdk_38_method_25_code 5 = .ok (.iconst 1, 1) := by decide +kernel
theorem d8_6 : decode jdk_38_method_25_code 6 = .ok (.iadd, 1) := by decide +kernel
theorem d8_7 : decode jdk_38_method_25_code 7 = .ok (.putfield 63, 3) := by decide +kernel
theorem d8_10 : decode jdk_38_method_25_code 10 = .ok (.aload_n 0, 1) := by decide +kernel
theorem d8_11 : decode jdk_38_method_25_code 11 = .ok (.aload_n 1, 1) := by decide +kernel
theorem d8_12 : decode jdk_38_method_25_code 12 = .ok (.aload_n 0, 1) := by decide +kernel
theorem d8_13 : decode jdk_38_method_25_code 13 = .ok (.getfield 9, 3) := by decide +kernel
theorem d8_16 : decode jdk_38_method_25_code 16 = .ok (.aload_n 0, 1) := by decide +kernel
theorem d8_17 : decode jdk_38_method_25_code 17 = .ok (.getfield 48, 3) := by decide +kernel
theorem d8_20 : decode jdk_38_method_25_code 20 = .ok (.invokevirtual 131, 3) := by decide +kernel
theorem d8_23 : decode jdk_38_method_25_code 23 = .ok (.iconst 1, 1) := by decide +kernel
theorem d8_24 : decode jdk_38_method_25_code 24 = .ok (.ireturn, 1) := by decide +kernel
theorem d9_0 : decode jdk_38_method_24_code 0 = .ok (.iload_n 3, 1) := by decide +kernel
theorem d9_1 : decode jdk_38_method_24_code 1 = .ok (.aload_n 2, 1) := by decide +kernel
theorem d9_2 : decode jdk_38_method_24_code 2 = .ok (.arraylength, 1) := by decide +kernel
theorem d9_3 : decode jdk_38_method_24_code 3 = .ok (.if_icmp .ne 8, 3) := by decide +kernel
theorem d9_6 : decode jdk_38_method_24_code 6 = .ok (.aload_n 0, 1) := by decide +kernel
theorem d9_7 : decode jdk_38_method_24_code 7 = .ok (.invokevirtual 129, 3) := by decide +kernel
theorem d9_10 : decode jdk_38_method_24_code 10 = .ok (.astore_n 2, 1) := by decide +kernel
theorem d9_11 : decode jdk_38_method_24_code 11 = .ok (.aload_n 2, 1) := by decide +kernel
theorem d9_12 : decode jdk_38_method_24_code 12 = .ok (.iload_n 3, 1) := by decide +kernel
theorem d9_13 : decode jdk_38_method_24_code 13 = .ok (.aload_n 1, 1) := by decide +kernel
theorem d9_14 : decode jdk_38_method_24_code 14 = .ok (.aastore, 1) := by decide +kernel
theorem d9_15 : decode jdk_38_method_24_code 15 = .ok (.aload_n 0, 1) := by decide +kernel
theorem d9_16 : decode jdk_38_method_24_code 16 = .ok (.iload_n 3, 1) := by decide +kernel
theorem d9_17 : decode jdk_38_method_24_code 17 = .ok (.iconst 1, 1) := by decide +kernel
theorem d9_18 : decode jdk_38_method_24_code 18 = .ok (.iadd, 1) := by decide +kernel
theorem d9_19 : decode jdk_38_method_24_code 19 = .ok (.putfield 48, 3) := by decide +kernel
theorem d9_22 : decode jdk_38_method_24_code 22 = .ok (.return_, 1) := by decide +kernel
theorem d10_0 : decode jdk_38_method_7_code 0 = .ok (.aload_n 0, 1) := by decide +kernel
theorem d10_1 : decode jdk_38_method_7_code 1 = .ok (.aload_n 0, 1) := by decide +kernel
theorem d10_2 : decode jdk_38_method_7_code 2 = .ok (.getfield 48, 3) := by decide +kernel
theorem d10_5 : decode jdk_38_method_7_code 5 = .ok (.iconst 1, 1) := by decide +kernel
theorem d10_6 : decode jdk_38_method_7_code 6 = .ok (.iadd, 1) := by decide +kernel
theorem d10_7 : decode jdk_38_method_7_code 7 = .ok (.invokevirtual 69, 3) := by decide +kernel
theorem d10_10 : decode jdk_38_method_7_code 10 = .ok (.areturn, 1) := by decide +kernel
theorem d11_0 : decode jdk_38_method_6_code 0 = .ok (.aload_n 0, 1) := by decide +kernel
theorem d11_1 : decode jdk_38_method_6_code 1 = .ok (.getfield 9, 3) := by decide +kernel
theorem d11_4 : decode jdk_38_method_6_code 4 = .ok (.arraylength, 1) := by decide +kernel
theorem d11_5 : decode jdk_38_method_6_code 5 = .ok (.istore_n 2, 1) := by decide +kernel
theorem d11_6 : decode jdk_38_method_6_code 6 = .ok (.iload_n 2, 1) := by decide +kernel
theorem d11_7 : decode jdk_38_method_6_code 7 = .ok (.ifCond .gt 13, 3) := by decide +kernel
theorem d11_10 : decode jdk_38_method_6_code 10 = .ok (.aload_n 0, 1) := by decide +kernel
theorem d11_11 : decode jdk_38_method_6_code 11 = .ok (.getfield 9, 3) := by decide +kernel
theorem d11_14 : decode jdk_38_method_6_code 14 = .ok (.getstatic 39, 3) := by decide +kernel
theorem d11_17 : decode jdk_38_method_6_code 17 = .ok (.if_acmp .eq 28, 3) := by decide +kernel
theorem d11_20 : decode jdk_38_method_6_code 20 = .ok (.iload_n 2, 1) := by decide +kernel
theorem d11_21 : decode jdk_38_method_6_code 21 = .ok (.iload_n 1, 1) := by decide +kernel
theorem d11_22 : decode jdk_38_method_6_code 22 = .ok (.iload_n 2, 1) := by decide +kernel
theorem d11_23 : decode jdk_38_method_6_code 23 = .ok (.isub, 1) := by decide +kernel
theorem d11_24 : decode jdk_38_method_6_code 24 = .ok (.iload_n 2, 1) := by decide +kernel
theorem d11_25 : decode jdk_38_method_6_code 25 = .ok (.iconst 1, 1) := by decide +kernel
theorem d11_26 : decode jdk_38_method_6_code 26 = .ok (.ishr, 1) := by decide +kernel
theorem d11_27 : decode jdk_38_method_6_code 27 = .ok (.invokestatic 73, 3) := by decide +kernel
theorem d11_30 : decode jdk_38_method_6_code 30 = .ok (.istore_n 3, 1) := by decide +kernel
theorem d11_31 : decode jdk_38_method_6_code 31 = .ok (.aload_n 0, 1) := by decide +kernel
theorem d11_32 : decode jdk_38_method_6_code 32 = .ok (.aload_n 0, 1) := by decide +kernel
theorem d11_33 : decode jdk_38_method_6_code 33 = .ok (.getfield 9, 3) := by decide +kernel
theorem d11_36 : decode jdk_38_method_6_code 36 = .ok (.iload_n 3, 1) := by decide +kernel
theorem d11_37 : decode jdk_38_method_6_code 37 = .ok (.invokestatic 66, 3) := by decide +kernel
theorem d11_40 : decode jdk_38_method_6_code 40 = .ok (.dup_x1, 1) := by decide +kernel
theorem d11_41 : decode jdk_38_method_6_code 41 = .ok (.putfield 9, 3) := by decide +kernel
theorem d11_44 : decode jdk_38_method_6_code 44 = .ok (.areturn, 1) := by decide +kernel
theorem d11_45 : decode jdk_38_method_6_code 45 = .ok (.aload_n 0, 1) := by decide +kernel
theorem d11_46 : decode jdk_38_method_6_code 46 = .ok (.bipush 10, 2) := by decide +kernel
theorem d11_48 : decode jdk_38_method_6_code 48 = .ok (.iload_n 1, 1) := by decide +kernel
theorem d11_49 : decode jdk_38_method_6_code 49 = .ok (.invokestatic 79, 3) := by decide +kernel
theorem d11_52 : decode jdk_38_method_6_code 52 = .ok (.anewarray 7, 3) := by decide +kernel
theorem d11_55 : decode jdk_38_method_6_code 55 = .ok (.dup_x1, 1) := by decide +kernel
theorem d11_56 : decode jdk_38_method_6_code 56 = .ok (.putfield 9, 3) := by decide +kernel
theorem d11_59 : decode jdk_38_method_6_code 59 = .ok (.areturn, 1) := by decide +kernel
theorem d12_0 : decode jdk_29_method_65_code 0 = .ok (.iload_n 0, 1) := by decide +kernel
theorem d12_1 : decode jdk_29_method_65_code 1 = .ok (.iload_n 1, 1) := by decide +kernel
theorem d12_2 : decode jdk_29_method_65_code 2 = .ok (.if_icmp .lt 7, 3) := by decide +kernel
theorem d12_5 : decode jdk_29_method_65_code 5 = .ok (.iload_n 0, 1) := by decide +kernel
theorem d12_6 : decode jdk_29_method_65_code 6 = .ok (.goto 4, 3) := by decide +kernel
theorem d12_9 : decode jdk_29_method_65_code 9 = .ok (.iload_n 1, 1) := by decide +kernel
theorem d12_10 : decode jdk_29_method_65_code 10 = .ok (.ireturn, 1) := by decide +kernel
theorem d13_0 : decode prog_91_method_1_code 0 = .ok (.aload_n 0, 1) := by decide +kernel
theorem d13_1 : decode prog_91_method_1_code 1 = .ok (.invokespecial 1, 3) := by decide +kernel
theorem d13_4 : decode prog_91_method_1_code 4 = .ok (.aload_n 0, 1) := by decide +kernel
theorem d13_5 : decode prog_91_method_1_code 5 = .ok (.aload_n 1, 1) := by decide +kernel
theorem d13_6 : decode prog_91_method_1_code 6 = .ok (.putfield 7, 3) := by decide +kernel
theorem d13_9 : decode prog_91_method_1_code 9 = .ok (.aload_n 0, 1) := by decide +kernel
theorem d13_10 : decode prog_91_method_1_code 10 = .ok (.aload_n 1, 1) := by decide +kernel
theorem d13_11 : decode prog_91_method_1_code 11 = .ok (.invokeinterface 13 1, 5) := by decide +kernel
theorem d13_16 : decode prog_91_method_1_code 16 = .ok (.iconst 1, 1) := by decide +kernel
theorem d13_17 : decode prog_91_method_1_code 17 = .ok (.iadd, 1) := by decide +kernel
theorem d13_18 : decode prog_91_method_1_code 18 = .ok (.newarray .int, 2) := by decide +kernel
theorem d13_20 : decode prog_91_method_1_code 20 = .ok (.putfield 19, 3) := by decide +kernel
theorem d13_23 : decode prog_91_method_1_code 23 = .ok (.iconst 0, 1) := by decide +kernel
theorem d13_24 : decode prog_91_method_1_code 24 = .ok (.istore_n 2, 1) := by decide +kernel
theorem d13_25 : decode prog_91_method_1_code 25 = .ok (.iconst 0, 1) := by decide +kernel
theorem d13_26 : decode prog_91_method_1_code 26 = .ok (.istore_n 3, 1) := by decide +kernel
theorem d13_27 : decode prog_91_method_1_code 27 = .ok (.iload_n 3, 1) := by decide +kernel
theorem d13_28 : decode prog_91_method_1_code 28 = .ok (.aload_n 1, 1) := by decide +kernel
theorem d13_29 : decode prog_91_method_1_code 29 = .ok (.invokeinterface 13 1, 5) := by decide +kernel
theorem d13_34 : decode prog_91_method_1_code 34 = .ok (.if_icmp .ge 79, 3) := by decide +kernel
theorem d13_37 : decode prog_91_method_1_code 37 = .ok (.aload_n 1, 1) := by decide +kernel
theorem d13_38 : decode prog_91_method_1_code 38 = .ok (.iload_n 3, 1) := by decide +kernel
theorem d13_39 : decode prog_91_method_1_code 39 = .ok (.invokeinterface 23 2, 5) := by decide +kernel
theorem d13_44 : decode prog_91_method_1_code 44 = .ok (.checkcast 27, 3) := by decide +kernel
theorem d13_47 : decode prog_91_method_1_code 47 = .ok (.astore 4, 2) := by decide +kernel
theorem d13_49 : decode prog_91_method_1_code 49 = .ok (.aload 4, 2) := by decide +kernel
theorem d13_51 : decode prog_91_method_1_code 51 = .ok (.ldc 29, 2) := by decide +kernel
theorem d13_53 : decode prog_91_method_1_code 53 = .ok (.invokevirtual 31, 3) := by decide +kernel
theorem d13_56 : decode prog_91_method_1_code 56 = .ok (.ifCond .ne 13, 3) := by decide +kernel
theorem d13_59 : decode prog_91_method_1_code 59 = .ok (.aload 4, 2) := by decide +kernel
theorem d13_61 : decode prog_91_method_1_code 61 = .ok (.ldc 35, 2) := by decide +kernel
theorem d13_63 : decode prog_91_method_1_code 63 = .ok (.invokevirtual 31, 3) := by decide +kernel
theorem d13_66 : decode prog_91_method_1_code 66 = .ok (.ifCond .eq 11, 3) := by decide +kernel
theorem d13_69 : decode prog_91_method_1_code 69 = .ok (.iconst 0, 1) := by decide +kernel
theorem d13_70 : decode prog_91_method_1_code 70 = .ok (.iload_n 2, 1) := by decide +kernel
theorem d13_71 : decode prog_91_method_1_code 71 = .ok (.iconst 1, 1) := by decide +kernel
theorem d13_72 : decode prog_91_method_1_code 72 = .ok (.isub, 1) := by decide +kernel
theorem d13_73 : decode prog_91_method_1_code 73 = .ok (.invokestatic 37, 3) := by decide +kernel
theorem d13_76 : decode prog_91_method_1_code 76 = .ok (.istore_n 2, 1) := by decide +kernel
theorem d13_77 : decode prog_91_method_1_code 77 = .ok (.aload_n 0, 1) := by decide +kernel
theorem d13_78 : decode prog_91_method_1_code 78 = .ok (.getfield 19, 3) := by decide +kernel
theorem d13_81 : decode prog_91_method_1_code 81 = .ok (.iload_n 3, 1) := by decide +kernel
theorem d13_82 : decode prog_91_method_1_code 82 = .ok (.iload_n 2, 1) := by decide +kernel
theorem d13_83 : decode prog_91_method_1_code 83 = .ok (.iastore, 1) := by decide +kernel
theorem d13_84 : decode prog_91_method_1_code 84 = .ok (.aload 4, 2) := by decide +kernel
theorem d13_86 : decode prog_91_method_1_code 86 = .ok (.ldc 43, 2) := by decide +kernel
theorem d13_88 : decode prog_91_method_1_code 88 = .ok (.invokevirtual 31, 3) := by decide +kernel
theorem d13_91 : decode prog_91_method_1_code 91 = .ok (.ifCond .ne 13, 3) := by decide +kernel
theorem d13_94 : decode prog_91_method_1_code 94 = .ok (.aload 4, 2) := by decide +kernel
theorem d13_96 : decode prog_91_method_1_code 96 = .ok (.ldc 45, 2) := by decide +kernel
theorem d13_98 : decode prog_91_method_1_code 98 = .ok (.invokevirtual 31, 3) := by decide +kernel
theorem d13_101 : decode prog_91_method_1_code 101 = .ok (.ifCond .eq 6, 3) := by decide +kernel
theorem d13_104 : decode prog_91_method_1_code 104 = .ok (.iinc 2 1, 3) := by decide +kernel
theorem d13_107 : decode prog_91_method_1_code 107 = .ok (.iinc 3 1, 3) := by decide +kernel
theorem d13_110 : decode prog_91_method_1_code 110 = .ok (.goto (-83), 3) := by decide +kernel
theorem d13_113 : decode prog_91_method_1_code 113 = .ok (.aload_n 0, 1) := by decide +kernel
theorem d13_114 : decode prog_91_method_1_code 114 = .ok (.getfield 19, 3) := by decide +kernel
theorem d13_117 : decode prog_91_method_1_code 117 = .ok (.aload_n 1, 1) := by decide +kernel
theorem d13_118 : decode prog_91_method_1_code 118 = .ok (.invokeinterface 13 1, 5) := by decide +kernel
theorem d13_123 : decode prog_91_method_1_code 123 = .ok (.iconst 0, 1) := by decide +kernel
theorem d13_124 : decode prog_91_method_1_code 124 = .ok (.iastore, 1) := by decide +kernel
theorem d13_125 : decode prog_91_method_1_code 125 = .ok (.return_, 1) := by decide +kernel
theorem d14_0 : decode jdk_38_method_8_code 0 = .ok (.aload_n 0, 1) := by decide +kernel
theorem d14_1 : decode jdk_38_method_8_code 1 = .ok (.getfield 48, 3) := by decide +kernel
theorem d14_4 : decode jdk_38_method_8_code 4 = .ok (.ireturn, 1) := by decide +kernel
theorem d15_0 : decode jdk_38_method_20_code 0 = .ok (.iload_n 1, 1) := by decide +kernel
theorem d15_1 : decode jdk_38_method_20_code 1 = .ok (.aload_n 0, 1) := by decide +kernel
theorem d15_2 : decode jdk_38_method_20_code 2 = .ok (.getfield 48, 3) := by decide +kernel
theorem d15_5 : decode jdk_38_method_20_code 5 = .ok (.invokestatic 118, 3) := by decide +kernel
theorem d15_8 : decode jdk_38_method_20_code 8 = .ok (.pop, 1) := by decide +kernel
theorem d15_9 : decode jdk_38_method_20_code 9 = .ok (.aload_n 0, 1) := by decide +kernel
theorem d15_10 : decode jdk_38_method_20_code 10 = .ok (.iload_n 1, 1) := by decide +kernel
theorem d15_11 : decode jdk_38_method_20_code 11 = .ok (.invokevirtual 123, 3) := by decide +kernel
theorem d15_14 : decode jdk_38_method_20_code 14 = .ok (.areturn, 1) := by decide +kernel
theorem d16_0 : decode jdk_31_method_17_code 0 = .ok (.iload_n 0, 1) := by decide +kernel
theorem d16_1 : decode jdk_31_method_17_code 1 = .ok (.iload_n 1, 1) := by decide +kernel
theorem d16_2 : decode jdk_31_method_17_code 2 = .ok (.aconst_null, 1) := by decide +kernel
theorem d16_3 : decode jdk_31_method_17_code 3 = .ok (.invokestatic 105, 3) := by decide +kernel
theorem d16_6 : decode jdk_31_method_17_code 6 = .ok (.ireturn, 1) := by decide +kernel
theorem d17_0 : decode jdk_41_method_11_code 0 = .ok (.iload_n 0, 1) := by decide +kernel
theorem d17_1 : decode jdk_41_method_11_code 1 = .ok (.ifCond .lt 8, 3) := by decide +kernel
theorem d17_4 : decode jdk_41_method_11_code 4 = .ok (.iload_n 0, 1) := by decide +kernel
theorem d17_5 : decode jdk_41_method_11_code 5 = .ok (.iload_n 1, 1) := by decide +kernel
theorem d17_6 : decode jdk_41_method_11_code 6 = .ok (.if_icmp .lt 10, 3) := by decide +kernel
theorem d17_9 : decode jdk_41_method_11_code 9 = .ok (.aload_n 2, 1) := by decide +kernel
theorem d17_10 : decode jdk_41_method_11_code 10 = .ok (.iload_n 0, 1) := by decide +kernel
theorem d17_11 : decode jdk_41_method_11_code 11 = .ok (.iload_n 1, 1) := by decide +kernel
theorem d17_12 : decode jdk_41_method_11_code 12 = .ok (.invokestatic 95, 3) := by decide +kernel
theorem d17_15 : decode jdk_41_method_11_code 15 = .ok (.athrow, 1) := by decide +kernel
theorem d17_16 : decode jdk_41_method_11_code 16 = .ok (.iload_n 0, 1) := by decide +kernel
theorem d17_17 : decode jdk_41_method_11_code 17 = .ok (.ireturn, 1) := by decide +kernel
theorem d18_0 : decode jdk_38_method_18_code 0 = .ok (.aload_n 0, 1) := by decide +kernel
theorem d18_1 : decode jdk_38_method_18_code 1 = .ok (.getfield 9, 3) := by decide +kernel
theorem d18_4 : decode jdk_38_method_18_code 4 = .ok (.iload_n 1, 1) := by decide +kernel
theorem d18_5 : decode jdk_38_method_18_code 5 = .ok (.aaload, 1) := by decide +kernel
theorem d18_6 : decode jdk_38_method_18_code 6 = .ok (.areturn, 1) := by decide +kernel
theorem d19_0 : decode prog_65_method_4_code 0 = .ok (.aload_n 0, 1) := by decide +kernel
theorem d19_1 : decode prog_65_method_4_code 1 = .ok (.getfield 7, 3) := by decide +kernel
theorem d19_4 : decode prog_65_method_4_code 4 = .ok (.getstatic 51, 3) := by decide +kernel
theorem d19_7 : decode prog_65_method_4_code 7 = .ok (.if_acmp .ne 18, 3) := by decide +kernel
theorem d19_10 : decode prog_65_method_4_code 10 = .ok (.aload_n 0, 1) := by decide +kernel
theorem d19_11 : decode prog_65_method_4_code 11 = .ok (.getfield 13, 3) := by decide +kernel
theorem d19_14 : decode prog_65_method_4_code 14 = .ok (.aload_n 1, 1) := by decide +kernel
theorem d19_15 : decode prog_65_method_4_code 15 = .ok (.invokevirtual 45, 3) := by decide +kernel
theorem d19_18 : decode prog_65_method_4_code 18 = .ok (.ifCond .eq 7, 3) := by decide +kernel
theorem d19_21 : decode prog_65_method_4_code 21 = .ok (.iconst 1, 1) := by decide +kernel
theorem d19_22 : decode prog_65_method_4_code 22 = .ok (.goto 4, 3) := by decide +kernel
theorem d19_25 : decode prog_65_method_4_code 25 = .ok (.iconst 0, 1) := by decide +kernel
theorem d19_26 : decode prog_65_method_4_code 26 = .ok (.ireturn, 1) := by decide +kernel
theorem d20_0 : decode jdk_42_method_66_code 0 = .ok (.aload_n 0, 1) := by decide +kernel
theorem d20_1 : decode jdk_42_method_66_code 1 = .ok (.aload_n 1, 1) := by decide +kernel
theorem d20_2 : decode jdk_42_method_66_code 2 = .ok (.if_acmp .ne 5, 3) := by decide +kernel
theorem d20_5 : decode jdk_42_method_66_code 5 = .ok (.iconst 1, 1) := by decide +kernel
theorem d20_6 : decode jdk_42_method_66_code 6 = .ok (.ireturn, 1) := by decide +kernel
theorem d20_7 : decode jdk_42_method_66_code 7 = .ok (.aload_n 1, 1) := by decide +kernel
theorem d20_8 : decode jdk_42_method_66_code 8 = .ok (.instanceof 10, 3) := by decide +kernel
theorem d20_11 : decode jdk_42_method_66_code 11 = .ok (.ifCond .eq 43, 3) := by decide +kernel
theorem d20_14 : decode jdk_42_method_66_code 14 = .ok (.aload_n 1, 1) := by decide +kernel
theorem d20_15 : decode jdk_42_method_66_code 15 = .ok (.checkcast 10, 3) := by decide +kernel
theorem d20_18 : decode jdk_42_method_66_code 18 = .ok (.astore_n 2, 1) := by decide +kernel
theorem d20_19 : decode jdk_42_method_66_code 19 = .ok (.getstatic 38, 3) := by decide +kernel
theorem d20_22 : decode jdk_42_method_66_code 22 = .ok (.ifCond .eq 14, 3) := by decide +kernel
theorem d20_25 : decode jdk_42_method_66_code 25 = .ok (.aload_n 0, 1) := by decide +kernel
theorem d20_26 : decode jdk_42_method_66_code 26 = .ok (.getfield 15, 3) := by decide +kernel
theorem d20_29 : decode jdk_42_method_66_code 29 = .ok (.aload_n 2, 1) := by decide +kernel
theorem d20_30 : decode jdk_42_method_66_code 30 = .ok (.getfield 15, 3) := by decide +kernel
theorem d20_33 : decode jdk_42_method_66_code 33 = .ok (.if_icmp .ne 21, 3) := by decide +kernel
theorem d20_36 : decode jdk_42_method_66_code 36 = .ok (.aload_n 0, 1) := by decide +kernel
theorem d20_37 : decode jdk_42_method_66_code 37 = .ok (.getfield 9, 3) := by decide +kernel
theorem d20_40 : decode jdk_42_method_66_code 40 = .ok (.aload_n 2, 1) := by decide +kernel
theorem d20_41 : decode jdk_42_method_66_code 41 = .ok (.getfield 9, 3) := by decide +kernel
theorem d20_44 : decode jdk_42_method_66_code 44 = .ok (.invokestatic 541, 3) := by decide +kernel
theorem d20_47 : decode jdk_42_method_66_code 47 = .ok (.ifCond .eq 7, 3) := by decide +kernel
theorem d20_50 : decode jdk_42_method_66_code 50 = .ok (.iconst 1, 1) := by decide +kernel
theorem d20_51 : decode jdk_42_method_66_code 51 = .ok (.goto 4, 3) := by decide +kernel
theorem d20_54 : decode jdk_42_method_66_code 54 = .ok (.iconst 0, 1) := by decide +kernel
theorem d20_55 : decode jdk_42_method_66_code 55 = .ok (.ireturn, 1) := by decide +kernel
theorem d21_0 : decode jdk_43_method_13_code 0 = .ok (.aload_n 0, 1) := by decide +kernel
theorem d21_1 : decode jdk_43_method_13_code 1 = .ok (.arraylength, 1) := by decide +kernel
theorem d21_2 : decode jdk_43_method_13_code 2 = .ok (.aload_n 1, 1) := by decide +kernel
theorem d21_3 : decode jdk_43_method_13_code 3 = .ok (.arraylength, 1) := by decide +kernel
theorem d21_4 : decode jdk_43_method_13_code 4 = .ok (.if_icmp .ne 30, 3) := by decide +kernel
theorem d21_7 : decode jdk_43_method_13_code 7 = .ok (.iconst 0, 1) := by decide +kernel
theorem d21_8 : decode jdk_43_method_13_code 8 = .ok (.istore_n 2, 1) := by decide +kernel
theorem d21_9 : decode jdk_43_method_13_code 9 = .ok (.iload_n 2, 1) := by decide +kernel
theorem d21_10 : decode jdk_43_method_13_code 10 = .ok (.aload_n 0, 1) := by decide +kernel
theorem d21_11 : decode jdk_43_method_13_code 11 = .ok (.arraylength, 1) := by decide +kernel
theorem d21_12 : decode jdk_43_method_13_code 12 = .ok (.if_icmp .ge 20, 3) := by decide +kernel
theorem d21_15 : decode jdk_43_method_13_code 15 = .ok (.aload_n 0, 1) := by decide +kernel
theorem d21_16 : decode jdk_43_method_13_code 16 = .ok (.iload_n 2, 1) := by decide +kernel
theorem d21_17 : decode jdk_43_method_13_code 17 = .ok (.baload, 1) := by decide +kernel
theorem d21_18 : decode jdk_43_method_13_code 18 = .ok (.aload_n 1, 1) := by decide +kernel
theorem d21_19 : decode jdk_43_method_13_code 19 = .ok (.iload_n 2, 1) := by decide +kernel
theorem d21_20 : decode jdk_43_method_13_code 20 = .ok (.baload, 1) := by decide +kernel
theorem d21_21 : decode jdk_43_method_13_code 21 = .ok (.if_icmp .eq 5, 3) := by decide +kernel
theorem d21_24 : decode jdk_43_method_13_code 24 = .ok (.iconst 0, 1) := by decide +kernel
theorem d21_25 : decode jdk_43_method_13_code 25 = .ok (.ireturn, 1) := by decide +kernel
theorem d21_26 : decode jdk_43_method_13_code 26 = .ok (.iinc 2 1, 3) := by decide +kernel
theorem d21_29 : decode jdk_43_method_13_code 29 = .ok (.goto (-20), 3) := by decide +kernel
theorem d21_32 : decode jdk_43_method_13_code 32 = .ok (.iconst 1, 1) := by decide +kernel
theorem d21_33 : decode jdk_43_method_13_code 33 = .ok (.ireturn, 1) := by decide +kernel
theorem d21_34 : decode jdk_43_method_13_code 34 = .ok (.iconst 0, 1) := by decide +kernel
theorem d21_35 : decode jdk_43_method_13_code 35 = .ok (.ireturn, 1) := by decide +kernel
theorem d22_0 : decode prog_91_method_12_code 0 = .ok (.iload_n 1, 1) := by decide +kernel
theorem d22_1 : decode prog_91_method_12_code 1 = .ok (.iconst 1, 1) := by decide +kernel
theorem d22_2 : decode prog_91_method_12_code 2 = .ok (.isub, 1) := by decide +kernel
theorem d22_3 : decode prog_91_method_12_code 3 = .ok (.istore_n 2, 1) := by decide +kernel
theorem d22_4 : decode prog_91_method_12_code 4 = .ok (.iload_n 2, 1) := by decide +kernel
theorem d22_5 : decode prog_91_method_12_code 5 = .ok (.ifCond .lt 26, 3) := by decide +kernel
theorem d22_8 : decode prog_91_method_12_code 8 = .ok (.aload_n 0, 1) := by decide +kernel
theorem d22_9 : decode prog_91_method_12_code 9 = .ok (.getfield 19, 3) := by decide +kernel
theorem d22_12 : decode prog_91_method_12_code 12 = .ok (.iload_n 2, 1) := by decide +kernel
theorem d22_13 : decode prog_91_method_12_code 13 = .ok (.iaload, 1) := by decide +kernel
theorem d22_14 : decode prog_91_method_12_code 14 = .ok (.aload_n 0, 1) := by decide +kernel
theorem d22_15 : decode prog_91_method_12_code 15 = .ok (.getfield 19, 3) := by decide +kernel
theorem d22_18 : decode prog_91_method_12_code 18 = .ok (.iload_n 1, 1) := by decide +kernel
theorem d22_19 : decode prog_91_method_12_code 19 = .ok (.iaload, 1) := by decide +kernel
theorem d22_20 : decode prog_91_method_12_code 20 = .ok (.if_icmp .ge 5, 3) := by decide +kernel
theorem d22_23 : decode prog_91_method_12_code 23 = .ok (.iload_n 2, 1) := by decide +kernel
theorem d22_24 : decode prog_91_method_12_code 24 = .ok (.ireturn, 1) := by decide +kernel
theorem d22_25 : decode prog_91_method_12_code 25 = .ok (.iinc 2 (-1), 3) := by decide +kernel
theorem d22_28 : decode prog_91_method_12_code 28 = .ok (.goto (-24), 3) := by decide +kernel
theorem d22_31 : decode prog_91_method_12_code 31 = .ok (.iconst (-1), 1) := by decide +kernel
theorem d22_32 : decode prog_91_method_12_code 32 = .ok (.ireturn, 1) := by decide +kernel
theorem d23_0 : decode method_4_code 0 = .ok (.iload_n 0, 1) := by decide +kernel
theorem d23_1 : decode method_4_code 1 = .ok (.iconst 1, 1) := by decide +kernel
theorem d23_2 : decode method_4_code 2 = .ok (.if_icmp .eq 14, 3) := by decide +kernel
theorem d23_5 : decode method_4_code 5 = .ok (.iload_n 0, 1) := by decide +kernel
theorem d23_6 : decode method_4_code 6 = .ok (.bipush 7, 2) := by decide +kernel
theorem d23_8 : decode method_4_code 8 = .ok (.if_icmp .eq 8, 3) := by decide +kernel
theorem d23_11 : decode method_4_code 11 = .ok (.iload_n 0, 1) := by decide +kernel
theorem d23_12 : decode method_4_code 12 = .ok (.iconst 3, 1) := by decide +kernel
theorem d23_13 : decode method_4_code 13 = .ok (.if_icmp .ne 7, 3) := by decide +kernel
theorem d23_16 : decode method_4_code 16 = .ok (.iconst 1, 1) := by decide +kernel
theorem d23_17 : decode method_4_code 17 = .ok (.goto 4, 3) := by decide +kernel
theorem d23_20 : decode method_4_code 20 = .ok (.iconst 0, 1) := by decide +kernel
theorem d23_21 : decode method_4_code 21 = .ok (.ireturn, 1) := by decide +kernel
theorem d24_0 : decode method_5_code 0 = .ok (.iload_n 2, 1) := by decide +kernel
theorem d24_1 : decode method_5_code 1 = .ok (.invokestatic 33, 3) := by decide +kernel
theorem d24_4 : decode method_5_code 4 = .ok (.ifCond .eq 11, 3) := by decide +kernel
theorem d24_7 : decode method_5_code 7 = .ok (.aload_n 0, 1) := by decide +kernel
theorem d24_8 : decode method_5_code 8 = .ok (.iload_n 1, 1) := by decide +kernel
theorem d24_9 : decode method_5_code 9 = .ok (.iload_n 3, 1) := by decide +kernel
theorem d24_10 : decode method_5_code 10 = .ok (.iastore, 1) := by decide +kernel
theorem d24_11 : decode method_5_code 11 = .ok (.iload_n 1, 1) := by decide +kernel
theorem d24_12 : decode method_5_code 12 = .ok (.iconst 1, 1) := by decide +kernel
theorem d24_13 : decode method_5_code 13 = .ok (.iadd, 1) := by decide +kernel
theorem d24_14 : decode method_5_code 14 = .ok (.ireturn, 1) := by decide +kernel
theorem d24_15 : decode method_5_code 15 = .ok (.iload_n 2, 1) := by decide +kernel
theorem d24_16 : decode method_5_code 16 = .ok (.invokestatic 39, 3) := by decide +kernel
theorem d24_19 : decode method_5_code 19 = .ok (.ifCond .eq 15, 3) := by decide +kernel
theorem d24_22 : decode method_5_code 22 = .ok (.iload_n 1, 1) := by decide +kernel
theorem d24_23 : decode method_5_code 23 = .ok (.ifCond .le 9, 3) := by decide +kernel
theorem d24_26 : decode method_5_code 26 = .ok (.iload_n 1, 1) := by decide +kernel
theorem d24_27 : decode method_5_code 27 = .ok (.iconst 1, 1) := by decide +kernel
theorem d24_28 : decode method_5_code 28 = .ok (.isub, 1) := by decide +kernel
theorem d24_29 : decode method_5_code 29 = .ok (.goto 4, 3) := by decide +kernel
theorem d24_32 : decode method_5_code 32 = .ok (.iconst 0, 1) := by decide +kernel
theorem d24_33 : decode method_5_code 33 = .ok (.ireturn, 1) := by decide +kernel
theorem d24_34 : decode method_5_code 34 = .ok (.iload_n 1, 1) := by decide +kernel
theorem d24_35 : decode method_5_code 35 = .ok (.ireturn, 1) := by decide +kernel
theorem d25_0 : decode method_3_code 0 = .ok (.iload_n 0, 1) := by decide +kernel
theorem d25_1 : decode method_3_code 1 = .ok (.ifCond .eq 14, 3) := by decide +kernel
theorem d25_4 : decode method_3_code 4 = .ok (.iload_n 0, 1) := by decide +kernel
theorem d25_5 : decode method_3_code 5 = .ok (.bipush 6, 2) := by decide +kernel
theorem d25_7 : decode method_3_code 7 = .ok (.if_icmp .eq 8, 3) := by decide +kernel
theorem d25_10 : decode method_3_code 10 = .ok (.iload_n 0, 1) := by decide +kernel
theorem d25_11 : decode method_3_code 11 = .ok (.iconst 2, 1) := by decide +kernel
theorem d25_12 : decode method_3_code 12 = .ok (.if_icmp .ne 7, 3) := by decide +kernel
theorem d25_15 : decode method_3_code 15 = .ok (.iconst 1, 1) := by decide +kernel
theorem d25_16 : decode method_3_code 16 = .ok (.goto 4, 3) := by decide +kernel
theorem d25_19 : decode method_3_code 19 = .ok (.iconst 0, 1) := by decide +kernel
theorem d25_20 : decode method_3_code 20 = .ok (.ireturn, 1) := by decide +kernel
theorem own_ef0 (m : MethodId) (x0 : Int32) : entryFrame m #[(.int x0)] 1 = mkF m 0 #[.val (.int x0)] [] := by first | (simp [entryFrame, mkF, argsToLocals, Value.category]; done) | rfl
theorem own_pn_com_example_isocline_isocline_core_sql_TokensOpeningPinLaw : plainName "com/example/isocline/isocline/core/sql/TokensOpeningPinLaw" = true := by first | (simp [plainName, overriddenIn]; done) | decide +kernel
set_option maxRecDepth 65536 in
set_option maxHeartbeats 40000000 in
theorem own_kop (l : Launch) (Z : State) (az : Array Value) (hw : ∀ d ∈ tables_1, d.before az Z = true) (cc v : Nat) (hc : cc < 8) (hv : (if own_op cc = true then 1 else 0) = v) (h0 : Heap) (n0 : Nat) :
    own_Con l Z (⟨"com/example/isocline/isocline/core/sql/TokensOpeningPinLaw", "opens", "(I)Z"⟩ : MethodName) method_3_code 1 (some FieldType.boolean) ({ frames := 0, cells := 0, slots := 0, locals := 0 } : Room) #[(.int (cc).toInt32)] h0 (fun r h L => r = some (.int (v).toInt32) ∧ h = h0 ∧ L = []) := by
  refine own_con own_pn_com_example_isocline_isocline_core_sql_TokensOpeningPinLaw ?_
  intro p e s m below meth c T0 hx hby hml hZ hown hnm hret hlk X0 e0 eh
  refine own_via (F' := T0.setTop (mkF m 0 #[.val (.int (cc).toInt32)] [])) (fun tz kz => castTop (own_ef0 m _) kz) ?_
  refine own_via (F' := T0.setTop (mkF m 1 #[.val (.int (cc).toInt32)] [(.int (cc).toInt32)])) (fun tz kz => XS.iloadN X0.here hx rfl (hb hby d25_0) rfl kz) ?_
  by_cases q11 : cc = 0
  · refine own_via (F' := T0.setTop (mkF m 15 #[.val (.int (cc).toInt32)] [])) (fun tz kz => XS.ifYes X0.here hx rfl (pc0 := 1) (pc' := 15) rfl (hb hby d25_1) rfl (XT.i0_eq_t ((own_eqI (i := cc) (j := 0) rfl rfl (by omega) (by decide)).mpr q11)) (by decide) (by decide) kz) ?_
    refine own_via (F' := T0.setTop (mkF m 16 #[.val (.int (cc).toInt32)] [(.int (1 : Int32))])) (fun tz kz => XT.iconstV X0.here hx rfl (1 : Int32) (hb hby d25_15) (by decide) kz) ?_
    refine own_via (F' := T0.setTop (mkF m 20 #[.val (.int (cc).toInt32)] [(.int (1 : Int32))])) (fun tz kz => XS.goto X0.here hx rfl (pc0 := 16) (pc' := 20) rfl (hb hby d25_16) (by decide) (by decide) kz) ?_
    have hv2 : v = 1 := hv.symm.trans (if_pos (own_op_t (by omega)))
    exact own_retZ X0 hx hret hlk (hb hby d25_20) ⟨by rw [hv2]; rfl, e0, rfl⟩ (by decide) (by decide)
  · refine own_via (F' := T0.setTop (mkF m 4 #[.val (.int (cc).toInt32)] [])) (fun tz kz => XS.ifNo X0.here hx rfl (hb hby d25_1) rfl (XT.i0_eq_f (fun z => absurd ((own_eqI (i := cc) (j := 0) rfl rfl (by omega) (by decide)).mp z) q11)) kz) ?_
    refine own_via (F' := T0.setTop (mkF m 5 #[.val (.int (cc).toInt32)] [(.int (cc).toInt32)])) (fun tz kz => XS.iloadN X0.here hx rfl (hb hby d25_4) rfl kz) ?_
    refine own_via (F' := T0.setTop (mkF m 7 #[.val (.int (cc).toInt32)] [(.int (6 : Int32)), (.int (cc).toInt32)])) (fun tz kz => XT.bipushV X0.here hx rfl (6 : Int32) (hb hby d25_5) (by decide) kz) ?_
    by_cases q12 : cc = 6
    · refine own_via (F' := T0.setTop (mkF m 15 #[.val (.int (cc).toInt32)] [])) (fun tz kz => XS.icmpYes X0.here hx rfl (pc0 := 7) (pc' := 15) rfl (hb hby d25_7) rfl (XT.ii_eq_t ((own_eqI (i := cc) (j := 6) rfl rfl (by omega) (by decide)).mpr q12)) (by decide) (by decide) kz) ?_
      refine own_via (F' := T0.setTop (mkF m 16 #[.val (.int (cc).toInt32)] [(.int (1 : Int32))])) (fun tz kz => XT.iconstV X0.here hx rfl (1 : Int32) (hb hby d25_15) (by decide) kz) ?_
      refine own_via (F' := T0.setTop (mkF m 20 #[.val (.int (cc).toInt32)] [(.int (1 : Int32))])) (fun tz kz => XS.goto X0.here hx rfl (pc0 := 16) (pc' := 20) rfl (hb hby d25_16) (by decide) (by decide) kz) ?_
      have hv2 : v = 1 := hv.symm.trans (if_pos (own_op_t (by omega)))
      exact own_retZ X0 hx hret hlk (hb hby d25_20) ⟨by rw [hv2]; rfl, e0, rfl⟩ (by decide) (by decide)
    · refine own_via (F' := T0.setTop (mkF m 10 #[.val (.int (cc).toInt32)] [])) (fun tz kz => XS.icmpNo X0.here hx rfl (hb hby d25_7) rfl (XT.ii_eq_f (fun z => absurd ((own_eqI (i := cc) (j := 6) rfl rfl (by omega) (by decide)).mp z) q12)) kz) ?_
      refine own_via (F' := T0.setTop (mkF m 11 #[.val (.int (cc).toInt32)] [(.int (cc).toInt32)])) (fun tz kz => XS.iloadN X0.here hx rfl (hb hby d25_10) rfl kz) ?_
      refine own_via (F' := T0.setTop (mkF m 12 #[.val (.int (cc).toInt32)] [(.int (2 : Int32)), (.int (cc).toInt32)])) (fun tz kz => XT.iconstV X0.here hx rfl (2 : Int32) (hb hby d25_11) (by decide) kz) ?_
      by_cases q13 : cc = 2
      · refine own_via (F' := T0.setTop (mkF m 15 #[.val (.int (cc).toInt32)] [])) (fun tz kz => XS.icmpNo X0.here hx rfl (hb hby d25_12) rfl (XT.ii_ne_f ((own_eqI (i := cc) (j := 2) rfl rfl (by omega) (by decide)).mpr q13)) kz) ?_
        refine own_via (F' := T0.setTop (mkF m 16 #[.val (.int (cc).toInt32)] [(.int (1 : Int32))])) (fun tz kz => XT.iconstV X0.here hx rfl (1 : Int32) (hb hby d25_15) (by decide) kz) ?_
        refine own_via (F' := T0.setTop (mkF m 20 #[.val (.int (cc).toInt32)] [(.int (1 : Int32))])) (fun tz kz => XS.goto X0.here hx rfl (pc0 := 16) (pc' := 20) rfl (hb hby d25_16) (by decide) (by decide) kz) ?_
        have hv2 : v = 1 := hv.symm.trans (if_pos (own_op_t (by omega)))
        exact own_retZ X0 hx hret hlk (hb hby d25_20) ⟨by rw [hv2]; rfl, e0, rfl⟩ (by decide) (by decide)
      · refine own_via (F' := T0.setTop (mkF m 19 #[.val (.int (cc).toInt32)] [])) (fun tz kz => XS.icmpYes X0.here hx rfl (pc0 := 12) (pc' := 19) rfl (hb hby d25_12) rfl (XT.ii_ne_t (fun z => absurd ((own_eqI (i := cc) (j := 2) rfl rfl (by omega) (by decide)).mp z) q13)) (by decide) (by decide) kz) ?_
        refine own_via (F' := T0.setTop (mkF m 20 #[.val (.int (cc).toInt32)] [(.int (0 : Int32))])) (fun tz kz => XT.iconstV X0.here hx rfl (0 : Int32) (hb hby d25_19) (by decide) kz) ?_
        have hv2 : v = 0 := hv.symm.trans (if_neg (own_op_f (by omega)))
        exact own_retZ X0 hx hret hlk (hb hby d25_20) ⟨by rw [hv2]; rfl, e0, rfl⟩ (by decide) (by decide)
set_option maxRecDepth 65536 in
set_option maxHeartbeats 40000000 in
theorem own_kcl (l : Launch) (Z : State) (az : Array Value) (hw : ∀ d ∈ tables_1, d.before az Z = true) (cc v : Nat) (hc : cc < 8) (hv : (if own_cl cc = true then 1 else 0) = v) (h0 : Heap) (n0 : Nat) :
    own_Con l Z (⟨"com/example/isocline/isocline/core/sql/TokensOpeningPinLaw", "closes", "(I)Z"⟩ : MethodName) method_4_code 1 (some FieldType.boolean) ({ frames := 0, cells := 0, slots := 0, locals := 0 } : Room) #[(.int (cc).toInt32)] h0 (fun r h L => r = some (.int (v).toInt32) ∧ h = h0 ∧ L = []) := by
  refine own_con own_pn_com_example_isocline_isocline_core_sql_TokensOpeningPinLaw ?_
  intro p e s m below meth c T0 hx hby hml hZ hown hnm hret hlk X0 e0 eh
  refine own_via (F' := T0.setTop (mkF m 0 #[.val (.int (cc).toInt32)] [])) (fun tz kz => castTop (own_ef0 m _) kz) ?_
  refine own_via (F' := T0.setTop (mkF m 1 #[.val (.int (cc).toInt32)] [(.int (cc).toInt32)])) (fun tz kz => XS.iloadN X0.here hx rfl (hb hby d23_0) rfl kz) ?_
  refine own_via (F' := T0.setTop (mkF m 2 #[.val (.int (cc).toInt32)] [(.int (1 : Int32)), (.int (cc).toInt32)])) (fun tz kz => XT.iconstV X0.here hx rfl (1 : Int32) (hb hby d23_1) (by decide) kz) ?_
  by_cases q11 : cc = 1
  · refine own_via (F' := T0.setTop (mkF m 16 #[.val (.int (cc).toInt32)] [])) (fun tz kz => XS.icmpYes X0.here hx rfl (pc0 := 2) (pc' := 16) rfl (hb hby d23_2) rfl (XT.ii_eq_t ((own_eqI (i := cc) (j := 1) rfl rfl (by omega) (by decide)).mpr q11)) (by decide) (by decide) kz) ?_
    refine own_via (F' := T0.setTop (mkF m 17 #[.val (.int (cc).toInt32)] [(.int (1 : Int32))])) (fun tz kz => XT.iconstV X0.here hx rfl (1 : Int32) (hb hby d23_16) (by decide) kz) ?_
    refine own_via (F' := T0.setTop (mkF m 21 #[.val (.int (cc).toInt32)] [(.int (1 : Int32))])) (fun tz kz => XS.goto X0.here hx rfl (pc0 := 17) (pc' := 21) rfl (hb hby d23_17) (by decide) (by decide) kz) ?_
    have hv2 : v = 1 := hv.symm.trans (if_pos (own_cl_t (by omega)))
    exact own_retZ X0 hx hret hlk (hb hby d23_21) ⟨by rw [hv2]; rfl, e0, rfl⟩ (by decide) (by decide)
  · refine own_via (F' := T0.setTop (mkF m 5 #[.val (.int (cc).toInt32)] [])) (fun tz kz => XS.icmpNo X0.here hx rfl (hb hby d23_2) rfl (XT.ii_eq_f (fun z => absurd ((own_eqI (i := cc) (j := 1) rfl rfl (by omega) (by decide)).mp z) q11)) kz) ?_
    refine own_via (F' := T0.setTop (mkF m 6 #[.val (.int (cc).toInt32)] [(.int (cc).toInt32)])) (fun tz kz => XS.iloadN X0.here hx rfl (hb hby d23_5) rfl kz) ?_
    refine own_via (F' := T0.setTop (mkF m 8 #[.val (.int (cc).toInt32)] [(.int (7 : Int32)), (.int (cc).toInt32)])) (fun tz kz => XT.bipushV X0.here hx rfl (7 : Int32) (hb hby d23_6) (by decide) kz) ?_
    by_cases q12 : cc = 7
    · refine own_via (F' := T0.setTop (mkF m 16 #[.val (.int (cc).toInt32)] [])) (fun tz kz => XS.icmpYes X0.here hx rfl (pc0 := 8) (pc' := 16) rfl (hb hby d23_8) rfl (XT.ii_eq_t ((own_eqI (i := cc) (j := 7) rfl rfl (by omega) (by decide)).mpr q12)) (by decide) (by decide) kz) ?_
      refine own_via (F' := T0.setTop (mkF m 17 #[.val (.int (cc).toInt32)] [(.int (1 : Int32))])) (fun tz kz => XT.iconstV X0.here hx rfl (1 : Int32) (hb hby d23_16) (by decide) kz) ?_
      refine own_via (F' := T0.setTop (mkF m 21 #[.val (.int (cc).toInt32)] [(.int (1 : Int32))])) (fun tz kz => XS.goto X0.here hx rfl (pc0 := 17) (pc' := 21) rfl (hb hby d23_17) (by decide) (by decide) kz) ?_
      have hv2 : v = 1 := hv.symm.trans (if_pos (own_cl_t (by omega)))
      exact own_retZ X0 hx hret hlk (hb hby d23_21) ⟨by rw [hv2]; rfl, e0, rfl⟩ (by decide) (by decide)
    · refine own_via (F' := T0.setTop (mkF m 11 #[.val (.int (cc).toInt32)] [])) (fun tz kz => XS.icmpNo X0.here hx rfl (hb hby d23_8) rfl (XT.ii_eq_f (fun z => absurd ((own_eqI (i := cc) (j := 7) rfl rfl (by omega) (by decide)).mp z) q12)) kz) ?_
      refine own_via (F' := T0.setTop (mkF m 12 #[.val (.int (cc).toInt32)] [(.int (cc).toInt32)])) (fun tz kz => XS.iloadN X0.here hx rfl (hb hby d23_11) rfl kz) ?_
      refine own_via (F' := T0.setTop (mkF m 13 #[.val (.int (cc).toInt32)] [(.int (3 : Int32)), (.int (cc).toInt32)])) (fun tz kz => XT.iconstV X0.here hx rfl (3 : Int32) (hb hby d23_12) (by decide) kz) ?_
      by_cases q13 : cc = 3
      · refine own_via (F' := T0.setTop (mkF m 16 #[.val (.int (cc).toInt32)] [])) (fun tz kz => XS.icmpNo X0.here hx rfl (hb hby d23_13) rfl (XT.ii_ne_f ((own_eqI (i := cc) (j := 3) rfl rfl (by omega) (by decide)).mpr q13)) kz) ?_
        refine own_via (F' := T0.setTop (mkF m 17 #[.val (.int (cc).toInt32)] [(.int (1 : Int32))])) (fun tz kz => XT.iconstV X0.here hx rfl (1 : Int32) (hb hby d23_16) (by decide) kz) ?_
        refine own_via (F' := T0.setTop (mkF m 21 #[.val (.int (cc).toInt32)] [(.int (1 : Int32))])) (fun tz kz => XS.goto X0.here hx rfl (pc0 := 17) (pc' := 21) rfl (hb hby d23_17) (by decide) (by decide) kz) ?_
        have hv2 : v = 1 := hv.symm.trans (if_pos (own_cl_t (by omega)))
        exact own_retZ X0 hx hret hlk (hb hby d23_21) ⟨by rw [hv2]; rfl, e0, rfl⟩ (by decide) (by decide)
      · refine own_via (F' := T0.setTop (mkF m 20 #[.val (.int (cc).toInt32)] [])) (fun tz kz => XS.icmpYes X0.here hx rfl (pc0 := 13) (pc' := 20) rfl (hb hby d23_13) rfl (XT.ii_ne_t (fun z => absurd ((own_eqI (i := cc) (j := 3) rfl rfl (by omega) (by decide)).mp z) q13)) (by decide) (by decide) kz) ?_
        refine own_via (F' := T0.setTop (mkF m 21 #[.val (.int (cc).toInt32)] [(.int (0 : Int32))])) (fun tz kz => XT.iconstV X0.here hx rfl (0 : Int32) (hb hby d23_20) (by decide) kz) ?_
        have hv2 : v = 0 := hv.symm.trans (if_neg (own_cl_f (by omega)))
        exact own_retZ X0 hx hret hlk (hb hby d23_21) ⟨by rw [hv2]; rfl, e0, rfl⟩ (by decide) (by decide)
theorem own_ef2 (m : MethodId) (x0 : Int32) (x1 : Int32) : entryFrame m #[(.int x0), (.int x1)] 2 = mkF m 0 #[.val (.int x0), .val (.int x1)] [] := by first | (simp [entryFrame, mkF, argsToLocals, Value.category]; done) | rfl
set_option maxRecDepth 65536 in
set_option maxHeartbeats 40000000 in
theorem own_kmx (l : Launch) (Z : State) (az : Array Value) (hw : ∀ d ∈ tables_1, d.before az Z = true) (x y v : Int32) (hv : (if x < y then y else x) = v) (h0 : Heap) (n0 : Nat) :
    own_Con l Z (⟨"java/lang/Math", "max", "(II)I"⟩ : MethodName) jdk_29_method_65_code 2 (some FieldType.int) ({ frames := 0, cells := 0, slots := 0, locals := 0 } : Room) #[(.int x), (.int y)] h0 (fun r h L => r = some (.int v) ∧ h = h0 ∧ L = []) := by
  refine own_conF own_pnM ?_
  intro p e s m below meth c T0 hx hby hml hZ hown hnm hret hlk X0 e0 eh
  refine own_via (F' := T0.setTop (mkF m 0 #[.val (.int x), .val (.int y)] [])) (fun tz kz => castTop (own_ef2 m _ _) kz) ?_
  refine own_via (F' := T0.setTop (mkF m 1 #[.val (.int x), .val (.int y)] [(.int x)])) (fun tz kz => XS.iloadN X0.here hx rfl (hb hby d12_0) rfl kz) ?_
  refine own_via (F' := T0.setTop (mkF m 2 #[.val (.int x), .val (.int y)] [(.int y), (.int x)])) (fun tz kz => XS.iloadN X0.here hx rfl (hb hby d12_1) rfl kz) ?_
  by_cases q11 : x < y
  · refine own_via (F' := T0.setTop (mkF m 9 #[.val (.int x), .val (.int y)] [])) (fun tz kz => XS.icmpYes X0.here hx rfl (pc0 := 2) (pc' := 9) rfl (hb hby d12_2) rfl (XT.ii_lt_t q11) (by decide) (by decide) kz) ?_
    refine own_via (F' := T0.setTop (mkF m 10 #[.val (.int x), .val (.int y)] [(.int y)])) (fun tz kz => XS.iloadN X0.here hx rfl (hb hby d12_9) rfl kz) ?_
    exact own_retI X0 hx hret hlk (hb hby d12_10) ⟨by rw [← hv, if_pos q11], e0, rfl⟩ (by decide) (by decide)
  · refine own_via (F' := T0.setTop (mkF m 5 #[.val (.int x), .val (.int y)] [])) (fun tz kz => XS.icmpNo X0.here hx rfl (hb hby d12_2) rfl (XT.ii_lt_f q11) kz) ?_
    refine own_via (F' := T0.setTop (mkF m 6 #[.val (.int x), .val (.int y)] [(.int x)])) (fun tz kz => XS.iloadN X0.here hx rfl (hb hby d12_5) rfl kz) ?_
    refine own_via (F' := T0.setTop (mkF m 10 #[.val (.int x), .val (.int y)] [(.int x)])) (fun tz kz => XS.goto X0.here hx rfl (pc0 := 6) (pc' := 10) rfl (hb hby d12_6) (by decide) (by decide) kz) ?_
    exact own_retI X0 hx hret hlk (hb hby d12_10) ⟨by rw [← hv, if_neg q11], e0, rfl⟩ (by decide) (by decide)
theorem own_ef3 (m : MethodId) (x0 : Nat) (x1 : Int32) (x2 : Int32) (x3 : Int32) : entryFrame m #[(.ref x0), (.int x1), (.int x2), (.int x3)] 4 = mkF m 0 #[.val (.ref x0), .val (.int x1), .val (.int x2), .val (.int x3)] [] := by first | (simp [entryFrame, mkF, argsToLocals, Value.category]; done) | rfl
set_option maxRecDepth 65536 in
set_option maxHeartbeats 40000000 in
theorem own_kst (l : Launch) (Z : State) (az : Array Value) (hw : ∀ d ∈ tables_1, d.before az Z = true) (st sp cc i : Nat) (φ : Nat → Nat) (hc : cc < 8) (hsp : sp < 5) (hi : i < 5) (h0 : Heap) (n0 : Nat) (A0 : own_I Z h0 st 5 φ) (G0 : n0 ≤ st) :
    own_Con l Z (⟨"com/example/isocline/isocline/core/sql/TokensOpeningPinLaw", "step", "([IIII)I"⟩ : MethodName) method_5_code 4 (some FieldType.int) ({ frames := 1, cells := 0, slots := 0, locals := 12 } : Room) #[(.ref st), (.int (sp).toInt32), (.int (cc).toInt32), (.int (i).toInt32)] h0 (fun r h L => r = some (.int (if own_op cc = true then sp + 1 else if own_cl cc = true then sp - 1 else sp).toInt32) ∧ Fr n0 L ∧ Keep h0 h [st] ∧ own_I Z h st 5 (fun j => if own_op cc = true ∧ j = sp then i else φ j)) := by
  refine own_con own_pn_com_example_isocline_isocline_core_sql_TokensOpeningPinLaw ?_
  intro p e s m below meth c T0 hx hby hml hZ hown hnm hret hlk X0 e0 eh
  by_cases ho : own_op cc = true
  · refine own_via (F' := T0.setTop (mkF m 0 #[.val (.ref st), .val (.int (sp).toInt32), .val (.int (cc).toInt32), .val (.int (i).toInt32)] [])) (fun tz kz => castTop (own_ef3 m _ _ _ _) kz) ?_
    refine own_via (F' := T0.setTop (mkF m 1 #[.val (.ref st), .val (.int (sp).toInt32), .val (.int (cc).toInt32), .val (.int (i).toInt32)] [(.int (cc).toInt32)])) (fun tz kz => XS.iloadN X0.here hx rfl (hb hby d24_0) rfl kz) ?_
    refine own_callS X0 hx hZ (own_kop l Z az hw cc 1 hc (if_pos ho) h0 n0) hown (hw _ (List.mem_of_getElem? (i := 175) rfl)) (hw _ (List.mem_of_getElem? (i := 176) rfl)) (hw _ (List.mem_of_getElem? (i := 4) rfl)) (hw _ (List.mem_of_getElem? (i := 177) rfl)) (by decide) e0 (g := (mkF m 1 #[.val (.ref st), .val (.int (sp).toInt32), .val (.int (cc).toInt32), .val (.int (i).toInt32)] [(.int (cc).toInt32)])) rfl (by rw [hml]; rfl) (argsL := [(.int (cc).toInt32)]) (rest := []) rfl (lenOf own_pd0 rfl) rfl 0 (by show 2 * 0 + _ ≤ _; exact Nat.le_of_eq rfl) (hb hby d24_1) (by decide) (by decide) (by decide) (by decide) ?_
    intro v11 T11 L11 hQ11 X11
    obtain ⟨rfl, e11, rfl⟩ := hQ11
    refine own_via (F' := T11.setTop (mkF m 4 #[.val (.ref st), .val (.int (sp).toInt32), .val (.int (cc).toInt32), .val (.int (i).toInt32)] [(.int (1 : Int32))])) (fun tz kz => kz) ?_
    refine own_via (F' := T11.setTop (mkF m 7 #[.val (.ref st), .val (.int (sp).toInt32), .val (.int (cc).toInt32), .val (.int (i).toInt32)] [])) (fun tz kz => XS.ifNo X11.here hx rfl (hb hby d24_4) rfl (XT.i0_eq_f (by decide)) kz) ?_
    refine own_via (F' := T11.setTop (mkF m 8 #[.val (.ref st), .val (.int (sp).toInt32), .val (.int (cc).toInt32), .val (.int (i).toInt32)] [(.ref st)])) (fun tz kz => XS.aloadN X11.here hx rfl (hb hby d24_7) rfl rfl kz) ?_
    refine own_via (F' := T11.setTop (mkF m 9 #[.val (.ref st), .val (.int (sp).toInt32), .val (.int (cc).toInt32), .val (.int (i).toInt32)] [(.int (sp).toInt32), (.ref st)])) (fun tz kz => XS.iloadN X11.here hx rfl (hb hby d24_8) rfl kz) ?_
    refine own_via (F' := T11.setTop (mkF m 10 #[.val (.ref st), .val (.int (sp).toInt32), .val (.int (cc).toInt32), .val (.int (i).toInt32)] [(.int (i).toInt32), (.int (sp).toInt32), (.ref st)])) (fun tz kz => XS.iloadN X11.here hx rfl (hb hby d24_9) rfl kz) ?_
    obtain ⟨T12, h12, X12, e12, W12, s12⟩ := A0.store X11 hx hZ e11 (j := sp) rfl hsp (by decide) (g := (mkF m 10 #[.val (.ref st), .val (.int (sp).toInt32), .val (.int (cc).toInt32), .val (.int (i).toInt32)] [(.int (i).toInt32), (.int (sp).toInt32), (.ref st)])) rfl rfl (hb hby d24_10)
    have F12 : own_I Z h12 st (5) (fun zz => if zz = sp then i else φ zz) := A0.set W12 (y := i) rfl
    obtain ⟨y12, Y12⟩ : ∃ z : Nat → Nat, z = fun zz => if zz = sp then i else φ zz := ⟨_, rfl⟩
    rw [← Y12] at F12
    have N12 := Fr.snoc X12 (Fr.app (Fr.nil n0) (Fr.nil _)) G0
    refine own_via (F' := T12.setTop (mkF m 11 #[.val (.ref st), .val (.int (sp).toInt32), .val (.int (cc).toInt32), .val (.int (i).toInt32)] [])) s12 ?_
    refine own_via (F' := T12.setTop (mkF m 12 #[.val (.ref st), .val (.int (sp).toInt32), .val (.int (cc).toInt32), .val (.int (i).toInt32)] [(.int (sp).toInt32)])) (fun tz kz => XS.iloadN X12.here hx rfl (hb hby d24_11) rfl kz) ?_
    refine own_via (F' := T12.setTop (mkF m 13 #[.val (.ref st), .val (.int (sp).toInt32), .val (.int (cc).toInt32), .val (.int (i).toInt32)] [(.int (1 : Int32)), (.int (sp).toInt32)])) (fun tz kz => XT.iconstV X12.here hx rfl (1 : Int32) (hb hby d24_12) (by decide) kz) ?_
    refine own_via (F' := T12.setTop (mkF m 14 #[.val (.ref st), .val (.int (sp).toInt32), .val (.int (cc).toInt32), .val (.int (i).toInt32)] [(.int (sp + 1).toInt32)])) (fun tz kz => XS.iadd X12.here hx rfl (hb hby d24_13) rfl (by rw [own_succ]; exact kz)) ?_
    exact own_retI X12 hx hret hlk (hb hby d24_14) (by rw [e12]; exact ⟨by rw [if_pos ho], N12, ((Keep.refl h0 [st]).wr W12 (Or.inl (List.mem_of_getElem? (i := 0) rfl))), F12.congr (fun x hx => by rw [Y12]; dsimp only; exact if q : x = sp then (by rw [if_pos q, if_pos ⟨ho, q⟩]) else (by rw [if_neg q, if_neg (fun z => q z.2)]))⟩) (by decide) (by decide)
  · by_cases hq : own_cl cc = true
    · refine own_via (F' := T0.setTop (mkF m 0 #[.val (.ref st), .val (.int (sp).toInt32), .val (.int (cc).toInt32), .val (.int (i).toInt32)] [])) (fun tz kz => castTop (own_ef3 m _ _ _ _) kz) ?_
      refine own_via (F' := T0.setTop (mkF m 1 #[.val (.ref st), .val (.int (sp).toInt32), .val (.int (cc).toInt32), .val (.int (i).toInt32)] [(.int (cc).toInt32)])) (fun tz kz => XS.iloadN X0.here hx rfl (hb hby d24_0) rfl kz) ?_
      refine own_callS X0 hx hZ (own_kop l Z az hw cc 0 hc (if_neg ho) h0 n0) hown (hw _ (List.mem_of_getElem? (i := 175) rfl)) (hw _ (List.mem_of_getElem? (i := 176) rfl)) (hw _ (List.mem_of_getElem? (i := 4) rfl)) (hw _ (List.mem_of_getElem? (i := 177) rfl)) (by decide) e0 (g := (mkF m 1 #[.val (.ref st), .val (.int (sp).toInt32), .val (.int (cc).toInt32), .val (.int (i).toInt32)] [(.int (cc).toInt32)])) rfl (by rw [hml]; rfl) (argsL := [(.int (cc).toInt32)]) (rest := []) rfl (lenOf own_pd0 rfl) rfl 0 (by show 2 * 0 + _ ≤ _; exact Nat.le_of_eq rfl) (hb hby d24_1) (by decide) (by decide) (by decide) (by decide) ?_
      intro v13 T13 L13 hQ13 X13
      obtain ⟨rfl, e13, rfl⟩ := hQ13
      refine own_via (F' := T13.setTop (mkF m 4 #[.val (.ref st), .val (.int (sp).toInt32), .val (.int (cc).toInt32), .val (.int (i).toInt32)] [(.int (0 : Int32))])) (fun tz kz => kz) ?_
      refine own_via (F' := T13.setTop (mkF m 15 #[.val (.ref st), .val (.int (sp).toInt32), .val (.int (cc).toInt32), .val (.int (i).toInt32)] [])) (fun tz kz => XS.ifYes X13.here hx rfl (pc0 := 4) (pc' := 15) rfl (hb hby d24_4) rfl (XT.i0_eq_t (by decide)) (by decide) (by decide) kz) ?_
      refine own_via (F' := T13.setTop (mkF m 16 #[.val (.ref st), .val (.int (sp).toInt32), .val (.int (cc).toInt32), .val (.int (i).toInt32)] [(.int (cc).toInt32)])) (fun tz kz => XS.iloadN X13.here hx rfl (hb hby d24_15) rfl kz) ?_
      refine own_callS X13 hx hZ (own_kcl l Z az hw cc 1 hc (if_pos hq) h0 n0) hown (hw _ (List.mem_of_getElem? (i := 165) rfl)) (hw _ (List.mem_of_getElem? (i := 166) rfl)) (hw _ (List.mem_of_getElem? (i := 4) rfl)) (hw _ (List.mem_of_getElem? (i := 167) rfl)) (by decide) e13 (g := (mkF m 16 #[.val (.ref st), .val (.int (sp).toInt32), .val (.int (cc).toInt32), .val (.int (i).toInt32)] [(.int (cc).toInt32)])) rfl (by rw [hml]; rfl) (argsL := [(.int (cc).toInt32)]) (rest := []) rfl (lenOf own_pd0 rfl) rfl 0 (by show 2 * 0 + _ ≤ _; exact Nat.le_of_eq rfl) (hb hby d24_16) (by decide) (by decide) (by decide) (by decide) ?_
      intro v14 T14 L14 hQ14 X14
      obtain ⟨rfl, e14, rfl⟩ := hQ14
      refine own_via (F' := T14.setTop (mkF m 19 #[.val (.ref st), .val (.int (sp).toInt32), .val (.int (cc).toInt32), .val (.int (i).toInt32)] [(.int (1 : Int32))])) (fun tz kz => kz) ?_
      refine own_via (F' := T14.setTop (mkF m 22 #[.val (.ref st), .val (.int (sp).toInt32), .val (.int (cc).toInt32), .val (.int (i).toInt32)] [])) (fun tz kz => XS.ifNo X14.here hx rfl (hb hby d24_19) rfl (XT.i0_eq_f (by decide)) kz) ?_
      refine own_via (F' := T14.setTop (mkF m 23 #[.val (.ref st), .val (.int (sp).toInt32), .val (.int (cc).toInt32), .val (.int (i).toInt32)] [(.int (sp).toInt32)])) (fun tz kz => XS.iloadN X14.here hx rfl (hb hby d24_22) rfl kz) ?_
      by_cases q15 : 0 < sp
      · refine own_via (F' := T14.setTop (mkF m 26 #[.val (.ref st), .val (.int (sp).toInt32), .val (.int (cc).toInt32), .val (.int (i).toInt32)] [])) (fun tz kz => XS.ifNo X14.here hx rfl (hb hby d24_23) rfl (XT.i0_le_f ((own_ltI (i := 0) (j := sp) rfl rfl (by decide) (by omega)).mpr q15)) kz) ?_
        refine own_via (F' := T14.setTop (mkF m 27 #[.val (.ref st), .val (.int (sp).toInt32), .val (.int (cc).toInt32), .val (.int (i).toInt32)] [(.int (sp).toInt32)])) (fun tz kz => XS.iloadN X14.here hx rfl (hb hby d24_26) rfl kz) ?_
        refine own_via (F' := T14.setTop (mkF m 28 #[.val (.ref st), .val (.int (sp).toInt32), .val (.int (cc).toInt32), .val (.int (i).toInt32)] [(.int (1 : Int32)), (.int (sp).toInt32)])) (fun tz kz => XT.iconstV X14.here hx rfl (1 : Int32) (hb hby d24_27) (by decide) kz) ?_
        refine own_via (F' := T14.setTop (mkF m 29 #[.val (.ref st), .val (.int (sp).toInt32), .val (.int (cc).toInt32), .val (.int (i).toInt32)] [(.int (sp - 1).toInt32)])) (fun tz kz => XS.isub X14.here hx rfl (hb hby d24_28) rfl (by rw [own_pred (by omega)]; exact kz)) ?_
        refine own_via (F' := T14.setTop (mkF m 33 #[.val (.ref st), .val (.int (sp).toInt32), .val (.int (cc).toInt32), .val (.int (i).toInt32)] [(.int (sp - 1).toInt32)])) (fun tz kz => XS.goto X14.here hx rfl (pc0 := 29) (pc' := 33) rfl (hb hby d24_29) (by decide) (by decide) kz) ?_
        exact own_retI X14 hx hret hlk (hb hby d24_33) (by rw [e14]; exact ⟨(by rw [if_neg ho, if_pos hq]), (Fr.app (Fr.app (Fr.nil n0) (Fr.nil _)) (Fr.nil _)), Keep.refl _ _, A0.congr (fun x hx => by rw [if_neg (fun z => ho z.1)])⟩) (by decide) (by decide)
      · refine own_via (F' := T14.setTop (mkF m 32 #[.val (.ref st), .val (.int (sp).toInt32), .val (.int (cc).toInt32), .val (.int (i).toInt32)] [])) (fun tz kz => XS.ifYes X14.here hx rfl (pc0 := 23) (pc' := 32) rfl (hb hby d24_23) rfl (XT.i0_le_t (fun z => absurd ((own_ltI (i := 0) (j := sp) rfl rfl (by decide) (by omega)).mp z) q15)) (by decide) (by decide) kz) ?_
        refine own_via (F' := T14.setTop (mkF m 33 #[.val (.ref st), .val (.int (sp).toInt32), .val (.int (cc).toInt32), .val (.int (i).toInt32)] [(.int (0 : Int32))])) (fun tz kz => XT.iconstV X14.here hx rfl (0 : Int32) (hb hby d24_32) (by decide) kz) ?_
        exact own_retI X14 hx hret hlk (hb hby d24_33) (by rw [e14]; exact ⟨(by rw [if_neg ho, if_pos hq, show sp - 1 = 0 from by omega]; rfl), (Fr.app (Fr.app (Fr.nil n0) (Fr.nil _)) (Fr.nil _)), Keep.refl _ _, A0.congr (fun x hx => by rw [if_neg (fun z => ho z.1)])⟩) (by decide) (by decide)
    · refine own_via (F' := T0.setTop (mkF m 0 #[.val (.ref st), .val (.int (sp).toInt32), .val (.int (cc).toInt32), .val (.int (i).toInt32)] [])) (fun tz kz => castTop (own_ef3 m _ _ _ _) kz) ?_
      refine own_via (F' := T0.setTop (mkF m 1 #[.val (.ref st), .val (.int (sp).toInt32), .val (.int (cc).toInt32), .val (.int (i).toInt32)] [(.int (cc).toInt32)])) (fun tz kz => XS.iloadN X0.here hx rfl (hb hby d24_0) rfl kz) ?_
      refine own_callS X0 hx hZ (own_kop l Z az hw cc 0 hc (if_neg ho) h0 n0) hown (hw _ (List.mem_of_getElem? (i := 175) rfl)) (hw _ (List.mem_of_getElem? (i := 176) rfl)) (hw _ (List.mem_of_getElem? (i := 4) rfl)) (hw _ (List.mem_of_getElem? (i := 177) rfl)) (by decide) e0 (g := (mkF m 1 #[.val (.ref st), .val (.int (sp).toInt32), .val (.int (cc).toInt32), .val (.int (i).toInt32)] [(.int (cc).toInt32)])) rfl (by rw [hml]; rfl) (argsL := [(.int (cc).toInt32)]) (rest := []) rfl (lenOf own_pd0 rfl) rfl 0 (by show 2 * 0 + _ ≤ _; exact Nat.le_of_eq rfl) (hb hby d24_1) (by decide) (by decide) (by decide) (by decide) ?_
      intro v16 T16 L16 hQ16 X16
      obtain ⟨rfl, e16, rfl⟩ := hQ16
      refine own_via (F' := T16.setTop (mkF m 4 #[.val (.ref st), .val (.int (sp).toInt32), .val (.int (cc).toInt32), .val (.int (i).toInt32)] [(.int (0 : Int32))])) (fun tz kz => kz) ?_
      refine own_via (F' := T16.setTop (mkF m 15 #[.val (.ref st), .val (.int (sp).toInt32), .val (.int (cc).toInt32), .val (.int (i).toInt32)] [])) (fun tz kz => XS.ifYes X16.here hx rfl (pc0 := 4) (pc' := 15) rfl (hb hby d24_4) rfl (XT.i0_eq_t (by decide)) (by decide) (by decide) kz) ?_
      refine own_via (F' := T16.setTop (mkF m 16 #[.val (.ref st), .val (.int (sp).toInt32), .val (.int (cc).toInt32), .val (.int (i).toInt32)] [(.int (cc).toInt32)])) (fun tz kz => XS.iloadN X16.here hx rfl (hb hby d24_15) rfl kz) ?_
      refine own_callS X16 hx hZ (own_kcl l Z az hw cc 0 hc (if_neg hq) h0 n0) hown (hw _ (List.mem_of_getElem? (i := 165) rfl)) (hw _ (List.mem_of_getElem? (i := 166) rfl)) (hw _ (List.mem_of_getElem? (i := 4) rfl)) (hw _ (List.mem_of_getElem? (i := 167) rfl)) (by decide) e16 (g := (mkF m 16 #[.val (.ref st), .val (.int (sp).toInt32), .val (.int (cc).toInt32), .val (.int (i).toInt32)] [(.int (cc).toInt32)])) rfl (by rw [hml]; rfl) (argsL := [(.int (cc).toInt32)]) (rest := []) rfl (lenOf own_pd0 rfl) rfl 0 (by show 2 * 0 + _ ≤ _; exact Nat.le_of_eq rfl) (hb hby d24_16) (by decide) (by decide) (by decide) (by decide) ?_
      intro v17 T17 L17 hQ17 X17
      obtain ⟨rfl, e17, rfl⟩ := hQ17
      refine own_via (F' := T17.setTop (mkF m 19 #[.val (.ref st), .val (.int (sp).toInt32), .val (.int (cc).toInt32), .val (.int (i).toInt32)] [(.int (0 : Int32))])) (fun tz kz => kz) ?_
      refine own_via (F' := T17.setTop (mkF m 34 #[.val (.ref st), .val (.int (sp).toInt32), .val (.int (cc).toInt32), .val (.int (i).toInt32)] [])) (fun tz kz => XS.ifYes X17.here hx rfl (pc0 := 19) (pc' := 34) rfl (hb hby d24_19) rfl (XT.i0_eq_t (by decide)) (by decide) (by decide) kz) ?_
      refine own_via (F' := T17.setTop (mkF m 35 #[.val (.ref st), .val (.int (sp).toInt32), .val (.int (cc).toInt32), .val (.int (i).toInt32)] [(.int (sp).toInt32)])) (fun tz kz => XS.iloadN X17.here hx rfl (hb hby d24_34) rfl kz) ?_
      exact own_retI X17 hx hret hlk (hb hby d24_35) (by rw [e17]; exact ⟨(by rw [if_neg ho, if_neg hq]), (Fr.app (Fr.app (Fr.nil n0) (Fr.nil _)) (Fr.nil _)), Keep.refl _ _, A0.congr (fun x hx => by rw [if_neg (fun z => ho z.1)])⟩) (by decide) (by decide)
theorem own_ef4 (m : MethodId) (x0 : Nat) (x1 : Int32) : entryFrame m #[(.ref x0), (.int x1)] 3 = mkF m 0 #[.val (.ref x0), .val (.int x1), .unset] [] := by first | (simp [entryFrame, mkF, argsToLocals, Value.category]; done) | rfl
theorem own_pn_com_example_isocline_isocline_core_sql_Tokens : plainName "com/example/isocline/isocline/core/sql/Tokens" = true := by first | (simp [plainName, overriddenIn]; done) | decide +kernel
set_option maxRecDepth 65536 in
set_option maxHeartbeats 40000000 in
theorem own_kog (l : Launch) (Z : State) (az : Array Value) (hw : ∀ d ∈ tables_1, d.before az Z = true) (o ad n A : Nat) (φ : Nat → Nat) (hA : A ≤ n) (hn : n < 50) (hφ : ∀ i, φ i < 1000) (h0 : Heap) (n0 : Nat) (F0 : Fld Z h0 o "com/example/isocline/isocline/core/sql/Tokens" "depth" "[I" (.ref ad)) (A0 : own_I Z h0 ad (n + 1) φ) :
    own_Con l Z (⟨"com/example/isocline/isocline/core/sql/Tokens", "opening", "(I)I"⟩ : MethodName) prog_91_method_12_code 3 (some FieldType.int) ({ frames := 0, cells := 0, slots := 0, locals := 0 } : Room) #[(.ref o), (.int (A).toInt32)] h0 (fun r h L => r = some (.int (own_fd φ (φ A) A)) ∧ h = h0 ∧ L = []) := by
  refine own_con own_pn_com_example_isocline_isocline_core_sql_Tokens ?_
  intro p e s m below meth c T0 hx hby hml hZ hown hnm hret hlk X0 e0 eh
  have loop : ∀ (k : Nat), k ≤ A → ∀ (T : State), Stand p l e ({ frames := 0, cells := 0, slots := 0, locals := 0 } : Room) s m #[(.ref o), (.int (A).toInt32)] below meth c T [] 0 0 → T.heap = h0 → own_fd φ (φ A) k = own_fd φ (φ A) A →
      own_Go p e below s (fun r h L => r = some (.int (own_fd φ (φ A) A)) ∧ h = h0 ∧ L = []) 0 0 (T.setTop (mkF m 4 #[.val (.ref o), .val (.int (A).toInt32), .val (.int ((k).toInt32 - 1))] [])) := by
    intro k
    induction k with
    | zero =>
      intro hk T X e1 hf
      show own_Go p e below s _ 0 0 (T.setTop (mkF m 4 #[.val (.ref o), .val (.int (A).toInt32), .val (.int (-1 : Int32))] []))
      refine own_via (F' := T.setTop (mkF m 5 #[.val (.ref o), .val (.int (A).toInt32), .val (.int (-1 : Int32))] [(.int (-1 : Int32))])) (fun tz kz => XS.iloadN X.here hx rfl (hb hby d22_4) rfl kz) ?_
      refine own_via (F' := T.setTop (mkF m 31 #[.val (.ref o), .val (.int (A).toInt32), .val (.int (-1 : Int32))] [])) (fun tz kz => XS.ifYes X.here hx rfl (pc0 := 5) (pc' := 31) rfl (hb hby d22_5) rfl (XT.i0_lt_t (by decide)) (by decide) (by decide) kz) ?_
      refine own_via (F' := T.setTop (mkF m 32 #[.val (.ref o), .val (.int (A).toInt32), .val (.int (-1 : Int32))] [(.int (-1 : Int32))])) (fun tz kz => XT.iconstV X.here hx rfl (-1 : Int32) (hb hby d22_31) (by decide) kz) ?_
      exact own_retI X hx hret hlk (hb hby d22_32) ⟨by rw [← hf]; rfl, e1, rfl⟩ (by decide) (by decide)
    | succ k ih =>
      intro hk T X e1 hf
      rw [own_pred (by omega : 0 < k + 1)]
      refine own_via (F' := T.setTop (mkF m 4 #[.val (.ref o), .val (.int (A).toInt32), .val (.int (k).toInt32)] [])) (fun tz kz => kz) ?_
      refine own_via (F' := T.setTop (mkF m 5 #[.val (.ref o), .val (.int (A).toInt32), .val (.int (k).toInt32)] [(.int (k).toInt32)])) (fun tz kz => XS.iloadN X.here hx rfl (hb hby d22_4) rfl kz) ?_
      refine own_via (F' := T.setTop (mkF m 8 #[.val (.ref o), .val (.int (A).toInt32), .val (.int (k).toInt32)] [])) (fun tz kz => XS.ifNo X.here hx rfl (hb hby d22_5) rfl (XT.i0_lt_f (fun z => absurd ((own_ltI (i := k) (j := 0) rfl rfl (by omega) (by decide)).mp z) (by omega))) kz) ?_
      refine own_via (F' := T.setTop (mkF m 9 #[.val (.ref o), .val (.int (A).toInt32), .val (.int (k).toInt32)] [(.ref o)])) (fun tz kz => XS.aloadN X.here hx rfl (hb hby d22_8) rfl rfl kz) ?_
      obtain ⟨T151, X151, e151, s151⟩ := getF X hx hZ hown (host := "") (Or.inl (hw _ (List.mem_of_getElem? (i := 112) rfl))) Via.refl e1 F0 (g := (mkF m 9 #[.val (.ref o), .val (.int (A).toInt32), .val (.int (k).toInt32)] [(.ref o)])) rfl rfl (hb hby d22_9)
      refine own_via (F' := T151.setTop (mkF m 12 #[.val (.ref o), .val (.int (A).toInt32), .val (.int (k).toInt32)] [(.ref ad)])) s151 ?_
      refine own_via (F' := T151.setTop (mkF m 13 #[.val (.ref o), .val (.int (A).toInt32), .val (.int (k).toInt32)] [(.int (k).toInt32), (.ref ad)])) (fun tz kz => XS.iloadN X151.here hx rfl (hb hby d22_12) rfl kz) ?_
      refine own_via (F' := T151.setTop (mkF m 14 #[.val (.ref o), .val (.int (A).toInt32), .val (.int (k).toInt32)] [(.int (φ k).toInt32)])) (fun tz kz => A0.load X151 hx hZ e151 (j := k) rfl (by omega) (by omega) rfl (g := (mkF m 13 #[.val (.ref o), .val (.int (A).toInt32), .val (.int (k).toInt32)] [(.int (k).toInt32), (.ref ad)])) rfl rfl (hb hby d22_13) tz kz) ?_
      refine own_via (F' := T151.setTop (mkF m 15 #[.val (.ref o), .val (.int (A).toInt32), .val (.int (k).toInt32)] [(.ref o), (.int (φ k).toInt32)])) (fun tz kz => XS.aloadN X151.here hx rfl (hb hby d22_14) rfl rfl kz) ?_
      obtain ⟨T152, X152, e152, s152⟩ := getF X151 hx hZ hown (host := "") (Or.inl (hw _ (List.mem_of_getElem? (i := 112) rfl))) Via.refl e151 F0 (g := (mkF m 15 #[.val (.ref o), .val (.int (A).toInt32), .val (.int (k).toInt32)] [(.ref o), (.int (φ k).toInt32)])) rfl rfl (hb hby d22_15)
      refine own_via (F' := T152.setTop (mkF m 18 #[.val (.ref o), .val (.int (A).toInt32), .val (.int (k).toInt32)] [(.ref ad), (.int (φ k).toInt32)])) s152 ?_
      refine own_via (F' := T152.setTop (mkF m 19 #[.val (.ref o), .val (.int (A).toInt32), .val (.int (k).toInt32)] [(.int (A).toInt32), (.ref ad), (.int (φ k).toInt32)])) (fun tz kz => XS.iloadN X152.here hx rfl (hb hby d22_18) rfl kz) ?_
      refine own_via (F' := T152.setTop (mkF m 20 #[.val (.ref o), .val (.int (A).toInt32), .val (.int (k).toInt32)] [(.int (φ A).toInt32), (.int (φ k).toInt32)])) (fun tz kz => A0.load X152 hx hZ e152 (j := A) rfl (by omega) (by omega) rfl (g := (mkF m 19 #[.val (.ref o), .val (.int (A).toInt32), .val (.int (k).toInt32)] [(.int (A).toInt32), (.ref ad), (.int (φ k).toInt32)])) rfl rfl (hb hby d22_19) tz kz) ?_
      by_cases q153 : φ k < φ A
      · refine own_via (F' := T152.setTop (mkF m 23 #[.val (.ref o), .val (.int (A).toInt32), .val (.int (k).toInt32)] [])) (fun tz kz => XS.icmpNo X152.here hx rfl (hb hby d22_20) rfl (XT.ii_ge_f ((own_ltI (i := φ k) (j := φ A) rfl rfl (by have := hφ k; omega) (by have := hφ A; omega)).mpr q153)) kz) ?_
        refine own_via (F' := T152.setTop (mkF m 24 #[.val (.ref o), .val (.int (A).toInt32), .val (.int (k).toInt32)] [(.int (k).toInt32)])) (fun tz kz => XS.iloadN X152.here hx rfl (hb hby d22_23) rfl kz) ?_
        exact own_retI X152 hx hret hlk (hb hby d22_24) ⟨by rw [← hf]; show _ = some (Value.int (if φ k < φ A then k.toInt32 else own_fd φ (φ A) k)); rw [if_pos q153], e152, rfl⟩ (by decide) (by decide)
      · refine own_via (F' := T152.setTop (mkF m 25 #[.val (.ref o), .val (.int (A).toInt32), .val (.int (k).toInt32)] [])) (fun tz kz => XS.icmpYes X152.here hx rfl (pc0 := 20) (pc' := 25) rfl (hb hby d22_20) rfl (XT.ii_ge_t (fun z => absurd ((own_ltI (i := φ k) (j := φ A) rfl rfl (by have := hφ k; omega) (by have := hφ A; omega)).mp z) q153)) (by decide) (by decide) kz) ?_
        refine own_via (F' := T152.setTop (mkF m 28 #[.val (.ref o), .val (.int (A).toInt32), .val (.int ((k).toInt32 - 1))] [])) (fun tz kz => XT.iincV X152.here hx rfl (-1 : Int32) (hb hby d22_25) (by decide) rfl (l' := #[.val (.ref o), .val (.int (A).toInt32), .val (.int ((k).toInt32 - 1))]) (by rw [own_am1]; rfl) kz) ?_
        refine own_via (F' := T152.setTop (mkF m 4 #[.val (.ref o), .val (.int (A).toInt32), .val (.int ((k).toInt32 - 1))] [])) (fun tz kz => XS.goto X152.here hx rfl (pc0 := 28) (pc' := 4) rfl (hb hby d22_28) (by decide) (by decide) kz) ?_
        exact ih (by omega) T152 X152 e152 (by rw [← hf]; show _ = (if φ k < φ A then k.toInt32 else own_fd φ (φ A) k); rw [if_neg q153])
  refine own_via (F' := T0.setTop (mkF m 0 #[.val (.ref o), .val (.int (A).toInt32), .unset] [])) (fun tz kz => castTop (own_ef4 m _ _) kz) ?_
  refine own_via (F' := T0.setTop (mkF m 1 #[.val (.ref o), .val (.int (A).toInt32), .unset] [(.int (A).toInt32)])) (fun tz kz => XS.iloadN X0.here hx rfl (hb hby d22_0) rfl kz) ?_
  refine own_via (F' := T0.setTop (mkF m 2 #[.val (.ref o), .val (.int (A).toInt32), .unset] [(.int (1 : Int32)), (.int (A).toInt32)])) (fun tz kz => XT.iconstV X0.here hx rfl (1 : Int32) (hb hby d22_1) (by decide) kz) ?_
  refine own_via (F' := T0.setTop (mkF m 3 #[.val (.ref o), .val (.int (A).toInt32), .unset] [(.int ((A).toInt32 - 1))])) (fun tz kz => XS.isub X0.here hx rfl (hb hby d22_2) rfl kz) ?_
  refine own_via (F' := T0.setTop (mkF m 4 #[.val (.ref o), .val (.int (A).toInt32), .val (.int ((A).toInt32 - 1))] [])) (fun tz kz => XS.istoreN X0.here hx rfl (hb hby d22_3) rfl (l' := #[.val (.ref o), .val (.int (A).toInt32), .val (.int ((A).toInt32 - 1))]) rfl kz) ?_
  exact loop A (Nat.le_refl _) T0 X0 e0 rfl
set_option maxRecDepth 65536 in
set_option maxHeartbeats 40000000 in
theorem own_kon (l : Launch) (Z : State) (az : Array Value) (hw : ∀ d ∈ tables_1, d.before az Z = true) (o : Nat) (x : Int32) (hx0 : x = -2 ∨ x = -1) (h0 : Heap) (n0 : Nat) :
    own_Con l Z (⟨"com/example/isocline/isocline/core/sql/Tokens", "opening", "(I)I"⟩ : MethodName) prog_91_method_12_code 3 (some FieldType.int) ({ frames := 0, cells := 0, slots := 0, locals := 0 } : Room) #[(.ref o), (.int x)] h0 (fun r h L => r = some (.int (-1)) ∧ h = h0 ∧ L = []) := by
  refine own_con own_pn_com_example_isocline_isocline_core_sql_Tokens ?_
  intro p e s m below meth c T0 hx hby hml hZ hown hnm hret hlk X0 e0 eh
  refine own_via (F' := T0.setTop (mkF m 0 #[.val (.ref o), .val (.int x), .unset] [])) (fun tz kz => castTop (own_ef4 m _ _) kz) ?_
  refine own_via (F' := T0.setTop (mkF m 1 #[.val (.ref o), .val (.int x), .unset] [(.int x)])) (fun tz kz => XS.iloadN X0.here hx rfl (hb hby d22_0) rfl kz) ?_
  refine own_via (F' := T0.setTop (mkF m 2 #[.val (.ref o), .val (.int x), .unset] [(.int (1 : Int32)), (.int x)])) (fun tz kz => XT.iconstV X0.here hx rfl (1 : Int32) (hb hby d22_1) (by decide) kz) ?_
  refine own_via (F' := T0.setTop (mkF m 3 #[.val (.ref o), .val (.int x), .unset] [(.int (x - 1))])) (fun tz kz => XS.isub X0.here hx rfl (hb hby d22_2) rfl kz) ?_
  refine own_via (F' := T0.setTop (mkF m 4 #[.val (.ref o), .val (.int x), .val (.int (x - 1))] [])) (fun tz kz => XS.istoreN X0.here hx rfl (hb hby d22_3) rfl (l' := #[.val (.ref o), .val (.int x), .val (.int (x - 1))]) rfl kz) ?_
  refine own_via (F' := T0.setTop (mkF m 5 #[.val (.ref o), .val (.int x), .val (.int (x - 1))] [(.int (x - 1))])) (fun tz kz => XS.iloadN X0.here hx rfl (hb hby d22_4) rfl kz) ?_
  refine own_via (F' := T0.setTop (mkF m 31 #[.val (.ref o), .val (.int x), .val (.int (x - 1))] [])) (fun tz kz => XS.ifYes X0.here hx rfl (pc0 := 5) (pc' := 31) rfl (hb hby d22_5) rfl (XT.i0_lt_t (by rcases hx0 with rfl | rfl <;> decide)) (by decide) (by decide) kz) ?_
  refine own_via (F' := T0.setTop (mkF m 32 #[.val (.ref o), .val (.int x), .val (.int (x - 1))] [(.int (-1 : Int32))])) (fun tz kz => XT.iconstV X0.here hx rfl (-1 : Int32) (hb hby d22_31) (by decide) kz) ?_
  exact own_retI X0 hx hret hlk (hb hby d22_32) ⟨rfl, e0, rfl⟩ (by decide) (by decide)
theorem own_ef6 (m : MethodId) (x0 : Nat) : entryFrame m #[(.ref x0)] 1 = mkF m 0 #[.val (.ref x0)] [] := by first | (simp [entryFrame, mkF, argsToLocals, Value.category]; done) | rfl
theorem own_pn_java_lang_Record : plainName "java/lang/Record" = true := by first | (simp [plainName, overriddenIn]; done) | decide +kernel
set_option maxRecDepth 65536 in
set_option maxHeartbeats 40000000 in
theorem own_kR (l : Launch) (Z : State) (az : Array Value) (hw : ∀ d ∈ tables_1, d.before az Z = true) (a : Nat) (h0 : Heap) (n0 : Nat) :
    own_Con l Z (⟨"java/lang/Record", "<init>", "()V"⟩ : MethodName) jdk_30_method_1_code 1 (none) ({ frames := 1, cells := 0, slots := 0, locals := 12 } : Room) #[(.ref a)] h0 (fun r h L => r = none ∧ h = h0 ∧ L = []) := by
  refine own_con own_pn_java_lang_Record ?_
  intro p e s m below meth c T0 hx hby hml hZ hown hnm hret hlk X0 e0 eh
  refine own_via (F' := T0.setTop (mkF m 0 #[.val (.ref a)] [])) (fun tz kz => castTop (own_ef6 m _) kz) ?_
  refine own_via (F' := T0.setTop (mkF m 1 #[.val (.ref a)] [(.ref a)])) (fun tz kz => XS.aloadN X0.here hx rfl (hb hby d3_0) rfl rfl kz) ?_
  obtain ⟨T11, X11, e11, s11⟩ := initO X0 hx hZ hown (hw _ (List.mem_of_getElem? (i := 28) rfl)) (hw _ (List.mem_of_getElem? (i := 29) rfl)) (hw _ (List.mem_of_getElem? (i := 30) rfl)) e0 (g := (mkF m 1 #[.val (.ref a)] [(.ref a)])) rfl (by rw [hml]; rfl) rfl (hb hby d3_1) (by decide) (W := 0) (by show 2 * 0 + _ ≤ _; exact Nat.le_of_eq rfl) (by decide)
  refine own_via (F' := T11.setTop (mkF m 4 #[.val (.ref a)] [])) s11 ?_
  exact own_ret0 X11 hx hret hlk (hb hby d3_4) ⟨rfl, e11, rfl⟩ (by decide) (by decide)
theorem own_pn_java_util_AbstractCollection : plainName "java/util/AbstractCollection" = true := by first | (simp [plainName, overriddenIn]; done) | decide +kernel
set_option maxRecDepth 65536 in
set_option maxHeartbeats 40000000 in
theorem own_kAC (l : Launch) (Z : State) (az : Array Value) (hw : ∀ d ∈ tables_1, d.before az Z = true) (a : Nat) (h0 : Heap) (n0 : Nat) :
    own_Con l Z (⟨"java/util/AbstractCollection", "<init>", "()V"⟩ : MethodName) jdk_22_method_1_code 1 (none) ({ frames := 1, cells := 0, slots := 0, locals := 12 } : Room) #[(.ref a)] h0 (fun r h L => r = none ∧ h = h0 ∧ L = []) := by
  refine own_con own_pn_java_util_AbstractCollection ?_
  intro p e s m below meth c T0 hx hby hml hZ hown hnm hret hlk X0 e0 eh
  refine own_via (F' := T0.setTop (mkF m 0 #[.val (.ref a)] [])) (fun tz kz => castTop (own_ef6 m _) kz) ?_
  refine own_via (F' := T0.setTop (mkF m 1 #[.val (.ref a)] [(.ref a)])) (fun tz kz => XS.aloadN X0.here hx rfl (hb hby d7_0) rfl rfl kz) ?_
  obtain ⟨T11, X11, e11, s11⟩ := initO X0 hx hZ hown (hw _ (List.mem_of_getElem? (i := 57) rfl)) (hw _ (List.mem_of_getElem? (i := 29) rfl)) (hw _ (List.mem_of_getElem? (i := 30) rfl)) e0 (g := (mkF m 1 #[.val (.ref a)] [(.ref a)])) rfl (by rw [hml]; rfl) rfl (hb hby d7_1) (by decide) (W := 0) (by show 2 * 0 + _ ≤ _; exact Nat.le_of_eq rfl) (by decide)
  refine own_via (F' := T11.setTop (mkF m 4 #[.val (.ref a)] [])) s11 ?_
  exact own_ret0 X11 hx hret hlk (hb hby d7_4) ⟨rfl, e11, rfl⟩ (by decide) (by decide)
theorem own_ef9 (m : MethodId) (x0 : Nat) (x1 : Nat) (x2 : Nat) (x3 : Int32) (x4 : Int32) : entryFrame m #[(.ref x0), (.ref x1), (.ref x2), (.int x3), (.int x4)] 5 = mkF m 0 #[.val (.ref x0), .val (.ref x1), .val (.ref x2), .val (.int x3), .val (.int x4)] [] := by first | (simp [entryFrame, mkF, argsToLocals, Value.category]; done) | rfl
theorem own_pn_com_example_isocline_isocline_core_sql_SqlToken : plainName "com/example/isocline/isocline/core/sql/SqlToken" = true := by first | (simp [plainName, overriddenIn]; done) | decide +kernel
set_option maxRecDepth 65536 in
set_option maxHeartbeats 40000000 in
theorem own_kti (l : Launch) (Z : State) (az : Array Value) (hw : ∀ d ∈ tables_1, d.before az Z = true) (t kd a : Nat) (h0 : Heap) (n0 : Nat) (E0 : Exa Z h0 t "com/example/isocline/isocline/core/sql/SqlToken") (D_kind : Fld Z h0 t "com/example/isocline/isocline/core/sql/SqlToken" "kind" "Lcom/example/isocline/isocline/core/sql/SqlToken$Kind;" .null) (D_text : Fld Z h0 t "com/example/isocline/isocline/core/sql/SqlToken" "text" "Ljava/lang/String;" .null) (D_start : Fld Z h0 t "com/example/isocline/isocline/core/sql/SqlToken" "start" "I" (.int (0 : Int32))) (D_end : Fld Z h0 t "com/example/isocline/isocline/core/sql/SqlToken" "end" "I" (.int (0 : Int32))) (G0 : n0 ≤ t) :
    own_Con l Z (⟨"com/example/isocline/isocline/core/sql/SqlToken", "<init>", "(Lcom/example/isocline/isocline/core/sql/SqlToken$Kind;Ljava/lang/String;II)V"⟩ : MethodName) prog_65_method_1_code 5 (none) ({ frames := 2, cells := 0, slots := 0, locals := 24 } : Room) #[(.ref t), (.ref kd), (.ref a), (.int (0 : Int32)), (.int (1 : Int32))] h0 (fun r h L => r = none ∧ Fr n0 L ∧ Keep h0 h [t] ∧ Exa Z h t "com/example/isocline/isocline/core/sql/SqlToken" ∧ Fld Z h t "com/example/isocline/isocline/core/sql/SqlToken" "kind" "Lcom/example/isocline/isocline/core/sql/SqlToken$Kind;" (.ref kd) ∧ Fld Z h t "com/example/isocline/isocline/core/sql/SqlToken" "text" "Ljava/lang/String;" (.ref a)) := by
  refine own_con own_pn_com_example_isocline_isocline_core_sql_SqlToken ?_
  intro p e s m below meth c T0 hx hby hml hZ hown hnm hret hlk X0 e0 eh
  refine own_via (F' := T0.setTop (mkF m 0 #[.val (.ref t), .val (.ref kd), .val (.ref a), .val (.int (0 : Int32)), .val (.int (1 : Int32))] [])) (fun tz kz => castTop (own_ef9 m _ _ _ _ _) kz) ?_
  refine own_via (F' := T0.setTop (mkF m 1 #[.val (.ref t), .val (.ref kd), .val (.ref a), .val (.int (0 : Int32)), .val (.int (1 : Int32))] [(.ref t)])) (fun tz kz => XS.aloadN X0.here hx rfl (hb hby d2_0) rfl rfl kz) ?_
  refine own_callI X0 hx hZ (own_kR l Z az hw t h0 n0) hown rfl (hw _ (List.mem_of_getElem? (i := 23) rfl)) (hw _ (List.mem_of_getElem? (i := 24) rfl)) (hw _ (List.mem_of_getElem? (i := 26) rfl)) (hw _ (List.mem_of_getElem? (i := 27) rfl)) (by decide) e0 (g := (mkF m 1 #[.val (.ref t), .val (.ref kd), .val (.ref a), .val (.int (0 : Int32)), .val (.int (1 : Int32))] [(.ref t)])) rfl (by rw [hml]; rfl) (argsL := []) (rest := []) rfl (lenOf own_pd1 rfl) rfl 0 (by show 2 * 0 + _ ≤ _; exact Nat.le_of_eq rfl) (hb hby d2_1) (by decide) (by decide) (by decide) (by decide) ?_
  intro v11 T11 L11 hQ11 X11
  obtain ⟨rfl, e11, rfl⟩ := hQ11
  refine own_via (F' := T11.setTop (mkF m 4 #[.val (.ref t), .val (.ref kd), .val (.ref a), .val (.int (0 : Int32)), .val (.int (1 : Int32))] [])) (fun tz kz => kz) ?_
  refine own_via (F' := T11.setTop (mkF m 5 #[.val (.ref t), .val (.ref kd), .val (.ref a), .val (.int (0 : Int32)), .val (.int (1 : Int32))] [(.ref t)])) (fun tz kz => XS.aloadN X11.here hx rfl (hb hby d2_4) rfl rfl kz) ?_
  refine own_via (F' := T11.setTop (mkF m 6 #[.val (.ref t), .val (.ref kd), .val (.ref a), .val (.int (0 : Int32)), .val (.int (1 : Int32))] [(.ref kd), (.ref t)])) (fun tz kz => XS.aloadN X11.here hx rfl (hb hby d2_5) rfl rfl kz) ?_
  obtain ⟨T12, h12, X12, e12, W12, s12⟩ := putF X11 hx hZ hown (host := "") (Or.inl (hw _ (List.mem_of_getElem? (i := 31) rfl))) Via.refl e11 D_kind E0 (Or.inr ⟨(hw _ (List.mem_of_getElem? (i := 32) rfl)), rfl, hnm⟩) (hw _ (List.mem_of_getElem? (i := 7) rfl)) (ty := .object "com/example/isocline/isocline/core/sql/SqlToken$Kind") (by decide) rfl rfl (g := (mkF m 6 #[.val (.ref t), .val (.ref kd), .val (.ref a), .val (.int (0 : Int32)), .val (.int (1 : Int32))] [(.ref kd), (.ref t)])) rfl rfl (hb hby d2_6)
  have F12 := D_kind.same W12
  have N12 := Fr.snoc X12 (Fr.app (Fr.nil n0) (Fr.nil _)) G0
  refine own_via (F' := T12.setTop (mkF m 9 #[.val (.ref t), .val (.ref kd), .val (.ref a), .val (.int (0 : Int32)), .val (.int (1 : Int32))] [])) s12 ?_
  refine own_via (F' := T12.setTop (mkF m 10 #[.val (.ref t), .val (.ref kd), .val (.ref a), .val (.int (0 : Int32)), .val (.int (1 : Int32))] [(.ref t)])) (fun tz kz => XS.aloadN X12.here hx rfl (hb hby d2_9) rfl rfl kz) ?_
  refine own_via (F' := T12.setTop (mkF m 11 #[.val (.ref t), .val (.ref kd), .val (.ref a), .val (.int (0 : Int32)), .val (.int (1 : Int32))] [(.ref a), (.ref t)])) (fun tz kz => XS.aloadN X12.here hx rfl (hb hby d2_10) rfl rfl kz) ?_
  have f13 := (D_text.other W12 (Or.inr (slot_ne (Or.inr (hw _ (List.mem_of_getElem? (i := 34) rfl))) (Or.inr (hw _ (List.mem_of_getElem? (i := 32) rfl))) (by decide) (t := (.object "java/lang/String")) (t' := (.object "com/example/isocline/isocline/core/sql/SqlToken$Kind")) (by decide) (by decide))))
  have f14 := (E0.wr W12)
  obtain ⟨T15, h15, X15, e15, W15, s15⟩ := putF X12 hx hZ hown (host := "") (Or.inl (hw _ (List.mem_of_getElem? (i := 33) rfl))) Via.refl e12 f13 f14 (Or.inr ⟨(hw _ (List.mem_of_getElem? (i := 34) rfl)), rfl, hnm⟩) (hw _ (List.mem_of_getElem? (i := 7) rfl)) (ty := .object "java/lang/String") (by decide) rfl rfl (g := (mkF m 11 #[.val (.ref t), .val (.ref kd), .val (.ref a), .val (.int (0 : Int32)), .val (.int (1 : Int32))] [(.ref a), (.ref t)])) rfl rfl (hb hby d2_11)
  have F15 := f13.same W15
  have N15 := Fr.snoc X15 N12 G0
  refine own_via (F' := T15.setTop (mkF m 14 #[.val (.ref t), .val (.ref kd), .val (.ref a), .val (.int (0 : Int32)), .val (.int (1 : Int32))] [])) s15 ?_
  refine own_via (F' := T15.setTop (mkF m 15 #[.val (.ref t), .val (.ref kd), .val (.ref a), .val (.int (0 : Int32)), .val (.int (1 : Int32))] [(.ref t)])) (fun tz kz => XS.aloadN X15.here hx rfl (hb hby d2_14) rfl rfl kz) ?_
  refine own_via (F' := T15.setTop (mkF m 16 #[.val (.ref t), .val (.ref kd), .val (.ref a), .val (.int (0 : Int32)), .val (.int (1 : Int32))] [(.int (0 : Int32)), (.ref t)])) (fun tz kz => XS.iloadN X15.here hx rfl (hb hby d2_15) rfl kz) ?_
  have f16 := ((D_start.other W12 (Or.inr (slot_ne (Or.inr (hw _ (List.mem_of_getElem? (i := 36) rfl))) (Or.inr (hw _ (List.mem_of_getElem? (i := 32) rfl))) (by decide) (t := .int) (t' := (.object "com/example/isocline/isocline/core/sql/SqlToken$Kind")) (by decide) (by decide)))).other W15 (Or.inr (slot_ne (Or.inr (hw _ (List.mem_of_getElem? (i := 36) rfl))) (Or.inr (hw _ (List.mem_of_getElem? (i := 34) rfl))) (by decide) (t := .int) (t' := (.object "java/lang/String")) (by decide) (by decide))))
  have f17 := (f14.wr W15)
  obtain ⟨T18, h18, X18, e18, W18, s18⟩ := putF X15 hx hZ hown (host := "") (Or.inl (hw _ (List.mem_of_getElem? (i := 35) rfl))) Via.refl e15 f16 f17 (Or.inr ⟨(hw _ (List.mem_of_getElem? (i := 36) rfl)), rfl, hnm⟩) (hw _ (List.mem_of_getElem? (i := 7) rfl)) (ty := .int) (by decide) rfl rfl (g := (mkF m 16 #[.val (.ref t), .val (.ref kd), .val (.ref a), .val (.int (0 : Int32)), .val (.int (1 : Int32))] [(.int (0 : Int32)), (.ref t)])) rfl rfl (hb hby d2_16)
  have F18 := f16.same W18
  have N18 := Fr.snoc X18 N15 G0
  refine own_via (F' := T18.setTop (mkF m 19 #[.val (.ref t), .val (.ref kd), .val (.ref a), .val (.int (0 : Int32)), .val (.int (1 : Int32))] [])) s18 ?_
  refine own_via (F' := T18.setTop (mkF m 20 #[.val (.ref t), .val (.ref kd), .val (.ref a), .val (.int (0 : Int32)), .val (.int (1 : Int32))] [(.ref t)])) (fun tz kz => XS.aloadN X18.here hx rfl (hb hby d2_19) rfl rfl kz) ?_
  refine own_via (F' := T18.setTop (mkF m 22 #[.val (.ref t), .val (.ref kd), .val (.ref a), .val (.int (0 : Int32)), .val (.int (1 : Int32))] [(.int (1 : Int32)), (.ref t)])) (fun tz kz => XS.iload X18.here hx rfl (hb hby d2_20) rfl kz) ?_
  have f19 := (((D_end.other W12 (Or.inr (slot_ne (Or.inr (hw _ (List.mem_of_getElem? (i := 38) rfl))) (Or.inr (hw _ (List.mem_of_getElem? (i := 32) rfl))) (by decide) (t := .int) (t' := (.object "com/example/isocline/isocline/core/sql/SqlToken$Kind")) (by decide) (by decide)))).other W15 (Or.inr (slot_ne (Or.inr (hw _ (List.mem_of_getElem? (i := 38) rfl))) (Or.inr (hw _ (List.mem_of_getElem? (i := 34) rfl))) (by decide) (t := .int) (t' := (.object "java/lang/String")) (by decide) (by decide)))).other W18 (Or.inr (slot_ne (Or.inr (hw _ (List.mem_of_getElem? (i := 38) rfl))) (Or.inr (hw _ (List.mem_of_getElem? (i := 36) rfl))) (by decide) (t := .int) (t' := .int) (by decide) (by decide))))
  have f20 := (f17.wr W18)
  obtain ⟨T21, h21, X21, e21, W21, s21⟩ := putF X18 hx hZ hown (host := "") (Or.inl (hw _ (List.mem_of_getElem? (i := 37) rfl))) Via.refl e18 f19 f20 (Or.inr ⟨(hw _ (List.mem_of_getElem? (i := 38) rfl)), rfl, hnm⟩) (hw _ (List.mem_of_getElem? (i := 7) rfl)) (ty := .int) (by decide) rfl rfl (g := (mkF m 22 #[.val (.ref t), .val (.ref kd), .val (.ref a), .val (.int (0 : Int32)), .val (.int (1 : Int32))] [(.int (1 : Int32)), (.ref t)])) rfl rfl (hb hby d2_22)
  have F21 := f19.same W21
  have N21 := Fr.snoc X21 N18 G0
  refine own_via (F' := T21.setTop (mkF m 25 #[.val (.ref t), .val (.ref kd), .val (.ref a), .val (.int (0 : Int32)), .val (.int (1 : Int32))] [])) s21 ?_
  have f22 := (f20.wr W21)
  have f23 := (((F12.other W15 (Or.inr (slot_ne (Or.inr (hw _ (List.mem_of_getElem? (i := 32) rfl))) (Or.inr (hw _ (List.mem_of_getElem? (i := 34) rfl))) (by decide) (t := (.object "com/example/isocline/isocline/core/sql/SqlToken$Kind")) (t' := (.object "java/lang/String")) (by decide) (by decide)))).other W18 (Or.inr (slot_ne (Or.inr (hw _ (List.mem_of_getElem? (i := 32) rfl))) (Or.inr (hw _ (List.mem_of_getElem? (i := 36) rfl))) (by decide) (t := (.object "com/example/isocline/isocline/core/sql/SqlToken$Kind")) (t' := .int) (by decide) (by decide)))).other W21 (Or.inr (slot_ne (Or.inr (hw _ (List.mem_of_getElem? (i := 32) rfl))) (Or.inr (hw _ (List.mem_of_getElem? (i := 38) rfl))) (by decide) (t := (.object "com/example/isocline/isocline/core/sql/SqlToken$Kind")) (t' := .int) (by decide) (by decide))))
  have f24 := ((F15.other W18 (Or.inr (slot_ne (Or.inr (hw _ (List.mem_of_getElem? (i := 34) rfl))) (Or.inr (hw _ (List.mem_of_getElem? (i := 36) rfl))) (by decide) (t := (.object "java/lang/String")) (t' := .int) (by decide) (by decide)))).other W21 (Or.inr (slot_ne (Or.inr (hw _ (List.mem_of_getElem? (i := 34) rfl))) (Or.inr (hw _ (List.mem_of_getElem? (i := 38) rfl))) (by decide) (t := (.object "java/lang/String")) (t' := .int) (by decide) (by decide))))
  exact own_ret0 X21 hx hret hlk (hb hby d2_25) (by rw [e21]; exact ⟨rfl, N21, (((((Keep.refl h0 [t]).wr W12 (Or.inl (List.mem_of_getElem? (i := 0) rfl))).wr W15 (Or.inl (List.mem_of_getElem? (i := 0) rfl))).wr W18 (Or.inl (List.mem_of_getElem? (i := 0) rfl))).wr W21 (Or.inl (List.mem_of_getElem? (i := 0) rfl))), f22, f23, f24⟩) (by decide) (by decide)
theorem own_pn_java_util_AbstractList : plainName "java/util/AbstractList" = true := by first | (simp [plainName, overriddenIn]; done) | decide +kernel
set_option maxRecDepth 65536 in
set_option maxHeartbeats 40000000 in
theorem own_kABL (l : Launch) (Z : State) (az : Array Value) (hw : ∀ d ∈ tables_1, d.before az Z = true) (a : Nat) (h0 : Heap) (n0 : Nat) (E0 : Exa Z h0 a "java/util/ArrayList") (D_elementData : Fld Z h0 a "java/util/ArrayList" "elementData" "[Ljava/lang/Object;" .null) (D_size : Fld Z h0 a "java/util/ArrayList" "size" "I" (.int (0 : Int32))) (D_modCount : Fld Z h0 a "java/util/AbstractList" "modCount" "I" (.int (0 : Int32))) (G0 : n0 ≤ a) :
    own_Con l Z (⟨"java/util/AbstractList", "<init>", "()V"⟩ : MethodName) jdk_39_method_1_code 1 (none) ({ frames := 2, cells := 0, slots := 0, locals := 24 } : Room) #[(.ref a)] h0 (fun r h L => r = none ∧ Fr n0 L ∧ Keep h0 h [a] ∧ Exa Z h a "java/util/ArrayList" ∧ Fld Z h a "java/util/ArrayList" "elementData" "[Ljava/lang/Object;" .null ∧ Fld Z h a "java/util/ArrayList" "size" "I" (.int (0 : Int32)) ∧ Fld Z h a "java/util/AbstractList" "modCount" "I" (.int (0 : Int32))) := by
  refine own_con own_pn_java_util_AbstractList ?_
  intro p e s m below meth c T0 hx hby hml hZ hown hnm hret hlk X0 e0 eh
  refine own_via (F' := T0.setTop (mkF m 0 #[.val (.ref a)] [])) (fun tz kz => castTop (own_ef6 m _) kz) ?_
  refine own_via (F' := T0.setTop (mkF m 1 #[.val (.ref a)] [(.ref a)])) (fun tz kz => XS.aloadN X0.here hx rfl (hb hby d6_0) rfl rfl kz) ?_
  refine own_callI X0 hx hZ (own_kAC l Z az hw a h0 n0) hown rfl (hw _ (List.mem_of_getElem? (i := 51) rfl)) (hw _ (List.mem_of_getElem? (i := 52) rfl)) (hw _ (List.mem_of_getElem? (i := 55) rfl)) (hw _ (List.mem_of_getElem? (i := 56) rfl)) (by decide) e0 (g := (mkF m 1 #[.val (.ref a)] [(.ref a)])) rfl (by rw [hml]; rfl) (argsL := []) (rest := []) rfl (lenOf own_pd1 rfl) rfl 0 (by show 2 * 0 + _ ≤ _; exact Nat.le_of_eq rfl) (hb hby d6_1) (by decide) (by decide) (by decide) (by decide) ?_
  intro v11 T11 L11 hQ11 X11
  obtain ⟨rfl, e11, rfl⟩ := hQ11
  refine own_via (F' := T11.setTop (mkF m 4 #[.val (.ref a)] [])) (fun tz kz => kz) ?_
  refine own_via (F' := T11.setTop (mkF m 5 #[.val (.ref a)] [(.ref a)])) (fun tz kz => XS.aloadN X11.here hx rfl (hb hby d6_4) rfl rfl kz) ?_
  refine own_via (F' := T11.setTop (mkF m 6 #[.val (.ref a)] [(.int (0 : Int32)), (.ref a)])) (fun tz kz => XT.iconstV X11.here hx rfl (0 : Int32) (hb hby d6_5) (by decide) kz) ?_
  obtain ⟨T12, h12, X12, e12, W12, s12⟩ := putF X11 hx hZ hown (host := "") (Or.inl (hw _ (List.mem_of_getElem? (i := 58) rfl))) Via.refl e11 D_modCount E0 (Or.inl (hw _ (List.mem_of_getElem? (i := 59) rfl))) (hw _ (List.mem_of_getElem? (i := 40) rfl)) (ty := .int) (by decide) rfl rfl (g := (mkF m 6 #[.val (.ref a)] [(.int (0 : Int32)), (.ref a)])) rfl rfl (hb hby d6_6)
  have F12 := D_modCount.same W12
  have N12 := Fr.snoc X12 (Fr.app (Fr.nil n0) (Fr.nil _)) G0
  refine own_via (F' := T12.setTop (mkF m 9 #[.val (.ref a)] [])) s12 ?_
  have f13 := (E0.wr W12)
  have f14 := (D_elementData.other W12 (Or.inr (slot_ne (Or.inl (hw _ (List.mem_of_getElem? (i := 62) rfl))) (Or.inl (hw _ (List.mem_of_getElem? (i := 59) rfl))) (by decide) (t := (.array (.object "java/lang/Object"))) (t' := .int) (by decide) (by decide))))
  have f15 := (D_size.other W12 (Or.inr (slot_ne (Or.inl (hw _ (List.mem_of_getElem? (i := 71) rfl))) (Or.inl (hw _ (List.mem_of_getElem? (i := 59) rfl))) (by decide) (t := .int) (t' := .int) (by decide) (by decide))))
  exact own_ret0 X12 hx hret hlk (hb hby d6_9) (by rw [e12]; exact ⟨rfl, N12, ((Keep.refl h0 [a]).wr W12 (Or.inl (List.mem_of_getElem? (i := 0) rfl))), f13, f14, f15, F12⟩) (by decide) (by decide)
theorem own_pn_java_util_ArrayList : plainName "java/util/ArrayList" = true := by first | (simp [plainName, overriddenIn]; done) | decide +kernel
set_option maxRecDepth 65536 in
set_option maxHeartbeats 40000000 in
theorem own_kAL (l : Launch) (Z : State) (az : Array Value) (hw : ∀ d ∈ tables_1, d.before az Z = true) (a : Nat) (h0 : Heap) (n0 : Nat) (E0 : Exa Z h0 a "java/util/ArrayList") (D_elementData : Fld Z h0 a "java/util/ArrayList" "elementData" "[Ljava/lang/Object;" .null) (D_size : Fld Z h0 a "java/util/ArrayList" "size" "I" (.int (0 : Int32))) (D_modCount : Fld Z h0 a "java/util/AbstractList" "modCount" "I" (.int (0 : Int32))) (G0 : n0 ≤ a) (d0 : Nat) (DS : Sta Z Z.heap "java/util/ArrayList" "DEFAULTCAPACITY_EMPTY_ELEMENTDATA" "[Ljava/lang/Object;" (.ref d0)) (O0 : Old Z n0 h0) :
    own_Con l Z (⟨"java/util/ArrayList", "<init>", "()V"⟩ : MethodName) jdk_38_method_2_code 1 (none) ({ frames := 3, cells := 0, slots := 0, locals := 36 } : Room) #[(.ref a)] h0 (fun r h L => r = none ∧ Fr n0 L ∧ Keep h0 h [a] ∧ Exa Z h a "java/util/ArrayList" ∧ Fld Z h a "java/util/ArrayList" "elementData" "[Ljava/lang/Object;" (.ref d0) ∧ Fld Z h a "java/util/ArrayList" "size" "I" (.int (0 : Int32)) ∧ Fld Z h a "java/util/AbstractList" "modCount" "I" (.int (0 : Int32))) := by
  refine own_con own_pn_java_util_ArrayList ?_
  intro p e s m below meth c T0 hx hby hml hZ hown hnm hret hlk X0 e0 eh
  refine own_via (F' := T0.setTop (mkF m 0 #[.val (.ref a)] [])) (fun tz kz => castTop (own_ef6 m _) kz) ?_
  refine own_via (F' := T0.setTop (mkF m 1 #[.val (.ref a)] [(.ref a)])) (fun tz kz => XS.aloadN X0.here hx rfl (hb hby d5_0) rfl rfl kz) ?_
  refine own_callI X0 hx hZ (own_kABL l Z az hw a h0 n0 E0 D_elementData D_size D_modCount G0) hown rfl (hw _ (List.mem_of_getElem? (i := 45) rfl)) (hw _ (List.mem_of_getElem? (i := 46) rfl)) (hw _ (List.mem_of_getElem? (i := 49) rfl)) (hw _ (List.mem_of_getElem? (i := 50) rfl)) (by decide) e0 (g := (mkF m 1 #[.val (.ref a)] [(.ref a)])) rfl (by rw [hml]; rfl) (argsL := []) (rest := []) rfl (lenOf own_pd1 rfl) rfl 0 (by show 2 * 0 + _ ≤ _; exact Nat.le_of_eq rfl) (hb hby d5_1) (by decide) (by decide) (by decide) (by decide) ?_
  intro v11 T11 L11 hQ11 X11
  obtain ⟨rfl, M11, K11, E11, elementData11, size11, modCount11⟩ := hQ11
  refine own_via (F' := T11.setTop (mkF m 4 #[.val (.ref a)] [])) (fun tz kz => kz) ?_
  refine own_via (F' := T11.setTop (mkF m 5 #[.val (.ref a)] [(.ref a)])) (fun tz kz => XS.aloadN X11.here hx rfl (hb hby d5_4) rfl rfl kz) ?_
  have f12 := (O0.keep K11 (allS G0 all0))
  obtain ⟨T13, X13, e13, s13⟩ := getS X11 hx hZ (host := "") hown (hw _ (List.mem_of_getElem? (i := 60) rfl)) Via.refl rfl (DS.ext f12.2) (g := (mkF m 5 #[.val (.ref a)] [(.ref a)])) rfl (hb hby d5_5)
  refine own_via (F' := T13.setTop (mkF m 8 #[.val (.ref a)] [(.ref d0), (.ref a)])) s13 ?_
  obtain ⟨T14, h14, X14, e14, W14, s14⟩ := putF X13 hx hZ hown (host := "") (Or.inl (hw _ (List.mem_of_getElem? (i := 61) rfl))) Via.refl e13 elementData11 E11 (Or.inl (hw _ (List.mem_of_getElem? (i := 62) rfl))) (hw _ (List.mem_of_getElem? (i := 40) rfl)) (ty := (.array (.object "java/lang/Object"))) (by decide) rfl rfl (g := (mkF m 8 #[.val (.ref a)] [(.ref d0), (.ref a)])) rfl rfl (hb hby d5_8)
  have F14 := elementData11.same W14
  have N14 := Fr.snoc X14 (Fr.app (Fr.nil n0) M11) G0
  refine own_via (F' := T14.setTop (mkF m 11 #[.val (.ref a)] [])) s14 ?_
  have f15 := (E11.wr W14)
  have f16 := (size11.other W14 (Or.inr (slot_ne (Or.inl (hw _ (List.mem_of_getElem? (i := 71) rfl))) (Or.inl (hw _ (List.mem_of_getElem? (i := 62) rfl))) (by decide) (t := .int) (t' := (.array (.object "java/lang/Object"))) (by decide) (by decide))))
  have f17 := (modCount11.other W14 (Or.inr (slot_ne (Or.inl (hw _ (List.mem_of_getElem? (i := 59) rfl))) (Or.inl (hw _ (List.mem_of_getElem? (i := 62) rfl))) (by decide) (t := .int) (t' := (.array (.object "java/lang/Object"))) (by decide) (by decide))))
  exact own_ret0 X14 hx hret hlk (hb hby d5_11) (by rw [e14]; exact ⟨rfl, N14, (((Keep.refl h0 [a]).trans K11 (allS (Or.inl (List.mem_of_getElem? (i := 0) rfl)) all0)).wr W14 (Or.inl (List.mem_of_getElem? (i := 0) rfl))), f15, F14, f16, f17⟩) (by decide) (by decide)
theorem own_ef13 (m : MethodId) (x0 : Nat) (x1 : Int32) : entryFrame m #[(.ref x0), (.int x1)] 4 = mkF m 0 #[.val (.ref x0), .val (.int x1), .unset, .unset] [] := by first | (simp [entryFrame, mkF, argsToLocals, Value.category]; done) | rfl
set_option maxRecDepth 65536 in
set_option maxHeartbeats 40000000 in
theorem own_kgI (l : Launch) (Z : State) (az : Array Value) (hw : ∀ d ∈ tables_1, d.before az Z = true) (a d0 : Nat) (mc : Int32) (K0 : ClassId) (f0 : Nat → Value) (h0 : Heap) (n0 : Nat) (E0 : Exa Z h0 a "java/util/ArrayList") (D_elementData : Fld Z h0 a "java/util/ArrayList" "elementData" "[Ljava/lang/Object;" (.ref d0)) (D_size : Fld Z h0 a "java/util/ArrayList" "size" "I" (.int (0 : Int32))) (D_modCount : Fld Z h0 a "java/util/AbstractList" "modCount" "I" (.int mc)) (A0 : own_A Z h0 d0 (.object "java/lang/Object") K0 0 f0) (DS : Sta Z Z.heap "java/util/ArrayList" "DEFAULTCAPACITY_EMPTY_ELEMENTDATA" "[Ljava/lang/Object;" (.ref d0)) (O0 : Old Z n0 h0) (G0 : n0 ≤ a) :
    own_Con l Z (⟨"java/util/ArrayList", "grow", "(I)[Ljava/lang/Object;"⟩ : MethodName) jdk_38_method_6_code 4 (some (FieldType.array (FieldType.object "java/lang/Object"))) ({ frames := 1, cells := 1, slots := 10, locals := 14 } : Room) #[(.ref a), (.int (1 : Int32))] h0 (fun r h L => ∃ ea, r = some (.ref ea) ∧ Fr n0 L ∧ Keep h0 h [a] ∧ h0.size ≤ ea ∧ Exa Z h a "java/util/ArrayList" ∧ Fld Z h a "java/util/ArrayList" "elementData" "[Ljava/lang/Object;" (.ref ea) ∧ Fld Z h a "java/util/ArrayList" "size" "I" (.int (0 : Int32)) ∧ Fld Z h a "java/util/AbstractList" "modCount" "I" (.int mc) ∧ own_O Z h ea 10 (fun _ => .null)) := by
  refine own_con own_pn_java_util_ArrayList ?_
  intro p e s m below meth c T0 hx hby hml hZ hown hnm hret hlk X0 e0 eh
  have hlt := own_n E0.lt
  have na11 : d0 ≠ a := by obtain ⟨cl, A, -⟩ := A0; exact (ne_arr E0 (hw _ (List.mem_of_getElem? (i := 40) rfl)) A).symm
  refine own_via (F' := T0.setTop (mkF m 0 #[.val (.ref a), .val (.int (1 : Int32)), .unset, .unset] [])) (fun tz kz => castTop (own_ef13 m _ _) kz) ?_
  refine own_via (F' := T0.setTop (mkF m 1 #[.val (.ref a), .val (.int (1 : Int32)), .unset, .unset] [(.ref a)])) (fun tz kz => XS.aloadN X0.here hx rfl (hb hby d11_0) rfl rfl kz) ?_
  obtain ⟨T12, X12, e12, s12⟩ := getF X0 hx hZ hown (host := "") (Or.inl (hw _ (List.mem_of_getElem? (i := 61) rfl))) Via.refl e0 D_elementData (g := (mkF m 1 #[.val (.ref a), .val (.int (1 : Int32)), .unset, .unset] [(.ref a)])) rfl rfl (hb hby d11_1)
  refine own_via (F' := T12.setTop (mkF m 4 #[.val (.ref a), .val (.int (1 : Int32)), .unset, .unset] [(.ref d0)])) s12 ?_
  refine own_via (F' := T12.setTop (mkF m 5 #[.val (.ref a), .val (.int (1 : Int32)), .unset, .unset] [(.int (0 : Int32))])) (fun tz kz => own_lenA X12 hx hZ e12 A0 (g := (mkF m 4 #[.val (.ref a), .val (.int (1 : Int32)), .unset, .unset] [(.ref d0)])) rfl rfl (hb hby d11_4) tz kz) ?_
  refine own_via (F' := T12.setTop (mkF m 6 #[.val (.ref a), .val (.int (1 : Int32)), .val (.int (0 : Int32)), .unset] [])) (fun tz kz => XS.istoreN X12.here hx rfl (hb hby d11_5) rfl (l' := #[.val (.ref a), .val (.int (1 : Int32)), .val (.int (0 : Int32)), .unset]) rfl kz) ?_
  refine own_via (F' := T12.setTop (mkF m 7 #[.val (.ref a), .val (.int (1 : Int32)), .val (.int (0 : Int32)), .unset] [(.int (0 : Int32))])) (fun tz kz => XS.iloadN X12.here hx rfl (hb hby d11_6) rfl kz) ?_
  refine own_via (F' := T12.setTop (mkF m 10 #[.val (.ref a), .val (.int (1 : Int32)), .val (.int (0 : Int32)), .unset] [])) (fun tz kz => XS.ifNo X12.here hx rfl (hb hby d11_7) rfl (XT.i0_gt_f (by decide)) kz) ?_
  refine own_via (F' := T12.setTop (mkF m 11 #[.val (.ref a), .val (.int (1 : Int32)), .val (.int (0 : Int32)), .unset] [(.ref a)])) (fun tz kz => XS.aloadN X12.here hx rfl (hb hby d11_10) rfl rfl kz) ?_
  obtain ⟨T13, X13, e13, s13⟩ := getF X12 hx hZ hown (host := "") (Or.inl (hw _ (List.mem_of_getElem? (i := 61) rfl))) Via.refl e12 D_elementData (g := (mkF m 11 #[.val (.ref a), .val (.int (1 : Int32)), .val (.int (0 : Int32)), .unset] [(.ref a)])) rfl rfl (hb hby d11_11)
  refine own_via (F' := T13.setTop (mkF m 14 #[.val (.ref a), .val (.int (1 : Int32)), .val (.int (0 : Int32)), .unset] [(.ref d0)])) s13 ?_
  obtain ⟨T14, X14, e14, s14⟩ := getS X13 hx hZ (host := "") hown (hw _ (List.mem_of_getElem? (i := 60) rfl)) Via.refl e13 (DS.ext O0.2) (g := (mkF m 14 #[.val (.ref a), .val (.int (1 : Int32)), .val (.int (0 : Int32)), .unset] [(.ref d0)])) rfl (hb hby d11_14)
  refine own_via (F' := T14.setTop (mkF m 17 #[.val (.ref a), .val (.int (1 : Int32)), .val (.int (0 : Int32)), .unset] [(.ref d0), (.ref d0)])) s14 ?_
  refine own_via (F' := T14.setTop (mkF m 45 #[.val (.ref a), .val (.int (1 : Int32)), .val (.int (0 : Int32)), .unset] [])) (fun tz kz => XT.acmpYes X14.here hx rfl (pc0 := 17) (pc' := 45) rfl (hb hby d11_17) rfl rfl rfl (XT.aa_eq_t rfl) (by decide) (by decide) kz) ?_
  refine own_via (F' := T14.setTop (mkF m 46 #[.val (.ref a), .val (.int (1 : Int32)), .val (.int (0 : Int32)), .unset] [(.ref a)])) (fun tz kz => XS.aloadN X14.here hx rfl (hb hby d11_45) rfl rfl kz) ?_
  refine own_via (F' := T14.setTop (mkF m 48 #[.val (.ref a), .val (.int (1 : Int32)), .val (.int (0 : Int32)), .unset] [(.int (10 : Int32)), (.ref a)])) (fun tz kz => XT.bipushV X14.here hx rfl (10 : Int32) (hb hby d11_46) (by decide) kz) ?_
  refine own_via (F' := T14.setTop (mkF m 49 #[.val (.ref a), .val (.int (1 : Int32)), .val (.int (0 : Int32)), .unset] [(.int (1 : Int32)), (.int (10 : Int32)), (.ref a)])) (fun tz kz => XS.iloadN X14.here hx rfl (hb hby d11_48) rfl kz) ?_
  refine own_callS X14 hx hZ (own_kmx l Z az hw 10 1 10 (by decide) h0 n0) hown (hw _ (List.mem_of_getElem? (i := 87) rfl)) (hw _ (List.mem_of_getElem? (i := 88) rfl)) (hw _ (List.mem_of_getElem? (i := 89) rfl)) (hw _ (List.mem_of_getElem? (i := 90) rfl)) (by decide) e14 (g := (mkF m 49 #[.val (.ref a), .val (.int (1 : Int32)), .val (.int (0 : Int32)), .unset] [(.int (1 : Int32)), (.int (10 : Int32)), (.ref a)])) rfl (by rw [hml]; rfl) (argsL := [(.int (10 : Int32)), (.int (1 : Int32))]) (rest := [(.ref a)]) rfl (lenOf own_pd2 rfl) rfl 1 (by show 2 * 0 + _ ≤ _; exact Nat.le_of_eq rfl) (hb hby d11_49) (by decide) (by decide) (by decide) (by decide) ?_
  intro v15 T15 L15 hQ15 X15
  obtain ⟨rfl, e15, rfl⟩ := hQ15
  refine own_via (F' := T15.setTop (mkF m 52 #[.val (.ref a), .val (.int (1 : Int32)), .val (.int (0 : Int32)), .unset] [(.int (10 : Int32)), (.ref a)])) (fun tz kz => kz) ?_
  obtain ⟨T16, h16, X16, e16, E16, A16, s16⟩ := own_newOA X15 hx hZ hown (hw _ (List.mem_of_getElem? (i := 91) rfl)) (hw _ (List.mem_of_getElem? (i := 92) rfl)) e15 (n := 10) rfl (by decide) (by decide) (by decide) (by decide) (g := (mkF m 52 #[.val (.ref a), .val (.int (1 : Int32)), .val (.int (0 : Int32)), .unset] [(.int (10 : Int32)), (.ref a)])) rfl rfl (hb hby d11_52)
  obtain ⟨a16, g16⟩ : ∃ z, z = h0.size := ⟨_, rfl⟩
  rw [← g16] at A16 s16
  have lt16_a : a < a16 := by have q := own_n E0.lt; omega
  have lt16_d0 : d0 < a16 := by have q := own_n A0.lt; omega
  have B16 : h0.size ≤ a16 := by have q := (Keep.refl h0 [a]).1; omega
  have G16 : n0 ≤ a16 := by have q := O0.2.1; have q2 := O0.1; omega
  refine own_via (F' := T16.setTop (mkF m 55 #[.val (.ref a), .val (.int (1 : Int32)), .val (.int (0 : Int32)), .unset] [(.ref a16), (.ref a)])) s16 ?_
  refine own_via (F' := T16.setTop (mkF m 56 #[.val (.ref a), .val (.int (1 : Int32)), .val (.int (0 : Int32)), .unset] [(.ref a16), (.ref a), (.ref a16)])) (fun tz kz => XT.dupX1 X16.here hx rfl (hb hby d11_55) rfl rfl rfl kz) ?_
  have f17 := (D_elementData.ext E16)
  have f18 := (E0.ext E16)
  obtain ⟨T19, h19, X19, e19, W19, s19⟩ := putF X16 hx hZ hown (host := "") (Or.inl (hw _ (List.mem_of_getElem? (i := 61) rfl))) Via.refl e16 f17 f18 (Or.inl (hw _ (List.mem_of_getElem? (i := 62) rfl))) (hw _ (List.mem_of_getElem? (i := 40) rfl)) (ty := (.array (.object "java/lang/Object"))) (by decide) rfl rfl (g := (mkF m 56 #[.val (.ref a), .val (.int (1 : Int32)), .val (.int (0 : Int32)), .unset] [(.ref a16), (.ref a), (.ref a16)])) rfl rfl (hb hby d11_56)
  have F19 := f17.same W19
  have N19 := Fr.snoc X19 (Fr.app (Fr.nil n0) (Fr.nil _)) G0
  refine own_via (F' := T19.setTop (mkF m 59 #[.val (.ref a), .val (.int (1 : Int32)), .val (.int (0 : Int32)), .unset] [(.ref a16)])) s19 ?_
  have f20 := (f18.wr W19)
  have f21 := ((D_size.ext E16).other W19 (Or.inr (slot_ne (Or.inl (hw _ (List.mem_of_getElem? (i := 71) rfl))) (Or.inl (hw _ (List.mem_of_getElem? (i := 62) rfl))) (by decide) (t := .int) (t' := (.array (.object "java/lang/Object"))) (by decide) (by decide))))
  have f22 := ((D_modCount.ext E16).other W19 (Or.inr (slot_ne (Or.inl (hw _ (List.mem_of_getElem? (i := 59) rfl))) (Or.inl (hw _ (List.mem_of_getElem? (i := 62) rfl))) (by decide) (t := .int) (t' := (.array (.object "java/lang/Object"))) (by decide) (by decide))))
  have f23 := (A16.other W19 (own_ne (by omega)))
  exact own_retA X19 hx hret rfl rfl hlk (hb hby d11_59) (by rw [e19]; exact ⟨a16, rfl, N19, (((Keep.refl h0 [a]).ext E16).wr W19 (Or.inl (List.mem_of_getElem? (i := 0) rfl))), B16, f20, F19, f21, f22, f23⟩) (by decide) (by decide)
set_option maxRecDepth 65536 in
set_option maxHeartbeats 40000000 in
theorem own_kg0 (l : Launch) (Z : State) (az : Array Value) (hw : ∀ d ∈ tables_1, d.before az Z = true) (a d0 : Nat) (mc : Int32) (K0 : ClassId) (f0 : Nat → Value) (h0 : Heap) (n0 : Nat) (E0 : Exa Z h0 a "java/util/ArrayList") (D_elementData : Fld Z h0 a "java/util/ArrayList" "elementData" "[Ljava/lang/Object;" (.ref d0)) (D_size : Fld Z h0 a "java/util/ArrayList" "size" "I" (.int (0 : Int32))) (D_modCount : Fld Z h0 a "java/util/AbstractList" "modCount" "I" (.int mc)) (A0 : own_A Z h0 d0 (.object "java/lang/Object") K0 0 f0) (DS : Sta Z Z.heap "java/util/ArrayList" "DEFAULTCAPACITY_EMPTY_ELEMENTDATA" "[Ljava/lang/Object;" (.ref d0)) (O0 : Old Z n0 h0) (G0 : n0 ≤ a) :
    own_Con l Z (⟨"java/util/ArrayList", "grow", "()[Ljava/lang/Object;"⟩ : MethodName) jdk_38_method_7_code 1 (some (FieldType.array (FieldType.object "java/lang/Object"))) ({ frames := 2, cells := 1, slots := 10, locals := 29 } : Room) #[(.ref a)] h0 (fun r h L => ∃ ea, r = some (.ref ea) ∧ Fr n0 L ∧ Keep h0 h [a] ∧ h0.size ≤ ea ∧ Exa Z h a "java/util/ArrayList" ∧ Fld Z h a "java/util/ArrayList" "elementData" "[Ljava/lang/Object;" (.ref ea) ∧ Fld Z h a "java/util/ArrayList" "size" "I" (.int (0 : Int32)) ∧ Fld Z h a "java/util/AbstractList" "modCount" "I" (.int mc) ∧ own_O Z h ea 10 (fun _ => .null)) := by
  refine own_con own_pn_java_util_ArrayList ?_
  intro p e s m below meth c T0 hx hby hml hZ hown hnm hret hlk X0 e0 eh
  have hlt := own_n E0.lt
  have na11 : d0 ≠ a := by obtain ⟨cl, A, -⟩ := A0; exact (ne_arr E0 (hw _ (List.mem_of_getElem? (i := 40) rfl)) A).symm
  refine own_via (F' := T0.setTop (mkF m 0 #[.val (.ref a)] [])) (fun tz kz => castTop (own_ef6 m _) kz) ?_
  refine own_via (F' := T0.setTop (mkF m 1 #[.val (.ref a)] [(.ref a)])) (fun tz kz => XS.aloadN X0.here hx rfl (hb hby d10_0) rfl rfl kz) ?_
  refine own_via (F' := T0.setTop (mkF m 2 #[.val (.ref a)] [(.ref a), (.ref a)])) (fun tz kz => XS.aloadN X0.here hx rfl (hb hby d10_1) rfl rfl kz) ?_
  obtain ⟨T12, X12, e12, s12⟩ := getF X0 hx hZ hown (host := "") (Or.inl (hw _ (List.mem_of_getElem? (i := 70) rfl))) Via.refl e0 D_size (g := (mkF m 2 #[.val (.ref a)] [(.ref a), (.ref a)])) rfl rfl (hb hby d10_2)
  refine own_via (F' := T12.setTop (mkF m 5 #[.val (.ref a)] [(.int (0 : Int32)), (.ref a)])) s12 ?_
  refine own_via (F' := T12.setTop (mkF m 6 #[.val (.ref a)] [(.int (1 : Int32)), (.int (0 : Int32)), (.ref a)])) (fun tz kz => XT.iconstV X12.here hx rfl (1 : Int32) (hb hby d10_5) (by decide) kz) ?_
  refine own_via (F' := T12.setTop (mkF m 7 #[.val (.ref a)] [(.int (1 : Int32)), (.ref a)])) (fun tz kz => XS.iadd X12.here hx rfl (hb hby d10_6) rfl kz) ?_
  refine own_callP X12 hx hZ (own_kgI l Z az hw a d0 mc K0 f0 h0 n0 E0 D_elementData D_size D_modCount A0 DS O0 G0) hown E0 (hw _ (List.mem_of_getElem? (i := 82) rfl)) (hw _ (List.mem_of_getElem? (i := 83) rfl)) (hw _ (List.mem_of_getElem? (i := 85) rfl)) (hw _ (List.mem_of_getElem? (i := 84) rfl)) (hw _ (List.mem_of_getElem? (i := 41) rfl)) (hw _ (List.mem_of_getElem? (i := 86) rfl)) (by decide) e12 (g := (mkF m 7 #[.val (.ref a)] [(.int (1 : Int32)), (.ref a)])) rfl (by rw [hml]; rfl) (argsL := [(.int (1 : Int32))]) (rest := []) rfl (lenOf own_pd3 rfl) rfl 0 (by show 2 * 0 + _ ≤ _; exact Nat.le_of_eq rfl) (hb hby d10_7) (by decide) (by decide) (by decide) (by decide) ?_
  intro v13 T13 L13 hQ13 X13
  obtain ⟨ea13, rfl, M13, K13, g13, E13, elementData13, size13, modCount13, A13⟩ := hQ13
  refine own_via (F' := T13.setTop (mkF m 10 #[.val (.ref a)] [(.ref ea13)])) (fun tz kz => kz) ?_
  exact own_retA X13 hx hret rfl rfl hlk (hb hby d10_10) ⟨ea13, rfl, (Fr.app (Fr.nil n0) M13), ((Keep.refl h0 [a]).trans K13 (allS (Or.inl (List.mem_of_getElem? (i := 0) rfl)) all0)), g13, E13, elementData13, size13, modCount13, A13⟩ (by decide) (by decide)
theorem own_ef14 (m : MethodId) (x0 : Nat) (x1 : Nat) (x2 : Nat) (x3 : Int32) : entryFrame m #[(.ref x0), (.ref x1), (.ref x2), (.int x3)] 4 = mkF m 0 #[.val (.ref x0), .val (.ref x1), .val (.ref x2), .val (.int x3)] [] := by first | (simp [entryFrame, mkF, argsToLocals, Value.category]; done) | rfl
set_option maxRecDepth 65536 in
set_option maxHeartbeats 40000000 in
theorem own_k30 (l : Launch) (Z : State) (az : Array Value) (hw : ∀ d ∈ tables_1, d.before az Z = true) (a d0 : Nat) (mc : Int32) (K0 : ClassId) (f0 : Nat → Value) (h0 : Heap) (n0 : Nat) (E0 : Exa Z h0 a "java/util/ArrayList") (D_elementData : Fld Z h0 a "java/util/ArrayList" "elementData" "[Ljava/lang/Object;" (.ref d0)) (D_size : Fld Z h0 a "java/util/ArrayList" "size" "I" (.int (0 : Int32))) (D_modCount : Fld Z h0 a "java/util/AbstractList" "modCount" "I" (.int mc)) (A0 : own_A Z h0 d0 (.object "java/lang/Object") K0 0 f0) (DS : Sta Z Z.heap "java/util/ArrayList" "DEFAULTCAPACITY_EMPTY_ELEMENTDATA" "[Ljava/lang/Object;" (.ref d0)) (O0 : Old Z n0 h0) (G0 : n0 ≤ a) (t : Nat) (I0 : Ins Z h0 t "java/lang/Object" true) :
    own_Con l Z (⟨"java/util/ArrayList", "add", "(Ljava/lang/Object;[Ljava/lang/Object;I)V"⟩ : MethodName) jdk_38_method_24_code 4 (none) ({ frames := 3, cells := 1, slots := 10, locals := 41 } : Room) #[(.ref a), (.ref t), (.ref d0), (.int (0 : Int32))] h0 (fun r h L => r = none ∧ Fr n0 L ∧ Keep h0 h [a] ∧ ∃ ea, h0.size ≤ ea ∧ own_AL Z h a ea 1 (fun x => if x = 0 then .ref t else .null)) := by
  refine own_con own_pn_java_util_ArrayList ?_
  intro p e s m below meth c T0 hx hby hml hZ hown hnm hret hlk X0 e0 eh
  have hlt := own_n E0.lt
  have na11 : d0 ≠ a := by obtain ⟨cl, A, -⟩ := A0; exact (ne_arr E0 (hw _ (List.mem_of_getElem? (i := 40) rfl)) A).symm
  refine own_via (F' := T0.setTop (mkF m 0 #[.val (.ref a), .val (.ref t), .val (.ref d0), .val (.int (0 : Int32))] [])) (fun tz kz => castTop (own_ef14 m _ _ _ _) kz) ?_
  refine own_via (F' := T0.setTop (mkF m 1 #[.val (.ref a), .val (.ref t), .val (.ref d0), .val (.int (0 : Int32))] [(.int (0 : Int32))])) (fun tz kz => XS.iloadN X0.here hx rfl (hb hby d9_0) rfl kz) ?_
  refine own_via (F' := T0.setTop (mkF m 2 #[.val (.ref a), .val (.ref t), .val (.ref d0), .val (.int (0 : Int32))] [(.ref d0), (.int (0 : Int32))])) (fun tz kz => XS.aloadN X0.here hx rfl (hb hby d9_1) rfl rfl kz) ?_
  refine own_via (F' := T0.setTop (mkF m 3 #[.val (.ref a), .val (.ref t), .val (.ref d0), .val (.int (0 : Int32))] [(.int (0 : Int32)), (.int (0 : Int32))])) (fun tz kz => own_lenA X0 hx hZ e0 A0 (g := (mkF m 2 #[.val (.ref a), .val (.ref t), .val (.ref d0), .val (.int (0 : Int32))] [(.ref d0), (.int (0 : Int32))])) rfl rfl (hb hby d9_2) tz kz) ?_
  refine own_via (F' := T0.setTop (mkF m 6 #[.val (.ref a), .val (.ref t), .val (.ref d0), .val (.int (0 : Int32))] [])) (fun tz kz => XS.icmpNo X0.here hx rfl (hb hby d9_3) rfl (XT.ii_ne_f (by decide)) kz) ?_
  refine own_via (F' := T0.setTop (mkF m 7 #[.val (.ref a), .val (.ref t), .val (.ref d0), .val (.int (0 : Int32))] [(.ref a)])) (fun tz kz => XS.aloadN X0.here hx rfl (hb hby d9_6) rfl rfl kz) ?_
  refine own_callP X0 hx hZ (own_kg0 l Z az hw a d0 mc K0 f0 h0 n0 E0 D_elementData D_size D_modCount A0 DS O0 G0) hown E0 (hw _ (List.mem_of_getElem? (i := 77) rfl)) (hw _ (List.mem_of_getElem? (i := 78) rfl)) (hw _ (List.mem_of_getElem? (i := 80) rfl)) (hw _ (List.mem_of_getElem? (i := 79) rfl)) (hw _ (List.mem_of_getElem? (i := 41) rfl)) (hw _ (List.mem_of_getElem? (i := 81) rfl)) (by decide) e0 (g := (mkF m 7 #[.val (.ref a), .val (.ref t), .val (.ref d0), .val (.int (0 : Int32))] [(.ref a)])) rfl (by rw [hml]; rfl) (argsL := []) (rest := []) rfl (lenOf own_pd4 rfl) rfl 0 (by show 2 * 0 + _ ≤ _; exact Nat.le_of_eq rfl) (hb hby d9_7) (by decide) (by decide) (by decide) (by decide) ?_
  intro v12 T12 L12 hQ12 X12
  obtain ⟨ea12, rfl, M12, K12, g12, E12, elementData12, size12, modCount12, A12⟩ := hQ12
  have G12 : n0 ≤ ea12 := by have q := O0.2.1; have q2 := O0.1; omega
  refine own_via (F' := T12.setTop (mkF m 10 #[.val (.ref a), .val (.ref t), .val (.ref d0), .val (.int (0 : Int32))] [(.ref ea12)])) (fun tz kz => kz) ?_
  refine own_via (F' := T12.setTop (mkF m 11 #[.val (.ref a), .val (.ref t), .val (.ref ea12), .val (.int (0 : Int32))] [])) (fun tz kz => XS.astoreN X12.here hx rfl (hb hby d9_10) rfl rfl (l' := #[.val (.ref a), .val (.ref t), .val (.ref ea12), .val (.int (0 : Int32))]) rfl kz) ?_
  refine own_via (F' := T12.setTop (mkF m 12 #[.val (.ref a), .val (.ref t), .val (.ref ea12), .val (.int (0 : Int32))] [(.ref ea12)])) (fun tz kz => XS.aloadN X12.here hx rfl (hb hby d9_11) rfl rfl kz) ?_
  refine own_via (F' := T12.setTop (mkF m 13 #[.val (.ref a), .val (.ref t), .val (.ref ea12), .val (.int (0 : Int32))] [(.int (0 : Int32)), (.ref ea12)])) (fun tz kz => XS.iloadN X12.here hx rfl (hb hby d9_12) rfl kz) ?_
  refine own_via (F' := T12.setTop (mkF m 14 #[.val (.ref a), .val (.ref t), .val (.ref ea12), .val (.int (0 : Int32))] [(.ref t), (.int (0 : Int32)), (.ref ea12)])) (fun tz kz => XS.aloadN X12.here hx rfl (hb hby d9_13) rfl rfl kz) ?_
  have f14 := (Ins.keep' I0 K12)
  obtain ⟨T13, h13, X13, e13, W13, s13⟩ := A12.store X12 hx hZ rfl (j := 0) rfl (by decide) (by decide) f14 (g := (mkF m 14 #[.val (.ref a), .val (.ref t), .val (.ref ea12), .val (.int (0 : Int32))] [(.ref t), (.int (0 : Int32)), (.ref ea12)])) rfl rfl (hb hby d9_14)
  have F13 : own_O Z h13 ea12 10 (fun zz => if zz = 0 then .ref t else (fun _ => .null) zz) := A12.set W13
  have N13 := Fr.snoc X13 (Fr.app (Fr.nil n0) M12) G12
  refine own_via (F' := T13.setTop (mkF m 15 #[.val (.ref a), .val (.ref t), .val (.ref ea12), .val (.int (0 : Int32))] [])) s13 ?_
  refine own_via (F' := T13.setTop (mkF m 16 #[.val (.ref a), .val (.ref t), .val (.ref ea12), .val (.int (0 : Int32))] [(.ref a)])) (fun tz kz => XS.aloadN X13.here hx rfl (hb hby d9_15) rfl rfl kz) ?_
  refine own_via (F' := T13.setTop (mkF m 17 #[.val (.ref a), .val (.ref t), .val (.ref ea12), .val (.int (0 : Int32))] [(.int (0 : Int32)), (.ref a)])) (fun tz kz => XS.iloadN X13.here hx rfl (hb hby d9_16) rfl kz) ?_
  refine own_via (F' := T13.setTop (mkF m 18 #[.val (.ref a), .val (.ref t), .val (.ref ea12), .val (.int (0 : Int32))] [(.int (1 : Int32)), (.int (0 : Int32)), (.ref a)])) (fun tz kz => XT.iconstV X13.here hx rfl (1 : Int32) (hb hby d9_17) (by decide) kz) ?_
  refine own_via (F' := T13.setTop (mkF m 19 #[.val (.ref a), .val (.ref t), .val (.ref ea12), .val (.int (0 : Int32))] [(.int (1 : Int32)), (.ref a)])) (fun tz kz => XS.iadd X13.here hx rfl (hb hby d9_18) rfl kz) ?_
  have f15 := (size12.other W13 (Or.inl (own_ne (by omega))))
  have f16 := (E12.wr W13)
  obtain ⟨T17, h17, X17, e17, W17, s17⟩ := putF X13 hx hZ hown (host := "") (Or.inl (hw _ (List.mem_of_getElem? (i := 70) rfl))) Via.refl e13 f15 f16 (Or.inl (hw _ (List.mem_of_getElem? (i := 71) rfl))) (hw _ (List.mem_of_getElem? (i := 40) rfl)) (ty := .int) (by decide) rfl rfl (g := (mkF m 19 #[.val (.ref a), .val (.ref t), .val (.ref ea12), .val (.int (0 : Int32))] [(.int (1 : Int32)), (.ref a)])) rfl rfl (hb hby d9_19)
  have F17 := f15.same W17
  have N17 := Fr.snoc X17 N13 G0
  refine own_via (F' := T17.setTop (mkF m 22 #[.val (.ref a), .val (.ref t), .val (.ref ea12), .val (.int (0 : Int32))] [])) s17 ?_
  have f18 := (f16.wr W17)
  have f19 := ((elementData12.other W13 (Or.inl (own_ne (by omega)))).other W17 (Or.inr (slot_ne (Or.inl (hw _ (List.mem_of_getElem? (i := 62) rfl))) (Or.inl (hw _ (List.mem_of_getElem? (i := 71) rfl))) (by decide) (t := (.array (.object "java/lang/Object"))) (t' := .int) (by decide) (by decide))))
  have f20 := ((modCount12.other W13 (Or.inl (own_ne (by omega)))).other W17 (Or.inr (slot_ne (Or.inl (hw _ (List.mem_of_getElem? (i := 59) rfl))) (Or.inl (hw _ (List.mem_of_getElem? (i := 71) rfl))) (by decide) (t := .int) (t' := .int) (by decide) (by decide))))
  have f21 := (F13.other W17 (own_ne (by omega)))
  exact own_ret0 X17 hx hret hlk (hb hby d9_22) (by rw [e17]; exact ⟨rfl, N17, ((((Keep.refl h0 [a]).trans K12 (allS (Or.inl (List.mem_of_getElem? (i := 0) rfl)) all0)).wr W13 (Or.inr g12)).wr W17 (Or.inl (List.mem_of_getElem? (i := 0) rfl))), ea12, g12, ⟨f18, f19, F17, ⟨_, f20⟩, f21, by omega⟩⟩) (by decide) (by decide)
set_option maxRecDepth 65536 in
set_option maxHeartbeats 40000000 in
theorem own_k3 (l : Launch) (Z : State) (az : Array Value) (hw : ∀ d ∈ tables_1, d.before az Z = true) (a ea n : Nat) (f : Nat → Value) (h0 : Heap) (n0 : Nat) (L0 : own_AL Z h0 a ea n f) (hn : n < 10) (G0 : n0 ≤ a) (t : Nat) (I0 : Ins Z h0 t "java/lang/Object" true) :
    own_Con l Z (⟨"java/util/ArrayList", "add", "(Ljava/lang/Object;[Ljava/lang/Object;I)V"⟩ : MethodName) jdk_38_method_24_code 4 (none) ({ frames := 0, cells := 0, slots := 0, locals := 0 } : Room) #[(.ref a), (.ref t), (.ref ea), (.int (n).toInt32)] h0 (fun r h L => r = none ∧ Fr n0 L ∧ Keep h0 h [a, ea] ∧ own_AL Z h a ea (n + 1) (fun x => if x = n then .ref t else f x)) := by
  refine own_con own_pn_java_util_ArrayList ?_
  intro p e s m below meth c T0 hx hby hml hZ hown hnm hret hlk X0 e0 eh
  obtain ⟨E0, D_elementData, D_size, ⟨mc, D_modCount⟩, A0, hle⟩ := L0
  refine own_via (F' := T0.setTop (mkF m 0 #[.val (.ref a), .val (.ref t), .val (.ref ea), .val (.int (n).toInt32)] [])) (fun tz kz => castTop (own_ef14 m _ _ _ _) kz) ?_
  refine own_via (F' := T0.setTop (mkF m 1 #[.val (.ref a), .val (.ref t), .val (.ref ea), .val (.int (n).toInt32)] [(.int (n).toInt32)])) (fun tz kz => XS.iloadN X0.here hx rfl (hb hby d9_0) rfl kz) ?_
  refine own_via (F' := T0.setTop (mkF m 2 #[.val (.ref a), .val (.ref t), .val (.ref ea), .val (.int (n).toInt32)] [(.ref ea), (.int (n).toInt32)])) (fun tz kz => XS.aloadN X0.here hx rfl (hb hby d9_1) rfl rfl kz) ?_
  have lq11 := A0
  obtain ⟨Kq11, Aq11, -⟩ := lq11
  refine own_via (F' := T0.setTop (mkF m 3 #[.val (.ref a), .val (.ref t), .val (.ref ea), .val (.int (n).toInt32)] [(.int (10 : Int32)), (.int (n).toInt32)])) (fun tz kz => own_lenA X0 hx hZ e0 Aq11 (g := (mkF m 2 #[.val (.ref a), .val (.ref t), .val (.ref ea), .val (.int (n).toInt32)] [(.ref ea), (.int (n).toInt32)])) rfl rfl (hb hby d9_2) tz kz) ?_
  refine own_via (F' := T0.setTop (mkF m 11 #[.val (.ref a), .val (.ref t), .val (.ref ea), .val (.int (n).toInt32)] [])) (fun tz kz => XS.icmpYes X0.here hx rfl (pc0 := 3) (pc' := 11) rfl (hb hby d9_3) rfl (XT.ii_ne_t (fun z => absurd ((own_eqI (i := n) (j := 10) rfl rfl (by omega) (by decide)).mp z) (by omega))) (by decide) (by decide) kz) ?_
  refine own_via (F' := T0.setTop (mkF m 12 #[.val (.ref a), .val (.ref t), .val (.ref ea), .val (.int (n).toInt32)] [(.ref ea)])) (fun tz kz => XS.aloadN X0.here hx rfl (hb hby d9_11) rfl rfl kz) ?_
  refine own_via (F' := T0.setTop (mkF m 13 #[.val (.ref a), .val (.ref t), .val (.ref ea), .val (.int (n).toInt32)] [(.int (n).toInt32), (.ref ea)])) (fun tz kz => XS.iloadN X0.here hx rfl (hb hby d9_12) rfl kz) ?_
  refine own_via (F' := T0.setTop (mkF m 14 #[.val (.ref a), .val (.ref t), .val (.ref ea), .val (.int (n).toInt32)] [(.ref t), (.int (n).toInt32), (.ref ea)])) (fun tz kz => XS.aloadN X0.here hx rfl (hb hby d9_13) rfl rfl kz) ?_
  obtain ⟨T12, h12, X12, e12, W12, s12⟩ := A0.store X0 hx hZ e0 (j := n) rfl hn (by decide) I0 (g := (mkF m 14 #[.val (.ref a), .val (.ref t), .val (.ref ea), .val (.int (n).toInt32)] [(.ref t), (.int (n).toInt32), (.ref ea)])) rfl rfl (hb hby d9_14)
  have F12 : own_O Z h12 ea 10 (fun zz => if zz = n then .ref t else f zz) := A0.set W12
  have N12 := Fr.snoc X12 (Fr.nil n0) (by omega)
  refine own_via (F' := T12.setTop (mkF m 15 #[.val (.ref a), .val (.ref t), .val (.ref ea), .val (.int (n).toInt32)] [])) s12 ?_
  refine own_via (F' := T12.setTop (mkF m 16 #[.val (.ref a), .val (.ref t), .val (.ref ea), .val (.int (n).toInt32)] [(.ref a)])) (fun tz kz => XS.aloadN X12.here hx rfl (hb hby d9_15) rfl rfl kz) ?_
  refine own_via (F' := T12.setTop (mkF m 17 #[.val (.ref a), .val (.ref t), .val (.ref ea), .val (.int (n).toInt32)] [(.int (n).toInt32), (.ref a)])) (fun tz kz => XS.iloadN X12.here hx rfl (hb hby d9_16) rfl kz) ?_
  refine own_via (F' := T12.setTop (mkF m 18 #[.val (.ref a), .val (.ref t), .val (.ref ea), .val (.int (n).toInt32)] [(.int (1 : Int32)), (.int (n).toInt32), (.ref a)])) (fun tz kz => XT.iconstV X12.here hx rfl (1 : Int32) (hb hby d9_17) (by decide) kz) ?_
  refine own_via (F' := T12.setTop (mkF m 19 #[.val (.ref a), .val (.ref t), .val (.ref ea), .val (.int (n).toInt32)] [(.int (n + 1).toInt32), (.ref a)])) (fun tz kz => XS.iadd X12.here hx rfl (hb hby d9_18) rfl (by rw [own_succ]; exact kz)) ?_
  have f13 := (D_size.other W12 (Or.inl (own_ne (by omega))))
  have f14 := (E0.wr W12)
  obtain ⟨T15, h15, X15, e15, W15, s15⟩ := putF X12 hx hZ hown (host := "") (Or.inl (hw _ (List.mem_of_getElem? (i := 70) rfl))) Via.refl e12 f13 f14 (Or.inl (hw _ (List.mem_of_getElem? (i := 71) rfl))) (hw _ (List.mem_of_getElem? (i := 40) rfl)) (ty := .int) (by decide) rfl rfl (g := (mkF m 19 #[.val (.ref a), .val (.ref t), .val (.ref ea), .val (.int (n).toInt32)] [(.int (n + 1).toInt32), (.ref a)])) rfl rfl (hb hby d9_19)
  have F15 := f13.same W15
  have N15 := Fr.snoc X15 N12 G0
  refine own_via (F' := T15.setTop (mkF m 22 #[.val (.ref a), .val (.ref t), .val (.ref ea), .val (.int (n).toInt32)] [])) s15 ?_
  have f16 := (f14.wr W15)
  have f17 := ((D_elementData.other W12 (Or.inl (own_ne (by omega)))).other W15 (Or.inr (slot_ne (Or.inl (hw _ (List.mem_of_getElem? (i := 62) rfl))) (Or.inl (hw _ (List.mem_of_getElem? (i := 71) rfl))) (by decide) (t := (.array (.object "java/lang/Object"))) (t' := .int) (by decide) (by decide))))
  have f18 := ((D_modCount.other W12 (Or.inl (own_ne (by omega)))).other W15 (Or.inr (slot_ne (Or.inl (hw _ (List.mem_of_getElem? (i := 59) rfl))) (Or.inl (hw _ (List.mem_of_getElem? (i := 71) rfl))) (by decide) (t := .int) (t' := .int) (by decide) (by decide))))
  have f19 := (F12.other W15 (own_ne (by omega)))
  exact own_ret0 X15 hx hret hlk (hb hby d9_22) (by rw [e15]; exact ⟨rfl, N15, (((Keep.refl h0 [a, ea]).wr W12 (Or.inl (List.mem_of_getElem? (i := 1) rfl))).wr W15 (Or.inl (List.mem_of_getElem? (i := 0) rfl))), ⟨f16, f17, F15, ⟨_, f18⟩, f19, by omega⟩⟩) (by decide) (by decide)
theorem own_ef15 (m : MethodId) (x0 : Nat) (x1 : Nat) : entryFrame m #[(.ref x0), (.ref x1)] 2 = mkF m 0 #[.val (.ref x0), .val (.ref x1)] [] := by first | (simp [entryFrame, mkF, argsToLocals, Value.category]; done) | rfl
set_option maxRecDepth 65536 in
set_option maxHeartbeats 40000000 in
theorem own_ka0 (l : Launch) (Z : State) (az : Array Value) (hw : ∀ d ∈ tables_1, d.before az Z = true) (a d0 : Nat) (mc : Int32) (K0 : ClassId) (f0 : Nat → Value) (h0 : Heap) (n0 : Nat) (E0 : Exa Z h0 a "java/util/ArrayList") (D_elementData : Fld Z h0 a "java/util/ArrayList" "elementData" "[Ljava/lang/Object;" (.ref d0)) (D_size : Fld Z h0 a "java/util/ArrayList" "size" "I" (.int (0 : Int32))) (D_modCount : Fld Z h0 a "java/util/AbstractList" "modCount" "I" (.int mc)) (A0 : own_A Z h0 d0 (.object "java/lang/Object") K0 0 f0) (DS : Sta Z Z.heap "java/util/ArrayList" "DEFAULTCAPACITY_EMPTY_ELEMENTDATA" "[Ljava/lang/Object;" (.ref d0)) (O0 : Old Z n0 h0) (G0 : n0 ≤ a) (t : Nat) (I0 : Ins Z h0 t "java/lang/Object" true) :
    own_Con l Z (⟨"java/util/ArrayList", "add", "(Ljava/lang/Object;)Z"⟩ : MethodName) jdk_38_method_25_code 2 (some FieldType.boolean) ({ frames := 4, cells := 1, slots := 10, locals := 56 } : Room) #[(.ref a), (.ref t)] h0 (fun r h L => r = some (.int 1) ∧ Fr n0 L ∧ Keep h0 h [a] ∧ ∃ ea, h0.size ≤ ea ∧ own_AL Z h a ea 1 (fun x => if x = 0 then .ref t else .null)) := by
  refine own_con own_pn_java_util_ArrayList ?_
  intro p e s m below meth c T0 hx hby hml hZ hown hnm hret hlk X0 e0 eh
  have hlt := own_n E0.lt
  have na11 : d0 ≠ a := by obtain ⟨cl, A, -⟩ := A0; exact (ne_arr E0 (hw _ (List.mem_of_getElem? (i := 40) rfl)) A).symm
  refine own_via (F' := T0.setTop (mkF m 0 #[.val (.ref a), .val (.ref t)] [])) (fun tz kz => castTop (own_ef15 m _ _) kz) ?_
  refine own_via (F' := T0.setTop (mkF m 1 #[.val (.ref a), .val (.ref t)] [(.ref a)])) (fun tz kz => XS.aloadN X0.here hx rfl (hb hby d8_0) rfl rfl kz) ?_
  refine own_via (F' := T0.setTop (mkF m 2 #[.val (.ref a), .val (.ref t)] [(.ref a), (.ref a)])) (fun tz kz => XS.dup X0.here hx rfl (hb hby d8_1) rfl rfl kz) ?_
  obtain ⟨T12, X12, e12, s12⟩ := getF X0 hx hZ hown (host := "") (Or.inl (hw _ (List.mem_of_getElem? (i := 68) rfl))) (Via.of (hw _ (List.mem_of_getElem? (i := 69) rfl))) e0 D_modCount (g := (mkF m 2 #[.val (.ref a), .val (.ref t)] [(.ref a), (.ref a)])) rfl rfl (hb hby d8_2)
  refine own_via (F' := T12.setTop (mkF m 5 #[.val (.ref a), .val (.ref t)] [(.int mc), (.ref a)])) s12 ?_
  refine own_via (F' := T12.setTop (mkF m 6 #[.val (.ref a), .val (.ref t)] [(.int (1 : Int32)), (.int mc), (.ref a)])) (fun tz kz => XT.iconstV X12.here hx rfl (1 : Int32) (hb hby d8_5) (by decide) kz) ?_
  refine own_via (F' := T12.setTop (mkF m 7 #[.val (.ref a), .val (.ref t)] [(.int (mc + (1 : Int32))), (.ref a)])) (fun tz kz => XS.iadd X12.here hx rfl (hb hby d8_6) rfl kz) ?_
  obtain ⟨T13, h13, X13, e13, W13, s13⟩ := putF X12 hx hZ hown (host := "") (Or.inl (hw _ (List.mem_of_getElem? (i := 68) rfl))) (Via.of (hw _ (List.mem_of_getElem? (i := 69) rfl))) e12 D_modCount E0 (Or.inl (hw _ (List.mem_of_getElem? (i := 59) rfl))) (hw _ (List.mem_of_getElem? (i := 40) rfl)) (ty := .int) (by decide) rfl rfl (g := (mkF m 7 #[.val (.ref a), .val (.ref t)] [(.int (mc + (1 : Int32))), (.ref a)])) rfl rfl (hb hby d8_7)
  have F13 := D_modCount.same W13
  have N13 := Fr.snoc X13 (Fr.nil n0) G0
  refine own_via (F' := T13.setTop (mkF m 10 #[.val (.ref a), .val (.ref t)] [])) s13 ?_
  refine own_via (F' := T13.setTop (mkF m 11 #[.val (.ref a), .val (.ref t)] [(.ref a)])) (fun tz kz => XS.aloadN X13.here hx rfl (hb hby d8_10) rfl rfl kz) ?_
  refine own_via (F' := T13.setTop (mkF m 12 #[.val (.ref a), .val (.ref t)] [(.ref t), (.ref a)])) (fun tz kz => XS.aloadN X13.here hx rfl (hb hby d8_11) rfl rfl kz) ?_
  refine own_via (F' := T13.setTop (mkF m 13 #[.val (.ref a), .val (.ref t)] [(.ref a), (.ref t), (.ref a)])) (fun tz kz => XS.aloadN X13.here hx rfl (hb hby d8_12) rfl rfl kz) ?_
  have f14 := (D_elementData.other W13 (Or.inr (slot_ne (Or.inl (hw _ (List.mem_of_getElem? (i := 62) rfl))) (Or.inl (hw _ (List.mem_of_getElem? (i := 59) rfl))) (by decide) (t := (.array (.object "java/lang/Object"))) (t' := .int) (by decide) (by decide))))
  obtain ⟨T15, X15, e15, s15⟩ := getF X13 hx hZ hown (host := "") (Or.inl (hw _ (List.mem_of_getElem? (i := 61) rfl))) Via.refl e13 f14 (g := (mkF m 13 #[.val (.ref a), .val (.ref t)] [(.ref a), (.ref t), (.ref a)])) rfl rfl (hb hby d8_13)
  refine own_via (F' := T15.setTop (mkF m 16 #[.val (.ref a), .val (.ref t)] [(.ref d0), (.ref t), (.ref a)])) s15 ?_
  refine own_via (F' := T15.setTop (mkF m 17 #[.val (.ref a), .val (.ref t)] [(.ref a), (.ref d0), (.ref t), (.ref a)])) (fun tz kz => XS.aloadN X15.here hx rfl (hb hby d8_16) rfl rfl kz) ?_
  have f16 := (D_size.other W13 (Or.inr (slot_ne (Or.inl (hw _ (List.mem_of_getElem? (i := 71) rfl))) (Or.inl (hw _ (List.mem_of_getElem? (i := 59) rfl))) (by decide) (t := .int) (t' := .int) (by decide) (by decide))))
  obtain ⟨T17, X17, e17, s17⟩ := getF X15 hx hZ hown (host := "") (Or.inl (hw _ (List.mem_of_getElem? (i := 70) rfl))) Via.refl e15 f16 (g := (mkF m 17 #[.val (.ref a), .val (.ref t)] [(.ref a), (.ref d0), (.ref t), (.ref a)])) rfl rfl (hb hby d8_17)
  refine own_via (F' := T17.setTop (mkF m 20 #[.val (.ref a), .val (.ref t)] [(.int (0 : Int32)), (.ref d0), (.ref t), (.ref a)])) s17 ?_
  have f18 := (E0.wr W13)
  have f19 := (A0.other W13 na11)
  have f20 := (O0.wr W13 G0)
  have f21 := (I0.wr W13)
  refine own_callP X17 hx hZ (own_k30 l Z az hw a d0 (mc + (1 : Int32)) K0 f0 h13 n0 f18 f14 f16 F13 f19 DS f20 G0 t f21) hown f18 (hw _ (List.mem_of_getElem? (i := 72) rfl)) (hw _ (List.mem_of_getElem? (i := 73) rfl)) (hw _ (List.mem_of_getElem? (i := 75) rfl)) (hw _ (List.mem_of_getElem? (i := 74) rfl)) (hw _ (List.mem_of_getElem? (i := 41) rfl)) (hw _ (List.mem_of_getElem? (i := 76) rfl)) (by decide) e17 (g := (mkF m 20 #[.val (.ref a), .val (.ref t)] [(.int (0 : Int32)), (.ref d0), (.ref t), (.ref a)])) rfl (by rw [hml]; rfl) (argsL := [(.ref t), (.ref d0), (.int (0 : Int32))]) (rest := []) rfl (lenOf own_pd5 rfl) rfl 0 (by show 2 * 0 + _ ≤ _; exact Nat.le_of_eq rfl) (hb hby d8_20) (by decide) (by decide) (by decide) (by decide) ?_
  intro v22 T22 L22 hQ22 X22
  obtain ⟨rfl, M22, K22, ea22, g22, A22⟩ := hQ22
  refine own_via (F' := T22.setTop (mkF m 23 #[.val (.ref a), .val (.ref t)] [])) (fun tz kz => kz) ?_
  refine own_via (F' := T22.setTop (mkF m 24 #[.val (.ref a), .val (.ref t)] [(.int (1 : Int32))])) (fun tz kz => XT.iconstV X22.here hx rfl (1 : Int32) (hb hby d8_23) (by decide) kz) ?_
  exact own_retZ X22 hx hret hlk (hb hby d8_24) ⟨rfl, (Fr.app N13 M22), (((Keep.refl h0 [a]).wr W13 (Or.inl (List.mem_of_getElem? (i := 0) rfl))).trans K22 (allS (Or.inl (List.mem_of_getElem? (i := 0) rfl)) all0)), ea22, (Nat.le_trans ((Keep.refl h0 [a]).wr W13 (Or.inl (List.mem_of_getElem? (i := 0) rfl))).1 g22), A22⟩ (by decide) (by decide)
set_option maxRecDepth 65536 in
set_option maxHeartbeats 40000000 in
theorem own_ka (l : Launch) (Z : State) (az : Array Value) (hw : ∀ d ∈ tables_1, d.before az Z = true) (a ea n : Nat) (f : Nat → Value) (h0 : Heap) (n0 : Nat) (L0 : own_AL Z h0 a ea n f) (hn : n < 10) (G0 : n0 ≤ a) (t : Nat) (I0 : Ins Z h0 t "java/lang/Object" true) :
    own_Con l Z (⟨"java/util/ArrayList", "add", "(Ljava/lang/Object;)Z"⟩ : MethodName) jdk_38_method_25_code 2 (some FieldType.boolean) ({ frames := 1, cells := 0, slots := 0, locals := 15 } : Room) #[(.ref a), (.ref t)] h0 (fun r h L => r = some (.int 1) ∧ Fr n0 L ∧ Keep h0 h [a, ea] ∧ own_AL Z h a ea (n + 1) (fun x => if x = n then .ref t else f x)) := by
  refine own_con own_pn_java_util_ArrayList ?_
  intro p e s m below meth c T0 hx hby hml hZ hown hnm hret hlk X0 e0 eh
  obtain ⟨E0, D_elementData, D_size, ⟨mc, D_modCount⟩, A0, hle⟩ := L0
  refine own_via (F' := T0.setTop (mkF m 0 #[.val (.ref a), .val (.ref t)] [])) (fun tz kz => castTop (own_ef15 m _ _) kz) ?_
  refine own_via (F' := T0.setTop (mkF m 1 #[.val (.ref a), .val (.ref t)] [(.ref a)])) (fun tz kz => XS.aloadN X0.here hx rfl (hb hby d8_0) rfl rfl kz) ?_
  refine own_via (F' := T0.setTop (mkF m 2 #[.val (.ref a), .val (.ref t)] [(.ref a), (.ref a)])) (fun tz kz => XS.dup X0.here hx rfl (hb hby d8_1) rfl rfl kz) ?_
  obtain ⟨T11, X11, e11, s11⟩ := getF X0 hx hZ hown (host := "") (Or.inl (hw _ (List.mem_of_getElem? (i := 68) rfl))) (Via.of (hw _ (List.mem_of_getElem? (i := 69) rfl))) e0 D_modCount (g := (mkF m 2 #[.val (.ref a), .val (.ref t)] [(.ref a), (.ref a)])) rfl rfl (hb hby d8_2)
  refine own_via (F' := T11.setTop (mkF m 5 #[.val (.ref a), .val (.ref t)] [(.int mc), (.ref a)])) s11 ?_
  refine own_via (F' := T11.setTop (mkF m 6 #[.val (.ref a), .val (.ref t)] [(.int (1 : Int32)), (.int mc), (.ref a)])) (fun tz kz => XT.iconstV X11.here hx rfl (1 : Int32) (hb hby d8_5) (by decide) kz) ?_
  refine own_via (F' := T11.setTop (mkF m 7 #[.val (.ref a), .val (.ref t)] [(.int (mc + (1 : Int32))), (.ref a)])) (fun tz kz => XS.iadd X11.here hx rfl (hb hby d8_6) rfl kz) ?_
  obtain ⟨T12, h12, X12, e12, W12, s12⟩ := putF X11 hx hZ hown (host := "") (Or.inl (hw _ (List.mem_of_getElem? (i := 68) rfl))) (Via.of (hw _ (List.mem_of_getElem? (i := 69) rfl))) e11 D_modCount E0 (Or.inl (hw _ (List.mem_of_getElem? (i := 59) rfl))) (hw _ (List.mem_of_getElem? (i := 40) rfl)) (ty := .int) (by decide) rfl rfl (g := (mkF m 7 #[.val (.ref a), .val (.ref t)] [(.int (mc + (1 : Int32))), (.ref a)])) rfl rfl (hb hby d8_7)
  have F12 := D_modCount.same W12
  have N12 := Fr.snoc X12 (Fr.nil n0) G0
  refine own_via (F' := T12.setTop (mkF m 10 #[.val (.ref a), .val (.ref t)] [])) s12 ?_
  refine own_via (F' := T12.setTop (mkF m 11 #[.val (.ref a), .val (.ref t)] [(.ref a)])) (fun tz kz => XS.aloadN X12.here hx rfl (hb hby d8_10) rfl rfl kz) ?_
  refine own_via (F' := T12.setTop (mkF m 12 #[.val (.ref a), .val (.ref t)] [(.ref t), (.ref a)])) (fun tz kz => XS.aloadN X12.here hx rfl (hb hby d8_11) rfl rfl kz) ?_
  refine own_via (F' := T12.setTop (mkF m 13 #[.val (.ref a), .val (.ref t)] [(.ref a), (.ref t), (.ref a)])) (fun tz kz => XS.aloadN X12.here hx rfl (hb hby d8_12) rfl rfl kz) ?_
  have f13 := (D_elementData.other W12 (Or.inr (slot_ne (Or.inl (hw _ (List.mem_of_getElem? (i := 62) rfl))) (Or.inl (hw _ (List.mem_of_getElem? (i := 59) rfl))) (by decide) (t := (.array (.object "java/lang/Object"))) (t' := .int) (by decide) (by decide))))
  obtain ⟨T14, X14, e14, s14⟩ := getF X12 hx hZ hown (host := "") (Or.inl (hw _ (List.mem_of_getElem? (i := 61) rfl))) Via.refl e12 f13 (g := (mkF m 13 #[.val (.ref a), .val (.ref t)] [(.ref a), (.ref t), (.ref a)])) rfl rfl (hb hby d8_13)
  refine own_via (F' := T14.setTop (mkF m 16 #[.val (.ref a), .val (.ref t)] [(.ref ea), (.ref t), (.ref a)])) s14 ?_
  refine own_via (F' := T14.setTop (mkF m 17 #[.val (.ref a), .val (.ref t)] [(.ref a), (.ref ea), (.ref t), (.ref a)])) (fun tz kz => XS.aloadN X14.here hx rfl (hb hby d8_16) rfl rfl kz) ?_
  have f15 := (D_size.other W12 (Or.inr (slot_ne (Or.inl (hw _ (List.mem_of_getElem? (i := 71) rfl))) (Or.inl (hw _ (List.mem_of_getElem? (i := 59) rfl))) (by decide) (t := .int) (t' := .int) (by decide) (by decide))))
  obtain ⟨T16, X16, e16, s16⟩ := getF X14 hx hZ hown (host := "") (Or.inl (hw _ (List.mem_of_getElem? (i := 70) rfl))) Via.refl e14 f15 (g := (mkF m 17 #[.val (.ref a), .val (.ref t)] [(.ref a), (.ref ea), (.ref t), (.ref a)])) rfl rfl (hb hby d8_17)
  refine own_via (F' := T16.setTop (mkF m 20 #[.val (.ref a), .val (.ref t)] [(.int (n).toInt32), (.ref ea), (.ref t), (.ref a)])) s16 ?_
  have f17 := (E0.wr W12)
  have f18 := (A0.other W12 (own_ne (by omega)))
  have f19 := (I0.wr W12)
  refine own_callP X16 hx hZ (own_k3 l Z az hw a ea n f h12 n0 ⟨f17, f13, f15, ⟨_, F12⟩, f18, by omega⟩ hn G0 t f19) hown f17 (hw _ (List.mem_of_getElem? (i := 72) rfl)) (hw _ (List.mem_of_getElem? (i := 73) rfl)) (hw _ (List.mem_of_getElem? (i := 75) rfl)) (hw _ (List.mem_of_getElem? (i := 74) rfl)) (hw _ (List.mem_of_getElem? (i := 41) rfl)) (hw _ (List.mem_of_getElem? (i := 76) rfl)) (by decide) e16 (g := (mkF m 20 #[.val (.ref a), .val (.ref t)] [(.int (n).toInt32), (.ref ea), (.ref t), (.ref a)])) rfl (by rw [hml]; rfl) (argsL := [(.ref t), (.ref ea), (.int (n).toInt32)]) (rest := []) rfl (lenOf own_pd5 rfl) rfl 0 (by show 2 * 0 + _ ≤ _; exact Nat.le_of_eq rfl) (hb hby d8_20) (by decide) (by decide) (by decide) (by decide) ?_
  intro v20 T20 L20 hQ20 X20
  obtain ⟨rfl, M20, K20, A20⟩ := hQ20
  refine own_via (F' := T20.setTop (mkF m 23 #[.val (.ref a), .val (.ref t)] [])) (fun tz kz => kz) ?_
  refine own_via (F' := T20.setTop (mkF m 24 #[.val (.ref a), .val (.ref t)] [(.int (1 : Int32))])) (fun tz kz => XT.iconstV X20.here hx rfl (1 : Int32) (hb hby d8_23) (by decide) kz) ?_
  exact own_retZ X20 hx hret hlk (hb hby d8_24) ⟨rfl, (Fr.app N12 M20), (((Keep.refl h0 [a, ea]).wr W12 (Or.inl (List.mem_of_getElem? (i := 0) rfl))).trans K20 (allS (Or.inl (List.mem_of_getElem? (i := 0) rfl)) (allS (Or.inl (List.mem_of_getElem? (i := 1) rfl)) all0))), A20⟩ (by decide) (by decide)
set_option maxRecDepth 65536 in
set_option maxHeartbeats 40000000 in
theorem own_ksz (l : Launch) (Z : State) (az : Array Value) (hw : ∀ d ∈ tables_1, d.before az Z = true) (a n : Nat) (h0 : Heap) (n0 : Nat) (F0 : Fld Z h0 a "java/util/ArrayList" "size" "I" (.int (n).toInt32)) :
    own_Con l Z (⟨"java/util/ArrayList", "size", "()I"⟩ : MethodName) jdk_38_method_8_code 1 (some FieldType.int) ({ frames := 0, cells := 0, slots := 0, locals := 0 } : Room) #[(.ref a)] h0 (fun r h L => r = some (.int (n).toInt32) ∧ h = h0 ∧ L = []) := by
  refine own_con own_pn_java_util_ArrayList ?_
  intro p e s m below meth c T0 hx hby hml hZ hown hnm hret hlk X0 e0 eh
  refine own_via (F' := T0.setTop (mkF m 0 #[.val (.ref a)] [])) (fun tz kz => castTop (own_ef6 m _) kz) ?_
  refine own_via (F' := T0.setTop (mkF m 1 #[.val (.ref a)] [(.ref a)])) (fun tz kz => XS.aloadN X0.here hx rfl (hb hby d14_0) rfl rfl kz) ?_
  obtain ⟨T11, X11, e11, s11⟩ := getF X0 hx hZ hown (host := "") (Or.inl (hw _ (List.mem_of_getElem? (i := 70) rfl))) Via.refl e0 F0 (g := (mkF m 1 #[.val (.ref a)] [(.ref a)])) rfl rfl (hb hby d14_1)
  refine own_via (F' := T11.setTop (mkF m 4 #[.val (.ref a)] [(.int (n).toInt32)])) s11 ?_
  exact own_retI X11 hx hret hlk (hb hby d14_4) ⟨rfl, e11, rfl⟩ (by decide) (by decide)
theorem own_ef16 (m : MethodId) (x0 : Nat) (x1 : Int32) : entryFrame m #[(.ref x0), (.int x1)] 2 = mkF m 0 #[.val (.ref x0), .val (.int x1)] [] := by first | (simp [entryFrame, mkF, argsToLocals, Value.category]; done) | rfl
set_option maxRecDepth 65536 in
set_option maxHeartbeats 40000000 in
theorem own_ked (l : Launch) (Z : State) (az : Array Value) (hw : ∀ d ∈ tables_1, d.before az Z = true) (a ea cap i v : Nat) (f : Nat → Value) (h0 : Heap) (n0 : Nat) (F0 : Fld Z h0 a "java/util/ArrayList" "elementData" "[Ljava/lang/Object;" (.ref ea)) (A0 : own_O Z h0 ea cap f) (hi : i < cap) (hcap : cap < 100) (hv : f i = .ref v) :
    own_Con l Z (⟨"java/util/ArrayList", "elementData", "(I)Ljava/lang/Object;"⟩ : MethodName) jdk_38_method_18_code 2 (some (FieldType.object "java/lang/Object")) ({ frames := 0, cells := 0, slots := 0, locals := 0 } : Room) #[(.ref a), (.int (i).toInt32)] h0 (fun r h L => r = some (.ref v) ∧ h = h0 ∧ L = []) := by
  refine own_con own_pn_java_util_ArrayList ?_
  intro p e s m below meth c T0 hx hby hml hZ hown hnm hret hlk X0 e0 eh
  refine own_via (F' := T0.setTop (mkF m 0 #[.val (.ref a), .val (.int (i).toInt32)] [])) (fun tz kz => castTop (own_ef16 m _ _) kz) ?_
  refine own_via (F' := T0.setTop (mkF m 1 #[.val (.ref a), .val (.int (i).toInt32)] [(.ref a)])) (fun tz kz => XS.aloadN X0.here hx rfl (hb hby d18_0) rfl rfl kz) ?_
  obtain ⟨T11, X11, e11, s11⟩ := getF X0 hx hZ hown (host := "") (Or.inl (hw _ (List.mem_of_getElem? (i := 61) rfl))) Via.refl e0 F0 (g := (mkF m 1 #[.val (.ref a), .val (.int (i).toInt32)] [(.ref a)])) rfl rfl (hb hby d18_1)
  refine own_via (F' := T11.setTop (mkF m 4 #[.val (.ref a), .val (.int (i).toInt32)] [(.ref ea)])) s11 ?_
  refine own_via (F' := T11.setTop (mkF m 5 #[.val (.ref a), .val (.int (i).toInt32)] [(.int (i).toInt32), (.ref ea)])) (fun tz kz => XS.iloadN X11.here hx rfl (hb hby d18_4) rfl kz) ?_
  refine own_via (F' := T11.setTop (mkF m 6 #[.val (.ref a), .val (.int (i).toInt32)] [(.ref v)])) (fun tz kz => A0.load X11 hx hZ e11 (j := i) rfl hi (by omega) hv (g := (mkF m 5 #[.val (.ref a), .val (.int (i).toInt32)] [(.int (i).toInt32), (.ref ea)])) rfl rfl (hb hby d18_5) tz kz) ?_
  exact own_retA X11 hx hret rfl rfl hlk (hb hby d18_6) ⟨rfl, e11, rfl⟩ (by decide) (by decide)
theorem own_efN (m : MethodId) (x0 x1 : Int32) : entryFrame m #[(.int x0), (.int x1), .null] 3 = mkF m 0 #[.val (.int x0), .val (.int x1), .val .null] [] := by first | (simp [entryFrame, mkF, argsToLocals, Value.category]; done) | rfl
theorem own_pn_jdk_internal_util_Preconditions : plainName "jdk/internal/util/Preconditions" = true := by first | (simp [plainName, overriddenIn]; done) | decide +kernel
set_option maxRecDepth 65536 in
set_option maxHeartbeats 40000000 in
theorem own_kpc (l : Launch) (Z : State) (az : Array Value) (hw : ∀ d ∈ tables_1, d.before az Z = true) (i n : Nat) (hi : i < n) (hn : n < 100) (h0 : Heap) (n0 : Nat) :
    own_Con l Z (⟨"jdk/internal/util/Preconditions", "checkIndex", "(IILjava/util/function/BiFunction;)I"⟩ : MethodName) jdk_41_method_11_code 3 (some FieldType.int) ({ frames := 0, cells := 0, slots := 0, locals := 0 } : Room) #[(.int (i).toInt32), (.int (n).toInt32), .null] h0 (fun r h L => r = some (.int (i).toInt32) ∧ h = h0 ∧ L = []) := by
  refine own_con own_pn_jdk_internal_util_Preconditions ?_
  intro p e s m below meth c T0 hx hby hml hZ hown hnm hret hlk X0 e0 eh
  refine own_via (F' := T0.setTop (mkF m 0 #[.val (.int (i).toInt32), .val (.int (n).toInt32), .val .null] [])) (fun tz kz => castTop (own_efN m _ _) kz) ?_
  refine own_via (F' := T0.setTop (mkF m 1 #[.val (.int (i).toInt32), .val (.int (n).toInt32), .val .null] [(.int (i).toInt32)])) (fun tz kz => XS.iloadN X0.here hx rfl (hb hby d17_0) rfl kz) ?_
  refine own_via (F' := T0.setTop (mkF m 4 #[.val (.int (i).toInt32), .val (.int (n).toInt32), .val .null] [])) (fun tz kz => XS.ifNo X0.here hx rfl (hb hby d17_1) rfl (XT.i0_lt_f (fun z => absurd ((own_ltI (i := i) (j := 0) rfl rfl (by omega) (by decide)).mp z) (by omega))) kz) ?_
  refine own_via (F' := T0.setTop (mkF m 5 #[.val (.int (i).toInt32), .val (.int (n).toInt32), .val .null] [(.int (i).toInt32)])) (fun tz kz => XS.iloadN X0.here hx rfl (hb hby d17_4) rfl kz) ?_
  refine own_via (F' := T0.setTop (mkF m 6 #[.val (.int (i).toInt32), .val (.int (n).toInt32), .val .null] [(.int (n).toInt32), (.int (i).toInt32)])) (fun tz kz => XS.iloadN X0.here hx rfl (hb hby d17_5) rfl kz) ?_
  refine own_via (F' := T0.setTop (mkF m 16 #[.val (.int (i).toInt32), .val (.int (n).toInt32), .val .null] [])) (fun tz kz => XS.icmpYes X0.here hx rfl (pc0 := 6) (pc' := 16) rfl (hb hby d17_6) rfl (XT.ii_lt_t ((own_ltI (i := i) (j := n) rfl rfl (by omega) (by omega)).mpr hi)) (by decide) (by decide) kz) ?_
  refine own_via (F' := T0.setTop (mkF m 17 #[.val (.int (i).toInt32), .val (.int (n).toInt32), .val .null] [(.int (i).toInt32)])) (fun tz kz => XS.iloadN X0.here hx rfl (hb hby d17_16) rfl kz) ?_
  exact own_retI X0 hx hret hlk (hb hby d17_17) ⟨rfl, e0, rfl⟩ (by decide) (by decide)
theorem own_pn_java_util_Objects : plainName "java/util/Objects" = true := by first | (simp [plainName, overriddenIn]; done) | decide +kernel
set_option maxRecDepth 65536 in
set_option maxHeartbeats 40000000 in
theorem own_kci (l : Launch) (Z : State) (az : Array Value) (hw : ∀ d ∈ tables_1, d.before az Z = true) (i n : Nat) (hi : i < n) (hn : n < 100) (h0 : Heap) (n0 : Nat) :
    own_Con l Z (⟨"java/util/Objects", "checkIndex", "(II)I"⟩ : MethodName) jdk_31_method_17_code 2 (some FieldType.int) ({ frames := 1, cells := 0, slots := 0, locals := 14 } : Room) #[(.int (i).toInt32), (.int (n).toInt32)] h0 (fun r h L => r = some (.int (i).toInt32) ∧ h = h0 ∧ L = []) := by
  refine own_con own_pn_java_util_Objects ?_
  intro p e s m below meth c T0 hx hby hml hZ hown hnm hret hlk X0 e0 eh
  refine own_via (F' := T0.setTop (mkF m 0 #[.val (.int (i).toInt32), .val (.int (n).toInt32)] [])) (fun tz kz => castTop (own_ef2 m _ _) kz) ?_
  refine own_via (F' := T0.setTop (mkF m 1 #[.val (.int (i).toInt32), .val (.int (n).toInt32)] [(.int (i).toInt32)])) (fun tz kz => XS.iloadN X0.here hx rfl (hb hby d16_0) rfl kz) ?_
  refine own_via (F' := T0.setTop (mkF m 2 #[.val (.int (i).toInt32), .val (.int (n).toInt32)] [(.int (n).toInt32), (.int (i).toInt32)])) (fun tz kz => XS.iloadN X0.here hx rfl (hb hby d16_1) rfl kz) ?_
  refine own_via (F' := T0.setTop (mkF m 3 #[.val (.int (i).toInt32), .val (.int (n).toInt32)] [.null, (.int (n).toInt32), (.int (i).toInt32)])) (fun tz kz => XS.aconstNull X0.here hx rfl (hb hby d16_2) kz) ?_
  refine own_callS X0 hx hZ (own_kpc l Z az hw i n hi hn h0 n0) hown (hw _ (List.mem_of_getElem? (i := 126) rfl)) (hw _ (List.mem_of_getElem? (i := 127) rfl)) (hw _ (List.mem_of_getElem? (i := 128) rfl)) (hw _ (List.mem_of_getElem? (i := 129) rfl)) (by decide) e0 (g := (mkF m 3 #[.val (.int (i).toInt32), .val (.int (n).toInt32)] [.null, (.int (n).toInt32), (.int (i).toInt32)])) rfl (by rw [hml]; rfl) (argsL := [(.int (i).toInt32), (.int (n).toInt32), .null]) (rest := []) rfl (lenOf own_pd6 rfl) rfl 0 (by show 2 * 0 + _ ≤ _; exact Nat.le_of_eq rfl) (hb hby d16_3) (by decide) (by decide) (by decide) (by decide) ?_
  intro v11 T11 L11 hQ11 X11
  obtain ⟨rfl, e11, rfl⟩ := hQ11
  refine own_via (F' := T11.setTop (mkF m 6 #[.val (.int (i).toInt32), .val (.int (n).toInt32)] [(.int (i).toInt32)])) (fun tz kz => kz) ?_
  exact own_retI X11 hx hret hlk (hb hby d16_6) ⟨rfl, e11, rfl⟩ (by decide) (by decide)
set_option maxRecDepth 65536 in
set_option maxHeartbeats 40000000 in
theorem own_kget (l : Launch) (Z : State) (az : Array Value) (hw : ∀ d ∈ tables_1, d.before az Z = true) (a ea cap n i v : Nat) (f : Nat → Value) (h0 : Heap) (n0 : Nat) (E0 : Exa Z h0 a "java/util/ArrayList") (F0 : Fld Z h0 a "java/util/ArrayList" "elementData" "[Ljava/lang/Object;" (.ref ea)) (F1 : Fld Z h0 a "java/util/ArrayList" "size" "I" (.int (n).toInt32)) (A0 : own_O Z h0 ea cap f) (hi : i < n) (hcn : n ≤ cap) (hcap : cap < 100) (hv : f i = .ref v) :
    own_Con l Z (⟨"java/util/ArrayList", "get", "(I)Ljava/lang/Object;"⟩ : MethodName) jdk_38_method_20_code 2 (some (FieldType.object "java/lang/Object")) ({ frames := 2, cells := 0, slots := 0, locals := 28 } : Room) #[(.ref a), (.int (i).toInt32)] h0 (fun r h L => r = some (.ref v) ∧ h = h0 ∧ L = []) := by
  refine own_con own_pn_java_util_ArrayList ?_
  intro p e s m below meth c T0 hx hby hml hZ hown hnm hret hlk X0 e0 eh
  refine own_via (F' := T0.setTop (mkF m 0 #[.val (.ref a), .val (.int (i).toInt32)] [])) (fun tz kz => castTop (own_ef16 m _ _) kz) ?_
  refine own_via (F' := T0.setTop (mkF m 1 #[.val (.ref a), .val (.int (i).toInt32)] [(.int (i).toInt32)])) (fun tz kz => XS.iloadN X0.here hx rfl (hb hby d15_0) rfl kz) ?_
  refine own_via (F' := T0.setTop (mkF m 2 #[.val (.ref a), .val (.int (i).toInt32)] [(.ref a), (.int (i).toInt32)])) (fun tz kz => XS.aloadN X0.here hx rfl (hb hby d15_1) rfl rfl kz) ?_
  obtain ⟨T11, X11, e11, s11⟩ := getF X0 hx hZ hown (host := "") (Or.inl (hw _ (List.mem_of_getElem? (i := 70) rfl))) Via.refl e0 F1 (g := (mkF m 2 #[.val (.ref a), .val (.int (i).toInt32)] [(.ref a), (.int (i).toInt32)])) rfl rfl (hb hby d15_2)
  refine own_via (F' := T11.setTop (mkF m 5 #[.val (.ref a), .val (.int (i).toInt32)] [(.int (n).toInt32), (.int (i).toInt32)])) s11 ?_
  refine own_callS X11 hx hZ (own_kci l Z az hw i n hi (by omega) h0 n0) hown (hw _ (List.mem_of_getElem? (i := 122) rfl)) (hw _ (List.mem_of_getElem? (i := 123) rfl)) (hw _ (List.mem_of_getElem? (i := 124) rfl)) (hw _ (List.mem_of_getElem? (i := 125) rfl)) (by decide) e11 (g := (mkF m 5 #[.val (.ref a), .val (.int (i).toInt32)] [(.int (n).toInt32), (.int (i).toInt32)])) rfl (by rw [hml]; rfl) (argsL := [(.int (i).toInt32), (.int (n).toInt32)]) (rest := []) rfl (lenOf own_pd2 rfl) rfl 0 (by show 2 * 0 + _ ≤ _; exact Nat.le_of_eq rfl) (hb hby d15_5) (by decide) (by decide) (by decide) (by decide) ?_
  intro v12 T12 L12 hQ12 X12
  obtain ⟨rfl, e12, rfl⟩ := hQ12
  refine own_via (F' := T12.setTop (mkF m 8 #[.val (.ref a), .val (.int (i).toInt32)] [(.int (i).toInt32)])) (fun tz kz => kz) ?_
  refine own_via (F' := T12.setTop (mkF m 9 #[.val (.ref a), .val (.int (i).toInt32)] [])) (fun tz kz => XT.pop X12.here hx rfl (hb hby d15_8) rfl rfl kz) ?_
  refine own_via (F' := T12.setTop (mkF m 10 #[.val (.ref a), .val (.int (i).toInt32)] [(.ref a)])) (fun tz kz => XS.aloadN X12.here hx rfl (hb hby d15_9) rfl rfl kz) ?_
  refine own_via (F' := T12.setTop (mkF m 11 #[.val (.ref a), .val (.int (i).toInt32)] [(.int (i).toInt32), (.ref a)])) (fun tz kz => XS.iloadN X12.here hx rfl (hb hby d15_10) rfl kz) ?_
  refine own_callV X12 hx hZ (own_ked l Z az hw a ea cap i v f h0 n0 F0 A0 (by omega) hcap hv) hown E0 (hw _ (List.mem_of_getElem? (i := 130) rfl)) (hw _ (List.mem_of_getElem? (i := 131) rfl)) (hw _ (List.mem_of_getElem? (i := 133) rfl)) (hw _ (List.mem_of_getElem? (i := 132) rfl)) (hw _ (List.mem_of_getElem? (i := 41) rfl)) (hw _ (List.mem_of_getElem? (i := 134) rfl)) (notFace_of_selects (args := #[]) (mvT hZ (hw _ (List.mem_of_getElem? (i := 133) rfl)))) (by decide) e12 (g := (mkF m 11 #[.val (.ref a), .val (.int (i).toInt32)] [(.int (i).toInt32), (.ref a)])) rfl (by rw [hml]; rfl) (argsL := [(.int (i).toInt32)]) (rest := []) rfl (lenOf own_pd7 rfl) rfl 0 (by show 2 * 0 + _ ≤ _; exact Nat.le_of_eq rfl) (hb hby d15_11) (by decide) (by decide) (by decide) (by decide) ?_
  intro v13 T13 L13 hQ13 X13
  obtain ⟨rfl, e13, rfl⟩ := hQ13
  refine own_via (F' := T13.setTop (mkF m 14 #[.val (.ref a), .val (.int (i).toInt32)] [(.ref v)])) (fun tz kz => kz) ?_
  exact own_retA X13 hx hret rfl rfl hlk (hb hby d15_14) ⟨rfl, e13, rfl⟩ (by decide) (by decide)
theorem own_fld_inj {Z : State} {h : Heap} {a : Addr} {C n d : String} {v w : Value} (F : Fld Z h a C n d v) (G : Fld Z h a C n d w) : v = w := by
  obtain ⟨c1, cf1, k1, i1, f1, x1, y1, -, -, -, -, z1⟩ := F
  obtain ⟨c2, cf2, k2, i2, f2, x2, y2, -, -, -, -, z2⟩ := G
  cases x1.symm.trans x2
  cases y1.symm.trans y2
  exact Option.some.inj (z1.symm.trans z2)
theorem own_Str.inj {Z : State} {h : Heap} {a c1 c2 : Nat} (F : own_Str Z h a c1) (G : own_Str Z h a c2) (h1 : c1 < 1000) (h2 : c2 < 1000) : c1 = c2 := by
  obtain ⟨b, k, -, -, F1, cl, A, -, -, p1⟩ := F
  obtain ⟨b', k', -, -, G1, cl', A', -, -, p2⟩ := G
  have e := own_fld_inj F1 G1
  cases e
  cases A.1.symm.trans A'.1
  have q := Option.some.inj ((p1 0 (by decide)).symm.trans (p2 0 (by decide)))
  exact (own_inj32 (by omega) (by omega)).mp (Value.int.inj q)
theorem own_ef20 (m : MethodId) (x0 : Nat) (x1 : Nat) : entryFrame m #[(.ref x0), (.ref x1)] 3 = mkF m 0 #[.val (.ref x0), .val (.ref x1), .unset] [] := by first | (simp [entryFrame, mkF, argsToLocals, Value.category]; done) | rfl
theorem own_pn_java_lang_StringLatin1 : plainName "java/lang/StringLatin1" = true := by first | (simp [plainName, overriddenIn]; done) | decide +kernel
set_option maxRecDepth 65536 in
set_option maxHeartbeats 40000000 in
theorem own_kL1 (l : Launch) (Z : State) (az : Array Value) (hw : ∀ d ∈ tables_1, d.before az Z = true) (b1 b2 c1 c2 v : Nat) (k1 k2 : ClassId) (hv : (if c1 = c2 then 1 else 0) = v) (h1 : c1 < 1000) (h2 : c2 < 1000) (h0 : Heap) (n0 : Nat) (A1 : own_A Z h0 b1 .byte k1 1 (fun _ => .int c1.toInt32)) (A2 : own_A Z h0 b2 .byte k2 1 (fun _ => .int c2.toInt32)) :
    own_Con l Z (⟨"java/lang/StringLatin1", "equals", "([B[B)Z"⟩ : MethodName) jdk_43_method_13_code 3 (some FieldType.boolean) ({ frames := 0, cells := 0, slots := 0, locals := 0 } : Room) #[(.ref b1), (.ref b2)] h0 (fun r h L => r = some (.int (v).toInt32) ∧ h = h0 ∧ L = []) := by
  refine own_con own_pn_java_lang_StringLatin1 ?_
  intro p e s m below meth c T0 hx hby hml hZ hown hnm hret hlk X0 e0 eh
  refine own_via (F' := T0.setTop (mkF m 0 #[.val (.ref b1), .val (.ref b2), .unset] [])) (fun tz kz => castTop (own_ef20 m _ _) kz) ?_
  refine own_via (F' := T0.setTop (mkF m 1 #[.val (.ref b1), .val (.ref b2), .unset] [(.ref b1)])) (fun tz kz => XS.aloadN X0.here hx rfl (hb hby d21_0) rfl rfl kz) ?_
  refine own_via (F' := T0.setTop (mkF m 2 #[.val (.ref b1), .val (.ref b2), .unset] [(.int (1 : Int32))])) (fun tz kz => own_lenA X0 hx hZ e0 A1 (g := (mkF m 1 #[.val (.ref b1), .val (.ref b2), .unset] [(.ref b1)])) rfl rfl (hb hby d21_1) tz kz) ?_
  refine own_via (F' := T0.setTop (mkF m 3 #[.val (.ref b1), .val (.ref b2), .unset] [(.ref b2), (.int (1 : Int32))])) (fun tz kz => XS.aloadN X0.here hx rfl (hb hby d21_2) rfl rfl kz) ?_
  refine own_via (F' := T0.setTop (mkF m 4 #[.val (.ref b1), .val (.ref b2), .unset] [(.int (1 : Int32)), (.int (1 : Int32))])) (fun tz kz => own_lenA X0 hx hZ e0 A2 (g := (mkF m 3 #[.val (.ref b1), .val (.ref b2), .unset] [(.ref b2), (.int (1 : Int32))])) rfl rfl (hb hby d21_3) tz kz) ?_
  refine own_via (F' := T0.setTop (mkF m 7 #[.val (.ref b1), .val (.ref b2), .unset] [])) (fun tz kz => XS.icmpNo X0.here hx rfl (hb hby d21_4) rfl (XT.ii_ne_f (by decide)) kz) ?_
  refine own_via (F' := T0.setTop (mkF m 8 #[.val (.ref b1), .val (.ref b2), .unset] [(.int (0 : Int32))])) (fun tz kz => XT.iconstV X0.here hx rfl (0 : Int32) (hb hby d21_7) (by decide) kz) ?_
  refine own_via (F' := T0.setTop (mkF m 9 #[.val (.ref b1), .val (.ref b2), .val (.int (0 : Int32))] [])) (fun tz kz => XS.istoreN X0.here hx rfl (hb hby d21_8) rfl (l' := #[.val (.ref b1), .val (.ref b2), .val (.int (0 : Int32))]) rfl kz) ?_
  refine own_via (F' := T0.setTop (mkF m 10 #[.val (.ref b1), .val (.ref b2), .val (.int (0 : Int32))] [(.int (0 : Int32))])) (fun tz kz => XS.iloadN X0.here hx rfl (hb hby d21_9) rfl kz) ?_
  refine own_via (F' := T0.setTop (mkF m 11 #[.val (.ref b1), .val (.ref b2), .val (.int (0 : Int32))] [(.ref b1), (.int (0 : Int32))])) (fun tz kz => XS.aloadN X0.here hx rfl (hb hby d21_10) rfl rfl kz) ?_
  refine own_via (F' := T0.setTop (mkF m 12 #[.val (.ref b1), .val (.ref b2), .val (.int (0 : Int32))] [(.int (1 : Int32)), (.int (0 : Int32))])) (fun tz kz => own_lenA X0 hx hZ e0 A1 (g := (mkF m 11 #[.val (.ref b1), .val (.ref b2), .val (.int (0 : Int32))] [(.ref b1), (.int (0 : Int32))])) rfl rfl (hb hby d21_11) tz kz) ?_
  refine own_via (F' := T0.setTop (mkF m 15 #[.val (.ref b1), .val (.ref b2), .val (.int (0 : Int32))] [])) (fun tz kz => XS.icmpNo X0.here hx rfl (hb hby d21_12) rfl (XT.ii_ge_f (by decide)) kz) ?_
  refine own_via (F' := T0.setTop (mkF m 16 #[.val (.ref b1), .val (.ref b2), .val (.int (0 : Int32))] [(.ref b1)])) (fun tz kz => XS.aloadN X0.here hx rfl (hb hby d21_15) rfl rfl kz) ?_
  refine own_via (F' := T0.setTop (mkF m 17 #[.val (.ref b1), .val (.ref b2), .val (.int (0 : Int32))] [(.int (0 : Int32)), (.ref b1)])) (fun tz kz => XS.iloadN X0.here hx rfl (hb hby d21_16) rfl kz) ?_
  refine own_via (F' := T0.setTop (mkF m 18 #[.val (.ref b1), .val (.ref b2), .val (.int (0 : Int32))] [(.int (c1).toInt32)])) (fun tz kz => own_baloadY X0 hx hZ e0 A1 (j := 0) rfl (by decide) (by decide) rfl (g := (mkF m 17 #[.val (.ref b1), .val (.ref b2), .val (.int (0 : Int32))] [(.int (0 : Int32)), (.ref b1)])) rfl rfl (hb hby d21_17) tz kz) ?_
  refine own_via (F' := T0.setTop (mkF m 19 #[.val (.ref b1), .val (.ref b2), .val (.int (0 : Int32))] [(.ref b2), (.int (c1).toInt32)])) (fun tz kz => XS.aloadN X0.here hx rfl (hb hby d21_18) rfl rfl kz) ?_
  refine own_via (F' := T0.setTop (mkF m 20 #[.val (.ref b1), .val (.ref b2), .val (.int (0 : Int32))] [(.int (0 : Int32)), (.ref b2), (.int (c1).toInt32)])) (fun tz kz => XS.iloadN X0.here hx rfl (hb hby d21_19) rfl kz) ?_
  refine own_via (F' := T0.setTop (mkF m 21 #[.val (.ref b1), .val (.ref b2), .val (.int (0 : Int32))] [(.int (c2).toInt32), (.int (c1).toInt32)])) (fun tz kz => own_baloadY X0 hx hZ e0 A2 (j := 0) rfl (by decide) (by decide) rfl (g := (mkF m 20 #[.val (.ref b1), .val (.ref b2), .val (.int (0 : Int32))] [(.int (0 : Int32)), (.ref b2), (.int (c1).toInt32)])) rfl rfl (hb hby d21_20) tz kz) ?_
  by_cases q11 : c1 = c2
  · refine own_via (F' := T0.setTop (mkF m 26 #[.val (.ref b1), .val (.ref b2), .val (.int (0 : Int32))] [])) (fun tz kz => XS.icmpYes X0.here hx rfl (pc0 := 21) (pc' := 26) rfl (hb hby d21_21) rfl (XT.ii_eq_t ((own_eqI (i := c1) (j := c2) rfl rfl (by omega) (by omega)).mpr q11)) (by decide) (by decide) kz) ?_
    refine own_via (F' := T0.setTop (mkF m 29 #[.val (.ref b1), .val (.ref b2), .val (.int (1 : Int32))] [])) (fun tz kz => XT.iincV X0.here hx rfl (1 : Int32) (hb hby d21_26) (by decide) rfl (l' := #[.val (.ref b1), .val (.ref b2), .val (.int (1 : Int32))]) rfl kz) ?_
    refine own_via (F' := T0.setTop (mkF m 9 #[.val (.ref b1), .val (.ref b2), .val (.int (1 : Int32))] [])) (fun tz kz => XS.goto X0.here hx rfl (pc0 := 29) (pc' := 9) rfl (hb hby d21_29) (by decide) (by decide) kz) ?_
    refine own_via (F' := T0.setTop (mkF m 10 #[.val (.ref b1), .val (.ref b2), .val (.int (1 : Int32))] [(.int (1 : Int32))])) (fun tz kz => XS.iloadN X0.here hx rfl (hb hby d21_9) rfl kz) ?_
    refine own_via (F' := T0.setTop (mkF m 11 #[.val (.ref b1), .val (.ref b2), .val (.int (1 : Int32))] [(.ref b1), (.int (1 : Int32))])) (fun tz kz => XS.aloadN X0.here hx rfl (hb hby d21_10) rfl rfl kz) ?_
    refine own_via (F' := T0.setTop (mkF m 12 #[.val (.ref b1), .val (.ref b2), .val (.int (1 : Int32))] [(.int (1 : Int32)), (.int (1 : Int32))])) (fun tz kz => own_lenA X0 hx hZ e0 A1 (g := (mkF m 11 #[.val (.ref b1), .val (.ref b2), .val (.int (1 : Int32))] [(.ref b1), (.int (1 : Int32))])) rfl rfl (hb hby d21_11) tz kz) ?_
    refine own_via (F' := T0.setTop (mkF m 32 #[.val (.ref b1), .val (.ref b2), .val (.int (1 : Int32))] [])) (fun tz kz => XS.icmpYes X0.here hx rfl (pc0 := 12) (pc' := 32) rfl (hb hby d21_12) rfl (XT.ii_ge_t (by decide)) (by decide) (by decide) kz) ?_
    refine own_via (F' := T0.setTop (mkF m 33 #[.val (.ref b1), .val (.ref b2), .val (.int (1 : Int32))] [(.int (1 : Int32))])) (fun tz kz => XT.iconstV X0.here hx rfl (1 : Int32) (hb hby d21_32) (by decide) kz) ?_
    exact own_retZ X0 hx hret hlk (hb hby d21_33) ⟨by rw [← hv, if_pos q11]; rfl, e0, rfl⟩ (by decide) (by decide)
  · refine own_via (F' := T0.setTop (mkF m 24 #[.val (.ref b1), .val (.ref b2), .val (.int (0 : Int32))] [])) (fun tz kz => XS.icmpNo X0.here hx rfl (hb hby d21_21) rfl (XT.ii_eq_f (fun z => absurd ((own_eqI (i := c1) (j := c2) rfl rfl (by omega) (by omega)).mp z) q11)) kz) ?_
    refine own_via (F' := T0.setTop (mkF m 25 #[.val (.ref b1), .val (.ref b2), .val (.int (0 : Int32))] [(.int (0 : Int32))])) (fun tz kz => XT.iconstV X0.here hx rfl (0 : Int32) (hb hby d21_24) (by decide) kz) ?_
    exact own_retZ X0 hx hret hlk (hb hby d21_25) ⟨by rw [← hv, if_neg q11]; rfl, e0, rfl⟩ (by decide) (by decide)
theorem own_pn_java_lang_String : plainName "java/lang/String" = true := by first | (simp [plainName, overriddenIn]; done) | decide +kernel
set_option maxRecDepth 65536 in
set_option maxHeartbeats 40000000 in
theorem own_keq (l : Launch) (Z : State) (az : Array Value) (hw : ∀ d ∈ tables_1, d.before az Z = true) (a1 a2 c1 c2 v : Nat) (z : Int32) (hz : z ≠ 0) (hv : (if c1 = c2 then 1 else 0) = v) (h1 : c1 < 1000) (h2 : c2 < 1000) (h0 : Heap) (n0 : Nat) (S1 : own_Str Z h0 a1 c1) (S2 : own_Str Z h0 a2 c2) (CS : Sta Z Z.heap "java/lang/String" "COMPACT_STRINGS" "Z" (.int z)) (O0 : Old Z n0 h0) :
    own_Con l Z (⟨"java/lang/String", "equals", "(Ljava/lang/Object;)Z"⟩ : MethodName) jdk_42_method_66_code 3 (some FieldType.boolean) ({ frames := 1, cells := 0, slots := 0, locals := 14 } : Room) #[(.ref a1), (.ref a2)] h0 (fun r h L => r = some (.int (v).toInt32) ∧ h = h0 ∧ L = []) := by
  refine own_con own_pn_java_lang_String ?_
  intro p e s m below meth c T0 hx hby hml hZ hown hnm hret hlk X0 e0 eh
  have T1 := S1
  have T2 := S2
  obtain ⟨b1, k1, E1, C1, V1, A1⟩ := S1
  obtain ⟨b2, k2, E2, C2, V2, A2⟩ := S2
  by_cases hc12 : c1 = c2
  · refine own_via (F' := T0.setTop (mkF m 0 #[.val (.ref a1), .val (.ref a2), .unset] [])) (fun tz kz => castTop (own_ef20 m _ _) kz) ?_
    refine own_via (F' := T0.setTop (mkF m 1 #[.val (.ref a1), .val (.ref a2), .unset] [(.ref a1)])) (fun tz kz => XS.aloadN X0.here hx rfl (hb hby d20_0) rfl rfl kz) ?_
    refine own_via (F' := T0.setTop (mkF m 2 #[.val (.ref a1), .val (.ref a2), .unset] [(.ref a2), (.ref a1)])) (fun tz kz => XS.aloadN X0.here hx rfl (hb hby d20_1) rfl rfl kz) ?_
    by_cases q11 : a1 = a2
    · refine own_via (F' := T0.setTop (mkF m 5 #[.val (.ref a1), .val (.ref a2), .unset] [])) (fun tz kz => XT.acmpNo X0.here hx rfl (hb hby d20_2) rfl rfl rfl (XT.aa_ne_f (congrArg Value.ref q11)) kz) ?_
      refine own_via (F' := T0.setTop (mkF m 6 #[.val (.ref a1), .val (.ref a2), .unset] [(.int (1 : Int32))])) (fun tz kz => XT.iconstV X0.here hx rfl (1 : Int32) (hb hby d20_5) (by decide) kz) ?_
      exact own_retZ X0 hx hret hlk (hb hby d20_6) ⟨by rw [← hv, if_pos hc12]; rfl, e0, rfl⟩ (by decide) (by decide)
    · refine own_via (F' := T0.setTop (mkF m 7 #[.val (.ref a1), .val (.ref a2), .unset] [])) (fun tz kz => XT.acmpYes X0.here hx rfl (pc0 := 2) (pc' := 7) rfl (hb hby d20_2) rfl rfl rfl (XT.aa_ne_t (fun z => q11 (Value.ref.inj z))) (by decide) (by decide) kz) ?_
      refine own_via (F' := T0.setTop (mkF m 8 #[.val (.ref a1), .val (.ref a2), .unset] [(.ref a2)])) (fun tz kz => XS.aloadN X0.here hx rfl (hb hby d20_7) rfl rfl kz) ?_
      obtain ⟨T12, X12, e12, s12⟩ := instY X0 hx hZ hown (hw _ (List.mem_of_getElem? (i := 149) rfl)) e0 (Ins.self E2) (g := (mkF m 8 #[.val (.ref a1), .val (.ref a2), .unset] [(.ref a2)])) rfl rfl (hb hby d20_8)
      refine own_via (F' := T12.setTop (mkF m 11 #[.val (.ref a1), .val (.ref a2), .unset] [(.int (1 : Int32))])) s12 ?_
      refine own_via (F' := T12.setTop (mkF m 14 #[.val (.ref a1), .val (.ref a2), .unset] [])) (fun tz kz => XS.ifNo X12.here hx rfl (hb hby d20_11) rfl (XT.i0_eq_f (by decide)) kz) ?_
      refine own_via (F' := T12.setTop (mkF m 15 #[.val (.ref a1), .val (.ref a2), .unset] [(.ref a2)])) (fun tz kz => XS.aloadN X12.here hx rfl (hb hby d20_14) rfl rfl kz) ?_
      obtain ⟨T13, X13, e13, s13⟩ := castY X12 hx hZ hown (hw _ (List.mem_of_getElem? (i := 149) rfl)) e12 (Ins.self E2) (g := (mkF m 15 #[.val (.ref a1), .val (.ref a2), .unset] [(.ref a2)])) rfl rfl (hb hby d20_15)
      refine own_via (F' := T13.setTop (mkF m 18 #[.val (.ref a1), .val (.ref a2), .unset] [(.ref a2)])) s13 ?_
      refine own_via (F' := T13.setTop (mkF m 19 #[.val (.ref a1), .val (.ref a2), .val (.ref a2)] [])) (fun tz kz => XS.astoreN X13.here hx rfl (hb hby d20_18) rfl rfl (l' := #[.val (.ref a1), .val (.ref a2), .val (.ref a2)]) rfl kz) ?_
      obtain ⟨T14, X14, e14, s14⟩ := getS X13 hx hZ (host := "") hown (hw _ (List.mem_of_getElem? (i := 151) rfl)) Via.refl e13 (CS.ext O0.2) (g := (mkF m 19 #[.val (.ref a1), .val (.ref a2), .val (.ref a2)] [])) rfl (hb hby d20_19)
      refine own_via (F' := T14.setTop (mkF m 22 #[.val (.ref a1), .val (.ref a2), .val (.ref a2)] [(.int z)])) s14 ?_
      refine own_via (F' := T14.setTop (mkF m 25 #[.val (.ref a1), .val (.ref a2), .val (.ref a2)] [])) (fun tz kz => XS.ifNo X14.here hx rfl (hb hby d20_22) rfl (XT.i0_eq_f hz) kz) ?_
      refine own_via (F' := T14.setTop (mkF m 26 #[.val (.ref a1), .val (.ref a2), .val (.ref a2)] [(.ref a1)])) (fun tz kz => XS.aloadN X14.here hx rfl (hb hby d20_25) rfl rfl kz) ?_
      obtain ⟨T15, X15, e15, s15⟩ := getF X14 hx hZ hown (host := "") (Or.inl (hw _ (List.mem_of_getElem? (i := 152) rfl))) Via.refl e14 C1 (g := (mkF m 26 #[.val (.ref a1), .val (.ref a2), .val (.ref a2)] [(.ref a1)])) rfl rfl (hb hby d20_26)
      refine own_via (F' := T15.setTop (mkF m 29 #[.val (.ref a1), .val (.ref a2), .val (.ref a2)] [(.int (0 : Int32))])) s15 ?_
      refine own_via (F' := T15.setTop (mkF m 30 #[.val (.ref a1), .val (.ref a2), .val (.ref a2)] [(.ref a2), (.int (0 : Int32))])) (fun tz kz => XS.aloadN X15.here hx rfl (hb hby d20_29) rfl rfl kz) ?_
      obtain ⟨T16, X16, e16, s16⟩ := getF X15 hx hZ hown (host := "") (Or.inl (hw _ (List.mem_of_getElem? (i := 152) rfl))) Via.refl e15 C2 (g := (mkF m 30 #[.val (.ref a1), .val (.ref a2), .val (.ref a2)] [(.ref a2), (.int (0 : Int32))])) rfl rfl (hb hby d20_30)
      refine own_via (F' := T16.setTop (mkF m 33 #[.val (.ref a1), .val (.ref a2), .val (.ref a2)] [(.int (0 : Int32)), (.int (0 : Int32))])) s16 ?_
      refine own_via (F' := T16.setTop (mkF m 36 #[.val (.ref a1), .val (.ref a2), .val (.ref a2)] [])) (fun tz kz => XS.icmpNo X16.here hx rfl (hb hby d20_33) rfl (XT.ii_ne_f (by decide)) kz) ?_
      refine own_via (F' := T16.setTop (mkF m 37 #[.val (.ref a1), .val (.ref a2), .val (.ref a2)] [(.ref a1)])) (fun tz kz => XS.aloadN X16.here hx rfl (hb hby d20_36) rfl rfl kz) ?_
      obtain ⟨T17, X17, e17, s17⟩ := getF X16 hx hZ hown (host := "") (Or.inl (hw _ (List.mem_of_getElem? (i := 153) rfl))) Via.refl e16 V1 (g := (mkF m 37 #[.val (.ref a1), .val (.ref a2), .val (.ref a2)] [(.ref a1)])) rfl rfl (hb hby d20_37)
      refine own_via (F' := T17.setTop (mkF m 40 #[.val (.ref a1), .val (.ref a2), .val (.ref a2)] [(.ref b1)])) s17 ?_
      refine own_via (F' := T17.setTop (mkF m 41 #[.val (.ref a1), .val (.ref a2), .val (.ref a2)] [(.ref a2), (.ref b1)])) (fun tz kz => XS.aloadN X17.here hx rfl (hb hby d20_40) rfl rfl kz) ?_
      obtain ⟨T18, X18, e18, s18⟩ := getF X17 hx hZ hown (host := "") (Or.inl (hw _ (List.mem_of_getElem? (i := 153) rfl))) Via.refl e17 V2 (g := (mkF m 41 #[.val (.ref a1), .val (.ref a2), .val (.ref a2)] [(.ref a2), (.ref b1)])) rfl rfl (hb hby d20_41)
      refine own_via (F' := T18.setTop (mkF m 44 #[.val (.ref a1), .val (.ref a2), .val (.ref a2)] [(.ref b2), (.ref b1)])) s18 ?_
      refine own_callS X18 hx hZ (own_kL1 l Z az hw b1 b2 c1 c2 1 k1 k2 (if_pos hc12) h1 h2 h0 n0 A1 A2) hown (hw _ (List.mem_of_getElem? (i := 154) rfl)) (hw _ (List.mem_of_getElem? (i := 155) rfl)) (hw _ (List.mem_of_getElem? (i := 156) rfl)) (hw _ (List.mem_of_getElem? (i := 157) rfl)) (by decide) e18 (g := (mkF m 44 #[.val (.ref a1), .val (.ref a2), .val (.ref a2)] [(.ref b2), (.ref b1)])) rfl (by rw [hml]; rfl) (argsL := [(.ref b1), (.ref b2)]) (rest := []) rfl (lenOf own_pd8 rfl) rfl 0 (by show 2 * 0 + _ ≤ _; exact Nat.le_of_eq rfl) (hb hby d20_44) (by decide) (by decide) (by decide) (by decide) ?_
      intro v19 T19 L19 hQ19 X19
      obtain ⟨rfl, e19, rfl⟩ := hQ19
      refine own_via (F' := T19.setTop (mkF m 47 #[.val (.ref a1), .val (.ref a2), .val (.ref a2)] [(.int (1 : Int32))])) (fun tz kz => kz) ?_
      refine own_via (F' := T19.setTop (mkF m 50 #[.val (.ref a1), .val (.ref a2), .val (.ref a2)] [])) (fun tz kz => XS.ifNo X19.here hx rfl (hb hby d20_47) rfl (XT.i0_eq_f (by decide)) kz) ?_
      refine own_via (F' := T19.setTop (mkF m 51 #[.val (.ref a1), .val (.ref a2), .val (.ref a2)] [(.int (1 : Int32))])) (fun tz kz => XT.iconstV X19.here hx rfl (1 : Int32) (hb hby d20_50) (by decide) kz) ?_
      refine own_via (F' := T19.setTop (mkF m 55 #[.val (.ref a1), .val (.ref a2), .val (.ref a2)] [(.int (1 : Int32))])) (fun tz kz => XS.goto X19.here hx rfl (pc0 := 51) (pc' := 55) rfl (hb hby d20_51) (by decide) (by decide) kz) ?_
      exact own_retZ X19 hx hret hlk (hb hby d20_55) ⟨by rw [← hv, if_pos hc12]; rfl, e19, rfl⟩ (by decide) (by decide)
  · refine own_via (F' := T0.setTop (mkF m 0 #[.val (.ref a1), .val (.ref a2), .unset] [])) (fun tz kz => castTop (own_ef20 m _ _) kz) ?_
    refine own_via (F' := T0.setTop (mkF m 1 #[.val (.ref a1), .val (.ref a2), .unset] [(.ref a1)])) (fun tz kz => XS.aloadN X0.here hx rfl (hb hby d20_0) rfl rfl kz) ?_
    refine own_via (F' := T0.setTop (mkF m 2 #[.val (.ref a1), .val (.ref a2), .unset] [(.ref a2), (.ref a1)])) (fun tz kz => XS.aloadN X0.here hx rfl (hb hby d20_1) rfl rfl kz) ?_
    by_cases q20 : a1 = a2
    · refine own_via (F' := T0.setTop (mkF m 5 #[.val (.ref a1), .val (.ref a2), .unset] [])) (fun tz kz => XT.acmpNo X0.here hx rfl (hb hby d20_2) rfl rfl rfl (XT.aa_ne_f (congrArg Value.ref q20)) kz) ?_
      refine own_via (F' := T0.setTop (mkF m 6 #[.val (.ref a1), .val (.ref a2), .unset] [(.int (1 : Int32))])) (fun tz kz => XT.iconstV X0.here hx rfl (1 : Int32) (hb hby d20_5) (by decide) kz) ?_
      exact absurd (own_Str.inj (q20 ▸ T1) T2 h1 h2) hc12
    · refine own_via (F' := T0.setTop (mkF m 7 #[.val (.ref a1), .val (.ref a2), .unset] [])) (fun tz kz => XT.acmpYes X0.here hx rfl (pc0 := 2) (pc' := 7) rfl (hb hby d20_2) rfl rfl rfl (XT.aa_ne_t (fun z => q20 (Value.ref.inj z))) (by decide) (by decide) kz) ?_
      refine own_via (F' := T0.setTop (mkF m 8 #[.val (.ref a1), .val (.ref a2), .unset] [(.ref a2)])) (fun tz kz => XS.aloadN X0.here hx rfl (hb hby d20_7) rfl rfl kz) ?_
      obtain ⟨T21, X21, e21, s21⟩ := instY X0 hx hZ hown (hw _ (List.mem_of_getElem? (i := 149) rfl)) e0 (Ins.self E2) (g := (mkF m 8 #[.val (.ref a1), .val (.ref a2), .unset] [(.ref a2)])) rfl rfl (hb hby d20_8)
      refine own_via (F' := T21.setTop (mkF m 11 #[.val (.ref a1), .val (.ref a2), .unset] [(.int (1 : Int32))])) s21 ?_
      refine own_via (F' := T21.setTop (mkF m 14 #[.val (.ref a1), .val (.ref a2), .unset] [])) (fun tz kz => XS.ifNo X21.here hx rfl (hb hby d20_11) rfl (XT.i0_eq_f (by decide)) kz) ?_
      refine own_via (F' := T21.setTop (mkF m 15 #[.val (.ref a1), .val (.ref a2), .unset] [(.ref a2)])) (fun tz kz => XS.aloadN X21.here hx rfl (hb hby d20_14) rfl rfl kz) ?_
      obtain ⟨T22, X22, e22, s22⟩ := castY X21 hx hZ hown (hw _ (List.mem_of_getElem? (i := 149) rfl)) e21 (Ins.self E2) (g := (mkF m 15 #[.val (.ref a1), .val (.ref a2), .unset] [(.ref a2)])) rfl rfl (hb hby d20_15)
      refine own_via (F' := T22.setTop (mkF m 18 #[.val (.ref a1), .val (.ref a2), .unset] [(.ref a2)])) s22 ?_
      refine own_via (F' := T22.setTop (mkF m 19 #[.val (.ref a1), .val (.ref a2), .val (.ref a2)] [])) (fun tz kz => XS.astoreN X22.here hx rfl (hb hby d20_18) rfl rfl (l' := #[.val (.ref a1), .val (.ref a2), .val (.ref a2)]) rfl kz) ?_
      obtain ⟨T23, X23, e23, s23⟩ := getS X22 hx hZ (host := "") hown (hw _ (List.mem_of_getElem? (i := 151) rfl)) Via.refl e22 (CS.ext O0.2) (g := (mkF m 19 #[.val (.ref a1), .val (.ref a2), .val (.ref a2)] [])) rfl (hb hby d20_19)
      refine own_via (F' := T23.setTop (mkF m 22 #[.val (.ref a1), .val (.ref a2), .val (.ref a2)] [(.int z)])) s23 ?_
      refine own_via (F' := T23.setTop (mkF m 25 #[.val (.ref a1), .val (.ref a2), .val (.ref a2)] [])) (fun tz kz => XS.ifNo X23.here hx rfl (hb hby d20_22) rfl (XT.i0_eq_f hz) kz) ?_
      refine own_via (F' := T23.setTop (mkF m 26 #[.val (.ref a1), .val (.ref a2), .val (.ref a2)] [(.ref a1)])) (fun tz kz => XS.aloadN X23.here hx rfl (hb hby d20_25) rfl rfl kz) ?_
      obtain ⟨T24, X24, e24, s24⟩ := getF X23 hx hZ hown (host := "") (Or.inl (hw _ (List.mem_of_getElem? (i := 152) rfl))) Via.refl e23 C1 (g := (mkF m 26 #[.val (.ref a1), .val (.ref a2), .val (.ref a2)] [(.ref a1)])) rfl rfl (hb hby d20_26)
      refine own_via (F' := T24.setTop (mkF m 29 #[.val (.ref a1), .val (.ref a2), .val (.ref a2)] [(.int (0 : Int32))])) s24 ?_
      refine own_via (F' := T24.setTop (mkF m 30 #[.val (.ref a1), .val (.ref a2), .val (.ref a2)] [(.ref a2), (.int (0 : Int32))])) (fun tz kz => XS.aloadN X24.here hx rfl (hb hby d20_29) rfl rfl kz) ?_
      obtain ⟨T25, X25, e25, s25⟩ := getF X24 hx hZ hown (host := "") (Or.inl (hw _ (List.mem_of_getElem? (i := 152) rfl))) Via.refl e24 C2 (g := (mkF m 30 #[.val (.ref a1), .val (.ref a2), .val (.ref a2)] [(.ref a2), (.int (0 : Int32))])) rfl rfl (hb hby d20_30)
      refine own_via (F' := T25.setTop (mkF m 33 #[.val (.ref a1), .val (.ref a2), .val (.ref a2)] [(.int (0 : Int32)), (.int (0 : Int32))])) s25 ?_
      refine own_via (F' := T25.setTop (mkF m 36 #[.val (.ref a1), .val (.ref a2), .val (.ref a2)] [])) (fun tz kz => XS.icmpNo X25.here hx rfl (hb hby d20_33) rfl (XT.ii_ne_f (by decide)) kz) ?_
      refine own_via (F' := T25.setTop (mkF m 37 #[.val (.ref a1), .val (.ref a2), .val (.ref a2)] [(.ref a1)])) (fun tz kz => XS.aloadN X25.here hx rfl (hb hby d20_36) rfl rfl kz) ?_
      obtain ⟨T26, X26, e26, s26⟩ := getF X25 hx hZ hown (host := "") (Or.inl (hw _ (List.mem_of_getElem? (i := 153) rfl))) Via.refl e25 V1 (g := (mkF m 37 #[.val (.ref a1), .val (.ref a2), .val (.ref a2)] [(.ref a1)])) rfl rfl (hb hby d20_37)
      refine own_via (F' := T26.setTop (mkF m 40 #[.val (.ref a1), .val (.ref a2), .val (.ref a2)] [(.ref b1)])) s26 ?_
      refine own_via (F' := T26.setTop (mkF m 41 #[.val (.ref a1), .val (.ref a2), .val (.ref a2)] [(.ref a2), (.ref b1)])) (fun tz kz => XS.aloadN X26.here hx rfl (hb hby d20_40) rfl rfl kz) ?_
      obtain ⟨T27, X27, e27, s27⟩ := getF X26 hx hZ hown (host := "") (Or.inl (hw _ (List.mem_of_getElem? (i := 153) rfl))) Via.refl e26 V2 (g := (mkF m 41 #[.val (.ref a1), .val (.ref a2), .val (.ref a2)] [(.ref a2), (.ref b1)])) rfl rfl (hb hby d20_41)
      refine own_via (F' := T27.setTop (mkF m 44 #[.val (.ref a1), .val (.ref a2), .val (.ref a2)] [(.ref b2), (.ref b1)])) s27 ?_
      refine own_callS X27 hx hZ (own_kL1 l Z az hw b1 b2 c1 c2 0 k1 k2 (if_neg hc12) h1 h2 h0 n0 A1 A2) hown (hw _ (List.mem_of_getElem? (i := 154) rfl)) (hw _ (List.mem_of_getElem? (i := 155) rfl)) (hw _ (List.mem_of_getElem? (i := 156) rfl)) (hw _ (List.mem_of_getElem? (i := 157) rfl)) (by decide) e27 (g := (mkF m 44 #[.val (.ref a1), .val (.ref a2), .val (.ref a2)] [(.ref b2), (.ref b1)])) rfl (by rw [hml]; rfl) (argsL := [(.ref b1), (.ref b2)]) (rest := []) rfl (lenOf own_pd8 rfl) rfl 0 (by show 2 * 0 + _ ≤ _; exact Nat.le_of_eq rfl) (hb hby d20_44) (by decide) (by decide) (by decide) (by decide) ?_
      intro v28 T28 L28 hQ28 X28
      obtain ⟨rfl, e28, rfl⟩ := hQ28
      refine own_via (F' := T28.setTop (mkF m 47 #[.val (.ref a1), .val (.ref a2), .val (.ref a2)] [(.int (0 : Int32))])) (fun tz kz => kz) ?_
      refine own_via (F' := T28.setTop (mkF m 54 #[.val (.ref a1), .val (.ref a2), .val (.ref a2)] [])) (fun tz kz => XS.ifYes X28.here hx rfl (pc0 := 47) (pc' := 54) rfl (hb hby d20_47) rfl (XT.i0_eq_t (by decide)) (by decide) (by decide) kz) ?_
      refine own_via (F' := T28.setTop (mkF m 55 #[.val (.ref a1), .val (.ref a2), .val (.ref a2)] [(.int (0 : Int32))])) (fun tz kz => XT.iconstV X28.here hx rfl (0 : Int32) (hb hby d20_54) (by decide) kz) ?_
      exact own_retZ X28 hx hret hlk (hb hby d20_55) ⟨by rw [← hv, if_neg hc12]; rfl, e28, rfl⟩ (by decide) (by decide)
set_option maxRecDepth 65536 in
set_option maxHeartbeats 40000000 in
theorem own_kis (l : Launch) (Z : State) (az : Array Value) (hw : ∀ d ∈ tables_1, d.before az Z = true) (t kd ch a2 c2 kS v : Nat) (z : Int32) (hz : z ≠ 0) (hv : (if kd = kS ∧ ch = c2 then 1 else 0) = v) (h1 : ch < 1000) (h2 : c2 < 1000) (h0 : Heap) (n0 : Nat) (T1 : own_Tok Z h0 t kd ch) (S2 : own_Str Z h0 a2 c2) (CS : Sta Z Z.heap "java/lang/String" "COMPACT_STRINGS" "Z" (.int z)) (SY : Sta Z Z.heap "com/example/isocline/isocline/core/sql/SqlToken$Kind" "SYMBOL" "Lcom/example/isocline/isocline/core/sql/SqlToken$Kind;" (.ref kS)) (O0 : Old Z n0 h0) :
    own_Con l Z (⟨"com/example/isocline/isocline/core/sql/SqlToken", "isSymbol", "(Ljava/lang/String;)Z"⟩ : MethodName) prog_65_method_4_code 2 (some FieldType.boolean) ({ frames := 2, cells := 0, slots := 0, locals := 28 } : Room) #[(.ref t), (.ref a2)] h0 (fun r h L => r = some (.int (v).toInt32) ∧ h = h0 ∧ L = []) := by
  refine own_con own_pn_com_example_isocline_isocline_core_sql_SqlToken ?_
  intro p e s m below meth c T0 hx hby hml hZ hown hnm hret hlk X0 e0 eh
  obtain ⟨a1, E1, K1, X1, S1⟩ := T1
  have SE : Exa Z h0 a1 "java/lang/String" := by obtain ⟨b1, k1, E1, -⟩ := S1; exact E1
  by_cases hk : kd = kS
  · by_cases hc : ch = c2
    · refine own_via (F' := T0.setTop (mkF m 0 #[.val (.ref t), .val (.ref a2)] [])) (fun tz kz => castTop (own_ef15 m _ _) kz) ?_
      refine own_via (F' := T0.setTop (mkF m 1 #[.val (.ref t), .val (.ref a2)] [(.ref t)])) (fun tz kz => XS.aloadN X0.here hx rfl (hb hby d19_0) rfl rfl kz) ?_
      obtain ⟨T11, X11, e11, s11⟩ := getF X0 hx hZ hown (host := "") (Or.inl (hw _ (List.mem_of_getElem? (i := 31) rfl))) Via.refl e0 K1 (g := (mkF m 1 #[.val (.ref t), .val (.ref a2)] [(.ref t)])) rfl rfl (hb hby d19_1)
      refine own_via (F' := T11.setTop (mkF m 4 #[.val (.ref t), .val (.ref a2)] [(.ref kd)])) s11 ?_
      obtain ⟨T12, X12, e12, s12⟩ := getS X11 hx hZ (host := "") hown (hw _ (List.mem_of_getElem? (i := 143) rfl)) Via.refl e11 (SY.ext O0.2) (g := (mkF m 4 #[.val (.ref t), .val (.ref a2)] [(.ref kd)])) rfl (hb hby d19_4)
      refine own_via (F' := T12.setTop (mkF m 7 #[.val (.ref t), .val (.ref a2)] [(.ref kS), (.ref kd)])) s12 ?_
      refine own_via (F' := T12.setTop (mkF m 10 #[.val (.ref t), .val (.ref a2)] [])) (fun tz kz => XT.acmpNo X12.here hx rfl (hb hby d19_7) rfl rfl rfl (XT.aa_ne_f (congrArg Value.ref hk)) kz) ?_
      refine own_via (F' := T12.setTop (mkF m 11 #[.val (.ref t), .val (.ref a2)] [(.ref t)])) (fun tz kz => XS.aloadN X12.here hx rfl (hb hby d19_10) rfl rfl kz) ?_
      obtain ⟨T13, X13, e13, s13⟩ := getF X12 hx hZ hown (host := "") (Or.inl (hw _ (List.mem_of_getElem? (i := 33) rfl))) Via.refl e12 X1 (g := (mkF m 11 #[.val (.ref t), .val (.ref a2)] [(.ref t)])) rfl rfl (hb hby d19_11)
      refine own_via (F' := T13.setTop (mkF m 14 #[.val (.ref t), .val (.ref a2)] [(.ref a1)])) s13 ?_
      refine own_via (F' := T13.setTop (mkF m 15 #[.val (.ref t), .val (.ref a2)] [(.ref a2), (.ref a1)])) (fun tz kz => XS.aloadN X13.here hx rfl (hb hby d19_14) rfl rfl kz) ?_
      refine own_callV X13 hx hZ (own_keq l Z az hw a1 a2 ch c2 1 z hz (if_pos hc) h1 h2 h0 n0 S1 S2 CS O0) hown SE (hw _ (List.mem_of_getElem? (i := 144) rfl)) (hw _ (List.mem_of_getElem? (i := 145) rfl)) (hw _ (List.mem_of_getElem? (i := 147) rfl)) (hw _ (List.mem_of_getElem? (i := 146) rfl)) (hw _ (List.mem_of_getElem? (i := 13) rfl)) (hw _ (List.mem_of_getElem? (i := 148) rfl)) (notFace_of_selects (args := #[]) (mvT hZ (hw _ (List.mem_of_getElem? (i := 147) rfl)))) (by decide) e13 (g := (mkF m 15 #[.val (.ref t), .val (.ref a2)] [(.ref a2), (.ref a1)])) rfl (by rw [hml]; rfl) (argsL := [(.ref a2)]) (rest := []) rfl (lenOf own_pd9 rfl) rfl 0 (by show 2 * 0 + _ ≤ _; exact Nat.le_of_eq rfl) (hb hby d19_15) (by decide) (by decide) (by decide) (by decide) ?_
      intro v14 T14 L14 hQ14 X14
      obtain ⟨rfl, e14, rfl⟩ := hQ14
      refine own_via (F' := T14.setTop (mkF m 18 #[.val (.ref t), .val (.ref a2)] [(.int (1 : Int32))])) (fun tz kz => kz) ?_
      refine own_via (F' := T14.setTop (mkF m 21 #[.val (.ref t), .val (.ref a2)] [])) (fun tz kz => XS.ifNo X14.here hx rfl (hb hby d19_18) rfl (XT.i0_eq_f (by decide)) kz) ?_
      refine own_via (F' := T14.setTop (mkF m 22 #[.val (.ref t), .val (.ref a2)] [(.int (1 : Int32))])) (fun tz kz => XT.iconstV X14.here hx rfl (1 : Int32) (hb hby d19_21) (by decide) kz) ?_
      refine own_via (F' := T14.setTop (mkF m 26 #[.val (.ref t), .val (.ref a2)] [(.int (1 : Int32))])) (fun tz kz => XS.goto X14.here hx rfl (pc0 := 22) (pc' := 26) rfl (hb hby d19_22) (by decide) (by decide) kz) ?_
      exact own_retZ X14 hx hret hlk (hb hby d19_26) ⟨by rw [← hv, if_pos ⟨hk, hc⟩]; rfl, e14, rfl⟩ (by decide) (by decide)
    · refine own_via (F' := T0.setTop (mkF m 0 #[.val (.ref t), .val (.ref a2)] [])) (fun tz kz => castTop (own_ef15 m _ _) kz) ?_
      refine own_via (F' := T0.setTop (mkF m 1 #[.val (.ref t), .val (.ref a2)] [(.ref t)])) (fun tz kz => XS.aloadN X0.here hx rfl (hb hby d19_0) rfl rfl kz) ?_
      obtain ⟨T15, X15, e15, s15⟩ := getF X0 hx hZ hown (host := "") (Or.inl (hw _ (List.mem_of_getElem? (i := 31) rfl))) Via.refl e0 K1 (g := (mkF m 1 #[.val (.ref t), .val (.ref a2)] [(.ref t)])) rfl rfl (hb hby d19_1)
      refine own_via (F' := T15.setTop (mkF m 4 #[.val (.ref t), .val (.ref a2)] [(.ref kd)])) s15 ?_
      obtain ⟨T16, X16, e16, s16⟩ := getS X15 hx hZ (host := "") hown (hw _ (List.mem_of_getElem? (i := 143) rfl)) Via.refl e15 (SY.ext O0.2) (g := (mkF m 4 #[.val (.ref t), .val (.ref a2)] [(.ref kd)])) rfl (hb hby d19_4)
      refine own_via (F' := T16.setTop (mkF m 7 #[.val (.ref t), .val (.ref a2)] [(.ref kS), (.ref kd)])) s16 ?_
      refine own_via (F' := T16.setTop (mkF m 10 #[.val (.ref t), .val (.ref a2)] [])) (fun tz kz => XT.acmpNo X16.here hx rfl (hb hby d19_7) rfl rfl rfl (XT.aa_ne_f (congrArg Value.ref hk)) kz) ?_
      refine own_via (F' := T16.setTop (mkF m 11 #[.val (.ref t), .val (.ref a2)] [(.ref t)])) (fun tz kz => XS.aloadN X16.here hx rfl (hb hby d19_10) rfl rfl kz) ?_
      obtain ⟨T17, X17, e17, s17⟩ := getF X16 hx hZ hown (host := "") (Or.inl (hw _ (List.mem_of_getElem? (i := 33) rfl))) Via.refl e16 X1 (g := (mkF m 11 #[.val (.ref t), .val (.ref a2)] [(.ref t)])) rfl rfl (hb hby d19_11)
      refine own_via (F' := T17.setTop (mkF m 14 #[.val (.ref t), .val (.ref a2)] [(.ref a1)])) s17 ?_
      refine own_via (F' := T17.setTop (mkF m 15 #[.val (.ref t), .val (.ref a2)] [(.ref a2), (.ref a1)])) (fun tz kz => XS.aloadN X17.here hx rfl (hb hby d19_14) rfl rfl kz) ?_
      refine own_callV X17 hx hZ (own_keq l Z az hw a1 a2 ch c2 0 z hz (if_neg hc) h1 h2 h0 n0 S1 S2 CS O0) hown SE (hw _ (List.mem_of_getElem? (i := 144) rfl)) (hw _ (List.mem_of_getElem? (i := 145) rfl)) (hw _ (List.mem_of_getElem? (i := 147) rfl)) (hw _ (List.mem_of_getElem? (i := 146) rfl)) (hw _ (List.mem_of_getElem? (i := 13) rfl)) (hw _ (List.mem_of_getElem? (i := 148) rfl)) (notFace_of_selects (args := #[]) (mvT hZ (hw _ (List.mem_of_getElem? (i := 147) rfl)))) (by decide) e17 (g := (mkF m 15 #[.val (.ref t), .val (.ref a2)] [(.ref a2), (.ref a1)])) rfl (by rw [hml]; rfl) (argsL := [(.ref a2)]) (rest := []) rfl (lenOf own_pd9 rfl) rfl 0 (by show 2 * 0 + _ ≤ _; exact Nat.le_of_eq rfl) (hb hby d19_15) (by decide) (by decide) (by decide) (by decide) ?_
      intro v18 T18 L18 hQ18 X18
      obtain ⟨rfl, e18, rfl⟩ := hQ18
      refine own_via (F' := T18.setTop (mkF m 18 #[.val (.ref t), .val (.ref a2)] [(.int (0 : Int32))])) (fun tz kz => kz) ?_
      refine own_via (F' := T18.setTop (mkF m 25 #[.val (.ref t), .val (.ref a2)] [])) (fun tz kz => XS.ifYes X18.here hx rfl (pc0 := 18) (pc' := 25) rfl (hb hby d19_18) rfl (XT.i0_eq_t (by decide)) (by decide) (by decide) kz) ?_
      refine own_via (F' := T18.setTop (mkF m 26 #[.val (.ref t), .val (.ref a2)] [(.int (0 : Int32))])) (fun tz kz => XT.iconstV X18.here hx rfl (0 : Int32) (hb hby d19_25) (by decide) kz) ?_
      exact own_retZ X18 hx hret hlk (hb hby d19_26) ⟨by rw [← hv, if_neg (fun q => hc q.2)]; rfl, e18, rfl⟩ (by decide) (by decide)
  · refine own_via (F' := T0.setTop (mkF m 0 #[.val (.ref t), .val (.ref a2)] [])) (fun tz kz => castTop (own_ef15 m _ _) kz) ?_
    refine own_via (F' := T0.setTop (mkF m 1 #[.val (.ref t), .val (.ref a2)] [(.ref t)])) (fun tz kz => XS.aloadN X0.here hx rfl (hb hby d19_0) rfl rfl kz) ?_
    obtain ⟨T19, X19, e19, s19⟩ := getF X0 hx hZ hown (host := "") (Or.inl (hw _ (List.mem_of_getElem? (i := 31) rfl))) Via.refl e0 K1 (g := (mkF m 1 #[.val (.ref t), .val (.ref a2)] [(.ref t)])) rfl rfl (hb hby d19_1)
    refine own_via (F' := T19.setTop (mkF m 4 #[.val (.ref t), .val (.ref a2)] [(.ref kd)])) s19 ?_
    obtain ⟨T20, X20, e20, s20⟩ := getS X19 hx hZ (host := "") hown (hw _ (List.mem_of_getElem? (i := 143) rfl)) Via.refl e19 (SY.ext O0.2) (g := (mkF m 4 #[.val (.ref t), .val (.ref a2)] [(.ref kd)])) rfl (hb hby d19_4)
    refine own_via (F' := T20.setTop (mkF m 7 #[.val (.ref t), .val (.ref a2)] [(.ref kS), (.ref kd)])) s20 ?_
    refine own_via (F' := T20.setTop (mkF m 25 #[.val (.ref t), .val (.ref a2)] [])) (fun tz kz => XT.acmpYes X20.here hx rfl (pc0 := 7) (pc' := 25) rfl (hb hby d19_7) rfl rfl rfl (XT.aa_ne_t (fun z => hk (Value.ref.inj z))) (by decide) (by decide) kz) ?_
    refine own_via (F' := T20.setTop (mkF m 26 #[.val (.ref t), .val (.ref a2)] [(.int (0 : Int32))])) (fun tz kz => XT.iconstV X20.here hx rfl (0 : Int32) (hb hby d19_25) (by decide) kz) ?_
    exact own_retZ X20 hx hret hlk (hb hby d19_26) ⟨by rw [← hv, if_neg (fun q => hk q.1)]; rfl, e20, rfl⟩ (by decide) (by decide)
set_option maxRecDepth 65536 in
set_option maxHeartbeats 40000000 in
theorem own_ktk (l : Launch) (Z : State) (az : Array Value) (hw : ∀ d ∈ tables_1, d.before az Z = true) (cc kS kW : Nat) (hc : cc < 8) (h0 : Heap) (n0 : Nat) (O0 : Old Z n0 h0) (SY : Sta Z Z.heap "com/example/isocline/isocline/core/sql/SqlToken$Kind" "SYMBOL" "Lcom/example/isocline/isocline/core/sql/SqlToken$Kind;" (.ref kS)) (WO : Sta Z Z.heap "com/example/isocline/isocline/core/sql/SqlToken$Kind" "WORD" "Lcom/example/isocline/isocline/core/sql/SqlToken$Kind;" (.ref kW)) :
    own_ConW l Z consts_1 (⟨"com/example/isocline/isocline/core/sql/TokensOpeningPinLaw", "token", "(I)Lcom/example/isocline/isocline/core/sql/SqlToken;"⟩ : MethodName) method_2_code 1 (some (FieldType.object "com/example/isocline/isocline/core/sql/SqlToken")) ({ frames := 3, cells := 3, slots := 12, locals := 41 } : Room) #[(.int (cc).toInt32)] h0 (fun r h L => ∃ t : Nat, r = some (.ref t) ∧ Fr n0 L ∧ Keep h0 h [] ∧ h0.size ≤ t ∧ own_Tok Z h t (own_kd kS kW cc) (own_ch cc)) := by
  refine own_conW own_pn_com_example_isocline_isocline_core_sql_TokensOpeningPinLaw ?_
  intro p e s m below meth c T0 hx hby hml hZ hown hnm hret hlk X0 e0 eh hS CH0
  have wS := own_wS hw
  have hEL := own_EW hw
  refine own_viaW (F' := T0.setTop (mkF m 0 #[.val (.int (cc).toInt32)] [])) (fun tz kz => castTop (own_ef0 m _) kz) ?_
  refine own_viaW (F' := T0.setTop (mkF m 1 #[.val (.int (cc).toInt32)] [(.int (cc).toInt32)])) (fun tz kz => XS.iloadN X0.here hx rfl (hb hby d1_0) rfl kz) ?_
  by_cases q11 : cc = 0
  · refine own_viaW (F' := T0.setTop (mkF m 10 #[.val (.int (cc).toInt32)] [])) (fun tz kz => XS.ifYes X0.here hx rfl (pc0 := 1) (pc' := 10) rfl (hb hby d1_1) rfl (XT.i0_eq_t ((own_eqI (i := cc) (j := 0) rfl rfl (by omega) (by decide)).mpr q11)) (by decide) (by decide) kz) ?_
    obtain ⟨T12, h12, X12, e12, E12, A12, D12, -, s12⟩ := newO X0 hx hZ hown (hw _ (List.mem_of_getElem? (i := 6) rfl)) (hw _ (List.mem_of_getElem? (i := 7) rfl)) (hw _ (List.mem_of_getElem? (i := 8) rfl)) e0 (g := (mkF m 10 #[.val (.int (cc).toInt32)] [])) rfl (hb hby d1_10) (by decide) (by decide)
    obtain ⟨a12, g12⟩ : ∃ z, z = h0.size := ⟨_, rfl⟩
    rw [← g12] at A12 D12 s12
    have G12 : n0 ≤ a12 := by have q := O0.2.1; have q2 := O0.1; omega
    have D13 : Fld Z h12 a12 "com/example/isocline/isocline/core/sql/SqlToken" "kind" "Lcom/example/isocline/isocline/core/sql/SqlToken$Kind;" .null := D12 (Or.inr (hw _ (List.mem_of_getElem? (i := 32) rfl))) (ty := .object "com/example/isocline/isocline/core/sql/SqlToken$Kind") (by decide)
    have D14 : Fld Z h12 a12 "com/example/isocline/isocline/core/sql/SqlToken" "text" "Ljava/lang/String;" .null := D12 (Or.inr (hw _ (List.mem_of_getElem? (i := 34) rfl))) (ty := .object "java/lang/String") (by decide)
    have D15 : Fld Z h12 a12 "com/example/isocline/isocline/core/sql/SqlToken" "start" "I" (.int (0 : Int32)) := D12 (Or.inr (hw _ (List.mem_of_getElem? (i := 36) rfl))) (ty := .int) (by decide)
    have D16 : Fld Z h12 a12 "com/example/isocline/isocline/core/sql/SqlToken" "end" "I" (.int (0 : Int32)) := D12 (Or.inr (hw _ (List.mem_of_getElem? (i := 38) rfl))) (ty := .int) (by decide)
    refine own_viaW (F' := T12.setTop (mkF m 13 #[.val (.int (cc).toInt32)] [(.ref a12)])) s12 ?_
    have B12 : h0.size ≤ a12 := by have q := (Keep.refl h0 []).1; omega
    refine own_viaW (F' := T12.setTop (mkF m 14 #[.val (.int (cc).toInt32)] [(.ref a12), (.ref a12)])) (fun tz kz => XS.dup X12.here hx rfl (hb hby d1_13) rfl rfl kz) ?_
    have f17 := (O0.ext E12)
    obtain ⟨T18, X18, e18, s18⟩ := getS X12 hx hZ (host := "") hown (hw _ (List.mem_of_getElem? (i := 9) rfl)) Via.refl e12 (SY.ext f17.2) (g := (mkF m 14 #[.val (.int (cc).toInt32)] [(.ref a12), (.ref a12)])) rfl (hb hby d1_14)
    refine own_viaW (F' := T18.setTop (mkF m 17 #[.val (.int (cc).toInt32)] [(.ref kS), (.ref a12), (.ref a12)])) s18 ?_
    have hk19 := ((Keep.refl h0 []).ext E12).1
    have c20 := CH0.trans (CHr.ext E12 CH0.1)
    obtain ⟨a21, T21, h21, X21, e21, E21, hS, hZ, hown, R21, c21, i21, j21, s21⟩ := own_ldcW X18 hx hZ hown (hw _ (List.mem_of_getElem? (i := 12) rfl)) wS e18 hS hk19 hEL (List.mem_of_getElem? (i := 4) rfl) c20 (ch := 40) own_t40 (by decide) (g := (mkF m 17 #[.val (.int (cc).toInt32)] [(.ref kS), (.ref a12), (.ref a12)])) rfl (hb hby d1_17) (by decide) (by decide)
    refine own_viaW (F' := T21.setTop (mkF m 19 #[.val (.int (cc).toInt32)] [(.ref a21), (.ref kS), (.ref a12), (.ref a12)])) s21 ?_
    refine own_viaW (F' := T21.setTop (mkF m 20 #[.val (.int (cc).toInt32)] [(.int (0 : Int32)), (.ref a21), (.ref kS), (.ref a12), (.ref a12)])) (fun tz kz => XT.iconstV X21.here hx rfl (0 : Int32) (hb hby d1_19) (by decide) kz) ?_
    refine own_viaW (F' := T21.setTop (mkF m 21 #[.val (.int (cc).toInt32)] [(.int (1 : Int32)), (.int (0 : Int32)), (.ref a21), (.ref kS), (.ref a12), (.ref a12)])) (fun tz kz => XT.iconstV X21.here hx rfl (1 : Int32) (hb hby d1_20) (by decide) kz) ?_
    have f22 := (A12.ext E21)
    have f23 := (D13.ext E21)
    have f24 := (D14.ext E21)
    have f25 := (D15.ext E21)
    have f26 := (D16.ext E21)
    refine own_callIW X21 hx hZ (own_kti l Z az hw a12 kS a21 h21 n0 f22 f23 f24 f25 f26 G12) hown rfl (hw _ (List.mem_of_getElem? (i := 20) rfl)) (hw _ (List.mem_of_getElem? (i := 21) rfl)) (hw _ (List.mem_of_getElem? (i := 8) rfl)) (hw _ (List.mem_of_getElem? (i := 22) rfl)) (by decide) e21 (g := (mkF m 21 #[.val (.int (cc).toInt32)] [(.int (1 : Int32)), (.int (0 : Int32)), (.ref a21), (.ref kS), (.ref a12), (.ref a12)])) rfl (by rw [hml]; rfl) (argsL := [(.ref kS), (.ref a21), (.int (0 : Int32)), (.int (1 : Int32))]) (rest := [(.ref a12)]) rfl (lenOf own_pd10 rfl) rfl 1 (by show 2 * 0 + _ ≤ _; exact Nat.le_of_eq rfl) (hb hby d1_21) (by decide) (by decide) (by decide) (by decide) ?_
    intro v27 T27 L27 hQ27 X27
    obtain ⟨rfl, M27, K27, E27, D27, F27⟩ := hQ27
    have Y27 := own_Str.keep hw R21 K27 (allS (Or.inl f22) all0)
    refine own_viaW (F' := T27.setTop (mkF m 24 #[.val (.int (cc).toInt32)] [(.ref a12)])) (fun tz kz => kz) ?_
    have c28 := c21.trans (CHr.keep K27 (sfS (Safe.exa hZ.alike f22 (by decide) (by decide)) sf0) c21.1)
    have hk29 := ((Keep.refl h21 [a12]).trans K27 (allS (Or.inl (List.mem_of_getElem? (i := 0) rfl)) all0)).1
    have hq : cc = 0 ∨ cc = 6 := by omega
    have h1 : own_kd kS kW cc = kS := if_neg (by omega)
    have h2 : own_ch cc = 40 := by unfold own_ch; rw [if_pos hq]
    exact own_retAW X27 hS hk29 hZ hEL c28 hx hret rfl rfl hlk (hb hby d1_24) ⟨a12, rfl, (Fr.app (Fr.nil n0) M27), ((((Keep.refl h0 []).ext E12).ext E21).trans K27 (allS (Or.inr B12) all0)), B12, by rw [h1, h2]; exact ⟨a21, E27, D27, F27, Y27⟩⟩ (by decide) (by decide)
  · refine own_viaW (F' := T0.setTop (mkF m 4 #[.val (.int (cc).toInt32)] [])) (fun tz kz => XS.ifNo X0.here hx rfl (hb hby d1_1) rfl (XT.i0_eq_f (fun z => absurd ((own_eqI (i := cc) (j := 0) rfl rfl (by omega) (by decide)).mp z) q11)) kz) ?_
    refine own_viaW (F' := T0.setTop (mkF m 5 #[.val (.int (cc).toInt32)] [(.int (cc).toInt32)])) (fun tz kz => XS.iloadN X0.here hx rfl (hb hby d1_4) rfl kz) ?_
    refine own_viaW (F' := T0.setTop (mkF m 7 #[.val (.int (cc).toInt32)] [(.int (6 : Int32)), (.int (cc).toInt32)])) (fun tz kz => XT.bipushV X0.here hx rfl (6 : Int32) (hb hby d1_5) (by decide) kz) ?_
    by_cases q30 : cc = 6
    · refine own_viaW (F' := T0.setTop (mkF m 10 #[.val (.int (cc).toInt32)] [])) (fun tz kz => XS.icmpNo X0.here hx rfl (hb hby d1_7) rfl (XT.ii_ne_f ((own_eqI (i := cc) (j := 6) rfl rfl (by omega) (by decide)).mpr q30)) kz) ?_
      obtain ⟨T31, h31, X31, e31, E31, A31, D31, -, s31⟩ := newO X0 hx hZ hown (hw _ (List.mem_of_getElem? (i := 6) rfl)) (hw _ (List.mem_of_getElem? (i := 7) rfl)) (hw _ (List.mem_of_getElem? (i := 8) rfl)) e0 (g := (mkF m 10 #[.val (.int (cc).toInt32)] [])) rfl (hb hby d1_10) (by decide) (by decide)
      obtain ⟨a31, g31⟩ : ∃ z, z = h0.size := ⟨_, rfl⟩
      rw [← g31] at A31 D31 s31
      have G31 : n0 ≤ a31 := by have q := O0.2.1; have q2 := O0.1; omega
      have D32 : Fld Z h31 a31 "com/example/isocline/isocline/core/sql/SqlToken" "kind" "Lcom/example/isocline/isocline/core/sql/SqlToken$Kind;" .null := D31 (Or.inr (hw _ (List.mem_of_getElem? (i := 32) rfl))) (ty := .object "com/example/isocline/isocline/core/sql/SqlToken$Kind") (by decide)
      have D33 : Fld Z h31 a31 "com/example/isocline/isocline/core/sql/SqlToken" "text" "Ljava/lang/String;" .null := D31 (Or.inr (hw _ (List.mem_of_getElem? (i := 34) rfl))) (ty := .object "java/lang/String") (by decide)
      have D34 : Fld Z h31 a31 "com/example/isocline/isocline/core/sql/SqlToken" "start" "I" (.int (0 : Int32)) := D31 (Or.inr (hw _ (List.mem_of_getElem? (i := 36) rfl))) (ty := .int) (by decide)
      have D35 : Fld Z h31 a31 "com/example/isocline/isocline/core/sql/SqlToken" "end" "I" (.int (0 : Int32)) := D31 (Or.inr (hw _ (List.mem_of_getElem? (i := 38) rfl))) (ty := .int) (by decide)
      refine own_viaW (F' := T31.setTop (mkF m 13 #[.val (.int (cc).toInt32)] [(.ref a31)])) s31 ?_
      have B31 : h0.size ≤ a31 := by have q := (Keep.refl h0 []).1; omega
      refine own_viaW (F' := T31.setTop (mkF m 14 #[.val (.int (cc).toInt32)] [(.ref a31), (.ref a31)])) (fun tz kz => XS.dup X31.here hx rfl (hb hby d1_13) rfl rfl kz) ?_
      have f36 := (O0.ext E31)
      obtain ⟨T37, X37, e37, s37⟩ := getS X31 hx hZ (host := "") hown (hw _ (List.mem_of_getElem? (i := 9) rfl)) Via.refl e31 (SY.ext f36.2) (g := (mkF m 14 #[.val (.int (cc).toInt32)] [(.ref a31), (.ref a31)])) rfl (hb hby d1_14)
      refine own_viaW (F' := T37.setTop (mkF m 17 #[.val (.int (cc).toInt32)] [(.ref kS), (.ref a31), (.ref a31)])) s37 ?_
      have hk38 := ((Keep.refl h0 []).ext E31).1
      have c39 := CH0.trans (CHr.ext E31 CH0.1)
      obtain ⟨a40, T40, h40, X40, e40, E40, hS, hZ, hown, R40, c40, i40, j40, s40⟩ := own_ldcW X37 hx hZ hown (hw _ (List.mem_of_getElem? (i := 12) rfl)) wS e37 hS hk38 hEL (List.mem_of_getElem? (i := 4) rfl) c39 (ch := 40) own_t40 (by decide) (g := (mkF m 17 #[.val (.int (cc).toInt32)] [(.ref kS), (.ref a31), (.ref a31)])) rfl (hb hby d1_17) (by decide) (by decide)
      refine own_viaW (F' := T40.setTop (mkF m 19 #[.val (.int (cc).toInt32)] [(.ref a40), (.ref kS), (.ref a31), (.ref a31)])) s40 ?_
      refine own_viaW (F' := T40.setTop (mkF m 20 #[.val (.int (cc).toInt32)] [(.int (0 : Int32)), (.ref a40), (.ref kS), (.ref a31), (.ref a31)])) (fun tz kz => XT.iconstV X40.here hx rfl (0 : Int32) (hb hby d1_19) (by decide) kz) ?_
      refine own_viaW (F' := T40.setTop (mkF m 21 #[.val (.int (cc).toInt32)] [(.int (1 : Int32)), (.int (0 : Int32)), (.ref a40), (.ref kS), (.ref a31), (.ref a31)])) (fun tz kz => XT.iconstV X40.here hx rfl (1 : Int32) (hb hby d1_20) (by decide) kz) ?_
      have f41 := (A31.ext E40)
      have f42 := (D32.ext E40)
      have f43 := (D33.ext E40)
      have f44 := (D34.ext E40)
      have f45 := (D35.ext E40)
      refine own_callIW X40 hx hZ (own_kti l Z az hw a31 kS a40 h40 n0 f41 f42 f43 f44 f45 G31) hown rfl (hw _ (List.mem_of_getElem? (i := 20) rfl)) (hw _ (List.mem_of_getElem? (i := 21) rfl)) (hw _ (List.mem_of_getElem? (i := 8) rfl)) (hw _ (List.mem_of_getElem? (i := 22) rfl)) (by decide) e40 (g := (mkF m 21 #[.val (.int (cc).toInt32)] [(.int (1 : Int32)), (.int (0 : Int32)), (.ref a40), (.ref kS), (.ref a31), (.ref a31)])) rfl (by rw [hml]; rfl) (argsL := [(.ref kS), (.ref a40), (.int (0 : Int32)), (.int (1 : Int32))]) (rest := [(.ref a31)]) rfl (lenOf own_pd10 rfl) rfl 1 (by show 2 * 0 + _ ≤ _; exact Nat.le_of_eq rfl) (hb hby d1_21) (by decide) (by decide) (by decide) (by decide) ?_
      intro v46 T46 L46 hQ46 X46
      obtain ⟨rfl, M46, K46, E46, D46, F46⟩ := hQ46
      have Y46 := own_Str.keep hw R40 K46 (allS (Or.inl f41) all0)
      refine own_viaW (F' := T46.setTop (mkF m 24 #[.val (.int (cc).toInt32)] [(.ref a31)])) (fun tz kz => kz) ?_
      have c47 := c40.trans (CHr.keep K46 (sfS (Safe.exa hZ.alike f41 (by decide) (by decide)) sf0) c40.1)
      have hk48 := ((Keep.refl h40 [a31]).trans K46 (allS (Or.inl (List.mem_of_getElem? (i := 0) rfl)) all0)).1
      have hq : cc = 0 ∨ cc = 6 := by omega
      have h1 : own_kd kS kW cc = kS := if_neg (by omega)
      have h2 : own_ch cc = 40 := by unfold own_ch; rw [if_pos hq]
      exact own_retAW X46 hS hk48 hZ hEL c47 hx hret rfl rfl hlk (hb hby d1_24) ⟨a31, rfl, (Fr.app (Fr.nil n0) M46), ((((Keep.refl h0 []).ext E31).ext E40).trans K46 (allS (Or.inr B31) all0)), B31, by rw [h1, h2]; exact ⟨a40, E46, D46, F46, Y46⟩⟩ (by decide) (by decide)
    · refine own_viaW (F' := T0.setTop (mkF m 25 #[.val (.int (cc).toInt32)] [])) (fun tz kz => XS.icmpYes X0.here hx rfl (pc0 := 7) (pc' := 25) rfl (hb hby d1_7) rfl (XT.ii_ne_t (fun z => absurd ((own_eqI (i := cc) (j := 6) rfl rfl (by omega) (by decide)).mp z) q30)) (by decide) (by decide) kz) ?_
      refine own_viaW (F' := T0.setTop (mkF m 26 #[.val (.int (cc).toInt32)] [(.int (cc).toInt32)])) (fun tz kz => XS.iloadN X0.here hx rfl (hb hby d1_25) rfl kz) ?_
      refine own_viaW (F' := T0.setTop (mkF m 27 #[.val (.int (cc).toInt32)] [(.int (1 : Int32)), (.int (cc).toInt32)])) (fun tz kz => XT.iconstV X0.here hx rfl (1 : Int32) (hb hby d1_26) (by decide) kz) ?_
      by_cases q49 : cc = 1
      · refine own_viaW (F' := T0.setTop (mkF m 36 #[.val (.int (cc).toInt32)] [])) (fun tz kz => XS.icmpYes X0.here hx rfl (pc0 := 27) (pc' := 36) rfl (hb hby d1_27) rfl (XT.ii_eq_t ((own_eqI (i := cc) (j := 1) rfl rfl (by omega) (by decide)).mpr q49)) (by decide) (by decide) kz) ?_
        obtain ⟨T50, h50, X50, e50, E50, A50, D50, -, s50⟩ := newO X0 hx hZ hown (hw _ (List.mem_of_getElem? (i := 6) rfl)) (hw _ (List.mem_of_getElem? (i := 7) rfl)) (hw _ (List.mem_of_getElem? (i := 8) rfl)) e0 (g := (mkF m 36 #[.val (.int (cc).toInt32)] [])) rfl (hb hby d1_36) (by decide) (by decide)
        obtain ⟨a50, g50⟩ : ∃ z, z = h0.size := ⟨_, rfl⟩
        rw [← g50] at A50 D50 s50
        have G50 : n0 ≤ a50 := by have q := O0.2.1; have q2 := O0.1; omega
        have D51 : Fld Z h50 a50 "com/example/isocline/isocline/core/sql/SqlToken" "kind" "Lcom/example/isocline/isocline/core/sql/SqlToken$Kind;" .null := D50 (Or.inr (hw _ (List.mem_of_getElem? (i := 32) rfl))) (ty := .object "com/example/isocline/isocline/core/sql/SqlToken$Kind") (by decide)
        have D52 : Fld Z h50 a50 "com/example/isocline/isocline/core/sql/SqlToken" "text" "Ljava/lang/String;" .null := D50 (Or.inr (hw _ (List.mem_of_getElem? (i := 34) rfl))) (ty := .object "java/lang/String") (by decide)
        have D53 : Fld Z h50 a50 "com/example/isocline/isocline/core/sql/SqlToken" "start" "I" (.int (0 : Int32)) := D50 (Or.inr (hw _ (List.mem_of_getElem? (i := 36) rfl))) (ty := .int) (by decide)
        have D54 : Fld Z h50 a50 "com/example/isocline/isocline/core/sql/SqlToken" "end" "I" (.int (0 : Int32)) := D50 (Or.inr (hw _ (List.mem_of_getElem? (i := 38) rfl))) (ty := .int) (by decide)
        refine own_viaW (F' := T50.setTop (mkF m 39 #[.val (.int (cc).toInt32)] [(.ref a50)])) s50 ?_
        have B50 : h0.size ≤ a50 := by have q := (Keep.refl h0 []).1; omega
        refine own_viaW (F' := T50.setTop (mkF m 40 #[.val (.int (cc).toInt32)] [(.ref a50), (.ref a50)])) (fun tz kz => XS.dup X50.here hx rfl (hb hby d1_39) rfl rfl kz) ?_
        have f55 := (O0.ext E50)
        obtain ⟨T56, X56, e56, s56⟩ := getS X50 hx hZ (host := "") hown (hw _ (List.mem_of_getElem? (i := 9) rfl)) Via.refl e50 (SY.ext f55.2) (g := (mkF m 40 #[.val (.int (cc).toInt32)] [(.ref a50), (.ref a50)])) rfl (hb hby d1_40)
        refine own_viaW (F' := T56.setTop (mkF m 43 #[.val (.int (cc).toInt32)] [(.ref kS), (.ref a50), (.ref a50)])) s56 ?_
        have hk57 := ((Keep.refl h0 []).ext E50).1
        have c58 := CH0.trans (CHr.ext E50 CH0.1)
        obtain ⟨a59, T59, h59, X59, e59, E59, hS, hZ, hown, R59, c59, i59, j59, s59⟩ := own_ldcW X56 hx hZ hown (hw _ (List.mem_of_getElem? (i := 168) rfl)) wS e56 hS hk57 hEL (List.mem_of_getElem? (i := 5) rfl) c58 (ch := 41) own_t41 (by decide) (g := (mkF m 43 #[.val (.int (cc).toInt32)] [(.ref kS), (.ref a50), (.ref a50)])) rfl (hb hby d1_43) (by decide) (by decide)
        refine own_viaW (F' := T59.setTop (mkF m 45 #[.val (.int (cc).toInt32)] [(.ref a59), (.ref kS), (.ref a50), (.ref a50)])) s59 ?_
        refine own_viaW (F' := T59.setTop (mkF m 46 #[.val (.int (cc).toInt32)] [(.int (0 : Int32)), (.ref a59), (.ref kS), (.ref a50), (.ref a50)])) (fun tz kz => XT.iconstV X59.here hx rfl (0 : Int32) (hb hby d1_45) (by decide) kz) ?_
        refine own_viaW (F' := T59.setTop (mkF m 47 #[.val (.int (cc).toInt32)] [(.int (1 : Int32)), (.int (0 : Int32)), (.ref a59), (.ref kS), (.ref a50), (.ref a50)])) (fun tz kz => XT.iconstV X59.here hx rfl (1 : Int32) (hb hby d1_46) (by decide) kz) ?_
        have f60 := (A50.ext E59)
        have f61 := (D51.ext E59)
        have f62 := (D52.ext E59)
        have f63 := (D53.ext E59)
        have f64 := (D54.ext E59)
        refine own_callIW X59 hx hZ (own_kti l Z az hw a50 kS a59 h59 n0 f60 f61 f62 f63 f64 G50) hown rfl (hw _ (List.mem_of_getElem? (i := 20) rfl)) (hw _ (List.mem_of_getElem? (i := 21) rfl)) (hw _ (List.mem_of_getElem? (i := 8) rfl)) (hw _ (List.mem_of_getElem? (i := 22) rfl)) (by decide) e59 (g := (mkF m 47 #[.val (.int (cc).toInt32)] [(.int (1 : Int32)), (.int (0 : Int32)), (.ref a59), (.ref kS), (.ref a50), (.ref a50)])) rfl (by rw [hml]; rfl) (argsL := [(.ref kS), (.ref a59), (.int (0 : Int32)), (.int (1 : Int32))]) (rest := [(.ref a50)]) rfl (lenOf own_pd10 rfl) rfl 1 (by show 2 * 0 + _ ≤ _; exact Nat.le_of_eq rfl) (hb hby d1_47) (by decide) (by decide) (by decide) (by decide) ?_
        intro v65 T65 L65 hQ65 X65
        obtain ⟨rfl, M65, K65, E65, D65, F65⟩ := hQ65
        have Y65 := own_Str.keep hw R59 K65 (allS (Or.inl f60) all0)
        refine own_viaW (F' := T65.setTop (mkF m 50 #[.val (.int (cc).toInt32)] [(.ref a50)])) (fun tz kz => kz) ?_
        have c66 := c59.trans (CHr.keep K65 (sfS (Safe.exa hZ.alike f60 (by decide) (by decide)) sf0) c59.1)
        have hk67 := ((Keep.refl h59 [a50]).trans K65 (allS (Or.inl (List.mem_of_getElem? (i := 0) rfl)) all0)).1
        have hq : cc = 1 ∨ cc = 7 := by omega
        have h1 : own_kd kS kW cc = kS := if_neg (by omega)
        have h2 : own_ch cc = 41 := by unfold own_ch; rw [if_neg (by omega), if_pos hq]
        exact own_retAW X65 hS hk67 hZ hEL c66 hx hret rfl rfl hlk (hb hby d1_50) ⟨a50, rfl, (Fr.app (Fr.nil n0) M65), ((((Keep.refl h0 []).ext E50).ext E59).trans K65 (allS (Or.inr B50) all0)), B50, by rw [h1, h2]; exact ⟨a59, E65, D65, F65, Y65⟩⟩ (by decide) (by decide)
      · refine own_viaW (F' := T0.setTop (mkF m 30 #[.val (.int (cc).toInt32)] [])) (fun tz kz => XS.icmpNo X0.here hx rfl (hb hby d1_27) rfl (XT.ii_eq_f (fun z => absurd ((own_eqI (i := cc) (j := 1) rfl rfl (by omega) (by decide)).mp z) q49)) kz) ?_
        refine own_viaW (F' := T0.setTop (mkF m 31 #[.val (.int (cc).toInt32)] [(.int (cc).toInt32)])) (fun tz kz => XS.iloadN X0.here hx rfl (hb hby d1_30) rfl kz) ?_
        refine own_viaW (F' := T0.setTop (mkF m 33 #[.val (.int (cc).toInt32)] [(.int (7 : Int32)), (.int (cc).toInt32)])) (fun tz kz => XT.bipushV X0.here hx rfl (7 : Int32) (hb hby d1_31) (by decide) kz) ?_
        by_cases q68 : cc = 7
        · refine own_viaW (F' := T0.setTop (mkF m 36 #[.val (.int (cc).toInt32)] [])) (fun tz kz => XS.icmpNo X0.here hx rfl (hb hby d1_33) rfl (XT.ii_ne_f ((own_eqI (i := cc) (j := 7) rfl rfl (by omega) (by decide)).mpr q68)) kz) ?_
          obtain ⟨T69, h69, X69, e69, E69, A69, D69, -, s69⟩ := newO X0 hx hZ hown (hw _ (List.mem_of_getElem? (i := 6) rfl)) (hw _ (List.mem_of_getElem? (i := 7) rfl)) (hw _ (List.mem_of_getElem? (i := 8) rfl)) e0 (g := (mkF m 36 #[.val (.int (cc).toInt32)] [])) rfl (hb hby d1_36) (by decide) (by decide)
          obtain ⟨a69, g69⟩ : ∃ z, z = h0.size := ⟨_, rfl⟩
          rw [← g69] at A69 D69 s69
          have G69 : n0 ≤ a69 := by have q := O0.2.1; have q2 := O0.1; omega
          have D70 : Fld Z h69 a69 "com/example/isocline/isocline/core/sql/SqlToken" "kind" "Lcom/example/isocline/isocline/core/sql/SqlToken$Kind;" .null := D69 (Or.inr (hw _ (List.mem_of_getElem? (i := 32) rfl))) (ty := .object "com/example/isocline/isocline/core/sql/SqlToken$Kind") (by decide)
          have D71 : Fld Z h69 a69 "com/example/isocline/isocline/core/sql/SqlToken" "text" "Ljava/lang/String;" .null := D69 (Or.inr (hw _ (List.mem_of_getElem? (i := 34) rfl))) (ty := .object "java/lang/String") (by decide)
          have D72 : Fld Z h69 a69 "com/example/isocline/isocline/core/sql/SqlToken" "start" "I" (.int (0 : Int32)) := D69 (Or.inr (hw _ (List.mem_of_getElem? (i := 36) rfl))) (ty := .int) (by decide)
          have D73 : Fld Z h69 a69 "com/example/isocline/isocline/core/sql/SqlToken" "end" "I" (.int (0 : Int32)) := D69 (Or.inr (hw _ (List.mem_of_getElem? (i := 38) rfl))) (ty := .int) (by decide)
          refine own_viaW (F' := T69.setTop (mkF m 39 #[.val (.int (cc).toInt32)] [(.ref a69)])) s69 ?_
          have B69 : h0.size ≤ a69 := by have q := (Keep.refl h0 []).1; omega
          refine own_viaW (F' := T69.setTop (mkF m 40 #[.val (.int (cc).toInt32)] [(.ref a69), (.ref a69)])) (fun tz kz => XS.dup X69.here hx rfl (hb hby d1_39) rfl rfl kz) ?_
          have f74 := (O0.ext E69)
          obtain ⟨T75, X75, e75, s75⟩ := getS X69 hx hZ (host := "") hown (hw _ (List.mem_of_getElem? (i := 9) rfl)) Via.refl e69 (SY.ext f74.2) (g := (mkF m 40 #[.val (.int (cc).toInt32)] [(.ref a69), (.ref a69)])) rfl (hb hby d1_40)
          refine own_viaW (F' := T75.setTop (mkF m 43 #[.val (.int (cc).toInt32)] [(.ref kS), (.ref a69), (.ref a69)])) s75 ?_
          have hk76 := ((Keep.refl h0 []).ext E69).1
          have c77 := CH0.trans (CHr.ext E69 CH0.1)
          obtain ⟨a78, T78, h78, X78, e78, E78, hS, hZ, hown, R78, c78, i78, j78, s78⟩ := own_ldcW X75 hx hZ hown (hw _ (List.mem_of_getElem? (i := 168) rfl)) wS e75 hS hk76 hEL (List.mem_of_getElem? (i := 5) rfl) c77 (ch := 41) own_t41 (by decide) (g := (mkF m 43 #[.val (.int (cc).toInt32)] [(.ref kS), (.ref a69), (.ref a69)])) rfl (hb hby d1_43) (by decide) (by decide)
          refine own_viaW (F' := T78.setTop (mkF m 45 #[.val (.int (cc).toInt32)] [(.ref a78), (.ref kS), (.ref a69), (.ref a69)])) s78 ?_
          refine own_viaW (F' := T78.setTop (mkF m 46 #[.val (.int (cc).toInt32)] [(.int (0 : Int32)), (.ref a78), (.ref kS), (.ref a69), (.ref a69)])) (fun tz kz => XT.iconstV X78.here hx rfl (0 : Int32) (hb hby d1_45) (by decide) kz) ?_
          refine own_viaW (F' := T78.setTop (mkF m 47 #[.val (.int (cc).toInt32)] [(.int (1 : Int32)), (.int (0 : Int32)), (.ref a78), (.ref kS), (.ref a69), (.ref a69)])) (fun tz kz => XT.iconstV X78.here hx rfl (1 : Int32) (hb hby d1_46) (by decide) kz) ?_
          have f79 := (A69.ext E78)
          have f80 := (D70.ext E78)
          have f81 := (D71.ext E78)
          have f82 := (D72.ext E78)
          have f83 := (D73.ext E78)
          refine own_callIW X78 hx hZ (own_kti l Z az hw a69 kS a78 h78 n0 f79 f80 f81 f82 f83 G69) hown rfl (hw _ (List.mem_of_getElem? (i := 20) rfl)) (hw _ (List.mem_of_getElem? (i := 21) rfl)) (hw _ (List.mem_of_getElem? (i := 8) rfl)) (hw _ (List.mem_of_getElem? (i := 22) rfl)) (by decide) e78 (g := (mkF m 47 #[.val (.int (cc).toInt32)] [(.int (1 : Int32)), (.int (0 : Int32)), (.ref a78), (.ref kS), (.ref a69), (.ref a69)])) rfl (by rw [hml]; rfl) (argsL := [(.ref kS), (.ref a78), (.int (0 : Int32)), (.int (1 : Int32))]) (rest := [(.ref a69)]) rfl (lenOf own_pd10 rfl) rfl 1 (by show 2 * 0 + _ ≤ _; exact Nat.le_of_eq rfl) (hb hby d1_47) (by decide) (by decide) (by decide) (by decide) ?_
          intro v84 T84 L84 hQ84 X84
          obtain ⟨rfl, M84, K84, E84, D84, F84⟩ := hQ84
          have Y84 := own_Str.keep hw R78 K84 (allS (Or.inl f79) all0)
          refine own_viaW (F' := T84.setTop (mkF m 50 #[.val (.int (cc).toInt32)] [(.ref a69)])) (fun tz kz => kz) ?_
          have c85 := c78.trans (CHr.keep K84 (sfS (Safe.exa hZ.alike f79 (by decide) (by decide)) sf0) c78.1)
          have hk86 := ((Keep.refl h78 [a69]).trans K84 (allS (Or.inl (List.mem_of_getElem? (i := 0) rfl)) all0)).1
          have hq : cc = 1 ∨ cc = 7 := by omega
          have h1 : own_kd kS kW cc = kS := if_neg (by omega)
          have h2 : own_ch cc = 41 := by unfold own_ch; rw [if_neg (by omega), if_pos hq]
          exact own_retAW X84 hS hk86 hZ hEL c85 hx hret rfl rfl hlk (hb hby d1_50) ⟨a69, rfl, (Fr.app (Fr.nil n0) M84), ((((Keep.refl h0 []).ext E69).ext E78).trans K84 (allS (Or.inr B69) all0)), B69, by rw [h1, h2]; exact ⟨a78, E84, D84, F84, Y84⟩⟩ (by decide) (by decide)
        · refine own_viaW (F' := T0.setTop (mkF m 51 #[.val (.int (cc).toInt32)] [])) (fun tz kz => XS.icmpYes X0.here hx rfl (pc0 := 33) (pc' := 51) rfl (hb hby d1_33) rfl (XT.ii_ne_t (fun z => absurd ((own_eqI (i := cc) (j := 7) rfl rfl (by omega) (by decide)).mp z) q68)) (by decide) (by decide) kz) ?_
          refine own_viaW (F' := T0.setTop (mkF m 52 #[.val (.int (cc).toInt32)] [(.int (cc).toInt32)])) (fun tz kz => XS.iloadN X0.here hx rfl (hb hby d1_51) rfl kz) ?_
          refine own_viaW (F' := T0.setTop (mkF m 53 #[.val (.int (cc).toInt32)] [(.int (2 : Int32)), (.int (cc).toInt32)])) (fun tz kz => XT.iconstV X0.here hx rfl (2 : Int32) (hb hby d1_52) (by decide) kz) ?_
          by_cases q87 : cc = 2
          · refine own_viaW (F' := T0.setTop (mkF m 56 #[.val (.int (cc).toInt32)] [])) (fun tz kz => XS.icmpNo X0.here hx rfl (hb hby d1_53) rfl (XT.ii_ne_f ((own_eqI (i := cc) (j := 2) rfl rfl (by omega) (by decide)).mpr q87)) kz) ?_
            obtain ⟨T88, h88, X88, e88, E88, A88, D88, -, s88⟩ := newO X0 hx hZ hown (hw _ (List.mem_of_getElem? (i := 6) rfl)) (hw _ (List.mem_of_getElem? (i := 7) rfl)) (hw _ (List.mem_of_getElem? (i := 8) rfl)) e0 (g := (mkF m 56 #[.val (.int (cc).toInt32)] [])) rfl (hb hby d1_56) (by decide) (by decide)
            obtain ⟨a88, g88⟩ : ∃ z, z = h0.size := ⟨_, rfl⟩
            rw [← g88] at A88 D88 s88
            have G88 : n0 ≤ a88 := by have q := O0.2.1; have q2 := O0.1; omega
            have D89 : Fld Z h88 a88 "com/example/isocline/isocline/core/sql/SqlToken" "kind" "Lcom/example/isocline/isocline/core/sql/SqlToken$Kind;" .null := D88 (Or.inr (hw _ (List.mem_of_getElem? (i := 32) rfl))) (ty := .object "com/example/isocline/isocline/core/sql/SqlToken$Kind") (by decide)
            have D90 : Fld Z h88 a88 "com/example/isocline/isocline/core/sql/SqlToken" "text" "Ljava/lang/String;" .null := D88 (Or.inr (hw _ (List.mem_of_getElem? (i := 34) rfl))) (ty := .object "java/lang/String") (by decide)
            have D91 : Fld Z h88 a88 "com/example/isocline/isocline/core/sql/SqlToken" "start" "I" (.int (0 : Int32)) := D88 (Or.inr (hw _ (List.mem_of_getElem? (i := 36) rfl))) (ty := .int) (by decide)
            have D92 : Fld Z h88 a88 "com/example/isocline/isocline/core/sql/SqlToken" "end" "I" (.int (0 : Int32)) := D88 (Or.inr (hw _ (List.mem_of_getElem? (i := 38) rfl))) (ty := .int) (by decide)
            refine own_viaW (F' := T88.setTop (mkF m 59 #[.val (.int (cc).toInt32)] [(.ref a88)])) s88 ?_
            have B88 : h0.size ≤ a88 := by have q := (Keep.refl h0 []).1; omega
            refine own_viaW (F' := T88.setTop (mkF m 60 #[.val (.int (cc).toInt32)] [(.ref a88), (.ref a88)])) (fun tz kz => XS.dup X88.here hx rfl (hb hby d1_59) rfl rfl kz) ?_
            have f93 := (O0.ext E88)
            obtain ⟨T94, X94, e94, s94⟩ := getS X88 hx hZ (host := "") hown (hw _ (List.mem_of_getElem? (i := 9) rfl)) Via.refl e88 (SY.ext f93.2) (g := (mkF m 60 #[.val (.int (cc).toInt32)] [(.ref a88), (.ref a88)])) rfl (hb hby d1_60)
            refine own_viaW (F' := T94.setTop (mkF m 63 #[.val (.int (cc).toInt32)] [(.ref kS), (.ref a88), (.ref a88)])) s94 ?_
            have hk95 := ((Keep.refl h0 []).ext E88).1
            have c96 := CH0.trans (CHr.ext E88 CH0.1)
            obtain ⟨a97, T97, h97, X97, e97, E97, hS, hZ, hown, R97, c97, i97, j97, s97⟩ := own_ldcW X94 hx hZ hown (hw _ (List.mem_of_getElem? (i := 170) rfl)) wS e94 hS hk95 hEL (List.mem_of_getElem? (i := 6) rfl) c96 (ch := 91) own_t91 (by decide) (g := (mkF m 63 #[.val (.int (cc).toInt32)] [(.ref kS), (.ref a88), (.ref a88)])) rfl (hb hby d1_63) (by decide) (by decide)
            refine own_viaW (F' := T97.setTop (mkF m 65 #[.val (.int (cc).toInt32)] [(.ref a97), (.ref kS), (.ref a88), (.ref a88)])) s97 ?_
            refine own_viaW (F' := T97.setTop (mkF m 66 #[.val (.int (cc).toInt32)] [(.int (0 : Int32)), (.ref a97), (.ref kS), (.ref a88), (.ref a88)])) (fun tz kz => XT.iconstV X97.here hx rfl (0 : Int32) (hb hby d1_65) (by decide) kz) ?_
            refine own_viaW (F' := T97.setTop (mkF m 67 #[.val (.int (cc).toInt32)] [(.int (1 : Int32)), (.int (0 : Int32)), (.ref a97), (.ref kS), (.ref a88), (.ref a88)])) (fun tz kz => XT.iconstV X97.here hx rfl (1 : Int32) (hb hby d1_66) (by decide) kz) ?_
            have f98 := (A88.ext E97)
            have f99 := (D89.ext E97)
            have f100 := (D90.ext E97)
            have f101 := (D91.ext E97)
            have f102 := (D92.ext E97)
            refine own_callIW X97 hx hZ (own_kti l Z az hw a88 kS a97 h97 n0 f98 f99 f100 f101 f102 G88) hown rfl (hw _ (List.mem_of_getElem? (i := 20) rfl)) (hw _ (List.mem_of_getElem? (i := 21) rfl)) (hw _ (List.mem_of_getElem? (i := 8) rfl)) (hw _ (List.mem_of_getElem? (i := 22) rfl)) (by decide) e97 (g := (mkF m 67 #[.val (.int (cc).toInt32)] [(.int (1 : Int32)), (.int (0 : Int32)), (.ref a97), (.ref kS), (.ref a88), (.ref a88)])) rfl (by rw [hml]; rfl) (argsL := [(.ref kS), (.ref a97), (.int (0 : Int32)), (.int (1 : Int32))]) (rest := [(.ref a88)]) rfl (lenOf own_pd10 rfl) rfl 1 (by show 2 * 0 + _ ≤ _; exact Nat.le_of_eq rfl) (hb hby d1_67) (by decide) (by decide) (by decide) (by decide) ?_
            intro v103 T103 L103 hQ103 X103
            obtain ⟨rfl, M103, K103, E103, D103, F103⟩ := hQ103
            have Y103 := own_Str.keep hw R97 K103 (allS (Or.inl f98) all0)
            refine own_viaW (F' := T103.setTop (mkF m 70 #[.val (.int (cc).toInt32)] [(.ref a88)])) (fun tz kz => kz) ?_
            have c104 := c97.trans (CHr.keep K103 (sfS (Safe.exa hZ.alike f98 (by decide) (by decide)) sf0) c97.1)
            have hk105 := ((Keep.refl h97 [a88]).trans K103 (allS (Or.inl (List.mem_of_getElem? (i := 0) rfl)) all0)).1
            have hq : cc = 2 := by omega
            have h1 : own_kd kS kW cc = kS := if_neg (by omega)
            have h2 : own_ch cc = 91 := by unfold own_ch; rw [if_neg (by omega), if_neg (by omega), if_pos hq]
            exact own_retAW X103 hS hk105 hZ hEL c104 hx hret rfl rfl hlk (hb hby d1_70) ⟨a88, rfl, (Fr.app (Fr.nil n0) M103), ((((Keep.refl h0 []).ext E88).ext E97).trans K103 (allS (Or.inr B88) all0)), B88, by rw [h1, h2]; exact ⟨a97, E103, D103, F103, Y103⟩⟩ (by decide) (by decide)
          · refine own_viaW (F' := T0.setTop (mkF m 71 #[.val (.int (cc).toInt32)] [])) (fun tz kz => XS.icmpYes X0.here hx rfl (pc0 := 53) (pc' := 71) rfl (hb hby d1_53) rfl (XT.ii_ne_t (fun z => absurd ((own_eqI (i := cc) (j := 2) rfl rfl (by omega) (by decide)).mp z) q87)) (by decide) (by decide) kz) ?_
            refine own_viaW (F' := T0.setTop (mkF m 72 #[.val (.int (cc).toInt32)] [(.int (cc).toInt32)])) (fun tz kz => XS.iloadN X0.here hx rfl (hb hby d1_71) rfl kz) ?_
            refine own_viaW (F' := T0.setTop (mkF m 73 #[.val (.int (cc).toInt32)] [(.int (3 : Int32)), (.int (cc).toInt32)])) (fun tz kz => XT.iconstV X0.here hx rfl (3 : Int32) (hb hby d1_72) (by decide) kz) ?_
            by_cases q106 : cc = 3
            · refine own_viaW (F' := T0.setTop (mkF m 76 #[.val (.int (cc).toInt32)] [])) (fun tz kz => XS.icmpNo X0.here hx rfl (hb hby d1_73) rfl (XT.ii_ne_f ((own_eqI (i := cc) (j := 3) rfl rfl (by omega) (by decide)).mpr q106)) kz) ?_
              obtain ⟨T107, h107, X107, e107, E107, A107, D107, -, s107⟩ := newO X0 hx hZ hown (hw _ (List.mem_of_getElem? (i := 6) rfl)) (hw _ (List.mem_of_getElem? (i := 7) rfl)) (hw _ (List.mem_of_getElem? (i := 8) rfl)) e0 (g := (mkF m 76 #[.val (.int (cc).toInt32)] [])) rfl (hb hby d1_76) (by decide) (by decide)
              obtain ⟨a107, g107⟩ : ∃ z, z = h0.size := ⟨_, rfl⟩
              rw [← g107] at A107 D107 s107
              have G107 : n0 ≤ a107 := by have q := O0.2.1; have q2 := O0.1; omega
              have D108 : Fld Z h107 a107 "com/example/isocline/isocline/core/sql/SqlToken" "kind" "Lcom/example/isocline/isocline/core/sql/SqlToken$Kind;" .null := D107 (Or.inr (hw _ (List.mem_of_getElem? (i := 32) rfl))) (ty := .object "com/example/isocline/isocline/core/sql/SqlToken$Kind") (by decide)
              have D109 : Fld Z h107 a107 "com/example/isocline/isocline/core/sql/SqlToken" "text" "Ljava/lang/String;" .null := D107 (Or.inr (hw _ (List.mem_of_getElem? (i := 34) rfl))) (ty := .object "java/lang/String") (by decide)
              have D110 : Fld Z h107 a107 "com/example/isocline/isocline/core/sql/SqlToken" "start" "I" (.int (0 : Int32)) := D107 (Or.inr (hw _ (List.mem_of_getElem? (i := 36) rfl))) (ty := .int) (by decide)
              have D111 : Fld Z h107 a107 "com/example/isocline/isocline/core/sql/SqlToken" "end" "I" (.int (0 : Int32)) := D107 (Or.inr (hw _ (List.mem_of_getElem? (i := 38) rfl))) (ty := .int) (by decide)
              refine own_viaW (F' := T107.setTop (mkF m 79 #[.val (.int (cc).toInt32)] [(.ref a107)])) s107 ?_
              have B107 : h0.size ≤ a107 := by have q := (Keep.refl h0 []).1; omega
              refine own_viaW (F' := T107.setTop (mkF m 80 #[.val (.int (cc).toInt32)] [(.ref a107), (.ref a107)])) (fun tz kz => XS.dup X107.here hx rfl (hb hby d1_79) rfl rfl kz) ?_
              have f112 := (O0.ext E107)
              obtain ⟨T113, X113, e113, s113⟩ := getS X107 hx hZ (host := "") hown (hw _ (List.mem_of_getElem? (i := 9) rfl)) Via.refl e107 (SY.ext f112.2) (g := (mkF m 80 #[.val (.int (cc).toInt32)] [(.ref a107), (.ref a107)])) rfl (hb hby d1_80)
              refine own_viaW (F' := T113.setTop (mkF m 83 #[.val (.int (cc).toInt32)] [(.ref kS), (.ref a107), (.ref a107)])) s113 ?_
              have hk114 := ((Keep.refl h0 []).ext E107).1
              have c115 := CH0.trans (CHr.ext E107 CH0.1)
              obtain ⟨a116, T116, h116, X116, e116, E116, hS, hZ, hown, R116, c116, i116, j116, s116⟩ := own_ldcW X113 hx hZ hown (hw _ (List.mem_of_getElem? (i := 178) rfl)) wS e113 hS hk114 hEL (List.mem_of_getElem? (i := 7) rfl) c115 (ch := 93) own_t93 (by decide) (g := (mkF m 83 #[.val (.int (cc).toInt32)] [(.ref kS), (.ref a107), (.ref a107)])) rfl (hb hby d1_83) (by decide) (by decide)
              refine own_viaW (F' := T116.setTop (mkF m 85 #[.val (.int (cc).toInt32)] [(.ref a116), (.ref kS), (.ref a107), (.ref a107)])) s116 ?_
              refine own_viaW (F' := T116.setTop (mkF m 86 #[.val (.int (cc).toInt32)] [(.int (0 : Int32)), (.ref a116), (.ref kS), (.ref a107), (.ref a107)])) (fun tz kz => XT.iconstV X116.here hx rfl (0 : Int32) (hb hby d1_85) (by decide) kz) ?_
              refine own_viaW (F' := T116.setTop (mkF m 87 #[.val (.int (cc).toInt32)] [(.int (1 : Int32)), (.int (0 : Int32)), (.ref a116), (.ref kS), (.ref a107), (.ref a107)])) (fun tz kz => XT.iconstV X116.here hx rfl (1 : Int32) (hb hby d1_86) (by decide) kz) ?_
              have f117 := (A107.ext E116)
              have f118 := (D108.ext E116)
              have f119 := (D109.ext E116)
              have f120 := (D110.ext E116)
              have f121 := (D111.ext E116)
              refine own_callIW X116 hx hZ (own_kti l Z az hw a107 kS a116 h116 n0 f117 f118 f119 f120 f121 G107) hown rfl (hw _ (List.mem_of_getElem? (i := 20) rfl)) (hw _ (List.mem_of_getElem? (i := 21) rfl)) (hw _ (List.mem_of_getElem? (i := 8) rfl)) (hw _ (List.mem_of_getElem? (i := 22) rfl)) (by decide) e116 (g := (mkF m 87 #[.val (.int (cc).toInt32)] [(.int (1 : Int32)), (.int (0 : Int32)), (.ref a116), (.ref kS), (.ref a107), (.ref a107)])) rfl (by rw [hml]; rfl) (argsL := [(.ref kS), (.ref a116), (.int (0 : Int32)), (.int (1 : Int32))]) (rest := [(.ref a107)]) rfl (lenOf own_pd10 rfl) rfl 1 (by show 2 * 0 + _ ≤ _; exact Nat.le_of_eq rfl) (hb hby d1_87) (by decide) (by decide) (by decide) (by decide) ?_
              intro v122 T122 L122 hQ122 X122
              obtain ⟨rfl, M122, K122, E122, D122, F122⟩ := hQ122
              have Y122 := own_Str.keep hw R116 K122 (allS (Or.inl f117) all0)
              refine own_viaW (F' := T122.setTop (mkF m 90 #[.val (.int (cc).toInt32)] [(.ref a107)])) (fun tz kz => kz) ?_
              have c123 := c116.trans (CHr.keep K122 (sfS (Safe.exa hZ.alike f117 (by decide) (by decide)) sf0) c116.1)
              have hk124 := ((Keep.refl h116 [a107]).trans K122 (allS (Or.inl (List.mem_of_getElem? (i := 0) rfl)) all0)).1
              have hq : cc = 3 := by omega
              have h1 : own_kd kS kW cc = kS := if_neg (by omega)
              have h2 : own_ch cc = 93 := by unfold own_ch; rw [if_neg (by omega), if_neg (by omega), if_neg (by omega), if_pos hq]
              exact own_retAW X122 hS hk124 hZ hEL c123 hx hret rfl rfl hlk (hb hby d1_90) ⟨a107, rfl, (Fr.app (Fr.nil n0) M122), ((((Keep.refl h0 []).ext E107).ext E116).trans K122 (allS (Or.inr B107) all0)), B107, by rw [h1, h2]; exact ⟨a116, E122, D122, F122, Y122⟩⟩ (by decide) (by decide)
            · refine own_viaW (F' := T0.setTop (mkF m 91 #[.val (.int (cc).toInt32)] [])) (fun tz kz => XS.icmpYes X0.here hx rfl (pc0 := 73) (pc' := 91) rfl (hb hby d1_73) rfl (XT.ii_ne_t (fun z => absurd ((own_eqI (i := cc) (j := 3) rfl rfl (by omega) (by decide)).mp z) q106)) (by decide) (by decide) kz) ?_
              refine own_viaW (F' := T0.setTop (mkF m 92 #[.val (.int (cc).toInt32)] [(.int (cc).toInt32)])) (fun tz kz => XS.iloadN X0.here hx rfl (hb hby d1_91) rfl kz) ?_
              refine own_viaW (F' := T0.setTop (mkF m 93 #[.val (.int (cc).toInt32)] [(.int (4 : Int32)), (.int (cc).toInt32)])) (fun tz kz => XT.iconstV X0.here hx rfl (4 : Int32) (hb hby d1_92) (by decide) kz) ?_
              by_cases q125 : cc = 4
              · refine own_viaW (F' := T0.setTop (mkF m 96 #[.val (.int (cc).toInt32)] [])) (fun tz kz => XS.icmpNo X0.here hx rfl (hb hby d1_93) rfl (XT.ii_ne_f ((own_eqI (i := cc) (j := 4) rfl rfl (by omega) (by decide)).mpr q125)) kz) ?_
                obtain ⟨T126, h126, X126, e126, E126, A126, D126, -, s126⟩ := newO X0 hx hZ hown (hw _ (List.mem_of_getElem? (i := 6) rfl)) (hw _ (List.mem_of_getElem? (i := 7) rfl)) (hw _ (List.mem_of_getElem? (i := 8) rfl)) e0 (g := (mkF m 96 #[.val (.int (cc).toInt32)] [])) rfl (hb hby d1_96) (by decide) (by decide)
                obtain ⟨a126, g126⟩ : ∃ z, z = h0.size := ⟨_, rfl⟩
                rw [← g126] at A126 D126 s126
                have G126 : n0 ≤ a126 := by have q := O0.2.1; have q2 := O0.1; omega
                have D127 : Fld Z h126 a126 "com/example/isocline/isocline/core/sql/SqlToken" "kind" "Lcom/example/isocline/isocline/core/sql/SqlToken$Kind;" .null := D126 (Or.inr (hw _ (List.mem_of_getElem? (i := 32) rfl))) (ty := .object "com/example/isocline/isocline/core/sql/SqlToken$Kind") (by decide)
                have D128 : Fld Z h126 a126 "com/example/isocline/isocline/core/sql/SqlToken" "text" "Ljava/lang/String;" .null := D126 (Or.inr (hw _ (List.mem_of_getElem? (i := 34) rfl))) (ty := .object "java/lang/String") (by decide)
                have D129 : Fld Z h126 a126 "com/example/isocline/isocline/core/sql/SqlToken" "start" "I" (.int (0 : Int32)) := D126 (Or.inr (hw _ (List.mem_of_getElem? (i := 36) rfl))) (ty := .int) (by decide)
                have D130 : Fld Z h126 a126 "com/example/isocline/isocline/core/sql/SqlToken" "end" "I" (.int (0 : Int32)) := D126 (Or.inr (hw _ (List.mem_of_getElem? (i := 38) rfl))) (ty := .int) (by decide)
                refine own_viaW (F' := T126.setTop (mkF m 99 #[.val (.int (cc).toInt32)] [(.ref a126)])) s126 ?_
                have B126 : h0.size ≤ a126 := by have q := (Keep.refl h0 []).1; omega
                refine own_viaW (F' := T126.setTop (mkF m 100 #[.val (.int (cc).toInt32)] [(.ref a126), (.ref a126)])) (fun tz kz => XS.dup X126.here hx rfl (hb hby d1_99) rfl rfl kz) ?_
                have f131 := (O0.ext E126)
                obtain ⟨T132, X132, e132, s132⟩ := getS X126 hx hZ (host := "") hown (hw _ (List.mem_of_getElem? (i := 9) rfl)) Via.refl e126 (SY.ext f131.2) (g := (mkF m 100 #[.val (.int (cc).toInt32)] [(.ref a126), (.ref a126)])) rfl (hb hby d1_100)
                refine own_viaW (F' := T132.setTop (mkF m 103 #[.val (.int (cc).toInt32)] [(.ref kS), (.ref a126), (.ref a126)])) s132 ?_
                have hk133 := ((Keep.refl h0 []).ext E126).1
                have c134 := CH0.trans (CHr.ext E126 CH0.1)
                obtain ⟨a135, T135, h135, X135, e135, E135, hS, hZ, hown, R135, c135, i135, j135, s135⟩ := own_ldcW X132 hx hZ hown (hw _ (List.mem_of_getElem? (i := 169) rfl)) wS e132 hS hk133 hEL (List.mem_of_getElem? (i := 8) rfl) c134 (ch := 44) own_t44 (by decide) (g := (mkF m 103 #[.val (.int (cc).toInt32)] [(.ref kS), (.ref a126), (.ref a126)])) rfl (hb hby d1_103) (by decide) (by decide)
                refine own_viaW (F' := T135.setTop (mkF m 105 #[.val (.int (cc).toInt32)] [(.ref a135), (.ref kS), (.ref a126), (.ref a126)])) s135 ?_
                refine own_viaW (F' := T135.setTop (mkF m 106 #[.val (.int (cc).toInt32)] [(.int (0 : Int32)), (.ref a135), (.ref kS), (.ref a126), (.ref a126)])) (fun tz kz => XT.iconstV X135.here hx rfl (0 : Int32) (hb hby d1_105) (by decide) kz) ?_
                refine own_viaW (F' := T135.setTop (mkF m 107 #[.val (.int (cc).toInt32)] [(.int (1 : Int32)), (.int (0 : Int32)), (.ref a135), (.ref kS), (.ref a126), (.ref a126)])) (fun tz kz => XT.iconstV X135.here hx rfl (1 : Int32) (hb hby d1_106) (by decide) kz) ?_
                have f136 := (A126.ext E135)
                have f137 := (D127.ext E135)
                have f138 := (D128.ext E135)
                have f139 := (D129.ext E135)
                have f140 := (D130.ext E135)
                refine own_callIW X135 hx hZ (own_kti l Z az hw a126 kS a135 h135 n0 f136 f137 f138 f139 f140 G126) hown rfl (hw _ (List.mem_of_getElem? (i := 20) rfl)) (hw _ (List.mem_of_getElem? (i := 21) rfl)) (hw _ (List.mem_of_getElem? (i := 8) rfl)) (hw _ (List.mem_of_getElem? (i := 22) rfl)) (by decide) e135 (g := (mkF m 107 #[.val (.int (cc).toInt32)] [(.int (1 : Int32)), (.int (0 : Int32)), (.ref a135), (.ref kS), (.ref a126), (.ref a126)])) rfl (by rw [hml]; rfl) (argsL := [(.ref kS), (.ref a135), (.int (0 : Int32)), (.int (1 : Int32))]) (rest := [(.ref a126)]) rfl (lenOf own_pd10 rfl) rfl 1 (by show 2 * 0 + _ ≤ _; exact Nat.le_of_eq rfl) (hb hby d1_107) (by decide) (by decide) (by decide) (by decide) ?_
                intro v141 T141 L141 hQ141 X141
                obtain ⟨rfl, M141, K141, E141, D141, F141⟩ := hQ141
                have Y141 := own_Str.keep hw R135 K141 (allS (Or.inl f136) all0)
                refine own_viaW (F' := T141.setTop (mkF m 110 #[.val (.int (cc).toInt32)] [(.ref a126)])) (fun tz kz => kz) ?_
                have c142 := c135.trans (CHr.keep K141 (sfS (Safe.exa hZ.alike f136 (by decide) (by decide)) sf0) c135.1)
                have hk143 := ((Keep.refl h135 [a126]).trans K141 (allS (Or.inl (List.mem_of_getElem? (i := 0) rfl)) all0)).1
                have hq : cc = 4 := by omega
                have h1 : own_kd kS kW cc = kS := if_neg (by omega)
                have h2 : own_ch cc = 44 := by unfold own_ch; rw [if_neg (by omega), if_neg (by omega), if_neg (by omega), if_neg (by omega), if_pos hq]
                exact own_retAW X141 hS hk143 hZ hEL c142 hx hret rfl rfl hlk (hb hby d1_110) ⟨a126, rfl, (Fr.app (Fr.nil n0) M141), ((((Keep.refl h0 []).ext E126).ext E135).trans K141 (allS (Or.inr B126) all0)), B126, by rw [h1, h2]; exact ⟨a135, E141, D141, F141, Y141⟩⟩ (by decide) (by decide)
              · refine own_viaW (F' := T0.setTop (mkF m 111 #[.val (.int (cc).toInt32)] [])) (fun tz kz => XS.icmpYes X0.here hx rfl (pc0 := 93) (pc' := 111) rfl (hb hby d1_93) rfl (XT.ii_ne_t (fun z => absurd ((own_eqI (i := cc) (j := 4) rfl rfl (by omega) (by decide)).mp z) q125)) (by decide) (by decide) kz) ?_
                obtain ⟨T144, h144, X144, e144, E144, A144, D144, -, s144⟩ := newO X0 hx hZ hown (hw _ (List.mem_of_getElem? (i := 6) rfl)) (hw _ (List.mem_of_getElem? (i := 7) rfl)) (hw _ (List.mem_of_getElem? (i := 8) rfl)) e0 (g := (mkF m 111 #[.val (.int (cc).toInt32)] [])) rfl (hb hby d1_111) (by decide) (by decide)
                obtain ⟨a144, g144⟩ : ∃ z, z = h0.size := ⟨_, rfl⟩
                rw [← g144] at A144 D144 s144
                have G144 : n0 ≤ a144 := by have q := O0.2.1; have q2 := O0.1; omega
                have D145 : Fld Z h144 a144 "com/example/isocline/isocline/core/sql/SqlToken" "kind" "Lcom/example/isocline/isocline/core/sql/SqlToken$Kind;" .null := D144 (Or.inr (hw _ (List.mem_of_getElem? (i := 32) rfl))) (ty := .object "com/example/isocline/isocline/core/sql/SqlToken$Kind") (by decide)
                have D146 : Fld Z h144 a144 "com/example/isocline/isocline/core/sql/SqlToken" "text" "Ljava/lang/String;" .null := D144 (Or.inr (hw _ (List.mem_of_getElem? (i := 34) rfl))) (ty := .object "java/lang/String") (by decide)
                have D147 : Fld Z h144 a144 "com/example/isocline/isocline/core/sql/SqlToken" "start" "I" (.int (0 : Int32)) := D144 (Or.inr (hw _ (List.mem_of_getElem? (i := 36) rfl))) (ty := .int) (by decide)
                have D148 : Fld Z h144 a144 "com/example/isocline/isocline/core/sql/SqlToken" "end" "I" (.int (0 : Int32)) := D144 (Or.inr (hw _ (List.mem_of_getElem? (i := 38) rfl))) (ty := .int) (by decide)
                refine own_viaW (F' := T144.setTop (mkF m 114 #[.val (.int (cc).toInt32)] [(.ref a144)])) s144 ?_
                have B144 : h0.size ≤ a144 := by have q := (Keep.refl h0 []).1; omega
                refine own_viaW (F' := T144.setTop (mkF m 115 #[.val (.int (cc).toInt32)] [(.ref a144), (.ref a144)])) (fun tz kz => XS.dup X144.here hx rfl (hb hby d1_114) rfl rfl kz) ?_
                have f149 := (O0.ext E144)
                obtain ⟨T150, X150, e150, s150⟩ := getS X144 hx hZ (host := "") hown (hw _ (List.mem_of_getElem? (i := 180) rfl)) Via.refl e144 (WO.ext f149.2) (g := (mkF m 115 #[.val (.int (cc).toInt32)] [(.ref a144), (.ref a144)])) rfl (hb hby d1_115)
                refine own_viaW (F' := T150.setTop (mkF m 118 #[.val (.int (cc).toInt32)] [(.ref kW), (.ref a144), (.ref a144)])) s150 ?_
                have hk151 := ((Keep.refl h0 []).ext E144).1
                have c152 := CH0.trans (CHr.ext E144 CH0.1)
                obtain ⟨a153, T153, h153, X153, e153, E153, hS, hZ, hown, R153, c153, i153, j153, s153⟩ := own_ldcW X150 hx hZ hown (hw _ (List.mem_of_getElem? (i := 182) rfl)) wS e150 hS hk151 hEL (List.mem_of_getElem? (i := 9) rfl) c152 (ch := 120) own_t120 (by decide) (g := (mkF m 118 #[.val (.int (cc).toInt32)] [(.ref kW), (.ref a144), (.ref a144)])) rfl (hb hby d1_118) (by decide) (by decide)
                refine own_viaW (F' := T153.setTop (mkF m 120 #[.val (.int (cc).toInt32)] [(.ref a153), (.ref kW), (.ref a144), (.ref a144)])) s153 ?_
                refine own_viaW (F' := T153.setTop (mkF m 121 #[.val (.int (cc).toInt32)] [(.int (0 : Int32)), (.ref a153), (.ref kW), (.ref a144), (.ref a144)])) (fun tz kz => XT.iconstV X153.here hx rfl (0 : Int32) (hb hby d1_120) (by decide) kz) ?_
                refine own_viaW (F' := T153.setTop (mkF m 122 #[.val (.int (cc).toInt32)] [(.int (1 : Int32)), (.int (0 : Int32)), (.ref a153), (.ref kW), (.ref a144), (.ref a144)])) (fun tz kz => XT.iconstV X153.here hx rfl (1 : Int32) (hb hby d1_121) (by decide) kz) ?_
                have f154 := (A144.ext E153)
                have f155 := (D145.ext E153)
                have f156 := (D146.ext E153)
                have f157 := (D147.ext E153)
                have f158 := (D148.ext E153)
                refine own_callIW X153 hx hZ (own_kti l Z az hw a144 kW a153 h153 n0 f154 f155 f156 f157 f158 G144) hown rfl (hw _ (List.mem_of_getElem? (i := 20) rfl)) (hw _ (List.mem_of_getElem? (i := 21) rfl)) (hw _ (List.mem_of_getElem? (i := 8) rfl)) (hw _ (List.mem_of_getElem? (i := 22) rfl)) (by decide) e153 (g := (mkF m 122 #[.val (.int (cc).toInt32)] [(.int (1 : Int32)), (.int (0 : Int32)), (.ref a153), (.ref kW), (.ref a144), (.ref a144)])) rfl (by rw [hml]; rfl) (argsL := [(.ref kW), (.ref a153), (.int (0 : Int32)), (.int (1 : Int32))]) (rest := [(.ref a144)]) rfl (lenOf own_pd10 rfl) rfl 1 (by show 2 * 0 + _ ≤ _; exact Nat.le_of_eq rfl) (hb hby d1_122) (by decide) (by decide) (by decide) (by decide) ?_
                intro v159 T159 L159 hQ159 X159
                obtain ⟨rfl, M159, K159, E159, D159, F159⟩ := hQ159
                have Y159 := own_Str.keep hw R153 K159 (allS (Or.inl f154) all0)
                refine own_viaW (F' := T159.setTop (mkF m 125 #[.val (.int (cc).toInt32)] [(.ref a144)])) (fun tz kz => kz) ?_
                have c160 := c153.trans (CHr.keep K159 (sfS (Safe.exa hZ.alike f154 (by decide) (by decide)) sf0) c153.1)
                have hk161 := ((Keep.refl h153 [a144]).trans K159 (allS (Or.inl (List.mem_of_getElem? (i := 0) rfl)) all0)).1
                have hq : cc = 5 := by omega
                have h1 : own_kd kS kW cc = kW := if_pos hq
                have h2 : own_ch cc = 120 := by unfold own_ch; rw [if_neg (by omega), if_neg (by omega), if_neg (by omega), if_neg (by omega), if_neg (by omega)]
                exact own_retAW X159 hS hk161 hZ hEL c160 hx hret rfl rfl hlk (hb hby d1_125) ⟨a144, rfl, (Fr.app (Fr.nil n0) M159), ((((Keep.refl h0 []).ext E144).ext E153).trans K159 (allS (Or.inr B144) all0)), B144, by rw [h1, h2]; exact ⟨a153, E159, D159, F159, Y159⟩⟩ (by decide) (by decide)
theorem own_ef23 (m : MethodId) (x0 : Nat) (x1 : Nat) : entryFrame m #[(.ref x0), (.ref x1)] 5 = mkF m 0 #[.val (.ref x0), .val (.ref x1), .unset, .unset, .unset] [] := by first | (simp [entryFrame, mkF, argsToLocals, Value.category]; done) | rfl
set_option maxRecDepth 65536 in
set_option maxHeartbeats 40000000 in
theorem own_kT (l : Launch) (Z : State) (az : Array Value) (hw : ∀ d ∈ tables_1, d.before az Z = true) (o lst n kS kW : Nat) (te cc : Nat → Nat) (z : Int32) (hz : z ≠ 0) (hn : n ≤ 5) (hc : ∀ i, cc i < 8) (hkk : kS ≠ kW) (h0 : Heap) (n0 : Nat) (O0 : Old Z n0 h0) (E0 : Exa Z h0 o "com/example/isocline/isocline/core/sql/Tokens") (D_tokens : Fld Z h0 o "com/example/isocline/isocline/core/sql/Tokens" "tokens" "Ljava/util/List;" .null) (D_depth : Fld Z h0 o "com/example/isocline/isocline/core/sql/Tokens" "depth" "[I" .null) (G0 : n0 ≤ o) (LS0 : own_LS Z h0 lst n te (fun i => own_kd kS kW (cc i)) (fun i => own_ch (cc i))) (CS : Sta Z Z.heap "java/lang/String" "COMPACT_STRINGS" "Z" (.int z)) (SY : Sta Z Z.heap "com/example/isocline/isocline/core/sql/SqlToken$Kind" "SYMBOL" "Lcom/example/isocline/isocline/core/sql/SqlToken$Kind;" (.ref kS)) :
    own_ConW l Z consts_1 (⟨"com/example/isocline/isocline/core/sql/Tokens", "<init>", "(Ljava/util/List;)V"⟩ : MethodName) prog_91_method_1_code 5 (none) ({ frames := 3, cells := 33, slots := 134, locals := 48 } : Room) #[(.ref o), (.ref lst)] h0 (fun r h L => r = none ∧ Fr n0 L ∧ Keep h0 h [o] ∧ ∃ ad, h0.size ≤ ad ∧ Exa Z h o "com/example/isocline/isocline/core/sql/Tokens" ∧ Fld Z h o "com/example/isocline/isocline/core/sql/Tokens" "depth" "[I" (.ref ad) ∧ own_I Z h ad (n + 1) (own_tb cc n)) := by
  refine own_conW own_pn_com_example_isocline_isocline_core_sql_Tokens ?_
  intro p e s m below meth c T0 hx hby hml hZ hown hnm hret hlk X0 e0 eh hS CH0
  have wS := own_wS hw
  have hEL := own_EW hw
  refine own_viaW (F' := T0.setTop (mkF m 0 #[.val (.ref o), .val (.ref lst), .unset, .unset, .unset] [])) (fun tz kz => castTop (own_ef23 m _ _) kz) ?_
  refine own_viaW (F' := T0.setTop (mkF m 1 #[.val (.ref o), .val (.ref lst), .unset, .unset, .unset] [(.ref o)])) (fun tz kz => XS.aloadN X0.here hx rfl (hb hby d13_0) rfl rfl kz) ?_
  obtain ⟨T11, X11, e11, s11⟩ := initO X0 hx hZ hown (hw _ (List.mem_of_getElem? (i := 100) rfl)) (hw _ (List.mem_of_getElem? (i := 29) rfl)) (hw _ (List.mem_of_getElem? (i := 30) rfl)) e0 (g := (mkF m 1 #[.val (.ref o), .val (.ref lst), .unset, .unset, .unset] [(.ref o)])) rfl (by rw [hml]; rfl) rfl (hb hby d13_1) (by decide) (W := 0) (by show 2 * 0 + _ ≤ _; exact Nat.le_of_eq rfl) (by decide)
  refine own_viaW (F' := T11.setTop (mkF m 4 #[.val (.ref o), .val (.ref lst), .unset, .unset, .unset] [])) s11 ?_
  refine own_viaW (F' := T11.setTop (mkF m 5 #[.val (.ref o), .val (.ref lst), .unset, .unset, .unset] [(.ref o)])) (fun tz kz => XS.aloadN X11.here hx rfl (hb hby d13_4) rfl rfl kz) ?_
  refine own_viaW (F' := T11.setTop (mkF m 6 #[.val (.ref o), .val (.ref lst), .unset, .unset, .unset] [(.ref lst), (.ref o)])) (fun tz kz => XS.aloadN X11.here hx rfl (hb hby d13_5) rfl rfl kz) ?_
  obtain ⟨T12, h12, X12, e12, W12, s12⟩ := putF X11 hx hZ hown (host := "") (Or.inl (hw _ (List.mem_of_getElem? (i := 101) rfl))) Via.refl e11 D_tokens E0 (Or.inr ⟨(hw _ (List.mem_of_getElem? (i := 102) rfl)), rfl, hnm⟩) (hw _ (List.mem_of_getElem? (i := 95) rfl)) (ty := .object "java/util/List") (by decide) rfl rfl (g := (mkF m 6 #[.val (.ref o), .val (.ref lst), .unset, .unset, .unset] [(.ref lst), (.ref o)])) rfl rfl (hb hby d13_6)
  have F12 := D_tokens.same W12
  have N12 := Fr.snoc X12 (Fr.nil n0) G0
  refine own_viaW (F' := T12.setTop (mkF m 9 #[.val (.ref o), .val (.ref lst), .unset, .unset, .unset] [])) s12 ?_
  refine own_viaW (F' := T12.setTop (mkF m 10 #[.val (.ref o), .val (.ref lst), .unset, .unset, .unset] [(.ref o)])) (fun tz kz => XS.aloadN X12.here hx rfl (hb hby d13_9) rfl rfl kz) ?_
  refine own_viaW (F' := T12.setTop (mkF m 11 #[.val (.ref o), .val (.ref lst), .unset, .unset, .unset] [(.ref lst), (.ref o)])) (fun tz kz => XS.aloadN X12.here hx rfl (hb hby d13_10) rfl rfl kz) ?_
  have f13 := (own_LS.wr hw LS0 W12 (Or.inl E0))
  have lq14 := f13
  obtain ⟨ea14, cp14, f14, lE14, lD14, lS14, lA14, l114, l214, l314, l414⟩ := lq14
  refine own_callFW X12 hx hZ (own_ksz l Z az hw lst n h12 n0 lS14) hown lE14 (hw _ (List.mem_of_getElem? (i := 103) rfl)) (hw _ (List.mem_of_getElem? (i := 104) rfl)) (hw _ (List.mem_of_getElem? (i := 105) rfl)) (hw _ (List.mem_of_getElem? (i := 106) rfl)) (hw _ (List.mem_of_getElem? (i := 107) rfl)) (hw _ (List.mem_of_getElem? (i := 108) rfl)) (hw _ (List.mem_of_getElem? (i := 109) rfl)) (hw _ (List.mem_of_getElem? (i := 110) rfl)) (hw _ (List.mem_of_getElem? (i := 41) rfl)) (hw _ (List.mem_of_getElem? (i := 111) rfl)) (by decide) e12 (g := (mkF m 11 #[.val (.ref o), .val (.ref lst), .unset, .unset, .unset] [(.ref lst), (.ref o)])) rfl (by rw [hml]; rfl) (argsL := []) (rest := [(.ref o)]) rfl (lenOf own_pd11 rfl) rfl 1 (by show 2 * 0 + _ ≤ _; exact Nat.le_of_eq rfl) (hb hby d13_11) (by decide) (by decide) (by decide) (by decide) ?_
  intro v15 T15 L15 hQ15 X15
  obtain ⟨rfl, e15, rfl⟩ := hQ15
  refine own_viaW (F' := T15.setTop (mkF m 16 #[.val (.ref o), .val (.ref lst), .unset, .unset, .unset] [(.int (n).toInt32), (.ref o)])) (fun tz kz => kz) ?_
  refine own_viaW (F' := T15.setTop (mkF m 17 #[.val (.ref o), .val (.ref lst), .unset, .unset, .unset] [(.int (1 : Int32)), (.int (n).toInt32), (.ref o)])) (fun tz kz => XT.iconstV X15.here hx rfl (1 : Int32) (hb hby d13_16) (by decide) kz) ?_
  refine own_viaW (F' := T15.setTop (mkF m 18 #[.val (.ref o), .val (.ref lst), .unset, .unset, .unset] [(.int (n + 1).toInt32), (.ref o)])) (fun tz kz => XS.iadd X15.here hx rfl (hb hby d13_17) rfl (by rw [own_succ]; exact kz)) ?_
  obtain ⟨T16, h16, K16, X16, e16, E16, A16, I16, s16⟩ := own_newA X15 hx hZ (aty := .int) (CC := "[I") (by decide) (hw _ (List.mem_of_getElem? (i := 1) rfl)) e15 (n := n + 1) rfl (by omega) (cap := 6) (by omega) (by decide) (by decide) (g := (mkF m 18 #[.val (.ref o), .val (.ref lst), .unset, .unset, .unset] [(.int (n + 1).toInt32), (.ref o)])) rfl rfl (hb hby d13_18)
  obtain ⟨a16, g16⟩ : ∃ z, z = h12.size := ⟨_, rfl⟩
  rw [← g16] at A16 s16 I16
  have f17 := (E0.wr W12)
  have lt16_o : o < a16 := by have q := own_n f17.lt; omega
  have B16 : h0.size ≤ a16 := by have q := ((Keep.refl h0 [o]).wr W12 (Or.inl (List.mem_of_getElem? (i := 0) rfl))).1; omega
  have f18 := (O0.wr W12 G0)
  have G16 : n0 ≤ a16 := by have q := f18.2.1; have q2 := f18.1; omega
  have J16 : own_I Z h16 a16 (n + 1) (fun _ => 0) := ⟨_, A16⟩
  have S16 := Ins.self I16
  refine own_viaW (F' := T16.setTop (mkF m 20 #[.val (.ref o), .val (.ref lst), .unset, .unset, .unset] [(.ref a16), (.ref o)])) s16 ?_
  have f19 := (f17.ext E16)
  have f20 := ((D_depth.other W12 (Or.inr (slot_ne (Or.inr (hw _ (List.mem_of_getElem? (i := 113) rfl))) (Or.inr (hw _ (List.mem_of_getElem? (i := 102) rfl))) (by decide) (t := (.array .int)) (t' := (.object "java/util/List")) (by decide) (by decide)))).ext E16)
  obtain ⟨T21, h21, X21, e21, W21, s21⟩ := putF X16 hx hZ hown (host := "") (Or.inl (hw _ (List.mem_of_getElem? (i := 112) rfl))) Via.refl e16 f20 f19 (Or.inr ⟨(hw _ (List.mem_of_getElem? (i := 113) rfl)), rfl, hnm⟩) (hw _ (List.mem_of_getElem? (i := 95) rfl)) (ty := (.array .int)) (by decide) rfl rfl (g := (mkF m 20 #[.val (.ref o), .val (.ref lst), .unset, .unset, .unset] [(.ref a16), (.ref o)])) rfl rfl (hb hby d13_20)
  have F21 := f20.same W21
  have N21 := Fr.snoc X21 (Fr.app N12 (Fr.nil _)) G0
  refine own_viaW (F' := T21.setTop (mkF m 23 #[.val (.ref o), .val (.ref lst), .unset, .unset, .unset] [])) s21 ?_
  refine own_viaW (F' := T21.setTop (mkF m 24 #[.val (.ref o), .val (.ref lst), .unset, .unset, .unset] [(.int (0 : Int32))])) (fun tz kz => XT.iconstV X21.here hx rfl (0 : Int32) (hb hby d13_23) (by decide) kz) ?_
  refine own_viaW (F' := T21.setTop (mkF m 25 #[.val (.ref o), .val (.ref lst), .val (.int (0 : Int32)), .unset, .unset] [])) (fun tz kz => XS.istoreN X21.here hx rfl (hb hby d13_24) rfl (l' := #[.val (.ref o), .val (.ref lst), .val (.int (0 : Int32)), .unset, .unset]) rfl kz) ?_
  refine own_viaW (F' := T21.setTop (mkF m 26 #[.val (.ref o), .val (.ref lst), .val (.int (0 : Int32)), .unset, .unset] [(.int (0 : Int32))])) (fun tz kz => XT.iconstV X21.here hx rfl (0 : Int32) (hb hby d13_25) (by decide) kz) ?_
  refine own_viaW (F' := T21.setTop (mkF m 27 #[.val (.ref o), .val (.ref lst), .val (.int (0 : Int32)), .val (.int (0 : Int32)), .unset] [])) (fun tz kz => XS.istoreN X21.here hx rfl (hb hby d13_26) rfl (l' := #[.val (.ref o), .val (.ref lst), .val (.int (0 : Int32)), .val (.int (0 : Int32)), .unset]) rfl kz) ?_
  have loop : ∀ (j i : Nat), i + j = n → ∀ (vm : Vm) (T : State) (h : Heap) (L : List Loc) (φ : Nat → Nat) (a41 C S k0 : Nat) (x4 : Slot), ((i = 0 ∧ C ≤ 1 ∧ S ≤ 6) ∨ (C ≤ 3 + 6 * i ∧ S ≤ 14 + 24 * i ∧ own_Str Z h a41 41 ∧ Lit (s.setVm vm) "com/example/isocline/isocline/core/sql/Tokens" 29 a41)) → (x4 = .unset ∨ ∃ w, x4 = .val w ∧ w.category = 1) → Stand p l e ({ frames := 3, cells := 33, slots := 134, locals := 48 } : Room) (s.setVm vm) m #[(.ref o), (.ref lst)] below meth c T L C S → T.heap = h → s.Since vm k0 → k0 ≤ h.size → Z.Warmed39 (s.setVm vm).vm → (s.setVm vm).vm.findClass "com/example/isocline/isocline/core/sql/Tokens" = some m.cls → CHr Z consts_1 s.vm s.heap vm h → Fr n0 L → Keep h0 h [o] → Exa Z h o "com/example/isocline/isocline/core/sql/Tokens" → Fld Z h o "com/example/isocline/isocline/core/sql/Tokens" "depth" "[I" (.ref a16) → own_I Z h a16 (n + 1) φ → (∀ y, y < i → φ y = own_d cc y) → own_LS Z h lst n te (fun i => own_kd kS kW (cc i)) (fun i => own_ch (cc i)) → Old Z n0 h →
      own_GoW Z consts_1 p e below s (fun r h L => r = none ∧ Fr n0 L ∧ Keep h0 h [o] ∧ ∃ ad, h0.size ≤ ad ∧ Exa Z h o "com/example/isocline/isocline/core/sql/Tokens" ∧ Fld Z h o "com/example/isocline/isocline/core/sql/Tokens" "depth" "[I" (.ref ad) ∧ own_I Z h ad (n + 1) (own_tb cc n)) 33 134 (T.setTop (mkF m 27 #[.val (.ref o), .val (.ref lst), .val (.int (own_dp cc i).toInt32), .val (.int (i).toInt32), x4] [])) := by
    intro j
    induction j with
    | zero =>
      intro i hi vm T h L φ a41 C S k0 x4 hl c4 X e1 hS hk hZ hown CH N1 Kp Eo Fd Ad hφ LSx Ox
      have hC : C ≤ 3 + 6 * i ∧ S ≤ 14 + 24 * i := by rcases hl with ⟨q1, q2, q3⟩ | ⟨q2, q3, -, -⟩ <;> omega
      have hin : i = n := by omega
      refine own_viaW (F' := T.setTop (mkF m 28 #[.val (.ref o), .val (.ref lst), .val (.int (own_dp cc i).toInt32), .val (.int (i).toInt32), x4] [(.int (i).toInt32)])) (fun tz kz => XS.iloadN X.here hx rfl (hb hby d13_27) rfl kz) ?_
      refine own_viaW (F' := T.setTop (mkF m 29 #[.val (.ref o), .val (.ref lst), .val (.int (own_dp cc i).toInt32), .val (.int (i).toInt32), x4] [(.ref lst), (.int (i).toInt32)])) (fun tz kz => XS.aloadN X.here hx rfl (hb hby d13_28) rfl rfl kz) ?_
      have lq201 := LSx
      obtain ⟨ea201, cp201, f201, lE201, lD201, lS201, lA201, l1201, l2201, l3201, l4201⟩ := lq201
      refine own_callFW X hx hZ (own_ksz l Z az hw lst n h n0 lS201) hown lE201 (hw _ (List.mem_of_getElem? (i := 103) rfl)) (hw _ (List.mem_of_getElem? (i := 104) rfl)) (hw _ (List.mem_of_getElem? (i := 105) rfl)) (hw _ (List.mem_of_getElem? (i := 106) rfl)) (hw _ (List.mem_of_getElem? (i := 107) rfl)) (hw _ (List.mem_of_getElem? (i := 108) rfl)) (hw _ (List.mem_of_getElem? (i := 109) rfl)) (hw _ (List.mem_of_getElem? (i := 110) rfl)) (hw _ (List.mem_of_getElem? (i := 41) rfl)) (hw _ (List.mem_of_getElem? (i := 111) rfl)) (by decide) e1 (g := (mkF m 29 #[.val (.ref o), .val (.ref lst), .val (.int (own_dp cc i).toInt32), .val (.int (i).toInt32), x4] [(.ref lst), (.int (i).toInt32)])) rfl (by rw [hml]; rfl) (argsL := []) (rest := [(.int (i).toInt32)]) rfl (lenOf own_pd11 rfl) rfl 1 (by show 2 * 0 + _ ≤ _; exact Nat.le_of_eq rfl) (hb hby d13_29) (by decide) (by decide) (show C + 0 ≤ 33 by omega) (show S + 0 ≤ 134 by omega) ?_
      intro v202 T202 L202 hQ202 X202
      obtain ⟨rfl, e202, rfl⟩ := hQ202
      refine own_viaW (F' := T202.setTop (mkF m 34 #[.val (.ref o), .val (.ref lst), .val (.int (own_dp cc i).toInt32), .val (.int (i).toInt32), x4] [(.int (n).toInt32), (.int (i).toInt32)])) (fun tz kz => kz) ?_
      refine own_viaW (F' := T202.setTop (mkF m 113 #[.val (.ref o), .val (.ref lst), .val (.int (own_dp cc i).toInt32), .val (.int (i).toInt32), x4] [])) (fun tz kz => XS.icmpYes X202.here hx rfl (pc0 := 34) (pc' := 113) rfl (hb hby d13_34) rfl (XT.ii_ge_t (fun z => absurd ((own_ltI (i := i) (j := n) rfl rfl (by omega) (by omega)).mp z) (by omega))) (by decide) (by decide) kz) ?_
      refine own_viaW (F' := T202.setTop (mkF m 114 #[.val (.ref o), .val (.ref lst), .val (.int (own_dp cc i).toInt32), .val (.int (i).toInt32), x4] [(.ref o)])) (fun tz kz => XS.aloadN X202.here hx rfl (hb hby d13_113) rfl rfl kz) ?_
      obtain ⟨T203, X203, e203, s203⟩ := getF X202 hx hZ hown (host := "") (Or.inl (hw _ (List.mem_of_getElem? (i := 112) rfl))) Via.refl e202 Fd (g := (mkF m 114 #[.val (.ref o), .val (.ref lst), .val (.int (own_dp cc i).toInt32), .val (.int (i).toInt32), x4] [(.ref o)])) rfl rfl (hb hby d13_114)
      refine own_viaW (F' := T203.setTop (mkF m 117 #[.val (.ref o), .val (.ref lst), .val (.int (own_dp cc i).toInt32), .val (.int (i).toInt32), x4] [(.ref a16)])) s203 ?_
      refine own_viaW (F' := T203.setTop (mkF m 118 #[.val (.ref o), .val (.ref lst), .val (.int (own_dp cc i).toInt32), .val (.int (i).toInt32), x4] [(.ref lst), (.ref a16)])) (fun tz kz => XS.aloadN X203.here hx rfl (hb hby d13_117) rfl rfl kz) ?_
      have lq204 := LSx
      obtain ⟨ea204, cp204, f204, lE204, lD204, lS204, lA204, l1204, l2204, l3204, l4204⟩ := lq204
      refine own_callFW X203 hx hZ (own_ksz l Z az hw lst n h n0 lS204) hown lE204 (hw _ (List.mem_of_getElem? (i := 103) rfl)) (hw _ (List.mem_of_getElem? (i := 104) rfl)) (hw _ (List.mem_of_getElem? (i := 105) rfl)) (hw _ (List.mem_of_getElem? (i := 106) rfl)) (hw _ (List.mem_of_getElem? (i := 107) rfl)) (hw _ (List.mem_of_getElem? (i := 108) rfl)) (hw _ (List.mem_of_getElem? (i := 109) rfl)) (hw _ (List.mem_of_getElem? (i := 110) rfl)) (hw _ (List.mem_of_getElem? (i := 41) rfl)) (hw _ (List.mem_of_getElem? (i := 111) rfl)) (by decide) e203 (g := (mkF m 118 #[.val (.ref o), .val (.ref lst), .val (.int (own_dp cc i).toInt32), .val (.int (i).toInt32), x4] [(.ref lst), (.ref a16)])) rfl (by rw [hml]; rfl) (argsL := []) (rest := [(.ref a16)]) rfl (lenOf own_pd11 rfl) rfl 1 (by show 2 * 0 + _ ≤ _; exact Nat.le_of_eq rfl) (hb hby d13_118) (by decide) (by decide) (show C + 0 + 0 ≤ 33 by omega) (show S + 0 + 0 ≤ 134 by omega) ?_
      intro v205 T205 L205 hQ205 X205
      obtain ⟨rfl, e205, rfl⟩ := hQ205
      refine own_viaW (F' := T205.setTop (mkF m 123 #[.val (.ref o), .val (.ref lst), .val (.int (own_dp cc i).toInt32), .val (.int (i).toInt32), x4] [(.int (n).toInt32), (.ref a16)])) (fun tz kz => kz) ?_
      refine own_viaW (F' := T205.setTop (mkF m 124 #[.val (.ref o), .val (.ref lst), .val (.int (own_dp cc i).toInt32), .val (.int (i).toInt32), x4] [(.int (0 : Int32)), (.int (n).toInt32), (.ref a16)])) (fun tz kz => XT.iconstV X205.here hx rfl (0 : Int32) (hb hby d13_123) (by decide) kz) ?_
      obtain ⟨T206, h206, X206, e206, W206, s206⟩ := Ad.store X205 hx hZ e205 (j := n) rfl (by omega) (by omega) (g := (mkF m 124 #[.val (.ref o), .val (.ref lst), .val (.int (own_dp cc i).toInt32), .val (.int (i).toInt32), x4] [(.int (0 : Int32)), (.int (n).toInt32), (.ref a16)])) rfl rfl (hb hby d13_124)
      have F206 : own_I Z h206 a16 (n + 1) (fun zz => if zz = n then 0 else φ zz) := Ad.set W206 (y := 0) rfl
      obtain ⟨y206, Y206⟩ : ∃ z : Nat → Nat, z = fun zz => if zz = n then 0 else φ zz := ⟨_, rfl⟩
      rw [← Y206] at F206
      have N206 := Fr.snoc X206 (Fr.app (Fr.app N1 (Fr.nil _)) (Fr.nil _)) G16
      refine own_viaW (F' := T206.setTop (mkF m 125 #[.val (.ref o), .val (.ref lst), .val (.int (own_dp cc i).toInt32), .val (.int (i).toInt32), x4] [])) s206 ?_
      have c207 := CH.trans (CHr.wr W206 (Ad.safe hZ.alike) CH.1)
      have hk208 := Nat.le_trans hk ((Keep.refl h [a16]).wr W206 (Or.inl (List.mem_of_getElem? (i := 0) rfl))).1
      have f209 := (Eo.wr W206)
      have f210 := (Fd.other W206 (Or.inl (own_ne (by omega))))
      exact own_ret0W X206 hS (by rw [e206]; exact hk208) hZ hEL (by rw [e206]; exact c207) hx hret hlk (hb hby d13_125) (by rw [e206]; exact ⟨rfl, N206, (((Keep.refl h0 [o]).trans Kp (allS (Or.inl (List.mem_of_getElem? (i := 0) rfl)) all0)).wr W206 (Or.inr B16)), a16, B16, f209, f210, F206.congr (fun x hx => by rw [Y206]; show (if x = n then 0 else φ x) = own_tb cc n x; exact if q : x = n then (by rw [if_pos q, q]; exact (if_neg (by omega)).symm) else (by rw [if_neg q, hφ x (by omega)]; exact (if_pos (by omega)).symm))⟩) (show C + 0 + 0 ≤ 33 by omega) (show S + 0 + 0 ≤ 134 by omega)
    | succ j ih =>
      intro i hi vm T h L φ a41 C S k0 x4 hl c4 X e1 hS hk hZ hown CH N1 Kp Eo Fd Ad hφ LSx Ox
      have hin : i < n := by omega
      have hx8 := hc i
      have hdp := own_dp_le cc i
      have body : ∀ (vm : Vm) (T : State) (h : Heap) (L : List Loc) (φ : Nat → Nat) (a41 C S k0 : Nat), C ≤ 3 + 6 * i → S ≤ 14 + 24 * i → own_Str Z h a41 41 → Lit (s.setVm vm) "com/example/isocline/isocline/core/sql/Tokens" 29 a41 → Stand p l e ({ frames := 3, cells := 33, slots := 134, locals := 48 } : Room) (s.setVm vm) m #[(.ref o), (.ref lst)] below meth c T L C S → T.heap = h → s.Since vm k0 → k0 ≤ h.size → Z.Warmed39 (s.setVm vm).vm → (s.setVm vm).vm.findClass "com/example/isocline/isocline/core/sql/Tokens" = some m.cls → CHr Z consts_1 s.vm s.heap vm h → Fr n0 L → Keep h0 h [o] → Exa Z h o "com/example/isocline/isocline/core/sql/Tokens" → Fld Z h o "com/example/isocline/isocline/core/sql/Tokens" "depth" "[I" (.ref a16) → own_I Z h a16 (n + 1) φ → (∀ y, y < i → φ y = own_d cc y) → own_LS Z h lst n te (fun i => own_kd kS kW (cc i)) (fun i => own_ch (cc i)) → Old Z n0 h →
          own_GoW Z consts_1 p e below s (fun r h L => r = none ∧ Fr n0 L ∧ Keep h0 h [o] ∧ ∃ ad, h0.size ≤ ad ∧ Exa Z h o "com/example/isocline/isocline/core/sql/Tokens" ∧ Fld Z h o "com/example/isocline/isocline/core/sql/Tokens" "depth" "[I" (.ref ad) ∧ own_I Z h ad (n + 1) (own_tb cc n)) 33 134 (T.setTop (mkF m 53 #[.val (.ref o), .val (.ref lst), .val (.int (own_dp cc i).toInt32), .val (.int (i).toInt32), .val (.ref (te i))] [(.ref a41), (.ref (te i))])) := by
        intro vm T h L φ a41 C S k0 hC1 hC2 S41 Lt X e1 hS hk hZ hown CH N1 Kp Eo Fd Ad hφ LSx Ox
        have hcase : (cc i = 1 ∨ cc i = 7) ∨ cc i = 3 ∨ (cc i = 0 ∨ cc i = 6) ∨ cc i = 2 ∨ (cc i = 4 ∨ cc i = 5) := by omega
        rcases hcase with hk1 | hk1 | hk1 | hk1 | hk1
        · have tk301 := own_LS.tok LSx hin
          refine own_callVW X hx hZ (own_kis l Z az hw (te i) (own_kd kS kW (cc i)) (own_ch (cc i)) a41 41 kS 1 z hz ((own_sy41 hx8 hkk).trans (if_pos (by omega))) (own_ch_lt _) (by decide) h n0 tk301 S41 CS SY Ox) hown tk301.exa (hw _ (List.mem_of_getElem? (i := 138) rfl)) (hw _ (List.mem_of_getElem? (i := 139) rfl)) (hw _ (List.mem_of_getElem? (i := 141) rfl)) (hw _ (List.mem_of_getElem? (i := 140) rfl)) (hw _ (List.mem_of_getElem? (i := 8) rfl)) (hw _ (List.mem_of_getElem? (i := 142) rfl)) (notFace_of_selects (args := #[]) (mvT hZ (hw _ (List.mem_of_getElem? (i := 141) rfl)))) (by decide) e1 (g := (mkF m 53 #[.val (.ref o), .val (.ref lst), .val (.int (own_dp cc i).toInt32), .val (.int (i).toInt32), .val (.ref (te i))] [(.ref a41), (.ref (te i))])) rfl (by rw [hml]; rfl) (argsL := [(.ref a41)]) (rest := []) rfl (lenOf own_pd12 rfl) rfl 0 (by show 2 * 0 + _ ≤ _; exact Nat.le_of_eq rfl) (hb hby d13_53) (by decide) (by decide) (show C + 0 ≤ 33 by omega) (show S + 0 ≤ 134 by omega) ?_
          intro v302 T302 L302 hQ302 X302
          obtain ⟨rfl, e302, rfl⟩ := hQ302
          refine own_viaW (F' := T302.setTop (mkF m 56 #[.val (.ref o), .val (.ref lst), .val (.int (own_dp cc i).toInt32), .val (.int (i).toInt32), .val (.ref (te i))] [(.int (1 : Int32))])) (fun tz kz => kz) ?_
          refine own_viaW (F' := T302.setTop (mkF m 69 #[.val (.ref o), .val (.ref lst), .val (.int (own_dp cc i).toInt32), .val (.int (i).toInt32), .val (.ref (te i))] [])) (fun tz kz => XS.ifYes X302.here hx rfl (pc0 := 56) (pc' := 69) rfl (hb hby d13_56) rfl (XT.i0_ne_t (by decide)) (by decide) (by decide) kz) ?_
          refine own_viaW (F' := T302.setTop (mkF m 70 #[.val (.ref o), .val (.ref lst), .val (.int (own_dp cc i).toInt32), .val (.int (i).toInt32), .val (.ref (te i))] [(.int (0 : Int32))])) (fun tz kz => XT.iconstV X302.here hx rfl (0 : Int32) (hb hby d13_69) (by decide) kz) ?_
          refine own_viaW (F' := T302.setTop (mkF m 71 #[.val (.ref o), .val (.ref lst), .val (.int (own_dp cc i).toInt32), .val (.int (i).toInt32), .val (.ref (te i))] [(.int (own_dp cc i).toInt32), (.int (0 : Int32))])) (fun tz kz => XS.iloadN X302.here hx rfl (hb hby d13_70) rfl kz) ?_
          refine own_viaW (F' := T302.setTop (mkF m 72 #[.val (.ref o), .val (.ref lst), .val (.int (own_dp cc i).toInt32), .val (.int (i).toInt32), .val (.ref (te i))] [(.int (1 : Int32)), (.int (own_dp cc i).toInt32), (.int (0 : Int32))])) (fun tz kz => XT.iconstV X302.here hx rfl (1 : Int32) (hb hby d13_71) (by decide) kz) ?_
          refine own_viaW (F' := T302.setTop (mkF m 73 #[.val (.ref o), .val (.ref lst), .val (.int (own_dp cc i).toInt32), .val (.int (i).toInt32), .val (.ref (te i))] [(.int ((own_dp cc i).toInt32 - 1)), (.int (0 : Int32))])) (fun tz kz => XS.isub X302.here hx rfl (hb hby d13_72) rfl kz) ?_
          refine own_callSW X302 hx hZ (own_kmx l Z az hw 0 ((own_dp cc i).toInt32 - 1) ((own_dp cc i - 1).toInt32) (own_maxd (by omega)) h n0) hown (hw _ (List.mem_of_getElem? (i := 179) rfl)) (hw _ (List.mem_of_getElem? (i := 88) rfl)) (hw _ (List.mem_of_getElem? (i := 89) rfl)) (hw _ (List.mem_of_getElem? (i := 90) rfl)) (by decide) e302 (g := (mkF m 73 #[.val (.ref o), .val (.ref lst), .val (.int (own_dp cc i).toInt32), .val (.int (i).toInt32), .val (.ref (te i))] [(.int ((own_dp cc i).toInt32 - 1)), (.int (0 : Int32))])) rfl (by rw [hml]; rfl) (argsL := [(.int (0 : Int32)), (.int ((own_dp cc i).toInt32 - 1))]) (rest := []) rfl (lenOf own_pd2 rfl) rfl 0 (by show 2 * 0 + _ ≤ _; exact Nat.le_of_eq rfl) (hb hby d13_73) (by decide) (by decide) (show C + 0 + 0 ≤ 33 by omega) (show S + 0 + 0 ≤ 134 by omega) ?_
          intro v303 T303 L303 hQ303 X303
          obtain ⟨rfl, e303, rfl⟩ := hQ303
          refine own_viaW (F' := T303.setTop (mkF m 76 #[.val (.ref o), .val (.ref lst), .val (.int (own_dp cc i).toInt32), .val (.int (i).toInt32), .val (.ref (te i))] [(.int (own_dp cc i - 1).toInt32)])) (fun tz kz => kz) ?_
          refine own_viaW (F' := T303.setTop (mkF m 77 #[.val (.ref o), .val (.ref lst), .val (.int (own_dp cc i - 1).toInt32), .val (.int (i).toInt32), .val (.ref (te i))] [])) (fun tz kz => XS.istoreN X303.here hx rfl (hb hby d13_76) rfl (l' := #[.val (.ref o), .val (.ref lst), .val (.int (own_dp cc i - 1).toInt32), .val (.int (i).toInt32), .val (.ref (te i))]) rfl kz) ?_
          refine own_viaW (F' := T303.setTop (mkF m 78 #[.val (.ref o), .val (.ref lst), .val (.int (own_dp cc i - 1).toInt32), .val (.int (i).toInt32), .val (.ref (te i))] [(.ref o)])) (fun tz kz => XS.aloadN X303.here hx rfl (hb hby d13_77) rfl rfl kz) ?_
          obtain ⟨T304, X304, e304, s304⟩ := getF X303 hx hZ hown (host := "") (Or.inl (hw _ (List.mem_of_getElem? (i := 112) rfl))) Via.refl e303 Fd (g := (mkF m 78 #[.val (.ref o), .val (.ref lst), .val (.int (own_dp cc i - 1).toInt32), .val (.int (i).toInt32), .val (.ref (te i))] [(.ref o)])) rfl rfl (hb hby d13_78)
          refine own_viaW (F' := T304.setTop (mkF m 81 #[.val (.ref o), .val (.ref lst), .val (.int (own_dp cc i - 1).toInt32), .val (.int (i).toInt32), .val (.ref (te i))] [(.ref a16)])) s304 ?_
          refine own_viaW (F' := T304.setTop (mkF m 82 #[.val (.ref o), .val (.ref lst), .val (.int (own_dp cc i - 1).toInt32), .val (.int (i).toInt32), .val (.ref (te i))] [(.int (i).toInt32), (.ref a16)])) (fun tz kz => XS.iloadN X304.here hx rfl (hb hby d13_81) rfl kz) ?_
          refine own_viaW (F' := T304.setTop (mkF m 83 #[.val (.ref o), .val (.ref lst), .val (.int (own_dp cc i - 1).toInt32), .val (.int (i).toInt32), .val (.ref (te i))] [(.int (own_dp cc i - 1).toInt32), (.int (i).toInt32), (.ref a16)])) (fun tz kz => XS.iloadN X304.here hx rfl (hb hby d13_82) rfl kz) ?_
          obtain ⟨T305, h305, X305, e305, W305, s305⟩ := Ad.store X304 hx hZ e304 (j := i) rfl (by omega) (by omega) (g := (mkF m 83 #[.val (.ref o), .val (.ref lst), .val (.int (own_dp cc i - 1).toInt32), .val (.int (i).toInt32), .val (.ref (te i))] [(.int (own_dp cc i - 1).toInt32), (.int (i).toInt32), (.ref a16)])) rfl rfl (hb hby d13_83)
          have F305 : own_I Z h305 a16 (n + 1) (fun zz => if zz = i then own_dp cc i - 1 else φ zz) := Ad.set W305 (y := own_dp cc i - 1) rfl
          obtain ⟨y305, Y305⟩ : ∃ z : Nat → Nat, z = fun zz => if zz = i then own_dp cc i - 1 else φ zz := ⟨_, rfl⟩
          rw [← Y305] at F305
          have N305 := Fr.snoc X305 (Fr.app (Fr.app N1 (Fr.nil _)) (Fr.nil _)) G16
          refine own_viaW (F' := T305.setTop (mkF m 84 #[.val (.ref o), .val (.ref lst), .val (.int (own_dp cc i - 1).toInt32), .val (.int (i).toInt32), .val (.ref (te i))] [])) s305 ?_
          refine own_viaW (F' := T305.setTop (mkF m 86 #[.val (.ref o), .val (.ref lst), .val (.int (own_dp cc i - 1).toInt32), .val (.int (i).toInt32), .val (.ref (te i))] [(.ref (te i))])) (fun tz kz => XS.aload X305.here hx rfl (hb hby d13_84) rfl rfl kz) ?_
          have hk306 := Nat.le_trans hk ((Keep.refl h [a16]).wr W305 (Or.inl (List.mem_of_getElem? (i := 0) rfl))).1
          have c307 := CH.trans (CHr.wr W305 (Ad.safe hZ.alike) CH.1)
          obtain ⟨a308, T308, h308, X308, e308, E308, hS, hZ, hown, R308, c308, i308, j308, s308⟩ := own_ldcW X305 hx hZ hown (hw _ (List.mem_of_getElem? (i := 159) rfl)) wS e305 hS hk306 hEL (List.mem_of_getElem? (i := 2) rfl) c307 (ch := 40) own_t40 (by decide) (g := (mkF m 86 #[.val (.ref o), .val (.ref lst), .val (.int (own_dp cc i - 1).toInt32), .val (.int (i).toInt32), .val (.ref (te i))] [(.ref (te i))])) rfl (hb hby d13_86) (show C + 0 + 0 + 2 ≤ 33 by omega) (show S + 0 + 0 + (4 + 4) ≤ 134 by omega)
          refine own_viaW (F' := T308.setTop (mkF m 88 #[.val (.ref o), .val (.ref lst), .val (.int (own_dp cc i - 1).toInt32), .val (.int (i).toInt32), .val (.ref (te i))] [(.ref a308), (.ref (te i))])) s308 ?_
          have f309 := (own_LS.ext hw (own_LS.wr hw LSx W305 (Or.inr Ad.arr)) E308)
          have tk310 := own_LS.tok f309 hin
          have f311 := ((Ox.wr W305 G16).ext E308)
          refine own_callVW X308 hx hZ (own_kis l Z az hw (te i) (own_kd kS kW (cc i)) (own_ch (cc i)) a308 40 kS 0 z hz ((own_sy40 hx8 hkk).trans (if_neg (by omega))) (own_ch_lt _) (by decide) h308 n0 tk310 R308 CS SY f311) hown tk310.exa (hw _ (List.mem_of_getElem? (i := 138) rfl)) (hw _ (List.mem_of_getElem? (i := 139) rfl)) (hw _ (List.mem_of_getElem? (i := 141) rfl)) (hw _ (List.mem_of_getElem? (i := 140) rfl)) (hw _ (List.mem_of_getElem? (i := 8) rfl)) (hw _ (List.mem_of_getElem? (i := 142) rfl)) (notFace_of_selects (args := #[]) (mvT hZ (hw _ (List.mem_of_getElem? (i := 141) rfl)))) (by decide) e308 (g := (mkF m 88 #[.val (.ref o), .val (.ref lst), .val (.int (own_dp cc i - 1).toInt32), .val (.int (i).toInt32), .val (.ref (te i))] [(.ref a308), (.ref (te i))])) rfl (by rw [hml]; rfl) (argsL := [(.ref a308)]) (rest := []) rfl (lenOf own_pd12 rfl) rfl 0 (by show 2 * 0 + _ ≤ _; exact Nat.le_of_eq rfl) (hb hby d13_88) (by decide) (by decide) (show C + 0 + 0 + 2 + 0 ≤ 33 by omega) (show S + 0 + 0 + (4 + 4) + 0 ≤ 134 by omega) ?_
          intro v312 T312 L312 hQ312 X312
          obtain ⟨rfl, e312, rfl⟩ := hQ312
          refine own_viaW (F' := T312.setTop (mkF m 91 #[.val (.ref o), .val (.ref lst), .val (.int (own_dp cc i - 1).toInt32), .val (.int (i).toInt32), .val (.ref (te i))] [(.int (0 : Int32))])) (fun tz kz => kz) ?_
          refine own_viaW (F' := T312.setTop (mkF m 94 #[.val (.ref o), .val (.ref lst), .val (.int (own_dp cc i - 1).toInt32), .val (.int (i).toInt32), .val (.ref (te i))] [])) (fun tz kz => XS.ifNo X312.here hx rfl (hb hby d13_91) rfl (XT.i0_ne_f (by decide)) kz) ?_
          refine own_viaW (F' := T312.setTop (mkF m 96 #[.val (.ref o), .val (.ref lst), .val (.int (own_dp cc i - 1).toInt32), .val (.int (i).toInt32), .val (.ref (te i))] [(.ref (te i))])) (fun tz kz => XS.aload X312.here hx rfl (hb hby d13_94) rfl rfl kz) ?_
          obtain ⟨a313, T313, h313, X313, e313, E313, hS, hZ, hown, R313, c313, i313, j313, s313⟩ := own_ldcW X312 hx hZ hown (hw _ (List.mem_of_getElem? (i := 171) rfl)) wS e312 hS (Nat.le_refl _) hEL (List.mem_of_getElem? (i := 3) rfl) c308 (ch := 91) own_t91 (by decide) (g := (mkF m 96 #[.val (.ref o), .val (.ref lst), .val (.int (own_dp cc i - 1).toInt32), .val (.int (i).toInt32), .val (.ref (te i))] [(.ref (te i))])) rfl (hb hby d13_96) (show C + 0 + 0 + 2 + 0 + 2 ≤ 33 by omega) (show S + 0 + 0 + (4 + 4) + 0 + (4 + 4) ≤ 134 by omega)
          refine own_viaW (F' := T313.setTop (mkF m 98 #[.val (.ref o), .val (.ref lst), .val (.int (own_dp cc i - 1).toInt32), .val (.int (i).toInt32), .val (.ref (te i))] [(.ref a313), (.ref (te i))])) s313 ?_
          have f314 := (own_LS.ext hw f309 E313)
          have tk315 := own_LS.tok f314 hin
          have f316 := (f311.ext E313)
          refine own_callVW X313 hx hZ (own_kis l Z az hw (te i) (own_kd kS kW (cc i)) (own_ch (cc i)) a313 91 kS 0 z hz ((own_sy91 hx8 hkk).trans (if_neg (by omega))) (own_ch_lt _) (by decide) h313 n0 tk315 R313 CS SY f316) hown tk315.exa (hw _ (List.mem_of_getElem? (i := 138) rfl)) (hw _ (List.mem_of_getElem? (i := 139) rfl)) (hw _ (List.mem_of_getElem? (i := 141) rfl)) (hw _ (List.mem_of_getElem? (i := 140) rfl)) (hw _ (List.mem_of_getElem? (i := 8) rfl)) (hw _ (List.mem_of_getElem? (i := 142) rfl)) (notFace_of_selects (args := #[]) (mvT hZ (hw _ (List.mem_of_getElem? (i := 141) rfl)))) (by decide) e313 (g := (mkF m 98 #[.val (.ref o), .val (.ref lst), .val (.int (own_dp cc i - 1).toInt32), .val (.int (i).toInt32), .val (.ref (te i))] [(.ref a313), (.ref (te i))])) rfl (by rw [hml]; rfl) (argsL := [(.ref a313)]) (rest := []) rfl (lenOf own_pd12 rfl) rfl 0 (by show 2 * 0 + _ ≤ _; exact Nat.le_of_eq rfl) (hb hby d13_98) (by decide) (by decide) (show C + 0 + 0 + 2 + 0 + 2 + 0 ≤ 33 by omega) (show S + 0 + 0 + (4 + 4) + 0 + (4 + 4) + 0 ≤ 134 by omega) ?_
          intro v317 T317 L317 hQ317 X317
          obtain ⟨rfl, e317, rfl⟩ := hQ317
          refine own_viaW (F' := T317.setTop (mkF m 101 #[.val (.ref o), .val (.ref lst), .val (.int (own_dp cc i - 1).toInt32), .val (.int (i).toInt32), .val (.ref (te i))] [(.int (0 : Int32))])) (fun tz kz => kz) ?_
          refine own_viaW (F' := T317.setTop (mkF m 107 #[.val (.ref o), .val (.ref lst), .val (.int (own_dp cc i - 1).toInt32), .val (.int (i).toInt32), .val (.ref (te i))] [])) (fun tz kz => XS.ifYes X317.here hx rfl (pc0 := 101) (pc' := 107) rfl (hb hby d13_101) rfl (XT.i0_eq_t (by decide)) (by decide) (by decide) kz) ?_
          refine own_viaW (F' := T317.setTop (mkF m 110 #[.val (.ref o), .val (.ref lst), .val (.int (own_dp cc i - 1).toInt32), .val (.int (i + 1).toInt32), .val (.ref (te i))] [])) (fun tz kz => XT.iincV X317.here hx rfl (1 : Int32) (hb hby d13_107) (by decide) rfl (l' := #[.val (.ref o), .val (.ref lst), .val (.int (own_dp cc i - 1).toInt32), .val (.int (i + 1).toInt32), .val (.ref (te i))]) (by rw [own_succ]; rfl) kz) ?_
          refine own_viaW (F' := T317.setTop (mkF m 27 #[.val (.ref o), .val (.ref lst), .val (.int (own_dp cc i - 1).toInt32), .val (.int (i + 1).toInt32), .val (.ref (te i))] [])) (fun tz kz => XS.goto X317.here hx rfl (pc0 := 110) (pc' := 27) rfl (hb hby d13_110) (by decide) (by decide) kz) ?_
          have ho : ¬ own_op (cc i) = true := own_op_f (by omega)
          have hcl : own_cl (cc i) = true := own_cl_t (by omega)
          have hd1 : own_dp cc (i + 1) = own_dp cc i - 1 := by show (if own_op (cc i) = true then own_dp cc i + 1 else if own_cl (cc i) = true then own_dp cc i - 1 else own_dp cc i) = _; rw [if_neg ho, if_pos hcl]
          have hd2 : own_d cc i = own_dp cc i - 1 := by unfold own_d; rw [if_pos hcl]
          have f318 := (own_Str.keep hw (own_Str.keep hw (own_Str.keep hw S41 (Keep.of_wr W305) (allS (own_NT.ns (own_Far.nt (Or.inr Ad.arr))) all0)) ((Keep.refl _ []).ext E308) all0) ((Keep.refl _ []).ext E313) all0)
          have f319 := (((Eo.wr W305).ext E308).ext E313)
          have f320 := (((Fd.other W305 (Or.inl (own_ne (by omega)))).ext E308).ext E313)
          have f321 := ((F305.ext E308).ext E313)
          have zz := ih (i + 1) (by omega) _ T317 h313 _ y305 a41 _ _ _ (.val (.ref (te i))) (Or.inr ⟨(show C + 0 + 0 + 2 + 0 + 2 + 0 ≤ 3 + 6 * (i + 1) by omega), (show S + 0 + 0 + (4 + 4) + 0 + (4 + 4) + 0 ≤ 14 + 24 * (i + 1) by omega), f318, (j313 _ _ _ (j308 _ _ _ Lt))⟩) (Or.inr ⟨_, rfl, rfl⟩) X317 e317 hS (Nat.le_refl _) hZ hown c313 (Fr.app (Fr.app N305 (Fr.nil _)) (Fr.nil _)) (((((Keep.refl h0 [o]).trans Kp (allS (Or.inl (List.mem_of_getElem? (i := 0) rfl)) all0)).wr W305 (Or.inr B16)).ext E308).ext E313) f319 f320 f321 (fun x hx => by rw [Y305]; show (if x = i then own_dp cc i - 1 else φ x) = _; exact if q : x = i then (by rw [if_pos q, q, hd2]) else (by rw [if_neg q]; exact hφ x (by omega))) f314 f316
          rw [hd1] at zz
          exact zz
        · have tk401 := own_LS.tok LSx hin
          refine own_callVW X hx hZ (own_kis l Z az hw (te i) (own_kd kS kW (cc i)) (own_ch (cc i)) a41 41 kS 0 z hz ((own_sy41 hx8 hkk).trans (if_neg (by omega))) (own_ch_lt _) (by decide) h n0 tk401 S41 CS SY Ox) hown tk401.exa (hw _ (List.mem_of_getElem? (i := 138) rfl)) (hw _ (List.mem_of_getElem? (i := 139) rfl)) (hw _ (List.mem_of_getElem? (i := 141) rfl)) (hw _ (List.mem_of_getElem? (i := 140) rfl)) (hw _ (List.mem_of_getElem? (i := 8) rfl)) (hw _ (List.mem_of_getElem? (i := 142) rfl)) (notFace_of_selects (args := #[]) (mvT hZ (hw _ (List.mem_of_getElem? (i := 141) rfl)))) (by decide) e1 (g := (mkF m 53 #[.val (.ref o), .val (.ref lst), .val (.int (own_dp cc i).toInt32), .val (.int (i).toInt32), .val (.ref (te i))] [(.ref a41), (.ref (te i))])) rfl (by rw [hml]; rfl) (argsL := [(.ref a41)]) (rest := []) rfl (lenOf own_pd12 rfl) rfl 0 (by show 2 * 0 + _ ≤ _; exact Nat.le_of_eq rfl) (hb hby d13_53) (by decide) (by decide) (show C + 0 ≤ 33 by omega) (show S + 0 ≤ 134 by omega) ?_
          intro v402 T402 L402 hQ402 X402
          obtain ⟨rfl, e402, rfl⟩ := hQ402
          refine own_viaW (F' := T402.setTop (mkF m 56 #[.val (.ref o), .val (.ref lst), .val (.int (own_dp cc i).toInt32), .val (.int (i).toInt32), .val (.ref (te i))] [(.int (0 : Int32))])) (fun tz kz => kz) ?_
          refine own_viaW (F' := T402.setTop (mkF m 59 #[.val (.ref o), .val (.ref lst), .val (.int (own_dp cc i).toInt32), .val (.int (i).toInt32), .val (.ref (te i))] [])) (fun tz kz => XS.ifNo X402.here hx rfl (hb hby d13_56) rfl (XT.i0_ne_f (by decide)) kz) ?_
          refine own_viaW (F' := T402.setTop (mkF m 61 #[.val (.ref o), .val (.ref lst), .val (.int (own_dp cc i).toInt32), .val (.int (i).toInt32), .val (.ref (te i))] [(.ref (te i))])) (fun tz kz => XS.aload X402.here hx rfl (hb hby d13_59) rfl rfl kz) ?_
          obtain ⟨a403, T403, h403, X403, e403, E403, hS, hZ, hown, R403, c403, i403, j403, s403⟩ := own_ldcW X402 hx hZ hown (hw _ (List.mem_of_getElem? (i := 158) rfl)) wS e402 hS hk hEL (List.mem_of_getElem? (i := 1) rfl) CH (ch := 93) own_t93 (by decide) (g := (mkF m 61 #[.val (.ref o), .val (.ref lst), .val (.int (own_dp cc i).toInt32), .val (.int (i).toInt32), .val (.ref (te i))] [(.ref (te i))])) rfl (hb hby d13_61) (show C + 0 + 2 ≤ 33 by omega) (show S + 0 + (4 + 4) ≤ 134 by omega)
          refine own_viaW (F' := T403.setTop (mkF m 63 #[.val (.ref o), .val (.ref lst), .val (.int (own_dp cc i).toInt32), .val (.int (i).toInt32), .val (.ref (te i))] [(.ref a403), (.ref (te i))])) s403 ?_
          have f404 := (own_LS.ext hw LSx E403)
          have tk405 := own_LS.tok f404 hin
          have f406 := (Ox.ext E403)
          refine own_callVW X403 hx hZ (own_kis l Z az hw (te i) (own_kd kS kW (cc i)) (own_ch (cc i)) a403 93 kS 1 z hz ((own_sy93 hx8 hkk).trans (if_pos (by omega))) (own_ch_lt _) (by decide) h403 n0 tk405 R403 CS SY f406) hown tk405.exa (hw _ (List.mem_of_getElem? (i := 138) rfl)) (hw _ (List.mem_of_getElem? (i := 139) rfl)) (hw _ (List.mem_of_getElem? (i := 141) rfl)) (hw _ (List.mem_of_getElem? (i := 140) rfl)) (hw _ (List.mem_of_getElem? (i := 8) rfl)) (hw _ (List.mem_of_getElem? (i := 142) rfl)) (notFace_of_selects (args := #[]) (mvT hZ (hw _ (List.mem_of_getElem? (i := 141) rfl)))) (by decide) e403 (g := (mkF m 63 #[.val (.ref o), .val (.ref lst), .val (.int (own_dp cc i).toInt32), .val (.int (i).toInt32), .val (.ref (te i))] [(.ref a403), (.ref (te i))])) rfl (by rw [hml]; rfl) (argsL := [(.ref a403)]) (rest := []) rfl (lenOf own_pd12 rfl) rfl 0 (by show 2 * 0 + _ ≤ _; exact Nat.le_of_eq rfl) (hb hby d13_63) (by decide) (by decide) (show C + 0 + 2 + 0 ≤ 33 by omega) (show S + 0 + (4 + 4) + 0 ≤ 134 by omega) ?_
          intro v407 T407 L407 hQ407 X407
          obtain ⟨rfl, e407, rfl⟩ := hQ407
          refine own_viaW (F' := T407.setTop (mkF m 66 #[.val (.ref o), .val (.ref lst), .val (.int (own_dp cc i).toInt32), .val (.int (i).toInt32), .val (.ref (te i))] [(.int (1 : Int32))])) (fun tz kz => kz) ?_
          refine own_viaW (F' := T407.setTop (mkF m 69 #[.val (.ref o), .val (.ref lst), .val (.int (own_dp cc i).toInt32), .val (.int (i).toInt32), .val (.ref (te i))] [])) (fun tz kz => XS.ifNo X407.here hx rfl (hb hby d13_66) rfl (XT.i0_eq_f (by decide)) kz) ?_
          refine own_viaW (F' := T407.setTop (mkF m 70 #[.val (.ref o), .val (.ref lst), .val (.int (own_dp cc i).toInt32), .val (.int (i).toInt32), .val (.ref (te i))] [(.int (0 : Int32))])) (fun tz kz => XT.iconstV X407.here hx rfl (0 : Int32) (hb hby d13_69) (by decide) kz) ?_
          refine own_viaW (F' := T407.setTop (mkF m 71 #[.val (.ref o), .val (.ref lst), .val (.int (own_dp cc i).toInt32), .val (.int (i).toInt32), .val (.ref (te i))] [(.int (own_dp cc i).toInt32), (.int (0 : Int32))])) (fun tz kz => XS.iloadN X407.here hx rfl (hb hby d13_70) rfl kz) ?_
          refine own_viaW (F' := T407.setTop (mkF m 72 #[.val (.ref o), .val (.ref lst), .val (.int (own_dp cc i).toInt32), .val (.int (i).toInt32), .val (.ref (te i))] [(.int (1 : Int32)), (.int (own_dp cc i).toInt32), (.int (0 : Int32))])) (fun tz kz => XT.iconstV X407.here hx rfl (1 : Int32) (hb hby d13_71) (by decide) kz) ?_
          refine own_viaW (F' := T407.setTop (mkF m 73 #[.val (.ref o), .val (.ref lst), .val (.int (own_dp cc i).toInt32), .val (.int (i).toInt32), .val (.ref (te i))] [(.int ((own_dp cc i).toInt32 - 1)), (.int (0 : Int32))])) (fun tz kz => XS.isub X407.here hx rfl (hb hby d13_72) rfl kz) ?_
          refine own_callSW X407 hx hZ (own_kmx l Z az hw 0 ((own_dp cc i).toInt32 - 1) ((own_dp cc i - 1).toInt32) (own_maxd (by omega)) h403 n0) hown (hw _ (List.mem_of_getElem? (i := 179) rfl)) (hw _ (List.mem_of_getElem? (i := 88) rfl)) (hw _ (List.mem_of_getElem? (i := 89) rfl)) (hw _ (List.mem_of_getElem? (i := 90) rfl)) (by decide) e407 (g := (mkF m 73 #[.val (.ref o), .val (.ref lst), .val (.int (own_dp cc i).toInt32), .val (.int (i).toInt32), .val (.ref (te i))] [(.int ((own_dp cc i).toInt32 - 1)), (.int (0 : Int32))])) rfl (by rw [hml]; rfl) (argsL := [(.int (0 : Int32)), (.int ((own_dp cc i).toInt32 - 1))]) (rest := []) rfl (lenOf own_pd2 rfl) rfl 0 (by show 2 * 0 + _ ≤ _; exact Nat.le_of_eq rfl) (hb hby d13_73) (by decide) (by decide) (show C + 0 + 2 + 0 + 0 ≤ 33 by omega) (show S + 0 + (4 + 4) + 0 + 0 ≤ 134 by omega) ?_
          intro v408 T408 L408 hQ408 X408
          obtain ⟨rfl, e408, rfl⟩ := hQ408
          refine own_viaW (F' := T408.setTop (mkF m 76 #[.val (.ref o), .val (.ref lst), .val (.int (own_dp cc i).toInt32), .val (.int (i).toInt32), .val (.ref (te i))] [(.int (own_dp cc i - 1).toInt32)])) (fun tz kz => kz) ?_
          refine own_viaW (F' := T408.setTop (mkF m 77 #[.val (.ref o), .val (.ref lst), .val (.int (own_dp cc i - 1).toInt32), .val (.int (i).toInt32), .val (.ref (te i))] [])) (fun tz kz => XS.istoreN X408.here hx rfl (hb hby d13_76) rfl (l' := #[.val (.ref o), .val (.ref lst), .val (.int (own_dp cc i - 1).toInt32), .val (.int (i).toInt32), .val (.ref (te i))]) rfl kz) ?_
          refine own_viaW (F' := T408.setTop (mkF m 78 #[.val (.ref o), .val (.ref lst), .val (.int (own_dp cc i - 1).toInt32), .val (.int (i).toInt32), .val (.ref (te i))] [(.ref o)])) (fun tz kz => XS.aloadN X408.here hx rfl (hb hby d13_77) rfl rfl kz) ?_
          have f409 := (Fd.ext E403)
          obtain ⟨T410, X410, e410, s410⟩ := getF X408 hx hZ hown (host := "") (Or.inl (hw _ (List.mem_of_getElem? (i := 112) rfl))) Via.refl e408 f409 (g := (mkF m 78 #[.val (.ref o), .val (.ref lst), .val (.int (own_dp cc i - 1).toInt32), .val (.int (i).toInt32), .val (.ref (te i))] [(.ref o)])) rfl rfl (hb hby d13_78)
          refine own_viaW (F' := T410.setTop (mkF m 81 #[.val (.ref o), .val (.ref lst), .val (.int (own_dp cc i - 1).toInt32), .val (.int (i).toInt32), .val (.ref (te i))] [(.ref a16)])) s410 ?_
          refine own_viaW (F' := T410.setTop (mkF m 82 #[.val (.ref o), .val (.ref lst), .val (.int (own_dp cc i - 1).toInt32), .val (.int (i).toInt32), .val (.ref (te i))] [(.int (i).toInt32), (.ref a16)])) (fun tz kz => XS.iloadN X410.here hx rfl (hb hby d13_81) rfl kz) ?_
          refine own_viaW (F' := T410.setTop (mkF m 83 #[.val (.ref o), .val (.ref lst), .val (.int (own_dp cc i - 1).toInt32), .val (.int (i).toInt32), .val (.ref (te i))] [(.int (own_dp cc i - 1).toInt32), (.int (i).toInt32), (.ref a16)])) (fun tz kz => XS.iloadN X410.here hx rfl (hb hby d13_82) rfl kz) ?_
          have f411 := (Ad.ext E403)
          obtain ⟨T412, h412, X412, e412, W412, s412⟩ := f411.store X410 hx hZ e410 (j := i) rfl (by omega) (by omega) (g := (mkF m 83 #[.val (.ref o), .val (.ref lst), .val (.int (own_dp cc i - 1).toInt32), .val (.int (i).toInt32), .val (.ref (te i))] [(.int (own_dp cc i - 1).toInt32), (.int (i).toInt32), (.ref a16)])) rfl rfl (hb hby d13_83)
          have F412 : own_I Z h412 a16 (n + 1) (fun zz => if zz = i then own_dp cc i - 1 else φ zz) := f411.set W412 (y := own_dp cc i - 1) rfl
          obtain ⟨y412, Y412⟩ : ∃ z : Nat → Nat, z = fun zz => if zz = i then own_dp cc i - 1 else φ zz := ⟨_, rfl⟩
          rw [← Y412] at F412
          have N412 := Fr.snoc X412 (Fr.app (Fr.app (Fr.app N1 (Fr.nil _)) (Fr.nil _)) (Fr.nil _)) G16
          refine own_viaW (F' := T412.setTop (mkF m 84 #[.val (.ref o), .val (.ref lst), .val (.int (own_dp cc i - 1).toInt32), .val (.int (i).toInt32), .val (.ref (te i))] [])) s412 ?_
          refine own_viaW (F' := T412.setTop (mkF m 86 #[.val (.ref o), .val (.ref lst), .val (.int (own_dp cc i - 1).toInt32), .val (.int (i).toInt32), .val (.ref (te i))] [(.ref (te i))])) (fun tz kz => XS.aload X412.here hx rfl (hb hby d13_84) rfl rfl kz) ?_
          have hk413 := ((Keep.refl h403 [a16]).wr W412 (Or.inl (List.mem_of_getElem? (i := 0) rfl))).1
          have c414 := c403.trans (CHr.wr W412 (f411.safe hZ.alike) c403.1)
          obtain ⟨a415, T415, h415, X415, e415, E415, hS, hZ, hown, R415, c415, i415, j415, s415⟩ := own_ldcW X412 hx hZ hown (hw _ (List.mem_of_getElem? (i := 159) rfl)) wS e412 hS hk413 hEL (List.mem_of_getElem? (i := 2) rfl) c414 (ch := 40) own_t40 (by decide) (g := (mkF m 86 #[.val (.ref o), .val (.ref lst), .val (.int (own_dp cc i - 1).toInt32), .val (.int (i).toInt32), .val (.ref (te i))] [(.ref (te i))])) rfl (hb hby d13_86) (show C + 0 + 2 + 0 + 0 + 2 ≤ 33 by omega) (show S + 0 + (4 + 4) + 0 + 0 + (4 + 4) ≤ 134 by omega)
          refine own_viaW (F' := T415.setTop (mkF m 88 #[.val (.ref o), .val (.ref lst), .val (.int (own_dp cc i - 1).toInt32), .val (.int (i).toInt32), .val (.ref (te i))] [(.ref a415), (.ref (te i))])) s415 ?_
          have f416 := (own_LS.ext hw (own_LS.wr hw f404 W412 (Or.inr f411.arr)) E415)
          have tk417 := own_LS.tok f416 hin
          have f418 := ((f406.wr W412 G16).ext E415)
          refine own_callVW X415 hx hZ (own_kis l Z az hw (te i) (own_kd kS kW (cc i)) (own_ch (cc i)) a415 40 kS 0 z hz ((own_sy40 hx8 hkk).trans (if_neg (by omega))) (own_ch_lt _) (by decide) h415 n0 tk417 R415 CS SY f418) hown tk417.exa (hw _ (List.mem_of_getElem? (i := 138) rfl)) (hw _ (List.mem_of_getElem? (i := 139) rfl)) (hw _ (List.mem_of_getElem? (i := 141) rfl)) (hw _ (List.mem_of_getElem? (i := 140) rfl)) (hw _ (List.mem_of_getElem? (i := 8) rfl)) (hw _ (List.mem_of_getElem? (i := 142) rfl)) (notFace_of_selects (args := #[]) (mvT hZ (hw _ (List.mem_of_getElem? (i := 141) rfl)))) (by decide) e415 (g := (mkF m 88 #[.val (.ref o), .val (.ref lst), .val (.int (own_dp cc i - 1).toInt32), .val (.int (i).toInt32), .val (.ref (te i))] [(.ref a415), (.ref (te i))])) rfl (by rw [hml]; rfl) (argsL := [(.ref a415)]) (rest := []) rfl (lenOf own_pd12 rfl) rfl 0 (by show 2 * 0 + _ ≤ _; exact Nat.le_of_eq rfl) (hb hby d13_88) (by decide) (by decide) (show C + 0 + 2 + 0 + 0 + 2 + 0 ≤ 33 by omega) (show S + 0 + (4 + 4) + 0 + 0 + (4 + 4) + 0 ≤ 134 by omega) ?_
          intro v419 T419 L419 hQ419 X419
          obtain ⟨rfl, e419, rfl⟩ := hQ419
          refine own_viaW (F' := T419.setTop (mkF m 91 #[.val (.ref o), .val (.ref lst), .val (.int (own_dp cc i - 1).toInt32), .val (.int (i).toInt32), .val (.ref (te i))] [(.int (0 : Int32))])) (fun tz kz => kz) ?_
          refine own_viaW (F' := T419.setTop (mkF m 94 #[.val (.ref o), .val (.ref lst), .val (.int (own_dp cc i - 1).toInt32), .val (.int (i).toInt32), .val (.ref (te i))] [])) (fun tz kz => XS.ifNo X419.here hx rfl (hb hby d13_91) rfl (XT.i0_ne_f (by decide)) kz) ?_
          refine own_viaW (F' := T419.setTop (mkF m 96 #[.val (.ref o), .val (.ref lst), .val (.int (own_dp cc i - 1).toInt32), .val (.int (i).toInt32), .val (.ref (te i))] [(.ref (te i))])) (fun tz kz => XS.aload X419.here hx rfl (hb hby d13_94) rfl rfl kz) ?_
          obtain ⟨a420, T420, h420, X420, e420, E420, hS, hZ, hown, R420, c420, i420, j420, s420⟩ := own_ldcW X419 hx hZ hown (hw _ (List.mem_of_getElem? (i := 171) rfl)) wS e419 hS (Nat.le_refl _) hEL (List.mem_of_getElem? (i := 3) rfl) c415 (ch := 91) own_t91 (by decide) (g := (mkF m 96 #[.val (.ref o), .val (.ref lst), .val (.int (own_dp cc i - 1).toInt32), .val (.int (i).toInt32), .val (.ref (te i))] [(.ref (te i))])) rfl (hb hby d13_96) (show C + 0 + 2 + 0 + 0 + 2 + 0 + 2 ≤ 33 by omega) (show S + 0 + (4 + 4) + 0 + 0 + (4 + 4) + 0 + (4 + 4) ≤ 134 by omega)
          refine own_viaW (F' := T420.setTop (mkF m 98 #[.val (.ref o), .val (.ref lst), .val (.int (own_dp cc i - 1).toInt32), .val (.int (i).toInt32), .val (.ref (te i))] [(.ref a420), (.ref (te i))])) s420 ?_
          have f421 := (own_LS.ext hw f416 E420)
          have tk422 := own_LS.tok f421 hin
          have f423 := (f418.ext E420)
          refine own_callVW X420 hx hZ (own_kis l Z az hw (te i) (own_kd kS kW (cc i)) (own_ch (cc i)) a420 91 kS 0 z hz ((own_sy91 hx8 hkk).trans (if_neg (by omega))) (own_ch_lt _) (by decide) h420 n0 tk422 R420 CS SY f423) hown tk422.exa (hw _ (List.mem_of_getElem? (i := 138) rfl)) (hw _ (List.mem_of_getElem? (i := 139) rfl)) (hw _ (List.mem_of_getElem? (i := 141) rfl)) (hw _ (List.mem_of_getElem? (i := 140) rfl)) (hw _ (List.mem_of_getElem? (i := 8) rfl)) (hw _ (List.mem_of_getElem? (i := 142) rfl)) (notFace_of_selects (args := #[]) (mvT hZ (hw _ (List.mem_of_getElem? (i := 141) rfl)))) (by decide) e420 (g := (mkF m 98 #[.val (.ref o), .val (.ref lst), .val (.int (own_dp cc i - 1).toInt32), .val (.int (i).toInt32), .val (.ref (te i))] [(.ref a420), (.ref (te i))])) rfl (by rw [hml]; rfl) (argsL := [(.ref a420)]) (rest := []) rfl (lenOf own_pd12 rfl) rfl 0 (by show 2 * 0 + _ ≤ _; exact Nat.le_of_eq rfl) (hb hby d13_98) (by decide) (by decide) (show C + 0 + 2 + 0 + 0 + 2 + 0 + 2 + 0 ≤ 33 by omega) (show S + 0 + (4 + 4) + 0 + 0 + (4 + 4) + 0 + (4 + 4) + 0 ≤ 134 by omega) ?_
          intro v424 T424 L424 hQ424 X424
          obtain ⟨rfl, e424, rfl⟩ := hQ424
          refine own_viaW (F' := T424.setTop (mkF m 101 #[.val (.ref o), .val (.ref lst), .val (.int (own_dp cc i - 1).toInt32), .val (.int (i).toInt32), .val (.ref (te i))] [(.int (0 : Int32))])) (fun tz kz => kz) ?_
          refine own_viaW (F' := T424.setTop (mkF m 107 #[.val (.ref o), .val (.ref lst), .val (.int (own_dp cc i - 1).toInt32), .val (.int (i).toInt32), .val (.ref (te i))] [])) (fun tz kz => XS.ifYes X424.here hx rfl (pc0 := 101) (pc' := 107) rfl (hb hby d13_101) rfl (XT.i0_eq_t (by decide)) (by decide) (by decide) kz) ?_
          refine own_viaW (F' := T424.setTop (mkF m 110 #[.val (.ref o), .val (.ref lst), .val (.int (own_dp cc i - 1).toInt32), .val (.int (i + 1).toInt32), .val (.ref (te i))] [])) (fun tz kz => XT.iincV X424.here hx rfl (1 : Int32) (hb hby d13_107) (by decide) rfl (l' := #[.val (.ref o), .val (.ref lst), .val (.int (own_dp cc i - 1).toInt32), .val (.int (i + 1).toInt32), .val (.ref (te i))]) (by rw [own_succ]; rfl) kz) ?_
          refine own_viaW (F' := T424.setTop (mkF m 27 #[.val (.ref o), .val (.ref lst), .val (.int (own_dp cc i - 1).toInt32), .val (.int (i + 1).toInt32), .val (.ref (te i))] [])) (fun tz kz => XS.goto X424.here hx rfl (pc0 := 110) (pc' := 27) rfl (hb hby d13_110) (by decide) (by decide) kz) ?_
          have ho : ¬ own_op (cc i) = true := own_op_f (by omega)
          have hcl : own_cl (cc i) = true := own_cl_t (by omega)
          have hd1 : own_dp cc (i + 1) = own_dp cc i - 1 := by show (if own_op (cc i) = true then own_dp cc i + 1 else if own_cl (cc i) = true then own_dp cc i - 1 else own_dp cc i) = _; rw [if_neg ho, if_pos hcl]
          have hd2 : own_d cc i = own_dp cc i - 1 := by unfold own_d; rw [if_pos hcl]
          have f425 := (own_Str.keep hw (own_Str.keep hw (own_Str.keep hw (own_Str.keep hw S41 ((Keep.refl _ []).ext E403) all0) (Keep.of_wr W412) (allS (own_NT.ns (own_Far.nt (Or.inr f411.arr))) all0)) ((Keep.refl _ []).ext E415) all0) ((Keep.refl _ []).ext E420) all0)
          have f426 := ((((Eo.ext E403).wr W412).ext E415).ext E420)
          have f427 := (((f409.other W412 (Or.inl (own_ne (by omega)))).ext E415).ext E420)
          have f428 := ((F412.ext E415).ext E420)
          have zz := ih (i + 1) (by omega) _ T424 h420 _ y412 a41 _ _ _ (.val (.ref (te i))) (Or.inr ⟨(show C + 0 + 2 + 0 + 0 + 2 + 0 + 2 + 0 ≤ 3 + 6 * (i + 1) by omega), (show S + 0 + (4 + 4) + 0 + 0 + (4 + 4) + 0 + (4 + 4) + 0 ≤ 14 + 24 * (i + 1) by omega), f425, (j420 _ _ _ (j415 _ _ _ (j403 _ _ _ Lt)))⟩) (Or.inr ⟨_, rfl, rfl⟩) X424 e424 hS (Nat.le_refl _) hZ hown c420 (Fr.app (Fr.app N412 (Fr.nil _)) (Fr.nil _)) ((((((Keep.refl h0 [o]).trans Kp (allS (Or.inl (List.mem_of_getElem? (i := 0) rfl)) all0)).ext E403).wr W412 (Or.inr B16)).ext E415).ext E420) f426 f427 f428 (fun x hx => by rw [Y412]; show (if x = i then own_dp cc i - 1 else φ x) = _; exact if q : x = i then (by rw [if_pos q, q, hd2]) else (by rw [if_neg q]; exact hφ x (by omega))) f421 f423
          rw [hd1] at zz
          exact zz
        · have tk501 := own_LS.tok LSx hin
          refine own_callVW X hx hZ (own_kis l Z az hw (te i) (own_kd kS kW (cc i)) (own_ch (cc i)) a41 41 kS 0 z hz ((own_sy41 hx8 hkk).trans (if_neg (by omega))) (own_ch_lt _) (by decide) h n0 tk501 S41 CS SY Ox) hown tk501.exa (hw _ (List.mem_of_getElem? (i := 138) rfl)) (hw _ (List.mem_of_getElem? (i := 139) rfl)) (hw _ (List.mem_of_getElem? (i := 141) rfl)) (hw _ (List.mem_of_getElem? (i := 140) rfl)) (hw _ (List.mem_of_getElem? (i := 8) rfl)) (hw _ (List.mem_of_getElem? (i := 142) rfl)) (notFace_of_selects (args := #[]) (mvT hZ (hw _ (List.mem_of_getElem? (i := 141) rfl)))) (by decide) e1 (g := (mkF m 53 #[.val (.ref o), .val (.ref lst), .val (.int (own_dp cc i).toInt32), .val (.int (i).toInt32), .val (.ref (te i))] [(.ref a41), (.ref (te i))])) rfl (by rw [hml]; rfl) (argsL := [(.ref a41)]) (rest := []) rfl (lenOf own_pd12 rfl) rfl 0 (by show 2 * 0 + _ ≤ _; exact Nat.le_of_eq rfl) (hb hby d13_53) (by decide) (by decide) (show C + 0 ≤ 33 by omega) (show S + 0 ≤ 134 by omega) ?_
          intro v502 T502 L502 hQ502 X502
          obtain ⟨rfl, e502, rfl⟩ := hQ502
          refine own_viaW (F' := T502.setTop (mkF m 56 #[.val (.ref o), .val (.ref lst), .val (.int (own_dp cc i).toInt32), .val (.int (i).toInt32), .val (.ref (te i))] [(.int (0 : Int32))])) (fun tz kz => kz) ?_
          refine own_viaW (F' := T502.setTop (mkF m 59 #[.val (.ref o), .val (.ref lst), .val (.int (own_dp cc i).toInt32), .val (.int (i).toInt32), .val (.ref (te i))] [])) (fun tz kz => XS.ifNo X502.here hx rfl (hb hby d13_56) rfl (XT.i0_ne_f (by decide)) kz) ?_
          refine own_viaW (F' := T502.setTop (mkF m 61 #[.val (.ref o), .val (.ref lst), .val (.int (own_dp cc i).toInt32), .val (.int (i).toInt32), .val (.ref (te i))] [(.ref (te i))])) (fun tz kz => XS.aload X502.here hx rfl (hb hby d13_59) rfl rfl kz) ?_
          obtain ⟨a503, T503, h503, X503, e503, E503, hS, hZ, hown, R503, c503, i503, j503, s503⟩ := own_ldcW X502 hx hZ hown (hw _ (List.mem_of_getElem? (i := 158) rfl)) wS e502 hS hk hEL (List.mem_of_getElem? (i := 1) rfl) CH (ch := 93) own_t93 (by decide) (g := (mkF m 61 #[.val (.ref o), .val (.ref lst), .val (.int (own_dp cc i).toInt32), .val (.int (i).toInt32), .val (.ref (te i))] [(.ref (te i))])) rfl (hb hby d13_61) (show C + 0 + 2 ≤ 33 by omega) (show S + 0 + (4 + 4) ≤ 134 by omega)
          refine own_viaW (F' := T503.setTop (mkF m 63 #[.val (.ref o), .val (.ref lst), .val (.int (own_dp cc i).toInt32), .val (.int (i).toInt32), .val (.ref (te i))] [(.ref a503), (.ref (te i))])) s503 ?_
          have f504 := (own_LS.ext hw LSx E503)
          have tk505 := own_LS.tok f504 hin
          have f506 := (Ox.ext E503)
          refine own_callVW X503 hx hZ (own_kis l Z az hw (te i) (own_kd kS kW (cc i)) (own_ch (cc i)) a503 93 kS 0 z hz ((own_sy93 hx8 hkk).trans (if_neg (by omega))) (own_ch_lt _) (by decide) h503 n0 tk505 R503 CS SY f506) hown tk505.exa (hw _ (List.mem_of_getElem? (i := 138) rfl)) (hw _ (List.mem_of_getElem? (i := 139) rfl)) (hw _ (List.mem_of_getElem? (i := 141) rfl)) (hw _ (List.mem_of_getElem? (i := 140) rfl)) (hw _ (List.mem_of_getElem? (i := 8) rfl)) (hw _ (List.mem_of_getElem? (i := 142) rfl)) (notFace_of_selects (args := #[]) (mvT hZ (hw _ (List.mem_of_getElem? (i := 141) rfl)))) (by decide) e503 (g := (mkF m 63 #[.val (.ref o), .val (.ref lst), .val (.int (own_dp cc i).toInt32), .val (.int (i).toInt32), .val (.ref (te i))] [(.ref a503), (.ref (te i))])) rfl (by rw [hml]; rfl) (argsL := [(.ref a503)]) (rest := []) rfl (lenOf own_pd12 rfl) rfl 0 (by show 2 * 0 + _ ≤ _; exact Nat.le_of_eq rfl) (hb hby d13_63) (by decide) (by decide) (show C + 0 + 2 + 0 ≤ 33 by omega) (show S + 0 + (4 + 4) + 0 ≤ 134 by omega) ?_
          intro v507 T507 L507 hQ507 X507
          obtain ⟨rfl, e507, rfl⟩ := hQ507
          refine own_viaW (F' := T507.setTop (mkF m 66 #[.val (.ref o), .val (.ref lst), .val (.int (own_dp cc i).toInt32), .val (.int (i).toInt32), .val (.ref (te i))] [(.int (0 : Int32))])) (fun tz kz => kz) ?_
          refine own_viaW (F' := T507.setTop (mkF m 77 #[.val (.ref o), .val (.ref lst), .val (.int (own_dp cc i).toInt32), .val (.int (i).toInt32), .val (.ref (te i))] [])) (fun tz kz => XS.ifYes X507.here hx rfl (pc0 := 66) (pc' := 77) rfl (hb hby d13_66) rfl (XT.i0_eq_t (by decide)) (by decide) (by decide) kz) ?_
          refine own_viaW (F' := T507.setTop (mkF m 78 #[.val (.ref o), .val (.ref lst), .val (.int (own_dp cc i).toInt32), .val (.int (i).toInt32), .val (.ref (te i))] [(.ref o)])) (fun tz kz => XS.aloadN X507.here hx rfl (hb hby d13_77) rfl rfl kz) ?_
          have f508 := (Fd.ext E503)
          obtain ⟨T509, X509, e509, s509⟩ := getF X507 hx hZ hown (host := "") (Or.inl (hw _ (List.mem_of_getElem? (i := 112) rfl))) Via.refl e507 f508 (g := (mkF m 78 #[.val (.ref o), .val (.ref lst), .val (.int (own_dp cc i).toInt32), .val (.int (i).toInt32), .val (.ref (te i))] [(.ref o)])) rfl rfl (hb hby d13_78)
          refine own_viaW (F' := T509.setTop (mkF m 81 #[.val (.ref o), .val (.ref lst), .val (.int (own_dp cc i).toInt32), .val (.int (i).toInt32), .val (.ref (te i))] [(.ref a16)])) s509 ?_
          refine own_viaW (F' := T509.setTop (mkF m 82 #[.val (.ref o), .val (.ref lst), .val (.int (own_dp cc i).toInt32), .val (.int (i).toInt32), .val (.ref (te i))] [(.int (i).toInt32), (.ref a16)])) (fun tz kz => XS.iloadN X509.here hx rfl (hb hby d13_81) rfl kz) ?_
          refine own_viaW (F' := T509.setTop (mkF m 83 #[.val (.ref o), .val (.ref lst), .val (.int (own_dp cc i).toInt32), .val (.int (i).toInt32), .val (.ref (te i))] [(.int (own_dp cc i).toInt32), (.int (i).toInt32), (.ref a16)])) (fun tz kz => XS.iloadN X509.here hx rfl (hb hby d13_82) rfl kz) ?_
          have f510 := (Ad.ext E503)
          obtain ⟨T511, h511, X511, e511, W511, s511⟩ := f510.store X509 hx hZ e509 (j := i) rfl (by omega) (by omega) (g := (mkF m 83 #[.val (.ref o), .val (.ref lst), .val (.int (own_dp cc i).toInt32), .val (.int (i).toInt32), .val (.ref (te i))] [(.int (own_dp cc i).toInt32), (.int (i).toInt32), (.ref a16)])) rfl rfl (hb hby d13_83)
          have F511 : own_I Z h511 a16 (n + 1) (fun zz => if zz = i then own_dp cc i else φ zz) := f510.set W511 (y := own_dp cc i) rfl
          obtain ⟨y511, Y511⟩ : ∃ z : Nat → Nat, z = fun zz => if zz = i then own_dp cc i else φ zz := ⟨_, rfl⟩
          rw [← Y511] at F511
          have N511 := Fr.snoc X511 (Fr.app (Fr.app N1 (Fr.nil _)) (Fr.nil _)) G16
          refine own_viaW (F' := T511.setTop (mkF m 84 #[.val (.ref o), .val (.ref lst), .val (.int (own_dp cc i).toInt32), .val (.int (i).toInt32), .val (.ref (te i))] [])) s511 ?_
          refine own_viaW (F' := T511.setTop (mkF m 86 #[.val (.ref o), .val (.ref lst), .val (.int (own_dp cc i).toInt32), .val (.int (i).toInt32), .val (.ref (te i))] [(.ref (te i))])) (fun tz kz => XS.aload X511.here hx rfl (hb hby d13_84) rfl rfl kz) ?_
          have hk512 := ((Keep.refl h503 [a16]).wr W511 (Or.inl (List.mem_of_getElem? (i := 0) rfl))).1
          have c513 := c503.trans (CHr.wr W511 (f510.safe hZ.alike) c503.1)
          obtain ⟨a514, T514, h514, X514, e514, E514, hS, hZ, hown, R514, c514, i514, j514, s514⟩ := own_ldcW X511 hx hZ hown (hw _ (List.mem_of_getElem? (i := 159) rfl)) wS e511 hS hk512 hEL (List.mem_of_getElem? (i := 2) rfl) c513 (ch := 40) own_t40 (by decide) (g := (mkF m 86 #[.val (.ref o), .val (.ref lst), .val (.int (own_dp cc i).toInt32), .val (.int (i).toInt32), .val (.ref (te i))] [(.ref (te i))])) rfl (hb hby d13_86) (show C + 0 + 2 + 0 + 2 ≤ 33 by omega) (show S + 0 + (4 + 4) + 0 + (4 + 4) ≤ 134 by omega)
          refine own_viaW (F' := T514.setTop (mkF m 88 #[.val (.ref o), .val (.ref lst), .val (.int (own_dp cc i).toInt32), .val (.int (i).toInt32), .val (.ref (te i))] [(.ref a514), (.ref (te i))])) s514 ?_
          have f515 := (own_LS.ext hw (own_LS.wr hw f504 W511 (Or.inr f510.arr)) E514)
          have tk516 := own_LS.tok f515 hin
          have f517 := ((f506.wr W511 G16).ext E514)
          refine own_callVW X514 hx hZ (own_kis l Z az hw (te i) (own_kd kS kW (cc i)) (own_ch (cc i)) a514 40 kS 1 z hz ((own_sy40 hx8 hkk).trans (if_pos (by omega))) (own_ch_lt _) (by decide) h514 n0 tk516 R514 CS SY f517) hown tk516.exa (hw _ (List.mem_of_getElem? (i := 138) rfl)) (hw _ (List.mem_of_getElem? (i := 139) rfl)) (hw _ (List.mem_of_getElem? (i := 141) rfl)) (hw _ (List.mem_of_getElem? (i := 140) rfl)) (hw _ (List.mem_of_getElem? (i := 8) rfl)) (hw _ (List.mem_of_getElem? (i := 142) rfl)) (notFace_of_selects (args := #[]) (mvT hZ (hw _ (List.mem_of_getElem? (i := 141) rfl)))) (by decide) e514 (g := (mkF m 88 #[.val (.ref o), .val (.ref lst), .val (.int (own_dp cc i).toInt32), .val (.int (i).toInt32), .val (.ref (te i))] [(.ref a514), (.ref (te i))])) rfl (by rw [hml]; rfl) (argsL := [(.ref a514)]) (rest := []) rfl (lenOf own_pd12 rfl) rfl 0 (by show 2 * 0 + _ ≤ _; exact Nat.le_of_eq rfl) (hb hby d13_88) (by decide) (by decide) (show C + 0 + 2 + 0 + 2 + 0 ≤ 33 by omega) (show S + 0 + (4 + 4) + 0 + (4 + 4) + 0 ≤ 134 by omega) ?_
          intro v518 T518 L518 hQ518 X518
          obtain ⟨rfl, e518, rfl⟩ := hQ518
          refine own_viaW (F' := T518.setTop (mkF m 91 #[.val (.ref o), .val (.ref lst), .val (.int (own_dp cc i).toInt32), .val (.int (i).toInt32), .val (.ref (te i))] [(.int (1 : Int32))])) (fun tz kz => kz) ?_
          refine own_viaW (F' := T518.setTop (mkF m 104 #[.val (.ref o), .val (.ref lst), .val (.int (own_dp cc i).toInt32), .val (.int (i).toInt32), .val (.ref (te i))] [])) (fun tz kz => XS.ifYes X518.here hx rfl (pc0 := 91) (pc' := 104) rfl (hb hby d13_91) rfl (XT.i0_ne_t (by decide)) (by decide) (by decide) kz) ?_
          refine own_viaW (F' := T518.setTop (mkF m 107 #[.val (.ref o), .val (.ref lst), .val (.int (own_dp cc i + 1).toInt32), .val (.int (i).toInt32), .val (.ref (te i))] [])) (fun tz kz => XT.iincV X518.here hx rfl (1 : Int32) (hb hby d13_104) (by decide) rfl (l' := #[.val (.ref o), .val (.ref lst), .val (.int (own_dp cc i + 1).toInt32), .val (.int (i).toInt32), .val (.ref (te i))]) (by rw [own_succ]; rfl) kz) ?_
          refine own_viaW (F' := T518.setTop (mkF m 110 #[.val (.ref o), .val (.ref lst), .val (.int (own_dp cc i + 1).toInt32), .val (.int (i + 1).toInt32), .val (.ref (te i))] [])) (fun tz kz => XT.iincV X518.here hx rfl (1 : Int32) (hb hby d13_107) (by decide) rfl (l' := #[.val (.ref o), .val (.ref lst), .val (.int (own_dp cc i + 1).toInt32), .val (.int (i + 1).toInt32), .val (.ref (te i))]) (by rw [own_succ]; rfl) kz) ?_
          refine own_viaW (F' := T518.setTop (mkF m 27 #[.val (.ref o), .val (.ref lst), .val (.int (own_dp cc i + 1).toInt32), .val (.int (i + 1).toInt32), .val (.ref (te i))] [])) (fun tz kz => XS.goto X518.here hx rfl (pc0 := 110) (pc' := 27) rfl (hb hby d13_110) (by decide) (by decide) kz) ?_
          have ho : own_op (cc i) = true := own_op_t (by omega)
          have hcl : ¬ own_cl (cc i) = true := own_cl_f (by omega)
          have hd1 : own_dp cc (i + 1) = own_dp cc i + 1 := by show (if own_op (cc i) = true then own_dp cc i + 1 else if own_cl (cc i) = true then own_dp cc i - 1 else own_dp cc i) = _; rw [if_pos ho]
          have hd2 : own_d cc i = own_dp cc i := by unfold own_d; rw [if_neg hcl]
          have f519 := (own_Str.keep hw (own_Str.keep hw (own_Str.keep hw S41 ((Keep.refl _ []).ext E503) all0) (Keep.of_wr W511) (allS (own_NT.ns (own_Far.nt (Or.inr f510.arr))) all0)) ((Keep.refl _ []).ext E514) all0)
          have f520 := (((Eo.ext E503).wr W511).ext E514)
          have f521 := ((f508.other W511 (Or.inl (own_ne (by omega)))).ext E514)
          have f522 := (F511.ext E514)
          have zz := ih (i + 1) (by omega) _ T518 h514 _ y511 a41 _ _ _ (.val (.ref (te i))) (Or.inr ⟨(show C + 0 + 2 + 0 + 2 + 0 ≤ 3 + 6 * (i + 1) by omega), (show S + 0 + (4 + 4) + 0 + (4 + 4) + 0 ≤ 14 + 24 * (i + 1) by omega), f519, (j514 _ _ _ (j503 _ _ _ Lt))⟩) (Or.inr ⟨_, rfl, rfl⟩) X518 e518 hS (Nat.le_refl _) hZ hown c514 (Fr.app N511 (Fr.nil _)) (((((Keep.refl h0 [o]).trans Kp (allS (Or.inl (List.mem_of_getElem? (i := 0) rfl)) all0)).ext E503).wr W511 (Or.inr B16)).ext E514) f520 f521 f522 (fun x hx => by rw [Y511]; show (if x = i then own_dp cc i else φ x) = _; exact if q : x = i then (by rw [if_pos q, q, hd2]) else (by rw [if_neg q]; exact hφ x (by omega))) f515 f517
          rw [hd1] at zz
          exact zz
        · have tk601 := own_LS.tok LSx hin
          refine own_callVW X hx hZ (own_kis l Z az hw (te i) (own_kd kS kW (cc i)) (own_ch (cc i)) a41 41 kS 0 z hz ((own_sy41 hx8 hkk).trans (if_neg (by omega))) (own_ch_lt _) (by decide) h n0 tk601 S41 CS SY Ox) hown tk601.exa (hw _ (List.mem_of_getElem? (i := 138) rfl)) (hw _ (List.mem_of_getElem? (i := 139) rfl)) (hw _ (List.mem_of_getElem? (i := 141) rfl)) (hw _ (List.mem_of_getElem? (i := 140) rfl)) (hw _ (List.mem_of_getElem? (i := 8) rfl)) (hw _ (List.mem_of_getElem? (i := 142) rfl)) (notFace_of_selects (args := #[]) (mvT hZ (hw _ (List.mem_of_getElem? (i := 141) rfl)))) (by decide) e1 (g := (mkF m 53 #[.val (.ref o), .val (.ref lst), .val (.int (own_dp cc i).toInt32), .val (.int (i).toInt32), .val (.ref (te i))] [(.ref a41), (.ref (te i))])) rfl (by rw [hml]; rfl) (argsL := [(.ref a41)]) (rest := []) rfl (lenOf own_pd12 rfl) rfl 0 (by show 2 * 0 + _ ≤ _; exact Nat.le_of_eq rfl) (hb hby d13_53) (by decide) (by decide) (show C + 0 ≤ 33 by omega) (show S + 0 ≤ 134 by omega) ?_
          intro v602 T602 L602 hQ602 X602
          obtain ⟨rfl, e602, rfl⟩ := hQ602
          refine own_viaW (F' := T602.setTop (mkF m 56 #[.val (.ref o), .val (.ref lst), .val (.int (own_dp cc i).toInt32), .val (.int (i).toInt32), .val (.ref (te i))] [(.int (0 : Int32))])) (fun tz kz => kz) ?_
          refine own_viaW (F' := T602.setTop (mkF m 59 #[.val (.ref o), .val (.ref lst), .val (.int (own_dp cc i).toInt32), .val (.int (i).toInt32), .val (.ref (te i))] [])) (fun tz kz => XS.ifNo X602.here hx rfl (hb hby d13_56) rfl (XT.i0_ne_f (by decide)) kz) ?_
          refine own_viaW (F' := T602.setTop (mkF m 61 #[.val (.ref o), .val (.ref lst), .val (.int (own_dp cc i).toInt32), .val (.int (i).toInt32), .val (.ref (te i))] [(.ref (te i))])) (fun tz kz => XS.aload X602.here hx rfl (hb hby d13_59) rfl rfl kz) ?_
          obtain ⟨a603, T603, h603, X603, e603, E603, hS, hZ, hown, R603, c603, i603, j603, s603⟩ := own_ldcW X602 hx hZ hown (hw _ (List.mem_of_getElem? (i := 158) rfl)) wS e602 hS hk hEL (List.mem_of_getElem? (i := 1) rfl) CH (ch := 93) own_t93 (by decide) (g := (mkF m 61 #[.val (.ref o), .val (.ref lst), .val (.int (own_dp cc i).toInt32), .val (.int (i).toInt32), .val (.ref (te i))] [(.ref (te i))])) rfl (hb hby d13_61) (show C + 0 + 2 ≤ 33 by omega) (show S + 0 + (4 + 4) ≤ 134 by omega)
          refine own_viaW (F' := T603.setTop (mkF m 63 #[.val (.ref o), .val (.ref lst), .val (.int (own_dp cc i).toInt32), .val (.int (i).toInt32), .val (.ref (te i))] [(.ref a603), (.ref (te i))])) s603 ?_
          have f604 := (own_LS.ext hw LSx E603)
          have tk605 := own_LS.tok f604 hin
          have f606 := (Ox.ext E603)
          refine own_callVW X603 hx hZ (own_kis l Z az hw (te i) (own_kd kS kW (cc i)) (own_ch (cc i)) a603 93 kS 0 z hz ((own_sy93 hx8 hkk).trans (if_neg (by omega))) (own_ch_lt _) (by decide) h603 n0 tk605 R603 CS SY f606) hown tk605.exa (hw _ (List.mem_of_getElem? (i := 138) rfl)) (hw _ (List.mem_of_getElem? (i := 139) rfl)) (hw _ (List.mem_of_getElem? (i := 141) rfl)) (hw _ (List.mem_of_getElem? (i := 140) rfl)) (hw _ (List.mem_of_getElem? (i := 8) rfl)) (hw _ (List.mem_of_getElem? (i := 142) rfl)) (notFace_of_selects (args := #[]) (mvT hZ (hw _ (List.mem_of_getElem? (i := 141) rfl)))) (by decide) e603 (g := (mkF m 63 #[.val (.ref o), .val (.ref lst), .val (.int (own_dp cc i).toInt32), .val (.int (i).toInt32), .val (.ref (te i))] [(.ref a603), (.ref (te i))])) rfl (by rw [hml]; rfl) (argsL := [(.ref a603)]) (rest := []) rfl (lenOf own_pd12 rfl) rfl 0 (by show 2 * 0 + _ ≤ _; exact Nat.le_of_eq rfl) (hb hby d13_63) (by decide) (by decide) (show C + 0 + 2 + 0 ≤ 33 by omega) (show S + 0 + (4 + 4) + 0 ≤ 134 by omega) ?_
          intro v607 T607 L607 hQ607 X607
          obtain ⟨rfl, e607, rfl⟩ := hQ607
          refine own_viaW (F' := T607.setTop (mkF m 66 #[.val (.ref o), .val (.ref lst), .val (.int (own_dp cc i).toInt32), .val (.int (i).toInt32), .val (.ref (te i))] [(.int (0 : Int32))])) (fun tz kz => kz) ?_
          refine own_viaW (F' := T607.setTop (mkF m 77 #[.val (.ref o), .val (.ref lst), .val (.int (own_dp cc i).toInt32), .val (.int (i).toInt32), .val (.ref (te i))] [])) (fun tz kz => XS.ifYes X607.here hx rfl (pc0 := 66) (pc' := 77) rfl (hb hby d13_66) rfl (XT.i0_eq_t (by decide)) (by decide) (by decide) kz) ?_
          refine own_viaW (F' := T607.setTop (mkF m 78 #[.val (.ref o), .val (.ref lst), .val (.int (own_dp cc i).toInt32), .val (.int (i).toInt32), .val (.ref (te i))] [(.ref o)])) (fun tz kz => XS.aloadN X607.here hx rfl (hb hby d13_77) rfl rfl kz) ?_
          have f608 := (Fd.ext E603)
          obtain ⟨T609, X609, e609, s609⟩ := getF X607 hx hZ hown (host := "") (Or.inl (hw _ (List.mem_of_getElem? (i := 112) rfl))) Via.refl e607 f608 (g := (mkF m 78 #[.val (.ref o), .val (.ref lst), .val (.int (own_dp cc i).toInt32), .val (.int (i).toInt32), .val (.ref (te i))] [(.ref o)])) rfl rfl (hb hby d13_78)
          refine own_viaW (F' := T609.setTop (mkF m 81 #[.val (.ref o), .val (.ref lst), .val (.int (own_dp cc i).toInt32), .val (.int (i).toInt32), .val (.ref (te i))] [(.ref a16)])) s609 ?_
          refine own_viaW (F' := T609.setTop (mkF m 82 #[.val (.ref o), .val (.ref lst), .val (.int (own_dp cc i).toInt32), .val (.int (i).toInt32), .val (.ref (te i))] [(.int (i).toInt32), (.ref a16)])) (fun tz kz => XS.iloadN X609.here hx rfl (hb hby d13_81) rfl kz) ?_
          refine own_viaW (F' := T609.setTop (mkF m 83 #[.val (.ref o), .val (.ref lst), .val (.int (own_dp cc i).toInt32), .val (.int (i).toInt32), .val (.ref (te i))] [(.int (own_dp cc i).toInt32), (.int (i).toInt32), (.ref a16)])) (fun tz kz => XS.iloadN X609.here hx rfl (hb hby d13_82) rfl kz) ?_
          have f610 := (Ad.ext E603)
          obtain ⟨T611, h611, X611, e611, W611, s611⟩ := f610.store X609 hx hZ e609 (j := i) rfl (by omega) (by omega) (g := (mkF m 83 #[.val (.ref o), .val (.ref lst), .val (.int (own_dp cc i).toInt32), .val (.int (i).toInt32), .val (.ref (te i))] [(.int (own_dp cc i).toInt32), (.int (i).toInt32), (.ref a16)])) rfl rfl (hb hby d13_83)
          have F611 : own_I Z h611 a16 (n + 1) (fun zz => if zz = i then own_dp cc i else φ zz) := f610.set W611 (y := own_dp cc i) rfl
          obtain ⟨y611, Y611⟩ : ∃ z : Nat → Nat, z = fun zz => if zz = i then own_dp cc i else φ zz := ⟨_, rfl⟩
          rw [← Y611] at F611
          have N611 := Fr.snoc X611 (Fr.app (Fr.app N1 (Fr.nil _)) (Fr.nil _)) G16
          refine own_viaW (F' := T611.setTop (mkF m 84 #[.val (.ref o), .val (.ref lst), .val (.int (own_dp cc i).toInt32), .val (.int (i).toInt32), .val (.ref (te i))] [])) s611 ?_
          refine own_viaW (F' := T611.setTop (mkF m 86 #[.val (.ref o), .val (.ref lst), .val (.int (own_dp cc i).toInt32), .val (.int (i).toInt32), .val (.ref (te i))] [(.ref (te i))])) (fun tz kz => XS.aload X611.here hx rfl (hb hby d13_84) rfl rfl kz) ?_
          have hk612 := ((Keep.refl h603 [a16]).wr W611 (Or.inl (List.mem_of_getElem? (i := 0) rfl))).1
          have c613 := c603.trans (CHr.wr W611 (f610.safe hZ.alike) c603.1)
          obtain ⟨a614, T614, h614, X614, e614, E614, hS, hZ, hown, R614, c614, i614, j614, s614⟩ := own_ldcW X611 hx hZ hown (hw _ (List.mem_of_getElem? (i := 159) rfl)) wS e611 hS hk612 hEL (List.mem_of_getElem? (i := 2) rfl) c613 (ch := 40) own_t40 (by decide) (g := (mkF m 86 #[.val (.ref o), .val (.ref lst), .val (.int (own_dp cc i).toInt32), .val (.int (i).toInt32), .val (.ref (te i))] [(.ref (te i))])) rfl (hb hby d13_86) (show C + 0 + 2 + 0 + 2 ≤ 33 by omega) (show S + 0 + (4 + 4) + 0 + (4 + 4) ≤ 134 by omega)
          refine own_viaW (F' := T614.setTop (mkF m 88 #[.val (.ref o), .val (.ref lst), .val (.int (own_dp cc i).toInt32), .val (.int (i).toInt32), .val (.ref (te i))] [(.ref a614), (.ref (te i))])) s614 ?_
          have f615 := (own_LS.ext hw (own_LS.wr hw f604 W611 (Or.inr f610.arr)) E614)
          have tk616 := own_LS.tok f615 hin
          have f617 := ((f606.wr W611 G16).ext E614)
          refine own_callVW X614 hx hZ (own_kis l Z az hw (te i) (own_kd kS kW (cc i)) (own_ch (cc i)) a614 40 kS 0 z hz ((own_sy40 hx8 hkk).trans (if_neg (by omega))) (own_ch_lt _) (by decide) h614 n0 tk616 R614 CS SY f617) hown tk616.exa (hw _ (List.mem_of_getElem? (i := 138) rfl)) (hw _ (List.mem_of_getElem? (i := 139) rfl)) (hw _ (List.mem_of_getElem? (i := 141) rfl)) (hw _ (List.mem_of_getElem? (i := 140) rfl)) (hw _ (List.mem_of_getElem? (i := 8) rfl)) (hw _ (List.mem_of_getElem? (i := 142) rfl)) (notFace_of_selects (args := #[]) (mvT hZ (hw _ (List.mem_of_getElem? (i := 141) rfl)))) (by decide) e614 (g := (mkF m 88 #[.val (.ref o), .val (.ref lst), .val (.int (own_dp cc i).toInt32), .val (.int (i).toInt32), .val (.ref (te i))] [(.ref a614), (.ref (te i))])) rfl (by rw [hml]; rfl) (argsL := [(.ref a614)]) (rest := []) rfl (lenOf own_pd12 rfl) rfl 0 (by show 2 * 0 + _ ≤ _; exact Nat.le_of_eq rfl) (hb hby d13_88) (by decide) (by decide) (show C + 0 + 2 + 0 + 2 + 0 ≤ 33 by omega) (show S + 0 + (4 + 4) + 0 + (4 + 4) + 0 ≤ 134 by omega) ?_
          intro v618 T618 L618 hQ618 X618
          obtain ⟨rfl, e618, rfl⟩ := hQ618
          refine own_viaW (F' := T618.setTop (mkF m 91 #[.val (.ref o), .val (.ref lst), .val (.int (own_dp cc i).toInt32), .val (.int (i).toInt32), .val (.ref (te i))] [(.int (0 : Int32))])) (fun tz kz => kz) ?_
          refine own_viaW (F' := T618.setTop (mkF m 94 #[.val (.ref o), .val (.ref lst), .val (.int (own_dp cc i).toInt32), .val (.int (i).toInt32), .val (.ref (te i))] [])) (fun tz kz => XS.ifNo X618.here hx rfl (hb hby d13_91) rfl (XT.i0_ne_f (by decide)) kz) ?_
          refine own_viaW (F' := T618.setTop (mkF m 96 #[.val (.ref o), .val (.ref lst), .val (.int (own_dp cc i).toInt32), .val (.int (i).toInt32), .val (.ref (te i))] [(.ref (te i))])) (fun tz kz => XS.aload X618.here hx rfl (hb hby d13_94) rfl rfl kz) ?_
          obtain ⟨a619, T619, h619, X619, e619, E619, hS, hZ, hown, R619, c619, i619, j619, s619⟩ := own_ldcW X618 hx hZ hown (hw _ (List.mem_of_getElem? (i := 171) rfl)) wS e618 hS (Nat.le_refl _) hEL (List.mem_of_getElem? (i := 3) rfl) c614 (ch := 91) own_t91 (by decide) (g := (mkF m 96 #[.val (.ref o), .val (.ref lst), .val (.int (own_dp cc i).toInt32), .val (.int (i).toInt32), .val (.ref (te i))] [(.ref (te i))])) rfl (hb hby d13_96) (show C + 0 + 2 + 0 + 2 + 0 + 2 ≤ 33 by omega) (show S + 0 + (4 + 4) + 0 + (4 + 4) + 0 + (4 + 4) ≤ 134 by omega)
          refine own_viaW (F' := T619.setTop (mkF m 98 #[.val (.ref o), .val (.ref lst), .val (.int (own_dp cc i).toInt32), .val (.int (i).toInt32), .val (.ref (te i))] [(.ref a619), (.ref (te i))])) s619 ?_
          have f620 := (own_LS.ext hw f615 E619)
          have tk621 := own_LS.tok f620 hin
          have f622 := (f617.ext E619)
          refine own_callVW X619 hx hZ (own_kis l Z az hw (te i) (own_kd kS kW (cc i)) (own_ch (cc i)) a619 91 kS 1 z hz ((own_sy91 hx8 hkk).trans (if_pos (by omega))) (own_ch_lt _) (by decide) h619 n0 tk621 R619 CS SY f622) hown tk621.exa (hw _ (List.mem_of_getElem? (i := 138) rfl)) (hw _ (List.mem_of_getElem? (i := 139) rfl)) (hw _ (List.mem_of_getElem? (i := 141) rfl)) (hw _ (List.mem_of_getElem? (i := 140) rfl)) (hw _ (List.mem_of_getElem? (i := 8) rfl)) (hw _ (List.mem_of_getElem? (i := 142) rfl)) (notFace_of_selects (args := #[]) (mvT hZ (hw _ (List.mem_of_getElem? (i := 141) rfl)))) (by decide) e619 (g := (mkF m 98 #[.val (.ref o), .val (.ref lst), .val (.int (own_dp cc i).toInt32), .val (.int (i).toInt32), .val (.ref (te i))] [(.ref a619), (.ref (te i))])) rfl (by rw [hml]; rfl) (argsL := [(.ref a619)]) (rest := []) rfl (lenOf own_pd12 rfl) rfl 0 (by show 2 * 0 + _ ≤ _; exact Nat.le_of_eq rfl) (hb hby d13_98) (by decide) (by decide) (show C + 0 + 2 + 0 + 2 + 0 + 2 + 0 ≤ 33 by omega) (show S + 0 + (4 + 4) + 0 + (4 + 4) + 0 + (4 + 4) + 0 ≤ 134 by omega) ?_
          intro v623 T623 L623 hQ623 X623
          obtain ⟨rfl, e623, rfl⟩ := hQ623
          refine own_viaW (F' := T623.setTop (mkF m 101 #[.val (.ref o), .val (.ref lst), .val (.int (own_dp cc i).toInt32), .val (.int (i).toInt32), .val (.ref (te i))] [(.int (1 : Int32))])) (fun tz kz => kz) ?_
          refine own_viaW (F' := T623.setTop (mkF m 104 #[.val (.ref o), .val (.ref lst), .val (.int (own_dp cc i).toInt32), .val (.int (i).toInt32), .val (.ref (te i))] [])) (fun tz kz => XS.ifNo X623.here hx rfl (hb hby d13_101) rfl (XT.i0_eq_f (by decide)) kz) ?_
          refine own_viaW (F' := T623.setTop (mkF m 107 #[.val (.ref o), .val (.ref lst), .val (.int (own_dp cc i + 1).toInt32), .val (.int (i).toInt32), .val (.ref (te i))] [])) (fun tz kz => XT.iincV X623.here hx rfl (1 : Int32) (hb hby d13_104) (by decide) rfl (l' := #[.val (.ref o), .val (.ref lst), .val (.int (own_dp cc i + 1).toInt32), .val (.int (i).toInt32), .val (.ref (te i))]) (by rw [own_succ]; rfl) kz) ?_
          refine own_viaW (F' := T623.setTop (mkF m 110 #[.val (.ref o), .val (.ref lst), .val (.int (own_dp cc i + 1).toInt32), .val (.int (i + 1).toInt32), .val (.ref (te i))] [])) (fun tz kz => XT.iincV X623.here hx rfl (1 : Int32) (hb hby d13_107) (by decide) rfl (l' := #[.val (.ref o), .val (.ref lst), .val (.int (own_dp cc i + 1).toInt32), .val (.int (i + 1).toInt32), .val (.ref (te i))]) (by rw [own_succ]; rfl) kz) ?_
          refine own_viaW (F' := T623.setTop (mkF m 27 #[.val (.ref o), .val (.ref lst), .val (.int (own_dp cc i + 1).toInt32), .val (.int (i + 1).toInt32), .val (.ref (te i))] [])) (fun tz kz => XS.goto X623.here hx rfl (pc0 := 110) (pc' := 27) rfl (hb hby d13_110) (by decide) (by decide) kz) ?_
          have ho : own_op (cc i) = true := own_op_t (by omega)
          have hcl : ¬ own_cl (cc i) = true := own_cl_f (by omega)
          have hd1 : own_dp cc (i + 1) = own_dp cc i + 1 := by show (if own_op (cc i) = true then own_dp cc i + 1 else if own_cl (cc i) = true then own_dp cc i - 1 else own_dp cc i) = _; rw [if_pos ho]
          have hd2 : own_d cc i = own_dp cc i := by unfold own_d; rw [if_neg hcl]
          have f624 := (own_Str.keep hw (own_Str.keep hw (own_Str.keep hw (own_Str.keep hw S41 ((Keep.refl _ []).ext E603) all0) (Keep.of_wr W611) (allS (own_NT.ns (own_Far.nt (Or.inr f610.arr))) all0)) ((Keep.refl _ []).ext E614) all0) ((Keep.refl _ []).ext E619) all0)
          have f625 := ((((Eo.ext E603).wr W611).ext E614).ext E619)
          have f626 := (((f608.other W611 (Or.inl (own_ne (by omega)))).ext E614).ext E619)
          have f627 := ((F611.ext E614).ext E619)
          have zz := ih (i + 1) (by omega) _ T623 h619 _ y611 a41 _ _ _ (.val (.ref (te i))) (Or.inr ⟨(show C + 0 + 2 + 0 + 2 + 0 + 2 + 0 ≤ 3 + 6 * (i + 1) by omega), (show S + 0 + (4 + 4) + 0 + (4 + 4) + 0 + (4 + 4) + 0 ≤ 14 + 24 * (i + 1) by omega), f624, (j619 _ _ _ (j614 _ _ _ (j603 _ _ _ Lt)))⟩) (Or.inr ⟨_, rfl, rfl⟩) X623 e623 hS (Nat.le_refl _) hZ hown c619 (Fr.app (Fr.app N611 (Fr.nil _)) (Fr.nil _)) ((((((Keep.refl h0 [o]).trans Kp (allS (Or.inl (List.mem_of_getElem? (i := 0) rfl)) all0)).ext E603).wr W611 (Or.inr B16)).ext E614).ext E619) f625 f626 f627 (fun x hx => by rw [Y611]; show (if x = i then own_dp cc i else φ x) = _; exact if q : x = i then (by rw [if_pos q, q, hd2]) else (by rw [if_neg q]; exact hφ x (by omega))) f620 f622
          rw [hd1] at zz
          exact zz
        · have tk701 := own_LS.tok LSx hin
          refine own_callVW X hx hZ (own_kis l Z az hw (te i) (own_kd kS kW (cc i)) (own_ch (cc i)) a41 41 kS 0 z hz ((own_sy41 hx8 hkk).trans (if_neg (by omega))) (own_ch_lt _) (by decide) h n0 tk701 S41 CS SY Ox) hown tk701.exa (hw _ (List.mem_of_getElem? (i := 138) rfl)) (hw _ (List.mem_of_getElem? (i := 139) rfl)) (hw _ (List.mem_of_getElem? (i := 141) rfl)) (hw _ (List.mem_of_getElem? (i := 140) rfl)) (hw _ (List.mem_of_getElem? (i := 8) rfl)) (hw _ (List.mem_of_getElem? (i := 142) rfl)) (notFace_of_selects (args := #[]) (mvT hZ (hw _ (List.mem_of_getElem? (i := 141) rfl)))) (by decide) e1 (g := (mkF m 53 #[.val (.ref o), .val (.ref lst), .val (.int (own_dp cc i).toInt32), .val (.int (i).toInt32), .val (.ref (te i))] [(.ref a41), (.ref (te i))])) rfl (by rw [hml]; rfl) (argsL := [(.ref a41)]) (rest := []) rfl (lenOf own_pd12 rfl) rfl 0 (by show 2 * 0 + _ ≤ _; exact Nat.le_of_eq rfl) (hb hby d13_53) (by decide) (by decide) (show C + 0 ≤ 33 by omega) (show S + 0 ≤ 134 by omega) ?_
          intro v702 T702 L702 hQ702 X702
          obtain ⟨rfl, e702, rfl⟩ := hQ702
          refine own_viaW (F' := T702.setTop (mkF m 56 #[.val (.ref o), .val (.ref lst), .val (.int (own_dp cc i).toInt32), .val (.int (i).toInt32), .val (.ref (te i))] [(.int (0 : Int32))])) (fun tz kz => kz) ?_
          refine own_viaW (F' := T702.setTop (mkF m 59 #[.val (.ref o), .val (.ref lst), .val (.int (own_dp cc i).toInt32), .val (.int (i).toInt32), .val (.ref (te i))] [])) (fun tz kz => XS.ifNo X702.here hx rfl (hb hby d13_56) rfl (XT.i0_ne_f (by decide)) kz) ?_
          refine own_viaW (F' := T702.setTop (mkF m 61 #[.val (.ref o), .val (.ref lst), .val (.int (own_dp cc i).toInt32), .val (.int (i).toInt32), .val (.ref (te i))] [(.ref (te i))])) (fun tz kz => XS.aload X702.here hx rfl (hb hby d13_59) rfl rfl kz) ?_
          obtain ⟨a703, T703, h703, X703, e703, E703, hS, hZ, hown, R703, c703, i703, j703, s703⟩ := own_ldcW X702 hx hZ hown (hw _ (List.mem_of_getElem? (i := 158) rfl)) wS e702 hS hk hEL (List.mem_of_getElem? (i := 1) rfl) CH (ch := 93) own_t93 (by decide) (g := (mkF m 61 #[.val (.ref o), .val (.ref lst), .val (.int (own_dp cc i).toInt32), .val (.int (i).toInt32), .val (.ref (te i))] [(.ref (te i))])) rfl (hb hby d13_61) (show C + 0 + 2 ≤ 33 by omega) (show S + 0 + (4 + 4) ≤ 134 by omega)
          refine own_viaW (F' := T703.setTop (mkF m 63 #[.val (.ref o), .val (.ref lst), .val (.int (own_dp cc i).toInt32), .val (.int (i).toInt32), .val (.ref (te i))] [(.ref a703), (.ref (te i))])) s703 ?_
          have f704 := (own_LS.ext hw LSx E703)
          have tk705 := own_LS.tok f704 hin
          have f706 := (Ox.ext E703)
          refine own_callVW X703 hx hZ (own_kis l Z az hw (te i) (own_kd kS kW (cc i)) (own_ch (cc i)) a703 93 kS 0 z hz ((own_sy93 hx8 hkk).trans (if_neg (by omega))) (own_ch_lt _) (by decide) h703 n0 tk705 R703 CS SY f706) hown tk705.exa (hw _ (List.mem_of_getElem? (i := 138) rfl)) (hw _ (List.mem_of_getElem? (i := 139) rfl)) (hw _ (List.mem_of_getElem? (i := 141) rfl)) (hw _ (List.mem_of_getElem? (i := 140) rfl)) (hw _ (List.mem_of_getElem? (i := 8) rfl)) (hw _ (List.mem_of_getElem? (i := 142) rfl)) (notFace_of_selects (args := #[]) (mvT hZ (hw _ (List.mem_of_getElem? (i := 141) rfl)))) (by decide) e703 (g := (mkF m 63 #[.val (.ref o), .val (.ref lst), .val (.int (own_dp cc i).toInt32), .val (.int (i).toInt32), .val (.ref (te i))] [(.ref a703), (.ref (te i))])) rfl (by rw [hml]; rfl) (argsL := [(.ref a703)]) (rest := []) rfl (lenOf own_pd12 rfl) rfl 0 (by show 2 * 0 + _ ≤ _; exact Nat.le_of_eq rfl) (hb hby d13_63) (by decide) (by decide) (show C + 0 + 2 + 0 ≤ 33 by omega) (show S + 0 + (4 + 4) + 0 ≤ 134 by omega) ?_
          intro v707 T707 L707 hQ707 X707
          obtain ⟨rfl, e707, rfl⟩ := hQ707
          refine own_viaW (F' := T707.setTop (mkF m 66 #[.val (.ref o), .val (.ref lst), .val (.int (own_dp cc i).toInt32), .val (.int (i).toInt32), .val (.ref (te i))] [(.int (0 : Int32))])) (fun tz kz => kz) ?_
          refine own_viaW (F' := T707.setTop (mkF m 77 #[.val (.ref o), .val (.ref lst), .val (.int (own_dp cc i).toInt32), .val (.int (i).toInt32), .val (.ref (te i))] [])) (fun tz kz => XS.ifYes X707.here hx rfl (pc0 := 66) (pc' := 77) rfl (hb hby d13_66) rfl (XT.i0_eq_t (by decide)) (by decide) (by decide) kz) ?_
          refine own_viaW (F' := T707.setTop (mkF m 78 #[.val (.ref o), .val (.ref lst), .val (.int (own_dp cc i).toInt32), .val (.int (i).toInt32), .val (.ref (te i))] [(.ref o)])) (fun tz kz => XS.aloadN X707.here hx rfl (hb hby d13_77) rfl rfl kz) ?_
          have f708 := (Fd.ext E703)
          obtain ⟨T709, X709, e709, s709⟩ := getF X707 hx hZ hown (host := "") (Or.inl (hw _ (List.mem_of_getElem? (i := 112) rfl))) Via.refl e707 f708 (g := (mkF m 78 #[.val (.ref o), .val (.ref lst), .val (.int (own_dp cc i).toInt32), .val (.int (i).toInt32), .val (.ref (te i))] [(.ref o)])) rfl rfl (hb hby d13_78)
          refine own_viaW (F' := T709.setTop (mkF m 81 #[.val (.ref o), .val (.ref lst), .val (.int (own_dp cc i).toInt32), .val (.int (i).toInt32), .val (.ref (te i))] [(.ref a16)])) s709 ?_
          refine own_viaW (F' := T709.setTop (mkF m 82 #[.val (.ref o), .val (.ref lst), .val (.int (own_dp cc i).toInt32), .val (.int (i).toInt32), .val (.ref (te i))] [(.int (i).toInt32), (.ref a16)])) (fun tz kz => XS.iloadN X709.here hx rfl (hb hby d13_81) rfl kz) ?_
          refine own_viaW (F' := T709.setTop (mkF m 83 #[.val (.ref o), .val (.ref lst), .val (.int (own_dp cc i).toInt32), .val (.int (i).toInt32), .val (.ref (te i))] [(.int (own_dp cc i).toInt32), (.int (i).toInt32), (.ref a16)])) (fun tz kz => XS.iloadN X709.here hx rfl (hb hby d13_82) rfl kz) ?_
          have f710 := (Ad.ext E703)
          obtain ⟨T711, h711, X711, e711, W711, s711⟩ := f710.store X709 hx hZ e709 (j := i) rfl (by omega) (by omega) (g := (mkF m 83 #[.val (.ref o), .val (.ref lst), .val (.int (own_dp cc i).toInt32), .val (.int (i).toInt32), .val (.ref (te i))] [(.int (own_dp cc i).toInt32), (.int (i).toInt32), (.ref a16)])) rfl rfl (hb hby d13_83)
          have F711 : own_I Z h711 a16 (n + 1) (fun zz => if zz = i then own_dp cc i else φ zz) := f710.set W711 (y := own_dp cc i) rfl
          obtain ⟨y711, Y711⟩ : ∃ z : Nat → Nat, z = fun zz => if zz = i then own_dp cc i else φ zz := ⟨_, rfl⟩
          rw [← Y711] at F711
          have N711 := Fr.snoc X711 (Fr.app (Fr.app N1 (Fr.nil _)) (Fr.nil _)) G16
          refine own_viaW (F' := T711.setTop (mkF m 84 #[.val (.ref o), .val (.ref lst), .val (.int (own_dp cc i).toInt32), .val (.int (i).toInt32), .val (.ref (te i))] [])) s711 ?_
          refine own_viaW (F' := T711.setTop (mkF m 86 #[.val (.ref o), .val (.ref lst), .val (.int (own_dp cc i).toInt32), .val (.int (i).toInt32), .val (.ref (te i))] [(.ref (te i))])) (fun tz kz => XS.aload X711.here hx rfl (hb hby d13_84) rfl rfl kz) ?_
          have hk712 := ((Keep.refl h703 [a16]).wr W711 (Or.inl (List.mem_of_getElem? (i := 0) rfl))).1
          have c713 := c703.trans (CHr.wr W711 (f710.safe hZ.alike) c703.1)
          obtain ⟨a714, T714, h714, X714, e714, E714, hS, hZ, hown, R714, c714, i714, j714, s714⟩ := own_ldcW X711 hx hZ hown (hw _ (List.mem_of_getElem? (i := 159) rfl)) wS e711 hS hk712 hEL (List.mem_of_getElem? (i := 2) rfl) c713 (ch := 40) own_t40 (by decide) (g := (mkF m 86 #[.val (.ref o), .val (.ref lst), .val (.int (own_dp cc i).toInt32), .val (.int (i).toInt32), .val (.ref (te i))] [(.ref (te i))])) rfl (hb hby d13_86) (show C + 0 + 2 + 0 + 2 ≤ 33 by omega) (show S + 0 + (4 + 4) + 0 + (4 + 4) ≤ 134 by omega)
          refine own_viaW (F' := T714.setTop (mkF m 88 #[.val (.ref o), .val (.ref lst), .val (.int (own_dp cc i).toInt32), .val (.int (i).toInt32), .val (.ref (te i))] [(.ref a714), (.ref (te i))])) s714 ?_
          have f715 := (own_LS.ext hw (own_LS.wr hw f704 W711 (Or.inr f710.arr)) E714)
          have tk716 := own_LS.tok f715 hin
          have f717 := ((f706.wr W711 G16).ext E714)
          refine own_callVW X714 hx hZ (own_kis l Z az hw (te i) (own_kd kS kW (cc i)) (own_ch (cc i)) a714 40 kS 0 z hz ((own_sy40 hx8 hkk).trans (if_neg (by omega))) (own_ch_lt _) (by decide) h714 n0 tk716 R714 CS SY f717) hown tk716.exa (hw _ (List.mem_of_getElem? (i := 138) rfl)) (hw _ (List.mem_of_getElem? (i := 139) rfl)) (hw _ (List.mem_of_getElem? (i := 141) rfl)) (hw _ (List.mem_of_getElem? (i := 140) rfl)) (hw _ (List.mem_of_getElem? (i := 8) rfl)) (hw _ (List.mem_of_getElem? (i := 142) rfl)) (notFace_of_selects (args := #[]) (mvT hZ (hw _ (List.mem_of_getElem? (i := 141) rfl)))) (by decide) e714 (g := (mkF m 88 #[.val (.ref o), .val (.ref lst), .val (.int (own_dp cc i).toInt32), .val (.int (i).toInt32), .val (.ref (te i))] [(.ref a714), (.ref (te i))])) rfl (by rw [hml]; rfl) (argsL := [(.ref a714)]) (rest := []) rfl (lenOf own_pd12 rfl) rfl 0 (by show 2 * 0 + _ ≤ _; exact Nat.le_of_eq rfl) (hb hby d13_88) (by decide) (by decide) (show C + 0 + 2 + 0 + 2 + 0 ≤ 33 by omega) (show S + 0 + (4 + 4) + 0 + (4 + 4) + 0 ≤ 134 by omega) ?_
          intro v718 T718 L718 hQ718 X718
          obtain ⟨rfl, e718, rfl⟩ := hQ718
          refine own_viaW (F' := T718.setTop (mkF m 91 #[.val (.ref o), .val (.ref lst), .val (.int (own_dp cc i).toInt32), .val (.int (i).toInt32), .val (.ref (te i))] [(.int (0 : Int32))])) (fun tz kz => kz) ?_
          refine own_viaW (F' := T718.setTop (mkF m 94 #[.val (.ref o), .val (.ref lst), .val (.int (own_dp cc i).toInt32), .val (.int (i).toInt32), .val (.ref (te i))] [])) (fun tz kz => XS.ifNo X718.here hx rfl (hb hby d13_91) rfl (XT.i0_ne_f (by decide)) kz) ?_
          refine own_viaW (F' := T718.setTop (mkF m 96 #[.val (.ref o), .val (.ref lst), .val (.int (own_dp cc i).toInt32), .val (.int (i).toInt32), .val (.ref (te i))] [(.ref (te i))])) (fun tz kz => XS.aload X718.here hx rfl (hb hby d13_94) rfl rfl kz) ?_
          obtain ⟨a719, T719, h719, X719, e719, E719, hS, hZ, hown, R719, c719, i719, j719, s719⟩ := own_ldcW X718 hx hZ hown (hw _ (List.mem_of_getElem? (i := 171) rfl)) wS e718 hS (Nat.le_refl _) hEL (List.mem_of_getElem? (i := 3) rfl) c714 (ch := 91) own_t91 (by decide) (g := (mkF m 96 #[.val (.ref o), .val (.ref lst), .val (.int (own_dp cc i).toInt32), .val (.int (i).toInt32), .val (.ref (te i))] [(.ref (te i))])) rfl (hb hby d13_96) (show C + 0 + 2 + 0 + 2 + 0 + 2 ≤ 33 by omega) (show S + 0 + (4 + 4) + 0 + (4 + 4) + 0 + (4 + 4) ≤ 134 by omega)
          refine own_viaW (F' := T719.setTop (mkF m 98 #[.val (.ref o), .val (.ref lst), .val (.int (own_dp cc i).toInt32), .val (.int (i).toInt32), .val (.ref (te i))] [(.ref a719), (.ref (te i))])) s719 ?_
          have f720 := (own_LS.ext hw f715 E719)
          have tk721 := own_LS.tok f720 hin
          have f722 := (f717.ext E719)
          refine own_callVW X719 hx hZ (own_kis l Z az hw (te i) (own_kd kS kW (cc i)) (own_ch (cc i)) a719 91 kS 0 z hz ((own_sy91 hx8 hkk).trans (if_neg (by omega))) (own_ch_lt _) (by decide) h719 n0 tk721 R719 CS SY f722) hown tk721.exa (hw _ (List.mem_of_getElem? (i := 138) rfl)) (hw _ (List.mem_of_getElem? (i := 139) rfl)) (hw _ (List.mem_of_getElem? (i := 141) rfl)) (hw _ (List.mem_of_getElem? (i := 140) rfl)) (hw _ (List.mem_of_getElem? (i := 8) rfl)) (hw _ (List.mem_of_getElem? (i := 142) rfl)) (notFace_of_selects (args := #[]) (mvT hZ (hw _ (List.mem_of_getElem? (i := 141) rfl)))) (by decide) e719 (g := (mkF m 98 #[.val (.ref o), .val (.ref lst), .val (.int (own_dp cc i).toInt32), .val (.int (i).toInt32), .val (.ref (te i))] [(.ref a719), (.ref (te i))])) rfl (by rw [hml]; rfl) (argsL := [(.ref a719)]) (rest := []) rfl (lenOf own_pd12 rfl) rfl 0 (by show 2 * 0 + _ ≤ _; exact Nat.le_of_eq rfl) (hb hby d13_98) (by decide) (by decide) (show C + 0 + 2 + 0 + 2 + 0 + 2 + 0 ≤ 33 by omega) (show S + 0 + (4 + 4) + 0 + (4 + 4) + 0 + (4 + 4) + 0 ≤ 134 by omega) ?_
          intro v723 T723 L723 hQ723 X723
          obtain ⟨rfl, e723, rfl⟩ := hQ723
          refine own_viaW (F' := T723.setTop (mkF m 101 #[.val (.ref o), .val (.ref lst), .val (.int (own_dp cc i).toInt32), .val (.int (i).toInt32), .val (.ref (te i))] [(.int (0 : Int32))])) (fun tz kz => kz) ?_
          refine own_viaW (F' := T723.setTop (mkF m 107 #[.val (.ref o), .val (.ref lst), .val (.int (own_dp cc i).toInt32), .val (.int (i).toInt32), .val (.ref (te i))] [])) (fun tz kz => XS.ifYes X723.here hx rfl (pc0 := 101) (pc' := 107) rfl (hb hby d13_101) rfl (XT.i0_eq_t (by decide)) (by decide) (by decide) kz) ?_
          refine own_viaW (F' := T723.setTop (mkF m 110 #[.val (.ref o), .val (.ref lst), .val (.int (own_dp cc i).toInt32), .val (.int (i + 1).toInt32), .val (.ref (te i))] [])) (fun tz kz => XT.iincV X723.here hx rfl (1 : Int32) (hb hby d13_107) (by decide) rfl (l' := #[.val (.ref o), .val (.ref lst), .val (.int (own_dp cc i).toInt32), .val (.int (i + 1).toInt32), .val (.ref (te i))]) (by rw [own_succ]; rfl) kz) ?_
          refine own_viaW (F' := T723.setTop (mkF m 27 #[.val (.ref o), .val (.ref lst), .val (.int (own_dp cc i).toInt32), .val (.int (i + 1).toInt32), .val (.ref (te i))] [])) (fun tz kz => XS.goto X723.here hx rfl (pc0 := 110) (pc' := 27) rfl (hb hby d13_110) (by decide) (by decide) kz) ?_
          have ho : ¬ own_op (cc i) = true := own_op_f (by omega)
          have hcl : ¬ own_cl (cc i) = true := own_cl_f (by omega)
          have hd1 : own_dp cc (i + 1) = own_dp cc i := by show (if own_op (cc i) = true then own_dp cc i + 1 else if own_cl (cc i) = true then own_dp cc i - 1 else own_dp cc i) = _; rw [if_neg ho, if_neg hcl]
          have hd2 : own_d cc i = own_dp cc i := by unfold own_d; rw [if_neg hcl]
          have f724 := (own_Str.keep hw (own_Str.keep hw (own_Str.keep hw (own_Str.keep hw S41 ((Keep.refl _ []).ext E703) all0) (Keep.of_wr W711) (allS (own_NT.ns (own_Far.nt (Or.inr f710.arr))) all0)) ((Keep.refl _ []).ext E714) all0) ((Keep.refl _ []).ext E719) all0)
          have f725 := ((((Eo.ext E703).wr W711).ext E714).ext E719)
          have f726 := (((f708.other W711 (Or.inl (own_ne (by omega)))).ext E714).ext E719)
          have f727 := ((F711.ext E714).ext E719)
          have zz := ih (i + 1) (by omega) _ T723 h719 _ y711 a41 _ _ _ (.val (.ref (te i))) (Or.inr ⟨(show C + 0 + 2 + 0 + 2 + 0 + 2 + 0 ≤ 3 + 6 * (i + 1) by omega), (show S + 0 + (4 + 4) + 0 + (4 + 4) + 0 + (4 + 4) + 0 ≤ 14 + 24 * (i + 1) by omega), f724, (j719 _ _ _ (j714 _ _ _ (j703 _ _ _ Lt)))⟩) (Or.inr ⟨_, rfl, rfl⟩) X723 e723 hS (Nat.le_refl _) hZ hown c719 (Fr.app (Fr.app N711 (Fr.nil _)) (Fr.nil _)) ((((((Keep.refl h0 [o]).trans Kp (allS (Or.inl (List.mem_of_getElem? (i := 0) rfl)) all0)).ext E703).wr W711 (Or.inr B16)).ext E714).ext E719) f725 f726 f727 (fun x hx => by rw [Y711]; show (if x = i then own_dp cc i else φ x) = _; exact if q : x = i then (by rw [if_pos q, q, hd2]) else (by rw [if_neg q]; exact hφ x (by omega))) f720 f722
          rw [hd1] at zz
          exact zz
      have hC : C ≤ 3 + 6 * i ∧ S ≤ 14 + 24 * i := by rcases hl with ⟨q1, q2, q3⟩ | ⟨q2, q3, -, -⟩ <;> omega
      refine own_viaW (F' := T.setTop (mkF m 28 #[.val (.ref o), .val (.ref lst), .val (.int (own_dp cc i).toInt32), .val (.int (i).toInt32), x4] [(.int (i).toInt32)])) (fun tz kz => XS.iloadN X.here hx rfl (hb hby d13_27) rfl kz) ?_
      refine own_viaW (F' := T.setTop (mkF m 29 #[.val (.ref o), .val (.ref lst), .val (.int (own_dp cc i).toInt32), .val (.int (i).toInt32), x4] [(.ref lst), (.int (i).toInt32)])) (fun tz kz => XS.aloadN X.here hx rfl (hb hby d13_28) rfl rfl kz) ?_
      have lq901 := LSx
      obtain ⟨ea901, cp901, f901, lE901, lD901, lS901, lA901, l1901, l2901, l3901, l4901⟩ := lq901
      refine own_callFW X hx hZ (own_ksz l Z az hw lst n h n0 lS901) hown lE901 (hw _ (List.mem_of_getElem? (i := 103) rfl)) (hw _ (List.mem_of_getElem? (i := 104) rfl)) (hw _ (List.mem_of_getElem? (i := 105) rfl)) (hw _ (List.mem_of_getElem? (i := 106) rfl)) (hw _ (List.mem_of_getElem? (i := 107) rfl)) (hw _ (List.mem_of_getElem? (i := 108) rfl)) (hw _ (List.mem_of_getElem? (i := 109) rfl)) (hw _ (List.mem_of_getElem? (i := 110) rfl)) (hw _ (List.mem_of_getElem? (i := 41) rfl)) (hw _ (List.mem_of_getElem? (i := 111) rfl)) (by decide) e1 (g := (mkF m 29 #[.val (.ref o), .val (.ref lst), .val (.int (own_dp cc i).toInt32), .val (.int (i).toInt32), x4] [(.ref lst), (.int (i).toInt32)])) rfl (by rw [hml]; rfl) (argsL := []) (rest := [(.int (i).toInt32)]) rfl (lenOf own_pd11 rfl) rfl 1 (by show 2 * 0 + _ ≤ _; exact Nat.le_of_eq rfl) (hb hby d13_29) (by decide) (by decide) (show C + 0 ≤ 33 by omega) (show S + 0 ≤ 134 by omega) ?_
      intro v902 T902 L902 hQ902 X902
      obtain ⟨rfl, e902, rfl⟩ := hQ902
      refine own_viaW (F' := T902.setTop (mkF m 34 #[.val (.ref o), .val (.ref lst), .val (.int (own_dp cc i).toInt32), .val (.int (i).toInt32), x4] [(.int (n).toInt32), (.int (i).toInt32)])) (fun tz kz => kz) ?_
      refine own_viaW (F' := T902.setTop (mkF m 37 #[.val (.ref o), .val (.ref lst), .val (.int (own_dp cc i).toInt32), .val (.int (i).toInt32), x4] [])) (fun tz kz => XS.icmpNo X902.here hx rfl (hb hby d13_34) rfl (XT.ii_ge_f ((own_ltI (i := i) (j := n) rfl rfl (by omega) (by omega)).mpr hin)) kz) ?_
      refine own_viaW (F' := T902.setTop (mkF m 38 #[.val (.ref o), .val (.ref lst), .val (.int (own_dp cc i).toInt32), .val (.int (i).toInt32), x4] [(.ref lst)])) (fun tz kz => XS.aloadN X902.here hx rfl (hb hby d13_37) rfl rfl kz) ?_
      refine own_viaW (F' := T902.setTop (mkF m 39 #[.val (.ref o), .val (.ref lst), .val (.int (own_dp cc i).toInt32), .val (.int (i).toInt32), x4] [(.int (i).toInt32), (.ref lst)])) (fun tz kz => XS.iloadN X902.here hx rfl (hb hby d13_38) rfl kz) ?_
      have lq903 := LSx
      obtain ⟨ea903, cp903, f903, lE903, lD903, lS903, lA903, l1903, l2903, l3903, l4903⟩ := lq903
      refine own_callFW X902 hx hZ (own_kget l Z az hw lst ea903 cp903 n i (te i) f903 h n0 lE903 lD903 lS903 (lA903 (by omega)) (by omega) l1903 l2903 (l3903 i (by omega))) hown lE903 (hw _ (List.mem_of_getElem? (i := 114) rfl)) (hw _ (List.mem_of_getElem? (i := 115) rfl)) (hw _ (List.mem_of_getElem? (i := 116) rfl)) (hw _ (List.mem_of_getElem? (i := 117) rfl)) (hw _ (List.mem_of_getElem? (i := 118) rfl)) (hw _ (List.mem_of_getElem? (i := 119) rfl)) (hw _ (List.mem_of_getElem? (i := 120) rfl)) (hw _ (List.mem_of_getElem? (i := 110) rfl)) (hw _ (List.mem_of_getElem? (i := 41) rfl)) (hw _ (List.mem_of_getElem? (i := 121) rfl)) (by decide) e902 (g := (mkF m 39 #[.val (.ref o), .val (.ref lst), .val (.int (own_dp cc i).toInt32), .val (.int (i).toInt32), x4] [(.int (i).toInt32), (.ref lst)])) rfl (by rw [hml]; rfl) (argsL := [(.int (i).toInt32)]) (rest := []) rfl (lenOf own_pd7 rfl) rfl 0 (by show 2 * 0 + _ ≤ _; exact Nat.le_of_eq rfl) (hb hby d13_39) (by decide) (by decide) (show C + 0 + 0 ≤ 33 by omega) (show S + 0 + 0 ≤ 134 by omega) ?_
      intro v904 T904 L904 hQ904 X904
      obtain ⟨rfl, e904, rfl⟩ := hQ904
      refine own_viaW (F' := T904.setTop (mkF m 44 #[.val (.ref o), .val (.ref lst), .val (.int (own_dp cc i).toInt32), .val (.int (i).toInt32), x4] [(.ref (te i))])) (fun tz kz => kz) ?_
      have tk905 := own_LS.tok LSx hin
      obtain ⟨T906, X906, e906, s906⟩ := castY X904 hx hZ hown (hw _ (List.mem_of_getElem? (i := 135) rfl)) e904 (Ins.self tk905.exa) (g := (mkF m 44 #[.val (.ref o), .val (.ref lst), .val (.int (own_dp cc i).toInt32), .val (.int (i).toInt32), x4] [(.ref (te i))])) rfl rfl (hb hby d13_44)
      refine own_viaW (F' := T906.setTop (mkF m 47 #[.val (.ref o), .val (.ref lst), .val (.int (own_dp cc i).toInt32), .val (.int (i).toInt32), x4] [(.ref (te i))])) s906 ?_
      refine own_viaW (F' := T906.setTop (mkF m 49 #[.val (.ref o), .val (.ref lst), .val (.int (own_dp cc i).toInt32), .val (.int (i).toInt32), .val (.ref (te i))] [])) (fun tz kz => XS.astoreS X906.here hx rfl (hb hby d13_47) rfl rfl rfl rfl c4 kz) ?_
      refine own_viaW (F' := T906.setTop (mkF m 51 #[.val (.ref o), .val (.ref lst), .val (.int (own_dp cc i).toInt32), .val (.int (i).toInt32), .val (.ref (te i))] [(.ref (te i))])) (fun tz kz => XS.aload X906.here hx rfl (hb hby d13_49) rfl rfl kz) ?_
      rcases hl with ⟨q1, q2, q3⟩ | ⟨q2, q3, S41, Lt⟩
      · obtain ⟨a907, T907, h907, X907, e907, E907, hS, hZ, hown, R907, c907, i907, j907, s907⟩ := own_ldcW X906 hx hZ hown (hw _ (List.mem_of_getElem? (i := 137) rfl)) wS e906 hS hk hEL (List.mem_of_getElem? (i := 0) rfl) CH (ch := 41) own_t41 (by decide) (g := (mkF m 51 #[.val (.ref o), .val (.ref lst), .val (.int (own_dp cc i).toInt32), .val (.int (i).toInt32), .val (.ref (te i))] [(.ref (te i))])) rfl (hb hby d13_51) (show C + 0 + 0 + 2 ≤ 33 by omega) (show S + 0 + 0 + (4 + 4) ≤ 134 by omega)
        refine own_viaW (F' := T907.setTop (mkF m 53 #[.val (.ref o), .val (.ref lst), .val (.int (own_dp cc i).toInt32), .val (.int (i).toInt32), .val (.ref (te i))] [(.ref a907), (.ref (te i))])) s907 ?_
        have f908 := (Eo.ext E907)
        have f909 := (Fd.ext E907)
        have f910 := (Ad.ext E907)
        have f911 := (own_LS.ext hw LSx E907)
        have f912 := (Ox.ext E907)
        exact body _ T907 h907 _ φ a907 _ _ _ (show C + 0 + 0 + 2 ≤ 3 + 6 * i by omega) (show S + 0 + 0 + (4 + 4) ≤ 14 + 24 * i by omega) R907 i907 X907 e907 hS (Nat.le_refl _) hZ hown c907 (Fr.app (Fr.app N1 (Fr.nil _)) (Fr.nil _)) (((Keep.refl h0 [o]).trans Kp (allS (Or.inl (List.mem_of_getElem? (i := 0) rfl)) all0)).ext E907) f908 f909 f910 hφ f911 f912
      · refine own_viaW (F' := T906.setTop (mkF m 53 #[.val (.ref o), .val (.ref lst), .val (.int (own_dp cc i).toInt32), .val (.int (i).toInt32), .val (.ref (te i))] [(.ref a41), (.ref (te i))])) (fun tz kz => ldcAgain X906 hx hZ hown (hw _ (List.mem_of_getElem? (i := 137) rfl)) Lt (g := (mkF m 51 #[.val (.ref o), .val (.ref lst), .val (.int (own_dp cc i).toInt32), .val (.int (i).toInt32), .val (.ref (te i))] [(.ref (te i))])) rfl (hb hby d13_51) tz kz) ?_
        exact body _ T906 h _ φ a41 _ _ _ (show C + 0 + 0 ≤ 3 + 6 * i by omega) (show S + 0 + 0 ≤ 14 + 24 * i by omega) S41 Lt X906 e906 hS hk hZ hown CH (Fr.app (Fr.app N1 (Fr.nil _)) (Fr.nil _)) Kp Eo Fd Ad hφ LSx Ox
  have f22 := (f19.wr W21)
  have f23 := (J16.other W21 (own_ne (by omega)))
  have f24 := (own_LS.wr hw (own_LS.ext hw f13 E16) W21 (Or.inl f19))
  have f25 := ((f18.ext E16).wr W21 G0)
  have c26 := CH0.trans (CHr.wr W12 (Safe.exa hZ.alike E0 (by decide) (by decide)) CH0.1)
  have c27 := c26.trans (CHr.ext E16 c26.1)
  have c28 := c27.trans (CHr.wr W21 (Safe.exa hZ.alike f19 (by decide) (by decide)) c27.1)
  have hk29 := ((((Keep.refl h0 [o]).wr W12 (Or.inl (List.mem_of_getElem? (i := 0) rfl))).ext E16).wr W21 (Or.inl (List.mem_of_getElem? (i := 0) rfl))).1
  exact loop n 0 (by omega) _ T21 h21 _ _ 0 1 6 _ .unset (Or.inl ⟨rfl, Nat.le_refl _, Nat.le_refl _⟩) (Or.inl rfl) (X21.more (by decide) (by decide)) e21 hS hk29 hZ hown c28 N21 ((((Keep.refl h0 [o]).wr W12 (Or.inl (List.mem_of_getElem? (i := 0) rfl))).ext E16).wr W21 (Or.inl (List.mem_of_getElem? (i := 0) rfl))) f22 F21 f23 (fun y hy => absurd hy (Nat.not_lt_zero y)) f24 f25
theorem own_x5 {x : Nat} (h : x < 5) : x = 0 ∨ x = 1 ∨ x = 2 ∨ x = 3 ∨ x = 4 := by omega
theorem own_efL (m : MethodId) (x0 : Int32) (x1 : Int32) (x2 : Int32) : entryFrame m #[(.int x0), (.int x1), (.int x2)] maxLocals = mkF m 0 #[.val (.int x0), .val (.int x1), .val (.int x2), .unset, .unset, .unset, .unset, .unset, .unset, .unset, .unset, .unset, .unset, .unset, .unset, .unset, .unset] [] := by first | (simp [entryFrame, mkF, argsToLocals, Value.category, maxLocals]; done) | rfl
set_option maxRecDepth 65536 in
set_option maxHeartbeats 40000000 in
theorem own_law (l : Launch) (Z : State) (az : Array Value) (hw : ∀ d ∈ tables_1, d.before az Z = true) (p0 p1 p2 : Int32) (kS kW d0 : Nat) (z : Int32) (K0 : ClassId) (f0 : Nat → Value) (hz : z ≠ 0) (hkk : kS ≠ kW) (h0 : Heap) (n0 : Nat) (O0 : Old Z n0 h0) (SY : Sta Z Z.heap "com/example/isocline/isocline/core/sql/SqlToken$Kind" "SYMBOL" "Lcom/example/isocline/isocline/core/sql/SqlToken$Kind;" (.ref kS)) (WO : Sta Z Z.heap "com/example/isocline/isocline/core/sql/SqlToken$Kind" "WORD" "Lcom/example/isocline/isocline/core/sql/SqlToken$Kind;" (.ref kW)) (CS : Sta Z Z.heap "java/lang/String" "COMPACT_STRINGS" "Z" (.int z)) (DS : Sta Z Z.heap "java/util/ArrayList" "DEFAULTCAPACITY_EMPTY_ELEMENTDATA" "[Ljava/lang/Object;" (.ref d0)) (A0 : own_A Z h0 d0 (.object "java/lang/Object") K0 0 f0) :
    own_ConW l Z consts_1 x code maxLocals ret room_1 #[(.int p0), (.int p1), (.int p2)] h0 (fun r h L => r = some (.int 1) ∧ Fr n0 L) := by
  refine own_conW own_pn_com_example_isocline_isocline_core_sql_TokensOpeningPinLaw ?_
  intro p e s m below meth c T0 hx hby hml hZ hown hnm hret hlk X0 e0 eh hS CH0
  have wS := own_wS hw
  have hEL := own_EW hw
  have hown : (s.setVm s.vm).vm.findClass "com/example/isocline/isocline/core/sql/TokensOpeningPinLaw" = some m.cls := hown
  have hn0 := O0.2.1
  have hn1 := O0.1
  have hd0 := own_n A0.lt
  refine own_viaW (F' := T0.setTop (mkF m 0 #[.val (.int p0), .val (.int p1), .val (.int p2), .unset, .unset, .unset, .unset, .unset, .unset, .unset, .unset, .unset, .unset, .unset, .unset, .unset, .unset] [])) (fun tz kz => castTop (own_efL m p0 p1 p2) kz) ?_
  refine own_viaW (F' := T0.setTop (mkF m 1 #[.val (.int p0), .val (.int p1), .val (.int p2), .unset, .unset, .unset, .unset, .unset, .unset, .unset, .unset, .unset, .unset, .unset, .unset, .unset, .unset] [(.int p1)])) (fun tz kz => XS.iloadN X0.here hx rfl (hb hby at_0) rfl kz) ?_
  refine own_viaW (F' := T0.setTop (mkF m 3 #[.val (.int p0), .val (.int p1), .val (.int p2), .unset, .unset, .unset, .unset, .unset, .unset, .unset, .unset, .unset, .unset, .unset, .unset, .unset, .unset] [(.int (2147483647 : Int32)), (.int p1)])) (fun tz kz => Jvm.Stand.ldcI X0 hx hown (mvT hZ (hw _ (List.mem_of_getElem? (i := 0) rfl))) rfl (hb hby at_1) kz) ?_
  obtain ⟨n11, u11, b11⟩ := own_andN p1 (2147483647 : Int32) 2147483647 (by decide)
  refine own_viaW (F' := T0.setTop (mkF m 4 #[.val (.int p0), .val (.int p1), .val (.int p2), .unset, .unset, .unset, .unset, .unset, .unset, .unset, .unset, .unset, .unset, .unset, .unset, .unset, .unset] [(.int (n11).toInt32)])) (fun tz kz => XS.iand X0.here hx rfl (hb hby at_3) rfl (by rw [u11]; exact kz)) ?_
  refine own_viaW (F' := T0.setTop (mkF m 6 #[.val (.int p0), .val (.int p1), .val (.int p2), .unset, .unset, .unset, .unset, .unset, .unset, .unset, .unset, .unset, .unset, .unset, .unset, .unset, .unset] [(.int (6 : Int32)), (.int (n11).toInt32)])) (fun tz kz => XT.bipushV X0.here hx rfl (6 : Int32) (hb hby at_4) (by decide) kz) ?_
  obtain ⟨n12, u12⟩ : ∃ z, z = (n11) % 6 := ⟨_, rfl⟩
  have b12 : n12 < 6 := by omega
  refine own_viaW (F' := T0.setTop (mkF m 7 #[.val (.int p0), .val (.int p1), .val (.int p2), .unset, .unset, .unset, .unset, .unset, .unset, .unset, .unset, .unset, .unset, .unset, .unset, .unset, .unset] [(.int (n12).toInt32)])) (fun tz kz => iremM X0 hx rfl (hb hby at_6) rfl (by decide) (by rw [own_modN (by omega) (6 : Int32) 6 (by decide), ← u12]; exact kz)) ?_
  refine own_viaW (F' := T0.setTop (mkF m 8 #[.val (.int p0), .val (.int p1), .val (.int p2), .val (.int (n12).toInt32), .unset, .unset, .unset, .unset, .unset, .unset, .unset, .unset, .unset, .unset, .unset, .unset, .unset] [])) (fun tz kz => XS.istoreN X0.here hx rfl (hb hby at_7) rfl (l' := #[.val (.int p0), .val (.int p1), .val (.int p2), .val (.int (n12).toInt32), .unset, .unset, .unset, .unset, .unset, .unset, .unset, .unset, .unset, .unset, .unset, .unset, .unset]) rfl kz) ?_
  refine own_viaW (F' := T0.setTop (mkF m 9 #[.val (.int p0), .val (.int p1), .val (.int p2), .val (.int (n12).toInt32), .unset, .unset, .unset, .unset, .unset, .unset, .unset, .unset, .unset, .unset, .unset, .unset, .unset] [(.int p2)])) (fun tz kz => XS.iloadN X0.here hx rfl (hb hby at_8) rfl kz) ?_
  refine own_viaW (F' := T0.setTop (mkF m 11 #[.val (.int p0), .val (.int p1), .val (.int p2), .val (.int (n12).toInt32), .unset, .unset, .unset, .unset, .unset, .unset, .unset, .unset, .unset, .unset, .unset, .unset, .unset] [(.int (2147483647 : Int32)), (.int p2)])) (fun tz kz => Jvm.Stand.ldcI X0 hx hown (mvT hZ (hw _ (List.mem_of_getElem? (i := 0) rfl))) rfl (hb hby at_9) kz) ?_
  obtain ⟨n13, u13, b13⟩ := own_andN p2 (2147483647 : Int32) 2147483647 (by decide)
  refine own_viaW (F' := T0.setTop (mkF m 12 #[.val (.int p0), .val (.int p1), .val (.int p2), .val (.int (n12).toInt32), .unset, .unset, .unset, .unset, .unset, .unset, .unset, .unset, .unset, .unset, .unset, .unset, .unset] [(.int (n13).toInt32)])) (fun tz kz => XS.iand X0.here hx rfl (hb hby at_11) rfl (by rw [u13]; exact kz)) ?_
  refine own_viaW (F' := T0.setTop (mkF m 13 #[.val (.int p0), .val (.int p1), .val (.int p2), .val (.int (n12).toInt32), .unset, .unset, .unset, .unset, .unset, .unset, .unset, .unset, .unset, .unset, .unset, .unset, .unset] [(.int (n12).toInt32), (.int (n13).toInt32)])) (fun tz kz => XS.iloadN X0.here hx rfl (hb hby at_12) rfl kz) ?_
  refine own_viaW (F' := T0.setTop (mkF m 14 #[.val (.int p0), .val (.int p1), .val (.int p2), .val (.int (n12).toInt32), .unset, .unset, .unset, .unset, .unset, .unset, .unset, .unset, .unset, .unset, .unset, .unset, .unset] [(.int (3 : Int32)), (.int (n12).toInt32), (.int (n13).toInt32)])) (fun tz kz => XT.iconstV X0.here hx rfl (3 : Int32) (hb hby at_13) (by decide) kz) ?_
  refine own_viaW (F' := T0.setTop (mkF m 15 #[.val (.int p0), .val (.int p1), .val (.int p2), .val (.int (n12).toInt32), .unset, .unset, .unset, .unset, .unset, .unset, .unset, .unset, .unset, .unset, .unset, .unset, .unset] [(.int (n12 + 3).toInt32), (.int (n13).toInt32)])) (fun tz kz => XS.iadd X0.here hx rfl (hb hby at_14) rfl (by rw [show (n12).toInt32 + (3 : Int32) = (n12 + 3).toInt32 from own_add n12 3]; exact kz)) ?_
  obtain ⟨mm, um⟩ : ∃ z, z = (n13) % (n12 + 3) := ⟨_, rfl⟩
  have bm : mm < n12 + 3 := by rw [um]; exact Nat.mod_lt _ (by omega)
  have nz : (n12 + 3).toInt32 ≠ 0 := fun q => absurd ((own_eqI (i := n12 + 3) (j := 0) rfl rfl (by omega) (by omega)).mp q) (by omega)
  refine own_viaW (F' := T0.setTop (mkF m 16 #[.val (.int p0), .val (.int p1), .val (.int p2), .val (.int (n12).toInt32), .unset, .unset, .unset, .unset, .unset, .unset, .unset, .unset, .unset, .unset, .unset, .unset, .unset] [(.int (mm).toInt32)])) (fun tz kz => iremM X0 hx rfl (hb hby at_15) rfl nz (by rw [own_modN (by omega) (n12 + 3).toInt32 (n12 + 3) (len_toInt (by omega)), ← um]; exact kz)) ?_
  refine own_viaW (F' := T0.setTop (mkF m 17 #[.val (.int p0), .val (.int p1), .val (.int p2), .val (.int (n12).toInt32), .unset, .unset, .unset, .unset, .unset, .unset, .unset, .unset, .unset, .unset, .unset, .unset, .unset] [(.int (2 : Int32)), (.int (mm).toInt32)])) (fun tz kz => XT.iconstV X0.here hx rfl (2 : Int32) (hb hby at_16) (by decide) kz) ?_
  obtain ⟨att, hatt⟩ : ∃ z : Int32, z = (mm).toInt32 - (2 : Int32) := ⟨_, rfl⟩
  refine own_viaW (F' := T0.setTop (mkF m 18 #[.val (.int p0), .val (.int p1), .val (.int p2), .val (.int (n12).toInt32), .unset, .unset, .unset, .unset, .unset, .unset, .unset, .unset, .unset, .unset, .unset, .unset, .unset] [(.int att)])) (fun tz kz => XS.isub X0.here hx rfl (hb hby at_17) rfl (by rw [← hatt]; exact kz)) ?_
  refine own_viaW (F' := T0.setTop (mkF m 20 #[.val (.int p0), .val (.int p1), .val (.int p2), .val (.int (n12).toInt32), .val (.int att), .unset, .unset, .unset, .unset, .unset, .unset, .unset, .unset, .unset, .unset, .unset, .unset] [])) (fun tz kz => XS.istore X0.here hx rfl (hb hby at_18) rfl (l' := #[.val (.int p0), .val (.int p1), .val (.int p2), .val (.int (n12).toInt32), .val (.int att), .unset, .unset, .unset, .unset, .unset, .unset, .unset, .unset, .unset, .unset, .unset, .unset]) rfl kz) ?_
  refine own_viaW (F' := T0.setTop (mkF m 21 #[.val (.int p0), .val (.int p1), .val (.int p2), .val (.int (n12).toInt32), .val (.int att), .unset, .unset, .unset, .unset, .unset, .unset, .unset, .unset, .unset, .unset, .unset, .unset] [(.int (5 : Int32))])) (fun tz kz => XT.iconstV X0.here hx rfl (5 : Int32) (hb hby at_20) (by decide) kz) ?_
  obtain ⟨T14, h14, K14, X14, e14, E14, A14, I14, s14⟩ := own_newA X0 hx hZ (aty := .int) (CC := "[I") (by decide) (hw _ (List.mem_of_getElem? (i := 1) rfl)) e0 (n := 5) rfl (by decide) (cap := 5) (by decide) (by decide) (by decide) (g := (mkF m 21 #[.val (.int p0), .val (.int p1), .val (.int p2), .val (.int (n12).toInt32), .val (.int att), .unset, .unset, .unset, .unset, .unset, .unset, .unset, .unset, .unset, .unset, .unset, .unset] [(.int (5 : Int32))])) rfl rfl (hb hby at_21)
  obtain ⟨a14, g14⟩ : ∃ z, z = h0.size := ⟨_, rfl⟩
  rw [← g14] at A14 s14 I14
  have lt14_d0 : d0 < a14 := by have q := own_n A0.lt; omega
  have G14 : n0 ≤ a14 := by have q := O0.2.1; have q2 := O0.1; omega
  have J14 : own_I Z h14 a14 (5) (fun _ => 0) := ⟨_, A14⟩
  have S14 := Ins.self I14
  refine own_viaW (F' := T14.setTop (mkF m 23 #[.val (.int p0), .val (.int p1), .val (.int p2), .val (.int (n12).toInt32), .val (.int att), .unset, .unset, .unset, .unset, .unset, .unset, .unset, .unset, .unset, .unset, .unset, .unset] [(.ref a14)])) s14 ?_
  refine own_viaW (F' := T14.setTop (mkF m 25 #[.val (.int p0), .val (.int p1), .val (.int p2), .val (.int (n12).toInt32), .val (.int att), .val (.ref a14), .unset, .unset, .unset, .unset, .unset, .unset, .unset, .unset, .unset, .unset, .unset] [])) (fun tz kz => XS.astore X14.here hx rfl (hb hby at_23) rfl rfl (l' := #[.val (.int p0), .val (.int p1), .val (.int p2), .val (.int (n12).toInt32), .val (.int att), .val (.ref a14), .unset, .unset, .unset, .unset, .unset, .unset, .unset, .unset, .unset, .unset, .unset]) rfl kz) ?_
  refine own_viaW (F' := T14.setTop (mkF m 27 #[.val (.int p0), .val (.int p1), .val (.int p2), .val (.int (n12).toInt32), .val (.int att), .val (.ref a14), .unset, .unset, .unset, .unset, .unset, .unset, .unset, .unset, .unset, .unset, .unset] [(.ref a14)])) (fun tz kz => XS.aload X14.here hx rfl (hb hby at_25) rfl rfl kz) ?_
  refine own_viaW (F' := T14.setTop (mkF m 28 #[.val (.int p0), .val (.int p1), .val (.int p2), .val (.int (n12).toInt32), .val (.int att), .val (.ref a14), .unset, .unset, .unset, .unset, .unset, .unset, .unset, .unset, .unset, .unset, .unset] [(.int (0 : Int32)), (.ref a14)])) (fun tz kz => XT.iconstV X14.here hx rfl (0 : Int32) (hb hby at_27) (by decide) kz) ?_
  refine own_viaW (F' := T14.setTop (mkF m 29 #[.val (.int p0), .val (.int p1), .val (.int p2), .val (.int (n12).toInt32), .val (.int att), .val (.ref a14), .unset, .unset, .unset, .unset, .unset, .unset, .unset, .unset, .unset, .unset, .unset] [(.int p0), (.int (0 : Int32)), (.ref a14)])) (fun tz kz => XS.iloadN X14.here hx rfl (hb hby at_28) rfl kz) ?_
  refine own_viaW (F' := T14.setTop (mkF m 31 #[.val (.int p0), .val (.int p1), .val (.int p2), .val (.int (n12).toInt32), .val (.int att), .val (.ref a14), .unset, .unset, .unset, .unset, .unset, .unset, .unset, .unset, .unset, .unset, .unset] [(.int (7 : Int32)), (.int p0), (.int (0 : Int32)), (.ref a14)])) (fun tz kz => XT.bipushV X14.here hx rfl (7 : Int32) (hb hby at_29) (by decide) kz) ?_
  obtain ⟨n15, u15, b15⟩ := own_andN p0 (7 : Int32) 7 (by decide)
  refine own_viaW (F' := T14.setTop (mkF m 32 #[.val (.int p0), .val (.int p1), .val (.int p2), .val (.int (n12).toInt32), .val (.int att), .val (.ref a14), .unset, .unset, .unset, .unset, .unset, .unset, .unset, .unset, .unset, .unset, .unset] [(.int (n15).toInt32), (.int (0 : Int32)), (.ref a14)])) (fun tz kz => XS.iand X14.here hx rfl (hb hby at_31) rfl (by rw [u15]; exact kz)) ?_
  obtain ⟨T16, h16, X16, e16, W16, s16⟩ := J14.store X14 hx hZ e14 (j := 0) rfl (by decide) (by decide) (g := (mkF m 32 #[.val (.int p0), .val (.int p1), .val (.int p2), .val (.int (n12).toInt32), .val (.int att), .val (.ref a14), .unset, .unset, .unset, .unset, .unset, .unset, .unset, .unset, .unset, .unset, .unset] [(.int (n15).toInt32), (.int (0 : Int32)), (.ref a14)])) rfl rfl (hb hby at_32)
  have F16 : own_I Z h16 a14 (5) (fun zz => if zz = 0 then n15 else (fun _ => 0) zz) := J14.set W16 (y := n15) rfl
  obtain ⟨y16, Y16⟩ : ∃ z : Nat → Nat, z = fun zz => if zz = 0 then n15 else (fun _ => 0) zz := ⟨_, rfl⟩
  rw [← Y16] at F16
  have N16 := Fr.snoc X16 (Fr.nil n0) G14
  refine own_viaW (F' := T16.setTop (mkF m 33 #[.val (.int p0), .val (.int p1), .val (.int p2), .val (.int (n12).toInt32), .val (.int att), .val (.ref a14), .unset, .unset, .unset, .unset, .unset, .unset, .unset, .unset, .unset, .unset, .unset] [])) s16 ?_
  refine own_viaW (F' := T16.setTop (mkF m 35 #[.val (.int p0), .val (.int p1), .val (.int p2), .val (.int (n12).toInt32), .val (.int att), .val (.ref a14), .unset, .unset, .unset, .unset, .unset, .unset, .unset, .unset, .unset, .unset, .unset] [(.ref a14)])) (fun tz kz => XS.aload X16.here hx rfl (hb hby at_33) rfl rfl kz) ?_
  refine own_viaW (F' := T16.setTop (mkF m 36 #[.val (.int p0), .val (.int p1), .val (.int p2), .val (.int (n12).toInt32), .val (.int att), .val (.ref a14), .unset, .unset, .unset, .unset, .unset, .unset, .unset, .unset, .unset, .unset, .unset] [(.int (1 : Int32)), (.ref a14)])) (fun tz kz => XT.iconstV X16.here hx rfl (1 : Int32) (hb hby at_35) (by decide) kz) ?_
  refine own_viaW (F' := T16.setTop (mkF m 37 #[.val (.int p0), .val (.int p1), .val (.int p2), .val (.int (n12).toInt32), .val (.int att), .val (.ref a14), .unset, .unset, .unset, .unset, .unset, .unset, .unset, .unset, .unset, .unset, .unset] [(.int p0), (.int (1 : Int32)), (.ref a14)])) (fun tz kz => XS.iloadN X16.here hx rfl (hb hby at_36) rfl kz) ?_
  refine own_viaW (F' := T16.setTop (mkF m 38 #[.val (.int p0), .val (.int p1), .val (.int p2), .val (.int (n12).toInt32), .val (.int att), .val (.ref a14), .unset, .unset, .unset, .unset, .unset, .unset, .unset, .unset, .unset, .unset, .unset] [(.int (3 : Int32)), (.int p0), (.int (1 : Int32)), (.ref a14)])) (fun tz kz => XT.iconstV X16.here hx rfl (3 : Int32) (hb hby at_37) (by decide) kz) ?_
  refine own_viaW (F' := T16.setTop (mkF m 39 #[.val (.int p0), .val (.int p1), .val (.int p2), .val (.int (n12).toInt32), .val (.int att), .val (.ref a14), .unset, .unset, .unset, .unset, .unset, .unset, .unset, .unset, .unset, .unset, .unset] [(.int (XT.ushr p0 (3 : Int32))), (.int (1 : Int32)), (.ref a14)])) (fun tz kz => XT.iushr X16.here hx rfl (hb hby at_38) rfl kz) ?_
  refine own_viaW (F' := T16.setTop (mkF m 41 #[.val (.int p0), .val (.int p1), .val (.int p2), .val (.int (n12).toInt32), .val (.int att), .val (.ref a14), .unset, .unset, .unset, .unset, .unset, .unset, .unset, .unset, .unset, .unset, .unset] [(.int (7 : Int32)), (.int (XT.ushr p0 (3 : Int32))), (.int (1 : Int32)), (.ref a14)])) (fun tz kz => XT.bipushV X16.here hx rfl (7 : Int32) (hb hby at_39) (by decide) kz) ?_
  obtain ⟨n17, u17, b17⟩ := own_andN (XT.ushr p0 (3 : Int32)) (7 : Int32) 7 (by decide)
  refine own_viaW (F' := T16.setTop (mkF m 42 #[.val (.int p0), .val (.int p1), .val (.int p2), .val (.int (n12).toInt32), .val (.int att), .val (.ref a14), .unset, .unset, .unset, .unset, .unset, .unset, .unset, .unset, .unset, .unset, .unset] [(.int (n17).toInt32), (.int (1 : Int32)), (.ref a14)])) (fun tz kz => XS.iand X16.here hx rfl (hb hby at_41) rfl (by rw [u17]; exact kz)) ?_
  obtain ⟨T18, h18, X18, e18, W18, s18⟩ := F16.store X16 hx hZ e16 (j := 1) rfl (by decide) (by decide) (g := (mkF m 42 #[.val (.int p0), .val (.int p1), .val (.int p2), .val (.int (n12).toInt32), .val (.int att), .val (.ref a14), .unset, .unset, .unset, .unset, .unset, .unset, .unset, .unset, .unset, .unset, .unset] [(.int (n17).toInt32), (.int (1 : Int32)), (.ref a14)])) rfl rfl (hb hby at_42)
  have F18 : own_I Z h18 a14 (5) (fun zz => if zz = 1 then n17 else y16 zz) := F16.set W18 (y := n17) rfl
  obtain ⟨y18, Y18⟩ : ∃ z : Nat → Nat, z = fun zz => if zz = 1 then n17 else y16 zz := ⟨_, rfl⟩
  rw [← Y18] at F18
  have N18 := Fr.snoc X18 N16 G14
  refine own_viaW (F' := T18.setTop (mkF m 43 #[.val (.int p0), .val (.int p1), .val (.int p2), .val (.int (n12).toInt32), .val (.int att), .val (.ref a14), .unset, .unset, .unset, .unset, .unset, .unset, .unset, .unset, .unset, .unset, .unset] [])) s18 ?_
  refine own_viaW (F' := T18.setTop (mkF m 45 #[.val (.int p0), .val (.int p1), .val (.int p2), .val (.int (n12).toInt32), .val (.int att), .val (.ref a14), .unset, .unset, .unset, .unset, .unset, .unset, .unset, .unset, .unset, .unset, .unset] [(.ref a14)])) (fun tz kz => XS.aload X18.here hx rfl (hb hby at_43) rfl rfl kz) ?_
  refine own_viaW (F' := T18.setTop (mkF m 46 #[.val (.int p0), .val (.int p1), .val (.int p2), .val (.int (n12).toInt32), .val (.int att), .val (.ref a14), .unset, .unset, .unset, .unset, .unset, .unset, .unset, .unset, .unset, .unset, .unset] [(.int (2 : Int32)), (.ref a14)])) (fun tz kz => XT.iconstV X18.here hx rfl (2 : Int32) (hb hby at_45) (by decide) kz) ?_
  refine own_viaW (F' := T18.setTop (mkF m 47 #[.val (.int p0), .val (.int p1), .val (.int p2), .val (.int (n12).toInt32), .val (.int att), .val (.ref a14), .unset, .unset, .unset, .unset, .unset, .unset, .unset, .unset, .unset, .unset, .unset] [(.int p0), (.int (2 : Int32)), (.ref a14)])) (fun tz kz => XS.iloadN X18.here hx rfl (hb hby at_46) rfl kz) ?_
  refine own_viaW (F' := T18.setTop (mkF m 49 #[.val (.int p0), .val (.int p1), .val (.int p2), .val (.int (n12).toInt32), .val (.int att), .val (.ref a14), .unset, .unset, .unset, .unset, .unset, .unset, .unset, .unset, .unset, .unset, .unset] [(.int (6 : Int32)), (.int p0), (.int (2 : Int32)), (.ref a14)])) (fun tz kz => XT.bipushV X18.here hx rfl (6 : Int32) (hb hby at_47) (by decide) kz) ?_
  refine own_viaW (F' := T18.setTop (mkF m 50 #[.val (.int p0), .val (.int p1), .val (.int p2), .val (.int (n12).toInt32), .val (.int att), .val (.ref a14), .unset, .unset, .unset, .unset, .unset, .unset, .unset, .unset, .unset, .unset, .unset] [(.int (XT.ushr p0 (6 : Int32))), (.int (2 : Int32)), (.ref a14)])) (fun tz kz => XT.iushr X18.here hx rfl (hb hby at_49) rfl kz) ?_
  refine own_viaW (F' := T18.setTop (mkF m 52 #[.val (.int p0), .val (.int p1), .val (.int p2), .val (.int (n12).toInt32), .val (.int att), .val (.ref a14), .unset, .unset, .unset, .unset, .unset, .unset, .unset, .unset, .unset, .unset, .unset] [(.int (7 : Int32)), (.int (XT.ushr p0 (6 : Int32))), (.int (2 : Int32)), (.ref a14)])) (fun tz kz => XT.bipushV X18.here hx rfl (7 : Int32) (hb hby at_50) (by decide) kz) ?_
  obtain ⟨n19, u19, b19⟩ := own_andN (XT.ushr p0 (6 : Int32)) (7 : Int32) 7 (by decide)
  refine own_viaW (F' := T18.setTop (mkF m 53 #[.val (.int p0), .val (.int p1), .val (.int p2), .val (.int (n12).toInt32), .val (.int att), .val (.ref a14), .unset, .unset, .unset, .unset, .unset, .unset, .unset, .unset, .unset, .unset, .unset] [(.int (n19).toInt32), (.int (2 : Int32)), (.ref a14)])) (fun tz kz => XS.iand X18.here hx rfl (hb hby at_52) rfl (by rw [u19]; exact kz)) ?_
  obtain ⟨T20, h20, X20, e20, W20, s20⟩ := F18.store X18 hx hZ e18 (j := 2) rfl (by decide) (by decide) (g := (mkF m 53 #[.val (.int p0), .val (.int p1), .val (.int p2), .val (.int (n12).toInt32), .val (.int att), .val (.ref a14), .unset, .unset, .unset, .unset, .unset, .unset, .unset, .unset, .unset, .unset, .unset] [(.int (n19).toInt32), (.int (2 : Int32)), (.ref a14)])) rfl rfl (hb hby at_53)
  have F20 : own_I Z h20 a14 (5) (fun zz => if zz = 2 then n19 else y18 zz) := F18.set W20 (y := n19) rfl
  obtain ⟨y20, Y20⟩ : ∃ z : Nat → Nat, z = fun zz => if zz = 2 then n19 else y18 zz := ⟨_, rfl⟩
  rw [← Y20] at F20
  have N20 := Fr.snoc X20 N18 G14
  refine own_viaW (F' := T20.setTop (mkF m 54 #[.val (.int p0), .val (.int p1), .val (.int p2), .val (.int (n12).toInt32), .val (.int att), .val (.ref a14), .unset, .unset, .unset, .unset, .unset, .unset, .unset, .unset, .unset, .unset, .unset] [])) s20 ?_
  refine own_viaW (F' := T20.setTop (mkF m 56 #[.val (.int p0), .val (.int p1), .val (.int p2), .val (.int (n12).toInt32), .val (.int att), .val (.ref a14), .unset, .unset, .unset, .unset, .unset, .unset, .unset, .unset, .unset, .unset, .unset] [(.ref a14)])) (fun tz kz => XS.aload X20.here hx rfl (hb hby at_54) rfl rfl kz) ?_
  refine own_viaW (F' := T20.setTop (mkF m 57 #[.val (.int p0), .val (.int p1), .val (.int p2), .val (.int (n12).toInt32), .val (.int att), .val (.ref a14), .unset, .unset, .unset, .unset, .unset, .unset, .unset, .unset, .unset, .unset, .unset] [(.int (3 : Int32)), (.ref a14)])) (fun tz kz => XT.iconstV X20.here hx rfl (3 : Int32) (hb hby at_56) (by decide) kz) ?_
  refine own_viaW (F' := T20.setTop (mkF m 58 #[.val (.int p0), .val (.int p1), .val (.int p2), .val (.int (n12).toInt32), .val (.int att), .val (.ref a14), .unset, .unset, .unset, .unset, .unset, .unset, .unset, .unset, .unset, .unset, .unset] [(.int p0), (.int (3 : Int32)), (.ref a14)])) (fun tz kz => XS.iloadN X20.here hx rfl (hb hby at_57) rfl kz) ?_
  refine own_viaW (F' := T20.setTop (mkF m 60 #[.val (.int p0), .val (.int p1), .val (.int p2), .val (.int (n12).toInt32), .val (.int att), .val (.ref a14), .unset, .unset, .unset, .unset, .unset, .unset, .unset, .unset, .unset, .unset, .unset] [(.int (9 : Int32)), (.int p0), (.int (3 : Int32)), (.ref a14)])) (fun tz kz => XT.bipushV X20.here hx rfl (9 : Int32) (hb hby at_58) (by decide) kz) ?_
  refine own_viaW (F' := T20.setTop (mkF m 61 #[.val (.int p0), .val (.int p1), .val (.int p2), .val (.int (n12).toInt32), .val (.int att), .val (.ref a14), .unset, .unset, .unset, .unset, .unset, .unset, .unset, .unset, .unset, .unset, .unset] [(.int (XT.ushr p0 (9 : Int32))), (.int (3 : Int32)), (.ref a14)])) (fun tz kz => XT.iushr X20.here hx rfl (hb hby at_60) rfl kz) ?_
  refine own_viaW (F' := T20.setTop (mkF m 63 #[.val (.int p0), .val (.int p1), .val (.int p2), .val (.int (n12).toInt32), .val (.int att), .val (.ref a14), .unset, .unset, .unset, .unset, .unset, .unset, .unset, .unset, .unset, .unset, .unset] [(.int (7 : Int32)), (.int (XT.ushr p0 (9 : Int32))), (.int (3 : Int32)), (.ref a14)])) (fun tz kz => XT.bipushV X20.here hx rfl (7 : Int32) (hb hby at_61) (by decide) kz) ?_
  obtain ⟨n21, u21, b21⟩ := own_andN (XT.ushr p0 (9 : Int32)) (7 : Int32) 7 (by decide)
  refine own_viaW (F' := T20.setTop (mkF m 64 #[.val (.int p0), .val (.int p1), .val (.int p2), .val (.int (n12).toInt32), .val (.int att), .val (.ref a14), .unset, .unset, .unset, .unset, .unset, .unset, .unset, .unset, .unset, .unset, .unset] [(.int (n21).toInt32), (.int (3 : Int32)), (.ref a14)])) (fun tz kz => XS.iand X20.here hx rfl (hb hby at_63) rfl (by rw [u21]; exact kz)) ?_
  obtain ⟨T22, h22, X22, e22, W22, s22⟩ := F20.store X20 hx hZ e20 (j := 3) rfl (by decide) (by decide) (g := (mkF m 64 #[.val (.int p0), .val (.int p1), .val (.int p2), .val (.int (n12).toInt32), .val (.int att), .val (.ref a14), .unset, .unset, .unset, .unset, .unset, .unset, .unset, .unset, .unset, .unset, .unset] [(.int (n21).toInt32), (.int (3 : Int32)), (.ref a14)])) rfl rfl (hb hby at_64)
  have F22 : own_I Z h22 a14 (5) (fun zz => if zz = 3 then n21 else y20 zz) := F20.set W22 (y := n21) rfl
  obtain ⟨y22, Y22⟩ : ∃ z : Nat → Nat, z = fun zz => if zz = 3 then n21 else y20 zz := ⟨_, rfl⟩
  rw [← Y22] at F22
  have N22 := Fr.snoc X22 N20 G14
  refine own_viaW (F' := T22.setTop (mkF m 65 #[.val (.int p0), .val (.int p1), .val (.int p2), .val (.int (n12).toInt32), .val (.int att), .val (.ref a14), .unset, .unset, .unset, .unset, .unset, .unset, .unset, .unset, .unset, .unset, .unset] [])) s22 ?_
  refine own_viaW (F' := T22.setTop (mkF m 67 #[.val (.int p0), .val (.int p1), .val (.int p2), .val (.int (n12).toInt32), .val (.int att), .val (.ref a14), .unset, .unset, .unset, .unset, .unset, .unset, .unset, .unset, .unset, .unset, .unset] [(.ref a14)])) (fun tz kz => XS.aload X22.here hx rfl (hb hby at_65) rfl rfl kz) ?_
  refine own_viaW (F' := T22.setTop (mkF m 68 #[.val (.int p0), .val (.int p1), .val (.int p2), .val (.int (n12).toInt32), .val (.int att), .val (.ref a14), .unset, .unset, .unset, .unset, .unset, .unset, .unset, .unset, .unset, .unset, .unset] [(.int (4 : Int32)), (.ref a14)])) (fun tz kz => XT.iconstV X22.here hx rfl (4 : Int32) (hb hby at_67) (by decide) kz) ?_
  refine own_viaW (F' := T22.setTop (mkF m 69 #[.val (.int p0), .val (.int p1), .val (.int p2), .val (.int (n12).toInt32), .val (.int att), .val (.ref a14), .unset, .unset, .unset, .unset, .unset, .unset, .unset, .unset, .unset, .unset, .unset] [(.int p0), (.int (4 : Int32)), (.ref a14)])) (fun tz kz => XS.iloadN X22.here hx rfl (hb hby at_68) rfl kz) ?_
  refine own_viaW (F' := T22.setTop (mkF m 71 #[.val (.int p0), .val (.int p1), .val (.int p2), .val (.int (n12).toInt32), .val (.int att), .val (.ref a14), .unset, .unset, .unset, .unset, .unset, .unset, .unset, .unset, .unset, .unset, .unset] [(.int (12 : Int32)), (.int p0), (.int (4 : Int32)), (.ref a14)])) (fun tz kz => XT.bipushV X22.here hx rfl (12 : Int32) (hb hby at_69) (by decide) kz) ?_
  refine own_viaW (F' := T22.setTop (mkF m 72 #[.val (.int p0), .val (.int p1), .val (.int p2), .val (.int (n12).toInt32), .val (.int att), .val (.ref a14), .unset, .unset, .unset, .unset, .unset, .unset, .unset, .unset, .unset, .unset, .unset] [(.int (XT.ushr p0 (12 : Int32))), (.int (4 : Int32)), (.ref a14)])) (fun tz kz => XT.iushr X22.here hx rfl (hb hby at_71) rfl kz) ?_
  refine own_viaW (F' := T22.setTop (mkF m 74 #[.val (.int p0), .val (.int p1), .val (.int p2), .val (.int (n12).toInt32), .val (.int att), .val (.ref a14), .unset, .unset, .unset, .unset, .unset, .unset, .unset, .unset, .unset, .unset, .unset] [(.int (7 : Int32)), (.int (XT.ushr p0 (12 : Int32))), (.int (4 : Int32)), (.ref a14)])) (fun tz kz => XT.bipushV X22.here hx rfl (7 : Int32) (hb hby at_72) (by decide) kz) ?_
  obtain ⟨n23, u23, b23⟩ := own_andN (XT.ushr p0 (12 : Int32)) (7 : Int32) 7 (by decide)
  refine own_viaW (F' := T22.setTop (mkF m 75 #[.val (.int p0), .val (.int p1), .val (.int p2), .val (.int (n12).toInt32), .val (.int att), .val (.ref a14), .unset, .unset, .unset, .unset, .unset, .unset, .unset, .unset, .unset, .unset, .unset] [(.int (n23).toInt32), (.int (4 : Int32)), (.ref a14)])) (fun tz kz => XS.iand X22.here hx rfl (hb hby at_74) rfl (by rw [u23]; exact kz)) ?_
  obtain ⟨T24, h24, X24, e24, W24, s24⟩ := F22.store X22 hx hZ e22 (j := 4) rfl (by decide) (by decide) (g := (mkF m 75 #[.val (.int p0), .val (.int p1), .val (.int p2), .val (.int (n12).toInt32), .val (.int att), .val (.ref a14), .unset, .unset, .unset, .unset, .unset, .unset, .unset, .unset, .unset, .unset, .unset] [(.int (n23).toInt32), (.int (4 : Int32)), (.ref a14)])) rfl rfl (hb hby at_75)
  have F24 : own_I Z h24 a14 (5) (fun zz => if zz = 4 then n23 else y22 zz) := F22.set W24 (y := n23) rfl
  obtain ⟨y24, Y24⟩ : ∃ z : Nat → Nat, z = fun zz => if zz = 4 then n23 else y22 zz := ⟨_, rfl⟩
  rw [← Y24] at F24
  have N24 := Fr.snoc X24 N22 G14
  refine own_viaW (F' := T24.setTop (mkF m 76 #[.val (.int p0), .val (.int p1), .val (.int p2), .val (.int (n12).toInt32), .val (.int att), .val (.ref a14), .unset, .unset, .unset, .unset, .unset, .unset, .unset, .unset, .unset, .unset, .unset] [])) s24 ?_
  refine own_viaW (F' := T24.setTop (mkF m 78 #[.val (.int p0), .val (.int p1), .val (.int p2), .val (.int (n12).toInt32), .val (.int att), .val (.ref a14), .unset, .unset, .unset, .unset, .unset, .unset, .unset, .unset, .unset, .unset, .unset] [(.ref a14)])) (fun tz kz => XS.aload X24.here hx rfl (hb hby at_76) rfl rfl kz) ?_
  refine own_viaW (F' := T24.setTop (mkF m 79 #[.val (.int p0), .val (.int p1), .val (.int p2), .val (.int (n12).toInt32), .val (.int att), .val (.ref a14), .unset, .unset, .unset, .unset, .unset, .unset, .unset, .unset, .unset, .unset, .unset] [(.int (0 : Int32)), (.ref a14)])) (fun tz kz => XT.iconstV X24.here hx rfl (0 : Int32) (hb hby at_78) (by decide) kz) ?_
  refine own_viaW (F' := T24.setTop (mkF m 80 #[.val (.int p0), .val (.int p1), .val (.int p2), .val (.int (n12).toInt32), .val (.int att), .val (.ref a14), .unset, .unset, .unset, .unset, .unset, .unset, .unset, .unset, .unset, .unset, .unset] [(.int (y24 0).toInt32)])) (fun tz kz => F24.load X24 hx hZ e24 (j := 0) rfl (by decide) (by decide) rfl (g := (mkF m 79 #[.val (.int p0), .val (.int p1), .val (.int p2), .val (.int (n12).toInt32), .val (.int att), .val (.ref a14), .unset, .unset, .unset, .unset, .unset, .unset, .unset, .unset, .unset, .unset, .unset] [(.int (0 : Int32)), (.ref a14)])) rfl rfl (hb hby at_79) tz kz) ?_
  have hcc : ∀ k, y24 k < 8 := fun k => by rw [Y24, Y22, Y20, Y18, Y16]; dsimp only; (repeat' split) <;> omega
  have f25 := ((((((O0.ext E14).wr W16 G14).wr W18 G14).wr W20 G14).wr W22 G14).wr W24 G14)
  have hk27 := (((((((Keep.refl h0 [a14]).ext E14).wr W16 (Or.inl (List.mem_of_getElem? (i := 0) rfl))).wr W18 (Or.inl (List.mem_of_getElem? (i := 0) rfl))).wr W20 (Or.inl (List.mem_of_getElem? (i := 0) rfl))).wr W22 (Or.inl (List.mem_of_getElem? (i := 0) rfl))).wr W24 (Or.inl (List.mem_of_getElem? (i := 0) rfl))).1
  have c28 := CH0.trans (CHr.ext E14 CH0.1)
  have c29 := c28.trans (CHr.wr W16 (J14.safe hZ.alike) c28.1)
  have c30 := c29.trans (CHr.wr W18 (F16.safe hZ.alike) c29.1)
  have c31 := c30.trans (CHr.wr W20 (F18.safe hZ.alike) c30.1)
  have c32 := c31.trans (CHr.wr W22 (F20.safe hZ.alike) c31.1)
  have c33 := c32.trans (CHr.wr W24 (F22.safe hZ.alike) c32.1)
  refine own_callSX X24 hx hZ hEL hS hk27 c33 (own_ktk l Z az hw (y24 0) kS kW (hcc 0) h24 n0 f25 SY WO) hown (hw _ (List.mem_of_getElem? (i := 2) rfl)) (hw _ (List.mem_of_getElem? (i := 3) rfl)) (hw _ (List.mem_of_getElem? (i := 4) rfl)) (hw _ (List.mem_of_getElem? (i := 5) rfl)) (by decide) e24 (g := (mkF m 80 #[.val (.int p0), .val (.int p1), .val (.int p2), .val (.int (n12).toInt32), .val (.int att), .val (.ref a14), .unset, .unset, .unset, .unset, .unset, .unset, .unset, .unset, .unset, .unset, .unset] [(.int (y24 0).toInt32)])) rfl (by rw [hml]; rfl) (argsL := [(.int (y24 0).toInt32)]) (rest := []) rfl (lenOf own_pd13 rfl) rfl 0 (by show 2 * 0 + _ ≤ _; exact Nat.le_of_eq rfl) (hb hby at_80) (by decide) (by decide) (by decide) (by decide) ?_
  intro v26 T26 L26 hQ26 X26 hS hZ hown c26
  obtain ⟨t26, rfl, M26, K26, g26, A26⟩ := hQ26
  refine own_viaW (F' := T26.setTop (mkF m 83 #[.val (.int p0), .val (.int p1), .val (.int p2), .val (.int (n12).toInt32), .val (.int att), .val (.ref a14), .unset, .unset, .unset, .unset, .unset, .unset, .unset, .unset, .unset, .unset, .unset] [(.ref t26)])) (fun tz kz => kz) ?_
  refine own_viaW (F' := T26.setTop (mkF m 85 #[.val (.int p0), .val (.int p1), .val (.int p2), .val (.int (n12).toInt32), .val (.int att), .val (.ref a14), .val (.ref t26), .unset, .unset, .unset, .unset, .unset, .unset, .unset, .unset, .unset, .unset] [])) (fun tz kz => XS.astore X26.here hx rfl (hb hby at_83) rfl rfl (l' := #[.val (.int p0), .val (.int p1), .val (.int p2), .val (.int (n12).toInt32), .val (.int att), .val (.ref a14), .val (.ref t26), .unset, .unset, .unset, .unset, .unset, .unset, .unset, .unset, .unset, .unset]) rfl kz) ?_
  refine own_viaW (F' := T26.setTop (mkF m 87 #[.val (.int p0), .val (.int p1), .val (.int p2), .val (.int (n12).toInt32), .val (.int att), .val (.ref a14), .val (.ref t26), .unset, .unset, .unset, .unset, .unset, .unset, .unset, .unset, .unset, .unset] [(.ref a14)])) (fun tz kz => XS.aload X26.here hx rfl (hb hby at_85) rfl rfl kz) ?_
  refine own_viaW (F' := T26.setTop (mkF m 88 #[.val (.int p0), .val (.int p1), .val (.int p2), .val (.int (n12).toInt32), .val (.int att), .val (.ref a14), .val (.ref t26), .unset, .unset, .unset, .unset, .unset, .unset, .unset, .unset, .unset, .unset] [(.int (1 : Int32)), (.ref a14)])) (fun tz kz => XT.iconstV X26.here hx rfl (1 : Int32) (hb hby at_87) (by decide) kz) ?_
  have f34 := (F24.keep K26 nin0)
  refine own_viaW (F' := T26.setTop (mkF m 89 #[.val (.int p0), .val (.int p1), .val (.int p2), .val (.int (n12).toInt32), .val (.int att), .val (.ref a14), .val (.ref t26), .unset, .unset, .unset, .unset, .unset, .unset, .unset, .unset, .unset, .unset] [(.int (y24 1).toInt32)])) (fun tz kz => f34.load X26 hx hZ rfl (j := 1) rfl (by decide) (by decide) rfl (g := (mkF m 88 #[.val (.int p0), .val (.int p1), .val (.int p2), .val (.int (n12).toInt32), .val (.int att), .val (.ref a14), .val (.ref t26), .unset, .unset, .unset, .unset, .unset, .unset, .unset, .unset, .unset, .unset] [(.int (1 : Int32)), (.ref a14)])) rfl rfl (hb hby at_88) tz kz) ?_
  have f35 := (f25.keep K26 all0)
  refine own_callSX X26 hx hZ hEL hS (Nat.le_refl _) c26 (own_ktk l Z az hw (y24 1) kS kW (hcc 1) T26.heap n0 f35 SY WO) hown (hw _ (List.mem_of_getElem? (i := 2) rfl)) (hw _ (List.mem_of_getElem? (i := 3) rfl)) (hw _ (List.mem_of_getElem? (i := 4) rfl)) (hw _ (List.mem_of_getElem? (i := 5) rfl)) (by decide) rfl (g := (mkF m 89 #[.val (.int p0), .val (.int p1), .val (.int p2), .val (.int (n12).toInt32), .val (.int att), .val (.ref a14), .val (.ref t26), .unset, .unset, .unset, .unset, .unset, .unset, .unset, .unset, .unset, .unset] [(.int (y24 1).toInt32)])) rfl (by rw [hml]; rfl) (argsL := [(.int (y24 1).toInt32)]) (rest := []) rfl (lenOf own_pd13 rfl) rfl 0 (by show 2 * 0 + _ ≤ _; exact Nat.le_of_eq rfl) (hb hby at_89) (by decide) (by decide) (by decide) (by decide) ?_
  intro v36 T36 L36 hQ36 X36 hS hZ hown c36
  obtain ⟨t36, rfl, M36, K36, g36, A36⟩ := hQ36
  refine own_viaW (F' := T36.setTop (mkF m 92 #[.val (.int p0), .val (.int p1), .val (.int p2), .val (.int (n12).toInt32), .val (.int att), .val (.ref a14), .val (.ref t26), .unset, .unset, .unset, .unset, .unset, .unset, .unset, .unset, .unset, .unset] [(.ref t36)])) (fun tz kz => kz) ?_
  refine own_viaW (F' := T36.setTop (mkF m 94 #[.val (.int p0), .val (.int p1), .val (.int p2), .val (.int (n12).toInt32), .val (.int att), .val (.ref a14), .val (.ref t26), .val (.ref t36), .unset, .unset, .unset, .unset, .unset, .unset, .unset, .unset, .unset] [])) (fun tz kz => XS.astore X36.here hx rfl (hb hby at_92) rfl rfl (l' := #[.val (.int p0), .val (.int p1), .val (.int p2), .val (.int (n12).toInt32), .val (.int att), .val (.ref a14), .val (.ref t26), .val (.ref t36), .unset, .unset, .unset, .unset, .unset, .unset, .unset, .unset, .unset]) rfl kz) ?_
  refine own_viaW (F' := T36.setTop (mkF m 96 #[.val (.int p0), .val (.int p1), .val (.int p2), .val (.int (n12).toInt32), .val (.int att), .val (.ref a14), .val (.ref t26), .val (.ref t36), .unset, .unset, .unset, .unset, .unset, .unset, .unset, .unset, .unset] [(.ref a14)])) (fun tz kz => XS.aload X36.here hx rfl (hb hby at_94) rfl rfl kz) ?_
  refine own_viaW (F' := T36.setTop (mkF m 97 #[.val (.int p0), .val (.int p1), .val (.int p2), .val (.int (n12).toInt32), .val (.int att), .val (.ref a14), .val (.ref t26), .val (.ref t36), .unset, .unset, .unset, .unset, .unset, .unset, .unset, .unset, .unset] [(.int (2 : Int32)), (.ref a14)])) (fun tz kz => XT.iconstV X36.here hx rfl (2 : Int32) (hb hby at_96) (by decide) kz) ?_
  have f37 := ((F24.keep K26 nin0).keep K36 nin0)
  refine own_viaW (F' := T36.setTop (mkF m 98 #[.val (.int p0), .val (.int p1), .val (.int p2), .val (.int (n12).toInt32), .val (.int att), .val (.ref a14), .val (.ref t26), .val (.ref t36), .unset, .unset, .unset, .unset, .unset, .unset, .unset, .unset, .unset] [(.int (y24 2).toInt32)])) (fun tz kz => f37.load X36 hx hZ rfl (j := 2) rfl (by decide) (by decide) rfl (g := (mkF m 97 #[.val (.int p0), .val (.int p1), .val (.int p2), .val (.int (n12).toInt32), .val (.int att), .val (.ref a14), .val (.ref t26), .val (.ref t36), .unset, .unset, .unset, .unset, .unset, .unset, .unset, .unset, .unset] [(.int (2 : Int32)), (.ref a14)])) rfl rfl (hb hby at_97) tz kz) ?_
  have f38 := (f35.keep K36 all0)
  refine own_callSX X36 hx hZ hEL hS (Nat.le_refl _) c36 (own_ktk l Z az hw (y24 2) kS kW (hcc 2) T36.heap n0 f38 SY WO) hown (hw _ (List.mem_of_getElem? (i := 2) rfl)) (hw _ (List.mem_of_getElem? (i := 3) rfl)) (hw _ (List.mem_of_getElem? (i := 4) rfl)) (hw _ (List.mem_of_getElem? (i := 5) rfl)) (by decide) rfl (g := (mkF m 98 #[.val (.int p0), .val (.int p1), .val (.int p2), .val (.int (n12).toInt32), .val (.int att), .val (.ref a14), .val (.ref t26), .val (.ref t36), .unset, .unset, .unset, .unset, .unset, .unset, .unset, .unset, .unset] [(.int (y24 2).toInt32)])) rfl (by rw [hml]; rfl) (argsL := [(.int (y24 2).toInt32)]) (rest := []) rfl (lenOf own_pd13 rfl) rfl 0 (by show 2 * 0 + _ ≤ _; exact Nat.le_of_eq rfl) (hb hby at_98) (by decide) (by decide) (by decide) (by decide) ?_
  intro v39 T39 L39 hQ39 X39 hS hZ hown c39
  obtain ⟨t39, rfl, M39, K39, g39, A39⟩ := hQ39
  refine own_viaW (F' := T39.setTop (mkF m 101 #[.val (.int p0), .val (.int p1), .val (.int p2), .val (.int (n12).toInt32), .val (.int att), .val (.ref a14), .val (.ref t26), .val (.ref t36), .unset, .unset, .unset, .unset, .unset, .unset, .unset, .unset, .unset] [(.ref t39)])) (fun tz kz => kz) ?_
  refine own_viaW (F' := T39.setTop (mkF m 103 #[.val (.int p0), .val (.int p1), .val (.int p2), .val (.int (n12).toInt32), .val (.int att), .val (.ref a14), .val (.ref t26), .val (.ref t36), .val (.ref t39), .unset, .unset, .unset, .unset, .unset, .unset, .unset, .unset] [])) (fun tz kz => XS.astore X39.here hx rfl (hb hby at_101) rfl rfl (l' := #[.val (.int p0), .val (.int p1), .val (.int p2), .val (.int (n12).toInt32), .val (.int att), .val (.ref a14), .val (.ref t26), .val (.ref t36), .val (.ref t39), .unset, .unset, .unset, .unset, .unset, .unset, .unset, .unset]) rfl kz) ?_
  refine own_viaW (F' := T39.setTop (mkF m 105 #[.val (.int p0), .val (.int p1), .val (.int p2), .val (.int (n12).toInt32), .val (.int att), .val (.ref a14), .val (.ref t26), .val (.ref t36), .val (.ref t39), .unset, .unset, .unset, .unset, .unset, .unset, .unset, .unset] [(.ref a14)])) (fun tz kz => XS.aload X39.here hx rfl (hb hby at_103) rfl rfl kz) ?_
  refine own_viaW (F' := T39.setTop (mkF m 106 #[.val (.int p0), .val (.int p1), .val (.int p2), .val (.int (n12).toInt32), .val (.int att), .val (.ref a14), .val (.ref t26), .val (.ref t36), .val (.ref t39), .unset, .unset, .unset, .unset, .unset, .unset, .unset, .unset] [(.int (3 : Int32)), (.ref a14)])) (fun tz kz => XT.iconstV X39.here hx rfl (3 : Int32) (hb hby at_105) (by decide) kz) ?_
  have f40 := (((F24.keep K26 nin0).keep K36 nin0).keep K39 nin0)
  refine own_viaW (F' := T39.setTop (mkF m 107 #[.val (.int p0), .val (.int p1), .val (.int p2), .val (.int (n12).toInt32), .val (.int att), .val (.ref a14), .val (.ref t26), .val (.ref t36), .val (.ref t39), .unset, .unset, .unset, .unset, .unset, .unset, .unset, .unset] [(.int (y24 3).toInt32)])) (fun tz kz => f40.load X39 hx hZ rfl (j := 3) rfl (by decide) (by decide) rfl (g := (mkF m 106 #[.val (.int p0), .val (.int p1), .val (.int p2), .val (.int (n12).toInt32), .val (.int att), .val (.ref a14), .val (.ref t26), .val (.ref t36), .val (.ref t39), .unset, .unset, .unset, .unset, .unset, .unset, .unset, .unset] [(.int (3 : Int32)), (.ref a14)])) rfl rfl (hb hby at_106) tz kz) ?_
  have f41 := (f38.keep K39 all0)
  refine own_callSX X39 hx hZ hEL hS (Nat.le_refl _) c39 (own_ktk l Z az hw (y24 3) kS kW (hcc 3) T39.heap n0 f41 SY WO) hown (hw _ (List.mem_of_getElem? (i := 2) rfl)) (hw _ (List.mem_of_getElem? (i := 3) rfl)) (hw _ (List.mem_of_getElem? (i := 4) rfl)) (hw _ (List.mem_of_getElem? (i := 5) rfl)) (by decide) rfl (g := (mkF m 107 #[.val (.int p0), .val (.int p1), .val (.int p2), .val (.int (n12).toInt32), .val (.int att), .val (.ref a14), .val (.ref t26), .val (.ref t36), .val (.ref t39), .unset, .unset, .unset, .unset, .unset, .unset, .unset, .unset] [(.int (y24 3).toInt32)])) rfl (by rw [hml]; rfl) (argsL := [(.int (y24 3).toInt32)]) (rest := []) rfl (lenOf own_pd13 rfl) rfl 0 (by show 2 * 0 + _ ≤ _; exact Nat.le_of_eq rfl) (hb hby at_107) (by decide) (by decide) (by decide) (by decide) ?_
  intro v42 T42 L42 hQ42 X42 hS hZ hown c42
  obtain ⟨t42, rfl, M42, K42, g42, A42⟩ := hQ42
  refine own_viaW (F' := T42.setTop (mkF m 110 #[.val (.int p0), .val (.int p1), .val (.int p2), .val (.int (n12).toInt32), .val (.int att), .val (.ref a14), .val (.ref t26), .val (.ref t36), .val (.ref t39), .unset, .unset, .unset, .unset, .unset, .unset, .unset, .unset] [(.ref t42)])) (fun tz kz => kz) ?_
  refine own_viaW (F' := T42.setTop (mkF m 112 #[.val (.int p0), .val (.int p1), .val (.int p2), .val (.int (n12).toInt32), .val (.int att), .val (.ref a14), .val (.ref t26), .val (.ref t36), .val (.ref t39), .val (.ref t42), .unset, .unset, .unset, .unset, .unset, .unset, .unset] [])) (fun tz kz => XS.astore X42.here hx rfl (hb hby at_110) rfl rfl (l' := #[.val (.int p0), .val (.int p1), .val (.int p2), .val (.int (n12).toInt32), .val (.int att), .val (.ref a14), .val (.ref t26), .val (.ref t36), .val (.ref t39), .val (.ref t42), .unset, .unset, .unset, .unset, .unset, .unset, .unset]) rfl kz) ?_
  refine own_viaW (F' := T42.setTop (mkF m 114 #[.val (.int p0), .val (.int p1), .val (.int p2), .val (.int (n12).toInt32), .val (.int att), .val (.ref a14), .val (.ref t26), .val (.ref t36), .val (.ref t39), .val (.ref t42), .unset, .unset, .unset, .unset, .unset, .unset, .unset] [(.ref a14)])) (fun tz kz => XS.aload X42.here hx rfl (hb hby at_112) rfl rfl kz) ?_
  refine own_viaW (F' := T42.setTop (mkF m 115 #[.val (.int p0), .val (.int p1), .val (.int p2), .val (.int (n12).toInt32), .val (.int att), .val (.ref a14), .val (.ref t26), .val (.ref t36), .val (.ref t39), .val (.ref t42), .unset, .unset, .unset, .unset, .unset, .unset, .unset] [(.int (4 : Int32)), (.ref a14)])) (fun tz kz => XT.iconstV X42.here hx rfl (4 : Int32) (hb hby at_114) (by decide) kz) ?_
  have f43 := ((((F24.keep K26 nin0).keep K36 nin0).keep K39 nin0).keep K42 nin0)
  refine own_viaW (F' := T42.setTop (mkF m 116 #[.val (.int p0), .val (.int p1), .val (.int p2), .val (.int (n12).toInt32), .val (.int att), .val (.ref a14), .val (.ref t26), .val (.ref t36), .val (.ref t39), .val (.ref t42), .unset, .unset, .unset, .unset, .unset, .unset, .unset] [(.int (y24 4).toInt32)])) (fun tz kz => f43.load X42 hx hZ rfl (j := 4) rfl (by decide) (by decide) rfl (g := (mkF m 115 #[.val (.int p0), .val (.int p1), .val (.int p2), .val (.int (n12).toInt32), .val (.int att), .val (.ref a14), .val (.ref t26), .val (.ref t36), .val (.ref t39), .val (.ref t42), .unset, .unset, .unset, .unset, .unset, .unset, .unset] [(.int (4 : Int32)), (.ref a14)])) rfl rfl (hb hby at_115) tz kz) ?_
  have f44 := (f41.keep K42 all0)
  refine own_callSX X42 hx hZ hEL hS (Nat.le_refl _) c42 (own_ktk l Z az hw (y24 4) kS kW (hcc 4) T42.heap n0 f44 SY WO) hown (hw _ (List.mem_of_getElem? (i := 2) rfl)) (hw _ (List.mem_of_getElem? (i := 3) rfl)) (hw _ (List.mem_of_getElem? (i := 4) rfl)) (hw _ (List.mem_of_getElem? (i := 5) rfl)) (by decide) rfl (g := (mkF m 116 #[.val (.int p0), .val (.int p1), .val (.int p2), .val (.int (n12).toInt32), .val (.int att), .val (.ref a14), .val (.ref t26), .val (.ref t36), .val (.ref t39), .val (.ref t42), .unset, .unset, .unset, .unset, .unset, .unset, .unset] [(.int (y24 4).toInt32)])) rfl (by rw [hml]; rfl) (argsL := [(.int (y24 4).toInt32)]) (rest := []) rfl (lenOf own_pd13 rfl) rfl 0 (by show 2 * 0 + _ ≤ _; exact Nat.le_of_eq rfl) (hb hby at_116) (by decide) (by decide) (by decide) (by decide) ?_
  intro v45 T45 L45 hQ45 X45 hS hZ hown c45
  obtain ⟨t45, rfl, M45, K45, g45, A45⟩ := hQ45
  refine own_viaW (F' := T45.setTop (mkF m 119 #[.val (.int p0), .val (.int p1), .val (.int p2), .val (.int (n12).toInt32), .val (.int att), .val (.ref a14), .val (.ref t26), .val (.ref t36), .val (.ref t39), .val (.ref t42), .unset, .unset, .unset, .unset, .unset, .unset, .unset] [(.ref t45)])) (fun tz kz => kz) ?_
  refine own_viaW (F' := T45.setTop (mkF m 121 #[.val (.int p0), .val (.int p1), .val (.int p2), .val (.int (n12).toInt32), .val (.int att), .val (.ref a14), .val (.ref t26), .val (.ref t36), .val (.ref t39), .val (.ref t42), .val (.ref t45), .unset, .unset, .unset, .unset, .unset, .unset] [])) (fun tz kz => XS.astore X45.here hx rfl (hb hby at_119) rfl rfl (l' := #[.val (.int p0), .val (.int p1), .val (.int p2), .val (.int (n12).toInt32), .val (.int att), .val (.ref a14), .val (.ref t26), .val (.ref t36), .val (.ref t39), .val (.ref t42), .val (.ref t45), .unset, .unset, .unset, .unset, .unset, .unset]) rfl kz) ?_
  have f46 := (((((((((((A0.ext E14).other W16 (own_ne (by omega))).other W18 (own_ne (by omega))).other W20 (own_ne (by omega))).other W22 (own_ne (by omega))).other W24 (own_ne (by omega))).keep K26 nin0).keep K36 nin0).keep K39 nin0).keep K42 nin0).keep K45 nin0)
  have f47 := (own_Tok.keep hw (own_Tok.keep hw (own_Tok.keep hw (own_Tok.keep hw A26 K36 all0) K39 all0) K42 all0) K45 all0)
  have f48 := (own_Tok.keep hw (own_Tok.keep hw (own_Tok.keep hw A36 K39 all0) K42 all0) K45 all0)
  have f49 := (own_Tok.keep hw (own_Tok.keep hw A39 K42 all0) K45 all0)
  have f50 := (own_Tok.keep hw A42 K45 all0)
  have f51 := (((((F24.keep K26 nin0).keep K36 nin0).keep K39 nin0).keep K42 nin0).keep K45 nin0)
  have f52 := (f44.keep K45 all0)
  obtain ⟨T53, h53, X53, e53, E53, A53, D53, -, s53⟩ := newO X45 hx hZ hown (hw _ (List.mem_of_getElem? (i := 39) rfl)) (hw _ (List.mem_of_getElem? (i := 40) rfl)) (hw _ (List.mem_of_getElem? (i := 41) rfl)) rfl (g := (mkF m 121 #[.val (.int p0), .val (.int p1), .val (.int p2), .val (.int (n12).toInt32), .val (.int att), .val (.ref a14), .val (.ref t26), .val (.ref t36), .val (.ref t39), .val (.ref t42), .val (.ref t45), .unset, .unset, .unset, .unset, .unset, .unset] [])) rfl (hb hby at_121) (by decide) (by decide)
  obtain ⟨a53, g53⟩ : ∃ z, z = T45.heap.size := ⟨_, rfl⟩
  rw [← g53] at A53 D53 s53
  have G53 : n0 ≤ a53 := by have q := f52.2.1; have q2 := f52.1; omega
  have D54 : Fld Z h53 a53 "java/util/AbstractList" "modCount" "I" (.int (0 : Int32)) := D53 (Or.inl (hw _ (List.mem_of_getElem? (i := 59) rfl))) (ty := .int) (by decide)
  have D55 : Fld Z h53 a53 "java/util/ArrayList" "elementData" "[Ljava/lang/Object;" .null := D53 (Or.inl (hw _ (List.mem_of_getElem? (i := 62) rfl))) (ty := (.array (.object "java/lang/Object"))) (by decide)
  have D56 : Fld Z h53 a53 "java/util/ArrayList" "size" "I" (.int (0 : Int32)) := D53 (Or.inl (hw _ (List.mem_of_getElem? (i := 71) rfl))) (ty := .int) (by decide)
  refine own_viaW (F' := T53.setTop (mkF m 124 #[.val (.int p0), .val (.int p1), .val (.int p2), .val (.int (n12).toInt32), .val (.int att), .val (.ref a14), .val (.ref t26), .val (.ref t36), .val (.ref t39), .val (.ref t42), .val (.ref t45), .unset, .unset, .unset, .unset, .unset, .unset] [(.ref a53)])) s53 ?_
  have lt53_a14 : a14 < a53 := by have q := own_n f51.lt; omega
  have lt53_d0 : d0 < a53 := by have q := own_n f46.lt; omega
  have lt53_t26 : t26 < a53 := by have q := own_n f47.lt; omega
  have lt53_t36 : t36 < a53 := by have q := own_n f48.lt; omega
  have lt53_t39 : t39 < a53 := by have q := own_n f49.lt; omega
  have lt53_t42 : t42 < a53 := by have q := own_n f50.lt; omega
  have lt53_t45 : t45 < a53 := by have q := own_n A45.lt; omega
  refine own_viaW (F' := T53.setTop (mkF m 125 #[.val (.int p0), .val (.int p1), .val (.int p2), .val (.int (n12).toInt32), .val (.int att), .val (.ref a14), .val (.ref t26), .val (.ref t36), .val (.ref t39), .val (.ref t42), .val (.ref t45), .unset, .unset, .unset, .unset, .unset, .unset] [(.ref a53), (.ref a53)])) (fun tz kz => XS.dup X53.here hx rfl (hb hby at_124) rfl rfl kz) ?_
  have f57 := (f52.ext E53)
  refine own_callIW X53 hx hZ (own_kAL l Z az hw a53 h53 n0 A53 D55 D56 D54 G53 d0 DS f57) hown rfl (hw _ (List.mem_of_getElem? (i := 42) rfl)) (hw _ (List.mem_of_getElem? (i := 43) rfl)) (hw _ (List.mem_of_getElem? (i := 41) rfl)) (hw _ (List.mem_of_getElem? (i := 44) rfl)) (by decide) e53 (g := (mkF m 125 #[.val (.int p0), .val (.int p1), .val (.int p2), .val (.int (n12).toInt32), .val (.int att), .val (.ref a14), .val (.ref t26), .val (.ref t36), .val (.ref t39), .val (.ref t42), .val (.ref t45), .unset, .unset, .unset, .unset, .unset, .unset] [(.ref a53), (.ref a53)])) rfl (by rw [hml]; rfl) (argsL := []) (rest := [(.ref a53)]) rfl (lenOf own_pd1 rfl) rfl 1 (by show 2 * 0 + _ ≤ _; exact Nat.le_of_eq rfl) (hb hby at_125) (by decide) (by decide) (by decide) (by decide) ?_
  intro v58 T58 L58 hQ58 X58
  obtain ⟨rfl, M58, K58, E58, elementData58, size58, modCount58⟩ := hQ58
  have na59 : d0 < a53 := by omega
  refine own_viaW (F' := T58.setTop (mkF m 128 #[.val (.int p0), .val (.int p1), .val (.int p2), .val (.int (n12).toInt32), .val (.int att), .val (.ref a14), .val (.ref t26), .val (.ref t36), .val (.ref t39), .val (.ref t42), .val (.ref t45), .unset, .unset, .unset, .unset, .unset, .unset] [(.ref a53)])) (fun tz kz => kz) ?_
  refine own_viaW (F' := T58.setTop (mkF m 130 #[.val (.int p0), .val (.int p1), .val (.int p2), .val (.int (n12).toInt32), .val (.int att), .val (.ref a14), .val (.ref t26), .val (.ref t36), .val (.ref t39), .val (.ref t42), .val (.ref t45), .val (.ref a53), .unset, .unset, .unset, .unset, .unset] [])) (fun tz kz => XS.astore X58.here hx rfl (hb hby at_128) rfl rfl (l' := #[.val (.int p0), .val (.int p1), .val (.int p2), .val (.int (n12).toInt32), .val (.int att), .val (.ref a14), .val (.ref t26), .val (.ref t36), .val (.ref t39), .val (.ref t42), .val (.ref t45), .val (.ref a53), .unset, .unset, .unset, .unset, .unset]) rfl kz) ?_
  have hatt2 : (att = -2 ∨ att = -1) ∨ ∃ A : Nat, A ≤ n12 ∧ att = A.toInt32 := by
    by_cases q0 : mm = 0
    · left; left; rw [hatt, q0]; rfl
    · by_cases q1 : mm = 1
      · left; right; rw [hatt, q1]; rfl
      · right
        refine ⟨mm - 2, by omega, ?_⟩
        have q2 : mm = (mm - 2) + 2 := by omega
        rw [hatt]
        calc (mm).toInt32 - 2 = ((mm - 2) + 2 : Nat).toInt32 - 2 := by rw [← q2]
          _ = ((mm - 2).toInt32 + (2 : Nat).toInt32) - 2 := by rw [own_add]
          _ = (mm - 2).toInt32 := by show (mm - 2).toInt32 + (2 : Int32) - (2 : Int32) = _; rw [Int32.add_sub_cancel]
  have tail : ∀ (vm : Vm) (T : State) (h : Heap) (L : List Loc) (k0 : Nat), Stand p l e room_1 (s.setVm vm) m #[(.int p0), (.int p1), (.int p2)] below meth c T L 18 78 → T.heap = h → s.Since vm k0 → k0 ≤ h.size → Z.Warmed39 (s.setVm vm).vm → (s.setVm vm).vm.findClass "com/example/isocline/isocline/core/sql/TokensOpeningPinLaw" = some m.cls → CHr Z consts_1 s.vm s.heap vm h → Fr n0 L → own_LS Z h a53 n12 (fun i => if i = 0 then t26 else if i = 1 then t36 else if i = 2 then t39 else if i = 3 then t42 else t45) (fun i => own_kd kS kW (y24 i)) (fun i => own_ch (y24 i)) → Old Z n0 h → own_I Z h a14 5 y24 →
      own_GoW Z consts_1 p e below s (fun r h L => r = some (.int 1) ∧ Fr n0 L) room_1.cells room_1.slots (T.setTop (mkF m 194 #[.val (.int p0), .val (.int p1), .val (.int p2), .val (.int (n12).toInt32), .val (.int att), .val (.ref a14), .val (.ref t26), .val (.ref t36), .val (.ref t39), .val (.ref t42), .val (.ref t45), .val (.ref a53), .unset, .unset, .unset, .unset, .unset] [])) := by
    intro vm T h L k0 X e1 hS hk hZ hown CH N1 LSx Ox Ix
    obtain ⟨T60, h60, X60, e60, E60, A60, D60, -, s60⟩ := newO X hx hZ hown (hw _ (List.mem_of_getElem? (i := 94) rfl)) (hw _ (List.mem_of_getElem? (i := 95) rfl)) (hw _ (List.mem_of_getElem? (i := 96) rfl)) e1 (g := (mkF m 194 #[.val (.int p0), .val (.int p1), .val (.int p2), .val (.int (n12).toInt32), .val (.int att), .val (.ref a14), .val (.ref t26), .val (.ref t36), .val (.ref t39), .val (.ref t42), .val (.ref t45), .val (.ref a53), .unset, .unset, .unset, .unset, .unset] [])) rfl (hb hby at_194) (by decide) (by decide)
    obtain ⟨a60, g60⟩ : ∃ z, z = h.size := ⟨_, rfl⟩
    rw [← g60] at A60 D60 s60
    have G60 : n0 ≤ a60 := by have q := Ox.2.1; have q2 := Ox.1; omega
    have D61 : Fld Z h60 a60 "com/example/isocline/isocline/core/sql/Tokens" "tokens" "Ljava/util/List;" .null := D60 (Or.inr (hw _ (List.mem_of_getElem? (i := 102) rfl))) (ty := .object "java/util/List") (by decide)
    have D62 : Fld Z h60 a60 "com/example/isocline/isocline/core/sql/Tokens" "depth" "[I" .null := D60 (Or.inr (hw _ (List.mem_of_getElem? (i := 113) rfl))) (ty := (.array .int)) (by decide)
    refine own_viaW (F' := T60.setTop (mkF m 197 #[.val (.int p0), .val (.int p1), .val (.int p2), .val (.int (n12).toInt32), .val (.int att), .val (.ref a14), .val (.ref t26), .val (.ref t36), .val (.ref t39), .val (.ref t42), .val (.ref t45), .val (.ref a53), .unset, .unset, .unset, .unset, .unset] [(.ref a60)])) s60 ?_
    have lt60_a14 : a14 < a60 := by have q := own_n Ix.lt; omega
    refine own_viaW (F' := T60.setTop (mkF m 198 #[.val (.int p0), .val (.int p1), .val (.int p2), .val (.int (n12).toInt32), .val (.int att), .val (.ref a14), .val (.ref t26), .val (.ref t36), .val (.ref t39), .val (.ref t42), .val (.ref t45), .val (.ref a53), .unset, .unset, .unset, .unset, .unset] [(.ref a60), (.ref a60)])) (fun tz kz => XS.dup X60.here hx rfl (hb hby at_197) rfl rfl kz) ?_
    refine own_viaW (F' := T60.setTop (mkF m 200 #[.val (.int p0), .val (.int p1), .val (.int p2), .val (.int (n12).toInt32), .val (.int att), .val (.ref a14), .val (.ref t26), .val (.ref t36), .val (.ref t39), .val (.ref t42), .val (.ref t45), .val (.ref a53), .unset, .unset, .unset, .unset, .unset] [(.ref a53), (.ref a60), (.ref a60)])) (fun tz kz => XS.aload X60.here hx rfl (hb hby at_198) rfl rfl kz) ?_
    have f63 := (own_LS.ext hw LSx E60)
    have f64 := (Ox.ext E60)
    have hk66 := Nat.le_trans hk ((Keep.refl h []).ext E60).1
    have c67 := CH.trans (CHr.ext E60 CH.1)
    refine own_callIX X60 hx hZ hEL hS hk66 c67 (own_kT l Z az hw a60 a53 n12 kS kW (fun i => if i = 0 then t26 else if i = 1 then t36 else if i = 2 then t39 else if i = 3 then t42 else t45) y24 z hz (by omega) hcc hkk h60 n0 f64 A60 D61 D62 G60 f63 CS SY) hown rfl (hw _ (List.mem_of_getElem? (i := 97) rfl)) (hw _ (List.mem_of_getElem? (i := 98) rfl)) (hw _ (List.mem_of_getElem? (i := 96) rfl)) (hw _ (List.mem_of_getElem? (i := 99) rfl)) (by decide) e60 (g := (mkF m 200 #[.val (.int p0), .val (.int p1), .val (.int p2), .val (.int (n12).toInt32), .val (.int att), .val (.ref a14), .val (.ref t26), .val (.ref t36), .val (.ref t39), .val (.ref t42), .val (.ref t45), .val (.ref a53), .unset, .unset, .unset, .unset, .unset] [(.ref a53), (.ref a60), (.ref a60)])) rfl (by rw [hml]; rfl) (argsL := [(.ref a53)]) (rest := [(.ref a60)]) rfl (lenOf own_pd14 rfl) rfl 1 (by show 2 * 0 + _ ≤ _; exact Nat.le_of_eq rfl) (hb hby at_200) (by decide) (by decide) (by decide) (by decide) ?_
    intro v65 T65 L65 hQ65 X65 hS hZ hown c65
    obtain ⟨rfl, M65, K65, ad65, g65, E65, D65, A65⟩ := hQ65
    refine own_viaW (F' := T65.setTop (mkF m 203 #[.val (.int p0), .val (.int p1), .val (.int p2), .val (.int (n12).toInt32), .val (.int att), .val (.ref a14), .val (.ref t26), .val (.ref t36), .val (.ref t39), .val (.ref t42), .val (.ref t45), .val (.ref a53), .unset, .unset, .unset, .unset, .unset] [(.ref a60)])) (fun tz kz => kz) ?_
    refine own_viaW (F' := T65.setTop (mkF m 205 #[.val (.int p0), .val (.int p1), .val (.int p2), .val (.int (n12).toInt32), .val (.int att), .val (.ref a14), .val (.ref t26), .val (.ref t36), .val (.ref t39), .val (.ref t42), .val (.ref t45), .val (.ref a53), .val (.ref a60), .unset, .unset, .unset, .unset] [])) (fun tz kz => XS.astore X65.here hx rfl (hb hby at_203) rfl rfl (l' := #[.val (.int p0), .val (.int p1), .val (.int p2), .val (.int (n12).toInt32), .val (.int att), .val (.ref a14), .val (.ref t26), .val (.ref t36), .val (.ref t39), .val (.ref t42), .val (.ref t45), .val (.ref a53), .val (.ref a60), .unset, .unset, .unset, .unset]) rfl kz) ?_
    rcases hatt2 with hneg | ⟨A, hA, hAt⟩
    · refine own_viaW (F' := T65.setTop (mkF m 207 #[.val (.int p0), .val (.int p1), .val (.int p2), .val (.int (n12).toInt32), .val (.int att), .val (.ref a14), .val (.ref t26), .val (.ref t36), .val (.ref t39), .val (.ref t42), .val (.ref t45), .val (.ref a53), .val (.ref a60), .unset, .unset, .unset, .unset] [(.ref a60)])) (fun tz kz => XS.aload X65.here hx rfl (hb hby at_205) rfl rfl kz) ?_
      refine own_viaW (F' := T65.setTop (mkF m 209 #[.val (.int p0), .val (.int p1), .val (.int p2), .val (.int (n12).toInt32), .val (.int att), .val (.ref a14), .val (.ref t26), .val (.ref t36), .val (.ref t39), .val (.ref t42), .val (.ref t45), .val (.ref a53), .val (.ref a60), .unset, .unset, .unset, .unset] [(.int att), (.ref a60)])) (fun tz kz => XS.iload X65.here hx rfl (hb hby at_207) rfl kz) ?_
      refine own_callVW X65 hx hZ (own_kon l Z az hw a60 att hneg T65.heap n0) hown E65 (hw _ (List.mem_of_getElem? (i := 160) rfl)) (hw _ (List.mem_of_getElem? (i := 161) rfl)) (hw _ (List.mem_of_getElem? (i := 163) rfl)) (hw _ (List.mem_of_getElem? (i := 162) rfl)) (hw _ (List.mem_of_getElem? (i := 96) rfl)) (hw _ (List.mem_of_getElem? (i := 164) rfl)) (notFace_of_selects (args := #[]) (mvT hZ (hw _ (List.mem_of_getElem? (i := 163) rfl)))) (by decide) rfl (g := (mkF m 209 #[.val (.int p0), .val (.int p1), .val (.int p2), .val (.int (n12).toInt32), .val (.int att), .val (.ref a14), .val (.ref t26), .val (.ref t36), .val (.ref t39), .val (.ref t42), .val (.ref t45), .val (.ref a53), .val (.ref a60), .unset, .unset, .unset, .unset] [(.int att), (.ref a60)])) rfl (by rw [hml]; rfl) (argsL := [(.int att)]) (rest := []) rfl (lenOf own_pd15 rfl) rfl 0 (by show 2 * 0 + _ ≤ _; exact Nat.le_of_eq rfl) (hb hby at_209) (by decide) (by decide) (by decide) (by decide) ?_
      intro v68 T68 L68 hQ68 X68
      obtain ⟨rfl, e68, rfl⟩ := hQ68
      refine own_viaW (F' := T68.setTop (mkF m 212 #[.val (.int p0), .val (.int p1), .val (.int p2), .val (.int (n12).toInt32), .val (.int att), .val (.ref a14), .val (.ref t26), .val (.ref t36), .val (.ref t39), .val (.ref t42), .val (.ref t45), .val (.ref a53), .val (.ref a60), .unset, .unset, .unset, .unset] [(.int (-1 : Int32))])) (fun tz kz => kz) ?_
      refine own_viaW (F' := T68.setTop (mkF m 214 #[.val (.int p0), .val (.int p1), .val (.int p2), .val (.int (n12).toInt32), .val (.int att), .val (.ref a14), .val (.ref t26), .val (.ref t36), .val (.ref t39), .val (.ref t42), .val (.ref t45), .val (.ref a53), .val (.ref a60), .val (.int (-1 : Int32)), .unset, .unset, .unset] [])) (fun tz kz => XS.istore X68.here hx rfl (hb hby at_212) rfl (l' := #[.val (.int p0), .val (.int p1), .val (.int p2), .val (.int (n12).toInt32), .val (.int att), .val (.ref a14), .val (.ref t26), .val (.ref t36), .val (.ref t39), .val (.ref t42), .val (.ref t45), .val (.ref a53), .val (.ref a60), .val (.int (-1 : Int32)), .unset, .unset, .unset]) rfl kz) ?_
      refine own_viaW (F' := T68.setTop (mkF m 215 #[.val (.int p0), .val (.int p1), .val (.int p2), .val (.int (n12).toInt32), .val (.int att), .val (.ref a14), .val (.ref t26), .val (.ref t36), .val (.ref t39), .val (.ref t42), .val (.ref t45), .val (.ref a53), .val (.ref a60), .val (.int (-1 : Int32)), .unset, .unset, .unset] [(.int (5 : Int32))])) (fun tz kz => XT.iconstV X68.here hx rfl (5 : Int32) (hb hby at_214) (by decide) kz) ?_
      obtain ⟨T69, h69, K69, X69, e69, E69, A69, I69, s69⟩ := own_newA X68 hx hZ (aty := .int) (CC := "[I") (by decide) (hw _ (List.mem_of_getElem? (i := 1) rfl)) e68 (n := 5) rfl (by decide) (cap := 5) (by decide) (by decide) (by decide) (g := (mkF m 215 #[.val (.int p0), .val (.int p1), .val (.int p2), .val (.int (n12).toInt32), .val (.int att), .val (.ref a14), .val (.ref t26), .val (.ref t36), .val (.ref t39), .val (.ref t42), .val (.ref t45), .val (.ref a53), .val (.ref a60), .val (.int (-1 : Int32)), .unset, .unset, .unset] [(.int (5 : Int32))])) rfl rfl (hb hby at_215)
      obtain ⟨a69, g69⟩ : ∃ z, z = T65.heap.size := ⟨_, rfl⟩
      rw [← g69] at A69 s69 I69
      have f70 := ((Ix.ext E60).keep K65 (ninS (own_ne (by omega)) nin0))
      have lt69_a14 : a14 < a69 := by have q := own_n f70.lt; omega
      have lt69_a60 : a60 < a69 := by have q := own_n E65.lt; omega
      have lt69_ad65 : ad65 < a69 := by have q := own_n A65.lt; omega
      have f71 := (f64.keep K65 (allS G60 all0))
      have G69 : n0 ≤ a69 := by have q := f71.2.1; have q2 := f71.1; omega
      have J69 : own_I Z h69 a69 (5) (fun _ => 0) := ⟨_, A69⟩
      have S69 := Ins.self I69
      refine own_viaW (F' := T69.setTop (mkF m 217 #[.val (.int p0), .val (.int p1), .val (.int p2), .val (.int (n12).toInt32), .val (.int att), .val (.ref a14), .val (.ref t26), .val (.ref t36), .val (.ref t39), .val (.ref t42), .val (.ref t45), .val (.ref a53), .val (.ref a60), .val (.int (-1 : Int32)), .unset, .unset, .unset] [(.ref a69)])) s69 ?_
      refine own_viaW (F' := T69.setTop (mkF m 219 #[.val (.int p0), .val (.int p1), .val (.int p2), .val (.int (n12).toInt32), .val (.int att), .val (.ref a14), .val (.ref t26), .val (.ref t36), .val (.ref t39), .val (.ref t42), .val (.ref t45), .val (.ref a53), .val (.ref a60), .val (.int (-1 : Int32)), .val (.ref a69), .unset, .unset] [])) (fun tz kz => XS.astore X69.here hx rfl (hb hby at_217) rfl rfl (l' := #[.val (.int p0), .val (.int p1), .val (.int p2), .val (.int (n12).toInt32), .val (.int att), .val (.ref a14), .val (.ref t26), .val (.ref t36), .val (.ref t39), .val (.ref t42), .val (.ref t45), .val (.ref a53), .val (.ref a60), .val (.int (-1 : Int32)), .val (.ref a69), .unset, .unset]) rfl kz) ?_
      refine own_viaW (F' := T69.setTop (mkF m 220 #[.val (.int p0), .val (.int p1), .val (.int p2), .val (.int (n12).toInt32), .val (.int att), .val (.ref a14), .val (.ref t26), .val (.ref t36), .val (.ref t39), .val (.ref t42), .val (.ref t45), .val (.ref a53), .val (.ref a60), .val (.int (-1 : Int32)), .val (.ref a69), .unset, .unset] [(.int (0 : Int32))])) (fun tz kz => XT.iconstV X69.here hx rfl (0 : Int32) (hb hby at_219) (by decide) kz) ?_
      refine own_viaW (F' := T69.setTop (mkF m 222 #[.val (.int p0), .val (.int p1), .val (.int p2), .val (.int (n12).toInt32), .val (.int att), .val (.ref a14), .val (.ref t26), .val (.ref t36), .val (.ref t39), .val (.ref t42), .val (.ref t45), .val (.ref a53), .val (.ref a60), .val (.int (-1 : Int32)), .val (.ref a69), .val (.int (0 : Int32)), .unset] [])) (fun tz kz => XS.istore X69.here hx rfl (hb hby at_220) rfl (l' := #[.val (.int p0), .val (.int p1), .val (.int p2), .val (.int (n12).toInt32), .val (.int att), .val (.ref a14), .val (.ref t26), .val (.ref t36), .val (.ref t39), .val (.ref t42), .val (.ref t45), .val (.ref a53), .val (.ref a60), .val (.int (-1 : Int32)), .val (.ref a69), .val (.int (0 : Int32)), .unset]) rfl kz) ?_
      refine own_viaW (F' := T69.setTop (mkF m 224 #[.val (.int p0), .val (.int p1), .val (.int p2), .val (.int (n12).toInt32), .val (.int att), .val (.ref a14), .val (.ref t26), .val (.ref t36), .val (.ref t39), .val (.ref t42), .val (.ref t45), .val (.ref a53), .val (.ref a60), .val (.int (-1 : Int32)), .val (.ref a69), .val (.int (0 : Int32)), .unset] [(.int att)])) (fun tz kz => XS.iload X69.here hx rfl (hb hby at_222) rfl kz) ?_
      refine own_viaW (F' := T69.setTop (mkF m 241 #[.val (.int p0), .val (.int p1), .val (.int p2), .val (.int (n12).toInt32), .val (.int att), .val (.ref a14), .val (.ref t26), .val (.ref t36), .val (.ref t39), .val (.ref t42), .val (.ref t45), .val (.ref a53), .val (.ref a60), .val (.int (-1 : Int32)), .val (.ref a69), .val (.int (0 : Int32)), .unset] [])) (fun tz kz => XS.ifYes X69.here hx rfl (pc0 := 224) (pc' := 241) rfl (hb hby at_224) rfl (XT.i0_le_t (by rcases hneg with rfl | rfl <;> decide)) (by decide) (by decide) kz) ?_
      refine own_viaW (F' := T69.setTop (mkF m 243 #[.val (.int p0), .val (.int p1), .val (.int p2), .val (.int (n12).toInt32), .val (.int att), .val (.ref a14), .val (.ref t26), .val (.ref t36), .val (.ref t39), .val (.ref t42), .val (.ref t45), .val (.ref a53), .val (.ref a60), .val (.int (-1 : Int32)), .val (.ref a69), .val (.int (0 : Int32)), .unset] [(.int att)])) (fun tz kz => XS.iload X69.here hx rfl (hb hby at_241) rfl kz) ?_
      refine own_viaW (F' := T69.setTop (mkF m 244 #[.val (.int p0), .val (.int p1), .val (.int p2), .val (.int (n12).toInt32), .val (.int att), .val (.ref a14), .val (.ref t26), .val (.ref t36), .val (.ref t39), .val (.ref t42), .val (.ref t45), .val (.ref a53), .val (.ref a60), .val (.int (-1 : Int32)), .val (.ref a69), .val (.int (0 : Int32)), .unset] [(.int (1 : Int32)), (.int att)])) (fun tz kz => XT.iconstV X69.here hx rfl (1 : Int32) (hb hby at_243) (by decide) kz) ?_
      refine own_viaW (F' := T69.setTop (mkF m 261 #[.val (.int p0), .val (.int p1), .val (.int p2), .val (.int (n12).toInt32), .val (.int att), .val (.ref a14), .val (.ref t26), .val (.ref t36), .val (.ref t39), .val (.ref t42), .val (.ref t45), .val (.ref a53), .val (.ref a60), .val (.int (-1 : Int32)), .val (.ref a69), .val (.int (0 : Int32)), .unset] [])) (fun tz kz => XS.icmpYes X69.here hx rfl (pc0 := 244) (pc' := 261) rfl (hb hby at_244) rfl (XT.ii_le_t (by rcases hneg with rfl | rfl <;> decide)) (by decide) (by decide) kz) ?_
      refine own_viaW (F' := T69.setTop (mkF m 263 #[.val (.int p0), .val (.int p1), .val (.int p2), .val (.int (n12).toInt32), .val (.int att), .val (.ref a14), .val (.ref t26), .val (.ref t36), .val (.ref t39), .val (.ref t42), .val (.ref t45), .val (.ref a53), .val (.ref a60), .val (.int (-1 : Int32)), .val (.ref a69), .val (.int (0 : Int32)), .unset] [(.int att)])) (fun tz kz => XS.iload X69.here hx rfl (hb hby at_261) rfl kz) ?_
      refine own_viaW (F' := T69.setTop (mkF m 264 #[.val (.int p0), .val (.int p1), .val (.int p2), .val (.int (n12).toInt32), .val (.int att), .val (.ref a14), .val (.ref t26), .val (.ref t36), .val (.ref t39), .val (.ref t42), .val (.ref t45), .val (.ref a53), .val (.ref a60), .val (.int (-1 : Int32)), .val (.ref a69), .val (.int (0 : Int32)), .unset] [(.int (2 : Int32)), (.int att)])) (fun tz kz => XT.iconstV X69.here hx rfl (2 : Int32) (hb hby at_263) (by decide) kz) ?_
      refine own_viaW (F' := T69.setTop (mkF m 281 #[.val (.int p0), .val (.int p1), .val (.int p2), .val (.int (n12).toInt32), .val (.int att), .val (.ref a14), .val (.ref t26), .val (.ref t36), .val (.ref t39), .val (.ref t42), .val (.ref t45), .val (.ref a53), .val (.ref a60), .val (.int (-1 : Int32)), .val (.ref a69), .val (.int (0 : Int32)), .unset] [])) (fun tz kz => XS.icmpYes X69.here hx rfl (pc0 := 264) (pc' := 281) rfl (hb hby at_264) rfl (XT.ii_le_t (by rcases hneg with rfl | rfl <;> decide)) (by decide) (by decide) kz) ?_
      refine own_viaW (F' := T69.setTop (mkF m 283 #[.val (.int p0), .val (.int p1), .val (.int p2), .val (.int (n12).toInt32), .val (.int att), .val (.ref a14), .val (.ref t26), .val (.ref t36), .val (.ref t39), .val (.ref t42), .val (.ref t45), .val (.ref a53), .val (.ref a60), .val (.int (-1 : Int32)), .val (.ref a69), .val (.int (0 : Int32)), .unset] [(.int att)])) (fun tz kz => XS.iload X69.here hx rfl (hb hby at_281) rfl kz) ?_
      refine own_viaW (F' := T69.setTop (mkF m 284 #[.val (.int p0), .val (.int p1), .val (.int p2), .val (.int (n12).toInt32), .val (.int att), .val (.ref a14), .val (.ref t26), .val (.ref t36), .val (.ref t39), .val (.ref t42), .val (.ref t45), .val (.ref a53), .val (.ref a60), .val (.int (-1 : Int32)), .val (.ref a69), .val (.int (0 : Int32)), .unset] [(.int (3 : Int32)), (.int att)])) (fun tz kz => XT.iconstV X69.here hx rfl (3 : Int32) (hb hby at_283) (by decide) kz) ?_
      refine own_viaW (F' := T69.setTop (mkF m 301 #[.val (.int p0), .val (.int p1), .val (.int p2), .val (.int (n12).toInt32), .val (.int att), .val (.ref a14), .val (.ref t26), .val (.ref t36), .val (.ref t39), .val (.ref t42), .val (.ref t45), .val (.ref a53), .val (.ref a60), .val (.int (-1 : Int32)), .val (.ref a69), .val (.int (0 : Int32)), .unset] [])) (fun tz kz => XS.icmpYes X69.here hx rfl (pc0 := 284) (pc' := 301) rfl (hb hby at_284) rfl (XT.ii_le_t (by rcases hneg with rfl | rfl <;> decide)) (by decide) (by decide) kz) ?_
      refine own_viaW (F' := T69.setTop (mkF m 303 #[.val (.int p0), .val (.int p1), .val (.int p2), .val (.int (n12).toInt32), .val (.int att), .val (.ref a14), .val (.ref t26), .val (.ref t36), .val (.ref t39), .val (.ref t42), .val (.ref t45), .val (.ref a53), .val (.ref a60), .val (.int (-1 : Int32)), .val (.ref a69), .val (.int (0 : Int32)), .unset] [(.int att)])) (fun tz kz => XS.iload X69.here hx rfl (hb hby at_301) rfl kz) ?_
      refine own_viaW (F' := T69.setTop (mkF m 304 #[.val (.int p0), .val (.int p1), .val (.int p2), .val (.int (n12).toInt32), .val (.int att), .val (.ref a14), .val (.ref t26), .val (.ref t36), .val (.ref t39), .val (.ref t42), .val (.ref t45), .val (.ref a53), .val (.ref a60), .val (.int (-1 : Int32)), .val (.ref a69), .val (.int (0 : Int32)), .unset] [(.int (4 : Int32)), (.int att)])) (fun tz kz => XT.iconstV X69.here hx rfl (4 : Int32) (hb hby at_303) (by decide) kz) ?_
      refine own_viaW (F' := T69.setTop (mkF m 321 #[.val (.int p0), .val (.int p1), .val (.int p2), .val (.int (n12).toInt32), .val (.int att), .val (.ref a14), .val (.ref t26), .val (.ref t36), .val (.ref t39), .val (.ref t42), .val (.ref t45), .val (.ref a53), .val (.ref a60), .val (.int (-1 : Int32)), .val (.ref a69), .val (.int (0 : Int32)), .unset] [])) (fun tz kz => XS.icmpYes X69.here hx rfl (pc0 := 304) (pc' := 321) rfl (hb hby at_304) rfl (XT.ii_le_t (by rcases hneg with rfl | rfl <;> decide)) (by decide) (by decide) kz) ?_
      refine own_viaW (F' := T69.setTop (mkF m 323 #[.val (.int p0), .val (.int p1), .val (.int p2), .val (.int (n12).toInt32), .val (.int att), .val (.ref a14), .val (.ref t26), .val (.ref t36), .val (.ref t39), .val (.ref t42), .val (.ref t45), .val (.ref a53), .val (.ref a60), .val (.int (-1 : Int32)), .val (.ref a69), .val (.int (0 : Int32)), .unset] [(.int att)])) (fun tz kz => XS.iload X69.here hx rfl (hb hby at_321) rfl kz) ?_
      refine own_viaW (F' := T69.setTop (mkF m 332 #[.val (.int p0), .val (.int p1), .val (.int p2), .val (.int (n12).toInt32), .val (.int att), .val (.ref a14), .val (.ref t26), .val (.ref t36), .val (.ref t39), .val (.ref t42), .val (.ref t45), .val (.ref a53), .val (.ref a60), .val (.int (-1 : Int32)), .val (.ref a69), .val (.int (0 : Int32)), .unset] [])) (fun tz kz => XS.ifYes X69.here hx rfl (pc0 := 323) (pc' := 332) rfl (hb hby at_323) rfl (XT.i0_lt_t (by rcases hneg with rfl | rfl <;> decide)) (by decide) (by decide) kz) ?_
      refine own_viaW (F' := T69.setTop (mkF m 333 #[.val (.int p0), .val (.int p1), .val (.int p2), .val (.int (n12).toInt32), .val (.int att), .val (.ref a14), .val (.ref t26), .val (.ref t36), .val (.ref t39), .val (.ref t42), .val (.ref t45), .val (.ref a53), .val (.ref a60), .val (.int (-1 : Int32)), .val (.ref a69), .val (.int (0 : Int32)), .unset] [(.int (-1 : Int32))])) (fun tz kz => XT.iconstV X69.here hx rfl (-1 : Int32) (hb hby at_332) (by decide) kz) ?_
      refine own_viaW (F' := T69.setTop (mkF m 335 #[.val (.int p0), .val (.int p1), .val (.int p2), .val (.int (n12).toInt32), .val (.int att), .val (.ref a14), .val (.ref t26), .val (.ref t36), .val (.ref t39), .val (.ref t42), .val (.ref t45), .val (.ref a53), .val (.ref a60), .val (.int (-1 : Int32)), .val (.ref a69), .val (.int (0 : Int32)), .val (.int (-1 : Int32))] [])) (fun tz kz => XS.istore X69.here hx rfl (hb hby at_333) rfl (l' := #[.val (.int p0), .val (.int p1), .val (.int p2), .val (.int (n12).toInt32), .val (.int att), .val (.ref a14), .val (.ref t26), .val (.ref t36), .val (.ref t39), .val (.ref t42), .val (.ref t45), .val (.ref a53), .val (.ref a60), .val (.int (-1 : Int32)), .val (.ref a69), .val (.int (0 : Int32)), .val (.int (-1 : Int32))]) rfl kz) ?_
      refine own_viaW (F' := T69.setTop (mkF m 378 #[.val (.int p0), .val (.int p1), .val (.int p2), .val (.int (n12).toInt32), .val (.int att), .val (.ref a14), .val (.ref t26), .val (.ref t36), .val (.ref t39), .val (.ref t42), .val (.ref t45), .val (.ref a53), .val (.ref a60), .val (.int (-1 : Int32)), .val (.ref a69), .val (.int (0 : Int32)), .val (.int (-1 : Int32))] [])) (fun tz kz => XS.goto X69.here hx rfl (pc0 := 335) (pc' := 378) rfl (hb hby at_335) (by decide) (by decide) kz) ?_
      refine own_viaW (F' := T69.setTop (mkF m 380 #[.val (.int p0), .val (.int p1), .val (.int p2), .val (.int (n12).toInt32), .val (.int att), .val (.ref a14), .val (.ref t26), .val (.ref t36), .val (.ref t39), .val (.ref t42), .val (.ref t45), .val (.ref a53), .val (.ref a60), .val (.int (-1 : Int32)), .val (.ref a69), .val (.int (0 : Int32)), .val (.int (-1 : Int32))] [(.int (-1 : Int32))])) (fun tz kz => XS.iload X69.here hx rfl (hb hby at_378) rfl kz) ?_
      refine own_viaW (F' := T69.setTop (mkF m 382 #[.val (.int p0), .val (.int p1), .val (.int p2), .val (.int (n12).toInt32), .val (.int att), .val (.ref a14), .val (.ref t26), .val (.ref t36), .val (.ref t39), .val (.ref t42), .val (.ref t45), .val (.ref a53), .val (.ref a60), .val (.int (-1 : Int32)), .val (.ref a69), .val (.int (0 : Int32)), .val (.int (-1 : Int32))] [(.int (-1 : Int32)), (.int (-1 : Int32))])) (fun tz kz => XS.iload X69.here hx rfl (hb hby at_380) rfl kz) ?_
      refine own_viaW (F' := T69.setTop (mkF m 385 #[.val (.int p0), .val (.int p1), .val (.int p2), .val (.int (n12).toInt32), .val (.int att), .val (.ref a14), .val (.ref t26), .val (.ref t36), .val (.ref t39), .val (.ref t42), .val (.ref t45), .val (.ref a53), .val (.ref a60), .val (.int (-1 : Int32)), .val (.ref a69), .val (.int (0 : Int32)), .val (.int (-1 : Int32))] [])) (fun tz kz => XS.icmpNo X69.here hx rfl (hb hby at_382) rfl (XT.ii_ne_f (by decide)) kz) ?_
      refine own_viaW (F' := T69.setTop (mkF m 386 #[.val (.int p0), .val (.int p1), .val (.int p2), .val (.int (n12).toInt32), .val (.int att), .val (.ref a14), .val (.ref t26), .val (.ref t36), .val (.ref t39), .val (.ref t42), .val (.ref t45), .val (.ref a53), .val (.ref a60), .val (.int (-1 : Int32)), .val (.ref a69), .val (.int (0 : Int32)), .val (.int (-1 : Int32))] [(.int (1 : Int32))])) (fun tz kz => XT.iconstV X69.here hx rfl (1 : Int32) (hb hby at_385) (by decide) kz) ?_
      refine own_viaW (F' := T69.setTop (mkF m 390 #[.val (.int p0), .val (.int p1), .val (.int p2), .val (.int (n12).toInt32), .val (.int att), .val (.ref a14), .val (.ref t26), .val (.ref t36), .val (.ref t39), .val (.ref t42), .val (.ref t45), .val (.ref a53), .val (.ref a60), .val (.int (-1 : Int32)), .val (.ref a69), .val (.int (0 : Int32)), .val (.int (-1 : Int32))] [(.int (1 : Int32))])) (fun tz kz => XS.goto X69.here hx rfl (pc0 := 386) (pc' := 390) rfl (hb hby at_386) (by decide) (by decide) kz) ?_
      have c72 := c65.trans (CHr.ext E69 c65.1)
      have hk73 := ((Keep.refl T65.heap []).ext E69).1
      exact own_retZW X69 hS (by rw [e69]; exact hk73) hZ hEL (by rw [e69]; exact c72) hx hret hlk (hb hby at_390) ⟨rfl, (Fr.app (Fr.app N1 M65) (Fr.nil _))⟩ (by decide) (by decide)
    · subst hAt
      refine own_viaW (F' := T65.setTop (mkF m 207 #[.val (.int p0), .val (.int p1), .val (.int p2), .val (.int (n12).toInt32), .val (.int (A).toInt32), .val (.ref a14), .val (.ref t26), .val (.ref t36), .val (.ref t39), .val (.ref t42), .val (.ref t45), .val (.ref a53), .val (.ref a60), .unset, .unset, .unset, .unset] [(.ref a60)])) (fun tz kz => XS.aload X65.here hx rfl (hb hby at_205) rfl rfl kz) ?_
      refine own_viaW (F' := T65.setTop (mkF m 209 #[.val (.int p0), .val (.int p1), .val (.int p2), .val (.int (n12).toInt32), .val (.int (A).toInt32), .val (.ref a14), .val (.ref t26), .val (.ref t36), .val (.ref t39), .val (.ref t42), .val (.ref t45), .val (.ref a53), .val (.ref a60), .unset, .unset, .unset, .unset] [(.int (A).toInt32), (.ref a60)])) (fun tz kz => XS.iload X65.here hx rfl (hb hby at_207) rfl kz) ?_
      refine own_callVW X65 hx hZ (own_kog l Z az hw a60 ad65 n12 A (own_tb y24 n12) hA (by omega) (fun i => Nat.lt_of_le_of_lt (own_tb_le _ _ _) (by omega)) T65.heap n0 D65 A65) hown E65 (hw _ (List.mem_of_getElem? (i := 160) rfl)) (hw _ (List.mem_of_getElem? (i := 161) rfl)) (hw _ (List.mem_of_getElem? (i := 163) rfl)) (hw _ (List.mem_of_getElem? (i := 162) rfl)) (hw _ (List.mem_of_getElem? (i := 96) rfl)) (hw _ (List.mem_of_getElem? (i := 164) rfl)) (notFace_of_selects (args := #[]) (mvT hZ (hw _ (List.mem_of_getElem? (i := 163) rfl)))) (by decide) rfl (g := (mkF m 209 #[.val (.int p0), .val (.int p1), .val (.int p2), .val (.int (n12).toInt32), .val (.int (A).toInt32), .val (.ref a14), .val (.ref t26), .val (.ref t36), .val (.ref t39), .val (.ref t42), .val (.ref t45), .val (.ref a53), .val (.ref a60), .unset, .unset, .unset, .unset] [(.int (A).toInt32), (.ref a60)])) rfl (by rw [hml]; rfl) (argsL := [(.int (A).toInt32)]) (rest := []) rfl (lenOf own_pd15 rfl) rfl 0 (by show 2 * 0 + _ ≤ _; exact Nat.le_of_eq rfl) (hb hby at_209) (by decide) (by decide) (by decide) (by decide) ?_
      intro v74 T74 L74 hQ74 X74
      obtain ⟨rfl, e74, rfl⟩ := hQ74
      refine own_viaW (F' := T74.setTop (mkF m 212 #[.val (.int p0), .val (.int p1), .val (.int p2), .val (.int (n12).toInt32), .val (.int (A).toInt32), .val (.ref a14), .val (.ref t26), .val (.ref t36), .val (.ref t39), .val (.ref t42), .val (.ref t45), .val (.ref a53), .val (.ref a60), .unset, .unset, .unset, .unset] [(.int (own_fd (own_tb y24 n12) (own_tb y24 n12 A) A))])) (fun tz kz => kz) ?_
      refine own_viaW (F' := T74.setTop (mkF m 214 #[.val (.int p0), .val (.int p1), .val (.int p2), .val (.int (n12).toInt32), .val (.int (A).toInt32), .val (.ref a14), .val (.ref t26), .val (.ref t36), .val (.ref t39), .val (.ref t42), .val (.ref t45), .val (.ref a53), .val (.ref a60), .val (.int (own_fd (own_tb y24 n12) (own_tb y24 n12 A) A)), .unset, .unset, .unset] [])) (fun tz kz => XS.istore X74.here hx rfl (hb hby at_212) rfl (l' := #[.val (.int p0), .val (.int p1), .val (.int p2), .val (.int (n12).toInt32), .val (.int (A).toInt32), .val (.ref a14), .val (.ref t26), .val (.ref t36), .val (.ref t39), .val (.ref t42), .val (.ref t45), .val (.ref a53), .val (.ref a60), .val (.int (own_fd (own_tb y24 n12) (own_tb y24 n12 A) A)), .unset, .unset, .unset]) rfl kz) ?_
      refine own_viaW (F' := T74.setTop (mkF m 215 #[.val (.int p0), .val (.int p1), .val (.int p2), .val (.int (n12).toInt32), .val (.int (A).toInt32), .val (.ref a14), .val (.ref t26), .val (.ref t36), .val (.ref t39), .val (.ref t42), .val (.ref t45), .val (.ref a53), .val (.ref a60), .val (.int (own_fd (own_tb y24 n12) (own_tb y24 n12 A) A)), .unset, .unset, .unset] [(.int (5 : Int32))])) (fun tz kz => XT.iconstV X74.here hx rfl (5 : Int32) (hb hby at_214) (by decide) kz) ?_
      obtain ⟨T75, h75, K75, X75, e75, E75, A75, I75, s75⟩ := own_newA X74 hx hZ (aty := .int) (CC := "[I") (by decide) (hw _ (List.mem_of_getElem? (i := 1) rfl)) e74 (n := 5) rfl (by decide) (cap := 5) (by decide) (by decide) (by decide) (g := (mkF m 215 #[.val (.int p0), .val (.int p1), .val (.int p2), .val (.int (n12).toInt32), .val (.int (A).toInt32), .val (.ref a14), .val (.ref t26), .val (.ref t36), .val (.ref t39), .val (.ref t42), .val (.ref t45), .val (.ref a53), .val (.ref a60), .val (.int (own_fd (own_tb y24 n12) (own_tb y24 n12 A) A)), .unset, .unset, .unset] [(.int (5 : Int32))])) rfl rfl (hb hby at_215)
      obtain ⟨a75, g75⟩ : ∃ z, z = T65.heap.size := ⟨_, rfl⟩
      rw [← g75] at A75 s75 I75
      have f76 := ((Ix.ext E60).keep K65 (ninS (own_ne (by omega)) nin0))
      have lt75_a14 : a14 < a75 := by have q := own_n f76.lt; omega
      have lt75_a60 : a60 < a75 := by have q := own_n E65.lt; omega
      have lt75_ad65 : ad65 < a75 := by have q := own_n A65.lt; omega
      have f77 := (f64.keep K65 (allS G60 all0))
      have G75 : n0 ≤ a75 := by have q := f77.2.1; have q2 := f77.1; omega
      have J75 : own_I Z h75 a75 (5) (fun _ => 0) := ⟨_, A75⟩
      have S75 := Ins.self I75
      refine own_viaW (F' := T75.setTop (mkF m 217 #[.val (.int p0), .val (.int p1), .val (.int p2), .val (.int (n12).toInt32), .val (.int (A).toInt32), .val (.ref a14), .val (.ref t26), .val (.ref t36), .val (.ref t39), .val (.ref t42), .val (.ref t45), .val (.ref a53), .val (.ref a60), .val (.int (own_fd (own_tb y24 n12) (own_tb y24 n12 A) A)), .unset, .unset, .unset] [(.ref a75)])) s75 ?_
      refine own_viaW (F' := T75.setTop (mkF m 219 #[.val (.int p0), .val (.int p1), .val (.int p2), .val (.int (n12).toInt32), .val (.int (A).toInt32), .val (.ref a14), .val (.ref t26), .val (.ref t36), .val (.ref t39), .val (.ref t42), .val (.ref t45), .val (.ref a53), .val (.ref a60), .val (.int (own_fd (own_tb y24 n12) (own_tb y24 n12 A) A)), .val (.ref a75), .unset, .unset] [])) (fun tz kz => XS.astore X75.here hx rfl (hb hby at_217) rfl rfl (l' := #[.val (.int p0), .val (.int p1), .val (.int p2), .val (.int (n12).toInt32), .val (.int (A).toInt32), .val (.ref a14), .val (.ref t26), .val (.ref t36), .val (.ref t39), .val (.ref t42), .val (.ref t45), .val (.ref a53), .val (.ref a60), .val (.int (own_fd (own_tb y24 n12) (own_tb y24 n12 A) A)), .val (.ref a75), .unset, .unset]) rfl kz) ?_
      refine own_viaW (F' := T75.setTop (mkF m 220 #[.val (.int p0), .val (.int p1), .val (.int p2), .val (.int (n12).toInt32), .val (.int (A).toInt32), .val (.ref a14), .val (.ref t26), .val (.ref t36), .val (.ref t39), .val (.ref t42), .val (.ref t45), .val (.ref a53), .val (.ref a60), .val (.int (own_fd (own_tb y24 n12) (own_tb y24 n12 A) A)), .val (.ref a75), .unset, .unset] [(.int (0 : Int32))])) (fun tz kz => XT.iconstV X75.here hx rfl (0 : Int32) (hb hby at_219) (by decide) kz) ?_
      refine own_viaW (F' := T75.setTop (mkF m 222 #[.val (.int p0), .val (.int p1), .val (.int p2), .val (.int (n12).toInt32), .val (.int (A).toInt32), .val (.ref a14), .val (.ref t26), .val (.ref t36), .val (.ref t39), .val (.ref t42), .val (.ref t45), .val (.ref a53), .val (.ref a60), .val (.int (own_fd (own_tb y24 n12) (own_tb y24 n12 A) A)), .val (.ref a75), .val (.int (0 : Int32)), .unset] [])) (fun tz kz => XS.istore X75.here hx rfl (hb hby at_220) rfl (l' := #[.val (.int p0), .val (.int p1), .val (.int p2), .val (.int (n12).toInt32), .val (.int (A).toInt32), .val (.ref a14), .val (.ref t26), .val (.ref t36), .val (.ref t39), .val (.ref t42), .val (.ref t45), .val (.ref a53), .val (.ref a60), .val (.int (own_fd (own_tb y24 n12) (own_tb y24 n12 A) A)), .val (.ref a75), .val (.int (0 : Int32)), .unset]) rfl kz) ?_
      have Q0 : own_I Z h75 a75 5 (own_sk y24 0) := J75
      have hk78 := ((Keep.refl T65.heap []).ext E75).1
      have tail2 : ∀ (T : State) (h : Heap) (L : List Loc), Stand p l e room_1 (s.setVm T65.vm) m #[(.int p0), (.int p1), (.int p2)] below meth c T L 53 219 → T.heap = h → T65.heap.size ≤ h.size → CHr Z consts_1 s.vm s.heap T65.vm h → Fr n0 L → own_I Z h a14 5 y24 → own_I Z h a75 5 (own_sk y24 A) →
          own_GoW Z consts_1 p e below s (fun r h L => r = some (.int 1) ∧ Fr n0 L) room_1.cells room_1.slots (T.setTop (mkF m 321 #[.val (.int p0), .val (.int p1), .val (.int p2), .val (.int (n12).toInt32), .val (.int (A).toInt32), .val (.ref a14), .val (.ref t26), .val (.ref t36), .val (.ref t39), .val (.ref t42), .val (.ref t45), .val (.ref a53), .val (.ref a60), .val (.int (own_fd (own_tb y24 n12) (own_tb y24 n12 A) A)), .val (.ref a75), .val (.int (own_dp y24 A).toInt32), .unset] [])) := by
        intro T h L X e1 hk2 CH N1 Ix Qx
        have hpA := own_dp_le y24 A
        refine own_viaW (F' := T.setTop (mkF m 323 #[.val (.int p0), .val (.int p1), .val (.int p2), .val (.int (n12).toInt32), .val (.int (A).toInt32), .val (.ref a14), .val (.ref t26), .val (.ref t36), .val (.ref t39), .val (.ref t42), .val (.ref t45), .val (.ref a53), .val (.ref a60), .val (.int (own_fd (own_tb y24 n12) (own_tb y24 n12 A) A)), .val (.ref a75), .val (.int (own_dp y24 A).toInt32), .unset] [(.int (A).toInt32)])) (fun tz kz => XS.iload X.here hx rfl (hb hby at_321) rfl kz) ?_
        refine own_viaW (F' := T.setTop (mkF m 326 #[.val (.int p0), .val (.int p1), .val (.int p2), .val (.int (n12).toInt32), .val (.int (A).toInt32), .val (.ref a14), .val (.ref t26), .val (.ref t36), .val (.ref t39), .val (.ref t42), .val (.ref t45), .val (.ref a53), .val (.ref a60), .val (.int (own_fd (own_tb y24 n12) (own_tb y24 n12 A) A)), .val (.ref a75), .val (.int (own_dp y24 A).toInt32), .unset] [])) (fun tz kz => XS.ifNo X.here hx rfl (hb hby at_323) rfl (XT.i0_lt_f (fun z => absurd ((own_ltI (i := A) (j := 0) rfl rfl (by omega) (by decide)).mp z) (by omega))) kz) ?_
        refine own_viaW (F' := T.setTop (mkF m 328 #[.val (.int p0), .val (.int p1), .val (.int p2), .val (.int (n12).toInt32), .val (.int (A).toInt32), .val (.ref a14), .val (.ref t26), .val (.ref t36), .val (.ref t39), .val (.ref t42), .val (.ref t45), .val (.ref a53), .val (.ref a60), .val (.int (own_fd (own_tb y24 n12) (own_tb y24 n12 A) A)), .val (.ref a75), .val (.int (own_dp y24 A).toInt32), .unset] [(.int (A).toInt32)])) (fun tz kz => XS.iload X.here hx rfl (hb hby at_326) rfl kz) ?_
        refine own_viaW (F' := T.setTop (mkF m 329 #[.val (.int p0), .val (.int p1), .val (.int p2), .val (.int (n12).toInt32), .val (.int (A).toInt32), .val (.ref a14), .val (.ref t26), .val (.ref t36), .val (.ref t39), .val (.ref t42), .val (.ref t45), .val (.ref a53), .val (.ref a60), .val (.int (own_fd (own_tb y24 n12) (own_tb y24 n12 A) A)), .val (.ref a75), .val (.int (own_dp y24 A).toInt32), .unset] [(.int (n12).toInt32), (.int (A).toInt32)])) (fun tz kz => XS.iloadN X.here hx rfl (hb hby at_328) rfl kz) ?_
        by_cases q79 : A < n12
        · refine own_viaW (F' := T.setTop (mkF m 338 #[.val (.int p0), .val (.int p1), .val (.int p2), .val (.int (n12).toInt32), .val (.int (A).toInt32), .val (.ref a14), .val (.ref t26), .val (.ref t36), .val (.ref t39), .val (.ref t42), .val (.ref t45), .val (.ref a53), .val (.ref a60), .val (.int (own_fd (own_tb y24 n12) (own_tb y24 n12 A) A)), .val (.ref a75), .val (.int (own_dp y24 A).toInt32), .unset] [])) (fun tz kz => XS.icmpYes X.here hx rfl (pc0 := 329) (pc' := 338) rfl (hb hby at_329) rfl (XT.ii_lt_t ((own_ltI (i := A) (j := n12) rfl rfl (by omega) (by omega)).mpr q79)) (by decide) (by decide) kz) ?_
          by_cases hcl : own_cl (y24 A) = true
          · have hdA : own_d y24 A = own_dp y24 A - 1 := by unfold own_d; rw [if_pos hcl]
            have hgot := own_exp y24 n12 A q79
            rw [hdA] at hgot
            refine own_viaW (F' := T.setTop (mkF m 340 #[.val (.int p0), .val (.int p1), .val (.int p2), .val (.int (n12).toInt32), .val (.int (A).toInt32), .val (.ref a14), .val (.ref t26), .val (.ref t36), .val (.ref t39), .val (.ref t42), .val (.ref t45), .val (.ref a53), .val (.ref a60), .val (.int (own_fd (own_tb y24 n12) (own_tb y24 n12 A) A)), .val (.ref a75), .val (.int (own_dp y24 A).toInt32), .unset] [(.ref a14)])) (fun tz kz => XS.aload X.here hx rfl (hb hby at_338) rfl rfl kz) ?_
            refine own_viaW (F' := T.setTop (mkF m 342 #[.val (.int p0), .val (.int p1), .val (.int p2), .val (.int (n12).toInt32), .val (.int (A).toInt32), .val (.ref a14), .val (.ref t26), .val (.ref t36), .val (.ref t39), .val (.ref t42), .val (.ref t45), .val (.ref a53), .val (.ref a60), .val (.int (own_fd (own_tb y24 n12) (own_tb y24 n12 A) A)), .val (.ref a75), .val (.int (own_dp y24 A).toInt32), .unset] [(.int (A).toInt32), (.ref a14)])) (fun tz kz => XS.iload X.here hx rfl (hb hby at_340) rfl kz) ?_
            refine own_viaW (F' := T.setTop (mkF m 343 #[.val (.int p0), .val (.int p1), .val (.int p2), .val (.int (n12).toInt32), .val (.int (A).toInt32), .val (.ref a14), .val (.ref t26), .val (.ref t36), .val (.ref t39), .val (.ref t42), .val (.ref t45), .val (.ref a53), .val (.ref a60), .val (.int (own_fd (own_tb y24 n12) (own_tb y24 n12 A) A)), .val (.ref a75), .val (.int (own_dp y24 A).toInt32), .unset] [(.int (y24 A).toInt32)])) (fun tz kz => Ix.load X hx hZ e1 (j := A) rfl (by omega) (by decide) rfl (g := (mkF m 342 #[.val (.int p0), .val (.int p1), .val (.int p2), .val (.int (n12).toInt32), .val (.int (A).toInt32), .val (.ref a14), .val (.ref t26), .val (.ref t36), .val (.ref t39), .val (.ref t42), .val (.ref t45), .val (.ref a53), .val (.ref a60), .val (.int (own_fd (own_tb y24 n12) (own_tb y24 n12 A) A)), .val (.ref a75), .val (.int (own_dp y24 A).toInt32), .unset] [(.int (A).toInt32), (.ref a14)])) rfl rfl (hb hby at_342) tz kz) ?_
            refine own_callSW X hx hZ (own_kcl l Z az hw (y24 A) 1 (hcc A) (if_pos hcl) h n0) hown (hw _ (List.mem_of_getElem? (i := 165) rfl)) (hw _ (List.mem_of_getElem? (i := 166) rfl)) (hw _ (List.mem_of_getElem? (i := 4) rfl)) (hw _ (List.mem_of_getElem? (i := 167) rfl)) (by decide) e1 (g := (mkF m 343 #[.val (.int p0), .val (.int p1), .val (.int p2), .val (.int (n12).toInt32), .val (.int (A).toInt32), .val (.ref a14), .val (.ref t26), .val (.ref t36), .val (.ref t39), .val (.ref t42), .val (.ref t45), .val (.ref a53), .val (.ref a60), .val (.int (own_fd (own_tb y24 n12) (own_tb y24 n12 A) A)), .val (.ref a75), .val (.int (own_dp y24 A).toInt32), .unset] [(.int (y24 A).toInt32)])) rfl (by rw [hml]; rfl) (argsL := [(.int (y24 A).toInt32)]) (rest := []) rfl (lenOf own_pd0 rfl) rfl 0 (by show 2 * 0 + _ ≤ _; exact Nat.le_of_eq rfl) (hb hby at_343) (by decide) (by decide) (by decide) (by decide) ?_
            intro v80 T80 L80 hQ80 X80
            obtain ⟨rfl, e80, rfl⟩ := hQ80
            refine own_viaW (F' := T80.setTop (mkF m 346 #[.val (.int p0), .val (.int p1), .val (.int p2), .val (.int (n12).toInt32), .val (.int (A).toInt32), .val (.ref a14), .val (.ref t26), .val (.ref t36), .val (.ref t39), .val (.ref t42), .val (.ref t45), .val (.ref a53), .val (.ref a60), .val (.int (own_fd (own_tb y24 n12) (own_tb y24 n12 A) A)), .val (.ref a75), .val (.int (own_dp y24 A).toInt32), .unset] [(.int (1 : Int32))])) (fun tz kz => kz) ?_
            refine own_viaW (F' := T80.setTop (mkF m 349 #[.val (.int p0), .val (.int p1), .val (.int p2), .val (.int (n12).toInt32), .val (.int (A).toInt32), .val (.ref a14), .val (.ref t26), .val (.ref t36), .val (.ref t39), .val (.ref t42), .val (.ref t45), .val (.ref a53), .val (.ref a60), .val (.int (own_fd (own_tb y24 n12) (own_tb y24 n12 A) A)), .val (.ref a75), .val (.int (own_dp y24 A).toInt32), .unset] [])) (fun tz kz => XS.ifNo X80.here hx rfl (hb hby at_346) rfl (XT.i0_eq_f (by decide)) kz) ?_
            refine own_viaW (F' := T80.setTop (mkF m 351 #[.val (.int p0), .val (.int p1), .val (.int p2), .val (.int (n12).toInt32), .val (.int (A).toInt32), .val (.ref a14), .val (.ref t26), .val (.ref t36), .val (.ref t39), .val (.ref t42), .val (.ref t45), .val (.ref a53), .val (.ref a60), .val (.int (own_fd (own_tb y24 n12) (own_tb y24 n12 A) A)), .val (.ref a75), .val (.int (own_dp y24 A).toInt32), .unset] [(.int (own_dp y24 A).toInt32)])) (fun tz kz => XS.iload X80.here hx rfl (hb hby at_349) rfl kz) ?_
            by_cases q81 : 0 < own_dp y24 A
            · refine own_viaW (F' := T80.setTop (mkF m 354 #[.val (.int p0), .val (.int p1), .val (.int p2), .val (.int (n12).toInt32), .val (.int (A).toInt32), .val (.ref a14), .val (.ref t26), .val (.ref t36), .val (.ref t39), .val (.ref t42), .val (.ref t45), .val (.ref a53), .val (.ref a60), .val (.int (own_fd (own_tb y24 n12) (own_tb y24 n12 A) A)), .val (.ref a75), .val (.int (own_dp y24 A).toInt32), .unset] [])) (fun tz kz => XS.ifNo X80.here hx rfl (hb hby at_351) rfl (XT.i0_le_f ((own_ltI (i := 0) (j := own_dp y24 A) rfl rfl (by decide) (by omega)).mpr q81)) kz) ?_
              refine own_viaW (F' := T80.setTop (mkF m 356 #[.val (.int p0), .val (.int p1), .val (.int p2), .val (.int (n12).toInt32), .val (.int (A).toInt32), .val (.ref a14), .val (.ref t26), .val (.ref t36), .val (.ref t39), .val (.ref t42), .val (.ref t45), .val (.ref a53), .val (.ref a60), .val (.int (own_fd (own_tb y24 n12) (own_tb y24 n12 A) A)), .val (.ref a75), .val (.int (own_dp y24 A).toInt32), .unset] [(.int (own_dp y24 A).toInt32)])) (fun tz kz => XS.iload X80.here hx rfl (hb hby at_354) rfl kz) ?_
              refine own_viaW (F' := T80.setTop (mkF m 357 #[.val (.int p0), .val (.int p1), .val (.int p2), .val (.int (n12).toInt32), .val (.int (A).toInt32), .val (.ref a14), .val (.ref t26), .val (.ref t36), .val (.ref t39), .val (.ref t42), .val (.ref t45), .val (.ref a53), .val (.ref a60), .val (.int (own_fd (own_tb y24 n12) (own_tb y24 n12 A) A)), .val (.ref a75), .val (.int (own_dp y24 A).toInt32), .unset] [(.int (1 : Int32)), (.int (own_dp y24 A).toInt32)])) (fun tz kz => XT.iconstV X80.here hx rfl (1 : Int32) (hb hby at_356) (by decide) kz) ?_
              refine own_viaW (F' := T80.setTop (mkF m 358 #[.val (.int p0), .val (.int p1), .val (.int p2), .val (.int (n12).toInt32), .val (.int (A).toInt32), .val (.ref a14), .val (.ref t26), .val (.ref t36), .val (.ref t39), .val (.ref t42), .val (.ref t45), .val (.ref a53), .val (.ref a60), .val (.int (own_fd (own_tb y24 n12) (own_tb y24 n12 A) A)), .val (.ref a75), .val (.int (own_dp y24 A).toInt32), .unset] [(.int (own_dp y24 A - 1).toInt32)])) (fun tz kz => XS.isub X80.here hx rfl (hb hby at_357) rfl (by rw [own_pred (by omega)]; exact kz)) ?_
              refine own_viaW (F' := T80.setTop (mkF m 360 #[.val (.int p0), .val (.int p1), .val (.int p2), .val (.int (n12).toInt32), .val (.int (A).toInt32), .val (.ref a14), .val (.ref t26), .val (.ref t36), .val (.ref t39), .val (.ref t42), .val (.ref t45), .val (.ref a53), .val (.ref a60), .val (.int (own_fd (own_tb y24 n12) (own_tb y24 n12 A) A)), .val (.ref a75), .val (.int (own_dp y24 A - 1).toInt32), .unset] [])) (fun tz kz => XS.istore X80.here hx rfl (hb hby at_358) rfl (l' := #[.val (.int p0), .val (.int p1), .val (.int p2), .val (.int (n12).toInt32), .val (.int (A).toInt32), .val (.ref a14), .val (.ref t26), .val (.ref t36), .val (.ref t39), .val (.ref t42), .val (.ref t45), .val (.ref a53), .val (.ref a60), .val (.int (own_fd (own_tb y24 n12) (own_tb y24 n12 A) A)), .val (.ref a75), .val (.int (own_dp y24 A - 1).toInt32), .unset]) rfl kz) ?_
              refine own_viaW (F' := T80.setTop (mkF m 362 #[.val (.int p0), .val (.int p1), .val (.int p2), .val (.int (n12).toInt32), .val (.int (A).toInt32), .val (.ref a14), .val (.ref t26), .val (.ref t36), .val (.ref t39), .val (.ref t42), .val (.ref t45), .val (.ref a53), .val (.ref a60), .val (.int (own_fd (own_tb y24 n12) (own_tb y24 n12 A) A)), .val (.ref a75), .val (.int (own_dp y24 A - 1).toInt32), .unset] [(.int (own_dp y24 A - 1).toInt32)])) (fun tz kz => XS.iload X80.here hx rfl (hb hby at_360) rfl kz) ?_
              by_cases q82 : own_dp y24 A - 1 = 0
              · refine own_viaW (F' := T80.setTop (mkF m 365 #[.val (.int p0), .val (.int p1), .val (.int p2), .val (.int (n12).toInt32), .val (.int (A).toInt32), .val (.ref a14), .val (.ref t26), .val (.ref t36), .val (.ref t39), .val (.ref t42), .val (.ref t45), .val (.ref a53), .val (.ref a60), .val (.int (own_fd (own_tb y24 n12) (own_tb y24 n12 A) A)), .val (.ref a75), .val (.int (own_dp y24 A - 1).toInt32), .unset] [])) (fun tz kz => XS.ifNo X80.here hx rfl (hb hby at_362) rfl (XT.i0_ne_f ((own_eqI (i := own_dp y24 A - 1) (j := 0) rfl rfl (by omega) (by decide)).mpr q82)) kz) ?_
                refine own_viaW (F' := T80.setTop (mkF m 366 #[.val (.int p0), .val (.int p1), .val (.int p2), .val (.int (n12).toInt32), .val (.int (A).toInt32), .val (.ref a14), .val (.ref t26), .val (.ref t36), .val (.ref t39), .val (.ref t42), .val (.ref t45), .val (.ref a53), .val (.ref a60), .val (.int (own_fd (own_tb y24 n12) (own_tb y24 n12 A) A)), .val (.ref a75), .val (.int (own_dp y24 A - 1).toInt32), .unset] [(.int (-1 : Int32))])) (fun tz kz => XT.iconstV X80.here hx rfl (-1 : Int32) (hb hby at_365) (by decide) kz) ?_
                have hf : (own_fd (own_tb y24 n12) (own_tb y24 n12 A) A) = (-1 : Int32) := by rw [hgot]; exact if_pos (by omega)
                refine own_viaW (F' := T80.setTop (mkF m 376 #[.val (.int p0), .val (.int p1), .val (.int p2), .val (.int (n12).toInt32), .val (.int (A).toInt32), .val (.ref a14), .val (.ref t26), .val (.ref t36), .val (.ref t39), .val (.ref t42), .val (.ref t45), .val (.ref a53), .val (.ref a60), .val (.int (own_fd (own_tb y24 n12) (own_tb y24 n12 A) A)), .val (.ref a75), .val (.int (own_dp y24 A - 1).toInt32), .unset] [(.int (-1 : Int32))])) (fun tz kz => XS.goto X80.here hx rfl (pc0 := 366) (pc' := 376) rfl (hb hby at_366) (by decide) (by decide) kz) ?_
                refine own_viaW (F' := T80.setTop (mkF m 378 #[.val (.int p0), .val (.int p1), .val (.int p2), .val (.int (n12).toInt32), .val (.int (A).toInt32), .val (.ref a14), .val (.ref t26), .val (.ref t36), .val (.ref t39), .val (.ref t42), .val (.ref t45), .val (.ref a53), .val (.ref a60), .val (.int (own_fd (own_tb y24 n12) (own_tb y24 n12 A) A)), .val (.ref a75), .val (.int (own_dp y24 A - 1).toInt32), .val (.int (-1 : Int32))] [])) (fun tz kz => XS.istore X80.here hx rfl (hb hby at_376) rfl (l' := #[.val (.int p0), .val (.int p1), .val (.int p2), .val (.int (n12).toInt32), .val (.int (A).toInt32), .val (.ref a14), .val (.ref t26), .val (.ref t36), .val (.ref t39), .val (.ref t42), .val (.ref t45), .val (.ref a53), .val (.ref a60), .val (.int (own_fd (own_tb y24 n12) (own_tb y24 n12 A) A)), .val (.ref a75), .val (.int (own_dp y24 A - 1).toInt32), .val (.int (-1 : Int32))]) rfl kz) ?_
                refine own_viaW (F' := T80.setTop (mkF m 380 #[.val (.int p0), .val (.int p1), .val (.int p2), .val (.int (n12).toInt32), .val (.int (A).toInt32), .val (.ref a14), .val (.ref t26), .val (.ref t36), .val (.ref t39), .val (.ref t42), .val (.ref t45), .val (.ref a53), .val (.ref a60), .val (.int (own_fd (own_tb y24 n12) (own_tb y24 n12 A) A)), .val (.ref a75), .val (.int (own_dp y24 A - 1).toInt32), .val (.int (-1 : Int32))] [(.int (own_fd (own_tb y24 n12) (own_tb y24 n12 A) A))])) (fun tz kz => XS.iload X80.here hx rfl (hb hby at_378) rfl kz) ?_
                refine own_viaW (F' := T80.setTop (mkF m 382 #[.val (.int p0), .val (.int p1), .val (.int p2), .val (.int (n12).toInt32), .val (.int (A).toInt32), .val (.ref a14), .val (.ref t26), .val (.ref t36), .val (.ref t39), .val (.ref t42), .val (.ref t45), .val (.ref a53), .val (.ref a60), .val (.int (own_fd (own_tb y24 n12) (own_tb y24 n12 A) A)), .val (.ref a75), .val (.int (own_dp y24 A - 1).toInt32), .val (.int (-1 : Int32))] [(.int (-1 : Int32)), (.int (own_fd (own_tb y24 n12) (own_tb y24 n12 A) A))])) (fun tz kz => XS.iload X80.here hx rfl (hb hby at_380) rfl kz) ?_
                refine own_viaW (F' := T80.setTop (mkF m 385 #[.val (.int p0), .val (.int p1), .val (.int p2), .val (.int (n12).toInt32), .val (.int (A).toInt32), .val (.ref a14), .val (.ref t26), .val (.ref t36), .val (.ref t39), .val (.ref t42), .val (.ref t45), .val (.ref a53), .val (.ref a60), .val (.int (own_fd (own_tb y24 n12) (own_tb y24 n12 A) A)), .val (.ref a75), .val (.int (own_dp y24 A - 1).toInt32), .val (.int (-1 : Int32))] [])) (fun tz kz => XS.icmpNo X80.here hx rfl (hb hby at_382) rfl (XT.ii_ne_f hf) kz) ?_
                refine own_viaW (F' := T80.setTop (mkF m 386 #[.val (.int p0), .val (.int p1), .val (.int p2), .val (.int (n12).toInt32), .val (.int (A).toInt32), .val (.ref a14), .val (.ref t26), .val (.ref t36), .val (.ref t39), .val (.ref t42), .val (.ref t45), .val (.ref a53), .val (.ref a60), .val (.int (own_fd (own_tb y24 n12) (own_tb y24 n12 A) A)), .val (.ref a75), .val (.int (own_dp y24 A - 1).toInt32), .val (.int (-1 : Int32))] [(.int (1 : Int32))])) (fun tz kz => XT.iconstV X80.here hx rfl (1 : Int32) (hb hby at_385) (by decide) kz) ?_
                refine own_viaW (F' := T80.setTop (mkF m 390 #[.val (.int p0), .val (.int p1), .val (.int p2), .val (.int (n12).toInt32), .val (.int (A).toInt32), .val (.ref a14), .val (.ref t26), .val (.ref t36), .val (.ref t39), .val (.ref t42), .val (.ref t45), .val (.ref a53), .val (.ref a60), .val (.int (own_fd (own_tb y24 n12) (own_tb y24 n12 A) A)), .val (.ref a75), .val (.int (own_dp y24 A - 1).toInt32), .val (.int (-1 : Int32))] [(.int (1 : Int32))])) (fun tz kz => XS.goto X80.here hx rfl (pc0 := 386) (pc' := 390) rfl (hb hby at_386) (by decide) (by decide) kz) ?_
                exact own_retZW X80 hS (by rw [e80]; exact hk2) hZ hEL (by rw [e80]; exact CH) hx hret hlk (hb hby at_390) ⟨rfl, (Fr.app N1 (Fr.nil _))⟩ (by decide) (by decide)
              · refine own_viaW (F' := T80.setTop (mkF m 369 #[.val (.int p0), .val (.int p1), .val (.int p2), .val (.int (n12).toInt32), .val (.int (A).toInt32), .val (.ref a14), .val (.ref t26), .val (.ref t36), .val (.ref t39), .val (.ref t42), .val (.ref t45), .val (.ref a53), .val (.ref a60), .val (.int (own_fd (own_tb y24 n12) (own_tb y24 n12 A) A)), .val (.ref a75), .val (.int (own_dp y24 A - 1).toInt32), .unset] [])) (fun tz kz => XS.ifYes X80.here hx rfl (pc0 := 362) (pc' := 369) rfl (hb hby at_362) rfl (XT.i0_ne_t (fun z => absurd ((own_eqI (i := own_dp y24 A - 1) (j := 0) rfl rfl (by omega) (by decide)).mp z) q82)) (by decide) (by decide) kz) ?_
                refine own_viaW (F' := T80.setTop (mkF m 371 #[.val (.int p0), .val (.int p1), .val (.int p2), .val (.int (n12).toInt32), .val (.int (A).toInt32), .val (.ref a14), .val (.ref t26), .val (.ref t36), .val (.ref t39), .val (.ref t42), .val (.ref t45), .val (.ref a53), .val (.ref a60), .val (.int (own_fd (own_tb y24 n12) (own_tb y24 n12 A) A)), .val (.ref a75), .val (.int (own_dp y24 A - 1).toInt32), .unset] [(.ref a75)])) (fun tz kz => XS.aload X80.here hx rfl (hb hby at_369) rfl rfl kz) ?_
                refine own_viaW (F' := T80.setTop (mkF m 373 #[.val (.int p0), .val (.int p1), .val (.int p2), .val (.int (n12).toInt32), .val (.int (A).toInt32), .val (.ref a14), .val (.ref t26), .val (.ref t36), .val (.ref t39), .val (.ref t42), .val (.ref t45), .val (.ref a53), .val (.ref a60), .val (.int (own_fd (own_tb y24 n12) (own_tb y24 n12 A) A)), .val (.ref a75), .val (.int (own_dp y24 A - 1).toInt32), .unset] [(.int (own_dp y24 A - 1).toInt32), (.ref a75)])) (fun tz kz => XS.iload X80.here hx rfl (hb hby at_371) rfl kz) ?_
                refine own_viaW (F' := T80.setTop (mkF m 374 #[.val (.int p0), .val (.int p1), .val (.int p2), .val (.int (n12).toInt32), .val (.int (A).toInt32), .val (.ref a14), .val (.ref t26), .val (.ref t36), .val (.ref t39), .val (.ref t42), .val (.ref t45), .val (.ref a53), .val (.ref a60), .val (.int (own_fd (own_tb y24 n12) (own_tb y24 n12 A) A)), .val (.ref a75), .val (.int (own_dp y24 A - 1).toInt32), .unset] [(.int (1 : Int32)), (.int (own_dp y24 A - 1).toInt32), (.ref a75)])) (fun tz kz => XT.iconstV X80.here hx rfl (1 : Int32) (hb hby at_373) (by decide) kz) ?_
                refine own_viaW (F' := T80.setTop (mkF m 375 #[.val (.int p0), .val (.int p1), .val (.int p2), .val (.int (n12).toInt32), .val (.int (A).toInt32), .val (.ref a14), .val (.ref t26), .val (.ref t36), .val (.ref t39), .val (.ref t42), .val (.ref t45), .val (.ref a53), .val (.ref a60), .val (.int (own_fd (own_tb y24 n12) (own_tb y24 n12 A) A)), .val (.ref a75), .val (.int (own_dp y24 A - 1).toInt32), .unset] [(.int (own_dp y24 A - 1 - 1).toInt32), (.ref a75)])) (fun tz kz => XS.isub X80.here hx rfl (hb hby at_374) rfl (by rw [own_pred (by omega)]; exact kz)) ?_
                refine own_viaW (F' := T80.setTop (mkF m 376 #[.val (.int p0), .val (.int p1), .val (.int p2), .val (.int (n12).toInt32), .val (.int (A).toInt32), .val (.ref a14), .val (.ref t26), .val (.ref t36), .val (.ref t39), .val (.ref t42), .val (.ref t45), .val (.ref a53), .val (.ref a60), .val (.int (own_fd (own_tb y24 n12) (own_tb y24 n12 A) A)), .val (.ref a75), .val (.int (own_dp y24 A - 1).toInt32), .unset] [(.int (own_sk y24 A (own_dp y24 A - 1 - 1)).toInt32)])) (fun tz kz => Qx.load X80 hx hZ e80 (j := own_dp y24 A - 1 - 1) rfl (by omega) (by decide) rfl (g := (mkF m 375 #[.val (.int p0), .val (.int p1), .val (.int p2), .val (.int (n12).toInt32), .val (.int (A).toInt32), .val (.ref a14), .val (.ref t26), .val (.ref t36), .val (.ref t39), .val (.ref t42), .val (.ref t45), .val (.ref a53), .val (.ref a60), .val (.int (own_fd (own_tb y24 n12) (own_tb y24 n12 A) A)), .val (.ref a75), .val (.int (own_dp y24 A - 1).toInt32), .unset] [(.int (own_dp y24 A - 1 - 1).toInt32), (.ref a75)])) rfl rfl (hb hby at_375) tz kz) ?_
                have hf : (own_fd (own_tb y24 n12) (own_tb y24 n12 A) A) = (own_sk y24 A (own_dp y24 A - 1 - 1)).toInt32 := by rw [hgot]; exact if_neg (by omega)
                refine own_viaW (F' := T80.setTop (mkF m 378 #[.val (.int p0), .val (.int p1), .val (.int p2), .val (.int (n12).toInt32), .val (.int (A).toInt32), .val (.ref a14), .val (.ref t26), .val (.ref t36), .val (.ref t39), .val (.ref t42), .val (.ref t45), .val (.ref a53), .val (.ref a60), .val (.int (own_fd (own_tb y24 n12) (own_tb y24 n12 A) A)), .val (.ref a75), .val (.int (own_dp y24 A - 1).toInt32), .val (.int (own_sk y24 A (own_dp y24 A - 1 - 1)).toInt32)] [])) (fun tz kz => XS.istore X80.here hx rfl (hb hby at_376) rfl (l' := #[.val (.int p0), .val (.int p1), .val (.int p2), .val (.int (n12).toInt32), .val (.int (A).toInt32), .val (.ref a14), .val (.ref t26), .val (.ref t36), .val (.ref t39), .val (.ref t42), .val (.ref t45), .val (.ref a53), .val (.ref a60), .val (.int (own_fd (own_tb y24 n12) (own_tb y24 n12 A) A)), .val (.ref a75), .val (.int (own_dp y24 A - 1).toInt32), .val (.int (own_sk y24 A (own_dp y24 A - 1 - 1)).toInt32)]) rfl kz) ?_
                refine own_viaW (F' := T80.setTop (mkF m 380 #[.val (.int p0), .val (.int p1), .val (.int p2), .val (.int (n12).toInt32), .val (.int (A).toInt32), .val (.ref a14), .val (.ref t26), .val (.ref t36), .val (.ref t39), .val (.ref t42), .val (.ref t45), .val (.ref a53), .val (.ref a60), .val (.int (own_fd (own_tb y24 n12) (own_tb y24 n12 A) A)), .val (.ref a75), .val (.int (own_dp y24 A - 1).toInt32), .val (.int (own_sk y24 A (own_dp y24 A - 1 - 1)).toInt32)] [(.int (own_fd (own_tb y24 n12) (own_tb y24 n12 A) A))])) (fun tz kz => XS.iload X80.here hx rfl (hb hby at_378) rfl kz) ?_
                refine own_viaW (F' := T80.setTop (mkF m 382 #[.val (.int p0), .val (.int p1), .val (.int p2), .val (.int (n12).toInt32), .val (.int (A).toInt32), .val (.ref a14), .val (.ref t26), .val (.ref t36), .val (.ref t39), .val (.ref t42), .val (.ref t45), .val (.ref a53), .val (.ref a60), .val (.int (own_fd (own_tb y24 n12) (own_tb y24 n12 A) A)), .val (.ref a75), .val (.int (own_dp y24 A - 1).toInt32), .val (.int (own_sk y24 A (own_dp y24 A - 1 - 1)).toInt32)] [(.int (own_sk y24 A (own_dp y24 A - 1 - 1)).toInt32), (.int (own_fd (own_tb y24 n12) (own_tb y24 n12 A) A))])) (fun tz kz => XS.iload X80.here hx rfl (hb hby at_380) rfl kz) ?_
                refine own_viaW (F' := T80.setTop (mkF m 385 #[.val (.int p0), .val (.int p1), .val (.int p2), .val (.int (n12).toInt32), .val (.int (A).toInt32), .val (.ref a14), .val (.ref t26), .val (.ref t36), .val (.ref t39), .val (.ref t42), .val (.ref t45), .val (.ref a53), .val (.ref a60), .val (.int (own_fd (own_tb y24 n12) (own_tb y24 n12 A) A)), .val (.ref a75), .val (.int (own_dp y24 A - 1).toInt32), .val (.int (own_sk y24 A (own_dp y24 A - 1 - 1)).toInt32)] [])) (fun tz kz => XS.icmpNo X80.here hx rfl (hb hby at_382) rfl (XT.ii_ne_f hf) kz) ?_
                refine own_viaW (F' := T80.setTop (mkF m 386 #[.val (.int p0), .val (.int p1), .val (.int p2), .val (.int (n12).toInt32), .val (.int (A).toInt32), .val (.ref a14), .val (.ref t26), .val (.ref t36), .val (.ref t39), .val (.ref t42), .val (.ref t45), .val (.ref a53), .val (.ref a60), .val (.int (own_fd (own_tb y24 n12) (own_tb y24 n12 A) A)), .val (.ref a75), .val (.int (own_dp y24 A - 1).toInt32), .val (.int (own_sk y24 A (own_dp y24 A - 1 - 1)).toInt32)] [(.int (1 : Int32))])) (fun tz kz => XT.iconstV X80.here hx rfl (1 : Int32) (hb hby at_385) (by decide) kz) ?_
                refine own_viaW (F' := T80.setTop (mkF m 390 #[.val (.int p0), .val (.int p1), .val (.int p2), .val (.int (n12).toInt32), .val (.int (A).toInt32), .val (.ref a14), .val (.ref t26), .val (.ref t36), .val (.ref t39), .val (.ref t42), .val (.ref t45), .val (.ref a53), .val (.ref a60), .val (.int (own_fd (own_tb y24 n12) (own_tb y24 n12 A) A)), .val (.ref a75), .val (.int (own_dp y24 A - 1).toInt32), .val (.int (own_sk y24 A (own_dp y24 A - 1 - 1)).toInt32)] [(.int (1 : Int32))])) (fun tz kz => XS.goto X80.here hx rfl (pc0 := 386) (pc' := 390) rfl (hb hby at_386) (by decide) (by decide) kz) ?_
                exact own_retZW X80 hS (by rw [e80]; exact hk2) hZ hEL (by rw [e80]; exact CH) hx hret hlk (hb hby at_390) ⟨rfl, (Fr.app N1 (Fr.nil _))⟩ (by decide) (by decide)
            · refine own_viaW (F' := T80.setTop (mkF m 360 #[.val (.int p0), .val (.int p1), .val (.int p2), .val (.int (n12).toInt32), .val (.int (A).toInt32), .val (.ref a14), .val (.ref t26), .val (.ref t36), .val (.ref t39), .val (.ref t42), .val (.ref t45), .val (.ref a53), .val (.ref a60), .val (.int (own_fd (own_tb y24 n12) (own_tb y24 n12 A) A)), .val (.ref a75), .val (.int (own_dp y24 A).toInt32), .unset] [])) (fun tz kz => XS.ifYes X80.here hx rfl (pc0 := 351) (pc' := 360) rfl (hb hby at_351) rfl (XT.i0_le_t (fun z => absurd ((own_ltI (i := 0) (j := own_dp y24 A) rfl rfl (by decide) (by omega)).mp z) q81)) (by decide) (by decide) kz) ?_
              refine own_viaW (F' := T80.setTop (mkF m 362 #[.val (.int p0), .val (.int p1), .val (.int p2), .val (.int (n12).toInt32), .val (.int (A).toInt32), .val (.ref a14), .val (.ref t26), .val (.ref t36), .val (.ref t39), .val (.ref t42), .val (.ref t45), .val (.ref a53), .val (.ref a60), .val (.int (own_fd (own_tb y24 n12) (own_tb y24 n12 A) A)), .val (.ref a75), .val (.int (own_dp y24 A).toInt32), .unset] [(.int (own_dp y24 A).toInt32)])) (fun tz kz => XS.iload X80.here hx rfl (hb hby at_360) rfl kz) ?_
              refine own_viaW (F' := T80.setTop (mkF m 365 #[.val (.int p0), .val (.int p1), .val (.int p2), .val (.int (n12).toInt32), .val (.int (A).toInt32), .val (.ref a14), .val (.ref t26), .val (.ref t36), .val (.ref t39), .val (.ref t42), .val (.ref t45), .val (.ref a53), .val (.ref a60), .val (.int (own_fd (own_tb y24 n12) (own_tb y24 n12 A) A)), .val (.ref a75), .val (.int (own_dp y24 A).toInt32), .unset] [])) (fun tz kz => XS.ifNo X80.here hx rfl (hb hby at_362) rfl (XT.i0_ne_f ((own_eqI (i := own_dp y24 A) (j := 0) rfl rfl (by omega) (by decide)).mpr (by omega))) kz) ?_
              refine own_viaW (F' := T80.setTop (mkF m 366 #[.val (.int p0), .val (.int p1), .val (.int p2), .val (.int (n12).toInt32), .val (.int (A).toInt32), .val (.ref a14), .val (.ref t26), .val (.ref t36), .val (.ref t39), .val (.ref t42), .val (.ref t45), .val (.ref a53), .val (.ref a60), .val (.int (own_fd (own_tb y24 n12) (own_tb y24 n12 A) A)), .val (.ref a75), .val (.int (own_dp y24 A).toInt32), .unset] [(.int (-1 : Int32))])) (fun tz kz => XT.iconstV X80.here hx rfl (-1 : Int32) (hb hby at_365) (by decide) kz) ?_
              have hf : (own_fd (own_tb y24 n12) (own_tb y24 n12 A) A) = (-1 : Int32) := by rw [hgot]; exact if_pos (by omega)
              refine own_viaW (F' := T80.setTop (mkF m 376 #[.val (.int p0), .val (.int p1), .val (.int p2), .val (.int (n12).toInt32), .val (.int (A).toInt32), .val (.ref a14), .val (.ref t26), .val (.ref t36), .val (.ref t39), .val (.ref t42), .val (.ref t45), .val (.ref a53), .val (.ref a60), .val (.int (own_fd (own_tb y24 n12) (own_tb y24 n12 A) A)), .val (.ref a75), .val (.int (own_dp y24 A).toInt32), .unset] [(.int (-1 : Int32))])) (fun tz kz => XS.goto X80.here hx rfl (pc0 := 366) (pc' := 376) rfl (hb hby at_366) (by decide) (by decide) kz) ?_
              refine own_viaW (F' := T80.setTop (mkF m 378 #[.val (.int p0), .val (.int p1), .val (.int p2), .val (.int (n12).toInt32), .val (.int (A).toInt32), .val (.ref a14), .val (.ref t26), .val (.ref t36), .val (.ref t39), .val (.ref t42), .val (.ref t45), .val (.ref a53), .val (.ref a60), .val (.int (own_fd (own_tb y24 n12) (own_tb y24 n12 A) A)), .val (.ref a75), .val (.int (own_dp y24 A).toInt32), .val (.int (-1 : Int32))] [])) (fun tz kz => XS.istore X80.here hx rfl (hb hby at_376) rfl (l' := #[.val (.int p0), .val (.int p1), .val (.int p2), .val (.int (n12).toInt32), .val (.int (A).toInt32), .val (.ref a14), .val (.ref t26), .val (.ref t36), .val (.ref t39), .val (.ref t42), .val (.ref t45), .val (.ref a53), .val (.ref a60), .val (.int (own_fd (own_tb y24 n12) (own_tb y24 n12 A) A)), .val (.ref a75), .val (.int (own_dp y24 A).toInt32), .val (.int (-1 : Int32))]) rfl kz) ?_
              refine own_viaW (F' := T80.setTop (mkF m 380 #[.val (.int p0), .val (.int p1), .val (.int p2), .val (.int (n12).toInt32), .val (.int (A).toInt32), .val (.ref a14), .val (.ref t26), .val (.ref t36), .val (.ref t39), .val (.ref t42), .val (.ref t45), .val (.ref a53), .val (.ref a60), .val (.int (own_fd (own_tb y24 n12) (own_tb y24 n12 A) A)), .val (.ref a75), .val (.int (own_dp y24 A).toInt32), .val (.int (-1 : Int32))] [(.int (own_fd (own_tb y24 n12) (own_tb y24 n12 A) A))])) (fun tz kz => XS.iload X80.here hx rfl (hb hby at_378) rfl kz) ?_
              refine own_viaW (F' := T80.setTop (mkF m 382 #[.val (.int p0), .val (.int p1), .val (.int p2), .val (.int (n12).toInt32), .val (.int (A).toInt32), .val (.ref a14), .val (.ref t26), .val (.ref t36), .val (.ref t39), .val (.ref t42), .val (.ref t45), .val (.ref a53), .val (.ref a60), .val (.int (own_fd (own_tb y24 n12) (own_tb y24 n12 A) A)), .val (.ref a75), .val (.int (own_dp y24 A).toInt32), .val (.int (-1 : Int32))] [(.int (-1 : Int32)), (.int (own_fd (own_tb y24 n12) (own_tb y24 n12 A) A))])) (fun tz kz => XS.iload X80.here hx rfl (hb hby at_380) rfl kz) ?_
              refine own_viaW (F' := T80.setTop (mkF m 385 #[.val (.int p0), .val (.int p1), .val (.int p2), .val (.int (n12).toInt32), .val (.int (A).toInt32), .val (.ref a14), .val (.ref t26), .val (.ref t36), .val (.ref t39), .val (.ref t42), .val (.ref t45), .val (.ref a53), .val (.ref a60), .val (.int (own_fd (own_tb y24 n12) (own_tb y24 n12 A) A)), .val (.ref a75), .val (.int (own_dp y24 A).toInt32), .val (.int (-1 : Int32))] [])) (fun tz kz => XS.icmpNo X80.here hx rfl (hb hby at_382) rfl (XT.ii_ne_f hf) kz) ?_
              refine own_viaW (F' := T80.setTop (mkF m 386 #[.val (.int p0), .val (.int p1), .val (.int p2), .val (.int (n12).toInt32), .val (.int (A).toInt32), .val (.ref a14), .val (.ref t26), .val (.ref t36), .val (.ref t39), .val (.ref t42), .val (.ref t45), .val (.ref a53), .val (.ref a60), .val (.int (own_fd (own_tb y24 n12) (own_tb y24 n12 A) A)), .val (.ref a75), .val (.int (own_dp y24 A).toInt32), .val (.int (-1 : Int32))] [(.int (1 : Int32))])) (fun tz kz => XT.iconstV X80.here hx rfl (1 : Int32) (hb hby at_385) (by decide) kz) ?_
              refine own_viaW (F' := T80.setTop (mkF m 390 #[.val (.int p0), .val (.int p1), .val (.int p2), .val (.int (n12).toInt32), .val (.int (A).toInt32), .val (.ref a14), .val (.ref t26), .val (.ref t36), .val (.ref t39), .val (.ref t42), .val (.ref t45), .val (.ref a53), .val (.ref a60), .val (.int (own_fd (own_tb y24 n12) (own_tb y24 n12 A) A)), .val (.ref a75), .val (.int (own_dp y24 A).toInt32), .val (.int (-1 : Int32))] [(.int (1 : Int32))])) (fun tz kz => XS.goto X80.here hx rfl (pc0 := 386) (pc' := 390) rfl (hb hby at_386) (by decide) (by decide) kz) ?_
              exact own_retZW X80 hS (by rw [e80]; exact hk2) hZ hEL (by rw [e80]; exact CH) hx hret hlk (hb hby at_390) ⟨rfl, (Fr.app N1 (Fr.nil _))⟩ (by decide) (by decide)
          · have hdA : own_d y24 A = own_dp y24 A := by unfold own_d; rw [if_neg hcl]
            have hgot := own_exp y24 n12 A q79
            rw [hdA] at hgot
            refine own_viaW (F' := T.setTop (mkF m 340 #[.val (.int p0), .val (.int p1), .val (.int p2), .val (.int (n12).toInt32), .val (.int (A).toInt32), .val (.ref a14), .val (.ref t26), .val (.ref t36), .val (.ref t39), .val (.ref t42), .val (.ref t45), .val (.ref a53), .val (.ref a60), .val (.int (own_fd (own_tb y24 n12) (own_tb y24 n12 A) A)), .val (.ref a75), .val (.int (own_dp y24 A).toInt32), .unset] [(.ref a14)])) (fun tz kz => XS.aload X.here hx rfl (hb hby at_338) rfl rfl kz) ?_
            refine own_viaW (F' := T.setTop (mkF m 342 #[.val (.int p0), .val (.int p1), .val (.int p2), .val (.int (n12).toInt32), .val (.int (A).toInt32), .val (.ref a14), .val (.ref t26), .val (.ref t36), .val (.ref t39), .val (.ref t42), .val (.ref t45), .val (.ref a53), .val (.ref a60), .val (.int (own_fd (own_tb y24 n12) (own_tb y24 n12 A) A)), .val (.ref a75), .val (.int (own_dp y24 A).toInt32), .unset] [(.int (A).toInt32), (.ref a14)])) (fun tz kz => XS.iload X.here hx rfl (hb hby at_340) rfl kz) ?_
            refine own_viaW (F' := T.setTop (mkF m 343 #[.val (.int p0), .val (.int p1), .val (.int p2), .val (.int (n12).toInt32), .val (.int (A).toInt32), .val (.ref a14), .val (.ref t26), .val (.ref t36), .val (.ref t39), .val (.ref t42), .val (.ref t45), .val (.ref a53), .val (.ref a60), .val (.int (own_fd (own_tb y24 n12) (own_tb y24 n12 A) A)), .val (.ref a75), .val (.int (own_dp y24 A).toInt32), .unset] [(.int (y24 A).toInt32)])) (fun tz kz => Ix.load X hx hZ e1 (j := A) rfl (by omega) (by decide) rfl (g := (mkF m 342 #[.val (.int p0), .val (.int p1), .val (.int p2), .val (.int (n12).toInt32), .val (.int (A).toInt32), .val (.ref a14), .val (.ref t26), .val (.ref t36), .val (.ref t39), .val (.ref t42), .val (.ref t45), .val (.ref a53), .val (.ref a60), .val (.int (own_fd (own_tb y24 n12) (own_tb y24 n12 A) A)), .val (.ref a75), .val (.int (own_dp y24 A).toInt32), .unset] [(.int (A).toInt32), (.ref a14)])) rfl rfl (hb hby at_342) tz kz) ?_
            refine own_callSW X hx hZ (own_kcl l Z az hw (y24 A) 0 (hcc A) (if_neg hcl) h n0) hown (hw _ (List.mem_of_getElem? (i := 165) rfl)) (hw _ (List.mem_of_getElem? (i := 166) rfl)) (hw _ (List.mem_of_getElem? (i := 4) rfl)) (hw _ (List.mem_of_getElem? (i := 167) rfl)) (by decide) e1 (g := (mkF m 343 #[.val (.int p0), .val (.int p1), .val (.int p2), .val (.int (n12).toInt32), .val (.int (A).toInt32), .val (.ref a14), .val (.ref t26), .val (.ref t36), .val (.ref t39), .val (.ref t42), .val (.ref t45), .val (.ref a53), .val (.ref a60), .val (.int (own_fd (own_tb y24 n12) (own_tb y24 n12 A) A)), .val (.ref a75), .val (.int (own_dp y24 A).toInt32), .unset] [(.int (y24 A).toInt32)])) rfl (by rw [hml]; rfl) (argsL := [(.int (y24 A).toInt32)]) (rest := []) rfl (lenOf own_pd0 rfl) rfl 0 (by show 2 * 0 + _ ≤ _; exact Nat.le_of_eq rfl) (hb hby at_343) (by decide) (by decide) (by decide) (by decide) ?_
            intro v83 T83 L83 hQ83 X83
            obtain ⟨rfl, e83, rfl⟩ := hQ83
            refine own_viaW (F' := T83.setTop (mkF m 346 #[.val (.int p0), .val (.int p1), .val (.int p2), .val (.int (n12).toInt32), .val (.int (A).toInt32), .val (.ref a14), .val (.ref t26), .val (.ref t36), .val (.ref t39), .val (.ref t42), .val (.ref t45), .val (.ref a53), .val (.ref a60), .val (.int (own_fd (own_tb y24 n12) (own_tb y24 n12 A) A)), .val (.ref a75), .val (.int (own_dp y24 A).toInt32), .unset] [(.int (0 : Int32))])) (fun tz kz => kz) ?_
            refine own_viaW (F' := T83.setTop (mkF m 360 #[.val (.int p0), .val (.int p1), .val (.int p2), .val (.int (n12).toInt32), .val (.int (A).toInt32), .val (.ref a14), .val (.ref t26), .val (.ref t36), .val (.ref t39), .val (.ref t42), .val (.ref t45), .val (.ref a53), .val (.ref a60), .val (.int (own_fd (own_tb y24 n12) (own_tb y24 n12 A) A)), .val (.ref a75), .val (.int (own_dp y24 A).toInt32), .unset] [])) (fun tz kz => XS.ifYes X83.here hx rfl (pc0 := 346) (pc' := 360) rfl (hb hby at_346) rfl (XT.i0_eq_t (by decide)) (by decide) (by decide) kz) ?_
            refine own_viaW (F' := T83.setTop (mkF m 362 #[.val (.int p0), .val (.int p1), .val (.int p2), .val (.int (n12).toInt32), .val (.int (A).toInt32), .val (.ref a14), .val (.ref t26), .val (.ref t36), .val (.ref t39), .val (.ref t42), .val (.ref t45), .val (.ref a53), .val (.ref a60), .val (.int (own_fd (own_tb y24 n12) (own_tb y24 n12 A) A)), .val (.ref a75), .val (.int (own_dp y24 A).toInt32), .unset] [(.int (own_dp y24 A).toInt32)])) (fun tz kz => XS.iload X83.here hx rfl (hb hby at_360) rfl kz) ?_
            by_cases q84 : own_dp y24 A = 0
            · refine own_viaW (F' := T83.setTop (mkF m 365 #[.val (.int p0), .val (.int p1), .val (.int p2), .val (.int (n12).toInt32), .val (.int (A).toInt32), .val (.ref a14), .val (.ref t26), .val (.ref t36), .val (.ref t39), .val (.ref t42), .val (.ref t45), .val (.ref a53), .val (.ref a60), .val (.int (own_fd (own_tb y24 n12) (own_tb y24 n12 A) A)), .val (.ref a75), .val (.int (own_dp y24 A).toInt32), .unset] [])) (fun tz kz => XS.ifNo X83.here hx rfl (hb hby at_362) rfl (XT.i0_ne_f ((own_eqI (i := own_dp y24 A) (j := 0) rfl rfl (by omega) (by decide)).mpr q84)) kz) ?_
              refine own_viaW (F' := T83.setTop (mkF m 366 #[.val (.int p0), .val (.int p1), .val (.int p2), .val (.int (n12).toInt32), .val (.int (A).toInt32), .val (.ref a14), .val (.ref t26), .val (.ref t36), .val (.ref t39), .val (.ref t42), .val (.ref t45), .val (.ref a53), .val (.ref a60), .val (.int (own_fd (own_tb y24 n12) (own_tb y24 n12 A) A)), .val (.ref a75), .val (.int (own_dp y24 A).toInt32), .unset] [(.int (-1 : Int32))])) (fun tz kz => XT.iconstV X83.here hx rfl (-1 : Int32) (hb hby at_365) (by decide) kz) ?_
              have hf : (own_fd (own_tb y24 n12) (own_tb y24 n12 A) A) = (-1 : Int32) := by rw [hgot]; exact if_pos (by omega)
              refine own_viaW (F' := T83.setTop (mkF m 376 #[.val (.int p0), .val (.int p1), .val (.int p2), .val (.int (n12).toInt32), .val (.int (A).toInt32), .val (.ref a14), .val (.ref t26), .val (.ref t36), .val (.ref t39), .val (.ref t42), .val (.ref t45), .val (.ref a53), .val (.ref a60), .val (.int (own_fd (own_tb y24 n12) (own_tb y24 n12 A) A)), .val (.ref a75), .val (.int (own_dp y24 A).toInt32), .unset] [(.int (-1 : Int32))])) (fun tz kz => XS.goto X83.here hx rfl (pc0 := 366) (pc' := 376) rfl (hb hby at_366) (by decide) (by decide) kz) ?_
              refine own_viaW (F' := T83.setTop (mkF m 378 #[.val (.int p0), .val (.int p1), .val (.int p2), .val (.int (n12).toInt32), .val (.int (A).toInt32), .val (.ref a14), .val (.ref t26), .val (.ref t36), .val (.ref t39), .val (.ref t42), .val (.ref t45), .val (.ref a53), .val (.ref a60), .val (.int (own_fd (own_tb y24 n12) (own_tb y24 n12 A) A)), .val (.ref a75), .val (.int (own_dp y24 A).toInt32), .val (.int (-1 : Int32))] [])) (fun tz kz => XS.istore X83.here hx rfl (hb hby at_376) rfl (l' := #[.val (.int p0), .val (.int p1), .val (.int p2), .val (.int (n12).toInt32), .val (.int (A).toInt32), .val (.ref a14), .val (.ref t26), .val (.ref t36), .val (.ref t39), .val (.ref t42), .val (.ref t45), .val (.ref a53), .val (.ref a60), .val (.int (own_fd (own_tb y24 n12) (own_tb y24 n12 A) A)), .val (.ref a75), .val (.int (own_dp y24 A).toInt32), .val (.int (-1 : Int32))]) rfl kz) ?_
              refine own_viaW (F' := T83.setTop (mkF m 380 #[.val (.int p0), .val (.int p1), .val (.int p2), .val (.int (n12).toInt32), .val (.int (A).toInt32), .val (.ref a14), .val (.ref t26), .val (.ref t36), .val (.ref t39), .val (.ref t42), .val (.ref t45), .val (.ref a53), .val (.ref a60), .val (.int (own_fd (own_tb y24 n12) (own_tb y24 n12 A) A)), .val (.ref a75), .val (.int (own_dp y24 A).toInt32), .val (.int (-1 : Int32))] [(.int (own_fd (own_tb y24 n12) (own_tb y24 n12 A) A))])) (fun tz kz => XS.iload X83.here hx rfl (hb hby at_378) rfl kz) ?_
              refine own_viaW (F' := T83.setTop (mkF m 382 #[.val (.int p0), .val (.int p1), .val (.int p2), .val (.int (n12).toInt32), .val (.int (A).toInt32), .val (.ref a14), .val (.ref t26), .val (.ref t36), .val (.ref t39), .val (.ref t42), .val (.ref t45), .val (.ref a53), .val (.ref a60), .val (.int (own_fd (own_tb y24 n12) (own_tb y24 n12 A) A)), .val (.ref a75), .val (.int (own_dp y24 A).toInt32), .val (.int (-1 : Int32))] [(.int (-1 : Int32)), (.int (own_fd (own_tb y24 n12) (own_tb y24 n12 A) A))])) (fun tz kz => XS.iload X83.here hx rfl (hb hby at_380) rfl kz) ?_
              refine own_viaW (F' := T83.setTop (mkF m 385 #[.val (.int p0), .val (.int p1), .val (.int p2), .val (.int (n12).toInt32), .val (.int (A).toInt32), .val (.ref a14), .val (.ref t26), .val (.ref t36), .val (.ref t39), .val (.ref t42), .val (.ref t45), .val (.ref a53), .val (.ref a60), .val (.int (own_fd (own_tb y24 n12) (own_tb y24 n12 A) A)), .val (.ref a75), .val (.int (own_dp y24 A).toInt32), .val (.int (-1 : Int32))] [])) (fun tz kz => XS.icmpNo X83.here hx rfl (hb hby at_382) rfl (XT.ii_ne_f hf) kz) ?_
              refine own_viaW (F' := T83.setTop (mkF m 386 #[.val (.int p0), .val (.int p1), .val (.int p2), .val (.int (n12).toInt32), .val (.int (A).toInt32), .val (.ref a14), .val (.ref t26), .val (.ref t36), .val (.ref t39), .val (.ref t42), .val (.ref t45), .val (.ref a53), .val (.ref a60), .val (.int (own_fd (own_tb y24 n12) (own_tb y24 n12 A) A)), .val (.ref a75), .val (.int (own_dp y24 A).toInt32), .val (.int (-1 : Int32))] [(.int (1 : Int32))])) (fun tz kz => XT.iconstV X83.here hx rfl (1 : Int32) (hb hby at_385) (by decide) kz) ?_
              refine own_viaW (F' := T83.setTop (mkF m 390 #[.val (.int p0), .val (.int p1), .val (.int p2), .val (.int (n12).toInt32), .val (.int (A).toInt32), .val (.ref a14), .val (.ref t26), .val (.ref t36), .val (.ref t39), .val (.ref t42), .val (.ref t45), .val (.ref a53), .val (.ref a60), .val (.int (own_fd (own_tb y24 n12) (own_tb y24 n12 A) A)), .val (.ref a75), .val (.int (own_dp y24 A).toInt32), .val (.int (-1 : Int32))] [(.int (1 : Int32))])) (fun tz kz => XS.goto X83.here hx rfl (pc0 := 386) (pc' := 390) rfl (hb hby at_386) (by decide) (by decide) kz) ?_
              exact own_retZW X83 hS (by rw [e83]; exact hk2) hZ hEL (by rw [e83]; exact CH) hx hret hlk (hb hby at_390) ⟨rfl, (Fr.app N1 (Fr.nil _))⟩ (by decide) (by decide)
            · refine own_viaW (F' := T83.setTop (mkF m 369 #[.val (.int p0), .val (.int p1), .val (.int p2), .val (.int (n12).toInt32), .val (.int (A).toInt32), .val (.ref a14), .val (.ref t26), .val (.ref t36), .val (.ref t39), .val (.ref t42), .val (.ref t45), .val (.ref a53), .val (.ref a60), .val (.int (own_fd (own_tb y24 n12) (own_tb y24 n12 A) A)), .val (.ref a75), .val (.int (own_dp y24 A).toInt32), .unset] [])) (fun tz kz => XS.ifYes X83.here hx rfl (pc0 := 362) (pc' := 369) rfl (hb hby at_362) rfl (XT.i0_ne_t (fun z => absurd ((own_eqI (i := own_dp y24 A) (j := 0) rfl rfl (by omega) (by decide)).mp z) q84)) (by decide) (by decide) kz) ?_
              refine own_viaW (F' := T83.setTop (mkF m 371 #[.val (.int p0), .val (.int p1), .val (.int p2), .val (.int (n12).toInt32), .val (.int (A).toInt32), .val (.ref a14), .val (.ref t26), .val (.ref t36), .val (.ref t39), .val (.ref t42), .val (.ref t45), .val (.ref a53), .val (.ref a60), .val (.int (own_fd (own_tb y24 n12) (own_tb y24 n12 A) A)), .val (.ref a75), .val (.int (own_dp y24 A).toInt32), .unset] [(.ref a75)])) (fun tz kz => XS.aload X83.here hx rfl (hb hby at_369) rfl rfl kz) ?_
              refine own_viaW (F' := T83.setTop (mkF m 373 #[.val (.int p0), .val (.int p1), .val (.int p2), .val (.int (n12).toInt32), .val (.int (A).toInt32), .val (.ref a14), .val (.ref t26), .val (.ref t36), .val (.ref t39), .val (.ref t42), .val (.ref t45), .val (.ref a53), .val (.ref a60), .val (.int (own_fd (own_tb y24 n12) (own_tb y24 n12 A) A)), .val (.ref a75), .val (.int (own_dp y24 A).toInt32), .unset] [(.int (own_dp y24 A).toInt32), (.ref a75)])) (fun tz kz => XS.iload X83.here hx rfl (hb hby at_371) rfl kz) ?_
              refine own_viaW (F' := T83.setTop (mkF m 374 #[.val (.int p0), .val (.int p1), .val (.int p2), .val (.int (n12).toInt32), .val (.int (A).toInt32), .val (.ref a14), .val (.ref t26), .val (.ref t36), .val (.ref t39), .val (.ref t42), .val (.ref t45), .val (.ref a53), .val (.ref a60), .val (.int (own_fd (own_tb y24 n12) (own_tb y24 n12 A) A)), .val (.ref a75), .val (.int (own_dp y24 A).toInt32), .unset] [(.int (1 : Int32)), (.int (own_dp y24 A).toInt32), (.ref a75)])) (fun tz kz => XT.iconstV X83.here hx rfl (1 : Int32) (hb hby at_373) (by decide) kz) ?_
              refine own_viaW (F' := T83.setTop (mkF m 375 #[.val (.int p0), .val (.int p1), .val (.int p2), .val (.int (n12).toInt32), .val (.int (A).toInt32), .val (.ref a14), .val (.ref t26), .val (.ref t36), .val (.ref t39), .val (.ref t42), .val (.ref t45), .val (.ref a53), .val (.ref a60), .val (.int (own_fd (own_tb y24 n12) (own_tb y24 n12 A) A)), .val (.ref a75), .val (.int (own_dp y24 A).toInt32), .unset] [(.int (own_dp y24 A - 1).toInt32), (.ref a75)])) (fun tz kz => XS.isub X83.here hx rfl (hb hby at_374) rfl (by rw [own_pred (by omega)]; exact kz)) ?_
              refine own_viaW (F' := T83.setTop (mkF m 376 #[.val (.int p0), .val (.int p1), .val (.int p2), .val (.int (n12).toInt32), .val (.int (A).toInt32), .val (.ref a14), .val (.ref t26), .val (.ref t36), .val (.ref t39), .val (.ref t42), .val (.ref t45), .val (.ref a53), .val (.ref a60), .val (.int (own_fd (own_tb y24 n12) (own_tb y24 n12 A) A)), .val (.ref a75), .val (.int (own_dp y24 A).toInt32), .unset] [(.int (own_sk y24 A (own_dp y24 A - 1)).toInt32)])) (fun tz kz => Qx.load X83 hx hZ e83 (j := own_dp y24 A - 1) rfl (by omega) (by decide) rfl (g := (mkF m 375 #[.val (.int p0), .val (.int p1), .val (.int p2), .val (.int (n12).toInt32), .val (.int (A).toInt32), .val (.ref a14), .val (.ref t26), .val (.ref t36), .val (.ref t39), .val (.ref t42), .val (.ref t45), .val (.ref a53), .val (.ref a60), .val (.int (own_fd (own_tb y24 n12) (own_tb y24 n12 A) A)), .val (.ref a75), .val (.int (own_dp y24 A).toInt32), .unset] [(.int (own_dp y24 A - 1).toInt32), (.ref a75)])) rfl rfl (hb hby at_375) tz kz) ?_
              have hf : (own_fd (own_tb y24 n12) (own_tb y24 n12 A) A) = (own_sk y24 A (own_dp y24 A - 1)).toInt32 := by rw [hgot]; exact if_neg (by omega)
              refine own_viaW (F' := T83.setTop (mkF m 378 #[.val (.int p0), .val (.int p1), .val (.int p2), .val (.int (n12).toInt32), .val (.int (A).toInt32), .val (.ref a14), .val (.ref t26), .val (.ref t36), .val (.ref t39), .val (.ref t42), .val (.ref t45), .val (.ref a53), .val (.ref a60), .val (.int (own_fd (own_tb y24 n12) (own_tb y24 n12 A) A)), .val (.ref a75), .val (.int (own_dp y24 A).toInt32), .val (.int (own_sk y24 A (own_dp y24 A - 1)).toInt32)] [])) (fun tz kz => XS.istore X83.here hx rfl (hb hby at_376) rfl (l' := #[.val (.int p0), .val (.int p1), .val (.int p2), .val (.int (n12).toInt32), .val (.int (A).toInt32), .val (.ref a14), .val (.ref t26), .val (.ref t36), .val (.ref t39), .val (.ref t42), .val (.ref t45), .val (.ref a53), .val (.ref a60), .val (.int (own_fd (own_tb y24 n12) (own_tb y24 n12 A) A)), .val (.ref a75), .val (.int (own_dp y24 A).toInt32), .val (.int (own_sk y24 A (own_dp y24 A - 1)).toInt32)]) rfl kz) ?_
              refine own_viaW (F' := T83.setTop (mkF m 380 #[.val (.int p0), .val (.int p1), .val (.int p2), .val (.int (n12).toInt32), .val (.int (A).toInt32), .val (.ref a14), .val (.ref t26), .val (.ref t36), .val (.ref t39), .val (.ref t42), .val (.ref t45), .val (.ref a53), .val (.ref a60), .val (.int (own_fd (own_tb y24 n12) (own_tb y24 n12 A) A)), .val (.ref a75), .val (.int (own_dp y24 A).toInt32), .val (.int (own_sk y24 A (own_dp y24 A - 1)).toInt32)] [(.int (own_fd (own_tb y24 n12) (own_tb y24 n12 A) A))])) (fun tz kz => XS.iload X83.here hx rfl (hb hby at_378) rfl kz) ?_
              refine own_viaW (F' := T83.setTop (mkF m 382 #[.val (.int p0), .val (.int p1), .val (.int p2), .val (.int (n12).toInt32), .val (.int (A).toInt32), .val (.ref a14), .val (.ref t26), .val (.ref t36), .val (.ref t39), .val (.ref t42), .val (.ref t45), .val (.ref a53), .val (.ref a60), .val (.int (own_fd (own_tb y24 n12) (own_tb y24 n12 A) A)), .val (.ref a75), .val (.int (own_dp y24 A).toInt32), .val (.int (own_sk y24 A (own_dp y24 A - 1)).toInt32)] [(.int (own_sk y24 A (own_dp y24 A - 1)).toInt32), (.int (own_fd (own_tb y24 n12) (own_tb y24 n12 A) A))])) (fun tz kz => XS.iload X83.here hx rfl (hb hby at_380) rfl kz) ?_
              refine own_viaW (F' := T83.setTop (mkF m 385 #[.val (.int p0), .val (.int p1), .val (.int p2), .val (.int (n12).toInt32), .val (.int (A).toInt32), .val (.ref a14), .val (.ref t26), .val (.ref t36), .val (.ref t39), .val (.ref t42), .val (.ref t45), .val (.ref a53), .val (.ref a60), .val (.int (own_fd (own_tb y24 n12) (own_tb y24 n12 A) A)), .val (.ref a75), .val (.int (own_dp y24 A).toInt32), .val (.int (own_sk y24 A (own_dp y24 A - 1)).toInt32)] [])) (fun tz kz => XS.icmpNo X83.here hx rfl (hb hby at_382) rfl (XT.ii_ne_f hf) kz) ?_
              refine own_viaW (F' := T83.setTop (mkF m 386 #[.val (.int p0), .val (.int p1), .val (.int p2), .val (.int (n12).toInt32), .val (.int (A).toInt32), .val (.ref a14), .val (.ref t26), .val (.ref t36), .val (.ref t39), .val (.ref t42), .val (.ref t45), .val (.ref a53), .val (.ref a60), .val (.int (own_fd (own_tb y24 n12) (own_tb y24 n12 A) A)), .val (.ref a75), .val (.int (own_dp y24 A).toInt32), .val (.int (own_sk y24 A (own_dp y24 A - 1)).toInt32)] [(.int (1 : Int32))])) (fun tz kz => XT.iconstV X83.here hx rfl (1 : Int32) (hb hby at_385) (by decide) kz) ?_
              refine own_viaW (F' := T83.setTop (mkF m 390 #[.val (.int p0), .val (.int p1), .val (.int p2), .val (.int (n12).toInt32), .val (.int (A).toInt32), .val (.ref a14), .val (.ref t26), .val (.ref t36), .val (.ref t39), .val (.ref t42), .val (.ref t45), .val (.ref a53), .val (.ref a60), .val (.int (own_fd (own_tb y24 n12) (own_tb y24 n12 A) A)), .val (.ref a75), .val (.int (own_dp y24 A).toInt32), .val (.int (own_sk y24 A (own_dp y24 A - 1)).toInt32)] [(.int (1 : Int32))])) (fun tz kz => XS.goto X83.here hx rfl (pc0 := 386) (pc' := 390) rfl (hb hby at_386) (by decide) (by decide) kz) ?_
              exact own_retZW X83 hS (by rw [e83]; exact hk2) hZ hEL (by rw [e83]; exact CH) hx hret hlk (hb hby at_390) ⟨rfl, (Fr.app N1 (Fr.nil _))⟩ (by decide) (by decide)
        · refine own_viaW (F' := T.setTop (mkF m 332 #[.val (.int p0), .val (.int p1), .val (.int p2), .val (.int (n12).toInt32), .val (.int (A).toInt32), .val (.ref a14), .val (.ref t26), .val (.ref t36), .val (.ref t39), .val (.ref t42), .val (.ref t45), .val (.ref a53), .val (.ref a60), .val (.int (own_fd (own_tb y24 n12) (own_tb y24 n12 A) A)), .val (.ref a75), .val (.int (own_dp y24 A).toInt32), .unset] [])) (fun tz kz => XS.icmpNo X.here hx rfl (hb hby at_329) rfl (XT.ii_lt_f (fun z => absurd ((own_ltI (i := A) (j := n12) rfl rfl (by omega) (by omega)).mp z) q79)) kz) ?_
          refine own_viaW (F' := T.setTop (mkF m 333 #[.val (.int p0), .val (.int p1), .val (.int p2), .val (.int (n12).toInt32), .val (.int (A).toInt32), .val (.ref a14), .val (.ref t26), .val (.ref t36), .val (.ref t39), .val (.ref t42), .val (.ref t45), .val (.ref a53), .val (.ref a60), .val (.int (own_fd (own_tb y24 n12) (own_tb y24 n12 A) A)), .val (.ref a75), .val (.int (own_dp y24 A).toInt32), .unset] [(.int (-1 : Int32))])) (fun tz kz => XT.iconstV X.here hx rfl (-1 : Int32) (hb hby at_332) (by decide) kz) ?_
          have hf : (own_fd (own_tb y24 n12) (own_tb y24 n12 A) A) = (-1 : Int32) := by rw [show A = n12 by omega]; exact own_exp2 y24 n12
          refine own_viaW (F' := T.setTop (mkF m 335 #[.val (.int p0), .val (.int p1), .val (.int p2), .val (.int (n12).toInt32), .val (.int (A).toInt32), .val (.ref a14), .val (.ref t26), .val (.ref t36), .val (.ref t39), .val (.ref t42), .val (.ref t45), .val (.ref a53), .val (.ref a60), .val (.int (own_fd (own_tb y24 n12) (own_tb y24 n12 A) A)), .val (.ref a75), .val (.int (own_dp y24 A).toInt32), .val (.int (-1 : Int32))] [])) (fun tz kz => XS.istore X.here hx rfl (hb hby at_333) rfl (l' := #[.val (.int p0), .val (.int p1), .val (.int p2), .val (.int (n12).toInt32), .val (.int (A).toInt32), .val (.ref a14), .val (.ref t26), .val (.ref t36), .val (.ref t39), .val (.ref t42), .val (.ref t45), .val (.ref a53), .val (.ref a60), .val (.int (own_fd (own_tb y24 n12) (own_tb y24 n12 A) A)), .val (.ref a75), .val (.int (own_dp y24 A).toInt32), .val (.int (-1 : Int32))]) rfl kz) ?_
          refine own_viaW (F' := T.setTop (mkF m 378 #[.val (.int p0), .val (.int p1), .val (.int p2), .val (.int (n12).toInt32), .val (.int (A).toInt32), .val (.ref a14), .val (.ref t26), .val (.ref t36), .val (.ref t39), .val (.ref t42), .val (.ref t45), .val (.ref a53), .val (.ref a60), .val (.int (own_fd (own_tb y24 n12) (own_tb y24 n12 A) A)), .val (.ref a75), .val (.int (own_dp y24 A).toInt32), .val (.int (-1 : Int32))] [])) (fun tz kz => XS.goto X.here hx rfl (pc0 := 335) (pc' := 378) rfl (hb hby at_335) (by decide) (by decide) kz) ?_
          refine own_viaW (F' := T.setTop (mkF m 380 #[.val (.int p0), .val (.int p1), .val (.int p2), .val (.int (n12).toInt32), .val (.int (A).toInt32), .val (.ref a14), .val (.ref t26), .val (.ref t36), .val (.ref t39), .val (.ref t42), .val (.ref t45), .val (.ref a53), .val (.ref a60), .val (.int (own_fd (own_tb y24 n12) (own_tb y24 n12 A) A)), .val (.ref a75), .val (.int (own_dp y24 A).toInt32), .val (.int (-1 : Int32))] [(.int (own_fd (own_tb y24 n12) (own_tb y24 n12 A) A))])) (fun tz kz => XS.iload X.here hx rfl (hb hby at_378) rfl kz) ?_
          refine own_viaW (F' := T.setTop (mkF m 382 #[.val (.int p0), .val (.int p1), .val (.int p2), .val (.int (n12).toInt32), .val (.int (A).toInt32), .val (.ref a14), .val (.ref t26), .val (.ref t36), .val (.ref t39), .val (.ref t42), .val (.ref t45), .val (.ref a53), .val (.ref a60), .val (.int (own_fd (own_tb y24 n12) (own_tb y24 n12 A) A)), .val (.ref a75), .val (.int (own_dp y24 A).toInt32), .val (.int (-1 : Int32))] [(.int (-1 : Int32)), (.int (own_fd (own_tb y24 n12) (own_tb y24 n12 A) A))])) (fun tz kz => XS.iload X.here hx rfl (hb hby at_380) rfl kz) ?_
          refine own_viaW (F' := T.setTop (mkF m 385 #[.val (.int p0), .val (.int p1), .val (.int p2), .val (.int (n12).toInt32), .val (.int (A).toInt32), .val (.ref a14), .val (.ref t26), .val (.ref t36), .val (.ref t39), .val (.ref t42), .val (.ref t45), .val (.ref a53), .val (.ref a60), .val (.int (own_fd (own_tb y24 n12) (own_tb y24 n12 A) A)), .val (.ref a75), .val (.int (own_dp y24 A).toInt32), .val (.int (-1 : Int32))] [])) (fun tz kz => XS.icmpNo X.here hx rfl (hb hby at_382) rfl (XT.ii_ne_f hf) kz) ?_
          refine own_viaW (F' := T.setTop (mkF m 386 #[.val (.int p0), .val (.int p1), .val (.int p2), .val (.int (n12).toInt32), .val (.int (A).toInt32), .val (.ref a14), .val (.ref t26), .val (.ref t36), .val (.ref t39), .val (.ref t42), .val (.ref t45), .val (.ref a53), .val (.ref a60), .val (.int (own_fd (own_tb y24 n12) (own_tb y24 n12 A) A)), .val (.ref a75), .val (.int (own_dp y24 A).toInt32), .val (.int (-1 : Int32))] [(.int (1 : Int32))])) (fun tz kz => XT.iconstV X.here hx rfl (1 : Int32) (hb hby at_385) (by decide) kz) ?_
          refine own_viaW (F' := T.setTop (mkF m 390 #[.val (.int p0), .val (.int p1), .val (.int p2), .val (.int (n12).toInt32), .val (.int (A).toInt32), .val (.ref a14), .val (.ref t26), .val (.ref t36), .val (.ref t39), .val (.ref t42), .val (.ref t45), .val (.ref a53), .val (.ref a60), .val (.int (own_fd (own_tb y24 n12) (own_tb y24 n12 A) A)), .val (.ref a75), .val (.int (own_dp y24 A).toInt32), .val (.int (-1 : Int32))] [(.int (1 : Int32))])) (fun tz kz => XS.goto X.here hx rfl (pc0 := 386) (pc' := 390) rfl (hb hby at_386) (by decide) (by decide) kz) ?_
          exact own_retZW X hS (by rw [e1]; exact hk2) hZ hEL (by rw [e1]; exact CH) hx hret hlk (hb hby at_390) ⟨rfl, N1⟩ (by decide) (by decide)
      refine own_viaW (F' := T75.setTop (mkF m 224 #[.val (.int p0), .val (.int p1), .val (.int p2), .val (.int (n12).toInt32), .val (.int (A).toInt32), .val (.ref a14), .val (.ref t26), .val (.ref t36), .val (.ref t39), .val (.ref t42), .val (.ref t45), .val (.ref a53), .val (.ref a60), .val (.int (own_fd (own_tb y24 n12) (own_tb y24 n12 A) A)), .val (.ref a75), .val (.int (0 : Int32)), .unset] [(.int (A).toInt32)])) (fun tz kz => XS.iload X75.here hx rfl (hb hby at_222) rfl kz) ?_
      by_cases q85 : 0 < A
      · refine own_viaW (F' := T75.setTop (mkF m 227 #[.val (.int p0), .val (.int p1), .val (.int p2), .val (.int (n12).toInt32), .val (.int (A).toInt32), .val (.ref a14), .val (.ref t26), .val (.ref t36), .val (.ref t39), .val (.ref t42), .val (.ref t45), .val (.ref a53), .val (.ref a60), .val (.int (own_fd (own_tb y24 n12) (own_tb y24 n12 A) A)), .val (.ref a75), .val (.int (0 : Int32)), .unset] [])) (fun tz kz => XS.ifNo X75.here hx rfl (hb hby at_224) rfl (XT.i0_le_f ((own_ltI (i := 0) (j := A) rfl rfl (by decide) (by omega)).mpr q85)) kz) ?_
        refine own_viaW (F' := T75.setTop (mkF m 229 #[.val (.int p0), .val (.int p1), .val (.int p2), .val (.int (n12).toInt32), .val (.int (A).toInt32), .val (.ref a14), .val (.ref t26), .val (.ref t36), .val (.ref t39), .val (.ref t42), .val (.ref t45), .val (.ref a53), .val (.ref a60), .val (.int (own_fd (own_tb y24 n12) (own_tb y24 n12 A) A)), .val (.ref a75), .val (.int (0 : Int32)), .unset] [(.ref a75)])) (fun tz kz => XS.aload X75.here hx rfl (hb hby at_227) rfl rfl kz) ?_
        refine own_viaW (F' := T75.setTop (mkF m 231 #[.val (.int p0), .val (.int p1), .val (.int p2), .val (.int (n12).toInt32), .val (.int (A).toInt32), .val (.ref a14), .val (.ref t26), .val (.ref t36), .val (.ref t39), .val (.ref t42), .val (.ref t45), .val (.ref a53), .val (.ref a60), .val (.int (own_fd (own_tb y24 n12) (own_tb y24 n12 A) A)), .val (.ref a75), .val (.int (0 : Int32)), .unset] [(.int (0 : Int32)), (.ref a75)])) (fun tz kz => XS.iload X75.here hx rfl (hb hby at_229) rfl kz) ?_
        refine own_viaW (F' := T75.setTop (mkF m 233 #[.val (.int p0), .val (.int p1), .val (.int p2), .val (.int (n12).toInt32), .val (.int (A).toInt32), .val (.ref a14), .val (.ref t26), .val (.ref t36), .val (.ref t39), .val (.ref t42), .val (.ref t45), .val (.ref a53), .val (.ref a60), .val (.int (own_fd (own_tb y24 n12) (own_tb y24 n12 A) A)), .val (.ref a75), .val (.int (0 : Int32)), .unset] [(.ref a14), (.int (0 : Int32)), (.ref a75)])) (fun tz kz => XS.aload X75.here hx rfl (hb hby at_231) rfl rfl kz) ?_
        refine own_viaW (F' := T75.setTop (mkF m 234 #[.val (.int p0), .val (.int p1), .val (.int p2), .val (.int (n12).toInt32), .val (.int (A).toInt32), .val (.ref a14), .val (.ref t26), .val (.ref t36), .val (.ref t39), .val (.ref t42), .val (.ref t45), .val (.ref a53), .val (.ref a60), .val (.int (own_fd (own_tb y24 n12) (own_tb y24 n12 A) A)), .val (.ref a75), .val (.int (0 : Int32)), .unset] [(.int (0 : Int32)), (.ref a14), (.int (0 : Int32)), (.ref a75)])) (fun tz kz => XT.iconstV X75.here hx rfl (0 : Int32) (hb hby at_233) (by decide) kz) ?_
        have f86 := (f76.ext E75)
        refine own_viaW (F' := T75.setTop (mkF m 235 #[.val (.int p0), .val (.int p1), .val (.int p2), .val (.int (n12).toInt32), .val (.int (A).toInt32), .val (.ref a14), .val (.ref t26), .val (.ref t36), .val (.ref t39), .val (.ref t42), .val (.ref t45), .val (.ref a53), .val (.ref a60), .val (.int (own_fd (own_tb y24 n12) (own_tb y24 n12 A) A)), .val (.ref a75), .val (.int (0 : Int32)), .unset] [(.int (y24 0).toInt32), (.int (0 : Int32)), (.ref a75)])) (fun tz kz => f86.load X75 hx hZ e75 (j := 0) rfl (by decide) (by decide) rfl (g := (mkF m 234 #[.val (.int p0), .val (.int p1), .val (.int p2), .val (.int (n12).toInt32), .val (.int (A).toInt32), .val (.ref a14), .val (.ref t26), .val (.ref t36), .val (.ref t39), .val (.ref t42), .val (.ref t45), .val (.ref a53), .val (.ref a60), .val (.int (own_fd (own_tb y24 n12) (own_tb y24 n12 A) A)), .val (.ref a75), .val (.int (0 : Int32)), .unset] [(.int (0 : Int32)), (.ref a14), (.int (0 : Int32)), (.ref a75)])) rfl rfl (hb hby at_234) tz kz) ?_
        refine own_viaW (F' := T75.setTop (mkF m 236 #[.val (.int p0), .val (.int p1), .val (.int p2), .val (.int (n12).toInt32), .val (.int (A).toInt32), .val (.ref a14), .val (.ref t26), .val (.ref t36), .val (.ref t39), .val (.ref t42), .val (.ref t45), .val (.ref a53), .val (.ref a60), .val (.int (own_fd (own_tb y24 n12) (own_tb y24 n12 A) A)), .val (.ref a75), .val (.int (0 : Int32)), .unset] [(.int (0 : Int32)), (.int (y24 0).toInt32), (.int (0 : Int32)), (.ref a75)])) (fun tz kz => XT.iconstV X75.here hx rfl (0 : Int32) (hb hby at_235) (by decide) kz) ?_
        have hp0 := own_dp_le y24 0
        refine own_callSW X75 hx hZ (own_kst l Z az hw a75 (own_dp y24 0) (y24 0) 0 (own_sk y24 0) (hcc 0) (by omega) (by decide) h75 n0 Q0 G75) hown (hw _ (List.mem_of_getElem? (i := 172) rfl)) (hw _ (List.mem_of_getElem? (i := 173) rfl)) (hw _ (List.mem_of_getElem? (i := 4) rfl)) (hw _ (List.mem_of_getElem? (i := 174) rfl)) (by decide) e75 (g := (mkF m 236 #[.val (.int p0), .val (.int p1), .val (.int p2), .val (.int (n12).toInt32), .val (.int (A).toInt32), .val (.ref a14), .val (.ref t26), .val (.ref t36), .val (.ref t39), .val (.ref t42), .val (.ref t45), .val (.ref a53), .val (.ref a60), .val (.int (own_fd (own_tb y24 n12) (own_tb y24 n12 A) A)), .val (.ref a75), .val (.int (0 : Int32)), .unset] [(.int (0 : Int32)), (.int (y24 0).toInt32), (.int (0 : Int32)), (.ref a75)])) rfl (by rw [hml]; rfl) (argsL := [(.ref a75), (.int (0 : Int32)), (.int (y24 0).toInt32), (.int (0 : Int32))]) (rest := []) rfl (lenOf own_pd16 rfl) rfl 0 (by show 2 * 0 + _ ≤ _; exact Nat.le_of_eq rfl) (hb hby at_236) (by decide) (by decide) (by decide) (by decide) ?_
        intro v87 T87 L87 hQ87 X87
        obtain ⟨rfl, M87, K87, A87⟩ := hQ87
        have Q87 : own_I Z T87.heap a75 5 (own_sk y24 1) := A87
        refine own_viaW (F' := T87.setTop (mkF m 239 #[.val (.int p0), .val (.int p1), .val (.int p2), .val (.int (n12).toInt32), .val (.int (A).toInt32), .val (.ref a14), .val (.ref t26), .val (.ref t36), .val (.ref t39), .val (.ref t42), .val (.ref t45), .val (.ref a53), .val (.ref a60), .val (.int (own_fd (own_tb y24 n12) (own_tb y24 n12 A) A)), .val (.ref a75), .val (.int (0 : Int32)), .unset] [(.int (own_dp y24 1).toInt32)])) (fun tz kz => kz) ?_
        refine own_viaW (F' := T87.setTop (mkF m 241 #[.val (.int p0), .val (.int p1), .val (.int p2), .val (.int (n12).toInt32), .val (.int (A).toInt32), .val (.ref a14), .val (.ref t26), .val (.ref t36), .val (.ref t39), .val (.ref t42), .val (.ref t45), .val (.ref a53), .val (.ref a60), .val (.int (own_fd (own_tb y24 n12) (own_tb y24 n12 A) A)), .val (.ref a75), .val (.int (own_dp y24 1).toInt32), .unset] [])) (fun tz kz => XS.istore X87.here hx rfl (hb hby at_239) rfl (l' := #[.val (.int p0), .val (.int p1), .val (.int p2), .val (.int (n12).toInt32), .val (.int (A).toInt32), .val (.ref a14), .val (.ref t26), .val (.ref t36), .val (.ref t39), .val (.ref t42), .val (.ref t45), .val (.ref a53), .val (.ref a60), .val (.int (own_fd (own_tb y24 n12) (own_tb y24 n12 A) A)), .val (.ref a75), .val (.int (own_dp y24 1).toInt32), .unset]) rfl kz) ?_
        refine own_viaW (F' := T87.setTop (mkF m 243 #[.val (.int p0), .val (.int p1), .val (.int p2), .val (.int (n12).toInt32), .val (.int (A).toInt32), .val (.ref a14), .val (.ref t26), .val (.ref t36), .val (.ref t39), .val (.ref t42), .val (.ref t45), .val (.ref a53), .val (.ref a60), .val (.int (own_fd (own_tb y24 n12) (own_tb y24 n12 A) A)), .val (.ref a75), .val (.int (own_dp y24 1).toInt32), .unset] [(.int (A).toInt32)])) (fun tz kz => XS.iload X87.here hx rfl (hb hby at_241) rfl kz) ?_
        refine own_viaW (F' := T87.setTop (mkF m 244 #[.val (.int p0), .val (.int p1), .val (.int p2), .val (.int (n12).toInt32), .val (.int (A).toInt32), .val (.ref a14), .val (.ref t26), .val (.ref t36), .val (.ref t39), .val (.ref t42), .val (.ref t45), .val (.ref a53), .val (.ref a60), .val (.int (own_fd (own_tb y24 n12) (own_tb y24 n12 A) A)), .val (.ref a75), .val (.int (own_dp y24 1).toInt32), .unset] [(.int (1 : Int32)), (.int (A).toInt32)])) (fun tz kz => XT.iconstV X87.here hx rfl (1 : Int32) (hb hby at_243) (by decide) kz) ?_
        by_cases q88 : 1 < A
        · refine own_viaW (F' := T87.setTop (mkF m 247 #[.val (.int p0), .val (.int p1), .val (.int p2), .val (.int (n12).toInt32), .val (.int (A).toInt32), .val (.ref a14), .val (.ref t26), .val (.ref t36), .val (.ref t39), .val (.ref t42), .val (.ref t45), .val (.ref a53), .val (.ref a60), .val (.int (own_fd (own_tb y24 n12) (own_tb y24 n12 A) A)), .val (.ref a75), .val (.int (own_dp y24 1).toInt32), .unset] [])) (fun tz kz => XS.icmpNo X87.here hx rfl (hb hby at_244) rfl (XT.ii_le_f ((own_ltI (i := 1) (j := A) rfl rfl (by decide) (by omega)).mpr q88)) kz) ?_
          refine own_viaW (F' := T87.setTop (mkF m 249 #[.val (.int p0), .val (.int p1), .val (.int p2), .val (.int (n12).toInt32), .val (.int (A).toInt32), .val (.ref a14), .val (.ref t26), .val (.ref t36), .val (.ref t39), .val (.ref t42), .val (.ref t45), .val (.ref a53), .val (.ref a60), .val (.int (own_fd (own_tb y24 n12) (own_tb y24 n12 A) A)), .val (.ref a75), .val (.int (own_dp y24 1).toInt32), .unset] [(.ref a75)])) (fun tz kz => XS.aload X87.here hx rfl (hb hby at_247) rfl rfl kz) ?_
          refine own_viaW (F' := T87.setTop (mkF m 251 #[.val (.int p0), .val (.int p1), .val (.int p2), .val (.int (n12).toInt32), .val (.int (A).toInt32), .val (.ref a14), .val (.ref t26), .val (.ref t36), .val (.ref t39), .val (.ref t42), .val (.ref t45), .val (.ref a53), .val (.ref a60), .val (.int (own_fd (own_tb y24 n12) (own_tb y24 n12 A) A)), .val (.ref a75), .val (.int (own_dp y24 1).toInt32), .unset] [(.int (own_dp y24 1).toInt32), (.ref a75)])) (fun tz kz => XS.iload X87.here hx rfl (hb hby at_249) rfl kz) ?_
          refine own_viaW (F' := T87.setTop (mkF m 253 #[.val (.int p0), .val (.int p1), .val (.int p2), .val (.int (n12).toInt32), .val (.int (A).toInt32), .val (.ref a14), .val (.ref t26), .val (.ref t36), .val (.ref t39), .val (.ref t42), .val (.ref t45), .val (.ref a53), .val (.ref a60), .val (.int (own_fd (own_tb y24 n12) (own_tb y24 n12 A) A)), .val (.ref a75), .val (.int (own_dp y24 1).toInt32), .unset] [(.ref a14), (.int (own_dp y24 1).toInt32), (.ref a75)])) (fun tz kz => XS.aload X87.here hx rfl (hb hby at_251) rfl rfl kz) ?_
          refine own_viaW (F' := T87.setTop (mkF m 254 #[.val (.int p0), .val (.int p1), .val (.int p2), .val (.int (n12).toInt32), .val (.int (A).toInt32), .val (.ref a14), .val (.ref t26), .val (.ref t36), .val (.ref t39), .val (.ref t42), .val (.ref t45), .val (.ref a53), .val (.ref a60), .val (.int (own_fd (own_tb y24 n12) (own_tb y24 n12 A) A)), .val (.ref a75), .val (.int (own_dp y24 1).toInt32), .unset] [(.int (1 : Int32)), (.ref a14), (.int (own_dp y24 1).toInt32), (.ref a75)])) (fun tz kz => XT.iconstV X87.here hx rfl (1 : Int32) (hb hby at_253) (by decide) kz) ?_
          have f89 := ((f76.ext E75).keep K87 (ninS (own_ne (by omega)) nin0))
          refine own_viaW (F' := T87.setTop (mkF m 255 #[.val (.int p0), .val (.int p1), .val (.int p2), .val (.int (n12).toInt32), .val (.int (A).toInt32), .val (.ref a14), .val (.ref t26), .val (.ref t36), .val (.ref t39), .val (.ref t42), .val (.ref t45), .val (.ref a53), .val (.ref a60), .val (.int (own_fd (own_tb y24 n12) (own_tb y24 n12 A) A)), .val (.ref a75), .val (.int (own_dp y24 1).toInt32), .unset] [(.int (y24 1).toInt32), (.int (own_dp y24 1).toInt32), (.ref a75)])) (fun tz kz => f89.load X87 hx hZ rfl (j := 1) rfl (by decide) (by decide) rfl (g := (mkF m 254 #[.val (.int p0), .val (.int p1), .val (.int p2), .val (.int (n12).toInt32), .val (.int (A).toInt32), .val (.ref a14), .val (.ref t26), .val (.ref t36), .val (.ref t39), .val (.ref t42), .val (.ref t45), .val (.ref a53), .val (.ref a60), .val (.int (own_fd (own_tb y24 n12) (own_tb y24 n12 A) A)), .val (.ref a75), .val (.int (own_dp y24 1).toInt32), .unset] [(.int (1 : Int32)), (.ref a14), (.int (own_dp y24 1).toInt32), (.ref a75)])) rfl rfl (hb hby at_254) tz kz) ?_
          refine own_viaW (F' := T87.setTop (mkF m 256 #[.val (.int p0), .val (.int p1), .val (.int p2), .val (.int (n12).toInt32), .val (.int (A).toInt32), .val (.ref a14), .val (.ref t26), .val (.ref t36), .val (.ref t39), .val (.ref t42), .val (.ref t45), .val (.ref a53), .val (.ref a60), .val (.int (own_fd (own_tb y24 n12) (own_tb y24 n12 A) A)), .val (.ref a75), .val (.int (own_dp y24 1).toInt32), .unset] [(.int (1 : Int32)), (.int (y24 1).toInt32), (.int (own_dp y24 1).toInt32), (.ref a75)])) (fun tz kz => XT.iconstV X87.here hx rfl (1 : Int32) (hb hby at_255) (by decide) kz) ?_
          have hp1 := own_dp_le y24 1
          refine own_callSW X87 hx hZ (own_kst l Z az hw a75 (own_dp y24 1) (y24 1) 1 (own_sk y24 1) (hcc 1) (by omega) (by decide) T87.heap n0 Q87 G75) hown (hw _ (List.mem_of_getElem? (i := 172) rfl)) (hw _ (List.mem_of_getElem? (i := 173) rfl)) (hw _ (List.mem_of_getElem? (i := 4) rfl)) (hw _ (List.mem_of_getElem? (i := 174) rfl)) (by decide) rfl (g := (mkF m 256 #[.val (.int p0), .val (.int p1), .val (.int p2), .val (.int (n12).toInt32), .val (.int (A).toInt32), .val (.ref a14), .val (.ref t26), .val (.ref t36), .val (.ref t39), .val (.ref t42), .val (.ref t45), .val (.ref a53), .val (.ref a60), .val (.int (own_fd (own_tb y24 n12) (own_tb y24 n12 A) A)), .val (.ref a75), .val (.int (own_dp y24 1).toInt32), .unset] [(.int (1 : Int32)), (.int (y24 1).toInt32), (.int (own_dp y24 1).toInt32), (.ref a75)])) rfl (by rw [hml]; rfl) (argsL := [(.ref a75), (.int (own_dp y24 1).toInt32), (.int (y24 1).toInt32), (.int (1 : Int32))]) (rest := []) rfl (lenOf own_pd16 rfl) rfl 0 (by show 2 * 0 + _ ≤ _; exact Nat.le_of_eq rfl) (hb hby at_256) (by decide) (by decide) (by decide) (by decide) ?_
          intro v90 T90 L90 hQ90 X90
          obtain ⟨rfl, M90, K90, A90⟩ := hQ90
          have Q90 : own_I Z T90.heap a75 5 (own_sk y24 2) := A90
          refine own_viaW (F' := T90.setTop (mkF m 259 #[.val (.int p0), .val (.int p1), .val (.int p2), .val (.int (n12).toInt32), .val (.int (A).toInt32), .val (.ref a14), .val (.ref t26), .val (.ref t36), .val (.ref t39), .val (.ref t42), .val (.ref t45), .val (.ref a53), .val (.ref a60), .val (.int (own_fd (own_tb y24 n12) (own_tb y24 n12 A) A)), .val (.ref a75), .val (.int (own_dp y24 1).toInt32), .unset] [(.int (own_dp y24 2).toInt32)])) (fun tz kz => kz) ?_
          refine own_viaW (F' := T90.setTop (mkF m 261 #[.val (.int p0), .val (.int p1), .val (.int p2), .val (.int (n12).toInt32), .val (.int (A).toInt32), .val (.ref a14), .val (.ref t26), .val (.ref t36), .val (.ref t39), .val (.ref t42), .val (.ref t45), .val (.ref a53), .val (.ref a60), .val (.int (own_fd (own_tb y24 n12) (own_tb y24 n12 A) A)), .val (.ref a75), .val (.int (own_dp y24 2).toInt32), .unset] [])) (fun tz kz => XS.istore X90.here hx rfl (hb hby at_259) rfl (l' := #[.val (.int p0), .val (.int p1), .val (.int p2), .val (.int (n12).toInt32), .val (.int (A).toInt32), .val (.ref a14), .val (.ref t26), .val (.ref t36), .val (.ref t39), .val (.ref t42), .val (.ref t45), .val (.ref a53), .val (.ref a60), .val (.int (own_fd (own_tb y24 n12) (own_tb y24 n12 A) A)), .val (.ref a75), .val (.int (own_dp y24 2).toInt32), .unset]) rfl kz) ?_
          refine own_viaW (F' := T90.setTop (mkF m 263 #[.val (.int p0), .val (.int p1), .val (.int p2), .val (.int (n12).toInt32), .val (.int (A).toInt32), .val (.ref a14), .val (.ref t26), .val (.ref t36), .val (.ref t39), .val (.ref t42), .val (.ref t45), .val (.ref a53), .val (.ref a60), .val (.int (own_fd (own_tb y24 n12) (own_tb y24 n12 A) A)), .val (.ref a75), .val (.int (own_dp y24 2).toInt32), .unset] [(.int (A).toInt32)])) (fun tz kz => XS.iload X90.here hx rfl (hb hby at_261) rfl kz) ?_
          refine own_viaW (F' := T90.setTop (mkF m 264 #[.val (.int p0), .val (.int p1), .val (.int p2), .val (.int (n12).toInt32), .val (.int (A).toInt32), .val (.ref a14), .val (.ref t26), .val (.ref t36), .val (.ref t39), .val (.ref t42), .val (.ref t45), .val (.ref a53), .val (.ref a60), .val (.int (own_fd (own_tb y24 n12) (own_tb y24 n12 A) A)), .val (.ref a75), .val (.int (own_dp y24 2).toInt32), .unset] [(.int (2 : Int32)), (.int (A).toInt32)])) (fun tz kz => XT.iconstV X90.here hx rfl (2 : Int32) (hb hby at_263) (by decide) kz) ?_
          by_cases q91 : 2 < A
          · refine own_viaW (F' := T90.setTop (mkF m 267 #[.val (.int p0), .val (.int p1), .val (.int p2), .val (.int (n12).toInt32), .val (.int (A).toInt32), .val (.ref a14), .val (.ref t26), .val (.ref t36), .val (.ref t39), .val (.ref t42), .val (.ref t45), .val (.ref a53), .val (.ref a60), .val (.int (own_fd (own_tb y24 n12) (own_tb y24 n12 A) A)), .val (.ref a75), .val (.int (own_dp y24 2).toInt32), .unset] [])) (fun tz kz => XS.icmpNo X90.here hx rfl (hb hby at_264) rfl (XT.ii_le_f ((own_ltI (i := 2) (j := A) rfl rfl (by decide) (by omega)).mpr q91)) kz) ?_
            refine own_viaW (F' := T90.setTop (mkF m 269 #[.val (.int p0), .val (.int p1), .val (.int p2), .val (.int (n12).toInt32), .val (.int (A).toInt32), .val (.ref a14), .val (.ref t26), .val (.ref t36), .val (.ref t39), .val (.ref t42), .val (.ref t45), .val (.ref a53), .val (.ref a60), .val (.int (own_fd (own_tb y24 n12) (own_tb y24 n12 A) A)), .val (.ref a75), .val (.int (own_dp y24 2).toInt32), .unset] [(.ref a75)])) (fun tz kz => XS.aload X90.here hx rfl (hb hby at_267) rfl rfl kz) ?_
            refine own_viaW (F' := T90.setTop (mkF m 271 #[.val (.int p0), .val (.int p1), .val (.int p2), .val (.int (n12).toInt32), .val (.int (A).toInt32), .val (.ref a14), .val (.ref t26), .val (.ref t36), .val (.ref t39), .val (.ref t42), .val (.ref t45), .val (.ref a53), .val (.ref a60), .val (.int (own_fd (own_tb y24 n12) (own_tb y24 n12 A) A)), .val (.ref a75), .val (.int (own_dp y24 2).toInt32), .unset] [(.int (own_dp y24 2).toInt32), (.ref a75)])) (fun tz kz => XS.iload X90.here hx rfl (hb hby at_269) rfl kz) ?_
            refine own_viaW (F' := T90.setTop (mkF m 273 #[.val (.int p0), .val (.int p1), .val (.int p2), .val (.int (n12).toInt32), .val (.int (A).toInt32), .val (.ref a14), .val (.ref t26), .val (.ref t36), .val (.ref t39), .val (.ref t42), .val (.ref t45), .val (.ref a53), .val (.ref a60), .val (.int (own_fd (own_tb y24 n12) (own_tb y24 n12 A) A)), .val (.ref a75), .val (.int (own_dp y24 2).toInt32), .unset] [(.ref a14), (.int (own_dp y24 2).toInt32), (.ref a75)])) (fun tz kz => XS.aload X90.here hx rfl (hb hby at_271) rfl rfl kz) ?_
            refine own_viaW (F' := T90.setTop (mkF m 274 #[.val (.int p0), .val (.int p1), .val (.int p2), .val (.int (n12).toInt32), .val (.int (A).toInt32), .val (.ref a14), .val (.ref t26), .val (.ref t36), .val (.ref t39), .val (.ref t42), .val (.ref t45), .val (.ref a53), .val (.ref a60), .val (.int (own_fd (own_tb y24 n12) (own_tb y24 n12 A) A)), .val (.ref a75), .val (.int (own_dp y24 2).toInt32), .unset] [(.int (2 : Int32)), (.ref a14), (.int (own_dp y24 2).toInt32), (.ref a75)])) (fun tz kz => XT.iconstV X90.here hx rfl (2 : Int32) (hb hby at_273) (by decide) kz) ?_
            have f92 := (((f76.ext E75).keep K87 (ninS (own_ne (by omega)) nin0)).keep K90 (ninS (own_ne (by omega)) nin0))
            refine own_viaW (F' := T90.setTop (mkF m 275 #[.val (.int p0), .val (.int p1), .val (.int p2), .val (.int (n12).toInt32), .val (.int (A).toInt32), .val (.ref a14), .val (.ref t26), .val (.ref t36), .val (.ref t39), .val (.ref t42), .val (.ref t45), .val (.ref a53), .val (.ref a60), .val (.int (own_fd (own_tb y24 n12) (own_tb y24 n12 A) A)), .val (.ref a75), .val (.int (own_dp y24 2).toInt32), .unset] [(.int (y24 2).toInt32), (.int (own_dp y24 2).toInt32), (.ref a75)])) (fun tz kz => f92.load X90 hx hZ rfl (j := 2) rfl (by decide) (by decide) rfl (g := (mkF m 274 #[.val (.int p0), .val (.int p1), .val (.int p2), .val (.int (n12).toInt32), .val (.int (A).toInt32), .val (.ref a14), .val (.ref t26), .val (.ref t36), .val (.ref t39), .val (.ref t42), .val (.ref t45), .val (.ref a53), .val (.ref a60), .val (.int (own_fd (own_tb y24 n12) (own_tb y24 n12 A) A)), .val (.ref a75), .val (.int (own_dp y24 2).toInt32), .unset] [(.int (2 : Int32)), (.ref a14), (.int (own_dp y24 2).toInt32), (.ref a75)])) rfl rfl (hb hby at_274) tz kz) ?_
            refine own_viaW (F' := T90.setTop (mkF m 276 #[.val (.int p0), .val (.int p1), .val (.int p2), .val (.int (n12).toInt32), .val (.int (A).toInt32), .val (.ref a14), .val (.ref t26), .val (.ref t36), .val (.ref t39), .val (.ref t42), .val (.ref t45), .val (.ref a53), .val (.ref a60), .val (.int (own_fd (own_tb y24 n12) (own_tb y24 n12 A) A)), .val (.ref a75), .val (.int (own_dp y24 2).toInt32), .unset] [(.int (2 : Int32)), (.int (y24 2).toInt32), (.int (own_dp y24 2).toInt32), (.ref a75)])) (fun tz kz => XT.iconstV X90.here hx rfl (2 : Int32) (hb hby at_275) (by decide) kz) ?_
            have hp2 := own_dp_le y24 2
            refine own_callSW X90 hx hZ (own_kst l Z az hw a75 (own_dp y24 2) (y24 2) 2 (own_sk y24 2) (hcc 2) (by omega) (by decide) T90.heap n0 Q90 G75) hown (hw _ (List.mem_of_getElem? (i := 172) rfl)) (hw _ (List.mem_of_getElem? (i := 173) rfl)) (hw _ (List.mem_of_getElem? (i := 4) rfl)) (hw _ (List.mem_of_getElem? (i := 174) rfl)) (by decide) rfl (g := (mkF m 276 #[.val (.int p0), .val (.int p1), .val (.int p2), .val (.int (n12).toInt32), .val (.int (A).toInt32), .val (.ref a14), .val (.ref t26), .val (.ref t36), .val (.ref t39), .val (.ref t42), .val (.ref t45), .val (.ref a53), .val (.ref a60), .val (.int (own_fd (own_tb y24 n12) (own_tb y24 n12 A) A)), .val (.ref a75), .val (.int (own_dp y24 2).toInt32), .unset] [(.int (2 : Int32)), (.int (y24 2).toInt32), (.int (own_dp y24 2).toInt32), (.ref a75)])) rfl (by rw [hml]; rfl) (argsL := [(.ref a75), (.int (own_dp y24 2).toInt32), (.int (y24 2).toInt32), (.int (2 : Int32))]) (rest := []) rfl (lenOf own_pd16 rfl) rfl 0 (by show 2 * 0 + _ ≤ _; exact Nat.le_of_eq rfl) (hb hby at_276) (by decide) (by decide) (by decide) (by decide) ?_
            intro v93 T93 L93 hQ93 X93
            obtain ⟨rfl, M93, K93, A93⟩ := hQ93
            have Q93 : own_I Z T93.heap a75 5 (own_sk y24 3) := A93
            refine own_viaW (F' := T93.setTop (mkF m 279 #[.val (.int p0), .val (.int p1), .val (.int p2), .val (.int (n12).toInt32), .val (.int (A).toInt32), .val (.ref a14), .val (.ref t26), .val (.ref t36), .val (.ref t39), .val (.ref t42), .val (.ref t45), .val (.ref a53), .val (.ref a60), .val (.int (own_fd (own_tb y24 n12) (own_tb y24 n12 A) A)), .val (.ref a75), .val (.int (own_dp y24 2).toInt32), .unset] [(.int (own_dp y24 3).toInt32)])) (fun tz kz => kz) ?_
            refine own_viaW (F' := T93.setTop (mkF m 281 #[.val (.int p0), .val (.int p1), .val (.int p2), .val (.int (n12).toInt32), .val (.int (A).toInt32), .val (.ref a14), .val (.ref t26), .val (.ref t36), .val (.ref t39), .val (.ref t42), .val (.ref t45), .val (.ref a53), .val (.ref a60), .val (.int (own_fd (own_tb y24 n12) (own_tb y24 n12 A) A)), .val (.ref a75), .val (.int (own_dp y24 3).toInt32), .unset] [])) (fun tz kz => XS.istore X93.here hx rfl (hb hby at_279) rfl (l' := #[.val (.int p0), .val (.int p1), .val (.int p2), .val (.int (n12).toInt32), .val (.int (A).toInt32), .val (.ref a14), .val (.ref t26), .val (.ref t36), .val (.ref t39), .val (.ref t42), .val (.ref t45), .val (.ref a53), .val (.ref a60), .val (.int (own_fd (own_tb y24 n12) (own_tb y24 n12 A) A)), .val (.ref a75), .val (.int (own_dp y24 3).toInt32), .unset]) rfl kz) ?_
            refine own_viaW (F' := T93.setTop (mkF m 283 #[.val (.int p0), .val (.int p1), .val (.int p2), .val (.int (n12).toInt32), .val (.int (A).toInt32), .val (.ref a14), .val (.ref t26), .val (.ref t36), .val (.ref t39), .val (.ref t42), .val (.ref t45), .val (.ref a53), .val (.ref a60), .val (.int (own_fd (own_tb y24 n12) (own_tb y24 n12 A) A)), .val (.ref a75), .val (.int (own_dp y24 3).toInt32), .unset] [(.int (A).toInt32)])) (fun tz kz => XS.iload X93.here hx rfl (hb hby at_281) rfl kz) ?_
            refine own_viaW (F' := T93.setTop (mkF m 284 #[.val (.int p0), .val (.int p1), .val (.int p2), .val (.int (n12).toInt32), .val (.int (A).toInt32), .val (.ref a14), .val (.ref t26), .val (.ref t36), .val (.ref t39), .val (.ref t42), .val (.ref t45), .val (.ref a53), .val (.ref a60), .val (.int (own_fd (own_tb y24 n12) (own_tb y24 n12 A) A)), .val (.ref a75), .val (.int (own_dp y24 3).toInt32), .unset] [(.int (3 : Int32)), (.int (A).toInt32)])) (fun tz kz => XT.iconstV X93.here hx rfl (3 : Int32) (hb hby at_283) (by decide) kz) ?_
            by_cases q94 : 3 < A
            · refine own_viaW (F' := T93.setTop (mkF m 287 #[.val (.int p0), .val (.int p1), .val (.int p2), .val (.int (n12).toInt32), .val (.int (A).toInt32), .val (.ref a14), .val (.ref t26), .val (.ref t36), .val (.ref t39), .val (.ref t42), .val (.ref t45), .val (.ref a53), .val (.ref a60), .val (.int (own_fd (own_tb y24 n12) (own_tb y24 n12 A) A)), .val (.ref a75), .val (.int (own_dp y24 3).toInt32), .unset] [])) (fun tz kz => XS.icmpNo X93.here hx rfl (hb hby at_284) rfl (XT.ii_le_f ((own_ltI (i := 3) (j := A) rfl rfl (by decide) (by omega)).mpr q94)) kz) ?_
              refine own_viaW (F' := T93.setTop (mkF m 289 #[.val (.int p0), .val (.int p1), .val (.int p2), .val (.int (n12).toInt32), .val (.int (A).toInt32), .val (.ref a14), .val (.ref t26), .val (.ref t36), .val (.ref t39), .val (.ref t42), .val (.ref t45), .val (.ref a53), .val (.ref a60), .val (.int (own_fd (own_tb y24 n12) (own_tb y24 n12 A) A)), .val (.ref a75), .val (.int (own_dp y24 3).toInt32), .unset] [(.ref a75)])) (fun tz kz => XS.aload X93.here hx rfl (hb hby at_287) rfl rfl kz) ?_
              refine own_viaW (F' := T93.setTop (mkF m 291 #[.val (.int p0), .val (.int p1), .val (.int p2), .val (.int (n12).toInt32), .val (.int (A).toInt32), .val (.ref a14), .val (.ref t26), .val (.ref t36), .val (.ref t39), .val (.ref t42), .val (.ref t45), .val (.ref a53), .val (.ref a60), .val (.int (own_fd (own_tb y24 n12) (own_tb y24 n12 A) A)), .val (.ref a75), .val (.int (own_dp y24 3).toInt32), .unset] [(.int (own_dp y24 3).toInt32), (.ref a75)])) (fun tz kz => XS.iload X93.here hx rfl (hb hby at_289) rfl kz) ?_
              refine own_viaW (F' := T93.setTop (mkF m 293 #[.val (.int p0), .val (.int p1), .val (.int p2), .val (.int (n12).toInt32), .val (.int (A).toInt32), .val (.ref a14), .val (.ref t26), .val (.ref t36), .val (.ref t39), .val (.ref t42), .val (.ref t45), .val (.ref a53), .val (.ref a60), .val (.int (own_fd (own_tb y24 n12) (own_tb y24 n12 A) A)), .val (.ref a75), .val (.int (own_dp y24 3).toInt32), .unset] [(.ref a14), (.int (own_dp y24 3).toInt32), (.ref a75)])) (fun tz kz => XS.aload X93.here hx rfl (hb hby at_291) rfl rfl kz) ?_
              refine own_viaW (F' := T93.setTop (mkF m 294 #[.val (.int p0), .val (.int p1), .val (.int p2), .val (.int (n12).toInt32), .val (.int (A).toInt32), .val (.ref a14), .val (.ref t26), .val (.ref t36), .val (.ref t39), .val (.ref t42), .val (.ref t45), .val (.ref a53), .val (.ref a60), .val (.int (own_fd (own_tb y24 n12) (own_tb y24 n12 A) A)), .val (.ref a75), .val (.int (own_dp y24 3).toInt32), .unset] [(.int (3 : Int32)), (.ref a14), (.int (own_dp y24 3).toInt32), (.ref a75)])) (fun tz kz => XT.iconstV X93.here hx rfl (3 : Int32) (hb hby at_293) (by decide) kz) ?_
              have f95 := ((((f76.ext E75).keep K87 (ninS (own_ne (by omega)) nin0)).keep K90 (ninS (own_ne (by omega)) nin0)).keep K93 (ninS (own_ne (by omega)) nin0))
              refine own_viaW (F' := T93.setTop (mkF m 295 #[.val (.int p0), .val (.int p1), .val (.int p2), .val (.int (n12).toInt32), .val (.int (A).toInt32), .val (.ref a14), .val (.ref t26), .val (.ref t36), .val (.ref t39), .val (.ref t42), .val (.ref t45), .val (.ref a53), .val (.ref a60), .val (.int (own_fd (own_tb y24 n12) (own_tb y24 n12 A) A)), .val (.ref a75), .val (.int (own_dp y24 3).toInt32), .unset] [(.int (y24 3).toInt32), (.int (own_dp y24 3).toInt32), (.ref a75)])) (fun tz kz => f95.load X93 hx hZ rfl (j := 3) rfl (by decide) (by decide) rfl (g := (mkF m 294 #[.val (.int p0), .val (.int p1), .val (.int p2), .val (.int (n12).toInt32), .val (.int (A).toInt32), .val (.ref a14), .val (.ref t26), .val (.ref t36), .val (.ref t39), .val (.ref t42), .val (.ref t45), .val (.ref a53), .val (.ref a60), .val (.int (own_fd (own_tb y24 n12) (own_tb y24 n12 A) A)), .val (.ref a75), .val (.int (own_dp y24 3).toInt32), .unset] [(.int (3 : Int32)), (.ref a14), (.int (own_dp y24 3).toInt32), (.ref a75)])) rfl rfl (hb hby at_294) tz kz) ?_
              refine own_viaW (F' := T93.setTop (mkF m 296 #[.val (.int p0), .val (.int p1), .val (.int p2), .val (.int (n12).toInt32), .val (.int (A).toInt32), .val (.ref a14), .val (.ref t26), .val (.ref t36), .val (.ref t39), .val (.ref t42), .val (.ref t45), .val (.ref a53), .val (.ref a60), .val (.int (own_fd (own_tb y24 n12) (own_tb y24 n12 A) A)), .val (.ref a75), .val (.int (own_dp y24 3).toInt32), .unset] [(.int (3 : Int32)), (.int (y24 3).toInt32), (.int (own_dp y24 3).toInt32), (.ref a75)])) (fun tz kz => XT.iconstV X93.here hx rfl (3 : Int32) (hb hby at_295) (by decide) kz) ?_
              have hp3 := own_dp_le y24 3
              refine own_callSW X93 hx hZ (own_kst l Z az hw a75 (own_dp y24 3) (y24 3) 3 (own_sk y24 3) (hcc 3) (by omega) (by decide) T93.heap n0 Q93 G75) hown (hw _ (List.mem_of_getElem? (i := 172) rfl)) (hw _ (List.mem_of_getElem? (i := 173) rfl)) (hw _ (List.mem_of_getElem? (i := 4) rfl)) (hw _ (List.mem_of_getElem? (i := 174) rfl)) (by decide) rfl (g := (mkF m 296 #[.val (.int p0), .val (.int p1), .val (.int p2), .val (.int (n12).toInt32), .val (.int (A).toInt32), .val (.ref a14), .val (.ref t26), .val (.ref t36), .val (.ref t39), .val (.ref t42), .val (.ref t45), .val (.ref a53), .val (.ref a60), .val (.int (own_fd (own_tb y24 n12) (own_tb y24 n12 A) A)), .val (.ref a75), .val (.int (own_dp y24 3).toInt32), .unset] [(.int (3 : Int32)), (.int (y24 3).toInt32), (.int (own_dp y24 3).toInt32), (.ref a75)])) rfl (by rw [hml]; rfl) (argsL := [(.ref a75), (.int (own_dp y24 3).toInt32), (.int (y24 3).toInt32), (.int (3 : Int32))]) (rest := []) rfl (lenOf own_pd16 rfl) rfl 0 (by show 2 * 0 + _ ≤ _; exact Nat.le_of_eq rfl) (hb hby at_296) (by decide) (by decide) (by decide) (by decide) ?_
              intro v96 T96 L96 hQ96 X96
              obtain ⟨rfl, M96, K96, A96⟩ := hQ96
              have Q96 : own_I Z T96.heap a75 5 (own_sk y24 4) := A96
              refine own_viaW (F' := T96.setTop (mkF m 299 #[.val (.int p0), .val (.int p1), .val (.int p2), .val (.int (n12).toInt32), .val (.int (A).toInt32), .val (.ref a14), .val (.ref t26), .val (.ref t36), .val (.ref t39), .val (.ref t42), .val (.ref t45), .val (.ref a53), .val (.ref a60), .val (.int (own_fd (own_tb y24 n12) (own_tb y24 n12 A) A)), .val (.ref a75), .val (.int (own_dp y24 3).toInt32), .unset] [(.int (own_dp y24 4).toInt32)])) (fun tz kz => kz) ?_
              refine own_viaW (F' := T96.setTop (mkF m 301 #[.val (.int p0), .val (.int p1), .val (.int p2), .val (.int (n12).toInt32), .val (.int (A).toInt32), .val (.ref a14), .val (.ref t26), .val (.ref t36), .val (.ref t39), .val (.ref t42), .val (.ref t45), .val (.ref a53), .val (.ref a60), .val (.int (own_fd (own_tb y24 n12) (own_tb y24 n12 A) A)), .val (.ref a75), .val (.int (own_dp y24 4).toInt32), .unset] [])) (fun tz kz => XS.istore X96.here hx rfl (hb hby at_299) rfl (l' := #[.val (.int p0), .val (.int p1), .val (.int p2), .val (.int (n12).toInt32), .val (.int (A).toInt32), .val (.ref a14), .val (.ref t26), .val (.ref t36), .val (.ref t39), .val (.ref t42), .val (.ref t45), .val (.ref a53), .val (.ref a60), .val (.int (own_fd (own_tb y24 n12) (own_tb y24 n12 A) A)), .val (.ref a75), .val (.int (own_dp y24 4).toInt32), .unset]) rfl kz) ?_
              refine own_viaW (F' := T96.setTop (mkF m 303 #[.val (.int p0), .val (.int p1), .val (.int p2), .val (.int (n12).toInt32), .val (.int (A).toInt32), .val (.ref a14), .val (.ref t26), .val (.ref t36), .val (.ref t39), .val (.ref t42), .val (.ref t45), .val (.ref a53), .val (.ref a60), .val (.int (own_fd (own_tb y24 n12) (own_tb y24 n12 A) A)), .val (.ref a75), .val (.int (own_dp y24 4).toInt32), .unset] [(.int (A).toInt32)])) (fun tz kz => XS.iload X96.here hx rfl (hb hby at_301) rfl kz) ?_
              refine own_viaW (F' := T96.setTop (mkF m 304 #[.val (.int p0), .val (.int p1), .val (.int p2), .val (.int (n12).toInt32), .val (.int (A).toInt32), .val (.ref a14), .val (.ref t26), .val (.ref t36), .val (.ref t39), .val (.ref t42), .val (.ref t45), .val (.ref a53), .val (.ref a60), .val (.int (own_fd (own_tb y24 n12) (own_tb y24 n12 A) A)), .val (.ref a75), .val (.int (own_dp y24 4).toInt32), .unset] [(.int (4 : Int32)), (.int (A).toInt32)])) (fun tz kz => XT.iconstV X96.here hx rfl (4 : Int32) (hb hby at_303) (by decide) kz) ?_
              by_cases q97 : 4 < A
              · refine own_viaW (F' := T96.setTop (mkF m 307 #[.val (.int p0), .val (.int p1), .val (.int p2), .val (.int (n12).toInt32), .val (.int (A).toInt32), .val (.ref a14), .val (.ref t26), .val (.ref t36), .val (.ref t39), .val (.ref t42), .val (.ref t45), .val (.ref a53), .val (.ref a60), .val (.int (own_fd (own_tb y24 n12) (own_tb y24 n12 A) A)), .val (.ref a75), .val (.int (own_dp y24 4).toInt32), .unset] [])) (fun tz kz => XS.icmpNo X96.here hx rfl (hb hby at_304) rfl (XT.ii_le_f ((own_ltI (i := 4) (j := A) rfl rfl (by decide) (by omega)).mpr q97)) kz) ?_
                refine own_viaW (F' := T96.setTop (mkF m 309 #[.val (.int p0), .val (.int p1), .val (.int p2), .val (.int (n12).toInt32), .val (.int (A).toInt32), .val (.ref a14), .val (.ref t26), .val (.ref t36), .val (.ref t39), .val (.ref t42), .val (.ref t45), .val (.ref a53), .val (.ref a60), .val (.int (own_fd (own_tb y24 n12) (own_tb y24 n12 A) A)), .val (.ref a75), .val (.int (own_dp y24 4).toInt32), .unset] [(.ref a75)])) (fun tz kz => XS.aload X96.here hx rfl (hb hby at_307) rfl rfl kz) ?_
                refine own_viaW (F' := T96.setTop (mkF m 311 #[.val (.int p0), .val (.int p1), .val (.int p2), .val (.int (n12).toInt32), .val (.int (A).toInt32), .val (.ref a14), .val (.ref t26), .val (.ref t36), .val (.ref t39), .val (.ref t42), .val (.ref t45), .val (.ref a53), .val (.ref a60), .val (.int (own_fd (own_tb y24 n12) (own_tb y24 n12 A) A)), .val (.ref a75), .val (.int (own_dp y24 4).toInt32), .unset] [(.int (own_dp y24 4).toInt32), (.ref a75)])) (fun tz kz => XS.iload X96.here hx rfl (hb hby at_309) rfl kz) ?_
                refine own_viaW (F' := T96.setTop (mkF m 313 #[.val (.int p0), .val (.int p1), .val (.int p2), .val (.int (n12).toInt32), .val (.int (A).toInt32), .val (.ref a14), .val (.ref t26), .val (.ref t36), .val (.ref t39), .val (.ref t42), .val (.ref t45), .val (.ref a53), .val (.ref a60), .val (.int (own_fd (own_tb y24 n12) (own_tb y24 n12 A) A)), .val (.ref a75), .val (.int (own_dp y24 4).toInt32), .unset] [(.ref a14), (.int (own_dp y24 4).toInt32), (.ref a75)])) (fun tz kz => XS.aload X96.here hx rfl (hb hby at_311) rfl rfl kz) ?_
                refine own_viaW (F' := T96.setTop (mkF m 314 #[.val (.int p0), .val (.int p1), .val (.int p2), .val (.int (n12).toInt32), .val (.int (A).toInt32), .val (.ref a14), .val (.ref t26), .val (.ref t36), .val (.ref t39), .val (.ref t42), .val (.ref t45), .val (.ref a53), .val (.ref a60), .val (.int (own_fd (own_tb y24 n12) (own_tb y24 n12 A) A)), .val (.ref a75), .val (.int (own_dp y24 4).toInt32), .unset] [(.int (4 : Int32)), (.ref a14), (.int (own_dp y24 4).toInt32), (.ref a75)])) (fun tz kz => XT.iconstV X96.here hx rfl (4 : Int32) (hb hby at_313) (by decide) kz) ?_
                have f98 := (((((f76.ext E75).keep K87 (ninS (own_ne (by omega)) nin0)).keep K90 (ninS (own_ne (by omega)) nin0)).keep K93 (ninS (own_ne (by omega)) nin0)).keep K96 (ninS (own_ne (by omega)) nin0))
                refine own_viaW (F' := T96.setTop (mkF m 315 #[.val (.int p0), .val (.int p1), .val (.int p2), .val (.int (n12).toInt32), .val (.int (A).toInt32), .val (.ref a14), .val (.ref t26), .val (.ref t36), .val (.ref t39), .val (.ref t42), .val (.ref t45), .val (.ref a53), .val (.ref a60), .val (.int (own_fd (own_tb y24 n12) (own_tb y24 n12 A) A)), .val (.ref a75), .val (.int (own_dp y24 4).toInt32), .unset] [(.int (y24 4).toInt32), (.int (own_dp y24 4).toInt32), (.ref a75)])) (fun tz kz => f98.load X96 hx hZ rfl (j := 4) rfl (by decide) (by decide) rfl (g := (mkF m 314 #[.val (.int p0), .val (.int p1), .val (.int p2), .val (.int (n12).toInt32), .val (.int (A).toInt32), .val (.ref a14), .val (.ref t26), .val (.ref t36), .val (.ref t39), .val (.ref t42), .val (.ref t45), .val (.ref a53), .val (.ref a60), .val (.int (own_fd (own_tb y24 n12) (own_tb y24 n12 A) A)), .val (.ref a75), .val (.int (own_dp y24 4).toInt32), .unset] [(.int (4 : Int32)), (.ref a14), (.int (own_dp y24 4).toInt32), (.ref a75)])) rfl rfl (hb hby at_314) tz kz) ?_
                refine own_viaW (F' := T96.setTop (mkF m 316 #[.val (.int p0), .val (.int p1), .val (.int p2), .val (.int (n12).toInt32), .val (.int (A).toInt32), .val (.ref a14), .val (.ref t26), .val (.ref t36), .val (.ref t39), .val (.ref t42), .val (.ref t45), .val (.ref a53), .val (.ref a60), .val (.int (own_fd (own_tb y24 n12) (own_tb y24 n12 A) A)), .val (.ref a75), .val (.int (own_dp y24 4).toInt32), .unset] [(.int (4 : Int32)), (.int (y24 4).toInt32), (.int (own_dp y24 4).toInt32), (.ref a75)])) (fun tz kz => XT.iconstV X96.here hx rfl (4 : Int32) (hb hby at_315) (by decide) kz) ?_
                have hp4 := own_dp_le y24 4
                refine own_callSW X96 hx hZ (own_kst l Z az hw a75 (own_dp y24 4) (y24 4) 4 (own_sk y24 4) (hcc 4) (by omega) (by decide) T96.heap n0 Q96 G75) hown (hw _ (List.mem_of_getElem? (i := 172) rfl)) (hw _ (List.mem_of_getElem? (i := 173) rfl)) (hw _ (List.mem_of_getElem? (i := 4) rfl)) (hw _ (List.mem_of_getElem? (i := 174) rfl)) (by decide) rfl (g := (mkF m 316 #[.val (.int p0), .val (.int p1), .val (.int p2), .val (.int (n12).toInt32), .val (.int (A).toInt32), .val (.ref a14), .val (.ref t26), .val (.ref t36), .val (.ref t39), .val (.ref t42), .val (.ref t45), .val (.ref a53), .val (.ref a60), .val (.int (own_fd (own_tb y24 n12) (own_tb y24 n12 A) A)), .val (.ref a75), .val (.int (own_dp y24 4).toInt32), .unset] [(.int (4 : Int32)), (.int (y24 4).toInt32), (.int (own_dp y24 4).toInt32), (.ref a75)])) rfl (by rw [hml]; rfl) (argsL := [(.ref a75), (.int (own_dp y24 4).toInt32), (.int (y24 4).toInt32), (.int (4 : Int32))]) (rest := []) rfl (lenOf own_pd16 rfl) rfl 0 (by show 2 * 0 + _ ≤ _; exact Nat.le_of_eq rfl) (hb hby at_316) (by decide) (by decide) (by decide) (by decide) ?_
                intro v99 T99 L99 hQ99 X99
                obtain ⟨rfl, M99, K99, A99⟩ := hQ99
                have Q99 : own_I Z T99.heap a75 5 (own_sk y24 5) := A99
                refine own_viaW (F' := T99.setTop (mkF m 319 #[.val (.int p0), .val (.int p1), .val (.int p2), .val (.int (n12).toInt32), .val (.int (A).toInt32), .val (.ref a14), .val (.ref t26), .val (.ref t36), .val (.ref t39), .val (.ref t42), .val (.ref t45), .val (.ref a53), .val (.ref a60), .val (.int (own_fd (own_tb y24 n12) (own_tb y24 n12 A) A)), .val (.ref a75), .val (.int (own_dp y24 4).toInt32), .unset] [(.int (own_dp y24 5).toInt32)])) (fun tz kz => kz) ?_
                refine own_viaW (F' := T99.setTop (mkF m 321 #[.val (.int p0), .val (.int p1), .val (.int p2), .val (.int (n12).toInt32), .val (.int (A).toInt32), .val (.ref a14), .val (.ref t26), .val (.ref t36), .val (.ref t39), .val (.ref t42), .val (.ref t45), .val (.ref a53), .val (.ref a60), .val (.int (own_fd (own_tb y24 n12) (own_tb y24 n12 A) A)), .val (.ref a75), .val (.int (own_dp y24 5).toInt32), .unset] [])) (fun tz kz => XS.istore X99.here hx rfl (hb hby at_319) rfl (l' := #[.val (.int p0), .val (.int p1), .val (.int p2), .val (.int (n12).toInt32), .val (.int (A).toInt32), .val (.ref a14), .val (.ref t26), .val (.ref t36), .val (.ref t39), .val (.ref t42), .val (.ref t45), .val (.ref a53), .val (.ref a60), .val (.int (own_fd (own_tb y24 n12) (own_tb y24 n12 A) A)), .val (.ref a75), .val (.int (own_dp y24 5).toInt32), .unset]) rfl kz) ?_
                obtain rfl : A = 5 := by omega
                have c100 := c65.trans (CHr.ext E75 c65.1)
                have c101 := c100.trans (CHr.keep K87 (sfS (Q0.safe hZ.alike) sf0) c100.1)
                have c102 := c101.trans (CHr.keep K90 (sfS (Q87.safe hZ.alike) sf0) c101.1)
                have c103 := c102.trans (CHr.keep K93 (sfS (Q90.safe hZ.alike) sf0) c102.1)
                have c104 := c103.trans (CHr.keep K96 (sfS (Q93.safe hZ.alike) sf0) c103.1)
                have c105 := c104.trans (CHr.keep K99 (sfS (Q96.safe hZ.alike) sf0) c104.1)
                have hk106 := (((((((Keep.refl T65.heap [a75]).ext E75).trans K87 (allS (Or.inl (List.mem_of_getElem? (i := 0) rfl)) all0)).trans K90 (allS (Or.inl (List.mem_of_getElem? (i := 0) rfl)) all0)).trans K93 (allS (Or.inl (List.mem_of_getElem? (i := 0) rfl)) all0)).trans K96 (allS (Or.inl (List.mem_of_getElem? (i := 0) rfl)) all0)).trans K99 (allS (Or.inl (List.mem_of_getElem? (i := 0) rfl)) all0)).1
                have f107 := ((((((f76.ext E75).keep K87 (ninS (own_ne (by omega)) nin0)).keep K90 (ninS (own_ne (by omega)) nin0)).keep K93 (ninS (own_ne (by omega)) nin0)).keep K96 (ninS (own_ne (by omega)) nin0)).keep K99 (ninS (own_ne (by omega)) nin0))
                exact tail2 T99 T99.heap _ (X99.more (by decide) (by decide)) rfl hk106 c105 (Fr.app (Fr.app (Fr.app (Fr.app (Fr.app (Fr.app (Fr.app N1 M65) (Fr.nil _)) M87) M90) M93) M96) M99) f107 Q99
              · refine own_viaW (F' := T96.setTop (mkF m 321 #[.val (.int p0), .val (.int p1), .val (.int p2), .val (.int (n12).toInt32), .val (.int (A).toInt32), .val (.ref a14), .val (.ref t26), .val (.ref t36), .val (.ref t39), .val (.ref t42), .val (.ref t45), .val (.ref a53), .val (.ref a60), .val (.int (own_fd (own_tb y24 n12) (own_tb y24 n12 A) A)), .val (.ref a75), .val (.int (own_dp y24 4).toInt32), .unset] [])) (fun tz kz => XS.icmpYes X96.here hx rfl (pc0 := 304) (pc' := 321) rfl (hb hby at_304) rfl (XT.ii_le_t (fun z => absurd ((own_ltI (i := 4) (j := A) rfl rfl (by decide) (by omega)).mp z) q97)) (by decide) (by decide) kz) ?_
                obtain rfl : A = 4 := by omega
                have c108 := c65.trans (CHr.ext E75 c65.1)
                have c109 := c108.trans (CHr.keep K87 (sfS (Q0.safe hZ.alike) sf0) c108.1)
                have c110 := c109.trans (CHr.keep K90 (sfS (Q87.safe hZ.alike) sf0) c109.1)
                have c111 := c110.trans (CHr.keep K93 (sfS (Q90.safe hZ.alike) sf0) c110.1)
                have c112 := c111.trans (CHr.keep K96 (sfS (Q93.safe hZ.alike) sf0) c111.1)
                have hk113 := ((((((Keep.refl T65.heap [a75]).ext E75).trans K87 (allS (Or.inl (List.mem_of_getElem? (i := 0) rfl)) all0)).trans K90 (allS (Or.inl (List.mem_of_getElem? (i := 0) rfl)) all0)).trans K93 (allS (Or.inl (List.mem_of_getElem? (i := 0) rfl)) all0)).trans K96 (allS (Or.inl (List.mem_of_getElem? (i := 0) rfl)) all0)).1
                have f114 := (((((f76.ext E75).keep K87 (ninS (own_ne (by omega)) nin0)).keep K90 (ninS (own_ne (by omega)) nin0)).keep K93 (ninS (own_ne (by omega)) nin0)).keep K96 (ninS (own_ne (by omega)) nin0))
                exact tail2 T96 T96.heap _ (X96.more (by decide) (by decide)) rfl hk113 c112 (Fr.app (Fr.app (Fr.app (Fr.app (Fr.app (Fr.app N1 M65) (Fr.nil _)) M87) M90) M93) M96) f114 Q96
            · refine own_viaW (F' := T93.setTop (mkF m 301 #[.val (.int p0), .val (.int p1), .val (.int p2), .val (.int (n12).toInt32), .val (.int (A).toInt32), .val (.ref a14), .val (.ref t26), .val (.ref t36), .val (.ref t39), .val (.ref t42), .val (.ref t45), .val (.ref a53), .val (.ref a60), .val (.int (own_fd (own_tb y24 n12) (own_tb y24 n12 A) A)), .val (.ref a75), .val (.int (own_dp y24 3).toInt32), .unset] [])) (fun tz kz => XS.icmpYes X93.here hx rfl (pc0 := 284) (pc' := 301) rfl (hb hby at_284) rfl (XT.ii_le_t (fun z => absurd ((own_ltI (i := 3) (j := A) rfl rfl (by decide) (by omega)).mp z) q94)) (by decide) (by decide) kz) ?_
              refine own_viaW (F' := T93.setTop (mkF m 303 #[.val (.int p0), .val (.int p1), .val (.int p2), .val (.int (n12).toInt32), .val (.int (A).toInt32), .val (.ref a14), .val (.ref t26), .val (.ref t36), .val (.ref t39), .val (.ref t42), .val (.ref t45), .val (.ref a53), .val (.ref a60), .val (.int (own_fd (own_tb y24 n12) (own_tb y24 n12 A) A)), .val (.ref a75), .val (.int (own_dp y24 3).toInt32), .unset] [(.int (A).toInt32)])) (fun tz kz => XS.iload X93.here hx rfl (hb hby at_301) rfl kz) ?_
              refine own_viaW (F' := T93.setTop (mkF m 304 #[.val (.int p0), .val (.int p1), .val (.int p2), .val (.int (n12).toInt32), .val (.int (A).toInt32), .val (.ref a14), .val (.ref t26), .val (.ref t36), .val (.ref t39), .val (.ref t42), .val (.ref t45), .val (.ref a53), .val (.ref a60), .val (.int (own_fd (own_tb y24 n12) (own_tb y24 n12 A) A)), .val (.ref a75), .val (.int (own_dp y24 3).toInt32), .unset] [(.int (4 : Int32)), (.int (A).toInt32)])) (fun tz kz => XT.iconstV X93.here hx rfl (4 : Int32) (hb hby at_303) (by decide) kz) ?_
              refine own_viaW (F' := T93.setTop (mkF m 321 #[.val (.int p0), .val (.int p1), .val (.int p2), .val (.int (n12).toInt32), .val (.int (A).toInt32), .val (.ref a14), .val (.ref t26), .val (.ref t36), .val (.ref t39), .val (.ref t42), .val (.ref t45), .val (.ref a53), .val (.ref a60), .val (.int (own_fd (own_tb y24 n12) (own_tb y24 n12 A) A)), .val (.ref a75), .val (.int (own_dp y24 3).toInt32), .unset] [])) (fun tz kz => XS.icmpYes X93.here hx rfl (pc0 := 304) (pc' := 321) rfl (hb hby at_304) rfl (XT.ii_le_t (fun z => absurd ((own_ltI (i := 4) (j := A) rfl rfl (by decide) (by omega)).mp z) (by omega))) (by decide) (by decide) kz) ?_
              obtain rfl : A = 3 := by omega
              have c115 := c65.trans (CHr.ext E75 c65.1)
              have c116 := c115.trans (CHr.keep K87 (sfS (Q0.safe hZ.alike) sf0) c115.1)
              have c117 := c116.trans (CHr.keep K90 (sfS (Q87.safe hZ.alike) sf0) c116.1)
              have c118 := c117.trans (CHr.keep K93 (sfS (Q90.safe hZ.alike) sf0) c117.1)
              have hk119 := (((((Keep.refl T65.heap [a75]).ext E75).trans K87 (allS (Or.inl (List.mem_of_getElem? (i := 0) rfl)) all0)).trans K90 (allS (Or.inl (List.mem_of_getElem? (i := 0) rfl)) all0)).trans K93 (allS (Or.inl (List.mem_of_getElem? (i := 0) rfl)) all0)).1
              have f120 := ((((f76.ext E75).keep K87 (ninS (own_ne (by omega)) nin0)).keep K90 (ninS (own_ne (by omega)) nin0)).keep K93 (ninS (own_ne (by omega)) nin0))
              exact tail2 T93 T93.heap _ (X93.more (by decide) (by decide)) rfl hk119 c118 (Fr.app (Fr.app (Fr.app (Fr.app (Fr.app N1 M65) (Fr.nil _)) M87) M90) M93) f120 Q93
          · refine own_viaW (F' := T90.setTop (mkF m 281 #[.val (.int p0), .val (.int p1), .val (.int p2), .val (.int (n12).toInt32), .val (.int (A).toInt32), .val (.ref a14), .val (.ref t26), .val (.ref t36), .val (.ref t39), .val (.ref t42), .val (.ref t45), .val (.ref a53), .val (.ref a60), .val (.int (own_fd (own_tb y24 n12) (own_tb y24 n12 A) A)), .val (.ref a75), .val (.int (own_dp y24 2).toInt32), .unset] [])) (fun tz kz => XS.icmpYes X90.here hx rfl (pc0 := 264) (pc' := 281) rfl (hb hby at_264) rfl (XT.ii_le_t (fun z => absurd ((own_ltI (i := 2) (j := A) rfl rfl (by decide) (by omega)).mp z) q91)) (by decide) (by decide) kz) ?_
            refine own_viaW (F' := T90.setTop (mkF m 283 #[.val (.int p0), .val (.int p1), .val (.int p2), .val (.int (n12).toInt32), .val (.int (A).toInt32), .val (.ref a14), .val (.ref t26), .val (.ref t36), .val (.ref t39), .val (.ref t42), .val (.ref t45), .val (.ref a53), .val (.ref a60), .val (.int (own_fd (own_tb y24 n12) (own_tb y24 n12 A) A)), .val (.ref a75), .val (.int (own_dp y24 2).toInt32), .unset] [(.int (A).toInt32)])) (fun tz kz => XS.iload X90.here hx rfl (hb hby at_281) rfl kz) ?_
            refine own_viaW (F' := T90.setTop (mkF m 284 #[.val (.int p0), .val (.int p1), .val (.int p2), .val (.int (n12).toInt32), .val (.int (A).toInt32), .val (.ref a14), .val (.ref t26), .val (.ref t36), .val (.ref t39), .val (.ref t42), .val (.ref t45), .val (.ref a53), .val (.ref a60), .val (.int (own_fd (own_tb y24 n12) (own_tb y24 n12 A) A)), .val (.ref a75), .val (.int (own_dp y24 2).toInt32), .unset] [(.int (3 : Int32)), (.int (A).toInt32)])) (fun tz kz => XT.iconstV X90.here hx rfl (3 : Int32) (hb hby at_283) (by decide) kz) ?_
            refine own_viaW (F' := T90.setTop (mkF m 301 #[.val (.int p0), .val (.int p1), .val (.int p2), .val (.int (n12).toInt32), .val (.int (A).toInt32), .val (.ref a14), .val (.ref t26), .val (.ref t36), .val (.ref t39), .val (.ref t42), .val (.ref t45), .val (.ref a53), .val (.ref a60), .val (.int (own_fd (own_tb y24 n12) (own_tb y24 n12 A) A)), .val (.ref a75), .val (.int (own_dp y24 2).toInt32), .unset] [])) (fun tz kz => XS.icmpYes X90.here hx rfl (pc0 := 284) (pc' := 301) rfl (hb hby at_284) rfl (XT.ii_le_t (fun z => absurd ((own_ltI (i := 3) (j := A) rfl rfl (by decide) (by omega)).mp z) (by omega))) (by decide) (by decide) kz) ?_
            refine own_viaW (F' := T90.setTop (mkF m 303 #[.val (.int p0), .val (.int p1), .val (.int p2), .val (.int (n12).toInt32), .val (.int (A).toInt32), .val (.ref a14), .val (.ref t26), .val (.ref t36), .val (.ref t39), .val (.ref t42), .val (.ref t45), .val (.ref a53), .val (.ref a60), .val (.int (own_fd (own_tb y24 n12) (own_tb y24 n12 A) A)), .val (.ref a75), .val (.int (own_dp y24 2).toInt32), .unset] [(.int (A).toInt32)])) (fun tz kz => XS.iload X90.here hx rfl (hb hby at_301) rfl kz) ?_
            refine own_viaW (F' := T90.setTop (mkF m 304 #[.val (.int p0), .val (.int p1), .val (.int p2), .val (.int (n12).toInt32), .val (.int (A).toInt32), .val (.ref a14), .val (.ref t26), .val (.ref t36), .val (.ref t39), .val (.ref t42), .val (.ref t45), .val (.ref a53), .val (.ref a60), .val (.int (own_fd (own_tb y24 n12) (own_tb y24 n12 A) A)), .val (.ref a75), .val (.int (own_dp y24 2).toInt32), .unset] [(.int (4 : Int32)), (.int (A).toInt32)])) (fun tz kz => XT.iconstV X90.here hx rfl (4 : Int32) (hb hby at_303) (by decide) kz) ?_
            refine own_viaW (F' := T90.setTop (mkF m 321 #[.val (.int p0), .val (.int p1), .val (.int p2), .val (.int (n12).toInt32), .val (.int (A).toInt32), .val (.ref a14), .val (.ref t26), .val (.ref t36), .val (.ref t39), .val (.ref t42), .val (.ref t45), .val (.ref a53), .val (.ref a60), .val (.int (own_fd (own_tb y24 n12) (own_tb y24 n12 A) A)), .val (.ref a75), .val (.int (own_dp y24 2).toInt32), .unset] [])) (fun tz kz => XS.icmpYes X90.here hx rfl (pc0 := 304) (pc' := 321) rfl (hb hby at_304) rfl (XT.ii_le_t (fun z => absurd ((own_ltI (i := 4) (j := A) rfl rfl (by decide) (by omega)).mp z) (by omega))) (by decide) (by decide) kz) ?_
            obtain rfl : A = 2 := by omega
            have c121 := c65.trans (CHr.ext E75 c65.1)
            have c122 := c121.trans (CHr.keep K87 (sfS (Q0.safe hZ.alike) sf0) c121.1)
            have c123 := c122.trans (CHr.keep K90 (sfS (Q87.safe hZ.alike) sf0) c122.1)
            have hk124 := ((((Keep.refl T65.heap [a75]).ext E75).trans K87 (allS (Or.inl (List.mem_of_getElem? (i := 0) rfl)) all0)).trans K90 (allS (Or.inl (List.mem_of_getElem? (i := 0) rfl)) all0)).1
            have f125 := (((f76.ext E75).keep K87 (ninS (own_ne (by omega)) nin0)).keep K90 (ninS (own_ne (by omega)) nin0))
            exact tail2 T90 T90.heap _ (X90.more (by decide) (by decide)) rfl hk124 c123 (Fr.app (Fr.app (Fr.app (Fr.app N1 M65) (Fr.nil _)) M87) M90) f125 Q90
        · refine own_viaW (F' := T87.setTop (mkF m 261 #[.val (.int p0), .val (.int p1), .val (.int p2), .val (.int (n12).toInt32), .val (.int (A).toInt32), .val (.ref a14), .val (.ref t26), .val (.ref t36), .val (.ref t39), .val (.ref t42), .val (.ref t45), .val (.ref a53), .val (.ref a60), .val (.int (own_fd (own_tb y24 n12) (own_tb y24 n12 A) A)), .val (.ref a75), .val (.int (own_dp y24 1).toInt32), .unset] [])) (fun tz kz => XS.icmpYes X87.here hx rfl (pc0 := 244) (pc' := 261) rfl (hb hby at_244) rfl (XT.ii_le_t (fun z => absurd ((own_ltI (i := 1) (j := A) rfl rfl (by decide) (by omega)).mp z) q88)) (by decide) (by decide) kz) ?_
          refine own_viaW (F' := T87.setTop (mkF m 263 #[.val (.int p0), .val (.int p1), .val (.int p2), .val (.int (n12).toInt32), .val (.int (A).toInt32), .val (.ref a14), .val (.ref t26), .val (.ref t36), .val (.ref t39), .val (.ref t42), .val (.ref t45), .val (.ref a53), .val (.ref a60), .val (.int (own_fd (own_tb y24 n12) (own_tb y24 n12 A) A)), .val (.ref a75), .val (.int (own_dp y24 1).toInt32), .unset] [(.int (A).toInt32)])) (fun tz kz => XS.iload X87.here hx rfl (hb hby at_261) rfl kz) ?_
          refine own_viaW (F' := T87.setTop (mkF m 264 #[.val (.int p0), .val (.int p1), .val (.int p2), .val (.int (n12).toInt32), .val (.int (A).toInt32), .val (.ref a14), .val (.ref t26), .val (.ref t36), .val (.ref t39), .val (.ref t42), .val (.ref t45), .val (.ref a53), .val (.ref a60), .val (.int (own_fd (own_tb y24 n12) (own_tb y24 n12 A) A)), .val (.ref a75), .val (.int (own_dp y24 1).toInt32), .unset] [(.int (2 : Int32)), (.int (A).toInt32)])) (fun tz kz => XT.iconstV X87.here hx rfl (2 : Int32) (hb hby at_263) (by decide) kz) ?_
          refine own_viaW (F' := T87.setTop (mkF m 281 #[.val (.int p0), .val (.int p1), .val (.int p2), .val (.int (n12).toInt32), .val (.int (A).toInt32), .val (.ref a14), .val (.ref t26), .val (.ref t36), .val (.ref t39), .val (.ref t42), .val (.ref t45), .val (.ref a53), .val (.ref a60), .val (.int (own_fd (own_tb y24 n12) (own_tb y24 n12 A) A)), .val (.ref a75), .val (.int (own_dp y24 1).toInt32), .unset] [])) (fun tz kz => XS.icmpYes X87.here hx rfl (pc0 := 264) (pc' := 281) rfl (hb hby at_264) rfl (XT.ii_le_t (fun z => absurd ((own_ltI (i := 2) (j := A) rfl rfl (by decide) (by omega)).mp z) (by omega))) (by decide) (by decide) kz) ?_
          refine own_viaW (F' := T87.setTop (mkF m 283 #[.val (.int p0), .val (.int p1), .val (.int p2), .val (.int (n12).toInt32), .val (.int (A).toInt32), .val (.ref a14), .val (.ref t26), .val (.ref t36), .val (.ref t39), .val (.ref t42), .val (.ref t45), .val (.ref a53), .val (.ref a60), .val (.int (own_fd (own_tb y24 n12) (own_tb y24 n12 A) A)), .val (.ref a75), .val (.int (own_dp y24 1).toInt32), .unset] [(.int (A).toInt32)])) (fun tz kz => XS.iload X87.here hx rfl (hb hby at_281) rfl kz) ?_
          refine own_viaW (F' := T87.setTop (mkF m 284 #[.val (.int p0), .val (.int p1), .val (.int p2), .val (.int (n12).toInt32), .val (.int (A).toInt32), .val (.ref a14), .val (.ref t26), .val (.ref t36), .val (.ref t39), .val (.ref t42), .val (.ref t45), .val (.ref a53), .val (.ref a60), .val (.int (own_fd (own_tb y24 n12) (own_tb y24 n12 A) A)), .val (.ref a75), .val (.int (own_dp y24 1).toInt32), .unset] [(.int (3 : Int32)), (.int (A).toInt32)])) (fun tz kz => XT.iconstV X87.here hx rfl (3 : Int32) (hb hby at_283) (by decide) kz) ?_
          refine own_viaW (F' := T87.setTop (mkF m 301 #[.val (.int p0), .val (.int p1), .val (.int p2), .val (.int (n12).toInt32), .val (.int (A).toInt32), .val (.ref a14), .val (.ref t26), .val (.ref t36), .val (.ref t39), .val (.ref t42), .val (.ref t45), .val (.ref a53), .val (.ref a60), .val (.int (own_fd (own_tb y24 n12) (own_tb y24 n12 A) A)), .val (.ref a75), .val (.int (own_dp y24 1).toInt32), .unset] [])) (fun tz kz => XS.icmpYes X87.here hx rfl (pc0 := 284) (pc' := 301) rfl (hb hby at_284) rfl (XT.ii_le_t (fun z => absurd ((own_ltI (i := 3) (j := A) rfl rfl (by decide) (by omega)).mp z) (by omega))) (by decide) (by decide) kz) ?_
          refine own_viaW (F' := T87.setTop (mkF m 303 #[.val (.int p0), .val (.int p1), .val (.int p2), .val (.int (n12).toInt32), .val (.int (A).toInt32), .val (.ref a14), .val (.ref t26), .val (.ref t36), .val (.ref t39), .val (.ref t42), .val (.ref t45), .val (.ref a53), .val (.ref a60), .val (.int (own_fd (own_tb y24 n12) (own_tb y24 n12 A) A)), .val (.ref a75), .val (.int (own_dp y24 1).toInt32), .unset] [(.int (A).toInt32)])) (fun tz kz => XS.iload X87.here hx rfl (hb hby at_301) rfl kz) ?_
          refine own_viaW (F' := T87.setTop (mkF m 304 #[.val (.int p0), .val (.int p1), .val (.int p2), .val (.int (n12).toInt32), .val (.int (A).toInt32), .val (.ref a14), .val (.ref t26), .val (.ref t36), .val (.ref t39), .val (.ref t42), .val (.ref t45), .val (.ref a53), .val (.ref a60), .val (.int (own_fd (own_tb y24 n12) (own_tb y24 n12 A) A)), .val (.ref a75), .val (.int (own_dp y24 1).toInt32), .unset] [(.int (4 : Int32)), (.int (A).toInt32)])) (fun tz kz => XT.iconstV X87.here hx rfl (4 : Int32) (hb hby at_303) (by decide) kz) ?_
          refine own_viaW (F' := T87.setTop (mkF m 321 #[.val (.int p0), .val (.int p1), .val (.int p2), .val (.int (n12).toInt32), .val (.int (A).toInt32), .val (.ref a14), .val (.ref t26), .val (.ref t36), .val (.ref t39), .val (.ref t42), .val (.ref t45), .val (.ref a53), .val (.ref a60), .val (.int (own_fd (own_tb y24 n12) (own_tb y24 n12 A) A)), .val (.ref a75), .val (.int (own_dp y24 1).toInt32), .unset] [])) (fun tz kz => XS.icmpYes X87.here hx rfl (pc0 := 304) (pc' := 321) rfl (hb hby at_304) rfl (XT.ii_le_t (fun z => absurd ((own_ltI (i := 4) (j := A) rfl rfl (by decide) (by omega)).mp z) (by omega))) (by decide) (by decide) kz) ?_
          obtain rfl : A = 1 := by omega
          have c126 := c65.trans (CHr.ext E75 c65.1)
          have c127 := c126.trans (CHr.keep K87 (sfS (Q0.safe hZ.alike) sf0) c126.1)
          have hk128 := (((Keep.refl T65.heap [a75]).ext E75).trans K87 (allS (Or.inl (List.mem_of_getElem? (i := 0) rfl)) all0)).1
          have f129 := ((f76.ext E75).keep K87 (ninS (own_ne (by omega)) nin0))
          exact tail2 T87 T87.heap _ (X87.more (by decide) (by decide)) rfl hk128 c127 (Fr.app (Fr.app (Fr.app N1 M65) (Fr.nil _)) M87) f129 Q87
      · refine own_viaW (F' := T75.setTop (mkF m 241 #[.val (.int p0), .val (.int p1), .val (.int p2), .val (.int (n12).toInt32), .val (.int (A).toInt32), .val (.ref a14), .val (.ref t26), .val (.ref t36), .val (.ref t39), .val (.ref t42), .val (.ref t45), .val (.ref a53), .val (.ref a60), .val (.int (own_fd (own_tb y24 n12) (own_tb y24 n12 A) A)), .val (.ref a75), .val (.int (0 : Int32)), .unset] [])) (fun tz kz => XS.ifYes X75.here hx rfl (pc0 := 224) (pc' := 241) rfl (hb hby at_224) rfl (XT.i0_le_t (fun z => absurd ((own_ltI (i := 0) (j := A) rfl rfl (by decide) (by omega)).mp z) q85)) (by decide) (by decide) kz) ?_
        refine own_viaW (F' := T75.setTop (mkF m 243 #[.val (.int p0), .val (.int p1), .val (.int p2), .val (.int (n12).toInt32), .val (.int (A).toInt32), .val (.ref a14), .val (.ref t26), .val (.ref t36), .val (.ref t39), .val (.ref t42), .val (.ref t45), .val (.ref a53), .val (.ref a60), .val (.int (own_fd (own_tb y24 n12) (own_tb y24 n12 A) A)), .val (.ref a75), .val (.int (0 : Int32)), .unset] [(.int (A).toInt32)])) (fun tz kz => XS.iload X75.here hx rfl (hb hby at_241) rfl kz) ?_
        refine own_viaW (F' := T75.setTop (mkF m 244 #[.val (.int p0), .val (.int p1), .val (.int p2), .val (.int (n12).toInt32), .val (.int (A).toInt32), .val (.ref a14), .val (.ref t26), .val (.ref t36), .val (.ref t39), .val (.ref t42), .val (.ref t45), .val (.ref a53), .val (.ref a60), .val (.int (own_fd (own_tb y24 n12) (own_tb y24 n12 A) A)), .val (.ref a75), .val (.int (0 : Int32)), .unset] [(.int (1 : Int32)), (.int (A).toInt32)])) (fun tz kz => XT.iconstV X75.here hx rfl (1 : Int32) (hb hby at_243) (by decide) kz) ?_
        refine own_viaW (F' := T75.setTop (mkF m 261 #[.val (.int p0), .val (.int p1), .val (.int p2), .val (.int (n12).toInt32), .val (.int (A).toInt32), .val (.ref a14), .val (.ref t26), .val (.ref t36), .val (.ref t39), .val (.ref t42), .val (.ref t45), .val (.ref a53), .val (.ref a60), .val (.int (own_fd (own_tb y24 n12) (own_tb y24 n12 A) A)), .val (.ref a75), .val (.int (0 : Int32)), .unset] [])) (fun tz kz => XS.icmpYes X75.here hx rfl (pc0 := 244) (pc' := 261) rfl (hb hby at_244) rfl (XT.ii_le_t (fun z => absurd ((own_ltI (i := 1) (j := A) rfl rfl (by decide) (by omega)).mp z) (by omega))) (by decide) (by decide) kz) ?_
        refine own_viaW (F' := T75.setTop (mkF m 263 #[.val (.int p0), .val (.int p1), .val (.int p2), .val (.int (n12).toInt32), .val (.int (A).toInt32), .val (.ref a14), .val (.ref t26), .val (.ref t36), .val (.ref t39), .val (.ref t42), .val (.ref t45), .val (.ref a53), .val (.ref a60), .val (.int (own_fd (own_tb y24 n12) (own_tb y24 n12 A) A)), .val (.ref a75), .val (.int (0 : Int32)), .unset] [(.int (A).toInt32)])) (fun tz kz => XS.iload X75.here hx rfl (hb hby at_261) rfl kz) ?_
        refine own_viaW (F' := T75.setTop (mkF m 264 #[.val (.int p0), .val (.int p1), .val (.int p2), .val (.int (n12).toInt32), .val (.int (A).toInt32), .val (.ref a14), .val (.ref t26), .val (.ref t36), .val (.ref t39), .val (.ref t42), .val (.ref t45), .val (.ref a53), .val (.ref a60), .val (.int (own_fd (own_tb y24 n12) (own_tb y24 n12 A) A)), .val (.ref a75), .val (.int (0 : Int32)), .unset] [(.int (2 : Int32)), (.int (A).toInt32)])) (fun tz kz => XT.iconstV X75.here hx rfl (2 : Int32) (hb hby at_263) (by decide) kz) ?_
        refine own_viaW (F' := T75.setTop (mkF m 281 #[.val (.int p0), .val (.int p1), .val (.int p2), .val (.int (n12).toInt32), .val (.int (A).toInt32), .val (.ref a14), .val (.ref t26), .val (.ref t36), .val (.ref t39), .val (.ref t42), .val (.ref t45), .val (.ref a53), .val (.ref a60), .val (.int (own_fd (own_tb y24 n12) (own_tb y24 n12 A) A)), .val (.ref a75), .val (.int (0 : Int32)), .unset] [])) (fun tz kz => XS.icmpYes X75.here hx rfl (pc0 := 264) (pc' := 281) rfl (hb hby at_264) rfl (XT.ii_le_t (fun z => absurd ((own_ltI (i := 2) (j := A) rfl rfl (by decide) (by omega)).mp z) (by omega))) (by decide) (by decide) kz) ?_
        refine own_viaW (F' := T75.setTop (mkF m 283 #[.val (.int p0), .val (.int p1), .val (.int p2), .val (.int (n12).toInt32), .val (.int (A).toInt32), .val (.ref a14), .val (.ref t26), .val (.ref t36), .val (.ref t39), .val (.ref t42), .val (.ref t45), .val (.ref a53), .val (.ref a60), .val (.int (own_fd (own_tb y24 n12) (own_tb y24 n12 A) A)), .val (.ref a75), .val (.int (0 : Int32)), .unset] [(.int (A).toInt32)])) (fun tz kz => XS.iload X75.here hx rfl (hb hby at_281) rfl kz) ?_
        refine own_viaW (F' := T75.setTop (mkF m 284 #[.val (.int p0), .val (.int p1), .val (.int p2), .val (.int (n12).toInt32), .val (.int (A).toInt32), .val (.ref a14), .val (.ref t26), .val (.ref t36), .val (.ref t39), .val (.ref t42), .val (.ref t45), .val (.ref a53), .val (.ref a60), .val (.int (own_fd (own_tb y24 n12) (own_tb y24 n12 A) A)), .val (.ref a75), .val (.int (0 : Int32)), .unset] [(.int (3 : Int32)), (.int (A).toInt32)])) (fun tz kz => XT.iconstV X75.here hx rfl (3 : Int32) (hb hby at_283) (by decide) kz) ?_
        refine own_viaW (F' := T75.setTop (mkF m 301 #[.val (.int p0), .val (.int p1), .val (.int p2), .val (.int (n12).toInt32), .val (.int (A).toInt32), .val (.ref a14), .val (.ref t26), .val (.ref t36), .val (.ref t39), .val (.ref t42), .val (.ref t45), .val (.ref a53), .val (.ref a60), .val (.int (own_fd (own_tb y24 n12) (own_tb y24 n12 A) A)), .val (.ref a75), .val (.int (0 : Int32)), .unset] [])) (fun tz kz => XS.icmpYes X75.here hx rfl (pc0 := 284) (pc' := 301) rfl (hb hby at_284) rfl (XT.ii_le_t (fun z => absurd ((own_ltI (i := 3) (j := A) rfl rfl (by decide) (by omega)).mp z) (by omega))) (by decide) (by decide) kz) ?_
        refine own_viaW (F' := T75.setTop (mkF m 303 #[.val (.int p0), .val (.int p1), .val (.int p2), .val (.int (n12).toInt32), .val (.int (A).toInt32), .val (.ref a14), .val (.ref t26), .val (.ref t36), .val (.ref t39), .val (.ref t42), .val (.ref t45), .val (.ref a53), .val (.ref a60), .val (.int (own_fd (own_tb y24 n12) (own_tb y24 n12 A) A)), .val (.ref a75), .val (.int (0 : Int32)), .unset] [(.int (A).toInt32)])) (fun tz kz => XS.iload X75.here hx rfl (hb hby at_301) rfl kz) ?_
        refine own_viaW (F' := T75.setTop (mkF m 304 #[.val (.int p0), .val (.int p1), .val (.int p2), .val (.int (n12).toInt32), .val (.int (A).toInt32), .val (.ref a14), .val (.ref t26), .val (.ref t36), .val (.ref t39), .val (.ref t42), .val (.ref t45), .val (.ref a53), .val (.ref a60), .val (.int (own_fd (own_tb y24 n12) (own_tb y24 n12 A) A)), .val (.ref a75), .val (.int (0 : Int32)), .unset] [(.int (4 : Int32)), (.int (A).toInt32)])) (fun tz kz => XT.iconstV X75.here hx rfl (4 : Int32) (hb hby at_303) (by decide) kz) ?_
        refine own_viaW (F' := T75.setTop (mkF m 321 #[.val (.int p0), .val (.int p1), .val (.int p2), .val (.int (n12).toInt32), .val (.int (A).toInt32), .val (.ref a14), .val (.ref t26), .val (.ref t36), .val (.ref t39), .val (.ref t42), .val (.ref t45), .val (.ref a53), .val (.ref a60), .val (.int (own_fd (own_tb y24 n12) (own_tb y24 n12 A) A)), .val (.ref a75), .val (.int (0 : Int32)), .unset] [])) (fun tz kz => XS.icmpYes X75.here hx rfl (pc0 := 304) (pc' := 321) rfl (hb hby at_304) rfl (XT.ii_le_t (fun z => absurd ((own_ltI (i := 4) (j := A) rfl rfl (by decide) (by omega)).mp z) (by omega))) (by decide) (by decide) kz) ?_
        obtain rfl : A = 0 := by omega
        have c130 := c65.trans (CHr.ext E75 c65.1)
        have hk131 := ((Keep.refl T65.heap []).ext E75).1
        have f132 := (f76.ext E75)
        exact tail2 T75 h75 _ (X75.more (by decide) (by decide)) e75 hk131 c130 (Fr.app (Fr.app N1 M65) (Fr.nil _)) f132 Q0
  refine own_viaW (F' := T58.setTop (mkF m 131 #[.val (.int p0), .val (.int p1), .val (.int p2), .val (.int (n12).toInt32), .val (.int att), .val (.ref a14), .val (.ref t26), .val (.ref t36), .val (.ref t39), .val (.ref t42), .val (.ref t45), .val (.ref a53), .unset, .unset, .unset, .unset, .unset] [(.int (n12).toInt32)])) (fun tz kz => XS.iloadN X58.here hx rfl (hb hby at_130) rfl kz) ?_
  by_cases q133 : 0 < n12
  · refine own_viaW (F' := T58.setTop (mkF m 134 #[.val (.int p0), .val (.int p1), .val (.int p2), .val (.int (n12).toInt32), .val (.int att), .val (.ref a14), .val (.ref t26), .val (.ref t36), .val (.ref t39), .val (.ref t42), .val (.ref t45), .val (.ref a53), .unset, .unset, .unset, .unset, .unset] [])) (fun tz kz => XS.ifNo X58.here hx rfl (hb hby at_131) rfl (XT.i0_le_f ((own_ltI (i := 0) (j := n12) rfl rfl (by decide) (by omega)).mpr q133)) kz) ?_
    refine own_viaW (F' := T58.setTop (mkF m 136 #[.val (.int p0), .val (.int p1), .val (.int p2), .val (.int (n12).toInt32), .val (.int att), .val (.ref a14), .val (.ref t26), .val (.ref t36), .val (.ref t39), .val (.ref t42), .val (.ref t45), .val (.ref a53), .unset, .unset, .unset, .unset, .unset] [(.ref a53)])) (fun tz kz => XS.aload X58.here hx rfl (hb hby at_134) rfl rfl kz) ?_
    refine own_viaW (F' := T58.setTop (mkF m 138 #[.val (.int p0), .val (.int p1), .val (.int p2), .val (.int (n12).toInt32), .val (.int att), .val (.ref a14), .val (.ref t26), .val (.ref t36), .val (.ref t39), .val (.ref t42), .val (.ref t45), .val (.ref a53), .unset, .unset, .unset, .unset, .unset] [(.ref t26), (.ref a53)])) (fun tz kz => XS.aload X58.here hx rfl (hb hby at_136) rfl rfl kz) ?_
    have f134 := (f57.keep K58 (allS G53 all0))
    have f135 := (own_Tok.keep hw (own_Tok.ext hw f47 E53) K58 (allS (Or.inl A53) all0))
    have f136 := ((f46.ext E53).keep K58 (ninS (own_ne (by omega)) nin0))
    refine own_callVW X58 hx hZ (own_ka0 l Z az hw a53 d0 0 K0 f0 T58.heap n0 E58 elementData58 size58 modCount58 f136 DS f134 G53 t26 (Ins.of_exa f135.exa (hw _ (List.mem_of_getElem? (i := 93) rfl)))) hown E58 (hw _ (List.mem_of_getElem? (i := 63) rfl)) (hw _ (List.mem_of_getElem? (i := 64) rfl)) (hw _ (List.mem_of_getElem? (i := 66) rfl)) (hw _ (List.mem_of_getElem? (i := 65) rfl)) (hw _ (List.mem_of_getElem? (i := 41) rfl)) (hw _ (List.mem_of_getElem? (i := 67) rfl)) (notFace_of_selects (args := #[]) (mvT hZ (hw _ (List.mem_of_getElem? (i := 66) rfl)))) (by decide) rfl (g := (mkF m 138 #[.val (.int p0), .val (.int p1), .val (.int p2), .val (.int (n12).toInt32), .val (.int att), .val (.ref a14), .val (.ref t26), .val (.ref t36), .val (.ref t39), .val (.ref t42), .val (.ref t45), .val (.ref a53), .unset, .unset, .unset, .unset, .unset] [(.ref t26), (.ref a53)])) rfl (by rw [hml]; rfl) (argsL := [(.ref t26)]) (rest := []) rfl (lenOf own_pd9 rfl) rfl 0 (by show 2 * 0 + _ ≤ _; exact Nat.le_of_eq rfl) (hb hby at_138) (by decide) (by decide) (by decide) (by decide) ?_
    intro v137 T137 L137 hQ137 X137
    obtain ⟨rfl, M137, K137, ea137, g137, A137⟩ := hQ137
    have G137 : n0 ≤ ea137 := by have q := f134.2.1; have q2 := f134.1; omega
    have f138 := ((f51.ext E53).keep K58 (ninS (own_ne (by omega)) nin0))
    have le137_a14 : a14 < ea137 := by have q := own_n f138.lt; omega
    refine own_viaW (F' := T137.setTop (mkF m 141 #[.val (.int p0), .val (.int p1), .val (.int p2), .val (.int (n12).toInt32), .val (.int att), .val (.ref a14), .val (.ref t26), .val (.ref t36), .val (.ref t39), .val (.ref t42), .val (.ref t45), .val (.ref a53), .unset, .unset, .unset, .unset, .unset] [(.int (1 : Int32))])) (fun tz kz => kz) ?_
    refine own_viaW (F' := T137.setTop (mkF m 142 #[.val (.int p0), .val (.int p1), .val (.int p2), .val (.int (n12).toInt32), .val (.int att), .val (.ref a14), .val (.ref t26), .val (.ref t36), .val (.ref t39), .val (.ref t42), .val (.ref t45), .val (.ref a53), .unset, .unset, .unset, .unset, .unset] [])) (fun tz kz => XT.pop X137.here hx rfl (hb hby at_141) rfl rfl kz) ?_
    refine own_viaW (F' := T137.setTop (mkF m 143 #[.val (.int p0), .val (.int p1), .val (.int p2), .val (.int (n12).toInt32), .val (.int att), .val (.ref a14), .val (.ref t26), .val (.ref t36), .val (.ref t39), .val (.ref t42), .val (.ref t45), .val (.ref a53), .unset, .unset, .unset, .unset, .unset] [(.int (n12).toInt32)])) (fun tz kz => XS.iloadN X137.here hx rfl (hb hby at_142) rfl kz) ?_
    refine own_viaW (F' := T137.setTop (mkF m 144 #[.val (.int p0), .val (.int p1), .val (.int p2), .val (.int (n12).toInt32), .val (.int att), .val (.ref a14), .val (.ref t26), .val (.ref t36), .val (.ref t39), .val (.ref t42), .val (.ref t45), .val (.ref a53), .unset, .unset, .unset, .unset, .unset] [(.int (1 : Int32)), (.int (n12).toInt32)])) (fun tz kz => XT.iconstV X137.here hx rfl (1 : Int32) (hb hby at_143) (by decide) kz) ?_
    by_cases q139 : 1 < n12
    · refine own_viaW (F' := T137.setTop (mkF m 147 #[.val (.int p0), .val (.int p1), .val (.int p2), .val (.int (n12).toInt32), .val (.int att), .val (.ref a14), .val (.ref t26), .val (.ref t36), .val (.ref t39), .val (.ref t42), .val (.ref t45), .val (.ref a53), .unset, .unset, .unset, .unset, .unset] [])) (fun tz kz => XS.icmpNo X137.here hx rfl (hb hby at_144) rfl (XT.ii_le_f ((own_ltI (i := 1) (j := n12) rfl rfl (by decide) (by omega)).mpr q139)) kz) ?_
      refine own_viaW (F' := T137.setTop (mkF m 149 #[.val (.int p0), .val (.int p1), .val (.int p2), .val (.int (n12).toInt32), .val (.int att), .val (.ref a14), .val (.ref t26), .val (.ref t36), .val (.ref t39), .val (.ref t42), .val (.ref t45), .val (.ref a53), .unset, .unset, .unset, .unset, .unset] [(.ref a53)])) (fun tz kz => XS.aload X137.here hx rfl (hb hby at_147) rfl rfl kz) ?_
      refine own_viaW (F' := T137.setTop (mkF m 151 #[.val (.int p0), .val (.int p1), .val (.int p2), .val (.int (n12).toInt32), .val (.int att), .val (.ref a14), .val (.ref t26), .val (.ref t36), .val (.ref t39), .val (.ref t42), .val (.ref t45), .val (.ref a53), .unset, .unset, .unset, .unset, .unset] [(.ref t36), (.ref a53)])) (fun tz kz => XS.aload X137.here hx rfl (hb hby at_149) rfl rfl kz) ?_
      have f140 := (f134.keep K137 (allS G53 all0))
      have f141 := (own_Tok.keep hw (own_Tok.keep hw (own_Tok.ext hw f48 E53) K58 (allS (Or.inl A53) all0)) K137 (allS (Or.inl E58) all0))
      refine own_callVW X137 hx hZ (own_ka l Z az hw a53 ea137 1 (fun x => if x = 0 then .ref t26 else .null) T137.heap n0 A137 (by decide) G53 t36 (Ins.of_exa f141.exa (hw _ (List.mem_of_getElem? (i := 93) rfl)))) hown A137.1 (hw _ (List.mem_of_getElem? (i := 63) rfl)) (hw _ (List.mem_of_getElem? (i := 64) rfl)) (hw _ (List.mem_of_getElem? (i := 66) rfl)) (hw _ (List.mem_of_getElem? (i := 65) rfl)) (hw _ (List.mem_of_getElem? (i := 41) rfl)) (hw _ (List.mem_of_getElem? (i := 67) rfl)) (notFace_of_selects (args := #[]) (mvT hZ (hw _ (List.mem_of_getElem? (i := 66) rfl)))) (by decide) rfl (g := (mkF m 151 #[.val (.int p0), .val (.int p1), .val (.int p2), .val (.int (n12).toInt32), .val (.int att), .val (.ref a14), .val (.ref t26), .val (.ref t36), .val (.ref t39), .val (.ref t42), .val (.ref t45), .val (.ref a53), .unset, .unset, .unset, .unset, .unset] [(.ref t36), (.ref a53)])) rfl (by rw [hml]; rfl) (argsL := [(.ref t36)]) (rest := []) rfl (lenOf own_pd9 rfl) rfl 0 (by show 2 * 0 + _ ≤ _; exact Nat.le_of_eq rfl) (hb hby at_151) (by decide) (by decide) (by decide) (by decide) ?_
      intro v142 T142 L142 hQ142 X142
      obtain ⟨rfl, M142, K142, A142⟩ := hQ142
      refine own_viaW (F' := T142.setTop (mkF m 154 #[.val (.int p0), .val (.int p1), .val (.int p2), .val (.int (n12).toInt32), .val (.int att), .val (.ref a14), .val (.ref t26), .val (.ref t36), .val (.ref t39), .val (.ref t42), .val (.ref t45), .val (.ref a53), .unset, .unset, .unset, .unset, .unset] [(.int (1 : Int32))])) (fun tz kz => kz) ?_
      refine own_viaW (F' := T142.setTop (mkF m 155 #[.val (.int p0), .val (.int p1), .val (.int p2), .val (.int (n12).toInt32), .val (.int att), .val (.ref a14), .val (.ref t26), .val (.ref t36), .val (.ref t39), .val (.ref t42), .val (.ref t45), .val (.ref a53), .unset, .unset, .unset, .unset, .unset] [])) (fun tz kz => XT.pop X142.here hx rfl (hb hby at_154) rfl rfl kz) ?_
      refine own_viaW (F' := T142.setTop (mkF m 156 #[.val (.int p0), .val (.int p1), .val (.int p2), .val (.int (n12).toInt32), .val (.int att), .val (.ref a14), .val (.ref t26), .val (.ref t36), .val (.ref t39), .val (.ref t42), .val (.ref t45), .val (.ref a53), .unset, .unset, .unset, .unset, .unset] [(.int (n12).toInt32)])) (fun tz kz => XS.iloadN X142.here hx rfl (hb hby at_155) rfl kz) ?_
      refine own_viaW (F' := T142.setTop (mkF m 157 #[.val (.int p0), .val (.int p1), .val (.int p2), .val (.int (n12).toInt32), .val (.int att), .val (.ref a14), .val (.ref t26), .val (.ref t36), .val (.ref t39), .val (.ref t42), .val (.ref t45), .val (.ref a53), .unset, .unset, .unset, .unset, .unset] [(.int (2 : Int32)), (.int (n12).toInt32)])) (fun tz kz => XT.iconstV X142.here hx rfl (2 : Int32) (hb hby at_156) (by decide) kz) ?_
      by_cases q143 : 2 < n12
      · refine own_viaW (F' := T142.setTop (mkF m 160 #[.val (.int p0), .val (.int p1), .val (.int p2), .val (.int (n12).toInt32), .val (.int att), .val (.ref a14), .val (.ref t26), .val (.ref t36), .val (.ref t39), .val (.ref t42), .val (.ref t45), .val (.ref a53), .unset, .unset, .unset, .unset, .unset] [])) (fun tz kz => XS.icmpNo X142.here hx rfl (hb hby at_157) rfl (XT.ii_le_f ((own_ltI (i := 2) (j := n12) rfl rfl (by decide) (by omega)).mpr q143)) kz) ?_
        refine own_viaW (F' := T142.setTop (mkF m 162 #[.val (.int p0), .val (.int p1), .val (.int p2), .val (.int (n12).toInt32), .val (.int att), .val (.ref a14), .val (.ref t26), .val (.ref t36), .val (.ref t39), .val (.ref t42), .val (.ref t45), .val (.ref a53), .unset, .unset, .unset, .unset, .unset] [(.ref a53)])) (fun tz kz => XS.aload X142.here hx rfl (hb hby at_160) rfl rfl kz) ?_
        refine own_viaW (F' := T142.setTop (mkF m 164 #[.val (.int p0), .val (.int p1), .val (.int p2), .val (.int (n12).toInt32), .val (.int att), .val (.ref a14), .val (.ref t26), .val (.ref t36), .val (.ref t39), .val (.ref t42), .val (.ref t45), .val (.ref a53), .unset, .unset, .unset, .unset, .unset] [(.ref t39), (.ref a53)])) (fun tz kz => XS.aload X142.here hx rfl (hb hby at_162) rfl rfl kz) ?_
        have f144 := (f140.keep K142 (allS G53 (allS G137 all0)))
        have f145 := (own_Tok.keep hw (own_Tok.keep hw (own_Tok.keep hw (own_Tok.ext hw f49 E53) K58 (allS (Or.inl A53) all0)) K137 (allS (Or.inl E58) all0)) K142 (allS (Or.inl A137.1) (allS (Or.inr (Or.inr (by obtain ⟨cl, A⟩ := A137.2.2.2.2.1.arr; exact ⟨cl, _, A, by decide⟩))) all0)))
        refine own_callVW X142 hx hZ (own_ka l Z az hw a53 ea137 (1 + 1) (fun x => if x = 1 then .ref t36 else (fun x => if x = 0 then .ref t26 else .null) x) T142.heap n0 A142 (by decide) G53 t39 (Ins.of_exa f145.exa (hw _ (List.mem_of_getElem? (i := 93) rfl)))) hown A142.1 (hw _ (List.mem_of_getElem? (i := 63) rfl)) (hw _ (List.mem_of_getElem? (i := 64) rfl)) (hw _ (List.mem_of_getElem? (i := 66) rfl)) (hw _ (List.mem_of_getElem? (i := 65) rfl)) (hw _ (List.mem_of_getElem? (i := 41) rfl)) (hw _ (List.mem_of_getElem? (i := 67) rfl)) (notFace_of_selects (args := #[]) (mvT hZ (hw _ (List.mem_of_getElem? (i := 66) rfl)))) (by decide) rfl (g := (mkF m 164 #[.val (.int p0), .val (.int p1), .val (.int p2), .val (.int (n12).toInt32), .val (.int att), .val (.ref a14), .val (.ref t26), .val (.ref t36), .val (.ref t39), .val (.ref t42), .val (.ref t45), .val (.ref a53), .unset, .unset, .unset, .unset, .unset] [(.ref t39), (.ref a53)])) rfl (by rw [hml]; rfl) (argsL := [(.ref t39)]) (rest := []) rfl (lenOf own_pd9 rfl) rfl 0 (by show 2 * 0 + _ ≤ _; exact Nat.le_of_eq rfl) (hb hby at_164) (by decide) (by decide) (by decide) (by decide) ?_
        intro v146 T146 L146 hQ146 X146
        obtain ⟨rfl, M146, K146, A146⟩ := hQ146
        refine own_viaW (F' := T146.setTop (mkF m 167 #[.val (.int p0), .val (.int p1), .val (.int p2), .val (.int (n12).toInt32), .val (.int att), .val (.ref a14), .val (.ref t26), .val (.ref t36), .val (.ref t39), .val (.ref t42), .val (.ref t45), .val (.ref a53), .unset, .unset, .unset, .unset, .unset] [(.int (1 : Int32))])) (fun tz kz => kz) ?_
        refine own_viaW (F' := T146.setTop (mkF m 168 #[.val (.int p0), .val (.int p1), .val (.int p2), .val (.int (n12).toInt32), .val (.int att), .val (.ref a14), .val (.ref t26), .val (.ref t36), .val (.ref t39), .val (.ref t42), .val (.ref t45), .val (.ref a53), .unset, .unset, .unset, .unset, .unset] [])) (fun tz kz => XT.pop X146.here hx rfl (hb hby at_167) rfl rfl kz) ?_
        refine own_viaW (F' := T146.setTop (mkF m 169 #[.val (.int p0), .val (.int p1), .val (.int p2), .val (.int (n12).toInt32), .val (.int att), .val (.ref a14), .val (.ref t26), .val (.ref t36), .val (.ref t39), .val (.ref t42), .val (.ref t45), .val (.ref a53), .unset, .unset, .unset, .unset, .unset] [(.int (n12).toInt32)])) (fun tz kz => XS.iloadN X146.here hx rfl (hb hby at_168) rfl kz) ?_
        refine own_viaW (F' := T146.setTop (mkF m 170 #[.val (.int p0), .val (.int p1), .val (.int p2), .val (.int (n12).toInt32), .val (.int att), .val (.ref a14), .val (.ref t26), .val (.ref t36), .val (.ref t39), .val (.ref t42), .val (.ref t45), .val (.ref a53), .unset, .unset, .unset, .unset, .unset] [(.int (3 : Int32)), (.int (n12).toInt32)])) (fun tz kz => XT.iconstV X146.here hx rfl (3 : Int32) (hb hby at_169) (by decide) kz) ?_
        by_cases q147 : 3 < n12
        · refine own_viaW (F' := T146.setTop (mkF m 173 #[.val (.int p0), .val (.int p1), .val (.int p2), .val (.int (n12).toInt32), .val (.int att), .val (.ref a14), .val (.ref t26), .val (.ref t36), .val (.ref t39), .val (.ref t42), .val (.ref t45), .val (.ref a53), .unset, .unset, .unset, .unset, .unset] [])) (fun tz kz => XS.icmpNo X146.here hx rfl (hb hby at_170) rfl (XT.ii_le_f ((own_ltI (i := 3) (j := n12) rfl rfl (by decide) (by omega)).mpr q147)) kz) ?_
          refine own_viaW (F' := T146.setTop (mkF m 175 #[.val (.int p0), .val (.int p1), .val (.int p2), .val (.int (n12).toInt32), .val (.int att), .val (.ref a14), .val (.ref t26), .val (.ref t36), .val (.ref t39), .val (.ref t42), .val (.ref t45), .val (.ref a53), .unset, .unset, .unset, .unset, .unset] [(.ref a53)])) (fun tz kz => XS.aload X146.here hx rfl (hb hby at_173) rfl rfl kz) ?_
          refine own_viaW (F' := T146.setTop (mkF m 177 #[.val (.int p0), .val (.int p1), .val (.int p2), .val (.int (n12).toInt32), .val (.int att), .val (.ref a14), .val (.ref t26), .val (.ref t36), .val (.ref t39), .val (.ref t42), .val (.ref t45), .val (.ref a53), .unset, .unset, .unset, .unset, .unset] [(.ref t42), (.ref a53)])) (fun tz kz => XS.aload X146.here hx rfl (hb hby at_175) rfl rfl kz) ?_
          have f148 := (f144.keep K146 (allS G53 (allS G137 all0)))
          have f149 := (own_Tok.keep hw (own_Tok.keep hw (own_Tok.keep hw (own_Tok.keep hw (own_Tok.ext hw f50 E53) K58 (allS (Or.inl A53) all0)) K137 (allS (Or.inl E58) all0)) K142 (allS (Or.inl A137.1) (allS (Or.inr (Or.inr (by obtain ⟨cl, A⟩ := A137.2.2.2.2.1.arr; exact ⟨cl, _, A, by decide⟩))) all0))) K146 (allS (Or.inl A142.1) (allS (Or.inr (Or.inr (by obtain ⟨cl, A⟩ := A142.2.2.2.2.1.arr; exact ⟨cl, _, A, by decide⟩))) all0)))
          refine own_callVW X146 hx hZ (own_ka l Z az hw a53 ea137 ((1 + 1) + 1) (fun x => if x = (1 + 1) then .ref t39 else (fun x => if x = 1 then .ref t36 else (fun x => if x = 0 then .ref t26 else .null) x) x) T146.heap n0 A146 (by decide) G53 t42 (Ins.of_exa f149.exa (hw _ (List.mem_of_getElem? (i := 93) rfl)))) hown A146.1 (hw _ (List.mem_of_getElem? (i := 63) rfl)) (hw _ (List.mem_of_getElem? (i := 64) rfl)) (hw _ (List.mem_of_getElem? (i := 66) rfl)) (hw _ (List.mem_of_getElem? (i := 65) rfl)) (hw _ (List.mem_of_getElem? (i := 41) rfl)) (hw _ (List.mem_of_getElem? (i := 67) rfl)) (notFace_of_selects (args := #[]) (mvT hZ (hw _ (List.mem_of_getElem? (i := 66) rfl)))) (by decide) rfl (g := (mkF m 177 #[.val (.int p0), .val (.int p1), .val (.int p2), .val (.int (n12).toInt32), .val (.int att), .val (.ref a14), .val (.ref t26), .val (.ref t36), .val (.ref t39), .val (.ref t42), .val (.ref t45), .val (.ref a53), .unset, .unset, .unset, .unset, .unset] [(.ref t42), (.ref a53)])) rfl (by rw [hml]; rfl) (argsL := [(.ref t42)]) (rest := []) rfl (lenOf own_pd9 rfl) rfl 0 (by show 2 * 0 + _ ≤ _; exact Nat.le_of_eq rfl) (hb hby at_177) (by decide) (by decide) (by decide) (by decide) ?_
          intro v150 T150 L150 hQ150 X150
          obtain ⟨rfl, M150, K150, A150⟩ := hQ150
          refine own_viaW (F' := T150.setTop (mkF m 180 #[.val (.int p0), .val (.int p1), .val (.int p2), .val (.int (n12).toInt32), .val (.int att), .val (.ref a14), .val (.ref t26), .val (.ref t36), .val (.ref t39), .val (.ref t42), .val (.ref t45), .val (.ref a53), .unset, .unset, .unset, .unset, .unset] [(.int (1 : Int32))])) (fun tz kz => kz) ?_
          refine own_viaW (F' := T150.setTop (mkF m 181 #[.val (.int p0), .val (.int p1), .val (.int p2), .val (.int (n12).toInt32), .val (.int att), .val (.ref a14), .val (.ref t26), .val (.ref t36), .val (.ref t39), .val (.ref t42), .val (.ref t45), .val (.ref a53), .unset, .unset, .unset, .unset, .unset] [])) (fun tz kz => XT.pop X150.here hx rfl (hb hby at_180) rfl rfl kz) ?_
          refine own_viaW (F' := T150.setTop (mkF m 182 #[.val (.int p0), .val (.int p1), .val (.int p2), .val (.int (n12).toInt32), .val (.int att), .val (.ref a14), .val (.ref t26), .val (.ref t36), .val (.ref t39), .val (.ref t42), .val (.ref t45), .val (.ref a53), .unset, .unset, .unset, .unset, .unset] [(.int (n12).toInt32)])) (fun tz kz => XS.iloadN X150.here hx rfl (hb hby at_181) rfl kz) ?_
          refine own_viaW (F' := T150.setTop (mkF m 183 #[.val (.int p0), .val (.int p1), .val (.int p2), .val (.int (n12).toInt32), .val (.int att), .val (.ref a14), .val (.ref t26), .val (.ref t36), .val (.ref t39), .val (.ref t42), .val (.ref t45), .val (.ref a53), .unset, .unset, .unset, .unset, .unset] [(.int (4 : Int32)), (.int (n12).toInt32)])) (fun tz kz => XT.iconstV X150.here hx rfl (4 : Int32) (hb hby at_182) (by decide) kz) ?_
          by_cases q151 : 4 < n12
          · refine own_viaW (F' := T150.setTop (mkF m 186 #[.val (.int p0), .val (.int p1), .val (.int p2), .val (.int (n12).toInt32), .val (.int att), .val (.ref a14), .val (.ref t26), .val (.ref t36), .val (.ref t39), .val (.ref t42), .val (.ref t45), .val (.ref a53), .unset, .unset, .unset, .unset, .unset] [])) (fun tz kz => XS.icmpNo X150.here hx rfl (hb hby at_183) rfl (XT.ii_le_f ((own_ltI (i := 4) (j := n12) rfl rfl (by decide) (by omega)).mpr q151)) kz) ?_
            refine own_viaW (F' := T150.setTop (mkF m 188 #[.val (.int p0), .val (.int p1), .val (.int p2), .val (.int (n12).toInt32), .val (.int att), .val (.ref a14), .val (.ref t26), .val (.ref t36), .val (.ref t39), .val (.ref t42), .val (.ref t45), .val (.ref a53), .unset, .unset, .unset, .unset, .unset] [(.ref a53)])) (fun tz kz => XS.aload X150.here hx rfl (hb hby at_186) rfl rfl kz) ?_
            refine own_viaW (F' := T150.setTop (mkF m 190 #[.val (.int p0), .val (.int p1), .val (.int p2), .val (.int (n12).toInt32), .val (.int att), .val (.ref a14), .val (.ref t26), .val (.ref t36), .val (.ref t39), .val (.ref t42), .val (.ref t45), .val (.ref a53), .unset, .unset, .unset, .unset, .unset] [(.ref t45), (.ref a53)])) (fun tz kz => XS.aload X150.here hx rfl (hb hby at_188) rfl rfl kz) ?_
            have f152 := (f148.keep K150 (allS G53 (allS G137 all0)))
            have f153 := (own_Tok.keep hw (own_Tok.keep hw (own_Tok.keep hw (own_Tok.keep hw (own_Tok.keep hw (own_Tok.ext hw A45 E53) K58 (allS (Or.inl A53) all0)) K137 (allS (Or.inl E58) all0)) K142 (allS (Or.inl A137.1) (allS (Or.inr (Or.inr (by obtain ⟨cl, A⟩ := A137.2.2.2.2.1.arr; exact ⟨cl, _, A, by decide⟩))) all0))) K146 (allS (Or.inl A142.1) (allS (Or.inr (Or.inr (by obtain ⟨cl, A⟩ := A142.2.2.2.2.1.arr; exact ⟨cl, _, A, by decide⟩))) all0))) K150 (allS (Or.inl A146.1) (allS (Or.inr (Or.inr (by obtain ⟨cl, A⟩ := A146.2.2.2.2.1.arr; exact ⟨cl, _, A, by decide⟩))) all0)))
            refine own_callVW X150 hx hZ (own_ka l Z az hw a53 ea137 (((1 + 1) + 1) + 1) (fun x => if x = ((1 + 1) + 1) then .ref t42 else (fun x => if x = (1 + 1) then .ref t39 else (fun x => if x = 1 then .ref t36 else (fun x => if x = 0 then .ref t26 else .null) x) x) x) T150.heap n0 A150 (by decide) G53 t45 (Ins.of_exa f153.exa (hw _ (List.mem_of_getElem? (i := 93) rfl)))) hown A150.1 (hw _ (List.mem_of_getElem? (i := 63) rfl)) (hw _ (List.mem_of_getElem? (i := 64) rfl)) (hw _ (List.mem_of_getElem? (i := 66) rfl)) (hw _ (List.mem_of_getElem? (i := 65) rfl)) (hw _ (List.mem_of_getElem? (i := 41) rfl)) (hw _ (List.mem_of_getElem? (i := 67) rfl)) (notFace_of_selects (args := #[]) (mvT hZ (hw _ (List.mem_of_getElem? (i := 66) rfl)))) (by decide) rfl (g := (mkF m 190 #[.val (.int p0), .val (.int p1), .val (.int p2), .val (.int (n12).toInt32), .val (.int att), .val (.ref a14), .val (.ref t26), .val (.ref t36), .val (.ref t39), .val (.ref t42), .val (.ref t45), .val (.ref a53), .unset, .unset, .unset, .unset, .unset] [(.ref t45), (.ref a53)])) rfl (by rw [hml]; rfl) (argsL := [(.ref t45)]) (rest := []) rfl (lenOf own_pd9 rfl) rfl 0 (by show 2 * 0 + _ ≤ _; exact Nat.le_of_eq rfl) (hb hby at_190) (by decide) (by decide) (by decide) (by decide) ?_
            intro v154 T154 L154 hQ154 X154
            obtain ⟨rfl, M154, K154, A154⟩ := hQ154
            refine own_viaW (F' := T154.setTop (mkF m 193 #[.val (.int p0), .val (.int p1), .val (.int p2), .val (.int (n12).toInt32), .val (.int att), .val (.ref a14), .val (.ref t26), .val (.ref t36), .val (.ref t39), .val (.ref t42), .val (.ref t45), .val (.ref a53), .unset, .unset, .unset, .unset, .unset] [(.int (1 : Int32))])) (fun tz kz => kz) ?_
            refine own_viaW (F' := T154.setTop (mkF m 194 #[.val (.int p0), .val (.int p1), .val (.int p2), .val (.int (n12).toInt32), .val (.int att), .val (.ref a14), .val (.ref t26), .val (.ref t36), .val (.ref t39), .val (.ref t42), .val (.ref t45), .val (.ref a53), .unset, .unset, .unset, .unset, .unset] [])) (fun tz kz => XT.pop X154.here hx rfl (hb hby at_193) rfl rfl kz) ?_
            have f155 := (own_Tok.keep hw (own_Tok.keep hw (own_Tok.keep hw (own_Tok.keep hw (own_Tok.keep hw f135 K137 (allS (Or.inl E58) all0)) K142 (allS (Or.inl A137.1) (allS (Or.inr (Or.inr (by obtain ⟨cl, A⟩ := A137.2.2.2.2.1.arr; exact ⟨cl, _, A, by decide⟩))) all0))) K146 (allS (Or.inl A142.1) (allS (Or.inr (Or.inr (by obtain ⟨cl, A⟩ := A142.2.2.2.2.1.arr; exact ⟨cl, _, A, by decide⟩))) all0))) K150 (allS (Or.inl A146.1) (allS (Or.inr (Or.inr (by obtain ⟨cl, A⟩ := A146.2.2.2.2.1.arr; exact ⟨cl, _, A, by decide⟩))) all0))) K154 (allS (Or.inl A150.1) (allS (Or.inr (Or.inr (by obtain ⟨cl, A⟩ := A150.2.2.2.2.1.arr; exact ⟨cl, _, A, by decide⟩))) all0)))
            have f156 := (own_Tok.keep hw (own_Tok.keep hw (own_Tok.keep hw (own_Tok.keep hw f141 K142 (allS (Or.inl A137.1) (allS (Or.inr (Or.inr (by obtain ⟨cl, A⟩ := A137.2.2.2.2.1.arr; exact ⟨cl, _, A, by decide⟩))) all0))) K146 (allS (Or.inl A142.1) (allS (Or.inr (Or.inr (by obtain ⟨cl, A⟩ := A142.2.2.2.2.1.arr; exact ⟨cl, _, A, by decide⟩))) all0))) K150 (allS (Or.inl A146.1) (allS (Or.inr (Or.inr (by obtain ⟨cl, A⟩ := A146.2.2.2.2.1.arr; exact ⟨cl, _, A, by decide⟩))) all0))) K154 (allS (Or.inl A150.1) (allS (Or.inr (Or.inr (by obtain ⟨cl, A⟩ := A150.2.2.2.2.1.arr; exact ⟨cl, _, A, by decide⟩))) all0)))
            have f157 := (own_Tok.keep hw (own_Tok.keep hw (own_Tok.keep hw f145 K146 (allS (Or.inl A142.1) (allS (Or.inr (Or.inr (by obtain ⟨cl, A⟩ := A142.2.2.2.2.1.arr; exact ⟨cl, _, A, by decide⟩))) all0))) K150 (allS (Or.inl A146.1) (allS (Or.inr (Or.inr (by obtain ⟨cl, A⟩ := A146.2.2.2.2.1.arr; exact ⟨cl, _, A, by decide⟩))) all0))) K154 (allS (Or.inl A150.1) (allS (Or.inr (Or.inr (by obtain ⟨cl, A⟩ := A150.2.2.2.2.1.arr; exact ⟨cl, _, A, by decide⟩))) all0)))
            have f158 := (own_Tok.keep hw (own_Tok.keep hw f149 K150 (allS (Or.inl A146.1) (allS (Or.inr (Or.inr (by obtain ⟨cl, A⟩ := A146.2.2.2.2.1.arr; exact ⟨cl, _, A, by decide⟩))) all0))) K154 (allS (Or.inl A150.1) (allS (Or.inr (Or.inr (by obtain ⟨cl, A⟩ := A150.2.2.2.2.1.arr; exact ⟨cl, _, A, by decide⟩))) all0)))
            have f159 := (own_Tok.keep hw f153 K154 (allS (Or.inl A150.1) (allS (Or.inr (Or.inr (by obtain ⟨cl, A⟩ := A150.2.2.2.2.1.arr; exact ⟨cl, _, A, by decide⟩))) all0)))
            have c160 := c45.trans (CHr.ext E53 c45.1)
            have c161 := c160.trans (CHr.keep K58 (sfS (Safe.exa hZ.alike A53 (by decide) (by decide)) sf0) c160.1)
            have c162 := c161.trans (CHr.keep K137 (sfS (Safe.exa hZ.alike E58 (by decide) (by decide)) sf0) c161.1)
            have c163 := c162.trans (CHr.keep K142 (sfS (Safe.exa hZ.alike A137.1 (by decide) (by decide)) (sfS (A137.2.2.2.2.1.safe hZ.alike) sf0)) c162.1)
            have c164 := c163.trans (CHr.keep K146 (sfS (Safe.exa hZ.alike A142.1 (by decide) (by decide)) (sfS (A142.2.2.2.2.1.safe hZ.alike) sf0)) c163.1)
            have c165 := c164.trans (CHr.keep K150 (sfS (Safe.exa hZ.alike A146.1 (by decide) (by decide)) (sfS (A146.2.2.2.2.1.safe hZ.alike) sf0)) c164.1)
            have c166 := c165.trans (CHr.keep K154 (sfS (Safe.exa hZ.alike A150.1 (by decide) (by decide)) (sfS (A150.2.2.2.2.1.safe hZ.alike) sf0)) c165.1)
            have hk167 := ((((((((Keep.refl T45.heap [a53, ea137]).ext E53).trans K58 (allS (Or.inl (List.mem_of_getElem? (i := 0) rfl)) all0)).trans K137 (allS (Or.inl (List.mem_of_getElem? (i := 0) rfl)) all0)).trans K142 (allS (Or.inl (List.mem_of_getElem? (i := 0) rfl)) (allS (Or.inl (List.mem_of_getElem? (i := 1) rfl)) all0))).trans K146 (allS (Or.inl (List.mem_of_getElem? (i := 0) rfl)) (allS (Or.inl (List.mem_of_getElem? (i := 1) rfl)) all0))).trans K150 (allS (Or.inl (List.mem_of_getElem? (i := 0) rfl)) (allS (Or.inl (List.mem_of_getElem? (i := 1) rfl)) all0))).trans K154 (allS (Or.inl (List.mem_of_getElem? (i := 0) rfl)) (allS (Or.inl (List.mem_of_getElem? (i := 1) rfl)) all0))).1
            have f168 := (f152.keep K154 (allS G53 (allS G137 all0)))
            have f169 := (((((((f51.ext E53).keep K58 (ninS (own_ne (by omega)) nin0)).keep K137 (ninS (own_ne (by omega)) nin0)).keep K142 (ninS (own_ne (by omega)) (ninS (own_ne (by omega)) nin0))).keep K146 (ninS (own_ne (by omega)) (ninS (own_ne (by omega)) nin0))).keep K150 (ninS (own_ne (by omega)) (ninS (own_ne (by omega)) nin0))).keep K154 (ninS (own_ne (by omega)) (ninS (own_ne (by omega)) nin0)))
            have hnn : n12 = 5 := by omega
            have z3 : ∀ q, q < 5 → ((fun x => if x = (((1 + 1) + 1) + 1) then .ref t45 else (fun x => if x = ((1 + 1) + 1) then .ref t42 else (fun x => if x = (1 + 1) then .ref t39 else (fun x => if x = 1 then .ref t36 else (fun x => if x = 0 then .ref t26 else .null) x) x) x) x) : Nat → Value) q = Value.ref ((fun i => if i = 0 then t26 else if i = 1 then t36 else if i = 2 then t39 else if i = 3 then t42 else t45) q) := fun q hi => by
              rcases own_x5 (show q < 5 by omega) with rfl | rfl | rfl | rfl | rfl
              · rfl
              · rfl
              · rfl
              · rfl
              · rfl
            have z4 : ∀ q, q < 5 → own_Tok Z T154.heap ((fun i => if i = 0 then t26 else if i = 1 then t36 else if i = 2 then t39 else if i = 3 then t42 else t45) q) (own_kd kS kW (y24 q)) (own_ch (y24 q)) := fun q hi => by
              rcases own_x5 (show q < 5 by omega) with rfl | rfl | rfl | rfl | rfl
              · exact f155
              · exact f156
              · exact f157
              · exact f158
              · exact f159
            have LSz : own_LS Z T154.heap a53 n12 (fun i => if i = 0 then t26 else if i = 1 then t36 else if i = 2 then t39 else if i = 3 then t42 else t45) (fun i => own_kd kS kW (y24 i)) (fun i => own_ch (y24 i)) := by rw [hnn]; exact ⟨ea137, 10, (fun x => if x = (((1 + 1) + 1) + 1) then .ref t45 else (fun x => if x = ((1 + 1) + 1) then .ref t42 else (fun x => if x = (1 + 1) then .ref t39 else (fun x => if x = 1 then .ref t36 else (fun x => if x = 0 then .ref t26 else .null) x) x) x) x), A154.1, A154.2.1, A154.2.2.1, fun _ => A154.2.2.2.2.1, by decide, by decide, z3, z4⟩
            exact tail _ T154 T154.heap _ _ (X154.more (by decide) (by decide)) rfl hS hk167 hZ hown c166 (Fr.app (Fr.app (Fr.app (Fr.app (Fr.app (Fr.app (Fr.app (Fr.app (Fr.app (Fr.app (Fr.app N24 M26) M36) M39) M42) M45) M58) M137) M142) M146) M150) M154) LSz f168 f169
          · refine own_viaW (F' := T150.setTop (mkF m 194 #[.val (.int p0), .val (.int p1), .val (.int p2), .val (.int (n12).toInt32), .val (.int att), .val (.ref a14), .val (.ref t26), .val (.ref t36), .val (.ref t39), .val (.ref t42), .val (.ref t45), .val (.ref a53), .unset, .unset, .unset, .unset, .unset] [])) (fun tz kz => XS.icmpYes X150.here hx rfl (pc0 := 183) (pc' := 194) rfl (hb hby at_183) rfl (XT.ii_le_t (fun z => absurd ((own_ltI (i := 4) (j := n12) rfl rfl (by decide) (by omega)).mp z) q151)) (by decide) (by decide) kz) ?_
            have f170 := (own_Tok.keep hw (own_Tok.keep hw (own_Tok.keep hw (own_Tok.keep hw f135 K137 (allS (Or.inl E58) all0)) K142 (allS (Or.inl A137.1) (allS (Or.inr (Or.inr (by obtain ⟨cl, A⟩ := A137.2.2.2.2.1.arr; exact ⟨cl, _, A, by decide⟩))) all0))) K146 (allS (Or.inl A142.1) (allS (Or.inr (Or.inr (by obtain ⟨cl, A⟩ := A142.2.2.2.2.1.arr; exact ⟨cl, _, A, by decide⟩))) all0))) K150 (allS (Or.inl A146.1) (allS (Or.inr (Or.inr (by obtain ⟨cl, A⟩ := A146.2.2.2.2.1.arr; exact ⟨cl, _, A, by decide⟩))) all0)))
            have f171 := (own_Tok.keep hw (own_Tok.keep hw (own_Tok.keep hw f141 K142 (allS (Or.inl A137.1) (allS (Or.inr (Or.inr (by obtain ⟨cl, A⟩ := A137.2.2.2.2.1.arr; exact ⟨cl, _, A, by decide⟩))) all0))) K146 (allS (Or.inl A142.1) (allS (Or.inr (Or.inr (by obtain ⟨cl, A⟩ := A142.2.2.2.2.1.arr; exact ⟨cl, _, A, by decide⟩))) all0))) K150 (allS (Or.inl A146.1) (allS (Or.inr (Or.inr (by obtain ⟨cl, A⟩ := A146.2.2.2.2.1.arr; exact ⟨cl, _, A, by decide⟩))) all0)))
            have f172 := (own_Tok.keep hw (own_Tok.keep hw f145 K146 (allS (Or.inl A142.1) (allS (Or.inr (Or.inr (by obtain ⟨cl, A⟩ := A142.2.2.2.2.1.arr; exact ⟨cl, _, A, by decide⟩))) all0))) K150 (allS (Or.inl A146.1) (allS (Or.inr (Or.inr (by obtain ⟨cl, A⟩ := A146.2.2.2.2.1.arr; exact ⟨cl, _, A, by decide⟩))) all0)))
            have f173 := (own_Tok.keep hw f149 K150 (allS (Or.inl A146.1) (allS (Or.inr (Or.inr (by obtain ⟨cl, A⟩ := A146.2.2.2.2.1.arr; exact ⟨cl, _, A, by decide⟩))) all0)))
            have f174 := (own_Tok.keep hw (own_Tok.keep hw (own_Tok.keep hw (own_Tok.keep hw (own_Tok.keep hw (own_Tok.ext hw A45 E53) K58 (allS (Or.inl A53) all0)) K137 (allS (Or.inl E58) all0)) K142 (allS (Or.inl A137.1) (allS (Or.inr (Or.inr (by obtain ⟨cl, A⟩ := A137.2.2.2.2.1.arr; exact ⟨cl, _, A, by decide⟩))) all0))) K146 (allS (Or.inl A142.1) (allS (Or.inr (Or.inr (by obtain ⟨cl, A⟩ := A142.2.2.2.2.1.arr; exact ⟨cl, _, A, by decide⟩))) all0))) K150 (allS (Or.inl A146.1) (allS (Or.inr (Or.inr (by obtain ⟨cl, A⟩ := A146.2.2.2.2.1.arr; exact ⟨cl, _, A, by decide⟩))) all0)))
            have c175 := c45.trans (CHr.ext E53 c45.1)
            have c176 := c175.trans (CHr.keep K58 (sfS (Safe.exa hZ.alike A53 (by decide) (by decide)) sf0) c175.1)
            have c177 := c176.trans (CHr.keep K137 (sfS (Safe.exa hZ.alike E58 (by decide) (by decide)) sf0) c176.1)
            have c178 := c177.trans (CHr.keep K142 (sfS (Safe.exa hZ.alike A137.1 (by decide) (by decide)) (sfS (A137.2.2.2.2.1.safe hZ.alike) sf0)) c177.1)
            have c179 := c178.trans (CHr.keep K146 (sfS (Safe.exa hZ.alike A142.1 (by decide) (by decide)) (sfS (A142.2.2.2.2.1.safe hZ.alike) sf0)) c178.1)
            have c180 := c179.trans (CHr.keep K150 (sfS (Safe.exa hZ.alike A146.1 (by decide) (by decide)) (sfS (A146.2.2.2.2.1.safe hZ.alike) sf0)) c179.1)
            have hk181 := (((((((Keep.refl T45.heap [a53, ea137]).ext E53).trans K58 (allS (Or.inl (List.mem_of_getElem? (i := 0) rfl)) all0)).trans K137 (allS (Or.inl (List.mem_of_getElem? (i := 0) rfl)) all0)).trans K142 (allS (Or.inl (List.mem_of_getElem? (i := 0) rfl)) (allS (Or.inl (List.mem_of_getElem? (i := 1) rfl)) all0))).trans K146 (allS (Or.inl (List.mem_of_getElem? (i := 0) rfl)) (allS (Or.inl (List.mem_of_getElem? (i := 1) rfl)) all0))).trans K150 (allS (Or.inl (List.mem_of_getElem? (i := 0) rfl)) (allS (Or.inl (List.mem_of_getElem? (i := 1) rfl)) all0))).1
            have f182 := (f148.keep K150 (allS G53 (allS G137 all0)))
            have f183 := ((((((f51.ext E53).keep K58 (ninS (own_ne (by omega)) nin0)).keep K137 (ninS (own_ne (by omega)) nin0)).keep K142 (ninS (own_ne (by omega)) (ninS (own_ne (by omega)) nin0))).keep K146 (ninS (own_ne (by omega)) (ninS (own_ne (by omega)) nin0))).keep K150 (ninS (own_ne (by omega)) (ninS (own_ne (by omega)) nin0)))
            have hnn : n12 = 4 := by omega
            have z3 : ∀ q, q < 4 → ((fun x => if x = ((1 + 1) + 1) then .ref t42 else (fun x => if x = (1 + 1) then .ref t39 else (fun x => if x = 1 then .ref t36 else (fun x => if x = 0 then .ref t26 else .null) x) x) x) : Nat → Value) q = Value.ref ((fun i => if i = 0 then t26 else if i = 1 then t36 else if i = 2 then t39 else if i = 3 then t42 else t45) q) := fun q hi => by
              rcases own_x5 (show q < 5 by omega) with rfl | rfl | rfl | rfl | rfl
              · rfl
              · rfl
              · rfl
              · rfl
              · exact absurd hi (by decide)
            have z4 : ∀ q, q < 4 → own_Tok Z T150.heap ((fun i => if i = 0 then t26 else if i = 1 then t36 else if i = 2 then t39 else if i = 3 then t42 else t45) q) (own_kd kS kW (y24 q)) (own_ch (y24 q)) := fun q hi => by
              rcases own_x5 (show q < 5 by omega) with rfl | rfl | rfl | rfl | rfl
              · exact f170
              · exact f171
              · exact f172
              · exact f173
              · exact absurd hi (by decide)
            have LSz : own_LS Z T150.heap a53 n12 (fun i => if i = 0 then t26 else if i = 1 then t36 else if i = 2 then t39 else if i = 3 then t42 else t45) (fun i => own_kd kS kW (y24 i)) (fun i => own_ch (y24 i)) := by rw [hnn]; exact ⟨ea137, 10, (fun x => if x = ((1 + 1) + 1) then .ref t42 else (fun x => if x = (1 + 1) then .ref t39 else (fun x => if x = 1 then .ref t36 else (fun x => if x = 0 then .ref t26 else .null) x) x) x), A150.1, A150.2.1, A150.2.2.1, fun _ => A150.2.2.2.2.1, by decide, by decide, z3, z4⟩
            exact tail _ T150 T150.heap _ _ (X150.more (by decide) (by decide)) rfl hS hk181 hZ hown c180 (Fr.app (Fr.app (Fr.app (Fr.app (Fr.app (Fr.app (Fr.app (Fr.app (Fr.app (Fr.app N24 M26) M36) M39) M42) M45) M58) M137) M142) M146) M150) LSz f182 f183
        · refine own_viaW (F' := T146.setTop (mkF m 181 #[.val (.int p0), .val (.int p1), .val (.int p2), .val (.int (n12).toInt32), .val (.int att), .val (.ref a14), .val (.ref t26), .val (.ref t36), .val (.ref t39), .val (.ref t42), .val (.ref t45), .val (.ref a53), .unset, .unset, .unset, .unset, .unset] [])) (fun tz kz => XS.icmpYes X146.here hx rfl (pc0 := 170) (pc' := 181) rfl (hb hby at_170) rfl (XT.ii_le_t (fun z => absurd ((own_ltI (i := 3) (j := n12) rfl rfl (by decide) (by omega)).mp z) q147)) (by decide) (by decide) kz) ?_
          refine own_viaW (F' := T146.setTop (mkF m 182 #[.val (.int p0), .val (.int p1), .val (.int p2), .val (.int (n12).toInt32), .val (.int att), .val (.ref a14), .val (.ref t26), .val (.ref t36), .val (.ref t39), .val (.ref t42), .val (.ref t45), .val (.ref a53), .unset, .unset, .unset, .unset, .unset] [(.int (n12).toInt32)])) (fun tz kz => XS.iloadN X146.here hx rfl (hb hby at_181) rfl kz) ?_
          refine own_viaW (F' := T146.setTop (mkF m 183 #[.val (.int p0), .val (.int p1), .val (.int p2), .val (.int (n12).toInt32), .val (.int att), .val (.ref a14), .val (.ref t26), .val (.ref t36), .val (.ref t39), .val (.ref t42), .val (.ref t45), .val (.ref a53), .unset, .unset, .unset, .unset, .unset] [(.int (4 : Int32)), (.int (n12).toInt32)])) (fun tz kz => XT.iconstV X146.here hx rfl (4 : Int32) (hb hby at_182) (by decide) kz) ?_
          refine own_viaW (F' := T146.setTop (mkF m 194 #[.val (.int p0), .val (.int p1), .val (.int p2), .val (.int (n12).toInt32), .val (.int att), .val (.ref a14), .val (.ref t26), .val (.ref t36), .val (.ref t39), .val (.ref t42), .val (.ref t45), .val (.ref a53), .unset, .unset, .unset, .unset, .unset] [])) (fun tz kz => XS.icmpYes X146.here hx rfl (pc0 := 183) (pc' := 194) rfl (hb hby at_183) rfl (XT.ii_le_t (fun z => absurd ((own_ltI (i := 4) (j := n12) rfl rfl (by decide) (by omega)).mp z) (by omega))) (by decide) (by decide) kz) ?_
          have f184 := (own_Tok.keep hw (own_Tok.keep hw (own_Tok.keep hw f135 K137 (allS (Or.inl E58) all0)) K142 (allS (Or.inl A137.1) (allS (Or.inr (Or.inr (by obtain ⟨cl, A⟩ := A137.2.2.2.2.1.arr; exact ⟨cl, _, A, by decide⟩))) all0))) K146 (allS (Or.inl A142.1) (allS (Or.inr (Or.inr (by obtain ⟨cl, A⟩ := A142.2.2.2.2.1.arr; exact ⟨cl, _, A, by decide⟩))) all0)))
          have f185 := (own_Tok.keep hw (own_Tok.keep hw f141 K142 (allS (Or.inl A137.1) (allS (Or.inr (Or.inr (by obtain ⟨cl, A⟩ := A137.2.2.2.2.1.arr; exact ⟨cl, _, A, by decide⟩))) all0))) K146 (allS (Or.inl A142.1) (allS (Or.inr (Or.inr (by obtain ⟨cl, A⟩ := A142.2.2.2.2.1.arr; exact ⟨cl, _, A, by decide⟩))) all0)))
          have f186 := (own_Tok.keep hw f145 K146 (allS (Or.inl A142.1) (allS (Or.inr (Or.inr (by obtain ⟨cl, A⟩ := A142.2.2.2.2.1.arr; exact ⟨cl, _, A, by decide⟩))) all0)))
          have f187 := (own_Tok.keep hw (own_Tok.keep hw (own_Tok.keep hw (own_Tok.keep hw (own_Tok.ext hw f50 E53) K58 (allS (Or.inl A53) all0)) K137 (allS (Or.inl E58) all0)) K142 (allS (Or.inl A137.1) (allS (Or.inr (Or.inr (by obtain ⟨cl, A⟩ := A137.2.2.2.2.1.arr; exact ⟨cl, _, A, by decide⟩))) all0))) K146 (allS (Or.inl A142.1) (allS (Or.inr (Or.inr (by obtain ⟨cl, A⟩ := A142.2.2.2.2.1.arr; exact ⟨cl, _, A, by decide⟩))) all0)))
          have f188 := (own_Tok.keep hw (own_Tok.keep hw (own_Tok.keep hw (own_Tok.keep hw (own_Tok.ext hw A45 E53) K58 (allS (Or.inl A53) all0)) K137 (allS (Or.inl E58) all0)) K142 (allS (Or.inl A137.1) (allS (Or.inr (Or.inr (by obtain ⟨cl, A⟩ := A137.2.2.2.2.1.arr; exact ⟨cl, _, A, by decide⟩))) all0))) K146 (allS (Or.inl A142.1) (allS (Or.inr (Or.inr (by obtain ⟨cl, A⟩ := A142.2.2.2.2.1.arr; exact ⟨cl, _, A, by decide⟩))) all0)))
          have c189 := c45.trans (CHr.ext E53 c45.1)
          have c190 := c189.trans (CHr.keep K58 (sfS (Safe.exa hZ.alike A53 (by decide) (by decide)) sf0) c189.1)
          have c191 := c190.trans (CHr.keep K137 (sfS (Safe.exa hZ.alike E58 (by decide) (by decide)) sf0) c190.1)
          have c192 := c191.trans (CHr.keep K142 (sfS (Safe.exa hZ.alike A137.1 (by decide) (by decide)) (sfS (A137.2.2.2.2.1.safe hZ.alike) sf0)) c191.1)
          have c193 := c192.trans (CHr.keep K146 (sfS (Safe.exa hZ.alike A142.1 (by decide) (by decide)) (sfS (A142.2.2.2.2.1.safe hZ.alike) sf0)) c192.1)
          have hk194 := ((((((Keep.refl T45.heap [a53, ea137]).ext E53).trans K58 (allS (Or.inl (List.mem_of_getElem? (i := 0) rfl)) all0)).trans K137 (allS (Or.inl (List.mem_of_getElem? (i := 0) rfl)) all0)).trans K142 (allS (Or.inl (List.mem_of_getElem? (i := 0) rfl)) (allS (Or.inl (List.mem_of_getElem? (i := 1) rfl)) all0))).trans K146 (allS (Or.inl (List.mem_of_getElem? (i := 0) rfl)) (allS (Or.inl (List.mem_of_getElem? (i := 1) rfl)) all0))).1
          have f195 := (f144.keep K146 (allS G53 (allS G137 all0)))
          have f196 := (((((f51.ext E53).keep K58 (ninS (own_ne (by omega)) nin0)).keep K137 (ninS (own_ne (by omega)) nin0)).keep K142 (ninS (own_ne (by omega)) (ninS (own_ne (by omega)) nin0))).keep K146 (ninS (own_ne (by omega)) (ninS (own_ne (by omega)) nin0)))
          have hnn : n12 = 3 := by omega
          have z3 : ∀ q, q < 3 → ((fun x => if x = (1 + 1) then .ref t39 else (fun x => if x = 1 then .ref t36 else (fun x => if x = 0 then .ref t26 else .null) x) x) : Nat → Value) q = Value.ref ((fun i => if i = 0 then t26 else if i = 1 then t36 else if i = 2 then t39 else if i = 3 then t42 else t45) q) := fun q hi => by
            rcases own_x5 (show q < 5 by omega) with rfl | rfl | rfl | rfl | rfl
            · rfl
            · rfl
            · rfl
            · exact absurd hi (by decide)
            · exact absurd hi (by decide)
          have z4 : ∀ q, q < 3 → own_Tok Z T146.heap ((fun i => if i = 0 then t26 else if i = 1 then t36 else if i = 2 then t39 else if i = 3 then t42 else t45) q) (own_kd kS kW (y24 q)) (own_ch (y24 q)) := fun q hi => by
            rcases own_x5 (show q < 5 by omega) with rfl | rfl | rfl | rfl | rfl
            · exact f184
            · exact f185
            · exact f186
            · exact absurd hi (by decide)
            · exact absurd hi (by decide)
          have LSz : own_LS Z T146.heap a53 n12 (fun i => if i = 0 then t26 else if i = 1 then t36 else if i = 2 then t39 else if i = 3 then t42 else t45) (fun i => own_kd kS kW (y24 i)) (fun i => own_ch (y24 i)) := by rw [hnn]; exact ⟨ea137, 10, (fun x => if x = (1 + 1) then .ref t39 else (fun x => if x = 1 then .ref t36 else (fun x => if x = 0 then .ref t26 else .null) x) x), A146.1, A146.2.1, A146.2.2.1, fun _ => A146.2.2.2.2.1, by decide, by decide, z3, z4⟩
          exact tail _ T146 T146.heap _ _ (X146.more (by decide) (by decide)) rfl hS hk194 hZ hown c193 (Fr.app (Fr.app (Fr.app (Fr.app (Fr.app (Fr.app (Fr.app (Fr.app (Fr.app N24 M26) M36) M39) M42) M45) M58) M137) M142) M146) LSz f195 f196
      · refine own_viaW (F' := T142.setTop (mkF m 168 #[.val (.int p0), .val (.int p1), .val (.int p2), .val (.int (n12).toInt32), .val (.int att), .val (.ref a14), .val (.ref t26), .val (.ref t36), .val (.ref t39), .val (.ref t42), .val (.ref t45), .val (.ref a53), .unset, .unset, .unset, .unset, .unset] [])) (fun tz kz => XS.icmpYes X142.here hx rfl (pc0 := 157) (pc' := 168) rfl (hb hby at_157) rfl (XT.ii_le_t (fun z => absurd ((own_ltI (i := 2) (j := n12) rfl rfl (by decide) (by omega)).mp z) q143)) (by decide) (by decide) kz) ?_
        refine own_viaW (F' := T142.setTop (mkF m 169 #[.val (.int p0), .val (.int p1), .val (.int p2), .val (.int (n12).toInt32), .val (.int att), .val (.ref a14), .val (.ref t26), .val (.ref t36), .val (.ref t39), .val (.ref t42), .val (.ref t45), .val (.ref a53), .unset, .unset, .unset, .unset, .unset] [(.int (n12).toInt32)])) (fun tz kz => XS.iloadN X142.here hx rfl (hb hby at_168) rfl kz) ?_
        refine own_viaW (F' := T142.setTop (mkF m 170 #[.val (.int p0), .val (.int p1), .val (.int p2), .val (.int (n12).toInt32), .val (.int att), .val (.ref a14), .val (.ref t26), .val (.ref t36), .val (.ref t39), .val (.ref t42), .val (.ref t45), .val (.ref a53), .unset, .unset, .unset, .unset, .unset] [(.int (3 : Int32)), (.int (n12).toInt32)])) (fun tz kz => XT.iconstV X142.here hx rfl (3 : Int32) (hb hby at_169) (by decide) kz) ?_
        refine own_viaW (F' := T142.setTop (mkF m 181 #[.val (.int p0), .val (.int p1), .val (.int p2), .val (.int (n12).toInt32), .val (.int att), .val (.ref a14), .val (.ref t26), .val (.ref t36), .val (.ref t39), .val (.ref t42), .val (.ref t45), .val (.ref a53), .unset, .unset, .unset, .unset, .unset] [])) (fun tz kz => XS.icmpYes X142.here hx rfl (pc0 := 170) (pc' := 181) rfl (hb hby at_170) rfl (XT.ii_le_t (fun z => absurd ((own_ltI (i := 3) (j := n12) rfl rfl (by decide) (by omega)).mp z) (by omega))) (by decide) (by decide) kz) ?_
        refine own_viaW (F' := T142.setTop (mkF m 182 #[.val (.int p0), .val (.int p1), .val (.int p2), .val (.int (n12).toInt32), .val (.int att), .val (.ref a14), .val (.ref t26), .val (.ref t36), .val (.ref t39), .val (.ref t42), .val (.ref t45), .val (.ref a53), .unset, .unset, .unset, .unset, .unset] [(.int (n12).toInt32)])) (fun tz kz => XS.iloadN X142.here hx rfl (hb hby at_181) rfl kz) ?_
        refine own_viaW (F' := T142.setTop (mkF m 183 #[.val (.int p0), .val (.int p1), .val (.int p2), .val (.int (n12).toInt32), .val (.int att), .val (.ref a14), .val (.ref t26), .val (.ref t36), .val (.ref t39), .val (.ref t42), .val (.ref t45), .val (.ref a53), .unset, .unset, .unset, .unset, .unset] [(.int (4 : Int32)), (.int (n12).toInt32)])) (fun tz kz => XT.iconstV X142.here hx rfl (4 : Int32) (hb hby at_182) (by decide) kz) ?_
        refine own_viaW (F' := T142.setTop (mkF m 194 #[.val (.int p0), .val (.int p1), .val (.int p2), .val (.int (n12).toInt32), .val (.int att), .val (.ref a14), .val (.ref t26), .val (.ref t36), .val (.ref t39), .val (.ref t42), .val (.ref t45), .val (.ref a53), .unset, .unset, .unset, .unset, .unset] [])) (fun tz kz => XS.icmpYes X142.here hx rfl (pc0 := 183) (pc' := 194) rfl (hb hby at_183) rfl (XT.ii_le_t (fun z => absurd ((own_ltI (i := 4) (j := n12) rfl rfl (by decide) (by omega)).mp z) (by omega))) (by decide) (by decide) kz) ?_
        have f197 := (own_Tok.keep hw (own_Tok.keep hw f135 K137 (allS (Or.inl E58) all0)) K142 (allS (Or.inl A137.1) (allS (Or.inr (Or.inr (by obtain ⟨cl, A⟩ := A137.2.2.2.2.1.arr; exact ⟨cl, _, A, by decide⟩))) all0)))
        have f198 := (own_Tok.keep hw f141 K142 (allS (Or.inl A137.1) (allS (Or.inr (Or.inr (by obtain ⟨cl, A⟩ := A137.2.2.2.2.1.arr; exact ⟨cl, _, A, by decide⟩))) all0)))
        have f199 := (own_Tok.keep hw (own_Tok.keep hw (own_Tok.keep hw (own_Tok.ext hw f49 E53) K58 (allS (Or.inl A53) all0)) K137 (allS (Or.inl E58) all0)) K142 (allS (Or.inl A137.1) (allS (Or.inr (Or.inr (by obtain ⟨cl, A⟩ := A137.2.2.2.2.1.arr; exact ⟨cl, _, A, by decide⟩))) all0)))
        have f200 := (own_Tok.keep hw (own_Tok.keep hw (own_Tok.keep hw (own_Tok.ext hw f50 E53) K58 (allS (Or.inl A53) all0)) K137 (allS (Or.inl E58) all0)) K142 (allS (Or.inl A137.1) (allS (Or.inr (Or.inr (by obtain ⟨cl, A⟩ := A137.2.2.2.2.1.arr; exact ⟨cl, _, A, by decide⟩))) all0)))
        have f201 := (own_Tok.keep hw (own_Tok.keep hw (own_Tok.keep hw (own_Tok.ext hw A45 E53) K58 (allS (Or.inl A53) all0)) K137 (allS (Or.inl E58) all0)) K142 (allS (Or.inl A137.1) (allS (Or.inr (Or.inr (by obtain ⟨cl, A⟩ := A137.2.2.2.2.1.arr; exact ⟨cl, _, A, by decide⟩))) all0)))
        have c202 := c45.trans (CHr.ext E53 c45.1)
        have c203 := c202.trans (CHr.keep K58 (sfS (Safe.exa hZ.alike A53 (by decide) (by decide)) sf0) c202.1)
        have c204 := c203.trans (CHr.keep K137 (sfS (Safe.exa hZ.alike E58 (by decide) (by decide)) sf0) c203.1)
        have c205 := c204.trans (CHr.keep K142 (sfS (Safe.exa hZ.alike A137.1 (by decide) (by decide)) (sfS (A137.2.2.2.2.1.safe hZ.alike) sf0)) c204.1)
        have hk206 := (((((Keep.refl T45.heap [a53, ea137]).ext E53).trans K58 (allS (Or.inl (List.mem_of_getElem? (i := 0) rfl)) all0)).trans K137 (allS (Or.inl (List.mem_of_getElem? (i := 0) rfl)) all0)).trans K142 (allS (Or.inl (List.mem_of_getElem? (i := 0) rfl)) (allS (Or.inl (List.mem_of_getElem? (i := 1) rfl)) all0))).1
        have f207 := (f140.keep K142 (allS G53 (allS G137 all0)))
        have f208 := ((((f51.ext E53).keep K58 (ninS (own_ne (by omega)) nin0)).keep K137 (ninS (own_ne (by omega)) nin0)).keep K142 (ninS (own_ne (by omega)) (ninS (own_ne (by omega)) nin0)))
        have hnn : n12 = 2 := by omega
        have z3 : ∀ q, q < 2 → ((fun x => if x = 1 then .ref t36 else (fun x => if x = 0 then .ref t26 else .null) x) : Nat → Value) q = Value.ref ((fun i => if i = 0 then t26 else if i = 1 then t36 else if i = 2 then t39 else if i = 3 then t42 else t45) q) := fun q hi => by
          rcases own_x5 (show q < 5 by omega) with rfl | rfl | rfl | rfl | rfl
          · rfl
          · rfl
          · exact absurd hi (by decide)
          · exact absurd hi (by decide)
          · exact absurd hi (by decide)
        have z4 : ∀ q, q < 2 → own_Tok Z T142.heap ((fun i => if i = 0 then t26 else if i = 1 then t36 else if i = 2 then t39 else if i = 3 then t42 else t45) q) (own_kd kS kW (y24 q)) (own_ch (y24 q)) := fun q hi => by
          rcases own_x5 (show q < 5 by omega) with rfl | rfl | rfl | rfl | rfl
          · exact f197
          · exact f198
          · exact absurd hi (by decide)
          · exact absurd hi (by decide)
          · exact absurd hi (by decide)
        have LSz : own_LS Z T142.heap a53 n12 (fun i => if i = 0 then t26 else if i = 1 then t36 else if i = 2 then t39 else if i = 3 then t42 else t45) (fun i => own_kd kS kW (y24 i)) (fun i => own_ch (y24 i)) := by rw [hnn]; exact ⟨ea137, 10, (fun x => if x = 1 then .ref t36 else (fun x => if x = 0 then .ref t26 else .null) x), A142.1, A142.2.1, A142.2.2.1, fun _ => A142.2.2.2.2.1, by decide, by decide, z3, z4⟩
        exact tail _ T142 T142.heap _ _ (X142.more (by decide) (by decide)) rfl hS hk206 hZ hown c205 (Fr.app (Fr.app (Fr.app (Fr.app (Fr.app (Fr.app (Fr.app (Fr.app N24 M26) M36) M39) M42) M45) M58) M137) M142) LSz f207 f208
    · refine own_viaW (F' := T137.setTop (mkF m 155 #[.val (.int p0), .val (.int p1), .val (.int p2), .val (.int (n12).toInt32), .val (.int att), .val (.ref a14), .val (.ref t26), .val (.ref t36), .val (.ref t39), .val (.ref t42), .val (.ref t45), .val (.ref a53), .unset, .unset, .unset, .unset, .unset] [])) (fun tz kz => XS.icmpYes X137.here hx rfl (pc0 := 144) (pc' := 155) rfl (hb hby at_144) rfl (XT.ii_le_t (fun z => absurd ((own_ltI (i := 1) (j := n12) rfl rfl (by decide) (by omega)).mp z) q139)) (by decide) (by decide) kz) ?_
      refine own_viaW (F' := T137.setTop (mkF m 156 #[.val (.int p0), .val (.int p1), .val (.int p2), .val (.int (n12).toInt32), .val (.int att), .val (.ref a14), .val (.ref t26), .val (.ref t36), .val (.ref t39), .val (.ref t42), .val (.ref t45), .val (.ref a53), .unset, .unset, .unset, .unset, .unset] [(.int (n12).toInt32)])) (fun tz kz => XS.iloadN X137.here hx rfl (hb hby at_155) rfl kz) ?_
      refine own_viaW (F' := T137.setTop (mkF m 157 #[.val (.int p0), .val (.int p1), .val (.int p2), .val (.int (n12).toInt32), .val (.int att), .val (.ref a14), .val (.ref t26), .val (.ref t36), .val (.ref t39), .val (.ref t42), .val (.ref t45), .val (.ref a53), .unset, .unset, .unset, .unset, .unset] [(.int (2 : Int32)), (.int (n12).toInt32)])) (fun tz kz => XT.iconstV X137.here hx rfl (2 : Int32) (hb hby at_156) (by decide) kz) ?_
      refine own_viaW (F' := T137.setTop (mkF m 168 #[.val (.int p0), .val (.int p1), .val (.int p2), .val (.int (n12).toInt32), .val (.int att), .val (.ref a14), .val (.ref t26), .val (.ref t36), .val (.ref t39), .val (.ref t42), .val (.ref t45), .val (.ref a53), .unset, .unset, .unset, .unset, .unset] [])) (fun tz kz => XS.icmpYes X137.here hx rfl (pc0 := 157) (pc' := 168) rfl (hb hby at_157) rfl (XT.ii_le_t (fun z => absurd ((own_ltI (i := 2) (j := n12) rfl rfl (by decide) (by omega)).mp z) (by omega))) (by decide) (by decide) kz) ?_
      refine own_viaW (F' := T137.setTop (mkF m 169 #[.val (.int p0), .val (.int p1), .val (.int p2), .val (.int (n12).toInt32), .val (.int att), .val (.ref a14), .val (.ref t26), .val (.ref t36), .val (.ref t39), .val (.ref t42), .val (.ref t45), .val (.ref a53), .unset, .unset, .unset, .unset, .unset] [(.int (n12).toInt32)])) (fun tz kz => XS.iloadN X137.here hx rfl (hb hby at_168) rfl kz) ?_
      refine own_viaW (F' := T137.setTop (mkF m 170 #[.val (.int p0), .val (.int p1), .val (.int p2), .val (.int (n12).toInt32), .val (.int att), .val (.ref a14), .val (.ref t26), .val (.ref t36), .val (.ref t39), .val (.ref t42), .val (.ref t45), .val (.ref a53), .unset, .unset, .unset, .unset, .unset] [(.int (3 : Int32)), (.int (n12).toInt32)])) (fun tz kz => XT.iconstV X137.here hx rfl (3 : Int32) (hb hby at_169) (by decide) kz) ?_
      refine own_viaW (F' := T137.setTop (mkF m 181 #[.val (.int p0), .val (.int p1), .val (.int p2), .val (.int (n12).toInt32), .val (.int att), .val (.ref a14), .val (.ref t26), .val (.ref t36), .val (.ref t39), .val (.ref t42), .val (.ref t45), .val (.ref a53), .unset, .unset, .unset, .unset, .unset] [])) (fun tz kz => XS.icmpYes X137.here hx rfl (pc0 := 170) (pc' := 181) rfl (hb hby at_170) rfl (XT.ii_le_t (fun z => absurd ((own_ltI (i := 3) (j := n12) rfl rfl (by decide) (by omega)).mp z) (by omega))) (by decide) (by decide) kz) ?_
      refine own_viaW (F' := T137.setTop (mkF m 182 #[.val (.int p0), .val (.int p1), .val (.int p2), .val (.int (n12).toInt32), .val (.int att), .val (.ref a14), .val (.ref t26), .val (.ref t36), .val (.ref t39), .val (.ref t42), .val (.ref t45), .val (.ref a53), .unset, .unset, .unset, .unset, .unset] [(.int (n12).toInt32)])) (fun tz kz => XS.iloadN X137.here hx rfl (hb hby at_181) rfl kz) ?_
      refine own_viaW (F' := T137.setTop (mkF m 183 #[.val (.int p0), .val (.int p1), .val (.int p2), .val (.int (n12).toInt32), .val (.int att), .val (.ref a14), .val (.ref t26), .val (.ref t36), .val (.ref t39), .val (.ref t42), .val (.ref t45), .val (.ref a53), .unset, .unset, .unset, .unset, .unset] [(.int (4 : Int32)), (.int (n12).toInt32)])) (fun tz kz => XT.iconstV X137.here hx rfl (4 : Int32) (hb hby at_182) (by decide) kz) ?_
      refine own_viaW (F' := T137.setTop (mkF m 194 #[.val (.int p0), .val (.int p1), .val (.int p2), .val (.int (n12).toInt32), .val (.int att), .val (.ref a14), .val (.ref t26), .val (.ref t36), .val (.ref t39), .val (.ref t42), .val (.ref t45), .val (.ref a53), .unset, .unset, .unset, .unset, .unset] [])) (fun tz kz => XS.icmpYes X137.here hx rfl (pc0 := 183) (pc' := 194) rfl (hb hby at_183) rfl (XT.ii_le_t (fun z => absurd ((own_ltI (i := 4) (j := n12) rfl rfl (by decide) (by omega)).mp z) (by omega))) (by decide) (by decide) kz) ?_
      have f209 := (own_Tok.keep hw f135 K137 (allS (Or.inl E58) all0))
      have f210 := (own_Tok.keep hw (own_Tok.keep hw (own_Tok.ext hw f48 E53) K58 (allS (Or.inl A53) all0)) K137 (allS (Or.inl E58) all0))
      have f211 := (own_Tok.keep hw (own_Tok.keep hw (own_Tok.ext hw f49 E53) K58 (allS (Or.inl A53) all0)) K137 (allS (Or.inl E58) all0))
      have f212 := (own_Tok.keep hw (own_Tok.keep hw (own_Tok.ext hw f50 E53) K58 (allS (Or.inl A53) all0)) K137 (allS (Or.inl E58) all0))
      have f213 := (own_Tok.keep hw (own_Tok.keep hw (own_Tok.ext hw A45 E53) K58 (allS (Or.inl A53) all0)) K137 (allS (Or.inl E58) all0))
      have c214 := c45.trans (CHr.ext E53 c45.1)
      have c215 := c214.trans (CHr.keep K58 (sfS (Safe.exa hZ.alike A53 (by decide) (by decide)) sf0) c214.1)
      have c216 := c215.trans (CHr.keep K137 (sfS (Safe.exa hZ.alike E58 (by decide) (by decide)) sf0) c215.1)
      have hk217 := ((((Keep.refl T45.heap [a53]).ext E53).trans K58 (allS (Or.inl (List.mem_of_getElem? (i := 0) rfl)) all0)).trans K137 (allS (Or.inl (List.mem_of_getElem? (i := 0) rfl)) all0)).1
      have f218 := (f134.keep K137 (allS G53 all0))
      have f219 := (((f51.ext E53).keep K58 (ninS (own_ne (by omega)) nin0)).keep K137 (ninS (own_ne (by omega)) nin0))
      have hnn : n12 = 1 := by omega
      have z3 : ∀ q, q < 1 → ((fun x => if x = 0 then .ref t26 else .null) : Nat → Value) q = Value.ref ((fun i => if i = 0 then t26 else if i = 1 then t36 else if i = 2 then t39 else if i = 3 then t42 else t45) q) := fun q hi => by
        rcases own_x5 (show q < 5 by omega) with rfl | rfl | rfl | rfl | rfl
        · rfl
        · exact absurd hi (by decide)
        · exact absurd hi (by decide)
        · exact absurd hi (by decide)
        · exact absurd hi (by decide)
      have z4 : ∀ q, q < 1 → own_Tok Z T137.heap ((fun i => if i = 0 then t26 else if i = 1 then t36 else if i = 2 then t39 else if i = 3 then t42 else t45) q) (own_kd kS kW (y24 q)) (own_ch (y24 q)) := fun q hi => by
        rcases own_x5 (show q < 5 by omega) with rfl | rfl | rfl | rfl | rfl
        · exact f209
        · exact absurd hi (by decide)
        · exact absurd hi (by decide)
        · exact absurd hi (by decide)
        · exact absurd hi (by decide)
      have LSz : own_LS Z T137.heap a53 n12 (fun i => if i = 0 then t26 else if i = 1 then t36 else if i = 2 then t39 else if i = 3 then t42 else t45) (fun i => own_kd kS kW (y24 i)) (fun i => own_ch (y24 i)) := by rw [hnn]; exact ⟨ea137, 10, (fun x => if x = 0 then .ref t26 else .null), A137.1, A137.2.1, A137.2.2.1, fun _ => A137.2.2.2.2.1, by decide, by decide, z3, z4⟩
      exact tail _ T137 T137.heap _ _ (X137.more (by decide) (by decide)) rfl hS hk217 hZ hown c216 (Fr.app (Fr.app (Fr.app (Fr.app (Fr.app (Fr.app (Fr.app N24 M26) M36) M39) M42) M45) M58) M137) LSz f218 f219
  · refine own_viaW (F' := T58.setTop (mkF m 142 #[.val (.int p0), .val (.int p1), .val (.int p2), .val (.int (n12).toInt32), .val (.int att), .val (.ref a14), .val (.ref t26), .val (.ref t36), .val (.ref t39), .val (.ref t42), .val (.ref t45), .val (.ref a53), .unset, .unset, .unset, .unset, .unset] [])) (fun tz kz => XS.ifYes X58.here hx rfl (pc0 := 131) (pc' := 142) rfl (hb hby at_131) rfl (XT.i0_le_t (fun z => absurd ((own_ltI (i := 0) (j := n12) rfl rfl (by decide) (by omega)).mp z) q133)) (by decide) (by decide) kz) ?_
    refine own_viaW (F' := T58.setTop (mkF m 143 #[.val (.int p0), .val (.int p1), .val (.int p2), .val (.int (n12).toInt32), .val (.int att), .val (.ref a14), .val (.ref t26), .val (.ref t36), .val (.ref t39), .val (.ref t42), .val (.ref t45), .val (.ref a53), .unset, .unset, .unset, .unset, .unset] [(.int (n12).toInt32)])) (fun tz kz => XS.iloadN X58.here hx rfl (hb hby at_142) rfl kz) ?_
    refine own_viaW (F' := T58.setTop (mkF m 144 #[.val (.int p0), .val (.int p1), .val (.int p2), .val (.int (n12).toInt32), .val (.int att), .val (.ref a14), .val (.ref t26), .val (.ref t36), .val (.ref t39), .val (.ref t42), .val (.ref t45), .val (.ref a53), .unset, .unset, .unset, .unset, .unset] [(.int (1 : Int32)), (.int (n12).toInt32)])) (fun tz kz => XT.iconstV X58.here hx rfl (1 : Int32) (hb hby at_143) (by decide) kz) ?_
    refine own_viaW (F' := T58.setTop (mkF m 155 #[.val (.int p0), .val (.int p1), .val (.int p2), .val (.int (n12).toInt32), .val (.int att), .val (.ref a14), .val (.ref t26), .val (.ref t36), .val (.ref t39), .val (.ref t42), .val (.ref t45), .val (.ref a53), .unset, .unset, .unset, .unset, .unset] [])) (fun tz kz => XS.icmpYes X58.here hx rfl (pc0 := 144) (pc' := 155) rfl (hb hby at_144) rfl (XT.ii_le_t (fun z => absurd ((own_ltI (i := 1) (j := n12) rfl rfl (by decide) (by omega)).mp z) (by omega))) (by decide) (by decide) kz) ?_
    refine own_viaW (F' := T58.setTop (mkF m 156 #[.val (.int p0), .val (.int p1), .val (.int p2), .val (.int (n12).toInt32), .val (.int att), .val (.ref a14), .val (.ref t26), .val (.ref t36), .val (.ref t39), .val (.ref t42), .val (.ref t45), .val (.ref a53), .unset, .unset, .unset, .unset, .unset] [(.int (n12).toInt32)])) (fun tz kz => XS.iloadN X58.here hx rfl (hb hby at_155) rfl kz) ?_
    refine own_viaW (F' := T58.setTop (mkF m 157 #[.val (.int p0), .val (.int p1), .val (.int p2), .val (.int (n12).toInt32), .val (.int att), .val (.ref a14), .val (.ref t26), .val (.ref t36), .val (.ref t39), .val (.ref t42), .val (.ref t45), .val (.ref a53), .unset, .unset, .unset, .unset, .unset] [(.int (2 : Int32)), (.int (n12).toInt32)])) (fun tz kz => XT.iconstV X58.here hx rfl (2 : Int32) (hb hby at_156) (by decide) kz) ?_
    refine own_viaW (F' := T58.setTop (mkF m 168 #[.val (.int p0), .val (.int p1), .val (.int p2), .val (.int (n12).toInt32), .val (.int att), .val (.ref a14), .val (.ref t26), .val (.ref t36), .val (.ref t39), .val (.ref t42), .val (.ref t45), .val (.ref a53), .unset, .unset, .unset, .unset, .unset] [])) (fun tz kz => XS.icmpYes X58.here hx rfl (pc0 := 157) (pc' := 168) rfl (hb hby at_157) rfl (XT.ii_le_t (fun z => absurd ((own_ltI (i := 2) (j := n12) rfl rfl (by decide) (by omega)).mp z) (by omega))) (by decide) (by decide) kz) ?_
    refine own_viaW (F' := T58.setTop (mkF m 169 #[.val (.int p0), .val (.int p1), .val (.int p2), .val (.int (n12).toInt32), .val (.int att), .val (.ref a14), .val (.ref t26), .val (.ref t36), .val (.ref t39), .val (.ref t42), .val (.ref t45), .val (.ref a53), .unset, .unset, .unset, .unset, .unset] [(.int (n12).toInt32)])) (fun tz kz => XS.iloadN X58.here hx rfl (hb hby at_168) rfl kz) ?_
    refine own_viaW (F' := T58.setTop (mkF m 170 #[.val (.int p0), .val (.int p1), .val (.int p2), .val (.int (n12).toInt32), .val (.int att), .val (.ref a14), .val (.ref t26), .val (.ref t36), .val (.ref t39), .val (.ref t42), .val (.ref t45), .val (.ref a53), .unset, .unset, .unset, .unset, .unset] [(.int (3 : Int32)), (.int (n12).toInt32)])) (fun tz kz => XT.iconstV X58.here hx rfl (3 : Int32) (hb hby at_169) (by decide) kz) ?_
    refine own_viaW (F' := T58.setTop (mkF m 181 #[.val (.int p0), .val (.int p1), .val (.int p2), .val (.int (n12).toInt32), .val (.int att), .val (.ref a14), .val (.ref t26), .val (.ref t36), .val (.ref t39), .val (.ref t42), .val (.ref t45), .val (.ref a53), .unset, .unset, .unset, .unset, .unset] [])) (fun tz kz => XS.icmpYes X58.here hx rfl (pc0 := 170) (pc' := 181) rfl (hb hby at_170) rfl (XT.ii_le_t (fun z => absurd ((own_ltI (i := 3) (j := n12) rfl rfl (by decide) (by omega)).mp z) (by omega))) (by decide) (by decide) kz) ?_
    refine own_viaW (F' := T58.setTop (mkF m 182 #[.val (.int p0), .val (.int p1), .val (.int p2), .val (.int (n12).toInt32), .val (.int att), .val (.ref a14), .val (.ref t26), .val (.ref t36), .val (.ref t39), .val (.ref t42), .val (.ref t45), .val (.ref a53), .unset, .unset, .unset, .unset, .unset] [(.int (n12).toInt32)])) (fun tz kz => XS.iloadN X58.here hx rfl (hb hby at_181) rfl kz) ?_
    refine own_viaW (F' := T58.setTop (mkF m 183 #[.val (.int p0), .val (.int p1), .val (.int p2), .val (.int (n12).toInt32), .val (.int att), .val (.ref a14), .val (.ref t26), .val (.ref t36), .val (.ref t39), .val (.ref t42), .val (.ref t45), .val (.ref a53), .unset, .unset, .unset, .unset, .unset] [(.int (4 : Int32)), (.int (n12).toInt32)])) (fun tz kz => XT.iconstV X58.here hx rfl (4 : Int32) (hb hby at_182) (by decide) kz) ?_
    refine own_viaW (F' := T58.setTop (mkF m 194 #[.val (.int p0), .val (.int p1), .val (.int p2), .val (.int (n12).toInt32), .val (.int att), .val (.ref a14), .val (.ref t26), .val (.ref t36), .val (.ref t39), .val (.ref t42), .val (.ref t45), .val (.ref a53), .unset, .unset, .unset, .unset, .unset] [])) (fun tz kz => XS.icmpYes X58.here hx rfl (pc0 := 183) (pc' := 194) rfl (hb hby at_183) rfl (XT.ii_le_t (fun z => absurd ((own_ltI (i := 4) (j := n12) rfl rfl (by decide) (by omega)).mp z) (by omega))) (by decide) (by decide) kz) ?_
    have f220 := (own_Tok.keep hw (own_Tok.ext hw f47 E53) K58 (allS (Or.inl A53) all0))
    have f221 := (own_Tok.keep hw (own_Tok.ext hw f48 E53) K58 (allS (Or.inl A53) all0))
    have f222 := (own_Tok.keep hw (own_Tok.ext hw f49 E53) K58 (allS (Or.inl A53) all0))
    have f223 := (own_Tok.keep hw (own_Tok.ext hw f50 E53) K58 (allS (Or.inl A53) all0))
    have f224 := (own_Tok.keep hw (own_Tok.ext hw A45 E53) K58 (allS (Or.inl A53) all0))
    have c225 := c45.trans (CHr.ext E53 c45.1)
    have c226 := c225.trans (CHr.keep K58 (sfS (Safe.exa hZ.alike A53 (by decide) (by decide)) sf0) c225.1)
    have hk227 := (((Keep.refl T45.heap [a53]).ext E53).trans K58 (allS (Or.inl (List.mem_of_getElem? (i := 0) rfl)) all0)).1
    have f228 := (f57.keep K58 (allS G53 all0))
    have f229 := ((f51.ext E53).keep K58 (ninS (own_ne (by omega)) nin0))
    have hnn : n12 = 0 := by omega
    have LSz : own_LS Z T58.heap a53 n12 (fun i => if i = 0 then t26 else if i = 1 then t36 else if i = 2 then t39 else if i = 3 then t42 else t45) (fun i => own_kd kS kW (y24 i)) (fun i => own_ch (y24 i)) := by rw [hnn]; exact ⟨d0, 0, f0, E58, elementData58, size58, fun q => absurd q (by decide), Nat.le_refl _, by decide, fun i hi => absurd hi (Nat.not_lt_zero i), fun i hi => absurd hi (Nat.not_lt_zero i)⟩
    exact tail _ T58 T58.heap _ _ (X58.more (by decide) (by decide)) rfl hS hk227 hZ hown c226 (Fr.app (Fr.app (Fr.app (Fr.app (Fr.app (Fr.app N24 M26) M36) M39) M42) M45) M58) LSz f228 f229
theorem own_len {Z : State} {az : Array Value} {t : Term} {cl : Cell} {a : Nat} {n : Int32} {ty : FieldType} (h : (Term.length t).eval az Z none [] Z = some (.int n)) (ev : t.eval az Z none [] Z = some (.ref a)) (A : Arr Z Z.heap a cl ty) : cl.slots.size < 2 ^ 31 ∧ cl.slots.size.toInt32 = n := by
  have ha := A.fin (Vm.Alike.refl _)
  by_cases q : cl.slots.size < 2 ^ 31
  · have e := len_f ev ha q
    rw [e] at h
    cases h
    exact ⟨q, rfl⟩
  · simp [Term.eval, ev, ha, q] at h
set_option maxRecDepth 65536 in
set_option maxHeartbeats 40000000 in
theorem own_comes {Post : Tables → Env → Array Value → State → Outcome → State → Prop} (hpost : ∀ tb e args s v u, (limb_1_1.after args s (.returned v) u = true ∧ limb_1_2.after args s (.returned v) u = true ∧ True) → ReturnedEndW s (.returned v) u (Jvm.fieldLocs frame_1_writes args s ++ Jvm.arrayLocs frame_1_arrays args s ++ Jvm.staticLocs frame_1_statics s) 56 10496 → Post tb e args s (.returned v) u) :
    ArmFor flags0 classFile x code maxLocals ret World_1 tables_1 room_1 Calls_1 rest_1 Pre_1 Post := by
  intro l hfl _ _ p e ha hc hk s m args below hf hA hF happ hP
  obtain ⟨hcalls, hrest, hpre⟩ := hP
  obtain ⟨-, -, -, hnamed, -, -, -, hat⟩ := (Spec.applies_iff hf).mp happ
  obtain ⟨hg, hn⟩ := and_e (Cond.before_iff.mp (show (Jvm.Cond.and given_1 narrow_1).before args s = true from hpre))
  obtain ⟨h1, hg⟩ := and_e hg
  obtain ⟨u0, hg⟩ := and_e hg
  obtain ⟨u1, u2⟩ := and_e hg
  obtain ⟨w0, w1, w2, rfl⟩ : ∃ w0 w1 w2 : Value, args = #[w0, w1, w2] := by
    have hs : args.size = 3 := by simpa [Cond.value, given_1] using h1
    obtain ⟨L⟩ := args
    match L, hs with
    | [w0, w1, w2], _ => exact ⟨w0, w1, w2, rfl⟩
  have hw := fun d (hd : d ∈ tables_1) => atoms_spec (ws := Jvm.Cond.code x code maxLocals ret :: tables_1) hat d (List.mem_cons_of_mem _ hd)
  obtain ⟨p0, e0⟩ := is_v u0
  obtain rfl : w0 = (.int p0) := Option.some.inj e0
  obtain ⟨p1, e1⟩ := is_v u1
  obtain rfl : w1 = (.int p1) := Option.some.inj e1
  obtain ⟨p2, e2⟩ := is_v u2
  obtain rfl : w2 = (.int p2) := Option.some.inj e2
  obtain ⟨k0, hn⟩ := and_e hn
  obtain ⟨k1, hn⟩ := and_e hn
  obtain ⟨k2, k3⟩ := and_e hn
  obtain ⟨kS, vS⟩ := exa_v k0
  obtain ⟨kW, vW⟩ := exa_v k1
  have SS := Sta.start vS (Or.inr ⟨(hw _ (List.mem_of_getElem? (i := 10) rfl)), (hw _ (List.mem_of_getElem? (i := 11) rfl))⟩)
  have SW := Sta.start vW (Or.inr ⟨(hw _ (List.mem_of_getElem? (i := 10) rfl)), (hw _ (List.mem_of_getElem? (i := 181) rfl))⟩)
  have OW := own_fld vW (own_eqi k2)
  have OS := own_fld vS (own_eqi k3)
  have hkk : kS ≠ kW := Fld.ne OS OW (by first | decide | simp)
  obtain ⟨hsets, hown0⟩ := atoms_of _ (rest_1_c_eq ▸ (show rest_1_c.before _ s = true from hrest))
  have z6 := Cond.before_iff.mp (hsets _ (List.mem_of_getElem? (i := 6) rfl))
  have z8 := Cond.before_iff.mp (hsets _ (List.mem_of_getElem? (i := 8) rfl))
  obtain ⟨d0, vd⟩ := arr_v z6
  have SD := Sta.start vd (Or.inr ⟨(hw _ (List.mem_of_getElem? (i := 41) rfl)), hsets _ (List.mem_of_getElem? (i := 2) rfl)⟩)
  obtain ⟨cd, AD⟩ := Arr.start vd z6
  obtain ⟨y1, y2⟩ := own_len (own_eqi z8) vd AD
  have y3 : cd.slots.size = 0 := (own_inj32 y1 (by decide)).mp y2
  have AD2 : own_A s s.heap d0 (.object "java/lang/Object") cd.cls 0 (fun _ => .null) := ⟨cd, AD, rfl, y3, fun i hi => absurd hi (Nat.not_lt_zero i)⟩
  have z9 := hsets _ (List.mem_of_getElem? (i := 9) rfl)
  have z10 := Cond.before_iff.mp (hsets _ (List.mem_of_getElem? (i := 10) rfl))
  have z11 := hsets _ (List.mem_of_getElem? (i := 11) rfl)
  obtain ⟨zc, vc⟩ := is_v z10
  have SC := Sta.start vc (Or.inl z9)
  have hzc : zc ≠ 0 := fun q => by
    have q1 := not_v (Cond.before_iff.mp z11)
    rw [q] at vc
    have q2 := eq_i vc (Term.int_eval (0)) rfl
    exact absurd (q1.symm.trans q2) (by decide)
  have hEL := own_EW hw
  have hCH : CHv s consts_1 s.vm s.heap := CHv.start hEL hcalls.1 z11 (hw _ (List.mem_of_getElem? (i := 15) rfl)) (hw _ (List.mem_of_getElem? (i := 14) rfl))
  obtain ⟨n, o, h1, h2, h3, _, L, rfl, ⟨rfl, N⟩, -, hq⟩ := own_law l s _ hw p0 p1 p2 kS kW d0 zc cd.cls _ hzc hkk s.heap s.heap.size (Old.start s) SS SW SC SD AD2 tables_1 p e ha hc hk s m _ below hf ((Spec.applies_iff_loose hf).mp happ).1 ⟨rfl, State.Warmed39.refl s, rfl, hCH⟩ trivial
  refine ⟨n, _, h1, h2, h3, hpost _ _ _ _ _ _ ⟨Cond.after_iff.mpr rfl, Cond.after_iff.mpr (eq_i res_at (Term.int_eval (1)) rfl), trivial⟩ ⟨hq.1, hq.2.1, hq.2.2.1, (hq.2.2.2.sift fun y hy => Or.inr (N y hy)).mono (by decide) (by decide)⟩⟩
theorem main_1_1 : Claimed_1_1 := own_comes fun _ _ _ _ _ _ h hF => ⟨h.1, hF⟩
theorem main_1_2 : Claimed_1_2 := own_comes fun _ _ _ _ _ _ h hF => ⟨h.2.1, hF⟩
end Jvm.Pilot.@@N@@
namespace Jvm.Pilot.@@N@@
open Jvm Jvm.ClassFile Sem Op Lib Jvm.Free Jvm.Stand Jvm.Pilot.@@N@@.Jvm.D
/-! MADE BY PROGRAM (witnessworld.py) out of the Statement's table words and the real class files: 32 classes; the members and pool entries that the words name. The judged class is class 1, her method 5. -/
namespace start1
open Jvm.ClassFile
def u (s : String) : CpInfo := .utf8 (stringToUtf16 s)
/-- a pool by its gaps: so many unusable entries, then the entry; so many at the end -/
def gap : Nat → List CpInfo → List CpInfo
  | 0, r => r
  | n + 1, r => .unusable :: gap n r
def poolList (es : List (Nat × CpInfo)) (last : Nat) : List CpInfo := es.foldr (fun e r => gap e.1 (e.2 :: r)) (gap last [])
def pool (es : List (Nat × CpInfo)) (last : Nat) : Array CpInfo := ⟨poolList es last⟩
def fileOf (pool : Array CpInfo) (this : Nat) (attrs : Array Attribute := #[]) (ms : Array MethodInfo := #[]) (fl : Nat := 33) (sup : Nat := 0) (ifs : Array Nat := #[]) (fds : Array FieldInfo := #[]) : ClassFile where
  minorVersion := 0
  majorVersion := 65
  constantPool := pool
  accessFlags := fl
  thisClass := this
  superClass := sup
  interfaces := ifs
  fields := fds
  methods := ms
  attributes := attrs
def plain (name : String) (sup : Option ClassId) : Class where
  name := name
  kind := .ordinary
  loader := none
  accessFlags := 33
  super := sup
  interfaces := #[]
  cf := none
  fields := #[]
  methods := #[]
  instanceTypes := #[]
  staticTypes := #[]
  resolved := #[]
  callSites := []
  init := .initialized
  statics := none
  mirror := none

def pool0 : Array CpInfo := pool [(5, u "<init>"), (0, u "()V"), (1, .class_ 10), (1, u "java/lang/Object")] 113

def k0c0 : Code := { maxStack := 0, maxLocals := 1, code := object_method_1_code, exceptionTable := #[], attributes := #[] }
def k0m0 : Method := { name := "<init>", desc := "()V", sig := { parameters := [], returnType := none }, accessFlags := 1, code := some k0c0 }
/-- java/lang/Object -/
def k0 : Class := { plain "java/lang/Object" none with
  accessFlags := 33
  interfaces := #[]
  cf := some (fileOf pool0 8 #[] #[{ accessFlags := 1, nameIndex := 5, descriptorIndex := 6, attributes := #[] }] 33 0 #[] #[])
  fields := #[]
  methods := #[k0m0]
  instanceTypes := #[]
  staticTypes := #[]
  resolved := Array.replicate 124 none
  statics := none }

def pool1 : Array CpInfo := pool [(2, .class_ 4), (0, .nameAndType 5 6), (0, u "java/lang/Object"), (0, u "<init>"), (0, u "()V"), (0, .class_ 8), (0, u "com/example/isocline/isocline/core/sql/SqlToken"), (0, .fieldref 10 11), (0, .class_ 12), (0, .nameAndType 13 14), (0, u "com/example/isocline/isocline/core/sql/SqlToken$Kind"), (0, u "SYMBOL"), (0, u "Lcom/example/isocline/isocline/core/sql/SqlToken$Kind;"), (0, .string 16), (0, u "("), (0, .methodref 7 18), (0, .nameAndType 5 19), (0, u "(Lcom/example/isocline/isocline/core/sql/SqlToken$Kind;Ljava/lang/String;II)V"), (0, .string 21), (0, u ")"), (0, .string 23), (0, u "["), (0, .string 25), (0, u "]"), (0, .string 27), (0, u ","), (0, .fieldref 10 29), (0, .nameAndType 30 14), (0, u "WORD"), (0, .string 32), (0, u "x"), (0, .methodref 34 35), (0, .class_ 36), (0, .nameAndType 37 38), (0, u "com/example/isocline/isocline/core/sql/TokensOpeningPinLaw"), (0, u "opens"), (0, u "(I)Z"), (0, .methodref 34 40), (0, .nameAndType 41 38), (0, u "closes"), (0, .integer 2147483647), (0, .methodref 34 44), (0, .nameAndType 45 46), (0, u "token"), (0, u "(I)Lcom/example/isocline/isocline/core/sql/SqlToken;"), (0, .class_ 48), (0, u "java/util/ArrayList"), (0, .methodref 47 3), (0, .methodref 47 51), (0, .nameAndType 52 53), (0, u "add"), (0, u "(Ljava/lang/Object;)Z"), (0, .class_ 55), (0, u "com/example/isocline/isocline/core/sql/Tokens"), (0, .methodref 54 57), (0, .nameAndType 5 58), (0, u "(Ljava/util/List;)V"), (0, .methodref 54 60), (0, .nameAndType 61 62), (0, u "opening"), (0, u "(I)I"), (0, .methodref 34 64), (0, .nameAndType 65 66), (0, u "step"), (0, u "([IIII)I"), (3, u "law"), (0, u "(III)Z")] 6

def k1m0 : Method := { name := "<init>", desc := "()V", sig := { parameters := [], returnType := none }, accessFlags := 1, code := none }
def k1c1 : Code := { maxStack := 6, maxLocals := 1, code := method_2_code, exceptionTable := #[], attributes := #[] }
def k1m1 : Method := { name := "token", desc := "(I)Lcom/example/isocline/isocline/core/sql/SqlToken;", sig := { parameters := [.int], returnType := some (.object "com/example/isocline/isocline/core/sql/SqlToken") }, accessFlags := 10, code := some k1c1 }
def k1c2 : Code := { maxStack := 2, maxLocals := 1, code := method_3_code, exceptionTable := #[], attributes := #[] }
def k1m2 : Method := { name := "opens", desc := "(I)Z", sig := { parameters := [.int], returnType := some .boolean }, accessFlags := 10, code := some k1c2 }
def k1c3 : Code := { maxStack := 2, maxLocals := 1, code := method_4_code, exceptionTable := #[], attributes := #[] }
def k1m3 : Method := { name := "closes", desc := "(I)Z", sig := { parameters := [.int], returnType := some .boolean }, accessFlags := 10, code := some k1c3 }
def k1c4 : Code := { maxStack := 3, maxLocals := 4, code := method_5_code, exceptionTable := #[], attributes := #[] }
def k1m4 : Method := { name := "step", desc := "([IIII)I", sig := { parameters := [(.array .int), .int, .int, .int], returnType := some .int }, accessFlags := 10, code := some k1c4 }
def k1c5 : Code := { maxStack := 4, maxLocals := 17, code := code, exceptionTable := #[], attributes := #[] }
def k1m5 : Method := { name := "law", desc := "(III)Z", sig := { parameters := [.int, .int, .int], returnType := some .boolean }, accessFlags := 9, code := some k1c5 }
/-- com/example/isocline/isocline/core/sql/TokensOpeningPinLaw -/
def k1 : Class := { plain "com/example/isocline/isocline/core/sql/TokensOpeningPinLaw" (some 0) with
  accessFlags := 49
  interfaces := #[]
  cf := some (fileOf pool1 34 #[] #[{ accessFlags := 1, nameIndex := 5, descriptorIndex := 6, attributes := #[] }, { accessFlags := 10, nameIndex := 45, descriptorIndex := 46, attributes := #[] }, { accessFlags := 10, nameIndex := 37, descriptorIndex := 38, attributes := #[] }, { accessFlags := 10, nameIndex := 41, descriptorIndex := 38, attributes := #[] }, { accessFlags := 10, nameIndex := 65, descriptorIndex := 66, attributes := #[] }, { accessFlags := 9, nameIndex := 70, descriptorIndex := 71, attributes := #[] }] 49 2 #[] #[])
  fields := #[]
  methods := #[k1m0, k1m1, k1m2, k1m3, k1m4, k1m5]
  instanceTypes := #[]
  staticTypes := #[]
  resolved := Array.replicate 78 none
  statics := none }

def pool2 : Array CpInfo := pool [(1, .methodref 2 3), (0, .class_ 4), (0, .nameAndType 5 6), (0, u "java/lang/Object"), (0, u "<init>"), (0, u "()V"), (0, .class_ 8), (0, u "java/lang/Record")] 13

def k2c0 : Code := { maxStack := 1, maxLocals := 1, code := jdk_30_method_1_code, exceptionTable := #[], attributes := #[] }
def k2m0 : Method := { name := "<init>", desc := "()V", sig := { parameters := [], returnType := none }, accessFlags := 4, code := some k2c0 }
/-- java/lang/Record -/
def k2 : Class := { plain "java/lang/Record" (some 0) with
  accessFlags := 1057
  interfaces := #[]
  cf := some (fileOf pool2 7 #[] #[{ accessFlags := 4, nameIndex := 5, descriptorIndex := 6, attributes := #[] }] 1057 2 #[] #[])
  fields := #[]
  methods := #[k2m0]
  instanceTypes := #[]
  staticTypes := #[]
  resolved := Array.replicate 22 none
  statics := none }

def pool3 : Array CpInfo := pool [(1, .methodref 2 3), (0, .class_ 4), (0, .nameAndType 5 6), (0, u "java/lang/Record"), (0, u "<init>"), (0, u "()V"), (0, .fieldref 8 9), (0, .class_ 10), (0, .nameAndType 11 12), (0, u "com/example/isocline/isocline/core/sql/SqlToken"), (0, u "kind"), (0, u "Lcom/example/isocline/isocline/core/sql/SqlToken$Kind;"), (0, .fieldref 8 14), (0, .nameAndType 15 16), (0, u "text"), (0, u "Ljava/lang/String;"), (0, .fieldref 8 18), (0, .nameAndType 19 20), (0, u "start"), (0, u "I"), (0, .fieldref 8 22), (0, .nameAndType 23 20), (0, u "end"), (1, .class_ 27), (1, u "com/example/isocline/isocline/core/sql/SqlToken$Kind"), (17, .methodref 46 47), (0, .class_ 48), (0, .nameAndType 49 50), (0, u "java/lang/String"), (0, u "equals"), (0, u "(Ljava/lang/Object;)Z"), (0, .fieldref 25 52), (0, .nameAndType 53 12), (0, u "SYMBOL"), (40, u "(Lcom/example/isocline/isocline/core/sql/SqlToken$Kind;Ljava/lang/String;II)V"), (5, u "(Ljava/lang/String;)Z"), (0, u "isSymbol")] 29

def k3c0 : Code := { maxStack := 2, maxLocals := 5, code := prog_65_method_1_code, exceptionTable := #[], attributes := #[] }
def k3m0 : Method := { name := "<init>", desc := "(Lcom/example/isocline/isocline/core/sql/SqlToken$Kind;Ljava/lang/String;II)V", sig := { parameters := [(.object "com/example/isocline/isocline/core/sql/SqlToken$Kind"), (.object "java/lang/String"), .int, .int], returnType := none }, accessFlags := 1, code := some k3c0 }
def k3c1 : Code := { maxStack := 2, maxLocals := 2, code := prog_65_method_4_code, exceptionTable := #[], attributes := #[] }
def k3m1 : Method := { name := "isSymbol", desc := "(Ljava/lang/String;)Z", sig := { parameters := [(.object "java/lang/String")], returnType := some .boolean }, accessFlags := 1, code := some k3c1 }
/-- com/example/isocline/isocline/core/sql/SqlToken -/
def k3 : Class := { plain "com/example/isocline/isocline/core/sql/SqlToken" (some 2) with
  accessFlags := 49
  interfaces := #[]
  cf := some (fileOf pool3 8 #[.nestMembers #[25]] #[{ accessFlags := 1, nameIndex := 5, descriptorIndex := 94, attributes := #[] }, { accessFlags := 1, nameIndex := 101, descriptorIndex := 100, attributes := #[] }] 49 2 #[] #[{ accessFlags := 18, nameIndex := 11, descriptorIndex := 12, attributes := #[] }, { accessFlags := 18, nameIndex := 15, descriptorIndex := 16, attributes := #[] }, { accessFlags := 18, nameIndex := 19, descriptorIndex := 20, attributes := #[] }, { accessFlags := 18, nameIndex := 23, descriptorIndex := 20, attributes := #[] }])
  fields := #[{ name := "kind", type := (.object "com/example/isocline/isocline/core/sql/SqlToken$Kind"), accessFlags := 18, slot := 0, constantValue := 0 }, { name := "text", type := (.object "java/lang/String"), accessFlags := 18, slot := 1, constantValue := 0 }, { name := "start", type := .int, accessFlags := 18, slot := 2, constantValue := 0 }, { name := "end", type := .int, accessFlags := 18, slot := 3, constantValue := 0 }]
  methods := #[k3m0, k3m1]
  instanceTypes := #[(.object "com/example/isocline/isocline/core/sql/SqlToken$Kind"), (.object "java/lang/String"), .int, .int]
  staticTypes := #[]
  resolved := Array.replicate 131 none
  statics := none }

def pool4 : Array CpInfo := pool [(1, .class_ 2), (0, u "java/lang/constant/Constable"), (0, .class_ 4), (0, u "java/lang/Object")] 6

/-- java/lang/constant/Constable -/
def k4 : Class := { plain "java/lang/constant/Constable" (some 0) with
  accessFlags := 1537
  interfaces := #[]
  cf := some (fileOf pool4 1 #[] #[] 1537 3 #[] #[])
  fields := #[]
  methods := #[]
  instanceTypes := #[]
  staticTypes := #[]
  resolved := Array.replicate 11 none
  statics := none }

def pool5 : Array CpInfo := pool [(1, .class_ 2), (0, u "java/lang/Comparable"), (0, .class_ 4), (0, u "java/lang/Object")] 7

/-- java/lang/Comparable -/
def k5 : Class := { plain "java/lang/Comparable" (some 0) with
  accessFlags := 1537
  interfaces := #[]
  cf := some (fileOf pool5 1 #[] #[] 1537 3 #[] #[])
  fields := #[]
  methods := #[]
  instanceTypes := #[]
  staticTypes := #[]
  resolved := Array.replicate 12 none
  statics := none }

def pool6 : Array CpInfo := pool [(1, .class_ 2), (0, u "java/io/Serializable"), (0, .class_ 4), (0, u "java/lang/Object")] 2

/-- java/io/Serializable -/
def k6 : Class := { plain "java/io/Serializable" (some 0) with
  accessFlags := 1537
  interfaces := #[]
  cf := some (fileOf pool6 1 #[] #[] 1537 3 #[] #[])
  fields := #[]
  methods := #[]
  instanceTypes := #[]
  staticTypes := #[]
  resolved := Array.replicate 7 none
  statics := none }

def pool7 : Array CpInfo := pool [(2, .class_ 4), (1, u "java/lang/Enum"), (0, u "name"), (0, u "Ljava/lang/String;"), (2, u "ordinal"), (0, u "I"), (1, .class_ 14), (1, u "java/lang/Object"), (4, u "hash"), (86, .class_ 108), (1, u "java/lang/Enum$EnumDesc"), (2, .class_ 112), (0, u "java/lang/constant/Constable"), (0, .class_ 114), (0, u "java/lang/Comparable"), (0, .class_ 116), (0, u "java/io/Serializable")] 87

/-- java/lang/Enum -/
def k7 : Class := { plain "java/lang/Enum" (some 0) with
  accessFlags := 1057
  interfaces := #[4, 5, 6]
  cf := some (fileOf pool7 2 #[.nestMembers #[106]] #[] 1057 12 #[111, 113, 115] #[{ accessFlags := 18, nameIndex := 5, descriptorIndex := 6, attributes := #[] }, { accessFlags := 18, nameIndex := 9, descriptorIndex := 10, attributes := #[] }, { accessFlags := 2, nameIndex := 19, descriptorIndex := 10, attributes := #[] }])
  fields := #[{ name := "name", type := (.object "java/lang/String"), accessFlags := 18, slot := 0, constantValue := 0 }, { name := "ordinal", type := .int, accessFlags := 18, slot := 1, constantValue := 0 }, { name := "hash", type := .int, accessFlags := 2, slot := 2, constantValue := 0 }]
  methods := #[]
  instanceTypes := #[(.object "java/lang/String"), .int, .int]
  staticTypes := #[]
  resolved := Array.replicate 204 none
  statics := none }

def pool8 : Array CpInfo := pool [(1, .class_ 2), (0, u "com/example/isocline/isocline/core/sql/SqlToken$Kind"), (2, u "WORD"), (0, u "Lcom/example/isocline/isocline/core/sql/SqlToken$Kind;"), (2, u "QUOTED_WORD"), (2, u "STRING"), (2, u "NUMBER"), (2, u "PARAMETER"), (2, u "SYMBOL"), (2, u "UNTERMINATED"), (2, u "$VALUES"), (0, u "[Lcom/example/isocline/isocline/core/sql/SqlToken$Kind;"), (6, .class_ 37), (1, u "java/lang/Enum"), (30, .class_ 69), (0, u "com/example/isocline/isocline/core/sql/SqlToken")] 2

/-- com/example/isocline/isocline/core/sql/SqlToken$Kind -/
def k8 : Class := { plain "com/example/isocline/isocline/core/sql/SqlToken$Kind" (some 7) with
  accessFlags := 16433
  interfaces := #[]
  cf := some (fileOf pool8 1 #[.nestHost 68] #[] 16433 35 #[] #[{ accessFlags := 16409, nameIndex := 5, descriptorIndex := 6, attributes := #[] }, { accessFlags := 16409, nameIndex := 9, descriptorIndex := 6, attributes := #[] }, { accessFlags := 16409, nameIndex := 12, descriptorIndex := 6, attributes := #[] }, { accessFlags := 16409, nameIndex := 15, descriptorIndex := 6, attributes := #[] }, { accessFlags := 16409, nameIndex := 18, descriptorIndex := 6, attributes := #[] }, { accessFlags := 16409, nameIndex := 21, descriptorIndex := 6, attributes := #[] }, { accessFlags := 16409, nameIndex := 24, descriptorIndex := 6, attributes := #[] }, { accessFlags := 4122, nameIndex := 27, descriptorIndex := 28, attributes := #[] }])
  fields := #[{ name := "WORD", type := (.object "com/example/isocline/isocline/core/sql/SqlToken$Kind"), accessFlags := 16409, slot := 0, constantValue := 0 }, { name := "QUOTED_WORD", type := (.object "com/example/isocline/isocline/core/sql/SqlToken$Kind"), accessFlags := 16409, slot := 1, constantValue := 0 }, { name := "STRING", type := (.object "com/example/isocline/isocline/core/sql/SqlToken$Kind"), accessFlags := 16409, slot := 2, constantValue := 0 }, { name := "NUMBER", type := (.object "com/example/isocline/isocline/core/sql/SqlToken$Kind"), accessFlags := 16409, slot := 3, constantValue := 0 }, { name := "PARAMETER", type := (.object "com/example/isocline/isocline/core/sql/SqlToken$Kind"), accessFlags := 16409, slot := 4, constantValue := 0 }, { name := "SYMBOL", type := (.object "com/example/isocline/isocline/core/sql/SqlToken$Kind"), accessFlags := 16409, slot := 5, constantValue := 0 }, { name := "UNTERMINATED", type := (.object "com/example/isocline/isocline/core/sql/SqlToken$Kind"), accessFlags := 16409, slot := 6, constantValue := 0 }, { name := "$VALUES", type := (.array (.object "com/example/isocline/isocline/core/sql/SqlToken$Kind")), accessFlags := 4122, slot := 7, constantValue := 0 }]
  methods := #[]
  instanceTypes := #[(.object "java/lang/String"), .int, .int]
  staticTypes := #[(.object "com/example/isocline/isocline/core/sql/SqlToken$Kind"), (.object "com/example/isocline/isocline/core/sql/SqlToken$Kind"), (.object "com/example/isocline/isocline/core/sql/SqlToken$Kind"), (.object "com/example/isocline/isocline/core/sql/SqlToken$Kind"), (.object "com/example/isocline/isocline/core/sql/SqlToken$Kind"), (.object "com/example/isocline/isocline/core/sql/SqlToken$Kind"), (.object "com/example/isocline/isocline/core/sql/SqlToken$Kind"), (.array (.object "com/example/isocline/isocline/core/sql/SqlToken$Kind"))]
  resolved := Array.replicate 72 none
  statics := some 0 }

def pool9 : Array CpInfo := pool [(2, .class_ 4), (1, u "java/lang/CharSequence"), (42, .class_ 48), (0, u "java/lang/CharSequence$1CodePointIterator"), (10, .class_ 60), (0, u "java/lang/CharSequence$1CharIterator"), (5, .class_ 67), (0, u "java/lang/Object")] 63

/-- java/lang/CharSequence -/
def k9 : Class := { plain "java/lang/CharSequence" (some 0) with
  accessFlags := 1537
  interfaces := #[]
  cf := some (fileOf pool9 2 #[.nestMembers #[47, 59]] #[] 1537 66 #[] #[])
  fields := #[]
  methods := #[]
  instanceTypes := #[]
  staticTypes := #[]
  resolved := Array.replicate 131 none
  statics := none }

def pool10 : Array CpInfo := pool [(1, .class_ 2), (0, u "java/lang/constant/ConstantDesc"), (0, .class_ 4), (0, u "java/lang/Object")] 32

/-- java/lang/constant/ConstantDesc -/
def k10 : Class := { plain "java/lang/constant/ConstantDesc" (some 0) with
  accessFlags := 1537
  interfaces := #[]
  cf := some (fileOf pool10 1 #[] #[] 1537 3 #[] #[])
  fields := #[]
  methods := #[]
  instanceTypes := #[]
  staticTypes := #[]
  resolved := Array.replicate 37 none
  statics := none }

def pool11 : Array CpInfo := pool [(2, .class_ 4), (1, u "java/lang/Object"), (0, u "<init>"), (0, u "()V"), (2, .fieldref 10 11), (0, .class_ 12), (0, .nameAndType 13 14), (0, u "java/lang/String"), (0, u "value"), (0, u "[B"), (0, .fieldref 10 16), (0, .nameAndType 17 18), (0, u "coder"), (0, u "B"), (2, u "hash"), (0, u "I"), (2, u "hashIsZero"), (0, u "Z"), (11, .fieldref 10 39), (0, .nameAndType 40 26), (0, u "COMPACT_STRINGS"), (66, .class_ 109), (1, u "java/lang/StringLatin1"), (431, .methodref 107 542), (0, .nameAndType 543 544), (0, u "equals"), (0, u "([B[B)Z"), (28, u "(Ljava/lang/Object;)Z"), (1, .class_ 576), (0, u "java/lang/CharSequence"), (22, u "CASE_INSENSITIVE_ORDER"), (0, u "Ljava/util/Comparator;"), (500, u "serialPersistentFields"), (0, u "[Ljava/io/ObjectStreamField;"), (0, .class_ 1104), (0, u "java/lang/String$CaseInsensitiveComparator"), (1, .class_ 1107), (0, u "java/io/Serializable"), (0, .class_ 1109), (0, u "java/lang/Comparable"), (0, .class_ 1111), (0, u "java/lang/constant/Constable"), (0, .class_ 1113), (0, u "java/lang/constant/ConstantDesc"), (2, u "serialVersionUID"), (0, u "J"), (3, u "REPL"), (0, u "C"), (2, u "LATIN1"), (1, u "UTF16")] 323

def k11m0 : Method := { name := "<init>", desc := "()V", sig := { parameters := [], returnType := none }, accessFlags := 1, code := none }
def k11c1 : Code := { maxStack := 2, maxLocals := 3, code := jdk_42_method_66_code, exceptionTable := #[], attributes := #[] }
def k11m1 : Method := { name := "equals", desc := "(Ljava/lang/Object;)Z", sig := { parameters := [(.object "java/lang/Object")], returnType := some .boolean }, accessFlags := 1, code := some k11c1 }
/-- java/lang/String -/
def k11 : Class := { plain "java/lang/String" (some 0) with
  accessFlags := 49
  interfaces := #[6, 5, 9, 4, 10]
  cf := some (fileOf pool11 10 #[.nestMembers #[1103]] #[{ accessFlags := 1, nameIndex := 5, descriptorIndex := 6, attributes := #[] }, { accessFlags := 1, nameIndex := 543, descriptorIndex := 573, attributes := #[] }] 49 2 #[1106, 1108, 575, 1110, 1112] #[{ accessFlags := 18, nameIndex := 13, descriptorIndex := 14, attributes := #[] }, { accessFlags := 18, nameIndex := 17, descriptorIndex := 18, attributes := #[] }, { accessFlags := 2, nameIndex := 21, descriptorIndex := 22, attributes := #[] }, { accessFlags := 2, nameIndex := 25, descriptorIndex := 26, attributes := #[] }, { accessFlags := 26, nameIndex := 1116, descriptorIndex := 1117, attributes := #[] }, { accessFlags := 24, nameIndex := 40, descriptorIndex := 26, attributes := #[] }, { accessFlags := 26, nameIndex := 1101, descriptorIndex := 1102, attributes := #[] }, { accessFlags := 26, nameIndex := 1121, descriptorIndex := 1122, attributes := #[] }, { accessFlags := 25, nameIndex := 599, descriptorIndex := 600, attributes := #[] }, { accessFlags := 24, nameIndex := 1125, descriptorIndex := 18, attributes := #[] }, { accessFlags := 24, nameIndex := 1127, descriptorIndex := 18, attributes := #[] }])
  fields := #[{ name := "value", type := (.array .byte), accessFlags := 18, slot := 0, constantValue := 0 }, { name := "coder", type := .byte, accessFlags := 18, slot := 1, constantValue := 0 }, { name := "hash", type := .int, accessFlags := 2, slot := 2, constantValue := 0 }, { name := "hashIsZero", type := .boolean, accessFlags := 2, slot := 3, constantValue := 0 }, { name := "serialVersionUID", type := .long, accessFlags := 26, slot := 0, constantValue := 0 }, { name := "COMPACT_STRINGS", type := .boolean, accessFlags := 24, slot := 1, constantValue := 0 }, { name := "serialPersistentFields", type := (.array (.object "java/io/ObjectStreamField")), accessFlags := 26, slot := 2, constantValue := 0 }, { name := "REPL", type := .char, accessFlags := 26, slot := 3, constantValue := 0 }, { name := "CASE_INSENSITIVE_ORDER", type := (.object "java/util/Comparator"), accessFlags := 25, slot := 4, constantValue := 0 }, { name := "LATIN1", type := .byte, accessFlags := 24, slot := 5, constantValue := 0 }, { name := "UTF16", type := .byte, accessFlags := 24, slot := 6, constantValue := 0 }]
  methods := #[k11m0, k11m1]
  instanceTypes := #[(.array .byte), .byte, .int, .boolean]
  staticTypes := #[.long, .boolean, (.array (.object "java/io/ObjectStreamField")), .char, (.object "java/util/Comparator"), .byte, .byte]
  resolved := Array.replicate 1451 none
  statics := some 1 }

def pool12 : Array CpInfo := pool [(8, .class_ 10), (1, u "java/lang/Iterable"), (24, .class_ 36), (0, u "java/lang/Object")] 25

/-- java/lang/Iterable -/
def k12 : Class := { plain "java/lang/Iterable" (some 0) with
  accessFlags := 1537
  interfaces := #[]
  cf := some (fileOf pool12 8 #[] #[] 1537 35 #[] #[])
  fields := #[]
  methods := #[]
  instanceTypes := #[]
  staticTypes := #[]
  resolved := Array.replicate 62 none
  statics := none }

def pool13 : Array CpInfo := pool [(10, .class_ 12), (1, u "java/util/Collection"), (47, .class_ 61), (0, u "java/lang/Object"), (0, .class_ 63), (0, u "java/lang/Iterable")] 51

/-- java/util/Collection -/
def k13 : Class := { plain "java/util/Collection" (some 0) with
  accessFlags := 1537
  interfaces := #[12]
  cf := some (fileOf pool13 10 #[] #[] 1537 60 #[62] #[])
  fields := #[]
  methods := #[]
  instanceTypes := #[]
  staticTypes := #[]
  resolved := Array.replicate 115 none
  statics := none }

def pool14 : Array CpInfo := pool [(1, .methodref 2 3), (0, .class_ 4), (0, .nameAndType 5 6), (0, u "java/lang/Object"), (0, u "<init>"), (0, u "()V"), (1, .class_ 10), (1, u "java/util/AbstractCollection"), (66, .class_ 78), (0, u "java/util/Collection")] 81

def k14c0 : Code := { maxStack := 1, maxLocals := 1, code := jdk_22_method_1_code, exceptionTable := #[], attributes := #[] }
def k14m0 : Method := { name := "<init>", desc := "()V", sig := { parameters := [], returnType := none }, accessFlags := 4, code := some k14c0 }
/-- java/util/AbstractCollection -/
def k14 : Class := { plain "java/util/AbstractCollection" (some 0) with
  accessFlags := 1057
  interfaces := #[13]
  cf := some (fileOf pool14 8 #[] #[{ accessFlags := 4, nameIndex := 5, descriptorIndex := 6, attributes := #[] }] 1057 2 #[77] #[])
  fields := #[]
  methods := #[k14m0]
  instanceTypes := #[]
  staticTypes := #[]
  resolved := Array.replicate 160 none
  statics := none }

def pool15 : Array CpInfo := pool [(8, .class_ 10), (1, u "java/util/SequencedCollection"), (15, .class_ 27), (0, u "java/lang/Object"), (0, .class_ 29), (0, u "java/util/Collection")] 27

/-- java/util/SequencedCollection -/
def k15 : Class := { plain "java/util/SequencedCollection" (some 0) with
  accessFlags := 1537
  interfaces := #[13]
  cf := some (fileOf pool15 8 #[] #[] 1537 26 #[28] #[])
  fields := #[]
  methods := #[]
  instanceTypes := #[]
  staticTypes := #[]
  resolved := Array.replicate 57 none
  statics := none }

def pool16 : Array CpInfo := pool [(8, .class_ 10), (1, u "java/util/List"), (64, u "get"), (0, u "(I)Ljava/lang/Object;"), (2, u "size"), (0, u "()I"), (22, .class_ 104), (0, u "java/lang/Object"), (15, .class_ 121), (0, u "java/util/SequencedCollection")] 129

def k16m0 : Method := { name := "size", desc := "()I", sig := { parameters := [], returnType := some .int }, accessFlags := 1025, code := none }
def k16m1 : Method := { name := "get", desc := "(I)Ljava/lang/Object;", sig := { parameters := [.int], returnType := some (.object "java/lang/Object") }, accessFlags := 1025, code := none }
/-- java/util/List -/
def k16 : Class := { plain "java/util/List" (some 0) with
  accessFlags := 1537
  interfaces := #[15]
  cf := some (fileOf pool16 8 #[] #[{ accessFlags := 1025, nameIndex := 79, descriptorIndex := 80, attributes := #[] }, { accessFlags := 1025, nameIndex := 75, descriptorIndex := 76, attributes := #[] }] 1537 103 #[120] #[])
  fields := #[]
  methods := #[k16m0, k16m1]
  instanceTypes := #[]
  staticTypes := #[]
  resolved := Array.replicate 251 none
  statics := none }

def pool17 : Array CpInfo := pool [(1, .methodref 2 3), (0, .class_ 4), (0, .nameAndType 5 6), (0, u "java/util/AbstractCollection"), (0, u "<init>"), (0, u "()V"), (0, .fieldref 8 9), (0, .class_ 10), (0, .nameAndType 11 12), (0, u "java/util/AbstractList"), (0, u "modCount"), (0, u "I"), (64, .class_ 78), (0, u "java/util/AbstractList$Itr"), (3, .class_ 83), (0, u "java/util/AbstractList$ListItr"), (9, .class_ 94), (0, u "java/util/AbstractList$RandomAccessSubList"), (3, .class_ 99), (0, u "java/util/AbstractList$SubList"), (33, .class_ 134), (0, u "java/util/List"), (73, .class_ 209), (0, u "java/util/AbstractList$SubList$1"), (0, .class_ 211), (0, u "java/util/AbstractList$RandomAccessSpliterator")] 6

def k17c0 : Code := { maxStack := 2, maxLocals := 1, code := jdk_39_method_1_code, exceptionTable := #[], attributes := #[] }
def k17m0 : Method := { name := "<init>", desc := "()V", sig := { parameters := [], returnType := none }, accessFlags := 4, code := some k17c0 }
/-- java/util/AbstractList -/
def k17 : Class := { plain "java/util/AbstractList" (some 14) with
  accessFlags := 1057
  interfaces := #[16]
  cf := some (fileOf pool17 8 #[.nestMembers #[93, 98, 208, 210, 82, 77]] #[{ accessFlags := 4, nameIndex := 5, descriptorIndex := 6, attributes := #[] }] 1057 2 #[133] #[{ accessFlags := 132, nameIndex := 11, descriptorIndex := 12, attributes := #[] }])
  fields := #[{ name := "modCount", type := .int, accessFlags := 132, slot := 0, constantValue := 0 }]
  methods := #[k17m0]
  instanceTypes := #[.int]
  staticTypes := #[]
  resolved := Array.replicate 218 none
  statics := none }

def pool18 : Array CpInfo := pool [(1, .class_ 2), (0, u "java/util/RandomAccess"), (0, .class_ 4), (0, u "java/lang/Object")] 2

/-- java/util/RandomAccess -/
def k18 : Class := { plain "java/util/RandomAccess" (some 0) with
  accessFlags := 1537
  interfaces := #[]
  cf := some (fileOf pool18 1 #[] #[] 1537 3 #[] #[])
  fields := #[]
  methods := #[]
  instanceTypes := #[]
  staticTypes := #[]
  resolved := Array.replicate 7 none
  statics := none }

def pool19 : Array CpInfo := pool [(1, .class_ 2), (0, u "java/lang/Cloneable"), (0, .class_ 4), (0, u "java/lang/Object")] 2

/-- java/lang/Cloneable -/
def k19 : Class := { plain "java/lang/Cloneable" (some 0) with
  accessFlags := 1537
  interfaces := #[]
  cf := some (fileOf pool19 1 #[] #[] 1537 3 #[] #[])
  fields := #[]
  methods := #[]
  instanceTypes := #[]
  staticTypes := #[]
  resolved := Array.replicate 7 none
  statics := none }

def pool20 : Array CpInfo := pool [(1, .methodref 2 3), (0, .class_ 4), (0, .nameAndType 5 6), (0, u "java/util/AbstractList"), (0, u "<init>"), (0, u "()V"), (0, .class_ 8), (0, u "java/lang/Object"), (0, .fieldref 10 11), (0, .class_ 12), (0, .nameAndType 13 14), (0, u "java/util/ArrayList"), (0, u "elementData"), (0, u "[Ljava/lang/Object;"), (2, u "EMPTY_ELEMENTDATA"), (21, .fieldref 10 40), (0, .nameAndType 41 14), (0, u "DEFAULTCAPACITY_EMPTY_ELEMENTDATA"), (5, u "()[Ljava/lang/Object;"), (0, .fieldref 10 49), (0, .nameAndType 50 51), (0, u "size"), (0, u "I"), (11, .fieldref 10 64), (0, .nameAndType 65 51), (0, u "modCount"), (3, .methodref 10 70), (0, .nameAndType 71 72), (0, u "grow"), (0, u "(I)[Ljava/lang/Object;"), (6, .methodref 80 81), (0, .class_ 82), (0, .nameAndType 83 84), (0, u "java/lang/Math"), (0, u "max"), (0, u "(II)I"), (11, u "(Ljava/lang/Object;)Z"), (21, .methodref 119 120), (0, .class_ 121), (0, .nameAndType 122 84), (0, u "java/util/Objects"), (0, u "checkIndex"), (0, .methodref 10 124), (0, .nameAndType 13 125), (0, u "(I)Ljava/lang/Object;"), (3, .methodref 10 130), (0, .nameAndType 71 47), (0, .methodref 10 132), (0, .nameAndType 133 134), (0, u "add"), (0, u "(Ljava/lang/Object;[Ljava/lang/Object;I)V"), (13, .class_ 149), (0, u "java/util/List"), (36, u "()I"), (75, .class_ 263), (0, u "java/util/ArrayList$ListItr"), (3, .class_ 268), (0, u "java/util/ArrayList$Itr"), (7, .class_ 277), (0, u "java/util/ArrayList$SubList"), (12, .class_ 291), (0, u "java/util/ArrayList$ArrayListSpliterator"), (37, .class_ 330), (0, u "java/util/RandomAccess"), (0, .class_ 332), (0, u "java/lang/Cloneable"), (0, .class_ 334), (0, u "java/io/Serializable"), (0, u "serialVersionUID"), (0, u "J"), (3, u "DEFAULT_CAPACITY"), (40, u "get"), (118, .class_ 501), (0, u "java/util/ArrayList$SubList$2"), (0, .class_ 503), (0, u "java/util/ArrayList$SubList$1")] 5

def k20c0 : Code := { maxStack := 2, maxLocals := 1, code := jdk_38_method_2_code, exceptionTable := #[], attributes := #[] }
def k20m0 : Method := { name := "<init>", desc := "()V", sig := { parameters := [], returnType := none }, accessFlags := 1, code := some k20c0 }
def k20c1 : Code := { maxStack := 4, maxLocals := 4, code := jdk_38_method_6_code, exceptionTable := #[], attributes := #[] }
def k20m1 : Method := { name := "grow", desc := "(I)[Ljava/lang/Object;", sig := { parameters := [.int], returnType := some (.array (.object "java/lang/Object")) }, accessFlags := 2, code := some k20c1 }
def k20c2 : Code := { maxStack := 3, maxLocals := 1, code := jdk_38_method_7_code, exceptionTable := #[], attributes := #[] }
def k20m2 : Method := { name := "grow", desc := "()[Ljava/lang/Object;", sig := { parameters := [], returnType := some (.array (.object "java/lang/Object")) }, accessFlags := 2, code := some k20c2 }
def k20c3 : Code := { maxStack := 1, maxLocals := 1, code := jdk_38_method_8_code, exceptionTable := #[], attributes := #[] }
def k20m3 : Method := { name := "size", desc := "()I", sig := { parameters := [], returnType := some .int }, accessFlags := 1, code := some k20c3 }
def k20c4 : Code := { maxStack := 2, maxLocals := 2, code := jdk_38_method_18_code, exceptionTable := #[], attributes := #[] }
def k20m4 : Method := { name := "elementData", desc := "(I)Ljava/lang/Object;", sig := { parameters := [.int], returnType := some (.object "java/lang/Object") }, accessFlags := 0, code := some k20c4 }
def k20c5 : Code := { maxStack := 2, maxLocals := 2, code := jdk_38_method_20_code, exceptionTable := #[], attributes := #[] }
def k20m5 : Method := { name := "get", desc := "(I)Ljava/lang/Object;", sig := { parameters := [.int], returnType := some (.object "java/lang/Object") }, accessFlags := 1, code := some k20c5 }
def k20c6 : Code := { maxStack := 3, maxLocals := 4, code := jdk_38_method_24_code, exceptionTable := #[], attributes := #[] }
def k20m6 : Method := { name := "add", desc := "(Ljava/lang/Object;[Ljava/lang/Object;I)V", sig := { parameters := [(.object "java/lang/Object"), (.array (.object "java/lang/Object")), .int], returnType := none }, accessFlags := 2, code := some k20c6 }
def k20c7 : Code := { maxStack := 4, maxLocals := 2, code := jdk_38_method_25_code, exceptionTable := #[], attributes := #[] }
def k20m7 : Method := { name := "add", desc := "(Ljava/lang/Object;)Z", sig := { parameters := [(.object "java/lang/Object")], returnType := some .boolean }, accessFlags := 1, code := some k20c7 }
/-- java/util/ArrayList -/
def k20 : Class := { plain "java/util/ArrayList" (some 17) with
  accessFlags := 33
  interfaces := #[16, 18, 19, 6]
  cf := some (fileOf pool20 10 #[.nestMembers #[290, 276, 500, 502, 262, 267]] #[{ accessFlags := 1, nameIndex := 5, descriptorIndex := 6, attributes := #[] }, { accessFlags := 2, nameIndex := 71, descriptorIndex := 72, attributes := #[] }, { accessFlags := 2, nameIndex := 71, descriptorIndex := 47, attributes := #[] }, { accessFlags := 1, nameIndex := 50, descriptorIndex := 186, attributes := #[] }, { accessFlags := 0, nameIndex := 13, descriptorIndex := 125, attributes := #[] }, { accessFlags := 1, nameIndex := 381, descriptorIndex := 125, attributes := #[] }, { accessFlags := 2, nameIndex := 133, descriptorIndex := 134, attributes := #[] }, { accessFlags := 1, nameIndex := 133, descriptorIndex := 96, attributes := #[] }] 33 2 #[148, 329, 331, 333] #[{ accessFlags := 26, nameIndex := 335, descriptorIndex := 336, attributes := #[] }, { accessFlags := 26, nameIndex := 340, descriptorIndex := 51, attributes := #[] }, { accessFlags := 26, nameIndex := 17, descriptorIndex := 14, attributes := #[] }, { accessFlags := 26, nameIndex := 41, descriptorIndex := 14, attributes := #[] }, { accessFlags := 128, nameIndex := 13, descriptorIndex := 14, attributes := #[] }, { accessFlags := 2, nameIndex := 50, descriptorIndex := 51, attributes := #[] }])
  fields := #[{ name := "serialVersionUID", type := .long, accessFlags := 26, slot := 0, constantValue := 0 }, { name := "DEFAULT_CAPACITY", type := .int, accessFlags := 26, slot := 1, constantValue := 0 }, { name := "EMPTY_ELEMENTDATA", type := (.array (.object "java/lang/Object")), accessFlags := 26, slot := 2, constantValue := 0 }, { name := "DEFAULTCAPACITY_EMPTY_ELEMENTDATA", type := (.array (.object "java/lang/Object")), accessFlags := 26, slot := 3, constantValue := 0 }, { name := "elementData", type := (.array (.object "java/lang/Object")), accessFlags := 128, slot := 1, constantValue := 0 }, { name := "size", type := .int, accessFlags := 2, slot := 2, constantValue := 0 }]
  methods := #[k20m0, k20m1, k20m2, k20m3, k20m4, k20m5, k20m6, k20m7]
  instanceTypes := #[.int, (.array (.object "java/lang/Object")), .int]
  staticTypes := #[.long, .int, (.array (.object "java/lang/Object")), (.array (.object "java/lang/Object"))]
  resolved := Array.replicate 509 none
  statics := some 2 }

def pool21 : Array CpInfo := pool [(1, .class_ 2), (0, u "java/lang/Math"), (1, .class_ 6), (1, u "java/lang/Object"), (0, u "<init>"), (0, u "()V"), (89, .class_ 100), (1, u "java/lang/Math$RandomNumberGeneratorHolder"), (71, u "negativeZeroFloatBits"), (0, u "J"), (2, u "negativeZeroDoubleBits"), (21, u "max"), (46, u "$assertionsDisabled"), (0, u "Z"), (88, u "(II)I"), (2, u "twoToTheDoubleScaleDown"), (0, u "D"), (4, u "twoToTheDoubleScaleUp"), (9, u "E"), (3, u "PI"), (2, u "TAU"), (2, u "DEGREES_TO_RADIANS"), (0, u "RADIANS_TO_DEGREES")] 94

def k21m0 : Method := { name := "<init>", desc := "()V", sig := { parameters := [], returnType := none }, accessFlags := 2, code := none }
def k21c1 : Code := { maxStack := 2, maxLocals := 2, code := jdk_29_method_65_code, exceptionTable := #[], attributes := #[] }
def k21m1 : Method := { name := "max", desc := "(II)I", sig := { parameters := [.int, .int], returnType := some .int }, accessFlags := 9, code := some k21c1 }
/-- java/lang/Math -/
def k21 : Class := { plain "java/lang/Math" (some 0) with
  accessFlags := 49
  interfaces := #[]
  cf := some (fileOf pool21 1 #[.nestMembers #[98]] #[{ accessFlags := 2, nameIndex := 7, descriptorIndex := 8, attributes := #[] }, { accessFlags := 9, nameIndex := 198, descriptorIndex := 335, attributes := #[] }] 49 4 #[] #[{ accessFlags := 25, nameIndex := 354, descriptorIndex := 339, attributes := #[] }, { accessFlags := 25, nameIndex := 358, descriptorIndex := 339, attributes := #[] }, { accessFlags := 25, nameIndex := 361, descriptorIndex := 339, attributes := #[] }, { accessFlags := 26, nameIndex := 364, descriptorIndex := 339, attributes := #[] }, { accessFlags := 26, nameIndex := 365, descriptorIndex := 339, attributes := #[] }, { accessFlags := 26, nameIndex := 172, descriptorIndex := 173, attributes := #[] }, { accessFlags := 26, nameIndex := 176, descriptorIndex := 173, attributes := #[] }, { accessFlags := 8, nameIndex := 344, descriptorIndex := 339, attributes := #[] }, { accessFlags := 8, nameIndex := 338, descriptorIndex := 339, attributes := #[] }, { accessFlags := 4120, nameIndex := 245, descriptorIndex := 246, attributes := #[] }])
  fields := #[{ name := "E", type := .double, accessFlags := 25, slot := 0, constantValue := 0 }, { name := "PI", type := .double, accessFlags := 25, slot := 1, constantValue := 0 }, { name := "TAU", type := .double, accessFlags := 25, slot := 2, constantValue := 0 }, { name := "DEGREES_TO_RADIANS", type := .double, accessFlags := 26, slot := 3, constantValue := 0 }, { name := "RADIANS_TO_DEGREES", type := .double, accessFlags := 26, slot := 4, constantValue := 0 }, { name := "negativeZeroFloatBits", type := .long, accessFlags := 26, slot := 5, constantValue := 0 }, { name := "negativeZeroDoubleBits", type := .long, accessFlags := 26, slot := 6, constantValue := 0 }, { name := "twoToTheDoubleScaleUp", type := .double, accessFlags := 8, slot := 7, constantValue := 0 }, { name := "twoToTheDoubleScaleDown", type := .double, accessFlags := 8, slot := 8, constantValue := 0 }, { name := "$assertionsDisabled", type := .boolean, accessFlags := 4120, slot := 9, constantValue := 0 }]
  methods := #[k21m0, k21m1]
  instanceTypes := #[]
  staticTypes := #[.double, .double, .double, .double, .double, .long, .long, .double, .double, .boolean]
  resolved := Array.replicate 460 none
  statics := none }

def pool22 : Array CpInfo := pool [(1, .methodref 2 3), (0, .class_ 4), (0, .nameAndType 5 6), (0, u "java/lang/Object"), (0, u "<init>"), (0, u "()V"), (0, .fieldref 8 9), (0, .class_ 10), (0, .nameAndType 11 12), (0, u "com/example/isocline/isocline/core/sql/Tokens"), (0, u "tokens"), (0, u "Ljava/util/List;"), (0, .interfaceMethodref 14 15), (0, .class_ 16), (0, .nameAndType 17 18), (0, u "java/util/List"), (0, u "size"), (0, u "()I"), (0, .fieldref 8 20), (0, .nameAndType 21 22), (0, u "depth"), (0, u "[I"), (0, .interfaceMethodref 14 24), (0, .nameAndType 25 26), (0, u "get"), (0, u "(I)Ljava/lang/Object;"), (0, .class_ 28), (0, u "com/example/isocline/isocline/core/sql/SqlToken"), (0, .string 30), (0, u ")"), (0, .methodref 27 32), (0, .nameAndType 33 34), (0, u "isSymbol"), (0, u "(Ljava/lang/String;)Z"), (0, .string 36), (0, u "]"), (0, .methodref 38 39), (0, .class_ 40), (0, .nameAndType 41 42), (0, u "java/lang/Math"), (0, u "max"), (0, u "(II)I"), (0, .string 44), (0, u "("), (0, .string 46), (0, u "["), (72, .class_ 120), (0, u "com/example/isocline/isocline/core/sql/Tokens$QualifiedName"), (8, u "(Ljava/util/List;)V"), (6, u "(I)I"), (5, u "opening")] 30

def k22c0 : Code := { maxStack := 3, maxLocals := 5, code := prog_91_method_1_code, exceptionTable := #[], attributes := #[] }
def k22m0 : Method := { name := "<init>", desc := "(Ljava/util/List;)V", sig := { parameters := [(.object "java/util/List")], returnType := none }, accessFlags := 0, code := some k22c0 }
def k22c1 : Code := { maxStack := 3, maxLocals := 3, code := prog_91_method_12_code, exceptionTable := #[], attributes := #[] }
def k22m1 : Method := { name := "opening", desc := "(I)I", sig := { parameters := [.int], returnType := some .int }, accessFlags := 0, code := some k22c1 }
/-- com/example/isocline/isocline/core/sql/Tokens -/
def k22 : Class := { plain "com/example/isocline/isocline/core/sql/Tokens" (some 0) with
  accessFlags := 48
  interfaces := #[]
  cf := some (fileOf pool22 8 #[.nestMembers #[119]] #[{ accessFlags := 0, nameIndex := 5, descriptorIndex := 129, attributes := #[] }, { accessFlags := 0, nameIndex := 142, descriptorIndex := 136, attributes := #[] }] 48 2 #[] #[{ accessFlags := 18, nameIndex := 11, descriptorIndex := 12, attributes := #[] }, { accessFlags := 18, nameIndex := 21, descriptorIndex := 22, attributes := #[] }])
  fields := #[{ name := "tokens", type := (.object "java/util/List"), accessFlags := 18, slot := 0, constantValue := 0 }, { name := "depth", type := (.array .int), accessFlags := 18, slot := 1, constantValue := 0 }]
  methods := #[k22m0, k22m1]
  instanceTypes := #[(.object "java/util/List"), (.array .int)]
  staticTypes := #[]
  resolved := Array.replicate 173 none
  statics := none }

def pool23 : Array CpInfo := pool [(2, .class_ 4), (1, u "java/lang/Object"), (0, u "<init>"), (0, u "()V"), (35, .class_ 44), (1, u "java/util/Objects"), (60, .methodref 106 107), (0, .class_ 108), (0, .nameAndType 109 110), (0, u "jdk/internal/util/Preconditions"), (0, u "checkIndex"), (0, u "(IILjava/util/function/BiFunction;)I"), (60, u "(II)I")] 12

def k23m0 : Method := { name := "<init>", desc := "()V", sig := { parameters := [], returnType := none }, accessFlags := 2, code := none }
def k23c1 : Code := { maxStack := 3, maxLocals := 2, code := jdk_31_method_17_code, exceptionTable := #[], attributes := #[] }
def k23m1 : Method := { name := "checkIndex", desc := "(II)I", sig := { parameters := [.int, .int], returnType := some .int }, accessFlags := 9, code := some k23c1 }
/-- java/util/Objects -/
def k23 : Class := { plain "java/util/Objects" (some 0) with
  accessFlags := 49
  interfaces := #[]
  cf := some (fileOf pool23 42 #[] #[{ accessFlags := 2, nameIndex := 5, descriptorIndex := 6, attributes := #[] }, { accessFlags := 9, nameIndex := 109, descriptorIndex := 171, attributes := #[] }] 49 2 #[] #[])
  fields := #[]
  methods := #[k23m0, k23m1]
  instanceTypes := #[]
  staticTypes := #[]
  resolved := Array.replicate 184 none
  statics := none }

def pool24 : Array CpInfo := pool [(2, .class_ 4), (1, u "java/lang/Object"), (0, u "<init>"), (0, u "()V"), (17, .class_ 26), (1, u "jdk/internal/util/Preconditions"), (6, u "checkIndex"), (21, .class_ 56), (0, u "jdk/internal/util/Preconditions$4"), (57, .class_ 115), (0, u "jdk/internal/util/Preconditions$1"), (7, u "SIOOBE_FORMATTER"), (0, u "Ljava/util/function/BiFunction;"), (0, .class_ 126), (0, u "jdk/internal/util/Preconditions$2"), (3, u "AIOOBE_FORMATTER"), (0, .class_ 132), (0, u "jdk/internal/util/Preconditions$3"), (3, u "IOOBE_FORMATTER"), (41, u "(IILjava/util/function/BiFunction;)I")] 15

def k24m0 : Method := { name := "<init>", desc := "()V", sig := { parameters := [], returnType := none }, accessFlags := 1, code := none }
def k24c1 : Code := { maxStack := 3, maxLocals := 3, code := jdk_41_method_11_code, exceptionTable := #[], attributes := #[] }
def k24m1 : Method := { name := "checkIndex", desc := "(IILjava/util/function/BiFunction;)I", sig := { parameters := [.int, .int, (.object "java/util/function/BiFunction")], returnType := some .int }, accessFlags := 9, code := some k24c1 }
/-- jdk/internal/util/Preconditions -/
def k24 : Class := { plain "jdk/internal/util/Preconditions" (some 0) with
  accessFlags := 33
  interfaces := #[]
  cf := some (fileOf pool24 24 #[.nestMembers #[55, 131, 125, 114]] #[{ accessFlags := 1, nameIndex := 5, descriptorIndex := 6, attributes := #[] }, { accessFlags := 9, nameIndex := 33, descriptorIndex := 178, attributes := #[] }] 33 2 #[] #[{ accessFlags := 25, nameIndex := 123, descriptorIndex := 124, attributes := #[] }, { accessFlags := 25, nameIndex := 130, descriptorIndex := 124, attributes := #[] }, { accessFlags := 25, nameIndex := 136, descriptorIndex := 124, attributes := #[] }])
  fields := #[{ name := "SIOOBE_FORMATTER", type := (.object "java/util/function/BiFunction"), accessFlags := 25, slot := 0, constantValue := 0 }, { name := "AIOOBE_FORMATTER", type := (.object "java/util/function/BiFunction"), accessFlags := 25, slot := 1, constantValue := 0 }, { name := "IOOBE_FORMATTER", type := (.object "java/util/function/BiFunction"), accessFlags := 25, slot := 2, constantValue := 0 }]
  methods := #[k24m0, k24m1]
  instanceTypes := #[]
  staticTypes := #[(.object "java/util/function/BiFunction"), (.object "java/util/function/BiFunction"), (.object "java/util/function/BiFunction")]
  resolved := Array.replicate 194 none
  statics := some 3 }

def pool25 : Array CpInfo := pool [(4, .class_ 6), (1, u "java/lang/Object"), (0, u "<init>"), (0, u "()V"), (5, .class_ 16), (1, u "java/lang/StringLatin1"), (104, u "$assertionsDisabled"), (0, u "Z"), (98, .class_ 223), (1, u "java/lang/StringLatin1$LinesSpliterator"), (57, u "equals"), (0, u "([B[B)Z"), (107, .class_ 391), (0, u "java/lang/StringLatin1$CharsSpliterator")] 3

def k25m0 : Method := { name := "<init>", desc := "()V", sig := { parameters := [], returnType := none }, accessFlags := 0, code := none }
def k25c1 : Code := { maxStack := 3, maxLocals := 3, code := jdk_43_method_13_code, exceptionTable := #[], attributes := #[] }
def k25m1 : Method := { name := "equals", desc := "([B[B)Z", sig := { parameters := [(.array .byte), (.array .byte)], returnType := some .boolean }, accessFlags := 9, code := some k25c1 }
/-- java/lang/StringLatin1 -/
def k25 : Class := { plain "java/lang/StringLatin1" (some 0) with
  accessFlags := 48
  interfaces := #[]
  cf := some (fileOf pool25 14 #[.nestMembers #[390, 221]] #[{ accessFlags := 0, nameIndex := 7, descriptorIndex := 8, attributes := #[] }, { accessFlags := 9, nameIndex := 281, descriptorIndex := 282, attributes := #[] }] 48 4 #[] #[{ accessFlags := 4120, nameIndex := 121, descriptorIndex := 122, attributes := #[] }])
  fields := #[{ name := "$assertionsDisabled", type := .boolean, accessFlags := 4120, slot := 0, constantValue := 0 }]
  methods := #[k25m0, k25m1]
  instanceTypes := #[]
  staticTypes := #[.boolean]
  resolved := Array.replicate 395 none
  statics := none }

def pool26 : Array CpInfo := pool [(9, u "<init>"), (6, .class_ 18), (1, u "java/lang/Object"), (0, u "()V"), (1, .class_ 23), (1, u "jdk/internal/util/ArraysSupport"), (0, u "LOG2_ARRAY_LONG_INDEX_SCALE"), (0, u "I"), (2, u "U"), (0, u "Ljdk/internal/misc/Unsafe;"), (8, u "BIG_ENDIAN"), (0, u "Z"), (8, u "LOG2_BYTE_BIT_SIZE"), (4, u "LOG2_ARRAY_INT_INDEX_SCALE"), (54, u "JLA"), (0, u "Ljdk/internal/access/JavaLangAccess;"), (11, u "LOG2_ARRAY_BOOLEAN_INDEX_SCALE"), (9, u "LOG2_ARRAY_BYTE_INDEX_SCALE"), (5, u "LOG2_ARRAY_CHAR_INDEX_SCALE"), (5, u "LOG2_ARRAY_SHORT_INDEX_SCALE"), (18, u "LOG2_ARRAY_FLOAT_INDEX_SCALE"), (24, u "LOG2_ARRAY_DOUBLE_INDEX_SCALE"), (89, u "T_BOOLEAN"), (2, u "T_CHAR"), (1, u "T_FLOAT"), (1, u "T_DOUBLE"), (1, u "T_BYTE"), (1, u "T_SHORT"), (1, u "T_INT"), (1, u "T_LONG"), (1, u "SOFT_MAX_ARRAY_LENGTH")] 83

def k26m0 : Method := { name := "<init>", desc := "()V", sig := { parameters := [], returnType := none }, accessFlags := 2, code := none }
/-- jdk/internal/util/ArraysSupport -/
def k26 : Class := { plain "jdk/internal/util/ArraysSupport" (some 0) with
  accessFlags := 33
  interfaces := #[]
  cf := some (fileOf pool26 21 #[] #[{ accessFlags := 2, nameIndex := 9, descriptorIndex := 19, attributes := #[] }] 33 16 #[] #[{ accessFlags := 24, nameIndex := 28, descriptorIndex := 29, attributes := #[] }, { accessFlags := 26, nameIndex := 38, descriptorIndex := 39, attributes := #[] }, { accessFlags := 25, nameIndex := 121, descriptorIndex := 25, attributes := #[] }, { accessFlags := 25, nameIndex := 131, descriptorIndex := 25, attributes := #[] }, { accessFlags := 25, nameIndex := 137, descriptorIndex := 25, attributes := #[] }, { accessFlags := 25, nameIndex := 143, descriptorIndex := 25, attributes := #[] }, { accessFlags := 25, nameIndex := 53, descriptorIndex := 25, attributes := #[] }, { accessFlags := 25, nameIndex := 24, descriptorIndex := 25, attributes := #[] }, { accessFlags := 25, nameIndex := 162, descriptorIndex := 25, attributes := #[] }, { accessFlags := 25, nameIndex := 187, descriptorIndex := 25, attributes := #[] }, { accessFlags := 26, nameIndex := 48, descriptorIndex := 25, attributes := #[] }, { accessFlags := 25, nameIndex := 277, descriptorIndex := 25, attributes := #[] }, { accessFlags := 25, nameIndex := 280, descriptorIndex := 25, attributes := #[] }, { accessFlags := 25, nameIndex := 282, descriptorIndex := 25, attributes := #[] }, { accessFlags := 25, nameIndex := 284, descriptorIndex := 25, attributes := #[] }, { accessFlags := 25, nameIndex := 286, descriptorIndex := 25, attributes := #[] }, { accessFlags := 25, nameIndex := 288, descriptorIndex := 25, attributes := #[] }, { accessFlags := 25, nameIndex := 290, descriptorIndex := 25, attributes := #[] }, { accessFlags := 25, nameIndex := 292, descriptorIndex := 25, attributes := #[] }, { accessFlags := 26, nameIndex := 108, descriptorIndex := 109, attributes := #[] }, { accessFlags := 25, nameIndex := 294, descriptorIndex := 25, attributes := #[] }])
  fields := #[{ name := "U", type := (.object "jdk/internal/misc/Unsafe"), accessFlags := 24, slot := 0, constantValue := 0 }, { name := "BIG_ENDIAN", type := .boolean, accessFlags := 26, slot := 1, constantValue := 0 }, { name := "LOG2_ARRAY_BOOLEAN_INDEX_SCALE", type := .int, accessFlags := 25, slot := 2, constantValue := 0 }, { name := "LOG2_ARRAY_BYTE_INDEX_SCALE", type := .int, accessFlags := 25, slot := 3, constantValue := 0 }, { name := "LOG2_ARRAY_CHAR_INDEX_SCALE", type := .int, accessFlags := 25, slot := 4, constantValue := 0 }, { name := "LOG2_ARRAY_SHORT_INDEX_SCALE", type := .int, accessFlags := 25, slot := 5, constantValue := 0 }, { name := "LOG2_ARRAY_INT_INDEX_SCALE", type := .int, accessFlags := 25, slot := 6, constantValue := 0 }, { name := "LOG2_ARRAY_LONG_INDEX_SCALE", type := .int, accessFlags := 25, slot := 7, constantValue := 0 }, { name := "LOG2_ARRAY_FLOAT_INDEX_SCALE", type := .int, accessFlags := 25, slot := 8, constantValue := 0 }, { name := "LOG2_ARRAY_DOUBLE_INDEX_SCALE", type := .int, accessFlags := 25, slot := 9, constantValue := 0 }, { name := "LOG2_BYTE_BIT_SIZE", type := .int, accessFlags := 26, slot := 10, constantValue := 0 }, { name := "T_BOOLEAN", type := .int, accessFlags := 25, slot := 11, constantValue := 0 }, { name := "T_CHAR", type := .int, accessFlags := 25, slot := 12, constantValue := 0 }, { name := "T_FLOAT", type := .int, accessFlags := 25, slot := 13, constantValue := 0 }, { name := "T_DOUBLE", type := .int, accessFlags := 25, slot := 14, constantValue := 0 }, { name := "T_BYTE", type := .int, accessFlags := 25, slot := 15, constantValue := 0 }, { name := "T_SHORT", type := .int, accessFlags := 25, slot := 16, constantValue := 0 }, { name := "T_INT", type := .int, accessFlags := 25, slot := 17, constantValue := 0 }, { name := "T_LONG", type := .int, accessFlags := 25, slot := 18, constantValue := 0 }, { name := "JLA", type := (.object "jdk/internal/access/JavaLangAccess"), accessFlags := 26, slot := 19, constantValue := 0 }, { name := "SOFT_MAX_ARRAY_LENGTH", type := .int, accessFlags := 25, slot := 20, constantValue := 0 }]
  methods := #[k26m0]
  instanceTypes := #[]
  staticTypes := #[(.object "jdk/internal/misc/Unsafe"), .boolean, .int, .int, .int, .int, .int, .int, .int, .int, .int, .int, .int, .int, .int, .int, .int, .int, .int, (.object "jdk/internal/access/JavaLangAccess"), .int]
  resolved := Array.replicate 378 none
  statics := none }

/-- the primitive byte -/
def k27 : Class := { plain "byte" none with kind := .primitive 'B', accessFlags := 0x411 }
/-- [B -/
def k28 : Class := { plain "[B" (some 0) with kind := .array 27 .byte, interfaces := #[19, 6], accessFlags := 1041 }

/-- the primitive int -/
def k29 : Class := { plain "int" none with kind := .primitive 'I', accessFlags := 0x411 }
/-- [I -/
def k30 : Class := { plain "[I" (some 0) with kind := .array 29 .int, interfaces := #[19, 6], accessFlags := 1041 }

/-- [Ljava/lang/Object; -/
def k31 : Class := { plain "[Ljava/lang/Object;" (some 0) with kind := .array 0 (.object "java/lang/Object"), interfaces := #[19, 6], accessFlags := 1041 }

def heap : Heap := #[{ cls := 8, slots := #[.ref 5, .null, .null, .null, .null, .ref 4, .null, .null], vm := .statics 8 },
  { cls := 11, slots := #[.long 0, .int 1, .null, .int 0, .null, .int 0, .int 0], vm := .statics 11 },
  { cls := 20, slots := #[.long 0, .int 0, .ref 6, .ref 7], vm := .statics 20 },
  { cls := 24, slots := #[.null, .null, .null], vm := .statics 24 },
  { cls := 8, slots := #[.null, .int 5, .int 0], vm := .none },
  { cls := 8, slots := #[.null, .int 0, .int 0], vm := .none },
  { cls := 31, slots := #[], vm := .none },
  { cls := 31, slots := #[], vm := .none }]
def classes : Array Class := #[k0, k1, k2, k3, k4, k5, k6, k7, k8, k9, k10, k11, k12, k13, k14, k15, k16, k17, k18, k19, k20, k21, k22, k23, k24, k25, k26, k27, k28, k29, k30, k31]
def interned : List (Array UInt16 × Addr) := []
def slotsUsed : Nat := 28
def theMethod : MethodId := ⟨1, 5⟩
def args0 : Array Value := #[.int 7, .int 9, .int 2]
def aboutOver (below : List Frame) : State where
  vm := { classes := classes, interned := interned.toArray }
  heap := heap
  slotsUsed := slotsUsed
  threads := #[{ frames := .invoking theMethod args0 :: below }]
def below0 : List Frame := [.native { method := ⟨0, 0⟩, args := #[] }]
def about1 : State := aboutOver below0
def p0 : Program := .bare "" "" ""
def e0 : Env := launch0.env 0 0 0
theorem w_frames : about1.frames = Frame.invoking theMethod args0 :: below0 := rfl
set_option maxRecDepth 65536 in
theorem w_args : argsFit about1.vm theMethod args0 = true := by decide +kernel
set_option maxRecDepth 65536 in
theorem w_heap : heapFits about1 = true := by decide +kernel
set_option maxRecDepth 65536 in
theorem w_runnable : about1.curStatus? = some .runnable := by decide +kernel
set_option maxRecDepth 65536 in
theorem w_alone : about1.alone = true := by decide +kernel
set_option maxRecDepth 65536 in
theorem w_named : about1.methodNamed? x = some theMethod := by decide +kernel
set_option maxRecDepth 65536 in
theorem w_hears : about1.hears theMethod below0 = true := by decide +kernel
set_option maxRecDepth 65536 in
theorem w_ripe : about1.ripe theMethod args0 below0 = true := by decide +kernel
theorem w_running : about1.status = .running := rfl
set_option maxRecDepth 65536 in
theorem w_room : about1.hasRoom e0.platform room_1 = true :=
  launch0.hasRoom_least _ room_1 (by decide +kernel) (by decide +kernel) (by decide +kernel) (by decide +kernel) (by decide +kernel) (by decide +kernel)
theorem allAtoms_all (ts : List Jvm.Cond) (a : Array Jvm.Value) (st : Jvm.State) : (allAtoms ts).before a st = ts.all (fun c => c.before a st) := by
  induction ts with
  | nil => rfl
  | cons c t ih =>
    show (Jvm.Cond.and c (allAtoms t)).before a st = _
    rw [Jvm.Cond.before_and, ih, List.all_cons]
def words1 : List Jvm.Cond := Jvm.Cond.code x code maxLocals ret :: tables_1
/-- a 'code' word, met by the world's own term for the bytes: nothing is compared byte by byte -/
theorem code_word {y : MethodName} {bytes : ByteArray} {mx : Nat} {rt : Option FieldType} {a : Array Value} {s : State} {m : MethodId} {meth : Method} {c : Code} (h1 : s.methodNamed? y = some m) (h2 : s.vm.method? m = some meth) (h3 : meth.code = some c) (h4 : c.code = bytes)
    (h5 : (c.maxLocals == mx && c.exceptionTable.isEmpty && decide (c.maxStack ≤ mostOperands) && decide (meth.sig.returnType = rt) && !meth.locks && decide (parseMethodDescriptor y.desc = some meth.sig)) = true) : (Jvm.Cond.code y bytes mx rt).before a s = true := by
  simp only [Bool.and_eq_true, beq_iff_eq, Bool.not_eq_true', decide_eq_true_eq] at h5
  obtain ⟨⟨⟨⟨⟨g1, g2⟩, g3⟩, g4⟩, g5⟩, g6⟩ := h5
  simp [Cond.before, Cond.holds, Cond.value, h1, h2, h3, h4, g1, g2, g3, g4, g5, g6]
def isCode : Jvm.Cond → Bool
  | .code _ _ _ _ => true
  | _ => false
theorem all_split {L : List Jvm.Cond} {P : Jvm.Cond → Bool} (h1 : L.all (fun c => isCode c || P c) = true) (h2 : ∀ c ∈ L.filter isCode, P c = true) : L.all P = true := by
  refine List.all_eq_true.mpr fun c hc => ?_
  have h := List.all_eq_true.mp h1 c hc
  rcases Bool.eq_false_or_eq_true (isCode c) with hi | hi
  · exact h2 c (List.mem_filter.mpr ⟨hc, hi⟩)
  · simpa [hi] using h
set_option maxRecDepth 65536 in
theorem w_c0 : (Jvm.Cond.code x code maxLocals ret).before args0 about1 = true := code_word (m := ⟨1, 5⟩) (meth := k1m5) (c := k1c5) (by decide +kernel) rfl rfl rfl (by decide +kernel)
set_option maxRecDepth 65536 in
theorem w_c1 : (Jvm.Cond.code ({ cls := "com/example/isocline/isocline/core/sql/TokensOpeningPinLaw", name := "token", desc := "(I)Lcom/example/isocline/isocline/core/sql/SqlToken;" } : Jvm.MethodName) method_2_code (1 : Nat) (Option.some (Jvm.ClassFile.FieldType.object "com/example/isocline/isocline/core/sql/SqlToken"))).before args0 about1 = true := code_word (m := ⟨1, 1⟩) (meth := k1m1) (c := k1c1) (by decide +kernel) rfl rfl rfl (by decide +kernel)
set_option maxRecDepth 65536 in
theorem w_c2 : (Jvm.Cond.code ({ cls := "com/example/isocline/isocline/core/sql/SqlToken", name := "<init>", desc := "(Lcom/example/isocline/isocline/core/sql/SqlToken$Kind;Ljava/lang/String;II)V" } : Jvm.MethodName) prog_65_method_1_code (5 : Nat) (Option.none : Option Jvm.ClassFile.FieldType)).before args0 about1 = true := code_word (m := ⟨3, 0⟩) (meth := k3m0) (c := k3c0) (by decide +kernel) rfl rfl rfl (by decide +kernel)
set_option maxRecDepth 65536 in
theorem w_c3 : (Jvm.Cond.code ({ cls := "java/lang/Record", name := "<init>", desc := "()V" } : Jvm.MethodName) jdk_30_method_1_code (1 : Nat) (Option.none : Option Jvm.ClassFile.FieldType)).before args0 about1 = true := code_word (m := ⟨2, 0⟩) (meth := k2m0) (c := k2c0) (by decide +kernel) rfl rfl rfl (by decide +kernel)
set_option maxRecDepth 65536 in
theorem w_c4 : (Jvm.Cond.code ({ cls := "java/lang/Object", name := "<init>", desc := "()V" } : Jvm.MethodName) object_method_1_code (1 : Nat) (Option.none : Option Jvm.ClassFile.FieldType)).before args0 about1 = true := code_word (m := ⟨0, 0⟩) (meth := k0m0) (c := k0c0) (by decide +kernel) rfl rfl rfl (by decide +kernel)
set_option maxRecDepth 65536 in
theorem w_c5 : (Jvm.Cond.code ({ cls := "java/util/ArrayList", name := "<init>", desc := "()V" } : Jvm.MethodName) jdk_38_method_2_code (1 : Nat) (Option.none : Option Jvm.ClassFile.FieldType)).before args0 about1 = true := code_word (m := ⟨20, 0⟩) (meth := k20m0) (c := k20c0) (by decide +kernel) rfl rfl rfl (by decide +kernel)
set_option maxRecDepth 65536 in
theorem w_c6 : (Jvm.Cond.code ({ cls := "java/util/AbstractList", name := "<init>", desc := "()V" } : Jvm.MethodName) jdk_39_method_1_code (1 : Nat) (Option.none : Option Jvm.ClassFile.FieldType)).before args0 about1 = true := code_word (m := ⟨17, 0⟩) (meth := k17m0) (c := k17c0) (by decide +kernel) rfl rfl rfl (by decide +kernel)
set_option maxRecDepth 65536 in
theorem w_c7 : (Jvm.Cond.code ({ cls := "java/util/AbstractCollection", name := "<init>", desc := "()V" } : Jvm.MethodName) jdk_22_method_1_code (1 : Nat) (Option.none : Option Jvm.ClassFile.FieldType)).before args0 about1 = true := code_word (m := ⟨14, 0⟩) (meth := k14m0) (c := k14c0) (by decide +kernel) rfl rfl rfl (by decide +kernel)
set_option maxRecDepth 65536 in
theorem w_c8 : (Jvm.Cond.code ({ cls := "java/util/ArrayList", name := "add", desc := "(Ljava/lang/Object;)Z" } : Jvm.MethodName) jdk_38_method_25_code (2 : Nat) (Option.some Jvm.ClassFile.FieldType.boolean)).before args0 about1 = true := code_word (m := ⟨20, 7⟩) (meth := k20m7) (c := k20c7) (by decide +kernel) rfl rfl rfl (by decide +kernel)
set_option maxRecDepth 65536 in
theorem w_c9 : (Jvm.Cond.code ({ cls := "java/util/ArrayList", name := "add", desc := "(Ljava/lang/Object;[Ljava/lang/Object;I)V" } : Jvm.MethodName) jdk_38_method_24_code (4 : Nat) (Option.none : Option Jvm.ClassFile.FieldType)).before args0 about1 = true := code_word (m := ⟨20, 6⟩) (meth := k20m6) (c := k20c6) (by decide +kernel) rfl rfl rfl (by decide +kernel)
set_option maxRecDepth 65536 in
theorem w_c10 : (Jvm.Cond.code ({ cls := "java/util/ArrayList", name := "grow", desc := "()[Ljava/lang/Object;" } : Jvm.MethodName) jdk_38_method_7_code (1 : Nat) (Option.some (Jvm.ClassFile.FieldType.array (Jvm.ClassFile.FieldType.object "java/lang/Object")))).before args0 about1 = true := code_word (m := ⟨20, 2⟩) (meth := k20m2) (c := k20c2) (by decide +kernel) rfl rfl rfl (by decide +kernel)
set_option maxRecDepth 65536 in
theorem w_c11 : (Jvm.Cond.code ({ cls := "java/util/ArrayList", name := "grow", desc := "(I)[Ljava/lang/Object;" } : Jvm.MethodName) jdk_38_method_6_code (4 : Nat) (Option.some (Jvm.ClassFile.FieldType.array (Jvm.ClassFile.FieldType.object "java/lang/Object")))).before args0 about1 = true := code_word (m := ⟨20, 1⟩) (meth := k20m1) (c := k20c1) (by decide +kernel) rfl rfl rfl (by decide +kernel)
set_option maxRecDepth 65536 in
theorem w_c12 : (Jvm.Cond.code ({ cls := "java/lang/Math", name := "max", desc := "(II)I" } : Jvm.MethodName) jdk_29_method_65_code (2 : Nat) (Option.some Jvm.ClassFile.FieldType.int)).before args0 about1 = true := code_word (m := ⟨21, 1⟩) (meth := k21m1) (c := k21c1) (by decide +kernel) rfl rfl rfl (by decide +kernel)
set_option maxRecDepth 65536 in
theorem w_c13 : (Jvm.Cond.code ({ cls := "com/example/isocline/isocline/core/sql/Tokens", name := "<init>", desc := "(Ljava/util/List;)V" } : Jvm.MethodName) prog_91_method_1_code (5 : Nat) (Option.none : Option Jvm.ClassFile.FieldType)).before args0 about1 = true := code_word (m := ⟨22, 0⟩) (meth := k22m0) (c := k22c0) (by decide +kernel) rfl rfl rfl (by decide +kernel)
set_option maxRecDepth 65536 in
theorem w_c14 : (Jvm.Cond.code ({ cls := "java/util/ArrayList", name := "size", desc := "()I" } : Jvm.MethodName) jdk_38_method_8_code (1 : Nat) (Option.some Jvm.ClassFile.FieldType.int)).before args0 about1 = true := code_word (m := ⟨20, 3⟩) (meth := k20m3) (c := k20c3) (by decide +kernel) rfl rfl rfl (by decide +kernel)
set_option maxRecDepth 65536 in
theorem w_c15 : (Jvm.Cond.code ({ cls := "java/util/ArrayList", name := "get", desc := "(I)Ljava/lang/Object;" } : Jvm.MethodName) jdk_38_method_20_code (2 : Nat) (Option.some (Jvm.ClassFile.FieldType.object "java/lang/Object"))).before args0 about1 = true := code_word (m := ⟨20, 5⟩) (meth := k20m5) (c := k20c5) (by decide +kernel) rfl rfl rfl (by decide +kernel)
set_option maxRecDepth 65536 in
theorem w_c16 : (Jvm.Cond.code ({ cls := "java/util/Objects", name := "checkIndex", desc := "(II)I" } : Jvm.MethodName) jdk_31_method_17_code (2 : Nat) (Option.some Jvm.ClassFile.FieldType.int)).before args0 about1 = true := code_word (m := ⟨23, 1⟩) (meth := k23m1) (c := k23c1) (by decide +kernel) rfl rfl rfl (by decide +kernel)
set_option maxRecDepth 65536 in
theorem w_c17 : (Jvm.Cond.code ({ cls := "jdk/internal/util/Preconditions", name := "checkIndex", desc := "(IILjava/util/function/BiFunction;)I" } : Jvm.MethodName) jdk_41_method_11_code (3 : Nat) (Option.some Jvm.ClassFile.FieldType.int)).before args0 about1 = true := code_word (m := ⟨24, 1⟩) (meth := k24m1) (c := k24c1) (by decide +kernel) rfl rfl rfl (by decide +kernel)
set_option maxRecDepth 65536 in
theorem w_c18 : (Jvm.Cond.code ({ cls := "java/util/ArrayList", name := "elementData", desc := "(I)Ljava/lang/Object;" } : Jvm.MethodName) jdk_38_method_18_code (2 : Nat) (Option.some (Jvm.ClassFile.FieldType.object "java/lang/Object"))).before args0 about1 = true := code_word (m := ⟨20, 4⟩) (meth := k20m4) (c := k20c4) (by decide +kernel) rfl rfl rfl (by decide +kernel)
set_option maxRecDepth 65536 in
theorem w_c19 : (Jvm.Cond.code ({ cls := "com/example/isocline/isocline/core/sql/SqlToken", name := "isSymbol", desc := "(Ljava/lang/String;)Z" } : Jvm.MethodName) prog_65_method_4_code (2 : Nat) (Option.some Jvm.ClassFile.FieldType.boolean)).before args0 about1 = true := code_word (m := ⟨3, 1⟩) (meth := k3m1) (c := k3c1) (by decide +kernel) rfl rfl rfl (by decide +kernel)
set_option maxRecDepth 65536 in
theorem w_c20 : (Jvm.Cond.code ({ cls := "java/lang/String", name := "equals", desc := "(Ljava/lang/Object;)Z" } : Jvm.MethodName) jdk_42_method_66_code (3 : Nat) (Option.some Jvm.ClassFile.FieldType.boolean)).before args0 about1 = true := code_word (m := ⟨11, 1⟩) (meth := k11m1) (c := k11c1) (by decide +kernel) rfl rfl rfl (by decide +kernel)
set_option maxRecDepth 65536 in
theorem w_c21 : (Jvm.Cond.code ({ cls := "java/lang/StringLatin1", name := "equals", desc := "([B[B)Z" } : Jvm.MethodName) jdk_43_method_13_code (3 : Nat) (Option.some Jvm.ClassFile.FieldType.boolean)).before args0 about1 = true := code_word (m := ⟨25, 1⟩) (meth := k25m1) (c := k25c1) (by decide +kernel) rfl rfl rfl (by decide +kernel)
set_option maxRecDepth 65536 in
theorem w_c22 : (Jvm.Cond.code ({ cls := "com/example/isocline/isocline/core/sql/Tokens", name := "opening", desc := "(I)I" } : Jvm.MethodName) prog_91_method_12_code (3 : Nat) (Option.some Jvm.ClassFile.FieldType.int)).before args0 about1 = true := code_word (m := ⟨22, 1⟩) (meth := k22m1) (c := k22c1) (by decide +kernel) rfl rfl rfl (by decide +kernel)
set_option maxRecDepth 65536 in
theorem w_c23 : (Jvm.Cond.code ({ cls := "com/example/isocline/isocline/core/sql/TokensOpeningPinLaw", name := "closes", desc := "(I)Z" } : Jvm.MethodName) method_4_code (1 : Nat) (Option.some Jvm.ClassFile.FieldType.boolean)).before args0 about1 = true := code_word (m := ⟨1, 3⟩) (meth := k1m3) (c := k1c3) (by decide +kernel) rfl rfl rfl (by decide +kernel)
set_option maxRecDepth 65536 in
theorem w_c24 : (Jvm.Cond.code ({ cls := "com/example/isocline/isocline/core/sql/TokensOpeningPinLaw", name := "step", desc := "([IIII)I" } : Jvm.MethodName) method_5_code (4 : Nat) (Option.some Jvm.ClassFile.FieldType.int)).before args0 about1 = true := code_word (m := ⟨1, 4⟩) (meth := k1m4) (c := k1c4) (by decide +kernel) rfl rfl rfl (by decide +kernel)
set_option maxRecDepth 65536 in
theorem w_c25 : (Jvm.Cond.code ({ cls := "com/example/isocline/isocline/core/sql/TokensOpeningPinLaw", name := "opens", desc := "(I)Z" } : Jvm.MethodName) method_3_code (1 : Nat) (Option.some Jvm.ClassFile.FieldType.boolean)).before args0 about1 = true := code_word (m := ⟨1, 2⟩) (meth := k1m2) (c := k1c2) (by decide +kernel) rfl rfl rfl (by decide +kernel)
def codes1 : List Jvm.Cond := [Jvm.Cond.code x code maxLocals ret, Jvm.Cond.code ({ cls := "com/example/isocline/isocline/core/sql/TokensOpeningPinLaw", name := "token", desc := "(I)Lcom/example/isocline/isocline/core/sql/SqlToken;" } : Jvm.MethodName) method_2_code (1 : Nat) (Option.some (Jvm.ClassFile.FieldType.object "com/example/isocline/isocline/core/sql/SqlToken")), Jvm.Cond.code ({ cls := "com/example/isocline/isocline/core/sql/SqlToken", name := "<init>", desc := "(Lcom/example/isocline/isocline/core/sql/SqlToken$Kind;Ljava/lang/String;II)V" } : Jvm.MethodName) prog_65_method_1_code (5 : Nat) (Option.none : Option Jvm.ClassFile.FieldType), Jvm.Cond.code ({ cls := "java/lang/Record", name := "<init>", desc := "()V" } : Jvm.MethodName) jdk_30_method_1_code (1 : Nat) (Option.none : Option Jvm.ClassFile.FieldType), Jvm.Cond.code ({ cls := "java/lang/Object", name := "<init>", desc := "()V" } : Jvm.MethodName) object_method_1_code (1 : Nat) (Option.none : Option Jvm.ClassFile.FieldType), Jvm.Cond.code ({ cls := "java/util/ArrayList", name := "<init>", desc := "()V" } : Jvm.MethodName) jdk_38_method_2_code (1 : Nat) (Option.none : Option Jvm.ClassFile.FieldType), Jvm.Cond.code ({ cls := "java/util/AbstractList", name := "<init>", desc := "()V" } : Jvm.MethodName) jdk_39_method_1_code (1 : Nat) (Option.none : Option Jvm.ClassFile.FieldType), Jvm.Cond.code ({ cls := "java/util/AbstractCollection", name := "<init>", desc := "()V" } : Jvm.MethodName) jdk_22_method_1_code (1 : Nat) (Option.none : Option Jvm.ClassFile.FieldType), Jvm.Cond.code ({ cls := "java/util/ArrayList", name := "add", desc := "(Ljava/lang/Object;)Z" } : Jvm.MethodName) jdk_38_method_25_code (2 : Nat) (Option.some Jvm.ClassFile.FieldType.boolean), Jvm.Cond.code ({ cls := "java/util/ArrayList", name := "add", desc := "(Ljava/lang/Object;[Ljava/lang/Object;I)V" } : Jvm.MethodName) jdk_38_method_24_code (4 : Nat) (Option.none : Option Jvm.ClassFile.FieldType), Jvm.Cond.code ({ cls := "java/util/ArrayList", name := "grow", desc := "()[Ljava/lang/Object;" } : Jvm.MethodName) jdk_38_method_7_code (1 : Nat) (Option.some (Jvm.ClassFile.FieldType.array (Jvm.ClassFile.FieldType.object "java/lang/Object"))), Jvm.Cond.code ({ cls := "java/util/ArrayList", name := "grow", desc := "(I)[Ljava/lang/Object;" } : Jvm.MethodName) jdk_38_method_6_code (4 : Nat) (Option.some (Jvm.ClassFile.FieldType.array (Jvm.ClassFile.FieldType.object "java/lang/Object"))), Jvm.Cond.code ({ cls := "java/lang/Math", name := "max", desc := "(II)I" } : Jvm.MethodName) jdk_29_method_65_code (2 : Nat) (Option.some Jvm.ClassFile.FieldType.int), Jvm.Cond.code ({ cls := "com/example/isocline/isocline/core/sql/Tokens", name := "<init>", desc := "(Ljava/util/List;)V" } : Jvm.MethodName) prog_91_method_1_code (5 : Nat) (Option.none : Option Jvm.ClassFile.FieldType), Jvm.Cond.code ({ cls := "java/util/ArrayList", name := "size", desc := "()I" } : Jvm.MethodName) jdk_38_method_8_code (1 : Nat) (Option.some Jvm.ClassFile.FieldType.int), Jvm.Cond.code ({ cls := "java/util/ArrayList", name := "get", desc := "(I)Ljava/lang/Object;" } : Jvm.MethodName) jdk_38_method_20_code (2 : Nat) (Option.some (Jvm.ClassFile.FieldType.object "java/lang/Object")), Jvm.Cond.code ({ cls := "java/util/Objects", name := "checkIndex", desc := "(II)I" } : Jvm.MethodName) jdk_31_method_17_code (2 : Nat) (Option.some Jvm.ClassFile.FieldType.int), Jvm.Cond.code ({ cls := "jdk/internal/util/Preconditions", name := "checkIndex", desc := "(IILjava/util/function/BiFunction;)I" } : Jvm.MethodName) jdk_41_method_11_code (3 : Nat) (Option.some Jvm.ClassFile.FieldType.int), Jvm.Cond.code ({ cls := "java/util/ArrayList", name := "elementData", desc := "(I)Ljava/lang/Object;" } : Jvm.MethodName) jdk_38_method_18_code (2 : Nat) (Option.some (Jvm.ClassFile.FieldType.object "java/lang/Object")), Jvm.Cond.code ({ cls := "com/example/isocline/isocline/core/sql/SqlToken", name := "isSymbol", desc := "(Ljava/lang/String;)Z" } : Jvm.MethodName) prog_65_method_4_code (2 : Nat) (Option.some Jvm.ClassFile.FieldType.boolean), Jvm.Cond.code ({ cls := "java/lang/String", name := "equals", desc := "(Ljava/lang/Object;)Z" } : Jvm.MethodName) jdk_42_method_66_code (3 : Nat) (Option.some Jvm.ClassFile.FieldType.boolean), Jvm.Cond.code ({ cls := "java/lang/StringLatin1", name := "equals", desc := "([B[B)Z" } : Jvm.MethodName) jdk_43_method_13_code (3 : Nat) (Option.some Jvm.ClassFile.FieldType.boolean), Jvm.Cond.code ({ cls := "com/example/isocline/isocline/core/sql/Tokens", name := "opening", desc := "(I)I" } : Jvm.MethodName) prog_91_method_12_code (3 : Nat) (Option.some Jvm.ClassFile.FieldType.int), Jvm.Cond.code ({ cls := "com/example/isocline/isocline/core/sql/TokensOpeningPinLaw", name := "closes", desc := "(I)Z" } : Jvm.MethodName) method_4_code (1 : Nat) (Option.some Jvm.ClassFile.FieldType.boolean), Jvm.Cond.code ({ cls := "com/example/isocline/isocline/core/sql/TokensOpeningPinLaw", name := "step", desc := "([IIII)I" } : Jvm.MethodName) method_5_code (4 : Nat) (Option.some Jvm.ClassFile.FieldType.int), Jvm.Cond.code ({ cls := "com/example/isocline/isocline/core/sql/TokensOpeningPinLaw", name := "opens", desc := "(I)Z" } : Jvm.MethodName) method_3_code (1 : Nat) (Option.some Jvm.ClassFile.FieldType.boolean)]
set_option maxRecDepth 65536 in
theorem codes_eq : words1.filter isCode = codes1 := rfl
theorem w_codes : ∀ c ∈ words1.filter isCode, c.before args0 about1 = true := by
  rw [codes_eq]
  intro c hc
  simp only [codes1, List.mem_cons, List.not_mem_nil, or_false] at hc
  rcases hc with rfl | rfl | rfl | rfl | rfl | rfl | rfl | rfl | rfl | rfl | rfl | rfl | rfl | rfl | rfl | rfl | rfl | rfl | rfl | rfl | rfl | rfl | rfl | rfl | rfl | rfl
  · exact w_c0
  · exact w_c1
  · exact w_c2
  · exact w_c3
  · exact w_c4
  · exact w_c5
  · exact w_c6
  · exact w_c7
  · exact w_c8
  · exact w_c9
  · exact w_c10
  · exact w_c11
  · exact w_c12
  · exact w_c13
  · exact w_c14
  · exact w_c15
  · exact w_c16
  · exact w_c17
  · exact w_c18
  · exact w_c19
  · exact w_c20
  · exact w_c21
  · exact w_c22
  · exact w_c23
  · exact w_c24
  · exact w_c25
set_option maxRecDepth 65536 in
theorem w_t1 : (words1.take 24).all (fun c => isCode c || c.before args0 about1) = true := by decide +kernel
set_option maxRecDepth 65536 in
theorem w_t2 : ((words1.drop 24).take 24).all (fun c => isCode c || c.before args0 about1) = true := by decide +kernel
set_option maxRecDepth 65536 in
theorem w_t3 : (((words1.drop 24).drop 24).take 24).all (fun c => isCode c || c.before args0 about1) = true := by decide +kernel
set_option maxRecDepth 65536 in
theorem w_t4 : ((((words1.drop 24).drop 24).drop 24).take 24).all (fun c => isCode c || c.before args0 about1) = true := by decide +kernel
set_option maxRecDepth 65536 in
theorem w_t5 : (((((words1.drop 24).drop 24).drop 24).drop 24).take 24).all (fun c => isCode c || c.before args0 about1) = true := by decide +kernel
set_option maxRecDepth 65536 in
theorem w_t6 : ((((((words1.drop 24).drop 24).drop 24).drop 24).drop 24).take 24).all (fun c => isCode c || c.before args0 about1) = true := by decide +kernel
set_option maxRecDepth 65536 in
theorem w_t7 : (((((((words1.drop 24).drop 24).drop 24).drop 24).drop 24).drop 24).take 24).all (fun c => isCode c || c.before args0 about1) = true := by decide +kernel
set_option maxRecDepth 65536 in
theorem w_t8 : (((((((words1.drop 24).drop 24).drop 24).drop 24).drop 24).drop 24).drop 24).all (fun c => isCode c || c.before args0 about1) = true := by decide +kernel
theorem w_tables : (allAtoms (Jvm.Cond.code x code maxLocals ret :: tables_1)).before args0 about1 = true := by
  rw [allAtoms_all]
  show words1.all (fun c => c.before args0 about1) = true
  refine all_split ?_ w_codes
  rw [← List.take_append_drop 24 words1, List.all_append, w_t1, ← List.take_append_drop 24 (words1.drop 24), List.all_append, w_t2, ← List.take_append_drop 24 ((words1.drop 24).drop 24), List.all_append, w_t3, ← List.take_append_drop 24 (((words1.drop 24).drop 24).drop 24), List.all_append, w_t4, ← List.take_append_drop 24 ((((words1.drop 24).drop 24).drop 24).drop 24), List.all_append, w_t5, ← List.take_append_drop 24 (((((words1.drop 24).drop 24).drop 24).drop 24).drop 24), List.all_append, w_t6, ← List.take_append_drop 24 ((((((words1.drop 24).drop 24).drop 24).drop 24).drop 24).drop 24), List.all_append, w_t7, w_t8]
  rfl
set_option maxRecDepth 65536 in
theorem w_rest : rest_1_c.before args0 about1 = true := by decide +kernel
set_option maxRecDepth 65536 in
theorem w_case : (Jvm.Cond.and given_1 narrow_1).before args0 about1 = true := by decide +kernel
set_option maxRecDepth 65536 in
theorem w_consts : constsHeld consts_1 about1 := Jvm.Lit.constsHeldB_iff.mp (by decide +kernel)
theorem w_applies : (headSpec (Jvm.Cond.code x code maxLocals ret :: tables_1) room_1).applies x e0.platform about1 = true :=
  (Spec.applies_iff w_frames).mpr ⟨w_running, w_runnable, w_alone, w_named, w_hears, w_ripe, w_room, w_tables⟩
theorem atStart : AtStart classFile x code maxLocals ret World_1 tables_1 room_1 Calls_1 rest_1 Pre_1 launch0 p0 e0 about1 theMethod args0 below0 :=
  ⟨lists_1, trivial, launch0.admits_env _ _ _, launch0.least_env, fairChoices_fair.cas, fairChoices_fair.clock, w_frames, w_args, w_heap, w_applies, ⟨w_consts, trivial⟩, w_rest, w_case⟩
end start1
theorem witness_1 : WitnessClaimed_1 := ⟨start1.p0, start1.e0, start1.about1, start1.theMethod, start1.args0, start1.below0, start1.atStart⟩
end Jvm.Pilot.@@N@@
