import JvmDerived
import JvmDerived.Pilot.@@N@@Statement
import JvmDerived.Pilot.@@N@@Code
set_option linter.unusedVariables false
set_option linter.unusedSimpArgs false
namespace Jvm.Pilot.@@N@@
open Jvm Jvm.ClassFile Sem Op Lib Jvm.Free Jvm.Stand Jvm.LawKit Jvm.RoadKit Bundle Jvm.Pilot.@@N@@.Jvm.D
section Own
variable {p : Program} {l : Launch} {e : Env} {R : Room} {s : State} {m : MethodId} {args : Array Value} {below : List Frame} {meth : Method} {c : Code} {T : State} {locs : List Loc} {cells slots : Nat} {Z : State} {a0 : Array Value} {h : Heap}
/-- the walk ends from A: it returns, Q holds, the frame is kept -/
def own_E (p : Program) (e : Env) (below : List Frame) (s : State) (Q : Option Value → Heap → List Loc → Prop) (K N : Nat) (A : State) : Prop :=
  ∃ t o, Steps p.tables e below A t ∧ t.status = .running ∧ Ended t below o ∧ ∃ v L, o = .returned v ∧ Q v t.heap L ∧ FrameEnd s o t L K N
variable {Q : Option Value → Heap → List Loc → Prop} {K N : Nat} {A A' : State}
theorem own_go (h : ∀ t, Steps p.tables e below A' t → Steps p.tables e below A t) (k : own_E p e below s Q K N A') : own_E p e below s Q K N A := by
  obtain ⟨t, o, h1, h2⟩ := k
  exact ⟨t, o, h _ h1, h2⟩
theorem own_ret (X : Stand p l e R s m args below meth c T locs cells slots) (hx : p.tables.exec = Jvm.exec) {pc : Nat} {Ls : Array Slot} {w : Value} {t : FieldType} {i : Instr} {rest : List Value} (hret : meth.sig.returnType = some t) (hlk : meth.locks = false) (hn : narrow t w = w)
    (hi : (i = .ireturn ∧ (t = .int ∨ t = .boolean ∨ t = .byte ∨ t = .char ∨ t = .short) ∧ ∃ z, w = .int z) ∨ (i = .lreturn ∧ t = .long ∧ ∃ z, w = .long z) ∨ (i = .dreturn ∧ t = .double ∧ ∃ z, w = .double z) ∨ (i = .freturn ∧ t = .float ∧ ∃ z, w = .float z) ∨ (i = .areturn ∧ t.isReference = true ∧ w.isRef = true))
    (hd : decode c.code pc = .ok (i, 1)) (hQ : Q (some w) T.heap locs) (hK : cells ≤ K) (hN : slots ≤ N) : own_E p e below s Q K N (T.setTop (mkF m pc Ls (w :: rest))) := by
  obtain ⟨fs, hr, hrun, hended, hW, hsame⟩ := X.leave (v := some w) (fun h => by rw [hret] at h; cases h) hlk
  exact ⟨_, _, retOut X hx hret hn hi hd hr, hrun, hended, _, _, rfl, hQ, ⟨_, rfl⟩, hW, hsame.mono hK hN⟩
theorem own_ret0 (X : Stand p l e R s m args below meth c T locs cells slots) (hx : p.tables.exec = Jvm.exec) {pc : Nat} {Ls : Array Slot} (hret : meth.sig.returnType = none) (hlk : meth.locks = false)
    (hd : decode c.code pc = .ok (.return_, 1)) (hQ : Q none T.heap locs) (hK : cells ≤ K) (hN : slots ≤ N) : own_E p e below s Q K N (T.setTop (mkF m pc Ls [])) := by
  obtain ⟨fs, hr, hrun, hended, hW, hsame⟩ := X.leave (v := none) (fun _ => rfl) hlk
  exact ⟨_, _, X.returnOut hx hret hd hr, hrun, hended, _, _, rfl, hQ, ⟨_, rfl⟩, hW, hsame.mono hK hN⟩
/-- what a callee is asked: its contract -/
abbrev own_M (l : Launch) (y : MethodName) (bytes : ByteArray) (maxL : Nat) (ret : Option FieldType) (rm : Room) (Z : State) (as' : Array Value) (h : Heap) (Q : Option Value → Heap → List Loc → Prop) : Prop :=
  MetFree l y (head1 [Jvm.Cond.code y bytes maxL ret] rm) (fun a U => a = as' ∧ Z.Warmed39 U.vm ∧ U.heap = h) (fun _ _ _ _ _ => True) (fun _ U o U' => ∃ v L, o = .returned v ∧ Q v U'.heap L ∧ FrameEnd U o U' L rm.cells rm.slots)
theorem own_callS (X : Stand p l e R s m args below meth c T locs cells slots) (hx : p.tables.exec = Jvm.exec) (hZ : Z.Warmed39 s.vm) {own : String} {index : Nat} {y : MethodName} {bytes : ByteArray} {maxL : Nat} {ret : Option FieldType} {rm : Room} {W : Nat} {argsL rest : List Value}
    (hown : s.vm.findClass own = some m.cls) (w1 : (Jvm.Cond.methodLink own index y).before a0 Z = true) (w2 : (Jvm.Cond.static y).before a0 Z = true) (w3 : (Jvm.Cond.initialized y.cls).before a0 Z = true) (w4 : (Jvm.Cond.code y bytes maxL ret).before a0 Z = true)
    (hy : y.cls ≠ "java/lang/invoke/MethodHandle" ∧ y.cls ≠ "java/lang/invoke/VarHandle") (hM : own_M l y bytes maxL ret rm Z argsL.toArray h Q) (eT : T.heap = h)
    (hf : rm.frames + 1 ≤ R.frames) (hl : W + (maxL + 11) + rm.locals ≤ R.locals) (hc : cells + rm.cells ≤ R.cells) (hs : slots + rm.slots ≤ R.slots)
    {g : JFrame} (hg : g.method = m) (hsize : g.locals.size = c.maxLocals) (hlen : ∀ sig, parseMethodDescriptor y.desc = some sig → argsL.length = sig.parameters.length)
    (hstack : g.stack = argsL.reverse ++ rest) (hW : 2 * g.monitorRoom + (rest.map fun v => v.category).sum ≤ W) (hdg : decode c.code g.pc = .ok (.invokestatic index, 3)) :
    ∃ v T' L, Stand p l e R s m args below meth c T' (locs ++ L) (cells + rm.cells) (slots + rm.slots) ∧ Q v T'.heap L ∧ ∀ target, Steps p.tables e below (T'.setTop { g with pc := g.pc + 3, stack := v.toList ++ rest }) target → Steps p.tables e below (T.setTop g) target := by
  obtain ⟨v, _, ⟨T', L', k', n'⟩, -, X', ⟨L, hQ, e1, e2, e3⟩, st⟩ := Jvm.LawKit.callS X hx (y := y) hown (mvT hZ w1) (mvT hZ w2) (mvT hZ w3) (mvT hZ w4) hy (backOf (W := W) hM hZ w4 w3 hf hl) hg hsize hlen hstack hW hdg (fun _ _ => ⟨rfl, eT, hc, hs⟩)
  dsimp only [Pt.U, Pt.locs, Pt.cells, Pt.slots] at X' e1 e2 e3 st hQ
  subst e1 e2 e3
  exact ⟨v, T', L, X', hQ, st⟩
theorem own_callV (X : Stand p l e R s m args below meth c T locs cells slots) (hx : p.tables.exec = Jvm.exec) (hZ : Z.Warmed39 s.vm) {own C : String} {index : Nat} {y : MethodName} {bytes : ByteArray} {maxL : Nat} {ret : Option FieldType} {rm : Room} {W : Nat} {b : Addr} {argsL rest : List Value}
    (hown : s.vm.findClass own = some m.cls) (w1 : (Jvm.Cond.methodLink own index y).before a0 Z = true) (w2 : (Jvm.Cond.declares y).before a0 Z = true) (w3 : (Jvm.Cond.selects C y y).before a0 Z = true) (w4 : (Jvm.Cond.instanceMethod y).before a0 Z = true) (w5 : (Jvm.Cond.code y bytes maxL ret).before a0 Z = true) (w6 : (Jvm.Cond.initialized y.cls).before a0 Z = true)
    (hy : y.cls ≠ "java/lang/invoke/MethodHandle" ∧ y.cls ≠ "java/lang/invoke/VarHandle") (hM : own_M l y bytes maxL ret rm Z (.ref b :: argsL).toArray h Q) (eT : T.heap = h) (E : Exa Z h b C)
    (hf : rm.frames + 1 ≤ R.frames) (hl : W + (maxL + 11) + rm.locals ≤ R.locals) (hc : cells + rm.cells ≤ R.cells) (hs : slots + rm.slots ≤ R.slots)
    {g : JFrame} (hg : g.method = m) (hsize : g.locals.size = c.maxLocals) (hlen : ∀ sig, parseMethodDescriptor y.desc = some sig → argsL.length = sig.parameters.length)
    (hstack : g.stack = argsL.reverse ++ .ref b :: rest) (hW : 2 * g.monitorRoom + (rest.map fun v => v.category).sum ≤ W) (hdg : decode c.code g.pc = .ok (.invokevirtual index, 3)) :
    ∃ v T' L, Stand p l e R s m args below meth c T' (locs ++ L) (cells + rm.cells) (slots + rm.slots) ∧ Q v T'.heap L ∧ ∀ target, Steps p.tables e below (T'.setTop { g with pc := g.pc + 3, stack := v.toList ++ rest }) target → Steps p.tables e below (T.setTop g) target := by
  obtain ⟨cq, kq, q1, -, q3⟩ := isOf hZ eT E
  obtain ⟨v, _, ⟨T', L', k', n'⟩, -, X', ⟨L, hQ, e1, e2, e3⟩, st⟩ := X.virtualBack hx (y := y) (z := y) hown (mvT hZ w1) (mvT hZ w2) (notFace_of_selects (args := #[]) (mvT hZ w3)) (mvT hZ w3) (mvT hZ w4) hy (backOf (W := W) hM hZ w5 w6 hf hl) q1 q3 hg hsize (Steps.refl _) hlen hstack hW hdg (fun _ _ => ⟨rfl, eT, hc, hs⟩)
  dsimp only [Pt.U, Pt.locs, Pt.cells, Pt.slots] at X' e1 e2 e3 st hQ
  subst e1 e2 e3
  exact ⟨v, T', L, X', hQ, fun _ k => st.trans k⟩
theorem own_callI (X : Stand p l e R s m args below meth c T locs cells slots) (hx : p.tables.exec = Jvm.exec) (hZ : Z.Warmed39 s.vm) {own : String} {index : Nat} {y : MethodName} {bytes : ByteArray} {maxL : Nat} {rm : Room} {W : Nat} {b : Addr} {argsL rest : List Value}
    (hown : s.vm.findClass own = some m.cls) (hy1 : y.name = "<init>") (w1 : (Jvm.Cond.methodLink own index y).before a0 Z = true) (w2 : (Jvm.Cond.instanceMethod y).before a0 Z = true) (w3 : (Jvm.Cond.initialized y.cls).before a0 Z = true) (w4 : (Jvm.Cond.code y bytes maxL none).before a0 Z = true)
    (hy : y.cls ≠ "java/lang/invoke/MethodHandle" ∧ y.cls ≠ "java/lang/invoke/VarHandle") (hM : own_M l y bytes maxL none rm Z (.ref b :: argsL).toArray h Q) (eT : T.heap = h)
    (hf : rm.frames + 1 ≤ R.frames) (hl : W + (maxL + 11) + rm.locals ≤ R.locals) (hc : cells + rm.cells ≤ R.cells) (hs : slots + rm.slots ≤ R.slots)
    {g : JFrame} (hg : g.method = m) (hsize : g.locals.size = c.maxLocals) (hlen : ∀ sig, parseMethodDescriptor y.desc = some sig → argsL.length = sig.parameters.length)
    (hstack : g.stack = argsL.reverse ++ .ref b :: rest) (hW : 2 * g.monitorRoom + (rest.map fun v => v.category).sum ≤ W) (hdg : decode c.code g.pc = .ok (.invokespecial index, 3)) :
    ∃ v T' L, Stand p l e R s m args below meth c T' (locs ++ L) (cells + rm.cells) (slots + rm.slots) ∧ Q v T'.heap L ∧ ∀ target, Steps p.tables e below (T'.setTop { g with pc := g.pc + 3, stack := v.toList ++ rest }) target → Steps p.tables e below (T.setTop g) target := by
  obtain ⟨v, _, ⟨T', L', k', n'⟩, -, X', ⟨L, hQ, e1, e2, e3⟩, st⟩ := X.specialBack hx (y := y) hy1 hown (mvT hZ w1) (mvT hZ w2) (mvT hZ w4) hy (backOf (W := W) hM hZ w4 w3 hf hl) hg hsize (Steps.refl _) hlen hstack hW hdg (fun _ _ => ⟨rfl, eT, hc, hs⟩)
  dsimp only [Pt.U, Pt.locs, Pt.cells, Pt.slots] at X' e1 e2 e3 st hQ
  subst e1 e2 e3
  exact ⟨v, T', L, X', hQ, fun _ k => st.trans k⟩
theorem own_callVU (X : Stand p l e R s m args below meth c T locs cells slots) (hx : p.tables.exec = Jvm.exec) (hZ : Z.Warmed39 s.vm) {own C owner : String} {index : Nat} {y z : MethodName} {bytes : ByteArray} {maxL : Nat} {ret : Option FieldType} {rm : Room} {W : Nat} {b : Addr} {argsL rest : List Value}
    (hown : s.vm.findClass own = some m.cls) (w1 : (Jvm.Cond.methodLink own index y).before a0 Z = true) (w2 : (Jvm.Cond.sameMethod y.cls owner y.name y.desc).before a0 Z = true) (w2' : (Jvm.Cond.declares ⟨owner, y.name, y.desc⟩).before a0 Z = true) (w3 : (Jvm.Cond.selects C y z).before a0 Z = true) (w4 : (Jvm.Cond.instanceMethod z).before a0 Z = true) (w5 : (Jvm.Cond.code z bytes maxL ret).before a0 Z = true) (w6 : (Jvm.Cond.initialized z.cls).before a0 Z = true)
    (hy : owner ≠ "java/lang/invoke/MethodHandle" ∧ owner ≠ "java/lang/invoke/VarHandle") (hM : own_M l z bytes maxL ret rm Z (.ref b :: argsL).toArray h Q) (eT : T.heap = h) (E : Exa Z h b C)
    (hf : rm.frames + 1 ≤ R.frames) (hl : W + (maxL + 11) + rm.locals ≤ R.locals) (hc : cells + rm.cells ≤ R.cells) (hs : slots + rm.slots ≤ R.slots)
    {g : JFrame} (hg : g.method = m) (hsize : g.locals.size = c.maxLocals) (hlen : ∀ sig, parseMethodDescriptor y.desc = some sig → argsL.length = sig.parameters.length)
    (hstack : g.stack = argsL.reverse ++ .ref b :: rest) (hW : 2 * g.monitorRoom + (rest.map fun v => v.category).sum ≤ W) (hdg : decode c.code g.pc = .ok (.invokevirtual index, 3)) :
    ∃ v T' L, Stand p l e R s m args below meth c T' (locs ++ L) (cells + rm.cells) (slots + rm.slots) ∧ Q v T'.heap L ∧ ∀ target, Steps p.tables e below (T'.setTop { g with pc := g.pc + 3, stack := v.toList ++ rest }) target → Steps p.tables e below (T.setTop g) target := by
  obtain ⟨cq, kq, q1, -, q3⟩ := isOf hZ eT E
  obtain ⟨v, _, ⟨T', L', k', n'⟩, -, X', ⟨L, hQ, e1, e2, e3⟩, st⟩ := X.virtualBackUp hx (x := y) (y := z) hown (mvT hZ w1) (mvT hZ w2) (mvT hZ w2') hy (mvT hZ w3) (mvT hZ w4) (backOf (W := W) hM hZ w5 w6 hf hl) q1 q3 hg hsize (Steps.refl _) hlen hstack hW hdg (fun _ _ => ⟨rfl, eT, hc, hs⟩)
  dsimp only [Pt.U, Pt.locs, Pt.cells, Pt.slots] at X' e1 e2 e3 st hQ
  subst e1 e2 e3
  exact ⟨v, T', L, X', hQ, fun _ k => st.trans k⟩
theorem own_aaload (X : Stand p l e R s m args below meth c T locs cells slots) (hx : p.tables.exec = Jvm.exec) (hZ : Z.Warmed39 s.vm) (eT : T.heap = h) {a : Addr} {cl : Cell} {ty : FieldType} (F : Arr Z h a cl ty) (hty : ty.isReference = true) {j : Int32} {v : Value} (hin : ¬ (j < 0 ∨ cl.slots.size ≤ j.toNatClampNeg)) (hv : cl.slots[j.toNatClampNeg]? = some v)
    {g : JFrame} (hg : g.method = m) {rest : List Value} (hs : g.stack = .int j :: .ref a :: rest) (hd : decode c.code g.pc = .ok (.aaload, 1)) : ∀ target, Steps p.tables e below (T.setTop { g with pc := g.pc + 1, stack := v :: rest }) target → Steps p.tables e below (T.setTop g) target :=
  X.aaload hx (by rw [eT]; exact F.1) (State.isArrayOf_alike hZ.alike F.2.1) hty F.2.2 hin hv hg hs hd
theorem own_laload (X : Stand p l e R s m args below meth c T locs cells slots) (hx : p.tables.exec = Jvm.exec) (hZ : Z.Warmed39 s.vm) (eT : T.heap = h) {a : Addr} {cl : Cell} (F : Arr Z h a cl .long) {j : Int32} {v : Value} (hin : ¬ (j < 0 ∨ cl.slots.size ≤ j.toNatClampNeg)) (hv : cl.slots[j.toNatClampNeg]? = some v)
    {g : JFrame} (hg : g.method = m) {rest : List Value} (hs : g.stack = .int j :: .ref a :: rest) (hd : decode c.code g.pc = .ok (.laload, 1)) : ∀ target, Steps p.tables e below (T.setTop { g with pc := g.pc + 1, stack := v :: rest }) target → Steps p.tables e below (T.setTop g) target :=
  X.laload hx (by rw [eT]; exact F.1) (State.isArrayOf_alike hZ.alike F.2.1) F.2.2 hin hv hg hs hd
theorem own_baload (X : Stand p l e R s m args below meth c T locs cells slots) (hx : p.tables.exec = Jvm.exec) (hZ : Z.Warmed39 s.vm) (eT : T.heap = h) {a : Addr} {cl : Cell} (F : Arr Z h a cl .byte) {j : Int32} {v : Value} (hin : ¬ (j < 0 ∨ cl.slots.size ≤ j.toNatClampNeg)) (hv : cl.slots[j.toNatClampNeg]? = some v)
    {g : JFrame} (hg : g.method = m) {rest : List Value} (hs : g.stack = .int j :: .ref a :: rest) (hd : decode c.code g.pc = .ok (.baload, 1)) : ∀ target, Steps p.tables e below (T.setTop { g with pc := g.pc + 1, stack := v :: rest }) target → Steps p.tables e below (T.setTop g) target :=
  X.baloadBytes hx (by rw [eT]; exact F.1) (State.isArrayOf_alike hZ.alike F.2.1) F.2.2 hin hv hg hs hd
theorem own_zaload (X : Stand p l e R s m args below meth c T locs cells slots) (hx : p.tables.exec = Jvm.exec) (hZ : Z.Warmed39 s.vm) (eT : T.heap = h) {a : Addr} {cl : Cell} (F : Arr Z h a cl .boolean) {j : Int32} {v : Value} (hin : ¬ (j < 0 ∨ cl.slots.size ≤ j.toNatClampNeg)) (hv : cl.slots[j.toNatClampNeg]? = some v)
    {g : JFrame} (hg : g.method = m) {rest : List Value} (hs : g.stack = .int j :: .ref a :: rest) (hd : decode c.code g.pc = .ok (.baload, 1)) : ∀ target, Steps p.tables e below (T.setTop { g with pc := g.pc + 1, stack := v :: rest }) target → Steps p.tables e below (T.setTop g) target :=
  X.baloadBooleans hx (by rw [eT]; exact F.1) (State.isArrayOf_alike hZ.alike F.2.1) F.2.2 hin hv hg hs hd
theorem own_alen (X : Stand p l e R s m args below meth c T locs cells slots) (hx : p.tables.exec = Jvm.exec) (hZ : Z.Warmed39 s.vm) (eT : T.heap = h) {a : Addr} {cl : Cell} {ty : FieldType} (F : Arr Z h a cl ty) {n : Int32} (hn : cl.slots.size.toInt32 = n)
    {g : JFrame} (hg : g.method = m) {rest : List Value} (hs : g.stack = .ref a :: rest) (hd : decode c.code g.pc = .ok (.arraylength, 1)) : ∀ target, Steps p.tables e below (T.setTop { g with pc := g.pc + 1, stack := .int n :: rest }) target → Steps p.tables e below (T.setTop g) target :=
  fun t k => X.arraylength hx (by rw [eT]; exact F.1) (State.isArrayOf_alike hZ.alike F.2.1) hg hs hd t (by rw [hn]; exact k)
theorem own_elemS {t u : Term} {a w : Addr} {cl : Cell} {k : Int32} (ev : t.eval args s none [] s = some (.ref a)) (hc : s.heap[a]? = some cl) (evu : u.eval args s none [] s = some (.ref w)) (he : (Jvm.Cond.eq (.elem t (.int k)) u).value args s none s [] = some true) :
    ¬ (k < 0 ∨ cl.slots.size ≤ k.toNatClampNeg) ∧ cl.slots[k.toNatClampNeg]? = some (.ref w) := by
  obtain ⟨x, y, h1, h2, h3, h4⟩ := cmp_v (Or.inl he)
  cases evu.symm.trans h2
  have h5 := gotT (eq_R h1 h2 h4.2 rfl) he
  subst h5
  exact elem_in h1 ev (Term.int_eval k) hc
theorem own_lenS {t : Term} {a : Addr} {cl : Cell} {n : Int32} (ev : t.eval args s none [] s = some (.ref a)) (hc : s.heap[a]? = some cl) (he : (Jvm.Cond.eq (.length t) (.int n)).value args s none s [] = some true) : cl.slots.size < 2 ^ 31 ∧ cl.slots.size.toInt32 = n := by
  obtain ⟨x, y, h1, h2, h3, h4⟩ := cmp_v (Or.inl he)
  cases (Term.int_eval n).symm.trans h2
  obtain ⟨z, rfl⟩ := h4
  have h5 : z = n := by simpa [Jvm.Cond.value, h1, h2] using he
  subst h5
  obtain ⟨a', c', q1, q2, q3⟩ := Term.length_spec h1
  cases ev.symm.trans q1
  have q4 := (State.arrayAt?_spec q2).1
  cases hc.symm.trans q4
  refine ⟨?_, (Value.int.inj q3).symm⟩
  by_cases hl : cl.slots.size < 2 ^ 31
  · exact hl
  · simp [Term.eval, ev, q2, hl] at h1
/-- from a sheet's words to facts at the start -/
theorem own_const {C n d k0 : String} (hx : (Jvm.Cond.exactly (.static C n d) k0).value args s none s [] = some true) (hi : (Jvm.Cond.initialized C).before args s = true) (hl : (Jvm.Cond.laysStatic C n d).before args s = true) :
    ∃ a, (Term.static C n d).eval args s none [] s = some (.ref a) ∧ Sta s s.heap C n d (.ref a) ∧ Exa s s.heap a k0 := by
  obtain ⟨a, ev⟩ := exa_v hx
  exact ⟨a, ev, Sta.start ev (Or.inr ⟨hi, hl⟩), Exa.start ev hx⟩
theorem own_fldI {t : Term} {a : Addr} {O n d : String} {k : Int32} (ev : t.eval args s none [] s = some (.ref a)) (he : (Jvm.Cond.eq (.field t O n d) (.int k)).value args s none s [] = some true) : Fld s s.heap a O n d (.int k) := by
  obtain ⟨x, y, h1, h2, h3, h4⟩ := cmp_v (Or.inl he)
  have h5 := h1
  rw [fld_at ev] at h5
  have h6 : y = .int k := (Option.some.inj ((Term.int_eval k).symm.trans h2)).symm
  subst h6
  obtain ⟨z, rfl⟩ := h4
  have h7 : z = k := by simpa [Jvm.Cond.value, h1, h2] using he
  subst h7
  exact Fld.start h5
end Own
section Own2
variable {p : Program} {l : Launch} {e : Env} {R : Room} {s : State} {m : MethodId} {args : Array Value} {below : List Frame} {meth : Method} {c : Code} {T : State} {locs : List Loc} {cells slots : Nat} {Z : State} {a0 : Array Value} {h : Heap}
variable {a : Addr} {k : ClassId} {ty : FieldType} {z : Int32} {vs : List Value} {dv : Value}
/-- a fresh array of n places, each said -/
theorem own_arvNew {n : Nat} (A : Arr Z h a (newA k ty z) ty) (q : ¬ z < 0) : Arv Z h a k ty z (List.replicate n (defaultValue ty)) (defaultValue ty) := (Arv.new A q).pad (pad_rep [] _ n)
theorem own_stR (X : Stand p l e R s m args below meth c T locs cells slots) (hx : p.tables.exec = Jvm.exec) (hZ : Z.Warmed39 s.vm) (eT : T.heap = h) {C : String} {y : Addr} (F : Arv Z h a k (.object C) z vs dv) (O : Ovr Z k C) (I : Ins Z h y C true) {j : Int32} (i : Nat) (hj : j.toNatClampNeg = i) (hi : i < vs.length) (hin : ¬ j < 0 ∧ j < z)
    {g : JFrame} (hg : g.method = m) {rest : List Value} (hs : g.stack = .ref y :: .int j :: .ref a :: rest) (hd : decode c.code g.pc = .ok (.aastore, 1)) :
    ∃ T' h', Stand p l e R s m args below meth c T' (locs ++ [⟨a, j.toNatClampNeg⟩]) cells slots ∧ T'.heap = h' ∧ Wr h h' a j.toNatClampNeg (.ref y) ∧ Arv Z h' a k (.object C) z (vs.set i (.ref y)) dv ∧ ∀ target, Steps p.tables e below (T'.setTop { g with pc := g.pc + 1, stack := rest }) target → Steps p.tables e below (T.setTop g) target := by
  obtain ⟨cl, A, q1, S, q3, H, G⟩ := F
  obtain ⟨T', h', X', e', W, st⟩ := stR X hx hZ eT A (inb_of S hin) rfl (Sto.ofV A q1 O I) hg hs hd
  exact ⟨T', h', X', e', W, Arv.set A q1 S q3 H G rfl W i hj hi, st⟩
theorem own_stZ (X : Stand p l e R s m args below meth c T locs cells slots) (hx : p.tables.exec = Jvm.exec) (hZ : Z.Warmed39 s.vm) (eT : T.heap = h) {x : Int32} (F : Arv Z h a k .boolean z vs dv) {j : Int32} (i : Nat) (hj : j.toNatClampNeg = i) (hi : i < vs.length) (hin : ¬ j < 0 ∧ j < z)
    {g : JFrame} (hg : g.method = m) {rest : List Value} (hs : g.stack = .int x :: .int j :: .ref a :: rest) (hd : decode c.code g.pc = .ok (.bastore, 1)) :
    ∃ T' h', Stand p l e R s m args below meth c T' (locs ++ [⟨a, j.toNatClampNeg⟩]) cells slots ∧ T'.heap = h' ∧ Wr h h' a j.toNatClampNeg (.int (nar .boolean x)) ∧ Arv Z h' a k .boolean z (vs.set i (.int (nar .boolean x))) dv ∧ ∀ target, Steps p.tables e below (T'.setTop { g with pc := g.pc + 1, stack := rest }) target → Steps p.tables e below (T.setTop g) target := by
  obtain ⟨cl, A, q1, S, q3, H, G⟩ := F
  obtain ⟨T', h', X', e', W, st⟩ := stZ X hx hZ eT A (inb_of S hin) hg hs hd
  exact ⟨T', h', X', e', W, Arv.set A q1 S q3 H G (fits_nar_bool x) W i hj hi, st⟩
theorem own_stB (X : Stand p l e R s m args below meth c T locs cells slots) (hx : p.tables.exec = Jvm.exec) (hZ : Z.Warmed39 s.vm) (eT : T.heap = h) {x : Int32} (F : Arv Z h a k .byte z vs dv) {j : Int32} (i : Nat) (hj : j.toNatClampNeg = i) (hi : i < vs.length) (hin : ¬ j < 0 ∧ j < z)
    {g : JFrame} (hg : g.method = m) {rest : List Value} (hs : g.stack = .int x :: .int j :: .ref a :: rest) (hd : decode c.code g.pc = .ok (.bastore, 1)) :
    ∃ T' h', Stand p l e R s m args below meth c T' (locs ++ [⟨a, j.toNatClampNeg⟩]) cells slots ∧ T'.heap = h' ∧ Wr h h' a j.toNatClampNeg (.int (nar .byte x)) ∧ Arv Z h' a k .byte z (vs.set i (.int (nar .byte x))) dv ∧ ∀ target, Steps p.tables e below (T'.setTop { g with pc := g.pc + 1, stack := rest }) target → Steps p.tables e below (T.setTop g) target := by
  obtain ⟨cl, A, q1, S, q3, H, G⟩ := F
  obtain ⟨T', h', X', e', W, st⟩ := stB X hx hZ eT A (inb_of S hin) hg hs hd
  exact ⟨T', h', X', e', W, Arv.set A q1 S q3 H G (fits_nar_byte x) W i hj hi, st⟩
theorem own_stJ (X : Stand p l e R s m args below meth c T locs cells slots) (hx : p.tables.exec = Jvm.exec) (hZ : Z.Warmed39 s.vm) (eT : T.heap = h) {x : Int64} (F : Arv Z h a k .long z vs dv) {j : Int32} (i : Nat) (hj : j.toNatClampNeg = i) (hi : i < vs.length) (hin : ¬ j < 0 ∧ j < z)
    {g : JFrame} (hg : g.method = m) {rest : List Value} (hs : g.stack = .long x :: .int j :: .ref a :: rest) (hd : decode c.code g.pc = .ok (.lastore, 1)) :
    ∃ T' h', Stand p l e R s m args below meth c T' (locs ++ [⟨a, j.toNatClampNeg⟩]) cells slots ∧ T'.heap = h' ∧ Wr h h' a j.toNatClampNeg (.long x) ∧ Arv Z h' a k .long z (vs.set i (.long x)) dv ∧ ∀ target, Steps p.tables e below (T'.setTop { g with pc := g.pc + 1, stack := rest }) target → Steps p.tables e below (T.setTop g) target := by
  obtain ⟨cl, A, q1, S, q3, H, G⟩ := F
  obtain ⟨T', h', X', e', W, st⟩ := stJ X hx hZ eT A (inb_of S hin) hg hs hd
  exact ⟨T', h', X', e', W, Arv.set A q1 S q3 H G rfl W i hj hi, st⟩
theorem own_stC (X : Stand p l e R s m args below meth c T locs cells slots) (hx : p.tables.exec = Jvm.exec) (hZ : Z.Warmed39 s.vm) (eT : T.heap = h) {x : Int32} (F : Arv Z h a k .char z vs dv) {j : Int32} (i : Nat) (hj : j.toNatClampNeg = i) (hi : i < vs.length) (hin : ¬ j < 0 ∧ j < z)
    {g : JFrame} (hg : g.method = m) {rest : List Value} (hs : g.stack = .int x :: .int j :: .ref a :: rest) (hd : decode c.code g.pc = .ok (.castore, 1)) :
    ∃ T' h', Stand p l e R s m args below meth c T' (locs ++ [⟨a, j.toNatClampNeg⟩]) cells slots ∧ T'.heap = h' ∧ Wr h h' a j.toNatClampNeg (.int (nar .char x)) ∧ Arv Z h' a k .char z (vs.set i (.int (nar .char x))) dv ∧ ∀ target, Steps p.tables e below (T'.setTop { g with pc := g.pc + 1, stack := rest }) target → Steps p.tables e below (T.setTop g) target := by
  obtain ⟨cl, A, q1, S, q3, H, G⟩ := F
  obtain ⟨T', h', X', e', W, st⟩ := stC X hx hZ eT A (inb_of S hin) hg hs hd
  exact ⟨T', h', X', e', W, Arv.set A q1 S q3 H G (fits_nar_char x) W i hj hi, st⟩
theorem own_caload (X : Stand p l e R s m args below meth c T locs cells slots) (hx : p.tables.exec = Jvm.exec) (hZ : Z.Warmed39 s.vm) (eT : T.heap = h) {cl : Cell} (F : Arr Z h a cl .char) {j : Int32} {v : Value} (hin : ¬ (j < 0 ∨ cl.slots.size ≤ j.toNatClampNeg)) (hv : cl.slots[j.toNatClampNeg]? = some v)
    {g : JFrame} (hg : g.method = m) {rest : List Value} (hs : g.stack = .int j :: .ref a :: rest) (hd : decode c.code g.pc = .ok (.caload, 1)) : ∀ target, Steps p.tables e below (T.setTop { g with pc := g.pc + 1, stack := v :: rest }) target → Steps p.tables e below (T.setTop g) target :=
  X.caload hx (by rw [eT]; exact F.1) (State.isArrayOf_alike hZ.alike F.2.1) F.2.2 hin hv hg hs hd
/-- a place of an array that is said -/
theorem own_at (F : Arv Z h a k ty z vs dv) {j : Int32} (hin : ¬ j < 0 ∧ j < z) : ∃ cl, Arr Z h a cl ty ∧ ¬ (j < 0 ∨ cl.slots.size ≤ j.toNatClampNeg) ∧ cl.slots[j.toNatClampNeg]? = some (vs.getD j.toNatClampNeg dv) := by
  obtain ⟨cl, A, q1, S, q3, H, G⟩ := F
  exact ⟨cl, A, inb_of S hin, H.at (inb_of S hin) rfl⟩
theorem own_len (F : Arv Z h a k ty z vs dv) : ∃ cl, Arr Z h a cl ty ∧ cl.slots.size.toInt32 = z := by
  obtain ⟨cl, A, q1, S, q3, H, G⟩ := F
  exact ⟨cl, A, len_of S q3⟩
theorem own_re {vs' : List Value} (F : Arv Z h a k ty z vs dv) (q : ∀ i, i < z.toNatClampNeg → vs'.getD i dv = vs.getD i dv) : Arv Z h a k ty z vs' dv := by
  obtain ⟨cl, A, q1, S, q3, H, G⟩ := F
  exact ⟨cl, A, q1, S, q3, fun i hi => by rw [q i (S ▸ hi)]; exact H i hi, fun i hi => by rw [q i (S ▸ hi)]; exact G i hi⟩
theorem own_no {n : Nat} {C S O k0 : String} (w : (Jvm.Cond.superclass C S).before a0 Z = true) (w2 : (Jvm.Cond.superclass S O).before a0 Z = true) (w3 : (Jvm.Cond.noSuperclass O).before a0 Z = true) (wi : (Jvm.Cond.instantiable k0 n).before a0 Z = true) (n1 : C ≠ k0) (n2 : S ≠ k0) (n3 : O ≠ k0) :
    ∃ c t, Z.vm.findClass C = some c ∧ Z.vm.findClass k0 = some t ∧ Z.vm.assignable c t = false := by
  obtain ⟨t, kt, g1, g2, g3, g4, -⟩ := Cond.instantiable_spec wi
  have hO : NS Z O k0 := by
    obtain ⟨c, kc, h1, h2, h3, -, -⟩ := Cond.noSuperclass_spec w3
    refine ⟨c, t, h1, g1, fun fuel => ?_⟩
    cases fuel with
    | zero => rfl
    | succ f => simp [Vm.isSubclassAux, ids_ne h1 g1 n3, h2, h3]
  obtain ⟨c, t', h0, g0, n4⟩ := NS.step w (NS.step w2 hO n2) n1
  cases g1.symm.trans g0
  obtain ⟨p, kk, kp, h1, h2, h3, h4, h5, -, h7⟩ := Cond.superclass_spec h0 w
  refine ⟨c, t, h0, g0, ?_⟩
  show Z.vm.assignableAux (255 + 1) c t = false
  simp only [Bool.or_eq_false_iff] at g4
  simp [Vm.assignableAux, ids_ne h0 g0 n1, h2, g2, h5, g3, g4.1, Vm.isSubclass, n4]
theorem own_clone (X : Stand p l e R s m args below meth c T locs cells slots) (hx : p.tables.exec = Jvm.exec) (hZ : Z.Warmed39 s.vm) {own ad : String} {index : Nat} (hown : s.vm.findClass own = some m.cls)
    (w1 : (Jvm.Cond.methodLink own index ⟨ad, "clone", "()Ljava/lang/Object;"⟩).before a0 Z = true) (w2 : (Jvm.Cond.sameMethod ad "java/lang/Object" "clone" "()Ljava/lang/Object;").before a0 Z = true) (w3 : (Jvm.Cond.native ⟨"java/lang/Object", "clone", "()Ljava/lang/Object;"⟩).before a0 Z = true)
    (w4 : (Jvm.Cond.instanceMethod ⟨"java/lang/Object", "clone", "()Ljava/lang/Object;"⟩).before a0 Z = true) (w5 : (Jvm.Cond.selects ad ⟨ad, "clone", "()Ljava/lang/Object;"⟩ ⟨"java/lang/Object", "clone", "()Ljava/lang/Object;"⟩).before a0 Z = true) (w6 : (Jvm.Cond.castable ad "java/lang/Cloneable").before a0 Z = true)
    (eT : T.heap = h) (F : Arv Z h a k ty z vs dv) (E : Exa Z h a ad) {g : JFrame} (hg : g.method = m) (hsize : g.locals.size = c.maxLocals) {rest : List Value} (hst : g.stack = .ref a :: rest) (hd : decode c.code g.pc = .ok (.invokevirtual index, 3))
    (hf : 1 ≤ R.frames) {W cap : Nat} (hW : 2 * g.monitorRoom + (rest.map fun v => v.category).sum ≤ W) (hl : W + 14 ≤ R.locals) (hcap : z.toNatClampNeg ≤ cap) (hc : cells + 1 ≤ R.cells) (hsl : slots + cap ≤ R.slots) :
    ∃ T' h', Stand p l e R s m args below meth c T' locs (cells + 1) (slots + cap) ∧ T'.heap = h' ∧ Ext h h' ∧ Arv Z h' h.size k ty z vs dv ∧ Exa Z h' h.size ad ∧
      ∀ target, Steps p.tables e below (T'.setTop { g with pc := g.pc + 3, stack := .ref h.size :: rest }) target → Steps p.tables e below (T.setTop g) target := by
  obtain ⟨cl, A, q1, S, q3, H, G⟩ := F
  obtain ⟨T', h', X', e', E', A', B', st⟩ := cloneA X hx hZ hown w1 w2 w3 w4 w5 w6 eT A E (fitC_of A (fun i hi v hv => by rw [H i hi] at hv; cases hv; exact G i hi)) hg hsize hst hd hf hW hl (by rw [S]; exact hcap) hc hsl
  exact ⟨T', h', X', e', E', ⟨cloneOf cl, A', q1, S, q3, H, G⟩, B', st⟩
end Own2
def own_pick (w0 w1 w2 w3 w4 : Addr) (n : Int32) : Value := if n = -1 then .null else if n = 0 then .ref w0 else if n = 1 then .ref w1 else if n = 2 then .ref w2 else if n = 3 then .ref w3 else .ref w4
theorem own_six (x : Int32) : (x &&& 2147483647) % 6 = 0 ∨ (x &&& 2147483647) % 6 = 1 ∨ (x &&& 2147483647) % 6 = 2 ∨ (x &&& 2147483647) % 6 = 3 ∨ (x &&& 2147483647) % 6 = 4 ∨ (x &&& 2147483647) % 6 = 5 := by
  have h1 := c_and x 2147483647 (by decide)
  have h2 := (c_iremV (x &&& 2147483647) 6).1 h1.1 (by decide)
  have h3 : (6 : Int32).toInt = 6 := by decide
  rw [h3] at h2
  simp only [← Int32.toInt_inj]
  have e0 : (0 : Int32).toInt = 0 := by decide
  have e1 : (1 : Int32).toInt = 1 := by decide
  have e2 : (2 : Int32).toInt = 2 := by decide
  have e4 : (3 : Int32).toInt = 3 := by decide
  have e5 : (4 : Int32).toInt = 4 := by decide
  have e6 : (5 : Int32).toInt = 5 := by decide
  rw [e0, e1, e2, e4, e5, e6]
  omega
theorem pd_0 : parseMethodDescriptor "()I" = some ⟨[], some .int⟩ := by decide +kernel
theorem pd_1 : parseMethodDescriptor "(I)Lcom/example/vestwright/vestwright/TerminationReason;" = some ⟨[.int], some (.object "com/example/vestwright/vestwright/TerminationReason")⟩ := by decide +kernel
theorem pd_2 : parseMethodDescriptor "(Lcom/example/vestwright/vestwright/TerminationReason;)I" = some ⟨[(.object "com/example/vestwright/vestwright/TerminationReason")], some .int⟩ := by decide +kernel
theorem d1_0 : decode prog_2_method_9_code 0 = .ok (.iload_n 0, 1) := by decide +kernel
theorem d1_1 : decode prog_2_method_9_code 1 = .ok (.iconst (-1), 1) := by decide +kernel
theorem d1_2 : decode prog_2_method_9_code 2 = .ok (.if_icmp .ne 7, 3) := by decide +kernel
theorem d1_5 : decode prog_2_method_9_code 5 = .ok (.aconst_null, 1) := by decide +kernel
theorem d1_6 : decode prog_2_method_9_code 6 = .ok (.goto 8, 3) := by decide +kernel
theorem d1_9 : decode prog_2_method_9_code 9 = .ok (.getstatic 91, 3) := by decide +kernel
theorem d1_12 : decode prog_2_method_9_code 12 = .ok (.iload_n 0, 1) := by decide +kernel
theorem d1_13 : decode prog_2_method_9_code 13 = .ok (.aaload, 1) := by decide +kernel
theorem d1_14 : decode prog_2_method_9_code 14 = .ok (.areturn, 1) := by decide +kernel
def Qrm1 (n : Int32) (ar : Addr) (cl : Cell) (w0 : Addr) (w1 : Addr) (w2 : Addr) (w3 : Addr) (w4 : Addr) (Z : State) (h0 : Heap) (n0 : Nat) (v : Option Value) (h : Heap) (L : List Loc) : Prop := v = some (own_pick w0 w1 w2 w3 w4 n) ∧ Fr n0 L ∧ h = h0
set_option maxRecDepth 65536 in
set_option maxHeartbeats 40000000 in
theorem rm1 (l : Launch) (Z : State) (a0 : Array Value) (hw : ∀ d ∈ tables_1, d.before a0 Z = true) (n : Int32) (ar : Addr) (cl : Cell) (w0 : Addr) (w1 : Addr) (w2 : Addr) (w3 : Addr) (w4 : Addr) (h0 : Heap) (n0 : Nat) (Z0 : n0 ≤ h0.size) (hn : n = -1 ∨ n = 0 ∨ n = 1 ∨ n = 2 ∨ n = 3 ∨ n = 4) (SR : Sta Z h0 "com/example/vestwright/vestwright/CensusPeople" "REASONS" "[Lcom/example/vestwright/vestwright/TerminationReason;" (.ref ar)) (AR : Arr Z h0 ar cl (.object "com/example/vestwright/vestwright/TerminationReason")) (I0 : ¬ ((0 : Int32) < 0 ∨ cl.slots.size ≤ (0 : Int32).toNatClampNeg) ∧ cl.slots[(0 : Int32).toNatClampNeg]? = some (.ref w0)) (I1 : ¬ ((1 : Int32) < 0 ∨ cl.slots.size ≤ (1 : Int32).toNatClampNeg) ∧ cl.slots[(1 : Int32).toNatClampNeg]? = some (.ref w1)) (I2 : ¬ ((2 : Int32) < 0 ∨ cl.slots.size ≤ (2 : Int32).toNatClampNeg) ∧ cl.slots[(2 : Int32).toNatClampNeg]? = some (.ref w2)) (I3 : ¬ ((3 : Int32) < 0 ∨ cl.slots.size ≤ (3 : Int32).toNatClampNeg) ∧ cl.slots[(3 : Int32).toNatClampNeg]? = some (.ref w3)) (I4 : ¬ ((4 : Int32) < 0 ∨ cl.slots.size ≤ (4 : Int32).toNatClampNeg) ∧ cl.slots[(4 : Int32).toNatClampNeg]? = some (.ref w4)) :
    MetFree l (⟨"com/example/vestwright/vestwright/CensusPeople", "reason", "(I)Lcom/example/vestwright/vestwright/TerminationReason;"⟩ : MethodName) (head1 (Jvm.Cond.code (⟨"com/example/vestwright/vestwright/CensusPeople", "reason", "(I)Lcom/example/vestwright/vestwright/TerminationReason;"⟩ : MethodName) prog_2_method_9_code 1 (some (.object "com/example/vestwright/vestwright/TerminationReason")) :: []) ({ frames := 0, cells := 0, slots := 0, locals := 0 } : Room)) (fun ar_ U => ar_ = #[(.int n)] ∧ Z.Warmed39 U.vm ∧ U.heap = h0) (fun _ _ _ _ _ => True) (fun _ U o U' => ∃ v L, o = .returned v ∧ Qrm1 n ar cl w0 w1 w2 w3 w4 Z h0 n0 v U'.heap L ∧ FrameEnd U o U' L ({ frames := 0, cells := 0, slots := 0, locals := 0 } : Room).cells ({ frames := 0, cells := 0, slots := 0, locals := 0 } : Room).slots) := by
  refine MetFree.of_bodySF (plainFor_of_name (by first | (simp [plainName, overriddenIn]; done) | decide +kernel)) hisR ?_
  intro p e s m args below meth c s₁ Bd hml0 hP hK
  obtain ⟨rfl, hZ, hh⟩ := hP
  have hx := Bd.exec
  have hby := Bd.bytes
  have hml : c.maxLocals = 1 := hml0
  have hown : s.vm.findClass "com/example/vestwright/vestwright/CensusPeople" = some m.cls := findClass_of_methodNamed Bd.named
  have hnm := (name_of_methodNamed Bd.named Bd.method).1
  have X0 : Stand p l e ({ frames := 0, cells := 0, slots := 0, locals := 0 } : Room) s m #[(.int n)] below meth c s₁ [] 0 0 := Stand.of_body Bd
  have e0 : s₁.heap = h0 := by rw [← hh, Bd.state]; rfl
  have N0 := Fr.nil n0
  show own_E p e below s (Qrm1 n ar cl w0 w1 w2 w3 w4 Z h0 n0) ({ frames := 0, cells := 0, slots := 0, locals := 0 } : Room).cells ({ frames := 0, cells := 0, slots := 0, locals := 0 } : Room).slots (s₁.setTop (entryFrame m #[(.int n)] 1))
  refine own_go (fun t k => castTop (show _ = (mkF m 0 #[.val (.int n)] []) from by first | (simp [entryFrame, mkF, argsToLocals, Value.category]; done) | rfl) k) ?_
  show own_E _ _ _ _ _ _ _ (s₁.setTop (mkF m 0 #[.val (.int n)] []))
  rcases hn with rfl | rfl | rfl | rfl | rfl | rfl
  ·
    show own_E _ _ _ _ _ _ _ (s₁.setTop (mkF m 0 #[.val (.int (-1 : Int32))] []))
    refine own_go (fun _ k => XS.iloadN X0.here hx rfl (hb hby d1_0) rfl k) ?_
    show own_E _ _ _ _ _ _ _ (s₁.setTop (mkF m 1 #[.val (.int (-1 : Int32))] [(.int (-1 : Int32))]))
    refine own_go (fun _ k => XT.iconstV X0.here hx rfl (-1 : Int32) (hb hby d1_1) (by decide) k) ?_
    show own_E _ _ _ _ _ _ _ (s₁.setTop (mkF m 2 #[.val (.int (-1 : Int32))] [(.int (-1 : Int32)), (.int (-1 : Int32))]))
    refine own_go (fun _ k => XS.icmpNo X0.here hx rfl (hb hby d1_2) rfl (by decide) k) ?_
    show own_E _ _ _ _ _ _ _ (s₁.setTop (mkF m 5 #[.val (.int (-1 : Int32))] []))
    refine own_go (fun _ k => XS.aconstNull X0.here hx rfl (hb hby d1_5) k) ?_
    show own_E _ _ _ _ _ _ _ (s₁.setTop (mkF m 6 #[.val (.int (-1 : Int32))] [.null]))
    refine own_go (fun _ k => XS.goto X0.here hx rfl (pc0 := 6) (pc' := 14) rfl (hb hby d1_6) (by decide) (by decide) k) ?_
    show own_E _ _ _ _ _ _ _ (s₁.setTop (mkF m 14 #[.val (.int (-1 : Int32))] [.null]))
    exact own_ret X0 hx Bd.returns Bd.notSynchronized rfl (Or.inr (Or.inr (Or.inr (Or.inr ⟨rfl, rfl, rfl⟩)))) (hb hby d1_14) (by rw [e0]; exact ⟨rfl, N0, rfl⟩) (by decide) (by decide)
  ·
    show own_E _ _ _ _ _ _ _ (s₁.setTop (mkF m 0 #[.val (.int (0 : Int32))] []))
    refine own_go (fun _ k => XS.iloadN X0.here hx rfl (hb hby d1_0) rfl k) ?_
    show own_E _ _ _ _ _ _ _ (s₁.setTop (mkF m 1 #[.val (.int (0 : Int32))] [(.int (0 : Int32))]))
    refine own_go (fun _ k => XT.iconstV X0.here hx rfl (-1 : Int32) (hb hby d1_1) (by decide) k) ?_
    show own_E _ _ _ _ _ _ _ (s₁.setTop (mkF m 2 #[.val (.int (0 : Int32))] [(.int (-1 : Int32)), (.int (0 : Int32))]))
    refine own_go (fun _ k => XS.icmpYes X0.here hx rfl (pc0 := 2) (pc' := 9) rfl (hb hby d1_2) rfl (by decide) (by decide) (by decide) k) ?_
    show own_E _ _ _ _ _ _ _ (s₁.setTop (mkF m 9 #[.val (.int (0 : Int32))] []))
    obtain ⟨T1, X1, e1, st1⟩ := getS2 X0 hx hZ hown (host := "") (Or.inl (hw _ (List.mem_of_getElem? (i := 12) rfl))) Via.refl e0 SR (g := (mkF m 9 #[.val (.int (0 : Int32))] [])) rfl (hb hby d1_9)
    refine own_go st1 ?_
    show own_E _ _ _ _ _ _ _ (T1.setTop (mkF m 12 #[.val (.int (0 : Int32))] [(.ref ar)]))
    refine own_go (fun _ k => XS.iloadN X1.here hx rfl (hb hby d1_12) rfl k) ?_
    show own_E _ _ _ _ _ _ _ (T1.setTop (mkF m 13 #[.val (.int (0 : Int32))] [(.int (0 : Int32)), (.ref ar)]))
    refine own_go (own_aaload X1 hx hZ e1 AR rfl (j := (0 : Int32)) (v := .ref w0) I0.1 I0.2 (g := (mkF m 13 #[.val (.int (0 : Int32))] [(.int (0 : Int32)), (.ref ar)])) rfl rfl (hb hby d1_13)) ?_
    show own_E _ _ _ _ _ _ _ (T1.setTop (mkF m 14 #[.val (.int (0 : Int32))] [(.ref w0)]))
    exact own_ret X1 hx Bd.returns Bd.notSynchronized rfl (Or.inr (Or.inr (Or.inr (Or.inr ⟨rfl, rfl, rfl⟩)))) (hb hby d1_14) (by rw [e1]; exact ⟨rfl, N0, rfl⟩) (by decide) (by decide)
  ·
    show own_E _ _ _ _ _ _ _ (s₁.setTop (mkF m 0 #[.val (.int (1 : Int32))] []))
    refine own_go (fun _ k => XS.iloadN X0.here hx rfl (hb hby d1_0) rfl k) ?_
    show own_E _ _ _ _ _ _ _ (s₁.setTop (mkF m 1 #[.val (.int (1 : Int32))] [(.int (1 : Int32))]))
    refine own_go (fun _ k => XT.iconstV X0.here hx rfl (-1 : Int32) (hb hby d1_1) (by decide) k) ?_
    show own_E _ _ _ _ _ _ _ (s₁.setTop (mkF m 2 #[.val (.int (1 : Int32))] [(.int (-1 : Int32)), (.int (1 : Int32))]))
    refine own_go (fun _ k => XS.icmpYes X0.here hx rfl (pc0 := 2) (pc' := 9) rfl (hb hby d1_2) rfl (by decide) (by decide) (by decide) k) ?_
    show own_E _ _ _ _ _ _ _ (s₁.setTop (mkF m 9 #[.val (.int (1 : Int32))] []))
    obtain ⟨T2, X2, e2, st2⟩ := getS2 X0 hx hZ hown (host := "") (Or.inl (hw _ (List.mem_of_getElem? (i := 12) rfl))) Via.refl e0 SR (g := (mkF m 9 #[.val (.int (1 : Int32))] [])) rfl (hb hby d1_9)
    refine own_go st2 ?_
    show own_E _ _ _ _ _ _ _ (T2.setTop (mkF m 12 #[.val (.int (1 : Int32))] [(.ref ar)]))
    refine own_go (fun _ k => XS.iloadN X2.here hx rfl (hb hby d1_12) rfl k) ?_
    show own_E _ _ _ _ _ _ _ (T2.setTop (mkF m 13 #[.val (.int (1 : Int32))] [(.int (1 : Int32)), (.ref ar)]))
    refine own_go (own_aaload X2 hx hZ e2 AR rfl (j := (1 : Int32)) (v := .ref w1) I1.1 I1.2 (g := (mkF m 13 #[.val (.int (1 : Int32))] [(.int (1 : Int32)), (.ref ar)])) rfl rfl (hb hby d1_13)) ?_
    show own_E _ _ _ _ _ _ _ (T2.setTop (mkF m 14 #[.val (.int (1 : Int32))] [(.ref w1)]))
    exact own_ret X2 hx Bd.returns Bd.notSynchronized rfl (Or.inr (Or.inr (Or.inr (Or.inr ⟨rfl, rfl, rfl⟩)))) (hb hby d1_14) (by rw [e2]; exact ⟨rfl, N0, rfl⟩) (by decide) (by decide)
  ·
    show own_E _ _ _ _ _ _ _ (s₁.setTop (mkF m 0 #[.val (.int (2 : Int32))] []))
    refine own_go (fun _ k => XS.iloadN X0.here hx rfl (hb hby d1_0) rfl k) ?_
    show own_E _ _ _ _ _ _ _ (s₁.setTop (mkF m 1 #[.val (.int (2 : Int32))] [(.int (2 : Int32))]))
    refine own_go (fun _ k => XT.iconstV X0.here hx rfl (-1 : Int32) (hb hby d1_1) (by decide) k) ?_
    show own_E _ _ _ _ _ _ _ (s₁.setTop (mkF m 2 #[.val (.int (2 : Int32))] [(.int (-1 : Int32)), (.int (2 : Int32))]))
    refine own_go (fun _ k => XS.icmpYes X0.here hx rfl (pc0 := 2) (pc' := 9) rfl (hb hby d1_2) rfl (by decide) (by decide) (by decide) k) ?_
    show own_E _ _ _ _ _ _ _ (s₁.setTop (mkF m 9 #[.val (.int (2 : Int32))] []))
    obtain ⟨T3, X3, e3, st3⟩ := getS2 X0 hx hZ hown (host := "") (Or.inl (hw _ (List.mem_of_getElem? (i := 12) rfl))) Via.refl e0 SR (g := (mkF m 9 #[.val (.int (2 : Int32))] [])) rfl (hb hby d1_9)
    refine own_go st3 ?_
    show own_E _ _ _ _ _ _ _ (T3.setTop (mkF m 12 #[.val (.int (2 : Int32))] [(.ref ar)]))
    refine own_go (fun _ k => XS.iloadN X3.here hx rfl (hb hby d1_12) rfl k) ?_
    show own_E _ _ _ _ _ _ _ (T3.setTop (mkF m 13 #[.val (.int (2 : Int32))] [(.int (2 : Int32)), (.ref ar)]))
    refine own_go (own_aaload X3 hx hZ e3 AR rfl (j := (2 : Int32)) (v := .ref w2) I2.1 I2.2 (g := (mkF m 13 #[.val (.int (2 : Int32))] [(.int (2 : Int32)), (.ref ar)])) rfl rfl (hb hby d1_13)) ?_
    show own_E _ _ _ _ _ _ _ (T3.setTop (mkF m 14 #[.val (.int (2 : Int32))] [(.ref w2)]))
    exact own_ret X3 hx Bd.returns Bd.notSynchronized rfl (Or.inr (Or.inr (Or.inr (Or.inr ⟨rfl, rfl, rfl⟩)))) (hb hby d1_14) (by rw [e3]; exact ⟨rfl, N0, rfl⟩) (by decide) (by decide)
  ·
    show own_E _ _ _ _ _ _ _ (s₁.setTop (mkF m 0 #[.val (.int (3 : Int32))] []))
    refine own_go (fun _ k => XS.iloadN X0.here hx rfl (hb hby d1_0) rfl k) ?_
    show own_E _ _ _ _ _ _ _ (s₁.setTop (mkF m 1 #[.val (.int (3 : Int32))] [(.int (3 : Int32))]))
    refine own_go (fun _ k => XT.iconstV X0.here hx rfl (-1 : Int32) (hb hby d1_1) (by decide) k) ?_
    show own_E _ _ _ _ _ _ _ (s₁.setTop (mkF m 2 #[.val (.int (3 : Int32))] [(.int (-1 : Int32)), (.int (3 : Int32))]))
    refine own_go (fun _ k => XS.icmpYes X0.here hx rfl (pc0 := 2) (pc' := 9) rfl (hb hby d1_2) rfl (by decide) (by decide) (by decide) k) ?_
    show own_E _ _ _ _ _ _ _ (s₁.setTop (mkF m 9 #[.val (.int (3 : Int32))] []))
    obtain ⟨T4, X4, e4, st4⟩ := getS2 X0 hx hZ hown (host := "") (Or.inl (hw _ (List.mem_of_getElem? (i := 12) rfl))) Via.refl e0 SR (g := (mkF m 9 #[.val (.int (3 : Int32))] [])) rfl (hb hby d1_9)
    refine own_go st4 ?_
    show own_E _ _ _ _ _ _ _ (T4.setTop (mkF m 12 #[.val (.int (3 : Int32))] [(.ref ar)]))
    refine own_go (fun _ k => XS.iloadN X4.here hx rfl (hb hby d1_12) rfl k) ?_
    show own_E _ _ _ _ _ _ _ (T4.setTop (mkF m 13 #[.val (.int (3 : Int32))] [(.int (3 : Int32)), (.ref ar)]))
    refine own_go (own_aaload X4 hx hZ e4 AR rfl (j := (3 : Int32)) (v := .ref w3) I3.1 I3.2 (g := (mkF m 13 #[.val (.int (3 : Int32))] [(.int (3 : Int32)), (.ref ar)])) rfl rfl (hb hby d1_13)) ?_
    show own_E _ _ _ _ _ _ _ (T4.setTop (mkF m 14 #[.val (.int (3 : Int32))] [(.ref w3)]))
    exact own_ret X4 hx Bd.returns Bd.notSynchronized rfl (Or.inr (Or.inr (Or.inr (Or.inr ⟨rfl, rfl, rfl⟩)))) (hb hby d1_14) (by rw [e4]; exact ⟨rfl, N0, rfl⟩) (by decide) (by decide)
  ·
    show own_E _ _ _ _ _ _ _ (s₁.setTop (mkF m 0 #[.val (.int (4 : Int32))] []))
    refine own_go (fun _ k => XS.iloadN X0.here hx rfl (hb hby d1_0) rfl k) ?_
    show own_E _ _ _ _ _ _ _ (s₁.setTop (mkF m 1 #[.val (.int (4 : Int32))] [(.int (4 : Int32))]))
    refine own_go (fun _ k => XT.iconstV X0.here hx rfl (-1 : Int32) (hb hby d1_1) (by decide) k) ?_
    show own_E _ _ _ _ _ _ _ (s₁.setTop (mkF m 2 #[.val (.int (4 : Int32))] [(.int (-1 : Int32)), (.int (4 : Int32))]))
    refine own_go (fun _ k => XS.icmpYes X0.here hx rfl (pc0 := 2) (pc' := 9) rfl (hb hby d1_2) rfl (by decide) (by decide) (by decide) k) ?_
    show own_E _ _ _ _ _ _ _ (s₁.setTop (mkF m 9 #[.val (.int (4 : Int32))] []))
    obtain ⟨T5, X5, e5, st5⟩ := getS2 X0 hx hZ hown (host := "") (Or.inl (hw _ (List.mem_of_getElem? (i := 12) rfl))) Via.refl e0 SR (g := (mkF m 9 #[.val (.int (4 : Int32))] [])) rfl (hb hby d1_9)
    refine own_go st5 ?_
    show own_E _ _ _ _ _ _ _ (T5.setTop (mkF m 12 #[.val (.int (4 : Int32))] [(.ref ar)]))
    refine own_go (fun _ k => XS.iloadN X5.here hx rfl (hb hby d1_12) rfl k) ?_
    show own_E _ _ _ _ _ _ _ (T5.setTop (mkF m 13 #[.val (.int (4 : Int32))] [(.int (4 : Int32)), (.ref ar)]))
    refine own_go (own_aaload X5 hx hZ e5 AR rfl (j := (4 : Int32)) (v := .ref w4) I4.1 I4.2 (g := (mkF m 13 #[.val (.int (4 : Int32))] [(.int (4 : Int32)), (.ref ar)])) rfl rfl (hb hby d1_13)) ?_
    show own_E _ _ _ _ _ _ _ (T5.setTop (mkF m 14 #[.val (.int (4 : Int32))] [(.ref w4)]))
    exact own_ret X5 hx Bd.returns Bd.notSynchronized rfl (Or.inr (Or.inr (Or.inr (Or.inr ⟨rfl, rfl, rfl⟩)))) (hb hby d1_14) (by rw [e5]; exact ⟨rfl, N0, rfl⟩) (by decide) (by decide)
theorem d4_0 : decode jdk_37_method_2_code 0 = .ok (.aload_n 0, 1) := by decide +kernel
theorem d4_1 : decode jdk_37_method_2_code 1 = .ok (.getfield 7, 3) := by decide +kernel
theorem d4_4 : decode jdk_37_method_2_code 4 = .ok (.ireturn, 1) := by decide +kernel
def Qrm4 (a : Addr) (k : Int32) (Z : State) (h0 : Heap) (n0 : Nat) (v : Option Value) (h : Heap) (L : List Loc) : Prop := v = some (.int k) ∧ Fr n0 L ∧ h = h0
set_option maxRecDepth 65536 in
set_option maxHeartbeats 40000000 in
theorem rm4 (l : Launch) (Z : State) (a0 : Array Value) (hw : ∀ d ∈ tables_1, d.before a0 Z = true) (a : Addr) (k : Int32) (h0 : Heap) (n0 : Nat) (Z0 : n0 ≤ h0.size) (F : Fld Z h0 a "java/lang/Enum" "ordinal" "I" (.int k)) :
    MetFree l (⟨"java/lang/Enum", "ordinal", "()I"⟩ : MethodName) (head1 (Jvm.Cond.code (⟨"java/lang/Enum", "ordinal", "()I"⟩ : MethodName) jdk_37_method_2_code 1 (some .int) :: []) ({ frames := 0, cells := 0, slots := 0, locals := 0 } : Room)) (fun ar_ U => ar_ = #[(.ref a)] ∧ Z.Warmed39 U.vm ∧ U.heap = h0) (fun _ _ _ _ _ => True) (fun _ U o U' => ∃ v L, o = .returned v ∧ Qrm4 a k Z h0 n0 v U'.heap L ∧ FrameEnd U o U' L ({ frames := 0, cells := 0, slots := 0, locals := 0 } : Room).cells ({ frames := 0, cells := 0, slots := 0, locals := 0 } : Room).slots) := by
  refine MetFree.of_bodySF (plainFor_of_name (by first | (simp [plainName, overriddenIn]; done) | decide +kernel)) hisR ?_
  intro p e s m args below meth c s₁ Bd hml0 hP hK
  obtain ⟨rfl, hZ, hh⟩ := hP
  have hx := Bd.exec
  have hby := Bd.bytes
  have hml : c.maxLocals = 1 := hml0
  have hown : s.vm.findClass "java/lang/Enum" = some m.cls := findClass_of_methodNamed Bd.named
  have hnm := (name_of_methodNamed Bd.named Bd.method).1
  have X0 : Stand p l e ({ frames := 0, cells := 0, slots := 0, locals := 0 } : Room) s m #[(.ref a)] below meth c s₁ [] 0 0 := Stand.of_body Bd
  have e0 : s₁.heap = h0 := by rw [← hh, Bd.state]; rfl
  have N0 := Fr.nil n0
  show own_E p e below s (Qrm4 a k Z h0 n0) ({ frames := 0, cells := 0, slots := 0, locals := 0 } : Room).cells ({ frames := 0, cells := 0, slots := 0, locals := 0 } : Room).slots (s₁.setTop (entryFrame m #[(.ref a)] 1))
  refine own_go (fun t k => castTop (show _ = (mkF m 0 #[.val (.ref a)] []) from by first | (simp [entryFrame, mkF, argsToLocals, Value.category]; done) | rfl) k) ?_
  show own_E _ _ _ _ _ _ _ (s₁.setTop (mkF m 0 #[.val (.ref a)] []))
  refine own_go (fun _ k => XS.aloadN X0.here hx rfl (hb hby d4_0) rfl rfl k) ?_
  show own_E _ _ _ _ _ _ _ (s₁.setTop (mkF m 1 #[.val (.ref a)] [(.ref a)]))
  obtain ⟨T1, X1, e1, st1⟩ := getF X0 hx hZ hown (host := "") (Or.inl (hw _ (List.mem_of_getElem? (i := 24) rfl))) Via.refl e0 F (g := (mkF m 1 #[.val (.ref a)] [(.ref a)])) rfl rfl (hb hby d4_1)
  refine own_go st1 ?_
  show own_E _ _ _ _ _ _ _ (T1.setTop (mkF m 4 #[.val (.ref a)] [(.int k)]))
  exact own_ret X1 hx Bd.returns Bd.notSynchronized rfl (Or.inl ⟨rfl, by simp, _, rfl⟩) (hb hby d4_4) (by rw [e1]; exact ⟨rfl, N0, rfl⟩) (by decide) (by decide)
theorem d3_0 : decode prog_2_method_8_code 0 = .ok (.aload_n 0, 1) := by decide +kernel
theorem d3_1 : decode prog_2_method_8_code 1 = .ok (.ifnonnull 7, 3) := by decide +kernel
theorem d3_4 : decode prog_2_method_8_code 4 = .ok (.iconst (-1), 1) := by decide +kernel
theorem d3_5 : decode prog_2_method_8_code 5 = .ok (.goto 7, 3) := by decide +kernel
theorem d3_8 : decode prog_2_method_8_code 8 = .ok (.aload_n 0, 1) := by decide +kernel
theorem d3_9 : decode prog_2_method_8_code 9 = .ok (.invokevirtual 85, 3) := by decide +kernel
theorem d3_12 : decode prog_2_method_8_code 12 = .ok (.ireturn, 1) := by decide +kernel
def QrmN (Z : State) (h0 : Heap) (n0 : Nat) (v : Option Value) (h : Heap) (L : List Loc) : Prop := v = some (.int (-1 : Int32)) ∧ Fr n0 L ∧ h = h0
set_option maxRecDepth 65536 in
set_option maxHeartbeats 40000000 in
theorem rmN (l : Launch) (Z : State) (a0 : Array Value) (hw : ∀ d ∈ tables_1, d.before a0 Z = true) (h0 : Heap) (n0 : Nat) (Z0 : n0 ≤ h0.size) :
    MetFree l (⟨"com/example/vestwright/vestwright/CensusPeople", "reasonNumber", "(Lcom/example/vestwright/vestwright/TerminationReason;)I"⟩ : MethodName) (head1 (Jvm.Cond.code (⟨"com/example/vestwright/vestwright/CensusPeople", "reasonNumber", "(Lcom/example/vestwright/vestwright/TerminationReason;)I"⟩ : MethodName) prog_2_method_8_code 1 (some .int) :: []) ({ frames := 1, cells := 0, slots := 0, locals := 12 } : Room)) (fun ar_ U => ar_ = #[.null] ∧ Z.Warmed39 U.vm ∧ U.heap = h0) (fun _ _ _ _ _ => True) (fun _ U o U' => ∃ v L, o = .returned v ∧ QrmN  Z h0 n0 v U'.heap L ∧ FrameEnd U o U' L ({ frames := 1, cells := 0, slots := 0, locals := 12 } : Room).cells ({ frames := 1, cells := 0, slots := 0, locals := 12 } : Room).slots) := by
  refine MetFree.of_bodySF (plainFor_of_name (by first | (simp [plainName, overriddenIn]; done) | decide +kernel)) hisR ?_
  intro p e s m args below meth c s₁ Bd hml0 hP hK
  obtain ⟨rfl, hZ, hh⟩ := hP
  have hx := Bd.exec
  have hby := Bd.bytes
  have hml : c.maxLocals = 1 := hml0
  have hown : s.vm.findClass "com/example/vestwright/vestwright/CensusPeople" = some m.cls := findClass_of_methodNamed Bd.named
  have hnm := (name_of_methodNamed Bd.named Bd.method).1
  have X0 : Stand p l e ({ frames := 1, cells := 0, slots := 0, locals := 12 } : Room) s m #[.null] below meth c s₁ [] 0 0 := Stand.of_body Bd
  have e0 : s₁.heap = h0 := by rw [← hh, Bd.state]; rfl
  have N0 := Fr.nil n0
  show own_E p e below s (QrmN  Z h0 n0) ({ frames := 1, cells := 0, slots := 0, locals := 12 } : Room).cells ({ frames := 1, cells := 0, slots := 0, locals := 12 } : Room).slots (s₁.setTop (entryFrame m #[.null] 1))
  refine own_go (fun t k => castTop (show _ = (mkF m 0 #[.val .null] []) from by first | (simp [entryFrame, mkF, argsToLocals, Value.category]; done) | rfl) k) ?_
  show own_E _ _ _ _ _ _ _ (s₁.setTop (mkF m 0 #[.val .null] []))
  refine own_go (fun _ k => XS.aloadN X0.here hx rfl (hb hby d3_0) rfl rfl k) ?_
  show own_E _ _ _ _ _ _ _ (s₁.setTop (mkF m 1 #[.val .null] [.null]))
  refine own_go (fun _ k => XT.ifnonnullNo X0.here hx rfl (hb hby d3_1) rfl k) ?_
  show own_E _ _ _ _ _ _ _ (s₁.setTop (mkF m 4 #[.val .null] []))
  refine own_go (fun _ k => XT.iconstV X0.here hx rfl (-1 : Int32) (hb hby d3_4) (by decide) k) ?_
  show own_E _ _ _ _ _ _ _ (s₁.setTop (mkF m 5 #[.val .null] [(.int (-1 : Int32))]))
  refine own_go (fun _ k => XS.goto X0.here hx rfl (pc0 := 5) (pc' := 12) rfl (hb hby d3_5) (by decide) (by decide) k) ?_
  show own_E _ _ _ _ _ _ _ (s₁.setTop (mkF m 12 #[.val .null] [(.int (-1 : Int32))]))
  exact own_ret X0 hx Bd.returns Bd.notSynchronized rfl (Or.inl ⟨rfl, by simp, _, rfl⟩) (hb hby d3_12) (by rw [e0]; exact ⟨rfl, N0, rfl⟩) (by decide) (by decide)
def QrmO (a : Addr) (k : Int32) (Z : State) (h0 : Heap) (n0 : Nat) (v : Option Value) (h : Heap) (L : List Loc) : Prop := v = some (.int k) ∧ Fr n0 L ∧ h = h0
set_option maxRecDepth 65536 in
set_option maxHeartbeats 40000000 in
theorem rmO (l : Launch) (Z : State) (a0 : Array Value) (hw : ∀ d ∈ tables_1, d.before a0 Z = true) (a : Addr) (k : Int32) (h0 : Heap) (n0 : Nat) (Z0 : n0 ≤ h0.size) (E : Exa Z h0 a "com/example/vestwright/vestwright/TerminationReason") (F : Fld Z h0 a "java/lang/Enum" "ordinal" "I" (.int k)) :
    MetFree l (⟨"com/example/vestwright/vestwright/CensusPeople", "reasonNumber", "(Lcom/example/vestwright/vestwright/TerminationReason;)I"⟩ : MethodName) (head1 (Jvm.Cond.code (⟨"com/example/vestwright/vestwright/CensusPeople", "reasonNumber", "(Lcom/example/vestwright/vestwright/TerminationReason;)I"⟩ : MethodName) prog_2_method_8_code 1 (some .int) :: []) ({ frames := 1, cells := 0, slots := 0, locals := 12 } : Room)) (fun ar_ U => ar_ = #[(.ref a)] ∧ Z.Warmed39 U.vm ∧ U.heap = h0) (fun _ _ _ _ _ => True) (fun _ U o U' => ∃ v L, o = .returned v ∧ QrmO a k Z h0 n0 v U'.heap L ∧ FrameEnd U o U' L ({ frames := 1, cells := 0, slots := 0, locals := 12 } : Room).cells ({ frames := 1, cells := 0, slots := 0, locals := 12 } : Room).slots) := by
  refine MetFree.of_bodySF (plainFor_of_name (by first | (simp [plainName, overriddenIn]; done) | decide +kernel)) hisR ?_
  intro p e s m args below meth c s₁ Bd hml0 hP hK
  obtain ⟨rfl, hZ, hh⟩ := hP
  have hx := Bd.exec
  have hby := Bd.bytes
  have hml : c.maxLocals = 1 := hml0
  have hown : s.vm.findClass "com/example/vestwright/vestwright/CensusPeople" = some m.cls := findClass_of_methodNamed Bd.named
  have hnm := (name_of_methodNamed Bd.named Bd.method).1
  have X0 : Stand p l e ({ frames := 1, cells := 0, slots := 0, locals := 12 } : Room) s m #[(.ref a)] below meth c s₁ [] 0 0 := Stand.of_body Bd
  have e0 : s₁.heap = h0 := by rw [← hh, Bd.state]; rfl
  have N0 := Fr.nil n0
  show own_E p e below s (QrmO a k Z h0 n0) ({ frames := 1, cells := 0, slots := 0, locals := 12 } : Room).cells ({ frames := 1, cells := 0, slots := 0, locals := 12 } : Room).slots (s₁.setTop (entryFrame m #[(.ref a)] 1))
  refine own_go (fun t k => castTop (show _ = (mkF m 0 #[.val (.ref a)] []) from by first | (simp [entryFrame, mkF, argsToLocals, Value.category]; done) | rfl) k) ?_
  show own_E _ _ _ _ _ _ _ (s₁.setTop (mkF m 0 #[.val (.ref a)] []))
  refine own_go (fun _ k => XS.aloadN X0.here hx rfl (hb hby d3_0) rfl rfl k) ?_
  show own_E _ _ _ _ _ _ _ (s₁.setTop (mkF m 1 #[.val (.ref a)] [(.ref a)]))
  refine own_go (fun _ k => XT.ifnonnullYes X0.here hx rfl (pc0 := 1) (pc' := 8) rfl (hb hby d3_1) rfl (by decide) (by decide) k) ?_
  show own_E _ _ _ _ _ _ _ (s₁.setTop (mkF m 8 #[.val (.ref a)] []))
  refine own_go (fun _ k => XS.aloadN X0.here hx rfl (hb hby d3_8) rfl rfl k) ?_
  show own_E _ _ _ _ _ _ _ (s₁.setTop (mkF m 9 #[.val (.ref a)] [(.ref a)]))
  obtain ⟨v1, T1, L1, X1, hQ1, st1⟩ := own_callVU X0 hx hZ (rm := ({ frames := 0, cells := 0, slots := 0, locals := 0 } : Room)) (W := 0) (b := a) (argsL := []) (rest := []) (owner := "java/lang/Enum") (y := (⟨"com/example/vestwright/vestwright/TerminationReason", "ordinal", "()I"⟩ : MethodName)) (z := (⟨"java/lang/Enum", "ordinal", "()I"⟩ : MethodName)) hown (hw _ (List.mem_of_getElem? (i := 17) rfl)) (hw _ (List.mem_of_getElem? (i := 18) rfl)) (hw _ (List.mem_of_getElem? (i := 19) rfl)) (hw _ (List.mem_of_getElem? (i := 21) rfl)) (hw _ (List.mem_of_getElem? (i := 20) rfl)) (hw _ (List.mem_of_getElem? (i := 23) rfl)) (hw _ (List.mem_of_getElem? (i := 22) rfl)) (by decide) (rm4 l Z a0 hw a k h0 n0 Z0 F) e0 E (by decide) (by decide) (by decide) (by decide) (g := (mkF m 9 #[.val (.ref a)] [(.ref a)])) rfl (by rw [hml]; rfl) (lenOf pd_0 rfl) rfl (by show 2 * 0 + _ ≤ _; decide) (hb hby d3_9)
  obtain ⟨rfl, N1, e1⟩ := hQ1
  refine own_go st1 ?_
  show own_E _ _ _ _ _ _ _ (T1.setTop (mkF m 12 #[.val (.ref a)] [(.int k)]))
  exact own_ret X1 hx Bd.returns Bd.notSynchronized rfl (Or.inl ⟨rfl, by simp, _, rfl⟩) (hb hby d3_12) (by rw [e1]; exact ⟨rfl, Fr.app N0 N1, rfl⟩) (by decide) (by decide)
theorem d2_0 : decode method_2_code 0 = .ok (.iload_n 0, 1) := by decide +kernel
theorem d2_1 : decode method_2_code 1 = .ok (.iconst (-1), 1) := by decide +kernel
theorem d2_2 : decode method_2_code 2 = .ok (.if_icmp .ne 5, 3) := by decide +kernel
theorem d2_5 : decode method_2_code 5 = .ok (.aconst_null, 1) := by decide +kernel
theorem d2_6 : decode method_2_code 6 = .ok (.areturn, 1) := by decide +kernel
theorem d2_7 : decode method_2_code 7 = .ok (.iload_n 0, 1) := by decide +kernel
theorem d2_8 : decode method_2_code 8 = .ok (.ifCond .ne 7, 3) := by decide +kernel
theorem d2_11 : decode method_2_code 11 = .ok (.getstatic 7, 3) := by decide +kernel
theorem d2_14 : decode method_2_code 14 = .ok (.areturn, 1) := by decide +kernel
theorem d2_15 : decode method_2_code 15 = .ok (.iload_n 0, 1) := by decide +kernel
theorem d2_16 : decode method_2_code 16 = .ok (.iconst 1, 1) := by decide +kernel
theorem d2_17 : decode method_2_code 17 = .ok (.if_icmp .ne 7, 3) := by decide +kernel
theorem d2_20 : decode method_2_code 20 = .ok (.getstatic 13, 3) := by decide +kernel
theorem d2_23 : decode method_2_code 23 = .ok (.areturn, 1) := by decide +kernel
theorem d2_24 : decode method_2_code 24 = .ok (.iload_n 0, 1) := by decide +kernel
theorem d2_25 : decode method_2_code 25 = .ok (.iconst 2, 1) := by decide +kernel
theorem d2_26 : decode method_2_code 26 = .ok (.if_icmp .ne 7, 3) := by decide +kernel
theorem d2_29 : decode method_2_code 29 = .ok (.getstatic 16, 3) := by decide +kernel
theorem d2_32 : decode method_2_code 32 = .ok (.areturn, 1) := by decide +kernel
theorem d2_33 : decode method_2_code 33 = .ok (.iload_n 0, 1) := by decide +kernel
theorem d2_34 : decode method_2_code 34 = .ok (.iconst 3, 1) := by decide +kernel
theorem d2_35 : decode method_2_code 35 = .ok (.if_icmp .ne 7, 3) := by decide +kernel
theorem d2_38 : decode method_2_code 38 = .ok (.getstatic 19, 3) := by decide +kernel
theorem d2_41 : decode method_2_code 41 = .ok (.areturn, 1) := by decide +kernel
theorem d2_42 : decode method_2_code 42 = .ok (.getstatic 22, 3) := by decide +kernel
theorem d2_45 : decode method_2_code 45 = .ok (.areturn, 1) := by decide +kernel
def Qrm2 (n : Int32) (w0 : Addr) (w1 : Addr) (w2 : Addr) (w3 : Addr) (w4 : Addr) (Z : State) (h0 : Heap) (n0 : Nat) (v : Option Value) (h : Heap) (L : List Loc) : Prop := v = some (own_pick w0 w1 w2 w3 w4 n) ∧ Fr n0 L ∧ h = h0
set_option maxRecDepth 65536 in
set_option maxHeartbeats 40000000 in
theorem rm2 (l : Launch) (Z : State) (a0 : Array Value) (hw : ∀ d ∈ tables_1, d.before a0 Z = true) (n : Int32) (w0 : Addr) (w1 : Addr) (w2 : Addr) (w3 : Addr) (w4 : Addr) (h0 : Heap) (n0 : Nat) (Z0 : n0 ≤ h0.size) (hn : n = -1 ∨ n = 0 ∨ n = 1 ∨ n = 2 ∨ n = 3 ∨ n = 4) (S0 : Sta Z h0 "com/example/vestwright/vestwright/TerminationReason" "DEATH" "Lcom/example/vestwright/vestwright/TerminationReason;" (.ref w0)) (S1 : Sta Z h0 "com/example/vestwright/vestwright/TerminationReason" "DISABILITY" "Lcom/example/vestwright/vestwright/TerminationReason;" (.ref w1)) (S2 : Sta Z h0 "com/example/vestwright/vestwright/TerminationReason" "RETIREMENT" "Lcom/example/vestwright/vestwright/TerminationReason;" (.ref w2)) (S3 : Sta Z h0 "com/example/vestwright/vestwright/TerminationReason" "LAYOFF" "Lcom/example/vestwright/vestwright/TerminationReason;" (.ref w3)) (S4 : Sta Z h0 "com/example/vestwright/vestwright/TerminationReason" "OTHER" "Lcom/example/vestwright/vestwright/TerminationReason;" (.ref w4)) :
    MetFree l (⟨"com/example/vestwright/vestwright/CensusPeopleReasonPinLaw", "expected", "(I)Lcom/example/vestwright/vestwright/TerminationReason;"⟩ : MethodName) (head1 (Jvm.Cond.code (⟨"com/example/vestwright/vestwright/CensusPeopleReasonPinLaw", "expected", "(I)Lcom/example/vestwright/vestwright/TerminationReason;"⟩ : MethodName) method_2_code 1 (some (.object "com/example/vestwright/vestwright/TerminationReason")) :: []) ({ frames := 0, cells := 0, slots := 0, locals := 0 } : Room)) (fun ar_ U => ar_ = #[(.int n)] ∧ Z.Warmed39 U.vm ∧ U.heap = h0) (fun _ _ _ _ _ => True) (fun _ U o U' => ∃ v L, o = .returned v ∧ Qrm2 n w0 w1 w2 w3 w4 Z h0 n0 v U'.heap L ∧ FrameEnd U o U' L ({ frames := 0, cells := 0, slots := 0, locals := 0 } : Room).cells ({ frames := 0, cells := 0, slots := 0, locals := 0 } : Room).slots) := by
  refine MetFree.of_bodySF (plainFor_of_name (by first | (simp [plainName, overriddenIn]; done) | decide +kernel)) hisR ?_
  intro p e s m args below meth c s₁ Bd hml0 hP hK
  obtain ⟨rfl, hZ, hh⟩ := hP
  have hx := Bd.exec
  have hby := Bd.bytes
  have hml : c.maxLocals = 1 := hml0
  have hown : s.vm.findClass "com/example/vestwright/vestwright/CensusPeopleReasonPinLaw" = some m.cls := findClass_of_methodNamed Bd.named
  have hnm := (name_of_methodNamed Bd.named Bd.method).1
  have X0 : Stand p l e ({ frames := 0, cells := 0, slots := 0, locals := 0 } : Room) s m #[(.int n)] below meth c s₁ [] 0 0 := Stand.of_body Bd
  have e0 : s₁.heap = h0 := by rw [← hh, Bd.state]; rfl
  have N0 := Fr.nil n0
  show own_E p e below s (Qrm2 n w0 w1 w2 w3 w4 Z h0 n0) ({ frames := 0, cells := 0, slots := 0, locals := 0 } : Room).cells ({ frames := 0, cells := 0, slots := 0, locals := 0 } : Room).slots (s₁.setTop (entryFrame m #[(.int n)] 1))
  refine own_go (fun t k => castTop (show _ = (mkF m 0 #[.val (.int n)] []) from by first | (simp [entryFrame, mkF, argsToLocals, Value.category]; done) | rfl) k) ?_
  show own_E _ _ _ _ _ _ _ (s₁.setTop (mkF m 0 #[.val (.int n)] []))
  rcases hn with rfl | rfl | rfl | rfl | rfl | rfl
  ·
    show own_E _ _ _ _ _ _ _ (s₁.setTop (mkF m 0 #[.val (.int (-1 : Int32))] []))
    refine own_go (fun _ k => XS.iloadN X0.here hx rfl (hb hby d2_0) rfl k) ?_
    show own_E _ _ _ _ _ _ _ (s₁.setTop (mkF m 1 #[.val (.int (-1 : Int32))] [(.int (-1 : Int32))]))
    refine own_go (fun _ k => XT.iconstV X0.here hx rfl (-1 : Int32) (hb hby d2_1) (by decide) k) ?_
    show own_E _ _ _ _ _ _ _ (s₁.setTop (mkF m 2 #[.val (.int (-1 : Int32))] [(.int (-1 : Int32)), (.int (-1 : Int32))]))
    refine own_go (fun _ k => XS.icmpNo X0.here hx rfl (hb hby d2_2) rfl (by decide) k) ?_
    show own_E _ _ _ _ _ _ _ (s₁.setTop (mkF m 5 #[.val (.int (-1 : Int32))] []))
    refine own_go (fun _ k => XS.aconstNull X0.here hx rfl (hb hby d2_5) k) ?_
    show own_E _ _ _ _ _ _ _ (s₁.setTop (mkF m 6 #[.val (.int (-1 : Int32))] [.null]))
    exact own_ret X0 hx Bd.returns Bd.notSynchronized rfl (Or.inr (Or.inr (Or.inr (Or.inr ⟨rfl, rfl, rfl⟩)))) (hb hby d2_6) (by rw [e0]; exact ⟨rfl, N0, rfl⟩) (by decide) (by decide)
  ·
    show own_E _ _ _ _ _ _ _ (s₁.setTop (mkF m 0 #[.val (.int (0 : Int32))] []))
    refine own_go (fun _ k => XS.iloadN X0.here hx rfl (hb hby d2_0) rfl k) ?_
    show own_E _ _ _ _ _ _ _ (s₁.setTop (mkF m 1 #[.val (.int (0 : Int32))] [(.int (0 : Int32))]))
    refine own_go (fun _ k => XT.iconstV X0.here hx rfl (-1 : Int32) (hb hby d2_1) (by decide) k) ?_
    show own_E _ _ _ _ _ _ _ (s₁.setTop (mkF m 2 #[.val (.int (0 : Int32))] [(.int (-1 : Int32)), (.int (0 : Int32))]))
    refine own_go (fun _ k => XS.icmpYes X0.here hx rfl (pc0 := 2) (pc' := 7) rfl (hb hby d2_2) rfl (by decide) (by decide) (by decide) k) ?_
    show own_E _ _ _ _ _ _ _ (s₁.setTop (mkF m 7 #[.val (.int (0 : Int32))] []))
    refine own_go (fun _ k => XS.iloadN X0.here hx rfl (hb hby d2_7) rfl k) ?_
    show own_E _ _ _ _ _ _ _ (s₁.setTop (mkF m 8 #[.val (.int (0 : Int32))] [(.int (0 : Int32))]))
    refine own_go (fun _ k => XS.ifNo X0.here hx rfl (hb hby d2_8) rfl (by decide) k) ?_
    show own_E _ _ _ _ _ _ _ (s₁.setTop (mkF m 11 #[.val (.int (0 : Int32))] []))
    obtain ⟨T1, X1, e1, st1⟩ := getS2 X0 hx hZ hown (host := "") (Or.inl (hw _ (List.mem_of_getElem? (i := 29) rfl))) Via.refl e0 S0 (g := (mkF m 11 #[.val (.int (0 : Int32))] [])) rfl (hb hby d2_11)
    refine own_go st1 ?_
    show own_E _ _ _ _ _ _ _ (T1.setTop (mkF m 14 #[.val (.int (0 : Int32))] [(.ref w0)]))
    exact own_ret X1 hx Bd.returns Bd.notSynchronized rfl (Or.inr (Or.inr (Or.inr (Or.inr ⟨rfl, rfl, rfl⟩)))) (hb hby d2_14) (by rw [e1]; exact ⟨rfl, N0, rfl⟩) (by decide) (by decide)
  ·
    show own_E _ _ _ _ _ _ _ (s₁.setTop (mkF m 0 #[.val (.int (1 : Int32))] []))
    refine own_go (fun _ k => XS.iloadN X0.here hx rfl (hb hby d2_0) rfl k) ?_
    show own_E _ _ _ _ _ _ _ (s₁.setTop (mkF m 1 #[.val (.int (1 : Int32))] [(.int (1 : Int32))]))
    refine own_go (fun _ k => XT.iconstV X0.here hx rfl (-1 : Int32) (hb hby d2_1) (by decide) k) ?_
    show own_E _ _ _ _ _ _ _ (s₁.setTop (mkF m 2 #[.val (.int (1 : Int32))] [(.int (-1 : Int32)), (.int (1 : Int32))]))
    refine own_go (fun _ k => XS.icmpYes X0.here hx rfl (pc0 := 2) (pc' := 7) rfl (hb hby d2_2) rfl (by decide) (by decide) (by decide) k) ?_
    show own_E _ _ _ _ _ _ _ (s₁.setTop (mkF m 7 #[.val (.int (1 : Int32))] []))
    refine own_go (fun _ k => XS.iloadN X0.here hx rfl (hb hby d2_7) rfl k) ?_
    show own_E _ _ _ _ _ _ _ (s₁.setTop (mkF m 8 #[.val (.int (1 : Int32))] [(.int (1 : Int32))]))
    refine own_go (fun _ k => XS.ifYes X0.here hx rfl (pc0 := 8) (pc' := 15) rfl (hb hby d2_8) rfl (by decide) (by decide) (by decide) k) ?_
    show own_E _ _ _ _ _ _ _ (s₁.setTop (mkF m 15 #[.val (.int (1 : Int32))] []))
    refine own_go (fun _ k => XS.iloadN X0.here hx rfl (hb hby d2_15) rfl k) ?_
    show own_E _ _ _ _ _ _ _ (s₁.setTop (mkF m 16 #[.val (.int (1 : Int32))] [(.int (1 : Int32))]))
    refine own_go (fun _ k => XT.iconstV X0.here hx rfl (1 : Int32) (hb hby d2_16) (by decide) k) ?_
    show own_E _ _ _ _ _ _ _ (s₁.setTop (mkF m 17 #[.val (.int (1 : Int32))] [(.int (1 : Int32)), (.int (1 : Int32))]))
    refine own_go (fun _ k => XS.icmpNo X0.here hx rfl (hb hby d2_17) rfl (by decide) k) ?_
    show own_E _ _ _ _ _ _ _ (s₁.setTop (mkF m 20 #[.val (.int (1 : Int32))] []))
    obtain ⟨T2, X2, e2, st2⟩ := getS2 X0 hx hZ hown (host := "") (Or.inl (hw _ (List.mem_of_getElem? (i := 27) rfl))) Via.refl e0 S1 (g := (mkF m 20 #[.val (.int (1 : Int32))] [])) rfl (hb hby d2_20)
    refine own_go st2 ?_
    show own_E _ _ _ _ _ _ _ (T2.setTop (mkF m 23 #[.val (.int (1 : Int32))] [(.ref w1)]))
    exact own_ret X2 hx Bd.returns Bd.notSynchronized rfl (Or.inr (Or.inr (Or.inr (Or.inr ⟨rfl, rfl, rfl⟩)))) (hb hby d2_23) (by rw [e2]; exact ⟨rfl, N0, rfl⟩) (by decide) (by decide)
  ·
    show own_E _ _ _ _ _ _ _ (s₁.setTop (mkF m 0 #[.val (.int (2 : Int32))] []))
    refine own_go (fun _ k => XS.iloadN X0.here hx rfl (hb hby d2_0) rfl k) ?_
    show own_E _ _ _ _ _ _ _ (s₁.setTop (mkF m 1 #[.val (.int (2 : Int32))] [(.int (2 : Int32))]))
    refine own_go (fun _ k => XT.iconstV X0.here hx rfl (-1 : Int32) (hb hby d2_1) (by decide) k) ?_
    show own_E _ _ _ _ _ _ _ (s₁.setTop (mkF m 2 #[.val (.int (2 : Int32))] [(.int (-1 : Int32)), (.int (2 : Int32))]))
    refine own_go (fun _ k => XS.icmpYes X0.here hx rfl (pc0 := 2) (pc' := 7) rfl (hb hby d2_2) rfl (by decide) (by decide) (by decide) k) ?_
    show own_E _ _ _ _ _ _ _ (s₁.setTop (mkF m 7 #[.val (.int (2 : Int32))] []))
    refine own_go (fun _ k => XS.iloadN X0.here hx rfl (hb hby d2_7) rfl k) ?_
    show own_E _ _ _ _ _ _ _ (s₁.setTop (mkF m 8 #[.val (.int (2 : Int32))] [(.int (2 : Int32))]))
    refine own_go (fun _ k => XS.ifYes X0.here hx rfl (pc0 := 8) (pc' := 15) rfl (hb hby d2_8) rfl (by decide) (by decide) (by decide) k) ?_
    show own_E _ _ _ _ _ _ _ (s₁.setTop (mkF m 15 #[.val (.int (2 : Int32))] []))
    refine own_go (fun _ k => XS.iloadN X0.here hx rfl (hb hby d2_15) rfl k) ?_
    show own_E _ _ _ _ _ _ _ (s₁.setTop (mkF m 16 #[.val (.int (2 : Int32))] [(.int (2 : Int32))]))
    refine own_go (fun _ k => XT.iconstV X0.here hx rfl (1 : Int32) (hb hby d2_16) (by decide) k) ?_
    show own_E _ _ _ _ _ _ _ (s₁.setTop (mkF m 17 #[.val (.int (2 : Int32))] [(.int (1 : Int32)), (.int (2 : Int32))]))
    refine own_go (fun _ k => XS.icmpYes X0.here hx rfl (pc0 := 17) (pc' := 24) rfl (hb hby d2_17) rfl (by decide) (by decide) (by decide) k) ?_
    show own_E _ _ _ _ _ _ _ (s₁.setTop (mkF m 24 #[.val (.int (2 : Int32))] []))
    refine own_go (fun _ k => XS.iloadN X0.here hx rfl (hb hby d2_24) rfl k) ?_
    show own_E _ _ _ _ _ _ _ (s₁.setTop (mkF m 25 #[.val (.int (2 : Int32))] [(.int (2 : Int32))]))
    refine own_go (fun _ k => XT.iconstV X0.here hx rfl (2 : Int32) (hb hby d2_25) (by decide) k) ?_
    show own_E _ _ _ _ _ _ _ (s₁.setTop (mkF m 26 #[.val (.int (2 : Int32))] [(.int (2 : Int32)), (.int (2 : Int32))]))
    refine own_go (fun _ k => XS.icmpNo X0.here hx rfl (hb hby d2_26) rfl (by decide) k) ?_
    show own_E _ _ _ _ _ _ _ (s₁.setTop (mkF m 29 #[.val (.int (2 : Int32))] []))
    obtain ⟨T3, X3, e3, st3⟩ := getS2 X0 hx hZ hown (host := "") (Or.inl (hw _ (List.mem_of_getElem? (i := 16) rfl))) Via.refl e0 S2 (g := (mkF m 29 #[.val (.int (2 : Int32))] [])) rfl (hb hby d2_29)
    refine own_go st3 ?_
    show own_E _ _ _ _ _ _ _ (T3.setTop (mkF m 32 #[.val (.int (2 : Int32))] [(.ref w2)]))
    exact own_ret X3 hx Bd.returns Bd.notSynchronized rfl (Or.inr (Or.inr (Or.inr (Or.inr ⟨rfl, rfl, rfl⟩)))) (hb hby d2_32) (by rw [e3]; exact ⟨rfl, N0, rfl⟩) (by decide) (by decide)
  ·
    show own_E _ _ _ _ _ _ _ (s₁.setTop (mkF m 0 #[.val (.int (3 : Int32))] []))
    refine own_go (fun _ k => XS.iloadN X0.here hx rfl (hb hby d2_0) rfl k) ?_
    show own_E _ _ _ _ _ _ _ (s₁.setTop (mkF m 1 #[.val (.int (3 : Int32))] [(.int (3 : Int32))]))
    refine own_go (fun _ k => XT.iconstV X0.here hx rfl (-1 : Int32) (hb hby d2_1) (by decide) k) ?_
    show own_E _ _ _ _ _ _ _ (s₁.setTop (mkF m 2 #[.val (.int (3 : Int32))] [(.int (-1 : Int32)), (.int (3 : Int32))]))
    refine own_go (fun _ k => XS.icmpYes X0.here hx rfl (pc0 := 2) (pc' := 7) rfl (hb hby d2_2) rfl (by decide) (by decide) (by decide) k) ?_
    show own_E _ _ _ _ _ _ _ (s₁.setTop (mkF m 7 #[.val (.int (3 : Int32))] []))
    refine own_go (fun _ k => XS.iloadN X0.here hx rfl (hb hby d2_7) rfl k) ?_
    show own_E _ _ _ _ _ _ _ (s₁.setTop (mkF m 8 #[.val (.int (3 : Int32))] [(.int (3 : Int32))]))
    refine own_go (fun _ k => XS.ifYes X0.here hx rfl (pc0 := 8) (pc' := 15) rfl (hb hby d2_8) rfl (by decide) (by decide) (by decide) k) ?_
    show own_E _ _ _ _ _ _ _ (s₁.setTop (mkF m 15 #[.val (.int (3 : Int32))] []))
    refine own_go (fun _ k => XS.iloadN X0.here hx rfl (hb hby d2_15) rfl k) ?_
    show own_E _ _ _ _ _ _ _ (s₁.setTop (mkF m 16 #[.val (.int (3 : Int32))] [(.int (3 : Int32))]))
    refine own_go (fun _ k => XT.iconstV X0.here hx rfl (1 : Int32) (hb hby d2_16) (by decide) k) ?_
    show own_E _ _ _ _ _ _ _ (s₁.setTop (mkF m 17 #[.val (.int (3 : Int32))] [(.int (1 : Int32)), (.int (3 : Int32))]))
    refine own_go (fun _ k => XS.icmpYes X0.here hx rfl (pc0 := 17) (pc' := 24) rfl (hb hby d2_17) rfl (by decide) (by decide) (by decide) k) ?_
    show own_E _ _ _ _ _ _ _ (s₁.setTop (mkF m 24 #[.val (.int (3 : Int32))] []))
    refine own_go (fun _ k => XS.iloadN X0.here hx rfl (hb hby d2_24) rfl k) ?_
    show own_E _ _ _ _ _ _ _ (s₁.setTop (mkF m 25 #[.val (.int (3 : Int32))] [(.int (3 : Int32))]))
    refine own_go (fun _ k => XT.iconstV X0.here hx rfl (2 : Int32) (hb hby d2_25) (by decide) k) ?_
    show own_E _ _ _ _ _ _ _ (s₁.setTop (mkF m 26 #[.val (.int (3 : Int32))] [(.int (2 : Int32)), (.int (3 : Int32))]))
    refine own_go (fun _ k => XS.icmpYes X0.here hx rfl (pc0 := 26) (pc' := 33) rfl (hb hby d2_26) rfl (by decide) (by decide) (by decide) k) ?_
    show own_E _ _ _ _ _ _ _ (s₁.setTop (mkF m 33 #[.val (.int (3 : Int32))] []))
    refine own_go (fun _ k => XS.iloadN X0.here hx rfl (hb hby d2_33) rfl k) ?_
    show own_E _ _ _ _ _ _ _ (s₁.setTop (mkF m 34 #[.val (.int (3 : Int32))] [(.int (3 : Int32))]))
    refine own_go (fun _ k => XT.iconstV X0.here hx rfl (3 : Int32) (hb hby d2_34) (by decide) k) ?_
    show own_E _ _ _ _ _ _ _ (s₁.setTop (mkF m 35 #[.val (.int (3 : Int32))] [(.int (3 : Int32)), (.int (3 : Int32))]))
    refine own_go (fun _ k => XS.icmpNo X0.here hx rfl (hb hby d2_35) rfl (by decide) k) ?_
    show own_E _ _ _ _ _ _ _ (s₁.setTop (mkF m 38 #[.val (.int (3 : Int32))] []))
    obtain ⟨T4, X4, e4, st4⟩ := getS2 X0 hx hZ hown (host := "") (Or.inl (hw _ (List.mem_of_getElem? (i := 33) rfl))) Via.refl e0 S3 (g := (mkF m 38 #[.val (.int (3 : Int32))] [])) rfl (hb hby d2_38)
    refine own_go st4 ?_
    show own_E _ _ _ _ _ _ _ (T4.setTop (mkF m 41 #[.val (.int (3 : Int32))] [(.ref w3)]))
    exact own_ret X4 hx Bd.returns Bd.notSynchronized rfl (Or.inr (Or.inr (Or.inr (Or.inr ⟨rfl, rfl, rfl⟩)))) (hb hby d2_41) (by rw [e4]; exact ⟨rfl, N0, rfl⟩) (by decide) (by decide)
  ·
    show own_E _ _ _ _ _ _ _ (s₁.setTop (mkF m 0 #[.val (.int (4 : Int32))] []))
    refine own_go (fun _ k => XS.iloadN X0.here hx rfl (hb hby d2_0) rfl k) ?_
    show own_E _ _ _ _ _ _ _ (s₁.setTop (mkF m 1 #[.val (.int (4 : Int32))] [(.int (4 : Int32))]))
    refine own_go (fun _ k => XT.iconstV X0.here hx rfl (-1 : Int32) (hb hby d2_1) (by decide) k) ?_
    show own_E _ _ _ _ _ _ _ (s₁.setTop (mkF m 2 #[.val (.int (4 : Int32))] [(.int (-1 : Int32)), (.int (4 : Int32))]))
    refine own_go (fun _ k => XS.icmpYes X0.here hx rfl (pc0 := 2) (pc' := 7) rfl (hb hby d2_2) rfl (by decide) (by decide) (by decide) k) ?_
    show own_E _ _ _ _ _ _ _ (s₁.setTop (mkF m 7 #[.val (.int (4 : Int32))] []))
    refine own_go (fun _ k => XS.iloadN X0.here hx rfl (hb hby d2_7) rfl k) ?_
    show own_E _ _ _ _ _ _ _ (s₁.setTop (mkF m 8 #[.val (.int (4 : Int32))] [(.int (4 : Int32))]))
    refine own_go (fun _ k => XS.ifYes X0.here hx rfl (pc0 := 8) (pc' := 15) rfl (hb hby d2_8) rfl (by decide) (by decide) (by decide) k) ?_
    show own_E _ _ _ _ _ _ _ (s₁.setTop (mkF m 15 #[.val (.int (4 : Int32))] []))
    refine own_go (fun _ k => XS.iloadN X0.here hx rfl (hb hby d2_15) rfl k) ?_
    show own_E _ _ _ _ _ _ _ (s₁.setTop (mkF m 16 #[.val (.int (4 : Int32))] [(.int (4 : Int32))]))
    refine own_go (fun _ k => XT.iconstV X0.here hx rfl (1 : Int32) (hb hby d2_16) (by decide) k) ?_
    show own_E _ _ _ _ _ _ _ (s₁.setTop (mkF m 17 #[.val (.int (4 : Int32))] [(.int (1 : Int32)), (.int (4 : Int32))]))
    refine own_go (fun _ k => XS.icmpYes X0.here hx rfl (pc0 := 17) (pc' := 24) rfl (hb hby d2_17) rfl (by decide) (by decide) (by decide) k) ?_
    show own_E _ _ _ _ _ _ _ (s₁.setTop (mkF m 24 #[.val (.int (4 : Int32))] []))
    refine own_go (fun _ k => XS.iloadN X0.here hx rfl (hb hby d2_24) rfl k) ?_
    show own_E _ _ _ _ _ _ _ (s₁.setTop (mkF m 25 #[.val (.int (4 : Int32))] [(.int (4 : Int32))]))
    refine own_go (fun _ k => XT.iconstV X0.here hx rfl (2 : Int32) (hb hby d2_25) (by decide) k) ?_
    show own_E _ _ _ _ _ _ _ (s₁.setTop (mkF m 26 #[.val (.int (4 : Int32))] [(.int (2 : Int32)), (.int (4 : Int32))]))
    refine own_go (fun _ k => XS.icmpYes X0.here hx rfl (pc0 := 26) (pc' := 33) rfl (hb hby d2_26) rfl (by decide) (by decide) (by decide) k) ?_
    show own_E _ _ _ _ _ _ _ (s₁.setTop (mkF m 33 #[.val (.int (4 : Int32))] []))
    refine own_go (fun _ k => XS.iloadN X0.here hx rfl (hb hby d2_33) rfl k) ?_
    show own_E _ _ _ _ _ _ _ (s₁.setTop (mkF m 34 #[.val (.int (4 : Int32))] [(.int (4 : Int32))]))
    refine own_go (fun _ k => XT.iconstV X0.here hx rfl (3 : Int32) (hb hby d2_34) (by decide) k) ?_
    show own_E _ _ _ _ _ _ _ (s₁.setTop (mkF m 35 #[.val (.int (4 : Int32))] [(.int (3 : Int32)), (.int (4 : Int32))]))
    refine own_go (fun _ k => XS.icmpYes X0.here hx rfl (pc0 := 35) (pc' := 42) rfl (hb hby d2_35) rfl (by decide) (by decide) (by decide) k) ?_
    show own_E _ _ _ _ _ _ _ (s₁.setTop (mkF m 42 #[.val (.int (4 : Int32))] []))
    obtain ⟨T5, X5, e5, st5⟩ := getS2 X0 hx hZ hown (host := "") (Or.inl (hw _ (List.mem_of_getElem? (i := 31) rfl))) Via.refl e0 S4 (g := (mkF m 42 #[.val (.int (4 : Int32))] [])) rfl (hb hby d2_42)
    refine own_go st5 ?_
    show own_E _ _ _ _ _ _ _ (T5.setTop (mkF m 45 #[.val (.int (4 : Int32))] [(.ref w4)]))
    exact own_ret X5 hx Bd.returns Bd.notSynchronized rfl (Or.inr (Or.inr (Or.inr (Or.inr ⟨rfl, rfl, rfl⟩)))) (hb hby d2_45) (by rw [e5]; exact ⟨rfl, N0, rfl⟩) (by decide) (by decide)
def Qrm0 (p0 : Int32) (ar : Addr) (cl : Cell) (w0 : Addr) (w1 : Addr) (w2 : Addr) (w3 : Addr) (w4 : Addr) (Z : State) (h0 : Heap) (n0 : Nat) (v : Option Value) (h : Heap) (L : List Loc) : Prop := v = some (.int 1) ∧ Fr n0 L
set_option maxRecDepth 65536 in
set_option maxHeartbeats 40000000 in
theorem rm0 (l : Launch) (Z : State) (a0 : Array Value) (hw : ∀ d ∈ tables_1, d.before a0 Z = true) (ws : List Jvm.Cond) (p0 : Int32) (ar : Addr) (cl : Cell) (w0 : Addr) (w1 : Addr) (w2 : Addr) (w3 : Addr) (w4 : Addr) (h0 : Heap) (n0 : Nat) (Z0 : n0 ≤ h0.size) (S0 : Sta Z h0 "com/example/vestwright/vestwright/TerminationReason" "DEATH" "Lcom/example/vestwright/vestwright/TerminationReason;" (.ref w0)) (S1 : Sta Z h0 "com/example/vestwright/vestwright/TerminationReason" "DISABILITY" "Lcom/example/vestwright/vestwright/TerminationReason;" (.ref w1)) (S2 : Sta Z h0 "com/example/vestwright/vestwright/TerminationReason" "RETIREMENT" "Lcom/example/vestwright/vestwright/TerminationReason;" (.ref w2)) (S3 : Sta Z h0 "com/example/vestwright/vestwright/TerminationReason" "LAYOFF" "Lcom/example/vestwright/vestwright/TerminationReason;" (.ref w3)) (S4 : Sta Z h0 "com/example/vestwright/vestwright/TerminationReason" "OTHER" "Lcom/example/vestwright/vestwright/TerminationReason;" (.ref w4)) (SR : Sta Z h0 "com/example/vestwright/vestwright/CensusPeople" "REASONS" "[Lcom/example/vestwright/vestwright/TerminationReason;" (.ref ar)) (AR : Arr Z h0 ar cl (.object "com/example/vestwright/vestwright/TerminationReason")) (I0 : ¬ ((0 : Int32) < 0 ∨ cl.slots.size ≤ (0 : Int32).toNatClampNeg) ∧ cl.slots[(0 : Int32).toNatClampNeg]? = some (.ref w0)) (I1 : ¬ ((1 : Int32) < 0 ∨ cl.slots.size ≤ (1 : Int32).toNatClampNeg) ∧ cl.slots[(1 : Int32).toNatClampNeg]? = some (.ref w1)) (I2 : ¬ ((2 : Int32) < 0 ∨ cl.slots.size ≤ (2 : Int32).toNatClampNeg) ∧ cl.slots[(2 : Int32).toNatClampNeg]? = some (.ref w2)) (I3 : ¬ ((3 : Int32) < 0 ∨ cl.slots.size ≤ (3 : Int32).toNatClampNeg) ∧ cl.slots[(3 : Int32).toNatClampNeg]? = some (.ref w3)) (I4 : ¬ ((4 : Int32) < 0 ∨ cl.slots.size ≤ (4 : Int32).toNatClampNeg) ∧ cl.slots[(4 : Int32).toNatClampNeg]? = some (.ref w4)) (E0 : Exa Z h0 w0 "com/example/vestwright/vestwright/TerminationReason") (E1 : Exa Z h0 w1 "com/example/vestwright/vestwright/TerminationReason") (E2 : Exa Z h0 w2 "com/example/vestwright/vestwright/TerminationReason") (E3 : Exa Z h0 w3 "com/example/vestwright/vestwright/TerminationReason") (E4 : Exa Z h0 w4 "com/example/vestwright/vestwright/TerminationReason") (F0 : Fld Z h0 w0 "java/lang/Enum" "ordinal" "I" (.int (0 : Int32))) (F1 : Fld Z h0 w1 "java/lang/Enum" "ordinal" "I" (.int (1 : Int32))) (F2 : Fld Z h0 w2 "java/lang/Enum" "ordinal" "I" (.int (2 : Int32))) (F3 : Fld Z h0 w3 "java/lang/Enum" "ordinal" "I" (.int (3 : Int32))) (F4 : Fld Z h0 w4 "java/lang/Enum" "ordinal" "I" (.int (4 : Int32))) :
    MetFree l x (head1 (Jvm.Cond.code x code maxLocals ret :: ws) room_1) (fun ar_ U => ar_ = #[(.int p0)] ∧ Z.Warmed39 U.vm ∧ U.heap = h0) (fun _ _ _ _ _ => True) (fun _ U o U' => ∃ v L, o = .returned v ∧ Qrm0 p0 ar cl w0 w1 w2 w3 w4 Z h0 n0 v U'.heap L ∧ FrameEnd U o U' L room_1.cells room_1.slots) := by
  refine MetFree.of_bodySF (plainFor_of_name (by first | (simp [plainName, overriddenIn]; done) | decide +kernel)) hisR ?_
  intro p e s m args below meth c s₁ Bd hml0 hP hK
  obtain ⟨rfl, hZ, hh⟩ := hP
  have hx := Bd.exec
  have hby := Bd.bytes
  have hml : c.maxLocals = 3 := hml0
  have hown : s.vm.findClass "com/example/vestwright/vestwright/CensusPeopleReasonPinLaw" = some m.cls := findClass_of_methodNamed Bd.named
  have hnm := (name_of_methodNamed Bd.named Bd.method).1
  have X0 : Stand p l e room_1 s m #[(.int p0)] below meth c s₁ [] 0 0 := Stand.of_body Bd
  have e0 : s₁.heap = h0 := by rw [← hh, Bd.state]; rfl
  have N0 := Fr.nil n0
  show own_E p e below s (Qrm0 p0 ar cl w0 w1 w2 w3 w4 Z h0 n0) room_1.cells room_1.slots (s₁.setTop (entryFrame m #[(.int p0)] maxLocals))
  refine own_go (fun t k => castTop (show _ = (mkF m 0 #[.val (.int p0), .unset, .unset] []) from by first | (simp [entryFrame, mkF, argsToLocals, Value.category, maxLocals]; done) | rfl) k) ?_
  show own_E _ _ _ _ _ _ _ (s₁.setTop (mkF m 0 #[.val (.int p0), .unset, .unset] []))
  refine own_go (fun _ k => XS.iloadN X0.here hx rfl (hb hby at_0) rfl k) ?_
  show own_E _ _ _ _ _ _ _ (s₁.setTop (mkF m 1 #[.val (.int p0), .unset, .unset] [(.int p0)]))
  refine own_go (fun _ k => X0.ldcI hx hown (mvT hZ (hw _ (List.mem_of_getElem? (i := 0) rfl))) rfl (hb hby at_1) k) ?_
  show own_E _ _ _ _ _ _ _ (s₁.setTop (mkF m 3 #[.val (.int p0), .unset, .unset] [(.int (2147483647 : Int32)), (.int p0)]))
  refine own_go (fun _ k => XS.iand X0.here hx rfl (hb hby at_3) rfl k) ?_
  show own_E _ _ _ _ _ _ _ (s₁.setTop (mkF m 4 #[.val (.int p0), .unset, .unset] [(.int (p0 &&& (2147483647 : Int32)))]))
  refine own_go (fun _ k => XT.bipushV X0.here hx rfl (6 : Int32) (hb hby at_4) (by decide) k) ?_
  show own_E _ _ _ _ _ _ _ (s₁.setTop (mkF m 6 #[.val (.int p0), .unset, .unset] [(.int (6 : Int32)), (.int (p0 &&& (2147483647 : Int32)))]))
  refine own_go (fun _ k => iremM X0 hx rfl (hb hby at_6) rfl (by decide) k) ?_
  show own_E _ _ _ _ _ _ _ (s₁.setTop (mkF m 7 #[.val (.int p0), .unset, .unset] [(.int ((p0 &&& (2147483647 : Int32)) % (6 : Int32)))]))
  refine own_go (fun _ k => XT.iconstV X0.here hx rfl (1 : Int32) (hb hby at_7) (by decide) k) ?_
  show own_E _ _ _ _ _ _ _ (s₁.setTop (mkF m 8 #[.val (.int p0), .unset, .unset] [(.int (1 : Int32)), (.int ((p0 &&& (2147483647 : Int32)) % (6 : Int32)))]))
  refine own_go (fun _ k => XS.isub X0.here hx rfl (hb hby at_8) rfl k) ?_
  show own_E _ _ _ _ _ _ _ (s₁.setTop (mkF m 9 #[.val (.int p0), .unset, .unset] [(.int (((p0 &&& (2147483647 : Int32)) % (6 : Int32)) - (1 : Int32)))]))
  obtain ⟨r, hr⟩ : ∃ r, r = (((p0 &&& (2147483647 : Int32)) % (6 : Int32)) - (1 : Int32)) := ⟨_, rfl⟩
  rw [← hr]
  have hr6 : r = -1 ∨ r = 0 ∨ r = 1 ∨ r = 2 ∨ r = 3 ∨ r = 4 := by
    rw [hr]; rcases own_six p0 with h | h | h | h | h | h <;> rw [h] <;> decide
  clear hr
  rcases hr6 with rfl | rfl | rfl | rfl | rfl | rfl
  ·
    show own_E _ _ _ _ _ _ _ (s₁.setTop (mkF m 9 #[.val (.int p0), .unset, .unset] [(.int (-1 : Int32))]))
    refine own_go (fun _ k => XS.istoreN X0.here hx rfl (hb hby at_9) rfl (l' := #[.val (.int p0), .val (.int (-1 : Int32)), .unset]) rfl k) ?_
    show own_E _ _ _ _ _ _ _ (s₁.setTop (mkF m 10 #[.val (.int p0), .val (.int (-1 : Int32)), .unset] []))
    refine own_go (fun _ k => XS.iloadN X0.here hx rfl (hb hby at_10) rfl k) ?_
    show own_E _ _ _ _ _ _ _ (s₁.setTop (mkF m 11 #[.val (.int p0), .val (.int (-1 : Int32)), .unset] [(.int (-1 : Int32))]))
    obtain ⟨v1, T1, L1, X1, hQ1, st1⟩ := own_callS X0 hx hZ (rm := ({ frames := 0, cells := 0, slots := 0, locals := 0 } : Room)) (W := 2) (argsL := [(.int (-1 : Int32))]) (rest := []) (y := (⟨"com/example/vestwright/vestwright/CensusPeople", "reason", "(I)Lcom/example/vestwright/vestwright/TerminationReason;"⟩ : MethodName)) hown (hw _ (List.mem_of_getElem? (i := 1) rfl)) (hw _ (List.mem_of_getElem? (i := 2) rfl)) (hw _ (List.mem_of_getElem? (i := 3) rfl)) (hw _ (List.mem_of_getElem? (i := 4) rfl)) (by decide) (rm1 l Z a0 hw (-1 : Int32) ar cl w0 w1 w2 w3 w4 h0 n0 Z0 (by decide) SR AR I0 I1 I2 I3 I4) e0 (by decide) (by decide) (by decide) (by decide) (g := (mkF m 11 #[.val (.int p0), .val (.int (-1 : Int32)), .unset] [(.int (-1 : Int32))])) rfl (by rw [hml]; rfl) (lenOf pd_1 rfl) rfl (Nat.le_of_ble_eq_true rfl) (hb hby at_11)
    obtain ⟨rfl, N1, e1⟩ := hQ1
    refine own_go st1 ?_
    show own_E _ _ _ _ _ _ _ (T1.setTop (mkF m 14 #[.val (.int p0), .val (.int (-1 : Int32)), .unset] [.null]))
    have M1 := Fr.app N0 N1
    refine own_go (fun _ k => XS.astoreN X1.here hx rfl (hb hby at_14) rfl rfl (l' := #[.val (.int p0), .val (.int (-1 : Int32)), .val .null]) rfl k) ?_
    show own_E _ _ _ _ _ _ _ (T1.setTop (mkF m 15 #[.val (.int p0), .val (.int (-1 : Int32)), .val .null] []))
    refine own_go (fun _ k => XS.aloadN X1.here hx rfl (hb hby at_15) rfl rfl k) ?_
    show own_E _ _ _ _ _ _ _ (T1.setTop (mkF m 16 #[.val (.int p0), .val (.int (-1 : Int32)), .val .null] [.null]))
    refine own_go (fun _ k => XS.iloadN X1.here hx rfl (hb hby at_16) rfl k) ?_
    show own_E _ _ _ _ _ _ _ (T1.setTop (mkF m 17 #[.val (.int p0), .val (.int (-1 : Int32)), .val .null] [(.int (-1 : Int32)), .null]))
    obtain ⟨v2, T2, L2, X2, hQ2, st2⟩ := own_callS X1 hx hZ (rm := ({ frames := 0, cells := 0, slots := 0, locals := 0 } : Room)) (W := 2) (argsL := [(.int (-1 : Int32))]) (rest := [.null]) (y := (⟨"com/example/vestwright/vestwright/CensusPeopleReasonPinLaw", "expected", "(I)Lcom/example/vestwright/vestwright/TerminationReason;"⟩ : MethodName)) hown (hw _ (List.mem_of_getElem? (i := 5) rfl)) (hw _ (List.mem_of_getElem? (i := 6) rfl)) (hw _ (List.mem_of_getElem? (i := 7) rfl)) (hw _ (List.mem_of_getElem? (i := 8) rfl)) (by decide) (rm2 l Z a0 hw (-1 : Int32) w0 w1 w2 w3 w4 h0 n0 Z0 (by decide) S0 S1 S2 S3 S4) e1 (by decide) (by decide) (by decide) (by decide) (g := (mkF m 17 #[.val (.int p0), .val (.int (-1 : Int32)), .val .null] [(.int (-1 : Int32)), .null])) rfl (by rw [hml]; rfl) (lenOf pd_1 rfl) rfl (Nat.le_of_ble_eq_true rfl) (hb hby at_17)
    obtain ⟨rfl, N2, e2⟩ := hQ2
    refine own_go st2 ?_
    show own_E _ _ _ _ _ _ _ (T2.setTop (mkF m 20 #[.val (.int p0), .val (.int (-1 : Int32)), .val .null] [.null, .null]))
    have M2 := Fr.app M1 N2
    refine own_go (fun _ k => Jvm.RoadKit.acmp (g := (mkF m 20 #[.val (.int p0), .val (.int (-1 : Int32)), .val .null] [.null, .null])) X2 hx rfl rfl rfl (pc0 := 20) (pc' := 25) (same := true) rfl (hb hby at_20) rfl (by simp) (by decide) (by decide) k) ?_
    show own_E _ _ _ _ _ _ _ (T2.setTop (mkF m 25 #[.val (.int p0), .val (.int (-1 : Int32)), .val .null] []))
    refine own_go (fun _ k => XS.aloadN X2.here hx rfl (hb hby at_25) rfl rfl k) ?_
    show own_E _ _ _ _ _ _ _ (T2.setTop (mkF m 26 #[.val (.int p0), .val (.int (-1 : Int32)), .val .null] [.null]))
    obtain ⟨v3, T3, L3, X3, hQ3, st3⟩ := own_callS X2 hx hZ (rm := ({ frames := 1, cells := 0, slots := 0, locals := 12 } : Room)) (W := 2) (argsL := [.null]) (rest := []) (y := (⟨"com/example/vestwright/vestwright/CensusPeople", "reasonNumber", "(Lcom/example/vestwright/vestwright/TerminationReason;)I"⟩ : MethodName)) hown (hw _ (List.mem_of_getElem? (i := 9) rfl)) (hw _ (List.mem_of_getElem? (i := 10) rfl)) (hw _ (List.mem_of_getElem? (i := 3) rfl)) (hw _ (List.mem_of_getElem? (i := 11) rfl)) (by decide) (rmN l Z a0 hw h0 n0 Z0) e2 (by decide) (by decide) (by decide) (by decide) (g := (mkF m 26 #[.val (.int p0), .val (.int (-1 : Int32)), .val .null] [.null])) rfl (by rw [hml]; rfl) (lenOf pd_2 rfl) rfl (Nat.le_of_ble_eq_true rfl) (hb hby at_26)
    obtain ⟨rfl, N3, e3⟩ := hQ3
    refine own_go st3 ?_
    show own_E _ _ _ _ _ _ _ (T3.setTop (mkF m 29 #[.val (.int p0), .val (.int (-1 : Int32)), .val .null] [(.int (-1 : Int32))]))
    have M3 := Fr.app M2 N3
    refine own_go (fun _ k => XS.iloadN X3.here hx rfl (hb hby at_29) rfl k) ?_
    show own_E _ _ _ _ _ _ _ (T3.setTop (mkF m 30 #[.val (.int p0), .val (.int (-1 : Int32)), .val .null] [(.int (-1 : Int32)), (.int (-1 : Int32))]))
    refine own_go (fun _ k => XS.icmpNo X3.here hx rfl (hb hby at_30) rfl (by decide) k) ?_
    show own_E _ _ _ _ _ _ _ (T3.setTop (mkF m 33 #[.val (.int p0), .val (.int (-1 : Int32)), .val .null] []))
    refine own_go (fun _ k => XT.iconstV X3.here hx rfl (1 : Int32) (hb hby at_33) (by decide) k) ?_
    show own_E _ _ _ _ _ _ _ (T3.setTop (mkF m 34 #[.val (.int p0), .val (.int (-1 : Int32)), .val .null] [(.int (1 : Int32))]))
    refine own_go (fun _ k => XS.goto X3.here hx rfl (pc0 := 34) (pc' := 38) rfl (hb hby at_34) (by decide) (by decide) k) ?_
    show own_E _ _ _ _ _ _ _ (T3.setTop (mkF m 38 #[.val (.int p0), .val (.int (-1 : Int32)), .val .null] [(.int (1 : Int32))]))
    exact own_ret X3 hx Bd.returns Bd.notSynchronized rfl (Or.inl ⟨rfl, by simp, _, rfl⟩) (hb hby at_38) (by rw [e3]; exact ⟨rfl, M3⟩) (by decide) (by decide)
  ·
    show own_E _ _ _ _ _ _ _ (s₁.setTop (mkF m 9 #[.val (.int p0), .unset, .unset] [(.int (0 : Int32))]))
    refine own_go (fun _ k => XS.istoreN X0.here hx rfl (hb hby at_9) rfl (l' := #[.val (.int p0), .val (.int (0 : Int32)), .unset]) rfl k) ?_
    show own_E _ _ _ _ _ _ _ (s₁.setTop (mkF m 10 #[.val (.int p0), .val (.int (0 : Int32)), .unset] []))
    refine own_go (fun _ k => XS.iloadN X0.here hx rfl (hb hby at_10) rfl k) ?_
    show own_E _ _ _ _ _ _ _ (s₁.setTop (mkF m 11 #[.val (.int p0), .val (.int (0 : Int32)), .unset] [(.int (0 : Int32))]))
    obtain ⟨v4, T4, L4, X4, hQ4, st4⟩ := own_callS X0 hx hZ (rm := ({ frames := 0, cells := 0, slots := 0, locals := 0 } : Room)) (W := 2) (argsL := [(.int (0 : Int32))]) (rest := []) (y := (⟨"com/example/vestwright/vestwright/CensusPeople", "reason", "(I)Lcom/example/vestwright/vestwright/TerminationReason;"⟩ : MethodName)) hown (hw _ (List.mem_of_getElem? (i := 1) rfl)) (hw _ (List.mem_of_getElem? (i := 2) rfl)) (hw _ (List.mem_of_getElem? (i := 3) rfl)) (hw _ (List.mem_of_getElem? (i := 4) rfl)) (by decide) (rm1 l Z a0 hw (0 : Int32) ar cl w0 w1 w2 w3 w4 h0 n0 Z0 (by decide) SR AR I0 I1 I2 I3 I4) e0 (by decide) (by decide) (by decide) (by decide) (g := (mkF m 11 #[.val (.int p0), .val (.int (0 : Int32)), .unset] [(.int (0 : Int32))])) rfl (by rw [hml]; rfl) (lenOf pd_1 rfl) rfl (Nat.le_of_ble_eq_true rfl) (hb hby at_11)
    obtain ⟨rfl, N4, e4⟩ := hQ4
    refine own_go st4 ?_
    show own_E _ _ _ _ _ _ _ (T4.setTop (mkF m 14 #[.val (.int p0), .val (.int (0 : Int32)), .unset] [(.ref w0)]))
    have M4 := Fr.app N0 N4
    refine own_go (fun _ k => XS.astoreN X4.here hx rfl (hb hby at_14) rfl rfl (l' := #[.val (.int p0), .val (.int (0 : Int32)), .val (.ref w0)]) rfl k) ?_
    show own_E _ _ _ _ _ _ _ (T4.setTop (mkF m 15 #[.val (.int p0), .val (.int (0 : Int32)), .val (.ref w0)] []))
    refine own_go (fun _ k => XS.aloadN X4.here hx rfl (hb hby at_15) rfl rfl k) ?_
    show own_E _ _ _ _ _ _ _ (T4.setTop (mkF m 16 #[.val (.int p0), .val (.int (0 : Int32)), .val (.ref w0)] [(.ref w0)]))
    refine own_go (fun _ k => XS.iloadN X4.here hx rfl (hb hby at_16) rfl k) ?_
    show own_E _ _ _ _ _ _ _ (T4.setTop (mkF m 17 #[.val (.int p0), .val (.int (0 : Int32)), .val (.ref w0)] [(.int (0 : Int32)), (.ref w0)]))
    obtain ⟨v5, T5, L5, X5, hQ5, st5⟩ := own_callS X4 hx hZ (rm := ({ frames := 0, cells := 0, slots := 0, locals := 0 } : Room)) (W := 2) (argsL := [(.int (0 : Int32))]) (rest := [(.ref w0)]) (y := (⟨"com/example/vestwright/vestwright/CensusPeopleReasonPinLaw", "expected", "(I)Lcom/example/vestwright/vestwright/TerminationReason;"⟩ : MethodName)) hown (hw _ (List.mem_of_getElem? (i := 5) rfl)) (hw _ (List.mem_of_getElem? (i := 6) rfl)) (hw _ (List.mem_of_getElem? (i := 7) rfl)) (hw _ (List.mem_of_getElem? (i := 8) rfl)) (by decide) (rm2 l Z a0 hw (0 : Int32) w0 w1 w2 w3 w4 h0 n0 Z0 (by decide) S0 S1 S2 S3 S4) e4 (by decide) (by decide) (by decide) (by decide) (g := (mkF m 17 #[.val (.int p0), .val (.int (0 : Int32)), .val (.ref w0)] [(.int (0 : Int32)), (.ref w0)])) rfl (by rw [hml]; rfl) (lenOf pd_1 rfl) rfl (Nat.le_of_ble_eq_true rfl) (hb hby at_17)
    obtain ⟨rfl, N5, e5⟩ := hQ5
    refine own_go st5 ?_
    show own_E _ _ _ _ _ _ _ (T5.setTop (mkF m 20 #[.val (.int p0), .val (.int (0 : Int32)), .val (.ref w0)] [(.ref w0), (.ref w0)]))
    have M5 := Fr.app M4 N5
    refine own_go (fun _ k => Jvm.RoadKit.acmp (g := (mkF m 20 #[.val (.int p0), .val (.int (0 : Int32)), .val (.ref w0)] [(.ref w0), (.ref w0)])) X5 hx rfl rfl rfl (pc0 := 20) (pc' := 25) (same := true) rfl (hb hby at_20) rfl (by simp) (by decide) (by decide) k) ?_
    show own_E _ _ _ _ _ _ _ (T5.setTop (mkF m 25 #[.val (.int p0), .val (.int (0 : Int32)), .val (.ref w0)] []))
    refine own_go (fun _ k => XS.aloadN X5.here hx rfl (hb hby at_25) rfl rfl k) ?_
    show own_E _ _ _ _ _ _ _ (T5.setTop (mkF m 26 #[.val (.int p0), .val (.int (0 : Int32)), .val (.ref w0)] [(.ref w0)]))
    obtain ⟨v6, T6, L6, X6, hQ6, st6⟩ := own_callS X5 hx hZ (rm := ({ frames := 1, cells := 0, slots := 0, locals := 12 } : Room)) (W := 2) (argsL := [(.ref w0)]) (rest := []) (y := (⟨"com/example/vestwright/vestwright/CensusPeople", "reasonNumber", "(Lcom/example/vestwright/vestwright/TerminationReason;)I"⟩ : MethodName)) hown (hw _ (List.mem_of_getElem? (i := 9) rfl)) (hw _ (List.mem_of_getElem? (i := 10) rfl)) (hw _ (List.mem_of_getElem? (i := 3) rfl)) (hw _ (List.mem_of_getElem? (i := 11) rfl)) (by decide) (rmO l Z a0 hw w0 0 h0 n0 Z0 E0 F0) e5 (by decide) (by decide) (by decide) (by decide) (g := (mkF m 26 #[.val (.int p0), .val (.int (0 : Int32)), .val (.ref w0)] [(.ref w0)])) rfl (by rw [hml]; rfl) (lenOf pd_2 rfl) rfl (Nat.le_of_ble_eq_true rfl) (hb hby at_26)
    obtain ⟨rfl, N6, e6⟩ := hQ6
    refine own_go st6 ?_
    show own_E _ _ _ _ _ _ _ (T6.setTop (mkF m 29 #[.val (.int p0), .val (.int (0 : Int32)), .val (.ref w0)] [(.int (0 : Int32))]))
    have M6 := Fr.app M5 N6
    refine own_go (fun _ k => XS.iloadN X6.here hx rfl (hb hby at_29) rfl k) ?_
    show own_E _ _ _ _ _ _ _ (T6.setTop (mkF m 30 #[.val (.int p0), .val (.int (0 : Int32)), .val (.ref w0)] [(.int (0 : Int32)), (.int (0 : Int32))]))
    refine own_go (fun _ k => XS.icmpNo X6.here hx rfl (hb hby at_30) rfl (by decide) k) ?_
    show own_E _ _ _ _ _ _ _ (T6.setTop (mkF m 33 #[.val (.int p0), .val (.int (0 : Int32)), .val (.ref w0)] []))
    refine own_go (fun _ k => XT.iconstV X6.here hx rfl (1 : Int32) (hb hby at_33) (by decide) k) ?_
    show own_E _ _ _ _ _ _ _ (T6.setTop (mkF m 34 #[.val (.int p0), .val (.int (0 : Int32)), .val (.ref w0)] [(.int (1 : Int32))]))
    refine own_go (fun _ k => XS.goto X6.here hx rfl (pc0 := 34) (pc' := 38) rfl (hb hby at_34) (by decide) (by decide) k) ?_
    show own_E _ _ _ _ _ _ _ (T6.setTop (mkF m 38 #[.val (.int p0), .val (.int (0 : Int32)), .val (.ref w0)] [(.int (1 : Int32))]))
    exact own_ret X6 hx Bd.returns Bd.notSynchronized rfl (Or.inl ⟨rfl, by simp, _, rfl⟩) (hb hby at_38) (by rw [e6]; exact ⟨rfl, M6⟩) (by decide) (by decide)
  ·
    show own_E _ _ _ _ _ _ _ (s₁.setTop (mkF m 9 #[.val (.int p0), .unset, .unset] [(.int (1 : Int32))]))
    refine own_go (fun _ k => XS.istoreN X0.here hx rfl (hb hby at_9) rfl (l' := #[.val (.int p0), .val (.int (1 : Int32)), .unset]) rfl k) ?_
    show own_E _ _ _ _ _ _ _ (s₁.setTop (mkF m 10 #[.val (.int p0), .val (.int (1 : Int32)), .unset] []))
    refine own_go (fun _ k => XS.iloadN X0.here hx rfl (hb hby at_10) rfl k) ?_
    show own_E _ _ _ _ _ _ _ (s₁.setTop (mkF m 11 #[.val (.int p0), .val (.int (1 : Int32)), .unset] [(.int (1 : Int32))]))
    obtain ⟨v7, T7, L7, X7, hQ7, st7⟩ := own_callS X0 hx hZ (rm := ({ frames := 0, cells := 0, slots := 0, locals := 0 } : Room)) (W := 2) (argsL := [(.int (1 : Int32))]) (rest := []) (y := (⟨"com/example/vestwright/vestwright/CensusPeople", "reason", "(I)Lcom/example/vestwright/vestwright/TerminationReason;"⟩ : MethodName)) hown (hw _ (List.mem_of_getElem? (i := 1) rfl)) (hw _ (List.mem_of_getElem? (i := 2) rfl)) (hw _ (List.mem_of_getElem? (i := 3) rfl)) (hw _ (List.mem_of_getElem? (i := 4) rfl)) (by decide) (rm1 l Z a0 hw (1 : Int32) ar cl w0 w1 w2 w3 w4 h0 n0 Z0 (by decide) SR AR I0 I1 I2 I3 I4) e0 (by decide) (by decide) (by decide) (by decide) (g := (mkF m 11 #[.val (.int p0), .val (.int (1 : Int32)), .unset] [(.int (1 : Int32))])) rfl (by rw [hml]; rfl) (lenOf pd_1 rfl) rfl (Nat.le_of_ble_eq_true rfl) (hb hby at_11)
    obtain ⟨rfl, N7, e7⟩ := hQ7
    refine own_go st7 ?_
    show own_E _ _ _ _ _ _ _ (T7.setTop (mkF m 14 #[.val (.int p0), .val (.int (1 : Int32)), .unset] [(.ref w1)]))
    have M7 := Fr.app N0 N7
    refine own_go (fun _ k => XS.astoreN X7.here hx rfl (hb hby at_14) rfl rfl (l' := #[.val (.int p0), .val (.int (1 : Int32)), .val (.ref w1)]) rfl k) ?_
    show own_E _ _ _ _ _ _ _ (T7.setTop (mkF m 15 #[.val (.int p0), .val (.int (1 : Int32)), .val (.ref w1)] []))
    refine own_go (fun _ k => XS.aloadN X7.here hx rfl (hb hby at_15) rfl rfl k) ?_
    show own_E _ _ _ _ _ _ _ (T7.setTop (mkF m 16 #[.val (.int p0), .val (.int (1 : Int32)), .val (.ref w1)] [(.ref w1)]))
    refine own_go (fun _ k => XS.iloadN X7.here hx rfl (hb hby at_16) rfl k) ?_
    show own_E _ _ _ _ _ _ _ (T7.setTop (mkF m 17 #[.val (.int p0), .val (.int (1 : Int32)), .val (.ref w1)] [(.int (1 : Int32)), (.ref w1)]))
    obtain ⟨v8, T8, L8, X8, hQ8, st8⟩ := own_callS X7 hx hZ (rm := ({ frames := 0, cells := 0, slots := 0, locals := 0 } : Room)) (W := 2) (argsL := [(.int (1 : Int32))]) (rest := [(.ref w1)]) (y := (⟨"com/example/vestwright/vestwright/CensusPeopleReasonPinLaw", "expected", "(I)Lcom/example/vestwright/vestwright/TerminationReason;"⟩ : MethodName)) hown (hw _ (List.mem_of_getElem? (i := 5) rfl)) (hw _ (List.mem_of_getElem? (i := 6) rfl)) (hw _ (List.mem_of_getElem? (i := 7) rfl)) (hw _ (List.mem_of_getElem? (i := 8) rfl)) (by decide) (rm2 l Z a0 hw (1 : Int32) w0 w1 w2 w3 w4 h0 n0 Z0 (by decide) S0 S1 S2 S3 S4) e7 (by decide) (by decide) (by decide) (by decide) (g := (mkF m 17 #[.val (.int p0), .val (.int (1 : Int32)), .val (.ref w1)] [(.int (1 : Int32)), (.ref w1)])) rfl (by rw [hml]; rfl) (lenOf pd_1 rfl) rfl (Nat.le_of_ble_eq_true rfl) (hb hby at_17)
    obtain ⟨rfl, N8, e8⟩ := hQ8
    refine own_go st8 ?_
    show own_E _ _ _ _ _ _ _ (T8.setTop (mkF m 20 #[.val (.int p0), .val (.int (1 : Int32)), .val (.ref w1)] [(.ref w1), (.ref w1)]))
    have M8 := Fr.app M7 N8
    refine own_go (fun _ k => Jvm.RoadKit.acmp (g := (mkF m 20 #[.val (.int p0), .val (.int (1 : Int32)), .val (.ref w1)] [(.ref w1), (.ref w1)])) X8 hx rfl rfl rfl (pc0 := 20) (pc' := 25) (same := true) rfl (hb hby at_20) rfl (by simp) (by decide) (by decide) k) ?_
    show own_E _ _ _ _ _ _ _ (T8.setTop (mkF m 25 #[.val (.int p0), .val (.int (1 : Int32)), .val (.ref w1)] []))
    refine own_go (fun _ k => XS.aloadN X8.here hx rfl (hb hby at_25) rfl rfl k) ?_
    show own_E _ _ _ _ _ _ _ (T8.setTop (mkF m 26 #[.val (.int p0), .val (.int (1 : Int32)), .val (.ref w1)] [(.ref w1)]))
    obtain ⟨v9, T9, L9, X9, hQ9, st9⟩ := own_callS X8 hx hZ (rm := ({ frames := 1, cells := 0, slots := 0, locals := 12 } : Room)) (W := 2) (argsL := [(.ref w1)]) (rest := []) (y := (⟨"com/example/vestwright/vestwright/CensusPeople", "reasonNumber", "(Lcom/example/vestwright/vestwright/TerminationReason;)I"⟩ : MethodName)) hown (hw _ (List.mem_of_getElem? (i := 9) rfl)) (hw _ (List.mem_of_getElem? (i := 10) rfl)) (hw _ (List.mem_of_getElem? (i := 3) rfl)) (hw _ (List.mem_of_getElem? (i := 11) rfl)) (by decide) (rmO l Z a0 hw w1 1 h0 n0 Z0 E1 F1) e8 (by decide) (by decide) (by decide) (by decide) (g := (mkF m 26 #[.val (.int p0), .val (.int (1 : Int32)), .val (.ref w1)] [(.ref w1)])) rfl (by rw [hml]; rfl) (lenOf pd_2 rfl) rfl (Nat.le_of_ble_eq_true rfl) (hb hby at_26)
    obtain ⟨rfl, N9, e9⟩ := hQ9
    refine own_go st9 ?_
    show own_E _ _ _ _ _ _ _ (T9.setTop (mkF m 29 #[.val (.int p0), .val (.int (1 : Int32)), .val (.ref w1)] [(.int (1 : Int32))]))
    have M9 := Fr.app M8 N9
    refine own_go (fun _ k => XS.iloadN X9.here hx rfl (hb hby at_29) rfl k) ?_
    show own_E _ _ _ _ _ _ _ (T9.setTop (mkF m 30 #[.val (.int p0), .val (.int (1 : Int32)), .val (.ref w1)] [(.int (1 : Int32)), (.int (1 : Int32))]))
    refine own_go (fun _ k => XS.icmpNo X9.here hx rfl (hb hby at_30) rfl (by decide) k) ?_
    show own_E _ _ _ _ _ _ _ (T9.setTop (mkF m 33 #[.val (.int p0), .val (.int (1 : Int32)), .val (.ref w1)] []))
    refine own_go (fun _ k => XT.iconstV X9.here hx rfl (1 : Int32) (hb hby at_33) (by decide) k) ?_
    show own_E _ _ _ _ _ _ _ (T9.setTop (mkF m 34 #[.val (.int p0), .val (.int (1 : Int32)), .val (.ref w1)] [(.int (1 : Int32))]))
    refine own_go (fun _ k => XS.goto X9.here hx rfl (pc0 := 34) (pc' := 38) rfl (hb hby at_34) (by decide) (by decide) k) ?_
    show own_E _ _ _ _ _ _ _ (T9.setTop (mkF m 38 #[.val (.int p0), .val (.int (1 : Int32)), .val (.ref w1)] [(.int (1 : Int32))]))
    exact own_ret X9 hx Bd.returns Bd.notSynchronized rfl (Or.inl ⟨rfl, by simp, _, rfl⟩) (hb hby at_38) (by rw [e9]; exact ⟨rfl, M9⟩) (by decide) (by decide)
  ·
    show own_E _ _ _ _ _ _ _ (s₁.setTop (mkF m 9 #[.val (.int p0), .unset, .unset] [(.int (2 : Int32))]))
    refine own_go (fun _ k => XS.istoreN X0.here hx rfl (hb hby at_9) rfl (l' := #[.val (.int p0), .val (.int (2 : Int32)), .unset]) rfl k) ?_
    show own_E _ _ _ _ _ _ _ (s₁.setTop (mkF m 10 #[.val (.int p0), .val (.int (2 : Int32)), .unset] []))
    refine own_go (fun _ k => XS.iloadN X0.here hx rfl (hb hby at_10) rfl k) ?_
    show own_E _ _ _ _ _ _ _ (s₁.setTop (mkF m 11 #[.val (.int p0), .val (.int (2 : Int32)), .unset] [(.int (2 : Int32))]))
    obtain ⟨v10, T10, L10, X10, hQ10, st10⟩ := own_callS X0 hx hZ (rm := ({ frames := 0, cells := 0, slots := 0, locals := 0 } : Room)) (W := 2) (argsL := [(.int (2 : Int32))]) (rest := []) (y := (⟨"com/example/vestwright/vestwright/CensusPeople", "reason", "(I)Lcom/example/vestwright/vestwright/TerminationReason;"⟩ : MethodName)) hown (hw _ (List.mem_of_getElem? (i := 1) rfl)) (hw _ (List.mem_of_getElem? (i := 2) rfl)) (hw _ (List.mem_of_getElem? (i := 3) rfl)) (hw _ (List.mem_of_getElem? (i := 4) rfl)) (by decide) (rm1 l Z a0 hw (2 : Int32) ar cl w0 w1 w2 w3 w4 h0 n0 Z0 (by decide) SR AR I0 I1 I2 I3 I4) e0 (by decide) (by decide) (by decide) (by decide) (g := (mkF m 11 #[.val (.int p0), .val (.int (2 : Int32)), .unset] [(.int (2 : Int32))])) rfl (by rw [hml]; rfl) (lenOf pd_1 rfl) rfl (Nat.le_of_ble_eq_true rfl) (hb hby at_11)
    obtain ⟨rfl, N10, e10⟩ := hQ10
    refine own_go st10 ?_
    show own_E _ _ _ _ _ _ _ (T10.setTop (mkF m 14 #[.val (.int p0), .val (.int (2 : Int32)), .unset] [(.ref w2)]))
    have M10 := Fr.app N0 N10
    refine own_go (fun _ k => XS.astoreN X10.here hx rfl (hb hby at_14) rfl rfl (l' := #[.val (.int p0), .val (.int (2 : Int32)), .val (.ref w2)]) rfl k) ?_
    show own_E _ _ _ _ _ _ _ (T10.setTop (mkF m 15 #[.val (.int p0), .val (.int (2 : Int32)), .val (.ref w2)] []))
    refine own_go (fun _ k => XS.aloadN X10.here hx rfl (hb hby at_15) rfl rfl k) ?_
    show own_E _ _ _ _ _ _ _ (T10.setTop (mkF m 16 #[.val (.int p0), .val (.int (2 : Int32)), .val (.ref w2)] [(.ref w2)]))
    refine own_go (fun _ k => XS.iloadN X10.here hx rfl (hb hby at_16) rfl k) ?_
    show own_E _ _ _ _ _ _ _ (T10.setTop (mkF m 17 #[.val (.int p0), .val (.int (2 : Int32)), .val (.ref w2)] [(.int (2 : Int32)), (.ref w2)]))
    obtain ⟨v11, T11, L11, X11, hQ11, st11⟩ := own_callS X10 hx hZ (rm := ({ frames := 0, cells := 0, slots := 0, locals := 0 } : Room)) (W := 2) (argsL := [(.int (2 : Int32))]) (rest := [(.ref w2)]) (y := (⟨"com/example/vestwright/vestwright/CensusPeopleReasonPinLaw", "expected", "(I)Lcom/example/vestwright/vestwright/TerminationReason;"⟩ : MethodName)) hown (hw _ (List.mem_of_getElem? (i := 5) rfl)) (hw _ (List.mem_of_getElem? (i := 6) rfl)) (hw _ (List.mem_of_getElem? (i := 7) rfl)) (hw _ (List.mem_of_getElem? (i := 8) rfl)) (by decide) (rm2 l Z a0 hw (2 : Int32) w0 w1 w2 w3 w4 h0 n0 Z0 (by decide) S0 S1 S2 S3 S4) e10 (by decide) (by decide) (by decide) (by decide) (g := (mkF m 17 #[.val (.int p0), .val (.int (2 : Int32)), .val (.ref w2)] [(.int (2 : Int32)), (.ref w2)])) rfl (by rw [hml]; rfl) (lenOf pd_1 rfl) rfl (Nat.le_of_ble_eq_true rfl) (hb hby at_17)
    obtain ⟨rfl, N11, e11⟩ := hQ11
    refine own_go st11 ?_
    show own_E _ _ _ _ _ _ _ (T11.setTop (mkF m 20 #[.val (.int p0), .val (.int (2 : Int32)), .val (.ref w2)] [(.ref w2), (.ref w2)]))
    have M11 := Fr.app M10 N11
    refine own_go (fun _ k => Jvm.RoadKit.acmp (g := (mkF m 20 #[.val (.int p0), .val (.int (2 : Int32)), .val (.ref w2)] [(.ref w2), (.ref w2)])) X11 hx rfl rfl rfl (pc0 := 20) (pc' := 25) (same := true) rfl (hb hby at_20) rfl (by simp) (by decide) (by decide) k) ?_
    show own_E _ _ _ _ _ _ _ (T11.setTop (mkF m 25 #[.val (.int p0), .val (.int (2 : Int32)), .val (.ref w2)] []))
    refine own_go (fun _ k => XS.aloadN X11.here hx rfl (hb hby at_25) rfl rfl k) ?_
    show own_E _ _ _ _ _ _ _ (T11.setTop (mkF m 26 #[.val (.int p0), .val (.int (2 : Int32)), .val (.ref w2)] [(.ref w2)]))
    obtain ⟨v12, T12, L12, X12, hQ12, st12⟩ := own_callS X11 hx hZ (rm := ({ frames := 1, cells := 0, slots := 0, locals := 12 } : Room)) (W := 2) (argsL := [(.ref w2)]) (rest := []) (y := (⟨"com/example/vestwright/vestwright/CensusPeople", "reasonNumber", "(Lcom/example/vestwright/vestwright/TerminationReason;)I"⟩ : MethodName)) hown (hw _ (List.mem_of_getElem? (i := 9) rfl)) (hw _ (List.mem_of_getElem? (i := 10) rfl)) (hw _ (List.mem_of_getElem? (i := 3) rfl)) (hw _ (List.mem_of_getElem? (i := 11) rfl)) (by decide) (rmO l Z a0 hw w2 2 h0 n0 Z0 E2 F2) e11 (by decide) (by decide) (by decide) (by decide) (g := (mkF m 26 #[.val (.int p0), .val (.int (2 : Int32)), .val (.ref w2)] [(.ref w2)])) rfl (by rw [hml]; rfl) (lenOf pd_2 rfl) rfl (Nat.le_of_ble_eq_true rfl) (hb hby at_26)
    obtain ⟨rfl, N12, e12⟩ := hQ12
    refine own_go st12 ?_
    show own_E _ _ _ _ _ _ _ (T12.setTop (mkF m 29 #[.val (.int p0), .val (.int (2 : Int32)), .val (.ref w2)] [(.int (2 : Int32))]))
    have M12 := Fr.app M11 N12
    refine own_go (fun _ k => XS.iloadN X12.here hx rfl (hb hby at_29) rfl k) ?_
    show own_E _ _ _ _ _ _ _ (T12.setTop (mkF m 30 #[.val (.int p0), .val (.int (2 : Int32)), .val (.ref w2)] [(.int (2 : Int32)), (.int (2 : Int32))]))
    refine own_go (fun _ k => XS.icmpNo X12.here hx rfl (hb hby at_30) rfl (by decide) k) ?_
    show own_E _ _ _ _ _ _ _ (T12.setTop (mkF m 33 #[.val (.int p0), .val (.int (2 : Int32)), .val (.ref w2)] []))
    refine own_go (fun _ k => XT.iconstV X12.here hx rfl (1 : Int32) (hb hby at_33) (by decide) k) ?_
    show own_E _ _ _ _ _ _ _ (T12.setTop (mkF m 34 #[.val (.int p0), .val (.int (2 : Int32)), .val (.ref w2)] [(.int (1 : Int32))]))
    refine own_go (fun _ k => XS.goto X12.here hx rfl (pc0 := 34) (pc' := 38) rfl (hb hby at_34) (by decide) (by decide) k) ?_
    show own_E _ _ _ _ _ _ _ (T12.setTop (mkF m 38 #[.val (.int p0), .val (.int (2 : Int32)), .val (.ref w2)] [(.int (1 : Int32))]))
    exact own_ret X12 hx Bd.returns Bd.notSynchronized rfl (Or.inl ⟨rfl, by simp, _, rfl⟩) (hb hby at_38) (by rw [e12]; exact ⟨rfl, M12⟩) (by decide) (by decide)
  ·
    show own_E _ _ _ _ _ _ _ (s₁.setTop (mkF m 9 #[.val (.int p0), .unset, .unset] [(.int (3 : Int32))]))
    refine own_go (fun _ k => XS.istoreN X0.here hx rfl (hb hby at_9) rfl (l' := #[.val (.int p0), .val (.int (3 : Int32)), .unset]) rfl k) ?_
    show own_E _ _ _ _ _ _ _ (s₁.setTop (mkF m 10 #[.val (.int p0), .val (.int (3 : Int32)), .unset] []))
    refine own_go (fun _ k => XS.iloadN X0.here hx rfl (hb hby at_10) rfl k) ?_
    show own_E _ _ _ _ _ _ _ (s₁.setTop (mkF m 11 #[.val (.int p0), .val (.int (3 : Int32)), .unset] [(.int (3 : Int32))]))
    obtain ⟨v13, T13, L13, X13, hQ13, st13⟩ := own_callS X0 hx hZ (rm := ({ frames := 0, cells := 0, slots := 0, locals := 0 } : Room)) (W := 2) (argsL := [(.int (3 : Int32))]) (rest := []) (y := (⟨"com/example/vestwright/vestwright/CensusPeople", "reason", "(I)Lcom/example/vestwright/vestwright/TerminationReason;"⟩ : MethodName)) hown (hw _ (List.mem_of_getElem? (i := 1) rfl)) (hw _ (List.mem_of_getElem? (i := 2) rfl)) (hw _ (List.mem_of_getElem? (i := 3) rfl)) (hw _ (List.mem_of_getElem? (i := 4) rfl)) (by decide) (rm1 l Z a0 hw (3 : Int32) ar cl w0 w1 w2 w3 w4 h0 n0 Z0 (by decide) SR AR I0 I1 I2 I3 I4) e0 (by decide) (by decide) (by decide) (by decide) (g := (mkF m 11 #[.val (.int p0), .val (.int (3 : Int32)), .unset] [(.int (3 : Int32))])) rfl (by rw [hml]; rfl) (lenOf pd_1 rfl) rfl (Nat.le_of_ble_eq_true rfl) (hb hby at_11)
    obtain ⟨rfl, N13, e13⟩ := hQ13
    refine own_go st13 ?_
    show own_E _ _ _ _ _ _ _ (T13.setTop (mkF m 14 #[.val (.int p0), .val (.int (3 : Int32)), .unset] [(.ref w3)]))
    have M13 := Fr.app N0 N13
    refine own_go (fun _ k => XS.astoreN X13.here hx rfl (hb hby at_14) rfl rfl (l' := #[.val (.int p0), .val (.int (3 : Int32)), .val (.ref w3)]) rfl k) ?_
    show own_E _ _ _ _ _ _ _ (T13.setTop (mkF m 15 #[.val (.int p0), .val (.int (3 : Int32)), .val (.ref w3)] []))
    refine own_go (fun _ k => XS.aloadN X13.here hx rfl (hb hby at_15) rfl rfl k) ?_
    show own_E _ _ _ _ _ _ _ (T13.setTop (mkF m 16 #[.val (.int p0), .val (.int (3 : Int32)), .val (.ref w3)] [(.ref w3)]))
    refine own_go (fun _ k => XS.iloadN X13.here hx rfl (hb hby at_16) rfl k) ?_
    show own_E _ _ _ _ _ _ _ (T13.setTop (mkF m 17 #[.val (.int p0), .val (.int (3 : Int32)), .val (.ref w3)] [(.int (3 : Int32)), (.ref w3)]))
    obtain ⟨v14, T14, L14, X14, hQ14, st14⟩ := own_callS X13 hx hZ (rm := ({ frames := 0, cells := 0, slots := 0, locals := 0 } : Room)) (W := 2) (argsL := [(.int (3 : Int32))]) (rest := [(.ref w3)]) (y := (⟨"com/example/vestwright/vestwright/CensusPeopleReasonPinLaw", "expected", "(I)Lcom/example/vestwright/vestwright/TerminationReason;"⟩ : MethodName)) hown (hw _ (List.mem_of_getElem? (i := 5) rfl)) (hw _ (List.mem_of_getElem? (i := 6) rfl)) (hw _ (List.mem_of_getElem? (i := 7) rfl)) (hw _ (List.mem_of_getElem? (i := 8) rfl)) (by decide) (rm2 l Z a0 hw (3 : Int32) w0 w1 w2 w3 w4 h0 n0 Z0 (by decide) S0 S1 S2 S3 S4) e13 (by decide) (by decide) (by decide) (by decide) (g := (mkF m 17 #[.val (.int p0), .val (.int (3 : Int32)), .val (.ref w3)] [(.int (3 : Int32)), (.ref w3)])) rfl (by rw [hml]; rfl) (lenOf pd_1 rfl) rfl (Nat.le_of_ble_eq_true rfl) (hb hby at_17)
    obtain ⟨rfl, N14, e14⟩ := hQ14
    refine own_go st14 ?_
    show own_E _ _ _ _ _ _ _ (T14.setTop (mkF m 20 #[.val (.int p0), .val (.int (3 : Int32)), .val (.ref w3)] [(.ref w3), (.ref w3)]))
    have M14 := Fr.app M13 N14
    refine own_go (fun _ k => Jvm.RoadKit.acmp (g := (mkF m 20 #[.val (.int p0), .val (.int (3 : Int32)), .val (.ref w3)] [(.ref w3), (.ref w3)])) X14 hx rfl rfl rfl (pc0 := 20) (pc' := 25) (same := true) rfl (hb hby at_20) rfl (by simp) (by decide) (by decide) k) ?_
    show own_E _ _ _ _ _ _ _ (T14.setTop (mkF m 25 #[.val (.int p0), .val (.int (3 : Int32)), .val (.ref w3)] []))
    refine own_go (fun _ k => XS.aloadN X14.here hx rfl (hb hby at_25) rfl rfl k) ?_
    show own_E _ _ _ _ _ _ _ (T14.setTop (mkF m 26 #[.val (.int p0), .val (.int (3 : Int32)), .val (.ref w3)] [(.ref w3)]))
    obtain ⟨v15, T15, L15, X15, hQ15, st15⟩ := own_callS X14 hx hZ (rm := ({ frames := 1, cells := 0, slots := 0, locals := 12 } : Room)) (W := 2) (argsL := [(.ref w3)]) (rest := []) (y := (⟨"com/example/vestwright/vestwright/CensusPeople", "reasonNumber", "(Lcom/example/vestwright/vestwright/TerminationReason;)I"⟩ : MethodName)) hown (hw _ (List.mem_of_getElem? (i := 9) rfl)) (hw _ (List.mem_of_getElem? (i := 10) rfl)) (hw _ (List.mem_of_getElem? (i := 3) rfl)) (hw _ (List.mem_of_getElem? (i := 11) rfl)) (by decide) (rmO l Z a0 hw w3 3 h0 n0 Z0 E3 F3) e14 (by decide) (by decide) (by decide) (by decide) (g := (mkF m 26 #[.val (.int p0), .val (.int (3 : Int32)), .val (.ref w3)] [(.ref w3)])) rfl (by rw [hml]; rfl) (lenOf pd_2 rfl) rfl (Nat.le_of_ble_eq_true rfl) (hb hby at_26)
    obtain ⟨rfl, N15, e15⟩ := hQ15
    refine own_go st15 ?_
    show own_E _ _ _ _ _ _ _ (T15.setTop (mkF m 29 #[.val (.int p0), .val (.int (3 : Int32)), .val (.ref w3)] [(.int (3 : Int32))]))
    have M15 := Fr.app M14 N15
    refine own_go (fun _ k => XS.iloadN X15.here hx rfl (hb hby at_29) rfl k) ?_
    show own_E _ _ _ _ _ _ _ (T15.setTop (mkF m 30 #[.val (.int p0), .val (.int (3 : Int32)), .val (.ref w3)] [(.int (3 : Int32)), (.int (3 : Int32))]))
    refine own_go (fun _ k => XS.icmpNo X15.here hx rfl (hb hby at_30) rfl (by decide) k) ?_
    show own_E _ _ _ _ _ _ _ (T15.setTop (mkF m 33 #[.val (.int p0), .val (.int (3 : Int32)), .val (.ref w3)] []))
    refine own_go (fun _ k => XT.iconstV X15.here hx rfl (1 : Int32) (hb hby at_33) (by decide) k) ?_
    show own_E _ _ _ _ _ _ _ (T15.setTop (mkF m 34 #[.val (.int p0), .val (.int (3 : Int32)), .val (.ref w3)] [(.int (1 : Int32))]))
    refine own_go (fun _ k => XS.goto X15.here hx rfl (pc0 := 34) (pc' := 38) rfl (hb hby at_34) (by decide) (by decide) k) ?_
    show own_E _ _ _ _ _ _ _ (T15.setTop (mkF m 38 #[.val (.int p0), .val (.int (3 : Int32)), .val (.ref w3)] [(.int (1 : Int32))]))
    exact own_ret X15 hx Bd.returns Bd.notSynchronized rfl (Or.inl ⟨rfl, by simp, _, rfl⟩) (hb hby at_38) (by rw [e15]; exact ⟨rfl, M15⟩) (by decide) (by decide)
  ·
    show own_E _ _ _ _ _ _ _ (s₁.setTop (mkF m 9 #[.val (.int p0), .unset, .unset] [(.int (4 : Int32))]))
    refine own_go (fun _ k => XS.istoreN X0.here hx rfl (hb hby at_9) rfl (l' := #[.val (.int p0), .val (.int (4 : Int32)), .unset]) rfl k) ?_
    show own_E _ _ _ _ _ _ _ (s₁.setTop (mkF m 10 #[.val (.int p0), .val (.int (4 : Int32)), .unset] []))
    refine own_go (fun _ k => XS.iloadN X0.here hx rfl (hb hby at_10) rfl k) ?_
    show own_E _ _ _ _ _ _ _ (s₁.setTop (mkF m 11 #[.val (.int p0), .val (.int (4 : Int32)), .unset] [(.int (4 : Int32))]))
    obtain ⟨v16, T16, L16, X16, hQ16, st16⟩ := own_callS X0 hx hZ (rm := ({ frames := 0, cells := 0, slots := 0, locals := 0 } : Room)) (W := 2) (argsL := [(.int (4 : Int32))]) (rest := []) (y := (⟨"com/example/vestwright/vestwright/CensusPeople", "reason", "(I)Lcom/example/vestwright/vestwright/TerminationReason;"⟩ : MethodName)) hown (hw _ (List.mem_of_getElem? (i := 1) rfl)) (hw _ (List.mem_of_getElem? (i := 2) rfl)) (hw _ (List.mem_of_getElem? (i := 3) rfl)) (hw _ (List.mem_of_getElem? (i := 4) rfl)) (by decide) (rm1 l Z a0 hw (4 : Int32) ar cl w0 w1 w2 w3 w4 h0 n0 Z0 (by decide) SR AR I0 I1 I2 I3 I4) e0 (by decide) (by decide) (by decide) (by decide) (g := (mkF m 11 #[.val (.int p0), .val (.int (4 : Int32)), .unset] [(.int (4 : Int32))])) rfl (by rw [hml]; rfl) (lenOf pd_1 rfl) rfl (Nat.le_of_ble_eq_true rfl) (hb hby at_11)
    obtain ⟨rfl, N16, e16⟩ := hQ16
    refine own_go st16 ?_
    show own_E _ _ _ _ _ _ _ (T16.setTop (mkF m 14 #[.val (.int p0), .val (.int (4 : Int32)), .unset] [(.ref w4)]))
    have M16 := Fr.app N0 N16
    refine own_go (fun _ k => XS.astoreN X16.here hx rfl (hb hby at_14) rfl rfl (l' := #[.val (.int p0), .val (.int (4 : Int32)), .val (.ref w4)]) rfl k) ?_
    show own_E _ _ _ _ _ _ _ (T16.setTop (mkF m 15 #[.val (.int p0), .val (.int (4 : Int32)), .val (.ref w4)] []))
    refine own_go (fun _ k => XS.aloadN X16.here hx rfl (hb hby at_15) rfl rfl k) ?_
    show own_E _ _ _ _ _ _ _ (T16.setTop (mkF m 16 #[.val (.int p0), .val (.int (4 : Int32)), .val (.ref w4)] [(.ref w4)]))
    refine own_go (fun _ k => XS.iloadN X16.here hx rfl (hb hby at_16) rfl k) ?_
    show own_E _ _ _ _ _ _ _ (T16.setTop (mkF m 17 #[.val (.int p0), .val (.int (4 : Int32)), .val (.ref w4)] [(.int (4 : Int32)), (.ref w4)]))
    obtain ⟨v17, T17, L17, X17, hQ17, st17⟩ := own_callS X16 hx hZ (rm := ({ frames := 0, cells := 0, slots := 0, locals := 0 } : Room)) (W := 2) (argsL := [(.int (4 : Int32))]) (rest := [(.ref w4)]) (y := (⟨"com/example/vestwright/vestwright/CensusPeopleReasonPinLaw", "expected", "(I)Lcom/example/vestwright/vestwright/TerminationReason;"⟩ : MethodName)) hown (hw _ (List.mem_of_getElem? (i := 5) rfl)) (hw _ (List.mem_of_getElem? (i := 6) rfl)) (hw _ (List.mem_of_getElem? (i := 7) rfl)) (hw _ (List.mem_of_getElem? (i := 8) rfl)) (by decide) (rm2 l Z a0 hw (4 : Int32) w0 w1 w2 w3 w4 h0 n0 Z0 (by decide) S0 S1 S2 S3 S4) e16 (by decide) (by decide) (by decide) (by decide) (g := (mkF m 17 #[.val (.int p0), .val (.int (4 : Int32)), .val (.ref w4)] [(.int (4 : Int32)), (.ref w4)])) rfl (by rw [hml]; rfl) (lenOf pd_1 rfl) rfl (Nat.le_of_ble_eq_true rfl) (hb hby at_17)
    obtain ⟨rfl, N17, e17⟩ := hQ17
    refine own_go st17 ?_
    show own_E _ _ _ _ _ _ _ (T17.setTop (mkF m 20 #[.val (.int p0), .val (.int (4 : Int32)), .val (.ref w4)] [(.ref w4), (.ref w4)]))
    have M17 := Fr.app M16 N17
    refine own_go (fun _ k => Jvm.RoadKit.acmp (g := (mkF m 20 #[.val (.int p0), .val (.int (4 : Int32)), .val (.ref w4)] [(.ref w4), (.ref w4)])) X17 hx rfl rfl rfl (pc0 := 20) (pc' := 25) (same := true) rfl (hb hby at_20) rfl (by simp) (by decide) (by decide) k) ?_
    show own_E _ _ _ _ _ _ _ (T17.setTop (mkF m 25 #[.val (.int p0), .val (.int (4 : Int32)), .val (.ref w4)] []))
    refine own_go (fun _ k => XS.aloadN X17.here hx rfl (hb hby at_25) rfl rfl k) ?_
    show own_E _ _ _ _ _ _ _ (T17.setTop (mkF m 26 #[.val (.int p0), .val (.int (4 : Int32)), .val (.ref w4)] [(.ref w4)]))
    obtain ⟨v18, T18, L18, X18, hQ18, st18⟩ := own_callS X17 hx hZ (rm := ({ frames := 1, cells := 0, slots := 0, locals := 12 } : Room)) (W := 2) (argsL := [(.ref w4)]) (rest := []) (y := (⟨"com/example/vestwright/vestwright/CensusPeople", "reasonNumber", "(Lcom/example/vestwright/vestwright/TerminationReason;)I"⟩ : MethodName)) hown (hw _ (List.mem_of_getElem? (i := 9) rfl)) (hw _ (List.mem_of_getElem? (i := 10) rfl)) (hw _ (List.mem_of_getElem? (i := 3) rfl)) (hw _ (List.mem_of_getElem? (i := 11) rfl)) (by decide) (rmO l Z a0 hw w4 4 h0 n0 Z0 E4 F4) e17 (by decide) (by decide) (by decide) (by decide) (g := (mkF m 26 #[.val (.int p0), .val (.int (4 : Int32)), .val (.ref w4)] [(.ref w4)])) rfl (by rw [hml]; rfl) (lenOf pd_2 rfl) rfl (Nat.le_of_ble_eq_true rfl) (hb hby at_26)
    obtain ⟨rfl, N18, e18⟩ := hQ18
    refine own_go st18 ?_
    show own_E _ _ _ _ _ _ _ (T18.setTop (mkF m 29 #[.val (.int p0), .val (.int (4 : Int32)), .val (.ref w4)] [(.int (4 : Int32))]))
    have M18 := Fr.app M17 N18
    refine own_go (fun _ k => XS.iloadN X18.here hx rfl (hb hby at_29) rfl k) ?_
    show own_E _ _ _ _ _ _ _ (T18.setTop (mkF m 30 #[.val (.int p0), .val (.int (4 : Int32)), .val (.ref w4)] [(.int (4 : Int32)), (.int (4 : Int32))]))
    refine own_go (fun _ k => XS.icmpNo X18.here hx rfl (hb hby at_30) rfl (by decide) k) ?_
    show own_E _ _ _ _ _ _ _ (T18.setTop (mkF m 33 #[.val (.int p0), .val (.int (4 : Int32)), .val (.ref w4)] []))
    refine own_go (fun _ k => XT.iconstV X18.here hx rfl (1 : Int32) (hb hby at_33) (by decide) k) ?_
    show own_E _ _ _ _ _ _ _ (T18.setTop (mkF m 34 #[.val (.int p0), .val (.int (4 : Int32)), .val (.ref w4)] [(.int (1 : Int32))]))
    refine own_go (fun _ k => XS.goto X18.here hx rfl (pc0 := 34) (pc' := 38) rfl (hb hby at_34) (by decide) (by decide) k) ?_
    show own_E _ _ _ _ _ _ _ (T18.setTop (mkF m 38 #[.val (.int p0), .val (.int (4 : Int32)), .val (.ref w4)] [(.int (1 : Int32))]))
    exact own_ret X18 hx Bd.returns Bd.notSynchronized rfl (Or.inl ⟨rfl, by simp, _, rfl⟩) (hb hby at_38) (by rw [e18]; exact ⟨rfl, M18⟩) (by decide) (by decide)
set_option maxRecDepth 65536 in
set_option maxHeartbeats 40000000 in
theorem comes_1 {Post : Tables → Env → Array Value → State → Outcome → State → Prop} (hpost : ∀ tb e args s v u, (limb_1_1.after args s (.returned v) u = true ∧ limb_1_2.after args s (.returned v) u = true ∧ True) → FrameEnd s (.returned v) u (Jvm.fieldLocs frame_1_writes args s ++ Jvm.arrayLocs frame_1_arrays args s ++ Jvm.staticLocs frame_1_statics s) 0 0 → Post tb e args s (.returned v) u) :
    ArmFor flags0 classFile x code maxLocals ret World_1 tables_1 room_1 Calls_1 rest_1 Pre_1 Post := by
  intro l hfl _ _ p e ha hc hk s m args below hf hA hF happ hP
  obtain ⟨hcalls, hrest, hpre⟩ := hP
  obtain ⟨-, -, -, hnamed, -, -, -, hat⟩ := (Spec.applies_iff hf).mp happ
  obtain ⟨hg, hn⟩ := and_e (Cond.before_iff.mp (show (Jvm.Cond.and given_1 narrow_1).before args s = true from hpre))
  obtain ⟨hcount, hg⟩ := and_e hg
  obtain ⟨w0, rfl⟩ : ∃ w0 : Value, args = #[w0] := by
    have hs : args.size = 1 := by simpa [Cond.value, given_1] using hcount
    obtain ⟨L⟩ := args
    match L, hs with
    | [w0], _ => exact ⟨w0, rfl⟩
  have hw := fun d (hd : d ∈ tables_1) => atoms_spec (ws := Jvm.Cond.code x code maxLocals ret :: tables_1) hat d (List.mem_cons_of_mem _ hd)
  have hfit : Fit s := fun {y c} hc i hi => by
    obtain ⟨ha, rfl⟩ := Array.getElem?_eq_some_iff.mp hc
    have q := List.all_eq_true.mp ((Array.all_eq_true_iff_forall_mem.mp hF) _ (Array.getElem_mem ha)) i (List.mem_range.mpr hi)
    simpa [Array.getElem?_eq_getElem hi] using q
  have hg0 := hg
  obtain ⟨i0, q0⟩ := is_v hg0
  obtain rfl : w0 = (.int i0) := Option.some.inj q0
  obtain ⟨x_A, hn⟩ := and_e hn
  obtain ⟨x_len, hn⟩ := and_e hn
  obtain ⟨x_RETIREMENT, hn⟩ := and_e hn
  obtain ⟨x_eRETIREMENT, hn⟩ := and_e hn
  obtain ⟨x_oRETIREMENT, hn⟩ := and_e hn
  obtain ⟨x_DISABILITY, hn⟩ := and_e hn
  obtain ⟨x_eDISABILITY, hn⟩ := and_e hn
  obtain ⟨x_oDISABILITY, hn⟩ := and_e hn
  obtain ⟨x_DEATH, hn⟩ := and_e hn
  obtain ⟨x_eDEATH, hn⟩ := and_e hn
  obtain ⟨x_oDEATH, hn⟩ := and_e hn
  obtain ⟨x_OTHER, hn⟩ := and_e hn
  obtain ⟨x_eOTHER, hn⟩ := and_e hn
  obtain ⟨x_oOTHER, hn⟩ := and_e hn
  obtain ⟨x_LAYOFF, hn⟩ := and_e hn
  obtain ⟨x_eLAYOFF, hn⟩ := and_e hn
  have x_oLAYOFF := hn
  obtain ⟨ar, evA⟩ := arr_v x_A
  have SR := Sta.start evA (Or.inr ⟨(hw _ (List.mem_of_getElem? (i := 3) rfl)), (hw _ (List.mem_of_getElem? (i := 13) rfl))⟩)
  obtain ⟨cl, AR⟩ := Arr.start evA x_A
  obtain ⟨w0, ev0, S0, E0⟩ := own_const x_DEATH (hw _ (List.mem_of_getElem? (i := 14) rfl)) (hw _ (List.mem_of_getElem? (i := 28) rfl))
  have F0 := own_fldI ev0 x_oDEATH
  have I0 := own_elemS evA AR.1 ev0 x_eDEATH
  obtain ⟨w1, ev1, S1, E1⟩ := own_const x_DISABILITY (hw _ (List.mem_of_getElem? (i := 14) rfl)) (hw _ (List.mem_of_getElem? (i := 26) rfl))
  have F1 := own_fldI ev1 x_oDISABILITY
  have I1 := own_elemS evA AR.1 ev1 x_eDISABILITY
  obtain ⟨w2, ev2, S2, E2⟩ := own_const x_RETIREMENT (hw _ (List.mem_of_getElem? (i := 14) rfl)) (hw _ (List.mem_of_getElem? (i := 15) rfl))
  have F2 := own_fldI ev2 x_oRETIREMENT
  have I2 := own_elemS evA AR.1 ev2 x_eRETIREMENT
  obtain ⟨w3, ev3, S3, E3⟩ := own_const x_LAYOFF (hw _ (List.mem_of_getElem? (i := 14) rfl)) (hw _ (List.mem_of_getElem? (i := 32) rfl))
  have F3 := own_fldI ev3 x_oLAYOFF
  have I3 := own_elemS evA AR.1 ev3 x_eLAYOFF
  obtain ⟨w4, ev4, S4, E4⟩ := own_const x_OTHER (hw _ (List.mem_of_getElem? (i := 14) rfl)) (hw _ (List.mem_of_getElem? (i := 30) rfl))
  have F4 := own_fldI ev4 x_oOTHER
  have I4 := own_elemS evA AR.1 ev4 x_eOTHER
  obtain ⟨n, o, h1, h2, h3, _, L, rfl, ⟨rfl, N⟩, hq⟩ := rm0 l s _ hw tables_1 i0 ar cl w0 w1 w2 w3 w4 s.heap s.heap.size (Nat.le_refl _) S0 S1 S2 S3 S4 SR AR I0 I1 I2 I3 I4 E0 E1 E2 E3 E4 F0 F1 F2 F3 F4 p e ha hc hk s m _ below hf ((Spec.applies_iff_loose hf).mp happ).1 ⟨rfl, State.Warmed39.refl s, rfl⟩ trivial
  refine ⟨n, _, h1, h2, h3, hpost _ _ _ _ _ _ ⟨Cond.after_iff.mpr rfl, Cond.after_iff.mpr (eq_i res_at (Term.int_eval (1)) rfl), trivial⟩ ⟨hq.1, hq.2.1, (hq.2.2.sift fun y hy => Or.inr (N y hy)).mono (by decide) (by decide)⟩⟩
theorem main_1_1 : Claimed_1_1 := comes_1 fun _ _ _ _ _ _ h hF => ⟨h.1, hF⟩
theorem main_1_2 : Claimed_1_2 := comes_1 fun _ _ _ _ _ _ h hF => ⟨h.2.1, hF⟩
end Jvm.Pilot.@@N@@
namespace Jvm.Pilot.@@N@@
open Jvm Jvm.ClassFile Sem Op Lib Jvm.Free Jvm.Stand Jvm.Pilot.@@N@@.Jvm.D
/-! MADE BY PROGRAM (witnessworld.py) out of the Statement's table words and the real class files: 22 classes; the members and pool entries that the words name. The judged class is class 1, her method 2. -/
namespace start1
open Jvm.ClassFile
def u (s : String) : CpInfo := .utf8 (stringToUtf16 s)
/-- a pool by its gaps: so many unusable entries, then the entry; so many at the end -/
def gap : Nat → List CpInfo → List CpInfo
  | 0, r => r
  | n + 1, r => .unusable :: gap n r
def poolList (es : List (Nat × CpInfo)) (last : Nat) : List CpInfo := es.foldr (fun e r => gap e.1 (e.2 :: r)) (gap last [])
def pool (es : List (Nat × CpInfo)) (last : Nat) : Array CpInfo := ⟨poolList es last⟩
def fileOf (pool : Array CpInfo) (this : Nat) (attrs : Array Attribute := #[]) (ms : Array MethodInfo := #[]) (fl : Nat := 33) (sup : Nat := 0) (ifs : Array Nat := #[]) (fds : Array FieldInfo := #[]) : ClassFile where
  minorVersion := 0
  majorVersion := 65
  constantPool := pool
  accessFlags := fl
  thisClass := this
  superClass := sup
  interfaces := ifs
  fields := fds
  methods := ms
  attributes := attrs
def plain (name : String) (sup : Option ClassId) : Class where
  name := name
  kind := .ordinary
  loader := none
  accessFlags := 33
  super := sup
  interfaces := #[]
  cf := none
  fields := #[]
  methods := #[]
  instanceTypes := #[]
  staticTypes := #[]
  resolved := #[]
  callSites := []
  init := .initialized
  statics := none
  mirror := none

def pool0 : Array CpInfo := pool [(5, u "<init>"), (0, u "()V"), (1, .class_ 10), (1, u "java/lang/Object")] 113

def k0m0 : Method := { name := "<init>", desc := "()V", sig := { parameters := [], returnType := none }, accessFlags := 1, code := none }
/-- java/lang/Object -/
def k0 : Class := { plain "java/lang/Object" none with
  accessFlags := 33
  interfaces := #[]
  cf := some (fileOf pool0 8 #[] #[{ accessFlags := 1, nameIndex := 5, descriptorIndex := 6, attributes := #[] }] 33 0 #[] #[])
  fields := #[]
  methods := #[k0m0]
  instanceTypes := #[]
  staticTypes := #[]
  resolved := Array.replicate 124 none
  statics := none }

def pool1 : Array CpInfo := pool [(2, .class_ 4), (1, u "java/lang/Object"), (0, u "<init>"), (0, u "()V"), (0, .fieldref 8 9), (0, .class_ 10), (0, .nameAndType 11 12), (0, u "com/example/vestwright/vestwright/TerminationReason"), (0, u "DEATH"), (0, u "Lcom/example/vestwright/vestwright/TerminationReason;"), (0, .fieldref 8 14), (0, .nameAndType 15 12), (0, u "DISABILITY"), (0, .fieldref 8 17), (0, .nameAndType 18 12), (0, u "RETIREMENT"), (0, .fieldref 8 20), (0, .nameAndType 21 12), (0, u "LAYOFF"), (0, .fieldref 8 23), (0, .nameAndType 24 12), (0, u "OTHER"), (0, .integer 2147483647), (0, .methodref 27 28), (0, .class_ 29), (0, .nameAndType 30 31), (0, u "com/example/vestwright/vestwright/CensusPeople"), (0, u "reason"), (0, u "(I)Lcom/example/vestwright/vestwright/TerminationReason;"), (0, .methodref 33 34), (0, .class_ 35), (0, .nameAndType 36 31), (0, u "com/example/vestwright/vestwright/CensusPeopleReasonPinLaw"), (0, u "expected"), (0, .methodref 27 38), (0, .nameAndType 39 40), (0, u "reasonNumber"), (0, u "(Lcom/example/vestwright/vestwright/TerminationReason;)I"), (3, u "law"), (0, u "(I)Z")] 2

def k1m0 : Method := { name := "<init>", desc := "()V", sig := { parameters := [], returnType := none }, accessFlags := 2, code := none }
def k1c1 : Code := { maxStack := 2, maxLocals := 1, code := method_2_code, exceptionTable := #[], attributes := #[] }
def k1m1 : Method := { name := "expected", desc := "(I)Lcom/example/vestwright/vestwright/TerminationReason;", sig := { parameters := [.int], returnType := some (.object "com/example/vestwright/vestwright/TerminationReason") }, accessFlags := 10, code := some k1c1 }
def k1c2 : Code := { maxStack := 2, maxLocals := 3, code := code, exceptionTable := #[], attributes := #[] }
def k1m2 : Method := { name := "law", desc := "(I)Z", sig := { parameters := [.int], returnType := some .boolean }, accessFlags := 9, code := some k1c2 }
/-- com/example/vestwright/vestwright/CensusPeopleReasonPinLaw -/
def k1 : Class := { plain "com/example/vestwright/vestwright/CensusPeopleReasonPinLaw" (some 0) with
  accessFlags := 49
  interfaces := #[]
  cf := some (fileOf pool1 33 #[] #[{ accessFlags := 2, nameIndex := 5, descriptorIndex := 6, attributes := #[] }, { accessFlags := 10, nameIndex := 36, descriptorIndex := 31, attributes := #[] }, { accessFlags := 9, nameIndex := 44, descriptorIndex := 45, attributes := #[] }] 49 2 #[] #[])
  fields := #[]
  methods := #[k1m0, k1m1, k1m2]
  instanceTypes := #[]
  staticTypes := #[]
  resolved := Array.replicate 48 none
  statics := none }

def pool2 : Array CpInfo := pool [(8, .class_ 10), (1, u "java/lang/Iterable"), (24, .class_ 36), (0, u "java/lang/Object")] 25

/-- java/lang/Iterable -/
def k2 : Class := { plain "java/lang/Iterable" (some 0) with
  accessFlags := 1537
  interfaces := #[]
  cf := some (fileOf pool2 8 #[] #[] 1537 35 #[] #[])
  fields := #[]
  methods := #[]
  instanceTypes := #[]
  staticTypes := #[]
  resolved := Array.replicate 62 none
  statics := none }

def pool3 : Array CpInfo := pool [(10, .class_ 12), (1, u "java/util/Collection"), (47, .class_ 61), (0, u "java/lang/Object"), (0, .class_ 63), (0, u "java/lang/Iterable")] 51

/-- java/util/Collection -/
def k3 : Class := { plain "java/util/Collection" (some 0) with
  accessFlags := 1537
  interfaces := #[2]
  cf := some (fileOf pool3 10 #[] #[] 1537 60 #[62] #[])
  fields := #[]
  methods := #[]
  instanceTypes := #[]
  staticTypes := #[]
  resolved := Array.replicate 115 none
  statics := none }

def pool4 : Array CpInfo := pool [(2, .class_ 4), (1, u "java/lang/Object"), (0, u "<init>"), (0, u "()V"), (1, .class_ 10), (1, u "java/util/AbstractCollection"), (66, .class_ 78), (0, u "java/util/Collection")] 81

def k4m0 : Method := { name := "<init>", desc := "()V", sig := { parameters := [], returnType := none }, accessFlags := 4, code := none }
/-- java/util/AbstractCollection -/
def k4 : Class := { plain "java/util/AbstractCollection" (some 0) with
  accessFlags := 1057
  interfaces := #[3]
  cf := some (fileOf pool4 8 #[] #[{ accessFlags := 4, nameIndex := 5, descriptorIndex := 6, attributes := #[] }] 1057 2 #[77] #[])
  fields := #[]
  methods := #[k4m0]
  instanceTypes := #[]
  staticTypes := #[]
  resolved := Array.replicate 160 none
  statics := none }

def pool5 : Array CpInfo := pool [(8, .class_ 10), (1, u "java/util/SequencedCollection"), (15, .class_ 27), (0, u "java/lang/Object"), (0, .class_ 29), (0, u "java/util/Collection")] 27

/-- java/util/SequencedCollection -/
def k5 : Class := { plain "java/util/SequencedCollection" (some 0) with
  accessFlags := 1537
  interfaces := #[3]
  cf := some (fileOf pool5 8 #[] #[] 1537 26 #[28] #[])
  fields := #[]
  methods := #[]
  instanceTypes := #[]
  staticTypes := #[]
  resolved := Array.replicate 57 none
  statics := none }

def pool6 : Array CpInfo := pool [(8, .class_ 10), (1, u "java/util/List"), (92, .class_ 104), (0, u "java/lang/Object"), (15, .class_ 121), (0, u "java/util/SequencedCollection")] 129

/-- java/util/List -/
def k6 : Class := { plain "java/util/List" (some 0) with
  accessFlags := 1537
  interfaces := #[5]
  cf := some (fileOf pool6 8 #[] #[] 1537 103 #[120] #[])
  fields := #[]
  methods := #[]
  instanceTypes := #[]
  staticTypes := #[]
  resolved := Array.replicate 251 none
  statics := none }

def pool7 : Array CpInfo := pool [(2, .class_ 4), (1, u "java/util/AbstractCollection"), (0, u "<init>"), (0, u "()V"), (1, .class_ 10), (1, u "java/util/AbstractList"), (0, u "modCount"), (0, u "I"), (64, .class_ 78), (0, u "java/util/AbstractList$Itr"), (3, .class_ 83), (0, u "java/util/AbstractList$ListItr"), (9, .class_ 94), (0, u "java/util/AbstractList$RandomAccessSubList"), (3, .class_ 99), (0, u "java/util/AbstractList$SubList"), (33, .class_ 134), (0, u "java/util/List"), (73, .class_ 209), (0, u "java/util/AbstractList$SubList$1"), (0, .class_ 211), (0, u "java/util/AbstractList$RandomAccessSpliterator")] 6

def k7m0 : Method := { name := "<init>", desc := "()V", sig := { parameters := [], returnType := none }, accessFlags := 4, code := none }
/-- java/util/AbstractList -/
def k7 : Class := { plain "java/util/AbstractList" (some 4) with
  accessFlags := 1057
  interfaces := #[6]
  cf := some (fileOf pool7 8 #[.nestMembers #[93, 98, 208, 210, 82, 77]] #[{ accessFlags := 4, nameIndex := 5, descriptorIndex := 6, attributes := #[] }] 1057 2 #[133] #[{ accessFlags := 132, nameIndex := 11, descriptorIndex := 12, attributes := #[] }])
  fields := #[{ name := "modCount", type := .int, accessFlags := 132, slot := 0, constantValue := 0 }]
  methods := #[k7m0]
  instanceTypes := #[.int]
  staticTypes := #[]
  resolved := Array.replicate 218 none
  statics := none }

def pool8 : Array CpInfo := pool [(1, .class_ 2), (0, u "java/util/RandomAccess"), (0, .class_ 4), (0, u "java/lang/Object")] 2

/-- java/util/RandomAccess -/
def k8 : Class := { plain "java/util/RandomAccess" (some 0) with
  accessFlags := 1537
  interfaces := #[]
  cf := some (fileOf pool8 1 #[] #[] 1537 3 #[] #[])
  fields := #[]
  methods := #[]
  instanceTypes := #[]
  staticTypes := #[]
  resolved := Array.replicate 7 none
  statics := none }

def pool9 : Array CpInfo := pool [(2, .class_ 4), (1, u "java/util/AbstractList"), (6, .class_ 13), (1, u "com/example/vestwright/vestwright/CensusPeople"), (0, u "nobody"), (0, u "Ljava/util/BitSet;"), (1, u "ids"), (10, u "Lcom/example/vestwright/vestwright/Keys;"), (2, u "width"), (0, u "I"), (8, u "numbers"), (0, u "[I"), (2, u "size"), (39, .methodref 86 87), (0, .class_ 88), (0, .nameAndType 89 90), (0, u "com/example/vestwright/vestwright/TerminationReason"), (0, u "ordinal"), (0, u "()I"), (0, .fieldref 11 92), (0, .nameAndType 93 94), (0, u "REASONS"), (0, u "[Lcom/example/vestwright/vestwright/TerminationReason;"), (4, .class_ 100), (0, u "java/util/RandomAccess"), (0, u "FIRST_CAPACITY"), (2, u "NO_REASON"), (16, u "reasonNumber"), (0, u "(Lcom/example/vestwright/vestwright/TerminationReason;)I"), (0, u "reason"), (0, u "(I)Lcom/example/vestwright/vestwright/TerminationReason;")] 21

def k9c0 : Code := { maxStack := 1, maxLocals := 1, code := prog_2_method_8_code, exceptionTable := #[], attributes := #[] }
def k9m0 : Method := { name := "reasonNumber", desc := "(Lcom/example/vestwright/vestwright/TerminationReason;)I", sig := { parameters := [(.object "com/example/vestwright/vestwright/TerminationReason")], returnType := some .int }, accessFlags := 8, code := some k9c0 }
def k9c1 : Code := { maxStack := 2, maxLocals := 1, code := prog_2_method_9_code, exceptionTable := #[], attributes := #[] }
def k9m1 : Method := { name := "reason", desc := "(I)Lcom/example/vestwright/vestwright/TerminationReason;", sig := { parameters := [.int], returnType := some (.object "com/example/vestwright/vestwright/TerminationReason") }, accessFlags := 8, code := some k9c1 }
/-- com/example/vestwright/vestwright/CensusPeople -/
def k9 : Class := { plain "com/example/vestwright/vestwright/CensusPeople" (some 7) with
  accessFlags := 1056
  interfaces := #[8]
  cf := some (fileOf pool9 11 #[] #[{ accessFlags := 8, nameIndex := 121, descriptorIndex := 122, attributes := #[] }, { accessFlags := 8, nameIndex := 123, descriptorIndex := 124, attributes := #[] }] 1056 2 #[99] #[{ accessFlags := 26, nameIndex := 101, descriptorIndex := 32, attributes := #[] }, { accessFlags := 26, nameIndex := 104, descriptorIndex := 32, attributes := #[] }, { accessFlags := 26, nameIndex := 93, descriptorIndex := 94, attributes := #[] }, { accessFlags := 18, nameIndex := 17, descriptorIndex := 28, attributes := #[] }, { accessFlags := 18, nameIndex := 31, descriptorIndex := 32, attributes := #[] }, { accessFlags := 18, nameIndex := 14, descriptorIndex := 15, attributes := #[] }, { accessFlags := 2, nameIndex := 41, descriptorIndex := 42, attributes := #[] }, { accessFlags := 2, nameIndex := 45, descriptorIndex := 32, attributes := #[] }])
  fields := #[{ name := "FIRST_CAPACITY", type := .int, accessFlags := 26, slot := 0, constantValue := 0 }, { name := "NO_REASON", type := .int, accessFlags := 26, slot := 1, constantValue := 0 }, { name := "REASONS", type := (.array (.object "com/example/vestwright/vestwright/TerminationReason")), accessFlags := 26, slot := 2, constantValue := 0 }, { name := "ids", type := (.object "com/example/vestwright/vestwright/Keys"), accessFlags := 18, slot := 1, constantValue := 0 }, { name := "width", type := .int, accessFlags := 18, slot := 2, constantValue := 0 }, { name := "nobody", type := (.object "java/util/BitSet"), accessFlags := 18, slot := 3, constantValue := 0 }, { name := "numbers", type := (.array .int), accessFlags := 2, slot := 4, constantValue := 0 }, { name := "size", type := .int, accessFlags := 2, slot := 5, constantValue := 0 }]
  methods := #[k9m0, k9m1]
  instanceTypes := #[.int, (.object "com/example/vestwright/vestwright/Keys"), .int, (.object "java/util/BitSet"), (.array .int), .int]
  staticTypes := #[.int, .int, (.array (.object "com/example/vestwright/vestwright/TerminationReason"))]
  resolved := Array.replicate 146 none
  statics := some 0 }

def pool10 : Array CpInfo := pool [(1, .class_ 2), (0, u "java/lang/constant/Constable"), (0, .class_ 4), (0, u "java/lang/Object")] 6

/-- java/lang/constant/Constable -/
def k10 : Class := { plain "java/lang/constant/Constable" (some 0) with
  accessFlags := 1537
  interfaces := #[]
  cf := some (fileOf pool10 1 #[] #[] 1537 3 #[] #[])
  fields := #[]
  methods := #[]
  instanceTypes := #[]
  staticTypes := #[]
  resolved := Array.replicate 11 none
  statics := none }

def pool11 : Array CpInfo := pool [(1, .class_ 2), (0, u "java/lang/Comparable"), (0, .class_ 4), (0, u "java/lang/Object")] 7

/-- java/lang/Comparable -/
def k11 : Class := { plain "java/lang/Comparable" (some 0) with
  accessFlags := 1537
  interfaces := #[]
  cf := some (fileOf pool11 1 #[] #[] 1537 3 #[] #[])
  fields := #[]
  methods := #[]
  instanceTypes := #[]
  staticTypes := #[]
  resolved := Array.replicate 12 none
  statics := none }

def pool12 : Array CpInfo := pool [(1, .class_ 2), (0, u "java/io/Serializable"), (0, .class_ 4), (0, u "java/lang/Object")] 2

/-- java/io/Serializable -/
def k12 : Class := { plain "java/io/Serializable" (some 0) with
  accessFlags := 1537
  interfaces := #[]
  cf := some (fileOf pool12 1 #[] #[] 1537 3 #[] #[])
  fields := #[]
  methods := #[]
  instanceTypes := #[]
  staticTypes := #[]
  resolved := Array.replicate 7 none
  statics := none }

def pool13 : Array CpInfo := pool [(2, .class_ 4), (1, u "java/lang/Enum"), (0, u "name"), (0, u "Ljava/lang/String;"), (0, .fieldref 2 8), (0, .nameAndType 9 10), (0, u "ordinal"), (0, u "I"), (1, .class_ 14), (1, u "java/lang/Object"), (4, u "hash"), (86, .class_ 108), (1, u "java/lang/Enum$EnumDesc"), (2, .class_ 112), (0, u "java/lang/constant/Constable"), (0, .class_ 114), (0, u "java/lang/Comparable"), (0, .class_ 116), (0, u "java/io/Serializable"), (9, u "()I")] 77

def k13c0 : Code := { maxStack := 1, maxLocals := 1, code := jdk_37_method_2_code, exceptionTable := #[], attributes := #[] }
def k13m0 : Method := { name := "ordinal", desc := "()I", sig := { parameters := [], returnType := some .int }, accessFlags := 17, code := some k13c0 }
/-- java/lang/Enum -/
def k13 : Class := { plain "java/lang/Enum" (some 0) with
  accessFlags := 1057
  interfaces := #[10, 11, 12]
  cf := some (fileOf pool13 2 #[.nestMembers #[106]] #[{ accessFlags := 17, nameIndex := 9, descriptorIndex := 126, attributes := #[] }] 1057 12 #[111, 113, 115] #[{ accessFlags := 18, nameIndex := 5, descriptorIndex := 6, attributes := #[] }, { accessFlags := 18, nameIndex := 9, descriptorIndex := 10, attributes := #[] }, { accessFlags := 2, nameIndex := 19, descriptorIndex := 10, attributes := #[] }])
  fields := #[{ name := "name", type := (.object "java/lang/String"), accessFlags := 18, slot := 0, constantValue := 0 }, { name := "ordinal", type := .int, accessFlags := 18, slot := 1, constantValue := 0 }, { name := "hash", type := .int, accessFlags := 2, slot := 2, constantValue := 0 }]
  methods := #[k13m0]
  instanceTypes := #[(.object "java/lang/String"), .int, .int]
  staticTypes := #[]
  resolved := Array.replicate 204 none
  statics := none }

def pool14 : Array CpInfo := pool [(2, .class_ 4), (1, u "com/example/vestwright/vestwright/Written"), (25, .class_ 31), (0, u "java/lang/Object")] 13

/-- com/example/vestwright/vestwright/Written -/
def k14 : Class := { plain "com/example/vestwright/vestwright/Written" (some 0) with
  accessFlags := 1536
  interfaces := #[]
  cf := some (fileOf pool14 2 #[] #[] 1536 30 #[] #[])
  fields := #[]
  methods := #[]
  instanceTypes := #[]
  staticTypes := #[]
  resolved := Array.replicate 45 none
  statics := none }

def pool15 : Array CpInfo := pool [(1, .class_ 2), (0, u "com/example/vestwright/vestwright/TerminationReason"), (2, u "DEATH"), (0, u "Lcom/example/vestwright/vestwright/TerminationReason;"), (2, u "DISABILITY"), (2, u "RETIREMENT"), (2, u "LAYOFF"), (2, u "OTHER"), (2, u "$VALUES"), (0, u "[Lcom/example/vestwright/vestwright/TerminationReason;"), (6, .class_ 31), (1, u "java/lang/Enum"), (8, u "written"), (0, u "Ljava/lang/String;"), (29, .class_ 72), (0, u "com/example/vestwright/vestwright/Written")] 17

/-- com/example/vestwright/vestwright/TerminationReason -/
def k15 : Class := { plain "com/example/vestwright/vestwright/TerminationReason" (some 13) with
  accessFlags := 16433
  interfaces := #[14]
  cf := some (fileOf pool15 1 #[] #[] 16433 29 #[71] #[{ accessFlags := 16409, nameIndex := 5, descriptorIndex := 6, attributes := #[] }, { accessFlags := 16409, nameIndex := 9, descriptorIndex := 6, attributes := #[] }, { accessFlags := 16409, nameIndex := 12, descriptorIndex := 6, attributes := #[] }, { accessFlags := 16409, nameIndex := 15, descriptorIndex := 6, attributes := #[] }, { accessFlags := 16409, nameIndex := 18, descriptorIndex := 6, attributes := #[] }, { accessFlags := 18, nameIndex := 40, descriptorIndex := 41, attributes := #[] }, { accessFlags := 4122, nameIndex := 21, descriptorIndex := 22, attributes := #[] }])
  fields := #[{ name := "DEATH", type := (.object "com/example/vestwright/vestwright/TerminationReason"), accessFlags := 16409, slot := 0, constantValue := 0 }, { name := "DISABILITY", type := (.object "com/example/vestwright/vestwright/TerminationReason"), accessFlags := 16409, slot := 1, constantValue := 0 }, { name := "RETIREMENT", type := (.object "com/example/vestwright/vestwright/TerminationReason"), accessFlags := 16409, slot := 2, constantValue := 0 }, { name := "LAYOFF", type := (.object "com/example/vestwright/vestwright/TerminationReason"), accessFlags := 16409, slot := 3, constantValue := 0 }, { name := "OTHER", type := (.object "com/example/vestwright/vestwright/TerminationReason"), accessFlags := 16409, slot := 4, constantValue := 0 }, { name := "written", type := (.object "java/lang/String"), accessFlags := 18, slot := 3, constantValue := 0 }, { name := "$VALUES", type := (.array (.object "com/example/vestwright/vestwright/TerminationReason")), accessFlags := 4122, slot := 5, constantValue := 0 }]
  methods := #[]
  instanceTypes := #[(.object "java/lang/String"), .int, .int, (.object "java/lang/String")]
  staticTypes := #[(.object "com/example/vestwright/vestwright/TerminationReason"), (.object "com/example/vestwright/vestwright/TerminationReason"), (.object "com/example/vestwright/vestwright/TerminationReason"), (.object "com/example/vestwright/vestwright/TerminationReason"), (.object "com/example/vestwright/vestwright/TerminationReason"), (.array (.object "com/example/vestwright/vestwright/TerminationReason"))]
  resolved := Array.replicate 90 none
  statics := some 1 }

def pool16 : Array CpInfo := pool [(1, u "java/lang/Cloneable"), (0, .class_ 1), (0, u "java/lang/Object"), (0, .class_ 3)] 3

/-- java/lang/Cloneable -/
def k16 : Class := { plain "java/lang/Cloneable" (some 0) with
  accessFlags := 1537
  interfaces := #[]
  cf := some (fileOf pool16 2 #[] #[] 1537 4 #[] #[])
  fields := #[]
  methods := #[]
  instanceTypes := #[]
  staticTypes := #[]
  resolved := Array.replicate 8 none
  statics := none }

/-- the primitive byte -/
def k17 : Class := { plain "byte" none with kind := .primitive 'B', accessFlags := 0x411 }
/-- [B -/
def k18 : Class := { plain "[B" (some 0) with kind := .array 17 .byte, interfaces := #[16, 12], accessFlags := 1041 }

/-- the primitive int -/
def k19 : Class := { plain "int" none with kind := .primitive 'I', accessFlags := 0x411 }
/-- [I -/
def k20 : Class := { plain "[I" (some 0) with kind := .array 19 .int, interfaces := #[16, 12], accessFlags := 1041 }

/-- [Lcom/example/vestwright/vestwright/TerminationReason; -/
def k21 : Class := { plain "[Lcom/example/vestwright/vestwright/TerminationReason;" (some 0) with kind := .array 15 (.object "com/example/vestwright/vestwright/TerminationReason"), interfaces := #[16, 12], accessFlags := 1041 }

def heap : Heap := #[{ cls := 9, slots := #[.int 0, .int 0, .ref 2], vm := .statics 9 },
  { cls := 15, slots := #[.ref 3, .ref 4, .ref 5, .ref 6, .ref 7, .null], vm := .statics 15 },
  { cls := 21, slots := #[.ref 3, .ref 4, .ref 5, .ref 6, .ref 7], vm := .none },
  { cls := 15, slots := #[.null, .int 0, .int 0, .null], vm := .none },
  { cls := 15, slots := #[.null, .int 1, .int 0, .null], vm := .none },
  { cls := 15, slots := #[.null, .int 2, .int 0, .null], vm := .none },
  { cls := 15, slots := #[.null, .int 3, .int 0, .null], vm := .none },
  { cls := 15, slots := #[.null, .int 4, .int 0, .null], vm := .none }]
def classes : Array Class := #[k0, k1, k2, k3, k4, k5, k6, k7, k8, k9, k10, k11, k12, k13, k14, k15, k16, k17, k18, k19, k20, k21]
def interned : List (Array UInt16 × Addr) := []
def slotsUsed : Nat := 34
def theMethod : MethodId := ⟨1, 2⟩
def args0 : Array Value := #[.int 5]
def aboutOver (below : List Frame) : State where
  vm := { classes := classes, interned := interned.toArray }
  heap := heap
  slotsUsed := slotsUsed
  threads := #[{ frames := .invoking theMethod args0 :: below }]
def below0 : List Frame := [.native { method := ⟨0, 0⟩, args := #[] }]
def about1 : State := aboutOver below0
def p0 : Program := .bare "" "" ""
def e0 : Env := launch0.env 0 0 0
theorem w_frames : about1.frames = Frame.invoking theMethod args0 :: below0 := rfl
set_option maxRecDepth 65536 in
theorem w_args : argsFit about1.vm theMethod args0 = true := by decide +kernel
set_option maxRecDepth 65536 in
theorem w_heap : heapFits about1 = true := by decide +kernel
set_option maxRecDepth 65536 in
theorem w_runnable : about1.curStatus? = some .runnable := by decide +kernel
set_option maxRecDepth 65536 in
theorem w_alone : about1.alone = true := by decide +kernel
set_option maxRecDepth 65536 in
theorem w_named : about1.methodNamed? x = some theMethod := by decide +kernel
set_option maxRecDepth 65536 in
theorem w_hears : about1.hears theMethod below0 = true := by decide +kernel
set_option maxRecDepth 65536 in
theorem w_ripe : about1.ripe theMethod args0 below0 = true := by decide +kernel
theorem w_running : about1.status = .running := rfl
set_option maxRecDepth 65536 in
theorem w_room : about1.hasRoom e0.platform room_1 = true :=
  launch0.hasRoom_least _ room_1 (by decide +kernel) (by decide +kernel) (by decide +kernel) (by decide +kernel) (by decide +kernel) (by decide +kernel)
theorem allAtoms_all (ts : List Jvm.Cond) (a : Array Jvm.Value) (st : Jvm.State) : (allAtoms ts).before a st = ts.all (fun c => c.before a st) := by
  induction ts with
  | nil => rfl
  | cons c t ih =>
    show (Jvm.Cond.and c (allAtoms t)).before a st = _
    rw [Jvm.Cond.before_and, ih, List.all_cons]
def words1 : List Jvm.Cond := Jvm.Cond.code x code maxLocals ret :: tables_1
/-- a 'code' word, met by the world's own term for the bytes: nothing is compared byte by byte -/
theorem code_word {y : MethodName} {bytes : ByteArray} {mx : Nat} {rt : Option FieldType} {a : Array Value} {s : State} {m : MethodId} {meth : Method} {c : Code} (h1 : s.methodNamed? y = some m) (h2 : s.vm.method? m = some meth) (h3 : meth.code = some c) (h4 : c.code = bytes)
    (h5 : (c.maxLocals == mx && c.exceptionTable.isEmpty && decide (c.maxStack ≤ mostOperands) && decide (meth.sig.returnType = rt) && !meth.locks && decide (parseMethodDescriptor y.desc = some meth.sig)) = true) : (Jvm.Cond.code y bytes mx rt).before a s = true := by
  simp only [Bool.and_eq_true, beq_iff_eq, Bool.not_eq_true', decide_eq_true_eq] at h5
  obtain ⟨⟨⟨⟨⟨g1, g2⟩, g3⟩, g4⟩, g5⟩, g6⟩ := h5
  simp [Cond.before, Cond.holds, Cond.value, h1, h2, h3, h4, g1, g2, g3, g4, g5, g6]
def isCode : Jvm.Cond → Bool
  | .code _ _ _ _ => true
  | _ => false
theorem all_split {L : List Jvm.Cond} {P : Jvm.Cond → Bool} (h1 : L.all (fun c => isCode c || P c) = true) (h2 : ∀ c ∈ L.filter isCode, P c = true) : L.all P = true := by
  refine List.all_eq_true.mpr fun c hc => ?_
  have h := List.all_eq_true.mp h1 c hc
  rcases Bool.eq_false_or_eq_true (isCode c) with hi | hi
  · exact h2 c (List.mem_filter.mpr ⟨hc, hi⟩)
  · simpa [hi] using h
set_option maxRecDepth 65536 in
theorem w_c0 : (Jvm.Cond.code x code maxLocals ret).before args0 about1 = true := code_word (m := ⟨1, 2⟩) (meth := k1m2) (c := k1c2) (by decide +kernel) rfl rfl rfl (by decide +kernel)
set_option maxRecDepth 65536 in
theorem w_c1 : (Jvm.Cond.code ({ cls := "com/example/vestwright/vestwright/CensusPeople", name := "reason", desc := "(I)Lcom/example/vestwright/vestwright/TerminationReason;" } : Jvm.MethodName) prog_2_method_9_code (1 : Nat) (Option.some (Jvm.ClassFile.FieldType.object "com/example/vestwright/vestwright/TerminationReason"))).before args0 about1 = true := code_word (m := ⟨9, 1⟩) (meth := k9m1) (c := k9c1) (by decide +kernel) rfl rfl rfl (by decide +kernel)
set_option maxRecDepth 65536 in
theorem w_c2 : (Jvm.Cond.code ({ cls := "com/example/vestwright/vestwright/CensusPeopleReasonPinLaw", name := "expected", desc := "(I)Lcom/example/vestwright/vestwright/TerminationReason;" } : Jvm.MethodName) method_2_code (1 : Nat) (Option.some (Jvm.ClassFile.FieldType.object "com/example/vestwright/vestwright/TerminationReason"))).before args0 about1 = true := code_word (m := ⟨1, 1⟩) (meth := k1m1) (c := k1c1) (by decide +kernel) rfl rfl rfl (by decide +kernel)
set_option maxRecDepth 65536 in
theorem w_c3 : (Jvm.Cond.code ({ cls := "com/example/vestwright/vestwright/CensusPeople", name := "reasonNumber", desc := "(Lcom/example/vestwright/vestwright/TerminationReason;)I" } : Jvm.MethodName) prog_2_method_8_code (1 : Nat) (Option.some Jvm.ClassFile.FieldType.int)).before args0 about1 = true := code_word (m := ⟨9, 0⟩) (meth := k9m0) (c := k9c0) (by decide +kernel) rfl rfl rfl (by decide +kernel)
set_option maxRecDepth 65536 in
theorem w_c4 : (Jvm.Cond.code ({ cls := "java/lang/Enum", name := "ordinal", desc := "()I" } : Jvm.MethodName) jdk_37_method_2_code (1 : Nat) (Option.some Jvm.ClassFile.FieldType.int)).before args0 about1 = true := code_word (m := ⟨13, 0⟩) (meth := k13m0) (c := k13c0) (by decide +kernel) rfl rfl rfl (by decide +kernel)
def codes1 : List Jvm.Cond := [Jvm.Cond.code x code maxLocals ret, Jvm.Cond.code ({ cls := "com/example/vestwright/vestwright/CensusPeople", name := "reason", desc := "(I)Lcom/example/vestwright/vestwright/TerminationReason;" } : Jvm.MethodName) prog_2_method_9_code (1 : Nat) (Option.some (Jvm.ClassFile.FieldType.object "com/example/vestwright/vestwright/TerminationReason")), Jvm.Cond.code ({ cls := "com/example/vestwright/vestwright/CensusPeopleReasonPinLaw", name := "expected", desc := "(I)Lcom/example/vestwright/vestwright/TerminationReason;" } : Jvm.MethodName) method_2_code (1 : Nat) (Option.some (Jvm.ClassFile.FieldType.object "com/example/vestwright/vestwright/TerminationReason")), Jvm.Cond.code ({ cls := "com/example/vestwright/vestwright/CensusPeople", name := "reasonNumber", desc := "(Lcom/example/vestwright/vestwright/TerminationReason;)I" } : Jvm.MethodName) prog_2_method_8_code (1 : Nat) (Option.some Jvm.ClassFile.FieldType.int), Jvm.Cond.code ({ cls := "java/lang/Enum", name := "ordinal", desc := "()I" } : Jvm.MethodName) jdk_37_method_2_code (1 : Nat) (Option.some Jvm.ClassFile.FieldType.int)]
set_option maxRecDepth 65536 in
theorem codes_eq : words1.filter isCode = codes1 := rfl
theorem w_codes : ∀ c ∈ words1.filter isCode, c.before args0 about1 = true := by
  rw [codes_eq]
  intro c hc
  simp only [codes1, List.mem_cons, List.not_mem_nil, or_false] at hc
  rcases hc with rfl | rfl | rfl | rfl | rfl
  · exact w_c0
  · exact w_c1
  · exact w_c2
  · exact w_c3
  · exact w_c4
set_option maxRecDepth 65536 in
theorem w_t1 : (words1.take 24).all (fun c => isCode c || c.before args0 about1) = true := by decide +kernel
set_option maxRecDepth 65536 in
theorem w_t2 : (words1.drop 24).all (fun c => isCode c || c.before args0 about1) = true := by decide +kernel
theorem w_tables : (allAtoms (Jvm.Cond.code x code maxLocals ret :: tables_1)).before args0 about1 = true := by
  rw [allAtoms_all]
  show words1.all (fun c => c.before args0 about1) = true
  refine all_split ?_ w_codes
  rw [← List.take_append_drop 24 words1, List.all_append, w_t1, w_t2]
  rfl
set_option maxRecDepth 65536 in
theorem w_case : (Jvm.Cond.and given_1 narrow_1).before args0 about1 = true := by decide +kernel
theorem w_applies : (headSpec (Jvm.Cond.code x code maxLocals ret :: tables_1) room_1).applies x e0.platform about1 = true :=
  (Spec.applies_iff w_frames).mpr ⟨w_running, w_runnable, w_alone, w_named, w_hears, w_ripe, w_room, w_tables⟩
theorem atStart : AtStart classFile x code maxLocals ret World_1 tables_1 room_1 Calls_1 rest_1 Pre_1 launch0 p0 e0 about1 theMethod args0 below0 :=
  ⟨lists_1, trivial, launch0.admits_env _ _ _, launch0.least_env, fairChoices_fair.cas, fairChoices_fair.clock, w_frames, w_args, w_heap, w_applies, trivial, trivial, w_case⟩
end start1
theorem witness_1 : WitnessClaimed_1 := ⟨start1.p0, start1.e0, start1.about1, start1.theMethod, start1.args0, start1.below0, start1.atStart⟩
end Jvm.Pilot.@@N@@
