import JvmDerived
import JvmDerived.Pilot.@@N@@Statement
import JvmDerived.Pilot.@@N@@Code
set_option linter.unusedVariables false
set_option linter.unusedSimpArgs false
namespace Jvm.Pilot.@@N@@
open Jvm Jvm.ClassFile Sem Op Lib Jvm.Free Jvm.Stand Jvm.LawKit Jvm.RoadKit Bundle Jvm.Pilot.@@N@@.Jvm.D
section Own
variable {p : Program} {l : Launch} {e : Env} {R : Room} {s : State} {m : MethodId} {args : Array Value} {below : List Frame} {meth : Method} {c : Code} {T : State} {locs : List Loc} {cells slots : Nat} {Z : State} {a0 : Array Value} {h : Heap}
/-- the walk ends from A: it returns, Q holds, the frame is kept -/
def own_E (p : Program) (e : Env) (below : List Frame) (s : State) (Q : Option Value → Heap → List Loc → Prop) (K N : Nat) (A : State) : Prop :=
  ∃ t o, Steps p.tables e below A t ∧ t.status = .running ∧ Ended t below o ∧ ∃ v L, o = .returned v ∧ Q v t.heap L ∧ FrameEnd s o t L K N
variable {Q : Option Value → Heap → List Loc → Prop} {K N : Nat} {A A' : State}
theorem own_go (h : ∀ t, Steps p.tables e below A' t → Steps p.tables e below A t) (k : own_E p e below s Q K N A') : own_E p e below s Q K N A := by
  obtain ⟨t, o, h1, h2⟩ := k
  exact ⟨t, o, h _ h1, h2⟩
theorem own_ret (X : Stand p l e R s m args below meth c T locs cells slots) (hx : p.tables.exec = Jvm.exec) {pc : Nat} {Ls : Array Slot} {w : Value} {t : FieldType} {i : Instr} {rest : List Value} (hret : meth.sig.returnType = some t) (hlk : meth.locks = false) (hn : narrow t w = w)
    (hi : (i = .ireturn ∧ (t = .int ∨ t = .boolean ∨ t = .byte ∨ t = .char ∨ t = .short) ∧ ∃ z, w = .int z) ∨ (i = .lreturn ∧ t = .long ∧ ∃ z, w = .long z) ∨ (i = .dreturn ∧ t = .double ∧ ∃ z, w = .double z) ∨ (i = .freturn ∧ t = .float ∧ ∃ z, w = .float z) ∨ (i = .areturn ∧ t.isReference = true ∧ w.isRef = true))
    (hd : decode c.code pc = .ok (i, 1)) (hQ : Q (some w) T.heap locs) (hK : cells ≤ K) (hN : slots ≤ N) : own_E p e below s Q K N (T.setTop (mkF m pc Ls (w :: rest))) := by
  obtain ⟨fs, hr, hrun, hended, hW, hsame⟩ := X.leave (v := some w) (fun h => by rw [hret] at h; cases h) hlk
  exact ⟨_, _, retOut X hx hret hn hi hd hr, hrun, hended, _, _, rfl, hQ, ⟨_, rfl⟩, hW, hsame.mono hK hN⟩
theorem own_ret0 (X : Stand p l e R s m args below meth c T locs cells slots) (hx : p.tables.exec = Jvm.exec) {pc : Nat} {Ls : Array Slot} (hret : meth.sig.returnType = none) (hlk : meth.locks = false)
    (hd : decode c.code pc = .ok (.return_, 1)) (hQ : Q none T.heap locs) (hK : cells ≤ K) (hN : slots ≤ N) : own_E p e below s Q K N (T.setTop (mkF m pc Ls [])) := by
  obtain ⟨fs, hr, hrun, hended, hW, hsame⟩ := X.leave (v := none) (fun _ => rfl) hlk
  exact ⟨_, _, X.returnOut hx hret hd hr, hrun, hended, _, _, rfl, hQ, ⟨_, rfl⟩, hW, hsame.mono hK hN⟩
/-- what a callee is asked: its contract -/
abbrev own_M (l : Launch) (y : MethodName) (bytes : ByteArray) (maxL : Nat) (ret : Option FieldType) (rm : Room) (Z : State) (as' : Array Value) (h : Heap) (Q : Option Value → Heap → List Loc → Prop) : Prop :=
  MetFree l y (head1 [Jvm.Cond.code y bytes maxL ret] rm) (fun a U => a = as' ∧ Z.Warmed39 U.vm ∧ U.heap = h) (fun _ _ _ _ _ => True) (fun _ U o U' => ∃ v L, o = .returned v ∧ Q v U'.heap L ∧ FrameEnd U o U' L rm.cells rm.slots)
theorem own_callS (X : Stand p l e R s m args below meth c T locs cells slots) (hx : p.tables.exec = Jvm.exec) (hZ : Z.Warmed39 s.vm) {own : String} {index : Nat} {y : MethodName} {bytes : ByteArray} {maxL : Nat} {ret : Option FieldType} {rm : Room} {W : Nat} {argsL rest : List Value}
    (hown : s.vm.findClass own = some m.cls) (w1 : (Jvm.Cond.methodLink own index y).before a0 Z = true) (w2 : (Jvm.Cond.static y).before a0 Z = true) (w3 : (Jvm.Cond.initialized y.cls).before a0 Z = true) (w4 : (Jvm.Cond.code y bytes maxL ret).before a0 Z = true)
    (hy : y.cls ≠ "java/lang/invoke/MethodHandle" ∧ y.cls ≠ "java/lang/invoke/VarHandle") (hM : own_M l y bytes maxL ret rm Z argsL.toArray h Q) (eT : T.heap = h)
    (hf : rm.frames + 1 ≤ R.frames) (hl : W + (maxL + 11) + rm.locals ≤ R.locals) (hc : cells + rm.cells ≤ R.cells) (hs : slots + rm.slots ≤ R.slots)
    {g : JFrame} (hg : g.method = m) (hsize : g.locals.size = c.maxLocals) (hlen : ∀ sig, parseMethodDescriptor y.desc = some sig → argsL.length = sig.parameters.length)
    (hstack : g.stack = argsL.reverse ++ rest) (hW : 2 * g.monitorRoom + (rest.map fun v => v.category).sum ≤ W) (hdg : decode c.code g.pc = .ok (.invokestatic index, 3)) :
    ∃ v T' L, Stand p l e R s m args below meth c T' (locs ++ L) (cells + rm.cells) (slots + rm.slots) ∧ Q v T'.heap L ∧ ∀ target, Steps p.tables e below (T'.setTop { g with pc := g.pc + 3, stack := v.toList ++ rest }) target → Steps p.tables e below (T.setTop g) target := by
  obtain ⟨v, _, ⟨T', L', k', n'⟩, -, X', ⟨L, hQ, e1, e2, e3⟩, st⟩ := Jvm.LawKit.callS X hx (y := y) hown (mvT hZ w1) (mvT hZ w2) (mvT hZ w3) (mvT hZ w4) hy (backOf (W := W) hM hZ w4 w3 hf hl) hg hsize hlen hstack hW hdg (fun _ _ => ⟨rfl, eT, hc, hs⟩)
  dsimp only [Pt.U, Pt.locs, Pt.cells, Pt.slots] at X' e1 e2 e3 st hQ
  subst e1 e2 e3
  exact ⟨v, T', L, X', hQ, st⟩
theorem own_callV (X : Stand p l e R s m args below meth c T locs cells slots) (hx : p.tables.exec = Jvm.exec) (hZ : Z.Warmed39 s.vm) {own C : String} {index : Nat} {y : MethodName} {bytes : ByteArray} {maxL : Nat} {ret : Option FieldType} {rm : Room} {W : Nat} {b : Addr} {argsL rest : List Value}
    (hown : s.vm.findClass own = some m.cls) (w1 : (Jvm.Cond.methodLink own index y).before a0 Z = true) (w2 : (Jvm.Cond.declares y).before a0 Z = true) (w3 : (Jvm.Cond.selects C y y).before a0 Z = true) (w4 : (Jvm.Cond.instanceMethod y).before a0 Z = true) (w5 : (Jvm.Cond.code y bytes maxL ret).before a0 Z = true) (w6 : (Jvm.Cond.initialized y.cls).before a0 Z = true)
    (hy : y.cls ≠ "java/lang/invoke/MethodHandle" ∧ y.cls ≠ "java/lang/invoke/VarHandle") (hM : own_M l y bytes maxL ret rm Z (.ref b :: argsL).toArray h Q) (eT : T.heap = h) (E : Exa Z h b C)
    (hf : rm.frames + 1 ≤ R.frames) (hl : W + (maxL + 11) + rm.locals ≤ R.locals) (hc : cells + rm.cells ≤ R.cells) (hs : slots + rm.slots ≤ R.slots)
    {g : JFrame} (hg : g.method = m) (hsize : g.locals.size = c.maxLocals) (hlen : ∀ sig, parseMethodDescriptor y.desc = some sig → argsL.length = sig.parameters.length)
    (hstack : g.stack = argsL.reverse ++ .ref b :: rest) (hW : 2 * g.monitorRoom + (rest.map fun v => v.category).sum ≤ W) (hdg : decode c.code g.pc = .ok (.invokevirtual index, 3)) :
    ∃ v T' L, Stand p l e R s m args below meth c T' (locs ++ L) (cells + rm.cells) (slots + rm.slots) ∧ Q v T'.heap L ∧ ∀ target, Steps p.tables e below (T'.setTop { g with pc := g.pc + 3, stack := v.toList ++ rest }) target → Steps p.tables e below (T.setTop g) target := by
  obtain ⟨cq, kq, q1, -, q3⟩ := isOf hZ eT E
  obtain ⟨v, _, ⟨T', L', k', n'⟩, -, X', ⟨L, hQ, e1, e2, e3⟩, st⟩ := X.virtualBack hx (y := y) (z := y) hown (mvT hZ w1) (mvT hZ w2) (notFace_of_selects (args := #[]) (mvT hZ w3)) (mvT hZ w3) (mvT hZ w4) hy (backOf (W := W) hM hZ w5 w6 hf hl) q1 q3 hg hsize (Steps.refl _) hlen hstack hW hdg (fun _ _ => ⟨rfl, eT, hc, hs⟩)
  dsimp only [Pt.U, Pt.locs, Pt.cells, Pt.slots] at X' e1 e2 e3 st hQ
  subst e1 e2 e3
  exact ⟨v, T', L, X', hQ, fun _ k => st.trans k⟩
theorem own_callI (X : Stand p l e R s m args below meth c T locs cells slots) (hx : p.tables.exec = Jvm.exec) (hZ : Z.Warmed39 s.vm) {own : String} {index : Nat} {y : MethodName} {bytes : ByteArray} {maxL : Nat} {rm : Room} {W : Nat} {b : Addr} {argsL rest : List Value}
    (hown : s.vm.findClass own = some m.cls) (hy1 : y.name = "<init>") (w1 : (Jvm.Cond.methodLink own index y).before a0 Z = true) (w2 : (Jvm.Cond.instanceMethod y).before a0 Z = true) (w3 : (Jvm.Cond.initialized y.cls).before a0 Z = true) (w4 : (Jvm.Cond.code y bytes maxL none).before a0 Z = true)
    (hy : y.cls ≠ "java/lang/invoke/MethodHandle" ∧ y.cls ≠ "java/lang/invoke/VarHandle") (hM : own_M l y bytes maxL none rm Z (.ref b :: argsL).toArray h Q) (eT : T.heap = h)
    (hf : rm.frames + 1 ≤ R.frames) (hl : W + (maxL + 11) + rm.locals ≤ R.locals) (hc : cells + rm.cells ≤ R.cells) (hs : slots + rm.slots ≤ R.slots)
    {g : JFrame} (hg : g.method = m) (hsize : g.locals.size = c.maxLocals) (hlen : ∀ sig, parseMethodDescriptor y.desc = some sig → argsL.length = sig.parameters.length)
    (hstack : g.stack = argsL.reverse ++ .ref b :: rest) (hW : 2 * g.monitorRoom + (rest.map fun v => v.category).sum ≤ W) (hdg : decode c.code g.pc = .ok (.invokespecial index, 3)) :
    ∃ v T' L, Stand p l e R s m args below meth c T' (locs ++ L) (cells + rm.cells) (slots + rm.slots) ∧ Q v T'.heap L ∧ ∀ target, Steps p.tables e below (T'.setTop { g with pc := g.pc + 3, stack := v.toList ++ rest }) target → Steps p.tables e below (T.setTop g) target := by
  obtain ⟨v, _, ⟨T', L', k', n'⟩, -, X', ⟨L, hQ, e1, e2, e3⟩, st⟩ := X.specialBack hx (y := y) hy1 hown (mvT hZ w1) (mvT hZ w2) (mvT hZ w4) hy (backOf (W := W) hM hZ w4 w3 hf hl) hg hsize (Steps.refl _) hlen hstack hW hdg (fun _ _ => ⟨rfl, eT, hc, hs⟩)
  dsimp only [Pt.U, Pt.locs, Pt.cells, Pt.slots] at X' e1 e2 e3 st hQ
  subst e1 e2 e3
  exact ⟨v, T', L, X', hQ, fun _ k => st.trans k⟩
theorem own_callVU (X : Stand p l e R s m args below meth c T locs cells slots) (hx : p.tables.exec = Jvm.exec) (hZ : Z.Warmed39 s.vm) {own C owner : String} {index : Nat} {y z : MethodName} {bytes : ByteArray} {maxL : Nat} {ret : Option FieldType} {rm : Room} {W : Nat} {b : Addr} {argsL rest : List Value}
    (hown : s.vm.findClass own = some m.cls) (w1 : (Jvm.Cond.methodLink own index y).before a0 Z = true) (w2 : (Jvm.Cond.sameMethod y.cls owner y.name y.desc).before a0 Z = true) (w2' : (Jvm.Cond.declares ⟨owner, y.name, y.desc⟩).before a0 Z = true) (w3 : (Jvm.Cond.selects C y z).before a0 Z = true) (w4 : (Jvm.Cond.instanceMethod z).before a0 Z = true) (w5 : (Jvm.Cond.code z bytes maxL ret).before a0 Z = true) (w6 : (Jvm.Cond.initialized z.cls).before a0 Z = true)
    (hy : owner ≠ "java/lang/invoke/MethodHandle" ∧ owner ≠ "java/lang/invoke/VarHandle") (hM : own_M l z bytes maxL ret rm Z (.ref b :: argsL).toArray h Q) (eT : T.heap = h) (E : Exa Z h b C)
    (hf : rm.frames + 1 ≤ R.frames) (hl : W + (maxL + 11) + rm.locals ≤ R.locals) (hc : cells + rm.cells ≤ R.cells) (hs : slots + rm.slots ≤ R.slots)
    {g : JFrame} (hg : g.method = m) (hsize : g.locals.size = c.maxLocals) (hlen : ∀ sig, parseMethodDescriptor y.desc = some sig → argsL.length = sig.parameters.length)
    (hstack : g.stack = argsL.reverse ++ .ref b :: rest) (hW : 2 * g.monitorRoom + (rest.map fun v => v.category).sum ≤ W) (hdg : decode c.code g.pc = .ok (.invokevirtual index, 3)) :
    ∃ v T' L, Stand p l e R s m args below meth c T' (locs ++ L) (cells + rm.cells) (slots + rm.slots) ∧ Q v T'.heap L ∧ ∀ target, Steps p.tables e below (T'.setTop { g with pc := g.pc + 3, stack := v.toList ++ rest }) target → Steps p.tables e below (T.setTop g) target := by
  obtain ⟨cq, kq, q1, -, q3⟩ := isOf hZ eT E
  obtain ⟨v, _, ⟨T', L', k', n'⟩, -, X', ⟨L, hQ, e1, e2, e3⟩, st⟩ := X.virtualBackUp hx (x := y) (y := z) hown (mvT hZ w1) (mvT hZ w2) (mvT hZ w2') hy (mvT hZ w3) (mvT hZ w4) (backOf (W := W) hM hZ w5 w6 hf hl) q1 q3 hg hsize (Steps.refl _) hlen hstack hW hdg (fun _ _ => ⟨rfl, eT, hc, hs⟩)
  dsimp only [Pt.U, Pt.locs, Pt.cells, Pt.slots] at X' e1 e2 e3 st hQ
  subst e1 e2 e3
  exact ⟨v, T', L, X', hQ, fun _ k => st.trans k⟩
theorem own_aaload (X : Stand p l e R s m args below meth c T locs cells slots) (hx : p.tables.exec = Jvm.exec) (hZ : Z.Warmed39 s.vm) (eT : T.heap = h) {a : Addr} {cl : Cell} {ty : FieldType} (F : Arr Z h a cl ty) (hty : ty.isReference = true) {j : Int32} {v : Value} (hin : ¬ (j < 0 ∨ cl.slots.size ≤ j.toNatClampNeg)) (hv : cl.slots[j.toNatClampNeg]? = some v)
    {g : JFrame} (hg : g.method = m) {rest : List Value} (hs : g.stack = .int j :: .ref a :: rest) (hd : decode c.code g.pc = .ok (.aaload, 1)) : ∀ target, Steps p.tables e below (T.setTop { g with pc := g.pc + 1, stack := v :: rest }) target → Steps p.tables e below (T.setTop g) target :=
  X.aaload hx (by rw [eT]; exact F.1) (State.isArrayOf_alike hZ.alike F.2.1) hty F.2.2 hin hv hg hs hd
theorem own_laload (X : Stand p l e R s m args below meth c T locs cells slots) (hx : p.tables.exec = Jvm.exec) (hZ : Z.Warmed39 s.vm) (eT : T.heap = h) {a : Addr} {cl : Cell} (F : Arr Z h a cl .long) {j : Int32} {v : Value} (hin : ¬ (j < 0 ∨ cl.slots.size ≤ j.toNatClampNeg)) (hv : cl.slots[j.toNatClampNeg]? = some v)
    {g : JFrame} (hg : g.method = m) {rest : List Value} (hs : g.stack = .int j :: .ref a :: rest) (hd : decode c.code g.pc = .ok (.laload, 1)) : ∀ target, Steps p.tables e below (T.setTop { g with pc := g.pc + 1, stack := v :: rest }) target → Steps p.tables e below (T.setTop g) target :=
  X.laload hx (by rw [eT]; exact F.1) (State.isArrayOf_alike hZ.alike F.2.1) F.2.2 hin hv hg hs hd
theorem own_baload (X : Stand p l e R s m args below meth c T locs cells slots) (hx : p.tables.exec = Jvm.exec) (hZ : Z.Warmed39 s.vm) (eT : T.heap = h) {a : Addr} {cl : Cell} (F : Arr Z h a cl .byte) {j : Int32} {v : Value} (hin : ¬ (j < 0 ∨ cl.slots.size ≤ j.toNatClampNeg)) (hv : cl.slots[j.toNatClampNeg]? = some v)
    {g : JFrame} (hg : g.method = m) {rest : List Value} (hs : g.stack = .int j :: .ref a :: rest) (hd : decode c.code g.pc = .ok (.baload, 1)) : ∀ target, Steps p.tables e below (T.setTop { g with pc := g.pc + 1, stack := v :: rest }) target → Steps p.tables e below (T.setTop g) target :=
  X.baloadBytes hx (by rw [eT]; exact F.1) (State.isArrayOf_alike hZ.alike F.2.1) F.2.2 hin hv hg hs hd
theorem own_zaload (X : Stand p l e R s m args below meth c T locs cells slots) (hx : p.tables.exec = Jvm.exec) (hZ : Z.Warmed39 s.vm) (eT : T.heap = h) {a : Addr} {cl : Cell} (F : Arr Z h a cl .boolean) {j : Int32} {v : Value} (hin : ¬ (j < 0 ∨ cl.slots.size ≤ j.toNatClampNeg)) (hv : cl.slots[j.toNatClampNeg]? = some v)
    {g : JFrame} (hg : g.method = m) {rest : List Value} (hs : g.stack = .int j :: .ref a :: rest) (hd : decode c.code g.pc = .ok (.baload, 1)) : ∀ target, Steps p.tables e below (T.setTop { g with pc := g.pc + 1, stack := v :: rest }) target → Steps p.tables e below (T.setTop g) target :=
  X.baloadBooleans hx (by rw [eT]; exact F.1) (State.isArrayOf_alike hZ.alike F.2.1) F.2.2 hin hv hg hs hd
theorem own_alen (X : Stand p l e R s m args below meth c T locs cells slots) (hx : p.tables.exec = Jvm.exec) (hZ : Z.Warmed39 s.vm) (eT : T.heap = h) {a : Addr} {cl : Cell} {ty : FieldType} (F : Arr Z h a cl ty) {n : Int32} (hn : cl.slots.size.toInt32 = n)
    {g : JFrame} (hg : g.method = m) {rest : List Value} (hs : g.stack = .ref a :: rest) (hd : decode c.code g.pc = .ok (.arraylength, 1)) : ∀ target, Steps p.tables e below (T.setTop { g with pc := g.pc + 1, stack := .int n :: rest }) target → Steps p.tables e below (T.setTop g) target :=
  fun t k => X.arraylength hx (by rw [eT]; exact F.1) (State.isArrayOf_alike hZ.alike F.2.1) hg hs hd t (by rw [hn]; exact k)
theorem own_elemS {t u : Term} {a w : Addr} {cl : Cell} {k : Int32} (ev : t.eval args s none [] s = some (.ref a)) (hc : s.heap[a]? = some cl) (evu : u.eval args s none [] s = some (.ref w)) (he : (Jvm.Cond.eq (.elem t (.int k)) u).value args s none s [] = some true) :
    ¬ (k < 0 ∨ cl.slots.size ≤ k.toNatClampNeg) ∧ cl.slots[k.toNatClampNeg]? = some (.ref w) := by
  obtain ⟨x, y, h1, h2, h3, h4⟩ := cmp_v (Or.inl he)
  cases evu.symm.trans h2
  have h5 := gotT (eq_R h1 h2 h4.2 rfl) he
  subst h5
  exact elem_in h1 ev (Term.int_eval k) hc
theorem own_lenS {t : Term} {a : Addr} {cl : Cell} {n : Int32} (ev : t.eval args s none [] s = some (.ref a)) (hc : s.heap[a]? = some cl) (he : (Jvm.Cond.eq (.length t) (.int n)).value args s none s [] = some true) : cl.slots.size < 2 ^ 31 ∧ cl.slots.size.toInt32 = n := by
  obtain ⟨x, y, h1, h2, h3, h4⟩ := cmp_v (Or.inl he)
  cases (Term.int_eval n).symm.trans h2
  obtain ⟨z, rfl⟩ := h4
  have h5 : z = n := by simpa [Jvm.Cond.value, h1, h2] using he
  subst h5
  obtain ⟨a', c', q1, q2, q3⟩ := Term.length_spec h1
  cases ev.symm.trans q1
  have q4 := (State.arrayAt?_spec q2).1
  cases hc.symm.trans q4
  refine ⟨?_, (Value.int.inj q3).symm⟩
  by_cases hl : cl.slots.size < 2 ^ 31
  · exact hl
  · simp [Term.eval, ev, q2, hl] at h1
/-- from a sheet's words to facts at the start -/
theorem own_const {C n d k0 : String} (hx : (Jvm.Cond.exactly (.static C n d) k0).value args s none s [] = some true) (hi : (Jvm.Cond.initialized C).before args s = true) (hl : (Jvm.Cond.laysStatic C n d).before args s = true) :
    ∃ a, (Term.static C n d).eval args s none [] s = some (.ref a) ∧ Sta s s.heap C n d (.ref a) ∧ Exa s s.heap a k0 := by
  obtain ⟨a, ev⟩ := exa_v hx
  exact ⟨a, ev, Sta.start ev (Or.inr ⟨hi, hl⟩), Exa.start ev hx⟩
theorem own_fldI {t : Term} {a : Addr} {O n d : String} {k : Int32} (ev : t.eval args s none [] s = some (.ref a)) (he : (Jvm.Cond.eq (.field t O n d) (.int k)).value args s none s [] = some true) : Fld s s.heap a O n d (.int k) := by
  obtain ⟨x, y, h1, h2, h3, h4⟩ := cmp_v (Or.inl he)
  have h5 := h1
  rw [fld_at ev] at h5
  have h6 : y = .int k := (Option.some.inj ((Term.int_eval k).symm.trans h2)).symm
  subst h6
  obtain ⟨z, rfl⟩ := h4
  have h7 : z = k := by simpa [Jvm.Cond.value, h1, h2] using he
  subst h7
  exact Fld.start h5
end Own
section Own2
variable {p : Program} {l : Launch} {e : Env} {R : Room} {s : State} {m : MethodId} {args : Array Value} {below : List Frame} {meth : Method} {c : Code} {T : State} {locs : List Loc} {cells slots : Nat} {Z : State} {a0 : Array Value} {h : Heap}
variable {a : Addr} {k : ClassId} {ty : FieldType} {z : Int32} {vs : List Value} {dv : Value}
/-- a fresh array of n places, each said -/
theorem own_arvNew {n : Nat} (A : Arr Z h a (newA k ty z) ty) (q : ¬ z < 0) : Arv Z h a k ty z (List.replicate n (defaultValue ty)) (defaultValue ty) := (Arv.new A q).pad (pad_rep [] _ n)
theorem own_stR (X : Stand p l e R s m args below meth c T locs cells slots) (hx : p.tables.exec = Jvm.exec) (hZ : Z.Warmed39 s.vm) (eT : T.heap = h) {C : String} {y : Addr} (F : Arv Z h a k (.object C) z vs dv) (O : Ovr Z k C) (I : Ins Z h y C true) {j : Int32} (i : Nat) (hj : j.toNatClampNeg = i) (hi : i < vs.length) (hin : ¬ j < 0 ∧ j < z)
    {g : JFrame} (hg : g.method = m) {rest : List Value} (hs : g.stack = .ref y :: .int j :: .ref a :: rest) (hd : decode c.code g.pc = .ok (.aastore, 1)) :
    ∃ T' h', Stand p l e R s m args below meth c T' (locs ++ [⟨a, j.toNatClampNeg⟩]) cells slots ∧ T'.heap = h' ∧ Wr h h' a j.toNatClampNeg (.ref y) ∧ Arv Z h' a k (.object C) z (vs.set i (.ref y)) dv ∧ ∀ target, Steps p.tables e below (T'.setTop { g with pc := g.pc + 1, stack := rest }) target → Steps p.tables e below (T.setTop g) target := by
  obtain ⟨cl, A, q1, S, q3, H, G⟩ := F
  obtain ⟨T', h', X', e', W, st⟩ := stR X hx hZ eT A (inb_of S hin) rfl (Sto.ofV A q1 O I) hg hs hd
  exact ⟨T', h', X', e', W, Arv.set A q1 S q3 H G rfl W i hj hi, st⟩
theorem own_stZ (X : Stand p l e R s m args below meth c T locs cells slots) (hx : p.tables.exec = Jvm.exec) (hZ : Z.Warmed39 s.vm) (eT : T.heap = h) {x : Int32} (F : Arv Z h a k .boolean z vs dv) {j : Int32} (i : Nat) (hj : j.toNatClampNeg = i) (hi : i < vs.length) (hin : ¬ j < 0 ∧ j < z)
    {g : JFrame} (hg : g.method = m) {rest : List Value} (hs : g.stack = .int x :: .int j :: .ref a :: rest) (hd : decode c.code g.pc = .ok (.bastore, 1)) :
    ∃ T' h', Stand p l e R s m args below meth c T' (locs ++ [⟨a, j.toNatClampNeg⟩]) cells slots ∧ T'.heap = h' ∧ Wr h h' a j.toNatClampNeg (.int (nar .boolean x)) ∧ Arv Z h' a k .boolean z (vs.set i (.int (nar .boolean x))) dv ∧ ∀ target, Steps p.tables e below (T'.setTop { g with pc := g.pc + 1, stack := rest }) target → Steps p.tables e below (T.setTop g) target := by
  obtain ⟨cl, A, q1, S, q3, H, G⟩ := F
  obtain ⟨T', h', X', e', W, st⟩ := stZ X hx hZ eT A (inb_of S hin) hg hs hd
  exact ⟨T', h', X', e', W, Arv.set A q1 S q3 H G (fits_nar_bool x) W i hj hi, st⟩
theorem own_stB (X : Stand p l e R s m args below meth c T locs cells slots) (hx : p.tables.exec = Jvm.exec) (hZ : Z.Warmed39 s.vm) (eT : T.heap = h) {x : Int32} (F : Arv Z h a k .byte z vs dv) {j : Int32} (i : Nat) (hj : j.toNatClampNeg = i) (hi : i < vs.length) (hin : ¬ j < 0 ∧ j < z)
    {g : JFrame} (hg : g.method = m) {rest : List Value} (hs : g.stack = .int x :: .int j :: .ref a :: rest) (hd : decode c.code g.pc = .ok (.bastore, 1)) :
    ∃ T' h', Stand p l e R s m args below meth c T' (locs ++ [⟨a, j.toNatClampNeg⟩]) cells slots ∧ T'.heap = h' ∧ Wr h h' a j.toNatClampNeg (.int (nar .byte x)) ∧ Arv Z h' a k .byte z (vs.set i (.int (nar .byte x))) dv ∧ ∀ target, Steps p.tables e below (T'.setTop { g with pc := g.pc + 1, stack := rest }) target → Steps p.tables e below (T.setTop g) target := by
  obtain ⟨cl, A, q1, S, q3, H, G⟩ := F
  obtain ⟨T', h', X', e', W, st⟩ := stB X hx hZ eT A (inb_of S hin) hg hs hd
  exact ⟨T', h', X', e', W, Arv.set A q1 S q3 H G (fits_nar_byte x) W i hj hi, st⟩
theorem own_stJ (X : Stand p l e R s m args below meth c T locs cells slots) (hx : p.tables.exec = Jvm.exec) (hZ : Z.Warmed39 s.vm) (eT : T.heap = h) {x : Int64} (F : Arv Z h a k .long z vs dv) {j : Int32} (i : Nat) (hj : j.toNatClampNeg = i) (hi : i < vs.length) (hin : ¬ j < 0 ∧ j < z)
    {g : JFrame} (hg : g.method = m) {rest : List Value} (hs : g.stack = .long x :: .int j :: .ref a :: rest) (hd : decode c.code g.pc = .ok (.lastore, 1)) :
    ∃ T' h', Stand p l e R s m args below meth c T' (locs ++ [⟨a, j.toNatClampNeg⟩]) cells slots ∧ T'.heap = h' ∧ Wr h h' a j.toNatClampNeg (.long x) ∧ Arv Z h' a k .long z (vs.set i (.long x)) dv ∧ ∀ target, Steps p.tables e below (T'.setTop { g with pc := g.pc + 1, stack := rest }) target → Steps p.tables e below (T.setTop g) target := by
  obtain ⟨cl, A, q1, S, q3, H, G⟩ := F
  obtain ⟨T', h', X', e', W, st⟩ := stJ X hx hZ eT A (inb_of S hin) hg hs hd
  exact ⟨T', h', X', e', W, Arv.set A q1 S q3 H G rfl W i hj hi, st⟩
theorem own_stC (X : Stand p l e R s m args below meth c T locs cells slots) (hx : p.tables.exec = Jvm.exec) (hZ : Z.Warmed39 s.vm) (eT : T.heap = h) {x : Int32} (F : Arv Z h a k .char z vs dv) {j : Int32} (i : Nat) (hj : j.toNatClampNeg = i) (hi : i < vs.length) (hin : ¬ j < 0 ∧ j < z)
    {g : JFrame} (hg : g.method = m) {rest : List Value} (hs : g.stack = .int x :: .int j :: .ref a :: rest) (hd : decode c.code g.pc = .ok (.castore, 1)) :
    ∃ T' h', Stand p l e R s m args below meth c T' (locs ++ [⟨a, j.toNatClampNeg⟩]) cells slots ∧ T'.heap = h' ∧ Wr h h' a j.toNatClampNeg (.int (nar .char x)) ∧ Arv Z h' a k .char z (vs.set i (.int (nar .char x))) dv ∧ ∀ target, Steps p.tables e below (T'.setTop { g with pc := g.pc + 1, stack := rest }) target → Steps p.tables e below (T.setTop g) target := by
  obtain ⟨cl, A, q1, S, q3, H, G⟩ := F
  obtain ⟨T', h', X', e', W, st⟩ := stC X hx hZ eT A (inb_of S hin) hg hs hd
  exact ⟨T', h', X', e', W, Arv.set A q1 S q3 H G (fits_nar_char x) W i hj hi, st⟩
theorem own_caload (X : Stand p l e R s m args below meth c T locs cells slots) (hx : p.tables.exec = Jvm.exec) (hZ : Z.Warmed39 s.vm) (eT : T.heap = h) {cl : Cell} (F : Arr Z h a cl .char) {j : Int32} {v : Value} (hin : ¬ (j < 0 ∨ cl.slots.size ≤ j.toNatClampNeg)) (hv : cl.slots[j.toNatClampNeg]? = some v)
    {g : JFrame} (hg : g.method = m) {rest : List Value} (hs : g.stack = .int j :: .ref a :: rest) (hd : decode c.code g.pc = .ok (.caload, 1)) : ∀ target, Steps p.tables e below (T.setTop { g with pc := g.pc + 1, stack := v :: rest }) target → Steps p.tables e below (T.setTop g) target :=
  X.caload hx (by rw [eT]; exact F.1) (State.isArrayOf_alike hZ.alike F.2.1) F.2.2 hin hv hg hs hd
/-- a place of an array that is said -/
theorem own_at (F : Arv Z h a k ty z vs dv) {j : Int32} (hin : ¬ j < 0 ∧ j < z) : ∃ cl, Arr Z h a cl ty ∧ ¬ (j < 0 ∨ cl.slots.size ≤ j.toNatClampNeg) ∧ cl.slots[j.toNatClampNeg]? = some (vs.getD j.toNatClampNeg dv) := by
  obtain ⟨cl, A, q1, S, q3, H, G⟩ := F
  exact ⟨cl, A, inb_of S hin, H.at (inb_of S hin) rfl⟩
theorem own_len (F : Arv Z h a k ty z vs dv) : ∃ cl, Arr Z h a cl ty ∧ cl.slots.size.toInt32 = z := by
  obtain ⟨cl, A, q1, S, q3, H, G⟩ := F
  exact ⟨cl, A, len_of S q3⟩
theorem own_re {vs' : List Value} (F : Arv Z h a k ty z vs dv) (q : ∀ i, i < z.toNatClampNeg → vs'.getD i dv = vs.getD i dv) : Arv Z h a k ty z vs' dv := by
  obtain ⟨cl, A, q1, S, q3, H, G⟩ := F
  exact ⟨cl, A, q1, S, q3, fun i hi => by rw [q i (S ▸ hi)]; exact H i hi, fun i hi => by rw [q i (S ▸ hi)]; exact G i hi⟩
theorem own_no {n : Nat} {C S O k0 : String} (w : (Jvm.Cond.superclass C S).before a0 Z = true) (w2 : (Jvm.Cond.superclass S O).before a0 Z = true) (w3 : (Jvm.Cond.noSuperclass O).before a0 Z = true) (wi : (Jvm.Cond.instantiable k0 n).before a0 Z = true) (n1 : C ≠ k0) (n2 : S ≠ k0) (n3 : O ≠ k0) :
    ∃ c t, Z.vm.findClass C = some c ∧ Z.vm.findClass k0 = some t ∧ Z.vm.assignable c t = false := by
  obtain ⟨t, kt, g1, g2, g3, g4, -⟩ := Cond.instantiable_spec wi
  have hO : NS Z O k0 := by
    obtain ⟨c, kc, h1, h2, h3, -, -⟩ := Cond.noSuperclass_spec w3
    refine ⟨c, t, h1, g1, fun fuel => ?_⟩
    cases fuel with
    | zero => rfl
    | succ f => simp [Vm.isSubclassAux, ids_ne h1 g1 n3, h2, h3]
  obtain ⟨c, t', h0, g0, n4⟩ := NS.step w (NS.step w2 hO n2) n1
  cases g1.symm.trans g0
  obtain ⟨p, kk, kp, h1, h2, h3, h4, h5, -, h7⟩ := Cond.superclass_spec h0 w
  refine ⟨c, t, h0, g0, ?_⟩
  show Z.vm.assignableAux (255 + 1) c t = false
  simp only [Bool.or_eq_false_iff] at g4
  simp [Vm.assignableAux, ids_ne h0 g0 n1, h2, g2, h5, g3, g4.1, Vm.isSubclass, n4]
theorem own_clone (X : Stand p l e R s m args below meth c T locs cells slots) (hx : p.tables.exec = Jvm.exec) (hZ : Z.Warmed39 s.vm) {own ad : String} {index : Nat} (hown : s.vm.findClass own = some m.cls)
    (w1 : (Jvm.Cond.methodLink own index ⟨ad, "clone", "()Ljava/lang/Object;"⟩).before a0 Z = true) (w2 : (Jvm.Cond.sameMethod ad "java/lang/Object" "clone" "()Ljava/lang/Object;").before a0 Z = true) (w3 : (Jvm.Cond.native ⟨"java/lang/Object", "clone", "()Ljava/lang/Object;"⟩).before a0 Z = true)
    (w4 : (Jvm.Cond.instanceMethod ⟨"java/lang/Object", "clone", "()Ljava/lang/Object;"⟩).before a0 Z = true) (w5 : (Jvm.Cond.selects ad ⟨ad, "clone", "()Ljava/lang/Object;"⟩ ⟨"java/lang/Object", "clone", "()Ljava/lang/Object;"⟩).before a0 Z = true) (w6 : (Jvm.Cond.castable ad "java/lang/Cloneable").before a0 Z = true)
    (eT : T.heap = h) (F : Arv Z h a k ty z vs dv) (E : Exa Z h a ad) {g : JFrame} (hg : g.method = m) (hsize : g.locals.size = c.maxLocals) {rest : List Value} (hst : g.stack = .ref a :: rest) (hd : decode c.code g.pc = .ok (.invokevirtual index, 3))
    (hf : 1 ≤ R.frames) {W cap : Nat} (hW : 2 * g.monitorRoom + (rest.map fun v => v.category).sum ≤ W) (hl : W + 14 ≤ R.locals) (hcap : z.toNatClampNeg ≤ cap) (hc : cells + 1 ≤ R.cells) (hsl : slots + cap ≤ R.slots) :
    ∃ T' h', Stand p l e R s m args below meth c T' locs (cells + 1) (slots + cap) ∧ T'.heap = h' ∧ Ext h h' ∧ Arv Z h' h.size k ty z vs dv ∧ Exa Z h' h.size ad ∧
      ∀ target, Steps p.tables e below (T'.setTop { g with pc := g.pc + 3, stack := .ref h.size :: rest }) target → Steps p.tables e below (T.setTop g) target := by
  obtain ⟨cl, A, q1, S, q3, H, G⟩ := F
  obtain ⟨T', h', X', e', E', A', B', st⟩ := cloneA X hx hZ hown w1 w2 w3 w4 w5 w6 eT A E (fitC_of A (fun i hi v hv => by rw [H i hi] at hv; cases hv; exact G i hi)) hg hsize hst hd hf hW hl (by rw [S]; exact hcap) hc hsl
  exact ⟨T', h', X', e', E', ⟨cloneOf cl, A', q1, S, q3, H, G⟩, B', st⟩
end Own2
theorem own_nb (y : Int32) : nar .byte y.toInt8.toInt32 = y.toInt8.toInt32 := by simp [nar]
theorem own_gd0 {b0 b1 b2 : Int32} (i : Nat) (hi : i < (0 : Int32).toNatClampNeg) : ([.int b0, .int b1, .int b2] : List Value).getD i (.int 0) = ([] : List Value).getD i (.int 0) := by
  have hi : i < 0 := hi
  omega
theorem own_gd1 {b0 b1 b2 : Int32} (i : Nat) (hi : i < (1 : Int32).toNatClampNeg) : ([.int b0, .int b1, .int b2] : List Value).getD i (.int 0) = ([.int b0] : List Value).getD i (.int 0) := by
  have hi : i < 1 := hi
  match i, hi with
  | 0, _ => rfl
theorem own_gd2 {b0 b1 b2 : Int32} (i : Nat) (hi : i < (2 : Int32).toNatClampNeg) : ([.int b0, .int b1, .int b2] : List Value).getD i (.int 0) = ([.int b0, .int b1] : List Value).getD i (.int 0) := by
  have hi : i < 2 := hi
  match i, hi with
  | 0, _ => rfl
  | 1, _ => rfl
theorem own_gd3 {b0 b1 b2 : Int32} (i : Nat) (hi : i < (3 : Int32).toNatClampNeg) : ([.int b0, .int b1, .int b2] : List Value).getD i (.int 0) = ([.int b0, .int b1, .int b2] : List Value).getD i (.int 0) := by
  have hi : i < 3 := hi
  match i, hi with
  | 0, _ => rfl
  | 1, _ => rfl
  | 2, _ => rfl
theorem own_q (x : Int32) : x &&& 3 = 0 ∨ x &&& 3 = 1 ∨ x &&& 3 = 2 ∨ x &&& 3 = 3 := by
  have h1 := c_and x 3 (by decide)
  have e0 : (0 : Int32).toInt = 0 := by decide
  have e1 : (1 : Int32).toInt = 1 := by decide
  have e2 : (2 : Int32).toInt = 2 := by decide
  have e3 : (3 : Int32).toInt = 3 := by decide
  rw [e3] at h1
  simp only [← Int32.toInt_inj]
  rw [e0, e1, e2, e3]
  omega
theorem pd_0 : parseMethodDescriptor "(Ljava/util/Map;)Ljava/util/Map;" = some ⟨[(.object "java/util/Map")], some (.object "java/util/Map")⟩ := by decide +kernel
theorem pd_1 : parseMethodDescriptor "(Ljava/util/Map;[B)V" = some ⟨[(.object "java/util/Map"), (.array .byte)], none⟩ := by decide +kernel
theorem pd_2 : parseMethodDescriptor "(IBBB)[B" = some ⟨[.int, .byte, .byte, .byte], some (.array .byte)⟩ := by decide +kernel
theorem pd_3 : parseMethodDescriptor "()Ljava/util/Map;" = some ⟨[], some (.object "java/util/Map")⟩ := by decide +kernel
theorem pd_4 : parseMethodDescriptor "(Ljava/util/Map;)V" = some ⟨[(.object "java/util/Map")], none⟩ := by decide +kernel
theorem pd_5 : parseMethodDescriptor "()[B" = some ⟨[], some (.array .byte)⟩ := by decide +kernel
theorem pd_6 : parseMethodDescriptor "([B)Lcom/example/arborkey/arborkey/DecryptionMaterials;" = some ⟨[(.array .byte)], some (.object "com/example/arborkey/arborkey/DecryptionMaterials")⟩ := by decide +kernel
theorem pd_7 : parseMethodDescriptor "([B)V" = some ⟨[(.array .byte)], none⟩ := by decide +kernel
theorem pd_8 : parseMethodDescriptor "([BIBBB)Z" = some ⟨[(.array .byte), .int, .byte, .byte, .byte], some .boolean⟩ := by decide +kernel
theorem d2_0 : decode jdk_72_method_26_code 0 = .ok (.getstatic 81, 3) := by decide +kernel
theorem d2_3 : decode jdk_72_method_26_code 3 = .ok (.areturn, 1) := by decide +kernel
def Qrm2 (em : Addr) (Z : State) (h0 : Heap) (n0 : Nat) (v : Option Value) (h : Heap) (L : List Loc) : Prop := v = some (.ref em) ∧ Fr n0 L ∧ h = h0
set_option maxRecDepth 65536 in
set_option maxHeartbeats 40000000 in
theorem rm2 (l : Launch) (Z : State) (a0 : Array Value) (hw : ∀ d ∈ tables_1, d.before a0 Z = true) (em : Addr) (h0 : Heap) (n0 : Nat) (Z0 : n0 ≤ h0.size) (S : Sta Z h0 "java/util/ImmutableCollections" "EMPTY_MAP" "Ljava/util/ImmutableCollections$MapN;" (.ref em)) :
    MetFree l (⟨"java/util/Map", "of", "()Ljava/util/Map;"⟩ : MethodName) (head1 (Jvm.Cond.code (⟨"java/util/Map", "of", "()Ljava/util/Map;"⟩ : MethodName) jdk_72_method_26_code 0 (some (.object "java/util/Map")) :: []) ({ frames := 0, cells := 0, slots := 0, locals := 0 } : Room)) (fun ar_ U => ar_ = #[] ∧ Z.Warmed39 U.vm ∧ U.heap = h0) (fun _ _ _ _ _ => True) (fun _ U o U' => ∃ v L, o = .returned v ∧ Qrm2 em Z h0 n0 v U'.heap L ∧ FrameEnd U o U' L ({ frames := 0, cells := 0, slots := 0, locals := 0 } : Room).cells ({ frames := 0, cells := 0, slots := 0, locals := 0 } : Room).slots) := by
  refine MetFree.of_bodySF (plainFor_of_name (by first | (simp [plainName, overriddenIn]; done) | decide +kernel)) hisR ?_
  intro p e s m args below meth c s₁ Bd hml0 hP hK
  obtain ⟨rfl, hZ, hh⟩ := hP
  have hx := Bd.exec
  have hby := Bd.bytes
  have hml : c.maxLocals = 0 := hml0
  have hown : s.vm.findClass "java/util/Map" = some m.cls := findClass_of_methodNamed Bd.named
  have hnm := (name_of_methodNamed Bd.named Bd.method).1
  have X0 : Stand p l e ({ frames := 0, cells := 0, slots := 0, locals := 0 } : Room) s m #[] below meth c s₁ [] 0 0 := Stand.of_body Bd
  have e0 : s₁.heap = h0 := by rw [← hh, Bd.state]; rfl
  have N0 := Fr.nil n0
  show own_E p e below s (Qrm2 em Z h0 n0) ({ frames := 0, cells := 0, slots := 0, locals := 0 } : Room).cells ({ frames := 0, cells := 0, slots := 0, locals := 0 } : Room).slots (s₁.setTop (entryFrame m #[] 0))
  refine own_go (fun t k => castTop (show _ = (mkF m 0 #[] []) from by first | (simp [entryFrame, mkF, argsToLocals, Value.category]; done) | rfl) k) ?_
  show own_E _ _ _ _ _ _ _ (s₁.setTop (mkF m 0 #[] []))
  obtain ⟨T1, X1, e1, st1⟩ := getS2 X0 hx hZ hown (host := "") (Or.inl (hw _ (List.mem_of_getElem? (i := 12) rfl))) Via.refl e0 S (g := (mkF m 0 #[] [])) rfl (hb hby d2_0)
  refine own_go st1 ?_
  show own_E _ _ _ _ _ _ _ (T1.setTop (mkF m 3 #[] [(.ref em)]))
  exact own_ret X1 hx Bd.returns Bd.notSynchronized rfl (Or.inr (Or.inr (Or.inr (Or.inr ⟨rfl, rfl, rfl⟩)))) (hb hby d2_3) (by rw [e1]; exact ⟨rfl, N0, rfl⟩) (by decide) (by decide)
theorem d4_0 : decode jdk_72_method_39_code 0 = .ok (.aload_n 0, 1) := by decide +kernel
theorem d4_1 : decode jdk_72_method_39_code 1 = .ok (.instanceof 101, 3) := by decide +kernel
theorem d4_4 : decode jdk_72_method_39_code 4 = .ok (.ifCond .eq 5, 3) := by decide +kernel
theorem d4_7 : decode jdk_72_method_39_code 7 = .ok (.aload_n 0, 1) := by decide +kernel
theorem d4_8 : decode jdk_72_method_39_code 8 = .ok (.areturn, 1) := by decide +kernel
def Qrm4 (em : Addr) (Z : State) (h0 : Heap) (n0 : Nat) (v : Option Value) (h : Heap) (L : List Loc) : Prop := v = some (.ref em) ∧ Fr n0 L ∧ h = h0
set_option maxRecDepth 65536 in
set_option maxHeartbeats 40000000 in
theorem rm4 (l : Launch) (Z : State) (a0 : Array Value) (hw : ∀ d ∈ tables_1, d.before a0 Z = true) (em : Addr) (h0 : Heap) (n0 : Nat) (Z0 : n0 ≤ h0.size) (E : Exa Z h0 em "java/util/ImmutableCollections$MapN") :
    MetFree l (⟨"java/util/Map", "copyOf", "(Ljava/util/Map;)Ljava/util/Map;"⟩ : MethodName) (head1 (Jvm.Cond.code (⟨"java/util/Map", "copyOf", "(Ljava/util/Map;)Ljava/util/Map;"⟩ : MethodName) jdk_72_method_39_code 1 (some (.object "java/util/Map")) :: []) ({ frames := 0, cells := 0, slots := 0, locals := 0 } : Room)) (fun ar_ U => ar_ = #[(.ref em)] ∧ Z.Warmed39 U.vm ∧ U.heap = h0) (fun _ _ _ _ _ => True) (fun _ U o U' => ∃ v L, o = .returned v ∧ Qrm4 em Z h0 n0 v U'.heap L ∧ FrameEnd U o U' L ({ frames := 0, cells := 0, slots := 0, locals := 0 } : Room).cells ({ frames := 0, cells := 0, slots := 0, locals := 0 } : Room).slots) := by
  refine MetFree.of_bodySF (plainFor_of_name (by first | (simp [plainName, overriddenIn]; done) | decide +kernel)) hisR ?_
  intro p e s m args below meth c s₁ Bd hml0 hP hK
  obtain ⟨rfl, hZ, hh⟩ := hP
  have hx := Bd.exec
  have hby := Bd.bytes
  have hml : c.maxLocals = 1 := hml0
  have hown : s.vm.findClass "java/util/Map" = some m.cls := findClass_of_methodNamed Bd.named
  have hnm := (name_of_methodNamed Bd.named Bd.method).1
  have X0 : Stand p l e ({ frames := 0, cells := 0, slots := 0, locals := 0 } : Room) s m #[(.ref em)] below meth c s₁ [] 0 0 := Stand.of_body Bd
  have e0 : s₁.heap = h0 := by rw [← hh, Bd.state]; rfl
  have N0 := Fr.nil n0
  show own_E p e below s (Qrm4 em Z h0 n0) ({ frames := 0, cells := 0, slots := 0, locals := 0 } : Room).cells ({ frames := 0, cells := 0, slots := 0, locals := 0 } : Room).slots (s₁.setTop (entryFrame m #[(.ref em)] 1))
  refine own_go (fun t k => castTop (show _ = (mkF m 0 #[.val (.ref em)] []) from by first | (simp [entryFrame, mkF, argsToLocals, Value.category]; done) | rfl) k) ?_
  show own_E _ _ _ _ _ _ _ (s₁.setTop (mkF m 0 #[.val (.ref em)] []))
  refine own_go (fun _ k => XS.aloadN X0.here hx rfl (hb hby d4_0) rfl rfl k) ?_
  show own_E _ _ _ _ _ _ _ (s₁.setTop (mkF m 1 #[.val (.ref em)] [(.ref em)]))
  obtain ⟨T1, X1, e1, st1⟩ := instY X0 hx hZ hown (hw _ (List.mem_of_getElem? (i := 20) rfl)) e0 (Ins.of_exa E (hw _ (List.mem_of_getElem? (i := 21) rfl))) (g := (mkF m 1 #[.val (.ref em)] [(.ref em)])) rfl rfl (hb hby d4_1)
  refine own_go st1 ?_
  show own_E _ _ _ _ _ _ _ (T1.setTop (mkF m 4 #[.val (.ref em)] [(.int (1 : Int32))]))
  refine own_go (fun _ k => XS.ifNo X1.here hx rfl (hb hby d4_4) rfl (by decide) k) ?_
  show own_E _ _ _ _ _ _ _ (T1.setTop (mkF m 7 #[.val (.ref em)] []))
  refine own_go (fun _ k => XS.aloadN X1.here hx rfl (hb hby d4_7) rfl rfl k) ?_
  show own_E _ _ _ _ _ _ _ (T1.setTop (mkF m 8 #[.val (.ref em)] [(.ref em)]))
  exact own_ret X1 hx Bd.returns Bd.notSynchronized rfl (Or.inr (Or.inr (Or.inr (Or.inr ⟨rfl, rfl, rfl⟩)))) (hb hby d4_8) (by rw [e1]; exact ⟨rfl, N0, rfl⟩) (by decide) (by decide)
theorem d5_0 : decode prog_31_method_2_code 0 = .ok (.aload_n 0, 1) := by decide +kernel
theorem d5_1 : decode prog_31_method_2_code 1 = .ok (.invokespecial 13, 3) := by decide +kernel
theorem d5_4 : decode prog_31_method_2_code 4 = .ok (.aload_n 0, 1) := by decide +kernel
theorem d5_5 : decode prog_31_method_2_code 5 = .ok (.aload_n 1, 1) := by decide +kernel
theorem d5_6 : decode prog_31_method_2_code 6 = .ok (.putfield 18, 3) := by decide +kernel
theorem d5_9 : decode prog_31_method_2_code 9 = .ok (.aload_n 0, 1) := by decide +kernel
theorem d5_10 : decode prog_31_method_2_code 10 = .ok (.aload_n 2, 1) := by decide +kernel
theorem d5_11 : decode prog_31_method_2_code 11 = .ok (.putfield 22, 3) := by decide +kernel
theorem d5_14 : decode prog_31_method_2_code 14 = .ok (.return_, 1) := by decide +kernel
def QrmCN (a : Addr) (em : Addr) (Z : State) (h0 : Heap) (n0 : Nat) (v : Option Value) (h : Heap) (L : List Loc) : Prop := v = none ∧ Fr n0 L ∧ Keep h0 h [a] ∧ Exa Z h a "com/example/arborkey/arborkey/DecryptionMaterials" ∧ Fld Z h a "com/example/arborkey/arborkey/DecryptionMaterials" "encryptionContext" "Ljava/util/Map;" (.ref em) ∧ Fld Z h a "com/example/arborkey/arborkey/DecryptionMaterials" "dataKey" "[B" .null
set_option maxRecDepth 65536 in
set_option maxHeartbeats 40000000 in
theorem rmCN (l : Launch) (Z : State) (a0 : Array Value) (hw : ∀ d ∈ tables_1, d.before a0 Z = true) (a : Addr) (em : Addr) (h0 : Heap) (n0 : Nat) (Z0 : n0 ≤ h0.size) (E : Exa Z h0 a "com/example/arborkey/arborkey/DecryptionMaterials") (F : Fld Z h0 a "com/example/arborkey/arborkey/DecryptionMaterials" "encryptionContext" "Ljava/util/Map;" .null) (G : Fld Z h0 a "com/example/arborkey/arborkey/DecryptionMaterials" "dataKey" "[B" .null) (ga : n0 ≤ a) :
    MetFree l (⟨"com/example/arborkey/arborkey/DecryptionMaterials", "<init>", "(Ljava/util/Map;[B)V"⟩ : MethodName) (head1 (Jvm.Cond.code (⟨"com/example/arborkey/arborkey/DecryptionMaterials", "<init>", "(Ljava/util/Map;[B)V"⟩ : MethodName) prog_31_method_2_code 3 none :: []) ({ frames := 1, cells := 0, slots := 0, locals := 12 } : Room)) (fun ar_ U => ar_ = #[(.ref a), (.ref em), .null] ∧ Z.Warmed39 U.vm ∧ U.heap = h0) (fun _ _ _ _ _ => True) (fun _ U o U' => ∃ v L, o = .returned v ∧ QrmCN a em Z h0 n0 v U'.heap L ∧ FrameEnd U o U' L ({ frames := 1, cells := 0, slots := 0, locals := 12 } : Room).cells ({ frames := 1, cells := 0, slots := 0, locals := 12 } : Room).slots) := by
  refine MetFree.of_bodySF (plainFor_of_name (by first | (simp [plainName, overriddenIn]; done) | decide +kernel)) hisR ?_
  intro p e s m args below meth c s₁ Bd hml0 hP hK
  obtain ⟨rfl, hZ, hh⟩ := hP
  have hx := Bd.exec
  have hby := Bd.bytes
  have hml : c.maxLocals = 3 := hml0
  have hown : s.vm.findClass "com/example/arborkey/arborkey/DecryptionMaterials" = some m.cls := findClass_of_methodNamed Bd.named
  have hnm := (name_of_methodNamed Bd.named Bd.method).1
  have X0 : Stand p l e ({ frames := 1, cells := 0, slots := 0, locals := 12 } : Room) s m #[(.ref a), (.ref em), .null] below meth c s₁ [] 0 0 := Stand.of_body Bd
  have e0 : s₁.heap = h0 := by rw [← hh, Bd.state]; rfl
  have N0 := Fr.nil n0
  show own_E p e below s (QrmCN a em Z h0 n0) ({ frames := 1, cells := 0, slots := 0, locals := 12 } : Room).cells ({ frames := 1, cells := 0, slots := 0, locals := 12 } : Room).slots (s₁.setTop (entryFrame m #[(.ref a), (.ref em), .null] 3))
  refine own_go (fun t k => castTop (show _ = (mkF m 0 #[.val (.ref a), .val (.ref em), .val .null] []) from by first | (simp [entryFrame, mkF, argsToLocals, Value.category]; done) | rfl) k) ?_
  show own_E _ _ _ _ _ _ _ (s₁.setTop (mkF m 0 #[.val (.ref a), .val (.ref em), .val .null] []))
  have KK := Keep.refl h0 [a]
  refine own_go (fun _ k => XS.aloadN X0.here hx rfl (hb hby d5_0) rfl rfl k) ?_
  show own_E _ _ _ _ _ _ _ (s₁.setTop (mkF m 1 #[.val (.ref a), .val (.ref em), .val .null] [(.ref a)]))
  obtain ⟨T11, X11, e11, st11⟩ := initO X0 hx hZ hown (hw _ (List.mem_of_getElem? (i := 25) rfl)) (hw _ (List.mem_of_getElem? (i := 26) rfl)) (hw _ (List.mem_of_getElem? (i := 27) rfl)) e0 (g := (mkF m 1 #[.val (.ref a), .val (.ref em), .val .null] [(.ref a)])) rfl (by rw [hml]; rfl) rfl (hb hby d5_1) (by decide) (W := 0) (Nat.le_of_ble_eq_true rfl) (by decide)
  refine own_go st11 ?_
  show own_E _ _ _ _ _ _ _ (T11.setTop (mkF m 4 #[.val (.ref a), .val (.ref em), .val .null] []))
  refine own_go (fun _ k => XS.aloadN X11.here hx rfl (hb hby d5_4) rfl rfl k) ?_
  show own_E _ _ _ _ _ _ _ (T11.setTop (mkF m 5 #[.val (.ref a), .val (.ref em), .val .null] [(.ref a)]))
  refine own_go (fun _ k => XS.aloadN X11.here hx rfl (hb hby d5_5) rfl rfl k) ?_
  show own_E _ _ _ _ _ _ _ (T11.setTop (mkF m 6 #[.val (.ref a), .val (.ref em), .val .null] [(.ref em), (.ref a)]))
  obtain ⟨T12, h12, X12, e12, W12, st12⟩ := putF X11 hx hZ hown (host := "") (Or.inl (hw _ (List.mem_of_getElem? (i := 28) rfl))) Via.refl e11 F E (Or.inr ⟨(hw _ (List.mem_of_getElem? (i := 29) rfl)), rfl, hnm⟩) (hw _ (List.mem_of_getElem? (i := 6) rfl)) (ty := (.object "java/util/Map")) (by decide +kernel) rfl rfl (g := (mkF m 6 #[.val (.ref a), .val (.ref em), .val .null] [(.ref em), (.ref a)])) rfl rfl (hb hby d5_6)
  have f12_0 := F.same W12
  have f12_1 := G.other W12 (Or.inr (slot_ne (Or.inr (hw _ (List.mem_of_getElem? (i := 31) rfl))) (Or.inr (hw _ (List.mem_of_getElem? (i := 29) rfl))) (by decide) (t := (.array .byte)) (t' := (.object "java/util/Map")) (by decide +kernel) (by decide +kernel)))
  have f12_2 := E.wr W12
  have Z12 : n0 ≤ h12.size := by rw [W12.size]; exact Z0
  have N12 := Fr.snoc X12 N0 ga
  have K12 := KK.wr W12 (Or.inl (by simp))
  refine own_go st12 ?_
  show own_E _ _ _ _ _ _ _ (T12.setTop (mkF m 9 #[.val (.ref a), .val (.ref em), .val .null] []))
  refine own_go (fun _ k => XS.aloadN X12.here hx rfl (hb hby d5_9) rfl rfl k) ?_
  show own_E _ _ _ _ _ _ _ (T12.setTop (mkF m 10 #[.val (.ref a), .val (.ref em), .val .null] [(.ref a)]))
  refine own_go (fun _ k => XS.aloadN X12.here hx rfl (hb hby d5_10) rfl rfl k) ?_
  show own_E _ _ _ _ _ _ _ (T12.setTop (mkF m 11 #[.val (.ref a), .val (.ref em), .val .null] [.null, (.ref a)]))
  obtain ⟨T13, h13, X13, e13, W13, st13⟩ := putF X12 hx hZ hown (host := "") (Or.inl (hw _ (List.mem_of_getElem? (i := 30) rfl))) Via.refl e12 f12_1 f12_2 (Or.inr ⟨(hw _ (List.mem_of_getElem? (i := 31) rfl)), rfl, hnm⟩) (hw _ (List.mem_of_getElem? (i := 6) rfl)) (ty := (.array .byte)) (by decide +kernel) rfl rfl (g := (mkF m 11 #[.val (.ref a), .val (.ref em), .val .null] [.null, (.ref a)])) rfl rfl (hb hby d5_11)
  have f13_0 := f12_0.other W13 (Or.inr (slot_ne (Or.inr (hw _ (List.mem_of_getElem? (i := 29) rfl))) (Or.inr (hw _ (List.mem_of_getElem? (i := 31) rfl))) (by decide) (t := (.object "java/util/Map")) (t' := (.array .byte)) (by decide +kernel) (by decide +kernel)))
  have f13_1 := f12_1.same W13
  have f13_2 := f12_2.wr W13
  have Z13 : n0 ≤ h13.size := by rw [W13.size]; exact Z12
  have N13 := Fr.snoc X13 N12 ga
  have K13 := K12.wr W13 (Or.inl (by simp))
  refine own_go st13 ?_
  show own_E _ _ _ _ _ _ _ (T13.setTop (mkF m 14 #[.val (.ref a), .val (.ref em), .val .null] []))
  exact own_ret0 X13 hx Bd.returns Bd.notSynchronized (hb hby d5_14) (by rw [e13]; exact ⟨rfl, N13, K13, f13_2, f13_0, f13_1⟩) (by decide) (by decide)
def QrmCR (a : Addr) (em : Addr) (kc : Addr) (Z : State) (h0 : Heap) (n0 : Nat) (v : Option Value) (h : Heap) (L : List Loc) : Prop := v = none ∧ Fr n0 L ∧ Keep h0 h [a] ∧ Exa Z h a "com/example/arborkey/arborkey/DecryptionMaterials" ∧ Fld Z h a "com/example/arborkey/arborkey/DecryptionMaterials" "encryptionContext" "Ljava/util/Map;" (.ref em) ∧ Fld Z h a "com/example/arborkey/arborkey/DecryptionMaterials" "dataKey" "[B" (.ref kc)
set_option maxRecDepth 65536 in
set_option maxHeartbeats 40000000 in
theorem rmCR (l : Launch) (Z : State) (a0 : Array Value) (hw : ∀ d ∈ tables_1, d.before a0 Z = true) (a : Addr) (em : Addr) (kc : Addr) (h0 : Heap) (n0 : Nat) (Z0 : n0 ≤ h0.size) (E : Exa Z h0 a "com/example/arborkey/arborkey/DecryptionMaterials") (F : Fld Z h0 a "com/example/arborkey/arborkey/DecryptionMaterials" "encryptionContext" "Ljava/util/Map;" .null) (G : Fld Z h0 a "com/example/arborkey/arborkey/DecryptionMaterials" "dataKey" "[B" .null) (ga : n0 ≤ a) :
    MetFree l (⟨"com/example/arborkey/arborkey/DecryptionMaterials", "<init>", "(Ljava/util/Map;[B)V"⟩ : MethodName) (head1 (Jvm.Cond.code (⟨"com/example/arborkey/arborkey/DecryptionMaterials", "<init>", "(Ljava/util/Map;[B)V"⟩ : MethodName) prog_31_method_2_code 3 none :: []) ({ frames := 1, cells := 0, slots := 0, locals := 12 } : Room)) (fun ar_ U => ar_ = #[(.ref a), (.ref em), (.ref kc)] ∧ Z.Warmed39 U.vm ∧ U.heap = h0) (fun _ _ _ _ _ => True) (fun _ U o U' => ∃ v L, o = .returned v ∧ QrmCR a em kc Z h0 n0 v U'.heap L ∧ FrameEnd U o U' L ({ frames := 1, cells := 0, slots := 0, locals := 12 } : Room).cells ({ frames := 1, cells := 0, slots := 0, locals := 12 } : Room).slots) := by
  refine MetFree.of_bodySF (plainFor_of_name (by first | (simp [plainName, overriddenIn]; done) | decide +kernel)) hisR ?_
  intro p e s m args below meth c s₁ Bd hml0 hP hK
  obtain ⟨rfl, hZ, hh⟩ := hP
  have hx := Bd.exec
  have hby := Bd.bytes
  have hml : c.maxLocals = 3 := hml0
  have hown : s.vm.findClass "com/example/arborkey/arborkey/DecryptionMaterials" = some m.cls := findClass_of_methodNamed Bd.named
  have hnm := (name_of_methodNamed Bd.named Bd.method).1
  have X0 : Stand p l e ({ frames := 1, cells := 0, slots := 0, locals := 12 } : Room) s m #[(.ref a), (.ref em), (.ref kc)] below meth c s₁ [] 0 0 := Stand.of_body Bd
  have e0 : s₁.heap = h0 := by rw [← hh, Bd.state]; rfl
  have N0 := Fr.nil n0
  show own_E p e below s (QrmCR a em kc Z h0 n0) ({ frames := 1, cells := 0, slots := 0, locals := 12 } : Room).cells ({ frames := 1, cells := 0, slots := 0, locals := 12 } : Room).slots (s₁.setTop (entryFrame m #[(.ref a), (.ref em), (.ref kc)] 3))
  refine own_go (fun t k => castTop (show _ = (mkF m 0 #[.val (.ref a), .val (.ref em), .val (.ref kc)] []) from by first | (simp [entryFrame, mkF, argsToLocals, Value.category]; done) | rfl) k) ?_
  show own_E _ _ _ _ _ _ _ (s₁.setTop (mkF m 0 #[.val (.ref a), .val (.ref em), .val (.ref kc)] []))
  have KK := Keep.refl h0 [a]
  refine own_go (fun _ k => XS.aloadN X0.here hx rfl (hb hby d5_0) rfl rfl k) ?_
  show own_E _ _ _ _ _ _ _ (s₁.setTop (mkF m 1 #[.val (.ref a), .val (.ref em), .val (.ref kc)] [(.ref a)]))
  obtain ⟨T11, X11, e11, st11⟩ := initO X0 hx hZ hown (hw _ (List.mem_of_getElem? (i := 25) rfl)) (hw _ (List.mem_of_getElem? (i := 26) rfl)) (hw _ (List.mem_of_getElem? (i := 27) rfl)) e0 (g := (mkF m 1 #[.val (.ref a), .val (.ref em), .val (.ref kc)] [(.ref a)])) rfl (by rw [hml]; rfl) rfl (hb hby d5_1) (by decide) (W := 0) (Nat.le_of_ble_eq_true rfl) (by decide)
  refine own_go st11 ?_
  show own_E _ _ _ _ _ _ _ (T11.setTop (mkF m 4 #[.val (.ref a), .val (.ref em), .val (.ref kc)] []))
  refine own_go (fun _ k => XS.aloadN X11.here hx rfl (hb hby d5_4) rfl rfl k) ?_
  show own_E _ _ _ _ _ _ _ (T11.setTop (mkF m 5 #[.val (.ref a), .val (.ref em), .val (.ref kc)] [(.ref a)]))
  refine own_go (fun _ k => XS.aloadN X11.here hx rfl (hb hby d5_5) rfl rfl k) ?_
  show own_E _ _ _ _ _ _ _ (T11.setTop (mkF m 6 #[.val (.ref a), .val (.ref em), .val (.ref kc)] [(.ref em), (.ref a)]))
  obtain ⟨T12, h12, X12, e12, W12, st12⟩ := putF X11 hx hZ hown (host := "") (Or.inl (hw _ (List.mem_of_getElem? (i := 28) rfl))) Via.refl e11 F E (Or.inr ⟨(hw _ (List.mem_of_getElem? (i := 29) rfl)), rfl, hnm⟩) (hw _ (List.mem_of_getElem? (i := 6) rfl)) (ty := (.object "java/util/Map")) (by decide +kernel) rfl rfl (g := (mkF m 6 #[.val (.ref a), .val (.ref em), .val (.ref kc)] [(.ref em), (.ref a)])) rfl rfl (hb hby d5_6)
  have f12_0 := F.same W12
  have f12_1 := G.other W12 (Or.inr (slot_ne (Or.inr (hw _ (List.mem_of_getElem? (i := 31) rfl))) (Or.inr (hw _ (List.mem_of_getElem? (i := 29) rfl))) (by decide) (t := (.array .byte)) (t' := (.object "java/util/Map")) (by decide +kernel) (by decide +kernel)))
  have f12_2 := E.wr W12
  have Z12 : n0 ≤ h12.size := by rw [W12.size]; exact Z0
  have N12 := Fr.snoc X12 N0 ga
  have K12 := KK.wr W12 (Or.inl (by simp))
  refine own_go st12 ?_
  show own_E _ _ _ _ _ _ _ (T12.setTop (mkF m 9 #[.val (.ref a), .val (.ref em), .val (.ref kc)] []))
  refine own_go (fun _ k => XS.aloadN X12.here hx rfl (hb hby d5_9) rfl rfl k) ?_
  show own_E _ _ _ _ _ _ _ (T12.setTop (mkF m 10 #[.val (.ref a), .val (.ref em), .val (.ref kc)] [(.ref a)]))
  refine own_go (fun _ k => XS.aloadN X12.here hx rfl (hb hby d5_10) rfl rfl k) ?_
  show own_E _ _ _ _ _ _ _ (T12.setTop (mkF m 11 #[.val (.ref a), .val (.ref em), .val (.ref kc)] [(.ref kc), (.ref a)]))
  obtain ⟨T13, h13, X13, e13, W13, st13⟩ := putF X12 hx hZ hown (host := "") (Or.inl (hw _ (List.mem_of_getElem? (i := 30) rfl))) Via.refl e12 f12_1 f12_2 (Or.inr ⟨(hw _ (List.mem_of_getElem? (i := 31) rfl)), rfl, hnm⟩) (hw _ (List.mem_of_getElem? (i := 6) rfl)) (ty := (.array .byte)) (by decide +kernel) rfl rfl (g := (mkF m 11 #[.val (.ref a), .val (.ref em), .val (.ref kc)] [(.ref kc), (.ref a)])) rfl rfl (hb hby d5_11)
  have f13_0 := f12_0.other W13 (Or.inr (slot_ne (Or.inr (hw _ (List.mem_of_getElem? (i := 29) rfl))) (Or.inr (hw _ (List.mem_of_getElem? (i := 31) rfl))) (by decide) (t := (.object "java/util/Map")) (t' := (.array .byte)) (by decide +kernel) (by decide +kernel)))
  have f13_1 := f12_1.same W13
  have f13_2 := f12_2.wr W13
  have Z13 : n0 ≤ h13.size := by rw [W13.size]; exact Z12
  have N13 := Fr.snoc X13 N12 ga
  have K13 := K12.wr W13 (Or.inl (by simp))
  refine own_go st13 ?_
  show own_E _ _ _ _ _ _ _ (T13.setTop (mkF m 14 #[.val (.ref a), .val (.ref em), .val (.ref kc)] []))
  exact own_ret0 X13 hx Bd.returns Bd.notSynchronized (hb hby d5_14) (by rw [e13]; exact ⟨rfl, N13, K13, f13_2, f13_0, f13_1⟩) (by decide) (by decide)
theorem d3_0 : decode prog_31_method_1_code 0 = .ok (.aload_n 0, 1) := by decide +kernel
theorem d3_1 : decode prog_31_method_1_code 1 = .ok (.aload_n 1, 1) := by decide +kernel
theorem d3_2 : decode prog_31_method_1_code 2 = .ok (.invokestatic 1, 3) := by decide +kernel
theorem d3_5 : decode prog_31_method_1_code 5 = .ok (.aconst_null, 1) := by decide +kernel
theorem d3_6 : decode prog_31_method_1_code 6 = .ok (.invokespecial 7, 3) := by decide +kernel
theorem d3_9 : decode prog_31_method_1_code 9 = .ok (.return_, 1) := by decide +kernel
def Qrm3 (a : Addr) (em : Addr) (Z : State) (h0 : Heap) (n0 : Nat) (v : Option Value) (h : Heap) (L : List Loc) : Prop := v = none ∧ Fr n0 L ∧ Keep h0 h [a] ∧ Exa Z h a "com/example/arborkey/arborkey/DecryptionMaterials" ∧ Fld Z h a "com/example/arborkey/arborkey/DecryptionMaterials" "encryptionContext" "Ljava/util/Map;" (.ref em) ∧ Fld Z h a "com/example/arborkey/arborkey/DecryptionMaterials" "dataKey" "[B" .null
set_option maxRecDepth 65536 in
set_option maxHeartbeats 40000000 in
theorem rm3 (l : Launch) (Z : State) (a0 : Array Value) (hw : ∀ d ∈ tables_1, d.before a0 Z = true) (a : Addr) (em : Addr) (h0 : Heap) (n0 : Nat) (Z0 : n0 ≤ h0.size) (E : Exa Z h0 a "com/example/arborkey/arborkey/DecryptionMaterials") (F : Fld Z h0 a "com/example/arborkey/arborkey/DecryptionMaterials" "encryptionContext" "Ljava/util/Map;" .null) (G : Fld Z h0 a "com/example/arborkey/arborkey/DecryptionMaterials" "dataKey" "[B" .null) (ga : n0 ≤ a) (EM : Exa Z h0 em "java/util/ImmutableCollections$MapN") :
    MetFree l (⟨"com/example/arborkey/arborkey/DecryptionMaterials", "<init>", "(Ljava/util/Map;)V"⟩ : MethodName) (head1 (Jvm.Cond.code (⟨"com/example/arborkey/arborkey/DecryptionMaterials", "<init>", "(Ljava/util/Map;)V"⟩ : MethodName) prog_31_method_1_code 2 none :: []) ({ frames := 2, cells := 0, slots := 0, locals := 28 } : Room)) (fun ar_ U => ar_ = #[(.ref a), (.ref em)] ∧ Z.Warmed39 U.vm ∧ U.heap = h0) (fun _ _ _ _ _ => True) (fun _ U o U' => ∃ v L, o = .returned v ∧ Qrm3 a em Z h0 n0 v U'.heap L ∧ FrameEnd U o U' L ({ frames := 2, cells := 0, slots := 0, locals := 28 } : Room).cells ({ frames := 2, cells := 0, slots := 0, locals := 28 } : Room).slots) := by
  refine MetFree.of_bodySF (plainFor_of_name (by first | (simp [plainName, overriddenIn]; done) | decide +kernel)) hisR ?_
  intro p e s m args below meth c s₁ Bd hml0 hP hK
  obtain ⟨rfl, hZ, hh⟩ := hP
  have hx := Bd.exec
  have hby := Bd.bytes
  have hml : c.maxLocals = 2 := hml0
  have hown : s.vm.findClass "com/example/arborkey/arborkey/DecryptionMaterials" = some m.cls := findClass_of_methodNamed Bd.named
  have hnm := (name_of_methodNamed Bd.named Bd.method).1
  have X0 : Stand p l e ({ frames := 2, cells := 0, slots := 0, locals := 28 } : Room) s m #[(.ref a), (.ref em)] below meth c s₁ [] 0 0 := Stand.of_body Bd
  have e0 : s₁.heap = h0 := by rw [← hh, Bd.state]; rfl
  have N0 := Fr.nil n0
  show own_E p e below s (Qrm3 a em Z h0 n0) ({ frames := 2, cells := 0, slots := 0, locals := 28 } : Room).cells ({ frames := 2, cells := 0, slots := 0, locals := 28 } : Room).slots (s₁.setTop (entryFrame m #[(.ref a), (.ref em)] 2))
  refine own_go (fun t k => castTop (show _ = (mkF m 0 #[.val (.ref a), .val (.ref em)] []) from by first | (simp [entryFrame, mkF, argsToLocals, Value.category]; done) | rfl) k) ?_
  show own_E _ _ _ _ _ _ _ (s₁.setTop (mkF m 0 #[.val (.ref a), .val (.ref em)] []))
  refine own_go (fun _ k => XS.aloadN X0.here hx rfl (hb hby d3_0) rfl rfl k) ?_
  show own_E _ _ _ _ _ _ _ (s₁.setTop (mkF m 1 #[.val (.ref a), .val (.ref em)] [(.ref a)]))
  refine own_go (fun _ k => XS.aloadN X0.here hx rfl (hb hby d3_1) rfl rfl k) ?_
  show own_E _ _ _ _ _ _ _ (s₁.setTop (mkF m 2 #[.val (.ref a), .val (.ref em)] [(.ref em), (.ref a)]))
  obtain ⟨v11, T11, L11, X11, hQ11, st11⟩ := own_callS X0 hx hZ (rm := ({ frames := 0, cells := 0, slots := 0, locals := 0 } : Room)) (W := 1) (argsL := [(.ref em)]) (rest := [(.ref a)]) (y := (⟨"java/util/Map", "copyOf", "(Ljava/util/Map;)Ljava/util/Map;"⟩ : MethodName)) hown (hw _ (List.mem_of_getElem? (i := 17) rfl)) (hw _ (List.mem_of_getElem? (i := 18) rfl)) (hw _ (List.mem_of_getElem? (i := 10) rfl)) (hw _ (List.mem_of_getElem? (i := 19) rfl)) (by decide) (rm4 l Z a0 hw em h0 n0 Z0 EM) e0 (by decide) (by decide) (by decide) (by decide) (g := (mkF m 2 #[.val (.ref a), .val (.ref em)] [(.ref em), (.ref a)])) rfl (by rw [hml]; rfl) (lenOf pd_0 rfl) rfl (Nat.le_of_ble_eq_true rfl) (hb hby d3_2)
  obtain ⟨rfl, N11, e11⟩ := hQ11
  refine own_go st11 ?_
  show own_E _ _ _ _ _ _ _ (T11.setTop (mkF m 5 #[.val (.ref a), .val (.ref em)] [(.ref em), (.ref a)]))
  have M11 := Fr.app N0 N11
  refine own_go (fun _ k => XS.aconstNull X11.here hx rfl (hb hby d3_5) k) ?_
  show own_E _ _ _ _ _ _ _ (T11.setTop (mkF m 6 #[.val (.ref a), .val (.ref em)] [.null, (.ref em), (.ref a)]))
  obtain ⟨v12, T12, L12, X12, hQ12, st12⟩ := own_callI X11 hx hZ (rm := ({ frames := 1, cells := 0, slots := 0, locals := 12 } : Room)) (W := 0) (b := a) (argsL := [(.ref em), .null]) (rest := []) (y := (⟨"com/example/arborkey/arborkey/DecryptionMaterials", "<init>", "(Ljava/util/Map;[B)V"⟩ : MethodName)) hown rfl (hw _ (List.mem_of_getElem? (i := 22) rfl)) (hw _ (List.mem_of_getElem? (i := 23) rfl)) (hw _ (List.mem_of_getElem? (i := 7) rfl)) (hw _ (List.mem_of_getElem? (i := 24) rfl)) (by decide) (rmCN l Z a0 hw a em h0 n0 Z0 E F G ga) e11 (by decide) (by decide) (by decide) (by decide) (g := (mkF m 6 #[.val (.ref a), .val (.ref em)] [.null, (.ref em), (.ref a)])) rfl (by rw [hml]; rfl) (lenOf pd_1 rfl) rfl (Nat.le_of_ble_eq_true rfl) (hb hby d3_6)
  obtain ⟨rfl, N12, RR⟩ := hQ12
  refine own_go st12 ?_
  show own_E _ _ _ _ _ _ _ (T12.setTop (mkF m 9 #[.val (.ref a), .val (.ref em)] []))
  have e12 : T12.heap = T12.heap := rfl
  exact own_ret0 X12 hx Bd.returns Bd.notSynchronized (hb hby d3_9) (by rw [e12]; exact ⟨rfl, Fr.app M11 N12, RR⟩) (by decide) (by decide)
theorem d7_0 : decode prog_31_method_4_code 0 = .ok (.aload_n 0, 1) := by decide +kernel
theorem d7_1 : decode prog_31_method_4_code 1 = .ok (.getfield 22, 3) := by decide +kernel
theorem d7_4 : decode prog_31_method_4_code 4 = .ok (.ifnonnull 7, 3) := by decide +kernel
theorem d7_7 : decode prog_31_method_4_code 7 = .ok (.aconst_null, 1) := by decide +kernel
theorem d7_8 : decode prog_31_method_4_code 8 = .ok (.goto 13, 3) := by decide +kernel
theorem d7_11 : decode prog_31_method_4_code 11 = .ok (.aload_n 0, 1) := by decide +kernel
theorem d7_12 : decode prog_31_method_4_code 12 = .ok (.getfield 22, 3) := by decide +kernel
theorem d7_15 : decode prog_31_method_4_code 15 = .ok (.invokevirtual 26, 3) := by decide +kernel
theorem d7_18 : decode prog_31_method_4_code 18 = .ok (.checkcast 27, 3) := by decide +kernel
theorem d7_21 : decode prog_31_method_4_code 21 = .ok (.areturn, 1) := by decide +kernel
def QrmDN (a : Addr) (Z : State) (h0 : Heap) (n0 : Nat) (v : Option Value) (h : Heap) (L : List Loc) : Prop := v = some .null ∧ Fr n0 L ∧ h = h0
set_option maxRecDepth 65536 in
set_option maxHeartbeats 40000000 in
theorem rmDN (l : Launch) (Z : State) (a0 : Array Value) (hw : ∀ d ∈ tables_1, d.before a0 Z = true) (a : Addr) (h0 : Heap) (n0 : Nat) (Z0 : n0 ≤ h0.size) (F : Fld Z h0 a "com/example/arborkey/arborkey/DecryptionMaterials" "dataKey" "[B" .null) :
    MetFree l (⟨"com/example/arborkey/arborkey/DecryptionMaterials", "dataKey", "()[B"⟩ : MethodName) (head1 (Jvm.Cond.code (⟨"com/example/arborkey/arborkey/DecryptionMaterials", "dataKey", "()[B"⟩ : MethodName) prog_31_method_4_code 1 (some (.array .byte)) :: []) ({ frames := 1, cells := 1, slots := 3, locals := 14 } : Room)) (fun ar_ U => ar_ = #[(.ref a)] ∧ Z.Warmed39 U.vm ∧ U.heap = h0) (fun _ _ _ _ _ => True) (fun _ U o U' => ∃ v L, o = .returned v ∧ QrmDN a Z h0 n0 v U'.heap L ∧ FrameEnd U o U' L ({ frames := 1, cells := 1, slots := 3, locals := 14 } : Room).cells ({ frames := 1, cells := 1, slots := 3, locals := 14 } : Room).slots) := by
  refine MetFree.of_bodySF (plainFor_of_name (by first | (simp [plainName, overriddenIn]; done) | decide +kernel)) hisR ?_
  intro p e s m args below meth c s₁ Bd hml0 hP hK
  obtain ⟨rfl, hZ, hh⟩ := hP
  have hx := Bd.exec
  have hby := Bd.bytes
  have hml : c.maxLocals = 1 := hml0
  have hown : s.vm.findClass "com/example/arborkey/arborkey/DecryptionMaterials" = some m.cls := findClass_of_methodNamed Bd.named
  have hnm := (name_of_methodNamed Bd.named Bd.method).1
  have X0 : Stand p l e ({ frames := 1, cells := 1, slots := 3, locals := 14 } : Room) s m #[(.ref a)] below meth c s₁ [] 0 0 := Stand.of_body Bd
  have e0 : s₁.heap = h0 := by rw [← hh, Bd.state]; rfl
  have N0 := Fr.nil n0
  show own_E p e below s (QrmDN a Z h0 n0) ({ frames := 1, cells := 1, slots := 3, locals := 14 } : Room).cells ({ frames := 1, cells := 1, slots := 3, locals := 14 } : Room).slots (s₁.setTop (entryFrame m #[(.ref a)] 1))
  refine own_go (fun t k => castTop (show _ = (mkF m 0 #[.val (.ref a)] []) from by first | (simp [entryFrame, mkF, argsToLocals, Value.category]; done) | rfl) k) ?_
  show own_E _ _ _ _ _ _ _ (s₁.setTop (mkF m 0 #[.val (.ref a)] []))
  refine own_go (fun _ k => XS.aloadN X0.here hx rfl (hb hby d7_0) rfl rfl k) ?_
  show own_E _ _ _ _ _ _ _ (s₁.setTop (mkF m 1 #[.val (.ref a)] [(.ref a)]))
  obtain ⟨T1, X1, e1, st1⟩ := getF X0 hx hZ hown (host := "") (Or.inl (hw _ (List.mem_of_getElem? (i := 30) rfl))) Via.refl e0 F (g := (mkF m 1 #[.val (.ref a)] [(.ref a)])) rfl rfl (hb hby d7_1)
  refine own_go st1 ?_
  show own_E _ _ _ _ _ _ _ (T1.setTop (mkF m 4 #[.val (.ref a)] [.null]))
  refine own_go (fun _ k => XT.ifnonnullNo X1.here hx rfl (hb hby d7_4) rfl k) ?_
  show own_E _ _ _ _ _ _ _ (T1.setTop (mkF m 7 #[.val (.ref a)] []))
  refine own_go (fun _ k => XS.aconstNull X1.here hx rfl (hb hby d7_7) k) ?_
  show own_E _ _ _ _ _ _ _ (T1.setTop (mkF m 8 #[.val (.ref a)] [.null]))
  refine own_go (fun _ k => XS.goto X1.here hx rfl (pc0 := 8) (pc' := 21) rfl (hb hby d7_8) (by decide) (by decide) k) ?_
  show own_E _ _ _ _ _ _ _ (T1.setTop (mkF m 21 #[.val (.ref a)] [.null]))
  exact own_ret X1 hx Bd.returns Bd.notSynchronized rfl (Or.inr (Or.inr (Or.inr (Or.inr ⟨rfl, rfl, rfl⟩)))) (hb hby d7_21) (by rw [e1]; exact ⟨rfl, N0, rfl⟩) (by decide) (by decide)
def QrmDK (a : Addr) (kc : Addr) (kA : ClassId) (z : Int32) (b0 : Int32) (b1 : Int32) (b2 : Int32) (Z : State) (h0 : Heap) (n0 : Nat) (v : Option Value) (h : Heap) (L : List Loc) : Prop := Fr n0 L ∧ Ext h0 h ∧ ∃ d, v = some (.ref d) ∧ Arv Z h d kA .byte z [.int b0, .int b1, .int b2] (.int 0) ∧ Exa Z h d "[B" ∧ h0.size ≤ d
set_option maxRecDepth 65536 in
set_option maxHeartbeats 40000000 in
theorem rmDK (l : Launch) (Z : State) (a0 : Array Value) (hw : ∀ d ∈ tables_1, d.before a0 Z = true) (a : Addr) (kc : Addr) (kA : ClassId) (z : Int32) (b0 : Int32) (b1 : Int32) (b2 : Int32) (h0 : Heap) (n0 : Nat) (Z0 : n0 ≤ h0.size) (hz : z.toNatClampNeg ≤ 3) (F : Fld Z h0 a "com/example/arborkey/arborkey/DecryptionMaterials" "dataKey" "[B" (.ref kc)) (V : Arv Z h0 kc kA .byte z [.int b0, .int b1, .int b2] (.int 0)) (EV : Exa Z h0 kc "[B") :
    MetFree l (⟨"com/example/arborkey/arborkey/DecryptionMaterials", "dataKey", "()[B"⟩ : MethodName) (head1 (Jvm.Cond.code (⟨"com/example/arborkey/arborkey/DecryptionMaterials", "dataKey", "()[B"⟩ : MethodName) prog_31_method_4_code 1 (some (.array .byte)) :: []) ({ frames := 1, cells := 1, slots := 3, locals := 14 } : Room)) (fun ar_ U => ar_ = #[(.ref a)] ∧ Z.Warmed39 U.vm ∧ U.heap = h0) (fun _ _ _ _ _ => True) (fun _ U o U' => ∃ v L, o = .returned v ∧ QrmDK a kc kA z b0 b1 b2 Z h0 n0 v U'.heap L ∧ FrameEnd U o U' L ({ frames := 1, cells := 1, slots := 3, locals := 14 } : Room).cells ({ frames := 1, cells := 1, slots := 3, locals := 14 } : Room).slots) := by
  refine MetFree.of_bodySF (plainFor_of_name (by first | (simp [plainName, overriddenIn]; done) | decide +kernel)) hisR ?_
  intro p e s m args below meth c s₁ Bd hml0 hP hK
  obtain ⟨rfl, hZ, hh⟩ := hP
  have hx := Bd.exec
  have hby := Bd.bytes
  have hml : c.maxLocals = 1 := hml0
  have hown : s.vm.findClass "com/example/arborkey/arborkey/DecryptionMaterials" = some m.cls := findClass_of_methodNamed Bd.named
  have hnm := (name_of_methodNamed Bd.named Bd.method).1
  have X0 : Stand p l e ({ frames := 1, cells := 1, slots := 3, locals := 14 } : Room) s m #[(.ref a)] below meth c s₁ [] 0 0 := Stand.of_body Bd
  have e0 : s₁.heap = h0 := by rw [← hh, Bd.state]; rfl
  have N0 := Fr.nil n0
  show own_E p e below s (QrmDK a kc kA z b0 b1 b2 Z h0 n0) ({ frames := 1, cells := 1, slots := 3, locals := 14 } : Room).cells ({ frames := 1, cells := 1, slots := 3, locals := 14 } : Room).slots (s₁.setTop (entryFrame m #[(.ref a)] 1))
  refine own_go (fun t k => castTop (show _ = (mkF m 0 #[.val (.ref a)] []) from by first | (simp [entryFrame, mkF, argsToLocals, Value.category]; done) | rfl) k) ?_
  show own_E _ _ _ _ _ _ _ (s₁.setTop (mkF m 0 #[.val (.ref a)] []))
  refine own_go (fun _ k => XS.aloadN X0.here hx rfl (hb hby d7_0) rfl rfl k) ?_
  show own_E _ _ _ _ _ _ _ (s₁.setTop (mkF m 1 #[.val (.ref a)] [(.ref a)]))
  obtain ⟨T11, X11, e11, st11⟩ := getF X0 hx hZ hown (host := "") (Or.inl (hw _ (List.mem_of_getElem? (i := 30) rfl))) Via.refl e0 F (g := (mkF m 1 #[.val (.ref a)] [(.ref a)])) rfl rfl (hb hby d7_1)
  refine own_go st11 ?_
  show own_E _ _ _ _ _ _ _ (T11.setTop (mkF m 4 #[.val (.ref a)] [(.ref kc)]))
  refine own_go (fun _ k => XT.ifnonnullYes X11.here hx rfl (pc0 := 4) (pc' := 11) rfl (hb hby d7_4) rfl (by decide) (by decide) k) ?_
  show own_E _ _ _ _ _ _ _ (T11.setTop (mkF m 11 #[.val (.ref a)] []))
  refine own_go (fun _ k => XS.aloadN X11.here hx rfl (hb hby d7_11) rfl rfl k) ?_
  show own_E _ _ _ _ _ _ _ (T11.setTop (mkF m 12 #[.val (.ref a)] [(.ref a)]))
  obtain ⟨T12, X12, e12, st12⟩ := getF X11 hx hZ hown (host := "") (Or.inl (hw _ (List.mem_of_getElem? (i := 30) rfl))) Via.refl e11 F (g := (mkF m 12 #[.val (.ref a)] [(.ref a)])) rfl rfl (hb hby d7_12)
  refine own_go st12 ?_
  show own_E _ _ _ _ _ _ _ (T12.setTop (mkF m 15 #[.val (.ref a)] [(.ref kc)]))
  obtain ⟨T13, h13, X13, e13, E13, v13, B13, st13⟩ := own_clone X12 hx hZ hown (hw _ (List.mem_of_getElem? (i := 43) rfl)) (hw _ (List.mem_of_getElem? (i := 44) rfl)) (hw _ (List.mem_of_getElem? (i := 48) rfl)) (hw _ (List.mem_of_getElem? (i := 46) rfl)) (hw _ (List.mem_of_getElem? (i := 47) rfl)) (hw _ (List.mem_of_getElem? (i := 49) rfl)) e12 V EV (g := (mkF m 15 #[.val (.ref a)] [(.ref kc)])) rfl (by rw [hml]; rfl) rfl (hb hby d7_15) (by decide) (W := 0) (cap := 3) (Nat.le_of_ble_eq_true rfl) (by decide) hz (by decide) (by decide)
  obtain ⟨d, g13⟩ : ∃ z, z = h0.size := ⟨_, rfl⟩
  rw [← g13] at v13 B13 st13
  have ne13_1 : a ≠ d := by rw [g13]; exact Nat.ne_of_lt F.lt
  have ne13_2 : kc ≠ d := by rw [g13]; exact Nat.ne_of_lt V.lt
  have w13 : n0 ≤ d := by rw [g13]; exact Z0
  have f13_0 := F.ext E13
  have f13_1 := V.ext E13
  have f13_2 := EV.ext E13
  have Z13 := Nat.le_trans Z0 E13.1
  refine own_go st13 ?_
  show own_E _ _ _ _ _ _ _ (T13.setTop (mkF m 18 #[.val (.ref a)] [(.ref d)]))
  obtain ⟨T14, X14, e14, st14⟩ := castY X13 hx hZ hown (hw _ (List.mem_of_getElem? (i := 50) rfl)) e13 (Ins.self B13) (g := (mkF m 18 #[.val (.ref a)] [(.ref d)])) rfl rfl (hb hby d7_18)
  refine own_go st14 ?_
  show own_E _ _ _ _ _ _ _ (T14.setTop (mkF m 21 #[.val (.ref a)] [(.ref d)]))
  exact own_ret X14 hx Bd.returns Bd.notSynchronized rfl (Or.inr (Or.inr (Or.inr (Or.inr ⟨rfl, rfl, rfl⟩)))) (hb hby d7_21) (by rw [e14]; exact ⟨N0, E13, _, rfl, v13, B13, Nat.le_of_eq g13.symm⟩) (by decide) (by decide)
theorem d8_0 : decode prog_31_method_6_code 0 = .ok (.new 8, 3) := by decide +kernel
theorem d8_3 : decode prog_31_method_6_code 3 = .ok (.dup, 1) := by decide +kernel
theorem d8_4 : decode prog_31_method_6_code 4 = .ok (.aload_n 0, 1) := by decide +kernel
theorem d8_5 : decode prog_31_method_6_code 5 = .ok (.getfield 18, 3) := by decide +kernel
theorem d8_8 : decode prog_31_method_6_code 8 = .ok (.aload_n 1, 1) := by decide +kernel
theorem d8_9 : decode prog_31_method_6_code 9 = .ok (.invokevirtual 26, 3) := by decide +kernel
theorem d8_12 : decode prog_31_method_6_code 12 = .ok (.checkcast 27, 3) := by decide +kernel
theorem d8_15 : decode prog_31_method_6_code 15 = .ok (.invokespecial 7, 3) := by decide +kernel
theorem d8_18 : decode prog_31_method_6_code 18 = .ok (.areturn, 1) := by decide +kernel
def Qrm8 (a : Addr) (ar : Addr) (kA : ClassId) (z : Int32) (b0 : Int32) (b1 : Int32) (b2 : Int32) (em : Addr) (Z : State) (h0 : Heap) (n0 : Nat) (v : Option Value) (h : Heap) (L : List Loc) : Prop := Fr n0 L ∧ Keep h0 h [] ∧ ∃ x c, v = some (.ref x) ∧ h0.size ≤ x ∧ h0.size ≤ c ∧ x ≠ c ∧ Exa Z h x "com/example/arborkey/arborkey/DecryptionMaterials" ∧ Fld Z h x "com/example/arborkey/arborkey/DecryptionMaterials" "encryptionContext" "Ljava/util/Map;" (.ref em) ∧ Fld Z h x "com/example/arborkey/arborkey/DecryptionMaterials" "dataKey" "[B" (.ref c) ∧ Arv Z h c kA .byte z [.int b0, .int b1, .int b2] (.int 0) ∧ Exa Z h c "[B"
set_option maxRecDepth 65536 in
set_option maxHeartbeats 40000000 in
theorem rm8 (l : Launch) (Z : State) (a0 : Array Value) (hw : ∀ d ∈ tables_1, d.before a0 Z = true) (a : Addr) (ar : Addr) (kA : ClassId) (z : Int32) (b0 : Int32) (b1 : Int32) (b2 : Int32) (em : Addr) (h0 : Heap) (n0 : Nat) (Z0 : n0 ≤ h0.size) (hz : z.toNatClampNeg ≤ 3) (F : Fld Z h0 a "com/example/arborkey/arborkey/DecryptionMaterials" "encryptionContext" "Ljava/util/Map;" (.ref em)) (V : Arv Z h0 ar kA .byte z [.int b0, .int b1, .int b2] (.int 0)) (EV : Exa Z h0 ar "[B") :
    MetFree l (⟨"com/example/arborkey/arborkey/DecryptionMaterials", "withDataKey", "([B)Lcom/example/arborkey/arborkey/DecryptionMaterials;"⟩ : MethodName) (head1 (Jvm.Cond.code (⟨"com/example/arborkey/arborkey/DecryptionMaterials", "withDataKey", "([B)Lcom/example/arborkey/arborkey/DecryptionMaterials;"⟩ : MethodName) prog_31_method_6_code 2 (some (.object "com/example/arborkey/arborkey/DecryptionMaterials")) :: []) ({ frames := 2, cells := 2, slots := 5, locals := 32 } : Room)) (fun ar_ U => ar_ = #[(.ref a), (.ref ar)] ∧ Z.Warmed39 U.vm ∧ U.heap = h0) (fun _ _ _ _ _ => True) (fun _ U o U' => ∃ v L, o = .returned v ∧ Qrm8 a ar kA z b0 b1 b2 em Z h0 n0 v U'.heap L ∧ FrameEnd U o U' L ({ frames := 2, cells := 2, slots := 5, locals := 32 } : Room).cells ({ frames := 2, cells := 2, slots := 5, locals := 32 } : Room).slots) := by
  refine MetFree.of_bodySF (plainFor_of_name (by first | (simp [plainName, overriddenIn]; done) | decide +kernel)) hisR ?_
  intro p e s m args below meth c s₁ Bd hml0 hP hK
  obtain ⟨rfl, hZ, hh⟩ := hP
  have hx := Bd.exec
  have hby := Bd.bytes
  have hml : c.maxLocals = 2 := hml0
  have hown : s.vm.findClass "com/example/arborkey/arborkey/DecryptionMaterials" = some m.cls := findClass_of_methodNamed Bd.named
  have hnm := (name_of_methodNamed Bd.named Bd.method).1
  have X0 : Stand p l e ({ frames := 2, cells := 2, slots := 5, locals := 32 } : Room) s m #[(.ref a), (.ref ar)] below meth c s₁ [] 0 0 := Stand.of_body Bd
  have e0 : s₁.heap = h0 := by rw [← hh, Bd.state]; rfl
  have N0 := Fr.nil n0
  show own_E p e below s (Qrm8 a ar kA z b0 b1 b2 em Z h0 n0) ({ frames := 2, cells := 2, slots := 5, locals := 32 } : Room).cells ({ frames := 2, cells := 2, slots := 5, locals := 32 } : Room).slots (s₁.setTop (entryFrame m #[(.ref a), (.ref ar)] 2))
  refine own_go (fun t k => castTop (show _ = (mkF m 0 #[.val (.ref a), .val (.ref ar)] []) from by first | (simp [entryFrame, mkF, argsToLocals, Value.category]; done) | rfl) k) ?_
  show own_E _ _ _ _ _ _ _ (s₁.setTop (mkF m 0 #[.val (.ref a), .val (.ref ar)] []))
  have KK := Keep.refl h0 []
  obtain ⟨T11, h11, X11, e11, E11, A11, D11, -, st11⟩ := newO X0 hx hZ hown (hw _ (List.mem_of_getElem? (i := 42) rfl)) (hw _ (List.mem_of_getElem? (i := 6) rfl)) (hw _ (List.mem_of_getElem? (i := 7) rfl)) e0 (g := (mkF m 0 #[.val (.ref a), .val (.ref ar)] [])) rfl (hb hby d8_0) (by decide) (by decide)
  obtain ⟨ax, g11⟩ : ∃ z, z = h0.size := ⟨_, rfl⟩
  rw [← g11] at A11 D11 st11
  have ne11_1 : a ≠ ax := by rw [g11]; exact Nat.ne_of_lt F.lt
  have ne11_2 : ar ≠ ax := by rw [g11]; exact Nat.ne_of_lt V.lt
  have w11 : n0 ≤ ax := by rw [g11]; exact Z0
  have kz11 : h0.size ≤ ax := by rw [g11]; exact KK.1
  have f11_encryptionContext : Fld Z h11 ax "com/example/arborkey/arborkey/DecryptionMaterials" "encryptionContext" "Ljava/util/Map;" .null := D11 (Or.inr (hw _ (List.mem_of_getElem? (i := 29) rfl))) (ty := (.object "java/util/Map")) (by decide +kernel)
  have f11_dataKey : Fld Z h11 ax "com/example/arborkey/arborkey/DecryptionMaterials" "dataKey" "[B" .null := D11 (Or.inr (hw _ (List.mem_of_getElem? (i := 31) rfl))) (ty := (.array .byte)) (by decide +kernel)
  have f11_0 := F.ext E11
  have f11_1 := V.ext E11
  have f11_2 := EV.ext E11
  have K11 := KK.ext E11
  have Z11 := Nat.le_trans Z0 E11.1
  refine own_go st11 ?_
  show own_E _ _ _ _ _ _ _ (T11.setTop (mkF m 3 #[.val (.ref a), .val (.ref ar)] [(.ref ax)]))
  refine own_go (fun _ k => XS.dup X11.here hx rfl (hb hby d8_3) rfl rfl k) ?_
  show own_E _ _ _ _ _ _ _ (T11.setTop (mkF m 4 #[.val (.ref a), .val (.ref ar)] [(.ref ax), (.ref ax)]))
  refine own_go (fun _ k => XS.aloadN X11.here hx rfl (hb hby d8_4) rfl rfl k) ?_
  show own_E _ _ _ _ _ _ _ (T11.setTop (mkF m 5 #[.val (.ref a), .val (.ref ar)] [(.ref a), (.ref ax), (.ref ax)]))
  obtain ⟨T12, X12, e12, st12⟩ := getF X11 hx hZ hown (host := "") (Or.inl (hw _ (List.mem_of_getElem? (i := 28) rfl))) Via.refl e11 f11_0 (g := (mkF m 5 #[.val (.ref a), .val (.ref ar)] [(.ref a), (.ref ax), (.ref ax)])) rfl rfl (hb hby d8_5)
  refine own_go st12 ?_
  show own_E _ _ _ _ _ _ _ (T12.setTop (mkF m 8 #[.val (.ref a), .val (.ref ar)] [(.ref em), (.ref ax), (.ref ax)]))
  refine own_go (fun _ k => XS.aloadN X12.here hx rfl (hb hby d8_8) rfl rfl k) ?_
  show own_E _ _ _ _ _ _ _ (T12.setTop (mkF m 9 #[.val (.ref a), .val (.ref ar)] [(.ref ar), (.ref em), (.ref ax), (.ref ax)]))
  obtain ⟨T13, h13, X13, e13, E13, v13, B13, st13⟩ := own_clone X12 hx hZ hown (hw _ (List.mem_of_getElem? (i := 43) rfl)) (hw _ (List.mem_of_getElem? (i := 44) rfl)) (hw _ (List.mem_of_getElem? (i := 48) rfl)) (hw _ (List.mem_of_getElem? (i := 46) rfl)) (hw _ (List.mem_of_getElem? (i := 47) rfl)) (hw _ (List.mem_of_getElem? (i := 49) rfl)) e12 f11_1 f11_2 (g := (mkF m 9 #[.val (.ref a), .val (.ref ar)] [(.ref ar), (.ref em), (.ref ax), (.ref ax)])) rfl (by rw [hml]; rfl) rfl (hb hby d8_9) (by decide) (W := 3) (cap := 3) (Nat.le_of_ble_eq_true rfl) (by decide) hz (by decide) (by decide)
  obtain ⟨ac, g13⟩ : ∃ z, z = h11.size := ⟨_, rfl⟩
  rw [← g13] at v13 B13 st13
  have ne13_1 : a ≠ ac := by rw [g13]; exact Nat.ne_of_lt f11_0.lt
  have ne13_2 : ar ≠ ac := by rw [g13]; exact Nat.ne_of_lt f11_1.lt
  have ne13_3 : ax ≠ ac := by rw [g13]; exact Nat.ne_of_lt f11_encryptionContext.lt
  have w13 : n0 ≤ ac := by rw [g13]; exact Z11
  have kz13 : h0.size ≤ ac := by rw [g13]; exact K11.1
  have f13_0 := f11_0.ext E13
  have f13_1 := f11_1.ext E13
  have f13_2 := f11_2.ext E13
  have f13_7 := f11_encryptionContext.ext E13
  have f13_8 := f11_dataKey.ext E13
  have f13_9 := A11.ext E13
  have K13 := K11.ext E13
  have Z13 := Nat.le_trans Z11 E13.1
  refine own_go st13 ?_
  show own_E _ _ _ _ _ _ _ (T13.setTop (mkF m 12 #[.val (.ref a), .val (.ref ar)] [(.ref ac), (.ref em), (.ref ax), (.ref ax)]))
  obtain ⟨T14, X14, e14, st14⟩ := castY X13 hx hZ hown (hw _ (List.mem_of_getElem? (i := 50) rfl)) e13 (Ins.self B13) (g := (mkF m 12 #[.val (.ref a), .val (.ref ar)] [(.ref ac), (.ref em), (.ref ax), (.ref ax)])) rfl rfl (hb hby d8_12)
  refine own_go st14 ?_
  show own_E _ _ _ _ _ _ _ (T14.setTop (mkF m 15 #[.val (.ref a), .val (.ref ar)] [(.ref ac), (.ref em), (.ref ax), (.ref ax)]))
  obtain ⟨v15, T15, L15, X15, hQ15, st15⟩ := own_callI X14 hx hZ (rm := ({ frames := 1, cells := 0, slots := 0, locals := 12 } : Room)) (W := 1) (b := ax) (argsL := [(.ref em), (.ref ac)]) (rest := [(.ref ax)]) (y := (⟨"com/example/arborkey/arborkey/DecryptionMaterials", "<init>", "(Ljava/util/Map;[B)V"⟩ : MethodName)) hown rfl (hw _ (List.mem_of_getElem? (i := 22) rfl)) (hw _ (List.mem_of_getElem? (i := 23) rfl)) (hw _ (List.mem_of_getElem? (i := 7) rfl)) (hw _ (List.mem_of_getElem? (i := 24) rfl)) (by decide) (rmCR l Z a0 hw ax em ac h13 n0 Z13 f13_9 f13_7 f13_8 w11) e14 (by decide) (by decide) (by decide) (by decide) (g := (mkF m 15 #[.val (.ref a), .val (.ref ar)] [(.ref ac), (.ref em), (.ref ax), (.ref ax)])) rfl (by rw [hml]; rfl) (lenOf pd_1 rfl) rfl (Nat.le_of_ble_eq_true rfl) (hb hby d8_15)
  obtain ⟨rfl, N15, K15, A15, F15, G15⟩ := hQ15
  refine own_go st15 ?_
  show own_E _ _ _ _ _ _ _ (T15.setTop (mkF m 18 #[.val (.ref a), .val (.ref ar)] [(.ref ax)]))
  have M15 := Fr.app N0 N15
  have e15 : T15.heap = T15.heap := rfl
  have f15_0 := f13_0.keep K15 (ninS ne11_1 nin0)
  have f15_1 := f13_1.keep K15 (ninS ne11_2 nin0)
  have f15_2 := f13_2.keep K15
  have f15_9 := f13_9.keep K15
  have f15_15 := v13.keep K15 (ninS ne13_3.symm nin0)
  have f15_16 := B13.keep K15
  have Z15 := Nat.le_trans Z13 K15.1
  have KK15 := K13.trans K15 (allS (Or.inr kz11) all0)
  exact own_ret X15 hx Bd.returns Bd.notSynchronized rfl (Or.inr (Or.inr (Or.inr (Or.inr ⟨rfl, rfl, rfl⟩)))) (hb hby d8_18) (by rw [e15]; exact ⟨M15, KK15, _, _, rfl, kz11, kz13, ne13_3, A15, F15, G15, f15_15, f15_16⟩) (by decide) (by decide)
theorem d1_0 : decode method_3_code 0 = .ok (.iload_n 0, 1) := by decide +kernel
theorem d1_1 : decode method_3_code 1 = .ok (.newarray .byte, 2) := by decide +kernel
theorem d1_3 : decode method_3_code 3 = .ok (.astore 4, 2) := by decide +kernel
theorem d1_5 : decode method_3_code 5 = .ok (.iload_n 0, 1) := by decide +kernel
theorem d1_6 : decode method_3_code 6 = .ok (.ifCond .le 8, 3) := by decide +kernel
theorem d1_9 : decode method_3_code 9 = .ok (.aload 4, 2) := by decide +kernel
theorem d1_11 : decode method_3_code 11 = .ok (.iconst 0, 1) := by decide +kernel
theorem d1_12 : decode method_3_code 12 = .ok (.iload_n 1, 1) := by decide +kernel
theorem d1_13 : decode method_3_code 13 = .ok (.bastore, 1) := by decide +kernel
theorem d1_14 : decode method_3_code 14 = .ok (.iload_n 0, 1) := by decide +kernel
theorem d1_15 : decode method_3_code 15 = .ok (.iconst 1, 1) := by decide +kernel
theorem d1_16 : decode method_3_code 16 = .ok (.if_icmp .le 8, 3) := by decide +kernel
theorem d1_19 : decode method_3_code 19 = .ok (.aload 4, 2) := by decide +kernel
theorem d1_21 : decode method_3_code 21 = .ok (.iconst 1, 1) := by decide +kernel
theorem d1_22 : decode method_3_code 22 = .ok (.iload_n 2, 1) := by decide +kernel
theorem d1_23 : decode method_3_code 23 = .ok (.bastore, 1) := by decide +kernel
theorem d1_24 : decode method_3_code 24 = .ok (.iload_n 0, 1) := by decide +kernel
theorem d1_25 : decode method_3_code 25 = .ok (.iconst 2, 1) := by decide +kernel
theorem d1_26 : decode method_3_code 26 = .ok (.if_icmp .le 8, 3) := by decide +kernel
theorem d1_29 : decode method_3_code 29 = .ok (.aload 4, 2) := by decide +kernel
theorem d1_31 : decode method_3_code 31 = .ok (.iconst 2, 1) := by decide +kernel
theorem d1_32 : decode method_3_code 32 = .ok (.iload_n 3, 1) := by decide +kernel
theorem d1_33 : decode method_3_code 33 = .ok (.bastore, 1) := by decide +kernel
theorem d1_34 : decode method_3_code 34 = .ok (.aload 4, 2) := by decide +kernel
theorem d1_36 : decode method_3_code 36 = .ok (.areturn, 1) := by decide +kernel
def Qrm1 (z : Int32) (b0 : Int32) (b1 : Int32) (b2 : Int32) (Z : State) (h0 : Heap) (n0 : Nat) (v : Option Value) (h : Heap) (L : List Loc) : Prop := Fr n0 L ∧ Keep h0 h [] ∧ ∃ r kA, v = some (.ref r) ∧ Arv Z h r kA .byte z [.int b0, .int b1, .int b2] (.int 0) ∧ Exa Z h r "[B" ∧ h0.size ≤ r
set_option maxRecDepth 65536 in
set_option maxHeartbeats 40000000 in
theorem rm1 (l : Launch) (Z : State) (a0 : Array Value) (hw : ∀ d ∈ tables_1, d.before a0 Z = true) (z : Int32) (b0 : Int32) (b1 : Int32) (b2 : Int32) (h0 : Heap) (n0 : Nat) (Z0 : n0 ≤ h0.size) (hz : z = 0 ∨ z = 1 ∨ z = 2 ∨ z = 3) (m0 : nar .byte b0 = b0) (m1 : nar .byte b1 = b1) (m2 : nar .byte b2 = b2) :
    MetFree l (⟨"com/example/arborkey/arborkey/DecryptionMaterialsDataKeyPinLaw", "make", "(IBBB)[B"⟩ : MethodName) (head1 (Jvm.Cond.code (⟨"com/example/arborkey/arborkey/DecryptionMaterialsDataKeyPinLaw", "make", "(IBBB)[B"⟩ : MethodName) method_3_code 5 (some (.array .byte)) :: []) ({ frames := 0, cells := 1, slots := 3, locals := 0 } : Room)) (fun ar_ U => ar_ = #[(.int z), (.int b0), (.int b1), (.int b2)] ∧ Z.Warmed39 U.vm ∧ U.heap = h0) (fun _ _ _ _ _ => True) (fun _ U o U' => ∃ v L, o = .returned v ∧ Qrm1 z b0 b1 b2 Z h0 n0 v U'.heap L ∧ FrameEnd U o U' L ({ frames := 0, cells := 1, slots := 3, locals := 0 } : Room).cells ({ frames := 0, cells := 1, slots := 3, locals := 0 } : Room).slots) := by
  refine MetFree.of_bodySF (plainFor_of_name (by first | (simp [plainName, overriddenIn]; done) | decide +kernel)) hisR ?_
  intro p e s m args below meth c s₁ Bd hml0 hP hK
  obtain ⟨rfl, hZ, hh⟩ := hP
  have hx := Bd.exec
  have hby := Bd.bytes
  have hml : c.maxLocals = 5 := hml0
  have hown : s.vm.findClass "com/example/arborkey/arborkey/DecryptionMaterialsDataKeyPinLaw" = some m.cls := findClass_of_methodNamed Bd.named
  have hnm := (name_of_methodNamed Bd.named Bd.method).1
  have X0 : Stand p l e ({ frames := 0, cells := 1, slots := 3, locals := 0 } : Room) s m #[(.int z), (.int b0), (.int b1), (.int b2)] below meth c s₁ [] 0 0 := Stand.of_body Bd
  have e0 : s₁.heap = h0 := by rw [← hh, Bd.state]; rfl
  have N0 := Fr.nil n0
  show own_E p e below s (Qrm1 z b0 b1 b2 Z h0 n0) ({ frames := 0, cells := 1, slots := 3, locals := 0 } : Room).cells ({ frames := 0, cells := 1, slots := 3, locals := 0 } : Room).slots (s₁.setTop (entryFrame m #[(.int z), (.int b0), (.int b1), (.int b2)] 5))
  refine own_go (fun t k => castTop (show _ = (mkF m 0 #[.val (.int z), .val (.int b0), .val (.int b1), .val (.int b2), .unset] []) from by first | (simp [entryFrame, mkF, argsToLocals, Value.category]; done) | rfl) k) ?_
  show own_E _ _ _ _ _ _ _ (s₁.setTop (mkF m 0 #[.val (.int z), .val (.int b0), .val (.int b1), .val (.int b2), .unset] []))
  have KK := Keep.refl h0 []
  rcases hz with rfl | rfl | rfl | rfl
  ·
    show own_E _ _ _ _ _ _ _ (s₁.setTop (mkF m 0 #[.val (.int (0 : Int32)), .val (.int b0), .val (.int b1), .val (.int b2), .unset] []))
    refine own_go (fun _ k => XS.iloadN X0.here hx rfl (hb hby d1_0) rfl k) ?_
    show own_E _ _ _ _ _ _ _ (s₁.setTop (mkF m 1 #[.val (.int (0 : Int32)), .val (.int b0), .val (.int b1), .val (.int b2), .unset] [(.int (0 : Int32))]))
    obtain ⟨T11, h11, k11, X11, e11, E11, A11, B11, st11⟩ := newPE X0 hx hZ (hw _ (List.mem_of_getElem? (i := 4) rfl)) e0 (g := (mkF m 1 #[.val (.int (0 : Int32)), .val (.int b0), .val (.int b1), .val (.int b2), .unset] [(.int (0 : Int32))])) rfl (hb hby d1_1) rfl (by decide) (cap := 3) (by decide) (by decide) (by decide) (by decide) (ad := "[B") (by decide)
    obtain ⟨r, g11⟩ : ∃ z, z = h0.size := ⟨_, rfl⟩
    rw [← g11] at A11 B11 st11
    have w11 : n0 ≤ r := by rw [g11]; exact Z0
    have kz11 : h0.size ≤ r := by rw [g11]; exact KK.1
    have v11 : Arv Z h11 r k11 .byte (0 : Int32) [] (.int 0) := own_arvNew (n := 0) A11 (by decide)
    have K11 := KK.ext E11
    have Z11 := Nat.le_trans Z0 E11.1
    refine own_go st11 ?_
    show own_E _ _ _ _ _ _ _ (T11.setTop (mkF m 3 #[.val (.int (0 : Int32)), .val (.int b0), .val (.int b1), .val (.int b2), .unset] [(.ref r)]))
    refine own_go (fun _ k => XS.astore X11.here hx rfl (hb hby d1_3) rfl rfl (l' := #[.val (.int (0 : Int32)), .val (.int b0), .val (.int b1), .val (.int b2), .val (.ref r)]) rfl k) ?_
    show own_E _ _ _ _ _ _ _ (T11.setTop (mkF m 5 #[.val (.int (0 : Int32)), .val (.int b0), .val (.int b1), .val (.int b2), .val (.ref r)] []))
    refine own_go (fun _ k => XS.iloadN X11.here hx rfl (hb hby d1_5) rfl k) ?_
    show own_E _ _ _ _ _ _ _ (T11.setTop (mkF m 6 #[.val (.int (0 : Int32)), .val (.int b0), .val (.int b1), .val (.int b2), .val (.ref r)] [(.int (0 : Int32))]))
    refine own_go (fun _ k => XS.ifYes X11.here hx rfl (pc0 := 6) (pc' := 14) rfl (hb hby d1_6) rfl (by decide) (by decide) (by decide) k) ?_
    show own_E _ _ _ _ _ _ _ (T11.setTop (mkF m 14 #[.val (.int (0 : Int32)), .val (.int b0), .val (.int b1), .val (.int b2), .val (.ref r)] []))
    refine own_go (fun _ k => XS.iloadN X11.here hx rfl (hb hby d1_14) rfl k) ?_
    show own_E _ _ _ _ _ _ _ (T11.setTop (mkF m 15 #[.val (.int (0 : Int32)), .val (.int b0), .val (.int b1), .val (.int b2), .val (.ref r)] [(.int (0 : Int32))]))
    refine own_go (fun _ k => XT.iconstV X11.here hx rfl (1 : Int32) (hb hby d1_15) (by decide) k) ?_
    show own_E _ _ _ _ _ _ _ (T11.setTop (mkF m 16 #[.val (.int (0 : Int32)), .val (.int b0), .val (.int b1), .val (.int b2), .val (.ref r)] [(.int (1 : Int32)), (.int (0 : Int32))]))
    refine own_go (fun _ k => XS.icmpYes X11.here hx rfl (pc0 := 16) (pc' := 24) rfl (hb hby d1_16) rfl (by decide) (by decide) (by decide) k) ?_
    show own_E _ _ _ _ _ _ _ (T11.setTop (mkF m 24 #[.val (.int (0 : Int32)), .val (.int b0), .val (.int b1), .val (.int b2), .val (.ref r)] []))
    refine own_go (fun _ k => XS.iloadN X11.here hx rfl (hb hby d1_24) rfl k) ?_
    show own_E _ _ _ _ _ _ _ (T11.setTop (mkF m 25 #[.val (.int (0 : Int32)), .val (.int b0), .val (.int b1), .val (.int b2), .val (.ref r)] [(.int (0 : Int32))]))
    refine own_go (fun _ k => XT.iconstV X11.here hx rfl (2 : Int32) (hb hby d1_25) (by decide) k) ?_
    show own_E _ _ _ _ _ _ _ (T11.setTop (mkF m 26 #[.val (.int (0 : Int32)), .val (.int b0), .val (.int b1), .val (.int b2), .val (.ref r)] [(.int (2 : Int32)), (.int (0 : Int32))]))
    refine own_go (fun _ k => XS.icmpYes X11.here hx rfl (pc0 := 26) (pc' := 34) rfl (hb hby d1_26) rfl (by decide) (by decide) (by decide) k) ?_
    show own_E _ _ _ _ _ _ _ (T11.setTop (mkF m 34 #[.val (.int (0 : Int32)), .val (.int b0), .val (.int b1), .val (.int b2), .val (.ref r)] []))
    refine own_go (fun _ k => XS.aload X11.here hx rfl (hb hby d1_34) rfl rfl k) ?_
    show own_E _ _ _ _ _ _ _ (T11.setTop (mkF m 36 #[.val (.int (0 : Int32)), .val (.int b0), .val (.int b1), .val (.int b2), .val (.ref r)] [(.ref r)]))
    exact own_ret X11 hx Bd.returns Bd.notSynchronized rfl (Or.inr (Or.inr (Or.inr (Or.inr ⟨rfl, rfl, rfl⟩)))) (hb hby d1_36) (by rw [e11]; exact ⟨N0, K11, _, _, rfl, own_re v11 (fun i hi => own_gd0 i hi), B11, kz11⟩) (by decide) (by decide)
  ·
    show own_E _ _ _ _ _ _ _ (s₁.setTop (mkF m 0 #[.val (.int (1 : Int32)), .val (.int b0), .val (.int b1), .val (.int b2), .unset] []))
    refine own_go (fun _ k => XS.iloadN X0.here hx rfl (hb hby d1_0) rfl k) ?_
    show own_E _ _ _ _ _ _ _ (s₁.setTop (mkF m 1 #[.val (.int (1 : Int32)), .val (.int b0), .val (.int b1), .val (.int b2), .unset] [(.int (1 : Int32))]))
    obtain ⟨T12, h12, k12, X12, e12, E12, A12, B12, st12⟩ := newPE X0 hx hZ (hw _ (List.mem_of_getElem? (i := 4) rfl)) e0 (g := (mkF m 1 #[.val (.int (1 : Int32)), .val (.int b0), .val (.int b1), .val (.int b2), .unset] [(.int (1 : Int32))])) rfl (hb hby d1_1) rfl (by decide) (cap := 3) (by decide) (by decide) (by decide) (by decide) (ad := "[B") (by decide)
    obtain ⟨r, g12⟩ : ∃ z, z = h0.size := ⟨_, rfl⟩
    rw [← g12] at A12 B12 st12
    have w12 : n0 ≤ r := by rw [g12]; exact Z0
    have kz12 : h0.size ≤ r := by rw [g12]; exact KK.1
    have v12 : Arv Z h12 r k12 .byte (1 : Int32) [(.int 0)] (.int 0) := own_arvNew (n := 1) A12 (by decide)
    have K12 := KK.ext E12
    have Z12 := Nat.le_trans Z0 E12.1
    refine own_go st12 ?_
    show own_E _ _ _ _ _ _ _ (T12.setTop (mkF m 3 #[.val (.int (1 : Int32)), .val (.int b0), .val (.int b1), .val (.int b2), .unset] [(.ref r)]))
    refine own_go (fun _ k => XS.astore X12.here hx rfl (hb hby d1_3) rfl rfl (l' := #[.val (.int (1 : Int32)), .val (.int b0), .val (.int b1), .val (.int b2), .val (.ref r)]) rfl k) ?_
    show own_E _ _ _ _ _ _ _ (T12.setTop (mkF m 5 #[.val (.int (1 : Int32)), .val (.int b0), .val (.int b1), .val (.int b2), .val (.ref r)] []))
    refine own_go (fun _ k => XS.iloadN X12.here hx rfl (hb hby d1_5) rfl k) ?_
    show own_E _ _ _ _ _ _ _ (T12.setTop (mkF m 6 #[.val (.int (1 : Int32)), .val (.int b0), .val (.int b1), .val (.int b2), .val (.ref r)] [(.int (1 : Int32))]))
    refine own_go (fun _ k => XS.ifNo X12.here hx rfl (hb hby d1_6) rfl (by decide) k) ?_
    show own_E _ _ _ _ _ _ _ (T12.setTop (mkF m 9 #[.val (.int (1 : Int32)), .val (.int b0), .val (.int b1), .val (.int b2), .val (.ref r)] []))
    refine own_go (fun _ k => XS.aload X12.here hx rfl (hb hby d1_9) rfl rfl k) ?_
    show own_E _ _ _ _ _ _ _ (T12.setTop (mkF m 11 #[.val (.int (1 : Int32)), .val (.int b0), .val (.int b1), .val (.int b2), .val (.ref r)] [(.ref r)]))
    refine own_go (fun _ k => XT.iconstV X12.here hx rfl (0 : Int32) (hb hby d1_11) (by decide) k) ?_
    show own_E _ _ _ _ _ _ _ (T12.setTop (mkF m 12 #[.val (.int (1 : Int32)), .val (.int b0), .val (.int b1), .val (.int b2), .val (.ref r)] [(.int (0 : Int32)), (.ref r)]))
    refine own_go (fun _ k => XS.iloadN X12.here hx rfl (hb hby d1_12) rfl k) ?_
    show own_E _ _ _ _ _ _ _ (T12.setTop (mkF m 13 #[.val (.int (1 : Int32)), .val (.int b0), .val (.int b1), .val (.int b2), .val (.ref r)] [(.int b0), (.int (0 : Int32)), (.ref r)]))
    obtain ⟨T13, h13, X13, e13, W13, v13, st13⟩ := own_stB X12 hx hZ e12 v12 (j := (0 : Int32)) 0 (by decide) (by simp) (by decide) (g := (mkF m 13 #[.val (.int (1 : Int32)), .val (.int b0), .val (.int b1), .val (.int b2), .val (.ref r)] [(.int b0), (.int (0 : Int32)), (.ref r)])) rfl rfl (hb hby d1_13)
    rw [m0] at v13
    replace v13 : Arv Z h13 r k12 .byte (1 : Int32) [.int b0] (.int 0) := v13
    have f13_2 := B12.wr W13
    have Z13 : n0 ≤ h13.size := by rw [W13.size]; exact Z12
    have N13 := Fr.snoc X13 N0 w12
    have K13 := K12.wr W13 (Or.inr kz12)
    refine own_go st13 ?_
    show own_E _ _ _ _ _ _ _ (T13.setTop (mkF m 14 #[.val (.int (1 : Int32)), .val (.int b0), .val (.int b1), .val (.int b2), .val (.ref r)] []))
    refine own_go (fun _ k => XS.iloadN X13.here hx rfl (hb hby d1_14) rfl k) ?_
    show own_E _ _ _ _ _ _ _ (T13.setTop (mkF m 15 #[.val (.int (1 : Int32)), .val (.int b0), .val (.int b1), .val (.int b2), .val (.ref r)] [(.int (1 : Int32))]))
    refine own_go (fun _ k => XT.iconstV X13.here hx rfl (1 : Int32) (hb hby d1_15) (by decide) k) ?_
    show own_E _ _ _ _ _ _ _ (T13.setTop (mkF m 16 #[.val (.int (1 : Int32)), .val (.int b0), .val (.int b1), .val (.int b2), .val (.ref r)] [(.int (1 : Int32)), (.int (1 : Int32))]))
    refine own_go (fun _ k => XS.icmpYes X13.here hx rfl (pc0 := 16) (pc' := 24) rfl (hb hby d1_16) rfl (by decide) (by decide) (by decide) k) ?_
    show own_E _ _ _ _ _ _ _ (T13.setTop (mkF m 24 #[.val (.int (1 : Int32)), .val (.int b0), .val (.int b1), .val (.int b2), .val (.ref r)] []))
    refine own_go (fun _ k => XS.iloadN X13.here hx rfl (hb hby d1_24) rfl k) ?_
    show own_E _ _ _ _ _ _ _ (T13.setTop (mkF m 25 #[.val (.int (1 : Int32)), .val (.int b0), .val (.int b1), .val (.int b2), .val (.ref r)] [(.int (1 : Int32))]))
    refine own_go (fun _ k => XT.iconstV X13.here hx rfl (2 : Int32) (hb hby d1_25) (by decide) k) ?_
    show own_E _ _ _ _ _ _ _ (T13.setTop (mkF m 26 #[.val (.int (1 : Int32)), .val (.int b0), .val (.int b1), .val (.int b2), .val (.ref r)] [(.int (2 : Int32)), (.int (1 : Int32))]))
    refine own_go (fun _ k => XS.icmpYes X13.here hx rfl (pc0 := 26) (pc' := 34) rfl (hb hby d1_26) rfl (by decide) (by decide) (by decide) k) ?_
    show own_E _ _ _ _ _ _ _ (T13.setTop (mkF m 34 #[.val (.int (1 : Int32)), .val (.int b0), .val (.int b1), .val (.int b2), .val (.ref r)] []))
    refine own_go (fun _ k => XS.aload X13.here hx rfl (hb hby d1_34) rfl rfl k) ?_
    show own_E _ _ _ _ _ _ _ (T13.setTop (mkF m 36 #[.val (.int (1 : Int32)), .val (.int b0), .val (.int b1), .val (.int b2), .val (.ref r)] [(.ref r)]))
    exact own_ret X13 hx Bd.returns Bd.notSynchronized rfl (Or.inr (Or.inr (Or.inr (Or.inr ⟨rfl, rfl, rfl⟩)))) (hb hby d1_36) (by rw [e13]; exact ⟨N13, K13, _, _, rfl, own_re v13 (fun i hi => own_gd1 i hi), f13_2, kz12⟩) (by decide) (by decide)
  ·
    show own_E _ _ _ _ _ _ _ (s₁.setTop (mkF m 0 #[.val (.int (2 : Int32)), .val (.int b0), .val (.int b1), .val (.int b2), .unset] []))
    refine own_go (fun _ k => XS.iloadN X0.here hx rfl (hb hby d1_0) rfl k) ?_
    show own_E _ _ _ _ _ _ _ (s₁.setTop (mkF m 1 #[.val (.int (2 : Int32)), .val (.int b0), .val (.int b1), .val (.int b2), .unset] [(.int (2 : Int32))]))
    obtain ⟨T14, h14, k14, X14, e14, E14, A14, B14, st14⟩ := newPE X0 hx hZ (hw _ (List.mem_of_getElem? (i := 4) rfl)) e0 (g := (mkF m 1 #[.val (.int (2 : Int32)), .val (.int b0), .val (.int b1), .val (.int b2), .unset] [(.int (2 : Int32))])) rfl (hb hby d1_1) rfl (by decide) (cap := 3) (by decide) (by decide) (by decide) (by decide) (ad := "[B") (by decide)
    obtain ⟨r, g14⟩ : ∃ z, z = h0.size := ⟨_, rfl⟩
    rw [← g14] at A14 B14 st14
    have w14 : n0 ≤ r := by rw [g14]; exact Z0
    have kz14 : h0.size ≤ r := by rw [g14]; exact KK.1
    have v14 : Arv Z h14 r k14 .byte (2 : Int32) [(.int 0), (.int 0)] (.int 0) := own_arvNew (n := 2) A14 (by decide)
    have K14 := KK.ext E14
    have Z14 := Nat.le_trans Z0 E14.1
    refine own_go st14 ?_
    show own_E _ _ _ _ _ _ _ (T14.setTop (mkF m 3 #[.val (.int (2 : Int32)), .val (.int b0), .val (.int b1), .val (.int b2), .unset] [(.ref r)]))
    refine own_go (fun _ k => XS.astore X14.here hx rfl (hb hby d1_3) rfl rfl (l' := #[.val (.int (2 : Int32)), .val (.int b0), .val (.int b1), .val (.int b2), .val (.ref r)]) rfl k) ?_
    show own_E _ _ _ _ _ _ _ (T14.setTop (mkF m 5 #[.val (.int (2 : Int32)), .val (.int b0), .val (.int b1), .val (.int b2), .val (.ref r)] []))
    refine own_go (fun _ k => XS.iloadN X14.here hx rfl (hb hby d1_5) rfl k) ?_
    show own_E _ _ _ _ _ _ _ (T14.setTop (mkF m 6 #[.val (.int (2 : Int32)), .val (.int b0), .val (.int b1), .val (.int b2), .val (.ref r)] [(.int (2 : Int32))]))
    refine own_go (fun _ k => XS.ifNo X14.here hx rfl (hb hby d1_6) rfl (by decide) k) ?_
    show own_E _ _ _ _ _ _ _ (T14.setTop (mkF m 9 #[.val (.int (2 : Int32)), .val (.int b0), .val (.int b1), .val (.int b2), .val (.ref r)] []))
    refine own_go (fun _ k => XS.aload X14.here hx rfl (hb hby d1_9) rfl rfl k) ?_
    show own_E _ _ _ _ _ _ _ (T14.setTop (mkF m 11 #[.val (.int (2 : Int32)), .val (.int b0), .val (.int b1), .val (.int b2), .val (.ref r)] [(.ref r)]))
    refine own_go (fun _ k => XT.iconstV X14.here hx rfl (0 : Int32) (hb hby d1_11) (by decide) k) ?_
    show own_E _ _ _ _ _ _ _ (T14.setTop (mkF m 12 #[.val (.int (2 : Int32)), .val (.int b0), .val (.int b1), .val (.int b2), .val (.ref r)] [(.int (0 : Int32)), (.ref r)]))
    refine own_go (fun _ k => XS.iloadN X14.here hx rfl (hb hby d1_12) rfl k) ?_
    show own_E _ _ _ _ _ _ _ (T14.setTop (mkF m 13 #[.val (.int (2 : Int32)), .val (.int b0), .val (.int b1), .val (.int b2), .val (.ref r)] [(.int b0), (.int (0 : Int32)), (.ref r)]))
    obtain ⟨T15, h15, X15, e15, W15, v15, st15⟩ := own_stB X14 hx hZ e14 v14 (j := (0 : Int32)) 0 (by decide) (by simp) (by decide) (g := (mkF m 13 #[.val (.int (2 : Int32)), .val (.int b0), .val (.int b1), .val (.int b2), .val (.ref r)] [(.int b0), (.int (0 : Int32)), (.ref r)])) rfl rfl (hb hby d1_13)
    rw [m0] at v15
    replace v15 : Arv Z h15 r k14 .byte (2 : Int32) [.int b0, (.int 0)] (.int 0) := v15
    have f15_2 := B14.wr W15
    have Z15 : n0 ≤ h15.size := by rw [W15.size]; exact Z14
    have N15 := Fr.snoc X15 N0 w14
    have K15 := K14.wr W15 (Or.inr kz14)
    refine own_go st15 ?_
    show own_E _ _ _ _ _ _ _ (T15.setTop (mkF m 14 #[.val (.int (2 : Int32)), .val (.int b0), .val (.int b1), .val (.int b2), .val (.ref r)] []))
    refine own_go (fun _ k => XS.iloadN X15.here hx rfl (hb hby d1_14) rfl k) ?_
    show own_E _ _ _ _ _ _ _ (T15.setTop (mkF m 15 #[.val (.int (2 : Int32)), .val (.int b0), .val (.int b1), .val (.int b2), .val (.ref r)] [(.int (2 : Int32))]))
    refine own_go (fun _ k => XT.iconstV X15.here hx rfl (1 : Int32) (hb hby d1_15) (by decide) k) ?_
    show own_E _ _ _ _ _ _ _ (T15.setTop (mkF m 16 #[.val (.int (2 : Int32)), .val (.int b0), .val (.int b1), .val (.int b2), .val (.ref r)] [(.int (1 : Int32)), (.int (2 : Int32))]))
    refine own_go (fun _ k => XS.icmpNo X15.here hx rfl (hb hby d1_16) rfl (by decide) k) ?_
    show own_E _ _ _ _ _ _ _ (T15.setTop (mkF m 19 #[.val (.int (2 : Int32)), .val (.int b0), .val (.int b1), .val (.int b2), .val (.ref r)] []))
    refine own_go (fun _ k => XS.aload X15.here hx rfl (hb hby d1_19) rfl rfl k) ?_
    show own_E _ _ _ _ _ _ _ (T15.setTop (mkF m 21 #[.val (.int (2 : Int32)), .val (.int b0), .val (.int b1), .val (.int b2), .val (.ref r)] [(.ref r)]))
    refine own_go (fun _ k => XT.iconstV X15.here hx rfl (1 : Int32) (hb hby d1_21) (by decide) k) ?_
    show own_E _ _ _ _ _ _ _ (T15.setTop (mkF m 22 #[.val (.int (2 : Int32)), .val (.int b0), .val (.int b1), .val (.int b2), .val (.ref r)] [(.int (1 : Int32)), (.ref r)]))
    refine own_go (fun _ k => XS.iloadN X15.here hx rfl (hb hby d1_22) rfl k) ?_
    show own_E _ _ _ _ _ _ _ (T15.setTop (mkF m 23 #[.val (.int (2 : Int32)), .val (.int b0), .val (.int b1), .val (.int b2), .val (.ref r)] [(.int b1), (.int (1 : Int32)), (.ref r)]))
    obtain ⟨T16, h16, X16, e16, W16, v16, st16⟩ := own_stB X15 hx hZ e15 v15 (j := (1 : Int32)) 1 (by decide) (by simp) (by decide) (g := (mkF m 23 #[.val (.int (2 : Int32)), .val (.int b0), .val (.int b1), .val (.int b2), .val (.ref r)] [(.int b1), (.int (1 : Int32)), (.ref r)])) rfl rfl (hb hby d1_23)
    rw [m1] at v16
    replace v16 : Arv Z h16 r k14 .byte (2 : Int32) [.int b0, .int b1] (.int 0) := v16
    have f16_2 := f15_2.wr W16
    have Z16 : n0 ≤ h16.size := by rw [W16.size]; exact Z15
    have N16 := Fr.snoc X16 N15 w14
    have K16 := K15.wr W16 (Or.inr kz14)
    refine own_go st16 ?_
    show own_E _ _ _ _ _ _ _ (T16.setTop (mkF m 24 #[.val (.int (2 : Int32)), .val (.int b0), .val (.int b1), .val (.int b2), .val (.ref r)] []))
    refine own_go (fun _ k => XS.iloadN X16.here hx rfl (hb hby d1_24) rfl k) ?_
    show own_E _ _ _ _ _ _ _ (T16.setTop (mkF m 25 #[.val (.int (2 : Int32)), .val (.int b0), .val (.int b1), .val (.int b2), .val (.ref r)] [(.int (2 : Int32))]))
    refine own_go (fun _ k => XT.iconstV X16.here hx rfl (2 : Int32) (hb hby d1_25) (by decide) k) ?_
    show own_E _ _ _ _ _ _ _ (T16.setTop (mkF m 26 #[.val (.int (2 : Int32)), .val (.int b0), .val (.int b1), .val (.int b2), .val (.ref r)] [(.int (2 : Int32)), (.int (2 : Int32))]))
    refine own_go (fun _ k => XS.icmpYes X16.here hx rfl (pc0 := 26) (pc' := 34) rfl (hb hby d1_26) rfl (by decide) (by decide) (by decide) k) ?_
    show own_E _ _ _ _ _ _ _ (T16.setTop (mkF m 34 #[.val (.int (2 : Int32)), .val (.int b0), .val (.int b1), .val (.int b2), .val (.ref r)] []))
    refine own_go (fun _ k => XS.aload X16.here hx rfl (hb hby d1_34) rfl rfl k) ?_
    show own_E _ _ _ _ _ _ _ (T16.setTop (mkF m 36 #[.val (.int (2 : Int32)), .val (.int b0), .val (.int b1), .val (.int b2), .val (.ref r)] [(.ref r)]))
    exact own_ret X16 hx Bd.returns Bd.notSynchronized rfl (Or.inr (Or.inr (Or.inr (Or.inr ⟨rfl, rfl, rfl⟩)))) (hb hby d1_36) (by rw [e16]; exact ⟨N16, K16, _, _, rfl, own_re v16 (fun i hi => own_gd2 i hi), f16_2, kz14⟩) (by decide) (by decide)
  ·
    show own_E _ _ _ _ _ _ _ (s₁.setTop (mkF m 0 #[.val (.int (3 : Int32)), .val (.int b0), .val (.int b1), .val (.int b2), .unset] []))
    refine own_go (fun _ k => XS.iloadN X0.here hx rfl (hb hby d1_0) rfl k) ?_
    show own_E _ _ _ _ _ _ _ (s₁.setTop (mkF m 1 #[.val (.int (3 : Int32)), .val (.int b0), .val (.int b1), .val (.int b2), .unset] [(.int (3 : Int32))]))
    obtain ⟨T17, h17, k17, X17, e17, E17, A17, B17, st17⟩ := newPE X0 hx hZ (hw _ (List.mem_of_getElem? (i := 4) rfl)) e0 (g := (mkF m 1 #[.val (.int (3 : Int32)), .val (.int b0), .val (.int b1), .val (.int b2), .unset] [(.int (3 : Int32))])) rfl (hb hby d1_1) rfl (by decide) (cap := 3) (by decide) (by decide) (by decide) (by decide) (ad := "[B") (by decide)
    obtain ⟨r, g17⟩ : ∃ z, z = h0.size := ⟨_, rfl⟩
    rw [← g17] at A17 B17 st17
    have w17 : n0 ≤ r := by rw [g17]; exact Z0
    have kz17 : h0.size ≤ r := by rw [g17]; exact KK.1
    have v17 : Arv Z h17 r k17 .byte (3 : Int32) [(.int 0), (.int 0), (.int 0)] (.int 0) := own_arvNew (n := 3) A17 (by decide)
    have K17 := KK.ext E17
    have Z17 := Nat.le_trans Z0 E17.1
    refine own_go st17 ?_
    show own_E _ _ _ _ _ _ _ (T17.setTop (mkF m 3 #[.val (.int (3 : Int32)), .val (.int b0), .val (.int b1), .val (.int b2), .unset] [(.ref r)]))
    refine own_go (fun _ k => XS.astore X17.here hx rfl (hb hby d1_3) rfl rfl (l' := #[.val (.int (3 : Int32)), .val (.int b0), .val (.int b1), .val (.int b2), .val (.ref r)]) rfl k) ?_
    show own_E _ _ _ _ _ _ _ (T17.setTop (mkF m 5 #[.val (.int (3 : Int32)), .val (.int b0), .val (.int b1), .val (.int b2), .val (.ref r)] []))
    refine own_go (fun _ k => XS.iloadN X17.here hx rfl (hb hby d1_5) rfl k) ?_
    show own_E _ _ _ _ _ _ _ (T17.setTop (mkF m 6 #[.val (.int (3 : Int32)), .val (.int b0), .val (.int b1), .val (.int b2), .val (.ref r)] [(.int (3 : Int32))]))
    refine own_go (fun _ k => XS.ifNo X17.here hx rfl (hb hby d1_6) rfl (by decide) k) ?_
    show own_E _ _ _ _ _ _ _ (T17.setTop (mkF m 9 #[.val (.int (3 : Int32)), .val (.int b0), .val (.int b1), .val (.int b2), .val (.ref r)] []))
    refine own_go (fun _ k => XS.aload X17.here hx rfl (hb hby d1_9) rfl rfl k) ?_
    show own_E _ _ _ _ _ _ _ (T17.setTop (mkF m 11 #[.val (.int (3 : Int32)), .val (.int b0), .val (.int b1), .val (.int b2), .val (.ref r)] [(.ref r)]))
    refine own_go (fun _ k => XT.iconstV X17.here hx rfl (0 : Int32) (hb hby d1_11) (by decide) k) ?_
    show own_E _ _ _ _ _ _ _ (T17.setTop (mkF m 12 #[.val (.int (3 : Int32)), .val (.int b0), .val (.int b1), .val (.int b2), .val (.ref r)] [(.int (0 : Int32)), (.ref r)]))
    refine own_go (fun _ k => XS.iloadN X17.here hx rfl (hb hby d1_12) rfl k) ?_
    show own_E _ _ _ _ _ _ _ (T17.setTop (mkF m 13 #[.val (.int (3 : Int32)), .val (.int b0), .val (.int b1), .val (.int b2), .val (.ref r)] [(.int b0), (.int (0 : Int32)), (.ref r)]))
    obtain ⟨T18, h18, X18, e18, W18, v18, st18⟩ := own_stB X17 hx hZ e17 v17 (j := (0 : Int32)) 0 (by decide) (by simp) (by decide) (g := (mkF m 13 #[.val (.int (3 : Int32)), .val (.int b0), .val (.int b1), .val (.int b2), .val (.ref r)] [(.int b0), (.int (0 : Int32)), (.ref r)])) rfl rfl (hb hby d1_13)
    rw [m0] at v18
    replace v18 : Arv Z h18 r k17 .byte (3 : Int32) [.int b0, (.int 0), (.int 0)] (.int 0) := v18
    have f18_2 := B17.wr W18
    have Z18 : n0 ≤ h18.size := by rw [W18.size]; exact Z17
    have N18 := Fr.snoc X18 N0 w17
    have K18 := K17.wr W18 (Or.inr kz17)
    refine own_go st18 ?_
    show own_E _ _ _ _ _ _ _ (T18.setTop (mkF m 14 #[.val (.int (3 : Int32)), .val (.int b0), .val (.int b1), .val (.int b2), .val (.ref r)] []))
    refine own_go (fun _ k => XS.iloadN X18.here hx rfl (hb hby d1_14) rfl k) ?_
    show own_E _ _ _ _ _ _ _ (T18.setTop (mkF m 15 #[.val (.int (3 : Int32)), .val (.int b0), .val (.int b1), .val (.int b2), .val (.ref r)] [(.int (3 : Int32))]))
    refine own_go (fun _ k => XT.iconstV X18.here hx rfl (1 : Int32) (hb hby d1_15) (by decide) k) ?_
    show own_E _ _ _ _ _ _ _ (T18.setTop (mkF m 16 #[.val (.int (3 : Int32)), .val (.int b0), .val (.int b1), .val (.int b2), .val (.ref r)] [(.int (1 : Int32)), (.int (3 : Int32))]))
    refine own_go (fun _ k => XS.icmpNo X18.here hx rfl (hb hby d1_16) rfl (by decide) k) ?_
    show own_E _ _ _ _ _ _ _ (T18.setTop (mkF m 19 #[.val (.int (3 : Int32)), .val (.int b0), .val (.int b1), .val (.int b2), .val (.ref r)] []))
    refine own_go (fun _ k => XS.aload X18.here hx rfl (hb hby d1_19) rfl rfl k) ?_
    show own_E _ _ _ _ _ _ _ (T18.setTop (mkF m 21 #[.val (.int (3 : Int32)), .val (.int b0), .val (.int b1), .val (.int b2), .val (.ref r)] [(.ref r)]))
    refine own_go (fun _ k => XT.iconstV X18.here hx rfl (1 : Int32) (hb hby d1_21) (by decide) k) ?_
    show own_E _ _ _ _ _ _ _ (T18.setTop (mkF m 22 #[.val (.int (3 : Int32)), .val (.int b0), .val (.int b1), .val (.int b2), .val (.ref r)] [(.int (1 : Int32)), (.ref r)]))
    refine own_go (fun _ k => XS.iloadN X18.here hx rfl (hb hby d1_22) rfl k) ?_
    show own_E _ _ _ _ _ _ _ (T18.setTop (mkF m 23 #[.val (.int (3 : Int32)), .val (.int b0), .val (.int b1), .val (.int b2), .val (.ref r)] [(.int b1), (.int (1 : Int32)), (.ref r)]))
    obtain ⟨T19, h19, X19, e19, W19, v19, st19⟩ := own_stB X18 hx hZ e18 v18 (j := (1 : Int32)) 1 (by decide) (by simp) (by decide) (g := (mkF m 23 #[.val (.int (3 : Int32)), .val (.int b0), .val (.int b1), .val (.int b2), .val (.ref r)] [(.int b1), (.int (1 : Int32)), (.ref r)])) rfl rfl (hb hby d1_23)
    rw [m1] at v19
    replace v19 : Arv Z h19 r k17 .byte (3 : Int32) [.int b0, .int b1, (.int 0)] (.int 0) := v19
    have f19_2 := f18_2.wr W19
    have Z19 : n0 ≤ h19.size := by rw [W19.size]; exact Z18
    have N19 := Fr.snoc X19 N18 w17
    have K19 := K18.wr W19 (Or.inr kz17)
    refine own_go st19 ?_
    show own_E _ _ _ _ _ _ _ (T19.setTop (mkF m 24 #[.val (.int (3 : Int32)), .val (.int b0), .val (.int b1), .val (.int b2), .val (.ref r)] []))
    refine own_go (fun _ k => XS.iloadN X19.here hx rfl (hb hby d1_24) rfl k) ?_
    show own_E _ _ _ _ _ _ _ (T19.setTop (mkF m 25 #[.val (.int (3 : Int32)), .val (.int b0), .val (.int b1), .val (.int b2), .val (.ref r)] [(.int (3 : Int32))]))
    refine own_go (fun _ k => XT.iconstV X19.here hx rfl (2 : Int32) (hb hby d1_25) (by decide) k) ?_
    show own_E _ _ _ _ _ _ _ (T19.setTop (mkF m 26 #[.val (.int (3 : Int32)), .val (.int b0), .val (.int b1), .val (.int b2), .val (.ref r)] [(.int (2 : Int32)), (.int (3 : Int32))]))
    refine own_go (fun _ k => XS.icmpNo X19.here hx rfl (hb hby d1_26) rfl (by decide) k) ?_
    show own_E _ _ _ _ _ _ _ (T19.setTop (mkF m 29 #[.val (.int (3 : Int32)), .val (.int b0), .val (.int b1), .val (.int b2), .val (.ref r)] []))
    refine own_go (fun _ k => XS.aload X19.here hx rfl (hb hby d1_29) rfl rfl k) ?_
    show own_E _ _ _ _ _ _ _ (T19.setTop (mkF m 31 #[.val (.int (3 : Int32)), .val (.int b0), .val (.int b1), .val (.int b2), .val (.ref r)] [(.ref r)]))
    refine own_go (fun _ k => XT.iconstV X19.here hx rfl (2 : Int32) (hb hby d1_31) (by decide) k) ?_
    show own_E _ _ _ _ _ _ _ (T19.setTop (mkF m 32 #[.val (.int (3 : Int32)), .val (.int b0), .val (.int b1), .val (.int b2), .val (.ref r)] [(.int (2 : Int32)), (.ref r)]))
    refine own_go (fun _ k => XS.iloadN X19.here hx rfl (hb hby d1_32) rfl k) ?_
    show own_E _ _ _ _ _ _ _ (T19.setTop (mkF m 33 #[.val (.int (3 : Int32)), .val (.int b0), .val (.int b1), .val (.int b2), .val (.ref r)] [(.int b2), (.int (2 : Int32)), (.ref r)]))
    obtain ⟨T20, h20, X20, e20, W20, v20, st20⟩ := own_stB X19 hx hZ e19 v19 (j := (2 : Int32)) 2 (by decide) (by simp) (by decide) (g := (mkF m 33 #[.val (.int (3 : Int32)), .val (.int b0), .val (.int b1), .val (.int b2), .val (.ref r)] [(.int b2), (.int (2 : Int32)), (.ref r)])) rfl rfl (hb hby d1_33)
    rw [m2] at v20
    replace v20 : Arv Z h20 r k17 .byte (3 : Int32) [.int b0, .int b1, .int b2] (.int 0) := v20
    have f20_2 := f19_2.wr W20
    have Z20 : n0 ≤ h20.size := by rw [W20.size]; exact Z19
    have N20 := Fr.snoc X20 N19 w17
    have K20 := K19.wr W20 (Or.inr kz17)
    refine own_go st20 ?_
    show own_E _ _ _ _ _ _ _ (T20.setTop (mkF m 34 #[.val (.int (3 : Int32)), .val (.int b0), .val (.int b1), .val (.int b2), .val (.ref r)] []))
    refine own_go (fun _ k => XS.aload X20.here hx rfl (hb hby d1_34) rfl rfl k) ?_
    show own_E _ _ _ _ _ _ _ (T20.setTop (mkF m 36 #[.val (.int (3 : Int32)), .val (.int b0), .val (.int b1), .val (.int b2), .val (.ref r)] [(.ref r)]))
    exact own_ret X20 hx Bd.returns Bd.notSynchronized rfl (Or.inr (Or.inr (Or.inr (Or.inr ⟨rfl, rfl, rfl⟩)))) (hb hby d1_36) (by rw [e20]; exact ⟨N20, K20, _, _, rfl, own_re v20 (fun i hi => own_gd3 i hi), f20_2, kz17⟩) (by decide) (by decide)
theorem d9_0 : decode method_4_code 0 = .ok (.aload_n 0, 1) := by decide +kernel
theorem d9_1 : decode method_4_code 1 = .ok (.arraylength, 1) := by decide +kernel
theorem d9_2 : decode method_4_code 2 = .ok (.ifCond .le 12, 3) := by decide +kernel
theorem d9_5 : decode method_4_code 5 = .ok (.aload_n 0, 1) := by decide +kernel
theorem d9_6 : decode method_4_code 6 = .ok (.iconst 0, 1) := by decide +kernel
theorem d9_7 : decode method_4_code 7 = .ok (.aload_n 0, 1) := by decide +kernel
theorem d9_8 : decode method_4_code 8 = .ok (.iconst 0, 1) := by decide +kernel
theorem d9_9 : decode method_4_code 9 = .ok (.baload, 1) := by decide +kernel
theorem d9_10 : decode method_4_code 10 = .ok (.iconst (-1), 1) := by decide +kernel
theorem d9_11 : decode method_4_code 11 = .ok (.ixor, 1) := by decide +kernel
theorem d9_12 : decode method_4_code 12 = .ok (.i2b, 1) := by decide +kernel
theorem d9_13 : decode method_4_code 13 = .ok (.bastore, 1) := by decide +kernel
theorem d9_14 : decode method_4_code 14 = .ok (.return_, 1) := by decide +kernel
def Qrm9 (a : Addr) (kA : ClassId) (z : Int32) (b0 : Int32) (b1 : Int32) (b2 : Int32) (Z : State) (h0 : Heap) (n0 : Nat) (v : Option Value) (h : Heap) (L : List Loc) : Prop := v = none ∧ Fr n0 L ∧ Keep h0 h [a]
set_option maxRecDepth 65536 in
set_option maxHeartbeats 40000000 in
theorem rm9 (l : Launch) (Z : State) (a0 : Array Value) (hw : ∀ d ∈ tables_1, d.before a0 Z = true) (a : Addr) (kA : ClassId) (z : Int32) (b0 : Int32) (b1 : Int32) (b2 : Int32) (h0 : Heap) (n0 : Nat) (Z0 : n0 ≤ h0.size) (hz : z = 0 ∨ z = 1 ∨ z = 2 ∨ z = 3) (V : Arv Z h0 a kA .byte z [.int b0, .int b1, .int b2] (.int 0)) (ga : n0 ≤ a) :
    MetFree l (⟨"com/example/arborkey/arborkey/DecryptionMaterialsDataKeyPinLaw", "flip", "([B)V"⟩ : MethodName) (head1 (Jvm.Cond.code (⟨"com/example/arborkey/arborkey/DecryptionMaterialsDataKeyPinLaw", "flip", "([B)V"⟩ : MethodName) method_4_code 1 none :: []) ({ frames := 0, cells := 0, slots := 0, locals := 0 } : Room)) (fun ar_ U => ar_ = #[(.ref a)] ∧ Z.Warmed39 U.vm ∧ U.heap = h0) (fun _ _ _ _ _ => True) (fun _ U o U' => ∃ v L, o = .returned v ∧ Qrm9 a kA z b0 b1 b2 Z h0 n0 v U'.heap L ∧ FrameEnd U o U' L ({ frames := 0, cells := 0, slots := 0, locals := 0 } : Room).cells ({ frames := 0, cells := 0, slots := 0, locals := 0 } : Room).slots) := by
  refine MetFree.of_bodySF (plainFor_of_name (by first | (simp [plainName, overriddenIn]; done) | decide +kernel)) hisR ?_
  intro p e s m args below meth c s₁ Bd hml0 hP hK
  obtain ⟨rfl, hZ, hh⟩ := hP
  have hx := Bd.exec
  have hby := Bd.bytes
  have hml : c.maxLocals = 1 := hml0
  have hown : s.vm.findClass "com/example/arborkey/arborkey/DecryptionMaterialsDataKeyPinLaw" = some m.cls := findClass_of_methodNamed Bd.named
  have hnm := (name_of_methodNamed Bd.named Bd.method).1
  have X0 : Stand p l e ({ frames := 0, cells := 0, slots := 0, locals := 0 } : Room) s m #[(.ref a)] below meth c s₁ [] 0 0 := Stand.of_body Bd
  have e0 : s₁.heap = h0 := by rw [← hh, Bd.state]; rfl
  have N0 := Fr.nil n0
  show own_E p e below s (Qrm9 a kA z b0 b1 b2 Z h0 n0) ({ frames := 0, cells := 0, slots := 0, locals := 0 } : Room).cells ({ frames := 0, cells := 0, slots := 0, locals := 0 } : Room).slots (s₁.setTop (entryFrame m #[(.ref a)] 1))
  refine own_go (fun t k => castTop (show _ = (mkF m 0 #[.val (.ref a)] []) from by first | (simp [entryFrame, mkF, argsToLocals, Value.category]; done) | rfl) k) ?_
  show own_E _ _ _ _ _ _ _ (s₁.setTop (mkF m 0 #[.val (.ref a)] []))
  have KK := Keep.refl h0 [a]
  refine own_go (fun _ k => XS.aloadN X0.here hx rfl (hb hby d9_0) rfl rfl k) ?_
  show own_E _ _ _ _ _ _ _ (s₁.setTop (mkF m 1 #[.val (.ref a)] [(.ref a)]))
  obtain ⟨c11, a11, u11⟩ := own_len V
  refine own_go (own_alen X0 hx hZ e0 a11 u11 (g := (mkF m 1 #[.val (.ref a)] [(.ref a)])) rfl rfl (hb hby d9_1)) ?_
  show own_E _ _ _ _ _ _ _ (s₁.setTop (mkF m 2 #[.val (.ref a)] [(.int z)]))
  by_cases q : 0 < z
  ·
    refine own_go (fun _ k => XS.ifNo X0.here hx rfl (hb hby d9_2) rfl (XT.i0_le_f q) k) ?_
    show own_E _ _ _ _ _ _ _ (s₁.setTop (mkF m 5 #[.val (.ref a)] []))
    refine own_go (fun _ k => XS.aloadN X0.here hx rfl (hb hby d9_5) rfl rfl k) ?_
    show own_E _ _ _ _ _ _ _ (s₁.setTop (mkF m 6 #[.val (.ref a)] [(.ref a)]))
    refine own_go (fun _ k => XT.iconstV X0.here hx rfl (0 : Int32) (hb hby d9_6) (by decide) k) ?_
    show own_E _ _ _ _ _ _ _ (s₁.setTop (mkF m 7 #[.val (.ref a)] [(.int (0 : Int32)), (.ref a)]))
    refine own_go (fun _ k => XS.aloadN X0.here hx rfl (hb hby d9_7) rfl rfl k) ?_
    show own_E _ _ _ _ _ _ _ (s₁.setTop (mkF m 8 #[.val (.ref a)] [(.ref a), (.int (0 : Int32)), (.ref a)]))
    refine own_go (fun _ k => XT.iconstV X0.here hx rfl (0 : Int32) (hb hby d9_8) (by decide) k) ?_
    show own_E _ _ _ _ _ _ _ (s₁.setTop (mkF m 9 #[.val (.ref a)] [(.int (0 : Int32)), (.ref a), (.int (0 : Int32)), (.ref a)]))
    obtain ⟨c12, a12, i12, u12⟩ := own_at V (j := (0 : Int32)) ⟨by decide, q⟩
    refine own_go (own_baload X0 hx hZ e0 a12 (j := (0 : Int32)) (v := (.int b0)) i12 u12 (g := (mkF m 9 #[.val (.ref a)] [(.int (0 : Int32)), (.ref a), (.int (0 : Int32)), (.ref a)])) rfl rfl (hb hby d9_9)) ?_
    show own_E _ _ _ _ _ _ _ (s₁.setTop (mkF m 10 #[.val (.ref a)] [(.int b0), (.int (0 : Int32)), (.ref a)]))
    refine own_go (fun _ k => XT.iconstV X0.here hx rfl (-1 : Int32) (hb hby d9_10) (by decide) k) ?_
    show own_E _ _ _ _ _ _ _ (s₁.setTop (mkF m 11 #[.val (.ref a)] [(.int (-1 : Int32)), (.int b0), (.int (0 : Int32)), (.ref a)]))
    refine own_go (fun _ k => XT.ixor X0.here hx rfl (hb hby d9_11) rfl k) ?_
    show own_E _ _ _ _ _ _ _ (s₁.setTop (mkF m 12 #[.val (.ref a)] [(.int (b0 ^^^ (-1 : Int32))), (.int (0 : Int32)), (.ref a)]))
    refine own_go (fun _ k => XT.i2b X0.here hx rfl (hb hby d9_12) rfl k) ?_
    show own_E _ _ _ _ _ _ _ (s₁.setTop (mkF m 13 #[.val (.ref a)] [(.int ((b0 ^^^ (-1 : Int32))).toInt8.toInt32), (.int (0 : Int32)), (.ref a)]))
    obtain ⟨T13, h13, X13, e13, W13, v13, st13⟩ := own_stB X0 hx hZ e0 V (j := (0 : Int32)) 0 (by decide) (by simp) ⟨by decide, q⟩ (g := (mkF m 13 #[.val (.ref a)] [(.int ((b0 ^^^ (-1 : Int32))).toInt8.toInt32), (.int (0 : Int32)), (.ref a)])) rfl rfl (hb hby d9_13)
    replace v13 : Arv Z h13 a kA .byte z [(.int (nar .byte ((b0 ^^^ (-1 : Int32))).toInt8.toInt32)), .int b1, .int b2] (.int 0) := v13
    have Z13 : n0 ≤ h13.size := by rw [W13.size]; exact Z0
    have N13 := Fr.snoc X13 N0 ga
    have K13 := KK.wr W13 (Or.inl (by simp))
    refine own_go st13 ?_
    show own_E _ _ _ _ _ _ _ (T13.setTop (mkF m 14 #[.val (.ref a)] []))
    exact own_ret0 X13 hx Bd.returns Bd.notSynchronized (hb hby d9_14) (by rw [e13]; exact ⟨rfl, N13, K13⟩) (by decide) (by decide)
  ·
    refine own_go (fun _ k => XS.ifYes X0.here hx rfl (pc0 := 2) (pc' := 14) rfl (hb hby d9_2) rfl (XT.i0_le_t q) (by decide) (by decide) k) ?_
    show own_E _ _ _ _ _ _ _ (s₁.setTop (mkF m 14 #[.val (.ref a)] []))
    exact own_ret0 X0 hx Bd.returns Bd.notSynchronized (hb hby d9_14) (by rw [e0]; exact ⟨rfl, N0, KK⟩) (by decide) (by decide)
theorem d10_0 : decode method_5_code 0 = .ok (.aload_n 0, 1) := by decide +kernel
theorem d10_1 : decode method_5_code 1 = .ok (.ifnull 9, 3) := by decide +kernel
theorem d10_4 : decode method_5_code 4 = .ok (.aload_n 0, 1) := by decide +kernel
theorem d10_5 : decode method_5_code 5 = .ok (.arraylength, 1) := by decide +kernel
theorem d10_6 : decode method_5_code 6 = .ok (.iload_n 1, 1) := by decide +kernel
theorem d10_7 : decode method_5_code 7 = .ok (.if_icmp .eq 5, 3) := by decide +kernel
theorem d10_10 : decode method_5_code 10 = .ok (.iconst 0, 1) := by decide +kernel
theorem d10_11 : decode method_5_code 11 = .ok (.ireturn, 1) := by decide +kernel
theorem d10_12 : decode method_5_code 12 = .ok (.iload_n 1, 1) := by decide +kernel
theorem d10_13 : decode method_5_code 13 = .ok (.ifCond .le 12, 3) := by decide +kernel
theorem d10_16 : decode method_5_code 16 = .ok (.aload_n 0, 1) := by decide +kernel
theorem d10_17 : decode method_5_code 17 = .ok (.iconst 0, 1) := by decide +kernel
theorem d10_18 : decode method_5_code 18 = .ok (.baload, 1) := by decide +kernel
theorem d10_19 : decode method_5_code 19 = .ok (.iload_n 2, 1) := by decide +kernel
theorem d10_20 : decode method_5_code 20 = .ok (.if_icmp .eq 5, 3) := by decide +kernel
theorem d10_23 : decode method_5_code 23 = .ok (.iconst 0, 1) := by decide +kernel
theorem d10_24 : decode method_5_code 24 = .ok (.ireturn, 1) := by decide +kernel
theorem d10_25 : decode method_5_code 25 = .ok (.iload_n 1, 1) := by decide +kernel
theorem d10_26 : decode method_5_code 26 = .ok (.iconst 1, 1) := by decide +kernel
theorem d10_27 : decode method_5_code 27 = .ok (.if_icmp .le 12, 3) := by decide +kernel
theorem d10_30 : decode method_5_code 30 = .ok (.aload_n 0, 1) := by decide +kernel
theorem d10_31 : decode method_5_code 31 = .ok (.iconst 1, 1) := by decide +kernel
theorem d10_32 : decode method_5_code 32 = .ok (.baload, 1) := by decide +kernel
theorem d10_33 : decode method_5_code 33 = .ok (.iload_n 3, 1) := by decide +kernel
theorem d10_34 : decode method_5_code 34 = .ok (.if_icmp .eq 5, 3) := by decide +kernel
theorem d10_37 : decode method_5_code 37 = .ok (.iconst 0, 1) := by decide +kernel
theorem d10_38 : decode method_5_code 38 = .ok (.ireturn, 1) := by decide +kernel
theorem d10_39 : decode method_5_code 39 = .ok (.iload_n 1, 1) := by decide +kernel
theorem d10_40 : decode method_5_code 40 = .ok (.iconst 2, 1) := by decide +kernel
theorem d10_41 : decode method_5_code 41 = .ok (.if_icmp .le 13, 3) := by decide +kernel
theorem d10_44 : decode method_5_code 44 = .ok (.aload_n 0, 1) := by decide +kernel
theorem d10_45 : decode method_5_code 45 = .ok (.iconst 2, 1) := by decide +kernel
theorem d10_46 : decode method_5_code 46 = .ok (.baload, 1) := by decide +kernel
theorem d10_47 : decode method_5_code 47 = .ok (.iload 4, 2) := by decide +kernel
theorem d10_49 : decode method_5_code 49 = .ok (.if_icmp .eq 5, 3) := by decide +kernel
theorem d10_52 : decode method_5_code 52 = .ok (.iconst 0, 1) := by decide +kernel
theorem d10_53 : decode method_5_code 53 = .ok (.ireturn, 1) := by decide +kernel
theorem d10_54 : decode method_5_code 54 = .ok (.iconst 1, 1) := by decide +kernel
theorem d10_55 : decode method_5_code 55 = .ok (.ireturn, 1) := by decide +kernel
def Qrm10 (a : Addr) (kA : ClassId) (z : Int32) (b0 : Int32) (b1 : Int32) (b2 : Int32) (Z : State) (h0 : Heap) (n0 : Nat) (v : Option Value) (h : Heap) (L : List Loc) : Prop := v = some (.int 1) ∧ Fr n0 L ∧ h = h0
set_option maxRecDepth 65536 in
set_option maxHeartbeats 40000000 in
theorem rm10 (l : Launch) (Z : State) (a0 : Array Value) (hw : ∀ d ∈ tables_1, d.before a0 Z = true) (a : Addr) (kA : ClassId) (z : Int32) (b0 : Int32) (b1 : Int32) (b2 : Int32) (h0 : Heap) (n0 : Nat) (Z0 : n0 ≤ h0.size) (hz : z = 0 ∨ z = 1 ∨ z = 2 ∨ z = 3) (V : Arv Z h0 a kA .byte z [.int b0, .int b1, .int b2] (.int 0)) :
    MetFree l (⟨"com/example/arborkey/arborkey/DecryptionMaterialsDataKeyPinLaw", "same", "([BIBBB)Z"⟩ : MethodName) (head1 (Jvm.Cond.code (⟨"com/example/arborkey/arborkey/DecryptionMaterialsDataKeyPinLaw", "same", "([BIBBB)Z"⟩ : MethodName) method_5_code 5 (some .boolean) :: []) ({ frames := 0, cells := 0, slots := 0, locals := 0 } : Room)) (fun ar_ U => ar_ = #[(.ref a), (.int z), (.int b0), (.int b1), (.int b2)] ∧ Z.Warmed39 U.vm ∧ U.heap = h0) (fun _ _ _ _ _ => True) (fun _ U o U' => ∃ v L, o = .returned v ∧ Qrm10 a kA z b0 b1 b2 Z h0 n0 v U'.heap L ∧ FrameEnd U o U' L ({ frames := 0, cells := 0, slots := 0, locals := 0 } : Room).cells ({ frames := 0, cells := 0, slots := 0, locals := 0 } : Room).slots) := by
  refine MetFree.of_bodySF (plainFor_of_name (by first | (simp [plainName, overriddenIn]; done) | decide +kernel)) hisR ?_
  intro p e s m args below meth c s₁ Bd hml0 hP hK
  obtain ⟨rfl, hZ, hh⟩ := hP
  have hx := Bd.exec
  have hby := Bd.bytes
  have hml : c.maxLocals = 5 := hml0
  have hown : s.vm.findClass "com/example/arborkey/arborkey/DecryptionMaterialsDataKeyPinLaw" = some m.cls := findClass_of_methodNamed Bd.named
  have hnm := (name_of_methodNamed Bd.named Bd.method).1
  have X0 : Stand p l e ({ frames := 0, cells := 0, slots := 0, locals := 0 } : Room) s m #[(.ref a), (.int z), (.int b0), (.int b1), (.int b2)] below meth c s₁ [] 0 0 := Stand.of_body Bd
  have e0 : s₁.heap = h0 := by rw [← hh, Bd.state]; rfl
  have N0 := Fr.nil n0
  show own_E p e below s (Qrm10 a kA z b0 b1 b2 Z h0 n0) ({ frames := 0, cells := 0, slots := 0, locals := 0 } : Room).cells ({ frames := 0, cells := 0, slots := 0, locals := 0 } : Room).slots (s₁.setTop (entryFrame m #[(.ref a), (.int z), (.int b0), (.int b1), (.int b2)] 5))
  refine own_go (fun t k => castTop (show _ = (mkF m 0 #[.val (.ref a), .val (.int z), .val (.int b0), .val (.int b1), .val (.int b2)] []) from by first | (simp [entryFrame, mkF, argsToLocals, Value.category]; done) | rfl) k) ?_
  show own_E _ _ _ _ _ _ _ (s₁.setTop (mkF m 0 #[.val (.ref a), .val (.int z), .val (.int b0), .val (.int b1), .val (.int b2)] []))
  rcases hz with rfl | rfl | rfl | rfl
  ·
    show own_E _ _ _ _ _ _ _ (s₁.setTop (mkF m 0 #[.val (.ref a), .val (.int (0 : Int32)), .val (.int b0), .val (.int b1), .val (.int b2)] []))
    refine own_go (fun _ k => XS.aloadN X0.here hx rfl (hb hby d10_0) rfl rfl k) ?_
    show own_E _ _ _ _ _ _ _ (s₁.setTop (mkF m 1 #[.val (.ref a), .val (.int (0 : Int32)), .val (.int b0), .val (.int b1), .val (.int b2)] [(.ref a)]))
    refine own_go (fun _ k => XS.ifnullNo X0.here hx rfl (hb hby d10_1) rfl k) ?_
    show own_E _ _ _ _ _ _ _ (s₁.setTop (mkF m 4 #[.val (.ref a), .val (.int (0 : Int32)), .val (.int b0), .val (.int b1), .val (.int b2)] []))
    refine own_go (fun _ k => XS.aloadN X0.here hx rfl (hb hby d10_4) rfl rfl k) ?_
    show own_E _ _ _ _ _ _ _ (s₁.setTop (mkF m 5 #[.val (.ref a), .val (.int (0 : Int32)), .val (.int b0), .val (.int b1), .val (.int b2)] [(.ref a)]))
    obtain ⟨c11, a11, u11⟩ := own_len V
    refine own_go (own_alen X0 hx hZ e0 a11 u11 (g := (mkF m 5 #[.val (.ref a), .val (.int (0 : Int32)), .val (.int b0), .val (.int b1), .val (.int b2)] [(.ref a)])) rfl rfl (hb hby d10_5)) ?_
    show own_E _ _ _ _ _ _ _ (s₁.setTop (mkF m 6 #[.val (.ref a), .val (.int (0 : Int32)), .val (.int b0), .val (.int b1), .val (.int b2)] [(.int (0 : Int32))]))
    refine own_go (fun _ k => XS.iloadN X0.here hx rfl (hb hby d10_6) rfl k) ?_
    show own_E _ _ _ _ _ _ _ (s₁.setTop (mkF m 7 #[.val (.ref a), .val (.int (0 : Int32)), .val (.int b0), .val (.int b1), .val (.int b2)] [(.int (0 : Int32)), (.int (0 : Int32))]))
    refine own_go (fun _ k => XS.icmpYes X0.here hx rfl (pc0 := 7) (pc' := 12) rfl (hb hby d10_7) rfl (by decide) (by decide) (by decide) k) ?_
    show own_E _ _ _ _ _ _ _ (s₁.setTop (mkF m 12 #[.val (.ref a), .val (.int (0 : Int32)), .val (.int b0), .val (.int b1), .val (.int b2)] []))
    refine own_go (fun _ k => XS.iloadN X0.here hx rfl (hb hby d10_12) rfl k) ?_
    show own_E _ _ _ _ _ _ _ (s₁.setTop (mkF m 13 #[.val (.ref a), .val (.int (0 : Int32)), .val (.int b0), .val (.int b1), .val (.int b2)] [(.int (0 : Int32))]))
    refine own_go (fun _ k => XS.ifYes X0.here hx rfl (pc0 := 13) (pc' := 25) rfl (hb hby d10_13) rfl (by decide) (by decide) (by decide) k) ?_
    show own_E _ _ _ _ _ _ _ (s₁.setTop (mkF m 25 #[.val (.ref a), .val (.int (0 : Int32)), .val (.int b0), .val (.int b1), .val (.int b2)] []))
    refine own_go (fun _ k => XS.iloadN X0.here hx rfl (hb hby d10_25) rfl k) ?_
    show own_E _ _ _ _ _ _ _ (s₁.setTop (mkF m 26 #[.val (.ref a), .val (.int (0 : Int32)), .val (.int b0), .val (.int b1), .val (.int b2)] [(.int (0 : Int32))]))
    refine own_go (fun _ k => XT.iconstV X0.here hx rfl (1 : Int32) (hb hby d10_26) (by decide) k) ?_
    show own_E _ _ _ _ _ _ _ (s₁.setTop (mkF m 27 #[.val (.ref a), .val (.int (0 : Int32)), .val (.int b0), .val (.int b1), .val (.int b2)] [(.int (1 : Int32)), (.int (0 : Int32))]))
    refine own_go (fun _ k => XS.icmpYes X0.here hx rfl (pc0 := 27) (pc' := 39) rfl (hb hby d10_27) rfl (by decide) (by decide) (by decide) k) ?_
    show own_E _ _ _ _ _ _ _ (s₁.setTop (mkF m 39 #[.val (.ref a), .val (.int (0 : Int32)), .val (.int b0), .val (.int b1), .val (.int b2)] []))
    refine own_go (fun _ k => XS.iloadN X0.here hx rfl (hb hby d10_39) rfl k) ?_
    show own_E _ _ _ _ _ _ _ (s₁.setTop (mkF m 40 #[.val (.ref a), .val (.int (0 : Int32)), .val (.int b0), .val (.int b1), .val (.int b2)] [(.int (0 : Int32))]))
    refine own_go (fun _ k => XT.iconstV X0.here hx rfl (2 : Int32) (hb hby d10_40) (by decide) k) ?_
    show own_E _ _ _ _ _ _ _ (s₁.setTop (mkF m 41 #[.val (.ref a), .val (.int (0 : Int32)), .val (.int b0), .val (.int b1), .val (.int b2)] [(.int (2 : Int32)), (.int (0 : Int32))]))
    refine own_go (fun _ k => XS.icmpYes X0.here hx rfl (pc0 := 41) (pc' := 54) rfl (hb hby d10_41) rfl (by decide) (by decide) (by decide) k) ?_
    show own_E _ _ _ _ _ _ _ (s₁.setTop (mkF m 54 #[.val (.ref a), .val (.int (0 : Int32)), .val (.int b0), .val (.int b1), .val (.int b2)] []))
    refine own_go (fun _ k => XT.iconstV X0.here hx rfl (1 : Int32) (hb hby d10_54) (by decide) k) ?_
    show own_E _ _ _ _ _ _ _ (s₁.setTop (mkF m 55 #[.val (.ref a), .val (.int (0 : Int32)), .val (.int b0), .val (.int b1), .val (.int b2)] [(.int (1 : Int32))]))
    exact own_ret X0 hx Bd.returns Bd.notSynchronized rfl (Or.inl ⟨rfl, by simp, _, rfl⟩) (hb hby d10_55) (by rw [e0]; exact ⟨rfl, N0, rfl⟩) (by decide) (by decide)
  ·
    show own_E _ _ _ _ _ _ _ (s₁.setTop (mkF m 0 #[.val (.ref a), .val (.int (1 : Int32)), .val (.int b0), .val (.int b1), .val (.int b2)] []))
    refine own_go (fun _ k => XS.aloadN X0.here hx rfl (hb hby d10_0) rfl rfl k) ?_
    show own_E _ _ _ _ _ _ _ (s₁.setTop (mkF m 1 #[.val (.ref a), .val (.int (1 : Int32)), .val (.int b0), .val (.int b1), .val (.int b2)] [(.ref a)]))
    refine own_go (fun _ k => XS.ifnullNo X0.here hx rfl (hb hby d10_1) rfl k) ?_
    show own_E _ _ _ _ _ _ _ (s₁.setTop (mkF m 4 #[.val (.ref a), .val (.int (1 : Int32)), .val (.int b0), .val (.int b1), .val (.int b2)] []))
    refine own_go (fun _ k => XS.aloadN X0.here hx rfl (hb hby d10_4) rfl rfl k) ?_
    show own_E _ _ _ _ _ _ _ (s₁.setTop (mkF m 5 #[.val (.ref a), .val (.int (1 : Int32)), .val (.int b0), .val (.int b1), .val (.int b2)] [(.ref a)]))
    obtain ⟨c12, a12, u12⟩ := own_len V
    refine own_go (own_alen X0 hx hZ e0 a12 u12 (g := (mkF m 5 #[.val (.ref a), .val (.int (1 : Int32)), .val (.int b0), .val (.int b1), .val (.int b2)] [(.ref a)])) rfl rfl (hb hby d10_5)) ?_
    show own_E _ _ _ _ _ _ _ (s₁.setTop (mkF m 6 #[.val (.ref a), .val (.int (1 : Int32)), .val (.int b0), .val (.int b1), .val (.int b2)] [(.int (1 : Int32))]))
    refine own_go (fun _ k => XS.iloadN X0.here hx rfl (hb hby d10_6) rfl k) ?_
    show own_E _ _ _ _ _ _ _ (s₁.setTop (mkF m 7 #[.val (.ref a), .val (.int (1 : Int32)), .val (.int b0), .val (.int b1), .val (.int b2)] [(.int (1 : Int32)), (.int (1 : Int32))]))
    refine own_go (fun _ k => XS.icmpYes X0.here hx rfl (pc0 := 7) (pc' := 12) rfl (hb hby d10_7) rfl (by decide) (by decide) (by decide) k) ?_
    show own_E _ _ _ _ _ _ _ (s₁.setTop (mkF m 12 #[.val (.ref a), .val (.int (1 : Int32)), .val (.int b0), .val (.int b1), .val (.int b2)] []))
    refine own_go (fun _ k => XS.iloadN X0.here hx rfl (hb hby d10_12) rfl k) ?_
    show own_E _ _ _ _ _ _ _ (s₁.setTop (mkF m 13 #[.val (.ref a), .val (.int (1 : Int32)), .val (.int b0), .val (.int b1), .val (.int b2)] [(.int (1 : Int32))]))
    refine own_go (fun _ k => XS.ifNo X0.here hx rfl (hb hby d10_13) rfl (by decide) k) ?_
    show own_E _ _ _ _ _ _ _ (s₁.setTop (mkF m 16 #[.val (.ref a), .val (.int (1 : Int32)), .val (.int b0), .val (.int b1), .val (.int b2)] []))
    refine own_go (fun _ k => XS.aloadN X0.here hx rfl (hb hby d10_16) rfl rfl k) ?_
    show own_E _ _ _ _ _ _ _ (s₁.setTop (mkF m 17 #[.val (.ref a), .val (.int (1 : Int32)), .val (.int b0), .val (.int b1), .val (.int b2)] [(.ref a)]))
    refine own_go (fun _ k => XT.iconstV X0.here hx rfl (0 : Int32) (hb hby d10_17) (by decide) k) ?_
    show own_E _ _ _ _ _ _ _ (s₁.setTop (mkF m 18 #[.val (.ref a), .val (.int (1 : Int32)), .val (.int b0), .val (.int b1), .val (.int b2)] [(.int (0 : Int32)), (.ref a)]))
    obtain ⟨c13, a13, i13, u13⟩ := own_at V (j := (0 : Int32)) (by decide)
    refine own_go (own_baload X0 hx hZ e0 a13 (j := (0 : Int32)) (v := (.int b0)) i13 u13 (g := (mkF m 18 #[.val (.ref a), .val (.int (1 : Int32)), .val (.int b0), .val (.int b1), .val (.int b2)] [(.int (0 : Int32)), (.ref a)])) rfl rfl (hb hby d10_18)) ?_
    show own_E _ _ _ _ _ _ _ (s₁.setTop (mkF m 19 #[.val (.ref a), .val (.int (1 : Int32)), .val (.int b0), .val (.int b1), .val (.int b2)] [(.int b0)]))
    refine own_go (fun _ k => XS.iloadN X0.here hx rfl (hb hby d10_19) rfl k) ?_
    show own_E _ _ _ _ _ _ _ (s₁.setTop (mkF m 20 #[.val (.ref a), .val (.int (1 : Int32)), .val (.int b0), .val (.int b1), .val (.int b2)] [(.int b0), (.int b0)]))
    refine own_go (fun _ k => XS.icmpYes X0.here hx rfl (pc0 := 20) (pc' := 25) rfl (hb hby d10_20) rfl (teq rfl).1 (by decide) (by decide) k) ?_
    show own_E _ _ _ _ _ _ _ (s₁.setTop (mkF m 25 #[.val (.ref a), .val (.int (1 : Int32)), .val (.int b0), .val (.int b1), .val (.int b2)] []))
    refine own_go (fun _ k => XS.iloadN X0.here hx rfl (hb hby d10_25) rfl k) ?_
    show own_E _ _ _ _ _ _ _ (s₁.setTop (mkF m 26 #[.val (.ref a), .val (.int (1 : Int32)), .val (.int b0), .val (.int b1), .val (.int b2)] [(.int (1 : Int32))]))
    refine own_go (fun _ k => XT.iconstV X0.here hx rfl (1 : Int32) (hb hby d10_26) (by decide) k) ?_
    show own_E _ _ _ _ _ _ _ (s₁.setTop (mkF m 27 #[.val (.ref a), .val (.int (1 : Int32)), .val (.int b0), .val (.int b1), .val (.int b2)] [(.int (1 : Int32)), (.int (1 : Int32))]))
    refine own_go (fun _ k => XS.icmpYes X0.here hx rfl (pc0 := 27) (pc' := 39) rfl (hb hby d10_27) rfl (by decide) (by decide) (by decide) k) ?_
    show own_E _ _ _ _ _ _ _ (s₁.setTop (mkF m 39 #[.val (.ref a), .val (.int (1 : Int32)), .val (.int b0), .val (.int b1), .val (.int b2)] []))
    refine own_go (fun _ k => XS.iloadN X0.here hx rfl (hb hby d10_39) rfl k) ?_
    show own_E _ _ _ _ _ _ _ (s₁.setTop (mkF m 40 #[.val (.ref a), .val (.int (1 : Int32)), .val (.int b0), .val (.int b1), .val (.int b2)] [(.int (1 : Int32))]))
    refine own_go (fun _ k => XT.iconstV X0.here hx rfl (2 : Int32) (hb hby d10_40) (by decide) k) ?_
    show own_E _ _ _ _ _ _ _ (s₁.setTop (mkF m 41 #[.val (.ref a), .val (.int (1 : Int32)), .val (.int b0), .val (.int b1), .val (.int b2)] [(.int (2 : Int32)), (.int (1 : Int32))]))
    refine own_go (fun _ k => XS.icmpYes X0.here hx rfl (pc0 := 41) (pc' := 54) rfl (hb hby d10_41) rfl (by decide) (by decide) (by decide) k) ?_
    show own_E _ _ _ _ _ _ _ (s₁.setTop (mkF m 54 #[.val (.ref a), .val (.int (1 : Int32)), .val (.int b0), .val (.int b1), .val (.int b2)] []))
    refine own_go (fun _ k => XT.iconstV X0.here hx rfl (1 : Int32) (hb hby d10_54) (by decide) k) ?_
    show own_E _ _ _ _ _ _ _ (s₁.setTop (mkF m 55 #[.val (.ref a), .val (.int (1 : Int32)), .val (.int b0), .val (.int b1), .val (.int b2)] [(.int (1 : Int32))]))
    exact own_ret X0 hx Bd.returns Bd.notSynchronized rfl (Or.inl ⟨rfl, by simp, _, rfl⟩) (hb hby d10_55) (by rw [e0]; exact ⟨rfl, N0, rfl⟩) (by decide) (by decide)
  ·
    show own_E _ _ _ _ _ _ _ (s₁.setTop (mkF m 0 #[.val (.ref a), .val (.int (2 : Int32)), .val (.int b0), .val (.int b1), .val (.int b2)] []))
    refine own_go (fun _ k => XS.aloadN X0.here hx rfl (hb hby d10_0) rfl rfl k) ?_
    show own_E _ _ _ _ _ _ _ (s₁.setTop (mkF m 1 #[.val (.ref a), .val (.int (2 : Int32)), .val (.int b0), .val (.int b1), .val (.int b2)] [(.ref a)]))
    refine own_go (fun _ k => XS.ifnullNo X0.here hx rfl (hb hby d10_1) rfl k) ?_
    show own_E _ _ _ _ _ _ _ (s₁.setTop (mkF m 4 #[.val (.ref a), .val (.int (2 : Int32)), .val (.int b0), .val (.int b1), .val (.int b2)] []))
    refine own_go (fun _ k => XS.aloadN X0.here hx rfl (hb hby d10_4) rfl rfl k) ?_
    show own_E _ _ _ _ _ _ _ (s₁.setTop (mkF m 5 #[.val (.ref a), .val (.int (2 : Int32)), .val (.int b0), .val (.int b1), .val (.int b2)] [(.ref a)]))
    obtain ⟨c14, a14, u14⟩ := own_len V
    refine own_go (own_alen X0 hx hZ e0 a14 u14 (g := (mkF m 5 #[.val (.ref a), .val (.int (2 : Int32)), .val (.int b0), .val (.int b1), .val (.int b2)] [(.ref a)])) rfl rfl (hb hby d10_5)) ?_
    show own_E _ _ _ _ _ _ _ (s₁.setTop (mkF m 6 #[.val (.ref a), .val (.int (2 : Int32)), .val (.int b0), .val (.int b1), .val (.int b2)] [(.int (2 : Int32))]))
    refine own_go (fun _ k => XS.iloadN X0.here hx rfl (hb hby d10_6) rfl k) ?_
    show own_E _ _ _ _ _ _ _ (s₁.setTop (mkF m 7 #[.val (.ref a), .val (.int (2 : Int32)), .val (.int b0), .val (.int b1), .val (.int b2)] [(.int (2 : Int32)), (.int (2 : Int32))]))
    refine own_go (fun _ k => XS.icmpYes X0.here hx rfl (pc0 := 7) (pc' := 12) rfl (hb hby d10_7) rfl (by decide) (by decide) (by decide) k) ?_
    show own_E _ _ _ _ _ _ _ (s₁.setTop (mkF m 12 #[.val (.ref a), .val (.int (2 : Int32)), .val (.int b0), .val (.int b1), .val (.int b2)] []))
    refine own_go (fun _ k => XS.iloadN X0.here hx rfl (hb hby d10_12) rfl k) ?_
    show own_E _ _ _ _ _ _ _ (s₁.setTop (mkF m 13 #[.val (.ref a), .val (.int (2 : Int32)), .val (.int b0), .val (.int b1), .val (.int b2)] [(.int (2 : Int32))]))
    refine own_go (fun _ k => XS.ifNo X0.here hx rfl (hb hby d10_13) rfl (by decide) k) ?_
    show own_E _ _ _ _ _ _ _ (s₁.setTop (mkF m 16 #[.val (.ref a), .val (.int (2 : Int32)), .val (.int b0), .val (.int b1), .val (.int b2)] []))
    refine own_go (fun _ k => XS.aloadN X0.here hx rfl (hb hby d10_16) rfl rfl k) ?_
    show own_E _ _ _ _ _ _ _ (s₁.setTop (mkF m 17 #[.val (.ref a), .val (.int (2 : Int32)), .val (.int b0), .val (.int b1), .val (.int b2)] [(.ref a)]))
    refine own_go (fun _ k => XT.iconstV X0.here hx rfl (0 : Int32) (hb hby d10_17) (by decide) k) ?_
    show own_E _ _ _ _ _ _ _ (s₁.setTop (mkF m 18 #[.val (.ref a), .val (.int (2 : Int32)), .val (.int b0), .val (.int b1), .val (.int b2)] [(.int (0 : Int32)), (.ref a)]))
    obtain ⟨c15, a15, i15, u15⟩ := own_at V (j := (0 : Int32)) (by decide)
    refine own_go (own_baload X0 hx hZ e0 a15 (j := (0 : Int32)) (v := (.int b0)) i15 u15 (g := (mkF m 18 #[.val (.ref a), .val (.int (2 : Int32)), .val (.int b0), .val (.int b1), .val (.int b2)] [(.int (0 : Int32)), (.ref a)])) rfl rfl (hb hby d10_18)) ?_
    show own_E _ _ _ _ _ _ _ (s₁.setTop (mkF m 19 #[.val (.ref a), .val (.int (2 : Int32)), .val (.int b0), .val (.int b1), .val (.int b2)] [(.int b0)]))
    refine own_go (fun _ k => XS.iloadN X0.here hx rfl (hb hby d10_19) rfl k) ?_
    show own_E _ _ _ _ _ _ _ (s₁.setTop (mkF m 20 #[.val (.ref a), .val (.int (2 : Int32)), .val (.int b0), .val (.int b1), .val (.int b2)] [(.int b0), (.int b0)]))
    refine own_go (fun _ k => XS.icmpYes X0.here hx rfl (pc0 := 20) (pc' := 25) rfl (hb hby d10_20) rfl (teq rfl).1 (by decide) (by decide) k) ?_
    show own_E _ _ _ _ _ _ _ (s₁.setTop (mkF m 25 #[.val (.ref a), .val (.int (2 : Int32)), .val (.int b0), .val (.int b1), .val (.int b2)] []))
    refine own_go (fun _ k => XS.iloadN X0.here hx rfl (hb hby d10_25) rfl k) ?_
    show own_E _ _ _ _ _ _ _ (s₁.setTop (mkF m 26 #[.val (.ref a), .val (.int (2 : Int32)), .val (.int b0), .val (.int b1), .val (.int b2)] [(.int (2 : Int32))]))
    refine own_go (fun _ k => XT.iconstV X0.here hx rfl (1 : Int32) (hb hby d10_26) (by decide) k) ?_
    show own_E _ _ _ _ _ _ _ (s₁.setTop (mkF m 27 #[.val (.ref a), .val (.int (2 : Int32)), .val (.int b0), .val (.int b1), .val (.int b2)] [(.int (1 : Int32)), (.int (2 : Int32))]))
    refine own_go (fun _ k => XS.icmpNo X0.here hx rfl (hb hby d10_27) rfl (by decide) k) ?_
    show own_E _ _ _ _ _ _ _ (s₁.setTop (mkF m 30 #[.val (.ref a), .val (.int (2 : Int32)), .val (.int b0), .val (.int b1), .val (.int b2)] []))
    refine own_go (fun _ k => XS.aloadN X0.here hx rfl (hb hby d10_30) rfl rfl k) ?_
    show own_E _ _ _ _ _ _ _ (s₁.setTop (mkF m 31 #[.val (.ref a), .val (.int (2 : Int32)), .val (.int b0), .val (.int b1), .val (.int b2)] [(.ref a)]))
    refine own_go (fun _ k => XT.iconstV X0.here hx rfl (1 : Int32) (hb hby d10_31) (by decide) k) ?_
    show own_E _ _ _ _ _ _ _ (s₁.setTop (mkF m 32 #[.val (.ref a), .val (.int (2 : Int32)), .val (.int b0), .val (.int b1), .val (.int b2)] [(.int (1 : Int32)), (.ref a)]))
    obtain ⟨c16, a16, i16, u16⟩ := own_at V (j := (1 : Int32)) (by decide)
    refine own_go (own_baload X0 hx hZ e0 a16 (j := (1 : Int32)) (v := (.int b1)) i16 u16 (g := (mkF m 32 #[.val (.ref a), .val (.int (2 : Int32)), .val (.int b0), .val (.int b1), .val (.int b2)] [(.int (1 : Int32)), (.ref a)])) rfl rfl (hb hby d10_32)) ?_
    show own_E _ _ _ _ _ _ _ (s₁.setTop (mkF m 33 #[.val (.ref a), .val (.int (2 : Int32)), .val (.int b0), .val (.int b1), .val (.int b2)] [(.int b1)]))
    refine own_go (fun _ k => XS.iloadN X0.here hx rfl (hb hby d10_33) rfl k) ?_
    show own_E _ _ _ _ _ _ _ (s₁.setTop (mkF m 34 #[.val (.ref a), .val (.int (2 : Int32)), .val (.int b0), .val (.int b1), .val (.int b2)] [(.int b1), (.int b1)]))
    refine own_go (fun _ k => XS.icmpYes X0.here hx rfl (pc0 := 34) (pc' := 39) rfl (hb hby d10_34) rfl (teq rfl).1 (by decide) (by decide) k) ?_
    show own_E _ _ _ _ _ _ _ (s₁.setTop (mkF m 39 #[.val (.ref a), .val (.int (2 : Int32)), .val (.int b0), .val (.int b1), .val (.int b2)] []))
    refine own_go (fun _ k => XS.iloadN X0.here hx rfl (hb hby d10_39) rfl k) ?_
    show own_E _ _ _ _ _ _ _ (s₁.setTop (mkF m 40 #[.val (.ref a), .val (.int (2 : Int32)), .val (.int b0), .val (.int b1), .val (.int b2)] [(.int (2 : Int32))]))
    refine own_go (fun _ k => XT.iconstV X0.here hx rfl (2 : Int32) (hb hby d10_40) (by decide) k) ?_
    show own_E _ _ _ _ _ _ _ (s₁.setTop (mkF m 41 #[.val (.ref a), .val (.int (2 : Int32)), .val (.int b0), .val (.int b1), .val (.int b2)] [(.int (2 : Int32)), (.int (2 : Int32))]))
    refine own_go (fun _ k => XS.icmpYes X0.here hx rfl (pc0 := 41) (pc' := 54) rfl (hb hby d10_41) rfl (by decide) (by decide) (by decide) k) ?_
    show own_E _ _ _ _ _ _ _ (s₁.setTop (mkF m 54 #[.val (.ref a), .val (.int (2 : Int32)), .val (.int b0), .val (.int b1), .val (.int b2)] []))
    refine own_go (fun _ k => XT.iconstV X0.here hx rfl (1 : Int32) (hb hby d10_54) (by decide) k) ?_
    show own_E _ _ _ _ _ _ _ (s₁.setTop (mkF m 55 #[.val (.ref a), .val (.int (2 : Int32)), .val (.int b0), .val (.int b1), .val (.int b2)] [(.int (1 : Int32))]))
    exact own_ret X0 hx Bd.returns Bd.notSynchronized rfl (Or.inl ⟨rfl, by simp, _, rfl⟩) (hb hby d10_55) (by rw [e0]; exact ⟨rfl, N0, rfl⟩) (by decide) (by decide)
  ·
    show own_E _ _ _ _ _ _ _ (s₁.setTop (mkF m 0 #[.val (.ref a), .val (.int (3 : Int32)), .val (.int b0), .val (.int b1), .val (.int b2)] []))
    refine own_go (fun _ k => XS.aloadN X0.here hx rfl (hb hby d10_0) rfl rfl k) ?_
    show own_E _ _ _ _ _ _ _ (s₁.setTop (mkF m 1 #[.val (.ref a), .val (.int (3 : Int32)), .val (.int b0), .val (.int b1), .val (.int b2)] [(.ref a)]))
    refine own_go (fun _ k => XS.ifnullNo X0.here hx rfl (hb hby d10_1) rfl k) ?_
    show own_E _ _ _ _ _ _ _ (s₁.setTop (mkF m 4 #[.val (.ref a), .val (.int (3 : Int32)), .val (.int b0), .val (.int b1), .val (.int b2)] []))
    refine own_go (fun _ k => XS.aloadN X0.here hx rfl (hb hby d10_4) rfl rfl k) ?_
    show own_E _ _ _ _ _ _ _ (s₁.setTop (mkF m 5 #[.val (.ref a), .val (.int (3 : Int32)), .val (.int b0), .val (.int b1), .val (.int b2)] [(.ref a)]))
    obtain ⟨c17, a17, u17⟩ := own_len V
    refine own_go (own_alen X0 hx hZ e0 a17 u17 (g := (mkF m 5 #[.val (.ref a), .val (.int (3 : Int32)), .val (.int b0), .val (.int b1), .val (.int b2)] [(.ref a)])) rfl rfl (hb hby d10_5)) ?_
    show own_E _ _ _ _ _ _ _ (s₁.setTop (mkF m 6 #[.val (.ref a), .val (.int (3 : Int32)), .val (.int b0), .val (.int b1), .val (.int b2)] [(.int (3 : Int32))]))
    refine own_go (fun _ k => XS.iloadN X0.here hx rfl (hb hby d10_6) rfl k) ?_
    show own_E _ _ _ _ _ _ _ (s₁.setTop (mkF m 7 #[.val (.ref a), .val (.int (3 : Int32)), .val (.int b0), .val (.int b1), .val (.int b2)] [(.int (3 : Int32)), (.int (3 : Int32))]))
    refine own_go (fun _ k => XS.icmpYes X0.here hx rfl (pc0 := 7) (pc' := 12) rfl (hb hby d10_7) rfl (by decide) (by decide) (by decide) k) ?_
    show own_E _ _ _ _ _ _ _ (s₁.setTop (mkF m 12 #[.val (.ref a), .val (.int (3 : Int32)), .val (.int b0), .val (.int b1), .val (.int b2)] []))
    refine own_go (fun _ k => XS.iloadN X0.here hx rfl (hb hby d10_12) rfl k) ?_
    show own_E _ _ _ _ _ _ _ (s₁.setTop (mkF m 13 #[.val (.ref a), .val (.int (3 : Int32)), .val (.int b0), .val (.int b1), .val (.int b2)] [(.int (3 : Int32))]))
    refine own_go (fun _ k => XS.ifNo X0.here hx rfl (hb hby d10_13) rfl (by decide) k) ?_
    show own_E _ _ _ _ _ _ _ (s₁.setTop (mkF m 16 #[.val (.ref a), .val (.int (3 : Int32)), .val (.int b0), .val (.int b1), .val (.int b2)] []))
    refine own_go (fun _ k => XS.aloadN X0.here hx rfl (hb hby d10_16) rfl rfl k) ?_
    show own_E _ _ _ _ _ _ _ (s₁.setTop (mkF m 17 #[.val (.ref a), .val (.int (3 : Int32)), .val (.int b0), .val (.int b1), .val (.int b2)] [(.ref a)]))
    refine own_go (fun _ k => XT.iconstV X0.here hx rfl (0 : Int32) (hb hby d10_17) (by decide) k) ?_
    show own_E _ _ _ _ _ _ _ (s₁.setTop (mkF m 18 #[.val (.ref a), .val (.int (3 : Int32)), .val (.int b0), .val (.int b1), .val (.int b2)] [(.int (0 : Int32)), (.ref a)]))
    obtain ⟨c18, a18, i18, u18⟩ := own_at V (j := (0 : Int32)) (by decide)
    refine own_go (own_baload X0 hx hZ e0 a18 (j := (0 : Int32)) (v := (.int b0)) i18 u18 (g := (mkF m 18 #[.val (.ref a), .val (.int (3 : Int32)), .val (.int b0), .val (.int b1), .val (.int b2)] [(.int (0 : Int32)), (.ref a)])) rfl rfl (hb hby d10_18)) ?_
    show own_E _ _ _ _ _ _ _ (s₁.setTop (mkF m 19 #[.val (.ref a), .val (.int (3 : Int32)), .val (.int b0), .val (.int b1), .val (.int b2)] [(.int b0)]))
    refine own_go (fun _ k => XS.iloadN X0.here hx rfl (hb hby d10_19) rfl k) ?_
    show own_E _ _ _ _ _ _ _ (s₁.setTop (mkF m 20 #[.val (.ref a), .val (.int (3 : Int32)), .val (.int b0), .val (.int b1), .val (.int b2)] [(.int b0), (.int b0)]))
    refine own_go (fun _ k => XS.icmpYes X0.here hx rfl (pc0 := 20) (pc' := 25) rfl (hb hby d10_20) rfl (teq rfl).1 (by decide) (by decide) k) ?_
    show own_E _ _ _ _ _ _ _ (s₁.setTop (mkF m 25 #[.val (.ref a), .val (.int (3 : Int32)), .val (.int b0), .val (.int b1), .val (.int b2)] []))
    refine own_go (fun _ k => XS.iloadN X0.here hx rfl (hb hby d10_25) rfl k) ?_
    show own_E _ _ _ _ _ _ _ (s₁.setTop (mkF m 26 #[.val (.ref a), .val (.int (3 : Int32)), .val (.int b0), .val (.int b1), .val (.int b2)] [(.int (3 : Int32))]))
    refine own_go (fun _ k => XT.iconstV X0.here hx rfl (1 : Int32) (hb hby d10_26) (by decide) k) ?_
    show own_E _ _ _ _ _ _ _ (s₁.setTop (mkF m 27 #[.val (.ref a), .val (.int (3 : Int32)), .val (.int b0), .val (.int b1), .val (.int b2)] [(.int (1 : Int32)), (.int (3 : Int32))]))
    refine own_go (fun _ k => XS.icmpNo X0.here hx rfl (hb hby d10_27) rfl (by decide) k) ?_
    show own_E _ _ _ _ _ _ _ (s₁.setTop (mkF m 30 #[.val (.ref a), .val (.int (3 : Int32)), .val (.int b0), .val (.int b1), .val (.int b2)] []))
    refine own_go (fun _ k => XS.aloadN X0.here hx rfl (hb hby d10_30) rfl rfl k) ?_
    show own_E _ _ _ _ _ _ _ (s₁.setTop (mkF m 31 #[.val (.ref a), .val (.int (3 : Int32)), .val (.int b0), .val (.int b1), .val (.int b2)] [(.ref a)]))
    refine own_go (fun _ k => XT.iconstV X0.here hx rfl (1 : Int32) (hb hby d10_31) (by decide) k) ?_
    show own_E _ _ _ _ _ _ _ (s₁.setTop (mkF m 32 #[.val (.ref a), .val (.int (3 : Int32)), .val (.int b0), .val (.int b1), .val (.int b2)] [(.int (1 : Int32)), (.ref a)]))
    obtain ⟨c19, a19, i19, u19⟩ := own_at V (j := (1 : Int32)) (by decide)
    refine own_go (own_baload X0 hx hZ e0 a19 (j := (1 : Int32)) (v := (.int b1)) i19 u19 (g := (mkF m 32 #[.val (.ref a), .val (.int (3 : Int32)), .val (.int b0), .val (.int b1), .val (.int b2)] [(.int (1 : Int32)), (.ref a)])) rfl rfl (hb hby d10_32)) ?_
    show own_E _ _ _ _ _ _ _ (s₁.setTop (mkF m 33 #[.val (.ref a), .val (.int (3 : Int32)), .val (.int b0), .val (.int b1), .val (.int b2)] [(.int b1)]))
    refine own_go (fun _ k => XS.iloadN X0.here hx rfl (hb hby d10_33) rfl k) ?_
    show own_E _ _ _ _ _ _ _ (s₁.setTop (mkF m 34 #[.val (.ref a), .val (.int (3 : Int32)), .val (.int b0), .val (.int b1), .val (.int b2)] [(.int b1), (.int b1)]))
    refine own_go (fun _ k => XS.icmpYes X0.here hx rfl (pc0 := 34) (pc' := 39) rfl (hb hby d10_34) rfl (teq rfl).1 (by decide) (by decide) k) ?_
    show own_E _ _ _ _ _ _ _ (s₁.setTop (mkF m 39 #[.val (.ref a), .val (.int (3 : Int32)), .val (.int b0), .val (.int b1), .val (.int b2)] []))
    refine own_go (fun _ k => XS.iloadN X0.here hx rfl (hb hby d10_39) rfl k) ?_
    show own_E _ _ _ _ _ _ _ (s₁.setTop (mkF m 40 #[.val (.ref a), .val (.int (3 : Int32)), .val (.int b0), .val (.int b1), .val (.int b2)] [(.int (3 : Int32))]))
    refine own_go (fun _ k => XT.iconstV X0.here hx rfl (2 : Int32) (hb hby d10_40) (by decide) k) ?_
    show own_E _ _ _ _ _ _ _ (s₁.setTop (mkF m 41 #[.val (.ref a), .val (.int (3 : Int32)), .val (.int b0), .val (.int b1), .val (.int b2)] [(.int (2 : Int32)), (.int (3 : Int32))]))
    refine own_go (fun _ k => XS.icmpNo X0.here hx rfl (hb hby d10_41) rfl (by decide) k) ?_
    show own_E _ _ _ _ _ _ _ (s₁.setTop (mkF m 44 #[.val (.ref a), .val (.int (3 : Int32)), .val (.int b0), .val (.int b1), .val (.int b2)] []))
    refine own_go (fun _ k => XS.aloadN X0.here hx rfl (hb hby d10_44) rfl rfl k) ?_
    show own_E _ _ _ _ _ _ _ (s₁.setTop (mkF m 45 #[.val (.ref a), .val (.int (3 : Int32)), .val (.int b0), .val (.int b1), .val (.int b2)] [(.ref a)]))
    refine own_go (fun _ k => XT.iconstV X0.here hx rfl (2 : Int32) (hb hby d10_45) (by decide) k) ?_
    show own_E _ _ _ _ _ _ _ (s₁.setTop (mkF m 46 #[.val (.ref a), .val (.int (3 : Int32)), .val (.int b0), .val (.int b1), .val (.int b2)] [(.int (2 : Int32)), (.ref a)]))
    obtain ⟨c20, a20, i20, u20⟩ := own_at V (j := (2 : Int32)) (by decide)
    refine own_go (own_baload X0 hx hZ e0 a20 (j := (2 : Int32)) (v := (.int b2)) i20 u20 (g := (mkF m 46 #[.val (.ref a), .val (.int (3 : Int32)), .val (.int b0), .val (.int b1), .val (.int b2)] [(.int (2 : Int32)), (.ref a)])) rfl rfl (hb hby d10_46)) ?_
    show own_E _ _ _ _ _ _ _ (s₁.setTop (mkF m 47 #[.val (.ref a), .val (.int (3 : Int32)), .val (.int b0), .val (.int b1), .val (.int b2)] [(.int b2)]))
    refine own_go (fun _ k => XS.iload X0.here hx rfl (hb hby d10_47) rfl k) ?_
    show own_E _ _ _ _ _ _ _ (s₁.setTop (mkF m 49 #[.val (.ref a), .val (.int (3 : Int32)), .val (.int b0), .val (.int b1), .val (.int b2)] [(.int b2), (.int b2)]))
    refine own_go (fun _ k => XS.icmpYes X0.here hx rfl (pc0 := 49) (pc' := 54) rfl (hb hby d10_49) rfl (teq rfl).1 (by decide) (by decide) k) ?_
    show own_E _ _ _ _ _ _ _ (s₁.setTop (mkF m 54 #[.val (.ref a), .val (.int (3 : Int32)), .val (.int b0), .val (.int b1), .val (.int b2)] []))
    refine own_go (fun _ k => XT.iconstV X0.here hx rfl (1 : Int32) (hb hby d10_54) (by decide) k) ?_
    show own_E _ _ _ _ _ _ _ (s₁.setTop (mkF m 55 #[.val (.ref a), .val (.int (3 : Int32)), .val (.int b0), .val (.int b1), .val (.int b2)] [(.int (1 : Int32))]))
    exact own_ret X0 hx Bd.returns Bd.notSynchronized rfl (Or.inl ⟨rfl, by simp, _, rfl⟩) (hb hby d10_55) (by rw [e0]; exact ⟨rfl, N0, rfl⟩) (by decide) (by decide)
def Qrm0 (p0 : Int32) (p1 : Int32) (em : Addr) (Z : State) (h0 : Heap) (n0 : Nat) (v : Option Value) (h : Heap) (L : List Loc) : Prop := v = some (.int 1) ∧ Fr n0 L
set_option maxRecDepth 65536 in
set_option maxHeartbeats 40000000 in
theorem rm0 (l : Launch) (Z : State) (a0 : Array Value) (hw : ∀ d ∈ tables_1, d.before a0 Z = true) (ws : List Jvm.Cond) (p0 : Int32) (p1 : Int32) (em : Addr) (h0 : Heap) (n0 : Nat) (Z0 : n0 ≤ h0.size) (O0 : Old Z n0 h0) (SM : Sta Z Z.heap "java/util/ImmutableCollections" "EMPTY_MAP" "Ljava/util/ImmutableCollections$MapN;" (.ref em)) (EM : Exa Z Z.heap em "java/util/ImmutableCollections$MapN") :
    MetFree l x (head1 (Jvm.Cond.code x code maxLocals ret :: ws) room_1) (fun ar_ U => ar_ = #[(.int p0), (.int p1)] ∧ Z.Warmed39 U.vm ∧ U.heap = h0) (fun _ _ _ _ _ => True) (fun _ U o U' => ∃ v L, o = .returned v ∧ Qrm0 p0 p1 em Z h0 n0 v U'.heap L ∧ FrameEnd U o U' L room_1.cells room_1.slots) := by
  refine MetFree.of_bodySF (plainFor_of_name (by first | (simp [plainName, overriddenIn]; done) | decide +kernel)) hisR ?_
  intro p e s m args below meth c s₁ Bd hml0 hP hK
  obtain ⟨rfl, hZ, hh⟩ := hP
  have hx := Bd.exec
  have hby := Bd.bytes
  have hml : c.maxLocals = 19 := hml0
  have hown : s.vm.findClass "com/example/arborkey/arborkey/DecryptionMaterialsDataKeyPinLaw" = some m.cls := findClass_of_methodNamed Bd.named
  have hnm := (name_of_methodNamed Bd.named Bd.method).1
  have X0 : Stand p l e room_1 s m #[(.int p0), (.int p1)] below meth c s₁ [] 0 0 := Stand.of_body Bd
  have e0 : s₁.heap = h0 := by rw [← hh, Bd.state]; rfl
  have N0 := Fr.nil n0
  show own_E p e below s (Qrm0 p0 p1 em Z h0 n0) room_1.cells room_1.slots (s₁.setTop (entryFrame m #[(.int p0), (.int p1)] maxLocals))
  refine own_go (fun t k => castTop (show _ = (mkF m 0 #[.val (.int p0), .val (.int p1), .unset, .unset, .unset, .unset, .unset, .unset, .unset, .unset, .unset, .unset, .unset, .unset, .unset, .unset, .unset, .unset, .unset] []) from by first | (simp [entryFrame, mkF, argsToLocals, Value.category, maxLocals]; done) | rfl) k) ?_
  show own_E _ _ _ _ _ _ _ (s₁.setTop (mkF m 0 #[.val (.int p0), .val (.int p1), .unset, .unset, .unset, .unset, .unset, .unset, .unset, .unset, .unset, .unset, .unset, .unset, .unset, .unset, .unset, .unset, .unset] []))
  refine own_go (fun _ k => XS.iloadN X0.here hx rfl (hb hby at_0) rfl k) ?_
  show own_E _ _ _ _ _ _ _ (s₁.setTop (mkF m 1 #[.val (.int p0), .val (.int p1), .unset, .unset, .unset, .unset, .unset, .unset, .unset, .unset, .unset, .unset, .unset, .unset, .unset, .unset, .unset, .unset, .unset] [(.int p0)]))
  refine own_go (fun _ k => XT.iconstV X0.here hx rfl (3 : Int32) (hb hby at_1) (by decide) k) ?_
  show own_E _ _ _ _ _ _ _ (s₁.setTop (mkF m 2 #[.val (.int p0), .val (.int p1), .unset, .unset, .unset, .unset, .unset, .unset, .unset, .unset, .unset, .unset, .unset, .unset, .unset, .unset, .unset, .unset, .unset] [(.int (3 : Int32)), (.int p0)]))
  refine own_go (fun _ k => XS.iand X0.here hx rfl (hb hby at_2) rfl k) ?_
  show own_E _ _ _ _ _ _ _ (s₁.setTop (mkF m 3 #[.val (.int p0), .val (.int p1), .unset, .unset, .unset, .unset, .unset, .unset, .unset, .unset, .unset, .unset, .unset, .unset, .unset, .unset, .unset, .unset, .unset] [(.int (p0 &&& (3 : Int32)))]))
  obtain ⟨zn, hzn⟩ : ∃ z, z = (p0 &&& (3 : Int32)) := ⟨_, rfl⟩
  rw [← hzn]
  show own_E _ _ _ _ _ _ _ (s₁.setTop (mkF m 3 #[.val (.int p0), .val (.int p1), .unset, .unset, .unset, .unset, .unset, .unset, .unset, .unset, .unset, .unset, .unset, .unset, .unset, .unset, .unset, .unset, .unset] [(.int zn)]))
  have hzn4 : zn = 0 ∨ zn = 1 ∨ zn = 2 ∨ zn = 3 := by rw [hzn]; exact own_q _
  have hzn3 : zn.toNatClampNeg ≤ 3 := by rcases hzn4 with h | h | h | h <;> rw [h] <;> decide
  refine own_go (fun _ k => XS.istoreN X0.here hx rfl (hb hby at_3) rfl (l' := #[.val (.int p0), .val (.int p1), .val (.int zn), .unset, .unset, .unset, .unset, .unset, .unset, .unset, .unset, .unset, .unset, .unset, .unset, .unset, .unset, .unset, .unset]) rfl k) ?_
  show own_E _ _ _ _ _ _ _ (s₁.setTop (mkF m 4 #[.val (.int p0), .val (.int p1), .val (.int zn), .unset, .unset, .unset, .unset, .unset, .unset, .unset, .unset, .unset, .unset, .unset, .unset, .unset, .unset, .unset, .unset] []))
  refine own_go (fun _ k => XS.iloadN X0.here hx rfl (hb hby at_4) rfl k) ?_
  show own_E _ _ _ _ _ _ _ (s₁.setTop (mkF m 5 #[.val (.int p0), .val (.int p1), .val (.int zn), .unset, .unset, .unset, .unset, .unset, .unset, .unset, .unset, .unset, .unset, .unset, .unset, .unset, .unset, .unset, .unset] [(.int p0)]))
  refine own_go (fun _ k => XT.iconstV X0.here hx rfl (2 : Int32) (hb hby at_5) (by decide) k) ?_
  show own_E _ _ _ _ _ _ _ (s₁.setTop (mkF m 6 #[.val (.int p0), .val (.int p1), .val (.int zn), .unset, .unset, .unset, .unset, .unset, .unset, .unset, .unset, .unset, .unset, .unset, .unset, .unset, .unset, .unset, .unset] [(.int (2 : Int32)), (.int p0)]))
  refine own_go (fun _ k => XT.iushr X0.here hx rfl (hb hby at_6) rfl k) ?_
  show own_E _ _ _ _ _ _ _ (s₁.setTop (mkF m 7 #[.val (.int p0), .val (.int p1), .val (.int zn), .unset, .unset, .unset, .unset, .unset, .unset, .unset, .unset, .unset, .unset, .unset, .unset, .unset, .unset, .unset, .unset] [(.int (XT.ushr p0 (2 : Int32)))]))
  refine own_go (fun _ k => XT.i2b X0.here hx rfl (hb hby at_7) rfl k) ?_
  show own_E _ _ _ _ _ _ _ (s₁.setTop (mkF m 8 #[.val (.int p0), .val (.int p1), .val (.int zn), .unset, .unset, .unset, .unset, .unset, .unset, .unset, .unset, .unset, .unset, .unset, .unset, .unset, .unset, .unset, .unset] [(.int ((XT.ushr p0 (2 : Int32))).toInt8.toInt32)]))
  obtain ⟨b0, hb0⟩ : ∃ z, z = ((XT.ushr p0 (2 : Int32))).toInt8.toInt32 := ⟨_, rfl⟩
  rw [← hb0]
  have nb0 : nar .byte b0 = b0 := by rw [hb0]; exact own_nb _
  show own_E _ _ _ _ _ _ _ (s₁.setTop (mkF m 8 #[.val (.int p0), .val (.int p1), .val (.int zn), .unset, .unset, .unset, .unset, .unset, .unset, .unset, .unset, .unset, .unset, .unset, .unset, .unset, .unset, .unset, .unset] [(.int b0)]))
  refine own_go (fun _ k => XS.istoreN X0.here hx rfl (hb hby at_8) rfl (l' := #[.val (.int p0), .val (.int p1), .val (.int zn), .val (.int b0), .unset, .unset, .unset, .unset, .unset, .unset, .unset, .unset, .unset, .unset, .unset, .unset, .unset, .unset, .unset]) rfl k) ?_
  show own_E _ _ _ _ _ _ _ (s₁.setTop (mkF m 9 #[.val (.int p0), .val (.int p1), .val (.int zn), .val (.int b0), .unset, .unset, .unset, .unset, .unset, .unset, .unset, .unset, .unset, .unset, .unset, .unset, .unset, .unset, .unset] []))
  refine own_go (fun _ k => XS.iloadN X0.here hx rfl (hb hby at_9) rfl k) ?_
  show own_E _ _ _ _ _ _ _ (s₁.setTop (mkF m 10 #[.val (.int p0), .val (.int p1), .val (.int zn), .val (.int b0), .unset, .unset, .unset, .unset, .unset, .unset, .unset, .unset, .unset, .unset, .unset, .unset, .unset, .unset, .unset] [(.int p0)]))
  refine own_go (fun _ k => XT.bipushV X0.here hx rfl (10 : Int32) (hb hby at_10) (by decide) k) ?_
  show own_E _ _ _ _ _ _ _ (s₁.setTop (mkF m 12 #[.val (.int p0), .val (.int p1), .val (.int zn), .val (.int b0), .unset, .unset, .unset, .unset, .unset, .unset, .unset, .unset, .unset, .unset, .unset, .unset, .unset, .unset, .unset] [(.int (10 : Int32)), (.int p0)]))
  refine own_go (fun _ k => XT.iushr X0.here hx rfl (hb hby at_12) rfl k) ?_
  show own_E _ _ _ _ _ _ _ (s₁.setTop (mkF m 13 #[.val (.int p0), .val (.int p1), .val (.int zn), .val (.int b0), .unset, .unset, .unset, .unset, .unset, .unset, .unset, .unset, .unset, .unset, .unset, .unset, .unset, .unset, .unset] [(.int (XT.ushr p0 (10 : Int32)))]))
  refine own_go (fun _ k => XT.i2b X0.here hx rfl (hb hby at_13) rfl k) ?_
  show own_E _ _ _ _ _ _ _ (s₁.setTop (mkF m 14 #[.val (.int p0), .val (.int p1), .val (.int zn), .val (.int b0), .unset, .unset, .unset, .unset, .unset, .unset, .unset, .unset, .unset, .unset, .unset, .unset, .unset, .unset, .unset] [(.int ((XT.ushr p0 (10 : Int32))).toInt8.toInt32)]))
  obtain ⟨b1, hb1⟩ : ∃ z, z = ((XT.ushr p0 (10 : Int32))).toInt8.toInt32 := ⟨_, rfl⟩
  rw [← hb1]
  have nb1 : nar .byte b1 = b1 := by rw [hb1]; exact own_nb _
  show own_E _ _ _ _ _ _ _ (s₁.setTop (mkF m 14 #[.val (.int p0), .val (.int p1), .val (.int zn), .val (.int b0), .unset, .unset, .unset, .unset, .unset, .unset, .unset, .unset, .unset, .unset, .unset, .unset, .unset, .unset, .unset] [(.int b1)]))
  refine own_go (fun _ k => XS.istore X0.here hx rfl (hb hby at_14) rfl (l' := #[.val (.int p0), .val (.int p1), .val (.int zn), .val (.int b0), .val (.int b1), .unset, .unset, .unset, .unset, .unset, .unset, .unset, .unset, .unset, .unset, .unset, .unset, .unset, .unset]) rfl k) ?_
  show own_E _ _ _ _ _ _ _ (s₁.setTop (mkF m 16 #[.val (.int p0), .val (.int p1), .val (.int zn), .val (.int b0), .val (.int b1), .unset, .unset, .unset, .unset, .unset, .unset, .unset, .unset, .unset, .unset, .unset, .unset, .unset, .unset] []))
  refine own_go (fun _ k => XS.iloadN X0.here hx rfl (hb hby at_16) rfl k) ?_
  show own_E _ _ _ _ _ _ _ (s₁.setTop (mkF m 17 #[.val (.int p0), .val (.int p1), .val (.int zn), .val (.int b0), .val (.int b1), .unset, .unset, .unset, .unset, .unset, .unset, .unset, .unset, .unset, .unset, .unset, .unset, .unset, .unset] [(.int p0)]))
  refine own_go (fun _ k => XT.bipushV X0.here hx rfl (18 : Int32) (hb hby at_17) (by decide) k) ?_
  show own_E _ _ _ _ _ _ _ (s₁.setTop (mkF m 19 #[.val (.int p0), .val (.int p1), .val (.int zn), .val (.int b0), .val (.int b1), .unset, .unset, .unset, .unset, .unset, .unset, .unset, .unset, .unset, .unset, .unset, .unset, .unset, .unset] [(.int (18 : Int32)), (.int p0)]))
  refine own_go (fun _ k => XT.iushr X0.here hx rfl (hb hby at_19) rfl k) ?_
  show own_E _ _ _ _ _ _ _ (s₁.setTop (mkF m 20 #[.val (.int p0), .val (.int p1), .val (.int zn), .val (.int b0), .val (.int b1), .unset, .unset, .unset, .unset, .unset, .unset, .unset, .unset, .unset, .unset, .unset, .unset, .unset, .unset] [(.int (XT.ushr p0 (18 : Int32)))]))
  refine own_go (fun _ k => XT.i2b X0.here hx rfl (hb hby at_20) rfl k) ?_
  show own_E _ _ _ _ _ _ _ (s₁.setTop (mkF m 21 #[.val (.int p0), .val (.int p1), .val (.int zn), .val (.int b0), .val (.int b1), .unset, .unset, .unset, .unset, .unset, .unset, .unset, .unset, .unset, .unset, .unset, .unset, .unset, .unset] [(.int ((XT.ushr p0 (18 : Int32))).toInt8.toInt32)]))
  obtain ⟨b2, hb2⟩ : ∃ z, z = ((XT.ushr p0 (18 : Int32))).toInt8.toInt32 := ⟨_, rfl⟩
  rw [← hb2]
  have nb2 : nar .byte b2 = b2 := by rw [hb2]; exact own_nb _
  show own_E _ _ _ _ _ _ _ (s₁.setTop (mkF m 21 #[.val (.int p0), .val (.int p1), .val (.int zn), .val (.int b0), .val (.int b1), .unset, .unset, .unset, .unset, .unset, .unset, .unset, .unset, .unset, .unset, .unset, .unset, .unset, .unset] [(.int b2)]))
  refine own_go (fun _ k => XS.istore X0.here hx rfl (hb hby at_21) rfl (l' := #[.val (.int p0), .val (.int p1), .val (.int zn), .val (.int b0), .val (.int b1), .val (.int b2), .unset, .unset, .unset, .unset, .unset, .unset, .unset, .unset, .unset, .unset, .unset, .unset, .unset]) rfl k) ?_
  show own_E _ _ _ _ _ _ _ (s₁.setTop (mkF m 23 #[.val (.int p0), .val (.int p1), .val (.int zn), .val (.int b0), .val (.int b1), .val (.int b2), .unset, .unset, .unset, .unset, .unset, .unset, .unset, .unset, .unset, .unset, .unset, .unset, .unset] []))
  refine own_go (fun _ k => XS.iloadN X0.here hx rfl (hb hby at_23) rfl k) ?_
  show own_E _ _ _ _ _ _ _ (s₁.setTop (mkF m 24 #[.val (.int p0), .val (.int p1), .val (.int zn), .val (.int b0), .val (.int b1), .val (.int b2), .unset, .unset, .unset, .unset, .unset, .unset, .unset, .unset, .unset, .unset, .unset, .unset, .unset] [(.int p1)]))
  refine own_go (fun _ k => XT.iconstV X0.here hx rfl (3 : Int32) (hb hby at_24) (by decide) k) ?_
  show own_E _ _ _ _ _ _ _ (s₁.setTop (mkF m 25 #[.val (.int p0), .val (.int p1), .val (.int zn), .val (.int b0), .val (.int b1), .val (.int b2), .unset, .unset, .unset, .unset, .unset, .unset, .unset, .unset, .unset, .unset, .unset, .unset, .unset] [(.int (3 : Int32)), (.int p1)]))
  refine own_go (fun _ k => XS.iand X0.here hx rfl (hb hby at_25) rfl k) ?_
  show own_E _ _ _ _ _ _ _ (s₁.setTop (mkF m 26 #[.val (.int p0), .val (.int p1), .val (.int zn), .val (.int b0), .val (.int b1), .val (.int b2), .unset, .unset, .unset, .unset, .unset, .unset, .unset, .unset, .unset, .unset, .unset, .unset, .unset] [(.int (p1 &&& (3 : Int32)))]))
  obtain ⟨zm, hzm⟩ : ∃ z, z = (p1 &&& (3 : Int32)) := ⟨_, rfl⟩
  rw [← hzm]
  show own_E _ _ _ _ _ _ _ (s₁.setTop (mkF m 26 #[.val (.int p0), .val (.int p1), .val (.int zn), .val (.int b0), .val (.int b1), .val (.int b2), .unset, .unset, .unset, .unset, .unset, .unset, .unset, .unset, .unset, .unset, .unset, .unset, .unset] [(.int zm)]))
  have hzm4 : zm = 0 ∨ zm = 1 ∨ zm = 2 ∨ zm = 3 := by rw [hzm]; exact own_q _
  have hzm3 : zm.toNatClampNeg ≤ 3 := by rcases hzm4 with h | h | h | h <;> rw [h] <;> decide
  refine own_go (fun _ k => XS.istore X0.here hx rfl (hb hby at_26) rfl (l' := #[.val (.int p0), .val (.int p1), .val (.int zn), .val (.int b0), .val (.int b1), .val (.int b2), .val (.int zm), .unset, .unset, .unset, .unset, .unset, .unset, .unset, .unset, .unset, .unset, .unset, .unset]) rfl k) ?_
  show own_E _ _ _ _ _ _ _ (s₁.setTop (mkF m 28 #[.val (.int p0), .val (.int p1), .val (.int zn), .val (.int b0), .val (.int b1), .val (.int b2), .val (.int zm), .unset, .unset, .unset, .unset, .unset, .unset, .unset, .unset, .unset, .unset, .unset, .unset] []))
  refine own_go (fun _ k => XS.iloadN X0.here hx rfl (hb hby at_28) rfl k) ?_
  show own_E _ _ _ _ _ _ _ (s₁.setTop (mkF m 29 #[.val (.int p0), .val (.int p1), .val (.int zn), .val (.int b0), .val (.int b1), .val (.int b2), .val (.int zm), .unset, .unset, .unset, .unset, .unset, .unset, .unset, .unset, .unset, .unset, .unset, .unset] [(.int p1)]))
  refine own_go (fun _ k => XT.iconstV X0.here hx rfl (2 : Int32) (hb hby at_29) (by decide) k) ?_
  show own_E _ _ _ _ _ _ _ (s₁.setTop (mkF m 30 #[.val (.int p0), .val (.int p1), .val (.int zn), .val (.int b0), .val (.int b1), .val (.int b2), .val (.int zm), .unset, .unset, .unset, .unset, .unset, .unset, .unset, .unset, .unset, .unset, .unset, .unset] [(.int (2 : Int32)), (.int p1)]))
  refine own_go (fun _ k => XT.iushr X0.here hx rfl (hb hby at_30) rfl k) ?_
  show own_E _ _ _ _ _ _ _ (s₁.setTop (mkF m 31 #[.val (.int p0), .val (.int p1), .val (.int zn), .val (.int b0), .val (.int b1), .val (.int b2), .val (.int zm), .unset, .unset, .unset, .unset, .unset, .unset, .unset, .unset, .unset, .unset, .unset, .unset] [(.int (XT.ushr p1 (2 : Int32)))]))
  refine own_go (fun _ k => XT.i2b X0.here hx rfl (hb hby at_31) rfl k) ?_
  show own_E _ _ _ _ _ _ _ (s₁.setTop (mkF m 32 #[.val (.int p0), .val (.int p1), .val (.int zn), .val (.int b0), .val (.int b1), .val (.int b2), .val (.int zm), .unset, .unset, .unset, .unset, .unset, .unset, .unset, .unset, .unset, .unset, .unset, .unset] [(.int ((XT.ushr p1 (2 : Int32))).toInt8.toInt32)]))
  obtain ⟨c0, hc0⟩ : ∃ z, z = ((XT.ushr p1 (2 : Int32))).toInt8.toInt32 := ⟨_, rfl⟩
  rw [← hc0]
  have nc0 : nar .byte c0 = c0 := by rw [hc0]; exact own_nb _
  show own_E _ _ _ _ _ _ _ (s₁.setTop (mkF m 32 #[.val (.int p0), .val (.int p1), .val (.int zn), .val (.int b0), .val (.int b1), .val (.int b2), .val (.int zm), .unset, .unset, .unset, .unset, .unset, .unset, .unset, .unset, .unset, .unset, .unset, .unset] [(.int c0)]))
  refine own_go (fun _ k => XS.istore X0.here hx rfl (hb hby at_32) rfl (l' := #[.val (.int p0), .val (.int p1), .val (.int zn), .val (.int b0), .val (.int b1), .val (.int b2), .val (.int zm), .val (.int c0), .unset, .unset, .unset, .unset, .unset, .unset, .unset, .unset, .unset, .unset, .unset]) rfl k) ?_
  show own_E _ _ _ _ _ _ _ (s₁.setTop (mkF m 34 #[.val (.int p0), .val (.int p1), .val (.int zn), .val (.int b0), .val (.int b1), .val (.int b2), .val (.int zm), .val (.int c0), .unset, .unset, .unset, .unset, .unset, .unset, .unset, .unset, .unset, .unset, .unset] []))
  refine own_go (fun _ k => XS.iloadN X0.here hx rfl (hb hby at_34) rfl k) ?_
  show own_E _ _ _ _ _ _ _ (s₁.setTop (mkF m 35 #[.val (.int p0), .val (.int p1), .val (.int zn), .val (.int b0), .val (.int b1), .val (.int b2), .val (.int zm), .val (.int c0), .unset, .unset, .unset, .unset, .unset, .unset, .unset, .unset, .unset, .unset, .unset] [(.int p1)]))
  refine own_go (fun _ k => XT.bipushV X0.here hx rfl (10 : Int32) (hb hby at_35) (by decide) k) ?_
  show own_E _ _ _ _ _ _ _ (s₁.setTop (mkF m 37 #[.val (.int p0), .val (.int p1), .val (.int zn), .val (.int b0), .val (.int b1), .val (.int b2), .val (.int zm), .val (.int c0), .unset, .unset, .unset, .unset, .unset, .unset, .unset, .unset, .unset, .unset, .unset] [(.int (10 : Int32)), (.int p1)]))
  refine own_go (fun _ k => XT.iushr X0.here hx rfl (hb hby at_37) rfl k) ?_
  show own_E _ _ _ _ _ _ _ (s₁.setTop (mkF m 38 #[.val (.int p0), .val (.int p1), .val (.int zn), .val (.int b0), .val (.int b1), .val (.int b2), .val (.int zm), .val (.int c0), .unset, .unset, .unset, .unset, .unset, .unset, .unset, .unset, .unset, .unset, .unset] [(.int (XT.ushr p1 (10 : Int32)))]))
  refine own_go (fun _ k => XT.i2b X0.here hx rfl (hb hby at_38) rfl k) ?_
  show own_E _ _ _ _ _ _ _ (s₁.setTop (mkF m 39 #[.val (.int p0), .val (.int p1), .val (.int zn), .val (.int b0), .val (.int b1), .val (.int b2), .val (.int zm), .val (.int c0), .unset, .unset, .unset, .unset, .unset, .unset, .unset, .unset, .unset, .unset, .unset] [(.int ((XT.ushr p1 (10 : Int32))).toInt8.toInt32)]))
  obtain ⟨c1, hc1⟩ : ∃ z, z = ((XT.ushr p1 (10 : Int32))).toInt8.toInt32 := ⟨_, rfl⟩
  rw [← hc1]
  have nc1 : nar .byte c1 = c1 := by rw [hc1]; exact own_nb _
  show own_E _ _ _ _ _ _ _ (s₁.setTop (mkF m 39 #[.val (.int p0), .val (.int p1), .val (.int zn), .val (.int b0), .val (.int b1), .val (.int b2), .val (.int zm), .val (.int c0), .unset, .unset, .unset, .unset, .unset, .unset, .unset, .unset, .unset, .unset, .unset] [(.int c1)]))
  refine own_go (fun _ k => XS.istore X0.here hx rfl (hb hby at_39) rfl (l' := #[.val (.int p0), .val (.int p1), .val (.int zn), .val (.int b0), .val (.int b1), .val (.int b2), .val (.int zm), .val (.int c0), .val (.int c1), .unset, .unset, .unset, .unset, .unset, .unset, .unset, .unset, .unset, .unset]) rfl k) ?_
  show own_E _ _ _ _ _ _ _ (s₁.setTop (mkF m 41 #[.val (.int p0), .val (.int p1), .val (.int zn), .val (.int b0), .val (.int b1), .val (.int b2), .val (.int zm), .val (.int c0), .val (.int c1), .unset, .unset, .unset, .unset, .unset, .unset, .unset, .unset, .unset, .unset] []))
  refine own_go (fun _ k => XS.iloadN X0.here hx rfl (hb hby at_41) rfl k) ?_
  show own_E _ _ _ _ _ _ _ (s₁.setTop (mkF m 42 #[.val (.int p0), .val (.int p1), .val (.int zn), .val (.int b0), .val (.int b1), .val (.int b2), .val (.int zm), .val (.int c0), .val (.int c1), .unset, .unset, .unset, .unset, .unset, .unset, .unset, .unset, .unset, .unset] [(.int p1)]))
  refine own_go (fun _ k => XT.bipushV X0.here hx rfl (18 : Int32) (hb hby at_42) (by decide) k) ?_
  show own_E _ _ _ _ _ _ _ (s₁.setTop (mkF m 44 #[.val (.int p0), .val (.int p1), .val (.int zn), .val (.int b0), .val (.int b1), .val (.int b2), .val (.int zm), .val (.int c0), .val (.int c1), .unset, .unset, .unset, .unset, .unset, .unset, .unset, .unset, .unset, .unset] [(.int (18 : Int32)), (.int p1)]))
  refine own_go (fun _ k => XT.iushr X0.here hx rfl (hb hby at_44) rfl k) ?_
  show own_E _ _ _ _ _ _ _ (s₁.setTop (mkF m 45 #[.val (.int p0), .val (.int p1), .val (.int zn), .val (.int b0), .val (.int b1), .val (.int b2), .val (.int zm), .val (.int c0), .val (.int c1), .unset, .unset, .unset, .unset, .unset, .unset, .unset, .unset, .unset, .unset] [(.int (XT.ushr p1 (18 : Int32)))]))
  refine own_go (fun _ k => XT.i2b X0.here hx rfl (hb hby at_45) rfl k) ?_
  show own_E _ _ _ _ _ _ _ (s₁.setTop (mkF m 46 #[.val (.int p0), .val (.int p1), .val (.int zn), .val (.int b0), .val (.int b1), .val (.int b2), .val (.int zm), .val (.int c0), .val (.int c1), .unset, .unset, .unset, .unset, .unset, .unset, .unset, .unset, .unset, .unset] [(.int ((XT.ushr p1 (18 : Int32))).toInt8.toInt32)]))
  obtain ⟨c2, hc2⟩ : ∃ z, z = ((XT.ushr p1 (18 : Int32))).toInt8.toInt32 := ⟨_, rfl⟩
  rw [← hc2]
  have nc2 : nar .byte c2 = c2 := by rw [hc2]; exact own_nb _
  show own_E _ _ _ _ _ _ _ (s₁.setTop (mkF m 46 #[.val (.int p0), .val (.int p1), .val (.int zn), .val (.int b0), .val (.int b1), .val (.int b2), .val (.int zm), .val (.int c0), .val (.int c1), .unset, .unset, .unset, .unset, .unset, .unset, .unset, .unset, .unset, .unset] [(.int c2)]))
  refine own_go (fun _ k => XS.istore X0.here hx rfl (hb hby at_46) rfl (l' := #[.val (.int p0), .val (.int p1), .val (.int zn), .val (.int b0), .val (.int b1), .val (.int b2), .val (.int zm), .val (.int c0), .val (.int c1), .val (.int c2), .unset, .unset, .unset, .unset, .unset, .unset, .unset, .unset, .unset]) rfl k) ?_
  show own_E _ _ _ _ _ _ _ (s₁.setTop (mkF m 48 #[.val (.int p0), .val (.int p1), .val (.int zn), .val (.int b0), .val (.int b1), .val (.int b2), .val (.int zm), .val (.int c0), .val (.int c1), .val (.int c2), .unset, .unset, .unset, .unset, .unset, .unset, .unset, .unset, .unset] []))
  refine own_go (fun _ k => XS.iloadN X0.here hx rfl (hb hby at_48) rfl k) ?_
  show own_E _ _ _ _ _ _ _ (s₁.setTop (mkF m 49 #[.val (.int p0), .val (.int p1), .val (.int zn), .val (.int b0), .val (.int b1), .val (.int b2), .val (.int zm), .val (.int c0), .val (.int c1), .val (.int c2), .unset, .unset, .unset, .unset, .unset, .unset, .unset, .unset, .unset] [(.int zn)]))
  refine own_go (fun _ k => XS.iloadN X0.here hx rfl (hb hby at_49) rfl k) ?_
  show own_E _ _ _ _ _ _ _ (s₁.setTop (mkF m 50 #[.val (.int p0), .val (.int p1), .val (.int zn), .val (.int b0), .val (.int b1), .val (.int b2), .val (.int zm), .val (.int c0), .val (.int c1), .val (.int c2), .unset, .unset, .unset, .unset, .unset, .unset, .unset, .unset, .unset] [(.int b0), (.int zn)]))
  refine own_go (fun _ k => XS.iload X0.here hx rfl (hb hby at_50) rfl k) ?_
  show own_E _ _ _ _ _ _ _ (s₁.setTop (mkF m 52 #[.val (.int p0), .val (.int p1), .val (.int zn), .val (.int b0), .val (.int b1), .val (.int b2), .val (.int zm), .val (.int c0), .val (.int c1), .val (.int c2), .unset, .unset, .unset, .unset, .unset, .unset, .unset, .unset, .unset] [(.int b1), (.int b0), (.int zn)]))
  refine own_go (fun _ k => XS.iload X0.here hx rfl (hb hby at_52) rfl k) ?_
  show own_E _ _ _ _ _ _ _ (s₁.setTop (mkF m 54 #[.val (.int p0), .val (.int p1), .val (.int zn), .val (.int b0), .val (.int b1), .val (.int b2), .val (.int zm), .val (.int c0), .val (.int c1), .val (.int c2), .unset, .unset, .unset, .unset, .unset, .unset, .unset, .unset, .unset] [(.int b2), (.int b1), (.int b0), (.int zn)]))
  obtain ⟨v101, T101, L101, X101, hQ101, st101⟩ := own_callS X0 hx hZ (rm := ({ frames := 0, cells := 1, slots := 3, locals := 0 } : Room)) (W := 0) (argsL := [(.int zn), (.int b0), (.int b1), (.int b2)]) (rest := []) (y := (⟨"com/example/arborkey/arborkey/DecryptionMaterialsDataKeyPinLaw", "make", "(IBBB)[B"⟩ : MethodName)) hown (hw _ (List.mem_of_getElem? (i := 0) rfl)) (hw _ (List.mem_of_getElem? (i := 1) rfl)) (hw _ (List.mem_of_getElem? (i := 2) rfl)) (hw _ (List.mem_of_getElem? (i := 3) rfl)) (by decide) (rm1 l Z a0 hw zn b0 b1 b2 h0 n0 Z0 hzn4 nb0 nb1 nb2) e0 (by decide) (by decide) (by decide) (by decide) (g := (mkF m 54 #[.val (.int p0), .val (.int p1), .val (.int zn), .val (.int b0), .val (.int b1), .val (.int b2), .val (.int zm), .val (.int c0), .val (.int c1), .val (.int c2), .unset, .unset, .unset, .unset, .unset, .unset, .unset, .unset, .unset] [(.int b2), (.int b1), (.int b0), (.int zn)])) rfl (by rw [hml]; rfl) (lenOf pd_2 rfl) rfl (Nat.le_of_ble_eq_true rfl) (hb hby at_54)
  obtain ⟨N101, K101, ak, k1, rfl, V101, B101, g101⟩ := hQ101
  refine own_go st101 ?_
  show own_E _ _ _ _ _ _ _ (T101.setTop (mkF m 57 #[.val (.int p0), .val (.int p1), .val (.int zn), .val (.int b0), .val (.int b1), .val (.int b2), .val (.int zm), .val (.int c0), .val (.int c1), .val (.int c2), .unset, .unset, .unset, .unset, .unset, .unset, .unset, .unset, .unset] [(.ref ak)]))
  have M101 := Fr.app N0 N101
  have ne101_ak_1 : em ≠ ak := Nat.ne_of_lt (Nat.lt_of_lt_of_le (EM.ext O0.2).lt g101)
  have w101_ak : n0 ≤ ak := Nat.le_trans Z0 g101
  have e101 : T101.heap = T101.heap := rfl
  have O101 := O0.keep K101 all0
  have Z101 := Nat.le_trans Z0 K101.1
  refine own_go (fun _ k => XS.astore X101.here hx rfl (hb hby at_57) rfl rfl (l' := #[.val (.int p0), .val (.int p1), .val (.int zn), .val (.int b0), .val (.int b1), .val (.int b2), .val (.int zm), .val (.int c0), .val (.int c1), .val (.int c2), .val (.ref ak), .unset, .unset, .unset, .unset, .unset, .unset, .unset, .unset]) rfl k) ?_
  show own_E _ _ _ _ _ _ _ (T101.setTop (mkF m 59 #[.val (.int p0), .val (.int p1), .val (.int zn), .val (.int b0), .val (.int b1), .val (.int b2), .val (.int zm), .val (.int c0), .val (.int c1), .val (.int c2), .val (.ref ak), .unset, .unset, .unset, .unset, .unset, .unset, .unset, .unset] []))
  refine own_go (fun _ k => XS.iload X101.here hx rfl (hb hby at_59) rfl k) ?_
  show own_E _ _ _ _ _ _ _ (T101.setTop (mkF m 61 #[.val (.int p0), .val (.int p1), .val (.int zn), .val (.int b0), .val (.int b1), .val (.int b2), .val (.int zm), .val (.int c0), .val (.int c1), .val (.int c2), .val (.ref ak), .unset, .unset, .unset, .unset, .unset, .unset, .unset, .unset] [(.int zm)]))
  refine own_go (fun _ k => XS.iload X101.here hx rfl (hb hby at_61) rfl k) ?_
  show own_E _ _ _ _ _ _ _ (T101.setTop (mkF m 63 #[.val (.int p0), .val (.int p1), .val (.int zn), .val (.int b0), .val (.int b1), .val (.int b2), .val (.int zm), .val (.int c0), .val (.int c1), .val (.int c2), .val (.ref ak), .unset, .unset, .unset, .unset, .unset, .unset, .unset, .unset] [(.int c0), (.int zm)]))
  refine own_go (fun _ k => XS.iload X101.here hx rfl (hb hby at_63) rfl k) ?_
  show own_E _ _ _ _ _ _ _ (T101.setTop (mkF m 65 #[.val (.int p0), .val (.int p1), .val (.int zn), .val (.int b0), .val (.int b1), .val (.int b2), .val (.int zm), .val (.int c0), .val (.int c1), .val (.int c2), .val (.ref ak), .unset, .unset, .unset, .unset, .unset, .unset, .unset, .unset] [(.int c1), (.int c0), (.int zm)]))
  refine own_go (fun _ k => XS.iload X101.here hx rfl (hb hby at_65) rfl k) ?_
  show own_E _ _ _ _ _ _ _ (T101.setTop (mkF m 67 #[.val (.int p0), .val (.int p1), .val (.int zn), .val (.int b0), .val (.int b1), .val (.int b2), .val (.int zm), .val (.int c0), .val (.int c1), .val (.int c2), .val (.ref ak), .unset, .unset, .unset, .unset, .unset, .unset, .unset, .unset] [(.int c2), (.int c1), (.int c0), (.int zm)]))
  obtain ⟨v102, T102, L102, X102, hQ102, st102⟩ := own_callS X101 hx hZ (rm := ({ frames := 0, cells := 1, slots := 3, locals := 0 } : Room)) (W := 0) (argsL := [(.int zm), (.int c0), (.int c1), (.int c2)]) (rest := []) (y := (⟨"com/example/arborkey/arborkey/DecryptionMaterialsDataKeyPinLaw", "make", "(IBBB)[B"⟩ : MethodName)) hown (hw _ (List.mem_of_getElem? (i := 0) rfl)) (hw _ (List.mem_of_getElem? (i := 1) rfl)) (hw _ (List.mem_of_getElem? (i := 2) rfl)) (hw _ (List.mem_of_getElem? (i := 3) rfl)) (by decide) (rm1 l Z a0 hw zm c0 c1 c2 T101.heap n0 Z101 hzm4 nc0 nc1 nc2) e101 (by decide) (by decide) (by decide) (by decide) (g := (mkF m 67 #[.val (.int p0), .val (.int p1), .val (.int zn), .val (.int b0), .val (.int b1), .val (.int b2), .val (.int zm), .val (.int c0), .val (.int c1), .val (.int c2), .val (.ref ak), .unset, .unset, .unset, .unset, .unset, .unset, .unset, .unset] [(.int c2), (.int c1), (.int c0), (.int zm)])) rfl (by rw [hml]; rfl) (lenOf pd_2 rfl) rfl (Nat.le_of_ble_eq_true rfl) (hb hby at_67)
  obtain ⟨N102, K102, al, k2, rfl, V102, B102, g102⟩ := hQ102
  refine own_go st102 ?_
  show own_E _ _ _ _ _ _ _ (T102.setTop (mkF m 70 #[.val (.int p0), .val (.int p1), .val (.int zn), .val (.int b0), .val (.int b1), .val (.int b2), .val (.int zm), .val (.int c0), .val (.int c1), .val (.int c2), .val (.ref ak), .unset, .unset, .unset, .unset, .unset, .unset, .unset, .unset] [(.ref al)]))
  have M102 := Fr.app M101 N102
  have ne102_al_1 : em ≠ al := Nat.ne_of_lt (Nat.lt_of_lt_of_le (EM.ext O101.2).lt g102)
  have ne102_al_2 : ak ≠ al := Nat.ne_of_lt (Nat.lt_of_lt_of_le V101.lt g102)
  have w102_al : n0 ≤ al := Nat.le_trans Z101 g102
  have e102 : T102.heap = T102.heap := rfl
  have f102_3 := V101.keep K102 nin0
  have f102_4 := B101.keep K102
  have O102 := O101.keep K102 all0
  have Z102 := Nat.le_trans Z101 K102.1
  refine own_go (fun _ k => XS.astore X102.here hx rfl (hb hby at_70) rfl rfl (l' := #[.val (.int p0), .val (.int p1), .val (.int zn), .val (.int b0), .val (.int b1), .val (.int b2), .val (.int zm), .val (.int c0), .val (.int c1), .val (.int c2), .val (.ref ak), .val (.ref al), .unset, .unset, .unset, .unset, .unset, .unset, .unset]) rfl k) ?_
  show own_E _ _ _ _ _ _ _ (T102.setTop (mkF m 72 #[.val (.int p0), .val (.int p1), .val (.int zn), .val (.int b0), .val (.int b1), .val (.int b2), .val (.int zm), .val (.int c0), .val (.int c1), .val (.int c2), .val (.ref ak), .val (.ref al), .unset, .unset, .unset, .unset, .unset, .unset, .unset] []))
  obtain ⟨T103, h103, X103, e103, E103, A103, D103, -, st103⟩ := newO X102 hx hZ hown (hw _ (List.mem_of_getElem? (i := 5) rfl)) (hw _ (List.mem_of_getElem? (i := 6) rfl)) (hw _ (List.mem_of_getElem? (i := 7) rfl)) e102 (g := (mkF m 72 #[.val (.int p0), .val (.int p1), .val (.int zn), .val (.int b0), .val (.int b1), .val (.int b2), .val (.int zm), .val (.int c0), .val (.int c1), .val (.int c2), .val (.ref ak), .val (.ref al), .unset, .unset, .unset, .unset, .unset, .unset, .unset] [])) rfl (hb hby at_72) (by decide) (by decide)
  obtain ⟨am, g103⟩ : ∃ z, z = T102.heap.size := ⟨_, rfl⟩
  rw [← g103] at A103 D103 st103
  have ne103_1 : em ≠ am := by rw [g103]; exact Nat.ne_of_lt (EM.ext O102.2).lt
  have ne103_2 : ak ≠ am := by rw [g103]; exact Nat.ne_of_lt f102_3.lt
  have ne103_3 : al ≠ am := by rw [g103]; exact Nat.ne_of_lt V102.lt
  have w103 : n0 ≤ am := by rw [g103]; exact Z102
  have f103_encryptionContext : Fld Z h103 am "com/example/arborkey/arborkey/DecryptionMaterials" "encryptionContext" "Ljava/util/Map;" .null := D103 (Or.inr (hw _ (List.mem_of_getElem? (i := 29) rfl))) (ty := (.object "java/util/Map")) (by decide +kernel)
  have f103_dataKey : Fld Z h103 am "com/example/arborkey/arborkey/DecryptionMaterials" "dataKey" "[B" .null := D103 (Or.inr (hw _ (List.mem_of_getElem? (i := 31) rfl))) (ty := (.array .byte)) (by decide +kernel)
  have f103_3 := f102_3.ext E103
  have f103_4 := f102_4.ext E103
  have f103_8 := V102.ext E103
  have f103_9 := B102.ext E103
  have O103 := O102.ext E103
  have Z103 := Nat.le_trans Z102 E103.1
  refine own_go st103 ?_
  show own_E _ _ _ _ _ _ _ (T103.setTop (mkF m 75 #[.val (.int p0), .val (.int p1), .val (.int zn), .val (.int b0), .val (.int b1), .val (.int b2), .val (.int zm), .val (.int c0), .val (.int c1), .val (.int c2), .val (.ref ak), .val (.ref al), .unset, .unset, .unset, .unset, .unset, .unset, .unset] [(.ref am)]))
  refine own_go (fun _ k => XS.dup X103.here hx rfl (hb hby at_75) rfl rfl k) ?_
  show own_E _ _ _ _ _ _ _ (T103.setTop (mkF m 76 #[.val (.int p0), .val (.int p1), .val (.int zn), .val (.int b0), .val (.int b1), .val (.int b2), .val (.int zm), .val (.int c0), .val (.int c1), .val (.int c2), .val (.ref ak), .val (.ref al), .unset, .unset, .unset, .unset, .unset, .unset, .unset] [(.ref am), (.ref am)]))
  obtain ⟨v104, T104, L104, X104, hQ104, st104⟩ := own_callS X103 hx hZ (rm := ({ frames := 0, cells := 0, slots := 0, locals := 0 } : Room)) (W := 2) (argsL := []) (rest := [(.ref am), (.ref am)]) (y := (⟨"java/util/Map", "of", "()Ljava/util/Map;"⟩ : MethodName)) hown (hw _ (List.mem_of_getElem? (i := 8) rfl)) (hw _ (List.mem_of_getElem? (i := 9) rfl)) (hw _ (List.mem_of_getElem? (i := 10) rfl)) (hw _ (List.mem_of_getElem? (i := 11) rfl)) (by decide) (rm2 l Z a0 hw em h103 n0 Z103 (SM.ext O103.2)) e103 (by decide) (by decide) (by decide) (by decide) (g := (mkF m 76 #[.val (.int p0), .val (.int p1), .val (.int zn), .val (.int b0), .val (.int b1), .val (.int b2), .val (.int zm), .val (.int c0), .val (.int c1), .val (.int c2), .val (.ref ak), .val (.ref al), .unset, .unset, .unset, .unset, .unset, .unset, .unset] [(.ref am), (.ref am)])) rfl (by rw [hml]; rfl) (lenOf pd_3 rfl) rfl (Nat.le_of_ble_eq_true rfl) (hb hby at_76)
  obtain ⟨rfl, N104, e104⟩ := hQ104
  refine own_go st104 ?_
  show own_E _ _ _ _ _ _ _ (T104.setTop (mkF m 79 #[.val (.int p0), .val (.int p1), .val (.int zn), .val (.int b0), .val (.int b1), .val (.int b2), .val (.int zm), .val (.int c0), .val (.int c1), .val (.int c2), .val (.ref ak), .val (.ref al), .unset, .unset, .unset, .unset, .unset, .unset, .unset] [(.ref em), (.ref am), (.ref am)]))
  have M104 := Fr.app M102 N104
  obtain ⟨v105, T105, L105, X105, hQ105, st105⟩ := own_callI X104 hx hZ (rm := ({ frames := 2, cells := 0, slots := 0, locals := 28 } : Room)) (W := 1) (b := am) (argsL := [(.ref em)]) (rest := [(.ref am)]) (y := (⟨"com/example/arborkey/arborkey/DecryptionMaterials", "<init>", "(Ljava/util/Map;)V"⟩ : MethodName)) hown rfl (hw _ (List.mem_of_getElem? (i := 14) rfl)) (hw _ (List.mem_of_getElem? (i := 15) rfl)) (hw _ (List.mem_of_getElem? (i := 7) rfl)) (hw _ (List.mem_of_getElem? (i := 16) rfl)) (by decide) (rm3 l Z a0 hw am em h103 n0 Z103 A103 f103_encryptionContext f103_dataKey w103 (EM.ext O103.2)) e104 (by decide) (by decide) (by decide) (by decide) (g := (mkF m 79 #[.val (.int p0), .val (.int p1), .val (.int zn), .val (.int b0), .val (.int b1), .val (.int b2), .val (.int zm), .val (.int c0), .val (.int c1), .val (.int c2), .val (.ref ak), .val (.ref al), .unset, .unset, .unset, .unset, .unset, .unset, .unset] [(.ref em), (.ref am), (.ref am)])) rfl (by rw [hml]; rfl) (lenOf pd_4 rfl) rfl (Nat.le_of_ble_eq_true rfl) (hb hby at_79)
  obtain ⟨rfl, N105, K105, A105, F105, G105⟩ := hQ105
  refine own_go st105 ?_
  show own_E _ _ _ _ _ _ _ (T105.setTop (mkF m 82 #[.val (.int p0), .val (.int p1), .val (.int zn), .val (.int b0), .val (.int b1), .val (.int b2), .val (.int zm), .val (.int c0), .val (.int c1), .val (.int c2), .val (.ref ak), .val (.ref al), .unset, .unset, .unset, .unset, .unset, .unset, .unset] [(.ref am)]))
  have M105 := Fr.app M104 N105
  have e105 : T105.heap = T105.heap := rfl
  have f105_3 := f103_3.keep K105 (ninS ne103_2 nin0)
  have f105_4 := f103_4.keep K105
  have f105_8 := f103_8.keep K105 (ninS ne103_3 nin0)
  have f105_9 := f103_9.keep K105
  have f105_16 := A103.keep K105
  have O105 := O103.keep K105 (allS w103 all0)
  have Z105 := Nat.le_trans Z103 K105.1
  refine own_go (fun _ k => XS.astore X105.here hx rfl (hb hby at_82) rfl rfl (l' := #[.val (.int p0), .val (.int p1), .val (.int zn), .val (.int b0), .val (.int b1), .val (.int b2), .val (.int zm), .val (.int c0), .val (.int c1), .val (.int c2), .val (.ref ak), .val (.ref al), .val (.ref am), .unset, .unset, .unset, .unset, .unset, .unset]) rfl k) ?_
  show own_E _ _ _ _ _ _ _ (T105.setTop (mkF m 84 #[.val (.int p0), .val (.int p1), .val (.int zn), .val (.int b0), .val (.int b1), .val (.int b2), .val (.int zm), .val (.int c0), .val (.int c1), .val (.int c2), .val (.ref ak), .val (.ref al), .val (.ref am), .unset, .unset, .unset, .unset, .unset, .unset] []))
  refine own_go (fun _ k => XS.aload X105.here hx rfl (hb hby at_84) rfl rfl k) ?_
  show own_E _ _ _ _ _ _ _ (T105.setTop (mkF m 86 #[.val (.int p0), .val (.int p1), .val (.int zn), .val (.int b0), .val (.int b1), .val (.int b2), .val (.int zm), .val (.int c0), .val (.int c1), .val (.int c2), .val (.ref ak), .val (.ref al), .val (.ref am), .unset, .unset, .unset, .unset, .unset, .unset] [(.ref am)]))
  obtain ⟨v106, T106, L106, X106, hQ106, st106⟩ := own_callV X105 hx hZ (rm := ({ frames := 1, cells := 1, slots := 3, locals := 14 } : Room)) (W := 0) (b := am) (argsL := []) (rest := []) (y := (⟨"com/example/arborkey/arborkey/DecryptionMaterials", "dataKey", "()[B"⟩ : MethodName)) hown (hw _ (List.mem_of_getElem? (i := 32) rfl)) (hw _ (List.mem_of_getElem? (i := 33) rfl)) (hw _ (List.mem_of_getElem? (i := 35) rfl)) (hw _ (List.mem_of_getElem? (i := 34) rfl)) (hw _ (List.mem_of_getElem? (i := 36) rfl)) (hw _ (List.mem_of_getElem? (i := 7) rfl)) (by decide) (rmDN l Z a0 hw am T105.heap n0 Z105 G105) e105 f105_16 (by decide) (by decide) (by decide) (by decide) (g := (mkF m 86 #[.val (.int p0), .val (.int p1), .val (.int zn), .val (.int b0), .val (.int b1), .val (.int b2), .val (.int zm), .val (.int c0), .val (.int c1), .val (.int c2), .val (.ref ak), .val (.ref al), .val (.ref am), .unset, .unset, .unset, .unset, .unset, .unset] [(.ref am)])) rfl (by rw [hml]; rfl) (lenOf pd_5 rfl) rfl (Nat.le_of_ble_eq_true rfl) (hb hby at_86)
  obtain ⟨rfl, N106, e106⟩ := hQ106
  refine own_go st106 ?_
  show own_E _ _ _ _ _ _ _ (T106.setTop (mkF m 89 #[.val (.int p0), .val (.int p1), .val (.int zn), .val (.int b0), .val (.int b1), .val (.int b2), .val (.int zm), .val (.int c0), .val (.int c1), .val (.int c2), .val (.ref ak), .val (.ref al), .val (.ref am), .unset, .unset, .unset, .unset, .unset, .unset] [.null]))
  have M106 := Fr.app M105 N106
  refine own_go (fun _ k => XS.ifnullYes X106.here hx rfl (pc0 := 89) (pc' := 94) rfl (hb hby at_89) rfl (by decide) (by decide) k) ?_
  show own_E _ _ _ _ _ _ _ (T106.setTop (mkF m 94 #[.val (.int p0), .val (.int p1), .val (.int zn), .val (.int b0), .val (.int b1), .val (.int b2), .val (.int zm), .val (.int c0), .val (.int c1), .val (.int c2), .val (.ref ak), .val (.ref al), .val (.ref am), .unset, .unset, .unset, .unset, .unset, .unset] []))
  refine own_go (fun _ k => XS.aload X106.here hx rfl (hb hby at_94) rfl rfl k) ?_
  show own_E _ _ _ _ _ _ _ (T106.setTop (mkF m 96 #[.val (.int p0), .val (.int p1), .val (.int zn), .val (.int b0), .val (.int b1), .val (.int b2), .val (.int zm), .val (.int c0), .val (.int c1), .val (.int c2), .val (.ref ak), .val (.ref al), .val (.ref am), .unset, .unset, .unset, .unset, .unset, .unset] [(.ref am)]))
  refine own_go (fun _ k => XS.aload X106.here hx rfl (hb hby at_96) rfl rfl k) ?_
  show own_E _ _ _ _ _ _ _ (T106.setTop (mkF m 98 #[.val (.int p0), .val (.int p1), .val (.int zn), .val (.int b0), .val (.int b1), .val (.int b2), .val (.int zm), .val (.int c0), .val (.int c1), .val (.int c2), .val (.ref ak), .val (.ref al), .val (.ref am), .unset, .unset, .unset, .unset, .unset, .unset] [(.ref ak), (.ref am)]))
  obtain ⟨v107, T107, L107, X107, hQ107, st107⟩ := own_callV X106 hx hZ (rm := ({ frames := 2, cells := 2, slots := 5, locals := 32 } : Room)) (W := 0) (b := am) (argsL := [(.ref ak)]) (rest := []) (y := (⟨"com/example/arborkey/arborkey/DecryptionMaterials", "withDataKey", "([B)Lcom/example/arborkey/arborkey/DecryptionMaterials;"⟩ : MethodName)) hown (hw _ (List.mem_of_getElem? (i := 37) rfl)) (hw _ (List.mem_of_getElem? (i := 38) rfl)) (hw _ (List.mem_of_getElem? (i := 40) rfl)) (hw _ (List.mem_of_getElem? (i := 39) rfl)) (hw _ (List.mem_of_getElem? (i := 41) rfl)) (hw _ (List.mem_of_getElem? (i := 7) rfl)) (by decide) (rm8 l Z a0 hw am ak k1 zn b0 b1 b2 em T105.heap n0 Z105 hzn3 F105 f105_3 f105_4) e106 f105_16 (by decide) (by decide) (by decide) (by decide) (g := (mkF m 98 #[.val (.int p0), .val (.int p1), .val (.int zn), .val (.int b0), .val (.int b1), .val (.int b2), .val (.int zm), .val (.int c0), .val (.int c1), .val (.int c2), .val (.ref ak), .val (.ref al), .val (.ref am), .unset, .unset, .unset, .unset, .unset, .unset] [(.ref ak), (.ref am)])) rfl (by rw [hml]; rfl) (lenOf pd_6 rfl) rfl (Nat.le_of_ble_eq_true rfl) (hb hby at_98)
  obtain ⟨N107, K107, ax, ac, rfl, gx107, gc107, nxc107, A107, F107, G107, V107, B107⟩ := hQ107
  refine own_go st107 ?_
  show own_E _ _ _ _ _ _ _ (T107.setTop (mkF m 101 #[.val (.int p0), .val (.int p1), .val (.int zn), .val (.int b0), .val (.int b1), .val (.int b2), .val (.int zm), .val (.int c0), .val (.int c1), .val (.int c2), .val (.ref ak), .val (.ref al), .val (.ref am), .unset, .unset, .unset, .unset, .unset, .unset] [(.ref ax)]))
  have M107 := Fr.app M106 N107
  have ne107_ax_1 : em ≠ ax := Nat.ne_of_lt (Nat.lt_of_lt_of_le (EM.ext O105.2).lt gx107)
  have ne107_ax_2 : ak ≠ ax := Nat.ne_of_lt (Nat.lt_of_lt_of_le f105_3.lt gx107)
  have ne107_ax_3 : al ≠ ax := Nat.ne_of_lt (Nat.lt_of_lt_of_le f105_8.lt gx107)
  have ne107_ax_4 : am ≠ ax := Nat.ne_of_lt (Nat.lt_of_lt_of_le f105_16.lt gx107)
  have w107_ax : n0 ≤ ax := Nat.le_trans Z105 gx107
  have ne107_ac_1 : em ≠ ac := Nat.ne_of_lt (Nat.lt_of_lt_of_le (EM.ext O105.2).lt gc107)
  have ne107_ac_2 : ak ≠ ac := Nat.ne_of_lt (Nat.lt_of_lt_of_le f105_3.lt gc107)
  have ne107_ac_3 : al ≠ ac := Nat.ne_of_lt (Nat.lt_of_lt_of_le f105_8.lt gc107)
  have ne107_ac_4 : am ≠ ac := Nat.ne_of_lt (Nat.lt_of_lt_of_le f105_16.lt gc107)
  have w107_ac : n0 ≤ ac := Nat.le_trans Z105 gc107
  have e107 : T107.heap = T107.heap := rfl
  have f107_3 := f105_3.keep K107 nin0
  have f107_4 := f105_4.keep K107
  have f107_8 := f105_8.keep K107 nin0
  have f107_9 := f105_9.keep K107
  have f107_14 := f105_16.keep K107
  have f107_15 := F105.keep K107 nin0
  have f107_16 := G105.keep K107 nin0
  have O107 := O105.keep K107 all0
  have Z107 := Nat.le_trans Z105 K107.1
  refine own_go (fun _ k => XS.astore X107.here hx rfl (hb hby at_101) rfl rfl (l' := #[.val (.int p0), .val (.int p1), .val (.int zn), .val (.int b0), .val (.int b1), .val (.int b2), .val (.int zm), .val (.int c0), .val (.int c1), .val (.int c2), .val (.ref ak), .val (.ref al), .val (.ref am), .val (.ref ax), .unset, .unset, .unset, .unset, .unset]) rfl k) ?_
  show own_E _ _ _ _ _ _ _ (T107.setTop (mkF m 103 #[.val (.int p0), .val (.int p1), .val (.int zn), .val (.int b0), .val (.int b1), .val (.int b2), .val (.int zm), .val (.int c0), .val (.int c1), .val (.int c2), .val (.ref ak), .val (.ref al), .val (.ref am), .val (.ref ax), .unset, .unset, .unset, .unset, .unset] []))
  refine own_go (fun _ k => XS.aload X107.here hx rfl (hb hby at_103) rfl rfl k) ?_
  show own_E _ _ _ _ _ _ _ (T107.setTop (mkF m 105 #[.val (.int p0), .val (.int p1), .val (.int zn), .val (.int b0), .val (.int b1), .val (.int b2), .val (.int zm), .val (.int c0), .val (.int c1), .val (.int c2), .val (.ref ak), .val (.ref al), .val (.ref am), .val (.ref ax), .unset, .unset, .unset, .unset, .unset] [(.ref ak)]))
  obtain ⟨v108, T108, L108, X108, hQ108, st108⟩ := own_callS X107 hx hZ (rm := ({ frames := 0, cells := 0, slots := 0, locals := 0 } : Room)) (W := 0) (argsL := [(.ref ak)]) (rest := []) (y := (⟨"com/example/arborkey/arborkey/DecryptionMaterialsDataKeyPinLaw", "flip", "([B)V"⟩ : MethodName)) hown (hw _ (List.mem_of_getElem? (i := 52) rfl)) (hw _ (List.mem_of_getElem? (i := 53) rfl)) (hw _ (List.mem_of_getElem? (i := 2) rfl)) (hw _ (List.mem_of_getElem? (i := 54) rfl)) (by decide) (rm9 l Z a0 hw ak k1 zn b0 b1 b2 T107.heap n0 Z107 hzn4 f107_3 w101_ak) e107 (by decide) (by decide) (by decide) (by decide) (g := (mkF m 105 #[.val (.int p0), .val (.int p1), .val (.int zn), .val (.int b0), .val (.int b1), .val (.int b2), .val (.int zm), .val (.int c0), .val (.int c1), .val (.int c2), .val (.ref ak), .val (.ref al), .val (.ref am), .val (.ref ax), .unset, .unset, .unset, .unset, .unset] [(.ref ak)])) rfl (by rw [hml]; rfl) (lenOf pd_7 rfl) rfl (Nat.le_of_ble_eq_true rfl) (hb hby at_105)
  obtain ⟨rfl, N108, K108⟩ := hQ108
  refine own_go st108 ?_
  show own_E _ _ _ _ _ _ _ (T108.setTop (mkF m 108 #[.val (.int p0), .val (.int p1), .val (.int zn), .val (.int b0), .val (.int b1), .val (.int b2), .val (.int zm), .val (.int c0), .val (.int c1), .val (.int c2), .val (.ref ak), .val (.ref al), .val (.ref am), .val (.ref ax), .unset, .unset, .unset, .unset, .unset] []))
  have M108 := Fr.app M107 N108
  have e108 : T108.heap = T108.heap := rfl
  have f108_4 := f107_4.keep K108
  have f108_8 := f107_8.keep K108 (ninS ne102_al_2.symm nin0)
  have f108_9 := f107_9.keep K108
  have f108_14 := f107_14.keep K108
  have f108_15 := f107_15.keep K108 (ninS ne103_2.symm nin0)
  have f108_16 := f107_16.keep K108 (ninS ne103_2.symm nin0)
  have f108_28 := A107.keep K108
  have f108_29 := F107.keep K108 (ninS ne107_ax_2.symm nin0)
  have f108_30 := G107.keep K108 (ninS ne107_ax_2.symm nin0)
  have f108_31 := V107.keep K108 (ninS ne107_ac_2.symm nin0)
  have f108_32 := B107.keep K108
  have O108 := O107.keep K108 (allS w101_ak all0)
  have Z108 := Nat.le_trans Z107 K108.1
  refine own_go (fun _ k => XS.aload X108.here hx rfl (hb hby at_108) rfl rfl k) ?_
  show own_E _ _ _ _ _ _ _ (T108.setTop (mkF m 110 #[.val (.int p0), .val (.int p1), .val (.int zn), .val (.int b0), .val (.int b1), .val (.int b2), .val (.int zm), .val (.int c0), .val (.int c1), .val (.int c2), .val (.ref ak), .val (.ref al), .val (.ref am), .val (.ref ax), .unset, .unset, .unset, .unset, .unset] [(.ref ax)]))
  obtain ⟨v109, T109, L109, X109, hQ109, st109⟩ := own_callV X108 hx hZ (rm := ({ frames := 1, cells := 1, slots := 3, locals := 14 } : Room)) (W := 0) (b := ax) (argsL := []) (rest := []) (y := (⟨"com/example/arborkey/arborkey/DecryptionMaterials", "dataKey", "()[B"⟩ : MethodName)) hown (hw _ (List.mem_of_getElem? (i := 32) rfl)) (hw _ (List.mem_of_getElem? (i := 33) rfl)) (hw _ (List.mem_of_getElem? (i := 35) rfl)) (hw _ (List.mem_of_getElem? (i := 34) rfl)) (hw _ (List.mem_of_getElem? (i := 36) rfl)) (hw _ (List.mem_of_getElem? (i := 7) rfl)) (by decide) (rmDK l Z a0 hw ax ac k1 zn b0 b1 b2 T108.heap n0 Z108 hzn3 f108_30 f108_31 f108_32) e108 f108_28 (by decide) (by decide) (by decide) (by decide) (g := (mkF m 110 #[.val (.int p0), .val (.int p1), .val (.int zn), .val (.int b0), .val (.int b1), .val (.int b2), .val (.int zm), .val (.int c0), .val (.int c1), .val (.int c2), .val (.ref ak), .val (.ref al), .val (.ref am), .val (.ref ax), .unset, .unset, .unset, .unset, .unset] [(.ref ax)])) rfl (by rw [hml]; rfl) (lenOf pd_5 rfl) rfl (Nat.le_of_ble_eq_true rfl) (hb hby at_110)
  obtain ⟨N109, E109, d1, rfl, V109, B109, g109⟩ := hQ109
  refine own_go st109 ?_
  show own_E _ _ _ _ _ _ _ (T109.setTop (mkF m 113 #[.val (.int p0), .val (.int p1), .val (.int zn), .val (.int b0), .val (.int b1), .val (.int b2), .val (.int zm), .val (.int c0), .val (.int c1), .val (.int c2), .val (.ref ak), .val (.ref al), .val (.ref am), .val (.ref ax), .unset, .unset, .unset, .unset, .unset] [(.ref d1)]))
  have M109 := Fr.app M108 N109
  have ne109_d1_1 : em ≠ d1 := Nat.ne_of_lt (Nat.lt_of_lt_of_le (EM.ext O108.2).lt g109)
  have ne109_d1_2 : ak ≠ d1 := Nat.ne_of_lt (Nat.lt_of_lt_of_le f108_4.lt g109)
  have ne109_d1_3 : al ≠ d1 := Nat.ne_of_lt (Nat.lt_of_lt_of_le f108_8.lt g109)
  have ne109_d1_4 : am ≠ d1 := Nat.ne_of_lt (Nat.lt_of_lt_of_le f108_14.lt g109)
  have ne109_d1_5 : ax ≠ d1 := Nat.ne_of_lt (Nat.lt_of_lt_of_le f108_28.lt g109)
  have ne109_d1_6 : ac ≠ d1 := Nat.ne_of_lt (Nat.lt_of_lt_of_le f108_31.lt g109)
  have w109_d1 : n0 ≤ d1 := Nat.le_trans Z108 g109
  have e109 : T109.heap = T109.heap := rfl
  have f109_3 := f108_4.ext E109
  have f109_7 := f108_8.ext E109
  have f109_8 := f108_9.ext E109
  have f109_13 := f108_14.ext E109
  have f109_14 := f108_15.ext E109
  have f109_15 := f108_16.ext E109
  have f109_27 := f108_28.ext E109
  have f109_28 := f108_29.ext E109
  have f109_29 := f108_30.ext E109
  have f109_30 := f108_31.ext E109
  have f109_31 := f108_32.ext E109
  have O109 := O108.ext E109
  have Z109 := Nat.le_trans Z108 E109.1
  refine own_go (fun _ k => XS.astore X109.here hx rfl (hb hby at_113) rfl rfl (l' := #[.val (.int p0), .val (.int p1), .val (.int zn), .val (.int b0), .val (.int b1), .val (.int b2), .val (.int zm), .val (.int c0), .val (.int c1), .val (.int c2), .val (.ref ak), .val (.ref al), .val (.ref am), .val (.ref ax), .val (.ref d1), .unset, .unset, .unset, .unset]) rfl k) ?_
  show own_E _ _ _ _ _ _ _ (T109.setTop (mkF m 115 #[.val (.int p0), .val (.int p1), .val (.int zn), .val (.int b0), .val (.int b1), .val (.int b2), .val (.int zm), .val (.int c0), .val (.int c1), .val (.int c2), .val (.ref ak), .val (.ref al), .val (.ref am), .val (.ref ax), .val (.ref d1), .unset, .unset, .unset, .unset] []))
  refine own_go (fun _ k => XS.aload X109.here hx rfl (hb hby at_115) rfl rfl k) ?_
  show own_E _ _ _ _ _ _ _ (T109.setTop (mkF m 117 #[.val (.int p0), .val (.int p1), .val (.int zn), .val (.int b0), .val (.int b1), .val (.int b2), .val (.int zm), .val (.int c0), .val (.int c1), .val (.int c2), .val (.ref ak), .val (.ref al), .val (.ref am), .val (.ref ax), .val (.ref d1), .unset, .unset, .unset, .unset] [(.ref d1)]))
  refine own_go (fun _ k => XS.iloadN X109.here hx rfl (hb hby at_117) rfl k) ?_
  show own_E _ _ _ _ _ _ _ (T109.setTop (mkF m 118 #[.val (.int p0), .val (.int p1), .val (.int zn), .val (.int b0), .val (.int b1), .val (.int b2), .val (.int zm), .val (.int c0), .val (.int c1), .val (.int c2), .val (.ref ak), .val (.ref al), .val (.ref am), .val (.ref ax), .val (.ref d1), .unset, .unset, .unset, .unset] [(.int zn), (.ref d1)]))
  refine own_go (fun _ k => XS.iloadN X109.here hx rfl (hb hby at_118) rfl k) ?_
  show own_E _ _ _ _ _ _ _ (T109.setTop (mkF m 119 #[.val (.int p0), .val (.int p1), .val (.int zn), .val (.int b0), .val (.int b1), .val (.int b2), .val (.int zm), .val (.int c0), .val (.int c1), .val (.int c2), .val (.ref ak), .val (.ref al), .val (.ref am), .val (.ref ax), .val (.ref d1), .unset, .unset, .unset, .unset] [(.int b0), (.int zn), (.ref d1)]))
  refine own_go (fun _ k => XS.iload X109.here hx rfl (hb hby at_119) rfl k) ?_
  show own_E _ _ _ _ _ _ _ (T109.setTop (mkF m 121 #[.val (.int p0), .val (.int p1), .val (.int zn), .val (.int b0), .val (.int b1), .val (.int b2), .val (.int zm), .val (.int c0), .val (.int c1), .val (.int c2), .val (.ref ak), .val (.ref al), .val (.ref am), .val (.ref ax), .val (.ref d1), .unset, .unset, .unset, .unset] [(.int b1), (.int b0), (.int zn), (.ref d1)]))
  refine own_go (fun _ k => XS.iload X109.here hx rfl (hb hby at_121) rfl k) ?_
  show own_E _ _ _ _ _ _ _ (T109.setTop (mkF m 123 #[.val (.int p0), .val (.int p1), .val (.int zn), .val (.int b0), .val (.int b1), .val (.int b2), .val (.int zm), .val (.int c0), .val (.int c1), .val (.int c2), .val (.ref ak), .val (.ref al), .val (.ref am), .val (.ref ax), .val (.ref d1), .unset, .unset, .unset, .unset] [(.int b2), (.int b1), (.int b0), (.int zn), (.ref d1)]))
  obtain ⟨v110, T110, L110, X110, hQ110, st110⟩ := own_callS X109 hx hZ (rm := ({ frames := 0, cells := 0, slots := 0, locals := 0 } : Room)) (W := 0) (argsL := [(.ref d1), (.int zn), (.int b0), (.int b1), (.int b2)]) (rest := []) (y := (⟨"com/example/arborkey/arborkey/DecryptionMaterialsDataKeyPinLaw", "same", "([BIBBB)Z"⟩ : MethodName)) hown (hw _ (List.mem_of_getElem? (i := 55) rfl)) (hw _ (List.mem_of_getElem? (i := 56) rfl)) (hw _ (List.mem_of_getElem? (i := 2) rfl)) (hw _ (List.mem_of_getElem? (i := 57) rfl)) (by decide) (rm10 l Z a0 hw d1 k1 zn b0 b1 b2 T109.heap n0 Z109 hzn4 V109) e109 (by decide) (by decide) (by decide) (by decide) (g := (mkF m 123 #[.val (.int p0), .val (.int p1), .val (.int zn), .val (.int b0), .val (.int b1), .val (.int b2), .val (.int zm), .val (.int c0), .val (.int c1), .val (.int c2), .val (.ref ak), .val (.ref al), .val (.ref am), .val (.ref ax), .val (.ref d1), .unset, .unset, .unset, .unset] [(.int b2), (.int b1), (.int b0), (.int zn), (.ref d1)])) rfl (by rw [hml]; rfl) (lenOf pd_8 rfl) rfl (Nat.le_of_ble_eq_true rfl) (hb hby at_123)
  obtain ⟨rfl, N110, e110⟩ := hQ110
  refine own_go st110 ?_
  show own_E _ _ _ _ _ _ _ (T110.setTop (mkF m 126 #[.val (.int p0), .val (.int p1), .val (.int zn), .val (.int b0), .val (.int b1), .val (.int b2), .val (.int zm), .val (.int c0), .val (.int c1), .val (.int c2), .val (.ref ak), .val (.ref al), .val (.ref am), .val (.ref ax), .val (.ref d1), .unset, .unset, .unset, .unset] [(.int (1 : Int32))]))
  have M110 := Fr.app M109 N110
  refine own_go (fun _ k => XS.ifYes X110.here hx rfl (pc0 := 126) (pc' := 131) rfl (hb hby at_126) rfl (by decide) (by decide) (by decide) k) ?_
  show own_E _ _ _ _ _ _ _ (T110.setTop (mkF m 131 #[.val (.int p0), .val (.int p1), .val (.int zn), .val (.int b0), .val (.int b1), .val (.int b2), .val (.int zm), .val (.int c0), .val (.int c1), .val (.int c2), .val (.ref ak), .val (.ref al), .val (.ref am), .val (.ref ax), .val (.ref d1), .unset, .unset, .unset, .unset] []))
  refine own_go (fun _ k => XS.aload X110.here hx rfl (hb hby at_131) rfl rfl k) ?_
  show own_E _ _ _ _ _ _ _ (T110.setTop (mkF m 133 #[.val (.int p0), .val (.int p1), .val (.int zn), .val (.int b0), .val (.int b1), .val (.int b2), .val (.int zm), .val (.int c0), .val (.int c1), .val (.int c2), .val (.ref ak), .val (.ref al), .val (.ref am), .val (.ref ax), .val (.ref d1), .unset, .unset, .unset, .unset] [(.ref d1)]))
  refine own_go (fun _ k => XS.aload X110.here hx rfl (hb hby at_133) rfl rfl k) ?_
  show own_E _ _ _ _ _ _ _ (T110.setTop (mkF m 135 #[.val (.int p0), .val (.int p1), .val (.int zn), .val (.int b0), .val (.int b1), .val (.int b2), .val (.int zm), .val (.int c0), .val (.int c1), .val (.int c2), .val (.ref ak), .val (.ref al), .val (.ref am), .val (.ref ax), .val (.ref d1), .unset, .unset, .unset, .unset] [(.ref ak), (.ref d1)]))
  refine own_go (fun _ k => Jvm.RoadKit.acmp (g := (mkF m 135 #[.val (.int p0), .val (.int p1), .val (.int zn), .val (.int b0), .val (.int b1), .val (.int b2), .val (.int zm), .val (.int c0), .val (.int c1), .val (.int c2), .val (.ref ak), .val (.ref al), .val (.ref am), .val (.ref ax), .val (.ref d1), .unset, .unset, .unset, .unset] [(.ref ak), (.ref d1)])) X110 hx rfl rfl rfl (pc0 := 135) (pc' := 140) (same := false) rfl (hb hby at_135) rfl (decide_eq_false (fun z => ne109_d1_2.symm (Value.ref.inj z))) (by decide) (by decide) k) ?_
  show own_E _ _ _ _ _ _ _ (T110.setTop (mkF m 140 #[.val (.int p0), .val (.int p1), .val (.int zn), .val (.int b0), .val (.int b1), .val (.int b2), .val (.int zm), .val (.int c0), .val (.int c1), .val (.int c2), .val (.ref ak), .val (.ref al), .val (.ref am), .val (.ref ax), .val (.ref d1), .unset, .unset, .unset, .unset] []))
  refine own_go (fun _ k => XS.aload X110.here hx rfl (hb hby at_140) rfl rfl k) ?_
  show own_E _ _ _ _ _ _ _ (T110.setTop (mkF m 142 #[.val (.int p0), .val (.int p1), .val (.int zn), .val (.int b0), .val (.int b1), .val (.int b2), .val (.int zm), .val (.int c0), .val (.int c1), .val (.int c2), .val (.ref ak), .val (.ref al), .val (.ref am), .val (.ref ax), .val (.ref d1), .unset, .unset, .unset, .unset] [(.ref d1)]))
  obtain ⟨v111, T111, L111, X111, hQ111, st111⟩ := own_callS X110 hx hZ (rm := ({ frames := 0, cells := 0, slots := 0, locals := 0 } : Room)) (W := 0) (argsL := [(.ref d1)]) (rest := []) (y := (⟨"com/example/arborkey/arborkey/DecryptionMaterialsDataKeyPinLaw", "flip", "([B)V"⟩ : MethodName)) hown (hw _ (List.mem_of_getElem? (i := 52) rfl)) (hw _ (List.mem_of_getElem? (i := 53) rfl)) (hw _ (List.mem_of_getElem? (i := 2) rfl)) (hw _ (List.mem_of_getElem? (i := 54) rfl)) (by decide) (rm9 l Z a0 hw d1 k1 zn b0 b1 b2 T109.heap n0 Z109 hzn4 V109 w109_d1) e110 (by decide) (by decide) (by decide) (by decide) (g := (mkF m 142 #[.val (.int p0), .val (.int p1), .val (.int zn), .val (.int b0), .val (.int b1), .val (.int b2), .val (.int zm), .val (.int c0), .val (.int c1), .val (.int c2), .val (.ref ak), .val (.ref al), .val (.ref am), .val (.ref ax), .val (.ref d1), .unset, .unset, .unset, .unset] [(.ref d1)])) rfl (by rw [hml]; rfl) (lenOf pd_7 rfl) rfl (Nat.le_of_ble_eq_true rfl) (hb hby at_142)
  obtain ⟨rfl, N111, K111⟩ := hQ111
  refine own_go st111 ?_
  show own_E _ _ _ _ _ _ _ (T111.setTop (mkF m 145 #[.val (.int p0), .val (.int p1), .val (.int zn), .val (.int b0), .val (.int b1), .val (.int b2), .val (.int zm), .val (.int c0), .val (.int c1), .val (.int c2), .val (.ref ak), .val (.ref al), .val (.ref am), .val (.ref ax), .val (.ref d1), .unset, .unset, .unset, .unset] []))
  have M111 := Fr.app M110 N111
  have e111 : T111.heap = T111.heap := rfl
  have f111_3 := f109_3.keep K111
  have f111_7 := f109_7.keep K111 (ninS ne109_d1_3 nin0)
  have f111_8 := f109_8.keep K111
  have f111_13 := f109_13.keep K111
  have f111_14 := f109_14.keep K111 (ninS ne109_d1_4 nin0)
  have f111_15 := f109_15.keep K111 (ninS ne109_d1_4 nin0)
  have f111_27 := f109_27.keep K111
  have f111_28 := f109_28.keep K111 (ninS ne109_d1_5 nin0)
  have f111_29 := f109_29.keep K111 (ninS ne109_d1_5 nin0)
  have f111_30 := f109_30.keep K111 (ninS ne109_d1_6 nin0)
  have f111_31 := f109_31.keep K111
  have f111_40 := B109.keep K111
  have O111 := O109.keep K111 (allS w109_d1 all0)
  have Z111 := Nat.le_trans Z109 K111.1
  refine own_go (fun _ k => XS.aload X111.here hx rfl (hb hby at_145) rfl rfl k) ?_
  show own_E _ _ _ _ _ _ _ (T111.setTop (mkF m 147 #[.val (.int p0), .val (.int p1), .val (.int zn), .val (.int b0), .val (.int b1), .val (.int b2), .val (.int zm), .val (.int c0), .val (.int c1), .val (.int c2), .val (.ref ak), .val (.ref al), .val (.ref am), .val (.ref ax), .val (.ref d1), .unset, .unset, .unset, .unset] [(.ref ax)]))
  obtain ⟨v112, T112, L112, X112, hQ112, st112⟩ := own_callV X111 hx hZ (rm := ({ frames := 1, cells := 1, slots := 3, locals := 14 } : Room)) (W := 0) (b := ax) (argsL := []) (rest := []) (y := (⟨"com/example/arborkey/arborkey/DecryptionMaterials", "dataKey", "()[B"⟩ : MethodName)) hown (hw _ (List.mem_of_getElem? (i := 32) rfl)) (hw _ (List.mem_of_getElem? (i := 33) rfl)) (hw _ (List.mem_of_getElem? (i := 35) rfl)) (hw _ (List.mem_of_getElem? (i := 34) rfl)) (hw _ (List.mem_of_getElem? (i := 36) rfl)) (hw _ (List.mem_of_getElem? (i := 7) rfl)) (by decide) (rmDK l Z a0 hw ax ac k1 zn b0 b1 b2 T111.heap n0 Z111 hzn3 f111_29 f111_30 f111_31) e111 f111_27 (by decide) (by decide) (by decide) (by decide) (g := (mkF m 147 #[.val (.int p0), .val (.int p1), .val (.int zn), .val (.int b0), .val (.int b1), .val (.int b2), .val (.int zm), .val (.int c0), .val (.int c1), .val (.int c2), .val (.ref ak), .val (.ref al), .val (.ref am), .val (.ref ax), .val (.ref d1), .unset, .unset, .unset, .unset] [(.ref ax)])) rfl (by rw [hml]; rfl) (lenOf pd_5 rfl) rfl (Nat.le_of_ble_eq_true rfl) (hb hby at_147)
  obtain ⟨N112, E112, d2, rfl, V112, B112, g112⟩ := hQ112
  refine own_go st112 ?_
  show own_E _ _ _ _ _ _ _ (T112.setTop (mkF m 150 #[.val (.int p0), .val (.int p1), .val (.int zn), .val (.int b0), .val (.int b1), .val (.int b2), .val (.int zm), .val (.int c0), .val (.int c1), .val (.int c2), .val (.ref ak), .val (.ref al), .val (.ref am), .val (.ref ax), .val (.ref d1), .unset, .unset, .unset, .unset] [(.ref d2)]))
  have M112 := Fr.app M111 N112
  have ne112_d2_1 : em ≠ d2 := Nat.ne_of_lt (Nat.lt_of_lt_of_le (EM.ext O111.2).lt g112)
  have ne112_d2_2 : ak ≠ d2 := Nat.ne_of_lt (Nat.lt_of_lt_of_le f111_3.lt g112)
  have ne112_d2_3 : al ≠ d2 := Nat.ne_of_lt (Nat.lt_of_lt_of_le f111_7.lt g112)
  have ne112_d2_4 : am ≠ d2 := Nat.ne_of_lt (Nat.lt_of_lt_of_le f111_13.lt g112)
  have ne112_d2_5 : ax ≠ d2 := Nat.ne_of_lt (Nat.lt_of_lt_of_le f111_27.lt g112)
  have ne112_d2_6 : ac ≠ d2 := Nat.ne_of_lt (Nat.lt_of_lt_of_le f111_30.lt g112)
  have ne112_d2_7 : d1 ≠ d2 := Nat.ne_of_lt (Nat.lt_of_lt_of_le f111_40.lt g112)
  have w112_d2 : n0 ≤ d2 := Nat.le_trans Z111 g112
  have e112 : T112.heap = T112.heap := rfl
  have f112_3 := f111_3.ext E112
  have f112_7 := f111_7.ext E112
  have f112_8 := f111_8.ext E112
  have f112_13 := f111_13.ext E112
  have f112_14 := f111_14.ext E112
  have f112_15 := f111_15.ext E112
  have f112_27 := f111_27.ext E112
  have f112_28 := f111_28.ext E112
  have f112_29 := f111_29.ext E112
  have f112_30 := f111_30.ext E112
  have f112_31 := f111_31.ext E112
  have f112_39 := f111_40.ext E112
  have O112 := O111.ext E112
  have Z112 := Nat.le_trans Z111 E112.1
  refine own_go (fun _ k => XS.astore X112.here hx rfl (hb hby at_150) rfl rfl (l' := #[.val (.int p0), .val (.int p1), .val (.int zn), .val (.int b0), .val (.int b1), .val (.int b2), .val (.int zm), .val (.int c0), .val (.int c1), .val (.int c2), .val (.ref ak), .val (.ref al), .val (.ref am), .val (.ref ax), .val (.ref d1), .val (.ref d2), .unset, .unset, .unset]) rfl k) ?_
  show own_E _ _ _ _ _ _ _ (T112.setTop (mkF m 152 #[.val (.int p0), .val (.int p1), .val (.int zn), .val (.int b0), .val (.int b1), .val (.int b2), .val (.int zm), .val (.int c0), .val (.int c1), .val (.int c2), .val (.ref ak), .val (.ref al), .val (.ref am), .val (.ref ax), .val (.ref d1), .val (.ref d2), .unset, .unset, .unset] []))
  refine own_go (fun _ k => XS.aload X112.here hx rfl (hb hby at_152) rfl rfl k) ?_
  show own_E _ _ _ _ _ _ _ (T112.setTop (mkF m 154 #[.val (.int p0), .val (.int p1), .val (.int zn), .val (.int b0), .val (.int b1), .val (.int b2), .val (.int zm), .val (.int c0), .val (.int c1), .val (.int c2), .val (.ref ak), .val (.ref al), .val (.ref am), .val (.ref ax), .val (.ref d1), .val (.ref d2), .unset, .unset, .unset] [(.ref d2)]))
  refine own_go (fun _ k => XS.aload X112.here hx rfl (hb hby at_154) rfl rfl k) ?_
  show own_E _ _ _ _ _ _ _ (T112.setTop (mkF m 156 #[.val (.int p0), .val (.int p1), .val (.int zn), .val (.int b0), .val (.int b1), .val (.int b2), .val (.int zm), .val (.int c0), .val (.int c1), .val (.int c2), .val (.ref ak), .val (.ref al), .val (.ref am), .val (.ref ax), .val (.ref d1), .val (.ref d2), .unset, .unset, .unset] [(.ref d1), (.ref d2)]))
  refine own_go (fun _ k => Jvm.RoadKit.acmp (g := (mkF m 156 #[.val (.int p0), .val (.int p1), .val (.int zn), .val (.int b0), .val (.int b1), .val (.int b2), .val (.int zm), .val (.int c0), .val (.int c1), .val (.int c2), .val (.ref ak), .val (.ref al), .val (.ref am), .val (.ref ax), .val (.ref d1), .val (.ref d2), .unset, .unset, .unset] [(.ref d1), (.ref d2)])) X112 hx rfl rfl rfl (pc0 := 156) (pc' := 159) (same := false) rfl (hb hby at_156) rfl (decide_eq_false (fun z => ne112_d2_7.symm (Value.ref.inj z))) (by decide) (by decide) k) ?_
  show own_E _ _ _ _ _ _ _ (T112.setTop (mkF m 159 #[.val (.int p0), .val (.int p1), .val (.int zn), .val (.int b0), .val (.int b1), .val (.int b2), .val (.int zm), .val (.int c0), .val (.int c1), .val (.int c2), .val (.ref ak), .val (.ref al), .val (.ref am), .val (.ref ax), .val (.ref d1), .val (.ref d2), .unset, .unset, .unset] []))
  refine own_go (fun _ k => XS.aload X112.here hx rfl (hb hby at_159) rfl rfl k) ?_
  show own_E _ _ _ _ _ _ _ (T112.setTop (mkF m 161 #[.val (.int p0), .val (.int p1), .val (.int zn), .val (.int b0), .val (.int b1), .val (.int b2), .val (.int zm), .val (.int c0), .val (.int c1), .val (.int c2), .val (.ref ak), .val (.ref al), .val (.ref am), .val (.ref ax), .val (.ref d1), .val (.ref d2), .unset, .unset, .unset] [(.ref d2)]))
  refine own_go (fun _ k => XS.iloadN X112.here hx rfl (hb hby at_161) rfl k) ?_
  show own_E _ _ _ _ _ _ _ (T112.setTop (mkF m 162 #[.val (.int p0), .val (.int p1), .val (.int zn), .val (.int b0), .val (.int b1), .val (.int b2), .val (.int zm), .val (.int c0), .val (.int c1), .val (.int c2), .val (.ref ak), .val (.ref al), .val (.ref am), .val (.ref ax), .val (.ref d1), .val (.ref d2), .unset, .unset, .unset] [(.int zn), (.ref d2)]))
  refine own_go (fun _ k => XS.iloadN X112.here hx rfl (hb hby at_162) rfl k) ?_
  show own_E _ _ _ _ _ _ _ (T112.setTop (mkF m 163 #[.val (.int p0), .val (.int p1), .val (.int zn), .val (.int b0), .val (.int b1), .val (.int b2), .val (.int zm), .val (.int c0), .val (.int c1), .val (.int c2), .val (.ref ak), .val (.ref al), .val (.ref am), .val (.ref ax), .val (.ref d1), .val (.ref d2), .unset, .unset, .unset] [(.int b0), (.int zn), (.ref d2)]))
  refine own_go (fun _ k => XS.iload X112.here hx rfl (hb hby at_163) rfl k) ?_
  show own_E _ _ _ _ _ _ _ (T112.setTop (mkF m 165 #[.val (.int p0), .val (.int p1), .val (.int zn), .val (.int b0), .val (.int b1), .val (.int b2), .val (.int zm), .val (.int c0), .val (.int c1), .val (.int c2), .val (.ref ak), .val (.ref al), .val (.ref am), .val (.ref ax), .val (.ref d1), .val (.ref d2), .unset, .unset, .unset] [(.int b1), (.int b0), (.int zn), (.ref d2)]))
  refine own_go (fun _ k => XS.iload X112.here hx rfl (hb hby at_165) rfl k) ?_
  show own_E _ _ _ _ _ _ _ (T112.setTop (mkF m 167 #[.val (.int p0), .val (.int p1), .val (.int zn), .val (.int b0), .val (.int b1), .val (.int b2), .val (.int zm), .val (.int c0), .val (.int c1), .val (.int c2), .val (.ref ak), .val (.ref al), .val (.ref am), .val (.ref ax), .val (.ref d1), .val (.ref d2), .unset, .unset, .unset] [(.int b2), (.int b1), (.int b0), (.int zn), (.ref d2)]))
  obtain ⟨v113, T113, L113, X113, hQ113, st113⟩ := own_callS X112 hx hZ (rm := ({ frames := 0, cells := 0, slots := 0, locals := 0 } : Room)) (W := 0) (argsL := [(.ref d2), (.int zn), (.int b0), (.int b1), (.int b2)]) (rest := []) (y := (⟨"com/example/arborkey/arborkey/DecryptionMaterialsDataKeyPinLaw", "same", "([BIBBB)Z"⟩ : MethodName)) hown (hw _ (List.mem_of_getElem? (i := 55) rfl)) (hw _ (List.mem_of_getElem? (i := 56) rfl)) (hw _ (List.mem_of_getElem? (i := 2) rfl)) (hw _ (List.mem_of_getElem? (i := 57) rfl)) (by decide) (rm10 l Z a0 hw d2 k1 zn b0 b1 b2 T112.heap n0 Z112 hzn4 V112) e112 (by decide) (by decide) (by decide) (by decide) (g := (mkF m 167 #[.val (.int p0), .val (.int p1), .val (.int zn), .val (.int b0), .val (.int b1), .val (.int b2), .val (.int zm), .val (.int c0), .val (.int c1), .val (.int c2), .val (.ref ak), .val (.ref al), .val (.ref am), .val (.ref ax), .val (.ref d1), .val (.ref d2), .unset, .unset, .unset] [(.int b2), (.int b1), (.int b0), (.int zn), (.ref d2)])) rfl (by rw [hml]; rfl) (lenOf pd_8 rfl) rfl (Nat.le_of_ble_eq_true rfl) (hb hby at_167)
  obtain ⟨rfl, N113, e113⟩ := hQ113
  refine own_go st113 ?_
  show own_E _ _ _ _ _ _ _ (T113.setTop (mkF m 170 #[.val (.int p0), .val (.int p1), .val (.int zn), .val (.int b0), .val (.int b1), .val (.int b2), .val (.int zm), .val (.int c0), .val (.int c1), .val (.int c2), .val (.ref ak), .val (.ref al), .val (.ref am), .val (.ref ax), .val (.ref d1), .val (.ref d2), .unset, .unset, .unset] [(.int (1 : Int32))]))
  have M113 := Fr.app M112 N113
  refine own_go (fun _ k => XS.ifYes X113.here hx rfl (pc0 := 170) (pc' := 175) rfl (hb hby at_170) rfl (by decide) (by decide) (by decide) k) ?_
  show own_E _ _ _ _ _ _ _ (T113.setTop (mkF m 175 #[.val (.int p0), .val (.int p1), .val (.int zn), .val (.int b0), .val (.int b1), .val (.int b2), .val (.int zm), .val (.int c0), .val (.int c1), .val (.int c2), .val (.ref ak), .val (.ref al), .val (.ref am), .val (.ref ax), .val (.ref d1), .val (.ref d2), .unset, .unset, .unset] []))
  refine own_go (fun _ k => XS.aload X113.here hx rfl (hb hby at_175) rfl rfl k) ?_
  show own_E _ _ _ _ _ _ _ (T113.setTop (mkF m 177 #[.val (.int p0), .val (.int p1), .val (.int zn), .val (.int b0), .val (.int b1), .val (.int b2), .val (.int zm), .val (.int c0), .val (.int c1), .val (.int c2), .val (.ref ak), .val (.ref al), .val (.ref am), .val (.ref ax), .val (.ref d1), .val (.ref d2), .unset, .unset, .unset] [(.ref am)]))
  obtain ⟨v114, T114, L114, X114, hQ114, st114⟩ := own_callV X113 hx hZ (rm := ({ frames := 1, cells := 1, slots := 3, locals := 14 } : Room)) (W := 0) (b := am) (argsL := []) (rest := []) (y := (⟨"com/example/arborkey/arborkey/DecryptionMaterials", "dataKey", "()[B"⟩ : MethodName)) hown (hw _ (List.mem_of_getElem? (i := 32) rfl)) (hw _ (List.mem_of_getElem? (i := 33) rfl)) (hw _ (List.mem_of_getElem? (i := 35) rfl)) (hw _ (List.mem_of_getElem? (i := 34) rfl)) (hw _ (List.mem_of_getElem? (i := 36) rfl)) (hw _ (List.mem_of_getElem? (i := 7) rfl)) (by decide) (rmDN l Z a0 hw am T112.heap n0 Z112 f112_15) e113 f112_13 (by decide) (by decide) (by decide) (by decide) (g := (mkF m 177 #[.val (.int p0), .val (.int p1), .val (.int zn), .val (.int b0), .val (.int b1), .val (.int b2), .val (.int zm), .val (.int c0), .val (.int c1), .val (.int c2), .val (.ref ak), .val (.ref al), .val (.ref am), .val (.ref ax), .val (.ref d1), .val (.ref d2), .unset, .unset, .unset] [(.ref am)])) rfl (by rw [hml]; rfl) (lenOf pd_5 rfl) rfl (Nat.le_of_ble_eq_true rfl) (hb hby at_177)
  obtain ⟨rfl, N114, e114⟩ := hQ114
  refine own_go st114 ?_
  show own_E _ _ _ _ _ _ _ (T114.setTop (mkF m 180 #[.val (.int p0), .val (.int p1), .val (.int zn), .val (.int b0), .val (.int b1), .val (.int b2), .val (.int zm), .val (.int c0), .val (.int c1), .val (.int c2), .val (.ref ak), .val (.ref al), .val (.ref am), .val (.ref ax), .val (.ref d1), .val (.ref d2), .unset, .unset, .unset] [.null]))
  have M114 := Fr.app M113 N114
  refine own_go (fun _ k => XS.ifnullYes X114.here hx rfl (pc0 := 180) (pc' := 185) rfl (hb hby at_180) rfl (by decide) (by decide) k) ?_
  show own_E _ _ _ _ _ _ _ (T114.setTop (mkF m 185 #[.val (.int p0), .val (.int p1), .val (.int zn), .val (.int b0), .val (.int b1), .val (.int b2), .val (.int zm), .val (.int c0), .val (.int c1), .val (.int c2), .val (.ref ak), .val (.ref al), .val (.ref am), .val (.ref ax), .val (.ref d1), .val (.ref d2), .unset, .unset, .unset] []))
  refine own_go (fun _ k => XS.aload X114.here hx rfl (hb hby at_185) rfl rfl k) ?_
  show own_E _ _ _ _ _ _ _ (T114.setTop (mkF m 187 #[.val (.int p0), .val (.int p1), .val (.int zn), .val (.int b0), .val (.int b1), .val (.int b2), .val (.int zm), .val (.int c0), .val (.int c1), .val (.int c2), .val (.ref ak), .val (.ref al), .val (.ref am), .val (.ref ax), .val (.ref d1), .val (.ref d2), .unset, .unset, .unset] [(.ref ax)]))
  refine own_go (fun _ k => XS.aload X114.here hx rfl (hb hby at_187) rfl rfl k) ?_
  show own_E _ _ _ _ _ _ _ (T114.setTop (mkF m 189 #[.val (.int p0), .val (.int p1), .val (.int zn), .val (.int b0), .val (.int b1), .val (.int b2), .val (.int zm), .val (.int c0), .val (.int c1), .val (.int c2), .val (.ref ak), .val (.ref al), .val (.ref am), .val (.ref ax), .val (.ref d1), .val (.ref d2), .unset, .unset, .unset] [(.ref al), (.ref ax)]))
  obtain ⟨v115, T115, L115, X115, hQ115, st115⟩ := own_callV X114 hx hZ (rm := ({ frames := 2, cells := 2, slots := 5, locals := 32 } : Room)) (W := 0) (b := ax) (argsL := [(.ref al)]) (rest := []) (y := (⟨"com/example/arborkey/arborkey/DecryptionMaterials", "withDataKey", "([B)Lcom/example/arborkey/arborkey/DecryptionMaterials;"⟩ : MethodName)) hown (hw _ (List.mem_of_getElem? (i := 37) rfl)) (hw _ (List.mem_of_getElem? (i := 38) rfl)) (hw _ (List.mem_of_getElem? (i := 40) rfl)) (hw _ (List.mem_of_getElem? (i := 39) rfl)) (hw _ (List.mem_of_getElem? (i := 41) rfl)) (hw _ (List.mem_of_getElem? (i := 7) rfl)) (by decide) (rm8 l Z a0 hw ax al k2 zm c0 c1 c2 em T112.heap n0 Z112 hzm3 f112_28 f112_7 f112_8) e114 f112_27 (by decide) (by decide) (by decide) (by decide) (g := (mkF m 189 #[.val (.int p0), .val (.int p1), .val (.int zn), .val (.int b0), .val (.int b1), .val (.int b2), .val (.int zm), .val (.int c0), .val (.int c1), .val (.int c2), .val (.ref ak), .val (.ref al), .val (.ref am), .val (.ref ax), .val (.ref d1), .val (.ref d2), .unset, .unset, .unset] [(.ref al), (.ref ax)])) rfl (by rw [hml]; rfl) (lenOf pd_6 rfl) rfl (Nat.le_of_ble_eq_true rfl) (hb hby at_189)
  obtain ⟨N115, K115, ay, ad, rfl, gx115, gc115, nxc115, A115, F115, G115, V115, B115⟩ := hQ115
  refine own_go st115 ?_
  show own_E _ _ _ _ _ _ _ (T115.setTop (mkF m 192 #[.val (.int p0), .val (.int p1), .val (.int zn), .val (.int b0), .val (.int b1), .val (.int b2), .val (.int zm), .val (.int c0), .val (.int c1), .val (.int c2), .val (.ref ak), .val (.ref al), .val (.ref am), .val (.ref ax), .val (.ref d1), .val (.ref d2), .unset, .unset, .unset] [(.ref ay)]))
  have M115 := Fr.app M114 N115
  have ne115_ay_1 : em ≠ ay := Nat.ne_of_lt (Nat.lt_of_lt_of_le (EM.ext O112.2).lt gx115)
  have ne115_ay_2 : ak ≠ ay := Nat.ne_of_lt (Nat.lt_of_lt_of_le f112_3.lt gx115)
  have ne115_ay_3 : al ≠ ay := Nat.ne_of_lt (Nat.lt_of_lt_of_le f112_7.lt gx115)
  have ne115_ay_4 : am ≠ ay := Nat.ne_of_lt (Nat.lt_of_lt_of_le f112_13.lt gx115)
  have ne115_ay_5 : ax ≠ ay := Nat.ne_of_lt (Nat.lt_of_lt_of_le f112_27.lt gx115)
  have ne115_ay_6 : ac ≠ ay := Nat.ne_of_lt (Nat.lt_of_lt_of_le f112_30.lt gx115)
  have ne115_ay_7 : d1 ≠ ay := Nat.ne_of_lt (Nat.lt_of_lt_of_le f112_39.lt gx115)
  have ne115_ay_8 : d2 ≠ ay := Nat.ne_of_lt (Nat.lt_of_lt_of_le V112.lt gx115)
  have w115_ay : n0 ≤ ay := Nat.le_trans Z112 gx115
  have ne115_ad_1 : em ≠ ad := Nat.ne_of_lt (Nat.lt_of_lt_of_le (EM.ext O112.2).lt gc115)
  have ne115_ad_2 : ak ≠ ad := Nat.ne_of_lt (Nat.lt_of_lt_of_le f112_3.lt gc115)
  have ne115_ad_3 : al ≠ ad := Nat.ne_of_lt (Nat.lt_of_lt_of_le f112_7.lt gc115)
  have ne115_ad_4 : am ≠ ad := Nat.ne_of_lt (Nat.lt_of_lt_of_le f112_13.lt gc115)
  have ne115_ad_5 : ax ≠ ad := Nat.ne_of_lt (Nat.lt_of_lt_of_le f112_27.lt gc115)
  have ne115_ad_6 : ac ≠ ad := Nat.ne_of_lt (Nat.lt_of_lt_of_le f112_30.lt gc115)
  have ne115_ad_7 : d1 ≠ ad := Nat.ne_of_lt (Nat.lt_of_lt_of_le f112_39.lt gc115)
  have ne115_ad_8 : d2 ≠ ad := Nat.ne_of_lt (Nat.lt_of_lt_of_le V112.lt gc115)
  have w115_ad : n0 ≤ ad := Nat.le_trans Z112 gc115
  have e115 : T115.heap = T115.heap := rfl
  have f115_3 := f112_3.keep K115
  have f115_7 := f112_7.keep K115 nin0
  have f115_8 := f112_8.keep K115
  have f115_13 := f112_13.keep K115
  have f115_14 := f112_14.keep K115 nin0
  have f115_15 := f112_15.keep K115 nin0
  have f115_27 := f112_27.keep K115
  have f115_28 := f112_28.keep K115 nin0
  have f115_29 := f112_29.keep K115 nin0
  have f115_30 := f112_30.keep K115 nin0
  have f115_31 := f112_31.keep K115
  have f115_39 := f112_39.keep K115
  have f115_48 := V112.keep K115 nin0
  have f115_49 := B112.keep K115
  have O115 := O112.keep K115 all0
  have Z115 := Nat.le_trans Z112 K115.1
  refine own_go (fun _ k => XS.astore X115.here hx rfl (hb hby at_192) rfl rfl (l' := #[.val (.int p0), .val (.int p1), .val (.int zn), .val (.int b0), .val (.int b1), .val (.int b2), .val (.int zm), .val (.int c0), .val (.int c1), .val (.int c2), .val (.ref ak), .val (.ref al), .val (.ref am), .val (.ref ax), .val (.ref d1), .val (.ref d2), .val (.ref ay), .unset, .unset]) rfl k) ?_
  show own_E _ _ _ _ _ _ _ (T115.setTop (mkF m 194 #[.val (.int p0), .val (.int p1), .val (.int zn), .val (.int b0), .val (.int b1), .val (.int b2), .val (.int zm), .val (.int c0), .val (.int c1), .val (.int c2), .val (.ref ak), .val (.ref al), .val (.ref am), .val (.ref ax), .val (.ref d1), .val (.ref d2), .val (.ref ay), .unset, .unset] []))
  refine own_go (fun _ k => XS.aload X115.here hx rfl (hb hby at_194) rfl rfl k) ?_
  show own_E _ _ _ _ _ _ _ (T115.setTop (mkF m 196 #[.val (.int p0), .val (.int p1), .val (.int zn), .val (.int b0), .val (.int b1), .val (.int b2), .val (.int zm), .val (.int c0), .val (.int c1), .val (.int c2), .val (.ref ak), .val (.ref al), .val (.ref am), .val (.ref ax), .val (.ref d1), .val (.ref d2), .val (.ref ay), .unset, .unset] [(.ref ay)]))
  obtain ⟨v116, T116, L116, X116, hQ116, st116⟩ := own_callV X115 hx hZ (rm := ({ frames := 1, cells := 1, slots := 3, locals := 14 } : Room)) (W := 0) (b := ay) (argsL := []) (rest := []) (y := (⟨"com/example/arborkey/arborkey/DecryptionMaterials", "dataKey", "()[B"⟩ : MethodName)) hown (hw _ (List.mem_of_getElem? (i := 32) rfl)) (hw _ (List.mem_of_getElem? (i := 33) rfl)) (hw _ (List.mem_of_getElem? (i := 35) rfl)) (hw _ (List.mem_of_getElem? (i := 34) rfl)) (hw _ (List.mem_of_getElem? (i := 36) rfl)) (hw _ (List.mem_of_getElem? (i := 7) rfl)) (by decide) (rmDK l Z a0 hw ay ad k2 zm c0 c1 c2 T115.heap n0 Z115 hzm3 G115 V115 B115) e115 A115 (by decide) (by decide) (by decide) (by decide) (g := (mkF m 196 #[.val (.int p0), .val (.int p1), .val (.int zn), .val (.int b0), .val (.int b1), .val (.int b2), .val (.int zm), .val (.int c0), .val (.int c1), .val (.int c2), .val (.ref ak), .val (.ref al), .val (.ref am), .val (.ref ax), .val (.ref d1), .val (.ref d2), .val (.ref ay), .unset, .unset] [(.ref ay)])) rfl (by rw [hml]; rfl) (lenOf pd_5 rfl) rfl (Nat.le_of_ble_eq_true rfl) (hb hby at_196)
  obtain ⟨N116, E116, d3, rfl, V116, B116, g116⟩ := hQ116
  refine own_go st116 ?_
  show own_E _ _ _ _ _ _ _ (T116.setTop (mkF m 199 #[.val (.int p0), .val (.int p1), .val (.int zn), .val (.int b0), .val (.int b1), .val (.int b2), .val (.int zm), .val (.int c0), .val (.int c1), .val (.int c2), .val (.ref ak), .val (.ref al), .val (.ref am), .val (.ref ax), .val (.ref d1), .val (.ref d2), .val (.ref ay), .unset, .unset] [(.ref d3)]))
  have M116 := Fr.app M115 N116
  have ne116_d3_1 : em ≠ d3 := Nat.ne_of_lt (Nat.lt_of_lt_of_le (EM.ext O115.2).lt g116)
  have ne116_d3_2 : ak ≠ d3 := Nat.ne_of_lt (Nat.lt_of_lt_of_le f115_3.lt g116)
  have ne116_d3_3 : al ≠ d3 := Nat.ne_of_lt (Nat.lt_of_lt_of_le f115_7.lt g116)
  have ne116_d3_4 : am ≠ d3 := Nat.ne_of_lt (Nat.lt_of_lt_of_le f115_13.lt g116)
  have ne116_d3_5 : ax ≠ d3 := Nat.ne_of_lt (Nat.lt_of_lt_of_le f115_27.lt g116)
  have ne116_d3_6 : ac ≠ d3 := Nat.ne_of_lt (Nat.lt_of_lt_of_le f115_30.lt g116)
  have ne116_d3_7 : d1 ≠ d3 := Nat.ne_of_lt (Nat.lt_of_lt_of_le f115_39.lt g116)
  have ne116_d3_8 : d2 ≠ d3 := Nat.ne_of_lt (Nat.lt_of_lt_of_le f115_48.lt g116)
  have ne116_d3_9 : ay ≠ d3 := Nat.ne_of_lt (Nat.lt_of_lt_of_le A115.lt g116)
  have ne116_d3_10 : ad ≠ d3 := Nat.ne_of_lt (Nat.lt_of_lt_of_le V115.lt g116)
  have w116_d3 : n0 ≤ d3 := Nat.le_trans Z115 g116
  have e116 : T116.heap = T116.heap := rfl
  have f116_3 := f115_3.ext E116
  have f116_7 := f115_7.ext E116
  have f116_8 := f115_8.ext E116
  have f116_13 := f115_13.ext E116
  have f116_14 := f115_14.ext E116
  have f116_15 := f115_15.ext E116
  have f116_27 := f115_27.ext E116
  have f116_28 := f115_28.ext E116
  have f116_29 := f115_29.ext E116
  have f116_30 := f115_30.ext E116
  have f116_31 := f115_31.ext E116
  have f116_39 := f115_39.ext E116
  have f116_48 := f115_48.ext E116
  have f116_49 := f115_49.ext E116
  have f116_69 := A115.ext E116
  have f116_70 := F115.ext E116
  have f116_71 := G115.ext E116
  have f116_72 := V115.ext E116
  have f116_73 := B115.ext E116
  have O116 := O115.ext E116
  have Z116 := Nat.le_trans Z115 E116.1
  refine own_go (fun _ k => XS.astore X116.here hx rfl (hb hby at_199) rfl rfl (l' := #[.val (.int p0), .val (.int p1), .val (.int zn), .val (.int b0), .val (.int b1), .val (.int b2), .val (.int zm), .val (.int c0), .val (.int c1), .val (.int c2), .val (.ref ak), .val (.ref al), .val (.ref am), .val (.ref ax), .val (.ref d1), .val (.ref d2), .val (.ref ay), .val (.ref d3), .unset]) rfl k) ?_
  show own_E _ _ _ _ _ _ _ (T116.setTop (mkF m 201 #[.val (.int p0), .val (.int p1), .val (.int zn), .val (.int b0), .val (.int b1), .val (.int b2), .val (.int zm), .val (.int c0), .val (.int c1), .val (.int c2), .val (.ref ak), .val (.ref al), .val (.ref am), .val (.ref ax), .val (.ref d1), .val (.ref d2), .val (.ref ay), .val (.ref d3), .unset] []))
  refine own_go (fun _ k => XS.aload X116.here hx rfl (hb hby at_201) rfl rfl k) ?_
  show own_E _ _ _ _ _ _ _ (T116.setTop (mkF m 203 #[.val (.int p0), .val (.int p1), .val (.int zn), .val (.int b0), .val (.int b1), .val (.int b2), .val (.int zm), .val (.int c0), .val (.int c1), .val (.int c2), .val (.ref ak), .val (.ref al), .val (.ref am), .val (.ref ax), .val (.ref d1), .val (.ref d2), .val (.ref ay), .val (.ref d3), .unset] [(.ref d3)]))
  refine own_go (fun _ k => XS.iload X116.here hx rfl (hb hby at_203) rfl k) ?_
  show own_E _ _ _ _ _ _ _ (T116.setTop (mkF m 205 #[.val (.int p0), .val (.int p1), .val (.int zn), .val (.int b0), .val (.int b1), .val (.int b2), .val (.int zm), .val (.int c0), .val (.int c1), .val (.int c2), .val (.ref ak), .val (.ref al), .val (.ref am), .val (.ref ax), .val (.ref d1), .val (.ref d2), .val (.ref ay), .val (.ref d3), .unset] [(.int zm), (.ref d3)]))
  refine own_go (fun _ k => XS.iload X116.here hx rfl (hb hby at_205) rfl k) ?_
  show own_E _ _ _ _ _ _ _ (T116.setTop (mkF m 207 #[.val (.int p0), .val (.int p1), .val (.int zn), .val (.int b0), .val (.int b1), .val (.int b2), .val (.int zm), .val (.int c0), .val (.int c1), .val (.int c2), .val (.ref ak), .val (.ref al), .val (.ref am), .val (.ref ax), .val (.ref d1), .val (.ref d2), .val (.ref ay), .val (.ref d3), .unset] [(.int c0), (.int zm), (.ref d3)]))
  refine own_go (fun _ k => XS.iload X116.here hx rfl (hb hby at_207) rfl k) ?_
  show own_E _ _ _ _ _ _ _ (T116.setTop (mkF m 209 #[.val (.int p0), .val (.int p1), .val (.int zn), .val (.int b0), .val (.int b1), .val (.int b2), .val (.int zm), .val (.int c0), .val (.int c1), .val (.int c2), .val (.ref ak), .val (.ref al), .val (.ref am), .val (.ref ax), .val (.ref d1), .val (.ref d2), .val (.ref ay), .val (.ref d3), .unset] [(.int c1), (.int c0), (.int zm), (.ref d3)]))
  refine own_go (fun _ k => XS.iload X116.here hx rfl (hb hby at_209) rfl k) ?_
  show own_E _ _ _ _ _ _ _ (T116.setTop (mkF m 211 #[.val (.int p0), .val (.int p1), .val (.int zn), .val (.int b0), .val (.int b1), .val (.int b2), .val (.int zm), .val (.int c0), .val (.int c1), .val (.int c2), .val (.ref ak), .val (.ref al), .val (.ref am), .val (.ref ax), .val (.ref d1), .val (.ref d2), .val (.ref ay), .val (.ref d3), .unset] [(.int c2), (.int c1), (.int c0), (.int zm), (.ref d3)]))
  obtain ⟨v117, T117, L117, X117, hQ117, st117⟩ := own_callS X116 hx hZ (rm := ({ frames := 0, cells := 0, slots := 0, locals := 0 } : Room)) (W := 0) (argsL := [(.ref d3), (.int zm), (.int c0), (.int c1), (.int c2)]) (rest := []) (y := (⟨"com/example/arborkey/arborkey/DecryptionMaterialsDataKeyPinLaw", "same", "([BIBBB)Z"⟩ : MethodName)) hown (hw _ (List.mem_of_getElem? (i := 55) rfl)) (hw _ (List.mem_of_getElem? (i := 56) rfl)) (hw _ (List.mem_of_getElem? (i := 2) rfl)) (hw _ (List.mem_of_getElem? (i := 57) rfl)) (by decide) (rm10 l Z a0 hw d3 k2 zm c0 c1 c2 T116.heap n0 Z116 hzm4 V116) e116 (by decide) (by decide) (by decide) (by decide) (g := (mkF m 211 #[.val (.int p0), .val (.int p1), .val (.int zn), .val (.int b0), .val (.int b1), .val (.int b2), .val (.int zm), .val (.int c0), .val (.int c1), .val (.int c2), .val (.ref ak), .val (.ref al), .val (.ref am), .val (.ref ax), .val (.ref d1), .val (.ref d2), .val (.ref ay), .val (.ref d3), .unset] [(.int c2), (.int c1), (.int c0), (.int zm), (.ref d3)])) rfl (by rw [hml]; rfl) (lenOf pd_8 rfl) rfl (Nat.le_of_ble_eq_true rfl) (hb hby at_211)
  obtain ⟨rfl, N117, e117⟩ := hQ117
  refine own_go st117 ?_
  show own_E _ _ _ _ _ _ _ (T117.setTop (mkF m 214 #[.val (.int p0), .val (.int p1), .val (.int zn), .val (.int b0), .val (.int b1), .val (.int b2), .val (.int zm), .val (.int c0), .val (.int c1), .val (.int c2), .val (.ref ak), .val (.ref al), .val (.ref am), .val (.ref ax), .val (.ref d1), .val (.ref d2), .val (.ref ay), .val (.ref d3), .unset] [(.int (1 : Int32))]))
  have M117 := Fr.app M116 N117
  refine own_go (fun _ k => XS.ifYes X117.here hx rfl (pc0 := 214) (pc' := 219) rfl (hb hby at_214) rfl (by decide) (by decide) (by decide) k) ?_
  show own_E _ _ _ _ _ _ _ (T117.setTop (mkF m 219 #[.val (.int p0), .val (.int p1), .val (.int zn), .val (.int b0), .val (.int b1), .val (.int b2), .val (.int zm), .val (.int c0), .val (.int c1), .val (.int c2), .val (.ref ak), .val (.ref al), .val (.ref am), .val (.ref ax), .val (.ref d1), .val (.ref d2), .val (.ref ay), .val (.ref d3), .unset] []))
  refine own_go (fun _ k => XS.aload X117.here hx rfl (hb hby at_219) rfl rfl k) ?_
  show own_E _ _ _ _ _ _ _ (T117.setTop (mkF m 221 #[.val (.int p0), .val (.int p1), .val (.int zn), .val (.int b0), .val (.int b1), .val (.int b2), .val (.int zm), .val (.int c0), .val (.int c1), .val (.int c2), .val (.ref ak), .val (.ref al), .val (.ref am), .val (.ref ax), .val (.ref d1), .val (.ref d2), .val (.ref ay), .val (.ref d3), .unset] [(.ref ax)]))
  obtain ⟨v118, T118, L118, X118, hQ118, st118⟩ := own_callV X117 hx hZ (rm := ({ frames := 1, cells := 1, slots := 3, locals := 14 } : Room)) (W := 0) (b := ax) (argsL := []) (rest := []) (y := (⟨"com/example/arborkey/arborkey/DecryptionMaterials", "dataKey", "()[B"⟩ : MethodName)) hown (hw _ (List.mem_of_getElem? (i := 32) rfl)) (hw _ (List.mem_of_getElem? (i := 33) rfl)) (hw _ (List.mem_of_getElem? (i := 35) rfl)) (hw _ (List.mem_of_getElem? (i := 34) rfl)) (hw _ (List.mem_of_getElem? (i := 36) rfl)) (hw _ (List.mem_of_getElem? (i := 7) rfl)) (by decide) (rmDK l Z a0 hw ax ac k1 zn b0 b1 b2 T116.heap n0 Z116 hzn3 f116_29 f116_30 f116_31) e117 f116_27 (by decide) (by decide) (by decide) (by decide) (g := (mkF m 221 #[.val (.int p0), .val (.int p1), .val (.int zn), .val (.int b0), .val (.int b1), .val (.int b2), .val (.int zm), .val (.int c0), .val (.int c1), .val (.int c2), .val (.ref ak), .val (.ref al), .val (.ref am), .val (.ref ax), .val (.ref d1), .val (.ref d2), .val (.ref ay), .val (.ref d3), .unset] [(.ref ax)])) rfl (by rw [hml]; rfl) (lenOf pd_5 rfl) rfl (Nat.le_of_ble_eq_true rfl) (hb hby at_221)
  obtain ⟨N118, E118, d4, rfl, V118, B118, g118⟩ := hQ118
  refine own_go st118 ?_
  show own_E _ _ _ _ _ _ _ (T118.setTop (mkF m 224 #[.val (.int p0), .val (.int p1), .val (.int zn), .val (.int b0), .val (.int b1), .val (.int b2), .val (.int zm), .val (.int c0), .val (.int c1), .val (.int c2), .val (.ref ak), .val (.ref al), .val (.ref am), .val (.ref ax), .val (.ref d1), .val (.ref d2), .val (.ref ay), .val (.ref d3), .unset] [(.ref d4)]))
  have M118 := Fr.app M117 N118
  have ne118_d4_1 : em ≠ d4 := Nat.ne_of_lt (Nat.lt_of_lt_of_le (EM.ext O116.2).lt g118)
  have ne118_d4_2 : ak ≠ d4 := Nat.ne_of_lt (Nat.lt_of_lt_of_le f116_3.lt g118)
  have ne118_d4_3 : al ≠ d4 := Nat.ne_of_lt (Nat.lt_of_lt_of_le f116_7.lt g118)
  have ne118_d4_4 : am ≠ d4 := Nat.ne_of_lt (Nat.lt_of_lt_of_le f116_13.lt g118)
  have ne118_d4_5 : ax ≠ d4 := Nat.ne_of_lt (Nat.lt_of_lt_of_le f116_27.lt g118)
  have ne118_d4_6 : ac ≠ d4 := Nat.ne_of_lt (Nat.lt_of_lt_of_le f116_30.lt g118)
  have ne118_d4_7 : d1 ≠ d4 := Nat.ne_of_lt (Nat.lt_of_lt_of_le f116_39.lt g118)
  have ne118_d4_8 : d2 ≠ d4 := Nat.ne_of_lt (Nat.lt_of_lt_of_le f116_48.lt g118)
  have ne118_d4_9 : ay ≠ d4 := Nat.ne_of_lt (Nat.lt_of_lt_of_le f116_69.lt g118)
  have ne118_d4_10 : ad ≠ d4 := Nat.ne_of_lt (Nat.lt_of_lt_of_le f116_72.lt g118)
  have ne118_d4_11 : d3 ≠ d4 := Nat.ne_of_lt (Nat.lt_of_lt_of_le V116.lt g118)
  have w118_d4 : n0 ≤ d4 := Nat.le_trans Z116 g118
  have e118 : T118.heap = T118.heap := rfl
  have f118_3 := f116_3.ext E118
  have f118_7 := f116_7.ext E118
  have f118_8 := f116_8.ext E118
  have f118_13 := f116_13.ext E118
  have f118_14 := f116_14.ext E118
  have f118_15 := f116_15.ext E118
  have f118_27 := f116_27.ext E118
  have f118_28 := f116_28.ext E118
  have f118_29 := f116_29.ext E118
  have f118_30 := f116_30.ext E118
  have f118_31 := f116_31.ext E118
  have f118_39 := f116_39.ext E118
  have f118_48 := f116_48.ext E118
  have f118_49 := f116_49.ext E118
  have f118_69 := f116_69.ext E118
  have f118_70 := f116_70.ext E118
  have f118_71 := f116_71.ext E118
  have f118_72 := f116_72.ext E118
  have f118_73 := f116_73.ext E118
  have f118_85 := V116.ext E118
  have f118_86 := B116.ext E118
  have O118 := O116.ext E118
  have Z118 := Nat.le_trans Z116 E118.1
  refine own_go (fun _ k => XS.astore X118.here hx rfl (hb hby at_224) rfl rfl (l' := #[.val (.int p0), .val (.int p1), .val (.int zn), .val (.int b0), .val (.int b1), .val (.int b2), .val (.int zm), .val (.int c0), .val (.int c1), .val (.int c2), .val (.ref ak), .val (.ref al), .val (.ref am), .val (.ref ax), .val (.ref d1), .val (.ref d2), .val (.ref ay), .val (.ref d3), .val (.ref d4)]) rfl k) ?_
  show own_E _ _ _ _ _ _ _ (T118.setTop (mkF m 226 #[.val (.int p0), .val (.int p1), .val (.int zn), .val (.int b0), .val (.int b1), .val (.int b2), .val (.int zm), .val (.int c0), .val (.int c1), .val (.int c2), .val (.ref ak), .val (.ref al), .val (.ref am), .val (.ref ax), .val (.ref d1), .val (.ref d2), .val (.ref ay), .val (.ref d3), .val (.ref d4)] []))
  refine own_go (fun _ k => XS.aload X118.here hx rfl (hb hby at_226) rfl rfl k) ?_
  show own_E _ _ _ _ _ _ _ (T118.setTop (mkF m 228 #[.val (.int p0), .val (.int p1), .val (.int zn), .val (.int b0), .val (.int b1), .val (.int b2), .val (.int zm), .val (.int c0), .val (.int c1), .val (.int c2), .val (.ref ak), .val (.ref al), .val (.ref am), .val (.ref ax), .val (.ref d1), .val (.ref d2), .val (.ref ay), .val (.ref d3), .val (.ref d4)] [(.ref d4)]))
  refine own_go (fun _ k => XS.iloadN X118.here hx rfl (hb hby at_228) rfl k) ?_
  show own_E _ _ _ _ _ _ _ (T118.setTop (mkF m 229 #[.val (.int p0), .val (.int p1), .val (.int zn), .val (.int b0), .val (.int b1), .val (.int b2), .val (.int zm), .val (.int c0), .val (.int c1), .val (.int c2), .val (.ref ak), .val (.ref al), .val (.ref am), .val (.ref ax), .val (.ref d1), .val (.ref d2), .val (.ref ay), .val (.ref d3), .val (.ref d4)] [(.int zn), (.ref d4)]))
  refine own_go (fun _ k => XS.iloadN X118.here hx rfl (hb hby at_229) rfl k) ?_
  show own_E _ _ _ _ _ _ _ (T118.setTop (mkF m 230 #[.val (.int p0), .val (.int p1), .val (.int zn), .val (.int b0), .val (.int b1), .val (.int b2), .val (.int zm), .val (.int c0), .val (.int c1), .val (.int c2), .val (.ref ak), .val (.ref al), .val (.ref am), .val (.ref ax), .val (.ref d1), .val (.ref d2), .val (.ref ay), .val (.ref d3), .val (.ref d4)] [(.int b0), (.int zn), (.ref d4)]))
  refine own_go (fun _ k => XS.iload X118.here hx rfl (hb hby at_230) rfl k) ?_
  show own_E _ _ _ _ _ _ _ (T118.setTop (mkF m 232 #[.val (.int p0), .val (.int p1), .val (.int zn), .val (.int b0), .val (.int b1), .val (.int b2), .val (.int zm), .val (.int c0), .val (.int c1), .val (.int c2), .val (.ref ak), .val (.ref al), .val (.ref am), .val (.ref ax), .val (.ref d1), .val (.ref d2), .val (.ref ay), .val (.ref d3), .val (.ref d4)] [(.int b1), (.int b0), (.int zn), (.ref d4)]))
  refine own_go (fun _ k => XS.iload X118.here hx rfl (hb hby at_232) rfl k) ?_
  show own_E _ _ _ _ _ _ _ (T118.setTop (mkF m 234 #[.val (.int p0), .val (.int p1), .val (.int zn), .val (.int b0), .val (.int b1), .val (.int b2), .val (.int zm), .val (.int c0), .val (.int c1), .val (.int c2), .val (.ref ak), .val (.ref al), .val (.ref am), .val (.ref ax), .val (.ref d1), .val (.ref d2), .val (.ref ay), .val (.ref d3), .val (.ref d4)] [(.int b2), (.int b1), (.int b0), (.int zn), (.ref d4)]))
  obtain ⟨v119, T119, L119, X119, hQ119, st119⟩ := own_callS X118 hx hZ (rm := ({ frames := 0, cells := 0, slots := 0, locals := 0 } : Room)) (W := 0) (argsL := [(.ref d4), (.int zn), (.int b0), (.int b1), (.int b2)]) (rest := []) (y := (⟨"com/example/arborkey/arborkey/DecryptionMaterialsDataKeyPinLaw", "same", "([BIBBB)Z"⟩ : MethodName)) hown (hw _ (List.mem_of_getElem? (i := 55) rfl)) (hw _ (List.mem_of_getElem? (i := 56) rfl)) (hw _ (List.mem_of_getElem? (i := 2) rfl)) (hw _ (List.mem_of_getElem? (i := 57) rfl)) (by decide) (rm10 l Z a0 hw d4 k1 zn b0 b1 b2 T118.heap n0 Z118 hzn4 V118) e118 (by decide) (by decide) (by decide) (by decide) (g := (mkF m 234 #[.val (.int p0), .val (.int p1), .val (.int zn), .val (.int b0), .val (.int b1), .val (.int b2), .val (.int zm), .val (.int c0), .val (.int c1), .val (.int c2), .val (.ref ak), .val (.ref al), .val (.ref am), .val (.ref ax), .val (.ref d1), .val (.ref d2), .val (.ref ay), .val (.ref d3), .val (.ref d4)] [(.int b2), (.int b1), (.int b0), (.int zn), (.ref d4)])) rfl (by rw [hml]; rfl) (lenOf pd_8 rfl) rfl (Nat.le_of_ble_eq_true rfl) (hb hby at_234)
  obtain ⟨rfl, N119, e119⟩ := hQ119
  refine own_go st119 ?_
  show own_E _ _ _ _ _ _ _ (T119.setTop (mkF m 237 #[.val (.int p0), .val (.int p1), .val (.int zn), .val (.int b0), .val (.int b1), .val (.int b2), .val (.int zm), .val (.int c0), .val (.int c1), .val (.int c2), .val (.ref ak), .val (.ref al), .val (.ref am), .val (.ref ax), .val (.ref d1), .val (.ref d2), .val (.ref ay), .val (.ref d3), .val (.ref d4)] [(.int (1 : Int32))]))
  have M119 := Fr.app M118 N119
  exact own_ret X119 hx Bd.returns Bd.notSynchronized rfl (Or.inl ⟨rfl, by simp, _, rfl⟩) (hb hby at_237) (by rw [e119]; exact ⟨rfl, M119⟩) (by decide) (by decide)
set_option maxRecDepth 65536 in
set_option maxHeartbeats 40000000 in
theorem comes_1 {Post : Tables → Env → Array Value → State → Outcome → State → Prop} (hpost : ∀ tb e args s v u, (limb_1_1.after args s (.returned v) u = true ∧ limb_1_2.after args s (.returned v) u = true ∧ True) → FrameEnd s (.returned v) u (Jvm.fieldLocs frame_1_writes args s ++ Jvm.arrayLocs frame_1_arrays args s ++ Jvm.staticLocs frame_1_statics s) 32 128 → Post tb e args s (.returned v) u) :
    ArmFor flags0 classFile x code maxLocals ret World_1 tables_1 room_1 Calls_1 rest_1 Pre_1 Post := by
  intro l hfl _ _ p e ha hc hk s m args below hf hA hF happ hP
  obtain ⟨hcalls, hrest, hpre⟩ := hP
  obtain ⟨-, -, -, hnamed, -, -, -, hat⟩ := (Spec.applies_iff hf).mp happ
  obtain ⟨hg, hn⟩ := and_e (Cond.before_iff.mp (show (Jvm.Cond.and given_1 narrow_1).before args s = true from hpre))
  obtain ⟨hcount, hg⟩ := and_e hg
  obtain ⟨w0, w1, rfl⟩ : ∃ w0 w1 : Value, args = #[w0, w1] := by
    have hs : args.size = 2 := by simpa [Cond.value, given_1] using hcount
    obtain ⟨L⟩ := args
    match L, hs with
    | [w0, w1], _ => exact ⟨w0, w1, rfl⟩
  have hw := fun d (hd : d ∈ tables_1) => atoms_spec (ws := Jvm.Cond.code x code maxLocals ret :: tables_1) hat d (List.mem_cons_of_mem _ hd)
  have hfit : Fit s := fun {y c} hc i hi => by
    obtain ⟨ha, rfl⟩ := Array.getElem?_eq_some_iff.mp hc
    have q := List.all_eq_true.mp ((Array.all_eq_true_iff_forall_mem.mp hF) _ (Array.getElem_mem ha)) i (List.mem_range.mpr hi)
    simpa [Array.getElem?_eq_getElem hi] using q
  obtain ⟨hg0, hg⟩ := and_e hg
  obtain ⟨i0, q0⟩ := is_v hg0
  obtain rfl : w0 = (.int i0) := Option.some.inj q0
  have hg1 := hg
  obtain ⟨i1, q1⟩ := is_v hg1
  obtain rfl : w1 = (.int i1) := Option.some.inj q1
  obtain ⟨hsets, -⟩ := atoms_of jdkStatics_1 (show (jdkStatics_1.foldr Jvm.Cond.and restOwn_1).before _ s = true from hrest)
  obtain ⟨em, ev_em⟩ := exa_v (Cond.before_iff.mp (hsets _ (List.mem_of_getElem? (i := 2) rfl)))
  have SM := Sta.start ev_em (Or.inl (hsets _ (List.mem_of_getElem? (i := 1) rfl)))
  have EM := Exa.start ev_em (Cond.before_iff.mp (hsets _ (List.mem_of_getElem? (i := 2) rfl)))
  obtain ⟨n, o, h1, h2, h3, _, L, rfl, ⟨rfl, N⟩, hq⟩ := rm0 l s _ hw tables_1 i0 i1 em s.heap s.heap.size (Nat.le_refl _) (Old.start s) SM EM p e ha hc hk s m _ below hf ((Spec.applies_iff_loose hf).mp happ).1 ⟨rfl, State.Warmed39.refl s, rfl⟩ trivial
  refine ⟨n, _, h1, h2, h3, hpost _ _ _ _ _ _ ⟨Cond.after_iff.mpr rfl, Cond.after_iff.mpr (eq_i res_at (Term.int_eval (1)) rfl), trivial⟩ ⟨hq.1, hq.2.1, (hq.2.2.sift fun y hy => Or.inr (N y hy)).mono (by decide) (by decide)⟩⟩
theorem main_1_1 : Claimed_1_1 := comes_1 fun _ _ _ _ _ _ h hF => ⟨h.1, hF⟩
theorem main_1_2 : Claimed_1_2 := comes_1 fun _ _ _ _ _ _ h hF => ⟨h.2.1, hF⟩
end Jvm.Pilot.@@N@@
namespace Jvm.Pilot.@@N@@
open Jvm Jvm.ClassFile Sem Op Lib Jvm.Free Jvm.Stand Jvm.Pilot.@@N@@.Jvm.D
/-! MADE BY PROGRAM (witnessworld.py) out of the Statement's table words and the real class files: 15 classes; the members and pool entries that the words name. The judged class is class 1, her method 1. -/
namespace start1
open Jvm.ClassFile
def u (s : String) : CpInfo := .utf8 (stringToUtf16 s)
/-- a pool by its gaps: so many unusable entries, then the entry; so many at the end -/
def gap : Nat → List CpInfo → List CpInfo
  | 0, r => r
  | n + 1, r => .unusable :: gap n r
def poolList (es : List (Nat × CpInfo)) (last : Nat) : List CpInfo := es.foldr (fun e r => gap e.1 (e.2 :: r)) (gap last [])
def pool (es : List (Nat × CpInfo)) (last : Nat) : Array CpInfo := ⟨poolList es last⟩
def fileOf (pool : Array CpInfo) (this : Nat) (attrs : Array Attribute := #[]) (ms : Array MethodInfo := #[]) (fl : Nat := 33) (sup : Nat := 0) (ifs : Array Nat := #[]) (fds : Array FieldInfo := #[]) : ClassFile where
  minorVersion := 0
  majorVersion := 65
  constantPool := pool
  accessFlags := fl
  thisClass := this
  superClass := sup
  interfaces := ifs
  fields := fds
  methods := ms
  attributes := attrs
def plain (name : String) (sup : Option ClassId) : Class where
  name := name
  kind := .ordinary
  loader := none
  accessFlags := 33
  super := sup
  interfaces := #[]
  cf := none
  fields := #[]
  methods := #[]
  instanceTypes := #[]
  staticTypes := #[]
  resolved := #[]
  callSites := []
  init := .initialized
  statics := none
  mirror := none

def pool0 : Array CpInfo := pool [(5, u "<init>"), (0, u "()V"), (1, .class_ 10), (1, u "java/lang/Object"), (85, u "clone"), (0, u "()Ljava/lang/Object;")] 26

def k0c0 : Code := { maxStack := 0, maxLocals := 1, code := object_method_1_code, exceptionTable := #[], attributes := #[] }
def k0m0 : Method := { name := "<init>", desc := "()V", sig := { parameters := [], returnType := none }, accessFlags := 1, code := some k0c0 }
def k0m1 : Method := { name := "clone", desc := "()Ljava/lang/Object;", sig := { parameters := [], returnType := some (.object "java/lang/Object") }, accessFlags := 260, code := none }
/-- java/lang/Object -/
def k0 : Class := { plain "java/lang/Object" none with
  accessFlags := 33
  interfaces := #[]
  cf := some (fileOf pool0 8 #[] #[{ accessFlags := 1, nameIndex := 5, descriptorIndex := 6, attributes := #[] }, { accessFlags := 260, nameIndex := 96, descriptorIndex := 97, attributes := #[] }] 33 0 #[] #[])
  fields := #[]
  methods := #[k0m0, k0m1]
  instanceTypes := #[]
  staticTypes := #[]
  resolved := Array.replicate 124 none
  statics := none }

def pool1 : Array CpInfo := pool [(2, .class_ 4), (1, u "java/lang/Object"), (0, u "<init>"), (0, u "()V"), (0, .methodref 8 9), (0, .class_ 10), (0, .nameAndType 11 12), (0, u "com/example/arborkey/arborkey/DecryptionMaterialsDataKeyPinLaw"), (0, u "make"), (0, u "(IBBB)[B"), (0, .class_ 14), (0, u "com/example/arborkey/arborkey/DecryptionMaterials"), (0, .interfaceMethodref 16 17), (0, .class_ 18), (0, .nameAndType 19 20), (0, u "java/util/Map"), (0, u "of"), (0, u "()Ljava/util/Map;"), (0, .methodref 13 22), (0, .nameAndType 5 23), (0, u "(Ljava/util/Map;)V"), (0, .methodref 13 25), (0, .nameAndType 26 27), (0, u "dataKey"), (0, u "()[B"), (0, .methodref 13 29), (0, .nameAndType 30 31), (0, u "withDataKey"), (0, u "([B)Lcom/example/arborkey/arborkey/DecryptionMaterials;"), (0, .methodref 8 33), (0, .nameAndType 34 35), (0, u "flip"), (0, u "([B)V"), (0, .methodref 8 37), (0, .nameAndType 38 39), (0, u "same"), (0, u "([BIBBB)Z"), (2, u "law"), (0, u "(II)Z")] 5

def k1m0 : Method := { name := "<init>", desc := "()V", sig := { parameters := [], returnType := none }, accessFlags := 1, code := none }
def k1c1 : Code := { maxStack := 5, maxLocals := 19, code := code, exceptionTable := #[], attributes := #[] }
def k1m1 : Method := { name := "law", desc := "(II)Z", sig := { parameters := [.int, .int], returnType := some .boolean }, accessFlags := 9, code := some k1c1 }
def k1c2 : Code := { maxStack := 3, maxLocals := 5, code := method_3_code, exceptionTable := #[], attributes := #[] }
def k1m2 : Method := { name := "make", desc := "(IBBB)[B", sig := { parameters := [.int, .byte, .byte, .byte], returnType := some (.array .byte) }, accessFlags := 10, code := some k1c2 }
def k1c3 : Code := { maxStack := 4, maxLocals := 1, code := method_4_code, exceptionTable := #[], attributes := #[] }
def k1m3 : Method := { name := "flip", desc := "([B)V", sig := { parameters := [(.array .byte)], returnType := none }, accessFlags := 10, code := some k1c3 }
def k1c4 : Code := { maxStack := 2, maxLocals := 5, code := method_5_code, exceptionTable := #[], attributes := #[] }
def k1m4 : Method := { name := "same", desc := "([BIBBB)Z", sig := { parameters := [(.array .byte), .int, .byte, .byte, .byte], returnType := some .boolean }, accessFlags := 10, code := some k1c4 }
/-- com/example/arborkey/arborkey/DecryptionMaterialsDataKeyPinLaw -/
def k1 : Class := { plain "com/example/arborkey/arborkey/DecryptionMaterialsDataKeyPinLaw" (some 0) with
  accessFlags := 49
  interfaces := #[]
  cf := some (fileOf pool1 8 #[] #[{ accessFlags := 1, nameIndex := 5, descriptorIndex := 6, attributes := #[] }, { accessFlags := 9, nameIndex := 42, descriptorIndex := 43, attributes := #[] }, { accessFlags := 10, nameIndex := 11, descriptorIndex := 12, attributes := #[] }, { accessFlags := 10, nameIndex := 34, descriptorIndex := 35, attributes := #[] }, { accessFlags := 10, nameIndex := 38, descriptorIndex := 39, attributes := #[] }] 49 2 #[] #[])
  fields := #[]
  methods := #[k1m0, k1m1, k1m2, k1m3, k1m4]
  instanceTypes := #[]
  staticTypes := #[]
  resolved := Array.replicate 49 none
  statics := none }

def pool2 : Array CpInfo := pool [(1, .interfaceMethodref 2 3), (0, .class_ 4), (0, .nameAndType 5 6), (0, u "java/util/Map"), (0, u "copyOf"), (0, u "(Ljava/util/Map;)Ljava/util/Map;"), (0, .methodref 8 9), (0, .class_ 10), (0, .nameAndType 11 12), (0, u "com/example/arborkey/arborkey/DecryptionMaterials"), (0, u "<init>"), (0, u "(Ljava/util/Map;[B)V"), (0, .methodref 14 15), (0, .class_ 16), (0, .nameAndType 11 17), (0, u "java/lang/Object"), (0, u "()V"), (0, .fieldref 8 19), (0, .nameAndType 20 21), (0, u "encryptionContext"), (0, u "Ljava/util/Map;"), (0, .fieldref 8 23), (0, .nameAndType 24 25), (0, u "dataKey"), (0, u "[B"), (0, .methodref 27 28), (0, .class_ 25), (0, .nameAndType 29 30), (0, u "clone"), (0, u "()Ljava/lang/Object;"), (2, u "(Ljava/util/Map;)V"), (6, u "()[B"), (3, u "withDataKey"), (0, u "([B)Lcom/example/arborkey/arborkey/DecryptionMaterials;")] 2

def k2c0 : Code := { maxStack := 3, maxLocals := 2, code := prog_31_method_1_code, exceptionTable := #[], attributes := #[] }
def k2m0 : Method := { name := "<init>", desc := "(Ljava/util/Map;)V", sig := { parameters := [(.object "java/util/Map")], returnType := none }, accessFlags := 1, code := some k2c0 }
def k2c1 : Code := { maxStack := 2, maxLocals := 3, code := prog_31_method_2_code, exceptionTable := #[], attributes := #[] }
def k2m1 : Method := { name := "<init>", desc := "(Ljava/util/Map;[B)V", sig := { parameters := [(.object "java/util/Map"), (.array .byte)], returnType := none }, accessFlags := 2, code := some k2c1 }
def k2c2 : Code := { maxStack := 1, maxLocals := 1, code := prog_31_method_4_code, exceptionTable := #[], attributes := #[] }
def k2m2 : Method := { name := "dataKey", desc := "()[B", sig := { parameters := [], returnType := some (.array .byte) }, accessFlags := 1, code := some k2c2 }
def k2c3 : Code := { maxStack := 4, maxLocals := 2, code := prog_31_method_6_code, exceptionTable := #[], attributes := #[] }
def k2m3 : Method := { name := "withDataKey", desc := "([B)Lcom/example/arborkey/arborkey/DecryptionMaterials;", sig := { parameters := [(.array .byte)], returnType := some (.object "com/example/arborkey/arborkey/DecryptionMaterials") }, accessFlags := 1, code := some k2c3 }
/-- com/example/arborkey/arborkey/DecryptionMaterials -/
def k2 : Class := { plain "com/example/arborkey/arborkey/DecryptionMaterials" (some 0) with
  accessFlags := 49
  interfaces := #[]
  cf := some (fileOf pool2 8 #[] #[{ accessFlags := 1, nameIndex := 11, descriptorIndex := 33, attributes := #[] }, { accessFlags := 2, nameIndex := 11, descriptorIndex := 12, attributes := #[] }, { accessFlags := 1, nameIndex := 24, descriptorIndex := 40, attributes := #[] }, { accessFlags := 1, nameIndex := 44, descriptorIndex := 45, attributes := #[] }] 49 14 #[] #[{ accessFlags := 18, nameIndex := 20, descriptorIndex := 21, attributes := #[] }, { accessFlags := 18, nameIndex := 24, descriptorIndex := 25, attributes := #[] }])
  fields := #[{ name := "encryptionContext", type := (.object "java/util/Map"), accessFlags := 18, slot := 0, constantValue := 0 }, { name := "dataKey", type := (.array .byte), accessFlags := 18, slot := 1, constantValue := 0 }]
  methods := #[k2m0, k2m1, k2m2, k2m3]
  instanceTypes := #[(.object "java/util/Map"), (.array .byte)]
  staticTypes := #[]
  resolved := Array.replicate 48 none
  statics := none }

def pool3 : Array CpInfo := pool [(2, .class_ 4), (1, u "java/util/Map"), (31, .class_ 37), (0, u "java/util/Map$Entry"), (43, .fieldref 82 83), (0, .class_ 84), (0, .nameAndType 85 86), (0, u "java/util/ImmutableCollections"), (0, u "EMPTY_MAP"), (0, u "Ljava/util/ImmutableCollections$MapN;"), (6, .class_ 94), (0, u "java/lang/Object"), (6, .class_ 102), (0, u "java/util/ImmutableCollections$AbstractImmutableMap"), (5, u "of"), (0, u "()Ljava/util/Map;"), (140, u "copyOf"), (0, u "(Ljava/util/Map;)Ljava/util/Map;")] 11

def k3c0 : Code := { maxStack := 1, maxLocals := 0, code := jdk_72_method_26_code, exceptionTable := #[], attributes := #[] }
def k3m0 : Method := { name := "of", desc := "()Ljava/util/Map;", sig := { parameters := [], returnType := some (.object "java/util/Map") }, accessFlags := 9, code := some k3c0 }
def k3c1 : Code := { maxStack := 2, maxLocals := 1, code := jdk_72_method_39_code, exceptionTable := #[], attributes := #[] }
def k3m1 : Method := { name := "copyOf", desc := "(Ljava/util/Map;)Ljava/util/Map;", sig := { parameters := [(.object "java/util/Map")], returnType := some (.object "java/util/Map") }, accessFlags := 9, code := some k3c1 }
/-- java/util/Map -/
def k3 : Class := { plain "java/util/Map" (some 0) with
  accessFlags := 1537
  interfaces := #[]
  cf := some (fileOf pool3 2 #[.nestMembers #[36]] #[{ accessFlags := 9, nameIndex := 108, descriptorIndex := 109, attributes := #[] }, { accessFlags := 9, nameIndex := 250, descriptorIndex := 251, attributes := #[] }] 1537 93 #[] #[])
  fields := #[]
  methods := #[k3m0, k3m1]
  instanceTypes := #[]
  staticTypes := #[]
  resolved := Array.replicate 263 none
  statics := none }

def pool4 : Array CpInfo := pool [(2, .class_ 4), (1, u "java/lang/Object"), (0, u "<init>"), (0, u "()V"), (3, .class_ 11), (0, u "java/util/ImmutableCollections$List12"), (0, .class_ 13), (0, u "java/util/ImmutableCollections$ListN"), (3, u "Z"), (29, .class_ 49), (1, u "java/util/ImmutableCollections"), (0, u "$assertionsDisabled"), (5, u "[Ljava/lang/Object;"), (5, u "EMPTY_LIST"), (0, u "Ljava/util/ImmutableCollections$ListN;"), (8, u "EMPTY_LIST_NULLS"), (22, u "SALT32L"), (0, u "J"), (2, u "REVERSE"), (6, u "archivedObjects"), (2, u "EMPTY"), (0, u "Ljava/lang/Object;"), (0, .class_ 112), (0, u "java/util/ImmutableCollections$SetN"), (5, u "EMPTY_SET"), (0, u "Ljava/util/ImmutableCollections$SetN;"), (0, .class_ 121), (0, u "java/util/ImmutableCollections$MapN"), (3, u "EMPTY_MAP"), (0, u "Ljava/util/ImmutableCollections$MapN;"), (4, u "EXPAND_FACTOR"), (0, u "I"), (36, .class_ 170), (0, u "java/util/ImmutableCollections$MapN$MapNIterator"), (0, .class_ 172), (0, u "java/util/ImmutableCollections$MapN$1"), (0, .class_ 174), (0, u "java/util/ImmutableCollections$Map1"), (0, .class_ 176), (0, u "java/util/ImmutableCollections$AbstractImmutableMap"), (0, .class_ 178), (0, u "java/util/ImmutableCollections$SetN$SetNIterator"), (0, .class_ 180), (0, u "java/util/ImmutableCollections$Set12"), (0, .class_ 182), (0, u "java/util/ImmutableCollections$Set12$1"), (0, .class_ 184), (0, u "java/util/ImmutableCollections$AbstractImmutableSet"), (0, .class_ 186), (0, u "java/util/ImmutableCollections$SubList"), (0, .class_ 188), (0, u "java/util/ImmutableCollections$ListItr"), (0, .class_ 190), (0, u "java/util/ImmutableCollections$AbstractImmutableList"), (0, .class_ 192), (0, u "java/util/ImmutableCollections$AbstractImmutableCollection"), (0, .class_ 194), (0, u "java/util/ImmutableCollections$Access"), (0, .class_ 196), (0, u "java/util/ImmutableCollections$Access$1")] 16

def k4m0 : Method := { name := "<init>", desc := "()V", sig := { parameters := [], returnType := none }, accessFlags := 2, code := none }
/-- java/util/ImmutableCollections -/
def k4 : Class := { plain "java/util/ImmutableCollections" (some 0) with
  accessFlags := 32
  interfaces := #[]
  cf := some (fileOf pool4 47 #[.nestMembers #[120, 169, 171, 173, 175, 111, 177, 179, 181, 183, 12, 10, 185, 187, 189, 191, 193, 195]] #[{ accessFlags := 2, nameIndex := 5, descriptorIndex := 6, attributes := #[] }] 32 2 #[] #[{ accessFlags := 26, nameIndex := 95, descriptorIndex := 96, attributes := #[] }, { accessFlags := 26, nameIndex := 99, descriptorIndex := 17, attributes := #[] }, { accessFlags := 10, nameIndex := 106, descriptorIndex := 56, attributes := #[] }, { accessFlags := 26, nameIndex := 109, descriptorIndex := 110, attributes := #[] }, { accessFlags := 24, nameIndex := 62, descriptorIndex := 63, attributes := #[] }, { accessFlags := 24, nameIndex := 72, descriptorIndex := 63, attributes := #[] }, { accessFlags := 24, nameIndex := 118, descriptorIndex := 119, attributes := #[] }, { accessFlags := 24, nameIndex := 125, descriptorIndex := 126, attributes := #[] }, { accessFlags := 24, nameIndex := 131, descriptorIndex := 132, attributes := #[] }, { accessFlags := 4120, nameIndex := 50, descriptorIndex := 17, attributes := #[] }])
  fields := #[{ name := "SALT32L", type := .long, accessFlags := 26, slot := 0, constantValue := 0 }, { name := "REVERSE", type := .boolean, accessFlags := 26, slot := 1, constantValue := 0 }, { name := "archivedObjects", type := (.array (.object "java/lang/Object")), accessFlags := 10, slot := 2, constantValue := 0 }, { name := "EMPTY", type := (.object "java/lang/Object"), accessFlags := 26, slot := 3, constantValue := 0 }, { name := "EMPTY_LIST", type := (.object "java/util/ImmutableCollections$ListN"), accessFlags := 24, slot := 4, constantValue := 0 }, { name := "EMPTY_LIST_NULLS", type := (.object "java/util/ImmutableCollections$ListN"), accessFlags := 24, slot := 5, constantValue := 0 }, { name := "EMPTY_SET", type := (.object "java/util/ImmutableCollections$SetN"), accessFlags := 24, slot := 6, constantValue := 0 }, { name := "EMPTY_MAP", type := (.object "java/util/ImmutableCollections$MapN"), accessFlags := 24, slot := 7, constantValue := 0 }, { name := "EXPAND_FACTOR", type := .int, accessFlags := 24, slot := 8, constantValue := 0 }, { name := "$assertionsDisabled", type := .boolean, accessFlags := 4120, slot := 9, constantValue := 0 }]
  methods := #[k4m0]
  instanceTypes := #[]
  staticTypes := #[.long, .boolean, (.array (.object "java/lang/Object")), (.object "java/lang/Object"), (.object "java/util/ImmutableCollections$ListN"), (.object "java/util/ImmutableCollections$ListN"), (.object "java/util/ImmutableCollections$SetN"), (.object "java/util/ImmutableCollections$MapN"), .int, .boolean]
  resolved := Array.replicate 213 none
  statics := some 0 }

def pool5 : Array CpInfo := pool [(2, .class_ 4), (1, u "java/lang/Object"), (0, u "<init>"), (0, u "()V"), (1, .class_ 10), (1, u "java/util/AbstractMap"), (42, .class_ 54), (0, u "java/util/Map"), (9, u "keySet"), (0, u "Ljava/util/Set;"), (0, .class_ 67), (0, u "java/util/AbstractMap$1"), (5, u "values"), (0, u "Ljava/util/Collection;"), (0, .class_ 76), (0, u "java/util/AbstractMap$2"), (104, .class_ 182), (0, u "java/util/AbstractMap$ViewCollection"), (0, .class_ 184), (0, u "java/util/AbstractMap$SimpleImmutableEntry"), (0, .class_ 186), (0, u "java/util/AbstractMap$SimpleEntry"), (0, .class_ 188), (0, u "java/util/AbstractMap$2$1"), (0, .class_ 190), (0, u "java/util/AbstractMap$1$1")] 5

def k5m0 : Method := { name := "<init>", desc := "()V", sig := { parameters := [], returnType := none }, accessFlags := 4, code := none }
/-- java/util/AbstractMap -/
def k5 : Class := { plain "java/util/AbstractMap" (some 0) with
  accessFlags := 1057
  interfaces := #[3]
  cf := some (fileOf pool5 8 #[.nestMembers #[181, 183, 185, 75, 187, 66, 189]] #[{ accessFlags := 4, nameIndex := 5, descriptorIndex := 6, attributes := #[] }] 1057 2 #[53] #[{ accessFlags := 128, nameIndex := 64, descriptorIndex := 65, attributes := #[] }, { accessFlags := 128, nameIndex := 73, descriptorIndex := 74, attributes := #[] }])
  fields := #[{ name := "keySet", type := (.object "java/util/Set"), accessFlags := 128, slot := 0, constantValue := 0 }, { name := "values", type := (.object "java/util/Collection"), accessFlags := 128, slot := 1, constantValue := 0 }]
  methods := #[k5m0]
  instanceTypes := #[(.object "java/util/Set"), (.object "java/util/Collection")]
  staticTypes := #[]
  resolved := Array.replicate 196 none
  statics := none }

def pool6 : Array CpInfo := pool [(1, .class_ 2), (0, u "java/io/Serializable"), (0, .class_ 4), (0, u "java/lang/Object")] 2

/-- java/io/Serializable -/
def k6 : Class := { plain "java/io/Serializable" (some 0) with
  accessFlags := 1537
  interfaces := #[]
  cf := some (fileOf pool6 1 #[] #[] 1537 3 #[] #[])
  fields := #[]
  methods := #[]
  instanceTypes := #[]
  staticTypes := #[]
  resolved := Array.replicate 7 none
  statics := none }

def pool7 : Array CpInfo := pool [(2, .class_ 4), (1, u "java/util/AbstractMap"), (0, u "<init>"), (0, u "()V"), (1, .class_ 10), (1, u "java/util/ImmutableCollections"), (3, .class_ 16), (1, u "java/util/ImmutableCollections$AbstractImmutableMap"), (2, .class_ 20), (0, u "java/io/Serializable")] 66

def k7m0 : Method := { name := "<init>", desc := "()V", sig := { parameters := [], returnType := none }, accessFlags := 0, code := none }
/-- java/util/ImmutableCollections$AbstractImmutableMap -/
def k7 : Class := { plain "java/util/ImmutableCollections$AbstractImmutableMap" (some 5) with
  accessFlags := 1056
  interfaces := #[6]
  cf := some (fileOf pool7 14 #[.nestHost 8] #[{ accessFlags := 0, nameIndex := 5, descriptorIndex := 6, attributes := #[] }] 1056 2 #[19] #[])
  fields := #[]
  methods := #[k7m0]
  instanceTypes := #[(.object "java/util/Set"), (.object "java/util/Collection")]
  staticTypes := #[]
  resolved := Array.replicate 87 none
  statics := none }

def pool8 : Array CpInfo := pool [(1, .class_ 2), (0, u "java/util/ImmutableCollections"), (1, .class_ 6), (1, u "java/util/ImmutableCollections$AbstractImmutableMap"), (10, .class_ 19), (1, u "java/util/ImmutableCollections$MapN"), (0, u "size"), (0, u "I"), (4, u "table"), (0, u "[Ljava/lang/Object;")] 121

/-- java/util/ImmutableCollections$MapN -/
def k8 : Class := { plain "java/util/ImmutableCollections$MapN" (some 7) with
  accessFlags := 48
  interfaces := #[]
  cf := some (fileOf pool8 17 #[.nestHost 1] #[] 48 4 #[] #[{ accessFlags := 16, nameIndex := 26, descriptorIndex := 27, attributes := #[] }, { accessFlags := 16, nameIndex := 20, descriptorIndex := 21, attributes := #[] }])
  fields := #[{ name := "table", type := (.array (.object "java/lang/Object")), accessFlags := 16, slot := 2, constantValue := 0 }, { name := "size", type := .int, accessFlags := 16, slot := 3, constantValue := 0 }]
  methods := #[]
  instanceTypes := #[(.object "java/util/Set"), (.object "java/util/Collection"), (.array (.object "java/lang/Object")), .int]
  staticTypes := #[]
  resolved := Array.replicate 149 none
  statics := none }

def pool9 : Array CpInfo := pool [(1, .class_ 2), (0, u "java/lang/Cloneable"), (0, .class_ 4), (0, u "java/lang/Object")] 2

/-- java/lang/Cloneable -/
def k9 : Class := { plain "java/lang/Cloneable" (some 0) with
  accessFlags := 1537
  interfaces := #[]
  cf := some (fileOf pool9 1 #[] #[] 1537 3 #[] #[])
  fields := #[]
  methods := #[]
  instanceTypes := #[]
  staticTypes := #[]
  resolved := Array.replicate 7 none
  statics := none }

/-- the primitive byte -/
def k10 : Class := { plain "byte" none with kind := .primitive 'B', accessFlags := 0x411 }
/-- [B -/
def k11 : Class := { plain "[B" (some 0) with kind := .array 10 .byte, interfaces := #[9, 6], accessFlags := 1041 }

/-- the primitive int -/
def k12 : Class := { plain "int" none with kind := .primitive 'I', accessFlags := 0x411 }
/-- [I -/
def k13 : Class := { plain "[I" (some 0) with kind := .array 12 .int, interfaces := #[9, 6], accessFlags := 1041 }

/-- [Ljava/lang/Object; -/
def k14 : Class := { plain "[Ljava/lang/Object;" (some 0) with kind := .array 0 (.object "java/lang/Object"), interfaces := #[9, 6], accessFlags := 1041 }

def heap : Heap := #[{ cls := 4, slots := #[.long 0, .int 0, .null, .null, .null, .null, .null, .ref 2, .int 0, .int 0], vm := .statics 4 },
  { cls := 14, slots := #[], vm := .none },
  { cls := 8, slots := #[.null, .null, .ref 1, .int 0], vm := .none }]
def classes : Array Class := #[k0, k1, k2, k3, k4, k5, k6, k7, k8, k9, k10, k11, k12, k13, k14]
def interned : List (Array UInt16 × Addr) := []
def slotsUsed : Nat := 14
def theMethod : MethodId := ⟨1, 1⟩
def args0 : Array Value := #[.int 5, .int 1]
def aboutOver (below : List Frame) : State where
  vm := { classes := classes, interned := interned.toArray }
  heap := heap
  slotsUsed := slotsUsed
  threads := #[{ frames := .invoking theMethod args0 :: below }]
def below0 : List Frame := [.native { method := ⟨0, 0⟩, args := #[] }]
def about1 : State := aboutOver below0
def p0 : Program := .bare "" "" ""
def e0 : Env := launch0.env 0 0 0
theorem w_frames : about1.frames = Frame.invoking theMethod args0 :: below0 := rfl
set_option maxRecDepth 65536 in
theorem w_args : argsFit about1.vm theMethod args0 = true := by decide +kernel
set_option maxRecDepth 65536 in
theorem w_heap : heapFits about1 = true := by decide +kernel
set_option maxRecDepth 65536 in
theorem w_runnable : about1.curStatus? = some .runnable := by decide +kernel
set_option maxRecDepth 65536 in
theorem w_alone : about1.alone = true := by decide +kernel
set_option maxRecDepth 65536 in
theorem w_named : about1.methodNamed? x = some theMethod := by decide +kernel
set_option maxRecDepth 65536 in
theorem w_hears : about1.hears theMethod below0 = true := by decide +kernel
set_option maxRecDepth 65536 in
theorem w_ripe : about1.ripe theMethod args0 below0 = true := by decide +kernel
theorem w_running : about1.status = .running := rfl
set_option maxRecDepth 65536 in
theorem w_room : about1.hasRoom e0.platform room_1 = true :=
  launch0.hasRoom_least _ room_1 (by decide +kernel) (by decide +kernel) (by decide +kernel) (by decide +kernel) (by decide +kernel) (by decide +kernel)
theorem allAtoms_all (ts : List Jvm.Cond) (a : Array Jvm.Value) (st : Jvm.State) : (allAtoms ts).before a st = ts.all (fun c => c.before a st) := by
  induction ts with
  | nil => rfl
  | cons c t ih =>
    show (Jvm.Cond.and c (allAtoms t)).before a st = _
    rw [Jvm.Cond.before_and, ih, List.all_cons]
def words1 : List Jvm.Cond := Jvm.Cond.code x code maxLocals ret :: tables_1
/-- a 'code' word, met by the world's own term for the bytes: nothing is compared byte by byte -/
theorem code_word {y : MethodName} {bytes : ByteArray} {mx : Nat} {rt : Option FieldType} {a : Array Value} {s : State} {m : MethodId} {meth : Method} {c : Code} (h1 : s.methodNamed? y = some m) (h2 : s.vm.method? m = some meth) (h3 : meth.code = some c) (h4 : c.code = bytes)
    (h5 : (c.maxLocals == mx && c.exceptionTable.isEmpty && decide (c.maxStack ≤ mostOperands) && decide (meth.sig.returnType = rt) && !meth.locks && decide (parseMethodDescriptor y.desc = some meth.sig)) = true) : (Jvm.Cond.code y bytes mx rt).before a s = true := by
  simp only [Bool.and_eq_true, beq_iff_eq, Bool.not_eq_true', decide_eq_true_eq] at h5
  obtain ⟨⟨⟨⟨⟨g1, g2⟩, g3⟩, g4⟩, g5⟩, g6⟩ := h5
  simp [Cond.before, Cond.holds, Cond.value, h1, h2, h3, h4, g1, g2, g3, g4, g5, g6]
def isCode : Jvm.Cond → Bool
  | .code _ _ _ _ => true
  | _ => false
theorem all_split {L : List Jvm.Cond} {P : Jvm.Cond → Bool} (h1 : L.all (fun c => isCode c || P c) = true) (h2 : ∀ c ∈ L.filter isCode, P c = true) : L.all P = true := by
  refine List.all_eq_true.mpr fun c hc => ?_
  have h := List.all_eq_true.mp h1 c hc
  rcases Bool.eq_false_or_eq_true (isCode c) with hi | hi
  · exact h2 c (List.mem_filter.mpr ⟨hc, hi⟩)
  · simpa [hi] using h
set_option maxRecDepth 65536 in
theorem w_c0 : (Jvm.Cond.code x code maxLocals ret).before args0 about1 = true := code_word (m := ⟨1, 1⟩) (meth := k1m1) (c := k1c1) (by decide +kernel) rfl rfl rfl (by decide +kernel)
set_option maxRecDepth 65536 in
theorem w_c1 : (Jvm.Cond.code ({ cls := "com/example/arborkey/arborkey/DecryptionMaterialsDataKeyPinLaw", name := "make", desc := "(IBBB)[B" } : Jvm.MethodName) method_3_code (5 : Nat) (Option.some (Jvm.ClassFile.FieldType.array Jvm.ClassFile.FieldType.byte))).before args0 about1 = true := code_word (m := ⟨1, 2⟩) (meth := k1m2) (c := k1c2) (by decide +kernel) rfl rfl rfl (by decide +kernel)
set_option maxRecDepth 65536 in
theorem w_c2 : (Jvm.Cond.code ({ cls := "java/util/Map", name := "of", desc := "()Ljava/util/Map;" } : Jvm.MethodName) jdk_72_method_26_code (0 : Nat) (Option.some (Jvm.ClassFile.FieldType.object "java/util/Map"))).before args0 about1 = true := code_word (m := ⟨3, 0⟩) (meth := k3m0) (c := k3c0) (by decide +kernel) rfl rfl rfl (by decide +kernel)
set_option maxRecDepth 65536 in
theorem w_c3 : (Jvm.Cond.code ({ cls := "com/example/arborkey/arborkey/DecryptionMaterials", name := "<init>", desc := "(Ljava/util/Map;)V" } : Jvm.MethodName) prog_31_method_1_code (2 : Nat) (Option.none : Option Jvm.ClassFile.FieldType)).before args0 about1 = true := code_word (m := ⟨2, 0⟩) (meth := k2m0) (c := k2c0) (by decide +kernel) rfl rfl rfl (by decide +kernel)
set_option maxRecDepth 65536 in
theorem w_c4 : (Jvm.Cond.code ({ cls := "java/util/Map", name := "copyOf", desc := "(Ljava/util/Map;)Ljava/util/Map;" } : Jvm.MethodName) jdk_72_method_39_code (1 : Nat) (Option.some (Jvm.ClassFile.FieldType.object "java/util/Map"))).before args0 about1 = true := code_word (m := ⟨3, 1⟩) (meth := k3m1) (c := k3c1) (by decide +kernel) rfl rfl rfl (by decide +kernel)
set_option maxRecDepth 65536 in
theorem w_c5 : (Jvm.Cond.code ({ cls := "com/example/arborkey/arborkey/DecryptionMaterials", name := "<init>", desc := "(Ljava/util/Map;[B)V" } : Jvm.MethodName) prog_31_method_2_code (3 : Nat) (Option.none : Option Jvm.ClassFile.FieldType)).before args0 about1 = true := code_word (m := ⟨2, 1⟩) (meth := k2m1) (c := k2c1) (by decide +kernel) rfl rfl rfl (by decide +kernel)
set_option maxRecDepth 65536 in
theorem w_c6 : (Jvm.Cond.code ({ cls := "java/lang/Object", name := "<init>", desc := "()V" } : Jvm.MethodName) object_method_1_code (1 : Nat) (Option.none : Option Jvm.ClassFile.FieldType)).before args0 about1 = true := code_word (m := ⟨0, 0⟩) (meth := k0m0) (c := k0c0) (by decide +kernel) rfl rfl rfl (by decide +kernel)
set_option maxRecDepth 65536 in
theorem w_c7 : (Jvm.Cond.code ({ cls := "com/example/arborkey/arborkey/DecryptionMaterials", name := "dataKey", desc := "()[B" } : Jvm.MethodName) prog_31_method_4_code (1 : Nat) (Option.some (Jvm.ClassFile.FieldType.array Jvm.ClassFile.FieldType.byte))).before args0 about1 = true := code_word (m := ⟨2, 2⟩) (meth := k2m2) (c := k2c2) (by decide +kernel) rfl rfl rfl (by decide +kernel)
set_option maxRecDepth 65536 in
theorem w_c8 : (Jvm.Cond.code ({ cls := "com/example/arborkey/arborkey/DecryptionMaterials", name := "withDataKey", desc := "([B)Lcom/example/arborkey/arborkey/DecryptionMaterials;" } : Jvm.MethodName) prog_31_method_6_code (2 : Nat) (Option.some (Jvm.ClassFile.FieldType.object "com/example/arborkey/arborkey/DecryptionMaterials"))).before args0 about1 = true := code_word (m := ⟨2, 3⟩) (meth := k2m3) (c := k2c3) (by decide +kernel) rfl rfl rfl (by decide +kernel)
set_option maxRecDepth 65536 in
theorem w_c9 : (Jvm.Cond.code ({ cls := "com/example/arborkey/arborkey/DecryptionMaterialsDataKeyPinLaw", name := "flip", desc := "([B)V" } : Jvm.MethodName) method_4_code (1 : Nat) (Option.none : Option Jvm.ClassFile.FieldType)).before args0 about1 = true := code_word (m := ⟨1, 3⟩) (meth := k1m3) (c := k1c3) (by decide +kernel) rfl rfl rfl (by decide +kernel)
set_option maxRecDepth 65536 in
theorem w_c10 : (Jvm.Cond.code ({ cls := "com/example/arborkey/arborkey/DecryptionMaterialsDataKeyPinLaw", name := "same", desc := "([BIBBB)Z" } : Jvm.MethodName) method_5_code (5 : Nat) (Option.some Jvm.ClassFile.FieldType.boolean)).before args0 about1 = true := code_word (m := ⟨1, 4⟩) (meth := k1m4) (c := k1c4) (by decide +kernel) rfl rfl rfl (by decide +kernel)
def codes1 : List Jvm.Cond := [Jvm.Cond.code x code maxLocals ret, Jvm.Cond.code ({ cls := "com/example/arborkey/arborkey/DecryptionMaterialsDataKeyPinLaw", name := "make", desc := "(IBBB)[B" } : Jvm.MethodName) method_3_code (5 : Nat) (Option.some (Jvm.ClassFile.FieldType.array Jvm.ClassFile.FieldType.byte)), Jvm.Cond.code ({ cls := "java/util/Map", name := "of", desc := "()Ljava/util/Map;" } : Jvm.MethodName) jdk_72_method_26_code (0 : Nat) (Option.some (Jvm.ClassFile.FieldType.object "java/util/Map")), Jvm.Cond.code ({ cls := "com/example/arborkey/arborkey/DecryptionMaterials", name := "<init>", desc := "(Ljava/util/Map;)V" } : Jvm.MethodName) prog_31_method_1_code (2 : Nat) (Option.none : Option Jvm.ClassFile.FieldType), Jvm.Cond.code ({ cls := "java/util/Map", name := "copyOf", desc := "(Ljava/util/Map;)Ljava/util/Map;" } : Jvm.MethodName) jdk_72_method_39_code (1 : Nat) (Option.some (Jvm.ClassFile.FieldType.object "java/util/Map")), Jvm.Cond.code ({ cls := "com/example/arborkey/arborkey/DecryptionMaterials", name := "<init>", desc := "(Ljava/util/Map;[B)V" } : Jvm.MethodName) prog_31_method_2_code (3 : Nat) (Option.none : Option Jvm.ClassFile.FieldType), Jvm.Cond.code ({ cls := "java/lang/Object", name := "<init>", desc := "()V" } : Jvm.MethodName) object_method_1_code (1 : Nat) (Option.none : Option Jvm.ClassFile.FieldType), Jvm.Cond.code ({ cls := "com/example/arborkey/arborkey/DecryptionMaterials", name := "dataKey", desc := "()[B" } : Jvm.MethodName) prog_31_method_4_code (1 : Nat) (Option.some (Jvm.ClassFile.FieldType.array Jvm.ClassFile.FieldType.byte)), Jvm.Cond.code ({ cls := "com/example/arborkey/arborkey/DecryptionMaterials", name := "withDataKey", desc := "([B)Lcom/example/arborkey/arborkey/DecryptionMaterials;" } : Jvm.MethodName) prog_31_method_6_code (2 : Nat) (Option.some (Jvm.ClassFile.FieldType.object "com/example/arborkey/arborkey/DecryptionMaterials")), Jvm.Cond.code ({ cls := "com/example/arborkey/arborkey/DecryptionMaterialsDataKeyPinLaw", name := "flip", desc := "([B)V" } : Jvm.MethodName) method_4_code (1 : Nat) (Option.none : Option Jvm.ClassFile.FieldType), Jvm.Cond.code ({ cls := "com/example/arborkey/arborkey/DecryptionMaterialsDataKeyPinLaw", name := "same", desc := "([BIBBB)Z" } : Jvm.MethodName) method_5_code (5 : Nat) (Option.some Jvm.ClassFile.FieldType.boolean)]
set_option maxRecDepth 65536 in
theorem codes_eq : words1.filter isCode = codes1 := rfl
theorem w_codes : ∀ c ∈ words1.filter isCode, c.before args0 about1 = true := by
  rw [codes_eq]
  intro c hc
  simp only [codes1, List.mem_cons, List.not_mem_nil, or_false] at hc
  rcases hc with rfl | rfl | rfl | rfl | rfl | rfl | rfl | rfl | rfl | rfl | rfl
  · exact w_c0
  · exact w_c1
  · exact w_c2
  · exact w_c3
  · exact w_c4
  · exact w_c5
  · exact w_c6
  · exact w_c7
  · exact w_c8
  · exact w_c9
  · exact w_c10
set_option maxRecDepth 65536 in
theorem w_t1 : (words1.take 24).all (fun c => isCode c || c.before args0 about1) = true := by decide +kernel
set_option maxRecDepth 65536 in
theorem w_t2 : ((words1.drop 24).take 24).all (fun c => isCode c || c.before args0 about1) = true := by decide +kernel
set_option maxRecDepth 65536 in
theorem w_t3 : ((words1.drop 24).drop 24).all (fun c => isCode c || c.before args0 about1) = true := by decide +kernel
theorem w_tables : (allAtoms (Jvm.Cond.code x code maxLocals ret :: tables_1)).before args0 about1 = true := by
  rw [allAtoms_all]
  show words1.all (fun c => c.before args0 about1) = true
  refine all_split ?_ w_codes
  rw [← List.take_append_drop 24 words1, List.all_append, w_t1, ← List.take_append_drop 24 (words1.drop 24), List.all_append, w_t2, w_t3]
  rfl
set_option maxRecDepth 65536 in
theorem w_rest : rest_1_c.before args0 about1 = true := by decide +kernel
set_option maxRecDepth 65536 in
theorem w_case : (Jvm.Cond.and given_1 narrow_1).before args0 about1 = true := by decide +kernel
theorem w_applies : (headSpec (Jvm.Cond.code x code maxLocals ret :: tables_1) room_1).applies x e0.platform about1 = true :=
  (Spec.applies_iff w_frames).mpr ⟨w_running, w_runnable, w_alone, w_named, w_hears, w_ripe, w_room, w_tables⟩
theorem atStart : AtStart classFile x code maxLocals ret World_1 tables_1 room_1 Calls_1 rest_1 Pre_1 launch0 p0 e0 about1 theMethod args0 below0 :=
  ⟨lists_1, trivial, launch0.admits_env _ _ _, launch0.least_env, fairChoices_fair.cas, fairChoices_fair.clock, w_frames, w_args, w_heap, w_applies, trivial, w_rest, w_case⟩
end start1
theorem witness_1 : WitnessClaimed_1 := ⟨start1.p0, start1.e0, start1.about1, start1.theMethod, start1.args0, start1.below0, start1.atStart⟩
end Jvm.Pilot.@@N@@
