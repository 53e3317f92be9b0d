import JvmDerived
import JvmDerived.Pilot.@@N@@Statement
import JvmDerived.Pilot.@@N@@Code
set_option linter.unusedVariables false
set_option linter.unusedSimpArgs false
namespace Jvm.Pilot.@@N@@
open Jvm Jvm.ClassFile Sem Op Lib Jvm.Free Jvm.Stand Jvm.LawKit Jvm.RoadKit Bundle Jvm.Pilot.@@N@@.Jvm.D
section Own
variable {p : Program} {l : Launch} {e : Env} {R : Room} {s : State} {m : MethodId} {args : Array Value} {below : List Frame} {meth : Method} {c : Code} {T : State} {locs : List Loc} {cells slots : Nat} {Z : State} {a0 : Array Value} {h : Heap}
/-- the walk ends from A: it returns, Q holds, the frame is kept -/
def own_E (p : Program) (e : Env) (below : List Frame) (s : State) (Q : Option Value → Heap → List Loc → Prop) (K N : Nat) (A : State) : Prop :=
  ∃ t o, Steps p.tables e below A t ∧ t.status = .running ∧ Ended t below o ∧ ∃ v L, o = .returned v ∧ Q v t.heap L ∧ FrameEnd s o t L K N
variable {Q : Option Value → Heap → List Loc → Prop} {K N : Nat} {A A' : State}
theorem own_go (h : ∀ t, Steps p.tables e below A' t → Steps p.tables e below A t) (k : own_E p e below s Q K N A') : own_E p e below s Q K N A := by
  obtain ⟨t, o, h1, h2⟩ := k
  exact ⟨t, o, h _ h1, h2⟩
theorem own_ret (X : Stand p l e R s m args below meth c T locs cells slots) (hx : p.tables.exec = Jvm.exec) {pc : Nat} {Ls : Array Slot} {w : Value} {t : FieldType} {i : Instr} {rest : List Value} (hret : meth.sig.returnType = some t) (hlk : meth.locks = false) (hn : narrow t w = w)
    (hi : (i = .ireturn ∧ (t = .int ∨ t = .boolean ∨ t = .byte ∨ t = .char ∨ t = .short) ∧ ∃ z, w = .int z) ∨ (i = .lreturn ∧ t = .long ∧ ∃ z, w = .long z) ∨ (i = .dreturn ∧ t = .double ∧ ∃ z, w = .double z) ∨ (i = .freturn ∧ t = .float ∧ ∃ z, w = .float z) ∨ (i = .areturn ∧ t.isReference = true ∧ w.isRef = true))
    (hd : decode c.code pc = .ok (i, 1)) (hQ : Q (some w) T.heap locs) (hK : cells ≤ K) (hN : slots ≤ N) : own_E p e below s Q K N (T.setTop (mkF m pc Ls (w :: rest))) := by
  obtain ⟨fs, hr, hrun, hended, hW, hsame⟩ := X.leave (v := some w) (fun h => by rw [hret] at h; cases h) hlk
  exact ⟨_, _, retOut X hx hret hn hi hd hr, hrun, hended, _, _, rfl, hQ, ⟨_, rfl⟩, hW, hsame.mono hK hN⟩
theorem own_ret0 (X : Stand p l e R s m args below meth c T locs cells slots) (hx : p.tables.exec = Jvm.exec) {pc : Nat} {Ls : Array Slot} (hret : meth.sig.returnType = none) (hlk : meth.locks = false)
    (hd : decode c.code pc = .ok (.return_, 1)) (hQ : Q none T.heap locs) (hK : cells ≤ K) (hN : slots ≤ N) : own_E p e below s Q K N (T.setTop (mkF m pc Ls [])) := by
  obtain ⟨fs, hr, hrun, hended, hW, hsame⟩ := X.leave (v := none) (fun _ => rfl) hlk
  exact ⟨_, _, X.returnOut hx hret hd hr, hrun, hended, _, _, rfl, hQ, ⟨_, rfl⟩, hW, hsame.mono hK hN⟩
/-- what a callee is asked: its contract -/
abbrev own_M (l : Launch) (y : MethodName) (bytes : ByteArray) (maxL : Nat) (ret : Option FieldType) (rm : Room) (Z : State) (as' : Array Value) (h : Heap) (Q : Option Value → Heap → List Loc → Prop) : Prop :=
  MetFree l y (head1 [Jvm.Cond.code y bytes maxL ret] rm) (fun a U => a = as' ∧ Z.Warmed39 U.vm ∧ U.heap = h) (fun _ _ _ _ _ => True) (fun _ U o U' => ∃ v L, o = .returned v ∧ Q v U'.heap L ∧ FrameEnd U o U' L rm.cells rm.slots)
theorem own_callS (X : Stand p l e R s m args below meth c T locs cells slots) (hx : p.tables.exec = Jvm.exec) (hZ : Z.Warmed39 s.vm) {own : String} {index : Nat} {y : MethodName} {bytes : ByteArray} {maxL : Nat} {ret : Option FieldType} {rm : Room} {W : Nat} {argsL rest : List Value}
    (hown : s.vm.findClass own = some m.cls) (w1 : (Jvm.Cond.methodLink own index y).before a0 Z = true) (w2 : (Jvm.Cond.static y).before a0 Z = true) (w3 : (Jvm.Cond.initialized y.cls).before a0 Z = true) (w4 : (Jvm.Cond.code y bytes maxL ret).before a0 Z = true)
    (hy : y.cls ≠ "java/lang/invoke/MethodHandle" ∧ y.cls ≠ "java/lang/invoke/VarHandle") (hM : own_M l y bytes maxL ret rm Z argsL.toArray h Q) (eT : T.heap = h)
    (hf : rm.frames + 1 ≤ R.frames) (hl : W + (maxL + 11) + rm.locals ≤ R.locals) (hc : cells + rm.cells ≤ R.cells) (hs : slots + rm.slots ≤ R.slots)
    {g : JFrame} (hg : g.method = m) (hsize : g.locals.size = c.maxLocals) (hlen : ∀ sig, parseMethodDescriptor y.desc = some sig → argsL.length = sig.parameters.length)
    (hstack : g.stack = argsL.reverse ++ rest) (hW : 2 * g.monitorRoom + (rest.map fun v => v.category).sum ≤ W) (hdg : decode c.code g.pc = .ok (.invokestatic index, 3)) :
    ∃ v T' L, Stand p l e R s m args below meth c T' (locs ++ L) (cells + rm.cells) (slots + rm.slots) ∧ Q v T'.heap L ∧ ∀ target, Steps p.tables e below (T'.setTop { g with pc := g.pc + 3, stack := v.toList ++ rest }) target → Steps p.tables e below (T.setTop g) target := by
  obtain ⟨v, _, ⟨T', L', k', n'⟩, -, X', ⟨L, hQ, e1, e2, e3⟩, st⟩ := Jvm.LawKit.callS X hx (y := y) hown (mvT hZ w1) (mvT hZ w2) (mvT hZ w3) (mvT hZ w4) hy (backOf (W := W) hM hZ w4 w3 hf hl) hg hsize hlen hstack hW hdg (fun _ _ => ⟨rfl, eT, hc, hs⟩)
  dsimp only [Pt.U, Pt.locs, Pt.cells, Pt.slots] at X' e1 e2 e3 st hQ
  subst e1 e2 e3
  exact ⟨v, T', L, X', hQ, st⟩
theorem own_callV (X : Stand p l e R s m args below meth c T locs cells slots) (hx : p.tables.exec = Jvm.exec) (hZ : Z.Warmed39 s.vm) {own C : String} {index : Nat} {y : MethodName} {bytes : ByteArray} {maxL : Nat} {ret : Option FieldType} {rm : Room} {W : Nat} {b : Addr} {argsL rest : List Value}
    (hown : s.vm.findClass own = some m.cls) (w1 : (Jvm.Cond.methodLink own index y).before a0 Z = true) (w2 : (Jvm.Cond.declares y).before a0 Z = true) (w3 : (Jvm.Cond.selects C y y).before a0 Z = true) (w4 : (Jvm.Cond.instanceMethod y).before a0 Z = true) (w5 : (Jvm.Cond.code y bytes maxL ret).before a0 Z = true) (w6 : (Jvm.Cond.initialized y.cls).before a0 Z = true)
    (hy : y.cls ≠ "java/lang/invoke/MethodHandle" ∧ y.cls ≠ "java/lang/invoke/VarHandle") (hM : own_M l y bytes maxL ret rm Z (.ref b :: argsL).toArray h Q) (eT : T.heap = h) (E : Exa Z h b C)
    (hf : rm.frames + 1 ≤ R.frames) (hl : W + (maxL + 11) + rm.locals ≤ R.locals) (hc : cells + rm.cells ≤ R.cells) (hs : slots + rm.slots ≤ R.slots)
    {g : JFrame} (hg : g.method = m) (hsize : g.locals.size = c.maxLocals) (hlen : ∀ sig, parseMethodDescriptor y.desc = some sig → argsL.length = sig.parameters.length)
    (hstack : g.stack = argsL.reverse ++ .ref b :: rest) (hW : 2 * g.monitorRoom + (rest.map fun v => v.category).sum ≤ W) (hdg : decode c.code g.pc = .ok (.invokevirtual index, 3)) :
    ∃ v T' L, Stand p l e R s m args below meth c T' (locs ++ L) (cells + rm.cells) (slots + rm.slots) ∧ Q v T'.heap L ∧ ∀ target, Steps p.tables e below (T'.setTop { g with pc := g.pc + 3, stack := v.toList ++ rest }) target → Steps p.tables e below (T.setTop g) target := by
  obtain ⟨cq, kq, q1, -, q3⟩ := isOf hZ eT E
  obtain ⟨v, _, ⟨T', L', k', n'⟩, -, X', ⟨L, hQ, e1, e2, e3⟩, st⟩ := X.virtualBack hx (y := y) (z := y) hown (mvT hZ w1) (mvT hZ w2) (notFace_of_selects (args := #[]) (mvT hZ w3)) (mvT hZ w3) (mvT hZ w4) hy (backOf (W := W) hM hZ w5 w6 hf hl) q1 q3 hg hsize (Steps.refl _) hlen hstack hW hdg (fun _ _ => ⟨rfl, eT, hc, hs⟩)
  dsimp only [Pt.U, Pt.locs, Pt.cells, Pt.slots] at X' e1 e2 e3 st hQ
  subst e1 e2 e3
  exact ⟨v, T', L, X', hQ, fun _ k => st.trans k⟩
theorem own_callI (X : Stand p l e R s m args below meth c T locs cells slots) (hx : p.tables.exec = Jvm.exec) (hZ : Z.Warmed39 s.vm) {own : String} {index : Nat} {y : MethodName} {bytes : ByteArray} {maxL : Nat} {rm : Room} {W : Nat} {b : Addr} {argsL rest : List Value}
    (hown : s.vm.findClass own = some m.cls) (hy1 : y.name = "<init>") (w1 : (Jvm.Cond.methodLink own index y).before a0 Z = true) (w2 : (Jvm.Cond.instanceMethod y).before a0 Z = true) (w3 : (Jvm.Cond.initialized y.cls).before a0 Z = true) (w4 : (Jvm.Cond.code y bytes maxL none).before a0 Z = true)
    (hy : y.cls ≠ "java/lang/invoke/MethodHandle" ∧ y.cls ≠ "java/lang/invoke/VarHandle") (hM : own_M l y bytes maxL none rm Z (.ref b :: argsL).toArray h Q) (eT : T.heap = h)
    (hf : rm.frames + 1 ≤ R.frames) (hl : W + (maxL + 11) + rm.locals ≤ R.locals) (hc : cells + rm.cells ≤ R.cells) (hs : slots + rm.slots ≤ R.slots)
    {g : JFrame} (hg : g.method = m) (hsize : g.locals.size = c.maxLocals) (hlen : ∀ sig, parseMethodDescriptor y.desc = some sig → argsL.length = sig.parameters.length)
    (hstack : g.stack = argsL.reverse ++ .ref b :: rest) (hW : 2 * g.monitorRoom + (rest.map fun v => v.category).sum ≤ W) (hdg : decode c.code g.pc = .ok (.invokespecial index, 3)) :
    ∃ v T' L, Stand p l e R s m args below meth c T' (locs ++ L) (cells + rm.cells) (slots + rm.slots) ∧ Q v T'.heap L ∧ ∀ target, Steps p.tables e below (T'.setTop { g with pc := g.pc + 3, stack := v.toList ++ rest }) target → Steps p.tables e below (T.setTop g) target := by
  obtain ⟨v, _, ⟨T', L', k', n'⟩, -, X', ⟨L, hQ, e1, e2, e3⟩, st⟩ := X.specialBack hx (y := y) hy1 hown (mvT hZ w1) (mvT hZ w2) (mvT hZ w4) hy (backOf (W := W) hM hZ w4 w3 hf hl) hg hsize (Steps.refl _) hlen hstack hW hdg (fun _ _ => ⟨rfl, eT, hc, hs⟩)
  dsimp only [Pt.U, Pt.locs, Pt.cells, Pt.slots] at X' e1 e2 e3 st hQ
  subst e1 e2 e3
  exact ⟨v, T', L, X', hQ, fun _ k => st.trans k⟩
theorem own_callVU (X : Stand p l e R s m args below meth c T locs cells slots) (hx : p.tables.exec = Jvm.exec) (hZ : Z.Warmed39 s.vm) {own C owner : String} {index : Nat} {y z : MethodName} {bytes : ByteArray} {maxL : Nat} {ret : Option FieldType} {rm : Room} {W : Nat} {b : Addr} {argsL rest : List Value}
    (hown : s.vm.findClass own = some m.cls) (w1 : (Jvm.Cond.methodLink own index y).before a0 Z = true) (w2 : (Jvm.Cond.sameMethod y.cls owner y.name y.desc).before a0 Z = true) (w2' : (Jvm.Cond.declares ⟨owner, y.name, y.desc⟩).before a0 Z = true) (w3 : (Jvm.Cond.selects C y z).before a0 Z = true) (w4 : (Jvm.Cond.instanceMethod z).before a0 Z = true) (w5 : (Jvm.Cond.code z bytes maxL ret).before a0 Z = true) (w6 : (Jvm.Cond.initialized z.cls).before a0 Z = true)
    (hy : owner ≠ "java/lang/invoke/MethodHandle" ∧ owner ≠ "java/lang/invoke/VarHandle") (hM : own_M l z bytes maxL ret rm Z (.ref b :: argsL).toArray h Q) (eT : T.heap = h) (E : Exa Z h b C)
    (hf : rm.frames + 1 ≤ R.frames) (hl : W + (maxL + 11) + rm.locals ≤ R.locals) (hc : cells + rm.cells ≤ R.cells) (hs : slots + rm.slots ≤ R.slots)
    {g : JFrame} (hg : g.method = m) (hsize : g.locals.size = c.maxLocals) (hlen : ∀ sig, parseMethodDescriptor y.desc = some sig → argsL.length = sig.parameters.length)
    (hstack : g.stack = argsL.reverse ++ .ref b :: rest) (hW : 2 * g.monitorRoom + (rest.map fun v => v.category).sum ≤ W) (hdg : decode c.code g.pc = .ok (.invokevirtual index, 3)) :
    ∃ v T' L, Stand p l e R s m args below meth c T' (locs ++ L) (cells + rm.cells) (slots + rm.slots) ∧ Q v T'.heap L ∧ ∀ target, Steps p.tables e below (T'.setTop { g with pc := g.pc + 3, stack := v.toList ++ rest }) target → Steps p.tables e below (T.setTop g) target := by
  obtain ⟨cq, kq, q1, -, q3⟩ := isOf hZ eT E
  obtain ⟨v, _, ⟨T', L', k', n'⟩, -, X', ⟨L, hQ, e1, e2, e3⟩, st⟩ := X.virtualBackUp hx (x := y) (y := z) hown (mvT hZ w1) (mvT hZ w2) (mvT hZ w2') hy (mvT hZ w3) (mvT hZ w4) (backOf (W := W) hM hZ w5 w6 hf hl) q1 q3 hg hsize (Steps.refl _) hlen hstack hW hdg (fun _ _ => ⟨rfl, eT, hc, hs⟩)
  dsimp only [Pt.U, Pt.locs, Pt.cells, Pt.slots] at X' e1 e2 e3 st hQ
  subst e1 e2 e3
  exact ⟨v, T', L, X', hQ, fun _ k => st.trans k⟩
theorem own_aaload (X : Stand p l e R s m args below meth c T locs cells slots) (hx : p.tables.exec = Jvm.exec) (hZ : Z.Warmed39 s.vm) (eT : T.heap = h) {a : Addr} {cl : Cell} {ty : FieldType} (F : Arr Z h a cl ty) (hty : ty.isReference = true) {j : Int32} {v : Value} (hin : ¬ (j < 0 ∨ cl.slots.size ≤ j.toNatClampNeg)) (hv : cl.slots[j.toNatClampNeg]? = some v)
    {g : JFrame} (hg : g.method = m) {rest : List Value} (hs : g.stack = .int j :: .ref a :: rest) (hd : decode c.code g.pc = .ok (.aaload, 1)) : ∀ target, Steps p.tables e below (T.setTop { g with pc := g.pc + 1, stack := v :: rest }) target → Steps p.tables e below (T.setTop g) target :=
  X.aaload hx (by rw [eT]; exact F.1) (State.isArrayOf_alike hZ.alike F.2.1) hty F.2.2 hin hv hg hs hd
theorem own_laload (X : Stand p l e R s m args below meth c T locs cells slots) (hx : p.tables.exec = Jvm.exec) (hZ : Z.Warmed39 s.vm) (eT : T.heap = h) {a : Addr} {cl : Cell} (F : Arr Z h a cl .long) {j : Int32} {v : Value} (hin : ¬ (j < 0 ∨ cl.slots.size ≤ j.toNatClampNeg)) (hv : cl.slots[j.toNatClampNeg]? = some v)
    {g : JFrame} (hg : g.method = m) {rest : List Value} (hs : g.stack = .int j :: .ref a :: rest) (hd : decode c.code g.pc = .ok (.laload, 1)) : ∀ target, Steps p.tables e below (T.setTop { g with pc := g.pc + 1, stack := v :: rest }) target → Steps p.tables e below (T.setTop g) target :=
  X.laload hx (by rw [eT]; exact F.1) (State.isArrayOf_alike hZ.alike F.2.1) F.2.2 hin hv hg hs hd
theorem own_baload (X : Stand p l e R s m args below meth c T locs cells slots) (hx : p.tables.exec = Jvm.exec) (hZ : Z.Warmed39 s.vm) (eT : T.heap = h) {a : Addr} {cl : Cell} (F : Arr Z h a cl .byte) {j : Int32} {v : Value} (hin : ¬ (j < 0 ∨ cl.slots.size ≤ j.toNatClampNeg)) (hv : cl.slots[j.toNatClampNeg]? = some v)
    {g : JFrame} (hg : g.method = m) {rest : List Value} (hs : g.stack = .int j :: .ref a :: rest) (hd : decode c.code g.pc = .ok (.baload, 1)) : ∀ target, Steps p.tables e below (T.setTop { g with pc := g.pc + 1, stack := v :: rest }) target → Steps p.tables e below (T.setTop g) target :=
  X.baloadBytes hx (by rw [eT]; exact F.1) (State.isArrayOf_alike hZ.alike F.2.1) F.2.2 hin hv hg hs hd
theorem own_zaload (X : Stand p l e R s m args below meth c T locs cells slots) (hx : p.tables.exec = Jvm.exec) (hZ : Z.Warmed39 s.vm) (eT : T.heap = h) {a : Addr} {cl : Cell} (F : Arr Z h a cl .boolean) {j : Int32} {v : Value} (hin : ¬ (j < 0 ∨ cl.slots.size ≤ j.toNatClampNeg)) (hv : cl.slots[j.toNatClampNeg]? = some v)
    {g : JFrame} (hg : g.method = m) {rest : List Value} (hs : g.stack = .int j :: .ref a :: rest) (hd : decode c.code g.pc = .ok (.baload, 1)) : ∀ target, Steps p.tables e below (T.setTop { g with pc := g.pc + 1, stack := v :: rest }) target → Steps p.tables e below (T.setTop g) target :=
  X.baloadBooleans hx (by rw [eT]; exact F.1) (State.isArrayOf_alike hZ.alike F.2.1) F.2.2 hin hv hg hs hd
theorem own_alen (X : Stand p l e R s m args below meth c T locs cells slots) (hx : p.tables.exec = Jvm.exec) (hZ : Z.Warmed39 s.vm) (eT : T.heap = h) {a : Addr} {cl : Cell} {ty : FieldType} (F : Arr Z h a cl ty) {n : Int32} (hn : cl.slots.size.toInt32 = n)
    {g : JFrame} (hg : g.method = m) {rest : List Value} (hs : g.stack = .ref a :: rest) (hd : decode c.code g.pc = .ok (.arraylength, 1)) : ∀ target, Steps p.tables e below (T.setTop { g with pc := g.pc + 1, stack := .int n :: rest }) target → Steps p.tables e below (T.setTop g) target :=
  fun t k => X.arraylength hx (by rw [eT]; exact F.1) (State.isArrayOf_alike hZ.alike F.2.1) hg hs hd t (by rw [hn]; exact k)
theorem own_elemS {t u : Term} {a w : Addr} {cl : Cell} {k : Int32} (ev : t.eval args s none [] s = some (.ref a)) (hc : s.heap[a]? = some cl) (evu : u.eval args s none [] s = some (.ref w)) (he : (Jvm.Cond.eq (.elem t (.int k)) u).value args s none s [] = some true) :
    ¬ (k < 0 ∨ cl.slots.size ≤ k.toNatClampNeg) ∧ cl.slots[k.toNatClampNeg]? = some (.ref w) := by
  obtain ⟨x, y, h1, h2, h3, h4⟩ := cmp_v (Or.inl he)
  cases evu.symm.trans h2
  have h5 := gotT (eq_R h1 h2 h4.2 rfl) he
  subst h5
  exact elem_in h1 ev (Term.int_eval k) hc
theorem own_lenS {t : Term} {a : Addr} {cl : Cell} {n : Int32} (ev : t.eval args s none [] s = some (.ref a)) (hc : s.heap[a]? = some cl) (he : (Jvm.Cond.eq (.length t) (.int n)).value args s none s [] = some true) : cl.slots.size < 2 ^ 31 ∧ cl.slots.size.toInt32 = n := by
  obtain ⟨x, y, h1, h2, h3, h4⟩ := cmp_v (Or.inl he)
  cases (Term.int_eval n).symm.trans h2
  obtain ⟨z, rfl⟩ := h4
  have h5 : z = n := by simpa [Jvm.Cond.value, h1, h2] using he
  subst h5
  obtain ⟨a', c', q1, q2, q3⟩ := Term.length_spec h1
  cases ev.symm.trans q1
  have q4 := (State.arrayAt?_spec q2).1
  cases hc.symm.trans q4
  refine ⟨?_, (Value.int.inj q3).symm⟩
  by_cases hl : cl.slots.size < 2 ^ 31
  · exact hl
  · simp [Term.eval, ev, q2, hl] at h1
/-- from a sheet's words to facts at the start -/
theorem own_const {C n d k0 : String} (hx : (Jvm.Cond.exactly (.static C n d) k0).value args s none s [] = some true) (hi : (Jvm.Cond.initialized C).before args s = true) (hl : (Jvm.Cond.laysStatic C n d).before args s = true) :
    ∃ a, (Term.static C n d).eval args s none [] s = some (.ref a) ∧ Sta s s.heap C n d (.ref a) ∧ Exa s s.heap a k0 := by
  obtain ⟨a, ev⟩ := exa_v hx
  exact ⟨a, ev, Sta.start ev (Or.inr ⟨hi, hl⟩), Exa.start ev hx⟩
theorem own_fldI {t : Term} {a : Addr} {O n d : String} {k : Int32} (ev : t.eval args s none [] s = some (.ref a)) (he : (Jvm.Cond.eq (.field t O n d) (.int k)).value args s none s [] = some true) : Fld s s.heap a O n d (.int k) := by
  obtain ⟨x, y, h1, h2, h3, h4⟩ := cmp_v (Or.inl he)
  have h5 := h1
  rw [fld_at ev] at h5
  have h6 : y = .int k := (Option.some.inj ((Term.int_eval k).symm.trans h2)).symm
  subst h6
  obtain ⟨z, rfl⟩ := h4
  have h7 : z = k := by simpa [Jvm.Cond.value, h1, h2] using he
  subst h7
  exact Fld.start h5
end Own
section Own2
variable {p : Program} {l : Launch} {e : Env} {R : Room} {s : State} {m : MethodId} {args : Array Value} {below : List Frame} {meth : Method} {c : Code} {T : State} {locs : List Loc} {cells slots : Nat} {Z : State} {a0 : Array Value} {h : Heap}
variable {a : Addr} {k : ClassId} {ty : FieldType} {z : Int32} {vs : List Value} {dv : Value}
/-- a fresh array of n places, each said -/
theorem own_arvNew {n : Nat} (A : Arr Z h a (newA k ty z) ty) (q : ¬ z < 0) : Arv Z h a k ty z (List.replicate n (defaultValue ty)) (defaultValue ty) := (Arv.new A q).pad (pad_rep [] _ n)
theorem own_stR (X : Stand p l e R s m args below meth c T locs cells slots) (hx : p.tables.exec = Jvm.exec) (hZ : Z.Warmed39 s.vm) (eT : T.heap = h) {C : String} {y : Addr} (F : Arv Z h a k (.object C) z vs dv) (O : Ovr Z k C) (I : Ins Z h y C true) {j : Int32} (i : Nat) (hj : j.toNatClampNeg = i) (hi : i < vs.length) (hin : ¬ j < 0 ∧ j < z)
    {g : JFrame} (hg : g.method = m) {rest : List Value} (hs : g.stack = .ref y :: .int j :: .ref a :: rest) (hd : decode c.code g.pc = .ok (.aastore, 1)) :
    ∃ T' h', Stand p l e R s m args below meth c T' (locs ++ [⟨a, j.toNatClampNeg⟩]) cells slots ∧ T'.heap = h' ∧ Wr h h' a j.toNatClampNeg (.ref y) ∧ Arv Z h' a k (.object C) z (vs.set i (.ref y)) dv ∧ ∀ target, Steps p.tables e below (T'.setTop { g with pc := g.pc + 1, stack := rest }) target → Steps p.tables e below (T.setTop g) target := by
  obtain ⟨cl, A, q1, S, q3, H, G⟩ := F
  obtain ⟨T', h', X', e', W, st⟩ := stR X hx hZ eT A (inb_of S hin) rfl (Sto.ofV A q1 O I) hg hs hd
  exact ⟨T', h', X', e', W, Arv.set A q1 S q3 H G rfl W i hj hi, st⟩
theorem own_stZ (X : Stand p l e R s m args below meth c T locs cells slots) (hx : p.tables.exec = Jvm.exec) (hZ : Z.Warmed39 s.vm) (eT : T.heap = h) {x : Int32} (F : Arv Z h a k .boolean z vs dv) {j : Int32} (i : Nat) (hj : j.toNatClampNeg = i) (hi : i < vs.length) (hin : ¬ j < 0 ∧ j < z)
    {g : JFrame} (hg : g.method = m) {rest : List Value} (hs : g.stack = .int x :: .int j :: .ref a :: rest) (hd : decode c.code g.pc = .ok (.bastore, 1)) :
    ∃ T' h', Stand p l e R s m args below meth c T' (locs ++ [⟨a, j.toNatClampNeg⟩]) cells slots ∧ T'.heap = h' ∧ Wr h h' a j.toNatClampNeg (.int (nar .boolean x)) ∧ Arv Z h' a k .boolean z (vs.set i (.int (nar .boolean x))) dv ∧ ∀ target, Steps p.tables e below (T'.setTop { g with pc := g.pc + 1, stack := rest }) target → Steps p.tables e below (T.setTop g) target := by
  obtain ⟨cl, A, q1, S, q3, H, G⟩ := F
  obtain ⟨T', h', X', e', W, st⟩ := stZ X hx hZ eT A (inb_of S hin) hg hs hd
  exact ⟨T', h', X', e', W, Arv.set A q1 S q3 H G (fits_nar_bool x) W i hj hi, st⟩
theorem own_stB (X : Stand p l e R s m args below meth c T locs cells slots) (hx : p.tables.exec = Jvm.exec) (hZ : Z.Warmed39 s.vm) (eT : T.heap = h) {x : Int32} (F : Arv Z h a k .byte z vs dv) {j : Int32} (i : Nat) (hj : j.toNatClampNeg = i) (hi : i < vs.length) (hin : ¬ j < 0 ∧ j < z)
    {g : JFrame} (hg : g.method = m) {rest : List Value} (hs : g.stack = .int x :: .int j :: .ref a :: rest) (hd : decode c.code g.pc = .ok (.bastore, 1)) :
    ∃ T' h', Stand p l e R s m args below meth c T' (locs ++ [⟨a, j.toNatClampNeg⟩]) cells slots ∧ T'.heap = h' ∧ Wr h h' a j.toNatClampNeg (.int (nar .byte x)) ∧ Arv Z h' a k .byte z (vs.set i (.int (nar .byte x))) dv ∧ ∀ target, Steps p.tables e below (T'.setTop { g with pc := g.pc + 1, stack := rest }) target → Steps p.tables e below (T.setTop g) target := by
  obtain ⟨cl, A, q1, S, q3, H, G⟩ := F
  obtain ⟨T', h', X', e', W, st⟩ := stB X hx hZ eT A (inb_of S hin) hg hs hd
  exact ⟨T', h', X', e', W, Arv.set A q1 S q3 H G (fits_nar_byte x) W i hj hi, st⟩
theorem own_stJ (X : Stand p l e R s m args below meth c T locs cells slots) (hx : p.tables.exec = Jvm.exec) (hZ : Z.Warmed39 s.vm) (eT : T.heap = h) {x : Int64} (F : Arv Z h a k .long z vs dv) {j : Int32} (i : Nat) (hj : j.toNatClampNeg = i) (hi : i < vs.length) (hin : ¬ j < 0 ∧ j < z)
    {g : JFrame} (hg : g.method = m) {rest : List Value} (hs : g.stack = .long x :: .int j :: .ref a :: rest) (hd : decode c.code g.pc = .ok (.lastore, 1)) :
    ∃ T' h', Stand p l e R s m args below meth c T' (locs ++ [⟨a, j.toNatClampNeg⟩]) cells slots ∧ T'.heap = h' ∧ Wr h h' a j.toNatClampNeg (.long x) ∧ Arv Z h' a k .long z (vs.set i (.long x)) dv ∧ ∀ target, Steps p.tables e below (T'.setTop { g with pc := g.pc + 1, stack := rest }) target → Steps p.tables e below (T.setTop g) target := by
  obtain ⟨cl, A, q1, S, q3, H, G⟩ := F
  obtain ⟨T', h', X', e', W, st⟩ := stJ X hx hZ eT A (inb_of S hin) hg hs hd
  exact ⟨T', h', X', e', W, Arv.set A q1 S q3 H G rfl W i hj hi, st⟩
theorem own_stC (X : Stand p l e R s m args below meth c T locs cells slots) (hx : p.tables.exec = Jvm.exec) (hZ : Z.Warmed39 s.vm) (eT : T.heap = h) {x : Int32} (F : Arv Z h a k .char z vs dv) {j : Int32} (i : Nat) (hj : j.toNatClampNeg = i) (hi : i < vs.length) (hin : ¬ j < 0 ∧ j < z)
    {g : JFrame} (hg : g.method = m) {rest : List Value} (hs : g.stack = .int x :: .int j :: .ref a :: rest) (hd : decode c.code g.pc = .ok (.castore, 1)) :
    ∃ T' h', Stand p l e R s m args below meth c T' (locs ++ [⟨a, j.toNatClampNeg⟩]) cells slots ∧ T'.heap = h' ∧ Wr h h' a j.toNatClampNeg (.int (nar .char x)) ∧ Arv Z h' a k .char z (vs.set i (.int (nar .char x))) dv ∧ ∀ target, Steps p.tables e below (T'.setTop { g with pc := g.pc + 1, stack := rest }) target → Steps p.tables e below (T.setTop g) target := by
  obtain ⟨cl, A, q1, S, q3, H, G⟩ := F
  obtain ⟨T', h', X', e', W, st⟩ := stC X hx hZ eT A (inb_of S hin) hg hs hd
  exact ⟨T', h', X', e', W, Arv.set A q1 S q3 H G (fits_nar_char x) W i hj hi, st⟩
theorem own_caload (X : Stand p l e R s m args below meth c T locs cells slots) (hx : p.tables.exec = Jvm.exec) (hZ : Z.Warmed39 s.vm) (eT : T.heap = h) {cl : Cell} (F : Arr Z h a cl .char) {j : Int32} {v : Value} (hin : ¬ (j < 0 ∨ cl.slots.size ≤ j.toNatClampNeg)) (hv : cl.slots[j.toNatClampNeg]? = some v)
    {g : JFrame} (hg : g.method = m) {rest : List Value} (hs : g.stack = .int j :: .ref a :: rest) (hd : decode c.code g.pc = .ok (.caload, 1)) : ∀ target, Steps p.tables e below (T.setTop { g with pc := g.pc + 1, stack := v :: rest }) target → Steps p.tables e below (T.setTop g) target :=
  X.caload hx (by rw [eT]; exact F.1) (State.isArrayOf_alike hZ.alike F.2.1) F.2.2 hin hv hg hs hd
/-- a place of an array that is said -/
theorem own_at (F : Arv Z h a k ty z vs dv) {j : Int32} (hin : ¬ j < 0 ∧ j < z) : ∃ cl, Arr Z h a cl ty ∧ ¬ (j < 0 ∨ cl.slots.size ≤ j.toNatClampNeg) ∧ cl.slots[j.toNatClampNeg]? = some (vs.getD j.toNatClampNeg dv) := by
  obtain ⟨cl, A, q1, S, q3, H, G⟩ := F
  exact ⟨cl, A, inb_of S hin, H.at (inb_of S hin) rfl⟩
theorem own_len (F : Arv Z h a k ty z vs dv) : ∃ cl, Arr Z h a cl ty ∧ cl.slots.size.toInt32 = z := by
  obtain ⟨cl, A, q1, S, q3, H, G⟩ := F
  exact ⟨cl, A, len_of S q3⟩
theorem own_re {vs' : List Value} (F : Arv Z h a k ty z vs dv) (q : ∀ i, i < z.toNatClampNeg → vs'.getD i dv = vs.getD i dv) : Arv Z h a k ty z vs' dv := by
  obtain ⟨cl, A, q1, S, q3, H, G⟩ := F
  exact ⟨cl, A, q1, S, q3, fun i hi => by rw [q i (S ▸ hi)]; exact H i hi, fun i hi => by rw [q i (S ▸ hi)]; exact G i hi⟩
theorem own_no {n : Nat} {C S O k0 : String} (w : (Jvm.Cond.superclass C S).before a0 Z = true) (w2 : (Jvm.Cond.superclass S O).before a0 Z = true) (w3 : (Jvm.Cond.noSuperclass O).before a0 Z = true) (wi : (Jvm.Cond.instantiable k0 n).before a0 Z = true) (n1 : C ≠ k0) (n2 : S ≠ k0) (n3 : O ≠ k0) :
    ∃ c t, Z.vm.findClass C = some c ∧ Z.vm.findClass k0 = some t ∧ Z.vm.assignable c t = false := by
  obtain ⟨t, kt, g1, g2, g3, g4, -⟩ := Cond.instantiable_spec wi
  have hO : NS Z O k0 := by
    obtain ⟨c, kc, h1, h2, h3, -, -⟩ := Cond.noSuperclass_spec w3
    refine ⟨c, t, h1, g1, fun fuel => ?_⟩
    cases fuel with
    | zero => rfl
    | succ f => simp [Vm.isSubclassAux, ids_ne h1 g1 n3, h2, h3]
  obtain ⟨c, t', h0, g0, n4⟩ := NS.step w (NS.step w2 hO n2) n1
  cases g1.symm.trans g0
  obtain ⟨p, kk, kp, h1, h2, h3, h4, h5, -, h7⟩ := Cond.superclass_spec h0 w
  refine ⟨c, t, h0, g0, ?_⟩
  show Z.vm.assignableAux (255 + 1) c t = false
  simp only [Bool.or_eq_false_iff] at g4
  simp [Vm.assignableAux, ids_ne h0 g0 n1, h2, g2, h5, g3, g4.1, Vm.isSubclass, n4]
theorem own_clone (X : Stand p l e R s m args below meth c T locs cells slots) (hx : p.tables.exec = Jvm.exec) (hZ : Z.Warmed39 s.vm) {own ad : String} {index : Nat} (hown : s.vm.findClass own = some m.cls)
    (w1 : (Jvm.Cond.methodLink own index ⟨ad, "clone", "()Ljava/lang/Object;"⟩).before a0 Z = true) (w2 : (Jvm.Cond.sameMethod ad "java/lang/Object" "clone" "()Ljava/lang/Object;").before a0 Z = true) (w3 : (Jvm.Cond.native ⟨"java/lang/Object", "clone", "()Ljava/lang/Object;"⟩).before a0 Z = true)
    (w4 : (Jvm.Cond.instanceMethod ⟨"java/lang/Object", "clone", "()Ljava/lang/Object;"⟩).before a0 Z = true) (w5 : (Jvm.Cond.selects ad ⟨ad, "clone", "()Ljava/lang/Object;"⟩ ⟨"java/lang/Object", "clone", "()Ljava/lang/Object;"⟩).before a0 Z = true) (w6 : (Jvm.Cond.castable ad "java/lang/Cloneable").before a0 Z = true)
    (eT : T.heap = h) (F : Arv Z h a k ty z vs dv) (E : Exa Z h a ad) {g : JFrame} (hg : g.method = m) (hsize : g.locals.size = c.maxLocals) {rest : List Value} (hst : g.stack = .ref a :: rest) (hd : decode c.code g.pc = .ok (.invokevirtual index, 3))
    (hf : 1 ≤ R.frames) {W cap : Nat} (hW : 2 * g.monitorRoom + (rest.map fun v => v.category).sum ≤ W) (hl : W + 14 ≤ R.locals) (hcap : z.toNatClampNeg ≤ cap) (hc : cells + 1 ≤ R.cells) (hsl : slots + cap ≤ R.slots) :
    ∃ T' h', Stand p l e R s m args below meth c T' locs (cells + 1) (slots + cap) ∧ T'.heap = h' ∧ Ext h h' ∧ Arv Z h' h.size k ty z vs dv ∧ Exa Z h' h.size ad ∧
      ∀ target, Steps p.tables e below (T'.setTop { g with pc := g.pc + 3, stack := .ref h.size :: rest }) target → Steps p.tables e below (T.setTop g) target := by
  obtain ⟨cl, A, q1, S, q3, H, G⟩ := F
  obtain ⟨T', h', X', e', E', A', B', st⟩ := cloneA X hx hZ hown w1 w2 w3 w4 w5 w6 eT A E (fitC_of A (fun i hi v hv => by rw [H i hi] at hv; cases hv; exact G i hi)) hg hsize hst hd hf hW hl (by rw [S]; exact hcap) hc hsl
  exact ⟨T', h', X', e', E', ⟨cloneOf cl, A', q1, S, q3, H, G⟩, B', st⟩
end Own2
theorem own_nb (y : Int32) : nar .byte y.toInt8.toInt32 = y.toInt8.toInt32 := by simp [nar]
theorem pd_0 : parseMethodDescriptor "(Ljava/util/Map;)Ljava/util/Map;" = some ⟨[(.object "java/util/Map")], some (.object "java/util/Map")⟩ := by decide +kernel
theorem pd_1 : parseMethodDescriptor "()Ljava/util/List;" = some ⟨[], some (.object "java/util/List")⟩ := by decide +kernel
theorem pd_2 : parseMethodDescriptor "(Ljava/util/Map;[BLjava/util/List;)V" = some ⟨[(.object "java/util/Map"), (.array .byte), (.object "java/util/List")], none⟩ := by decide +kernel
theorem pd_3 : parseMethodDescriptor "()Ljava/util/Map;" = some ⟨[], some (.object "java/util/Map")⟩ := by decide +kernel
theorem pd_4 : parseMethodDescriptor "(Ljava/util/Map;)V" = some ⟨[(.object "java/util/Map")], none⟩ := by decide +kernel
theorem pd_5 : parseMethodDescriptor "()[B" = some ⟨[], some (.array .byte)⟩ := by decide +kernel
theorem pd_6 : parseMethodDescriptor "([B)Lcom/example/arborkey/arborkey/EncryptionMaterials;" = some ⟨[(.array .byte)], some (.object "com/example/arborkey/arborkey/EncryptionMaterials")⟩ := by decide +kernel
theorem d1_0 : decode jdk_72_method_26_code 0 = .ok (.getstatic 81, 3) := by decide +kernel
theorem d1_3 : decode jdk_72_method_26_code 3 = .ok (.areturn, 1) := by decide +kernel
def Qrm1 (em : Addr) (Z : State) (h0 : Heap) (n0 : Nat) (v : Option Value) (h : Heap) (L : List Loc) : Prop := v = some (.ref em) ∧ Fr n0 L ∧ h = h0
set_option maxRecDepth 65536 in
set_option maxHeartbeats 40000000 in
theorem rm1 (l : Launch) (Z : State) (a0 : Array Value) (hw : ∀ d ∈ tables_1, d.before a0 Z = true) (em : Addr) (h0 : Heap) (n0 : Nat) (Z0 : n0 ≤ h0.size) (S : Sta Z h0 "java/util/ImmutableCollections" "EMPTY_MAP" "Ljava/util/ImmutableCollections$MapN;" (.ref em)) :
    MetFree l (⟨"java/util/Map", "of", "()Ljava/util/Map;"⟩ : MethodName) (head1 (Jvm.Cond.code (⟨"java/util/Map", "of", "()Ljava/util/Map;"⟩ : MethodName) jdk_72_method_26_code 0 (some (.object "java/util/Map")) :: []) ({ frames := 0, cells := 0, slots := 0, locals := 0 } : Room)) (fun ar_ U => ar_ = #[] ∧ Z.Warmed39 U.vm ∧ U.heap = h0) (fun _ _ _ _ _ => True) (fun _ U o U' => ∃ v L, o = .returned v ∧ Qrm1 em Z h0 n0 v U'.heap L ∧ FrameEnd U o U' L ({ frames := 0, cells := 0, slots := 0, locals := 0 } : Room).cells ({ frames := 0, cells := 0, slots := 0, locals := 0 } : Room).slots) := by
  refine MetFree.of_bodySF (plainFor_of_name (by first | (simp [plainName, overriddenIn]; done) | decide +kernel)) hisR ?_
  intro p e s m args below meth c s₁ Bd hml0 hP hK
  obtain ⟨rfl, hZ, hh⟩ := hP
  have hx := Bd.exec
  have hby := Bd.bytes
  have hml : c.maxLocals = 0 := hml0
  have hown : s.vm.findClass "java/util/Map" = some m.cls := findClass_of_methodNamed Bd.named
  have hnm := (name_of_methodNamed Bd.named Bd.method).1
  have X0 : Stand p l e ({ frames := 0, cells := 0, slots := 0, locals := 0 } : Room) s m #[] below meth c s₁ [] 0 0 := Stand.of_body Bd
  have e0 : s₁.heap = h0 := by rw [← hh, Bd.state]; rfl
  have N0 := Fr.nil n0
  show own_E p e below s (Qrm1 em Z h0 n0) ({ frames := 0, cells := 0, slots := 0, locals := 0 } : Room).cells ({ frames := 0, cells := 0, slots := 0, locals := 0 } : Room).slots (s₁.setTop (entryFrame m #[] 0))
  refine own_go (fun t k => castTop (show _ = (mkF m 0 #[] []) from by first | (simp [entryFrame, mkF, argsToLocals, Value.category]; done) | rfl) k) ?_
  show own_E _ _ _ _ _ _ _ (s₁.setTop (mkF m 0 #[] []))
  obtain ⟨T1, X1, e1, st1⟩ := getS2 X0 hx hZ hown (host := "") (Or.inl (hw _ (List.mem_of_getElem? (i := 8) rfl))) Via.refl e0 S (g := (mkF m 0 #[] [])) rfl (hb hby d1_0)
  refine own_go st1 ?_
  show own_E _ _ _ _ _ _ _ (T1.setTop (mkF m 3 #[] [(.ref em)]))
  exact own_ret X1 hx Bd.returns Bd.notSynchronized rfl (Or.inr (Or.inr (Or.inr (Or.inr ⟨rfl, rfl, rfl⟩)))) (hb hby d1_3) (by rw [e1]; exact ⟨rfl, N0, rfl⟩) (by decide) (by decide)
theorem d3_0 : decode jdk_72_method_39_code 0 = .ok (.aload_n 0, 1) := by decide +kernel
theorem d3_1 : decode jdk_72_method_39_code 1 = .ok (.instanceof 101, 3) := by decide +kernel
theorem d3_4 : decode jdk_72_method_39_code 4 = .ok (.ifCond .eq 5, 3) := by decide +kernel
theorem d3_7 : decode jdk_72_method_39_code 7 = .ok (.aload_n 0, 1) := by decide +kernel
theorem d3_8 : decode jdk_72_method_39_code 8 = .ok (.areturn, 1) := by decide +kernel
def Qrm3 (em : Addr) (Z : State) (h0 : Heap) (n0 : Nat) (v : Option Value) (h : Heap) (L : List Loc) : Prop := v = some (.ref em) ∧ Fr n0 L ∧ h = h0
set_option maxRecDepth 65536 in
set_option maxHeartbeats 40000000 in
theorem rm3 (l : Launch) (Z : State) (a0 : Array Value) (hw : ∀ d ∈ tables_1, d.before a0 Z = true) (em : Addr) (h0 : Heap) (n0 : Nat) (Z0 : n0 ≤ h0.size) (E : Exa Z h0 em "java/util/ImmutableCollections$MapN") :
    MetFree l (⟨"java/util/Map", "copyOf", "(Ljava/util/Map;)Ljava/util/Map;"⟩ : MethodName) (head1 (Jvm.Cond.code (⟨"java/util/Map", "copyOf", "(Ljava/util/Map;)Ljava/util/Map;"⟩ : MethodName) jdk_72_method_39_code 1 (some (.object "java/util/Map")) :: []) ({ frames := 0, cells := 0, slots := 0, locals := 0 } : Room)) (fun ar_ U => ar_ = #[(.ref em)] ∧ Z.Warmed39 U.vm ∧ U.heap = h0) (fun _ _ _ _ _ => True) (fun _ U o U' => ∃ v L, o = .returned v ∧ Qrm3 em Z h0 n0 v U'.heap L ∧ FrameEnd U o U' L ({ frames := 0, cells := 0, slots := 0, locals := 0 } : Room).cells ({ frames := 0, cells := 0, slots := 0, locals := 0 } : Room).slots) := by
  refine MetFree.of_bodySF (plainFor_of_name (by first | (simp [plainName, overriddenIn]; done) | decide +kernel)) hisR ?_
  intro p e s m args below meth c s₁ Bd hml0 hP hK
  obtain ⟨rfl, hZ, hh⟩ := hP
  have hx := Bd.exec
  have hby := Bd.bytes
  have hml : c.maxLocals = 1 := hml0
  have hown : s.vm.findClass "java/util/Map" = some m.cls := findClass_of_methodNamed Bd.named
  have hnm := (name_of_methodNamed Bd.named Bd.method).1
  have X0 : Stand p l e ({ frames := 0, cells := 0, slots := 0, locals := 0 } : Room) s m #[(.ref em)] below meth c s₁ [] 0 0 := Stand.of_body Bd
  have e0 : s₁.heap = h0 := by rw [← hh, Bd.state]; rfl
  have N0 := Fr.nil n0
  show own_E p e below s (Qrm3 em Z h0 n0) ({ frames := 0, cells := 0, slots := 0, locals := 0 } : Room).cells ({ frames := 0, cells := 0, slots := 0, locals := 0 } : Room).slots (s₁.setTop (entryFrame m #[(.ref em)] 1))
  refine own_go (fun t k => castTop (show _ = (mkF m 0 #[.val (.ref em)] []) from by first | (simp [entryFrame, mkF, argsToLocals, Value.category]; done) | rfl) k) ?_
  show own_E _ _ _ _ _ _ _ (s₁.setTop (mkF m 0 #[.val (.ref em)] []))
  refine own_go (fun _ k => XS.aloadN X0.here hx rfl (hb hby d3_0) rfl rfl k) ?_
  show own_E _ _ _ _ _ _ _ (s₁.setTop (mkF m 1 #[.val (.ref em)] [(.ref em)]))
  obtain ⟨T1, X1, e1, st1⟩ := instY X0 hx hZ hown (hw _ (List.mem_of_getElem? (i := 16) rfl)) e0 (Ins.of_exa E (hw _ (List.mem_of_getElem? (i := 17) rfl))) (g := (mkF m 1 #[.val (.ref em)] [(.ref em)])) rfl rfl (hb hby d3_1)
  refine own_go st1 ?_
  show own_E _ _ _ _ _ _ _ (T1.setTop (mkF m 4 #[.val (.ref em)] [(.int (1 : Int32))]))
  refine own_go (fun _ k => XS.ifNo X1.here hx rfl (hb hby d3_4) rfl (by decide) k) ?_
  show own_E _ _ _ _ _ _ _ (T1.setTop (mkF m 7 #[.val (.ref em)] []))
  refine own_go (fun _ k => XS.aloadN X1.here hx rfl (hb hby d3_7) rfl rfl k) ?_
  show own_E _ _ _ _ _ _ _ (T1.setTop (mkF m 8 #[.val (.ref em)] [(.ref em)]))
  exact own_ret X1 hx Bd.returns Bd.notSynchronized rfl (Or.inr (Or.inr (Or.inr (Or.inr ⟨rfl, rfl, rfl⟩)))) (hb hby d3_8) (by rw [e1]; exact ⟨rfl, N0, rfl⟩) (by decide) (by decide)
theorem d4_0 : decode jdk_40_method_36_code 0 = .ok (.getstatic 90, 3) := by decide +kernel
theorem d4_3 : decode jdk_40_method_36_code 3 = .ok (.areturn, 1) := by decide +kernel
def Qrm4 (el : Addr) (Z : State) (h0 : Heap) (n0 : Nat) (v : Option Value) (h : Heap) (L : List Loc) : Prop := v = some (.ref el) ∧ Fr n0 L ∧ h = h0
set_option maxRecDepth 65536 in
set_option maxHeartbeats 40000000 in
theorem rm4 (l : Launch) (Z : State) (a0 : Array Value) (hw : ∀ d ∈ tables_1, d.before a0 Z = true) (el : Addr) (h0 : Heap) (n0 : Nat) (Z0 : n0 ≤ h0.size) (S : Sta Z h0 "java/util/ImmutableCollections" "EMPTY_LIST" "Ljava/util/ImmutableCollections$ListN;" (.ref el)) :
    MetFree l (⟨"java/util/List", "of", "()Ljava/util/List;"⟩ : MethodName) (head1 (Jvm.Cond.code (⟨"java/util/List", "of", "()Ljava/util/List;"⟩ : MethodName) jdk_40_method_36_code 0 (some (.object "java/util/List")) :: []) ({ frames := 0, cells := 0, slots := 0, locals := 0 } : Room)) (fun ar_ U => ar_ = #[] ∧ Z.Warmed39 U.vm ∧ U.heap = h0) (fun _ _ _ _ _ => True) (fun _ U o U' => ∃ v L, o = .returned v ∧ Qrm4 el Z h0 n0 v U'.heap L ∧ FrameEnd U o U' L ({ frames := 0, cells := 0, slots := 0, locals := 0 } : Room).cells ({ frames := 0, cells := 0, slots := 0, locals := 0 } : Room).slots) := by
  refine MetFree.of_bodySF (plainFor_of_name (by first | (simp [plainName, overriddenIn]; done) | decide +kernel)) hisR ?_
  intro p e s m args below meth c s₁ Bd hml0 hP hK
  obtain ⟨rfl, hZ, hh⟩ := hP
  have hx := Bd.exec
  have hby := Bd.bytes
  have hml : c.maxLocals = 0 := hml0
  have hown : s.vm.findClass "java/util/List" = some m.cls := findClass_of_methodNamed Bd.named
  have hnm := (name_of_methodNamed Bd.named Bd.method).1
  have X0 : Stand p l e ({ frames := 0, cells := 0, slots := 0, locals := 0 } : Room) s m #[] below meth c s₁ [] 0 0 := Stand.of_body Bd
  have e0 : s₁.heap = h0 := by rw [← hh, Bd.state]; rfl
  have N0 := Fr.nil n0
  show own_E p e below s (Qrm4 el Z h0 n0) ({ frames := 0, cells := 0, slots := 0, locals := 0 } : Room).cells ({ frames := 0, cells := 0, slots := 0, locals := 0 } : Room).slots (s₁.setTop (entryFrame m #[] 0))
  refine own_go (fun t k => castTop (show _ = (mkF m 0 #[] []) from by first | (simp [entryFrame, mkF, argsToLocals, Value.category]; done) | rfl) k) ?_
  show own_E _ _ _ _ _ _ _ (s₁.setTop (mkF m 0 #[] []))
  obtain ⟨T1, X1, e1, st1⟩ := getS2 X0 hx hZ hown (host := "") (Or.inl (hw _ (List.mem_of_getElem? (i := 22) rfl))) Via.refl e0 S (g := (mkF m 0 #[] [])) rfl (hb hby d4_0)
  refine own_go st1 ?_
  show own_E _ _ _ _ _ _ _ (T1.setTop (mkF m 3 #[] [(.ref el)]))
  exact own_ret X1 hx Bd.returns Bd.notSynchronized rfl (Or.inr (Or.inr (Or.inr (Or.inr ⟨rfl, rfl, rfl⟩)))) (hb hby d4_3) (by rw [e1]; exact ⟨rfl, N0, rfl⟩) (by decide) (by decide)
theorem d5_0 : decode prog_33_method_2_code 0 = .ok (.aload_n 0, 1) := by decide +kernel
theorem d5_1 : decode prog_33_method_2_code 1 = .ok (.invokespecial 19, 3) := by decide +kernel
theorem d5_4 : decode prog_33_method_2_code 4 = .ok (.aload_n 0, 1) := by decide +kernel
theorem d5_5 : decode prog_33_method_2_code 5 = .ok (.aload_n 1, 1) := by decide +kernel
theorem d5_6 : decode prog_33_method_2_code 6 = .ok (.putfield 24, 3) := by decide +kernel
theorem d5_9 : decode prog_33_method_2_code 9 = .ok (.aload_n 0, 1) := by decide +kernel
theorem d5_10 : decode prog_33_method_2_code 10 = .ok (.aload_n 2, 1) := by decide +kernel
theorem d5_11 : decode prog_33_method_2_code 11 = .ok (.putfield 28, 3) := by decide +kernel
theorem d5_14 : decode prog_33_method_2_code 14 = .ok (.aload_n 0, 1) := by decide +kernel
theorem d5_15 : decode prog_33_method_2_code 15 = .ok (.aload_n 3, 1) := by decide +kernel
theorem d5_16 : decode prog_33_method_2_code 16 = .ok (.putfield 32, 3) := by decide +kernel
theorem d5_19 : decode prog_33_method_2_code 19 = .ok (.return_, 1) := by decide +kernel
def QrmCN (a : Addr) (em : Addr) (el : Addr) (Z : State) (h0 : Heap) (n0 : Nat) (v : Option Value) (h : Heap) (L : List Loc) : Prop := v = none ∧ Fr n0 L ∧ Keep h0 h [a] ∧ Exa Z h a "com/example/arborkey/arborkey/EncryptionMaterials" ∧ Fld Z h a "com/example/arborkey/arborkey/EncryptionMaterials" "encryptionContext" "Ljava/util/Map;" (.ref em) ∧ Fld Z h a "com/example/arborkey/arborkey/EncryptionMaterials" "dataKey" "[B" .null ∧ Fld Z h a "com/example/arborkey/arborkey/EncryptionMaterials" "wrappedKeys" "Ljava/util/List;" (.ref el)
set_option maxRecDepth 65536 in
set_option maxHeartbeats 40000000 in
theorem rmCN (l : Launch) (Z : State) (a0 : Array Value) (hw : ∀ d ∈ tables_1, d.before a0 Z = true) (a : Addr) (em : Addr) (el : Addr) (h0 : Heap) (n0 : Nat) (Z0 : n0 ≤ h0.size) (E : Exa Z h0 a "com/example/arborkey/arborkey/EncryptionMaterials") (F : Fld Z h0 a "com/example/arborkey/arborkey/EncryptionMaterials" "encryptionContext" "Ljava/util/Map;" .null) (G : Fld Z h0 a "com/example/arborkey/arborkey/EncryptionMaterials" "dataKey" "[B" .null) (H : Fld Z h0 a "com/example/arborkey/arborkey/EncryptionMaterials" "wrappedKeys" "Ljava/util/List;" .null) (ga : n0 ≤ a) :
    MetFree l (⟨"com/example/arborkey/arborkey/EncryptionMaterials", "<init>", "(Ljava/util/Map;[BLjava/util/List;)V"⟩ : MethodName) (head1 (Jvm.Cond.code (⟨"com/example/arborkey/arborkey/EncryptionMaterials", "<init>", "(Ljava/util/Map;[BLjava/util/List;)V"⟩ : MethodName) prog_33_method_2_code 4 none :: []) ({ frames := 1, cells := 0, slots := 0, locals := 12 } : Room)) (fun ar_ U => ar_ = #[(.ref a), (.ref em), .null, (.ref el)] ∧ Z.Warmed39 U.vm ∧ U.heap = h0) (fun _ _ _ _ _ => True) (fun _ U o U' => ∃ v L, o = .returned v ∧ QrmCN a em el Z h0 n0 v U'.heap L ∧ FrameEnd U o U' L ({ frames := 1, cells := 0, slots := 0, locals := 12 } : Room).cells ({ frames := 1, cells := 0, slots := 0, locals := 12 } : Room).slots) := by
  refine MetFree.of_bodySF (plainFor_of_name (by first | (simp [plainName, overriddenIn]; done) | decide +kernel)) hisR ?_
  intro p e s m args below meth c s₁ Bd hml0 hP hK
  obtain ⟨rfl, hZ, hh⟩ := hP
  have hx := Bd.exec
  have hby := Bd.bytes
  have hml : c.maxLocals = 4 := hml0
  have hown : s.vm.findClass "com/example/arborkey/arborkey/EncryptionMaterials" = some m.cls := findClass_of_methodNamed Bd.named
  have hnm := (name_of_methodNamed Bd.named Bd.method).1
  have X0 : Stand p l e ({ frames := 1, cells := 0, slots := 0, locals := 12 } : Room) s m #[(.ref a), (.ref em), .null, (.ref el)] below meth c s₁ [] 0 0 := Stand.of_body Bd
  have e0 : s₁.heap = h0 := by rw [← hh, Bd.state]; rfl
  have N0 := Fr.nil n0
  show own_E p e below s (QrmCN a em el Z h0 n0) ({ frames := 1, cells := 0, slots := 0, locals := 12 } : Room).cells ({ frames := 1, cells := 0, slots := 0, locals := 12 } : Room).slots (s₁.setTop (entryFrame m #[(.ref a), (.ref em), .null, (.ref el)] 4))
  refine own_go (fun t k => castTop (show _ = (mkF m 0 #[.val (.ref a), .val (.ref em), .val .null, .val (.ref el)] []) from by first | (simp [entryFrame, mkF, argsToLocals, Value.category]; done) | rfl) k) ?_
  show own_E _ _ _ _ _ _ _ (s₁.setTop (mkF m 0 #[.val (.ref a), .val (.ref em), .val .null, .val (.ref el)] []))
  have KK := Keep.refl h0 [a]
  refine own_go (fun _ k => XS.aloadN X0.here hx rfl (hb hby d5_0) rfl rfl k) ?_
  show own_E _ _ _ _ _ _ _ (s₁.setTop (mkF m 1 #[.val (.ref a), .val (.ref em), .val .null, .val (.ref el)] [(.ref a)]))
  obtain ⟨T11, X11, e11, st11⟩ := initO X0 hx hZ hown (hw _ (List.mem_of_getElem? (i := 26) rfl)) (hw _ (List.mem_of_getElem? (i := 27) rfl)) (hw _ (List.mem_of_getElem? (i := 28) rfl)) e0 (g := (mkF m 1 #[.val (.ref a), .val (.ref em), .val .null, .val (.ref el)] [(.ref a)])) rfl (by rw [hml]; rfl) rfl (hb hby d5_1) (by decide) (W := 0) (Nat.le_of_ble_eq_true rfl) (by decide)
  refine own_go st11 ?_
  show own_E _ _ _ _ _ _ _ (T11.setTop (mkF m 4 #[.val (.ref a), .val (.ref em), .val .null, .val (.ref el)] []))
  refine own_go (fun _ k => XS.aloadN X11.here hx rfl (hb hby d5_4) rfl rfl k) ?_
  show own_E _ _ _ _ _ _ _ (T11.setTop (mkF m 5 #[.val (.ref a), .val (.ref em), .val .null, .val (.ref el)] [(.ref a)]))
  refine own_go (fun _ k => XS.aloadN X11.here hx rfl (hb hby d5_5) rfl rfl k) ?_
  show own_E _ _ _ _ _ _ _ (T11.setTop (mkF m 6 #[.val (.ref a), .val (.ref em), .val .null, .val (.ref el)] [(.ref em), (.ref a)]))
  obtain ⟨T12, h12, X12, e12, W12, st12⟩ := putF X11 hx hZ hown (host := "") (Or.inl (hw _ (List.mem_of_getElem? (i := 29) rfl))) Via.refl e11 F E (Or.inr ⟨(hw _ (List.mem_of_getElem? (i := 30) rfl)), rfl, hnm⟩) (hw _ (List.mem_of_getElem? (i := 2) rfl)) (ty := (.object "java/util/Map")) (by decide +kernel) rfl rfl (g := (mkF m 6 #[.val (.ref a), .val (.ref em), .val .null, .val (.ref el)] [(.ref em), (.ref a)])) rfl rfl (hb hby d5_6)
  have f12_0 := F.same W12
  have f12_1 := G.other W12 (Or.inr (slot_ne (Or.inr (hw _ (List.mem_of_getElem? (i := 32) rfl))) (Or.inr (hw _ (List.mem_of_getElem? (i := 30) rfl))) (by decide) (t := (.array .byte)) (t' := (.object "java/util/Map")) (by decide +kernel) (by decide +kernel)))
  have f12_2 := H.other W12 (Or.inr (slot_ne (Or.inr (hw _ (List.mem_of_getElem? (i := 34) rfl))) (Or.inr (hw _ (List.mem_of_getElem? (i := 30) rfl))) (by decide) (t := (.object "java/util/List")) (t' := (.object "java/util/Map")) (by decide +kernel) (by decide +kernel)))
  have f12_3 := E.wr W12
  have Z12 : n0 ≤ h12.size := by rw [W12.size]; exact Z0
  have N12 := Fr.snoc X12 N0 ga
  have K12 := KK.wr W12 (Or.inl (by simp))
  refine own_go st12 ?_
  show own_E _ _ _ _ _ _ _ (T12.setTop (mkF m 9 #[.val (.ref a), .val (.ref em), .val .null, .val (.ref el)] []))
  refine own_go (fun _ k => XS.aloadN X12.here hx rfl (hb hby d5_9) rfl rfl k) ?_
  show own_E _ _ _ _ _ _ _ (T12.setTop (mkF m 10 #[.val (.ref a), .val (.ref em), .val .null, .val (.ref el)] [(.ref a)]))
  refine own_go (fun _ k => XS.aloadN X12.here hx rfl (hb hby d5_10) rfl rfl k) ?_
  show own_E _ _ _ _ _ _ _ (T12.setTop (mkF m 11 #[.val (.ref a), .val (.ref em), .val .null, .val (.ref el)] [.null, (.ref a)]))
  obtain ⟨T13, h13, X13, e13, W13, st13⟩ := putF X12 hx hZ hown (host := "") (Or.inl (hw _ (List.mem_of_getElem? (i := 31) rfl))) Via.refl e12 f12_1 f12_3 (Or.inr ⟨(hw _ (List.mem_of_getElem? (i := 32) rfl)), rfl, hnm⟩) (hw _ (List.mem_of_getElem? (i := 2) rfl)) (ty := (.array .byte)) (by decide +kernel) rfl rfl (g := (mkF m 11 #[.val (.ref a), .val (.ref em), .val .null, .val (.ref el)] [.null, (.ref a)])) rfl rfl (hb hby d5_11)
  have f13_0 := f12_0.other W13 (Or.inr (slot_ne (Or.inr (hw _ (List.mem_of_getElem? (i := 30) rfl))) (Or.inr (hw _ (List.mem_of_getElem? (i := 32) rfl))) (by decide) (t := (.object "java/util/Map")) (t' := (.array .byte)) (by decide +kernel) (by decide +kernel)))
  have f13_1 := f12_1.same W13
  have f13_2 := f12_2.other W13 (Or.inr (slot_ne (Or.inr (hw _ (List.mem_of_getElem? (i := 34) rfl))) (Or.inr (hw _ (List.mem_of_getElem? (i := 32) rfl))) (by decide) (t := (.object "java/util/List")) (t' := (.array .byte)) (by decide +kernel) (by decide +kernel)))
  have f13_3 := f12_3.wr W13
  have Z13 : n0 ≤ h13.size := by rw [W13.size]; exact Z12
  have N13 := Fr.snoc X13 N12 ga
  have K13 := K12.wr W13 (Or.inl (by simp))
  refine own_go st13 ?_
  show own_E _ _ _ _ _ _ _ (T13.setTop (mkF m 14 #[.val (.ref a), .val (.ref em), .val .null, .val (.ref el)] []))
  refine own_go (fun _ k => XS.aloadN X13.here hx rfl (hb hby d5_14) rfl rfl k) ?_
  show own_E _ _ _ _ _ _ _ (T13.setTop (mkF m 15 #[.val (.ref a), .val (.ref em), .val .null, .val (.ref el)] [(.ref a)]))
  refine own_go (fun _ k => XS.aloadN X13.here hx rfl (hb hby d5_15) rfl rfl k) ?_
  show own_E _ _ _ _ _ _ _ (T13.setTop (mkF m 16 #[.val (.ref a), .val (.ref em), .val .null, .val (.ref el)] [(.ref el), (.ref a)]))
  obtain ⟨T14, h14, X14, e14, W14, st14⟩ := putF X13 hx hZ hown (host := "") (Or.inl (hw _ (List.mem_of_getElem? (i := 33) rfl))) Via.refl e13 f13_2 f13_3 (Or.inr ⟨(hw _ (List.mem_of_getElem? (i := 34) rfl)), rfl, hnm⟩) (hw _ (List.mem_of_getElem? (i := 2) rfl)) (ty := (.object "java/util/List")) (by decide +kernel) rfl rfl (g := (mkF m 16 #[.val (.ref a), .val (.ref em), .val .null, .val (.ref el)] [(.ref el), (.ref a)])) rfl rfl (hb hby d5_16)
  have f14_0 := f13_0.other W14 (Or.inr (slot_ne (Or.inr (hw _ (List.mem_of_getElem? (i := 30) rfl))) (Or.inr (hw _ (List.mem_of_getElem? (i := 34) rfl))) (by decide) (t := (.object "java/util/Map")) (t' := (.object "java/util/List")) (by decide +kernel) (by decide +kernel)))
  have f14_1 := f13_1.other W14 (Or.inr (slot_ne (Or.inr (hw _ (List.mem_of_getElem? (i := 32) rfl))) (Or.inr (hw _ (List.mem_of_getElem? (i := 34) rfl))) (by decide) (t := (.array .byte)) (t' := (.object "java/util/List")) (by decide +kernel) (by decide +kernel)))
  have f14_2 := f13_2.same W14
  have f14_3 := f13_3.wr W14
  have Z14 : n0 ≤ h14.size := by rw [W14.size]; exact Z13
  have N14 := Fr.snoc X14 N13 ga
  have K14 := K13.wr W14 (Or.inl (by simp))
  refine own_go st14 ?_
  show own_E _ _ _ _ _ _ _ (T14.setTop (mkF m 19 #[.val (.ref a), .val (.ref em), .val .null, .val (.ref el)] []))
  exact own_ret0 X14 hx Bd.returns Bd.notSynchronized (hb hby d5_19) (by rw [e14]; exact ⟨rfl, N14, K14, f14_3, f14_0, f14_1, f14_2⟩) (by decide) (by decide)
def QrmCR (a : Addr) (em : Addr) (kc : Addr) (el : Addr) (Z : State) (h0 : Heap) (n0 : Nat) (v : Option Value) (h : Heap) (L : List Loc) : Prop := v = none ∧ Fr n0 L ∧ Keep h0 h [a] ∧ Exa Z h a "com/example/arborkey/arborkey/EncryptionMaterials" ∧ Fld Z h a "com/example/arborkey/arborkey/EncryptionMaterials" "encryptionContext" "Ljava/util/Map;" (.ref em) ∧ Fld Z h a "com/example/arborkey/arborkey/EncryptionMaterials" "dataKey" "[B" (.ref kc) ∧ Fld Z h a "com/example/arborkey/arborkey/EncryptionMaterials" "wrappedKeys" "Ljava/util/List;" (.ref el)
set_option maxRecDepth 65536 in
set_option maxHeartbeats 40000000 in
theorem rmCR (l : Launch) (Z : State) (a0 : Array Value) (hw : ∀ d ∈ tables_1, d.before a0 Z = true) (a : Addr) (em : Addr) (kc : Addr) (el : Addr) (h0 : Heap) (n0 : Nat) (Z0 : n0 ≤ h0.size) (E : Exa Z h0 a "com/example/arborkey/arborkey/EncryptionMaterials") (F : Fld Z h0 a "com/example/arborkey/arborkey/EncryptionMaterials" "encryptionContext" "Ljava/util/Map;" .null) (G : Fld Z h0 a "com/example/arborkey/arborkey/EncryptionMaterials" "dataKey" "[B" .null) (H : Fld Z h0 a "com/example/arborkey/arborkey/EncryptionMaterials" "wrappedKeys" "Ljava/util/List;" .null) (ga : n0 ≤ a) :
    MetFree l (⟨"com/example/arborkey/arborkey/EncryptionMaterials", "<init>", "(Ljava/util/Map;[BLjava/util/List;)V"⟩ : MethodName) (head1 (Jvm.Cond.code (⟨"com/example/arborkey/arborkey/EncryptionMaterials", "<init>", "(Ljava/util/Map;[BLjava/util/List;)V"⟩ : MethodName) prog_33_method_2_code 4 none :: []) ({ frames := 1, cells := 0, slots := 0, locals := 12 } : Room)) (fun ar_ U => ar_ = #[(.ref a), (.ref em), (.ref kc), (.ref el)] ∧ Z.Warmed39 U.vm ∧ U.heap = h0) (fun _ _ _ _ _ => True) (fun _ U o U' => ∃ v L, o = .returned v ∧ QrmCR a em kc el Z h0 n0 v U'.heap L ∧ FrameEnd U o U' L ({ frames := 1, cells := 0, slots := 0, locals := 12 } : Room).cells ({ frames := 1, cells := 0, slots := 0, locals := 12 } : Room).slots) := by
  refine MetFree.of_bodySF (plainFor_of_name (by first | (simp [plainName, overriddenIn]; done) | decide +kernel)) hisR ?_
  intro p e s m args below meth c s₁ Bd hml0 hP hK
  obtain ⟨rfl, hZ, hh⟩ := hP
  have hx := Bd.exec
  have hby := Bd.bytes
  have hml : c.maxLocals = 4 := hml0
  have hown : s.vm.findClass "com/example/arborkey/arborkey/EncryptionMaterials" = some m.cls := findClass_of_methodNamed Bd.named
  have hnm := (name_of_methodNamed Bd.named Bd.method).1
  have X0 : Stand p l e ({ frames := 1, cells := 0, slots := 0, locals := 12 } : Room) s m #[(.ref a), (.ref em), (.ref kc), (.ref el)] below meth c s₁ [] 0 0 := Stand.of_body Bd
  have e0 : s₁.heap = h0 := by rw [← hh, Bd.state]; rfl
  have N0 := Fr.nil n0
  show own_E p e below s (QrmCR a em kc el Z h0 n0) ({ frames := 1, cells := 0, slots := 0, locals := 12 } : Room).cells ({ frames := 1, cells := 0, slots := 0, locals := 12 } : Room).slots (s₁.setTop (entryFrame m #[(.ref a), (.ref em), (.ref kc), (.ref el)] 4))
  refine own_go (fun t k => castTop (show _ = (mkF m 0 #[.val (.ref a), .val (.ref em), .val (.ref kc), .val (.ref el)] []) from by first | (simp [entryFrame, mkF, argsToLocals, Value.category]; done) | rfl) k) ?_
  show own_E _ _ _ _ _ _ _ (s₁.setTop (mkF m 0 #[.val (.ref a), .val (.ref em), .val (.ref kc), .val (.ref el)] []))
  have KK := Keep.refl h0 [a]
  refine own_go (fun _ k => XS.aloadN X0.here hx rfl (hb hby d5_0) rfl rfl k) ?_
  show own_E _ _ _ _ _ _ _ (s₁.setTop (mkF m 1 #[.val (.ref a), .val (.ref em), .val (.ref kc), .val (.ref el)] [(.ref a)]))
  obtain ⟨T11, X11, e11, st11⟩ := initO X0 hx hZ hown (hw _ (List.mem_of_getElem? (i := 26) rfl)) (hw _ (List.mem_of_getElem? (i := 27) rfl)) (hw _ (List.mem_of_getElem? (i := 28) rfl)) e0 (g := (mkF m 1 #[.val (.ref a), .val (.ref em), .val (.ref kc), .val (.ref el)] [(.ref a)])) rfl (by rw [hml]; rfl) rfl (hb hby d5_1) (by decide) (W := 0) (Nat.le_of_ble_eq_true rfl) (by decide)
  refine own_go st11 ?_
  show own_E _ _ _ _ _ _ _ (T11.setTop (mkF m 4 #[.val (.ref a), .val (.ref em), .val (.ref kc), .val (.ref el)] []))
  refine own_go (fun _ k => XS.aloadN X11.here hx rfl (hb hby d5_4) rfl rfl k) ?_
  show own_E _ _ _ _ _ _ _ (T11.setTop (mkF m 5 #[.val (.ref a), .val (.ref em), .val (.ref kc), .val (.ref el)] [(.ref a)]))
  refine own_go (fun _ k => XS.aloadN X11.here hx rfl (hb hby d5_5) rfl rfl k) ?_
  show own_E _ _ _ _ _ _ _ (T11.setTop (mkF m 6 #[.val (.ref a), .val (.ref em), .val (.ref kc), .val (.ref el)] [(.ref em), (.ref a)]))
  obtain ⟨T12, h12, X12, e12, W12, st12⟩ := putF X11 hx hZ hown (host := "") (Or.inl (hw _ (List.mem_of_getElem? (i := 29) rfl))) Via.refl e11 F E (Or.inr ⟨(hw _ (List.mem_of_getElem? (i := 30) rfl)), rfl, hnm⟩) (hw _ (List.mem_of_getElem? (i := 2) rfl)) (ty := (.object "java/util/Map")) (by decide +kernel) rfl rfl (g := (mkF m 6 #[.val (.ref a), .val (.ref em), .val (.ref kc), .val (.ref el)] [(.ref em), (.ref a)])) rfl rfl (hb hby d5_6)
  have f12_0 := F.same W12
  have f12_1 := G.other W12 (Or.inr (slot_ne (Or.inr (hw _ (List.mem_of_getElem? (i := 32) rfl))) (Or.inr (hw _ (List.mem_of_getElem? (i := 30) rfl))) (by decide) (t := (.array .byte)) (t' := (.object "java/util/Map")) (by decide +kernel) (by decide +kernel)))
  have f12_2 := H.other W12 (Or.inr (slot_ne (Or.inr (hw _ (List.mem_of_getElem? (i := 34) rfl))) (Or.inr (hw _ (List.mem_of_getElem? (i := 30) rfl))) (by decide) (t := (.object "java/util/List")) (t' := (.object "java/util/Map")) (by decide +kernel) (by decide +kernel)))
  have f12_3 := E.wr W12
  have Z12 : n0 ≤ h12.size := by rw [W12.size]; exact Z0
  have N12 := Fr.snoc X12 N0 ga
  have K12 := KK.wr W12 (Or.inl (by simp))
  refine own_go st12 ?_
  show own_E _ _ _ _ _ _ _ (T12.setTop (mkF m 9 #[.val (.ref a), .val (.ref em), .val (.ref kc), .val (.ref el)] []))
  refine own_go (fun _ k => XS.aloadN X12.here hx rfl (hb hby d5_9) rfl rfl k) ?_
  show own_E _ _ _ _ _ _ _ (T12.setTop (mkF m 10 #[.val (.ref a), .val (.ref em), .val (.ref kc), .val (.ref el)] [(.ref a)]))
  refine own_go (fun _ k => XS.aloadN X12.here hx rfl (hb hby d5_10) rfl rfl k) ?_
  show own_E _ _ _ _ _ _ _ (T12.setTop (mkF m 11 #[.val (.ref a), .val (.ref em), .val (.ref kc), .val (.ref el)] [(.ref kc), (.ref a)]))
  obtain ⟨T13, h13, X13, e13, W13, st13⟩ := putF X12 hx hZ hown (host := "") (Or.inl (hw _ (List.mem_of_getElem? (i := 31) rfl))) Via.refl e12 f12_1 f12_3 (Or.inr ⟨(hw _ (List.mem_of_getElem? (i := 32) rfl)), rfl, hnm⟩) (hw _ (List.mem_of_getElem? (i := 2) rfl)) (ty := (.array .byte)) (by decide +kernel) rfl rfl (g := (mkF m 11 #[.val (.ref a), .val (.ref em), .val (.ref kc), .val (.ref el)] [(.ref kc), (.ref a)])) rfl rfl (hb hby d5_11)
  have f13_0 := f12_0.other W13 (Or.inr (slot_ne (Or.inr (hw _ (List.mem_of_getElem? (i := 30) rfl))) (Or.inr (hw _ (List.mem_of_getElem? (i := 32) rfl))) (by decide) (t := (.object "java/util/Map")) (t' := (.array .byte)) (by decide +kernel) (by decide +kernel)))
  have f13_1 := f12_1.same W13
  have f13_2 := f12_2.other W13 (Or.inr (slot_ne (Or.inr (hw _ (List.mem_of_getElem? (i := 34) rfl))) (Or.inr (hw _ (List.mem_of_getElem? (i := 32) rfl))) (by decide) (t := (.object "java/util/List")) (t' := (.array .byte)) (by decide +kernel) (by decide +kernel)))
  have f13_3 := f12_3.wr W13
  have Z13 : n0 ≤ h13.size := by rw [W13.size]; exact Z12
  have N13 := Fr.snoc X13 N12 ga
  have K13 := K12.wr W13 (Or.inl (by simp))
  refine own_go st13 ?_
  show own_E _ _ _ _ _ _ _ (T13.setTop (mkF m 14 #[.val (.ref a), .val (.ref em), .val (.ref kc), .val (.ref el)] []))
  refine own_go (fun _ k => XS.aloadN X13.here hx rfl (hb hby d5_14) rfl rfl k) ?_
  show own_E _ _ _ _ _ _ _ (T13.setTop (mkF m 15 #[.val (.ref a), .val (.ref em), .val (.ref kc), .val (.ref el)] [(.ref a)]))
  refine own_go (fun _ k => XS.aloadN X13.here hx rfl (hb hby d5_15) rfl rfl k) ?_
  show own_E _ _ _ _ _ _ _ (T13.setTop (mkF m 16 #[.val (.ref a), .val (.ref em), .val (.ref kc), .val (.ref el)] [(.ref el), (.ref a)]))
  obtain ⟨T14, h14, X14, e14, W14, st14⟩ := putF X13 hx hZ hown (host := "") (Or.inl (hw _ (List.mem_of_getElem? (i := 33) rfl))) Via.refl e13 f13_2 f13_3 (Or.inr ⟨(hw _ (List.mem_of_getElem? (i := 34) rfl)), rfl, hnm⟩) (hw _ (List.mem_of_getElem? (i := 2) rfl)) (ty := (.object "java/util/List")) (by decide +kernel) rfl rfl (g := (mkF m 16 #[.val (.ref a), .val (.ref em), .val (.ref kc), .val (.ref el)] [(.ref el), (.ref a)])) rfl rfl (hb hby d5_16)
  have f14_0 := f13_0.other W14 (Or.inr (slot_ne (Or.inr (hw _ (List.mem_of_getElem? (i := 30) rfl))) (Or.inr (hw _ (List.mem_of_getElem? (i := 34) rfl))) (by decide) (t := (.object "java/util/Map")) (t' := (.object "java/util/List")) (by decide +kernel) (by decide +kernel)))
  have f14_1 := f13_1.other W14 (Or.inr (slot_ne (Or.inr (hw _ (List.mem_of_getElem? (i := 32) rfl))) (Or.inr (hw _ (List.mem_of_getElem? (i := 34) rfl))) (by decide) (t := (.array .byte)) (t' := (.object "java/util/List")) (by decide +kernel) (by decide +kernel)))
  have f14_2 := f13_2.same W14
  have f14_3 := f13_3.wr W14
  have Z14 : n0 ≤ h14.size := by rw [W14.size]; exact Z13
  have N14 := Fr.snoc X14 N13 ga
  have K14 := K13.wr W14 (Or.inl (by simp))
  refine own_go st14 ?_
  show own_E _ _ _ _ _ _ _ (T14.setTop (mkF m 19 #[.val (.ref a), .val (.ref em), .val (.ref kc), .val (.ref el)] []))
  exact own_ret0 X14 hx Bd.returns Bd.notSynchronized (hb hby d5_19) (by rw [e14]; exact ⟨rfl, N14, K14, f14_3, f14_0, f14_1, f14_2⟩) (by decide) (by decide)
theorem d2_0 : decode prog_33_method_1_code 0 = .ok (.aload_n 0, 1) := by decide +kernel
theorem d2_1 : decode prog_33_method_1_code 1 = .ok (.aload_n 1, 1) := by decide +kernel
theorem d2_2 : decode prog_33_method_1_code 2 = .ok (.invokestatic 1, 3) := by decide +kernel
theorem d2_5 : decode prog_33_method_1_code 5 = .ok (.aconst_null, 1) := by decide +kernel
theorem d2_6 : decode prog_33_method_1_code 6 = .ok (.invokestatic 7, 3) := by decide +kernel
theorem d2_9 : decode prog_33_method_1_code 9 = .ok (.invokespecial 13, 3) := by decide +kernel
theorem d2_12 : decode prog_33_method_1_code 12 = .ok (.return_, 1) := by decide +kernel
def Qrm2 (a : Addr) (em : Addr) (el : Addr) (Z : State) (h0 : Heap) (n0 : Nat) (v : Option Value) (h : Heap) (L : List Loc) : Prop := v = none ∧ Fr n0 L ∧ Keep h0 h [a] ∧ Exa Z h a "com/example/arborkey/arborkey/EncryptionMaterials" ∧ Fld Z h a "com/example/arborkey/arborkey/EncryptionMaterials" "encryptionContext" "Ljava/util/Map;" (.ref em) ∧ Fld Z h a "com/example/arborkey/arborkey/EncryptionMaterials" "dataKey" "[B" .null ∧ Fld Z h a "com/example/arborkey/arborkey/EncryptionMaterials" "wrappedKeys" "Ljava/util/List;" (.ref el)
set_option maxRecDepth 65536 in
set_option maxHeartbeats 40000000 in
theorem rm2 (l : Launch) (Z : State) (a0 : Array Value) (hw : ∀ d ∈ tables_1, d.before a0 Z = true) (a : Addr) (em : Addr) (el : Addr) (h0 : Heap) (n0 : Nat) (Z0 : n0 ≤ h0.size) (E : Exa Z h0 a "com/example/arborkey/arborkey/EncryptionMaterials") (F : Fld Z h0 a "com/example/arborkey/arborkey/EncryptionMaterials" "encryptionContext" "Ljava/util/Map;" .null) (G : Fld Z h0 a "com/example/arborkey/arborkey/EncryptionMaterials" "dataKey" "[B" .null) (H : Fld Z h0 a "com/example/arborkey/arborkey/EncryptionMaterials" "wrappedKeys" "Ljava/util/List;" .null) (ga : n0 ≤ a) (EM : Exa Z h0 em "java/util/ImmutableCollections$MapN") (SL : Sta Z h0 "java/util/ImmutableCollections" "EMPTY_LIST" "Ljava/util/ImmutableCollections$ListN;" (.ref el)) :
    MetFree l (⟨"com/example/arborkey/arborkey/EncryptionMaterials", "<init>", "(Ljava/util/Map;)V"⟩ : MethodName) (head1 (Jvm.Cond.code (⟨"com/example/arborkey/arborkey/EncryptionMaterials", "<init>", "(Ljava/util/Map;)V"⟩ : MethodName) prog_33_method_1_code 2 none :: []) ({ frames := 2, cells := 0, slots := 0, locals := 28 } : Room)) (fun ar_ U => ar_ = #[(.ref a), (.ref em)] ∧ Z.Warmed39 U.vm ∧ U.heap = h0) (fun _ _ _ _ _ => True) (fun _ U o U' => ∃ v L, o = .returned v ∧ Qrm2 a em el Z h0 n0 v U'.heap L ∧ FrameEnd U o U' L ({ frames := 2, cells := 0, slots := 0, locals := 28 } : Room).cells ({ frames := 2, cells := 0, slots := 0, locals := 28 } : Room).slots) := by
  refine MetFree.of_bodySF (plainFor_of_name (by first | (simp [plainName, overriddenIn]; done) | decide +kernel)) hisR ?_
  intro p e s m args below meth c s₁ Bd hml0 hP hK
  obtain ⟨rfl, hZ, hh⟩ := hP
  have hx := Bd.exec
  have hby := Bd.bytes
  have hml : c.maxLocals = 2 := hml0
  have hown : s.vm.findClass "com/example/arborkey/arborkey/EncryptionMaterials" = some m.cls := findClass_of_methodNamed Bd.named
  have hnm := (name_of_methodNamed Bd.named Bd.method).1
  have X0 : Stand p l e ({ frames := 2, cells := 0, slots := 0, locals := 28 } : Room) s m #[(.ref a), (.ref em)] below meth c s₁ [] 0 0 := Stand.of_body Bd
  have e0 : s₁.heap = h0 := by rw [← hh, Bd.state]; rfl
  have N0 := Fr.nil n0
  show own_E p e below s (Qrm2 a em el Z h0 n0) ({ frames := 2, cells := 0, slots := 0, locals := 28 } : Room).cells ({ frames := 2, cells := 0, slots := 0, locals := 28 } : Room).slots (s₁.setTop (entryFrame m #[(.ref a), (.ref em)] 2))
  refine own_go (fun t k => castTop (show _ = (mkF m 0 #[.val (.ref a), .val (.ref em)] []) from by first | (simp [entryFrame, mkF, argsToLocals, Value.category]; done) | rfl) k) ?_
  show own_E _ _ _ _ _ _ _ (s₁.setTop (mkF m 0 #[.val (.ref a), .val (.ref em)] []))
  refine own_go (fun _ k => XS.aloadN X0.here hx rfl (hb hby d2_0) rfl rfl k) ?_
  show own_E _ _ _ _ _ _ _ (s₁.setTop (mkF m 1 #[.val (.ref a), .val (.ref em)] [(.ref a)]))
  refine own_go (fun _ k => XS.aloadN X0.here hx rfl (hb hby d2_1) rfl rfl k) ?_
  show own_E _ _ _ _ _ _ _ (s₁.setTop (mkF m 2 #[.val (.ref a), .val (.ref em)] [(.ref em), (.ref a)]))
  obtain ⟨v11, T11, L11, X11, hQ11, st11⟩ := own_callS X0 hx hZ (rm := ({ frames := 0, cells := 0, slots := 0, locals := 0 } : Room)) (W := 1) (argsL := [(.ref em)]) (rest := [(.ref a)]) (y := (⟨"java/util/Map", "copyOf", "(Ljava/util/Map;)Ljava/util/Map;"⟩ : MethodName)) hown (hw _ (List.mem_of_getElem? (i := 13) rfl)) (hw _ (List.mem_of_getElem? (i := 14) rfl)) (hw _ (List.mem_of_getElem? (i := 6) rfl)) (hw _ (List.mem_of_getElem? (i := 15) rfl)) (by decide) (rm3 l Z a0 hw em h0 n0 Z0 EM) e0 (by decide) (by decide) (by decide) (by decide) (g := (mkF m 2 #[.val (.ref a), .val (.ref em)] [(.ref em), (.ref a)])) rfl (by rw [hml]; rfl) (lenOf pd_0 rfl) rfl (Nat.le_of_ble_eq_true rfl) (hb hby d2_2)
  obtain ⟨rfl, N11, e11⟩ := hQ11
  refine own_go st11 ?_
  show own_E _ _ _ _ _ _ _ (T11.setTop (mkF m 5 #[.val (.ref a), .val (.ref em)] [(.ref em), (.ref a)]))
  have M11 := Fr.app N0 N11
  refine own_go (fun _ k => XS.aconstNull X11.here hx rfl (hb hby d2_5) k) ?_
  show own_E _ _ _ _ _ _ _ (T11.setTop (mkF m 6 #[.val (.ref a), .val (.ref em)] [.null, (.ref em), (.ref a)]))
  obtain ⟨v12, T12, L12, X12, hQ12, st12⟩ := own_callS X11 hx hZ (rm := ({ frames := 0, cells := 0, slots := 0, locals := 0 } : Room)) (W := 3) (argsL := []) (rest := [.null, (.ref em), (.ref a)]) (y := (⟨"java/util/List", "of", "()Ljava/util/List;"⟩ : MethodName)) hown (hw _ (List.mem_of_getElem? (i := 18) rfl)) (hw _ (List.mem_of_getElem? (i := 19) rfl)) (hw _ (List.mem_of_getElem? (i := 20) rfl)) (hw _ (List.mem_of_getElem? (i := 21) rfl)) (by decide) (rm4 l Z a0 hw el h0 n0 Z0 SL) e11 (by decide) (by decide) (by decide) (by decide) (g := (mkF m 6 #[.val (.ref a), .val (.ref em)] [.null, (.ref em), (.ref a)])) rfl (by rw [hml]; rfl) (lenOf pd_1 rfl) rfl (Nat.le_of_ble_eq_true rfl) (hb hby d2_6)
  obtain ⟨rfl, N12, e12⟩ := hQ12
  refine own_go st12 ?_
  show own_E _ _ _ _ _ _ _ (T12.setTop (mkF m 9 #[.val (.ref a), .val (.ref em)] [(.ref el), .null, (.ref em), (.ref a)]))
  have M12 := Fr.app M11 N12
  obtain ⟨v13, T13, L13, X13, hQ13, st13⟩ := own_callI X12 hx hZ (rm := ({ frames := 1, cells := 0, slots := 0, locals := 12 } : Room)) (W := 0) (b := a) (argsL := [(.ref em), .null, (.ref el)]) (rest := []) (y := (⟨"com/example/arborkey/arborkey/EncryptionMaterials", "<init>", "(Ljava/util/Map;[BLjava/util/List;)V"⟩ : MethodName)) hown rfl (hw _ (List.mem_of_getElem? (i := 23) rfl)) (hw _ (List.mem_of_getElem? (i := 24) rfl)) (hw _ (List.mem_of_getElem? (i := 3) rfl)) (hw _ (List.mem_of_getElem? (i := 25) rfl)) (by decide) (rmCN l Z a0 hw a em el h0 n0 Z0 E F G H ga) e12 (by decide) (by decide) (by decide) (by decide) (g := (mkF m 9 #[.val (.ref a), .val (.ref em)] [(.ref el), .null, (.ref em), (.ref a)])) rfl (by rw [hml]; rfl) (lenOf pd_2 rfl) rfl (Nat.le_of_ble_eq_true rfl) (hb hby d2_9)
  obtain ⟨rfl, N13, RR⟩ := hQ13
  refine own_go st13 ?_
  show own_E _ _ _ _ _ _ _ (T13.setTop (mkF m 12 #[.val (.ref a), .val (.ref em)] []))
  have e13 : T13.heap = T13.heap := rfl
  exact own_ret0 X13 hx Bd.returns Bd.notSynchronized (hb hby d2_12) (by rw [e13]; exact ⟨rfl, Fr.app M12 N13, RR⟩) (by decide) (by decide)
theorem d7_0 : decode prog_33_method_4_code 0 = .ok (.aload_n 0, 1) := by decide +kernel
theorem d7_1 : decode prog_33_method_4_code 1 = .ok (.getfield 28, 3) := by decide +kernel
theorem d7_4 : decode prog_33_method_4_code 4 = .ok (.ifnonnull 7, 3) := by decide +kernel
theorem d7_7 : decode prog_33_method_4_code 7 = .ok (.aconst_null, 1) := by decide +kernel
theorem d7_8 : decode prog_33_method_4_code 8 = .ok (.goto 13, 3) := by decide +kernel
theorem d7_11 : decode prog_33_method_4_code 11 = .ok (.aload_n 0, 1) := by decide +kernel
theorem d7_12 : decode prog_33_method_4_code 12 = .ok (.getfield 28, 3) := by decide +kernel
theorem d7_15 : decode prog_33_method_4_code 15 = .ok (.invokevirtual 36, 3) := by decide +kernel
theorem d7_18 : decode prog_33_method_4_code 18 = .ok (.checkcast 37, 3) := by decide +kernel
theorem d7_21 : decode prog_33_method_4_code 21 = .ok (.areturn, 1) := by decide +kernel
def QrmDN (a : Addr) (Z : State) (h0 : Heap) (n0 : Nat) (v : Option Value) (h : Heap) (L : List Loc) : Prop := v = some .null ∧ Fr n0 L ∧ h = h0
set_option maxRecDepth 65536 in
set_option maxHeartbeats 40000000 in
theorem rmDN (l : Launch) (Z : State) (a0 : Array Value) (hw : ∀ d ∈ tables_1, d.before a0 Z = true) (a : Addr) (h0 : Heap) (n0 : Nat) (Z0 : n0 ≤ h0.size) (F : Fld Z h0 a "com/example/arborkey/arborkey/EncryptionMaterials" "dataKey" "[B" .null) :
    MetFree l (⟨"com/example/arborkey/arborkey/EncryptionMaterials", "dataKey", "()[B"⟩ : MethodName) (head1 (Jvm.Cond.code (⟨"com/example/arborkey/arborkey/EncryptionMaterials", "dataKey", "()[B"⟩ : MethodName) prog_33_method_4_code 1 (some (.array .byte)) :: []) ({ frames := 1, cells := 1, slots := 3, locals := 14 } : Room)) (fun ar_ U => ar_ = #[(.ref a)] ∧ Z.Warmed39 U.vm ∧ U.heap = h0) (fun _ _ _ _ _ => True) (fun _ U o U' => ∃ v L, o = .returned v ∧ QrmDN a Z h0 n0 v U'.heap L ∧ FrameEnd U o U' L ({ frames := 1, cells := 1, slots := 3, locals := 14 } : Room).cells ({ frames := 1, cells := 1, slots := 3, locals := 14 } : Room).slots) := by
  refine MetFree.of_bodySF (plainFor_of_name (by first | (simp [plainName, overriddenIn]; done) | decide +kernel)) hisR ?_
  intro p e s m args below meth c s₁ Bd hml0 hP hK
  obtain ⟨rfl, hZ, hh⟩ := hP
  have hx := Bd.exec
  have hby := Bd.bytes
  have hml : c.maxLocals = 1 := hml0
  have hown : s.vm.findClass "com/example/arborkey/arborkey/EncryptionMaterials" = some m.cls := findClass_of_methodNamed Bd.named
  have hnm := (name_of_methodNamed Bd.named Bd.method).1
  have X0 : Stand p l e ({ frames := 1, cells := 1, slots := 3, locals := 14 } : Room) s m #[(.ref a)] below meth c s₁ [] 0 0 := Stand.of_body Bd
  have e0 : s₁.heap = h0 := by rw [← hh, Bd.state]; rfl
  have N0 := Fr.nil n0
  show own_E p e below s (QrmDN a Z h0 n0) ({ frames := 1, cells := 1, slots := 3, locals := 14 } : Room).cells ({ frames := 1, cells := 1, slots := 3, locals := 14 } : Room).slots (s₁.setTop (entryFrame m #[(.ref a)] 1))
  refine own_go (fun t k => castTop (show _ = (mkF m 0 #[.val (.ref a)] []) from by first | (simp [entryFrame, mkF, argsToLocals, Value.category]; done) | rfl) k) ?_
  show own_E _ _ _ _ _ _ _ (s₁.setTop (mkF m 0 #[.val (.ref a)] []))
  refine own_go (fun _ k => XS.aloadN X0.here hx rfl (hb hby d7_0) rfl rfl k) ?_
  show own_E _ _ _ _ _ _ _ (s₁.setTop (mkF m 1 #[.val (.ref a)] [(.ref a)]))
  obtain ⟨T1, X1, e1, st1⟩ := getF X0 hx hZ hown (host := "") (Or.inl (hw _ (List.mem_of_getElem? (i := 31) rfl))) Via.refl e0 F (g := (mkF m 1 #[.val (.ref a)] [(.ref a)])) rfl rfl (hb hby d7_1)
  refine own_go st1 ?_
  show own_E _ _ _ _ _ _ _ (T1.setTop (mkF m 4 #[.val (.ref a)] [.null]))
  refine own_go (fun _ k => XT.ifnonnullNo X1.here hx rfl (hb hby d7_4) rfl k) ?_
  show own_E _ _ _ _ _ _ _ (T1.setTop (mkF m 7 #[.val (.ref a)] []))
  refine own_go (fun _ k => XS.aconstNull X1.here hx rfl (hb hby d7_7) k) ?_
  show own_E _ _ _ _ _ _ _ (T1.setTop (mkF m 8 #[.val (.ref a)] [.null]))
  refine own_go (fun _ k => XS.goto X1.here hx rfl (pc0 := 8) (pc' := 21) rfl (hb hby d7_8) (by decide) (by decide) k) ?_
  show own_E _ _ _ _ _ _ _ (T1.setTop (mkF m 21 #[.val (.ref a)] [.null]))
  exact own_ret X1 hx Bd.returns Bd.notSynchronized rfl (Or.inr (Or.inr (Or.inr (Or.inr ⟨rfl, rfl, rfl⟩)))) (hb hby d7_21) (by rw [e1]; exact ⟨rfl, N0, rfl⟩) (by decide) (by decide)
def QrmDK (a : Addr) (kc : Addr) (kA : ClassId) (z : Int32) (b0 : Int32) (b1 : Int32) (b2 : Int32) (Z : State) (h0 : Heap) (n0 : Nat) (v : Option Value) (h : Heap) (L : List Loc) : Prop := Fr n0 L ∧ Ext h0 h ∧ ∃ d, v = some (.ref d) ∧ Arv Z h d kA .byte z [.int b0, .int b1, .int b2] (.int 0) ∧ Exa Z h d "[B" ∧ h0.size ≤ d
set_option maxRecDepth 65536 in
set_option maxHeartbeats 40000000 in
theorem rmDK (l : Launch) (Z : State) (a0 : Array Value) (hw : ∀ d ∈ tables_1, d.before a0 Z = true) (a : Addr) (kc : Addr) (kA : ClassId) (z : Int32) (b0 : Int32) (b1 : Int32) (b2 : Int32) (h0 : Heap) (n0 : Nat) (Z0 : n0 ≤ h0.size) (hz : z.toNatClampNeg ≤ 3) (F : Fld Z h0 a "com/example/arborkey/arborkey/EncryptionMaterials" "dataKey" "[B" (.ref kc)) (V : Arv Z h0 kc kA .byte z [.int b0, .int b1, .int b2] (.int 0)) (EV : Exa Z h0 kc "[B") :
    MetFree l (⟨"com/example/arborkey/arborkey/EncryptionMaterials", "dataKey", "()[B"⟩ : MethodName) (head1 (Jvm.Cond.code (⟨"com/example/arborkey/arborkey/EncryptionMaterials", "dataKey", "()[B"⟩ : MethodName) prog_33_method_4_code 1 (some (.array .byte)) :: []) ({ frames := 1, cells := 1, slots := 3, locals := 14 } : Room)) (fun ar_ U => ar_ = #[(.ref a)] ∧ Z.Warmed39 U.vm ∧ U.heap = h0) (fun _ _ _ _ _ => True) (fun _ U o U' => ∃ v L, o = .returned v ∧ QrmDK a kc kA z b0 b1 b2 Z h0 n0 v U'.heap L ∧ FrameEnd U o U' L ({ frames := 1, cells := 1, slots := 3, locals := 14 } : Room).cells ({ frames := 1, cells := 1, slots := 3, locals := 14 } : Room).slots) := by
  refine MetFree.of_bodySF (plainFor_of_name (by first | (simp [plainName, overriddenIn]; done) | decide +kernel)) hisR ?_
  intro p e s m args below meth c s₁ Bd hml0 hP hK
  obtain ⟨rfl, hZ, hh⟩ := hP
  have hx := Bd.exec
  have hby := Bd.bytes
  have hml : c.maxLocals = 1 := hml0
  have hown : s.vm.findClass "com/example/arborkey/arborkey/EncryptionMaterials" = some m.cls := findClass_of_methodNamed Bd.named
  have hnm := (name_of_methodNamed Bd.named Bd.method).1
  have X0 : Stand p l e ({ frames := 1, cells := 1, slots := 3, locals := 14 } : Room) s m #[(.ref a)] below meth c s₁ [] 0 0 := Stand.of_body Bd
  have e0 : s₁.heap = h0 := by rw [← hh, Bd.state]; rfl
  have N0 := Fr.nil n0
  show own_E p e below s (QrmDK a kc kA z b0 b1 b2 Z h0 n0) ({ frames := 1, cells := 1, slots := 3, locals := 14 } : Room).cells ({ frames := 1, cells := 1, slots := 3, locals := 14 } : Room).slots (s₁.setTop (entryFrame m #[(.ref a)] 1))
  refine own_go (fun t k => castTop (show _ = (mkF m 0 #[.val (.ref a)] []) from by first | (simp [entryFrame, mkF, argsToLocals, Value.category]; done) | rfl) k) ?_
  show own_E _ _ _ _ _ _ _ (s₁.setTop (mkF m 0 #[.val (.ref a)] []))
  refine own_go (fun _ k => XS.aloadN X0.here hx rfl (hb hby d7_0) rfl rfl k) ?_
  show own_E _ _ _ _ _ _ _ (s₁.setTop (mkF m 1 #[.val (.ref a)] [(.ref a)]))
  obtain ⟨T11, X11, e11, st11⟩ := getF X0 hx hZ hown (host := "") (Or.inl (hw _ (List.mem_of_getElem? (i := 31) rfl))) Via.refl e0 F (g := (mkF m 1 #[.val (.ref a)] [(.ref a)])) rfl rfl (hb hby d7_1)
  refine own_go st11 ?_
  show own_E _ _ _ _ _ _ _ (T11.setTop (mkF m 4 #[.val (.ref a)] [(.ref kc)]))
  refine own_go (fun _ k => XT.ifnonnullYes X11.here hx rfl (pc0 := 4) (pc' := 11) rfl (hb hby d7_4) rfl (by decide) (by decide) k) ?_
  show own_E _ _ _ _ _ _ _ (T11.setTop (mkF m 11 #[.val (.ref a)] []))
  refine own_go (fun _ k => XS.aloadN X11.here hx rfl (hb hby d7_11) rfl rfl k) ?_
  show own_E _ _ _ _ _ _ _ (T11.setTop (mkF m 12 #[.val (.ref a)] [(.ref a)]))
  obtain ⟨T12, X12, e12, st12⟩ := getF X11 hx hZ hown (host := "") (Or.inl (hw _ (List.mem_of_getElem? (i := 31) rfl))) Via.refl e11 F (g := (mkF m 12 #[.val (.ref a)] [(.ref a)])) rfl rfl (hb hby d7_12)
  refine own_go st12 ?_
  show own_E _ _ _ _ _ _ _ (T12.setTop (mkF m 15 #[.val (.ref a)] [(.ref kc)]))
  obtain ⟨T13, h13, X13, e13, E13, v13, B13, st13⟩ := own_clone X12 hx hZ hown (hw _ (List.mem_of_getElem? (i := 46) rfl)) (hw _ (List.mem_of_getElem? (i := 47) rfl)) (hw _ (List.mem_of_getElem? (i := 51) rfl)) (hw _ (List.mem_of_getElem? (i := 49) rfl)) (hw _ (List.mem_of_getElem? (i := 50) rfl)) (hw _ (List.mem_of_getElem? (i := 52) rfl)) e12 V EV (g := (mkF m 15 #[.val (.ref a)] [(.ref kc)])) rfl (by rw [hml]; rfl) rfl (hb hby d7_15) (by decide) (W := 0) (cap := 3) (Nat.le_of_ble_eq_true rfl) (by decide) hz (by decide) (by decide)
  obtain ⟨d, g13⟩ : ∃ z, z = h0.size := ⟨_, rfl⟩
  rw [← g13] at v13 B13 st13
  have ne13_1 : a ≠ d := by rw [g13]; exact Nat.ne_of_lt F.lt
  have ne13_2 : kc ≠ d := by rw [g13]; exact Nat.ne_of_lt V.lt
  have w13 : n0 ≤ d := by rw [g13]; exact Z0
  have f13_0 := F.ext E13
  have f13_1 := V.ext E13
  have f13_2 := EV.ext E13
  have Z13 := Nat.le_trans Z0 E13.1
  refine own_go st13 ?_
  show own_E _ _ _ _ _ _ _ (T13.setTop (mkF m 18 #[.val (.ref a)] [(.ref d)]))
  obtain ⟨T14, X14, e14, st14⟩ := castY X13 hx hZ hown (hw _ (List.mem_of_getElem? (i := 53) rfl)) e13 (Ins.self B13) (g := (mkF m 18 #[.val (.ref a)] [(.ref d)])) rfl rfl (hb hby d7_18)
  refine own_go st14 ?_
  show own_E _ _ _ _ _ _ _ (T14.setTop (mkF m 21 #[.val (.ref a)] [(.ref d)]))
  exact own_ret X14 hx Bd.returns Bd.notSynchronized rfl (Or.inr (Or.inr (Or.inr (Or.inr ⟨rfl, rfl, rfl⟩)))) (hb hby d7_21) (by rw [e14]; exact ⟨N0, E13, _, rfl, v13, B13, Nat.le_of_eq g13.symm⟩) (by decide) (by decide)
theorem d8_0 : decode prog_33_method_6_code 0 = .ok (.new 14, 3) := by decide +kernel
theorem d8_3 : decode prog_33_method_6_code 3 = .ok (.dup, 1) := by decide +kernel
theorem d8_4 : decode prog_33_method_6_code 4 = .ok (.aload_n 0, 1) := by decide +kernel
theorem d8_5 : decode prog_33_method_6_code 5 = .ok (.getfield 24, 3) := by decide +kernel
theorem d8_8 : decode prog_33_method_6_code 8 = .ok (.aload_n 1, 1) := by decide +kernel
theorem d8_9 : decode prog_33_method_6_code 9 = .ok (.invokevirtual 36, 3) := by decide +kernel
theorem d8_12 : decode prog_33_method_6_code 12 = .ok (.checkcast 37, 3) := by decide +kernel
theorem d8_15 : decode prog_33_method_6_code 15 = .ok (.aload_n 0, 1) := by decide +kernel
theorem d8_16 : decode prog_33_method_6_code 16 = .ok (.getfield 32, 3) := by decide +kernel
theorem d8_19 : decode prog_33_method_6_code 19 = .ok (.invokespecial 13, 3) := by decide +kernel
theorem d8_22 : decode prog_33_method_6_code 22 = .ok (.areturn, 1) := by decide +kernel
def Qrm8 (a : Addr) (ar : Addr) (kA : ClassId) (z : Int32) (b0 : Int32) (b1 : Int32) (b2 : Int32) (em : Addr) (el : Addr) (Z : State) (h0 : Heap) (n0 : Nat) (v : Option Value) (h : Heap) (L : List Loc) : Prop := Fr n0 L ∧ Keep h0 h [] ∧ ∃ x c, v = some (.ref x) ∧ h0.size ≤ x ∧ h0.size ≤ c ∧ x ≠ c ∧ Exa Z h x "com/example/arborkey/arborkey/EncryptionMaterials" ∧ Fld Z h x "com/example/arborkey/arborkey/EncryptionMaterials" "encryptionContext" "Ljava/util/Map;" (.ref em) ∧ Fld Z h x "com/example/arborkey/arborkey/EncryptionMaterials" "wrappedKeys" "Ljava/util/List;" (.ref el) ∧ Fld Z h x "com/example/arborkey/arborkey/EncryptionMaterials" "dataKey" "[B" (.ref c) ∧ Arv Z h c kA .byte z [.int b0, .int b1, .int b2] (.int 0) ∧ Exa Z h c "[B"
set_option maxRecDepth 65536 in
set_option maxHeartbeats 40000000 in
theorem rm8 (l : Launch) (Z : State) (a0 : Array Value) (hw : ∀ d ∈ tables_1, d.before a0 Z = true) (a : Addr) (ar : Addr) (kA : ClassId) (z : Int32) (b0 : Int32) (b1 : Int32) (b2 : Int32) (em : Addr) (el : Addr) (h0 : Heap) (n0 : Nat) (Z0 : n0 ≤ h0.size) (hz : z.toNatClampNeg ≤ 3) (F : Fld Z h0 a "com/example/arborkey/arborkey/EncryptionMaterials" "encryptionContext" "Ljava/util/Map;" (.ref em)) (H : Fld Z h0 a "com/example/arborkey/arborkey/EncryptionMaterials" "wrappedKeys" "Ljava/util/List;" (.ref el)) (V : Arv Z h0 ar kA .byte z [.int b0, .int b1, .int b2] (.int 0)) (EV : Exa Z h0 ar "[B") :
    MetFree l (⟨"com/example/arborkey/arborkey/EncryptionMaterials", "withDataKey", "([B)Lcom/example/arborkey/arborkey/EncryptionMaterials;"⟩ : MethodName) (head1 (Jvm.Cond.code (⟨"com/example/arborkey/arborkey/EncryptionMaterials", "withDataKey", "([B)Lcom/example/arborkey/arborkey/EncryptionMaterials;"⟩ : MethodName) prog_33_method_6_code 2 (some (.object "com/example/arborkey/arborkey/EncryptionMaterials")) :: []) ({ frames := 2, cells := 2, slots := 6, locals := 32 } : Room)) (fun ar_ U => ar_ = #[(.ref a), (.ref ar)] ∧ Z.Warmed39 U.vm ∧ U.heap = h0) (fun _ _ _ _ _ => True) (fun _ U o U' => ∃ v L, o = .returned v ∧ Qrm8 a ar kA z b0 b1 b2 em el Z h0 n0 v U'.heap L ∧ FrameEnd U o U' L ({ frames := 2, cells := 2, slots := 6, locals := 32 } : Room).cells ({ frames := 2, cells := 2, slots := 6, locals := 32 } : Room).slots) := by
  refine MetFree.of_bodySF (plainFor_of_name (by first | (simp [plainName, overriddenIn]; done) | decide +kernel)) hisR ?_
  intro p e s m args below meth c s₁ Bd hml0 hP hK
  obtain ⟨rfl, hZ, hh⟩ := hP
  have hx := Bd.exec
  have hby := Bd.bytes
  have hml : c.maxLocals = 2 := hml0
  have hown : s.vm.findClass "com/example/arborkey/arborkey/EncryptionMaterials" = some m.cls := findClass_of_methodNamed Bd.named
  have hnm := (name_of_methodNamed Bd.named Bd.method).1
  have X0 : Stand p l e ({ frames := 2, cells := 2, slots := 6, locals := 32 } : Room) s m #[(.ref a), (.ref ar)] below meth c s₁ [] 0 0 := Stand.of_body Bd
  have e0 : s₁.heap = h0 := by rw [← hh, Bd.state]; rfl
  have N0 := Fr.nil n0
  show own_E p e below s (Qrm8 a ar kA z b0 b1 b2 em el Z h0 n0) ({ frames := 2, cells := 2, slots := 6, locals := 32 } : Room).cells ({ frames := 2, cells := 2, slots := 6, locals := 32 } : Room).slots (s₁.setTop (entryFrame m #[(.ref a), (.ref ar)] 2))
  refine own_go (fun t k => castTop (show _ = (mkF m 0 #[.val (.ref a), .val (.ref ar)] []) from by first | (simp [entryFrame, mkF, argsToLocals, Value.category]; done) | rfl) k) ?_
  show own_E _ _ _ _ _ _ _ (s₁.setTop (mkF m 0 #[.val (.ref a), .val (.ref ar)] []))
  have KK := Keep.refl h0 []
  obtain ⟨T11, h11, X11, e11, E11, A11, D11, -, st11⟩ := newO X0 hx hZ hown (hw _ (List.mem_of_getElem? (i := 45) rfl)) (hw _ (List.mem_of_getElem? (i := 2) rfl)) (hw _ (List.mem_of_getElem? (i := 3) rfl)) e0 (g := (mkF m 0 #[.val (.ref a), .val (.ref ar)] [])) rfl (hb hby d8_0) (by decide) (by decide)
  obtain ⟨ax, g11⟩ : ∃ z, z = h0.size := ⟨_, rfl⟩
  rw [← g11] at A11 D11 st11
  have ne11_1 : a ≠ ax := by rw [g11]; exact Nat.ne_of_lt F.lt
  have ne11_2 : ar ≠ ax := by rw [g11]; exact Nat.ne_of_lt V.lt
  have w11 : n0 ≤ ax := by rw [g11]; exact Z0
  have kz11 : h0.size ≤ ax := by rw [g11]; exact KK.1
  have f11_encryptionContext : Fld Z h11 ax "com/example/arborkey/arborkey/EncryptionMaterials" "encryptionContext" "Ljava/util/Map;" .null := D11 (Or.inr (hw _ (List.mem_of_getElem? (i := 30) rfl))) (ty := (.object "java/util/Map")) (by decide +kernel)
  have f11_dataKey : Fld Z h11 ax "com/example/arborkey/arborkey/EncryptionMaterials" "dataKey" "[B" .null := D11 (Or.inr (hw _ (List.mem_of_getElem? (i := 32) rfl))) (ty := (.array .byte)) (by decide +kernel)
  have f11_wrappedKeys : Fld Z h11 ax "com/example/arborkey/arborkey/EncryptionMaterials" "wrappedKeys" "Ljava/util/List;" .null := D11 (Or.inr (hw _ (List.mem_of_getElem? (i := 34) rfl))) (ty := (.object "java/util/List")) (by decide +kernel)
  have f11_0 := F.ext E11
  have f11_1 := H.ext E11
  have f11_2 := V.ext E11
  have f11_3 := EV.ext E11
  have K11 := KK.ext E11
  have Z11 := Nat.le_trans Z0 E11.1
  refine own_go st11 ?_
  show own_E _ _ _ _ _ _ _ (T11.setTop (mkF m 3 #[.val (.ref a), .val (.ref ar)] [(.ref ax)]))
  refine own_go (fun _ k => XS.dup X11.here hx rfl (hb hby d8_3) rfl rfl k) ?_
  show own_E _ _ _ _ _ _ _ (T11.setTop (mkF m 4 #[.val (.ref a), .val (.ref ar)] [(.ref ax), (.ref ax)]))
  refine own_go (fun _ k => XS.aloadN X11.here hx rfl (hb hby d8_4) rfl rfl k) ?_
  show own_E _ _ _ _ _ _ _ (T11.setTop (mkF m 5 #[.val (.ref a), .val (.ref ar)] [(.ref a), (.ref ax), (.ref ax)]))
  obtain ⟨T12, X12, e12, st12⟩ := getF X11 hx hZ hown (host := "") (Or.inl (hw _ (List.mem_of_getElem? (i := 29) rfl))) Via.refl e11 f11_0 (g := (mkF m 5 #[.val (.ref a), .val (.ref ar)] [(.ref a), (.ref ax), (.ref ax)])) rfl rfl (hb hby d8_5)
  refine own_go st12 ?_
  show own_E _ _ _ _ _ _ _ (T12.setTop (mkF m 8 #[.val (.ref a), .val (.ref ar)] [(.ref em), (.ref ax), (.ref ax)]))
  refine own_go (fun _ k => XS.aloadN X12.here hx rfl (hb hby d8_8) rfl rfl k) ?_
  show own_E _ _ _ _ _ _ _ (T12.setTop (mkF m 9 #[.val (.ref a), .val (.ref ar)] [(.ref ar), (.ref em), (.ref ax), (.ref ax)]))
  obtain ⟨T13, h13, X13, e13, E13, v13, B13, st13⟩ := own_clone X12 hx hZ hown (hw _ (List.mem_of_getElem? (i := 46) rfl)) (hw _ (List.mem_of_getElem? (i := 47) rfl)) (hw _ (List.mem_of_getElem? (i := 51) rfl)) (hw _ (List.mem_of_getElem? (i := 49) rfl)) (hw _ (List.mem_of_getElem? (i := 50) rfl)) (hw _ (List.mem_of_getElem? (i := 52) rfl)) e12 f11_2 f11_3 (g := (mkF m 9 #[.val (.ref a), .val (.ref ar)] [(.ref ar), (.ref em), (.ref ax), (.ref ax)])) rfl (by rw [hml]; rfl) rfl (hb hby d8_9) (by decide) (W := 3) (cap := 3) (Nat.le_of_ble_eq_true rfl) (by decide) hz (by decide) (by decide)
  obtain ⟨ac, g13⟩ : ∃ z, z = h11.size := ⟨_, rfl⟩
  rw [← g13] at v13 B13 st13
  have ne13_1 : a ≠ ac := by rw [g13]; exact Nat.ne_of_lt f11_0.lt
  have ne13_2 : ar ≠ ac := by rw [g13]; exact Nat.ne_of_lt f11_2.lt
  have ne13_3 : ax ≠ ac := by rw [g13]; exact Nat.ne_of_lt f11_encryptionContext.lt
  have w13 : n0 ≤ ac := by rw [g13]; exact Z11
  have kz13 : h0.size ≤ ac := by rw [g13]; exact K11.1
  have f13_0 := f11_0.ext E13
  have f13_1 := f11_1.ext E13
  have f13_2 := f11_2.ext E13
  have f13_3 := f11_3.ext E13
  have f13_8 := f11_encryptionContext.ext E13
  have f13_9 := f11_dataKey.ext E13
  have f13_10 := f11_wrappedKeys.ext E13
  have f13_11 := A11.ext E13
  have K13 := K11.ext E13
  have Z13 := Nat.le_trans Z11 E13.1
  refine own_go st13 ?_
  show own_E _ _ _ _ _ _ _ (T13.setTop (mkF m 12 #[.val (.ref a), .val (.ref ar)] [(.ref ac), (.ref em), (.ref ax), (.ref ax)]))
  obtain ⟨T14, X14, e14, st14⟩ := castY X13 hx hZ hown (hw _ (List.mem_of_getElem? (i := 53) rfl)) e13 (Ins.self B13) (g := (mkF m 12 #[.val (.ref a), .val (.ref ar)] [(.ref ac), (.ref em), (.ref ax), (.ref ax)])) rfl rfl (hb hby d8_12)
  refine own_go st14 ?_
  show own_E _ _ _ _ _ _ _ (T14.setTop (mkF m 15 #[.val (.ref a), .val (.ref ar)] [(.ref ac), (.ref em), (.ref ax), (.ref ax)]))
  refine own_go (fun _ k => XS.aloadN X14.here hx rfl (hb hby d8_15) rfl rfl k) ?_
  show own_E _ _ _ _ _ _ _ (T14.setTop (mkF m 16 #[.val (.ref a), .val (.ref ar)] [(.ref a), (.ref ac), (.ref em), (.ref ax), (.ref ax)]))
  obtain ⟨T15, X15, e15, st15⟩ := getF X14 hx hZ hown (host := "") (Or.inl (hw _ (List.mem_of_getElem? (i := 33) rfl))) Via.refl e14 f13_1 (g := (mkF m 16 #[.val (.ref a), .val (.ref ar)] [(.ref a), (.ref ac), (.ref em), (.ref ax), (.ref ax)])) rfl rfl (hb hby d8_16)
  refine own_go st15 ?_
  show own_E _ _ _ _ _ _ _ (T15.setTop (mkF m 19 #[.val (.ref a), .val (.ref ar)] [(.ref el), (.ref ac), (.ref em), (.ref ax), (.ref ax)]))
  obtain ⟨v16, T16, L16, X16, hQ16, st16⟩ := own_callI X15 hx hZ (rm := ({ frames := 1, cells := 0, slots := 0, locals := 12 } : Room)) (W := 1) (b := ax) (argsL := [(.ref em), (.ref ac), (.ref el)]) (rest := [(.ref ax)]) (y := (⟨"com/example/arborkey/arborkey/EncryptionMaterials", "<init>", "(Ljava/util/Map;[BLjava/util/List;)V"⟩ : MethodName)) hown rfl (hw _ (List.mem_of_getElem? (i := 23) rfl)) (hw _ (List.mem_of_getElem? (i := 24) rfl)) (hw _ (List.mem_of_getElem? (i := 3) rfl)) (hw _ (List.mem_of_getElem? (i := 25) rfl)) (by decide) (rmCR l Z a0 hw ax em ac el h13 n0 Z13 f13_11 f13_8 f13_9 f13_10 w11) e15 (by decide) (by decide) (by decide) (by decide) (g := (mkF m 19 #[.val (.ref a), .val (.ref ar)] [(.ref el), (.ref ac), (.ref em), (.ref ax), (.ref ax)])) rfl (by rw [hml]; rfl) (lenOf pd_2 rfl) rfl (Nat.le_of_ble_eq_true rfl) (hb hby d8_19)
  obtain ⟨rfl, N16, K16, A16, F16, G16, H16⟩ := hQ16
  refine own_go st16 ?_
  show own_E _ _ _ _ _ _ _ (T16.setTop (mkF m 22 #[.val (.ref a), .val (.ref ar)] [(.ref ax)]))
  have M16 := Fr.app N0 N16
  have e16 : T16.heap = T16.heap := rfl
  have f16_0 := f13_0.keep K16 (ninS ne11_1 nin0)
  have f16_1 := f13_1.keep K16 (ninS ne11_1 nin0)
  have f16_2 := f13_2.keep K16 (ninS ne11_2 nin0)
  have f16_3 := f13_3.keep K16
  have f16_11 := f13_11.keep K16
  have f16_17 := v13.keep K16 (ninS ne13_3.symm nin0)
  have f16_18 := B13.keep K16
  have Z16 := Nat.le_trans Z13 K16.1
  have KK16 := K13.trans K16 (allS (Or.inr kz11) all0)
  exact own_ret X16 hx Bd.returns Bd.notSynchronized rfl (Or.inr (Or.inr (Or.inr (Or.inr ⟨rfl, rfl, rfl⟩)))) (hb hby d8_22) (by rw [e16]; exact ⟨M16, KK16, _, _, rfl, kz11, kz13, ne13_3, A16, F16, H16, G16, f16_17, f16_18⟩) (by decide) (by decide)
def Qrm0 (p0 : Int32) (p1 : Int32) (p2 : Int32) (em : Addr) (el : Addr) (Z : State) (h0 : Heap) (n0 : Nat) (v : Option Value) (h : Heap) (L : List Loc) : Prop := v = some (.int 1) ∧ Fr n0 L
set_option maxRecDepth 65536 in
set_option maxHeartbeats 40000000 in
theorem rm0 (l : Launch) (Z : State) (a0 : Array Value) (hw : ∀ d ∈ tables_1, d.before a0 Z = true) (ws : List Jvm.Cond) (p0 : Int32) (p1 : Int32) (p2 : Int32) (em : Addr) (el : Addr) (h0 : Heap) (n0 : Nat) (Z0 : n0 ≤ h0.size) (O0 : Old Z n0 h0) (SM : Sta Z Z.heap "java/util/ImmutableCollections" "EMPTY_MAP" "Ljava/util/ImmutableCollections$MapN;" (.ref em)) (EM : Exa Z Z.heap em "java/util/ImmutableCollections$MapN") (SL : Sta Z Z.heap "java/util/ImmutableCollections" "EMPTY_LIST" "Ljava/util/ImmutableCollections$ListN;" (.ref el)) :
    MetFree l x (head1 (Jvm.Cond.code x code maxLocals ret :: ws) room_1) (fun ar_ U => ar_ = #[(.int p0), (.int p1), (.int p2)] ∧ Z.Warmed39 U.vm ∧ U.heap = h0) (fun _ _ _ _ _ => True) (fun _ U o U' => ∃ v L, o = .returned v ∧ Qrm0 p0 p1 p2 em el Z h0 n0 v U'.heap L ∧ FrameEnd U o U' L room_1.cells room_1.slots) := by
  refine MetFree.of_bodySF (plainFor_of_name (by first | (simp [plainName, overriddenIn]; done) | decide +kernel)) hisR ?_
  intro p e s m args below meth c s₁ Bd hml0 hP hK
  obtain ⟨rfl, hZ, hh⟩ := hP
  have hx := Bd.exec
  have hby := Bd.bytes
  have hml : c.maxLocals = 11 := hml0
  have hown : s.vm.findClass "com/example/arborkey/arborkey/EncryptionMaterialsDataKeyPinLaw" = some m.cls := findClass_of_methodNamed Bd.named
  have hnm := (name_of_methodNamed Bd.named Bd.method).1
  have X0 : Stand p l e room_1 s m #[(.int p0), (.int p1), (.int p2)] below meth c s₁ [] 0 0 := Stand.of_body Bd
  have e0 : s₁.heap = h0 := by rw [← hh, Bd.state]; rfl
  have N0 := Fr.nil n0
  show own_E p e below s (Qrm0 p0 p1 p2 em el Z h0 n0) room_1.cells room_1.slots (s₁.setTop (entryFrame m #[(.int p0), (.int p1), (.int p2)] maxLocals))
  refine own_go (fun t k => castTop (show _ = (mkF m 0 #[.val (.int p0), .val (.int p1), .val (.int p2), .unset, .unset, .unset, .unset, .unset, .unset, .unset, .unset] []) from by first | (simp [entryFrame, mkF, argsToLocals, Value.category, maxLocals]; done) | rfl) k) ?_
  show own_E _ _ _ _ _ _ _ (s₁.setTop (mkF m 0 #[.val (.int p0), .val (.int p1), .val (.int p2), .unset, .unset, .unset, .unset, .unset, .unset, .unset, .unset] []))
  refine own_go (fun _ k => XS.iloadN X0.here hx rfl (hb hby at_0) rfl k) ?_
  show own_E _ _ _ _ _ _ _ (s₁.setTop (mkF m 1 #[.val (.int p0), .val (.int p1), .val (.int p2), .unset, .unset, .unset, .unset, .unset, .unset, .unset, .unset] [(.int p0)]))
  refine own_go (fun _ k => XT.i2b X0.here hx rfl (hb hby at_1) rfl k) ?_
  show own_E _ _ _ _ _ _ _ (s₁.setTop (mkF m 2 #[.val (.int p0), .val (.int p1), .val (.int p2), .unset, .unset, .unset, .unset, .unset, .unset, .unset, .unset] [(.int (p0).toInt8.toInt32)]))
  obtain ⟨b0, hb0⟩ : ∃ z, z = (p0).toInt8.toInt32 := ⟨_, rfl⟩
  rw [← hb0]
  have nb0 : nar .byte b0 = b0 := by rw [hb0]; exact own_nb _
  show own_E _ _ _ _ _ _ _ (s₁.setTop (mkF m 2 #[.val (.int p0), .val (.int p1), .val (.int p2), .unset, .unset, .unset, .unset, .unset, .unset, .unset, .unset] [(.int b0)]))
  refine own_go (fun _ k => XS.istoreN X0.here hx rfl (hb hby at_2) rfl (l' := #[.val (.int p0), .val (.int p1), .val (.int p2), .val (.int b0), .unset, .unset, .unset, .unset, .unset, .unset, .unset]) rfl k) ?_
  show own_E _ _ _ _ _ _ _ (s₁.setTop (mkF m 3 #[.val (.int p0), .val (.int p1), .val (.int p2), .val (.int b0), .unset, .unset, .unset, .unset, .unset, .unset, .unset] []))
  refine own_go (fun _ k => XS.iloadN X0.here hx rfl (hb hby at_3) rfl k) ?_
  show own_E _ _ _ _ _ _ _ (s₁.setTop (mkF m 4 #[.val (.int p0), .val (.int p1), .val (.int p2), .val (.int b0), .unset, .unset, .unset, .unset, .unset, .unset, .unset] [(.int p1)]))
  refine own_go (fun _ k => XT.i2b X0.here hx rfl (hb hby at_4) rfl k) ?_
  show own_E _ _ _ _ _ _ _ (s₁.setTop (mkF m 5 #[.val (.int p0), .val (.int p1), .val (.int p2), .val (.int b0), .unset, .unset, .unset, .unset, .unset, .unset, .unset] [(.int (p1).toInt8.toInt32)]))
  obtain ⟨b1, hb1⟩ : ∃ z, z = (p1).toInt8.toInt32 := ⟨_, rfl⟩
  rw [← hb1]
  have nb1 : nar .byte b1 = b1 := by rw [hb1]; exact own_nb _
  show own_E _ _ _ _ _ _ _ (s₁.setTop (mkF m 5 #[.val (.int p0), .val (.int p1), .val (.int p2), .val (.int b0), .unset, .unset, .unset, .unset, .unset, .unset, .unset] [(.int b1)]))
  refine own_go (fun _ k => XS.istore X0.here hx rfl (hb hby at_5) rfl (l' := #[.val (.int p0), .val (.int p1), .val (.int p2), .val (.int b0), .val (.int b1), .unset, .unset, .unset, .unset, .unset, .unset]) rfl k) ?_
  show own_E _ _ _ _ _ _ _ (s₁.setTop (mkF m 7 #[.val (.int p0), .val (.int p1), .val (.int p2), .val (.int b0), .val (.int b1), .unset, .unset, .unset, .unset, .unset, .unset] []))
  refine own_go (fun _ k => XS.iloadN X0.here hx rfl (hb hby at_7) rfl k) ?_
  show own_E _ _ _ _ _ _ _ (s₁.setTop (mkF m 8 #[.val (.int p0), .val (.int p1), .val (.int p2), .val (.int b0), .val (.int b1), .unset, .unset, .unset, .unset, .unset, .unset] [(.int p2)]))
  refine own_go (fun _ k => XT.i2b X0.here hx rfl (hb hby at_8) rfl k) ?_
  show own_E _ _ _ _ _ _ _ (s₁.setTop (mkF m 9 #[.val (.int p0), .val (.int p1), .val (.int p2), .val (.int b0), .val (.int b1), .unset, .unset, .unset, .unset, .unset, .unset] [(.int (p2).toInt8.toInt32)]))
  obtain ⟨b2, hb2⟩ : ∃ z, z = (p2).toInt8.toInt32 := ⟨_, rfl⟩
  rw [← hb2]
  have nb2 : nar .byte b2 = b2 := by rw [hb2]; exact own_nb _
  show own_E _ _ _ _ _ _ _ (s₁.setTop (mkF m 9 #[.val (.int p0), .val (.int p1), .val (.int p2), .val (.int b0), .val (.int b1), .unset, .unset, .unset, .unset, .unset, .unset] [(.int b2)]))
  refine own_go (fun _ k => XS.istore X0.here hx rfl (hb hby at_9) rfl (l' := #[.val (.int p0), .val (.int p1), .val (.int p2), .val (.int b0), .val (.int b1), .val (.int b2), .unset, .unset, .unset, .unset, .unset]) rfl k) ?_
  show own_E _ _ _ _ _ _ _ (s₁.setTop (mkF m 11 #[.val (.int p0), .val (.int p1), .val (.int p2), .val (.int b0), .val (.int b1), .val (.int b2), .unset, .unset, .unset, .unset, .unset] []))
  refine own_go (fun _ k => XT.iconstV X0.here hx rfl (3 : Int32) (hb hby at_11) (by decide) k) ?_
  show own_E _ _ _ _ _ _ _ (s₁.setTop (mkF m 12 #[.val (.int p0), .val (.int p1), .val (.int p2), .val (.int b0), .val (.int b1), .val (.int b2), .unset, .unset, .unset, .unset, .unset] [(.int (3 : Int32))]))
  obtain ⟨T101, h101, k101, X101, e101, E101, A101, B101, st101⟩ := newPE X0 hx hZ (hw _ (List.mem_of_getElem? (i := 0) rfl)) e0 (g := (mkF m 12 #[.val (.int p0), .val (.int p1), .val (.int p2), .val (.int b0), .val (.int b1), .val (.int b2), .unset, .unset, .unset, .unset, .unset] [(.int (3 : Int32))])) rfl (hb hby at_12) rfl (by decide) (cap := 3) (by decide) (by decide) (by decide) (by decide) (ad := "[B") (by decide)
  obtain ⟨ak, g101⟩ : ∃ z, z = h0.size := ⟨_, rfl⟩
  rw [← g101] at A101 B101 st101
  have ne101_1 : em ≠ ak := by rw [g101]; exact Nat.ne_of_lt (EM.ext O0.2).lt
  have w101 : n0 ≤ ak := by rw [g101]; exact Z0
  have v101 : Arv Z h101 ak k101 .byte (3 : Int32) [(.int 0), (.int 0), (.int 0)] (.int 0) := own_arvNew (n := 3) A101 (by decide)
  have O101 := O0.ext E101
  have Z101 := Nat.le_trans Z0 E101.1
  refine own_go st101 ?_
  show own_E _ _ _ _ _ _ _ (T101.setTop (mkF m 14 #[.val (.int p0), .val (.int p1), .val (.int p2), .val (.int b0), .val (.int b1), .val (.int b2), .unset, .unset, .unset, .unset, .unset] [(.ref ak)]))
  refine own_go (fun _ k => XS.dup X101.here hx rfl (hb hby at_14) rfl rfl k) ?_
  show own_E _ _ _ _ _ _ _ (T101.setTop (mkF m 15 #[.val (.int p0), .val (.int p1), .val (.int p2), .val (.int b0), .val (.int b1), .val (.int b2), .unset, .unset, .unset, .unset, .unset] [(.ref ak), (.ref ak)]))
  refine own_go (fun _ k => XT.iconstV X101.here hx rfl (0 : Int32) (hb hby at_15) (by decide) k) ?_
  show own_E _ _ _ _ _ _ _ (T101.setTop (mkF m 16 #[.val (.int p0), .val (.int p1), .val (.int p2), .val (.int b0), .val (.int b1), .val (.int b2), .unset, .unset, .unset, .unset, .unset] [(.int (0 : Int32)), (.ref ak), (.ref ak)]))
  refine own_go (fun _ k => XS.iloadN X101.here hx rfl (hb hby at_16) rfl k) ?_
  show own_E _ _ _ _ _ _ _ (T101.setTop (mkF m 17 #[.val (.int p0), .val (.int p1), .val (.int p2), .val (.int b0), .val (.int b1), .val (.int b2), .unset, .unset, .unset, .unset, .unset] [(.int b0), (.int (0 : Int32)), (.ref ak), (.ref ak)]))
  obtain ⟨T102, h102, X102, e102, W102, v102, st102⟩ := own_stB X101 hx hZ e101 v101 (j := (0 : Int32)) 0 (by decide) (by simp) (by decide) (g := (mkF m 17 #[.val (.int p0), .val (.int p1), .val (.int p2), .val (.int b0), .val (.int b1), .val (.int b2), .unset, .unset, .unset, .unset, .unset] [(.int b0), (.int (0 : Int32)), (.ref ak), (.ref ak)])) rfl rfl (hb hby at_17)
  rw [nb0] at v102
  replace v102 : Arv Z h102 ak k101 .byte (3 : Int32) [.int b0, (.int 0), (.int 0)] (.int 0) := v102
  have f102_3 := B101.wr W102
  have O102 := O101.wr W102 w101
  have Z102 : n0 ≤ h102.size := by rw [W102.size]; exact Z101
  have N102 := Fr.snoc X102 N0 w101
  refine own_go st102 ?_
  show own_E _ _ _ _ _ _ _ (T102.setTop (mkF m 18 #[.val (.int p0), .val (.int p1), .val (.int p2), .val (.int b0), .val (.int b1), .val (.int b2), .unset, .unset, .unset, .unset, .unset] [(.ref ak)]))
  refine own_go (fun _ k => XS.dup X102.here hx rfl (hb hby at_18) rfl rfl k) ?_
  show own_E _ _ _ _ _ _ _ (T102.setTop (mkF m 19 #[.val (.int p0), .val (.int p1), .val (.int p2), .val (.int b0), .val (.int b1), .val (.int b2), .unset, .unset, .unset, .unset, .unset] [(.ref ak), (.ref ak)]))
  refine own_go (fun _ k => XT.iconstV X102.here hx rfl (1 : Int32) (hb hby at_19) (by decide) k) ?_
  show own_E _ _ _ _ _ _ _ (T102.setTop (mkF m 20 #[.val (.int p0), .val (.int p1), .val (.int p2), .val (.int b0), .val (.int b1), .val (.int b2), .unset, .unset, .unset, .unset, .unset] [(.int (1 : Int32)), (.ref ak), (.ref ak)]))
  refine own_go (fun _ k => XS.iload X102.here hx rfl (hb hby at_20) rfl k) ?_
  show own_E _ _ _ _ _ _ _ (T102.setTop (mkF m 22 #[.val (.int p0), .val (.int p1), .val (.int p2), .val (.int b0), .val (.int b1), .val (.int b2), .unset, .unset, .unset, .unset, .unset] [(.int b1), (.int (1 : Int32)), (.ref ak), (.ref ak)]))
  obtain ⟨T103, h103, X103, e103, W103, v103, st103⟩ := own_stB X102 hx hZ e102 v102 (j := (1 : Int32)) 1 (by decide) (by simp) (by decide) (g := (mkF m 22 #[.val (.int p0), .val (.int p1), .val (.int p2), .val (.int b0), .val (.int b1), .val (.int b2), .unset, .unset, .unset, .unset, .unset] [(.int b1), (.int (1 : Int32)), (.ref ak), (.ref ak)])) rfl rfl (hb hby at_22)
  rw [nb1] at v103
  replace v103 : Arv Z h103 ak k101 .byte (3 : Int32) [.int b0, .int b1, (.int 0)] (.int 0) := v103
  have f103_3 := f102_3.wr W103
  have O103 := O102.wr W103 w101
  have Z103 : n0 ≤ h103.size := by rw [W103.size]; exact Z102
  have N103 := Fr.snoc X103 N102 w101
  refine own_go st103 ?_
  show own_E _ _ _ _ _ _ _ (T103.setTop (mkF m 23 #[.val (.int p0), .val (.int p1), .val (.int p2), .val (.int b0), .val (.int b1), .val (.int b2), .unset, .unset, .unset, .unset, .unset] [(.ref ak)]))
  refine own_go (fun _ k => XS.dup X103.here hx rfl (hb hby at_23) rfl rfl k) ?_
  show own_E _ _ _ _ _ _ _ (T103.setTop (mkF m 24 #[.val (.int p0), .val (.int p1), .val (.int p2), .val (.int b0), .val (.int b1), .val (.int b2), .unset, .unset, .unset, .unset, .unset] [(.ref ak), (.ref ak)]))
  refine own_go (fun _ k => XT.iconstV X103.here hx rfl (2 : Int32) (hb hby at_24) (by decide) k) ?_
  show own_E _ _ _ _ _ _ _ (T103.setTop (mkF m 25 #[.val (.int p0), .val (.int p1), .val (.int p2), .val (.int b0), .val (.int b1), .val (.int b2), .unset, .unset, .unset, .unset, .unset] [(.int (2 : Int32)), (.ref ak), (.ref ak)]))
  refine own_go (fun _ k => XS.iload X103.here hx rfl (hb hby at_25) rfl k) ?_
  show own_E _ _ _ _ _ _ _ (T103.setTop (mkF m 27 #[.val (.int p0), .val (.int p1), .val (.int p2), .val (.int b0), .val (.int b1), .val (.int b2), .unset, .unset, .unset, .unset, .unset] [(.int b2), (.int (2 : Int32)), (.ref ak), (.ref ak)]))
  obtain ⟨T104, h104, X104, e104, W104, v104, st104⟩ := own_stB X103 hx hZ e103 v103 (j := (2 : Int32)) 2 (by decide) (by simp) (by decide) (g := (mkF m 27 #[.val (.int p0), .val (.int p1), .val (.int p2), .val (.int b0), .val (.int b1), .val (.int b2), .unset, .unset, .unset, .unset, .unset] [(.int b2), (.int (2 : Int32)), (.ref ak), (.ref ak)])) rfl rfl (hb hby at_27)
  rw [nb2] at v104
  replace v104 : Arv Z h104 ak k101 .byte (3 : Int32) [.int b0, .int b1, .int b2] (.int 0) := v104
  have f104_3 := f103_3.wr W104
  have O104 := O103.wr W104 w101
  have Z104 : n0 ≤ h104.size := by rw [W104.size]; exact Z103
  have N104 := Fr.snoc X104 N103 w101
  refine own_go st104 ?_
  show own_E _ _ _ _ _ _ _ (T104.setTop (mkF m 28 #[.val (.int p0), .val (.int p1), .val (.int p2), .val (.int b0), .val (.int b1), .val (.int b2), .unset, .unset, .unset, .unset, .unset] [(.ref ak)]))
  refine own_go (fun _ k => XS.astore X104.here hx rfl (hb hby at_28) rfl rfl (l' := #[.val (.int p0), .val (.int p1), .val (.int p2), .val (.int b0), .val (.int b1), .val (.int b2), .val (.ref ak), .unset, .unset, .unset, .unset]) rfl k) ?_
  show own_E _ _ _ _ _ _ _ (T104.setTop (mkF m 30 #[.val (.int p0), .val (.int p1), .val (.int p2), .val (.int b0), .val (.int b1), .val (.int b2), .val (.ref ak), .unset, .unset, .unset, .unset] []))
  obtain ⟨T105, h105, X105, e105, E105, A105, D105, -, st105⟩ := newO X104 hx hZ hown (hw _ (List.mem_of_getElem? (i := 1) rfl)) (hw _ (List.mem_of_getElem? (i := 2) rfl)) (hw _ (List.mem_of_getElem? (i := 3) rfl)) e104 (g := (mkF m 30 #[.val (.int p0), .val (.int p1), .val (.int p2), .val (.int b0), .val (.int b1), .val (.int b2), .val (.ref ak), .unset, .unset, .unset, .unset] [])) rfl (hb hby at_30) (by decide) (by decide)
  obtain ⟨am, g105⟩ : ∃ z, z = h104.size := ⟨_, rfl⟩
  rw [← g105] at A105 D105 st105
  have ne105_1 : em ≠ am := by rw [g105]; exact Nat.ne_of_lt (EM.ext O104.2).lt
  have ne105_2 : ak ≠ am := by rw [g105]; exact Nat.ne_of_lt f104_3.lt
  have w105 : n0 ≤ am := by rw [g105]; exact Z104
  have f105_encryptionContext : Fld Z h105 am "com/example/arborkey/arborkey/EncryptionMaterials" "encryptionContext" "Ljava/util/Map;" .null := D105 (Or.inr (hw _ (List.mem_of_getElem? (i := 30) rfl))) (ty := (.object "java/util/Map")) (by decide +kernel)
  have f105_dataKey : Fld Z h105 am "com/example/arborkey/arborkey/EncryptionMaterials" "dataKey" "[B" .null := D105 (Or.inr (hw _ (List.mem_of_getElem? (i := 32) rfl))) (ty := (.array .byte)) (by decide +kernel)
  have f105_wrappedKeys : Fld Z h105 am "com/example/arborkey/arborkey/EncryptionMaterials" "wrappedKeys" "Ljava/util/List;" .null := D105 (Or.inr (hw _ (List.mem_of_getElem? (i := 34) rfl))) (ty := (.object "java/util/List")) (by decide +kernel)
  have f105_3 := f104_3.ext E105
  have f105_4 := v104.ext E105
  have O105 := O104.ext E105
  have Z105 := Nat.le_trans Z104 E105.1
  refine own_go st105 ?_
  show own_E _ _ _ _ _ _ _ (T105.setTop (mkF m 33 #[.val (.int p0), .val (.int p1), .val (.int p2), .val (.int b0), .val (.int b1), .val (.int b2), .val (.ref ak), .unset, .unset, .unset, .unset] [(.ref am)]))
  refine own_go (fun _ k => XS.dup X105.here hx rfl (hb hby at_33) rfl rfl k) ?_
  show own_E _ _ _ _ _ _ _ (T105.setTop (mkF m 34 #[.val (.int p0), .val (.int p1), .val (.int p2), .val (.int b0), .val (.int b1), .val (.int b2), .val (.ref ak), .unset, .unset, .unset, .unset] [(.ref am), (.ref am)]))
  obtain ⟨v106, T106, L106, X106, hQ106, st106⟩ := own_callS X105 hx hZ (rm := ({ frames := 0, cells := 0, slots := 0, locals := 0 } : Room)) (W := 2) (argsL := []) (rest := [(.ref am), (.ref am)]) (y := (⟨"java/util/Map", "of", "()Ljava/util/Map;"⟩ : MethodName)) hown (hw _ (List.mem_of_getElem? (i := 4) rfl)) (hw _ (List.mem_of_getElem? (i := 5) rfl)) (hw _ (List.mem_of_getElem? (i := 6) rfl)) (hw _ (List.mem_of_getElem? (i := 7) rfl)) (by decide) (rm1 l Z a0 hw em h105 n0 Z105 (SM.ext O105.2)) e105 (by decide) (by decide) (by decide) (by decide) (g := (mkF m 34 #[.val (.int p0), .val (.int p1), .val (.int p2), .val (.int b0), .val (.int b1), .val (.int b2), .val (.ref ak), .unset, .unset, .unset, .unset] [(.ref am), (.ref am)])) rfl (by rw [hml]; rfl) (lenOf pd_3 rfl) rfl (Nat.le_of_ble_eq_true rfl) (hb hby at_34)
  obtain ⟨rfl, N106, e106⟩ := hQ106
  refine own_go st106 ?_
  show own_E _ _ _ _ _ _ _ (T106.setTop (mkF m 37 #[.val (.int p0), .val (.int p1), .val (.int p2), .val (.int b0), .val (.int b1), .val (.int b2), .val (.ref ak), .unset, .unset, .unset, .unset] [(.ref em), (.ref am), (.ref am)]))
  have M106 := Fr.app N104 N106
  obtain ⟨v107, T107, L107, X107, hQ107, st107⟩ := own_callI X106 hx hZ (rm := ({ frames := 2, cells := 0, slots := 0, locals := 28 } : Room)) (W := 1) (b := am) (argsL := [(.ref em)]) (rest := [(.ref am)]) (y := (⟨"com/example/arborkey/arborkey/EncryptionMaterials", "<init>", "(Ljava/util/Map;)V"⟩ : MethodName)) hown rfl (hw _ (List.mem_of_getElem? (i := 10) rfl)) (hw _ (List.mem_of_getElem? (i := 11) rfl)) (hw _ (List.mem_of_getElem? (i := 3) rfl)) (hw _ (List.mem_of_getElem? (i := 12) rfl)) (by decide) (rm2 l Z a0 hw am em el h105 n0 Z105 A105 f105_encryptionContext f105_dataKey f105_wrappedKeys w105 (EM.ext O105.2) (SL.ext O105.2)) e106 (by decide) (by decide) (by decide) (by decide) (g := (mkF m 37 #[.val (.int p0), .val (.int p1), .val (.int p2), .val (.int b0), .val (.int b1), .val (.int b2), .val (.ref ak), .unset, .unset, .unset, .unset] [(.ref em), (.ref am), (.ref am)])) rfl (by rw [hml]; rfl) (lenOf pd_4 rfl) rfl (Nat.le_of_ble_eq_true rfl) (hb hby at_37)
  obtain ⟨rfl, N107, K107, A107, F107, G107, H107⟩ := hQ107
  refine own_go st107 ?_
  show own_E _ _ _ _ _ _ _ (T107.setTop (mkF m 40 #[.val (.int p0), .val (.int p1), .val (.int p2), .val (.int b0), .val (.int b1), .val (.int b2), .val (.ref ak), .unset, .unset, .unset, .unset] [(.ref am)]))
  have M107 := Fr.app M106 N107
  have e107 : T107.heap = T107.heap := rfl
  have f107_3 := f105_3.keep K107
  have f107_4 := f105_4.keep K107 (ninS ne105_2 nin0)
  have f107_11 := A105.keep K107
  have O107 := O105.keep K107 (allS w105 all0)
  have Z107 := Nat.le_trans Z105 K107.1
  refine own_go (fun _ k => XS.astore X107.here hx rfl (hb hby at_40) rfl rfl (l' := #[.val (.int p0), .val (.int p1), .val (.int p2), .val (.int b0), .val (.int b1), .val (.int b2), .val (.ref ak), .val (.ref am), .unset, .unset, .unset]) rfl k) ?_
  show own_E _ _ _ _ _ _ _ (T107.setTop (mkF m 42 #[.val (.int p0), .val (.int p1), .val (.int p2), .val (.int b0), .val (.int b1), .val (.int b2), .val (.ref ak), .val (.ref am), .unset, .unset, .unset] []))
  refine own_go (fun _ k => XS.aload X107.here hx rfl (hb hby at_42) rfl rfl k) ?_
  show own_E _ _ _ _ _ _ _ (T107.setTop (mkF m 44 #[.val (.int p0), .val (.int p1), .val (.int p2), .val (.int b0), .val (.int b1), .val (.int b2), .val (.ref ak), .val (.ref am), .unset, .unset, .unset] [(.ref am)]))
  obtain ⟨v108, T108, L108, X108, hQ108, st108⟩ := own_callV X107 hx hZ (rm := ({ frames := 1, cells := 1, slots := 3, locals := 14 } : Room)) (W := 0) (b := am) (argsL := []) (rest := []) (y := (⟨"com/example/arborkey/arborkey/EncryptionMaterials", "dataKey", "()[B"⟩ : MethodName)) hown (hw _ (List.mem_of_getElem? (i := 35) rfl)) (hw _ (List.mem_of_getElem? (i := 36) rfl)) (hw _ (List.mem_of_getElem? (i := 38) rfl)) (hw _ (List.mem_of_getElem? (i := 37) rfl)) (hw _ (List.mem_of_getElem? (i := 39) rfl)) (hw _ (List.mem_of_getElem? (i := 3) rfl)) (by decide) (rmDN l Z a0 hw am T107.heap n0 Z107 G107) e107 f107_11 (by decide) (by decide) (by decide) (by decide) (g := (mkF m 44 #[.val (.int p0), .val (.int p1), .val (.int p2), .val (.int b0), .val (.int b1), .val (.int b2), .val (.ref ak), .val (.ref am), .unset, .unset, .unset] [(.ref am)])) rfl (by rw [hml]; rfl) (lenOf pd_5 rfl) rfl (Nat.le_of_ble_eq_true rfl) (hb hby at_44)
  obtain ⟨rfl, N108, e108⟩ := hQ108
  refine own_go st108 ?_
  show own_E _ _ _ _ _ _ _ (T108.setTop (mkF m 47 #[.val (.int p0), .val (.int p1), .val (.int p2), .val (.int b0), .val (.int b1), .val (.int b2), .val (.ref ak), .val (.ref am), .unset, .unset, .unset] [.null]))
  have M108 := Fr.app M107 N108
  refine own_go (fun _ k => XS.ifnullYes X108.here hx rfl (pc0 := 47) (pc' := 52) rfl (hb hby at_47) rfl (by decide) (by decide) k) ?_
  show own_E _ _ _ _ _ _ _ (T108.setTop (mkF m 52 #[.val (.int p0), .val (.int p1), .val (.int p2), .val (.int b0), .val (.int b1), .val (.int b2), .val (.ref ak), .val (.ref am), .unset, .unset, .unset] []))
  refine own_go (fun _ k => XS.aload X108.here hx rfl (hb hby at_52) rfl rfl k) ?_
  show own_E _ _ _ _ _ _ _ (T108.setTop (mkF m 54 #[.val (.int p0), .val (.int p1), .val (.int p2), .val (.int b0), .val (.int b1), .val (.int b2), .val (.ref ak), .val (.ref am), .unset, .unset, .unset] [(.ref am)]))
  refine own_go (fun _ k => XS.aload X108.here hx rfl (hb hby at_54) rfl rfl k) ?_
  show own_E _ _ _ _ _ _ _ (T108.setTop (mkF m 56 #[.val (.int p0), .val (.int p1), .val (.int p2), .val (.int b0), .val (.int b1), .val (.int b2), .val (.ref ak), .val (.ref am), .unset, .unset, .unset] [(.ref ak), (.ref am)]))
  obtain ⟨v109, T109, L109, X109, hQ109, st109⟩ := own_callV X108 hx hZ (rm := ({ frames := 2, cells := 2, slots := 6, locals := 32 } : Room)) (W := 0) (b := am) (argsL := [(.ref ak)]) (rest := []) (y := (⟨"com/example/arborkey/arborkey/EncryptionMaterials", "withDataKey", "([B)Lcom/example/arborkey/arborkey/EncryptionMaterials;"⟩ : MethodName)) hown (hw _ (List.mem_of_getElem? (i := 40) rfl)) (hw _ (List.mem_of_getElem? (i := 41) rfl)) (hw _ (List.mem_of_getElem? (i := 43) rfl)) (hw _ (List.mem_of_getElem? (i := 42) rfl)) (hw _ (List.mem_of_getElem? (i := 44) rfl)) (hw _ (List.mem_of_getElem? (i := 3) rfl)) (by decide) (rm8 l Z a0 hw am ak k101 (3 : Int32) b0 b1 b2 em el T107.heap n0 Z107 (by decide) F107 H107 f107_4 f107_3) e108 f107_11 (by decide) (by decide) (by decide) (by decide) (g := (mkF m 56 #[.val (.int p0), .val (.int p1), .val (.int p2), .val (.int b0), .val (.int b1), .val (.int b2), .val (.ref ak), .val (.ref am), .unset, .unset, .unset] [(.ref ak), (.ref am)])) rfl (by rw [hml]; rfl) (lenOf pd_6 rfl) rfl (Nat.le_of_ble_eq_true rfl) (hb hby at_56)
  obtain ⟨N109, K109, ax, ac, rfl, gx109, gc109, nxc109, A109, F109, H109, G109, V109, B109⟩ := hQ109
  refine own_go st109 ?_
  show own_E _ _ _ _ _ _ _ (T109.setTop (mkF m 59 #[.val (.int p0), .val (.int p1), .val (.int p2), .val (.int b0), .val (.int b1), .val (.int b2), .val (.ref ak), .val (.ref am), .unset, .unset, .unset] [(.ref ax)]))
  have M109 := Fr.app M108 N109
  have ne109_ax_1 : em ≠ ax := Nat.ne_of_lt (Nat.lt_of_lt_of_le (EM.ext O107.2).lt gx109)
  have ne109_ax_2 : ak ≠ ax := Nat.ne_of_lt (Nat.lt_of_lt_of_le f107_3.lt gx109)
  have ne109_ax_3 : am ≠ ax := Nat.ne_of_lt (Nat.lt_of_lt_of_le f107_11.lt gx109)
  have w109_ax : n0 ≤ ax := Nat.le_trans Z107 gx109
  have ne109_ac_1 : em ≠ ac := Nat.ne_of_lt (Nat.lt_of_lt_of_le (EM.ext O107.2).lt gc109)
  have ne109_ac_2 : ak ≠ ac := Nat.ne_of_lt (Nat.lt_of_lt_of_le f107_3.lt gc109)
  have ne109_ac_3 : am ≠ ac := Nat.ne_of_lt (Nat.lt_of_lt_of_le f107_11.lt gc109)
  have w109_ac : n0 ≤ ac := Nat.le_trans Z107 gc109
  have e109 : T109.heap = T109.heap := rfl
  have f109_3 := f107_3.keep K109
  have f109_4 := f107_4.keep K109 nin0
  have f109_8 := f107_11.keep K109
  have f109_9 := F107.keep K109 nin0
  have f109_10 := G107.keep K109 nin0
  have f109_11 := H107.keep K109 nin0
  have O109 := O107.keep K109 all0
  have Z109 := Nat.le_trans Z107 K109.1
  refine own_go (fun _ k => XS.astore X109.here hx rfl (hb hby at_59) rfl rfl (l' := #[.val (.int p0), .val (.int p1), .val (.int p2), .val (.int b0), .val (.int b1), .val (.int b2), .val (.ref ak), .val (.ref am), .val (.ref ax), .unset, .unset]) rfl k) ?_
  show own_E _ _ _ _ _ _ _ (T109.setTop (mkF m 61 #[.val (.int p0), .val (.int p1), .val (.int p2), .val (.int b0), .val (.int b1), .val (.int b2), .val (.ref ak), .val (.ref am), .val (.ref ax), .unset, .unset] []))
  refine own_go (fun _ k => XS.aload X109.here hx rfl (hb hby at_61) rfl rfl k) ?_
  show own_E _ _ _ _ _ _ _ (T109.setTop (mkF m 63 #[.val (.int p0), .val (.int p1), .val (.int p2), .val (.int b0), .val (.int b1), .val (.int b2), .val (.ref ak), .val (.ref am), .val (.ref ax), .unset, .unset] [(.ref ak)]))
  refine own_go (fun _ k => XT.iconstV X109.here hx rfl (0 : Int32) (hb hby at_63) (by decide) k) ?_
  show own_E _ _ _ _ _ _ _ (T109.setTop (mkF m 64 #[.val (.int p0), .val (.int p1), .val (.int p2), .val (.int b0), .val (.int b1), .val (.int b2), .val (.ref ak), .val (.ref am), .val (.ref ax), .unset, .unset] [(.int (0 : Int32)), (.ref ak)]))
  refine own_go (fun _ k => XS.iloadN X109.here hx rfl (hb hby at_64) rfl k) ?_
  show own_E _ _ _ _ _ _ _ (T109.setTop (mkF m 65 #[.val (.int p0), .val (.int p1), .val (.int p2), .val (.int b0), .val (.int b1), .val (.int b2), .val (.ref ak), .val (.ref am), .val (.ref ax), .unset, .unset] [(.int b0), (.int (0 : Int32)), (.ref ak)]))
  refine own_go (fun _ k => XT.iconstV X109.here hx rfl (-1 : Int32) (hb hby at_65) (by decide) k) ?_
  show own_E _ _ _ _ _ _ _ (T109.setTop (mkF m 66 #[.val (.int p0), .val (.int p1), .val (.int p2), .val (.int b0), .val (.int b1), .val (.int b2), .val (.ref ak), .val (.ref am), .val (.ref ax), .unset, .unset] [(.int (-1 : Int32)), (.int b0), (.int (0 : Int32)), (.ref ak)]))
  refine own_go (fun _ k => XT.ixor X109.here hx rfl (hb hby at_66) rfl k) ?_
  show own_E _ _ _ _ _ _ _ (T109.setTop (mkF m 67 #[.val (.int p0), .val (.int p1), .val (.int p2), .val (.int b0), .val (.int b1), .val (.int b2), .val (.ref ak), .val (.ref am), .val (.ref ax), .unset, .unset] [(.int (b0 ^^^ (-1 : Int32))), (.int (0 : Int32)), (.ref ak)]))
  refine own_go (fun _ k => XT.i2b X109.here hx rfl (hb hby at_67) rfl k) ?_
  show own_E _ _ _ _ _ _ _ (T109.setTop (mkF m 68 #[.val (.int p0), .val (.int p1), .val (.int p2), .val (.int b0), .val (.int b1), .val (.int b2), .val (.ref ak), .val (.ref am), .val (.ref ax), .unset, .unset] [(.int ((b0 ^^^ (-1 : Int32))).toInt8.toInt32), (.int (0 : Int32)), (.ref ak)]))
  obtain ⟨T110, h110, X110, e110, W110, v110, st110⟩ := own_stB X109 hx hZ e109 f109_4 (j := (0 : Int32)) 0 (by decide) (by simp) (by decide) (g := (mkF m 68 #[.val (.int p0), .val (.int p1), .val (.int p2), .val (.int b0), .val (.int b1), .val (.int b2), .val (.ref ak), .val (.ref am), .val (.ref ax), .unset, .unset] [(.int ((b0 ^^^ (-1 : Int32))).toInt8.toInt32), (.int (0 : Int32)), (.ref ak)])) rfl rfl (hb hby at_68)
  replace v110 : Arv Z h110 ak k101 .byte (3 : Int32) [(.int (nar .byte ((b0 ^^^ (-1 : Int32))).toInt8.toInt32)), .int b1, .int b2] (.int 0) := v110
  have f110_3 := f109_3.wr W110
  have f110_7 := f109_8.wr W110
  have f110_8 := f109_9.other W110 (Or.inl ne105_2.symm)
  have f110_9 := f109_10.other W110 (Or.inl ne105_2.symm)
  have f110_10 := f109_11.other W110 (Or.inl ne105_2.symm)
  have f110_20 := A109.wr W110
  have f110_21 := F109.other W110 (Or.inl ne109_ax_2.symm)
  have f110_22 := G109.other W110 (Or.inl ne109_ax_2.symm)
  have f110_23 := V109.other W110 ne109_ac_2.symm
  have f110_24 := B109.wr W110
  have f110_25 := H109.other W110 (Or.inl ne109_ax_2.symm)
  have O110 := O109.wr W110 w101
  have Z110 : n0 ≤ h110.size := by rw [W110.size]; exact Z109
  have N110 := Fr.snoc X110 M109 w101
  refine own_go st110 ?_
  show own_E _ _ _ _ _ _ _ (T110.setTop (mkF m 69 #[.val (.int p0), .val (.int p1), .val (.int p2), .val (.int b0), .val (.int b1), .val (.int b2), .val (.ref ak), .val (.ref am), .val (.ref ax), .unset, .unset] []))
  refine own_go (fun _ k => XS.aload X110.here hx rfl (hb hby at_69) rfl rfl k) ?_
  show own_E _ _ _ _ _ _ _ (T110.setTop (mkF m 71 #[.val (.int p0), .val (.int p1), .val (.int p2), .val (.int b0), .val (.int b1), .val (.int b2), .val (.ref ak), .val (.ref am), .val (.ref ax), .unset, .unset] [(.ref ak)]))
  refine own_go (fun _ k => XT.iconstV X110.here hx rfl (1 : Int32) (hb hby at_71) (by decide) k) ?_
  show own_E _ _ _ _ _ _ _ (T110.setTop (mkF m 72 #[.val (.int p0), .val (.int p1), .val (.int p2), .val (.int b0), .val (.int b1), .val (.int b2), .val (.ref ak), .val (.ref am), .val (.ref ax), .unset, .unset] [(.int (1 : Int32)), (.ref ak)]))
  refine own_go (fun _ k => XS.iload X110.here hx rfl (hb hby at_72) rfl k) ?_
  show own_E _ _ _ _ _ _ _ (T110.setTop (mkF m 74 #[.val (.int p0), .val (.int p1), .val (.int p2), .val (.int b0), .val (.int b1), .val (.int b2), .val (.ref ak), .val (.ref am), .val (.ref ax), .unset, .unset] [(.int b1), (.int (1 : Int32)), (.ref ak)]))
  refine own_go (fun _ k => XT.iconstV X110.here hx rfl (-1 : Int32) (hb hby at_74) (by decide) k) ?_
  show own_E _ _ _ _ _ _ _ (T110.setTop (mkF m 75 #[.val (.int p0), .val (.int p1), .val (.int p2), .val (.int b0), .val (.int b1), .val (.int b2), .val (.ref ak), .val (.ref am), .val (.ref ax), .unset, .unset] [(.int (-1 : Int32)), (.int b1), (.int (1 : Int32)), (.ref ak)]))
  refine own_go (fun _ k => XT.ixor X110.here hx rfl (hb hby at_75) rfl k) ?_
  show own_E _ _ _ _ _ _ _ (T110.setTop (mkF m 76 #[.val (.int p0), .val (.int p1), .val (.int p2), .val (.int b0), .val (.int b1), .val (.int b2), .val (.ref ak), .val (.ref am), .val (.ref ax), .unset, .unset] [(.int (b1 ^^^ (-1 : Int32))), (.int (1 : Int32)), (.ref ak)]))
  refine own_go (fun _ k => XT.i2b X110.here hx rfl (hb hby at_76) rfl k) ?_
  show own_E _ _ _ _ _ _ _ (T110.setTop (mkF m 77 #[.val (.int p0), .val (.int p1), .val (.int p2), .val (.int b0), .val (.int b1), .val (.int b2), .val (.ref ak), .val (.ref am), .val (.ref ax), .unset, .unset] [(.int ((b1 ^^^ (-1 : Int32))).toInt8.toInt32), (.int (1 : Int32)), (.ref ak)]))
  obtain ⟨T111, h111, X111, e111, W111, v111, st111⟩ := own_stB X110 hx hZ e110 v110 (j := (1 : Int32)) 1 (by decide) (by simp) (by decide) (g := (mkF m 77 #[.val (.int p0), .val (.int p1), .val (.int p2), .val (.int b0), .val (.int b1), .val (.int b2), .val (.ref ak), .val (.ref am), .val (.ref ax), .unset, .unset] [(.int ((b1 ^^^ (-1 : Int32))).toInt8.toInt32), (.int (1 : Int32)), (.ref ak)])) rfl rfl (hb hby at_77)
  replace v111 : Arv Z h111 ak k101 .byte (3 : Int32) [(.int (nar .byte ((b0 ^^^ (-1 : Int32))).toInt8.toInt32)), (.int (nar .byte ((b1 ^^^ (-1 : Int32))).toInt8.toInt32)), .int b2] (.int 0) := v111
  have f111_3 := f110_3.wr W111
  have f111_7 := f110_7.wr W111
  have f111_8 := f110_8.other W111 (Or.inl ne105_2.symm)
  have f111_9 := f110_9.other W111 (Or.inl ne105_2.symm)
  have f111_10 := f110_10.other W111 (Or.inl ne105_2.symm)
  have f111_20 := f110_20.wr W111
  have f111_21 := f110_21.other W111 (Or.inl ne109_ax_2.symm)
  have f111_22 := f110_22.other W111 (Or.inl ne109_ax_2.symm)
  have f111_23 := f110_23.other W111 ne109_ac_2.symm
  have f111_24 := f110_24.wr W111
  have f111_25 := f110_25.other W111 (Or.inl ne109_ax_2.symm)
  have O111 := O110.wr W111 w101
  have Z111 : n0 ≤ h111.size := by rw [W111.size]; exact Z110
  have N111 := Fr.snoc X111 N110 w101
  refine own_go st111 ?_
  show own_E _ _ _ _ _ _ _ (T111.setTop (mkF m 78 #[.val (.int p0), .val (.int p1), .val (.int p2), .val (.int b0), .val (.int b1), .val (.int b2), .val (.ref ak), .val (.ref am), .val (.ref ax), .unset, .unset] []))
  refine own_go (fun _ k => XS.aload X111.here hx rfl (hb hby at_78) rfl rfl k) ?_
  show own_E _ _ _ _ _ _ _ (T111.setTop (mkF m 80 #[.val (.int p0), .val (.int p1), .val (.int p2), .val (.int b0), .val (.int b1), .val (.int b2), .val (.ref ak), .val (.ref am), .val (.ref ax), .unset, .unset] [(.ref ak)]))
  refine own_go (fun _ k => XT.iconstV X111.here hx rfl (2 : Int32) (hb hby at_80) (by decide) k) ?_
  show own_E _ _ _ _ _ _ _ (T111.setTop (mkF m 81 #[.val (.int p0), .val (.int p1), .val (.int p2), .val (.int b0), .val (.int b1), .val (.int b2), .val (.ref ak), .val (.ref am), .val (.ref ax), .unset, .unset] [(.int (2 : Int32)), (.ref ak)]))
  refine own_go (fun _ k => XS.iload X111.here hx rfl (hb hby at_81) rfl k) ?_
  show own_E _ _ _ _ _ _ _ (T111.setTop (mkF m 83 #[.val (.int p0), .val (.int p1), .val (.int p2), .val (.int b0), .val (.int b1), .val (.int b2), .val (.ref ak), .val (.ref am), .val (.ref ax), .unset, .unset] [(.int b2), (.int (2 : Int32)), (.ref ak)]))
  refine own_go (fun _ k => XT.iconstV X111.here hx rfl (-1 : Int32) (hb hby at_83) (by decide) k) ?_
  show own_E _ _ _ _ _ _ _ (T111.setTop (mkF m 84 #[.val (.int p0), .val (.int p1), .val (.int p2), .val (.int b0), .val (.int b1), .val (.int b2), .val (.ref ak), .val (.ref am), .val (.ref ax), .unset, .unset] [(.int (-1 : Int32)), (.int b2), (.int (2 : Int32)), (.ref ak)]))
  refine own_go (fun _ k => XT.ixor X111.here hx rfl (hb hby at_84) rfl k) ?_
  show own_E _ _ _ _ _ _ _ (T111.setTop (mkF m 85 #[.val (.int p0), .val (.int p1), .val (.int p2), .val (.int b0), .val (.int b1), .val (.int b2), .val (.ref ak), .val (.ref am), .val (.ref ax), .unset, .unset] [(.int (b2 ^^^ (-1 : Int32))), (.int (2 : Int32)), (.ref ak)]))
  refine own_go (fun _ k => XT.i2b X111.here hx rfl (hb hby at_85) rfl k) ?_
  show own_E _ _ _ _ _ _ _ (T111.setTop (mkF m 86 #[.val (.int p0), .val (.int p1), .val (.int p2), .val (.int b0), .val (.int b1), .val (.int b2), .val (.ref ak), .val (.ref am), .val (.ref ax), .unset, .unset] [(.int ((b2 ^^^ (-1 : Int32))).toInt8.toInt32), (.int (2 : Int32)), (.ref ak)]))
  obtain ⟨T112, h112, X112, e112, W112, v112, st112⟩ := own_stB X111 hx hZ e111 v111 (j := (2 : Int32)) 2 (by decide) (by simp) (by decide) (g := (mkF m 86 #[.val (.int p0), .val (.int p1), .val (.int p2), .val (.int b0), .val (.int b1), .val (.int b2), .val (.ref ak), .val (.ref am), .val (.ref ax), .unset, .unset] [(.int ((b2 ^^^ (-1 : Int32))).toInt8.toInt32), (.int (2 : Int32)), (.ref ak)])) rfl rfl (hb hby at_86)
  replace v112 : Arv Z h112 ak k101 .byte (3 : Int32) [(.int (nar .byte ((b0 ^^^ (-1 : Int32))).toInt8.toInt32)), (.int (nar .byte ((b1 ^^^ (-1 : Int32))).toInt8.toInt32)), (.int (nar .byte ((b2 ^^^ (-1 : Int32))).toInt8.toInt32))] (.int 0) := v112
  have f112_3 := f111_3.wr W112
  have f112_7 := f111_7.wr W112
  have f112_8 := f111_8.other W112 (Or.inl ne105_2.symm)
  have f112_9 := f111_9.other W112 (Or.inl ne105_2.symm)
  have f112_10 := f111_10.other W112 (Or.inl ne105_2.symm)
  have f112_20 := f111_20.wr W112
  have f112_21 := f111_21.other W112 (Or.inl ne109_ax_2.symm)
  have f112_22 := f111_22.other W112 (Or.inl ne109_ax_2.symm)
  have f112_23 := f111_23.other W112 ne109_ac_2.symm
  have f112_24 := f111_24.wr W112
  have f112_25 := f111_25.other W112 (Or.inl ne109_ax_2.symm)
  have O112 := O111.wr W112 w101
  have Z112 : n0 ≤ h112.size := by rw [W112.size]; exact Z111
  have N112 := Fr.snoc X112 N111 w101
  refine own_go st112 ?_
  show own_E _ _ _ _ _ _ _ (T112.setTop (mkF m 87 #[.val (.int p0), .val (.int p1), .val (.int p2), .val (.int b0), .val (.int b1), .val (.int b2), .val (.ref ak), .val (.ref am), .val (.ref ax), .unset, .unset] []))
  refine own_go (fun _ k => XS.aload X112.here hx rfl (hb hby at_87) rfl rfl k) ?_
  show own_E _ _ _ _ _ _ _ (T112.setTop (mkF m 89 #[.val (.int p0), .val (.int p1), .val (.int p2), .val (.int b0), .val (.int b1), .val (.int b2), .val (.ref ak), .val (.ref am), .val (.ref ax), .unset, .unset] [(.ref ax)]))
  obtain ⟨v113, T113, L113, X113, hQ113, st113⟩ := own_callV X112 hx hZ (rm := ({ frames := 1, cells := 1, slots := 3, locals := 14 } : Room)) (W := 0) (b := ax) (argsL := []) (rest := []) (y := (⟨"com/example/arborkey/arborkey/EncryptionMaterials", "dataKey", "()[B"⟩ : MethodName)) hown (hw _ (List.mem_of_getElem? (i := 35) rfl)) (hw _ (List.mem_of_getElem? (i := 36) rfl)) (hw _ (List.mem_of_getElem? (i := 38) rfl)) (hw _ (List.mem_of_getElem? (i := 37) rfl)) (hw _ (List.mem_of_getElem? (i := 39) rfl)) (hw _ (List.mem_of_getElem? (i := 3) rfl)) (by decide) (rmDK l Z a0 hw ax ac k101 (3 : Int32) b0 b1 b2 h112 n0 Z112 (by decide) f112_22 f112_23 f112_24) e112 f112_20 (by decide) (by decide) (by decide) (by decide) (g := (mkF m 89 #[.val (.int p0), .val (.int p1), .val (.int p2), .val (.int b0), .val (.int b1), .val (.int b2), .val (.ref ak), .val (.ref am), .val (.ref ax), .unset, .unset] [(.ref ax)])) rfl (by rw [hml]; rfl) (lenOf pd_5 rfl) rfl (Nat.le_of_ble_eq_true rfl) (hb hby at_89)
  obtain ⟨N113, E113, d1, rfl, V113, B113, g113⟩ := hQ113
  refine own_go st113 ?_
  show own_E _ _ _ _ _ _ _ (T113.setTop (mkF m 92 #[.val (.int p0), .val (.int p1), .val (.int p2), .val (.int b0), .val (.int b1), .val (.int b2), .val (.ref ak), .val (.ref am), .val (.ref ax), .unset, .unset] [(.ref d1)]))
  have M113 := Fr.app N112 N113
  have ne113_d1_1 : em ≠ d1 := Nat.ne_of_lt (Nat.lt_of_lt_of_le (EM.ext O112.2).lt g113)
  have ne113_d1_2 : ak ≠ d1 := Nat.ne_of_lt (Nat.lt_of_lt_of_le f112_3.lt g113)
  have ne113_d1_3 : am ≠ d1 := Nat.ne_of_lt (Nat.lt_of_lt_of_le f112_7.lt g113)
  have ne113_d1_4 : ax ≠ d1 := Nat.ne_of_lt (Nat.lt_of_lt_of_le f112_20.lt g113)
  have ne113_d1_5 : ac ≠ d1 := Nat.ne_of_lt (Nat.lt_of_lt_of_le f112_23.lt g113)
  have w113_d1 : n0 ≤ d1 := Nat.le_trans Z112 g113
  have e113 : T113.heap = T113.heap := rfl
  have f113_3 := f112_3.ext E113
  have f113_7 := f112_7.ext E113
  have f113_8 := f112_8.ext E113
  have f113_9 := f112_9.ext E113
  have f113_10 := f112_10.ext E113
  have f113_20 := f112_20.ext E113
  have f113_21 := f112_21.ext E113
  have f113_22 := f112_22.ext E113
  have f113_23 := f112_23.ext E113
  have f113_24 := f112_24.ext E113
  have f113_25 := f112_25.ext E113
  have f113_26 := v112.ext E113
  have O113 := O112.ext E113
  have Z113 := Nat.le_trans Z112 E113.1
  refine own_go (fun _ k => XS.astore X113.here hx rfl (hb hby at_92) rfl rfl (l' := #[.val (.int p0), .val (.int p1), .val (.int p2), .val (.int b0), .val (.int b1), .val (.int b2), .val (.ref ak), .val (.ref am), .val (.ref ax), .val (.ref d1), .unset]) rfl k) ?_
  show own_E _ _ _ _ _ _ _ (T113.setTop (mkF m 94 #[.val (.int p0), .val (.int p1), .val (.int p2), .val (.int b0), .val (.int b1), .val (.int b2), .val (.ref ak), .val (.ref am), .val (.ref ax), .val (.ref d1), .unset] []))
  refine own_go (fun _ k => XS.aload X113.here hx rfl (hb hby at_94) rfl rfl k) ?_
  show own_E _ _ _ _ _ _ _ (T113.setTop (mkF m 96 #[.val (.int p0), .val (.int p1), .val (.int p2), .val (.int b0), .val (.int b1), .val (.int b2), .val (.ref ak), .val (.ref am), .val (.ref ax), .val (.ref d1), .unset] [(.ref d1)]))
  refine own_go (fun _ k => XS.ifnullNo X113.here hx rfl (hb hby at_96) rfl k) ?_
  show own_E _ _ _ _ _ _ _ (T113.setTop (mkF m 99 #[.val (.int p0), .val (.int p1), .val (.int p2), .val (.int b0), .val (.int b1), .val (.int b2), .val (.ref ak), .val (.ref am), .val (.ref ax), .val (.ref d1), .unset] []))
  refine own_go (fun _ k => XS.aload X113.here hx rfl (hb hby at_99) rfl rfl k) ?_
  show own_E _ _ _ _ _ _ _ (T113.setTop (mkF m 101 #[.val (.int p0), .val (.int p1), .val (.int p2), .val (.int b0), .val (.int b1), .val (.int b2), .val (.ref ak), .val (.ref am), .val (.ref ax), .val (.ref d1), .unset] [(.ref d1)]))
  obtain ⟨c114, a114, u114⟩ := own_len V113
  refine own_go (own_alen X113 hx hZ e113 a114 u114 (g := (mkF m 101 #[.val (.int p0), .val (.int p1), .val (.int p2), .val (.int b0), .val (.int b1), .val (.int b2), .val (.ref ak), .val (.ref am), .val (.ref ax), .val (.ref d1), .unset] [(.ref d1)])) rfl rfl (hb hby at_101)) ?_
  show own_E _ _ _ _ _ _ _ (T113.setTop (mkF m 102 #[.val (.int p0), .val (.int p1), .val (.int p2), .val (.int b0), .val (.int b1), .val (.int b2), .val (.ref ak), .val (.ref am), .val (.ref ax), .val (.ref d1), .unset] [(.int (3 : Int32))]))
  refine own_go (fun _ k => XT.iconstV X113.here hx rfl (3 : Int32) (hb hby at_102) (by decide) k) ?_
  show own_E _ _ _ _ _ _ _ (T113.setTop (mkF m 103 #[.val (.int p0), .val (.int p1), .val (.int p2), .val (.int b0), .val (.int b1), .val (.int b2), .val (.ref ak), .val (.ref am), .val (.ref ax), .val (.ref d1), .unset] [(.int (3 : Int32)), (.int (3 : Int32))]))
  refine own_go (fun _ k => XS.icmpYes X113.here hx rfl (pc0 := 103) (pc' := 108) rfl (hb hby at_103) rfl (by decide) (by decide) (by decide) k) ?_
  show own_E _ _ _ _ _ _ _ (T113.setTop (mkF m 108 #[.val (.int p0), .val (.int p1), .val (.int p2), .val (.int b0), .val (.int b1), .val (.int b2), .val (.ref ak), .val (.ref am), .val (.ref ax), .val (.ref d1), .unset] []))
  refine own_go (fun _ k => XS.aload X113.here hx rfl (hb hby at_108) rfl rfl k) ?_
  show own_E _ _ _ _ _ _ _ (T113.setTop (mkF m 110 #[.val (.int p0), .val (.int p1), .val (.int p2), .val (.int b0), .val (.int b1), .val (.int b2), .val (.ref ak), .val (.ref am), .val (.ref ax), .val (.ref d1), .unset] [(.ref d1)]))
  refine own_go (fun _ k => XT.iconstV X113.here hx rfl (0 : Int32) (hb hby at_110) (by decide) k) ?_
  show own_E _ _ _ _ _ _ _ (T113.setTop (mkF m 111 #[.val (.int p0), .val (.int p1), .val (.int p2), .val (.int b0), .val (.int b1), .val (.int b2), .val (.ref ak), .val (.ref am), .val (.ref ax), .val (.ref d1), .unset] [(.int (0 : Int32)), (.ref d1)]))
  obtain ⟨c115, a115, i115, u115⟩ := own_at V113 (j := (0 : Int32)) (by decide)
  refine own_go (own_baload X113 hx hZ e113 a115 (j := (0 : Int32)) (v := (.int b0)) i115 u115 (g := (mkF m 111 #[.val (.int p0), .val (.int p1), .val (.int p2), .val (.int b0), .val (.int b1), .val (.int b2), .val (.ref ak), .val (.ref am), .val (.ref ax), .val (.ref d1), .unset] [(.int (0 : Int32)), (.ref d1)])) rfl rfl (hb hby at_111)) ?_
  show own_E _ _ _ _ _ _ _ (T113.setTop (mkF m 112 #[.val (.int p0), .val (.int p1), .val (.int p2), .val (.int b0), .val (.int b1), .val (.int b2), .val (.ref ak), .val (.ref am), .val (.ref ax), .val (.ref d1), .unset] [(.int b0)]))
  refine own_go (fun _ k => XS.iloadN X113.here hx rfl (hb hby at_112) rfl k) ?_
  show own_E _ _ _ _ _ _ _ (T113.setTop (mkF m 113 #[.val (.int p0), .val (.int p1), .val (.int p2), .val (.int b0), .val (.int b1), .val (.int b2), .val (.ref ak), .val (.ref am), .val (.ref ax), .val (.ref d1), .unset] [(.int b0), (.int b0)]))
  refine own_go (fun _ k => XS.icmpNo X113.here hx rfl (hb hby at_113) rfl (teq rfl).2 k) ?_
  show own_E _ _ _ _ _ _ _ (T113.setTop (mkF m 116 #[.val (.int p0), .val (.int p1), .val (.int p2), .val (.int b0), .val (.int b1), .val (.int b2), .val (.ref ak), .val (.ref am), .val (.ref ax), .val (.ref d1), .unset] []))
  refine own_go (fun _ k => XS.aload X113.here hx rfl (hb hby at_116) rfl rfl k) ?_
  show own_E _ _ _ _ _ _ _ (T113.setTop (mkF m 118 #[.val (.int p0), .val (.int p1), .val (.int p2), .val (.int b0), .val (.int b1), .val (.int b2), .val (.ref ak), .val (.ref am), .val (.ref ax), .val (.ref d1), .unset] [(.ref d1)]))
  refine own_go (fun _ k => XT.iconstV X113.here hx rfl (1 : Int32) (hb hby at_118) (by decide) k) ?_
  show own_E _ _ _ _ _ _ _ (T113.setTop (mkF m 119 #[.val (.int p0), .val (.int p1), .val (.int p2), .val (.int b0), .val (.int b1), .val (.int b2), .val (.ref ak), .val (.ref am), .val (.ref ax), .val (.ref d1), .unset] [(.int (1 : Int32)), (.ref d1)]))
  obtain ⟨c116, a116, i116, u116⟩ := own_at V113 (j := (1 : Int32)) (by decide)
  refine own_go (own_baload X113 hx hZ e113 a116 (j := (1 : Int32)) (v := (.int b1)) i116 u116 (g := (mkF m 119 #[.val (.int p0), .val (.int p1), .val (.int p2), .val (.int b0), .val (.int b1), .val (.int b2), .val (.ref ak), .val (.ref am), .val (.ref ax), .val (.ref d1), .unset] [(.int (1 : Int32)), (.ref d1)])) rfl rfl (hb hby at_119)) ?_
  show own_E _ _ _ _ _ _ _ (T113.setTop (mkF m 120 #[.val (.int p0), .val (.int p1), .val (.int p2), .val (.int b0), .val (.int b1), .val (.int b2), .val (.ref ak), .val (.ref am), .val (.ref ax), .val (.ref d1), .unset] [(.int b1)]))
  refine own_go (fun _ k => XS.iload X113.here hx rfl (hb hby at_120) rfl k) ?_
  show own_E _ _ _ _ _ _ _ (T113.setTop (mkF m 122 #[.val (.int p0), .val (.int p1), .val (.int p2), .val (.int b0), .val (.int b1), .val (.int b2), .val (.ref ak), .val (.ref am), .val (.ref ax), .val (.ref d1), .unset] [(.int b1), (.int b1)]))
  refine own_go (fun _ k => XS.icmpNo X113.here hx rfl (hb hby at_122) rfl (teq rfl).2 k) ?_
  show own_E _ _ _ _ _ _ _ (T113.setTop (mkF m 125 #[.val (.int p0), .val (.int p1), .val (.int p2), .val (.int b0), .val (.int b1), .val (.int b2), .val (.ref ak), .val (.ref am), .val (.ref ax), .val (.ref d1), .unset] []))
  refine own_go (fun _ k => XS.aload X113.here hx rfl (hb hby at_125) rfl rfl k) ?_
  show own_E _ _ _ _ _ _ _ (T113.setTop (mkF m 127 #[.val (.int p0), .val (.int p1), .val (.int p2), .val (.int b0), .val (.int b1), .val (.int b2), .val (.ref ak), .val (.ref am), .val (.ref ax), .val (.ref d1), .unset] [(.ref d1)]))
  refine own_go (fun _ k => XT.iconstV X113.here hx rfl (2 : Int32) (hb hby at_127) (by decide) k) ?_
  show own_E _ _ _ _ _ _ _ (T113.setTop (mkF m 128 #[.val (.int p0), .val (.int p1), .val (.int p2), .val (.int b0), .val (.int b1), .val (.int b2), .val (.ref ak), .val (.ref am), .val (.ref ax), .val (.ref d1), .unset] [(.int (2 : Int32)), (.ref d1)]))
  obtain ⟨c117, a117, i117, u117⟩ := own_at V113 (j := (2 : Int32)) (by decide)
  refine own_go (own_baload X113 hx hZ e113 a117 (j := (2 : Int32)) (v := (.int b2)) i117 u117 (g := (mkF m 128 #[.val (.int p0), .val (.int p1), .val (.int p2), .val (.int b0), .val (.int b1), .val (.int b2), .val (.ref ak), .val (.ref am), .val (.ref ax), .val (.ref d1), .unset] [(.int (2 : Int32)), (.ref d1)])) rfl rfl (hb hby at_128)) ?_
  show own_E _ _ _ _ _ _ _ (T113.setTop (mkF m 129 #[.val (.int p0), .val (.int p1), .val (.int p2), .val (.int b0), .val (.int b1), .val (.int b2), .val (.ref ak), .val (.ref am), .val (.ref ax), .val (.ref d1), .unset] [(.int b2)]))
  refine own_go (fun _ k => XS.iload X113.here hx rfl (hb hby at_129) rfl k) ?_
  show own_E _ _ _ _ _ _ _ (T113.setTop (mkF m 131 #[.val (.int p0), .val (.int p1), .val (.int p2), .val (.int b0), .val (.int b1), .val (.int b2), .val (.ref ak), .val (.ref am), .val (.ref ax), .val (.ref d1), .unset] [(.int b2), (.int b2)]))
  refine own_go (fun _ k => XS.icmpYes X113.here hx rfl (pc0 := 131) (pc' := 136) rfl (hb hby at_131) rfl (teq rfl).1 (by decide) (by decide) k) ?_
  show own_E _ _ _ _ _ _ _ (T113.setTop (mkF m 136 #[.val (.int p0), .val (.int p1), .val (.int p2), .val (.int b0), .val (.int b1), .val (.int b2), .val (.ref ak), .val (.ref am), .val (.ref ax), .val (.ref d1), .unset] []))
  refine own_go (fun _ k => XS.aload X113.here hx rfl (hb hby at_136) rfl rfl k) ?_
  show own_E _ _ _ _ _ _ _ (T113.setTop (mkF m 138 #[.val (.int p0), .val (.int p1), .val (.int p2), .val (.int b0), .val (.int b1), .val (.int b2), .val (.ref ak), .val (.ref am), .val (.ref ax), .val (.ref d1), .unset] [(.ref d1)]))
  refine own_go (fun _ k => XT.iconstV X113.here hx rfl (0 : Int32) (hb hby at_138) (by decide) k) ?_
  show own_E _ _ _ _ _ _ _ (T113.setTop (mkF m 139 #[.val (.int p0), .val (.int p1), .val (.int p2), .val (.int b0), .val (.int b1), .val (.int b2), .val (.ref ak), .val (.ref am), .val (.ref ax), .val (.ref d1), .unset] [(.int (0 : Int32)), (.ref d1)]))
  refine own_go (fun _ k => XS.iloadN X113.here hx rfl (hb hby at_139) rfl k) ?_
  show own_E _ _ _ _ _ _ _ (T113.setTop (mkF m 140 #[.val (.int p0), .val (.int p1), .val (.int p2), .val (.int b0), .val (.int b1), .val (.int b2), .val (.ref ak), .val (.ref am), .val (.ref ax), .val (.ref d1), .unset] [(.int b0), (.int (0 : Int32)), (.ref d1)]))
  refine own_go (fun _ k => XT.iconstV X113.here hx rfl (-1 : Int32) (hb hby at_140) (by decide) k) ?_
  show own_E _ _ _ _ _ _ _ (T113.setTop (mkF m 141 #[.val (.int p0), .val (.int p1), .val (.int p2), .val (.int b0), .val (.int b1), .val (.int b2), .val (.ref ak), .val (.ref am), .val (.ref ax), .val (.ref d1), .unset] [(.int (-1 : Int32)), (.int b0), (.int (0 : Int32)), (.ref d1)]))
  refine own_go (fun _ k => XT.ixor X113.here hx rfl (hb hby at_141) rfl k) ?_
  show own_E _ _ _ _ _ _ _ (T113.setTop (mkF m 142 #[.val (.int p0), .val (.int p1), .val (.int p2), .val (.int b0), .val (.int b1), .val (.int b2), .val (.ref ak), .val (.ref am), .val (.ref ax), .val (.ref d1), .unset] [(.int (b0 ^^^ (-1 : Int32))), (.int (0 : Int32)), (.ref d1)]))
  refine own_go (fun _ k => XT.i2b X113.here hx rfl (hb hby at_142) rfl k) ?_
  show own_E _ _ _ _ _ _ _ (T113.setTop (mkF m 143 #[.val (.int p0), .val (.int p1), .val (.int p2), .val (.int b0), .val (.int b1), .val (.int b2), .val (.ref ak), .val (.ref am), .val (.ref ax), .val (.ref d1), .unset] [(.int ((b0 ^^^ (-1 : Int32))).toInt8.toInt32), (.int (0 : Int32)), (.ref d1)]))
  obtain ⟨T118, h118, X118, e118, W118, v118, st118⟩ := own_stB X113 hx hZ e113 V113 (j := (0 : Int32)) 0 (by decide) (by simp) (by decide) (g := (mkF m 143 #[.val (.int p0), .val (.int p1), .val (.int p2), .val (.int b0), .val (.int b1), .val (.int b2), .val (.ref ak), .val (.ref am), .val (.ref ax), .val (.ref d1), .unset] [(.int ((b0 ^^^ (-1 : Int32))).toInt8.toInt32), (.int (0 : Int32)), (.ref d1)])) rfl rfl (hb hby at_143)
  replace v118 : Arv Z h118 d1 k101 .byte (3 : Int32) [(.int (nar .byte ((b0 ^^^ (-1 : Int32))).toInt8.toInt32)), .int b1, .int b2] (.int 0) := v118
  have f118_3 := f113_3.wr W118
  have f118_7 := f113_7.wr W118
  have f118_8 := f113_8.other W118 (Or.inl ne113_d1_3)
  have f118_9 := f113_9.other W118 (Or.inl ne113_d1_3)
  have f118_10 := f113_10.other W118 (Or.inl ne113_d1_3)
  have f118_20 := f113_20.wr W118
  have f118_21 := f113_21.other W118 (Or.inl ne113_d1_4)
  have f118_22 := f113_22.other W118 (Or.inl ne113_d1_4)
  have f118_23 := f113_23.other W118 ne113_d1_5
  have f118_24 := f113_24.wr W118
  have f118_25 := f113_25.other W118 (Or.inl ne113_d1_4)
  have f118_26 := f113_26.other W118 ne113_d1_2
  have f118_33 := B113.wr W118
  have O118 := O113.wr W118 w113_d1
  have Z118 : n0 ≤ h118.size := by rw [W118.size]; exact Z113
  have N118 := Fr.snoc X118 M113 w113_d1
  refine own_go st118 ?_
  show own_E _ _ _ _ _ _ _ (T118.setTop (mkF m 144 #[.val (.int p0), .val (.int p1), .val (.int p2), .val (.int b0), .val (.int b1), .val (.int b2), .val (.ref ak), .val (.ref am), .val (.ref ax), .val (.ref d1), .unset] []))
  refine own_go (fun _ k => XS.aload X118.here hx rfl (hb hby at_144) rfl rfl k) ?_
  show own_E _ _ _ _ _ _ _ (T118.setTop (mkF m 146 #[.val (.int p0), .val (.int p1), .val (.int p2), .val (.int b0), .val (.int b1), .val (.int b2), .val (.ref ak), .val (.ref am), .val (.ref ax), .val (.ref d1), .unset] [(.ref d1)]))
  refine own_go (fun _ k => XT.iconstV X118.here hx rfl (1 : Int32) (hb hby at_146) (by decide) k) ?_
  show own_E _ _ _ _ _ _ _ (T118.setTop (mkF m 147 #[.val (.int p0), .val (.int p1), .val (.int p2), .val (.int b0), .val (.int b1), .val (.int b2), .val (.ref ak), .val (.ref am), .val (.ref ax), .val (.ref d1), .unset] [(.int (1 : Int32)), (.ref d1)]))
  refine own_go (fun _ k => XS.iload X118.here hx rfl (hb hby at_147) rfl k) ?_
  show own_E _ _ _ _ _ _ _ (T118.setTop (mkF m 149 #[.val (.int p0), .val (.int p1), .val (.int p2), .val (.int b0), .val (.int b1), .val (.int b2), .val (.ref ak), .val (.ref am), .val (.ref ax), .val (.ref d1), .unset] [(.int b1), (.int (1 : Int32)), (.ref d1)]))
  refine own_go (fun _ k => XT.iconstV X118.here hx rfl (-1 : Int32) (hb hby at_149) (by decide) k) ?_
  show own_E _ _ _ _ _ _ _ (T118.setTop (mkF m 150 #[.val (.int p0), .val (.int p1), .val (.int p2), .val (.int b0), .val (.int b1), .val (.int b2), .val (.ref ak), .val (.ref am), .val (.ref ax), .val (.ref d1), .unset] [(.int (-1 : Int32)), (.int b1), (.int (1 : Int32)), (.ref d1)]))
  refine own_go (fun _ k => XT.ixor X118.here hx rfl (hb hby at_150) rfl k) ?_
  show own_E _ _ _ _ _ _ _ (T118.setTop (mkF m 151 #[.val (.int p0), .val (.int p1), .val (.int p2), .val (.int b0), .val (.int b1), .val (.int b2), .val (.ref ak), .val (.ref am), .val (.ref ax), .val (.ref d1), .unset] [(.int (b1 ^^^ (-1 : Int32))), (.int (1 : Int32)), (.ref d1)]))
  refine own_go (fun _ k => XT.i2b X118.here hx rfl (hb hby at_151) rfl k) ?_
  show own_E _ _ _ _ _ _ _ (T118.setTop (mkF m 152 #[.val (.int p0), .val (.int p1), .val (.int p2), .val (.int b0), .val (.int b1), .val (.int b2), .val (.ref ak), .val (.ref am), .val (.ref ax), .val (.ref d1), .unset] [(.int ((b1 ^^^ (-1 : Int32))).toInt8.toInt32), (.int (1 : Int32)), (.ref d1)]))
  obtain ⟨T119, h119, X119, e119, W119, v119, st119⟩ := own_stB X118 hx hZ e118 v118 (j := (1 : Int32)) 1 (by decide) (by simp) (by decide) (g := (mkF m 152 #[.val (.int p0), .val (.int p1), .val (.int p2), .val (.int b0), .val (.int b1), .val (.int b2), .val (.ref ak), .val (.ref am), .val (.ref ax), .val (.ref d1), .unset] [(.int ((b1 ^^^ (-1 : Int32))).toInt8.toInt32), (.int (1 : Int32)), (.ref d1)])) rfl rfl (hb hby at_152)
  replace v119 : Arv Z h119 d1 k101 .byte (3 : Int32) [(.int (nar .byte ((b0 ^^^ (-1 : Int32))).toInt8.toInt32)), (.int (nar .byte ((b1 ^^^ (-1 : Int32))).toInt8.toInt32)), .int b2] (.int 0) := v119
  have f119_3 := f118_3.wr W119
  have f119_7 := f118_7.wr W119
  have f119_8 := f118_8.other W119 (Or.inl ne113_d1_3)
  have f119_9 := f118_9.other W119 (Or.inl ne113_d1_3)
  have f119_10 := f118_10.other W119 (Or.inl ne113_d1_3)
  have f119_20 := f118_20.wr W119
  have f119_21 := f118_21.other W119 (Or.inl ne113_d1_4)
  have f119_22 := f118_22.other W119 (Or.inl ne113_d1_4)
  have f119_23 := f118_23.other W119 ne113_d1_5
  have f119_24 := f118_24.wr W119
  have f119_25 := f118_25.other W119 (Or.inl ne113_d1_4)
  have f119_26 := f118_26.other W119 ne113_d1_2
  have f119_33 := f118_33.wr W119
  have O119 := O118.wr W119 w113_d1
  have Z119 : n0 ≤ h119.size := by rw [W119.size]; exact Z118
  have N119 := Fr.snoc X119 N118 w113_d1
  refine own_go st119 ?_
  show own_E _ _ _ _ _ _ _ (T119.setTop (mkF m 153 #[.val (.int p0), .val (.int p1), .val (.int p2), .val (.int b0), .val (.int b1), .val (.int b2), .val (.ref ak), .val (.ref am), .val (.ref ax), .val (.ref d1), .unset] []))
  refine own_go (fun _ k => XS.aload X119.here hx rfl (hb hby at_153) rfl rfl k) ?_
  show own_E _ _ _ _ _ _ _ (T119.setTop (mkF m 155 #[.val (.int p0), .val (.int p1), .val (.int p2), .val (.int b0), .val (.int b1), .val (.int b2), .val (.ref ak), .val (.ref am), .val (.ref ax), .val (.ref d1), .unset] [(.ref d1)]))
  refine own_go (fun _ k => XT.iconstV X119.here hx rfl (2 : Int32) (hb hby at_155) (by decide) k) ?_
  show own_E _ _ _ _ _ _ _ (T119.setTop (mkF m 156 #[.val (.int p0), .val (.int p1), .val (.int p2), .val (.int b0), .val (.int b1), .val (.int b2), .val (.ref ak), .val (.ref am), .val (.ref ax), .val (.ref d1), .unset] [(.int (2 : Int32)), (.ref d1)]))
  refine own_go (fun _ k => XS.iload X119.here hx rfl (hb hby at_156) rfl k) ?_
  show own_E _ _ _ _ _ _ _ (T119.setTop (mkF m 158 #[.val (.int p0), .val (.int p1), .val (.int p2), .val (.int b0), .val (.int b1), .val (.int b2), .val (.ref ak), .val (.ref am), .val (.ref ax), .val (.ref d1), .unset] [(.int b2), (.int (2 : Int32)), (.ref d1)]))
  refine own_go (fun _ k => XT.iconstV X119.here hx rfl (-1 : Int32) (hb hby at_158) (by decide) k) ?_
  show own_E _ _ _ _ _ _ _ (T119.setTop (mkF m 159 #[.val (.int p0), .val (.int p1), .val (.int p2), .val (.int b0), .val (.int b1), .val (.int b2), .val (.ref ak), .val (.ref am), .val (.ref ax), .val (.ref d1), .unset] [(.int (-1 : Int32)), (.int b2), (.int (2 : Int32)), (.ref d1)]))
  refine own_go (fun _ k => XT.ixor X119.here hx rfl (hb hby at_159) rfl k) ?_
  show own_E _ _ _ _ _ _ _ (T119.setTop (mkF m 160 #[.val (.int p0), .val (.int p1), .val (.int p2), .val (.int b0), .val (.int b1), .val (.int b2), .val (.ref ak), .val (.ref am), .val (.ref ax), .val (.ref d1), .unset] [(.int (b2 ^^^ (-1 : Int32))), (.int (2 : Int32)), (.ref d1)]))
  refine own_go (fun _ k => XT.i2b X119.here hx rfl (hb hby at_160) rfl k) ?_
  show own_E _ _ _ _ _ _ _ (T119.setTop (mkF m 161 #[.val (.int p0), .val (.int p1), .val (.int p2), .val (.int b0), .val (.int b1), .val (.int b2), .val (.ref ak), .val (.ref am), .val (.ref ax), .val (.ref d1), .unset] [(.int ((b2 ^^^ (-1 : Int32))).toInt8.toInt32), (.int (2 : Int32)), (.ref d1)]))
  obtain ⟨T120, h120, X120, e120, W120, v120, st120⟩ := own_stB X119 hx hZ e119 v119 (j := (2 : Int32)) 2 (by decide) (by simp) (by decide) (g := (mkF m 161 #[.val (.int p0), .val (.int p1), .val (.int p2), .val (.int b0), .val (.int b1), .val (.int b2), .val (.ref ak), .val (.ref am), .val (.ref ax), .val (.ref d1), .unset] [(.int ((b2 ^^^ (-1 : Int32))).toInt8.toInt32), (.int (2 : Int32)), (.ref d1)])) rfl rfl (hb hby at_161)
  replace v120 : Arv Z h120 d1 k101 .byte (3 : Int32) [(.int (nar .byte ((b0 ^^^ (-1 : Int32))).toInt8.toInt32)), (.int (nar .byte ((b1 ^^^ (-1 : Int32))).toInt8.toInt32)), (.int (nar .byte ((b2 ^^^ (-1 : Int32))).toInt8.toInt32))] (.int 0) := v120
  have f120_3 := f119_3.wr W120
  have f120_7 := f119_7.wr W120
  have f120_8 := f119_8.other W120 (Or.inl ne113_d1_3)
  have f120_9 := f119_9.other W120 (Or.inl ne113_d1_3)
  have f120_10 := f119_10.other W120 (Or.inl ne113_d1_3)
  have f120_20 := f119_20.wr W120
  have f120_21 := f119_21.other W120 (Or.inl ne113_d1_4)
  have f120_22 := f119_22.other W120 (Or.inl ne113_d1_4)
  have f120_23 := f119_23.other W120 ne113_d1_5
  have f120_24 := f119_24.wr W120
  have f120_25 := f119_25.other W120 (Or.inl ne113_d1_4)
  have f120_26 := f119_26.other W120 ne113_d1_2
  have f120_33 := f119_33.wr W120
  have O120 := O119.wr W120 w113_d1
  have Z120 : n0 ≤ h120.size := by rw [W120.size]; exact Z119
  have N120 := Fr.snoc X120 N119 w113_d1
  refine own_go st120 ?_
  show own_E _ _ _ _ _ _ _ (T120.setTop (mkF m 162 #[.val (.int p0), .val (.int p1), .val (.int p2), .val (.int b0), .val (.int b1), .val (.int b2), .val (.ref ak), .val (.ref am), .val (.ref ax), .val (.ref d1), .unset] []))
  refine own_go (fun _ k => XS.aload X120.here hx rfl (hb hby at_162) rfl rfl k) ?_
  show own_E _ _ _ _ _ _ _ (T120.setTop (mkF m 164 #[.val (.int p0), .val (.int p1), .val (.int p2), .val (.int b0), .val (.int b1), .val (.int b2), .val (.ref ak), .val (.ref am), .val (.ref ax), .val (.ref d1), .unset] [(.ref ax)]))
  obtain ⟨v121, T121, L121, X121, hQ121, st121⟩ := own_callV X120 hx hZ (rm := ({ frames := 1, cells := 1, slots := 3, locals := 14 } : Room)) (W := 0) (b := ax) (argsL := []) (rest := []) (y := (⟨"com/example/arborkey/arborkey/EncryptionMaterials", "dataKey", "()[B"⟩ : MethodName)) hown (hw _ (List.mem_of_getElem? (i := 35) rfl)) (hw _ (List.mem_of_getElem? (i := 36) rfl)) (hw _ (List.mem_of_getElem? (i := 38) rfl)) (hw _ (List.mem_of_getElem? (i := 37) rfl)) (hw _ (List.mem_of_getElem? (i := 39) rfl)) (hw _ (List.mem_of_getElem? (i := 3) rfl)) (by decide) (rmDK l Z a0 hw ax ac k101 (3 : Int32) b0 b1 b2 h120 n0 Z120 (by decide) f120_22 f120_23 f120_24) e120 f120_20 (by decide) (by decide) (by decide) (by decide) (g := (mkF m 164 #[.val (.int p0), .val (.int p1), .val (.int p2), .val (.int b0), .val (.int b1), .val (.int b2), .val (.ref ak), .val (.ref am), .val (.ref ax), .val (.ref d1), .unset] [(.ref ax)])) rfl (by rw [hml]; rfl) (lenOf pd_5 rfl) rfl (Nat.le_of_ble_eq_true rfl) (hb hby at_164)
  obtain ⟨N121, E121, d2, rfl, V121, B121, g121⟩ := hQ121
  refine own_go st121 ?_
  show own_E _ _ _ _ _ _ _ (T121.setTop (mkF m 167 #[.val (.int p0), .val (.int p1), .val (.int p2), .val (.int b0), .val (.int b1), .val (.int b2), .val (.ref ak), .val (.ref am), .val (.ref ax), .val (.ref d1), .unset] [(.ref d2)]))
  have M121 := Fr.app N120 N121
  have ne121_d2_1 : em ≠ d2 := Nat.ne_of_lt (Nat.lt_of_lt_of_le (EM.ext O120.2).lt g121)
  have ne121_d2_2 : ak ≠ d2 := Nat.ne_of_lt (Nat.lt_of_lt_of_le f120_3.lt g121)
  have ne121_d2_3 : am ≠ d2 := Nat.ne_of_lt (Nat.lt_of_lt_of_le f120_7.lt g121)
  have ne121_d2_4 : ax ≠ d2 := Nat.ne_of_lt (Nat.lt_of_lt_of_le f120_20.lt g121)
  have ne121_d2_5 : ac ≠ d2 := Nat.ne_of_lt (Nat.lt_of_lt_of_le f120_23.lt g121)
  have ne121_d2_6 : d1 ≠ d2 := Nat.ne_of_lt (Nat.lt_of_lt_of_le f120_33.lt g121)
  have w121_d2 : n0 ≤ d2 := Nat.le_trans Z120 g121
  have e121 : T121.heap = T121.heap := rfl
  have f121_3 := f120_3.ext E121
  have f121_7 := f120_7.ext E121
  have f121_8 := f120_8.ext E121
  have f121_9 := f120_9.ext E121
  have f121_10 := f120_10.ext E121
  have f121_20 := f120_20.ext E121
  have f121_21 := f120_21.ext E121
  have f121_22 := f120_22.ext E121
  have f121_23 := f120_23.ext E121
  have f121_24 := f120_24.ext E121
  have f121_25 := f120_25.ext E121
  have f121_26 := f120_26.ext E121
  have f121_33 := f120_33.ext E121
  have f121_34 := v120.ext E121
  have O121 := O120.ext E121
  have Z121 := Nat.le_trans Z120 E121.1
  refine own_go (fun _ k => XS.astore X121.here hx rfl (hb hby at_167) rfl rfl (l' := #[.val (.int p0), .val (.int p1), .val (.int p2), .val (.int b0), .val (.int b1), .val (.int b2), .val (.ref ak), .val (.ref am), .val (.ref ax), .val (.ref d1), .val (.ref d2)]) rfl k) ?_
  show own_E _ _ _ _ _ _ _ (T121.setTop (mkF m 169 #[.val (.int p0), .val (.int p1), .val (.int p2), .val (.int b0), .val (.int b1), .val (.int b2), .val (.ref ak), .val (.ref am), .val (.ref ax), .val (.ref d1), .val (.ref d2)] []))
  refine own_go (fun _ k => XS.aload X121.here hx rfl (hb hby at_169) rfl rfl k) ?_
  show own_E _ _ _ _ _ _ _ (T121.setTop (mkF m 171 #[.val (.int p0), .val (.int p1), .val (.int p2), .val (.int b0), .val (.int b1), .val (.int b2), .val (.ref ak), .val (.ref am), .val (.ref ax), .val (.ref d1), .val (.ref d2)] [(.ref d2)]))
  refine own_go (fun _ k => XS.ifnullNo X121.here hx rfl (hb hby at_171) rfl k) ?_
  show own_E _ _ _ _ _ _ _ (T121.setTop (mkF m 174 #[.val (.int p0), .val (.int p1), .val (.int p2), .val (.int b0), .val (.int b1), .val (.int b2), .val (.ref ak), .val (.ref am), .val (.ref ax), .val (.ref d1), .val (.ref d2)] []))
  refine own_go (fun _ k => XS.aload X121.here hx rfl (hb hby at_174) rfl rfl k) ?_
  show own_E _ _ _ _ _ _ _ (T121.setTop (mkF m 176 #[.val (.int p0), .val (.int p1), .val (.int p2), .val (.int b0), .val (.int b1), .val (.int b2), .val (.ref ak), .val (.ref am), .val (.ref ax), .val (.ref d1), .val (.ref d2)] [(.ref d2)]))
  refine own_go (fun _ k => XS.aload X121.here hx rfl (hb hby at_176) rfl rfl k) ?_
  show own_E _ _ _ _ _ _ _ (T121.setTop (mkF m 178 #[.val (.int p0), .val (.int p1), .val (.int p2), .val (.int b0), .val (.int b1), .val (.int b2), .val (.ref ak), .val (.ref am), .val (.ref ax), .val (.ref d1), .val (.ref d2)] [(.ref d1), (.ref d2)]))
  refine own_go (fun _ k => Jvm.RoadKit.acmp (g := (mkF m 178 #[.val (.int p0), .val (.int p1), .val (.int p2), .val (.int b0), .val (.int b1), .val (.int b2), .val (.ref ak), .val (.ref am), .val (.ref ax), .val (.ref d1), .val (.ref d2)] [(.ref d1), (.ref d2)])) X121 hx rfl rfl rfl (pc0 := 178) (pc' := 181) (same := false) rfl (hb hby at_178) rfl (decide_eq_false (fun z => ne121_d2_6.symm (Value.ref.inj z))) (by decide) (by decide) k) ?_
  show own_E _ _ _ _ _ _ _ (T121.setTop (mkF m 181 #[.val (.int p0), .val (.int p1), .val (.int p2), .val (.int b0), .val (.int b1), .val (.int b2), .val (.ref ak), .val (.ref am), .val (.ref ax), .val (.ref d1), .val (.ref d2)] []))
  refine own_go (fun _ k => XS.aload X121.here hx rfl (hb hby at_181) rfl rfl k) ?_
  show own_E _ _ _ _ _ _ _ (T121.setTop (mkF m 183 #[.val (.int p0), .val (.int p1), .val (.int p2), .val (.int b0), .val (.int b1), .val (.int b2), .val (.ref ak), .val (.ref am), .val (.ref ax), .val (.ref d1), .val (.ref d2)] [(.ref d2)]))
  obtain ⟨c122, a122, u122⟩ := own_len V121
  refine own_go (own_alen X121 hx hZ e121 a122 u122 (g := (mkF m 183 #[.val (.int p0), .val (.int p1), .val (.int p2), .val (.int b0), .val (.int b1), .val (.int b2), .val (.ref ak), .val (.ref am), .val (.ref ax), .val (.ref d1), .val (.ref d2)] [(.ref d2)])) rfl rfl (hb hby at_183)) ?_
  show own_E _ _ _ _ _ _ _ (T121.setTop (mkF m 184 #[.val (.int p0), .val (.int p1), .val (.int p2), .val (.int b0), .val (.int b1), .val (.int b2), .val (.ref ak), .val (.ref am), .val (.ref ax), .val (.ref d1), .val (.ref d2)] [(.int (3 : Int32))]))
  refine own_go (fun _ k => XT.iconstV X121.here hx rfl (3 : Int32) (hb hby at_184) (by decide) k) ?_
  show own_E _ _ _ _ _ _ _ (T121.setTop (mkF m 185 #[.val (.int p0), .val (.int p1), .val (.int p2), .val (.int b0), .val (.int b1), .val (.int b2), .val (.ref ak), .val (.ref am), .val (.ref ax), .val (.ref d1), .val (.ref d2)] [(.int (3 : Int32)), (.int (3 : Int32))]))
  refine own_go (fun _ k => XS.icmpYes X121.here hx rfl (pc0 := 185) (pc' := 190) rfl (hb hby at_185) rfl (by decide) (by decide) (by decide) k) ?_
  show own_E _ _ _ _ _ _ _ (T121.setTop (mkF m 190 #[.val (.int p0), .val (.int p1), .val (.int p2), .val (.int b0), .val (.int b1), .val (.int b2), .val (.ref ak), .val (.ref am), .val (.ref ax), .val (.ref d1), .val (.ref d2)] []))
  refine own_go (fun _ k => XS.aload X121.here hx rfl (hb hby at_190) rfl rfl k) ?_
  show own_E _ _ _ _ _ _ _ (T121.setTop (mkF m 192 #[.val (.int p0), .val (.int p1), .val (.int p2), .val (.int b0), .val (.int b1), .val (.int b2), .val (.ref ak), .val (.ref am), .val (.ref ax), .val (.ref d1), .val (.ref d2)] [(.ref d2)]))
  refine own_go (fun _ k => XT.iconstV X121.here hx rfl (0 : Int32) (hb hby at_192) (by decide) k) ?_
  show own_E _ _ _ _ _ _ _ (T121.setTop (mkF m 193 #[.val (.int p0), .val (.int p1), .val (.int p2), .val (.int b0), .val (.int b1), .val (.int b2), .val (.ref ak), .val (.ref am), .val (.ref ax), .val (.ref d1), .val (.ref d2)] [(.int (0 : Int32)), (.ref d2)]))
  obtain ⟨c123, a123, i123, u123⟩ := own_at V121 (j := (0 : Int32)) (by decide)
  refine own_go (own_baload X121 hx hZ e121 a123 (j := (0 : Int32)) (v := (.int b0)) i123 u123 (g := (mkF m 193 #[.val (.int p0), .val (.int p1), .val (.int p2), .val (.int b0), .val (.int b1), .val (.int b2), .val (.ref ak), .val (.ref am), .val (.ref ax), .val (.ref d1), .val (.ref d2)] [(.int (0 : Int32)), (.ref d2)])) rfl rfl (hb hby at_193)) ?_
  show own_E _ _ _ _ _ _ _ (T121.setTop (mkF m 194 #[.val (.int p0), .val (.int p1), .val (.int p2), .val (.int b0), .val (.int b1), .val (.int b2), .val (.ref ak), .val (.ref am), .val (.ref ax), .val (.ref d1), .val (.ref d2)] [(.int b0)]))
  refine own_go (fun _ k => XS.iloadN X121.here hx rfl (hb hby at_194) rfl k) ?_
  show own_E _ _ _ _ _ _ _ (T121.setTop (mkF m 195 #[.val (.int p0), .val (.int p1), .val (.int p2), .val (.int b0), .val (.int b1), .val (.int b2), .val (.ref ak), .val (.ref am), .val (.ref ax), .val (.ref d1), .val (.ref d2)] [(.int b0), (.int b0)]))
  refine own_go (fun _ k => XS.icmpNo X121.here hx rfl (hb hby at_195) rfl (teq rfl).2 k) ?_
  show own_E _ _ _ _ _ _ _ (T121.setTop (mkF m 198 #[.val (.int p0), .val (.int p1), .val (.int p2), .val (.int b0), .val (.int b1), .val (.int b2), .val (.ref ak), .val (.ref am), .val (.ref ax), .val (.ref d1), .val (.ref d2)] []))
  refine own_go (fun _ k => XS.aload X121.here hx rfl (hb hby at_198) rfl rfl k) ?_
  show own_E _ _ _ _ _ _ _ (T121.setTop (mkF m 200 #[.val (.int p0), .val (.int p1), .val (.int p2), .val (.int b0), .val (.int b1), .val (.int b2), .val (.ref ak), .val (.ref am), .val (.ref ax), .val (.ref d1), .val (.ref d2)] [(.ref d2)]))
  refine own_go (fun _ k => XT.iconstV X121.here hx rfl (1 : Int32) (hb hby at_200) (by decide) k) ?_
  show own_E _ _ _ _ _ _ _ (T121.setTop (mkF m 201 #[.val (.int p0), .val (.int p1), .val (.int p2), .val (.int b0), .val (.int b1), .val (.int b2), .val (.ref ak), .val (.ref am), .val (.ref ax), .val (.ref d1), .val (.ref d2)] [(.int (1 : Int32)), (.ref d2)]))
  obtain ⟨c124, a124, i124, u124⟩ := own_at V121 (j := (1 : Int32)) (by decide)
  refine own_go (own_baload X121 hx hZ e121 a124 (j := (1 : Int32)) (v := (.int b1)) i124 u124 (g := (mkF m 201 #[.val (.int p0), .val (.int p1), .val (.int p2), .val (.int b0), .val (.int b1), .val (.int b2), .val (.ref ak), .val (.ref am), .val (.ref ax), .val (.ref d1), .val (.ref d2)] [(.int (1 : Int32)), (.ref d2)])) rfl rfl (hb hby at_201)) ?_
  show own_E _ _ _ _ _ _ _ (T121.setTop (mkF m 202 #[.val (.int p0), .val (.int p1), .val (.int p2), .val (.int b0), .val (.int b1), .val (.int b2), .val (.ref ak), .val (.ref am), .val (.ref ax), .val (.ref d1), .val (.ref d2)] [(.int b1)]))
  refine own_go (fun _ k => XS.iload X121.here hx rfl (hb hby at_202) rfl k) ?_
  show own_E _ _ _ _ _ _ _ (T121.setTop (mkF m 204 #[.val (.int p0), .val (.int p1), .val (.int p2), .val (.int b0), .val (.int b1), .val (.int b2), .val (.ref ak), .val (.ref am), .val (.ref ax), .val (.ref d1), .val (.ref d2)] [(.int b1), (.int b1)]))
  refine own_go (fun _ k => XS.icmpNo X121.here hx rfl (hb hby at_204) rfl (teq rfl).2 k) ?_
  show own_E _ _ _ _ _ _ _ (T121.setTop (mkF m 207 #[.val (.int p0), .val (.int p1), .val (.int p2), .val (.int b0), .val (.int b1), .val (.int b2), .val (.ref ak), .val (.ref am), .val (.ref ax), .val (.ref d1), .val (.ref d2)] []))
  refine own_go (fun _ k => XS.aload X121.here hx rfl (hb hby at_207) rfl rfl k) ?_
  show own_E _ _ _ _ _ _ _ (T121.setTop (mkF m 209 #[.val (.int p0), .val (.int p1), .val (.int p2), .val (.int b0), .val (.int b1), .val (.int b2), .val (.ref ak), .val (.ref am), .val (.ref ax), .val (.ref d1), .val (.ref d2)] [(.ref d2)]))
  refine own_go (fun _ k => XT.iconstV X121.here hx rfl (2 : Int32) (hb hby at_209) (by decide) k) ?_
  show own_E _ _ _ _ _ _ _ (T121.setTop (mkF m 210 #[.val (.int p0), .val (.int p1), .val (.int p2), .val (.int b0), .val (.int b1), .val (.int b2), .val (.ref ak), .val (.ref am), .val (.ref ax), .val (.ref d1), .val (.ref d2)] [(.int (2 : Int32)), (.ref d2)]))
  obtain ⟨c125, a125, i125, u125⟩ := own_at V121 (j := (2 : Int32)) (by decide)
  refine own_go (own_baload X121 hx hZ e121 a125 (j := (2 : Int32)) (v := (.int b2)) i125 u125 (g := (mkF m 210 #[.val (.int p0), .val (.int p1), .val (.int p2), .val (.int b0), .val (.int b1), .val (.int b2), .val (.ref ak), .val (.ref am), .val (.ref ax), .val (.ref d1), .val (.ref d2)] [(.int (2 : Int32)), (.ref d2)])) rfl rfl (hb hby at_210)) ?_
  show own_E _ _ _ _ _ _ _ (T121.setTop (mkF m 211 #[.val (.int p0), .val (.int p1), .val (.int p2), .val (.int b0), .val (.int b1), .val (.int b2), .val (.ref ak), .val (.ref am), .val (.ref ax), .val (.ref d1), .val (.ref d2)] [(.int b2)]))
  refine own_go (fun _ k => XS.iload X121.here hx rfl (hb hby at_211) rfl k) ?_
  show own_E _ _ _ _ _ _ _ (T121.setTop (mkF m 213 #[.val (.int p0), .val (.int p1), .val (.int p2), .val (.int b0), .val (.int b1), .val (.int b2), .val (.ref ak), .val (.ref am), .val (.ref ax), .val (.ref d1), .val (.ref d2)] [(.int b2), (.int b2)]))
  refine own_go (fun _ k => XS.icmpNo X121.here hx rfl (hb hby at_213) rfl (teq rfl).2 k) ?_
  show own_E _ _ _ _ _ _ _ (T121.setTop (mkF m 216 #[.val (.int p0), .val (.int p1), .val (.int p2), .val (.int b0), .val (.int b1), .val (.int b2), .val (.ref ak), .val (.ref am), .val (.ref ax), .val (.ref d1), .val (.ref d2)] []))
  refine own_go (fun _ k => XS.aload X121.here hx rfl (hb hby at_216) rfl rfl k) ?_
  show own_E _ _ _ _ _ _ _ (T121.setTop (mkF m 218 #[.val (.int p0), .val (.int p1), .val (.int p2), .val (.int b0), .val (.int b1), .val (.int b2), .val (.ref ak), .val (.ref am), .val (.ref ax), .val (.ref d1), .val (.ref d2)] [(.ref am)]))
  obtain ⟨v126, T126, L126, X126, hQ126, st126⟩ := own_callV X121 hx hZ (rm := ({ frames := 1, cells := 1, slots := 3, locals := 14 } : Room)) (W := 0) (b := am) (argsL := []) (rest := []) (y := (⟨"com/example/arborkey/arborkey/EncryptionMaterials", "dataKey", "()[B"⟩ : MethodName)) hown (hw _ (List.mem_of_getElem? (i := 35) rfl)) (hw _ (List.mem_of_getElem? (i := 36) rfl)) (hw _ (List.mem_of_getElem? (i := 38) rfl)) (hw _ (List.mem_of_getElem? (i := 37) rfl)) (hw _ (List.mem_of_getElem? (i := 39) rfl)) (hw _ (List.mem_of_getElem? (i := 3) rfl)) (by decide) (rmDN l Z a0 hw am T121.heap n0 Z121 f121_9) e121 f121_7 (by decide) (by decide) (by decide) (by decide) (g := (mkF m 218 #[.val (.int p0), .val (.int p1), .val (.int p2), .val (.int b0), .val (.int b1), .val (.int b2), .val (.ref ak), .val (.ref am), .val (.ref ax), .val (.ref d1), .val (.ref d2)] [(.ref am)])) rfl (by rw [hml]; rfl) (lenOf pd_5 rfl) rfl (Nat.le_of_ble_eq_true rfl) (hb hby at_218)
  obtain ⟨rfl, N126, e126⟩ := hQ126
  refine own_go st126 ?_
  show own_E _ _ _ _ _ _ _ (T126.setTop (mkF m 221 #[.val (.int p0), .val (.int p1), .val (.int p2), .val (.int b0), .val (.int b1), .val (.int b2), .val (.ref ak), .val (.ref am), .val (.ref ax), .val (.ref d1), .val (.ref d2)] [.null]))
  have M126 := Fr.app M121 N126
  refine own_go (fun _ k => XT.ifnonnullNo X126.here hx rfl (hb hby at_221) rfl k) ?_
  show own_E _ _ _ _ _ _ _ (T126.setTop (mkF m 224 #[.val (.int p0), .val (.int p1), .val (.int p2), .val (.int b0), .val (.int b1), .val (.int b2), .val (.ref ak), .val (.ref am), .val (.ref ax), .val (.ref d1), .val (.ref d2)] []))
  refine own_go (fun _ k => XT.iconstV X126.here hx rfl (1 : Int32) (hb hby at_224) (by decide) k) ?_
  show own_E _ _ _ _ _ _ _ (T126.setTop (mkF m 225 #[.val (.int p0), .val (.int p1), .val (.int p2), .val (.int b0), .val (.int b1), .val (.int b2), .val (.ref ak), .val (.ref am), .val (.ref ax), .val (.ref d1), .val (.ref d2)] [(.int (1 : Int32))]))
  refine own_go (fun _ k => XS.goto X126.here hx rfl (pc0 := 225) (pc' := 229) rfl (hb hby at_225) (by decide) (by decide) k) ?_
  show own_E _ _ _ _ _ _ _ (T126.setTop (mkF m 229 #[.val (.int p0), .val (.int p1), .val (.int p2), .val (.int b0), .val (.int b1), .val (.int b2), .val (.ref ak), .val (.ref am), .val (.ref ax), .val (.ref d1), .val (.ref d2)] [(.int (1 : Int32))]))
  exact own_ret X126 hx Bd.returns Bd.notSynchronized rfl (Or.inl ⟨rfl, by simp, _, rfl⟩) (hb hby at_229) (by rw [e126]; exact ⟨rfl, M126⟩) (by decide) (by decide)
set_option maxRecDepth 65536 in
set_option maxHeartbeats 40000000 in
theorem comes_1 {Post : Tables → Env → Array Value → State → Outcome → State → Prop} (hpost : ∀ tb e args s v u, (limb_1_1.after args s (.returned v) u = true ∧ limb_1_2.after args s (.returned v) u = true ∧ True) → FrameEnd s (.returned v) u (Jvm.fieldLocs frame_1_writes args s ++ Jvm.arrayLocs frame_1_arrays args s ++ Jvm.staticLocs frame_1_statics s) 24 128 → Post tb e args s (.returned v) u) :
    ArmFor flags0 classFile x code maxLocals ret World_1 tables_1 room_1 Calls_1 rest_1 Pre_1 Post := by
  intro l hfl _ _ p e ha hc hk s m args below hf hA hF happ hP
  obtain ⟨hcalls, hrest, hpre⟩ := hP
  obtain ⟨-, -, -, hnamed, -, -, -, hat⟩ := (Spec.applies_iff hf).mp happ
  obtain ⟨hg, hn⟩ := and_e (Cond.before_iff.mp (show (Jvm.Cond.and given_1 narrow_1).before args s = true from hpre))
  obtain ⟨hcount, hg⟩ := and_e hg
  obtain ⟨w0, w1, w2, rfl⟩ : ∃ w0 w1 w2 : Value, args = #[w0, w1, w2] := by
    have hs : args.size = 3 := by simpa [Cond.value, given_1] using hcount
    obtain ⟨L⟩ := args
    match L, hs with
    | [w0, w1, w2], _ => exact ⟨w0, w1, w2, rfl⟩
  have hw := fun d (hd : d ∈ tables_1) => atoms_spec (ws := Jvm.Cond.code x code maxLocals ret :: tables_1) hat d (List.mem_cons_of_mem _ hd)
  have hfit : Fit s := fun {y c} hc i hi => by
    obtain ⟨ha, rfl⟩ := Array.getElem?_eq_some_iff.mp hc
    have q := List.all_eq_true.mp ((Array.all_eq_true_iff_forall_mem.mp hF) _ (Array.getElem_mem ha)) i (List.mem_range.mpr hi)
    simpa [Array.getElem?_eq_getElem hi] using q
  obtain ⟨hg0, hg⟩ := and_e hg
  obtain ⟨i0, q0⟩ := is_v hg0
  obtain rfl : w0 = (.int i0) := Option.some.inj q0
  obtain ⟨hg1, hg⟩ := and_e hg
  obtain ⟨i1, q1⟩ := is_v hg1
  obtain rfl : w1 = (.int i1) := Option.some.inj q1
  have hg2 := hg
  obtain ⟨i2, q2⟩ := is_v hg2
  obtain rfl : w2 = (.int i2) := Option.some.inj q2
  obtain ⟨hsets, -⟩ := atoms_of jdkStatics_1 (show (jdkStatics_1.foldr Jvm.Cond.and restOwn_1).before _ s = true from hrest)
  obtain ⟨em, ev_em⟩ := exa_v (Cond.before_iff.mp (hsets _ (List.mem_of_getElem? (i := 2) rfl)))
  have SM := Sta.start ev_em (Or.inl (hsets _ (List.mem_of_getElem? (i := 1) rfl)))
  have EM := Exa.start ev_em (Cond.before_iff.mp (hsets _ (List.mem_of_getElem? (i := 2) rfl)))
  obtain ⟨el, ev_el⟩ := exa_v (Cond.before_iff.mp (hsets _ (List.mem_of_getElem? (i := 9) rfl)))
  have SL := Sta.start ev_el (Or.inl (hsets _ (List.mem_of_getElem? (i := 8) rfl)))
  obtain ⟨n, o, h1, h2, h3, _, L, rfl, ⟨rfl, N⟩, hq⟩ := rm0 l s _ hw tables_1 i0 i1 i2 em el s.heap s.heap.size (Nat.le_refl _) (Old.start s) SM EM SL p e ha hc hk s m _ below hf ((Spec.applies_iff_loose hf).mp happ).1 ⟨rfl, State.Warmed39.refl s, rfl⟩ trivial
  refine ⟨n, _, h1, h2, h3, hpost _ _ _ _ _ _ ⟨Cond.after_iff.mpr rfl, Cond.after_iff.mpr (eq_i res_at (Term.int_eval (1)) rfl), trivial⟩ ⟨hq.1, hq.2.1, (hq.2.2.sift fun y hy => Or.inr (N y hy)).mono (by decide) (by decide)⟩⟩
theorem main_1_1 : Claimed_1_1 := comes_1 fun _ _ _ _ _ _ h hF => ⟨h.1, hF⟩
theorem main_1_2 : Claimed_1_2 := comes_1 fun _ _ _ _ _ _ h hF => ⟨h.2.1, hF⟩
end Jvm.Pilot.@@N@@
namespace Jvm.Pilot.@@N@@
open Jvm Jvm.ClassFile Sem Op Lib Jvm.Free Jvm.Stand Jvm.Pilot.@@N@@.Jvm.D
/-! MADE BY PROGRAM (witnessworld.py) out of the Statement's table words and the real class files: 24 classes; the members and pool entries that the words name. The judged class is class 1, her method 1. -/
namespace start1
open Jvm.ClassFile
def u (s : String) : CpInfo := .utf8 (stringToUtf16 s)
/-- a pool by its gaps: so many unusable entries, then the entry; so many at the end -/
def gap : Nat → List CpInfo → List CpInfo
  | 0, r => r
  | n + 1, r => .unusable :: gap n r
def poolList (es : List (Nat × CpInfo)) (last : Nat) : List CpInfo := es.foldr (fun e r => gap e.1 (e.2 :: r)) (gap last [])
def pool (es : List (Nat × CpInfo)) (last : Nat) : Array CpInfo := ⟨poolList es last⟩
def fileOf (pool : Array CpInfo) (this : Nat) (attrs : Array Attribute := #[]) (ms : Array MethodInfo := #[]) (fl : Nat := 33) (sup : Nat := 0) (ifs : Array Nat := #[]) (fds : Array FieldInfo := #[]) : ClassFile where
  minorVersion := 0
  majorVersion := 65
  constantPool := pool
  accessFlags := fl
  thisClass := this
  superClass := sup
  interfaces := ifs
  fields := fds
  methods := ms
  attributes := attrs
def plain (name : String) (sup : Option ClassId) : Class where
  name := name
  kind := .ordinary
  loader := none
  accessFlags := 33
  super := sup
  interfaces := #[]
  cf := none
  fields := #[]
  methods := #[]
  instanceTypes := #[]
  staticTypes := #[]
  resolved := #[]
  callSites := []
  init := .initialized
  statics := none
  mirror := none

def pool0 : Array CpInfo := pool [(5, u "<init>"), (0, u "()V"), (1, .class_ 10), (1, u "java/lang/Object"), (85, u "clone"), (0, u "()Ljava/lang/Object;")] 26

def k0c0 : Code := { maxStack := 0, maxLocals := 1, code := object_method_1_code, exceptionTable := #[], attributes := #[] }
def k0m0 : Method := { name := "<init>", desc := "()V", sig := { parameters := [], returnType := none }, accessFlags := 1, code := some k0c0 }
def k0m1 : Method := { name := "clone", desc := "()Ljava/lang/Object;", sig := { parameters := [], returnType := some (.object "java/lang/Object") }, accessFlags := 260, code := none }
/-- java/lang/Object -/
def k0 : Class := { plain "java/lang/Object" none with
  accessFlags := 33
  interfaces := #[]
  cf := some (fileOf pool0 8 #[] #[{ accessFlags := 1, nameIndex := 5, descriptorIndex := 6, attributes := #[] }, { accessFlags := 260, nameIndex := 96, descriptorIndex := 97, attributes := #[] }] 33 0 #[] #[])
  fields := #[]
  methods := #[k0m0, k0m1]
  instanceTypes := #[]
  staticTypes := #[]
  resolved := Array.replicate 124 none
  statics := none }

def pool1 : Array CpInfo := pool [(2, .class_ 4), (1, u "java/lang/Object"), (0, u "<init>"), (0, u "()V"), (0, .class_ 8), (0, u "com/example/arborkey/arborkey/EncryptionMaterials"), (0, .interfaceMethodref 10 11), (0, .class_ 12), (0, .nameAndType 13 14), (0, u "java/util/Map"), (0, u "of"), (0, u "()Ljava/util/Map;"), (0, .methodref 7 16), (0, .nameAndType 5 17), (0, u "(Ljava/util/Map;)V"), (0, .methodref 7 19), (0, .nameAndType 20 21), (0, u "dataKey"), (0, u "()[B"), (0, .methodref 7 23), (0, .nameAndType 24 25), (0, u "withDataKey"), (0, u "([B)Lcom/example/arborkey/arborkey/EncryptionMaterials;"), (0, .class_ 27), (0, u "com/example/arborkey/arborkey/EncryptionMaterialsDataKeyPinLaw"), (2, u "law"), (0, u "(III)Z")] 5

def k1m0 : Method := { name := "<init>", desc := "()V", sig := { parameters := [], returnType := none }, accessFlags := 1, code := none }
def k1c1 : Code := { maxStack := 4, maxLocals := 11, code := code, exceptionTable := #[], attributes := #[] }
def k1m1 : Method := { name := "law", desc := "(III)Z", sig := { parameters := [.int, .int, .int], returnType := some .boolean }, accessFlags := 9, code := some k1c1 }
/-- com/example/arborkey/arborkey/EncryptionMaterialsDataKeyPinLaw -/
def k1 : Class := { plain "com/example/arborkey/arborkey/EncryptionMaterialsDataKeyPinLaw" (some 0) with
  accessFlags := 49
  interfaces := #[]
  cf := some (fileOf pool1 26 #[] #[{ accessFlags := 1, nameIndex := 5, descriptorIndex := 6, attributes := #[] }, { accessFlags := 9, nameIndex := 30, descriptorIndex := 31, attributes := #[] }] 49 2 #[] #[])
  fields := #[]
  methods := #[k1m0, k1m1]
  instanceTypes := #[]
  staticTypes := #[]
  resolved := Array.replicate 37 none
  statics := none }

def pool2 : Array CpInfo := pool [(1, .interfaceMethodref 2 3), (0, .class_ 4), (0, .nameAndType 5 6), (0, u "java/util/Map"), (0, u "copyOf"), (0, u "(Ljava/util/Map;)Ljava/util/Map;"), (0, .interfaceMethodref 8 9), (0, .class_ 10), (0, .nameAndType 11 12), (0, u "java/util/List"), (0, u "of"), (0, u "()Ljava/util/List;"), (0, .methodref 14 15), (0, .class_ 16), (0, .nameAndType 17 18), (0, u "com/example/arborkey/arborkey/EncryptionMaterials"), (0, u "<init>"), (0, u "(Ljava/util/Map;[BLjava/util/List;)V"), (0, .methodref 20 21), (0, .class_ 22), (0, .nameAndType 17 23), (0, u "java/lang/Object"), (0, u "()V"), (0, .fieldref 14 25), (0, .nameAndType 26 27), (0, u "encryptionContext"), (0, u "Ljava/util/Map;"), (0, .fieldref 14 29), (0, .nameAndType 30 31), (0, u "dataKey"), (0, u "[B"), (0, .fieldref 14 33), (0, .nameAndType 34 35), (0, u "wrappedKeys"), (0, u "Ljava/util/List;"), (0, .methodref 37 38), (0, .class_ 31), (0, .nameAndType 39 40), (0, u "clone"), (0, u "()Ljava/lang/Object;"), (15, u "(Ljava/util/Map;)V"), (6, u "()[B"), (2, u "withDataKey"), (0, u "([B)Lcom/example/arborkey/arborkey/EncryptionMaterials;")] 4

def k2c0 : Code := { maxStack := 4, maxLocals := 2, code := prog_33_method_1_code, exceptionTable := #[], attributes := #[] }
def k2m0 : Method := { name := "<init>", desc := "(Ljava/util/Map;)V", sig := { parameters := [(.object "java/util/Map")], returnType := none }, accessFlags := 1, code := some k2c0 }
def k2c1 : Code := { maxStack := 2, maxLocals := 4, code := prog_33_method_2_code, exceptionTable := #[], attributes := #[] }
def k2m1 : Method := { name := "<init>", desc := "(Ljava/util/Map;[BLjava/util/List;)V", sig := { parameters := [(.object "java/util/Map"), (.array .byte), (.object "java/util/List")], returnType := none }, accessFlags := 2, code := some k2c1 }
def k2c2 : Code := { maxStack := 1, maxLocals := 1, code := prog_33_method_4_code, exceptionTable := #[], attributes := #[] }
def k2m2 : Method := { name := "dataKey", desc := "()[B", sig := { parameters := [], returnType := some (.array .byte) }, accessFlags := 1, code := some k2c2 }
def k2c3 : Code := { maxStack := 5, maxLocals := 2, code := prog_33_method_6_code, exceptionTable := #[], attributes := #[] }
def k2m3 : Method := { name := "withDataKey", desc := "([B)Lcom/example/arborkey/arborkey/EncryptionMaterials;", sig := { parameters := [(.array .byte)], returnType := some (.object "com/example/arborkey/arborkey/EncryptionMaterials") }, accessFlags := 1, code := some k2c3 }
/-- com/example/arborkey/arborkey/EncryptionMaterials -/
def k2 : Class := { plain "com/example/arborkey/arborkey/EncryptionMaterials" (some 0) with
  accessFlags := 49
  interfaces := #[]
  cf := some (fileOf pool2 14 #[] #[{ accessFlags := 1, nameIndex := 17, descriptorIndex := 56, attributes := #[] }, { accessFlags := 2, nameIndex := 17, descriptorIndex := 18, attributes := #[] }, { accessFlags := 1, nameIndex := 30, descriptorIndex := 63, attributes := #[] }, { accessFlags := 1, nameIndex := 66, descriptorIndex := 67, attributes := #[] }] 49 20 #[] #[{ accessFlags := 18, nameIndex := 26, descriptorIndex := 27, attributes := #[] }, { accessFlags := 18, nameIndex := 30, descriptorIndex := 31, attributes := #[] }, { accessFlags := 18, nameIndex := 34, descriptorIndex := 35, attributes := #[] }])
  fields := #[{ name := "encryptionContext", type := (.object "java/util/Map"), accessFlags := 18, slot := 0, constantValue := 0 }, { name := "dataKey", type := (.array .byte), accessFlags := 18, slot := 1, constantValue := 0 }, { name := "wrappedKeys", type := (.object "java/util/List"), accessFlags := 18, slot := 2, constantValue := 0 }]
  methods := #[k2m0, k2m1, k2m2, k2m3]
  instanceTypes := #[(.object "java/util/Map"), (.array .byte), (.object "java/util/List")]
  staticTypes := #[]
  resolved := Array.replicate 72 none
  statics := none }

def pool3 : Array CpInfo := pool [(2, .class_ 4), (1, u "java/util/Map"), (31, .class_ 37), (0, u "java/util/Map$Entry"), (43, .fieldref 82 83), (0, .class_ 84), (0, .nameAndType 85 86), (0, u "java/util/ImmutableCollections"), (0, u "EMPTY_MAP"), (0, u "Ljava/util/ImmutableCollections$MapN;"), (6, .class_ 94), (0, u "java/lang/Object"), (6, .class_ 102), (0, u "java/util/ImmutableCollections$AbstractImmutableMap"), (5, u "of"), (0, u "()Ljava/util/Map;"), (140, u "copyOf"), (0, u "(Ljava/util/Map;)Ljava/util/Map;")] 11

def k3c0 : Code := { maxStack := 1, maxLocals := 0, code := jdk_72_method_26_code, exceptionTable := #[], attributes := #[] }
def k3m0 : Method := { name := "of", desc := "()Ljava/util/Map;", sig := { parameters := [], returnType := some (.object "java/util/Map") }, accessFlags := 9, code := some k3c0 }
def k3c1 : Code := { maxStack := 2, maxLocals := 1, code := jdk_72_method_39_code, exceptionTable := #[], attributes := #[] }
def k3m1 : Method := { name := "copyOf", desc := "(Ljava/util/Map;)Ljava/util/Map;", sig := { parameters := [(.object "java/util/Map")], returnType := some (.object "java/util/Map") }, accessFlags := 9, code := some k3c1 }
/-- java/util/Map -/
def k3 : Class := { plain "java/util/Map" (some 0) with
  accessFlags := 1537
  interfaces := #[]
  cf := some (fileOf pool3 2 #[.nestMembers #[36]] #[{ accessFlags := 9, nameIndex := 108, descriptorIndex := 109, attributes := #[] }, { accessFlags := 9, nameIndex := 250, descriptorIndex := 251, attributes := #[] }] 1537 93 #[] #[])
  fields := #[]
  methods := #[k3m0, k3m1]
  instanceTypes := #[]
  staticTypes := #[]
  resolved := Array.replicate 263 none
  statics := none }

def pool4 : Array CpInfo := pool [(2, .class_ 4), (1, u "java/lang/Object"), (0, u "<init>"), (0, u "()V"), (3, .class_ 11), (0, u "java/util/ImmutableCollections$List12"), (0, .class_ 13), (0, u "java/util/ImmutableCollections$ListN"), (3, u "Z"), (29, .class_ 49), (1, u "java/util/ImmutableCollections"), (0, u "$assertionsDisabled"), (5, u "[Ljava/lang/Object;"), (5, u "EMPTY_LIST"), (0, u "Ljava/util/ImmutableCollections$ListN;"), (8, u "EMPTY_LIST_NULLS"), (22, u "SALT32L"), (0, u "J"), (2, u "REVERSE"), (6, u "archivedObjects"), (2, u "EMPTY"), (0, u "Ljava/lang/Object;"), (0, .class_ 112), (0, u "java/util/ImmutableCollections$SetN"), (5, u "EMPTY_SET"), (0, u "Ljava/util/ImmutableCollections$SetN;"), (0, .class_ 121), (0, u "java/util/ImmutableCollections$MapN"), (3, u "EMPTY_MAP"), (0, u "Ljava/util/ImmutableCollections$MapN;"), (4, u "EXPAND_FACTOR"), (0, u "I"), (36, .class_ 170), (0, u "java/util/ImmutableCollections$MapN$MapNIterator"), (0, .class_ 172), (0, u "java/util/ImmutableCollections$MapN$1"), (0, .class_ 174), (0, u "java/util/ImmutableCollections$Map1"), (0, .class_ 176), (0, u "java/util/ImmutableCollections$AbstractImmutableMap"), (0, .class_ 178), (0, u "java/util/ImmutableCollections$SetN$SetNIterator"), (0, .class_ 180), (0, u "java/util/ImmutableCollections$Set12"), (0, .class_ 182), (0, u "java/util/ImmutableCollections$Set12$1"), (0, .class_ 184), (0, u "java/util/ImmutableCollections$AbstractImmutableSet"), (0, .class_ 186), (0, u "java/util/ImmutableCollections$SubList"), (0, .class_ 188), (0, u "java/util/ImmutableCollections$ListItr"), (0, .class_ 190), (0, u "java/util/ImmutableCollections$AbstractImmutableList"), (0, .class_ 192), (0, u "java/util/ImmutableCollections$AbstractImmutableCollection"), (0, .class_ 194), (0, u "java/util/ImmutableCollections$Access"), (0, .class_ 196), (0, u "java/util/ImmutableCollections$Access$1")] 16

def k4m0 : Method := { name := "<init>", desc := "()V", sig := { parameters := [], returnType := none }, accessFlags := 2, code := none }
/-- java/util/ImmutableCollections -/
def k4 : Class := { plain "java/util/ImmutableCollections" (some 0) with
  accessFlags := 32
  interfaces := #[]
  cf := some (fileOf pool4 47 #[.nestMembers #[120, 169, 171, 173, 175, 111, 177, 179, 181, 183, 12, 10, 185, 187, 189, 191, 193, 195]] #[{ accessFlags := 2, nameIndex := 5, descriptorIndex := 6, attributes := #[] }] 32 2 #[] #[{ accessFlags := 26, nameIndex := 95, descriptorIndex := 96, attributes := #[] }, { accessFlags := 26, nameIndex := 99, descriptorIndex := 17, attributes := #[] }, { accessFlags := 10, nameIndex := 106, descriptorIndex := 56, attributes := #[] }, { accessFlags := 26, nameIndex := 109, descriptorIndex := 110, attributes := #[] }, { accessFlags := 24, nameIndex := 62, descriptorIndex := 63, attributes := #[] }, { accessFlags := 24, nameIndex := 72, descriptorIndex := 63, attributes := #[] }, { accessFlags := 24, nameIndex := 118, descriptorIndex := 119, attributes := #[] }, { accessFlags := 24, nameIndex := 125, descriptorIndex := 126, attributes := #[] }, { accessFlags := 24, nameIndex := 131, descriptorIndex := 132, attributes := #[] }, { accessFlags := 4120, nameIndex := 50, descriptorIndex := 17, attributes := #[] }])
  fields := #[{ name := "SALT32L", type := .long, accessFlags := 26, slot := 0, constantValue := 0 }, { name := "REVERSE", type := .boolean, accessFlags := 26, slot := 1, constantValue := 0 }, { name := "archivedObjects", type := (.array (.object "java/lang/Object")), accessFlags := 10, slot := 2, constantValue := 0 }, { name := "EMPTY", type := (.object "java/lang/Object"), accessFlags := 26, slot := 3, constantValue := 0 }, { name := "EMPTY_LIST", type := (.object "java/util/ImmutableCollections$ListN"), accessFlags := 24, slot := 4, constantValue := 0 }, { name := "EMPTY_LIST_NULLS", type := (.object "java/util/ImmutableCollections$ListN"), accessFlags := 24, slot := 5, constantValue := 0 }, { name := "EMPTY_SET", type := (.object "java/util/ImmutableCollections$SetN"), accessFlags := 24, slot := 6, constantValue := 0 }, { name := "EMPTY_MAP", type := (.object "java/util/ImmutableCollections$MapN"), accessFlags := 24, slot := 7, constantValue := 0 }, { name := "EXPAND_FACTOR", type := .int, accessFlags := 24, slot := 8, constantValue := 0 }, { name := "$assertionsDisabled", type := .boolean, accessFlags := 4120, slot := 9, constantValue := 0 }]
  methods := #[k4m0]
  instanceTypes := #[]
  staticTypes := #[.long, .boolean, (.array (.object "java/lang/Object")), (.object "java/lang/Object"), (.object "java/util/ImmutableCollections$ListN"), (.object "java/util/ImmutableCollections$ListN"), (.object "java/util/ImmutableCollections$SetN"), (.object "java/util/ImmutableCollections$MapN"), .int, .boolean]
  resolved := Array.replicate 213 none
  statics := some 0 }

def pool5 : Array CpInfo := pool [(2, .class_ 4), (1, u "java/lang/Object"), (0, u "<init>"), (0, u "()V"), (1, .class_ 10), (1, u "java/util/AbstractMap"), (42, .class_ 54), (0, u "java/util/Map"), (9, u "keySet"), (0, u "Ljava/util/Set;"), (0, .class_ 67), (0, u "java/util/AbstractMap$1"), (5, u "values"), (0, u "Ljava/util/Collection;"), (0, .class_ 76), (0, u "java/util/AbstractMap$2"), (104, .class_ 182), (0, u "java/util/AbstractMap$ViewCollection"), (0, .class_ 184), (0, u "java/util/AbstractMap$SimpleImmutableEntry"), (0, .class_ 186), (0, u "java/util/AbstractMap$SimpleEntry"), (0, .class_ 188), (0, u "java/util/AbstractMap$2$1"), (0, .class_ 190), (0, u "java/util/AbstractMap$1$1")] 5

def k5m0 : Method := { name := "<init>", desc := "()V", sig := { parameters := [], returnType := none }, accessFlags := 4, code := none }
/-- java/util/AbstractMap -/
def k5 : Class := { plain "java/util/AbstractMap" (some 0) with
  accessFlags := 1057
  interfaces := #[3]
  cf := some (fileOf pool5 8 #[.nestMembers #[181, 183, 185, 75, 187, 66, 189]] #[{ accessFlags := 4, nameIndex := 5, descriptorIndex := 6, attributes := #[] }] 1057 2 #[53] #[{ accessFlags := 128, nameIndex := 64, descriptorIndex := 65, attributes := #[] }, { accessFlags := 128, nameIndex := 73, descriptorIndex := 74, attributes := #[] }])
  fields := #[{ name := "keySet", type := (.object "java/util/Set"), accessFlags := 128, slot := 0, constantValue := 0 }, { name := "values", type := (.object "java/util/Collection"), accessFlags := 128, slot := 1, constantValue := 0 }]
  methods := #[k5m0]
  instanceTypes := #[(.object "java/util/Set"), (.object "java/util/Collection")]
  staticTypes := #[]
  resolved := Array.replicate 196 none
  statics := none }

def pool6 : Array CpInfo := pool [(1, .class_ 2), (0, u "java/io/Serializable"), (0, .class_ 4), (0, u "java/lang/Object")] 2

/-- java/io/Serializable -/
def k6 : Class := { plain "java/io/Serializable" (some 0) with
  accessFlags := 1537
  interfaces := #[]
  cf := some (fileOf pool6 1 #[] #[] 1537 3 #[] #[])
  fields := #[]
  methods := #[]
  instanceTypes := #[]
  staticTypes := #[]
  resolved := Array.replicate 7 none
  statics := none }

def pool7 : Array CpInfo := pool [(2, .class_ 4), (1, u "java/util/AbstractMap"), (0, u "<init>"), (0, u "()V"), (1, .class_ 10), (1, u "java/util/ImmutableCollections"), (3, .class_ 16), (1, u "java/util/ImmutableCollections$AbstractImmutableMap"), (2, .class_ 20), (0, u "java/io/Serializable")] 66

def k7m0 : Method := { name := "<init>", desc := "()V", sig := { parameters := [], returnType := none }, accessFlags := 0, code := none }
/-- java/util/ImmutableCollections$AbstractImmutableMap -/
def k7 : Class := { plain "java/util/ImmutableCollections$AbstractImmutableMap" (some 5) with
  accessFlags := 1056
  interfaces := #[6]
  cf := some (fileOf pool7 14 #[.nestHost 8] #[{ accessFlags := 0, nameIndex := 5, descriptorIndex := 6, attributes := #[] }] 1056 2 #[19] #[])
  fields := #[]
  methods := #[k7m0]
  instanceTypes := #[(.object "java/util/Set"), (.object "java/util/Collection")]
  staticTypes := #[]
  resolved := Array.replicate 87 none
  statics := none }

def pool8 : Array CpInfo := pool [(1, .class_ 2), (0, u "java/util/ImmutableCollections"), (1, .class_ 6), (1, u "java/util/ImmutableCollections$AbstractImmutableMap"), (10, .class_ 19), (1, u "java/util/ImmutableCollections$MapN"), (0, u "size"), (0, u "I"), (4, u "table"), (0, u "[Ljava/lang/Object;")] 121

/-- java/util/ImmutableCollections$MapN -/
def k8 : Class := { plain "java/util/ImmutableCollections$MapN" (some 7) with
  accessFlags := 48
  interfaces := #[]
  cf := some (fileOf pool8 17 #[.nestHost 1] #[] 48 4 #[] #[{ accessFlags := 16, nameIndex := 26, descriptorIndex := 27, attributes := #[] }, { accessFlags := 16, nameIndex := 20, descriptorIndex := 21, attributes := #[] }])
  fields := #[{ name := "table", type := (.array (.object "java/lang/Object")), accessFlags := 16, slot := 2, constantValue := 0 }, { name := "size", type := .int, accessFlags := 16, slot := 3, constantValue := 0 }]
  methods := #[]
  instanceTypes := #[(.object "java/util/Set"), (.object "java/util/Collection"), (.array (.object "java/lang/Object")), .int]
  staticTypes := #[]
  resolved := Array.replicate 149 none
  statics := none }

def pool9 : Array CpInfo := pool [(8, .class_ 10), (1, u "java/lang/Iterable"), (24, .class_ 36), (0, u "java/lang/Object")] 25

/-- java/lang/Iterable -/
def k9 : Class := { plain "java/lang/Iterable" (some 0) with
  accessFlags := 1537
  interfaces := #[]
  cf := some (fileOf pool9 8 #[] #[] 1537 35 #[] #[])
  fields := #[]
  methods := #[]
  instanceTypes := #[]
  staticTypes := #[]
  resolved := Array.replicate 62 none
  statics := none }

def pool10 : Array CpInfo := pool [(10, .class_ 12), (1, u "java/util/Collection"), (47, .class_ 61), (0, u "java/lang/Object"), (0, .class_ 63), (0, u "java/lang/Iterable")] 51

/-- java/util/Collection -/
def k10 : Class := { plain "java/util/Collection" (some 0) with
  accessFlags := 1537
  interfaces := #[9]
  cf := some (fileOf pool10 10 #[] #[] 1537 60 #[62] #[])
  fields := #[]
  methods := #[]
  instanceTypes := #[]
  staticTypes := #[]
  resolved := Array.replicate 115 none
  statics := none }

def pool11 : Array CpInfo := pool [(8, .class_ 10), (1, u "java/util/SequencedCollection"), (15, .class_ 27), (0, u "java/lang/Object"), (0, .class_ 29), (0, u "java/util/Collection")] 27

/-- java/util/SequencedCollection -/
def k11 : Class := { plain "java/util/SequencedCollection" (some 0) with
  accessFlags := 1537
  interfaces := #[10]
  cf := some (fileOf pool11 8 #[] #[] 1537 26 #[28] #[])
  fields := #[]
  methods := #[]
  instanceTypes := #[]
  staticTypes := #[]
  resolved := Array.replicate 57 none
  statics := none }

def pool12 : Array CpInfo := pool [(8, .class_ 10), (1, u "java/util/List"), (77, u "of"), (1, .fieldref 91 92), (0, .class_ 93), (0, .nameAndType 94 95), (0, u "java/util/ImmutableCollections"), (0, u "EMPTY_LIST"), (0, u "Ljava/util/ImmutableCollections$ListN;"), (7, .class_ 104), (0, u "java/lang/Object"), (14, u "()Ljava/util/List;"), (0, .class_ 121), (0, u "java/util/SequencedCollection")] 129

def k12c0 : Code := { maxStack := 1, maxLocals := 0, code := jdk_40_method_36_code, exceptionTable := #[], attributes := #[] }
def k12m0 : Method := { name := "of", desc := "()Ljava/util/List;", sig := { parameters := [], returnType := some (.object "java/util/List") }, accessFlags := 9, code := some k12c0 }
/-- java/util/List -/
def k12 : Class := { plain "java/util/List" (some 0) with
  accessFlags := 1537
  interfaces := #[11]
  cf := some (fileOf pool12 8 #[] #[{ accessFlags := 9, nameIndex := 88, descriptorIndex := 119, attributes := #[] }] 1537 103 #[120] #[])
  fields := #[]
  methods := #[k12m0]
  instanceTypes := #[]
  staticTypes := #[]
  resolved := Array.replicate 251 none
  statics := none }

def pool13 : Array CpInfo := pool [(1, .class_ 2), (0, u "java/lang/Cloneable"), (0, .class_ 4), (0, u "java/lang/Object")] 2

/-- java/lang/Cloneable -/
def k13 : Class := { plain "java/lang/Cloneable" (some 0) with
  accessFlags := 1537
  interfaces := #[]
  cf := some (fileOf pool13 1 #[] #[] 1537 3 #[] #[])
  fields := #[]
  methods := #[]
  instanceTypes := #[]
  staticTypes := #[]
  resolved := Array.replicate 7 none
  statics := none }

def pool14 : Array CpInfo := pool [(2, .class_ 4), (1, u "java/lang/Object"), (0, u "<init>"), (0, u "()V"), (1, .class_ 10), (1, u "java/util/AbstractCollection"), (66, .class_ 78), (0, u "java/util/Collection")] 81

def k14m0 : Method := { name := "<init>", desc := "()V", sig := { parameters := [], returnType := none }, accessFlags := 4, code := none }
/-- java/util/AbstractCollection -/
def k14 : Class := { plain "java/util/AbstractCollection" (some 0) with
  accessFlags := 1057
  interfaces := #[10]
  cf := some (fileOf pool14 8 #[] #[{ accessFlags := 4, nameIndex := 5, descriptorIndex := 6, attributes := #[] }] 1057 2 #[77] #[])
  fields := #[]
  methods := #[k14m0]
  instanceTypes := #[]
  staticTypes := #[]
  resolved := Array.replicate 160 none
  statics := none }

def pool15 : Array CpInfo := pool [(2, .class_ 4), (1, u "java/util/AbstractCollection"), (0, u "<init>"), (0, u "()V"), (1, .class_ 10), (1, u "java/util/ImmutableCollections"), (2, .class_ 14), (0, u "java/util/ImmutableCollections$AbstractImmutableCollection")] 41

def k15m0 : Method := { name := "<init>", desc := "()V", sig := { parameters := [], returnType := none }, accessFlags := 0, code := none }
/-- java/util/ImmutableCollections$AbstractImmutableCollection -/
def k15 : Class := { plain "java/util/ImmutableCollections$AbstractImmutableCollection" (some 14) with
  accessFlags := 1056
  interfaces := #[]
  cf := some (fileOf pool15 13 #[.nestHost 8] #[{ accessFlags := 0, nameIndex := 5, descriptorIndex := 6, attributes := #[] }] 1056 2 #[] #[])
  fields := #[]
  methods := #[k15m0]
  instanceTypes := #[]
  staticTypes := #[]
  resolved := Array.replicate 56 none
  statics := none }

def pool16 : Array CpInfo := pool [(1, .class_ 2), (0, u "java/util/RandomAccess"), (0, .class_ 4), (0, u "java/lang/Object")] 2

/-- java/util/RandomAccess -/
def k16 : Class := { plain "java/util/RandomAccess" (some 0) with
  accessFlags := 1537
  interfaces := #[]
  cf := some (fileOf pool16 1 #[] #[] 1537 3 #[] #[])
  fields := #[]
  methods := #[]
  instanceTypes := #[]
  staticTypes := #[]
  resolved := Array.replicate 7 none
  statics := none }

def pool17 : Array CpInfo := pool [(2, .class_ 4), (1, u "java/util/ImmutableCollections$AbstractImmutableCollection"), (0, u "<init>"), (0, u "()V"), (1, .class_ 10), (1, u "java/util/ImmutableCollections"), (3, .class_ 16), (1, u "java/util/ImmutableCollections$AbstractImmutableList"), (60, .class_ 78), (0, u "java/util/List"), (45, .class_ 125), (0, u "java/util/RandomAccess")] 70

def k17m0 : Method := { name := "<init>", desc := "()V", sig := { parameters := [], returnType := none }, accessFlags := 0, code := none }
/-- java/util/ImmutableCollections$AbstractImmutableList -/
def k17 : Class := { plain "java/util/ImmutableCollections$AbstractImmutableList" (some 15) with
  accessFlags := 1056
  interfaces := #[12, 16]
  cf := some (fileOf pool17 14 #[.nestHost 8] #[{ accessFlags := 0, nameIndex := 5, descriptorIndex := 6, attributes := #[] }] 1056 2 #[77, 124] #[])
  fields := #[]
  methods := #[k17m0]
  instanceTypes := #[]
  staticTypes := #[]
  resolved := Array.replicate 196 none
  statics := none }

def pool18 : Array CpInfo := pool [(2, .class_ 4), (1, u "java/util/ImmutableCollections$AbstractImmutableList"), (3, .class_ 10), (1, u "java/util/ImmutableCollections$ListN"), (0, u "elements"), (0, u "[Ljava/lang/Object;"), (2, u "allowNulls"), (0, u "Z"), (42, .class_ 60), (0, u "java/io/Serializable"), (53, .class_ 115), (0, u "java/util/ImmutableCollections")] 3

/-- java/util/ImmutableCollections$ListN -/
def k18 : Class := { plain "java/util/ImmutableCollections$ListN" (some 17) with
  accessFlags := 48
  interfaces := #[6]
  cf := some (fileOf pool18 8 #[.nestHost 114] #[] 48 2 #[59] #[{ accessFlags := 18, nameIndex := 11, descriptorIndex := 12, attributes := #[] }, { accessFlags := 18, nameIndex := 15, descriptorIndex := 16, attributes := #[] }])
  fields := #[{ name := "elements", type := (.array (.object "java/lang/Object")), accessFlags := 18, slot := 0, constantValue := 0 }, { name := "allowNulls", type := .boolean, accessFlags := 18, slot := 1, constantValue := 0 }]
  methods := #[]
  instanceTypes := #[(.array (.object "java/lang/Object")), .boolean]
  staticTypes := #[]
  resolved := Array.replicate 119 none
  statics := none }

/-- the primitive byte -/
def k19 : Class := { plain "byte" none with kind := .primitive 'B', accessFlags := 0x411 }
/-- [B -/
def k20 : Class := { plain "[B" (some 0) with kind := .array 19 .byte, interfaces := #[13, 6], accessFlags := 1041 }

/-- the primitive int -/
def k21 : Class := { plain "int" none with kind := .primitive 'I', accessFlags := 0x411 }
/-- [I -/
def k22 : Class := { plain "[I" (some 0) with kind := .array 21 .int, interfaces := #[13, 6], accessFlags := 1041 }

/-- [Ljava/lang/Object; -/
def k23 : Class := { plain "[Ljava/lang/Object;" (some 0) with kind := .array 0 (.object "java/lang/Object"), interfaces := #[13, 6], accessFlags := 1041 }

def heap : Heap := #[{ cls := 4, slots := #[.long 0, .int 0, .null, .null, .ref 4, .null, .null, .ref 3, .int 0, .int 0], vm := .statics 4 },
  { cls := 23, slots := #[], vm := .none },
  { cls := 23, slots := #[], vm := .none },
  { cls := 8, slots := #[.null, .null, .ref 1, .int 0], vm := .none },
  { cls := 18, slots := #[.ref 2, .int 0], vm := .none }]
def classes : Array Class := #[k0, k1, k2, k3, k4, k5, k6, k7, k8, k9, k10, k11, k12, k13, k14, k15, k16, k17, k18, k19, k20, k21, k22, k23]
def interned : List (Array UInt16 × Addr) := []
def slotsUsed : Nat := 16
def theMethod : MethodId := ⟨1, 1⟩
def args0 : Array Value := #[.int 5, .int 1, .int 2]
def aboutOver (below : List Frame) : State where
  vm := { classes := classes, interned := interned.toArray }
  heap := heap
  slotsUsed := slotsUsed
  threads := #[{ frames := .invoking theMethod args0 :: below }]
def below0 : List Frame := [.native { method := ⟨0, 0⟩, args := #[] }]
def about1 : State := aboutOver below0
def p0 : Program := .bare "" "" ""
def e0 : Env := launch0.env 0 0 0
theorem w_frames : about1.frames = Frame.invoking theMethod args0 :: below0 := rfl
set_option maxRecDepth 65536 in
theorem w_args : argsFit about1.vm theMethod args0 = true := by decide +kernel
set_option maxRecDepth 65536 in
theorem w_heap : heapFits about1 = true := by decide +kernel
set_option maxRecDepth 65536 in
theorem w_runnable : about1.curStatus? = some .runnable := by decide +kernel
set_option maxRecDepth 65536 in
theorem w_alone : about1.alone = true := by decide +kernel
set_option maxRecDepth 65536 in
theorem w_named : about1.methodNamed? x = some theMethod := by decide +kernel
set_option maxRecDepth 65536 in
theorem w_hears : about1.hears theMethod below0 = true := by decide +kernel
set_option maxRecDepth 65536 in
theorem w_ripe : about1.ripe theMethod args0 below0 = true := by decide +kernel
theorem w_running : about1.status = .running := rfl
set_option maxRecDepth 65536 in
theorem w_room : about1.hasRoom e0.platform room_1 = true :=
  launch0.hasRoom_least _ room_1 (by decide +kernel) (by decide +kernel) (by decide +kernel) (by decide +kernel) (by decide +kernel) (by decide +kernel)
theorem allAtoms_all (ts : List Jvm.Cond) (a : Array Jvm.Value) (st : Jvm.State) : (allAtoms ts).before a st = ts.all (fun c => c.before a st) := by
  induction ts with
  | nil => rfl
  | cons c t ih =>
    show (Jvm.Cond.and c (allAtoms t)).before a st = _
    rw [Jvm.Cond.before_and, ih, List.all_cons]
def words1 : List Jvm.Cond := Jvm.Cond.code x code maxLocals ret :: tables_1
/-- a 'code' word, met by the world's own term for the bytes: nothing is compared byte by byte -/
theorem code_word {y : MethodName} {bytes : ByteArray} {mx : Nat} {rt : Option FieldType} {a : Array Value} {s : State} {m : MethodId} {meth : Method} {c : Code} (h1 : s.methodNamed? y = some m) (h2 : s.vm.method? m = some meth) (h3 : meth.code = some c) (h4 : c.code = bytes)
    (h5 : (c.maxLocals == mx && c.exceptionTable.isEmpty && decide (c.maxStack ≤ mostOperands) && decide (meth.sig.returnType = rt) && !meth.locks && decide (parseMethodDescriptor y.desc = some meth.sig)) = true) : (Jvm.Cond.code y bytes mx rt).before a s = true := by
  simp only [Bool.and_eq_true, beq_iff_eq, Bool.not_eq_true', decide_eq_true_eq] at h5
  obtain ⟨⟨⟨⟨⟨g1, g2⟩, g3⟩, g4⟩, g5⟩, g6⟩ := h5
  simp [Cond.before, Cond.holds, Cond.value, h1, h2, h3, h4, g1, g2, g3, g4, g5, g6]
def isCode : Jvm.Cond → Bool
  | .code _ _ _ _ => true
  | _ => false
theorem all_split {L : List Jvm.Cond} {P : Jvm.Cond → Bool} (h1 : L.all (fun c => isCode c || P c) = true) (h2 : ∀ c ∈ L.filter isCode, P c = true) : L.all P = true := by
  refine List.all_eq_true.mpr fun c hc => ?_
  have h := List.all_eq_true.mp h1 c hc
  rcases Bool.eq_false_or_eq_true (isCode c) with hi | hi
  · exact h2 c (List.mem_filter.mpr ⟨hc, hi⟩)
  · simpa [hi] using h
set_option maxRecDepth 65536 in
theorem w_c0 : (Jvm.Cond.code x code maxLocals ret).before args0 about1 = true := code_word (m := ⟨1, 1⟩) (meth := k1m1) (c := k1c1) (by decide +kernel) rfl rfl rfl (by decide +kernel)
set_option maxRecDepth 65536 in
theorem w_c1 : (Jvm.Cond.code ({ cls := "java/util/Map", name := "of", desc := "()Ljava/util/Map;" } : Jvm.MethodName) jdk_72_method_26_code (0 : Nat) (Option.some (Jvm.ClassFile.FieldType.object "java/util/Map"))).before args0 about1 = true := code_word (m := ⟨3, 0⟩) (meth := k3m0) (c := k3c0) (by decide +kernel) rfl rfl rfl (by decide +kernel)
set_option maxRecDepth 65536 in
theorem w_c2 : (Jvm.Cond.code ({ cls := "com/example/arborkey/arborkey/EncryptionMaterials", name := "<init>", desc := "(Ljava/util/Map;)V" } : Jvm.MethodName) prog_33_method_1_code (2 : Nat) (Option.none : Option Jvm.ClassFile.FieldType)).before args0 about1 = true := code_word (m := ⟨2, 0⟩) (meth := k2m0) (c := k2c0) (by decide +kernel) rfl rfl rfl (by decide +kernel)
set_option maxRecDepth 65536 in
theorem w_c3 : (Jvm.Cond.code ({ cls := "java/util/Map", name := "copyOf", desc := "(Ljava/util/Map;)Ljava/util/Map;" } : Jvm.MethodName) jdk_72_method_39_code (1 : Nat) (Option.some (Jvm.ClassFile.FieldType.object "java/util/Map"))).before args0 about1 = true := code_word (m := ⟨3, 1⟩) (meth := k3m1) (c := k3c1) (by decide +kernel) rfl rfl rfl (by decide +kernel)
set_option maxRecDepth 65536 in
theorem w_c4 : (Jvm.Cond.code ({ cls := "java/util/List", name := "of", desc := "()Ljava/util/List;" } : Jvm.MethodName) jdk_40_method_36_code (0 : Nat) (Option.some (Jvm.ClassFile.FieldType.object "java/util/List"))).before args0 about1 = true := code_word (m := ⟨12, 0⟩) (meth := k12m0) (c := k12c0) (by decide +kernel) rfl rfl rfl (by decide +kernel)
set_option maxRecDepth 65536 in
theorem w_c5 : (Jvm.Cond.code ({ cls := "com/example/arborkey/arborkey/EncryptionMaterials", name := "<init>", desc := "(Ljava/util/Map;[BLjava/util/List;)V" } : Jvm.MethodName) prog_33_method_2_code (4 : Nat) (Option.none : Option Jvm.ClassFile.FieldType)).before args0 about1 = true := code_word (m := ⟨2, 1⟩) (meth := k2m1) (c := k2c1) (by decide +kernel) rfl rfl rfl (by decide +kernel)
set_option maxRecDepth 65536 in
theorem w_c6 : (Jvm.Cond.code ({ cls := "java/lang/Object", name := "<init>", desc := "()V" } : Jvm.MethodName) object_method_1_code (1 : Nat) (Option.none : Option Jvm.ClassFile.FieldType)).before args0 about1 = true := code_word (m := ⟨0, 0⟩) (meth := k0m0) (c := k0c0) (by decide +kernel) rfl rfl rfl (by decide +kernel)
set_option maxRecDepth 65536 in
theorem w_c7 : (Jvm.Cond.code ({ cls := "com/example/arborkey/arborkey/EncryptionMaterials", name := "dataKey", desc := "()[B" } : Jvm.MethodName) prog_33_method_4_code (1 : Nat) (Option.some (Jvm.ClassFile.FieldType.array Jvm.ClassFile.FieldType.byte))).before args0 about1 = true := code_word (m := ⟨2, 2⟩) (meth := k2m2) (c := k2c2) (by decide +kernel) rfl rfl rfl (by decide +kernel)
set_option maxRecDepth 65536 in
theorem w_c8 : (Jvm.Cond.code ({ cls := "com/example/arborkey/arborkey/EncryptionMaterials", name := "withDataKey", desc := "([B)Lcom/example/arborkey/arborkey/EncryptionMaterials;" } : Jvm.MethodName) prog_33_method_6_code (2 : Nat) (Option.some (Jvm.ClassFile.FieldType.object "com/example/arborkey/arborkey/EncryptionMaterials"))).before args0 about1 = true := code_word (m := ⟨2, 3⟩) (meth := k2m3) (c := k2c3) (by decide +kernel) rfl rfl rfl (by decide +kernel)
def codes1 : List Jvm.Cond := [Jvm.Cond.code x code maxLocals ret, Jvm.Cond.code ({ cls := "java/util/Map", name := "of", desc := "()Ljava/util/Map;" } : Jvm.MethodName) jdk_72_method_26_code (0 : Nat) (Option.some (Jvm.ClassFile.FieldType.object "java/util/Map")), Jvm.Cond.code ({ cls := "com/example/arborkey/arborkey/EncryptionMaterials", name := "<init>", desc := "(Ljava/util/Map;)V" } : Jvm.MethodName) prog_33_method_1_code (2 : Nat) (Option.none : Option Jvm.ClassFile.FieldType), Jvm.Cond.code ({ cls := "java/util/Map", name := "copyOf", desc := "(Ljava/util/Map;)Ljava/util/Map;" } : Jvm.MethodName) jdk_72_method_39_code (1 : Nat) (Option.some (Jvm.ClassFile.FieldType.object "java/util/Map")), Jvm.Cond.code ({ cls := "java/util/List", name := "of", desc := "()Ljava/util/List;" } : Jvm.MethodName) jdk_40_method_36_code (0 : Nat) (Option.some (Jvm.ClassFile.FieldType.object "java/util/List")), Jvm.Cond.code ({ cls := "com/example/arborkey/arborkey/EncryptionMaterials", name := "<init>", desc := "(Ljava/util/Map;[BLjava/util/List;)V" } : Jvm.MethodName) prog_33_method_2_code (4 : Nat) (Option.none : Option Jvm.ClassFile.FieldType), Jvm.Cond.code ({ cls := "java/lang/Object", name := "<init>", desc := "()V" } : Jvm.MethodName) object_method_1_code (1 : Nat) (Option.none : Option Jvm.ClassFile.FieldType), Jvm.Cond.code ({ cls := "com/example/arborkey/arborkey/EncryptionMaterials", name := "dataKey", desc := "()[B" } : Jvm.MethodName) prog_33_method_4_code (1 : Nat) (Option.some (Jvm.ClassFile.FieldType.array Jvm.ClassFile.FieldType.byte)), Jvm.Cond.code ({ cls := "com/example/arborkey/arborkey/EncryptionMaterials", name := "withDataKey", desc := "([B)Lcom/example/arborkey/arborkey/EncryptionMaterials;" } : Jvm.MethodName) prog_33_method_6_code (2 : Nat) (Option.some (Jvm.ClassFile.FieldType.object "com/example/arborkey/arborkey/EncryptionMaterials"))]
set_option maxRecDepth 65536 in
theorem codes_eq : words1.filter isCode = codes1 := rfl
theorem w_codes : ∀ c ∈ words1.filter isCode, c.before args0 about1 = true := by
  rw [codes_eq]
  intro c hc
  simp only [codes1, List.mem_cons, List.not_mem_nil, or_false] at hc
  rcases hc with rfl | rfl | rfl | rfl | rfl | rfl | rfl | rfl | rfl
  · exact w_c0
  · exact w_c1
  · exact w_c2
  · exact w_c3
  · exact w_c4
  · exact w_c5
  · exact w_c6
  · exact w_c7
  · exact w_c8
set_option maxRecDepth 65536 in
theorem w_t1 : (words1.take 24).all (fun c => isCode c || c.before args0 about1) = true := by decide +kernel
set_option maxRecDepth 65536 in
theorem w_t2 : ((words1.drop 24).take 24).all (fun c => isCode c || c.before args0 about1) = true := by decide +kernel
set_option maxRecDepth 65536 in
theorem w_t3 : ((words1.drop 24).drop 24).all (fun c => isCode c || c.before args0 about1) = true := by decide +kernel
theorem w_tables : (allAtoms (Jvm.Cond.code x code maxLocals ret :: tables_1)).before args0 about1 = true := by
  rw [allAtoms_all]
  show words1.all (fun c => c.before args0 about1) = true
  refine all_split ?_ w_codes
  rw [← List.take_append_drop 24 words1, List.all_append, w_t1, ← List.take_append_drop 24 (words1.drop 24), List.all_append, w_t2, w_t3]
  rfl
set_option maxRecDepth 65536 in
theorem w_rest : rest_1_c.before args0 about1 = true := by decide +kernel
set_option maxRecDepth 65536 in
theorem w_case : (Jvm.Cond.and given_1 narrow_1).before args0 about1 = true := by decide +kernel
theorem w_applies : (headSpec (Jvm.Cond.code x code maxLocals ret :: tables_1) room_1).applies x e0.platform about1 = true :=
  (Spec.applies_iff w_frames).mpr ⟨w_running, w_runnable, w_alone, w_named, w_hears, w_ripe, w_room, w_tables⟩
theorem atStart : AtStart classFile x code maxLocals ret World_1 tables_1 room_1 Calls_1 rest_1 Pre_1 launch0 p0 e0 about1 theMethod args0 below0 :=
  ⟨lists_1, trivial, launch0.admits_env _ _ _, launch0.least_env, fairChoices_fair.cas, fairChoices_fair.clock, w_frames, w_args, w_heap, w_applies, trivial, w_rest, w_case⟩
end start1
theorem witness_1 : WitnessClaimed_1 := ⟨start1.p0, start1.e0, start1.about1, start1.theMethod, start1.args0, start1.below0, start1.atStart⟩
end Jvm.Pilot.@@N@@
