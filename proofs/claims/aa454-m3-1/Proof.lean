import JvmDerived
import JvmDerived.Pilot.@@N@@Statement
import JvmDerived.Pilot.@@N@@Code
set_option linter.unusedVariables false
set_option linter.unusedSimpArgs false
namespace Jvm.Pilot.@@N@@
open Jvm Jvm.ClassFile Sem Op Lib Jvm.Free Jvm.Stand Jvm.LawKit Jvm.RoadKit Bundle Jvm.Pilot.@@N@@.Jvm.D
section Own
variable {p : Program} {l : Launch} {e : Env} {R : Room} {s : State} {m : MethodId} {args : Array Value} {below : List Frame} {meth : Method} {c : Code} {T : State} {locs : List Loc} {cells slots : Nat} {Z : State} {a0 : Array Value} {h : Heap}
/-- the walk ends from A: it returns, Q holds, the frame is kept -/
def own_E (p : Program) (e : Env) (below : List Frame) (s : State) (Q : Option Value → Heap → List Loc → Prop) (K N : Nat) (A : State) : Prop :=
  ∃ t o, Steps p.tables e below A t ∧ t.status = .running ∧ Ended t below o ∧ ∃ v L, o = .returned v ∧ Q v t.heap L ∧ FrameEnd s o t L K N
variable {Q : Option Value → Heap → List Loc → Prop} {K N : Nat} {A A' : State}
theorem own_go (h : ∀ t, Steps p.tables e below A' t → Steps p.tables e below A t) (k : own_E p e below s Q K N A') : own_E p e below s Q K N A := by
  obtain ⟨t, o, h1, h2⟩ := k
  exact ⟨t, o, h _ h1, h2⟩
theorem own_ret (X : Stand p l e R s m args below meth c T locs cells slots) (hx : p.tables.exec = Jvm.exec) {pc : Nat} {Ls : Array Slot} {w : Value} {t : FieldType} {i : Instr} {rest : List Value} (hret : meth.sig.returnType = some t) (hlk : meth.locks = false) (hn : narrow t w = w)
    (hi : (i = .ireturn ∧ (t = .int ∨ t = .boolean ∨ t = .byte ∨ t = .char ∨ t = .short) ∧ ∃ z, w = .int z) ∨ (i = .lreturn ∧ t = .long ∧ ∃ z, w = .long z) ∨ (i = .dreturn ∧ t = .double ∧ ∃ z, w = .double z) ∨ (i = .freturn ∧ t = .float ∧ ∃ z, w = .float z) ∨ (i = .areturn ∧ t.isReference = true ∧ w.isRef = true))
    (hd : decode c.code pc = .ok (i, 1)) (hQ : Q (some w) T.heap locs) (hK : cells ≤ K) (hN : slots ≤ N) : own_E p e below s Q K N (T.setTop (mkF m pc Ls (w :: rest))) := by
  obtain ⟨fs, hr, hrun, hended, hW, hsame⟩ := X.leave (v := some w) (fun h => by rw [hret] at h; cases h) hlk
  exact ⟨_, _, retOut X hx hret hn hi hd hr, hrun, hended, _, _, rfl, hQ, ⟨_, rfl⟩, hW, hsame.mono hK hN⟩
theorem own_ret0 (X : Stand p l e R s m args below meth c T locs cells slots) (hx : p.tables.exec = Jvm.exec) {pc : Nat} {Ls : Array Slot} (hret : meth.sig.returnType = none) (hlk : meth.locks = false)
    (hd : decode c.code pc = .ok (.return_, 1)) (hQ : Q none T.heap locs) (hK : cells ≤ K) (hN : slots ≤ N) : own_E p e below s Q K N (T.setTop (mkF m pc Ls [])) := by
  obtain ⟨fs, hr, hrun, hended, hW, hsame⟩ := X.leave (v := none) (fun _ => rfl) hlk
  exact ⟨_, _, X.returnOut hx hret hd hr, hrun, hended, _, _, rfl, hQ, ⟨_, rfl⟩, hW, hsame.mono hK hN⟩
/-- what a callee is asked: its contract -/
abbrev own_M (l : Launch) (y : MethodName) (bytes : ByteArray) (maxL : Nat) (ret : Option FieldType) (rm : Room) (Z : State) (as' : Array Value) (h : Heap) (Q : Option Value → Heap → List Loc → Prop) : Prop :=
  MetFree l y (head1 [Jvm.Cond.code y bytes maxL ret] rm) (fun a U => a = as' ∧ Z.Warmed39 U.vm ∧ U.heap = h) (fun _ _ _ _ _ => True) (fun _ U o U' => ∃ v L, o = .returned v ∧ Q v U'.heap L ∧ FrameEnd U o U' L rm.cells rm.slots)
theorem own_callS (X : Stand p l e R s m args below meth c T locs cells slots) (hx : p.tables.exec = Jvm.exec) (hZ : Z.Warmed39 s.vm) {own : String} {index : Nat} {y : MethodName} {bytes : ByteArray} {maxL : Nat} {ret : Option FieldType} {rm : Room} {W : Nat} {argsL rest : List Value}
    (hown : s.vm.findClass own = some m.cls) (w1 : (Jvm.Cond.methodLink own index y).before a0 Z = true) (w2 : (Jvm.Cond.static y).before a0 Z = true) (w3 : (Jvm.Cond.initialized y.cls).before a0 Z = true) (w4 : (Jvm.Cond.code y bytes maxL ret).before a0 Z = true)
    (hy : y.cls ≠ "java/lang/invoke/MethodHandle" ∧ y.cls ≠ "java/lang/invoke/VarHandle") (hM : own_M l y bytes maxL ret rm Z argsL.toArray h Q) (eT : T.heap = h)
    (hf : rm.frames + 1 ≤ R.frames) (hl : W + (maxL + 11) + rm.locals ≤ R.locals) (hc : cells + rm.cells ≤ R.cells) (hs : slots + rm.slots ≤ R.slots)
    {g : JFrame} (hg : g.method = m) (hsize : g.locals.size = c.maxLocals) (hlen : ∀ sig, parseMethodDescriptor y.desc = some sig → argsL.length = sig.parameters.length)
    (hstack : g.stack = argsL.reverse ++ rest) (hW : 2 * g.monitorRoom + (rest.map fun v => v.category).sum ≤ W) (hdg : decode c.code g.pc = .ok (.invokestatic index, 3)) :
    ∃ v T' L, Stand p l e R s m args below meth c T' (locs ++ L) (cells + rm.cells) (slots + rm.slots) ∧ Q v T'.heap L ∧ ∀ target, Steps p.tables e below (T'.setTop { g with pc := g.pc + 3, stack := v.toList ++ rest }) target → Steps p.tables e below (T.setTop g) target := by
  obtain ⟨v, _, ⟨T', L', k', n'⟩, -, X', ⟨L, hQ, e1, e2, e3⟩, st⟩ := Jvm.LawKit.callS X hx (y := y) hown (mvT hZ w1) (mvT hZ w2) (mvT hZ w3) (mvT hZ w4) hy (backOf (W := W) hM hZ w4 w3 hf hl) hg hsize hlen hstack hW hdg (fun _ _ => ⟨rfl, eT, hc, hs⟩)
  dsimp only [Pt.U, Pt.locs, Pt.cells, Pt.slots] at X' e1 e2 e3 st hQ
  subst e1 e2 e3
  exact ⟨v, T', L, X', hQ, st⟩
theorem own_callV (X : Stand p l e R s m args below meth c T locs cells slots) (hx : p.tables.exec = Jvm.exec) (hZ : Z.Warmed39 s.vm) {own C : String} {index : Nat} {y : MethodName} {bytes : ByteArray} {maxL : Nat} {ret : Option FieldType} {rm : Room} {W : Nat} {b : Addr} {argsL rest : List Value}
    (hown : s.vm.findClass own = some m.cls) (w1 : (Jvm.Cond.methodLink own index y).before a0 Z = true) (w2 : (Jvm.Cond.declares y).before a0 Z = true) (w3 : (Jvm.Cond.selects C y y).before a0 Z = true) (w4 : (Jvm.Cond.instanceMethod y).before a0 Z = true) (w5 : (Jvm.Cond.code y bytes maxL ret).before a0 Z = true) (w6 : (Jvm.Cond.initialized y.cls).before a0 Z = true)
    (hy : y.cls ≠ "java/lang/invoke/MethodHandle" ∧ y.cls ≠ "java/lang/invoke/VarHandle") (hM : own_M l y bytes maxL ret rm Z (.ref b :: argsL).toArray h Q) (eT : T.heap = h) (E : Exa Z h b C)
    (hf : rm.frames + 1 ≤ R.frames) (hl : W + (maxL + 11) + rm.locals ≤ R.locals) (hc : cells + rm.cells ≤ R.cells) (hs : slots + rm.slots ≤ R.slots)
    {g : JFrame} (hg : g.method = m) (hsize : g.locals.size = c.maxLocals) (hlen : ∀ sig, parseMethodDescriptor y.desc = some sig → argsL.length = sig.parameters.length)
    (hstack : g.stack = argsL.reverse ++ .ref b :: rest) (hW : 2 * g.monitorRoom + (rest.map fun v => v.category).sum ≤ W) (hdg : decode c.code g.pc = .ok (.invokevirtual index, 3)) :
    ∃ v T' L, Stand p l e R s m args below meth c T' (locs ++ L) (cells + rm.cells) (slots + rm.slots) ∧ Q v T'.heap L ∧ ∀ target, Steps p.tables e below (T'.setTop { g with pc := g.pc + 3, stack := v.toList ++ rest }) target → Steps p.tables e below (T.setTop g) target := by
  obtain ⟨cq, kq, q1, -, q3⟩ := isOf hZ eT E
  obtain ⟨v, _, ⟨T', L', k', n'⟩, -, X', ⟨L, hQ, e1, e2, e3⟩, st⟩ := X.virtualBack hx (y := y) (z := y) hown (mvT hZ w1) (mvT hZ w2) (notFace_of_selects (args := #[]) (mvT hZ w3)) (mvT hZ w3) (mvT hZ w4) hy (backOf (W := W) hM hZ w5 w6 hf hl) q1 q3 hg hsize (Steps.refl _) hlen hstack hW hdg (fun _ _ => ⟨rfl, eT, hc, hs⟩)
  dsimp only [Pt.U, Pt.locs, Pt.cells, Pt.slots] at X' e1 e2 e3 st hQ
  subst e1 e2 e3
  exact ⟨v, T', L, X', hQ, fun _ k => st.trans k⟩
theorem own_callI (X : Stand p l e R s m args below meth c T locs cells slots) (hx : p.tables.exec = Jvm.exec) (hZ : Z.Warmed39 s.vm) {own : String} {index : Nat} {y : MethodName} {bytes : ByteArray} {maxL : Nat} {rm : Room} {W : Nat} {b : Addr} {argsL rest : List Value}
    (hown : s.vm.findClass own = some m.cls) (hy1 : y.name = "<init>") (w1 : (Jvm.Cond.methodLink own index y).before a0 Z = true) (w2 : (Jvm.Cond.instanceMethod y).before a0 Z = true) (w3 : (Jvm.Cond.initialized y.cls).before a0 Z = true) (w4 : (Jvm.Cond.code y bytes maxL none).before a0 Z = true)
    (hy : y.cls ≠ "java/lang/invoke/MethodHandle" ∧ y.cls ≠ "java/lang/invoke/VarHandle") (hM : own_M l y bytes maxL none rm Z (.ref b :: argsL).toArray h Q) (eT : T.heap = h)
    (hf : rm.frames + 1 ≤ R.frames) (hl : W + (maxL + 11) + rm.locals ≤ R.locals) (hc : cells + rm.cells ≤ R.cells) (hs : slots + rm.slots ≤ R.slots)
    {g : JFrame} (hg : g.method = m) (hsize : g.locals.size = c.maxLocals) (hlen : ∀ sig, parseMethodDescriptor y.desc = some sig → argsL.length = sig.parameters.length)
    (hstack : g.stack = argsL.reverse ++ .ref b :: rest) (hW : 2 * g.monitorRoom + (rest.map fun v => v.category).sum ≤ W) (hdg : decode c.code g.pc = .ok (.invokespecial index, 3)) :
    ∃ v T' L, Stand p l e R s m args below meth c T' (locs ++ L) (cells + rm.cells) (slots + rm.slots) ∧ Q v T'.heap L ∧ ∀ target, Steps p.tables e below (T'.setTop { g with pc := g.pc + 3, stack := v.toList ++ rest }) target → Steps p.tables e below (T.setTop g) target := by
  obtain ⟨v, _, ⟨T', L', k', n'⟩, -, X', ⟨L, hQ, e1, e2, e3⟩, st⟩ := X.specialBack hx (y := y) hy1 hown (mvT hZ w1) (mvT hZ w2) (mvT hZ w4) hy (backOf (W := W) hM hZ w4 w3 hf hl) hg hsize (Steps.refl _) hlen hstack hW hdg (fun _ _ => ⟨rfl, eT, hc, hs⟩)
  dsimp only [Pt.U, Pt.locs, Pt.cells, Pt.slots] at X' e1 e2 e3 st hQ
  subst e1 e2 e3
  exact ⟨v, T', L, X', hQ, fun _ k => st.trans k⟩
theorem own_callVU (X : Stand p l e R s m args below meth c T locs cells slots) (hx : p.tables.exec = Jvm.exec) (hZ : Z.Warmed39 s.vm) {own C owner : String} {index : Nat} {y z : MethodName} {bytes : ByteArray} {maxL : Nat} {ret : Option FieldType} {rm : Room} {W : Nat} {b : Addr} {argsL rest : List Value}
    (hown : s.vm.findClass own = some m.cls) (w1 : (Jvm.Cond.methodLink own index y).before a0 Z = true) (w2 : (Jvm.Cond.sameMethod y.cls owner y.name y.desc).before a0 Z = true) (w2' : (Jvm.Cond.declares ⟨owner, y.name, y.desc⟩).before a0 Z = true) (w3 : (Jvm.Cond.selects C y z).before a0 Z = true) (w4 : (Jvm.Cond.instanceMethod z).before a0 Z = true) (w5 : (Jvm.Cond.code z bytes maxL ret).before a0 Z = true) (w6 : (Jvm.Cond.initialized z.cls).before a0 Z = true)
    (hy : owner ≠ "java/lang/invoke/MethodHandle" ∧ owner ≠ "java/lang/invoke/VarHandle") (hM : own_M l z bytes maxL ret rm Z (.ref b :: argsL).toArray h Q) (eT : T.heap = h) (E : Exa Z h b C)
    (hf : rm.frames + 1 ≤ R.frames) (hl : W + (maxL + 11) + rm.locals ≤ R.locals) (hc : cells + rm.cells ≤ R.cells) (hs : slots + rm.slots ≤ R.slots)
    {g : JFrame} (hg : g.method = m) (hsize : g.locals.size = c.maxLocals) (hlen : ∀ sig, parseMethodDescriptor y.desc = some sig → argsL.length = sig.parameters.length)
    (hstack : g.stack = argsL.reverse ++ .ref b :: rest) (hW : 2 * g.monitorRoom + (rest.map fun v => v.category).sum ≤ W) (hdg : decode c.code g.pc = .ok (.invokevirtual index, 3)) :
    ∃ v T' L, Stand p l e R s m args below meth c T' (locs ++ L) (cells + rm.cells) (slots + rm.slots) ∧ Q v T'.heap L ∧ ∀ target, Steps p.tables e below (T'.setTop { g with pc := g.pc + 3, stack := v.toList ++ rest }) target → Steps p.tables e below (T.setTop g) target := by
  obtain ⟨cq, kq, q1, -, q3⟩ := isOf hZ eT E
  obtain ⟨v, _, ⟨T', L', k', n'⟩, -, X', ⟨L, hQ, e1, e2, e3⟩, st⟩ := X.virtualBackUp hx (x := y) (y := z) hown (mvT hZ w1) (mvT hZ w2) (mvT hZ w2') hy (mvT hZ w3) (mvT hZ w4) (backOf (W := W) hM hZ w5 w6 hf hl) q1 q3 hg hsize (Steps.refl _) hlen hstack hW hdg (fun _ _ => ⟨rfl, eT, hc, hs⟩)
  dsimp only [Pt.U, Pt.locs, Pt.cells, Pt.slots] at X' e1 e2 e3 st hQ
  subst e1 e2 e3
  exact ⟨v, T', L, X', hQ, fun _ k => st.trans k⟩
theorem own_aaload (X : Stand p l e R s m args below meth c T locs cells slots) (hx : p.tables.exec = Jvm.exec) (hZ : Z.Warmed39 s.vm) (eT : T.heap = h) {a : Addr} {cl : Cell} {ty : FieldType} (F : Arr Z h a cl ty) (hty : ty.isReference = true) {j : Int32} {v : Value} (hin : ¬ (j < 0 ∨ cl.slots.size ≤ j.toNatClampNeg)) (hv : cl.slots[j.toNatClampNeg]? = some v)
    {g : JFrame} (hg : g.method = m) {rest : List Value} (hs : g.stack = .int j :: .ref a :: rest) (hd : decode c.code g.pc = .ok (.aaload, 1)) : ∀ target, Steps p.tables e below (T.setTop { g with pc := g.pc + 1, stack := v :: rest }) target → Steps p.tables e below (T.setTop g) target :=
  X.aaload hx (by rw [eT]; exact F.1) (State.isArrayOf_alike hZ.alike F.2.1) hty F.2.2 hin hv hg hs hd
theorem own_laload (X : Stand p l e R s m args below meth c T locs cells slots) (hx : p.tables.exec = Jvm.exec) (hZ : Z.Warmed39 s.vm) (eT : T.heap = h) {a : Addr} {cl : Cell} (F : Arr Z h a cl .long) {j : Int32} {v : Value} (hin : ¬ (j < 0 ∨ cl.slots.size ≤ j.toNatClampNeg)) (hv : cl.slots[j.toNatClampNeg]? = some v)
    {g : JFrame} (hg : g.method = m) {rest : List Value} (hs : g.stack = .int j :: .ref a :: rest) (hd : decode c.code g.pc = .ok (.laload, 1)) : ∀ target, Steps p.tables e below (T.setTop { g with pc := g.pc + 1, stack := v :: rest }) target → Steps p.tables e below (T.setTop g) target :=
  X.laload hx (by rw [eT]; exact F.1) (State.isArrayOf_alike hZ.alike F.2.1) F.2.2 hin hv hg hs hd
theorem own_baload (X : Stand p l e R s m args below meth c T locs cells slots) (hx : p.tables.exec = Jvm.exec) (hZ : Z.Warmed39 s.vm) (eT : T.heap = h) {a : Addr} {cl : Cell} (F : Arr Z h a cl .byte) {j : Int32} {v : Value} (hin : ¬ (j < 0 ∨ cl.slots.size ≤ j.toNatClampNeg)) (hv : cl.slots[j.toNatClampNeg]? = some v)
    {g : JFrame} (hg : g.method = m) {rest : List Value} (hs : g.stack = .int j :: .ref a :: rest) (hd : decode c.code g.pc = .ok (.baload, 1)) : ∀ target, Steps p.tables e below (T.setTop { g with pc := g.pc + 1, stack := v :: rest }) target → Steps p.tables e below (T.setTop g) target :=
  X.baloadBytes hx (by rw [eT]; exact F.1) (State.isArrayOf_alike hZ.alike F.2.1) F.2.2 hin hv hg hs hd
theorem own_zaload (X : Stand p l e R s m args below meth c T locs cells slots) (hx : p.tables.exec = Jvm.exec) (hZ : Z.Warmed39 s.vm) (eT : T.heap = h) {a : Addr} {cl : Cell} (F : Arr Z h a cl .boolean) {j : Int32} {v : Value} (hin : ¬ (j < 0 ∨ cl.slots.size ≤ j.toNatClampNeg)) (hv : cl.slots[j.toNatClampNeg]? = some v)
    {g : JFrame} (hg : g.method = m) {rest : List Value} (hs : g.stack = .int j :: .ref a :: rest) (hd : decode c.code g.pc = .ok (.baload, 1)) : ∀ target, Steps p.tables e below (T.setTop { g with pc := g.pc + 1, stack := v :: rest }) target → Steps p.tables e below (T.setTop g) target :=
  X.baloadBooleans hx (by rw [eT]; exact F.1) (State.isArrayOf_alike hZ.alike F.2.1) F.2.2 hin hv hg hs hd
theorem own_alen (X : Stand p l e R s m args below meth c T locs cells slots) (hx : p.tables.exec = Jvm.exec) (hZ : Z.Warmed39 s.vm) (eT : T.heap = h) {a : Addr} {cl : Cell} {ty : FieldType} (F : Arr Z h a cl ty) {n : Int32} (hn : cl.slots.size.toInt32 = n)
    {g : JFrame} (hg : g.method = m) {rest : List Value} (hs : g.stack = .ref a :: rest) (hd : decode c.code g.pc = .ok (.arraylength, 1)) : ∀ target, Steps p.tables e below (T.setTop { g with pc := g.pc + 1, stack := .int n :: rest }) target → Steps p.tables e below (T.setTop g) target :=
  fun t k => X.arraylength hx (by rw [eT]; exact F.1) (State.isArrayOf_alike hZ.alike F.2.1) hg hs hd t (by rw [hn]; exact k)
theorem own_elemS {t u : Term} {a w : Addr} {cl : Cell} {k : Int32} (ev : t.eval args s none [] s = some (.ref a)) (hc : s.heap[a]? = some cl) (evu : u.eval args s none [] s = some (.ref w)) (he : (Jvm.Cond.eq (.elem t (.int k)) u).value args s none s [] = some true) :
    ¬ (k < 0 ∨ cl.slots.size ≤ k.toNatClampNeg) ∧ cl.slots[k.toNatClampNeg]? = some (.ref w) := by
  obtain ⟨x, y, h1, h2, h3, h4⟩ := cmp_v (Or.inl he)
  cases evu.symm.trans h2
  have h5 := gotT (eq_R h1 h2 h4.2 rfl) he
  subst h5
  exact elem_in h1 ev (Term.int_eval k) hc
theorem own_lenS {t : Term} {a : Addr} {cl : Cell} {n : Int32} (ev : t.eval args s none [] s = some (.ref a)) (hc : s.heap[a]? = some cl) (he : (Jvm.Cond.eq (.length t) (.int n)).value args s none s [] = some true) : cl.slots.size < 2 ^ 31 ∧ cl.slots.size.toInt32 = n := by
  obtain ⟨x, y, h1, h2, h3, h4⟩ := cmp_v (Or.inl he)
  cases (Term.int_eval n).symm.trans h2
  obtain ⟨z, rfl⟩ := h4
  have h5 : z = n := by simpa [Jvm.Cond.value, h1, h2] using he
  subst h5
  obtain ⟨a', c', q1, q2, q3⟩ := Term.length_spec h1
  cases ev.symm.trans q1
  have q4 := (State.arrayAt?_spec q2).1
  cases hc.symm.trans q4
  refine ⟨?_, (Value.int.inj q3).symm⟩
  by_cases hl : cl.slots.size < 2 ^ 31
  · exact hl
  · simp [Term.eval, ev, q2, hl] at h1
/-- from a sheet's words to facts at the start -/
theorem own_const {C n d k0 : String} (hx : (Jvm.Cond.exactly (.static C n d) k0).value args s none s [] = some true) (hi : (Jvm.Cond.initialized C).before args s = true) (hl : (Jvm.Cond.laysStatic C n d).before args s = true) :
    ∃ a, (Term.static C n d).eval args s none [] s = some (.ref a) ∧ Sta s s.heap C n d (.ref a) ∧ Exa s s.heap a k0 := by
  obtain ⟨a, ev⟩ := exa_v hx
  exact ⟨a, ev, Sta.start ev (Or.inr ⟨hi, hl⟩), Exa.start ev hx⟩
theorem own_fldI {t : Term} {a : Addr} {O n d : String} {k : Int32} (ev : t.eval args s none [] s = some (.ref a)) (he : (Jvm.Cond.eq (.field t O n d) (.int k)).value args s none s [] = some true) : Fld s s.heap a O n d (.int k) := by
  obtain ⟨x, y, h1, h2, h3, h4⟩ := cmp_v (Or.inl he)
  have h5 := h1
  rw [fld_at ev] at h5
  have h6 : y = .int k := (Option.some.inj ((Term.int_eval k).symm.trans h2)).symm
  subst h6
  obtain ⟨z, rfl⟩ := h4
  have h7 : z = k := by simpa [Jvm.Cond.value, h1, h2] using he
  subst h7
  exact Fld.start h5
end Own
section Own2
variable {p : Program} {l : Launch} {e : Env} {R : Room} {s : State} {m : MethodId} {args : Array Value} {below : List Frame} {meth : Method} {c : Code} {T : State} {locs : List Loc} {cells slots : Nat} {Z : State} {a0 : Array Value} {h : Heap}
variable {a : Addr} {k : ClassId} {ty : FieldType} {z : Int32} {vs : List Value} {dv : Value}
/-- a fresh array of n places, each said -/
theorem own_arvNew {n : Nat} (A : Arr Z h a (newA k ty z) ty) (q : ¬ z < 0) : Arv Z h a k ty z (List.replicate n (defaultValue ty)) (defaultValue ty) := (Arv.new A q).pad (pad_rep [] _ n)
theorem own_stR (X : Stand p l e R s m args below meth c T locs cells slots) (hx : p.tables.exec = Jvm.exec) (hZ : Z.Warmed39 s.vm) (eT : T.heap = h) {C : String} {y : Addr} (F : Arv Z h a k (.object C) z vs dv) (O : Ovr Z k C) (I : Ins Z h y C true) {j : Int32} (i : Nat) (hj : j.toNatClampNeg = i) (hi : i < vs.length) (hin : ¬ j < 0 ∧ j < z)
    {g : JFrame} (hg : g.method = m) {rest : List Value} (hs : g.stack = .ref y :: .int j :: .ref a :: rest) (hd : decode c.code g.pc = .ok (.aastore, 1)) :
    ∃ T' h', Stand p l e R s m args below meth c T' (locs ++ [⟨a, j.toNatClampNeg⟩]) cells slots ∧ T'.heap = h' ∧ Wr h h' a j.toNatClampNeg (.ref y) ∧ Arv Z h' a k (.object C) z (vs.set i (.ref y)) dv ∧ ∀ target, Steps p.tables e below (T'.setTop { g with pc := g.pc + 1, stack := rest }) target → Steps p.tables e below (T.setTop g) target := by
  obtain ⟨cl, A, q1, S, q3, H, G⟩ := F
  obtain ⟨T', h', X', e', W, st⟩ := stR X hx hZ eT A (inb_of S hin) rfl (Sto.ofV A q1 O I) hg hs hd
  exact ⟨T', h', X', e', W, Arv.set A q1 S q3 H G rfl W i hj hi, st⟩
theorem own_stZ (X : Stand p l e R s m args below meth c T locs cells slots) (hx : p.tables.exec = Jvm.exec) (hZ : Z.Warmed39 s.vm) (eT : T.heap = h) {x : Int32} (F : Arv Z h a k .boolean z vs dv) {j : Int32} (i : Nat) (hj : j.toNatClampNeg = i) (hi : i < vs.length) (hin : ¬ j < 0 ∧ j < z)
    {g : JFrame} (hg : g.method = m) {rest : List Value} (hs : g.stack = .int x :: .int j :: .ref a :: rest) (hd : decode c.code g.pc = .ok (.bastore, 1)) :
    ∃ T' h', Stand p l e R s m args below meth c T' (locs ++ [⟨a, j.toNatClampNeg⟩]) cells slots ∧ T'.heap = h' ∧ Wr h h' a j.toNatClampNeg (.int (nar .boolean x)) ∧ Arv Z h' a k .boolean z (vs.set i (.int (nar .boolean x))) dv ∧ ∀ target, Steps p.tables e below (T'.setTop { g with pc := g.pc + 1, stack := rest }) target → Steps p.tables e below (T.setTop g) target := by
  obtain ⟨cl, A, q1, S, q3, H, G⟩ := F
  obtain ⟨T', h', X', e', W, st⟩ := stZ X hx hZ eT A (inb_of S hin) hg hs hd
  exact ⟨T', h', X', e', W, Arv.set A q1 S q3 H G (fits_nar_bool x) W i hj hi, st⟩
theorem own_stB (X : Stand p l e R s m args below meth c T locs cells slots) (hx : p.tables.exec = Jvm.exec) (hZ : Z.Warmed39 s.vm) (eT : T.heap = h) {x : Int32} (F : Arv Z h a k .byte z vs dv) {j : Int32} (i : Nat) (hj : j.toNatClampNeg = i) (hi : i < vs.length) (hin : ¬ j < 0 ∧ j < z)
    {g : JFrame} (hg : g.method = m) {rest : List Value} (hs : g.stack = .int x :: .int j :: .ref a :: rest) (hd : decode c.code g.pc = .ok (.bastore, 1)) :
    ∃ T' h', Stand p l e R s m args below meth c T' (locs ++ [⟨a, j.toNatClampNeg⟩]) cells slots ∧ T'.heap = h' ∧ Wr h h' a j.toNatClampNeg (.int (nar .byte x)) ∧ Arv Z h' a k .byte z (vs.set i (.int (nar .byte x))) dv ∧ ∀ target, Steps p.tables e below (T'.setTop { g with pc := g.pc + 1, stack := rest }) target → Steps p.tables e below (T.setTop g) target := by
  obtain ⟨cl, A, q1, S, q3, H, G⟩ := F
  obtain ⟨T', h', X', e', W, st⟩ := stB X hx hZ eT A (inb_of S hin) hg hs hd
  exact ⟨T', h', X', e', W, Arv.set A q1 S q3 H G (fits_nar_byte x) W i hj hi, st⟩
theorem own_stJ (X : Stand p l e R s m args below meth c T locs cells slots) (hx : p.tables.exec = Jvm.exec) (hZ : Z.Warmed39 s.vm) (eT : T.heap = h) {x : Int64} (F : Arv Z h a k .long z vs dv) {j : Int32} (i : Nat) (hj : j.toNatClampNeg = i) (hi : i < vs.length) (hin : ¬ j < 0 ∧ j < z)
    {g : JFrame} (hg : g.method = m) {rest : List Value} (hs : g.stack = .long x :: .int j :: .ref a :: rest) (hd : decode c.code g.pc = .ok (.lastore, 1)) :
    ∃ T' h', Stand p l e R s m args below meth c T' (locs ++ [⟨a, j.toNatClampNeg⟩]) cells slots ∧ T'.heap = h' ∧ Wr h h' a j.toNatClampNeg (.long x) ∧ Arv Z h' a k .long z (vs.set i (.long x)) dv ∧ ∀ target, Steps p.tables e below (T'.setTop { g with pc := g.pc + 1, stack := rest }) target → Steps p.tables e below (T.setTop g) target := by
  obtain ⟨cl, A, q1, S, q3, H, G⟩ := F
  obtain ⟨T', h', X', e', W, st⟩ := stJ X hx hZ eT A (inb_of S hin) hg hs hd
  exact ⟨T', h', X', e', W, Arv.set A q1 S q3 H G rfl W i hj hi, st⟩
theorem own_stC (X : Stand p l e R s m args below meth c T locs cells slots) (hx : p.tables.exec = Jvm.exec) (hZ : Z.Warmed39 s.vm) (eT : T.heap = h) {x : Int32} (F : Arv Z h a k .char z vs dv) {j : Int32} (i : Nat) (hj : j.toNatClampNeg = i) (hi : i < vs.length) (hin : ¬ j < 0 ∧ j < z)
    {g : JFrame} (hg : g.method = m) {rest : List Value} (hs : g.stack = .int x :: .int j :: .ref a :: rest) (hd : decode c.code g.pc = .ok (.castore, 1)) :
    ∃ T' h', Stand p l e R s m args below meth c T' (locs ++ [⟨a, j.toNatClampNeg⟩]) cells slots ∧ T'.heap = h' ∧ Wr h h' a j.toNatClampNeg (.int (nar .char x)) ∧ Arv Z h' a k .char z (vs.set i (.int (nar .char x))) dv ∧ ∀ target, Steps p.tables e below (T'.setTop { g with pc := g.pc + 1, stack := rest }) target → Steps p.tables e below (T.setTop g) target := by
  obtain ⟨cl, A, q1, S, q3, H, G⟩ := F
  obtain ⟨T', h', X', e', W, st⟩ := stC X hx hZ eT A (inb_of S hin) hg hs hd
  exact ⟨T', h', X', e', W, Arv.set A q1 S q3 H G (fits_nar_char x) W i hj hi, st⟩
theorem own_caload (X : Stand p l e R s m args below meth c T locs cells slots) (hx : p.tables.exec = Jvm.exec) (hZ : Z.Warmed39 s.vm) (eT : T.heap = h) {cl : Cell} (F : Arr Z h a cl .char) {j : Int32} {v : Value} (hin : ¬ (j < 0 ∨ cl.slots.size ≤ j.toNatClampNeg)) (hv : cl.slots[j.toNatClampNeg]? = some v)
    {g : JFrame} (hg : g.method = m) {rest : List Value} (hs : g.stack = .int j :: .ref a :: rest) (hd : decode c.code g.pc = .ok (.caload, 1)) : ∀ target, Steps p.tables e below (T.setTop { g with pc := g.pc + 1, stack := v :: rest }) target → Steps p.tables e below (T.setTop g) target :=
  X.caload hx (by rw [eT]; exact F.1) (State.isArrayOf_alike hZ.alike F.2.1) F.2.2 hin hv hg hs hd
/-- a place of an array that is said -/
theorem own_at (F : Arv Z h a k ty z vs dv) {j : Int32} (hin : ¬ j < 0 ∧ j < z) : ∃ cl, Arr Z h a cl ty ∧ ¬ (j < 0 ∨ cl.slots.size ≤ j.toNatClampNeg) ∧ cl.slots[j.toNatClampNeg]? = some (vs.getD j.toNatClampNeg dv) := by
  obtain ⟨cl, A, q1, S, q3, H, G⟩ := F
  exact ⟨cl, A, inb_of S hin, H.at (inb_of S hin) rfl⟩
theorem own_len (F : Arv Z h a k ty z vs dv) : ∃ cl, Arr Z h a cl ty ∧ cl.slots.size.toInt32 = z := by
  obtain ⟨cl, A, q1, S, q3, H, G⟩ := F
  exact ⟨cl, A, len_of S q3⟩
theorem own_re {vs' : List Value} (F : Arv Z h a k ty z vs dv) (q : ∀ i, i < z.toNatClampNeg → vs'.getD i dv = vs.getD i dv) : Arv Z h a k ty z vs' dv := by
  obtain ⟨cl, A, q1, S, q3, H, G⟩ := F
  exact ⟨cl, A, q1, S, q3, fun i hi => by rw [q i (S ▸ hi)]; exact H i hi, fun i hi => by rw [q i (S ▸ hi)]; exact G i hi⟩
theorem own_no {n : Nat} {C S O k0 : String} (w : (Jvm.Cond.superclass C S).before a0 Z = true) (w2 : (Jvm.Cond.superclass S O).before a0 Z = true) (w3 : (Jvm.Cond.noSuperclass O).before a0 Z = true) (wi : (Jvm.Cond.instantiable k0 n).before a0 Z = true) (n1 : C ≠ k0) (n2 : S ≠ k0) (n3 : O ≠ k0) :
    ∃ c t, Z.vm.findClass C = some c ∧ Z.vm.findClass k0 = some t ∧ Z.vm.assignable c t = false := by
  obtain ⟨t, kt, g1, g2, g3, g4, -⟩ := Cond.instantiable_spec wi
  have hO : NS Z O k0 := by
    obtain ⟨c, kc, h1, h2, h3, -, -⟩ := Cond.noSuperclass_spec w3
    refine ⟨c, t, h1, g1, fun fuel => ?_⟩
    cases fuel with
    | zero => rfl
    | succ f => simp [Vm.isSubclassAux, ids_ne h1 g1 n3, h2, h3]
  obtain ⟨c, t', h0, g0, n4⟩ := NS.step w (NS.step w2 hO n2) n1
  cases g1.symm.trans g0
  obtain ⟨p, kk, kp, h1, h2, h3, h4, h5, -, h7⟩ := Cond.superclass_spec h0 w
  refine ⟨c, t, h0, g0, ?_⟩
  show Z.vm.assignableAux (255 + 1) c t = false
  simp only [Bool.or_eq_false_iff] at g4
  simp [Vm.assignableAux, ids_ne h0 g0 n1, h2, g2, h5, g3, g4.1, Vm.isSubclass, n4]
theorem own_clone (X : Stand p l e R s m args below meth c T locs cells slots) (hx : p.tables.exec = Jvm.exec) (hZ : Z.Warmed39 s.vm) {own ad : String} {index : Nat} (hown : s.vm.findClass own = some m.cls)
    (w1 : (Jvm.Cond.methodLink own index ⟨ad, "clone", "()Ljava/lang/Object;"⟩).before a0 Z = true) (w2 : (Jvm.Cond.sameMethod ad "java/lang/Object" "clone" "()Ljava/lang/Object;").before a0 Z = true) (w3 : (Jvm.Cond.native ⟨"java/lang/Object", "clone", "()Ljava/lang/Object;"⟩).before a0 Z = true)
    (w4 : (Jvm.Cond.instanceMethod ⟨"java/lang/Object", "clone", "()Ljava/lang/Object;"⟩).before a0 Z = true) (w5 : (Jvm.Cond.selects ad ⟨ad, "clone", "()Ljava/lang/Object;"⟩ ⟨"java/lang/Object", "clone", "()Ljava/lang/Object;"⟩).before a0 Z = true) (w6 : (Jvm.Cond.castable ad "java/lang/Cloneable").before a0 Z = true)
    (eT : T.heap = h) (F : Arv Z h a k ty z vs dv) (E : Exa Z h a ad) {g : JFrame} (hg : g.method = m) (hsize : g.locals.size = c.maxLocals) {rest : List Value} (hst : g.stack = .ref a :: rest) (hd : decode c.code g.pc = .ok (.invokevirtual index, 3))
    (hf : 1 ≤ R.frames) {W cap : Nat} (hW : 2 * g.monitorRoom + (rest.map fun v => v.category).sum ≤ W) (hl : W + 14 ≤ R.locals) (hcap : z.toNatClampNeg ≤ cap) (hc : cells + 1 ≤ R.cells) (hsl : slots + cap ≤ R.slots) :
    ∃ T' h', Stand p l e R s m args below meth c T' locs (cells + 1) (slots + cap) ∧ T'.heap = h' ∧ Ext h h' ∧ Arv Z h' h.size k ty z vs dv ∧ Exa Z h' h.size ad ∧
      ∀ target, Steps p.tables e below (T'.setTop { g with pc := g.pc + 3, stack := .ref h.size :: rest }) target → Steps p.tables e below (T.setTop g) target := by
  obtain ⟨cl, A, q1, S, q3, H, G⟩ := F
  obtain ⟨T', h', X', e', E', A', B', st⟩ := cloneA X hx hZ hown w1 w2 w3 w4 w5 w6 eT A E (fitC_of A (fun i hi v hv => by rw [H i hi] at hv; cases hv; exact G i hi)) hg hsize hst hd hf hW hl (by rw [S]; exact hcap) hc hsl
  exact ⟨T', h', X', e', E', ⟨cloneOf cl, A', q1, S, q3, H, G⟩, B', st⟩
end Own2
section Own3
variable {p : Program} {l : Launch} {e : Env} {R : Room} {s : State} {m : MethodId} {args : Array Value} {below : List Frame} {meth : Method} {c : Code} {T : State} {locs : List Loc} {cells slots : Nat} {Z : State} {a0 : Array Value} {h : Heap} {vm0 : Vm} {EL : List (String × Nat)}
/-- as own_E, where String constants may be loaded meanwhile -/
def own_F (p : Program) (e : Env) (below : List Frame) (s : State) (Z : State) (EL : List (String × Nat)) (Q : Option Value → Heap → List Loc → Prop) (K N : Nat) (A : State) : Prop :=
  ∃ t o, Steps p.tables e below A t ∧ t.status = .running ∧ Ended t below o ∧ ∃ v L, o = .returned v ∧ Q v t.heap L ∧ CHr Z EL s.vm s.heap t.vm t.heap ∧ ReturnedEndW s o t L K N
variable {Q : Option Value → Heap → List Loc → Prop} {K N : Nat} {A A' : State}
theorem own_goF (h : ∀ t, Steps p.tables e below A' t → Steps p.tables e below A t) (k : own_F p e below s Z EL Q K N A') : own_F p e below s Z EL Q K N A := by
  obtain ⟨t, o, h1, h2⟩ := k
  exact ⟨t, o, h _ h1, h2⟩
theorem own_since (s : State) (n : Nat) : s.Since s.vm n := ⟨State.Warmed39.refl s, fun j p hj hp => absurd (Array.getElem?_eq_some_iff.mp hp).1 (Nat.not_lt.mpr hj)⟩
theorem own_retF (X : Stand p l e R (s.setVm vm0) m args below meth c T locs cells slots) (hx : p.tables.exec = Jvm.exec) {n : Nat} (hS : s.Since vm0 n) (hk : n ≤ T.heap.size) (hC : CHr Z EL s.vm s.heap T.vm T.heap) {pc : Nat} {Ls : Array Slot} {w : Value} {t : FieldType} {i : Instr} {rest : List Value} (hret : meth.sig.returnType = some t) (hlk : meth.locks = false) (hn : narrow t w = w)
    (hi : (i = .ireturn ∧ (t = .int ∨ t = .boolean ∨ t = .byte ∨ t = .char ∨ t = .short) ∧ ∃ z, w = .int z) ∨ (i = .lreturn ∧ t = .long ∧ ∃ z, w = .long z) ∨ (i = .dreturn ∧ t = .double ∧ ∃ z, w = .double z) ∨ (i = .freturn ∧ t = .float ∧ ∃ z, w = .float z) ∨ (i = .areturn ∧ t.isReference = true ∧ w.isRef = true))
    (hd : decode c.code pc = .ok (i, 1)) (hQ : Q (some w) T.heap locs) (hK : cells ≤ K) (hN : slots ≤ N) : own_F p e below s Z EL Q K N (T.setTop (mkF m pc Ls (w :: rest))) := by
  obtain ⟨fs, hr, hrun, hended, hW⟩ := X.leaveW hS hk (v := some w) (fun h => by rw [hret] at h; cases h) hlk
  exact ⟨_, _, retOut X hx hret hn hi hd hr, hrun, hended, _, _, rfl, hQ, hC, hW.1, hW.2.1, hW.2.2.1, hW.2.2.2.mono hK hN⟩
theorem own_retF0 (X : Stand p l e R (s.setVm vm0) m args below meth c T locs cells slots) (hx : p.tables.exec = Jvm.exec) {n : Nat} (hS : s.Since vm0 n) (hk : n ≤ T.heap.size) (hC : CHr Z EL s.vm s.heap T.vm T.heap) {pc : Nat} {Ls : Array Slot} (hret : meth.sig.returnType = none) (hlk : meth.locks = false)
    (hd : decode c.code pc = .ok (.return_, 1)) (hQ : Q none T.heap locs) (hK : cells ≤ K) (hN : slots ≤ N) : own_F p e below s Z EL Q K N (T.setTop (mkF m pc Ls [])) := by
  obtain ⟨fs, hr, hrun, hended, hW⟩ := X.leaveW hS hk (v := none) (fun _ => rfl) hlk
  exact ⟨_, _, X.returnOut hx hret hd hr, hrun, hended, _, _, rfl, hQ, hC, hW.1, hW.2.1, hW.2.2.1, hW.2.2.2.mono hK hN⟩
abbrev own_MF (l : Launch) (y : MethodName) (bytes : ByteArray) (maxL : Nat) (ret : Option FieldType) (rm : Room) (Z : State) (EL : List (String × Nat)) (as' : Array Value) (h : Heap) (Q : Option Value → Heap → List Loc → Prop) : Prop :=
  MetFree l y (head1 [Jvm.Cond.code y bytes maxL ret] rm) (fun a U => a = as' ∧ Z.Warmed39 U.vm ∧ U.heap = h ∧ CHv Z EL U.vm h) (fun _ _ _ _ _ => True) (fun _ U o U' => ∃ v L, o = .returned v ∧ Q v U'.heap L ∧ CHr Z EL U.vm U.heap U'.vm U'.heap ∧ ReturnedEndW U o U' L rm.cells rm.slots)
theorem own_callSF (X : Stand p l e R (s.setVm vm0) m args below meth c T locs cells slots) (hx : p.tables.exec = Jvm.exec) (hZ : Z.Warmed39 (s.setVm vm0).vm) {own : String} {index : Nat} {y : MethodName} {bytes : ByteArray} {maxL : Nat} {ret : Option FieldType} {rm : Room} {W : Nat} {argsL rest : List Value}
    (hown : (s.setVm vm0).vm.findClass own = some m.cls) (w1 : (Jvm.Cond.methodLink own index y).before a0 Z = true) (w2 : (Jvm.Cond.static y).before a0 Z = true) (w3 : (Jvm.Cond.initialized y.cls).before a0 Z = true) (w4 : (Jvm.Cond.code y bytes maxL ret).before a0 Z = true)
    (hy : y.cls ≠ "java/lang/invoke/MethodHandle" ∧ y.cls ≠ "java/lang/invoke/VarHandle") (hM : own_MF l y bytes maxL ret rm Z EL argsL.toArray h Q) (eT : T.heap = h) {k0 : Nat} (hS : s.Since vm0 k0) (hk : k0 ≤ h.size) (hEL : EW Z a0 EL) (H : CHv Z EL vm0 h)
    (hf : rm.frames + 1 ≤ R.frames) (hl : W + (maxL + 11) + rm.locals ≤ R.locals) (hc : cells + rm.cells ≤ R.cells) (hs : slots + rm.slots ≤ R.slots)
    {g : JFrame} (hg : g.method = m) (hsize : g.locals.size = c.maxLocals) (hlen : ∀ sig, parseMethodDescriptor y.desc = some sig → argsL.length = sig.parameters.length)
    (hstack : g.stack = argsL.reverse ++ rest) (hW : 2 * g.monitorRoom + (rest.map fun v => v.category).sum ≤ W) (hdg : decode c.code g.pc = .ok (.invokestatic index, 3)) :
    ∃ v T' L, Stand p l e R (s.setVm T'.vm) m args below meth c T' (locs ++ L) (cells + rm.cells) (slots + rm.slots) ∧ s.Since T'.vm T'.heap.size ∧ Z.Warmed39 (s.setVm T'.vm).vm ∧ (s.setVm T'.vm).vm.findClass own = some m.cls ∧ Q v T'.heap L ∧ CHr Z EL vm0 h T'.vm T'.heap ∧ ∀ target, Steps p.tables e below (T'.setTop { g with pc := g.pc + 3, stack := v.toList ++ rest }) target → Steps p.tables e below (T.setTop g) target := by
  obtain ⟨v, _, ⟨T', L', k', n'⟩, -, X', hS', hge, ⟨L, hQ, e1, e2, e3, hC⟩, st⟩ := callSS X hx (y := y) hown (mvT hZ w1) (mvT hZ w2) (mvT hZ w3) (mvT hZ w4) hy (backOfSH (W := W) hM hZ w4 w3 hf hl hEL H) hg hsize hlen hstack hW hdg (fun _ _ => ⟨rfl, eT, hc, hs⟩)
  dsimp only [Pt.U, Pt.locs, Pt.cells, Pt.slots] at X' hS' hge e1 e2 e3 st hQ hC
  subst e1 e2 e3
  obtain ⟨Y, hS2, hZ2, ho2⟩ := rebS (own := own) hS (n1 := T.heap.size) (by rw [eT]; exact hk) X' hS' hge hZ hown
  exact ⟨v, T', L, Y, hS2, hZ2, ho2, hQ, hC, fun _ k => st.trans k⟩
theorem own_callIF (X : Stand p l e R (s.setVm vm0) m args below meth c T locs cells slots) (hx : p.tables.exec = Jvm.exec) (hZ : Z.Warmed39 (s.setVm vm0).vm) {own : String} {index : Nat} {y : MethodName} {bytes : ByteArray} {maxL : Nat} {rm : Room} {W : Nat} {b : Addr} {argsL rest : List Value}
    (hown : (s.setVm vm0).vm.findClass own = some m.cls) (hy1 : y.name = "<init>") (w1 : (Jvm.Cond.methodLink own index y).before a0 Z = true) (w2 : (Jvm.Cond.instanceMethod y).before a0 Z = true) (w3 : (Jvm.Cond.initialized y.cls).before a0 Z = true) (w4 : (Jvm.Cond.code y bytes maxL none).before a0 Z = true)
    (hy : y.cls ≠ "java/lang/invoke/MethodHandle" ∧ y.cls ≠ "java/lang/invoke/VarHandle") (hM : own_MF l y bytes maxL none rm Z EL (.ref b :: argsL).toArray h Q) (eT : T.heap = h) {k0 : Nat} (hS : s.Since vm0 k0) (hk : k0 ≤ h.size) (hEL : EW Z a0 EL) (H : CHv Z EL vm0 h)
    (hf : rm.frames + 1 ≤ R.frames) (hl : W + (maxL + 11) + rm.locals ≤ R.locals) (hc : cells + rm.cells ≤ R.cells) (hs : slots + rm.slots ≤ R.slots)
    {g : JFrame} (hg : g.method = m) (hsize : g.locals.size = c.maxLocals) (hlen : ∀ sig, parseMethodDescriptor y.desc = some sig → argsL.length = sig.parameters.length)
    (hstack : g.stack = argsL.reverse ++ .ref b :: rest) (hW : 2 * g.monitorRoom + (rest.map fun v => v.category).sum ≤ W) (hdg : decode c.code g.pc = .ok (.invokespecial index, 3)) :
    ∃ v T' L, Stand p l e R (s.setVm T'.vm) m args below meth c T' (locs ++ L) (cells + rm.cells) (slots + rm.slots) ∧ s.Since T'.vm T'.heap.size ∧ Z.Warmed39 (s.setVm T'.vm).vm ∧ (s.setVm T'.vm).vm.findClass own = some m.cls ∧ Q v T'.heap L ∧ CHr Z EL vm0 h T'.vm T'.heap ∧ ∀ target, Steps p.tables e below (T'.setTop { g with pc := g.pc + 3, stack := v.toList ++ rest }) target → Steps p.tables e below (T.setTop g) target := by
  obtain ⟨v, _, ⟨T', L', k', n'⟩, -, X', hS', hge, ⟨L, hQ, e1, e2, e3, hC⟩, st⟩ := X.specialBackS hx (y := y) hy1 hown (mvT hZ w1) (mvT hZ w2) (mvT hZ w4) hy (backOfSH (W := W) hM hZ w4 w3 hf hl hEL H) hg hsize (Steps.refl _) hlen hstack hW hdg (fun _ _ => ⟨rfl, eT, hc, hs⟩)
  dsimp only [Pt.U, Pt.locs, Pt.cells, Pt.slots] at X' hS' hge e1 e2 e3 st hQ hC
  subst e1 e2 e3
  obtain ⟨Y, hS2, hZ2, ho2⟩ := rebS (own := own) hS (n1 := T.heap.size) (by rw [eT]; exact hk) X' hS' hge hZ hown
  exact ⟨v, T', L, Y, hS2, hZ2, ho2, hQ, hC, fun _ k => st.trans k⟩
/-- a String whose value is null is no booked one -/
theorem own_safe {a : Addr} (hal : Z.vm.Alike vm0) (F : Fld Z h a "java/lang/String" "value" "[B" .null) (E : Exa Z h a "java/lang/String") : Safe Z EL vm0 h a := fun B => by
  obtain ⟨cell, k2, e1, e2, e3, -, -⟩ := E
  obtain ⟨cell', cf, k, i, f, h1, h2, -, -, -, -, h7⟩ := F
  cases h1.symm.trans e1
  have nm : ∀ {n : String} {c : ClassId}, vm0.findClass n = some c → c = cell.cls → n = "java/lang/String" := fun {n c} g e => by
    subst e
    rw [hal.findClass] at g
    obtain ⟨k1, q1, q2⟩ := Vm.findClass_spec g
    obtain ⟨k2, q3, q4⟩ := Vm.findClass_spec e2
    cases q1.symm.trans q3
    exact q2.symm.trans q4
  obtain ⟨p, -, u, a', -, q, -, G, rfl | rfl⟩ := B
  · cases (show h[q.sa]? = some q.sC from G.ha).symm.trans h1
    obtain ⟨cS, ⟨⟨-, -, -, ⟨c1, k1, i1, f1, -⟩, -, -, -, v1, -⟩, -⟩, -⟩ := G
    obtain ⟨k3, g3, -⟩ := State.fieldFound?_setVm (s := Z) hal h2
    have e4 := (show (Wst Z vm0 h).fieldFound? _ _ _ = _ from g3).symm.trans f1
    simp only [Option.some.injEq, Prod.mk.injEq] at e4
    rw [← e4.2.2.2, h7] at v1
    cases v1
  · cases (show h[q.sd]? = some q.SA from G.hd).symm.trans h1
    obtain ⟨cS, -, -, f', -⟩ := G
    exact absurd (nm f' rfl) (by decide)
end Own3
def own_EL : List (String × Nat) := [("java/lang/String", 7)]
theorem own_EW {Z : State} {a0 : Array Value} (hw : ∀ d ∈ tables_1, d.before a0 Z = true) : EW Z a0 own_EL := EW.cons (hw _ (List.mem_of_getElem? (i := 18) rfl)) (by decide) EW.nil
theorem own_wS {Z : State} {a0 : Array Value} (hw : ∀ d ∈ tables_1, d.before a0 Z = true) : ∀ a ∈ Bundle.stringAtoms, a.before a0 Z = true := fun d hd => by
  simp only [Bundle.stringAtoms, List.mem_cons, List.not_mem_nil, or_false] at hd
  rcases hd with rfl | rfl | rfl | rfl | rfl | rfl | rfl
  · exact (hw _ (List.mem_of_getElem? (i := 7) rfl))
  · exact (hw _ (List.mem_of_getElem? (i := 6) rfl))
  · exact (hw _ (List.mem_of_getElem? (i := 19) rfl))
  · exact (hw _ (List.mem_of_getElem? (i := 20) rfl))
  · exact (hw _ (List.mem_of_getElem? (i := 21) rfl))
  · exact (hw _ (List.mem_of_getElem? (i := 22) rfl))
  · exact (hw _ (List.mem_of_getElem? (i := 23) rfl))
theorem own_nb (y : Int32) : nar .byte y.toInt8.toInt32 = y.toInt8.toInt32 := by simp [nar]
theorem own_mask (x : Int32) : 0 ≤ (x &&& 255).toUInt32.toUInt16.toUInt32.toInt32.toInt ∧ (x &&& 255).toUInt32.toUInt16.toUInt32.toInt32.toInt ≤ 255 := by
  rw [i2c_mask]
  exact c_and x 255 (by decide)
theorem own_nlt {c : Int32} (h : c.toInt ≤ 255) : ¬ (255 : Int32) < c := by
  rw [Int32.lt_iff_toInt_lt]
  have e : (255 : Int32).toInt = 255 := by decide
  omega
theorem own_narC {c : Int32} (h0 : 0 ≤ c.toInt) (h1 : c.toInt ≤ 255) : nar .char c = c := by
  have t : ∀ k : Fin 256, nar .char (Int32.ofNat k.val) = Int32.ofNat k.val := by decide +kernel
  have e : c = Int32.ofNat c.toInt.toNat := by rw [← Int32.toInt_inj, Int32.toInt_ofNat_of_lt (by omega)]; omega
  have q := t ⟨c.toInt.toNat, by omega⟩
  rw [← e] at q
  exact q
theorem pd_0 : parseMethodDescriptor "([CI[BII)I" = some ⟨[(.array .char), .int, (.array .byte), .int, .int], some .int⟩ := by decide +kernel
theorem pd_1 : parseMethodDescriptor "([CII)[B" = some ⟨[(.array .char), .int, .int], some (.array .byte)⟩ := by decide +kernel
theorem pd_2 : parseMethodDescriptor "([BI)B" = some ⟨[(.array .byte), .int], some .byte⟩ := by decide +kernel
theorem pd_3 : parseMethodDescriptor "([CIILjava/lang/Void;)V" = some ⟨[(.array .char), .int, .int, (.object "java/lang/Void")], none⟩ := by decide +kernel
theorem pd_4 : parseMethodDescriptor "([C)V" = some ⟨[(.array .char)], none⟩ := by decide +kernel
theorem pd_5 : parseMethodDescriptor "()V" = some ⟨[], none⟩ := by decide +kernel
theorem pd_6 : parseMethodDescriptor "(ZII)Ljava/lang/String;" = some ⟨[.boolean, .int, .int], some (.object "java/lang/String")⟩ := by decide +kernel
theorem pd_7 : parseMethodDescriptor "(Ljava/lang/String;Ljava/lang/String;)V" = some ⟨[(.object "java/lang/String"), (.object "java/lang/String")], none⟩ := by decide +kernel
theorem pd_8 : parseMethodDescriptor "()Ljava/lang/String;" = some ⟨[], some (.object "java/lang/String")⟩ := by decide +kernel
theorem d9_0 : decode jdk_52_method_21_code 0 = .ok (.iconst 0, 1) := by decide +kernel
theorem d9_1 : decode jdk_52_method_21_code 1 = .ok (.istore 5, 2) := by decide +kernel
theorem d9_3 : decode jdk_52_method_21_code 3 = .ok (.iload 5, 2) := by decide +kernel
theorem d9_5 : decode jdk_52_method_21_code 5 = .ok (.iload 4, 2) := by decide +kernel
theorem d9_7 : decode jdk_52_method_21_code 7 = .ok (.if_icmp .ge 37, 3) := by decide +kernel
theorem d9_10 : decode jdk_52_method_21_code 10 = .ok (.aload_n 0, 1) := by decide +kernel
theorem d9_11 : decode jdk_52_method_21_code 11 = .ok (.iload_n 1, 1) := by decide +kernel
theorem d9_12 : decode jdk_52_method_21_code 12 = .ok (.caload, 1) := by decide +kernel
theorem d9_13 : decode jdk_52_method_21_code 13 = .ok (.istore 6, 2) := by decide +kernel
theorem d9_15 : decode jdk_52_method_21_code 15 = .ok (.iload 6, 2) := by decide +kernel
theorem d9_17 : decode jdk_52_method_21_code 17 = .ok (.sipush 255, 3) := by decide +kernel
theorem d9_20 : decode jdk_52_method_21_code 20 = .ok (.if_icmp .le 6, 3) := by decide +kernel
theorem d9_23 : decode jdk_52_method_21_code 23 = .ok (.iload 5, 2) := by decide +kernel
theorem d9_25 : decode jdk_52_method_21_code 25 = .ok (.ireturn, 1) := by decide +kernel
theorem d9_26 : decode jdk_52_method_21_code 26 = .ok (.aload_n 2, 1) := by decide +kernel
theorem d9_27 : decode jdk_52_method_21_code 27 = .ok (.iload_n 3, 1) := by decide +kernel
theorem d9_28 : decode jdk_52_method_21_code 28 = .ok (.iload 6, 2) := by decide +kernel
theorem d9_30 : decode jdk_52_method_21_code 30 = .ok (.i2b, 1) := by decide +kernel
theorem d9_31 : decode jdk_52_method_21_code 31 = .ok (.bastore, 1) := by decide +kernel
theorem d9_32 : decode jdk_52_method_21_code 32 = .ok (.iinc 1 1, 3) := by decide +kernel
theorem d9_35 : decode jdk_52_method_21_code 35 = .ok (.iinc 3 1, 3) := by decide +kernel
theorem d9_38 : decode jdk_52_method_21_code 38 = .ok (.iinc 5 1, 3) := by decide +kernel
theorem d9_41 : decode jdk_52_method_21_code 41 = .ok (.goto (-38), 3) := by decide +kernel
theorem d9_44 : decode jdk_52_method_21_code 44 = .ok (.iload 4, 2) := by decide +kernel
theorem d9_46 : decode jdk_52_method_21_code 46 = .ok (.ireturn, 1) := by decide +kernel
def Qrm9 (a : Addr) (kS : ClassId) (d : Addr) (kD : ClassId) (c0 : Int32) (c1 : Int32) (Z : State) (h0 : Heap) (n0 : Nat) (v : Option Value) (h : Heap) (L : List Loc) : Prop := v = some (.int (2 : Int32)) ∧ Fr n0 L ∧ Keep h0 h [d] ∧ Arv Z h d kD .byte (2 : Int32) [.int c0.toInt8.toInt32, .int c1.toInt8.toInt32] (.int 0)
set_option maxRecDepth 65536 in
set_option maxHeartbeats 40000000 in
theorem rm9 (l : Launch) (Z : State) (a0 : Array Value) (hw : ∀ d ∈ tables_1, d.before a0 Z = true) (a : Addr) (kS : ClassId) (d : Addr) (kD : ClassId) (c0 : Int32) (c1 : Int32) (h0 : Heap) (n0 : Nat) (Z0 : n0 ≤ h0.size) (hc0 : ¬ (255 : Int32) < c0) (hc1 : ¬ (255 : Int32) < c1) (V : Arv Z h0 a kS .char (2 : Int32) [.int c0, .int c1] (.int 0)) (D : Arv Z h0 d kD .byte (2 : Int32) [.int 0, .int 0] (.int 0)) (ne : a ≠ d) (gd : n0 ≤ d) :
    MetFree l (⟨"java/lang/StringUTF16", "compress", "([CI[BII)I"⟩ : MethodName) (head1 (Jvm.Cond.code (⟨"java/lang/StringUTF16", "compress", "([CI[BII)I"⟩ : MethodName) jdk_52_method_21_code 7 (some .int) :: []) ({ frames := 0, cells := 0, slots := 0, locals := 0 } : Room)) (fun ar_ U => ar_ = #[(.ref a), (.int (0 : Int32)), (.ref d), (.int (0 : Int32)), (.int (2 : Int32))] ∧ Z.Warmed39 U.vm ∧ U.heap = h0) (fun _ _ _ _ _ => True) (fun _ U o U' => ∃ v L, o = .returned v ∧ Qrm9 a kS d kD c0 c1 Z h0 n0 v U'.heap L ∧ FrameEnd U o U' L ({ frames := 0, cells := 0, slots := 0, locals := 0 } : Room).cells ({ frames := 0, cells := 0, slots := 0, locals := 0 } : Room).slots) := by
  refine MetFree.of_bodySF (plainFor_of_name (by first | (simp [plainName, overriddenIn]; done) | decide +kernel)) hisR ?_
  intro p e s m args below meth c s₁ Bd hml0 hP hK
  obtain ⟨rfl, hZ, hh⟩ := hP
  have hx := Bd.exec
  have hby := Bd.bytes
  have hml : c.maxLocals = 7 := hml0
  have hown : s.vm.findClass "java/lang/StringUTF16" = some m.cls := findClass_of_methodNamed Bd.named
  have hnm := (name_of_methodNamed Bd.named Bd.method).1
  have X0 : Stand p l e ({ frames := 0, cells := 0, slots := 0, locals := 0 } : Room) s m #[(.ref a), (.int (0 : Int32)), (.ref d), (.int (0 : Int32)), (.int (2 : Int32))] below meth c s₁ [] 0 0 := Stand.of_body Bd
  have e0 : s₁.heap = h0 := by rw [← hh, Bd.state]; rfl
  have N0 := Fr.nil n0
  show own_E p e below s (Qrm9 a kS d kD c0 c1 Z h0 n0) ({ frames := 0, cells := 0, slots := 0, locals := 0 } : Room).cells ({ frames := 0, cells := 0, slots := 0, locals := 0 } : Room).slots (s₁.setTop (entryFrame m #[(.ref a), (.int (0 : Int32)), (.ref d), (.int (0 : Int32)), (.int (2 : Int32))] 7))
  refine own_go (fun t k => castTop (show _ = (mkF m 0 #[.val (.ref a), .val (.int (0 : Int32)), .val (.ref d), .val (.int (0 : Int32)), .val (.int (2 : Int32)), .unset, .unset] []) from by first | (simp [entryFrame, mkF, argsToLocals, Value.category]; done) | rfl) k) ?_
  show own_E _ _ _ _ _ _ _ (s₁.setTop (mkF m 0 #[.val (.ref a), .val (.int (0 : Int32)), .val (.ref d), .val (.int (0 : Int32)), .val (.int (2 : Int32)), .unset, .unset] []))
  have KK := Keep.refl h0 [d]
  refine own_go (fun _ k => XT.iconstV X0.here hx rfl (0 : Int32) (hb hby d9_0) (by decide) k) ?_
  show own_E _ _ _ _ _ _ _ (s₁.setTop (mkF m 1 #[.val (.ref a), .val (.int (0 : Int32)), .val (.ref d), .val (.int (0 : Int32)), .val (.int (2 : Int32)), .unset, .unset] [(.int (0 : Int32))]))
  refine own_go (fun _ k => XS.istore X0.here hx rfl (hb hby d9_1) rfl (l' := #[.val (.ref a), .val (.int (0 : Int32)), .val (.ref d), .val (.int (0 : Int32)), .val (.int (2 : Int32)), .val (.int (0 : Int32)), .unset]) rfl k) ?_
  show own_E _ _ _ _ _ _ _ (s₁.setTop (mkF m 3 #[.val (.ref a), .val (.int (0 : Int32)), .val (.ref d), .val (.int (0 : Int32)), .val (.int (2 : Int32)), .val (.int (0 : Int32)), .unset] []))
  refine own_go (fun _ k => XS.iload X0.here hx rfl (hb hby d9_3) rfl k) ?_
  show own_E _ _ _ _ _ _ _ (s₁.setTop (mkF m 5 #[.val (.ref a), .val (.int (0 : Int32)), .val (.ref d), .val (.int (0 : Int32)), .val (.int (2 : Int32)), .val (.int (0 : Int32)), .unset] [(.int (0 : Int32))]))
  refine own_go (fun _ k => XS.iload X0.here hx rfl (hb hby d9_5) rfl k) ?_
  show own_E _ _ _ _ _ _ _ (s₁.setTop (mkF m 7 #[.val (.ref a), .val (.int (0 : Int32)), .val (.ref d), .val (.int (0 : Int32)), .val (.int (2 : Int32)), .val (.int (0 : Int32)), .unset] [(.int (2 : Int32)), (.int (0 : Int32))]))
  refine own_go (fun _ k => XS.icmpNo X0.here hx rfl (hb hby d9_7) rfl (by decide) k) ?_
  show own_E _ _ _ _ _ _ _ (s₁.setTop (mkF m 10 #[.val (.ref a), .val (.int (0 : Int32)), .val (.ref d), .val (.int (0 : Int32)), .val (.int (2 : Int32)), .val (.int (0 : Int32)), .unset] []))
  refine own_go (fun _ k => XS.aloadN X0.here hx rfl (hb hby d9_10) rfl rfl k) ?_
  show own_E _ _ _ _ _ _ _ (s₁.setTop (mkF m 11 #[.val (.ref a), .val (.int (0 : Int32)), .val (.ref d), .val (.int (0 : Int32)), .val (.int (2 : Int32)), .val (.int (0 : Int32)), .unset] [(.ref a)]))
  refine own_go (fun _ k => XS.iloadN X0.here hx rfl (hb hby d9_11) rfl k) ?_
  show own_E _ _ _ _ _ _ _ (s₁.setTop (mkF m 12 #[.val (.ref a), .val (.int (0 : Int32)), .val (.ref d), .val (.int (0 : Int32)), .val (.int (2 : Int32)), .val (.int (0 : Int32)), .unset] [(.int (0 : Int32)), (.ref a)]))
  obtain ⟨c11, a11, i11, u11⟩ := own_at V (j := (0 : Int32)) (by decide)
  refine own_go (own_caload X0 hx hZ e0 a11 (j := (0 : Int32)) (v := (.int c0)) i11 u11 (g := (mkF m 12 #[.val (.ref a), .val (.int (0 : Int32)), .val (.ref d), .val (.int (0 : Int32)), .val (.int (2 : Int32)), .val (.int (0 : Int32)), .unset] [(.int (0 : Int32)), (.ref a)])) rfl rfl (hb hby d9_12)) ?_
  show own_E _ _ _ _ _ _ _ (s₁.setTop (mkF m 13 #[.val (.ref a), .val (.int (0 : Int32)), .val (.ref d), .val (.int (0 : Int32)), .val (.int (2 : Int32)), .val (.int (0 : Int32)), .unset] [(.int c0)]))
  refine own_go (fun _ k => XS.istore X0.here hx rfl (hb hby d9_13) rfl (l' := #[.val (.ref a), .val (.int (0 : Int32)), .val (.ref d), .val (.int (0 : Int32)), .val (.int (2 : Int32)), .val (.int (0 : Int32)), .val (.int c0)]) rfl k) ?_
  show own_E _ _ _ _ _ _ _ (s₁.setTop (mkF m 15 #[.val (.ref a), .val (.int (0 : Int32)), .val (.ref d), .val (.int (0 : Int32)), .val (.int (2 : Int32)), .val (.int (0 : Int32)), .val (.int c0)] []))
  refine own_go (fun _ k => XS.iload X0.here hx rfl (hb hby d9_15) rfl k) ?_
  show own_E _ _ _ _ _ _ _ (s₁.setTop (mkF m 17 #[.val (.ref a), .val (.int (0 : Int32)), .val (.ref d), .val (.int (0 : Int32)), .val (.int (2 : Int32)), .val (.int (0 : Int32)), .val (.int c0)] [(.int c0)]))
  refine own_go (fun _ k => XT.sipushV X0.here hx rfl (255 : Int32) (hb hby d9_17) (by decide) k) ?_
  show own_E _ _ _ _ _ _ _ (s₁.setTop (mkF m 20 #[.val (.ref a), .val (.int (0 : Int32)), .val (.ref d), .val (.int (0 : Int32)), .val (.int (2 : Int32)), .val (.int (0 : Int32)), .val (.int c0)] [(.int (255 : Int32)), (.int c0)]))
  refine own_go (fun _ k => XS.icmpYes X0.here hx rfl (pc0 := 20) (pc' := 26) rfl (hb hby d9_20) rfl (flt hc0).2.2.2 (by decide) (by decide) k) ?_
  show own_E _ _ _ _ _ _ _ (s₁.setTop (mkF m 26 #[.val (.ref a), .val (.int (0 : Int32)), .val (.ref d), .val (.int (0 : Int32)), .val (.int (2 : Int32)), .val (.int (0 : Int32)), .val (.int c0)] []))
  refine own_go (fun _ k => XS.aloadN X0.here hx rfl (hb hby d9_26) rfl rfl k) ?_
  show own_E _ _ _ _ _ _ _ (s₁.setTop (mkF m 27 #[.val (.ref a), .val (.int (0 : Int32)), .val (.ref d), .val (.int (0 : Int32)), .val (.int (2 : Int32)), .val (.int (0 : Int32)), .val (.int c0)] [(.ref d)]))
  refine own_go (fun _ k => XS.iloadN X0.here hx rfl (hb hby d9_27) rfl k) ?_
  show own_E _ _ _ _ _ _ _ (s₁.setTop (mkF m 28 #[.val (.ref a), .val (.int (0 : Int32)), .val (.ref d), .val (.int (0 : Int32)), .val (.int (2 : Int32)), .val (.int (0 : Int32)), .val (.int c0)] [(.int (0 : Int32)), (.ref d)]))
  refine own_go (fun _ k => XS.iload X0.here hx rfl (hb hby d9_28) rfl k) ?_
  show own_E _ _ _ _ _ _ _ (s₁.setTop (mkF m 30 #[.val (.ref a), .val (.int (0 : Int32)), .val (.ref d), .val (.int (0 : Int32)), .val (.int (2 : Int32)), .val (.int (0 : Int32)), .val (.int c0)] [(.int c0), (.int (0 : Int32)), (.ref d)]))
  refine own_go (fun _ k => XT.i2b X0.here hx rfl (hb hby d9_30) rfl k) ?_
  show own_E _ _ _ _ _ _ _ (s₁.setTop (mkF m 31 #[.val (.ref a), .val (.int (0 : Int32)), .val (.ref d), .val (.int (0 : Int32)), .val (.int (2 : Int32)), .val (.int (0 : Int32)), .val (.int c0)] [(.int (c0).toInt8.toInt32), (.int (0 : Int32)), (.ref d)]))
  obtain ⟨T12, h12, X12, e12, W12, v12, st12⟩ := own_stB X0 hx hZ e0 D (j := (0 : Int32)) 0 (by decide) (by simp) (by decide) (g := (mkF m 31 #[.val (.ref a), .val (.int (0 : Int32)), .val (.ref d), .val (.int (0 : Int32)), .val (.int (2 : Int32)), .val (.int (0 : Int32)), .val (.int c0)] [(.int (c0).toInt8.toInt32), (.int (0 : Int32)), (.ref d)])) rfl rfl (hb hby d9_31)
  rw [own_nb] at v12
  replace v12 : Arv Z h12 d kD .byte (2 : Int32) [.int c0.toInt8.toInt32, .int 0] (.int 0) := v12
  have f12_0 := V.other W12 ne
  have Z12 : n0 ≤ h12.size := by rw [W12.size]; exact Z0
  have N12 := Fr.snoc X12 N0 gd
  have K12 := KK.wr W12 (Or.inl (by simp))
  refine own_go st12 ?_
  show own_E _ _ _ _ _ _ _ (T12.setTop (mkF m 32 #[.val (.ref a), .val (.int (0 : Int32)), .val (.ref d), .val (.int (0 : Int32)), .val (.int (2 : Int32)), .val (.int (0 : Int32)), .val (.int c0)] []))
  refine own_go (fun _ k => XT.iincV X12.here hx rfl (1 : Int32) (hb hby d9_32) (by decide) rfl (l' := #[.val (.ref a), .val (.int (1 : Int32)), .val (.ref d), .val (.int (0 : Int32)), .val (.int (2 : Int32)), .val (.int (0 : Int32)), .val (.int c0)]) rfl k) ?_
  show own_E _ _ _ _ _ _ _ (T12.setTop (mkF m 35 #[.val (.ref a), .val (.int (1 : Int32)), .val (.ref d), .val (.int (0 : Int32)), .val (.int (2 : Int32)), .val (.int (0 : Int32)), .val (.int c0)] []))
  refine own_go (fun _ k => XT.iincV X12.here hx rfl (1 : Int32) (hb hby d9_35) (by decide) rfl (l' := #[.val (.ref a), .val (.int (1 : Int32)), .val (.ref d), .val (.int (1 : Int32)), .val (.int (2 : Int32)), .val (.int (0 : Int32)), .val (.int c0)]) rfl k) ?_
  show own_E _ _ _ _ _ _ _ (T12.setTop (mkF m 38 #[.val (.ref a), .val (.int (1 : Int32)), .val (.ref d), .val (.int (1 : Int32)), .val (.int (2 : Int32)), .val (.int (0 : Int32)), .val (.int c0)] []))
  refine own_go (fun _ k => XT.iincV X12.here hx rfl (1 : Int32) (hb hby d9_38) (by decide) rfl (l' := #[.val (.ref a), .val (.int (1 : Int32)), .val (.ref d), .val (.int (1 : Int32)), .val (.int (2 : Int32)), .val (.int (1 : Int32)), .val (.int c0)]) rfl k) ?_
  show own_E _ _ _ _ _ _ _ (T12.setTop (mkF m 41 #[.val (.ref a), .val (.int (1 : Int32)), .val (.ref d), .val (.int (1 : Int32)), .val (.int (2 : Int32)), .val (.int (1 : Int32)), .val (.int c0)] []))
  refine own_go (fun _ k => XS.goto X12.here hx rfl (pc0 := 41) (pc' := 3) rfl (hb hby d9_41) (by decide) (by decide) k) ?_
  show own_E _ _ _ _ _ _ _ (T12.setTop (mkF m 3 #[.val (.ref a), .val (.int (1 : Int32)), .val (.ref d), .val (.int (1 : Int32)), .val (.int (2 : Int32)), .val (.int (1 : Int32)), .val (.int c0)] []))
  refine own_go (fun _ k => XS.iload X12.here hx rfl (hb hby d9_3) rfl k) ?_
  show own_E _ _ _ _ _ _ _ (T12.setTop (mkF m 5 #[.val (.ref a), .val (.int (1 : Int32)), .val (.ref d), .val (.int (1 : Int32)), .val (.int (2 : Int32)), .val (.int (1 : Int32)), .val (.int c0)] [(.int (1 : Int32))]))
  refine own_go (fun _ k => XS.iload X12.here hx rfl (hb hby d9_5) rfl k) ?_
  show own_E _ _ _ _ _ _ _ (T12.setTop (mkF m 7 #[.val (.ref a), .val (.int (1 : Int32)), .val (.ref d), .val (.int (1 : Int32)), .val (.int (2 : Int32)), .val (.int (1 : Int32)), .val (.int c0)] [(.int (2 : Int32)), (.int (1 : Int32))]))
  refine own_go (fun _ k => XS.icmpNo X12.here hx rfl (hb hby d9_7) rfl (by decide) k) ?_
  show own_E _ _ _ _ _ _ _ (T12.setTop (mkF m 10 #[.val (.ref a), .val (.int (1 : Int32)), .val (.ref d), .val (.int (1 : Int32)), .val (.int (2 : Int32)), .val (.int (1 : Int32)), .val (.int c0)] []))
  refine own_go (fun _ k => XS.aloadN X12.here hx rfl (hb hby d9_10) rfl rfl k) ?_
  show own_E _ _ _ _ _ _ _ (T12.setTop (mkF m 11 #[.val (.ref a), .val (.int (1 : Int32)), .val (.ref d), .val (.int (1 : Int32)), .val (.int (2 : Int32)), .val (.int (1 : Int32)), .val (.int c0)] [(.ref a)]))
  refine own_go (fun _ k => XS.iloadN X12.here hx rfl (hb hby d9_11) rfl k) ?_
  show own_E _ _ _ _ _ _ _ (T12.setTop (mkF m 12 #[.val (.ref a), .val (.int (1 : Int32)), .val (.ref d), .val (.int (1 : Int32)), .val (.int (2 : Int32)), .val (.int (1 : Int32)), .val (.int c0)] [(.int (1 : Int32)), (.ref a)]))
  obtain ⟨c13, a13, i13, u13⟩ := own_at f12_0 (j := (1 : Int32)) (by decide)
  refine own_go (own_caload X12 hx hZ e12 a13 (j := (1 : Int32)) (v := (.int c1)) i13 u13 (g := (mkF m 12 #[.val (.ref a), .val (.int (1 : Int32)), .val (.ref d), .val (.int (1 : Int32)), .val (.int (2 : Int32)), .val (.int (1 : Int32)), .val (.int c0)] [(.int (1 : Int32)), (.ref a)])) rfl rfl (hb hby d9_12)) ?_
  show own_E _ _ _ _ _ _ _ (T12.setTop (mkF m 13 #[.val (.ref a), .val (.int (1 : Int32)), .val (.ref d), .val (.int (1 : Int32)), .val (.int (2 : Int32)), .val (.int (1 : Int32)), .val (.int c0)] [(.int c1)]))
  refine own_go (fun _ k => XS.istore X12.here hx rfl (hb hby d9_13) rfl (l' := #[.val (.ref a), .val (.int (1 : Int32)), .val (.ref d), .val (.int (1 : Int32)), .val (.int (2 : Int32)), .val (.int (1 : Int32)), .val (.int c1)]) rfl k) ?_
  show own_E _ _ _ _ _ _ _ (T12.setTop (mkF m 15 #[.val (.ref a), .val (.int (1 : Int32)), .val (.ref d), .val (.int (1 : Int32)), .val (.int (2 : Int32)), .val (.int (1 : Int32)), .val (.int c1)] []))
  refine own_go (fun _ k => XS.iload X12.here hx rfl (hb hby d9_15) rfl k) ?_
  show own_E _ _ _ _ _ _ _ (T12.setTop (mkF m 17 #[.val (.ref a), .val (.int (1 : Int32)), .val (.ref d), .val (.int (1 : Int32)), .val (.int (2 : Int32)), .val (.int (1 : Int32)), .val (.int c1)] [(.int c1)]))
  refine own_go (fun _ k => XT.sipushV X12.here hx rfl (255 : Int32) (hb hby d9_17) (by decide) k) ?_
  show own_E _ _ _ _ _ _ _ (T12.setTop (mkF m 20 #[.val (.ref a), .val (.int (1 : Int32)), .val (.ref d), .val (.int (1 : Int32)), .val (.int (2 : Int32)), .val (.int (1 : Int32)), .val (.int c1)] [(.int (255 : Int32)), (.int c1)]))
  refine own_go (fun _ k => XS.icmpYes X12.here hx rfl (pc0 := 20) (pc' := 26) rfl (hb hby d9_20) rfl (flt hc1).2.2.2 (by decide) (by decide) k) ?_
  show own_E _ _ _ _ _ _ _ (T12.setTop (mkF m 26 #[.val (.ref a), .val (.int (1 : Int32)), .val (.ref d), .val (.int (1 : Int32)), .val (.int (2 : Int32)), .val (.int (1 : Int32)), .val (.int c1)] []))
  refine own_go (fun _ k => XS.aloadN X12.here hx rfl (hb hby d9_26) rfl rfl k) ?_
  show own_E _ _ _ _ _ _ _ (T12.setTop (mkF m 27 #[.val (.ref a), .val (.int (1 : Int32)), .val (.ref d), .val (.int (1 : Int32)), .val (.int (2 : Int32)), .val (.int (1 : Int32)), .val (.int c1)] [(.ref d)]))
  refine own_go (fun _ k => XS.iloadN X12.here hx rfl (hb hby d9_27) rfl k) ?_
  show own_E _ _ _ _ _ _ _ (T12.setTop (mkF m 28 #[.val (.ref a), .val (.int (1 : Int32)), .val (.ref d), .val (.int (1 : Int32)), .val (.int (2 : Int32)), .val (.int (1 : Int32)), .val (.int c1)] [(.int (1 : Int32)), (.ref d)]))
  refine own_go (fun _ k => XS.iload X12.here hx rfl (hb hby d9_28) rfl k) ?_
  show own_E _ _ _ _ _ _ _ (T12.setTop (mkF m 30 #[.val (.ref a), .val (.int (1 : Int32)), .val (.ref d), .val (.int (1 : Int32)), .val (.int (2 : Int32)), .val (.int (1 : Int32)), .val (.int c1)] [(.int c1), (.int (1 : Int32)), (.ref d)]))
  refine own_go (fun _ k => XT.i2b X12.here hx rfl (hb hby d9_30) rfl k) ?_
  show own_E _ _ _ _ _ _ _ (T12.setTop (mkF m 31 #[.val (.ref a), .val (.int (1 : Int32)), .val (.ref d), .val (.int (1 : Int32)), .val (.int (2 : Int32)), .val (.int (1 : Int32)), .val (.int c1)] [(.int (c1).toInt8.toInt32), (.int (1 : Int32)), (.ref d)]))
  obtain ⟨T14, h14, X14, e14, W14, v14, st14⟩ := own_stB X12 hx hZ e12 v12 (j := (1 : Int32)) 1 (by decide) (by simp) (by decide) (g := (mkF m 31 #[.val (.ref a), .val (.int (1 : Int32)), .val (.ref d), .val (.int (1 : Int32)), .val (.int (2 : Int32)), .val (.int (1 : Int32)), .val (.int c1)] [(.int (c1).toInt8.toInt32), (.int (1 : Int32)), (.ref d)])) rfl rfl (hb hby d9_31)
  rw [own_nb] at v14
  replace v14 : Arv Z h14 d kD .byte (2 : Int32) [.int c0.toInt8.toInt32, .int c1.toInt8.toInt32] (.int 0) := v14
  have f14_0 := f12_0.other W14 ne
  have Z14 : n0 ≤ h14.size := by rw [W14.size]; exact Z12
  have N14 := Fr.snoc X14 N12 gd
  have K14 := K12.wr W14 (Or.inl (by simp))
  refine own_go st14 ?_
  show own_E _ _ _ _ _ _ _ (T14.setTop (mkF m 32 #[.val (.ref a), .val (.int (1 : Int32)), .val (.ref d), .val (.int (1 : Int32)), .val (.int (2 : Int32)), .val (.int (1 : Int32)), .val (.int c1)] []))
  refine own_go (fun _ k => XT.iincV X14.here hx rfl (1 : Int32) (hb hby d9_32) (by decide) rfl (l' := #[.val (.ref a), .val (.int (2 : Int32)), .val (.ref d), .val (.int (1 : Int32)), .val (.int (2 : Int32)), .val (.int (1 : Int32)), .val (.int c1)]) rfl k) ?_
  show own_E _ _ _ _ _ _ _ (T14.setTop (mkF m 35 #[.val (.ref a), .val (.int (2 : Int32)), .val (.ref d), .val (.int (1 : Int32)), .val (.int (2 : Int32)), .val (.int (1 : Int32)), .val (.int c1)] []))
  refine own_go (fun _ k => XT.iincV X14.here hx rfl (1 : Int32) (hb hby d9_35) (by decide) rfl (l' := #[.val (.ref a), .val (.int (2 : Int32)), .val (.ref d), .val (.int (2 : Int32)), .val (.int (2 : Int32)), .val (.int (1 : Int32)), .val (.int c1)]) rfl k) ?_
  show own_E _ _ _ _ _ _ _ (T14.setTop (mkF m 38 #[.val (.ref a), .val (.int (2 : Int32)), .val (.ref d), .val (.int (2 : Int32)), .val (.int (2 : Int32)), .val (.int (1 : Int32)), .val (.int c1)] []))
  refine own_go (fun _ k => XT.iincV X14.here hx rfl (1 : Int32) (hb hby d9_38) (by decide) rfl (l' := #[.val (.ref a), .val (.int (2 : Int32)), .val (.ref d), .val (.int (2 : Int32)), .val (.int (2 : Int32)), .val (.int (2 : Int32)), .val (.int c1)]) rfl k) ?_
  show own_E _ _ _ _ _ _ _ (T14.setTop (mkF m 41 #[.val (.ref a), .val (.int (2 : Int32)), .val (.ref d), .val (.int (2 : Int32)), .val (.int (2 : Int32)), .val (.int (2 : Int32)), .val (.int c1)] []))
  refine own_go (fun _ k => XS.goto X14.here hx rfl (pc0 := 41) (pc' := 3) rfl (hb hby d9_41) (by decide) (by decide) k) ?_
  show own_E _ _ _ _ _ _ _ (T14.setTop (mkF m 3 #[.val (.ref a), .val (.int (2 : Int32)), .val (.ref d), .val (.int (2 : Int32)), .val (.int (2 : Int32)), .val (.int (2 : Int32)), .val (.int c1)] []))
  refine own_go (fun _ k => XS.iload X14.here hx rfl (hb hby d9_3) rfl k) ?_
  show own_E _ _ _ _ _ _ _ (T14.setTop (mkF m 5 #[.val (.ref a), .val (.int (2 : Int32)), .val (.ref d), .val (.int (2 : Int32)), .val (.int (2 : Int32)), .val (.int (2 : Int32)), .val (.int c1)] [(.int (2 : Int32))]))
  refine own_go (fun _ k => XS.iload X14.here hx rfl (hb hby d9_5) rfl k) ?_
  show own_E _ _ _ _ _ _ _ (T14.setTop (mkF m 7 #[.val (.ref a), .val (.int (2 : Int32)), .val (.ref d), .val (.int (2 : Int32)), .val (.int (2 : Int32)), .val (.int (2 : Int32)), .val (.int c1)] [(.int (2 : Int32)), (.int (2 : Int32))]))
  refine own_go (fun _ k => XS.icmpYes X14.here hx rfl (pc0 := 7) (pc' := 44) rfl (hb hby d9_7) rfl (by decide) (by decide) (by decide) k) ?_
  show own_E _ _ _ _ _ _ _ (T14.setTop (mkF m 44 #[.val (.ref a), .val (.int (2 : Int32)), .val (.ref d), .val (.int (2 : Int32)), .val (.int (2 : Int32)), .val (.int (2 : Int32)), .val (.int c1)] []))
  refine own_go (fun _ k => XS.iload X14.here hx rfl (hb hby d9_44) rfl k) ?_
  show own_E _ _ _ _ _ _ _ (T14.setTop (mkF m 46 #[.val (.ref a), .val (.int (2 : Int32)), .val (.ref d), .val (.int (2 : Int32)), .val (.int (2 : Int32)), .val (.int (2 : Int32)), .val (.int c1)] [(.int (2 : Int32))]))
  exact own_ret X14 hx Bd.returns Bd.notSynchronized rfl (Or.inl ⟨rfl, by simp, _, rfl⟩) (hb hby d9_46) (by rw [e14]; exact ⟨rfl, N14, K14, v14⟩) (by decide) (by decide)
theorem d8_0 : decode jdk_52_method_16_code 0 = .ok (.iload_n 2, 1) := by decide +kernel
theorem d8_1 : decode jdk_52_method_16_code 1 = .ok (.newarray .byte, 2) := by decide +kernel
theorem d8_3 : decode jdk_52_method_16_code 3 = .ok (.astore_n 3, 1) := by decide +kernel
theorem d8_4 : decode jdk_52_method_16_code 4 = .ok (.aload_n 0, 1) := by decide +kernel
theorem d8_5 : decode jdk_52_method_16_code 5 = .ok (.iload_n 1, 1) := by decide +kernel
theorem d8_6 : decode jdk_52_method_16_code 6 = .ok (.aload_n 3, 1) := by decide +kernel
theorem d8_7 : decode jdk_52_method_16_code 7 = .ok (.iconst 0, 1) := by decide +kernel
theorem d8_8 : decode jdk_52_method_16_code 8 = .ok (.iload_n 2, 1) := by decide +kernel
theorem d8_9 : decode jdk_52_method_16_code 9 = .ok (.invokestatic 115, 3) := by decide +kernel
theorem d8_12 : decode jdk_52_method_16_code 12 = .ok (.istore 4, 2) := by decide +kernel
theorem d8_14 : decode jdk_52_method_16_code 14 = .ok (.iload 4, 2) := by decide +kernel
theorem d8_16 : decode jdk_52_method_16_code 16 = .ok (.iload_n 2, 1) := by decide +kernel
theorem d8_17 : decode jdk_52_method_16_code 17 = .ok (.if_icmp .eq 40, 3) := by decide +kernel
theorem d8_20 : decode jdk_52_method_16_code 20 = .ok (.aload_n 0, 1) := by decide +kernel
theorem d8_21 : decode jdk_52_method_16_code 21 = .ok (.iload_n 1, 1) := by decide +kernel
theorem d8_22 : decode jdk_52_method_16_code 22 = .ok (.iload_n 2, 1) := by decide +kernel
theorem d8_23 : decode jdk_52_method_16_code 23 = .ok (.invokestatic 119, 3) := by decide +kernel
theorem d8_26 : decode jdk_52_method_16_code 26 = .ok (.astore 5, 2) := by decide +kernel
theorem d8_28 : decode jdk_52_method_16_code 28 = .ok (.aload 5, 2) := by decide +kernel
theorem d8_30 : decode jdk_52_method_16_code 30 = .ok (.iload 4, 2) := by decide +kernel
theorem d8_32 : decode jdk_52_method_16_code 32 = .ok (.invokestatic 71, 3) := by decide +kernel
theorem d8_35 : decode jdk_52_method_16_code 35 = .ok (.sipush 255, 3) := by decide +kernel
theorem d8_38 : decode jdk_52_method_16_code 38 = .ok (.if_icmp .gt 16, 3) := by decide +kernel
theorem d8_41 : decode jdk_52_method_16_code 41 = .ok (.aload 5, 2) := by decide +kernel
theorem d8_43 : decode jdk_52_method_16_code 43 = .ok (.iconst 0, 1) := by decide +kernel
theorem d8_44 : decode jdk_52_method_16_code 44 = .ok (.aload_n 3, 1) := by decide +kernel
theorem d8_45 : decode jdk_52_method_16_code 45 = .ok (.iconst 0, 1) := by decide +kernel
theorem d8_46 : decode jdk_52_method_16_code 46 = .ok (.iload_n 2, 1) := by decide +kernel
theorem d8_47 : decode jdk_52_method_16_code 47 = .ok (.invokestatic 123, 3) := by decide +kernel
theorem d8_50 : decode jdk_52_method_16_code 50 = .ok (.iload_n 2, 1) := by decide +kernel
theorem d8_51 : decode jdk_52_method_16_code 51 = .ok (.if_icmp .eq 6, 3) := by decide +kernel
theorem d8_54 : decode jdk_52_method_16_code 54 = .ok (.aload 5, 2) := by decide +kernel
theorem d8_56 : decode jdk_52_method_16_code 56 = .ok (.areturn, 1) := by decide +kernel
theorem d8_57 : decode jdk_52_method_16_code 57 = .ok (.aload_n 3, 1) := by decide +kernel
theorem d8_58 : decode jdk_52_method_16_code 58 = .ok (.areturn, 1) := by decide +kernel
def Qrm8 (a : Addr) (kS : ClassId) (c0 : Int32) (c1 : Int32) (Z : State) (h0 : Heap) (n0 : Nat) (v : Option Value) (h : Heap) (L : List Loc) : Prop := Fr n0 L ∧ Keep h0 h [] ∧ ∃ d kD, v = some (.ref d) ∧ Arv Z h d kD .byte (2 : Int32) [.int c0.toInt8.toInt32, .int c1.toInt8.toInt32] (.int 0) ∧ h0.size ≤ d
set_option maxRecDepth 65536 in
set_option maxHeartbeats 40000000 in
theorem rm8 (l : Launch) (Z : State) (a0 : Array Value) (hw : ∀ d ∈ tables_1, d.before a0 Z = true) (a : Addr) (kS : ClassId) (c0 : Int32) (c1 : Int32) (h0 : Heap) (n0 : Nat) (Z0 : n0 ≤ h0.size) (hc0 : ¬ (255 : Int32) < c0) (hc1 : ¬ (255 : Int32) < c1) (V : Arv Z h0 a kS .char (2 : Int32) [.int c0, .int c1] (.int 0)) :
    MetFree l (⟨"java/lang/StringUTF16", "compress", "([CII)[B"⟩ : MethodName) (head1 (Jvm.Cond.code (⟨"java/lang/StringUTF16", "compress", "([CII)[B"⟩ : MethodName) jdk_52_method_16_code 6 (some (.array .byte)) :: []) ({ frames := 1, cells := 1, slots := 2, locals := 20 } : Room)) (fun ar_ U => ar_ = #[(.ref a), (.int (0 : Int32)), (.int (2 : Int32))] ∧ Z.Warmed39 U.vm ∧ U.heap = h0) (fun _ _ _ _ _ => True) (fun _ U o U' => ∃ v L, o = .returned v ∧ Qrm8 a kS c0 c1 Z h0 n0 v U'.heap L ∧ FrameEnd U o U' L ({ frames := 1, cells := 1, slots := 2, locals := 20 } : Room).cells ({ frames := 1, cells := 1, slots := 2, locals := 20 } : Room).slots) := by
  refine MetFree.of_bodySF (plainFor_of_name (by first | (simp [plainName, overriddenIn]; done) | decide +kernel)) hisR ?_
  intro p e s m args below meth c s₁ Bd hml0 hP hK
  obtain ⟨rfl, hZ, hh⟩ := hP
  have hx := Bd.exec
  have hby := Bd.bytes
  have hml : c.maxLocals = 6 := hml0
  have hown : s.vm.findClass "java/lang/StringUTF16" = some m.cls := findClass_of_methodNamed Bd.named
  have hnm := (name_of_methodNamed Bd.named Bd.method).1
  have X0 : Stand p l e ({ frames := 1, cells := 1, slots := 2, locals := 20 } : Room) s m #[(.ref a), (.int (0 : Int32)), (.int (2 : Int32))] below meth c s₁ [] 0 0 := Stand.of_body Bd
  have e0 : s₁.heap = h0 := by rw [← hh, Bd.state]; rfl
  have N0 := Fr.nil n0
  show own_E p e below s (Qrm8 a kS c0 c1 Z h0 n0) ({ frames := 1, cells := 1, slots := 2, locals := 20 } : Room).cells ({ frames := 1, cells := 1, slots := 2, locals := 20 } : Room).slots (s₁.setTop (entryFrame m #[(.ref a), (.int (0 : Int32)), (.int (2 : Int32))] 6))
  refine own_go (fun t k => castTop (show _ = (mkF m 0 #[.val (.ref a), .val (.int (0 : Int32)), .val (.int (2 : Int32)), .unset, .unset, .unset] []) from by first | (simp [entryFrame, mkF, argsToLocals, Value.category]; done) | rfl) k) ?_
  show own_E _ _ _ _ _ _ _ (s₁.setTop (mkF m 0 #[.val (.ref a), .val (.int (0 : Int32)), .val (.int (2 : Int32)), .unset, .unset, .unset] []))
  have KK := Keep.refl h0 []
  refine own_go (fun _ k => XS.iloadN X0.here hx rfl (hb hby d8_0) rfl k) ?_
  show own_E _ _ _ _ _ _ _ (s₁.setTop (mkF m 1 #[.val (.ref a), .val (.int (0 : Int32)), .val (.int (2 : Int32)), .unset, .unset, .unset] [(.int (2 : Int32))]))
  obtain ⟨T11, h11, k11, X11, e11, E11, A11, B11, st11⟩ := newPE X0 hx hZ (hw _ (List.mem_of_getElem? (i := 19) rfl)) e0 (g := (mkF m 1 #[.val (.ref a), .val (.int (0 : Int32)), .val (.int (2 : Int32)), .unset, .unset, .unset] [(.int (2 : Int32))])) rfl (hb hby d8_1) rfl (by decide) (cap := 2) (by decide) (by decide) (by decide) (by decide) (ad := "[B") (by decide)
  obtain ⟨d, g11⟩ : ∃ z, z = h0.size := ⟨_, rfl⟩
  rw [← g11] at A11 B11 st11
  have ne11_1 : a ≠ d := by rw [g11]; exact Nat.ne_of_lt V.lt
  have w11 : n0 ≤ d := by rw [g11]; exact Z0
  have kz11 : h0.size ≤ d := by rw [g11]; exact KK.1
  have v11 : Arv Z h11 d k11 .byte (2 : Int32) [(.int 0), (.int 0)] (.int 0) := own_arvNew (n := 2) A11 (by decide)
  have f11_0 := V.ext E11
  have K11 := KK.ext E11
  have Z11 := Nat.le_trans Z0 E11.1
  refine own_go st11 ?_
  show own_E _ _ _ _ _ _ _ (T11.setTop (mkF m 3 #[.val (.ref a), .val (.int (0 : Int32)), .val (.int (2 : Int32)), .unset, .unset, .unset] [(.ref d)]))
  refine own_go (fun _ k => XS.astoreN X11.here hx rfl (hb hby d8_3) rfl rfl (l' := #[.val (.ref a), .val (.int (0 : Int32)), .val (.int (2 : Int32)), .val (.ref d), .unset, .unset]) rfl k) ?_
  show own_E _ _ _ _ _ _ _ (T11.setTop (mkF m 4 #[.val (.ref a), .val (.int (0 : Int32)), .val (.int (2 : Int32)), .val (.ref d), .unset, .unset] []))
  refine own_go (fun _ k => XS.aloadN X11.here hx rfl (hb hby d8_4) rfl rfl k) ?_
  show own_E _ _ _ _ _ _ _ (T11.setTop (mkF m 5 #[.val (.ref a), .val (.int (0 : Int32)), .val (.int (2 : Int32)), .val (.ref d), .unset, .unset] [(.ref a)]))
  refine own_go (fun _ k => XS.iloadN X11.here hx rfl (hb hby d8_5) rfl k) ?_
  show own_E _ _ _ _ _ _ _ (T11.setTop (mkF m 6 #[.val (.ref a), .val (.int (0 : Int32)), .val (.int (2 : Int32)), .val (.ref d), .unset, .unset] [(.int (0 : Int32)), (.ref a)]))
  refine own_go (fun _ k => XS.aloadN X11.here hx rfl (hb hby d8_6) rfl rfl k) ?_
  show own_E _ _ _ _ _ _ _ (T11.setTop (mkF m 7 #[.val (.ref a), .val (.int (0 : Int32)), .val (.int (2 : Int32)), .val (.ref d), .unset, .unset] [(.ref d), (.int (0 : Int32)), (.ref a)]))
  refine own_go (fun _ k => XT.iconstV X11.here hx rfl (0 : Int32) (hb hby d8_7) (by decide) k) ?_
  show own_E _ _ _ _ _ _ _ (T11.setTop (mkF m 8 #[.val (.ref a), .val (.int (0 : Int32)), .val (.int (2 : Int32)), .val (.ref d), .unset, .unset] [(.int (0 : Int32)), (.ref d), (.int (0 : Int32)), (.ref a)]))
  refine own_go (fun _ k => XS.iloadN X11.here hx rfl (hb hby d8_8) rfl k) ?_
  show own_E _ _ _ _ _ _ _ (T11.setTop (mkF m 9 #[.val (.ref a), .val (.int (0 : Int32)), .val (.int (2 : Int32)), .val (.ref d), .unset, .unset] [(.int (2 : Int32)), (.int (0 : Int32)), (.ref d), (.int (0 : Int32)), (.ref a)]))
  obtain ⟨v12, T12, L12, X12, hQ12, st12⟩ := own_callS X11 hx hZ (rm := ({ frames := 0, cells := 0, slots := 0, locals := 0 } : Room)) (W := 0) (argsL := [(.ref a), (.int (0 : Int32)), (.ref d), (.int (0 : Int32)), (.int (2 : Int32))]) (rest := []) (y := (⟨"java/lang/StringUTF16", "compress", "([CI[BII)I"⟩ : MethodName)) hown (hw _ (List.mem_of_getElem? (i := 52) rfl)) (hw _ (List.mem_of_getElem? (i := 53) rfl)) (hw _ (List.mem_of_getElem? (i := 50) rfl)) (hw _ (List.mem_of_getElem? (i := 54) rfl)) (by decide) (rm9 l Z a0 hw a kS d k11 c0 c1 h11 n0 Z11 hc0 hc1 f11_0 v11 ne11_1 w11) e11 (by decide) (by decide) (by decide) (by decide) (g := (mkF m 9 #[.val (.ref a), .val (.int (0 : Int32)), .val (.int (2 : Int32)), .val (.ref d), .unset, .unset] [(.int (2 : Int32)), (.int (0 : Int32)), (.ref d), (.int (0 : Int32)), (.ref a)])) rfl (by rw [hml]; rfl) (lenOf pd_0 rfl) rfl (Nat.le_of_ble_eq_true rfl) (hb hby d8_9)
  obtain ⟨rfl, N12, K12, V12⟩ := hQ12
  refine own_go st12 ?_
  show own_E _ _ _ _ _ _ _ (T12.setTop (mkF m 12 #[.val (.ref a), .val (.int (0 : Int32)), .val (.int (2 : Int32)), .val (.ref d), .unset, .unset] [(.int (2 : Int32))]))
  have M12 := Fr.app N0 N12
  have e12 : T12.heap = T12.heap := rfl
  have f12_0 := f11_0.keep K12 (ninS ne11_1 nin0)
  have f12_5 := B11.keep K12
  have Z12 := Nat.le_trans Z11 K12.1
  have KK12 := K11.trans K12 (allS (Or.inr kz11) all0)
  refine own_go (fun _ k => XS.istore X12.here hx rfl (hb hby d8_12) rfl (l' := #[.val (.ref a), .val (.int (0 : Int32)), .val (.int (2 : Int32)), .val (.ref d), .val (.int (2 : Int32)), .unset]) rfl k) ?_
  show own_E _ _ _ _ _ _ _ (T12.setTop (mkF m 14 #[.val (.ref a), .val (.int (0 : Int32)), .val (.int (2 : Int32)), .val (.ref d), .val (.int (2 : Int32)), .unset] []))
  refine own_go (fun _ k => XS.iload X12.here hx rfl (hb hby d8_14) rfl k) ?_
  show own_E _ _ _ _ _ _ _ (T12.setTop (mkF m 16 #[.val (.ref a), .val (.int (0 : Int32)), .val (.int (2 : Int32)), .val (.ref d), .val (.int (2 : Int32)), .unset] [(.int (2 : Int32))]))
  refine own_go (fun _ k => XS.iloadN X12.here hx rfl (hb hby d8_16) rfl k) ?_
  show own_E _ _ _ _ _ _ _ (T12.setTop (mkF m 17 #[.val (.ref a), .val (.int (0 : Int32)), .val (.int (2 : Int32)), .val (.ref d), .val (.int (2 : Int32)), .unset] [(.int (2 : Int32)), (.int (2 : Int32))]))
  refine own_go (fun _ k => XS.icmpYes X12.here hx rfl (pc0 := 17) (pc' := 57) rfl (hb hby d8_17) rfl (by decide) (by decide) (by decide) k) ?_
  show own_E _ _ _ _ _ _ _ (T12.setTop (mkF m 57 #[.val (.ref a), .val (.int (0 : Int32)), .val (.int (2 : Int32)), .val (.ref d), .val (.int (2 : Int32)), .unset] []))
  refine own_go (fun _ k => XS.aloadN X12.here hx rfl (hb hby d8_57) rfl rfl k) ?_
  show own_E _ _ _ _ _ _ _ (T12.setTop (mkF m 58 #[.val (.ref a), .val (.int (0 : Int32)), .val (.int (2 : Int32)), .val (.ref d), .val (.int (2 : Int32)), .unset] [(.ref d)]))
  exact own_ret X12 hx Bd.returns Bd.notSynchronized rfl (Or.inr (Or.inr (Or.inr (Or.inr ⟨rfl, rfl, rfl⟩)))) (hb hby d8_58) (by rw [e12]; exact ⟨M12, KK12, _, _, rfl, V12, kz11⟩) (by decide) (by decide)
theorem d10_0 : decode jdk_52_method_15_code 0 = .ok (.iload_n 1, 1) := by decide +kernel
theorem d10_1 : decode jdk_52_method_15_code 1 = .ok (.aload_n 0, 1) := by decide +kernel
theorem d10_2 : decode jdk_52_method_15_code 2 = .ok (.arraylength, 1) := by decide +kernel
theorem d10_3 : decode jdk_52_method_15_code 3 = .ok (.isub, 1) := by decide +kernel
theorem d10_4 : decode jdk_52_method_15_code 4 = .ok (.bipush 31, 2) := by decide +kernel
theorem d10_6 : decode jdk_52_method_15_code 6 = .ok (.iushr, 1) := by decide +kernel
theorem d10_7 : decode jdk_52_method_15_code 7 = .ok (.i2b, 1) := by decide +kernel
theorem d10_8 : decode jdk_52_method_15_code 8 = .ok (.ireturn, 1) := by decide +kernel
def Qrm10 (d : Addr) (kD : ClassId) (c0 : Int32) (c1 : Int32) (Z : State) (h0 : Heap) (n0 : Nat) (v : Option Value) (h : Heap) (L : List Loc) : Prop := v = some (.int 0) ∧ Fr n0 L ∧ h = h0
set_option maxRecDepth 65536 in
set_option maxHeartbeats 40000000 in
theorem rm10 (l : Launch) (Z : State) (a0 : Array Value) (hw : ∀ d ∈ tables_1, d.before a0 Z = true) (d : Addr) (kD : ClassId) (c0 : Int32) (c1 : Int32) (h0 : Heap) (n0 : Nat) (Z0 : n0 ≤ h0.size) (D : Arv Z h0 d kD .byte (2 : Int32) [.int c0.toInt8.toInt32, .int c1.toInt8.toInt32] (.int 0)) :
    MetFree l (⟨"java/lang/StringUTF16", "coderFromArrayLen", "([BI)B"⟩ : MethodName) (head1 (Jvm.Cond.code (⟨"java/lang/StringUTF16", "coderFromArrayLen", "([BI)B"⟩ : MethodName) jdk_52_method_15_code 2 (some .byte) :: []) ({ frames := 0, cells := 0, slots := 0, locals := 0 } : Room)) (fun ar_ U => ar_ = #[(.ref d), (.int (2 : Int32))] ∧ Z.Warmed39 U.vm ∧ U.heap = h0) (fun _ _ _ _ _ => True) (fun _ U o U' => ∃ v L, o = .returned v ∧ Qrm10 d kD c0 c1 Z h0 n0 v U'.heap L ∧ FrameEnd U o U' L ({ frames := 0, cells := 0, slots := 0, locals := 0 } : Room).cells ({ frames := 0, cells := 0, slots := 0, locals := 0 } : Room).slots) := by
  refine MetFree.of_bodySF (plainFor_of_name (by first | (simp [plainName, overriddenIn]; done) | decide +kernel)) hisR ?_
  intro p e s m args below meth c s₁ Bd hml0 hP hK
  obtain ⟨rfl, hZ, hh⟩ := hP
  have hx := Bd.exec
  have hby := Bd.bytes
  have hml : c.maxLocals = 2 := hml0
  have hown : s.vm.findClass "java/lang/StringUTF16" = some m.cls := findClass_of_methodNamed Bd.named
  have hnm := (name_of_methodNamed Bd.named Bd.method).1
  have X0 : Stand p l e ({ frames := 0, cells := 0, slots := 0, locals := 0 } : Room) s m #[(.ref d), (.int (2 : Int32))] below meth c s₁ [] 0 0 := Stand.of_body Bd
  have e0 : s₁.heap = h0 := by rw [← hh, Bd.state]; rfl
  have N0 := Fr.nil n0
  show own_E p e below s (Qrm10 d kD c0 c1 Z h0 n0) ({ frames := 0, cells := 0, slots := 0, locals := 0 } : Room).cells ({ frames := 0, cells := 0, slots := 0, locals := 0 } : Room).slots (s₁.setTop (entryFrame m #[(.ref d), (.int (2 : Int32))] 2))
  refine own_go (fun t k => castTop (show _ = (mkF m 0 #[.val (.ref d), .val (.int (2 : Int32))] []) from by first | (simp [entryFrame, mkF, argsToLocals, Value.category]; done) | rfl) k) ?_
  show own_E _ _ _ _ _ _ _ (s₁.setTop (mkF m 0 #[.val (.ref d), .val (.int (2 : Int32))] []))
  refine own_go (fun _ k => XS.iloadN X0.here hx rfl (hb hby d10_0) rfl k) ?_
  show own_E _ _ _ _ _ _ _ (s₁.setTop (mkF m 1 #[.val (.ref d), .val (.int (2 : Int32))] [(.int (2 : Int32))]))
  refine own_go (fun _ k => XS.aloadN X0.here hx rfl (hb hby d10_1) rfl rfl k) ?_
  show own_E _ _ _ _ _ _ _ (s₁.setTop (mkF m 2 #[.val (.ref d), .val (.int (2 : Int32))] [(.ref d), (.int (2 : Int32))]))
  obtain ⟨c11, a11, u11⟩ := own_len D
  refine own_go (own_alen X0 hx hZ e0 a11 u11 (g := (mkF m 2 #[.val (.ref d), .val (.int (2 : Int32))] [(.ref d), (.int (2 : Int32))])) rfl rfl (hb hby d10_2)) ?_
  show own_E _ _ _ _ _ _ _ (s₁.setTop (mkF m 3 #[.val (.ref d), .val (.int (2 : Int32))] [(.int (2 : Int32)), (.int (2 : Int32))]))
  refine own_go (fun _ k => XS.isub X0.here hx rfl (hb hby d10_3) rfl k) ?_
  show own_E _ _ _ _ _ _ _ (s₁.setTop (mkF m 4 #[.val (.ref d), .val (.int (2 : Int32))] [(.int (0 : Int32))]))
  refine own_go (fun _ k => XT.bipushV X0.here hx rfl (31 : Int32) (hb hby d10_4) (by decide) k) ?_
  show own_E _ _ _ _ _ _ _ (s₁.setTop (mkF m 6 #[.val (.ref d), .val (.int (2 : Int32))] [(.int (31 : Int32)), (.int (0 : Int32))]))
  refine own_go (fun _ k => XT.iushr X0.here hx rfl (hb hby d10_6) rfl k) ?_
  show own_E _ _ _ _ _ _ _ (s₁.setTop (mkF m 7 #[.val (.ref d), .val (.int (2 : Int32))] [(.int (XT.ushr (0 : Int32) (31 : Int32)))]))
  refine own_go (fun _ k => XT.i2b X0.here hx rfl (hb hby d10_7) rfl k) ?_
  show own_E _ _ _ _ _ _ _ (s₁.setTop (mkF m 8 #[.val (.ref d), .val (.int (2 : Int32))] [(.int ((XT.ushr (0 : Int32) (31 : Int32))).toInt8.toInt32)]))
  rw [show ((XT.ushr (0 : Int32) (31 : Int32))).toInt8.toInt32 = (0 : Int32) from by decide]
  show own_E _ _ _ _ _ _ _ (s₁.setTop (mkF m 8 #[.val (.ref d), .val (.int (2 : Int32))] [(.int (0 : Int32))]))
  exact own_ret X0 hx Bd.returns Bd.notSynchronized rfl (Or.inl ⟨rfl, by simp, _, rfl⟩) (hb hby d10_8) (by rw [e0]; exact ⟨rfl, N0, rfl⟩) (by decide) (by decide)
theorem d3_0 : decode jdk_42_method_149_code 0 = .ok (.aload_n 0, 1) := by decide +kernel
theorem d3_1 : decode jdk_42_method_149_code 1 = .ok (.invokespecial 1, 3) := by decide +kernel
theorem d3_4 : decode jdk_42_method_149_code 4 = .ok (.iload_n 3, 1) := by decide +kernel
theorem d3_5 : decode jdk_42_method_149_code 5 = .ok (.ifCond .ne 22, 3) := by decide +kernel
theorem d3_8 : decode jdk_42_method_149_code 8 = .ok (.aload_n 0, 1) := by decide +kernel
theorem d3_9 : decode jdk_42_method_149_code 9 = .ok (.ldc 7, 2) := by decide +kernel
theorem d3_11 : decode jdk_42_method_149_code 11 = .ok (.getfield 9, 3) := by decide +kernel
theorem d3_14 : decode jdk_42_method_149_code 14 = .ok (.putfield 9, 3) := by decide +kernel
theorem d3_17 : decode jdk_42_method_149_code 17 = .ok (.aload_n 0, 1) := by decide +kernel
theorem d3_18 : decode jdk_42_method_149_code 18 = .ok (.ldc 7, 2) := by decide +kernel
theorem d3_20 : decode jdk_42_method_149_code 20 = .ok (.getfield 15, 3) := by decide +kernel
theorem d3_23 : decode jdk_42_method_149_code 23 = .ok (.putfield 15, 3) := by decide +kernel
theorem d3_26 : decode jdk_42_method_149_code 26 = .ok (.return_, 1) := by decide +kernel
theorem d3_27 : decode jdk_42_method_149_code 27 = .ok (.getstatic 38, 3) := by decide +kernel
theorem d3_30 : decode jdk_42_method_149_code 30 = .ok (.ifCond .eq 28, 3) := by decide +kernel
theorem d3_33 : decode jdk_42_method_149_code 33 = .ok (.aload_n 1, 1) := by decide +kernel
theorem d3_34 : decode jdk_42_method_149_code 34 = .ok (.iload_n 2, 1) := by decide +kernel
theorem d3_35 : decode jdk_42_method_149_code 35 = .ok (.iload_n 3, 1) := by decide +kernel
theorem d3_36 : decode jdk_42_method_149_code 36 = .ok (.invokestatic 177, 3) := by decide +kernel
theorem d3_39 : decode jdk_42_method_149_code 39 = .ok (.astore 5, 2) := by decide +kernel
theorem d3_41 : decode jdk_42_method_149_code 41 = .ok (.aload_n 0, 1) := by decide +kernel
theorem d3_42 : decode jdk_42_method_149_code 42 = .ok (.aload 5, 2) := by decide +kernel
theorem d3_44 : decode jdk_42_method_149_code 44 = .ok (.iload_n 3, 1) := by decide +kernel
theorem d3_45 : decode jdk_42_method_149_code 45 = .ok (.invokestatic 47, 3) := by decide +kernel
theorem d3_48 : decode jdk_42_method_149_code 48 = .ok (.putfield 15, 3) := by decide +kernel
theorem d3_51 : decode jdk_42_method_149_code 51 = .ok (.aload_n 0, 1) := by decide +kernel
theorem d3_52 : decode jdk_42_method_149_code 52 = .ok (.aload 5, 2) := by decide +kernel
theorem d3_54 : decode jdk_42_method_149_code 54 = .ok (.putfield 9, 3) := by decide +kernel
theorem d3_57 : decode jdk_42_method_149_code 57 = .ok (.return_, 1) := by decide +kernel
theorem d3_58 : decode jdk_42_method_149_code 58 = .ok (.aload_n 0, 1) := by decide +kernel
theorem d3_59 : decode jdk_42_method_149_code 59 = .ok (.iconst 1, 1) := by decide +kernel
theorem d3_60 : decode jdk_42_method_149_code 60 = .ok (.putfield 15, 3) := by decide +kernel
theorem d3_63 : decode jdk_42_method_149_code 63 = .ok (.aload_n 0, 1) := by decide +kernel
theorem d3_64 : decode jdk_42_method_149_code 64 = .ok (.aload_n 1, 1) := by decide +kernel
theorem d3_65 : decode jdk_42_method_149_code 65 = .ok (.iload_n 2, 1) := by decide +kernel
theorem d3_66 : decode jdk_42_method_149_code 66 = .ok (.iload_n 3, 1) := by decide +kernel
theorem d3_67 : decode jdk_42_method_149_code 67 = .ok (.invokestatic 180, 3) := by decide +kernel
theorem d3_70 : decode jdk_42_method_149_code 70 = .ok (.putfield 9, 3) := by decide +kernel
theorem d3_73 : decode jdk_42_method_149_code 73 = .ok (.return_, 1) := by decide +kernel
def QrmI2 (a : Addr) (b : Addr) (kS : ClassId) (c0 : Int32) (c1 : Int32) (cs : Int32) (Z : State) (h0 : Heap) (n0 : Nat) (v : Option Value) (h : Heap) (L : List Loc) : Prop := v = none ∧ Fr n0 L ∧ Keep h0 h [a]
set_option maxRecDepth 65536 in
set_option maxHeartbeats 40000000 in
theorem rmI2 (l : Launch) (Z : State) (a0 : Array Value) (hw : ∀ d ∈ tables_1, d.before a0 Z = true) (a : Addr) (b : Addr) (kS : ClassId) (c0 : Int32) (c1 : Int32) (cs : Int32) (h0 : Heap) (n0 : Nat) (Z0 : n0 ≤ h0.size) (hc0 : ¬ (255 : Int32) < c0) (hc1 : ¬ (255 : Int32) < c1) (E : Exa Z h0 a "java/lang/String") (F : Fld Z h0 a "java/lang/String" "value" "[B" .null) (G : Fld Z h0 a "java/lang/String" "coder" "B" (.int 0)) (ga : n0 ≤ a) (V : Arv Z h0 b kS .char (2 : Int32) [.int c0, .int c1] (.int 0)) (ne : b ≠ a) (SC : Sta Z h0 "java/lang/String" "COMPACT_STRINGS" "Z" (.int cs)) (ncs : ¬ cs = 0) :
    MetFree l (⟨"java/lang/String", "<init>", "([CIILjava/lang/Void;)V"⟩ : MethodName) (head1 (Jvm.Cond.code (⟨"java/lang/String", "<init>", "([CIILjava/lang/Void;)V"⟩ : MethodName) jdk_42_method_149_code 6 none :: []) ({ frames := 2, cells := 1, slots := 2, locals := 40 } : Room)) (fun ar_ U => ar_ = #[(.ref a), (.ref b), (.int (0 : Int32)), (.int (2 : Int32)), .null] ∧ Z.Warmed39 U.vm ∧ U.heap = h0) (fun _ _ _ _ _ => True) (fun _ U o U' => ∃ v L, o = .returned v ∧ QrmI2 a b kS c0 c1 cs Z h0 n0 v U'.heap L ∧ FrameEnd U o U' L ({ frames := 2, cells := 1, slots := 2, locals := 40 } : Room).cells ({ frames := 2, cells := 1, slots := 2, locals := 40 } : Room).slots) := by
  refine MetFree.of_bodySF (plainFor_of_name (by first | (simp [plainName, overriddenIn]; done) | decide +kernel)) hisR ?_
  intro p e s m args below meth c s₁ Bd hml0 hP hK
  obtain ⟨rfl, hZ, hh⟩ := hP
  have hx := Bd.exec
  have hby := Bd.bytes
  have hml : c.maxLocals = 6 := hml0
  have hown : s.vm.findClass "java/lang/String" = some m.cls := findClass_of_methodNamed Bd.named
  have hnm := (name_of_methodNamed Bd.named Bd.method).1
  have X0 : Stand p l e ({ frames := 2, cells := 1, slots := 2, locals := 40 } : Room) s m #[(.ref a), (.ref b), (.int (0 : Int32)), (.int (2 : Int32)), .null] below meth c s₁ [] 0 0 := Stand.of_body Bd
  have e0 : s₁.heap = h0 := by rw [← hh, Bd.state]; rfl
  have N0 := Fr.nil n0
  show own_E p e below s (QrmI2 a b kS c0 c1 cs Z h0 n0) ({ frames := 2, cells := 1, slots := 2, locals := 40 } : Room).cells ({ frames := 2, cells := 1, slots := 2, locals := 40 } : Room).slots (s₁.setTop (entryFrame m #[(.ref a), (.ref b), (.int (0 : Int32)), (.int (2 : Int32)), .null] 6))
  refine own_go (fun t k => castTop (show _ = (mkF m 0 #[.val (.ref a), .val (.ref b), .val (.int (0 : Int32)), .val (.int (2 : Int32)), .val .null, .unset] []) from by first | (simp [entryFrame, mkF, argsToLocals, Value.category]; done) | rfl) k) ?_
  show own_E _ _ _ _ _ _ _ (s₁.setTop (mkF m 0 #[.val (.ref a), .val (.ref b), .val (.int (0 : Int32)), .val (.int (2 : Int32)), .val .null, .unset] []))
  have KK := Keep.refl h0 [a]
  refine own_go (fun _ k => XS.aloadN X0.here hx rfl (hb hby d3_0) rfl rfl k) ?_
  show own_E _ _ _ _ _ _ _ (s₁.setTop (mkF m 1 #[.val (.ref a), .val (.ref b), .val (.int (0 : Int32)), .val (.int (2 : Int32)), .val .null, .unset] [(.ref a)]))
  obtain ⟨T11, X11, e11, st11⟩ := initO X0 hx hZ hown (hw _ (List.mem_of_getElem? (i := 15) rfl)) (hw _ (List.mem_of_getElem? (i := 16) rfl)) (hw _ (List.mem_of_getElem? (i := 17) rfl)) e0 (g := (mkF m 1 #[.val (.ref a), .val (.ref b), .val (.int (0 : Int32)), .val (.int (2 : Int32)), .val .null, .unset] [(.ref a)])) rfl (by rw [hml]; rfl) rfl (hb hby d3_1) (by decide) (W := 0) (Nat.le_of_ble_eq_true rfl) (by decide)
  refine own_go st11 ?_
  show own_E _ _ _ _ _ _ _ (T11.setTop (mkF m 4 #[.val (.ref a), .val (.ref b), .val (.int (0 : Int32)), .val (.int (2 : Int32)), .val .null, .unset] []))
  refine own_go (fun _ k => XS.iloadN X11.here hx rfl (hb hby d3_4) rfl k) ?_
  show own_E _ _ _ _ _ _ _ (T11.setTop (mkF m 5 #[.val (.ref a), .val (.ref b), .val (.int (0 : Int32)), .val (.int (2 : Int32)), .val .null, .unset] [(.int (2 : Int32))]))
  refine own_go (fun _ k => XS.ifYes X11.here hx rfl (pc0 := 5) (pc' := 27) rfl (hb hby d3_5) rfl (by decide) (by decide) (by decide) k) ?_
  show own_E _ _ _ _ _ _ _ (T11.setTop (mkF m 27 #[.val (.ref a), .val (.ref b), .val (.int (0 : Int32)), .val (.int (2 : Int32)), .val .null, .unset] []))
  obtain ⟨T12, X12, e12, st12⟩ := getS2 X11 hx hZ hown (host := "") (Or.inl (hw _ (List.mem_of_getElem? (i := 47) rfl))) Via.refl e11 SC (g := (mkF m 27 #[.val (.ref a), .val (.ref b), .val (.int (0 : Int32)), .val (.int (2 : Int32)), .val .null, .unset] [])) rfl (hb hby d3_27)
  refine own_go st12 ?_
  show own_E _ _ _ _ _ _ _ (T12.setTop (mkF m 30 #[.val (.ref a), .val (.ref b), .val (.int (0 : Int32)), .val (.int (2 : Int32)), .val .null, .unset] [(.int cs)]))
  refine own_go (fun _ k => XS.ifNo X12.here hx rfl (hb hby d3_30) rfl (XT.i0_eq_f ncs) k) ?_
  show own_E _ _ _ _ _ _ _ (T12.setTop (mkF m 33 #[.val (.ref a), .val (.ref b), .val (.int (0 : Int32)), .val (.int (2 : Int32)), .val .null, .unset] []))
  refine own_go (fun _ k => XS.aloadN X12.here hx rfl (hb hby d3_33) rfl rfl k) ?_
  show own_E _ _ _ _ _ _ _ (T12.setTop (mkF m 34 #[.val (.ref a), .val (.ref b), .val (.int (0 : Int32)), .val (.int (2 : Int32)), .val .null, .unset] [(.ref b)]))
  refine own_go (fun _ k => XS.iloadN X12.here hx rfl (hb hby d3_34) rfl k) ?_
  show own_E _ _ _ _ _ _ _ (T12.setTop (mkF m 35 #[.val (.ref a), .val (.ref b), .val (.int (0 : Int32)), .val (.int (2 : Int32)), .val .null, .unset] [(.int (0 : Int32)), (.ref b)]))
  refine own_go (fun _ k => XS.iloadN X12.here hx rfl (hb hby d3_35) rfl k) ?_
  show own_E _ _ _ _ _ _ _ (T12.setTop (mkF m 36 #[.val (.ref a), .val (.ref b), .val (.int (0 : Int32)), .val (.int (2 : Int32)), .val .null, .unset] [(.int (2 : Int32)), (.int (0 : Int32)), (.ref b)]))
  obtain ⟨v13, T13, L13, X13, hQ13, st13⟩ := own_callS X12 hx hZ (rm := ({ frames := 1, cells := 1, slots := 2, locals := 20 } : Room)) (W := 0) (argsL := [(.ref b), (.int (0 : Int32)), (.int (2 : Int32))]) (rest := []) (y := (⟨"java/lang/StringUTF16", "compress", "([CII)[B"⟩ : MethodName)) hown (hw _ (List.mem_of_getElem? (i := 48) rfl)) (hw _ (List.mem_of_getElem? (i := 49) rfl)) (hw _ (List.mem_of_getElem? (i := 50) rfl)) (hw _ (List.mem_of_getElem? (i := 51) rfl)) (by decide) (rm8 l Z a0 hw b kS c0 c1 h0 n0 Z0 hc0 hc1 V) e12 (by decide) (by decide) (by decide) (by decide) (g := (mkF m 36 #[.val (.ref a), .val (.ref b), .val (.int (0 : Int32)), .val (.int (2 : Int32)), .val .null, .unset] [(.int (2 : Int32)), (.int (0 : Int32)), (.ref b)])) rfl (by rw [hml]; rfl) (lenOf pd_1 rfl) rfl (Nat.le_of_ble_eq_true rfl) (hb hby d3_36)
  obtain ⟨N13, K13, d, kD, rfl, V13, g13⟩ := hQ13
  refine own_go st13 ?_
  show own_E _ _ _ _ _ _ _ (T13.setTop (mkF m 39 #[.val (.ref a), .val (.ref b), .val (.int (0 : Int32)), .val (.int (2 : Int32)), .val .null, .unset] [(.ref d)]))
  have M13 := Fr.app N0 N13
  have ne13_d_1 : a ≠ d := Nat.ne_of_lt (Nat.lt_of_lt_of_le F.lt g13)
  have ne13_d_2 : b ≠ d := Nat.ne_of_lt (Nat.lt_of_lt_of_le V.lt g13)
  have w13_d : n0 ≤ d := Nat.le_trans Z0 g13
  have kz13_d : h0.size ≤ d := Nat.le_trans KK.1 g13
  have e13 : T13.heap = T13.heap := rfl
  have f13_0 := F.keep K13 nin0
  have f13_1 := G.keep K13 nin0
  have f13_2 := E.keep K13
  have f13_4 := V.keep K13 nin0
  have Z13 := Nat.le_trans Z0 K13.1
  have KK13 := KK.trans K13 all0
  refine own_go (fun _ k => XS.astore X13.here hx rfl (hb hby d3_39) rfl rfl (l' := #[.val (.ref a), .val (.ref b), .val (.int (0 : Int32)), .val (.int (2 : Int32)), .val .null, .val (.ref d)]) rfl k) ?_
  show own_E _ _ _ _ _ _ _ (T13.setTop (mkF m 41 #[.val (.ref a), .val (.ref b), .val (.int (0 : Int32)), .val (.int (2 : Int32)), .val .null, .val (.ref d)] []))
  refine own_go (fun _ k => XS.aloadN X13.here hx rfl (hb hby d3_41) rfl rfl k) ?_
  show own_E _ _ _ _ _ _ _ (T13.setTop (mkF m 42 #[.val (.ref a), .val (.ref b), .val (.int (0 : Int32)), .val (.int (2 : Int32)), .val .null, .val (.ref d)] [(.ref a)]))
  refine own_go (fun _ k => XS.aload X13.here hx rfl (hb hby d3_42) rfl rfl k) ?_
  show own_E _ _ _ _ _ _ _ (T13.setTop (mkF m 44 #[.val (.ref a), .val (.ref b), .val (.int (0 : Int32)), .val (.int (2 : Int32)), .val .null, .val (.ref d)] [(.ref d), (.ref a)]))
  refine own_go (fun _ k => XS.iloadN X13.here hx rfl (hb hby d3_44) rfl k) ?_
  show own_E _ _ _ _ _ _ _ (T13.setTop (mkF m 45 #[.val (.ref a), .val (.ref b), .val (.int (0 : Int32)), .val (.int (2 : Int32)), .val .null, .val (.ref d)] [(.int (2 : Int32)), (.ref d), (.ref a)]))
  obtain ⟨v14, T14, L14, X14, hQ14, st14⟩ := own_callS X13 hx hZ (rm := ({ frames := 0, cells := 0, slots := 0, locals := 0 } : Room)) (W := 1) (argsL := [(.ref d), (.int (2 : Int32))]) (rest := [(.ref a)]) (y := (⟨"java/lang/StringUTF16", "coderFromArrayLen", "([BI)B"⟩ : MethodName)) hown (hw _ (List.mem_of_getElem? (i := 55) rfl)) (hw _ (List.mem_of_getElem? (i := 56) rfl)) (hw _ (List.mem_of_getElem? (i := 50) rfl)) (hw _ (List.mem_of_getElem? (i := 57) rfl)) (by decide) (rm10 l Z a0 hw d kD c0 c1 T13.heap n0 Z13 V13) e13 (by decide) (by decide) (by decide) (by decide) (g := (mkF m 45 #[.val (.ref a), .val (.ref b), .val (.int (0 : Int32)), .val (.int (2 : Int32)), .val .null, .val (.ref d)] [(.int (2 : Int32)), (.ref d), (.ref a)])) rfl (by rw [hml]; rfl) (lenOf pd_2 rfl) rfl (Nat.le_of_ble_eq_true rfl) (hb hby d3_45)
  obtain ⟨rfl, N14, e14⟩ := hQ14
  refine own_go st14 ?_
  show own_E _ _ _ _ _ _ _ (T14.setTop (mkF m 48 #[.val (.ref a), .val (.ref b), .val (.int (0 : Int32)), .val (.int (2 : Int32)), .val .null, .val (.ref d)] [(.int (0 : Int32)), (.ref a)]))
  have M14 := Fr.app M13 N14
  obtain ⟨T15, h15, X15, e15, W15, st15⟩ := putF X14 hx hZ hown (host := "") (Or.inl (hw _ (List.mem_of_getElem? (i := 25) rfl))) Via.refl e14 f13_1 f13_2 (Or.inr ⟨(hw _ (List.mem_of_getElem? (i := 21) rfl)), rfl, hnm⟩) (hw _ (List.mem_of_getElem? (i := 6) rfl)) (ty := .byte) (by decide +kernel) rfl (by decide) (g := (mkF m 48 #[.val (.ref a), .val (.ref b), .val (.int (0 : Int32)), .val (.int (2 : Int32)), .val .null, .val (.ref d)] [(.int (0 : Int32)), (.ref a)])) rfl rfl (hb hby d3_48)
  have f15_0 := f13_0.other W15 (Or.inr (slot_ne (Or.inr (hw _ (List.mem_of_getElem? (i := 20) rfl))) (Or.inr (hw _ (List.mem_of_getElem? (i := 21) rfl))) (by decide) (t := (.array .byte)) (t' := .byte) (by decide +kernel) (by decide +kernel)))
  have f15_1 := f13_1.same W15
  have f15_2 := f13_2.wr W15
  have f15_4 := f13_4.other W15 ne
  have f15_10 := V13.other W15 ne13_d_1.symm
  have Z15 : n0 ≤ h15.size := by rw [W15.size]; exact Z13
  have N15 := Fr.snoc X15 M14 ga
  have K15 := KK13.wr W15 (Or.inl (by simp))
  refine own_go st15 ?_
  show own_E _ _ _ _ _ _ _ (T15.setTop (mkF m 51 #[.val (.ref a), .val (.ref b), .val (.int (0 : Int32)), .val (.int (2 : Int32)), .val .null, .val (.ref d)] []))
  refine own_go (fun _ k => XS.aloadN X15.here hx rfl (hb hby d3_51) rfl rfl k) ?_
  show own_E _ _ _ _ _ _ _ (T15.setTop (mkF m 52 #[.val (.ref a), .val (.ref b), .val (.int (0 : Int32)), .val (.int (2 : Int32)), .val .null, .val (.ref d)] [(.ref a)]))
  refine own_go (fun _ k => XS.aload X15.here hx rfl (hb hby d3_52) rfl rfl k) ?_
  show own_E _ _ _ _ _ _ _ (T15.setTop (mkF m 54 #[.val (.ref a), .val (.ref b), .val (.int (0 : Int32)), .val (.int (2 : Int32)), .val .null, .val (.ref d)] [(.ref d), (.ref a)]))
  obtain ⟨T16, h16, X16, e16, W16, st16⟩ := putF X15 hx hZ hown (host := "") (Or.inl (hw _ (List.mem_of_getElem? (i := 24) rfl))) Via.refl e15 f15_0 f15_2 (Or.inr ⟨(hw _ (List.mem_of_getElem? (i := 20) rfl)), rfl, hnm⟩) (hw _ (List.mem_of_getElem? (i := 6) rfl)) (ty := (.array .byte)) (by decide +kernel) rfl rfl (g := (mkF m 54 #[.val (.ref a), .val (.ref b), .val (.int (0 : Int32)), .val (.int (2 : Int32)), .val .null, .val (.ref d)] [(.ref d), (.ref a)])) rfl rfl (hb hby d3_54)
  have f16_0 := f15_0.same W16
  have f16_1 := f15_1.other W16 (Or.inr (slot_ne (Or.inr (hw _ (List.mem_of_getElem? (i := 21) rfl))) (Or.inr (hw _ (List.mem_of_getElem? (i := 20) rfl))) (by decide) (t := .byte) (t' := (.array .byte)) (by decide +kernel) (by decide +kernel)))
  have f16_2 := f15_2.wr W16
  have f16_4 := f15_4.other W16 ne
  have f16_10 := f15_10.other W16 ne13_d_1.symm
  have Z16 : n0 ≤ h16.size := by rw [W16.size]; exact Z15
  have N16 := Fr.snoc X16 N15 ga
  have K16 := K15.wr W16 (Or.inl (by simp))
  refine own_go st16 ?_
  show own_E _ _ _ _ _ _ _ (T16.setTop (mkF m 57 #[.val (.ref a), .val (.ref b), .val (.int (0 : Int32)), .val (.int (2 : Int32)), .val .null, .val (.ref d)] []))
  exact own_ret0 X16 hx Bd.returns Bd.notSynchronized (hb hby d3_57) (by rw [e16]; exact ⟨rfl, N16, K16⟩) (by decide) (by decide)
def QrmI0 (a : Addr) (b : Addr) (Z : State) (h0 : Heap) (n0 : Nat) (v : Option Value) (h : Heap) (L : List Loc) : Prop := v = none ∧ Fr n0 L ∧ Keep h0 h [a]
set_option maxRecDepth 65536 in
set_option maxHeartbeats 40000000 in
theorem rmI0 (l : Launch) (Z : State) (a0 : Array Value) (hw : ∀ d ∈ tables_1, d.before a0 Z = true) (a : Addr) (b : Addr) (h0 : Heap) (n0 : Nat) (Z0 : n0 ≤ h0.size) (E : Exa Z h0 a "java/lang/String") (F : Fld Z h0 a "java/lang/String" "value" "[B" .null) (G : Fld Z h0 a "java/lang/String" "coder" "B" (.int 0)) (ga : n0 ≤ a) :
    MetFree l (⟨"java/lang/String", "<init>", "([CIILjava/lang/Void;)V"⟩ : MethodName) (head1 (Jvm.Cond.code (⟨"java/lang/String", "<init>", "([CIILjava/lang/Void;)V"⟩ : MethodName) jdk_42_method_149_code 6 none :: []) ({ frames := 2, cells := 2, slots := 4, locals := 40 } : Room)) (fun ar_ U => ar_ = #[(.ref a), (.ref b), (.int (0 : Int32)), (.int (0 : Int32)), .null] ∧ Z.Warmed39 U.vm ∧ U.heap = h0 ∧ CHv Z own_EL U.vm h0) (fun _ _ _ _ _ => True) (fun _ U o U' => ∃ v L, o = .returned v ∧ QrmI0 a b Z h0 n0 v U'.heap L ∧ CHr Z own_EL U.vm U.heap U'.vm U'.heap ∧ ReturnedEndW U o U' L ({ frames := 2, cells := 2, slots := 4, locals := 40 } : Room).cells ({ frames := 2, cells := 2, slots := 4, locals := 40 } : Room).slots) := by
  refine MetFree.of_bodySF (plainFor_of_name (by first | (simp [plainName, overriddenIn]; done) | decide +kernel)) hisR ?_
  intro p e s m args below meth c s₁ Bd hml0 hP hK
  obtain ⟨rfl, hZ, hh, H0⟩ := hP
  have hx := Bd.exec
  have hby := Bd.bytes
  have hml : c.maxLocals = 6 := hml0
  have hown : s.vm.findClass "java/lang/String" = some m.cls := findClass_of_methodNamed Bd.named
  have hnm := (name_of_methodNamed Bd.named Bd.method).1
  have X0 : Stand p l e ({ frames := 2, cells := 2, slots := 4, locals := 40 } : Room) (s.setVm s.vm) m #[(.ref a), (.ref b), (.int (0 : Int32)), (.int (0 : Int32)), .null] below meth c s₁ [] 0 0 := Stand.of_body Bd
  have C0 : CHr Z own_EL s.vm h0 s.vm h0 := CHr.refl H0
  have hS0 : s.Since s.vm n0 := own_since s n0
  have kk0 := Z0
  have hEL := own_EW hw
  have hwS := own_wS hw
  have hZ : Z.Warmed39 (s.setVm s.vm).vm := hZ
  have hown : (s.setVm s.vm).vm.findClass "java/lang/String" = some m.cls := hown
  have e0 : s₁.heap = h0 := by rw [← hh, Bd.state]; rfl
  have N0 := Fr.nil n0
  show own_F p e below s Z own_EL (QrmI0 a b Z h0 n0) ({ frames := 2, cells := 2, slots := 4, locals := 40 } : Room).cells ({ frames := 2, cells := 2, slots := 4, locals := 40 } : Room).slots (s₁.setTop (entryFrame m #[(.ref a), (.ref b), (.int (0 : Int32)), (.int (0 : Int32)), .null] 6))
  refine own_goF (fun t k => castTop (show _ = (mkF m 0 #[.val (.ref a), .val (.ref b), .val (.int (0 : Int32)), .val (.int (0 : Int32)), .val .null, .unset] []) from by first | (simp [entryFrame, mkF, argsToLocals, Value.category]; done) | rfl) k) ?_
  show own_F _ _ _ _ _ _ _ _ _ (s₁.setTop (mkF m 0 #[.val (.ref a), .val (.ref b), .val (.int (0 : Int32)), .val (.int (0 : Int32)), .val .null, .unset] []))
  have S0 : Safe Z own_EL s.vm h0 a := own_safe (State.Warmed39.alike hZ) F E
  have KK := Keep.refl h0 [a]
  refine own_goF (fun _ k => XS.aloadN X0.here hx rfl (hb hby d3_0) rfl rfl k) ?_
  show own_F _ _ _ _ _ _ _ _ _ (s₁.setTop (mkF m 1 #[.val (.ref a), .val (.ref b), .val (.int (0 : Int32)), .val (.int (0 : Int32)), .val .null, .unset] [(.ref a)]))
  obtain ⟨T11, X11, e11, st11⟩ := initO X0 hx hZ hown (hw _ (List.mem_of_getElem? (i := 15) rfl)) (hw _ (List.mem_of_getElem? (i := 16) rfl)) (hw _ (List.mem_of_getElem? (i := 17) rfl)) e0 (g := (mkF m 1 #[.val (.ref a), .val (.ref b), .val (.int (0 : Int32)), .val (.int (0 : Int32)), .val .null, .unset] [(.ref a)])) rfl (by rw [hml]; rfl) rfl (hb hby d3_1) (by decide) (W := 0) (Nat.le_of_ble_eq_true rfl) (by decide)
  refine own_goF st11 ?_
  show own_F _ _ _ _ _ _ _ _ _ (T11.setTop (mkF m 4 #[.val (.ref a), .val (.ref b), .val (.int (0 : Int32)), .val (.int (0 : Int32)), .val .null, .unset] []))
  refine own_goF (fun _ k => XS.iloadN X11.here hx rfl (hb hby d3_4) rfl k) ?_
  show own_F _ _ _ _ _ _ _ _ _ (T11.setTop (mkF m 5 #[.val (.ref a), .val (.ref b), .val (.int (0 : Int32)), .val (.int (0 : Int32)), .val .null, .unset] [(.int (0 : Int32))]))
  refine own_goF (fun _ k => XS.ifNo X11.here hx rfl (hb hby d3_5) rfl (by decide) k) ?_
  show own_F _ _ _ _ _ _ _ _ _ (T11.setTop (mkF m 8 #[.val (.ref a), .val (.ref b), .val (.int (0 : Int32)), .val (.int (0 : Int32)), .val .null, .unset] []))
  refine own_goF (fun _ k => XS.aloadN X11.here hx rfl (hb hby d3_8) rfl rfl k) ?_
  show own_F _ _ _ _ _ _ _ _ _ (T11.setTop (mkF m 9 #[.val (.ref a), .val (.ref b), .val (.int (0 : Int32)), .val (.int (0 : Int32)), .val .null, .unset] [(.ref a)]))
  obtain ⟨la, T12, h12, k12, lb, kc12, X12, e12, E12, hS12, kk12, hZ12, ho12, A12, G12, F12, V12, la12, lb12, hC12, Li12, sx12, st12⟩ := ldcCH X11 hx hZ hown (hw _ (List.mem_of_getElem? (i := 18) rfl)) hwS e11 hS0 kk0 hEL (by decide) C0.1 (vs := []) (z := (0 : Int32)) ⟨by decide, rfl⟩ (by decide) (by decide) (g := (mkF m 9 #[.val (.ref a), .val (.ref b), .val (.int (0 : Int32)), .val (.int (0 : Int32)), .val .null, .unset] [(.ref a)])) rfl (hb hby d3_9) (n := 0) (by decide) (by decide) (by decide) (by decide)
  have sf12_4 := hC12.safe F.lt S0
  have na12_4 := (sx12 _ sf12_4).1
  have nb12_4 := (sx12 _ sf12_4).2
  have f12_0 := F.ext E12
  have f12_1 := G.ext E12
  have f12_2 := E.ext E12
  have K12 := KK.ext E12
  have Z12 := Nat.le_trans Z0 E12.1
  have C12 := C0.trans hC12
  have hZ := hZ12
  have hown := ho12
  refine own_goF st12 ?_
  show own_F _ _ _ _ _ _ _ _ _ (T12.setTop (mkF m 11 #[.val (.ref a), .val (.ref b), .val (.int (0 : Int32)), .val (.int (0 : Int32)), .val .null, .unset] [(.ref la), (.ref a)]))
  obtain ⟨T13, X13, e13, st13⟩ := getF X12 hx hZ hown (host := "") (Or.inl (hw _ (List.mem_of_getElem? (i := 24) rfl))) Via.refl e12 F12 (g := (mkF m 11 #[.val (.ref a), .val (.ref b), .val (.int (0 : Int32)), .val (.int (0 : Int32)), .val .null, .unset] [(.ref la), (.ref a)])) rfl rfl (hb hby d3_11)
  refine own_goF st13 ?_
  show own_F _ _ _ _ _ _ _ _ _ (T13.setTop (mkF m 14 #[.val (.ref a), .val (.ref b), .val (.int (0 : Int32)), .val (.int (0 : Int32)), .val .null, .unset] [(.ref lb), (.ref a)]))
  obtain ⟨T14, h14, X14, e14, W14, st14⟩ := putF X13 hx hZ hown (host := "") (Or.inl (hw _ (List.mem_of_getElem? (i := 24) rfl))) Via.refl e13 f12_0 f12_2 (Or.inr ⟨(hw _ (List.mem_of_getElem? (i := 20) rfl)), rfl, hnm⟩) (hw _ (List.mem_of_getElem? (i := 6) rfl)) (ty := (.array .byte)) (by decide +kernel) rfl rfl (g := (mkF m 14 #[.val (.ref a), .val (.ref b), .val (.int (0 : Int32)), .val (.int (0 : Int32)), .val .null, .unset] [(.ref lb), (.ref a)])) rfl rfl (hb hby d3_14)
  have f14_0 := f12_0.same W14
  have f14_1 := f12_1.other W14 (Or.inr (slot_ne (Or.inr (hw _ (List.mem_of_getElem? (i := 21) rfl))) (Or.inr (hw _ (List.mem_of_getElem? (i := 20) rfl))) (by decide) (t := .byte) (t' := (.array .byte)) (by decide +kernel) (by decide +kernel)))
  have f14_2 := f12_2.wr W14
  have f14_4 := Safe.wr W14 sf12_4 C12.1 sf12_4
  have f14_7 := A12.wr W14
  have f14_8 := G12.other W14 (Or.inl na12_4.symm)
  have f14_9 := F12.other W14 (Or.inl na12_4.symm)
  have f14_10 := V12.other W14 nb12_4.symm
  have C14 := C12.trans (CHr.wr W14 sf12_4 C12.1)
  have kk14 := Nat.le_trans kk12 (Nat.le_of_eq W14.size.symm)
  have Z14 : n0 ≤ h14.size := by rw [W14.size]; exact Z12
  have N14 := Fr.snoc X14 N0 ga
  have K14 := K12.wr W14 (Or.inl (by simp))
  refine own_goF st14 ?_
  show own_F _ _ _ _ _ _ _ _ _ (T14.setTop (mkF m 17 #[.val (.ref a), .val (.ref b), .val (.int (0 : Int32)), .val (.int (0 : Int32)), .val .null, .unset] []))
  refine own_goF (fun _ k => XS.aloadN X14.here hx rfl (hb hby d3_17) rfl rfl k) ?_
  show own_F _ _ _ _ _ _ _ _ _ (T14.setTop (mkF m 18 #[.val (.ref a), .val (.ref b), .val (.int (0 : Int32)), .val (.int (0 : Int32)), .val .null, .unset] [(.ref a)]))
  refine own_goF (ldcAgain X14 hx hZ hown (hw _ (List.mem_of_getElem? (i := 18) rfl)) Li12 (g := (mkF m 18 #[.val (.ref a), .val (.ref b), .val (.int (0 : Int32)), .val (.int (0 : Int32)), .val .null, .unset] [(.ref a)])) rfl (hb hby d3_18)) ?_
  show own_F _ _ _ _ _ _ _ _ _ (T14.setTop (mkF m 20 #[.val (.ref a), .val (.ref b), .val (.int (0 : Int32)), .val (.int (0 : Int32)), .val .null, .unset] [(.ref la), (.ref a)]))
  obtain ⟨T15, X15, e15, st15⟩ := getF X14 hx hZ hown (host := "") (Or.inl (hw _ (List.mem_of_getElem? (i := 25) rfl))) Via.refl e14 f14_8 (g := (mkF m 20 #[.val (.ref a), .val (.ref b), .val (.int (0 : Int32)), .val (.int (0 : Int32)), .val .null, .unset] [(.ref la), (.ref a)])) rfl rfl (hb hby d3_20)
  refine own_goF st15 ?_
  show own_F _ _ _ _ _ _ _ _ _ (T15.setTop (mkF m 23 #[.val (.ref a), .val (.ref b), .val (.int (0 : Int32)), .val (.int (0 : Int32)), .val .null, .unset] [(.int (0 : Int32)), (.ref a)]))
  obtain ⟨T16, h16, X16, e16, W16, st16⟩ := putF X15 hx hZ hown (host := "") (Or.inl (hw _ (List.mem_of_getElem? (i := 25) rfl))) Via.refl e15 f14_1 f14_2 (Or.inr ⟨(hw _ (List.mem_of_getElem? (i := 21) rfl)), rfl, hnm⟩) (hw _ (List.mem_of_getElem? (i := 6) rfl)) (ty := .byte) (by decide +kernel) rfl (by decide) (g := (mkF m 23 #[.val (.ref a), .val (.ref b), .val (.int (0 : Int32)), .val (.int (0 : Int32)), .val .null, .unset] [(.int (0 : Int32)), (.ref a)])) rfl rfl (hb hby d3_23)
  have f16_0 := f14_0.other W16 (Or.inr (slot_ne (Or.inr (hw _ (List.mem_of_getElem? (i := 20) rfl))) (Or.inr (hw _ (List.mem_of_getElem? (i := 21) rfl))) (by decide) (t := (.array .byte)) (t' := .byte) (by decide +kernel) (by decide +kernel)))
  have f16_1 := f14_1.same W16
  have f16_2 := f14_2.wr W16
  have f16_4 := Safe.wr W16 f14_4 C14.1 f14_4
  have f16_7 := f14_7.wr W16
  have f16_8 := f14_8.other W16 (Or.inl na12_4.symm)
  have f16_9 := f14_9.other W16 (Or.inl na12_4.symm)
  have f16_10 := f14_10.other W16 nb12_4.symm
  have C16 := C14.trans (CHr.wr W16 f14_4 C14.1)
  have kk16 := Nat.le_trans kk14 (Nat.le_of_eq W16.size.symm)
  have Z16 : n0 ≤ h16.size := by rw [W16.size]; exact Z14
  have N16 := Fr.snoc X16 N14 ga
  have K16 := K14.wr W16 (Or.inl (by simp))
  refine own_goF st16 ?_
  show own_F _ _ _ _ _ _ _ _ _ (T16.setTop (mkF m 26 #[.val (.ref a), .val (.ref b), .val (.int (0 : Int32)), .val (.int (0 : Int32)), .val .null, .unset] []))
  exact own_retF0 X16 hx hS12 (by rw [e16]; exact kk16) (by rw [hh, e16]; exact C16.trans (CHv.at X16 hZ hEL C16.1)) Bd.returns Bd.notSynchronized (hb hby d3_26) (by rw [e16]; exact ⟨rfl, N16, K16⟩) (by decide) (by decide)
theorem d2_0 : decode jdk_42_method_3_code 0 = .ok (.aload_n 0, 1) := by decide +kernel
theorem d2_1 : decode jdk_42_method_3_code 1 = .ok (.aload_n 1, 1) := by decide +kernel
theorem d2_2 : decode jdk_42_method_3_code 2 = .ok (.iconst 0, 1) := by decide +kernel
theorem d2_3 : decode jdk_42_method_3_code 3 = .ok (.aload_n 1, 1) := by decide +kernel
theorem d2_4 : decode jdk_42_method_3_code 4 = .ok (.arraylength, 1) := by decide +kernel
theorem d2_5 : decode jdk_42_method_3_code 5 = .ok (.aconst_null, 1) := by decide +kernel
theorem d2_6 : decode jdk_42_method_3_code 6 = .ok (.invokespecial 27, 3) := by decide +kernel
theorem d2_9 : decode jdk_42_method_3_code 9 = .ok (.return_, 1) := by decide +kernel
def QrmJ2 (a : Addr) (b : Addr) (kS : ClassId) (c0 : Int32) (c1 : Int32) (cs : Int32) (Z : State) (h0 : Heap) (n0 : Nat) (v : Option Value) (h : Heap) (L : List Loc) : Prop := v = none ∧ Fr n0 L ∧ Keep h0 h [a]
set_option maxRecDepth 65536 in
set_option maxHeartbeats 40000000 in
theorem rmJ2 (l : Launch) (Z : State) (a0 : Array Value) (hw : ∀ d ∈ tables_1, d.before a0 Z = true) (a : Addr) (b : Addr) (kS : ClassId) (c0 : Int32) (c1 : Int32) (cs : Int32) (h0 : Heap) (n0 : Nat) (Z0 : n0 ≤ h0.size) (hc0 : ¬ (255 : Int32) < c0) (hc1 : ¬ (255 : Int32) < c1) (E : Exa Z h0 a "java/lang/String") (F : Fld Z h0 a "java/lang/String" "value" "[B" .null) (G : Fld Z h0 a "java/lang/String" "coder" "B" (.int 0)) (ga : n0 ≤ a) (V : Arv Z h0 b kS .char (2 : Int32) [.int c0, .int c1] (.int 0)) (ne : b ≠ a) (SC : Sta Z h0 "java/lang/String" "COMPACT_STRINGS" "Z" (.int cs)) (ncs : ¬ cs = 0) :
    MetFree l (⟨"java/lang/String", "<init>", "([C)V"⟩ : MethodName) (head1 (Jvm.Cond.code (⟨"java/lang/String", "<init>", "([C)V"⟩ : MethodName) jdk_42_method_3_code 2 none :: []) ({ frames := 3, cells := 1, slots := 2, locals := 60 } : Room)) (fun ar_ U => ar_ = #[(.ref a), (.ref b)] ∧ Z.Warmed39 U.vm ∧ U.heap = h0) (fun _ _ _ _ _ => True) (fun _ U o U' => ∃ v L, o = .returned v ∧ QrmJ2 a b kS c0 c1 cs Z h0 n0 v U'.heap L ∧ FrameEnd U o U' L ({ frames := 3, cells := 1, slots := 2, locals := 60 } : Room).cells ({ frames := 3, cells := 1, slots := 2, locals := 60 } : Room).slots) := by
  refine MetFree.of_bodySF (plainFor_of_name (by first | (simp [plainName, overriddenIn]; done) | decide +kernel)) hisR ?_
  intro p e s m args below meth c s₁ Bd hml0 hP hK
  obtain ⟨rfl, hZ, hh⟩ := hP
  have hx := Bd.exec
  have hby := Bd.bytes
  have hml : c.maxLocals = 2 := hml0
  have hown : s.vm.findClass "java/lang/String" = some m.cls := findClass_of_methodNamed Bd.named
  have hnm := (name_of_methodNamed Bd.named Bd.method).1
  have X0 : Stand p l e ({ frames := 3, cells := 1, slots := 2, locals := 60 } : Room) s m #[(.ref a), (.ref b)] below meth c s₁ [] 0 0 := Stand.of_body Bd
  have e0 : s₁.heap = h0 := by rw [← hh, Bd.state]; rfl
  have N0 := Fr.nil n0
  show own_E p e below s (QrmJ2 a b kS c0 c1 cs Z h0 n0) ({ frames := 3, cells := 1, slots := 2, locals := 60 } : Room).cells ({ frames := 3, cells := 1, slots := 2, locals := 60 } : Room).slots (s₁.setTop (entryFrame m #[(.ref a), (.ref b)] 2))
  refine own_go (fun t k => castTop (show _ = (mkF m 0 #[.val (.ref a), .val (.ref b)] []) from by first | (simp [entryFrame, mkF, argsToLocals, Value.category]; done) | rfl) k) ?_
  show own_E _ _ _ _ _ _ _ (s₁.setTop (mkF m 0 #[.val (.ref a), .val (.ref b)] []))
  refine own_go (fun _ k => XS.aloadN X0.here hx rfl (hb hby d2_0) rfl rfl k) ?_
  show own_E _ _ _ _ _ _ _ (s₁.setTop (mkF m 1 #[.val (.ref a), .val (.ref b)] [(.ref a)]))
  refine own_go (fun _ k => XS.aloadN X0.here hx rfl (hb hby d2_1) rfl rfl k) ?_
  show own_E _ _ _ _ _ _ _ (s₁.setTop (mkF m 2 #[.val (.ref a), .val (.ref b)] [(.ref b), (.ref a)]))
  refine own_go (fun _ k => XT.iconstV X0.here hx rfl (0 : Int32) (hb hby d2_2) (by decide) k) ?_
  show own_E _ _ _ _ _ _ _ (s₁.setTop (mkF m 3 #[.val (.ref a), .val (.ref b)] [(.int (0 : Int32)), (.ref b), (.ref a)]))
  refine own_go (fun _ k => XS.aloadN X0.here hx rfl (hb hby d2_3) rfl rfl k) ?_
  show own_E _ _ _ _ _ _ _ (s₁.setTop (mkF m 4 #[.val (.ref a), .val (.ref b)] [(.ref b), (.int (0 : Int32)), (.ref b), (.ref a)]))
  obtain ⟨c11, a11, u11⟩ := own_len V
  refine own_go (own_alen X0 hx hZ e0 a11 u11 (g := (mkF m 4 #[.val (.ref a), .val (.ref b)] [(.ref b), (.int (0 : Int32)), (.ref b), (.ref a)])) rfl rfl (hb hby d2_4)) ?_
  show own_E _ _ _ _ _ _ _ (s₁.setTop (mkF m 5 #[.val (.ref a), .val (.ref b)] [(.int (2 : Int32)), (.int (0 : Int32)), (.ref b), (.ref a)]))
  refine own_go (fun _ k => XS.aconstNull X0.here hx rfl (hb hby d2_5) k) ?_
  show own_E _ _ _ _ _ _ _ (s₁.setTop (mkF m 6 #[.val (.ref a), .val (.ref b)] [.null, (.int (2 : Int32)), (.int (0 : Int32)), (.ref b), (.ref a)]))
  obtain ⟨v12, T12, L12, X12, hQ12, st12⟩ := own_callI X0 hx hZ (rm := ({ frames := 2, cells := 1, slots := 2, locals := 40 } : Room)) (W := 0) (b := a) (argsL := [(.ref b), (.int (0 : Int32)), (.int (2 : Int32)), .null]) (rest := []) (y := (⟨"java/lang/String", "<init>", "([CIILjava/lang/Void;)V"⟩ : MethodName)) hown rfl (hw _ (List.mem_of_getElem? (i := 11) rfl)) (hw _ (List.mem_of_getElem? (i := 12) rfl)) (hw _ (List.mem_of_getElem? (i := 7) rfl)) (hw _ (List.mem_of_getElem? (i := 14) rfl)) (by decide) (rmI2 l Z a0 hw a b kS c0 c1 cs h0 n0 Z0 hc0 hc1 E F G ga V ne SC ncs) e0 (by decide) (by decide) (by decide) (by decide) (g := (mkF m 6 #[.val (.ref a), .val (.ref b)] [.null, (.int (2 : Int32)), (.int (0 : Int32)), (.ref b), (.ref a)])) rfl (by rw [hml]; rfl) (lenOf pd_3 rfl) rfl (Nat.le_of_ble_eq_true rfl) (hb hby d2_6)
  obtain ⟨rfl, N12, RR⟩ := hQ12
  refine own_go st12 ?_
  show own_E _ _ _ _ _ _ _ (T12.setTop (mkF m 9 #[.val (.ref a), .val (.ref b)] []))
  have e12 : T12.heap = T12.heap := rfl
  exact own_ret0 X12 hx Bd.returns Bd.notSynchronized (hb hby d2_9) (by rw [e12]; exact ⟨rfl, Fr.app N0 N12, RR⟩) (by decide) (by decide)
def QrmJ0 (a : Addr) (b : Addr) (kS : ClassId) (Z : State) (h0 : Heap) (n0 : Nat) (v : Option Value) (h : Heap) (L : List Loc) : Prop := v = none ∧ Fr n0 L ∧ Keep h0 h [a]
set_option maxRecDepth 65536 in
set_option maxHeartbeats 40000000 in
theorem rmJ0 (l : Launch) (Z : State) (a0 : Array Value) (hw : ∀ d ∈ tables_1, d.before a0 Z = true) (a : Addr) (b : Addr) (kS : ClassId) (h0 : Heap) (n0 : Nat) (Z0 : n0 ≤ h0.size) (E : Exa Z h0 a "java/lang/String") (F : Fld Z h0 a "java/lang/String" "value" "[B" .null) (G : Fld Z h0 a "java/lang/String" "coder" "B" (.int 0)) (ga : n0 ≤ a) (V : Arv Z h0 b kS .char (0 : Int32) [] (.int 0)) :
    MetFree l (⟨"java/lang/String", "<init>", "([C)V"⟩ : MethodName) (head1 (Jvm.Cond.code (⟨"java/lang/String", "<init>", "([C)V"⟩ : MethodName) jdk_42_method_3_code 2 none :: []) ({ frames := 3, cells := 2, slots := 4, locals := 60 } : Room)) (fun ar_ U => ar_ = #[(.ref a), (.ref b)] ∧ Z.Warmed39 U.vm ∧ U.heap = h0 ∧ CHv Z own_EL U.vm h0) (fun _ _ _ _ _ => True) (fun _ U o U' => ∃ v L, o = .returned v ∧ QrmJ0 a b kS Z h0 n0 v U'.heap L ∧ CHr Z own_EL U.vm U.heap U'.vm U'.heap ∧ ReturnedEndW U o U' L ({ frames := 3, cells := 2, slots := 4, locals := 60 } : Room).cells ({ frames := 3, cells := 2, slots := 4, locals := 60 } : Room).slots) := by
  refine MetFree.of_bodySF (plainFor_of_name (by first | (simp [plainName, overriddenIn]; done) | decide +kernel)) hisR ?_
  intro p e s m args below meth c s₁ Bd hml0 hP hK
  obtain ⟨rfl, hZ, hh, H0⟩ := hP
  have hx := Bd.exec
  have hby := Bd.bytes
  have hml : c.maxLocals = 2 := hml0
  have hown : s.vm.findClass "java/lang/String" = some m.cls := findClass_of_methodNamed Bd.named
  have hnm := (name_of_methodNamed Bd.named Bd.method).1
  have X0 : Stand p l e ({ frames := 3, cells := 2, slots := 4, locals := 60 } : Room) (s.setVm s.vm) m #[(.ref a), (.ref b)] below meth c s₁ [] 0 0 := Stand.of_body Bd
  have C0 : CHr Z own_EL s.vm h0 s.vm h0 := CHr.refl H0
  have hS0 : s.Since s.vm n0 := own_since s n0
  have kk0 := Z0
  have hEL := own_EW hw
  have hwS := own_wS hw
  have hZ : Z.Warmed39 (s.setVm s.vm).vm := hZ
  have hown : (s.setVm s.vm).vm.findClass "java/lang/String" = some m.cls := hown
  have e0 : s₁.heap = h0 := by rw [← hh, Bd.state]; rfl
  have N0 := Fr.nil n0
  show own_F p e below s Z own_EL (QrmJ0 a b kS Z h0 n0) ({ frames := 3, cells := 2, slots := 4, locals := 60 } : Room).cells ({ frames := 3, cells := 2, slots := 4, locals := 60 } : Room).slots (s₁.setTop (entryFrame m #[(.ref a), (.ref b)] 2))
  refine own_goF (fun t k => castTop (show _ = (mkF m 0 #[.val (.ref a), .val (.ref b)] []) from by first | (simp [entryFrame, mkF, argsToLocals, Value.category]; done) | rfl) k) ?_
  show own_F _ _ _ _ _ _ _ _ _ (s₁.setTop (mkF m 0 #[.val (.ref a), .val (.ref b)] []))
  refine own_goF (fun _ k => XS.aloadN X0.here hx rfl (hb hby d2_0) rfl rfl k) ?_
  show own_F _ _ _ _ _ _ _ _ _ (s₁.setTop (mkF m 1 #[.val (.ref a), .val (.ref b)] [(.ref a)]))
  refine own_goF (fun _ k => XS.aloadN X0.here hx rfl (hb hby d2_1) rfl rfl k) ?_
  show own_F _ _ _ _ _ _ _ _ _ (s₁.setTop (mkF m 2 #[.val (.ref a), .val (.ref b)] [(.ref b), (.ref a)]))
  refine own_goF (fun _ k => XT.iconstV X0.here hx rfl (0 : Int32) (hb hby d2_2) (by decide) k) ?_
  show own_F _ _ _ _ _ _ _ _ _ (s₁.setTop (mkF m 3 #[.val (.ref a), .val (.ref b)] [(.int (0 : Int32)), (.ref b), (.ref a)]))
  refine own_goF (fun _ k => XS.aloadN X0.here hx rfl (hb hby d2_3) rfl rfl k) ?_
  show own_F _ _ _ _ _ _ _ _ _ (s₁.setTop (mkF m 4 #[.val (.ref a), .val (.ref b)] [(.ref b), (.int (0 : Int32)), (.ref b), (.ref a)]))
  obtain ⟨c11, a11, u11⟩ := own_len V
  refine own_goF (own_alen X0 hx hZ e0 a11 u11 (g := (mkF m 4 #[.val (.ref a), .val (.ref b)] [(.ref b), (.int (0 : Int32)), (.ref b), (.ref a)])) rfl rfl (hb hby d2_4)) ?_
  show own_F _ _ _ _ _ _ _ _ _ (s₁.setTop (mkF m 5 #[.val (.ref a), .val (.ref b)] [(.int (0 : Int32)), (.int (0 : Int32)), (.ref b), (.ref a)]))
  refine own_goF (fun _ k => XS.aconstNull X0.here hx rfl (hb hby d2_5) k) ?_
  show own_F _ _ _ _ _ _ _ _ _ (s₁.setTop (mkF m 6 #[.val (.ref a), .val (.ref b)] [.null, (.int (0 : Int32)), (.int (0 : Int32)), (.ref b), (.ref a)]))
  obtain ⟨v12, T12, L12, X12, hS12, hZ12, ho12, hQ12, hC12, st12⟩ := own_callIF X0 hx hZ (rm := ({ frames := 2, cells := 2, slots := 4, locals := 40 } : Room)) (W := 0) (b := a) (argsL := [(.ref b), (.int (0 : Int32)), (.int (0 : Int32)), .null]) (rest := []) (y := (⟨"java/lang/String", "<init>", "([CIILjava/lang/Void;)V"⟩ : MethodName)) hown rfl (hw _ (List.mem_of_getElem? (i := 11) rfl)) (hw _ (List.mem_of_getElem? (i := 12) rfl)) (hw _ (List.mem_of_getElem? (i := 7) rfl)) (hw _ (List.mem_of_getElem? (i := 14) rfl)) (by decide) (rmI0 l Z a0 hw a b h0 n0 Z0 E F G ga) e0 hS0 kk0 hEL C0.1 (by decide) (by decide) (by decide) (by decide) (g := (mkF m 6 #[.val (.ref a), .val (.ref b)] [.null, (.int (0 : Int32)), (.int (0 : Int32)), (.ref b), (.ref a)])) rfl (by rw [hml]; rfl) (lenOf pd_3 rfl) rfl (Nat.le_of_ble_eq_true rfl) (hb hby d2_6)
  obtain ⟨rfl, N12, RR⟩ := hQ12
  refine own_goF st12 ?_
  show own_F _ _ _ _ _ _ _ _ _ (T12.setTop (mkF m 9 #[.val (.ref a), .val (.ref b)] []))
  have e12 : T12.heap = T12.heap := rfl
  have C12 := C0.trans hC12
  have hZ := hZ12
  exact own_retF0 X12 hx hS12 (by rw [e12]; exact (Nat.le_refl _)) (by rw [hh, e12]; exact C12.trans (CHv.at X12 hZ hEL C12.1)) Bd.returns Bd.notSynchronized (hb hby d2_9) (by rw [e12]; exact ⟨rfl, Fr.app N0 N12, RR⟩) (by decide) (by decide)
theorem d1_0 : decode method_2_code 0 = .ok (.iload_n 0, 1) := by decide +kernel
theorem d1_1 : decode method_2_code 1 = .ok (.ifCond .eq 27, 3) := by decide +kernel
theorem d1_4 : decode method_2_code 4 = .ok (.iconst 2, 1) := by decide +kernel
theorem d1_5 : decode method_2_code 5 = .ok (.newarray .char, 2) := by decide +kernel
theorem d1_7 : decode method_2_code 7 = .ok (.dup, 1) := by decide +kernel
theorem d1_8 : decode method_2_code 8 = .ok (.iconst 0, 1) := by decide +kernel
theorem d1_9 : decode method_2_code 9 = .ok (.iload_n 1, 1) := by decide +kernel
theorem d1_10 : decode method_2_code 10 = .ok (.sipush 255, 3) := by decide +kernel
theorem d1_13 : decode method_2_code 13 = .ok (.iand, 1) := by decide +kernel
theorem d1_14 : decode method_2_code 14 = .ok (.i2c, 1) := by decide +kernel
theorem d1_15 : decode method_2_code 15 = .ok (.castore, 1) := by decide +kernel
theorem d1_16 : decode method_2_code 16 = .ok (.dup, 1) := by decide +kernel
theorem d1_17 : decode method_2_code 17 = .ok (.iconst 1, 1) := by decide +kernel
theorem d1_18 : decode method_2_code 18 = .ok (.iload_n 2, 1) := by decide +kernel
theorem d1_19 : decode method_2_code 19 = .ok (.sipush 255, 3) := by decide +kernel
theorem d1_22 : decode method_2_code 22 = .ok (.iand, 1) := by decide +kernel
theorem d1_23 : decode method_2_code 23 = .ok (.i2c, 1) := by decide +kernel
theorem d1_24 : decode method_2_code 24 = .ok (.castore, 1) := by decide +kernel
theorem d1_25 : decode method_2_code 25 = .ok (.goto 6, 3) := by decide +kernel
theorem d1_28 : decode method_2_code 28 = .ok (.iconst 0, 1) := by decide +kernel
theorem d1_29 : decode method_2_code 29 = .ok (.newarray .char, 2) := by decide +kernel
theorem d1_31 : decode method_2_code 31 = .ok (.astore_n 3, 1) := by decide +kernel
theorem d1_32 : decode method_2_code 32 = .ok (.new 7, 3) := by decide +kernel
theorem d1_35 : decode method_2_code 35 = .ok (.dup, 1) := by decide +kernel
theorem d1_36 : decode method_2_code 36 = .ok (.aload_n 3, 1) := by decide +kernel
theorem d1_37 : decode method_2_code 37 = .ok (.invokespecial 9, 3) := by decide +kernel
theorem d1_40 : decode method_2_code 40 = .ok (.areturn, 1) := by decide +kernel
def Qrm1 (q : Int32) (x1 : Int32) (x2 : Int32) (cs : Int32) (Z : State) (h0 : Heap) (n0 : Nat) (v : Option Value) (h : Heap) (L : List Loc) : Prop := Fr n0 L ∧ Keep h0 h [] ∧ ∃ r, v = some (.ref r)
set_option maxRecDepth 65536 in
set_option maxHeartbeats 40000000 in
theorem rm1 (l : Launch) (Z : State) (a0 : Array Value) (hw : ∀ d ∈ tables_1, d.before a0 Z = true) (q : Int32) (x1 : Int32) (x2 : Int32) (cs : Int32) (h0 : Heap) (n0 : Nat) (Z0 : n0 ≤ h0.size) (hq : q = 0 ∨ q = 1) (SC : Sta Z h0 "java/lang/String" "COMPACT_STRINGS" "Z" (.int cs)) (ncs : ¬ cs = 0) :
    MetFree l (⟨"com/example/arborkey/arborkey/ArgumentShownPinLaw", "drawn", "(ZII)Ljava/lang/String;"⟩ : MethodName) (head1 (Jvm.Cond.code (⟨"com/example/arborkey/arborkey/ArgumentShownPinLaw", "drawn", "(ZII)Ljava/lang/String;"⟩ : MethodName) method_2_code 4 (some (.object "java/lang/String")) :: []) ({ frames := 4, cells := 4, slots := 12, locals := 80 } : Room)) (fun ar_ U => ar_ = #[(.int q), (.int x1), (.int x2)] ∧ Z.Warmed39 U.vm ∧ U.heap = h0 ∧ CHv Z own_EL U.vm h0) (fun _ _ _ _ _ => True) (fun _ U o U' => ∃ v L, o = .returned v ∧ Qrm1 q x1 x2 cs Z h0 n0 v U'.heap L ∧ CHr Z own_EL U.vm U.heap U'.vm U'.heap ∧ ReturnedEndW U o U' L ({ frames := 4, cells := 4, slots := 12, locals := 80 } : Room).cells ({ frames := 4, cells := 4, slots := 12, locals := 80 } : Room).slots) := by
  refine MetFree.of_bodySF (plainFor_of_name (by first | (simp [plainName, overriddenIn]; done) | decide +kernel)) hisR ?_
  intro p e s m args below meth c s₁ Bd hml0 hP hK
  obtain ⟨rfl, hZ, hh, H0⟩ := hP
  have hx := Bd.exec
  have hby := Bd.bytes
  have hml : c.maxLocals = 4 := hml0
  have hown : s.vm.findClass "com/example/arborkey/arborkey/ArgumentShownPinLaw" = some m.cls := findClass_of_methodNamed Bd.named
  have hnm := (name_of_methodNamed Bd.named Bd.method).1
  have X0 : Stand p l e ({ frames := 4, cells := 4, slots := 12, locals := 80 } : Room) (s.setVm s.vm) m #[(.int q), (.int x1), (.int x2)] below meth c s₁ [] 0 0 := Stand.of_body Bd
  have C0 : CHr Z own_EL s.vm h0 s.vm h0 := CHr.refl H0
  have hS0 : s.Since s.vm n0 := own_since s n0
  have kk0 := Z0
  have hEL := own_EW hw
  have hwS := own_wS hw
  have hZ : Z.Warmed39 (s.setVm s.vm).vm := hZ
  have hown : (s.setVm s.vm).vm.findClass "com/example/arborkey/arborkey/ArgumentShownPinLaw" = some m.cls := hown
  have e0 : s₁.heap = h0 := by rw [← hh, Bd.state]; rfl
  have N0 := Fr.nil n0
  show own_F p e below s Z own_EL (Qrm1 q x1 x2 cs Z h0 n0) ({ frames := 4, cells := 4, slots := 12, locals := 80 } : Room).cells ({ frames := 4, cells := 4, slots := 12, locals := 80 } : Room).slots (s₁.setTop (entryFrame m #[(.int q), (.int x1), (.int x2)] 4))
  refine own_goF (fun t k => castTop (show _ = (mkF m 0 #[.val (.int q), .val (.int x1), .val (.int x2), .unset] []) from by first | (simp [entryFrame, mkF, argsToLocals, Value.category]; done) | rfl) k) ?_
  show own_F _ _ _ _ _ _ _ _ _ (s₁.setTop (mkF m 0 #[.val (.int q), .val (.int x1), .val (.int x2), .unset] []))
  have KK := Keep.refl h0 []
  rcases hq with rfl | rfl
  ·
    show own_F _ _ _ _ _ _ _ _ _ (s₁.setTop (mkF m 0 #[.val (.int (0 : Int32)), .val (.int x1), .val (.int x2), .unset] []))
    refine own_goF (fun _ k => XS.iloadN X0.here hx rfl (hb hby d1_0) rfl k) ?_
    show own_F _ _ _ _ _ _ _ _ _ (s₁.setTop (mkF m 1 #[.val (.int (0 : Int32)), .val (.int x1), .val (.int x2), .unset] [(.int (0 : Int32))]))
    refine own_goF (fun _ k => XS.ifYes X0.here hx rfl (pc0 := 1) (pc' := 28) rfl (hb hby d1_1) rfl (by decide) (by decide) (by decide) k) ?_
    show own_F _ _ _ _ _ _ _ _ _ (s₁.setTop (mkF m 28 #[.val (.int (0 : Int32)), .val (.int x1), .val (.int x2), .unset] []))
    refine own_goF (fun _ k => XT.iconstV X0.here hx rfl (0 : Int32) (hb hby d1_28) (by decide) k) ?_
    show own_F _ _ _ _ _ _ _ _ _ (s₁.setTop (mkF m 29 #[.val (.int (0 : Int32)), .val (.int x1), .val (.int x2), .unset] [(.int (0 : Int32))]))
    obtain ⟨T11, h11, k11, X11, e11, E11, A11, B11, st11⟩ := newPE X0 hx hZ (hw _ (List.mem_of_getElem? (i := 4) rfl)) e0 (g := (mkF m 29 #[.val (.int (0 : Int32)), .val (.int x1), .val (.int x2), .unset] [(.int (0 : Int32))])) rfl (hb hby d1_29) rfl (by decide) (cap := 0) (by decide) (by decide) (by decide) (by decide) (ad := "[C") (by decide)
    obtain ⟨ar, g11⟩ : ∃ z, z = h0.size := ⟨_, rfl⟩
    rw [← g11] at A11 B11 st11
    have w11 : n0 ≤ ar := by rw [g11]; exact Z0
    have kz11 : h0.size ≤ ar := by rw [g11]; exact KK.1
    have v11 : Arv Z h11 ar k11 .char (0 : Int32) [] (.int 0) := own_arvNew (n := 0) A11 (by decide)
    have f11_0 := SC.ext E11
    have C11 := C0.trans (CHr.ext E11 C0.1)
    have kk11 := Nat.le_trans kk0 E11.1
    have K11 := KK.ext E11
    have Z11 := Nat.le_trans Z0 E11.1
    refine own_goF st11 ?_
    show own_F _ _ _ _ _ _ _ _ _ (T11.setTop (mkF m 31 #[.val (.int (0 : Int32)), .val (.int x1), .val (.int x2), .unset] [(.ref ar)]))
    refine own_goF (fun _ k => XS.astoreN X11.here hx rfl (hb hby d1_31) rfl rfl (l' := #[.val (.int (0 : Int32)), .val (.int x1), .val (.int x2), .val (.ref ar)]) rfl k) ?_
    show own_F _ _ _ _ _ _ _ _ _ (T11.setTop (mkF m 32 #[.val (.int (0 : Int32)), .val (.int x1), .val (.int x2), .val (.ref ar)] []))
    obtain ⟨T12, h12, X12, e12, E12, A12, D12, -, st12⟩ := newO X11 hx hZ hown (hw _ (List.mem_of_getElem? (i := 5) rfl)) (hw _ (List.mem_of_getElem? (i := 6) rfl)) (hw _ (List.mem_of_getElem? (i := 7) rfl)) e11 (g := (mkF m 32 #[.val (.int (0 : Int32)), .val (.int x1), .val (.int x2), .val (.ref ar)] [])) rfl (hb hby d1_32) (by decide) (by decide)
    obtain ⟨ax, g12⟩ : ∃ z, z = h11.size := ⟨_, rfl⟩
    rw [← g12] at A12 D12 st12
    have ne12_1 : ar ≠ ax := by rw [g12]; exact Nat.ne_of_lt v11.lt
    have w12 : n0 ≤ ax := by rw [g12]; exact Z11
    have kz12 : h0.size ≤ ax := by rw [g12]; exact K11.1
    have f12_value : Fld Z h12 ax "java/lang/String" "value" "[B" .null := D12 (Or.inr (hw _ (List.mem_of_getElem? (i := 20) rfl))) (ty := (.array .byte)) (by decide +kernel)
    have f12_coder : Fld Z h12 ax "java/lang/String" "coder" "B" (.int (0 : Int32)) := D12 (Or.inr (hw _ (List.mem_of_getElem? (i := 21) rfl))) (ty := .byte) (by decide +kernel)
    have f12_0 := f11_0.ext E12
    have f12_3 := v11.ext E12
    have f12_4 := B11.ext E12
    have C12 := C11.trans (CHr.ext E12 C11.1)
    have kk12 := Nat.le_trans kk11 E12.1
    have K12 := K11.ext E12
    have Z12 := Nat.le_trans Z11 E12.1
    refine own_goF st12 ?_
    show own_F _ _ _ _ _ _ _ _ _ (T12.setTop (mkF m 35 #[.val (.int (0 : Int32)), .val (.int x1), .val (.int x2), .val (.ref ar)] [(.ref ax)]))
    have sfx := own_safe (EL := own_EL) (State.Warmed39.alike hZ) f12_value A12
    refine own_goF (fun _ k => XS.dup X12.here hx rfl (hb hby d1_35) rfl rfl k) ?_
    show own_F _ _ _ _ _ _ _ _ _ (T12.setTop (mkF m 36 #[.val (.int (0 : Int32)), .val (.int x1), .val (.int x2), .val (.ref ar)] [(.ref ax), (.ref ax)]))
    refine own_goF (fun _ k => XS.aloadN X12.here hx rfl (hb hby d1_36) rfl rfl k) ?_
    show own_F _ _ _ _ _ _ _ _ _ (T12.setTop (mkF m 37 #[.val (.int (0 : Int32)), .val (.int x1), .val (.int x2), .val (.ref ar)] [(.ref ar), (.ref ax), (.ref ax)]))
    obtain ⟨v13, T13, L13, X13, hS13, hZ13, ho13, hQ13, hC13, st13⟩ := own_callIF X12 hx hZ (rm := ({ frames := 3, cells := 2, slots := 4, locals := 60 } : Room)) (W := 1) (b := ax) (argsL := [(.ref ar)]) (rest := [(.ref ax)]) (y := (⟨"java/lang/String", "<init>", "([C)V"⟩ : MethodName)) hown rfl (hw _ (List.mem_of_getElem? (i := 8) rfl)) (hw _ (List.mem_of_getElem? (i := 9) rfl)) (hw _ (List.mem_of_getElem? (i := 7) rfl)) (hw _ (List.mem_of_getElem? (i := 10) rfl)) (by decide) (rmJ0 l Z a0 hw ax ar k11 h12 n0 Z12 A12 f12_value f12_coder w12 f12_3) e12 hS0 kk12 hEL C12.1 (by decide) (by decide) (by decide) (by decide) (g := (mkF m 37 #[.val (.int (0 : Int32)), .val (.int x1), .val (.int x2), .val (.ref ar)] [(.ref ar), (.ref ax), (.ref ax)])) rfl (by rw [hml]; rfl) (lenOf pd_4 rfl) rfl (Nat.le_of_ble_eq_true rfl) (hb hby d1_37)
    obtain ⟨rfl, N13, K13⟩ := hQ13
    refine own_goF st13 ?_
    show own_F _ _ _ _ _ _ _ _ _ (T13.setTop (mkF m 40 #[.val (.int (0 : Int32)), .val (.int x1), .val (.int x2), .val (.ref ar)] [(.ref ax)]))
    have M13 := Fr.app N0 N13
    have e13 : T13.heap = T13.heap := rfl
    have sf13_10 := hC13.safe f12_value.lt sfx
    have f13_2 := f12_3.keep K13 (ninS ne12_1 nin0)
    have f13_3 := f12_4.keep K13
    have f13_9 := A12.keep K13
    have Z13 := Nat.le_trans Z12 K13.1
    have KK13 := K12.trans K13 (allS (Or.inr kz12) all0)
    have C13 := C12.trans hC13
    have kk13 : T13.heap.size ≤ T13.heap.size := Nat.le_refl _
    have hZ := hZ13
    have hown := ho13
    exact own_retF X13 hx hS13 (by rw [e13]; exact kk13) (by rw [hh, e13]; exact C13.trans (CHv.at X13 hZ hEL C13.1)) Bd.returns Bd.notSynchronized rfl (Or.inr (Or.inr (Or.inr (Or.inr ⟨rfl, rfl, rfl⟩)))) (hb hby d1_40) (by rw [e13]; exact ⟨M13, KK13, _, rfl⟩) (by decide) (by decide)
  ·
    show own_F _ _ _ _ _ _ _ _ _ (s₁.setTop (mkF m 0 #[.val (.int (1 : Int32)), .val (.int x1), .val (.int x2), .unset] []))
    refine own_goF (fun _ k => XS.iloadN X0.here hx rfl (hb hby d1_0) rfl k) ?_
    show own_F _ _ _ _ _ _ _ _ _ (s₁.setTop (mkF m 1 #[.val (.int (1 : Int32)), .val (.int x1), .val (.int x2), .unset] [(.int (1 : Int32))]))
    refine own_goF (fun _ k => XS.ifNo X0.here hx rfl (hb hby d1_1) rfl (by decide) k) ?_
    show own_F _ _ _ _ _ _ _ _ _ (s₁.setTop (mkF m 4 #[.val (.int (1 : Int32)), .val (.int x1), .val (.int x2), .unset] []))
    refine own_goF (fun _ k => XT.iconstV X0.here hx rfl (2 : Int32) (hb hby d1_4) (by decide) k) ?_
    show own_F _ _ _ _ _ _ _ _ _ (s₁.setTop (mkF m 5 #[.val (.int (1 : Int32)), .val (.int x1), .val (.int x2), .unset] [(.int (2 : Int32))]))
    obtain ⟨T14, h14, k14, X14, e14, E14, A14, B14, st14⟩ := newPE X0 hx hZ (hw _ (List.mem_of_getElem? (i := 4) rfl)) e0 (g := (mkF m 5 #[.val (.int (1 : Int32)), .val (.int x1), .val (.int x2), .unset] [(.int (2 : Int32))])) rfl (hb hby d1_5) rfl (by decide) (cap := 2) (by decide) (by decide) (by decide) (by decide) (ad := "[C") (by decide)
    obtain ⟨ar, g14⟩ : ∃ z, z = h0.size := ⟨_, rfl⟩
    rw [← g14] at A14 B14 st14
    have w14 : n0 ≤ ar := by rw [g14]; exact Z0
    have kz14 : h0.size ≤ ar := by rw [g14]; exact KK.1
    have v14 : Arv Z h14 ar k14 .char (2 : Int32) [(.int 0), (.int 0)] (.int 0) := own_arvNew (n := 2) A14 (by decide)
    have f14_0 := SC.ext E14
    have C14 := C0.trans (CHr.ext E14 C0.1)
    have kk14 := Nat.le_trans kk0 E14.1
    have K14 := KK.ext E14
    have Z14 := Nat.le_trans Z0 E14.1
    refine own_goF st14 ?_
    show own_F _ _ _ _ _ _ _ _ _ (T14.setTop (mkF m 7 #[.val (.int (1 : Int32)), .val (.int x1), .val (.int x2), .unset] [(.ref ar)]))
    refine own_goF (fun _ k => XS.dup X14.here hx rfl (hb hby d1_7) rfl rfl k) ?_
    show own_F _ _ _ _ _ _ _ _ _ (T14.setTop (mkF m 8 #[.val (.int (1 : Int32)), .val (.int x1), .val (.int x2), .unset] [(.ref ar), (.ref ar)]))
    refine own_goF (fun _ k => XT.iconstV X14.here hx rfl (0 : Int32) (hb hby d1_8) (by decide) k) ?_
    show own_F _ _ _ _ _ _ _ _ _ (T14.setTop (mkF m 9 #[.val (.int (1 : Int32)), .val (.int x1), .val (.int x2), .unset] [(.int (0 : Int32)), (.ref ar), (.ref ar)]))
    refine own_goF (fun _ k => XS.iloadN X14.here hx rfl (hb hby d1_9) rfl k) ?_
    show own_F _ _ _ _ _ _ _ _ _ (T14.setTop (mkF m 10 #[.val (.int (1 : Int32)), .val (.int x1), .val (.int x2), .unset] [(.int x1), (.int (0 : Int32)), (.ref ar), (.ref ar)]))
    refine own_goF (fun _ k => XT.sipushV X14.here hx rfl (255 : Int32) (hb hby d1_10) (by decide) k) ?_
    show own_F _ _ _ _ _ _ _ _ _ (T14.setTop (mkF m 13 #[.val (.int (1 : Int32)), .val (.int x1), .val (.int x2), .unset] [(.int (255 : Int32)), (.int x1), (.int (0 : Int32)), (.ref ar), (.ref ar)]))
    refine own_goF (fun _ k => XS.iand X14.here hx rfl (hb hby d1_13) rfl k) ?_
    show own_F _ _ _ _ _ _ _ _ _ (T14.setTop (mkF m 14 #[.val (.int (1 : Int32)), .val (.int x1), .val (.int x2), .unset] [(.int (x1 &&& (255 : Int32))), (.int (0 : Int32)), (.ref ar), (.ref ar)]))
    refine own_goF (fun _ k => XT.i2c X14.here hx rfl (hb hby d1_14) rfl k) ?_
    show own_F _ _ _ _ _ _ _ _ _ (T14.setTop (mkF m 15 #[.val (.int (1 : Int32)), .val (.int x1), .val (.int x2), .unset] [(.int ((x1 &&& (255 : Int32))).toUInt32.toUInt16.toUInt32.toInt32), (.int (0 : Int32)), (.ref ar), (.ref ar)]))
    obtain ⟨c0, h_c0⟩ : ∃ z, z = ((x1 &&& (255 : Int32))).toUInt32.toUInt16.toUInt32.toInt32 := ⟨_, rfl⟩
    rw [← h_c0]
    show own_F _ _ _ _ _ _ _ _ _ (T14.setTop (mkF m 15 #[.val (.int (1 : Int32)), .val (.int x1), .val (.int x2), .unset] [(.int c0), (.int (0 : Int32)), (.ref ar), (.ref ar)]))
    have b0 : 0 ≤ c0.toInt ∧ c0.toInt ≤ 255 := by rw [h_c0]; exact own_mask _
    have nc0 := own_narC b0.1 b0.2
    have t0 := own_nlt b0.2
    obtain ⟨T15, h15, X15, e15, W15, v15, st15⟩ := own_stC X14 hx hZ e14 v14 (j := (0 : Int32)) 0 (by decide) (by simp) (by decide) (g := (mkF m 15 #[.val (.int (1 : Int32)), .val (.int x1), .val (.int x2), .unset] [(.int c0), (.int (0 : Int32)), (.ref ar), (.ref ar)])) rfl rfl (hb hby d1_15)
    rw [nc0] at v15
    replace v15 : Arv Z h15 ar k14 .char (2 : Int32) [.int c0, (.int 0)] (.int 0) := v15
    have sa15 := (Safe.exa (EL := own_EL) (State.Warmed39.alike hZ) B14 (by decide) (by decide))
    have f15_0 := f14_0.wr W15
    have f15_3 := B14.wr W15
    have f15_4 := Safe.wr W15 sa15 C14.1 sa15
    have C15 := C14.trans (CHr.wr W15 sa15 C14.1)
    have kk15 := Nat.le_trans kk14 (Nat.le_of_eq W15.size.symm)
    have Z15 : n0 ≤ h15.size := by rw [W15.size]; exact Z14
    have N15 := Fr.snoc X15 N0 w14
    have K15 := K14.wr W15 (Or.inr kz14)
    refine own_goF st15 ?_
    show own_F _ _ _ _ _ _ _ _ _ (T15.setTop (mkF m 16 #[.val (.int (1 : Int32)), .val (.int x1), .val (.int x2), .unset] [(.ref ar)]))
    refine own_goF (fun _ k => XS.dup X15.here hx rfl (hb hby d1_16) rfl rfl k) ?_
    show own_F _ _ _ _ _ _ _ _ _ (T15.setTop (mkF m 17 #[.val (.int (1 : Int32)), .val (.int x1), .val (.int x2), .unset] [(.ref ar), (.ref ar)]))
    refine own_goF (fun _ k => XT.iconstV X15.here hx rfl (1 : Int32) (hb hby d1_17) (by decide) k) ?_
    show own_F _ _ _ _ _ _ _ _ _ (T15.setTop (mkF m 18 #[.val (.int (1 : Int32)), .val (.int x1), .val (.int x2), .unset] [(.int (1 : Int32)), (.ref ar), (.ref ar)]))
    refine own_goF (fun _ k => XS.iloadN X15.here hx rfl (hb hby d1_18) rfl k) ?_
    show own_F _ _ _ _ _ _ _ _ _ (T15.setTop (mkF m 19 #[.val (.int (1 : Int32)), .val (.int x1), .val (.int x2), .unset] [(.int x2), (.int (1 : Int32)), (.ref ar), (.ref ar)]))
    refine own_goF (fun _ k => XT.sipushV X15.here hx rfl (255 : Int32) (hb hby d1_19) (by decide) k) ?_
    show own_F _ _ _ _ _ _ _ _ _ (T15.setTop (mkF m 22 #[.val (.int (1 : Int32)), .val (.int x1), .val (.int x2), .unset] [(.int (255 : Int32)), (.int x2), (.int (1 : Int32)), (.ref ar), (.ref ar)]))
    refine own_goF (fun _ k => XS.iand X15.here hx rfl (hb hby d1_22) rfl k) ?_
    show own_F _ _ _ _ _ _ _ _ _ (T15.setTop (mkF m 23 #[.val (.int (1 : Int32)), .val (.int x1), .val (.int x2), .unset] [(.int (x2 &&& (255 : Int32))), (.int (1 : Int32)), (.ref ar), (.ref ar)]))
    refine own_goF (fun _ k => XT.i2c X15.here hx rfl (hb hby d1_23) rfl k) ?_
    show own_F _ _ _ _ _ _ _ _ _ (T15.setTop (mkF m 24 #[.val (.int (1 : Int32)), .val (.int x1), .val (.int x2), .unset] [(.int ((x2 &&& (255 : Int32))).toUInt32.toUInt16.toUInt32.toInt32), (.int (1 : Int32)), (.ref ar), (.ref ar)]))
    obtain ⟨c1, h_c1⟩ : ∃ z, z = ((x2 &&& (255 : Int32))).toUInt32.toUInt16.toUInt32.toInt32 := ⟨_, rfl⟩
    rw [← h_c1]
    show own_F _ _ _ _ _ _ _ _ _ (T15.setTop (mkF m 24 #[.val (.int (1 : Int32)), .val (.int x1), .val (.int x2), .unset] [(.int c1), (.int (1 : Int32)), (.ref ar), (.ref ar)]))
    have b1 : 0 ≤ c1.toInt ∧ c1.toInt ≤ 255 := by rw [h_c1]; exact own_mask _
    have nc1 := own_narC b1.1 b1.2
    have t1 := own_nlt b1.2
    obtain ⟨T16, h16, X16, e16, W16, v16, st16⟩ := own_stC X15 hx hZ e15 v15 (j := (1 : Int32)) 1 (by decide) (by simp) (by decide) (g := (mkF m 24 #[.val (.int (1 : Int32)), .val (.int x1), .val (.int x2), .unset] [(.int c1), (.int (1 : Int32)), (.ref ar), (.ref ar)])) rfl rfl (hb hby d1_24)
    rw [nc1] at v16
    replace v16 : Arv Z h16 ar k14 .char (2 : Int32) [.int c0, .int c1] (.int 0) := v16
    have sa16 := f15_4
    have f16_0 := f15_0.wr W16
    have f16_3 := f15_3.wr W16
    have f16_4 := Safe.wr W16 sa16 C15.1 sa16
    have C16 := C15.trans (CHr.wr W16 sa16 C15.1)
    have kk16 := Nat.le_trans kk15 (Nat.le_of_eq W16.size.symm)
    have Z16 : n0 ≤ h16.size := by rw [W16.size]; exact Z15
    have N16 := Fr.snoc X16 N15 w14
    have K16 := K15.wr W16 (Or.inr kz14)
    refine own_goF st16 ?_
    show own_F _ _ _ _ _ _ _ _ _ (T16.setTop (mkF m 25 #[.val (.int (1 : Int32)), .val (.int x1), .val (.int x2), .unset] [(.ref ar)]))
    refine own_goF (fun _ k => XS.goto X16.here hx rfl (pc0 := 25) (pc' := 31) rfl (hb hby d1_25) (by decide) (by decide) k) ?_
    show own_F _ _ _ _ _ _ _ _ _ (T16.setTop (mkF m 31 #[.val (.int (1 : Int32)), .val (.int x1), .val (.int x2), .unset] [(.ref ar)]))
    refine own_goF (fun _ k => XS.astoreN X16.here hx rfl (hb hby d1_31) rfl rfl (l' := #[.val (.int (1 : Int32)), .val (.int x1), .val (.int x2), .val (.ref ar)]) rfl k) ?_
    show own_F _ _ _ _ _ _ _ _ _ (T16.setTop (mkF m 32 #[.val (.int (1 : Int32)), .val (.int x1), .val (.int x2), .val (.ref ar)] []))
    obtain ⟨T17, h17, X17, e17, E17, A17, D17, -, st17⟩ := newO X16 hx hZ hown (hw _ (List.mem_of_getElem? (i := 5) rfl)) (hw _ (List.mem_of_getElem? (i := 6) rfl)) (hw _ (List.mem_of_getElem? (i := 7) rfl)) e16 (g := (mkF m 32 #[.val (.int (1 : Int32)), .val (.int x1), .val (.int x2), .val (.ref ar)] [])) rfl (hb hby d1_32) (by decide) (by decide)
    obtain ⟨ax, g17⟩ : ∃ z, z = h16.size := ⟨_, rfl⟩
    rw [← g17] at A17 D17 st17
    have ne17_1 : ar ≠ ax := by rw [g17]; exact Nat.ne_of_lt f16_3.lt
    have w17 : n0 ≤ ax := by rw [g17]; exact Z16
    have kz17 : h0.size ≤ ax := by rw [g17]; exact K16.1
    have f17_value : Fld Z h17 ax "java/lang/String" "value" "[B" .null := D17 (Or.inr (hw _ (List.mem_of_getElem? (i := 20) rfl))) (ty := (.array .byte)) (by decide +kernel)
    have f17_coder : Fld Z h17 ax "java/lang/String" "coder" "B" (.int (0 : Int32)) := D17 (Or.inr (hw _ (List.mem_of_getElem? (i := 21) rfl))) (ty := .byte) (by decide +kernel)
    have f17_0 := f16_0.ext E17
    have f17_3 := f16_3.ext E17
    have f17_4 := Safe.ext E17 C16.1 f16_4
    have f17_5 := v16.ext E17
    have C17 := C16.trans (CHr.ext E17 C16.1)
    have kk17 := Nat.le_trans kk16 E17.1
    have K17 := K16.ext E17
    have Z17 := Nat.le_trans Z16 E17.1
    refine own_goF st17 ?_
    show own_F _ _ _ _ _ _ _ _ _ (T17.setTop (mkF m 35 #[.val (.int (1 : Int32)), .val (.int x1), .val (.int x2), .val (.ref ar)] [(.ref ax)]))
    have sfx := own_safe (EL := own_EL) (State.Warmed39.alike hZ) f17_value A17
    refine own_goF (fun _ k => XS.dup X17.here hx rfl (hb hby d1_35) rfl rfl k) ?_
    show own_F _ _ _ _ _ _ _ _ _ (T17.setTop (mkF m 36 #[.val (.int (1 : Int32)), .val (.int x1), .val (.int x2), .val (.ref ar)] [(.ref ax), (.ref ax)]))
    refine own_goF (fun _ k => XS.aloadN X17.here hx rfl (hb hby d1_36) rfl rfl k) ?_
    show own_F _ _ _ _ _ _ _ _ _ (T17.setTop (mkF m 37 #[.val (.int (1 : Int32)), .val (.int x1), .val (.int x2), .val (.ref ar)] [(.ref ar), (.ref ax), (.ref ax)]))
    obtain ⟨v18, T18, L18, X18, hQ18, st18⟩ := own_callI X17 hx hZ (rm := ({ frames := 3, cells := 1, slots := 2, locals := 60 } : Room)) (W := 1) (b := ax) (argsL := [(.ref ar)]) (rest := [(.ref ax)]) (y := (⟨"java/lang/String", "<init>", "([C)V"⟩ : MethodName)) hown rfl (hw _ (List.mem_of_getElem? (i := 8) rfl)) (hw _ (List.mem_of_getElem? (i := 9) rfl)) (hw _ (List.mem_of_getElem? (i := 7) rfl)) (hw _ (List.mem_of_getElem? (i := 10) rfl)) (by decide) (rmJ2 l Z a0 hw ax ar k14 c0 c1 cs h17 n0 Z17 t0 t1 A17 f17_value f17_coder w17 f17_5 ne17_1 f17_0 ncs) e17 (by decide) (by decide) (by decide) (by decide) (g := (mkF m 37 #[.val (.int (1 : Int32)), .val (.int x1), .val (.int x2), .val (.ref ar)] [(.ref ar), (.ref ax), (.ref ax)])) rfl (by rw [hml]; rfl) (lenOf pd_4 rfl) rfl (Nat.le_of_ble_eq_true rfl) (hb hby d1_37)
    obtain ⟨rfl, N18, K18⟩ := hQ18
    refine own_goF st18 ?_
    show own_F _ _ _ _ _ _ _ _ _ (T18.setTop (mkF m 40 #[.val (.int (1 : Int32)), .val (.int x1), .val (.int x2), .val (.ref ar)] [(.ref ax)]))
    have M18 := Fr.app N16 N18
    have e18 : T18.heap = T18.heap := rfl
    have f18_2 := f17_3.keep K18
    have f18_3 := Safe.keep K18 (sfS sfx sf0) C17.1 f17_4
    have f18_4 := f17_5.keep K18 (ninS ne17_1 nin0)
    have f18_10 := A17.keep K18
    have f18_11 := Safe.keep K18 (sfS sfx sf0) C17.1 sfx
    have C18 := C17.trans (CHr.keep K18 (sfS sfx sf0) C17.1)
    have kk18 := Nat.le_trans kk17 K18.1
    have Z18 := Nat.le_trans Z17 K18.1
    have KK18 := K17.trans K18 (allS (Or.inr kz17) all0)
    exact own_retF X18 hx hS0 (by rw [e18]; exact kk18) (by rw [hh, e18]; exact C18.trans (CHv.at X18 hZ hEL C18.1)) Bd.returns Bd.notSynchronized rfl (Or.inr (Or.inr (Or.inr (Or.inr ⟨rfl, rfl, rfl⟩)))) (hb hby d1_40) (by rw [e18]; exact ⟨M18, KK18, _, rfl⟩) (by decide) (by decide)
theorem d6_0 : decode jdk_30_method_1_code 0 = .ok (.aload_n 0, 1) := by decide +kernel
theorem d6_1 : decode jdk_30_method_1_code 1 = .ok (.invokespecial 1, 3) := by decide +kernel
theorem d6_4 : decode jdk_30_method_1_code 4 = .ok (.return_, 1) := by decide +kernel
def Qrm6 (a : Addr) (Z : State) (h0 : Heap) (n0 : Nat) (v : Option Value) (h : Heap) (L : List Loc) : Prop := v = none ∧ Fr n0 L ∧ h = h0
set_option maxRecDepth 65536 in
set_option maxHeartbeats 40000000 in
theorem rm6 (l : Launch) (Z : State) (a0 : Array Value) (hw : ∀ d ∈ tables_1, d.before a0 Z = true) (a : Addr) (h0 : Heap) (n0 : Nat) (Z0 : n0 ≤ h0.size) :
    MetFree l (⟨"java/lang/Record", "<init>", "()V"⟩ : MethodName) (head1 (Jvm.Cond.code (⟨"java/lang/Record", "<init>", "()V"⟩ : MethodName) jdk_30_method_1_code 1 none :: []) ({ frames := 1, cells := 0, slots := 0, locals := 12 } : Room)) (fun ar_ U => ar_ = #[(.ref a)] ∧ Z.Warmed39 U.vm ∧ U.heap = h0) (fun _ _ _ _ _ => True) (fun _ U o U' => ∃ v L, o = .returned v ∧ Qrm6 a Z h0 n0 v U'.heap L ∧ FrameEnd U o U' L ({ frames := 1, cells := 0, slots := 0, locals := 12 } : Room).cells ({ frames := 1, cells := 0, slots := 0, locals := 12 } : Room).slots) := by
  refine MetFree.of_bodySF (plainFor_of_name (by first | (simp [plainName, overriddenIn]; done) | decide +kernel)) hisR ?_
  intro p e s m args below meth c s₁ Bd hml0 hP hK
  obtain ⟨rfl, hZ, hh⟩ := hP
  have hx := Bd.exec
  have hby := Bd.bytes
  have hml : c.maxLocals = 1 := hml0
  have hown : s.vm.findClass "java/lang/Record" = some m.cls := findClass_of_methodNamed Bd.named
  have hnm := (name_of_methodNamed Bd.named Bd.method).1
  have X0 : Stand p l e ({ frames := 1, cells := 0, slots := 0, locals := 12 } : Room) s m #[(.ref a)] below meth c s₁ [] 0 0 := Stand.of_body Bd
  have e0 : s₁.heap = h0 := by rw [← hh, Bd.state]; rfl
  have N0 := Fr.nil n0
  show own_E p e below s (Qrm6 a Z h0 n0) ({ frames := 1, cells := 0, slots := 0, locals := 12 } : Room).cells ({ frames := 1, cells := 0, slots := 0, locals := 12 } : Room).slots (s₁.setTop (entryFrame m #[(.ref a)] 1))
  refine own_go (fun t k => castTop (show _ = (mkF m 0 #[.val (.ref a)] []) from by first | (simp [entryFrame, mkF, argsToLocals, Value.category]; done) | rfl) k) ?_
  show own_E _ _ _ _ _ _ _ (s₁.setTop (mkF m 0 #[.val (.ref a)] []))
  refine own_go (fun _ k => XS.aloadN X0.here hx rfl (hb hby d6_0) rfl rfl k) ?_
  show own_E _ _ _ _ _ _ _ (s₁.setTop (mkF m 1 #[.val (.ref a)] [(.ref a)]))
  obtain ⟨T1, X1, e1, st1⟩ := initO X0 hx hZ hown (hw _ (List.mem_of_getElem? (i := 37) rfl)) (hw _ (List.mem_of_getElem? (i := 16) rfl)) (hw _ (List.mem_of_getElem? (i := 17) rfl)) e0 (g := (mkF m 1 #[.val (.ref a)] [(.ref a)])) rfl (by rw [hml]; rfl) rfl (hb hby d6_1) (by decide) (W := 0) (Nat.le_of_ble_eq_true rfl) (by decide)
  refine own_go st1 ?_
  show own_E _ _ _ _ _ _ _ (T1.setTop (mkF m 4 #[.val (.ref a)] []))
  exact own_ret0 X1 hx Bd.returns Bd.notSynchronized (hb hby d6_4) (by rw [e1]; exact ⟨rfl, N0, rfl⟩) (by decide) (by decide)
theorem d5_0 : decode prog_25_method_1_code 0 = .ok (.aload_n 0, 1) := by decide +kernel
theorem d5_1 : decode prog_25_method_1_code 1 = .ok (.invokespecial 1, 3) := by decide +kernel
theorem d5_4 : decode prog_25_method_1_code 4 = .ok (.aload_n 0, 1) := by decide +kernel
theorem d5_5 : decode prog_25_method_1_code 5 = .ok (.aload_n 1, 1) := by decide +kernel
theorem d5_6 : decode prog_25_method_1_code 6 = .ok (.putfield 7, 3) := by decide +kernel
theorem d5_9 : decode prog_25_method_1_code 9 = .ok (.aload_n 0, 1) := by decide +kernel
theorem d5_10 : decode prog_25_method_1_code 10 = .ok (.aload_n 2, 1) := by decide +kernel
theorem d5_11 : decode prog_25_method_1_code 11 = .ok (.putfield 13, 3) := by decide +kernel
theorem d5_14 : decode prog_25_method_1_code 14 = .ok (.return_, 1) := by decide +kernel
theorem d7_0 : decode prog_25_method_2_code 0 = .ok (.aload_n 0, 1) := by decide +kernel
theorem d7_1 : decode prog_25_method_2_code 1 = .ok (.getfield 7, 3) := by decide +kernel
theorem d7_4 : decode prog_25_method_2_code 4 = .ok (.ifnonnull 10, 3) := by decide +kernel
theorem d7_7 : decode prog_25_method_2_code 7 = .ok (.aload_n 0, 1) := by decide +kernel
theorem d7_8 : decode prog_25_method_2_code 8 = .ok (.getfield 13, 3) := by decide +kernel
theorem d7_11 : decode prog_25_method_2_code 11 = .ok (.goto 7, 3) := by decide +kernel
theorem d7_14 : decode prog_25_method_2_code 14 = .ok (.aload_n 0, 1) := by decide +kernel
theorem d7_15 : decode prog_25_method_2_code 15 = .ok (.getfield 7, 3) := by decide +kernel
theorem d7_18 : decode prog_25_method_2_code 18 = .ok (.areturn, 1) := by decide +kernel
def QrmAN (a : Addr) (r : Addr) (Z : State) (h0 : Heap) (n0 : Nat) (v : Option Value) (h : Heap) (L : List Loc) : Prop := v = none ∧ Fr n0 L ∧ Keep h0 h [a] ∧ Exa Z h a "com/example/arborkey/arborkey/CommandLine$Argument" ∧ Fld Z h a "com/example/arborkey/arborkey/CommandLine$Argument" "text" "Ljava/lang/String;" .null ∧ Fld Z h a "com/example/arborkey/arborkey/CommandLine$Argument" "platform" "Ljava/lang/String;" (.ref r)
set_option maxRecDepth 65536 in
set_option maxHeartbeats 40000000 in
theorem rmAN (l : Launch) (Z : State) (a0 : Array Value) (hw : ∀ d ∈ tables_1, d.before a0 Z = true) (a : Addr) (r : Addr) (h0 : Heap) (n0 : Nat) (Z0 : n0 ≤ h0.size) (E : Exa Z h0 a "com/example/arborkey/arborkey/CommandLine$Argument") (F : Fld Z h0 a "com/example/arborkey/arborkey/CommandLine$Argument" "text" "Ljava/lang/String;" .null) (G : Fld Z h0 a "com/example/arborkey/arborkey/CommandLine$Argument" "platform" "Ljava/lang/String;" .null) (ga : n0 ≤ a) :
    MetFree l (⟨"com/example/arborkey/arborkey/CommandLine$Argument", "<init>", "(Ljava/lang/String;Ljava/lang/String;)V"⟩ : MethodName) (head1 (Jvm.Cond.code (⟨"com/example/arborkey/arborkey/CommandLine$Argument", "<init>", "(Ljava/lang/String;Ljava/lang/String;)V"⟩ : MethodName) prog_25_method_1_code 3 none :: []) ({ frames := 2, cells := 0, slots := 0, locals := 24 } : Room)) (fun ar_ U => ar_ = #[(.ref a), .null, (.ref r)] ∧ Z.Warmed39 U.vm ∧ U.heap = h0) (fun _ _ _ _ _ => True) (fun _ U o U' => ∃ v L, o = .returned v ∧ QrmAN a r Z h0 n0 v U'.heap L ∧ FrameEnd U o U' L ({ frames := 2, cells := 0, slots := 0, locals := 24 } : Room).cells ({ frames := 2, cells := 0, slots := 0, locals := 24 } : Room).slots) := by
  refine MetFree.of_bodySF (plainFor_of_name (by first | (simp [plainName, overriddenIn]; done) | decide +kernel)) hisR ?_
  intro p e s m args below meth c s₁ Bd hml0 hP hK
  obtain ⟨rfl, hZ, hh⟩ := hP
  have hx := Bd.exec
  have hby := Bd.bytes
  have hml : c.maxLocals = 3 := hml0
  have hown : s.vm.findClass "com/example/arborkey/arborkey/CommandLine$Argument" = some m.cls := findClass_of_methodNamed Bd.named
  have hnm := (name_of_methodNamed Bd.named Bd.method).1
  have X0 : Stand p l e ({ frames := 2, cells := 0, slots := 0, locals := 24 } : Room) s m #[(.ref a), .null, (.ref r)] below meth c s₁ [] 0 0 := Stand.of_body Bd
  have e0 : s₁.heap = h0 := by rw [← hh, Bd.state]; rfl
  have N0 := Fr.nil n0
  show own_E p e below s (QrmAN a r Z h0 n0) ({ frames := 2, cells := 0, slots := 0, locals := 24 } : Room).cells ({ frames := 2, cells := 0, slots := 0, locals := 24 } : Room).slots (s₁.setTop (entryFrame m #[(.ref a), .null, (.ref r)] 3))
  refine own_go (fun t k => castTop (show _ = (mkF m 0 #[.val (.ref a), .val .null, .val (.ref r)] []) from by first | (simp [entryFrame, mkF, argsToLocals, Value.category]; done) | rfl) k) ?_
  show own_E _ _ _ _ _ _ _ (s₁.setTop (mkF m 0 #[.val (.ref a), .val .null, .val (.ref r)] []))
  have KK := Keep.refl h0 [a]
  refine own_go (fun _ k => XS.aloadN X0.here hx rfl (hb hby d5_0) rfl rfl k) ?_
  show own_E _ _ _ _ _ _ _ (s₁.setTop (mkF m 1 #[.val (.ref a), .val .null, .val (.ref r)] [(.ref a)]))
  obtain ⟨v11, T11, L11, X11, hQ11, st11⟩ := own_callI X0 hx hZ (rm := ({ frames := 1, cells := 0, slots := 0, locals := 12 } : Room)) (W := 0) (b := a) (argsL := []) (rest := []) (y := (⟨"java/lang/Record", "<init>", "()V"⟩ : MethodName)) hown rfl (hw _ (List.mem_of_getElem? (i := 32) rfl)) (hw _ (List.mem_of_getElem? (i := 33) rfl)) (hw _ (List.mem_of_getElem? (i := 35) rfl)) (hw _ (List.mem_of_getElem? (i := 36) rfl)) (by decide) (rm6 l Z a0 hw a h0 n0 Z0) e0 (by decide) (by decide) (by decide) (by decide) (g := (mkF m 1 #[.val (.ref a), .val .null, .val (.ref r)] [(.ref a)])) rfl (by rw [hml]; rfl) (lenOf pd_5 rfl) rfl (Nat.le_of_ble_eq_true rfl) (hb hby d5_1)
  obtain ⟨rfl, N11, e11⟩ := hQ11
  refine own_go st11 ?_
  show own_E _ _ _ _ _ _ _ (T11.setTop (mkF m 4 #[.val (.ref a), .val .null, .val (.ref r)] []))
  have M11 := Fr.app N0 N11
  refine own_go (fun _ k => XS.aloadN X11.here hx rfl (hb hby d5_4) rfl rfl k) ?_
  show own_E _ _ _ _ _ _ _ (T11.setTop (mkF m 5 #[.val (.ref a), .val .null, .val (.ref r)] [(.ref a)]))
  refine own_go (fun _ k => XS.aloadN X11.here hx rfl (hb hby d5_5) rfl rfl k) ?_
  show own_E _ _ _ _ _ _ _ (T11.setTop (mkF m 6 #[.val (.ref a), .val .null, .val (.ref r)] [.null, (.ref a)]))
  obtain ⟨T12, h12, X12, e12, W12, st12⟩ := putF X11 hx hZ hown (host := "") (Or.inl (hw _ (List.mem_of_getElem? (i := 38) rfl))) Via.refl e11 F E (Or.inr ⟨(hw _ (List.mem_of_getElem? (i := 39) rfl)), rfl, hnm⟩) (hw _ (List.mem_of_getElem? (i := 27) rfl)) (ty := (.object "java/lang/String")) (by decide +kernel) rfl rfl (g := (mkF m 6 #[.val (.ref a), .val .null, .val (.ref r)] [.null, (.ref a)])) rfl rfl (hb hby d5_6)
  have f12_0 := F.same W12
  have f12_1 := G.other W12 (Or.inr (slot_ne (Or.inr (hw _ (List.mem_of_getElem? (i := 41) rfl))) (Or.inr (hw _ (List.mem_of_getElem? (i := 39) rfl))) (by decide) (t := (.object "java/lang/String")) (t' := (.object "java/lang/String")) (by decide +kernel) (by decide +kernel)))
  have f12_2 := E.wr W12
  have Z12 : n0 ≤ h12.size := by rw [W12.size]; exact Z0
  have N12 := Fr.snoc X12 M11 ga
  have K12 := KK.wr W12 (Or.inl (by simp))
  refine own_go st12 ?_
  show own_E _ _ _ _ _ _ _ (T12.setTop (mkF m 9 #[.val (.ref a), .val .null, .val (.ref r)] []))
  refine own_go (fun _ k => XS.aloadN X12.here hx rfl (hb hby d5_9) rfl rfl k) ?_
  show own_E _ _ _ _ _ _ _ (T12.setTop (mkF m 10 #[.val (.ref a), .val .null, .val (.ref r)] [(.ref a)]))
  refine own_go (fun _ k => XS.aloadN X12.here hx rfl (hb hby d5_10) rfl rfl k) ?_
  show own_E _ _ _ _ _ _ _ (T12.setTop (mkF m 11 #[.val (.ref a), .val .null, .val (.ref r)] [(.ref r), (.ref a)]))
  obtain ⟨T13, h13, X13, e13, W13, st13⟩ := putF X12 hx hZ hown (host := "") (Or.inl (hw _ (List.mem_of_getElem? (i := 40) rfl))) Via.refl e12 f12_1 f12_2 (Or.inr ⟨(hw _ (List.mem_of_getElem? (i := 41) rfl)), rfl, hnm⟩) (hw _ (List.mem_of_getElem? (i := 27) rfl)) (ty := (.object "java/lang/String")) (by decide +kernel) rfl rfl (g := (mkF m 11 #[.val (.ref a), .val .null, .val (.ref r)] [(.ref r), (.ref a)])) rfl rfl (hb hby d5_11)
  have f13_0 := f12_0.other W13 (Or.inr (slot_ne (Or.inr (hw _ (List.mem_of_getElem? (i := 39) rfl))) (Or.inr (hw _ (List.mem_of_getElem? (i := 41) rfl))) (by decide) (t := (.object "java/lang/String")) (t' := (.object "java/lang/String")) (by decide +kernel) (by decide +kernel)))
  have f13_1 := f12_1.same W13
  have f13_2 := f12_2.wr W13
  have Z13 : n0 ≤ h13.size := by rw [W13.size]; exact Z12
  have N13 := Fr.snoc X13 N12 ga
  have K13 := K12.wr W13 (Or.inl (by simp))
  refine own_go st13 ?_
  show own_E _ _ _ _ _ _ _ (T13.setTop (mkF m 14 #[.val (.ref a), .val .null, .val (.ref r)] []))
  exact own_ret0 X13 hx Bd.returns Bd.notSynchronized (hb hby d5_14) (by rw [e13]; exact ⟨rfl, N13, K13, f13_2, f13_0, f13_1⟩) (by decide) (by decide)
def QrmSN (a : Addr) (r : Addr) (Z : State) (h0 : Heap) (n0 : Nat) (v : Option Value) (h : Heap) (L : List Loc) : Prop := v = some (.ref r) ∧ Fr n0 L ∧ h = h0
set_option maxRecDepth 65536 in
set_option maxHeartbeats 40000000 in
theorem rmSN (l : Launch) (Z : State) (a0 : Array Value) (hw : ∀ d ∈ tables_1, d.before a0 Z = true) (a : Addr) (r : Addr) (h0 : Heap) (n0 : Nat) (Z0 : n0 ≤ h0.size) (F : Fld Z h0 a "com/example/arborkey/arborkey/CommandLine$Argument" "text" "Ljava/lang/String;" .null) (G : Fld Z h0 a "com/example/arborkey/arborkey/CommandLine$Argument" "platform" "Ljava/lang/String;" (.ref r)) :
    MetFree l (⟨"com/example/arborkey/arborkey/CommandLine$Argument", "shown", "()Ljava/lang/String;"⟩ : MethodName) (head1 (Jvm.Cond.code (⟨"com/example/arborkey/arborkey/CommandLine$Argument", "shown", "()Ljava/lang/String;"⟩ : MethodName) prog_25_method_2_code 1 (some (.object "java/lang/String")) :: []) ({ frames := 0, cells := 0, slots := 0, locals := 0 } : Room)) (fun ar_ U => ar_ = #[(.ref a)] ∧ Z.Warmed39 U.vm ∧ U.heap = h0) (fun _ _ _ _ _ => True) (fun _ U o U' => ∃ v L, o = .returned v ∧ QrmSN a r Z h0 n0 v U'.heap L ∧ FrameEnd U o U' L ({ frames := 0, cells := 0, slots := 0, locals := 0 } : Room).cells ({ frames := 0, cells := 0, slots := 0, locals := 0 } : Room).slots) := by
  refine MetFree.of_bodySF (plainFor_of_name (by first | (simp [plainName, overriddenIn]; done) | decide +kernel)) hisR ?_
  intro p e s m args below meth c s₁ Bd hml0 hP hK
  obtain ⟨rfl, hZ, hh⟩ := hP
  have hx := Bd.exec
  have hby := Bd.bytes
  have hml : c.maxLocals = 1 := hml0
  have hown : s.vm.findClass "com/example/arborkey/arborkey/CommandLine$Argument" = some m.cls := findClass_of_methodNamed Bd.named
  have hnm := (name_of_methodNamed Bd.named Bd.method).1
  have X0 : Stand p l e ({ frames := 0, cells := 0, slots := 0, locals := 0 } : Room) s m #[(.ref a)] below meth c s₁ [] 0 0 := Stand.of_body Bd
  have e0 : s₁.heap = h0 := by rw [← hh, Bd.state]; rfl
  have N0 := Fr.nil n0
  show own_E p e below s (QrmSN a r Z h0 n0) ({ frames := 0, cells := 0, slots := 0, locals := 0 } : Room).cells ({ frames := 0, cells := 0, slots := 0, locals := 0 } : Room).slots (s₁.setTop (entryFrame m #[(.ref a)] 1))
  refine own_go (fun t k => castTop (show _ = (mkF m 0 #[.val (.ref a)] []) from by first | (simp [entryFrame, mkF, argsToLocals, Value.category]; done) | rfl) k) ?_
  show own_E _ _ _ _ _ _ _ (s₁.setTop (mkF m 0 #[.val (.ref a)] []))
  refine own_go (fun _ k => XS.aloadN X0.here hx rfl (hb hby d7_0) rfl rfl k) ?_
  show own_E _ _ _ _ _ _ _ (s₁.setTop (mkF m 1 #[.val (.ref a)] [(.ref a)]))
  obtain ⟨T1, X1, e1, st1⟩ := getF X0 hx hZ hown (host := "") (Or.inl (hw _ (List.mem_of_getElem? (i := 38) rfl))) Via.refl e0 F (g := (mkF m 1 #[.val (.ref a)] [(.ref a)])) rfl rfl (hb hby d7_1)
  refine own_go st1 ?_
  show own_E _ _ _ _ _ _ _ (T1.setTop (mkF m 4 #[.val (.ref a)] [.null]))
  refine own_go (fun _ k => XT.ifnonnullNo X1.here hx rfl (hb hby d7_4) rfl k) ?_
  show own_E _ _ _ _ _ _ _ (T1.setTop (mkF m 7 #[.val (.ref a)] []))
  refine own_go (fun _ k => XS.aloadN X1.here hx rfl (hb hby d7_7) rfl rfl k) ?_
  show own_E _ _ _ _ _ _ _ (T1.setTop (mkF m 8 #[.val (.ref a)] [(.ref a)]))
  obtain ⟨T2, X2, e2, st2⟩ := getF X1 hx hZ hown (host := "") (Or.inl (hw _ (List.mem_of_getElem? (i := 40) rfl))) Via.refl e1 G (g := (mkF m 8 #[.val (.ref a)] [(.ref a)])) rfl rfl (hb hby d7_8)
  refine own_go st2 ?_
  show own_E _ _ _ _ _ _ _ (T2.setTop (mkF m 11 #[.val (.ref a)] [(.ref r)]))
  refine own_go (fun _ k => XS.goto X2.here hx rfl (pc0 := 11) (pc' := 18) rfl (hb hby d7_11) (by decide) (by decide) k) ?_
  show own_E _ _ _ _ _ _ _ (T2.setTop (mkF m 18 #[.val (.ref a)] [(.ref r)]))
  exact own_ret X2 hx Bd.returns Bd.notSynchronized rfl (Or.inr (Or.inr (Or.inr (Or.inr ⟨rfl, rfl, rfl⟩)))) (hb hby d7_18) (by rw [e2]; exact ⟨rfl, N0, rfl⟩) (by decide) (by decide)
def QrmAR (a : Addr) (tx : Addr) (r : Addr) (Z : State) (h0 : Heap) (n0 : Nat) (v : Option Value) (h : Heap) (L : List Loc) : Prop := v = none ∧ Fr n0 L ∧ Keep h0 h [a] ∧ Exa Z h a "com/example/arborkey/arborkey/CommandLine$Argument" ∧ Fld Z h a "com/example/arborkey/arborkey/CommandLine$Argument" "text" "Ljava/lang/String;" (.ref tx) ∧ Fld Z h a "com/example/arborkey/arborkey/CommandLine$Argument" "platform" "Ljava/lang/String;" (.ref r)
set_option maxRecDepth 65536 in
set_option maxHeartbeats 40000000 in
theorem rmAR (l : Launch) (Z : State) (a0 : Array Value) (hw : ∀ d ∈ tables_1, d.before a0 Z = true) (a : Addr) (tx : Addr) (r : Addr) (h0 : Heap) (n0 : Nat) (Z0 : n0 ≤ h0.size) (E : Exa Z h0 a "com/example/arborkey/arborkey/CommandLine$Argument") (F : Fld Z h0 a "com/example/arborkey/arborkey/CommandLine$Argument" "text" "Ljava/lang/String;" .null) (G : Fld Z h0 a "com/example/arborkey/arborkey/CommandLine$Argument" "platform" "Ljava/lang/String;" .null) (ga : n0 ≤ a) :
    MetFree l (⟨"com/example/arborkey/arborkey/CommandLine$Argument", "<init>", "(Ljava/lang/String;Ljava/lang/String;)V"⟩ : MethodName) (head1 (Jvm.Cond.code (⟨"com/example/arborkey/arborkey/CommandLine$Argument", "<init>", "(Ljava/lang/String;Ljava/lang/String;)V"⟩ : MethodName) prog_25_method_1_code 3 none :: []) ({ frames := 2, cells := 0, slots := 0, locals := 24 } : Room)) (fun ar_ U => ar_ = #[(.ref a), (.ref tx), (.ref r)] ∧ Z.Warmed39 U.vm ∧ U.heap = h0) (fun _ _ _ _ _ => True) (fun _ U o U' => ∃ v L, o = .returned v ∧ QrmAR a tx r Z h0 n0 v U'.heap L ∧ FrameEnd U o U' L ({ frames := 2, cells := 0, slots := 0, locals := 24 } : Room).cells ({ frames := 2, cells := 0, slots := 0, locals := 24 } : Room).slots) := by
  refine MetFree.of_bodySF (plainFor_of_name (by first | (simp [plainName, overriddenIn]; done) | decide +kernel)) hisR ?_
  intro p e s m args below meth c s₁ Bd hml0 hP hK
  obtain ⟨rfl, hZ, hh⟩ := hP
  have hx := Bd.exec
  have hby := Bd.bytes
  have hml : c.maxLocals = 3 := hml0
  have hown : s.vm.findClass "com/example/arborkey/arborkey/CommandLine$Argument" = some m.cls := findClass_of_methodNamed Bd.named
  have hnm := (name_of_methodNamed Bd.named Bd.method).1
  have X0 : Stand p l e ({ frames := 2, cells := 0, slots := 0, locals := 24 } : Room) s m #[(.ref a), (.ref tx), (.ref r)] below meth c s₁ [] 0 0 := Stand.of_body Bd
  have e0 : s₁.heap = h0 := by rw [← hh, Bd.state]; rfl
  have N0 := Fr.nil n0
  show own_E p e below s (QrmAR a tx r Z h0 n0) ({ frames := 2, cells := 0, slots := 0, locals := 24 } : Room).cells ({ frames := 2, cells := 0, slots := 0, locals := 24 } : Room).slots (s₁.setTop (entryFrame m #[(.ref a), (.ref tx), (.ref r)] 3))
  refine own_go (fun t k => castTop (show _ = (mkF m 0 #[.val (.ref a), .val (.ref tx), .val (.ref r)] []) from by first | (simp [entryFrame, mkF, argsToLocals, Value.category]; done) | rfl) k) ?_
  show own_E _ _ _ _ _ _ _ (s₁.setTop (mkF m 0 #[.val (.ref a), .val (.ref tx), .val (.ref r)] []))
  have KK := Keep.refl h0 [a]
  refine own_go (fun _ k => XS.aloadN X0.here hx rfl (hb hby d5_0) rfl rfl k) ?_
  show own_E _ _ _ _ _ _ _ (s₁.setTop (mkF m 1 #[.val (.ref a), .val (.ref tx), .val (.ref r)] [(.ref a)]))
  obtain ⟨v11, T11, L11, X11, hQ11, st11⟩ := own_callI X0 hx hZ (rm := ({ frames := 1, cells := 0, slots := 0, locals := 12 } : Room)) (W := 0) (b := a) (argsL := []) (rest := []) (y := (⟨"java/lang/Record", "<init>", "()V"⟩ : MethodName)) hown rfl (hw _ (List.mem_of_getElem? (i := 32) rfl)) (hw _ (List.mem_of_getElem? (i := 33) rfl)) (hw _ (List.mem_of_getElem? (i := 35) rfl)) (hw _ (List.mem_of_getElem? (i := 36) rfl)) (by decide) (rm6 l Z a0 hw a h0 n0 Z0) e0 (by decide) (by decide) (by decide) (by decide) (g := (mkF m 1 #[.val (.ref a), .val (.ref tx), .val (.ref r)] [(.ref a)])) rfl (by rw [hml]; rfl) (lenOf pd_5 rfl) rfl (Nat.le_of_ble_eq_true rfl) (hb hby d5_1)
  obtain ⟨rfl, N11, e11⟩ := hQ11
  refine own_go st11 ?_
  show own_E _ _ _ _ _ _ _ (T11.setTop (mkF m 4 #[.val (.ref a), .val (.ref tx), .val (.ref r)] []))
  have M11 := Fr.app N0 N11
  refine own_go (fun _ k => XS.aloadN X11.here hx rfl (hb hby d5_4) rfl rfl k) ?_
  show own_E _ _ _ _ _ _ _ (T11.setTop (mkF m 5 #[.val (.ref a), .val (.ref tx), .val (.ref r)] [(.ref a)]))
  refine own_go (fun _ k => XS.aloadN X11.here hx rfl (hb hby d5_5) rfl rfl k) ?_
  show own_E _ _ _ _ _ _ _ (T11.setTop (mkF m 6 #[.val (.ref a), .val (.ref tx), .val (.ref r)] [(.ref tx), (.ref a)]))
  obtain ⟨T12, h12, X12, e12, W12, st12⟩ := putF X11 hx hZ hown (host := "") (Or.inl (hw _ (List.mem_of_getElem? (i := 38) rfl))) Via.refl e11 F E (Or.inr ⟨(hw _ (List.mem_of_getElem? (i := 39) rfl)), rfl, hnm⟩) (hw _ (List.mem_of_getElem? (i := 27) rfl)) (ty := (.object "java/lang/String")) (by decide +kernel) rfl rfl (g := (mkF m 6 #[.val (.ref a), .val (.ref tx), .val (.ref r)] [(.ref tx), (.ref a)])) rfl rfl (hb hby d5_6)
  have f12_0 := F.same W12
  have f12_1 := G.other W12 (Or.inr (slot_ne (Or.inr (hw _ (List.mem_of_getElem? (i := 41) rfl))) (Or.inr (hw _ (List.mem_of_getElem? (i := 39) rfl))) (by decide) (t := (.object "java/lang/String")) (t' := (.object "java/lang/String")) (by decide +kernel) (by decide +kernel)))
  have f12_2 := E.wr W12
  have Z12 : n0 ≤ h12.size := by rw [W12.size]; exact Z0
  have N12 := Fr.snoc X12 M11 ga
  have K12 := KK.wr W12 (Or.inl (by simp))
  refine own_go st12 ?_
  show own_E _ _ _ _ _ _ _ (T12.setTop (mkF m 9 #[.val (.ref a), .val (.ref tx), .val (.ref r)] []))
  refine own_go (fun _ k => XS.aloadN X12.here hx rfl (hb hby d5_9) rfl rfl k) ?_
  show own_E _ _ _ _ _ _ _ (T12.setTop (mkF m 10 #[.val (.ref a), .val (.ref tx), .val (.ref r)] [(.ref a)]))
  refine own_go (fun _ k => XS.aloadN X12.here hx rfl (hb hby d5_10) rfl rfl k) ?_
  show own_E _ _ _ _ _ _ _ (T12.setTop (mkF m 11 #[.val (.ref a), .val (.ref tx), .val (.ref r)] [(.ref r), (.ref a)]))
  obtain ⟨T13, h13, X13, e13, W13, st13⟩ := putF X12 hx hZ hown (host := "") (Or.inl (hw _ (List.mem_of_getElem? (i := 40) rfl))) Via.refl e12 f12_1 f12_2 (Or.inr ⟨(hw _ (List.mem_of_getElem? (i := 41) rfl)), rfl, hnm⟩) (hw _ (List.mem_of_getElem? (i := 27) rfl)) (ty := (.object "java/lang/String")) (by decide +kernel) rfl rfl (g := (mkF m 11 #[.val (.ref a), .val (.ref tx), .val (.ref r)] [(.ref r), (.ref a)])) rfl rfl (hb hby d5_11)
  have f13_0 := f12_0.other W13 (Or.inr (slot_ne (Or.inr (hw _ (List.mem_of_getElem? (i := 39) rfl))) (Or.inr (hw _ (List.mem_of_getElem? (i := 41) rfl))) (by decide) (t := (.object "java/lang/String")) (t' := (.object "java/lang/String")) (by decide +kernel) (by decide +kernel)))
  have f13_1 := f12_1.same W13
  have f13_2 := f12_2.wr W13
  have Z13 : n0 ≤ h13.size := by rw [W13.size]; exact Z12
  have N13 := Fr.snoc X13 N12 ga
  have K13 := K12.wr W13 (Or.inl (by simp))
  refine own_go st13 ?_
  show own_E _ _ _ _ _ _ _ (T13.setTop (mkF m 14 #[.val (.ref a), .val (.ref tx), .val (.ref r)] []))
  exact own_ret0 X13 hx Bd.returns Bd.notSynchronized (hb hby d5_14) (by rw [e13]; exact ⟨rfl, N13, K13, f13_2, f13_0, f13_1⟩) (by decide) (by decide)
def QrmSR (a : Addr) (tx : Addr) (r : Addr) (Z : State) (h0 : Heap) (n0 : Nat) (v : Option Value) (h : Heap) (L : List Loc) : Prop := v = some (.ref tx) ∧ Fr n0 L ∧ h = h0
set_option maxRecDepth 65536 in
set_option maxHeartbeats 40000000 in
theorem rmSR (l : Launch) (Z : State) (a0 : Array Value) (hw : ∀ d ∈ tables_1, d.before a0 Z = true) (a : Addr) (tx : Addr) (r : Addr) (h0 : Heap) (n0 : Nat) (Z0 : n0 ≤ h0.size) (F : Fld Z h0 a "com/example/arborkey/arborkey/CommandLine$Argument" "text" "Ljava/lang/String;" (.ref tx)) (G : Fld Z h0 a "com/example/arborkey/arborkey/CommandLine$Argument" "platform" "Ljava/lang/String;" (.ref r)) :
    MetFree l (⟨"com/example/arborkey/arborkey/CommandLine$Argument", "shown", "()Ljava/lang/String;"⟩ : MethodName) (head1 (Jvm.Cond.code (⟨"com/example/arborkey/arborkey/CommandLine$Argument", "shown", "()Ljava/lang/String;"⟩ : MethodName) prog_25_method_2_code 1 (some (.object "java/lang/String")) :: []) ({ frames := 0, cells := 0, slots := 0, locals := 0 } : Room)) (fun ar_ U => ar_ = #[(.ref a)] ∧ Z.Warmed39 U.vm ∧ U.heap = h0) (fun _ _ _ _ _ => True) (fun _ U o U' => ∃ v L, o = .returned v ∧ QrmSR a tx r Z h0 n0 v U'.heap L ∧ FrameEnd U o U' L ({ frames := 0, cells := 0, slots := 0, locals := 0 } : Room).cells ({ frames := 0, cells := 0, slots := 0, locals := 0 } : Room).slots) := by
  refine MetFree.of_bodySF (plainFor_of_name (by first | (simp [plainName, overriddenIn]; done) | decide +kernel)) hisR ?_
  intro p e s m args below meth c s₁ Bd hml0 hP hK
  obtain ⟨rfl, hZ, hh⟩ := hP
  have hx := Bd.exec
  have hby := Bd.bytes
  have hml : c.maxLocals = 1 := hml0
  have hown : s.vm.findClass "com/example/arborkey/arborkey/CommandLine$Argument" = some m.cls := findClass_of_methodNamed Bd.named
  have hnm := (name_of_methodNamed Bd.named Bd.method).1
  have X0 : Stand p l e ({ frames := 0, cells := 0, slots := 0, locals := 0 } : Room) s m #[(.ref a)] below meth c s₁ [] 0 0 := Stand.of_body Bd
  have e0 : s₁.heap = h0 := by rw [← hh, Bd.state]; rfl
  have N0 := Fr.nil n0
  show own_E p e below s (QrmSR a tx r Z h0 n0) ({ frames := 0, cells := 0, slots := 0, locals := 0 } : Room).cells ({ frames := 0, cells := 0, slots := 0, locals := 0 } : Room).slots (s₁.setTop (entryFrame m #[(.ref a)] 1))
  refine own_go (fun t k => castTop (show _ = (mkF m 0 #[.val (.ref a)] []) from by first | (simp [entryFrame, mkF, argsToLocals, Value.category]; done) | rfl) k) ?_
  show own_E _ _ _ _ _ _ _ (s₁.setTop (mkF m 0 #[.val (.ref a)] []))
  refine own_go (fun _ k => XS.aloadN X0.here hx rfl (hb hby d7_0) rfl rfl k) ?_
  show own_E _ _ _ _ _ _ _ (s₁.setTop (mkF m 1 #[.val (.ref a)] [(.ref a)]))
  obtain ⟨T1, X1, e1, st1⟩ := getF X0 hx hZ hown (host := "") (Or.inl (hw _ (List.mem_of_getElem? (i := 38) rfl))) Via.refl e0 F (g := (mkF m 1 #[.val (.ref a)] [(.ref a)])) rfl rfl (hb hby d7_1)
  refine own_go st1 ?_
  show own_E _ _ _ _ _ _ _ (T1.setTop (mkF m 4 #[.val (.ref a)] [(.ref tx)]))
  refine own_go (fun _ k => XT.ifnonnullYes X1.here hx rfl (pc0 := 4) (pc' := 14) rfl (hb hby d7_4) rfl (by decide) (by decide) k) ?_
  show own_E _ _ _ _ _ _ _ (T1.setTop (mkF m 14 #[.val (.ref a)] []))
  refine own_go (fun _ k => XS.aloadN X1.here hx rfl (hb hby d7_14) rfl rfl k) ?_
  show own_E _ _ _ _ _ _ _ (T1.setTop (mkF m 15 #[.val (.ref a)] [(.ref a)]))
  obtain ⟨T2, X2, e2, st2⟩ := getF X1 hx hZ hown (host := "") (Or.inl (hw _ (List.mem_of_getElem? (i := 38) rfl))) Via.refl e1 F (g := (mkF m 15 #[.val (.ref a)] [(.ref a)])) rfl rfl (hb hby d7_15)
  refine own_go st2 ?_
  show own_E _ _ _ _ _ _ _ (T2.setTop (mkF m 18 #[.val (.ref a)] [(.ref tx)]))
  exact own_ret X2 hx Bd.returns Bd.notSynchronized rfl (Or.inr (Or.inr (Or.inr (Or.inr ⟨rfl, rfl, rfl⟩)))) (hb hby d7_18) (by rw [e2]; exact ⟨rfl, N0, rfl⟩) (by decide) (by decide)
def Qrm0 (p0 : Int32) (p1 : Int32) (p2 : Int32) (p3 : Int32) (p4 : Int32) (cs : Int32) (Z : State) (h0 : Heap) (n0 : Nat) (v : Option Value) (h : Heap) (L : List Loc) : Prop := v = some (.int 1) ∧ Fr n0 L
set_option maxRecDepth 65536 in
set_option maxHeartbeats 40000000 in
theorem rm0 (l : Launch) (Z : State) (a0 : Array Value) (hw : ∀ d ∈ tables_1, d.before a0 Z = true) (ws : List Jvm.Cond) (p0 : Int32) (p1 : Int32) (p2 : Int32) (p3 : Int32) (p4 : Int32) (cs : Int32) (h0 : Heap) (n0 : Nat) (Z0 : n0 ≤ h0.size) (O0 : Old Z n0 h0) (SC : Sta Z Z.heap "java/lang/String" "COMPACT_STRINGS" "Z" (.int cs)) (ncs : ¬ cs = 0) :
    MetFree l x (head1 (Jvm.Cond.code x code maxLocals ret :: ws) room_1) (fun ar_ U => ar_ = #[(.int p0), (.int p1), (.int p2), (.int p3), (.int p4)] ∧ Z.Warmed39 U.vm ∧ U.heap = h0 ∧ CHv Z own_EL U.vm h0) (fun _ _ _ _ _ => True) (fun _ U o U' => ∃ v L, o = .returned v ∧ Qrm0 p0 p1 p2 p3 p4 cs Z h0 n0 v U'.heap L ∧ CHr Z own_EL U.vm U.heap U'.vm U'.heap ∧ ReturnedEndW U o U' L room_1.cells room_1.slots) := by
  refine MetFree.of_bodySF (plainFor_of_name (by first | (simp [plainName, overriddenIn]; done) | decide +kernel)) hisR ?_
  intro p e s m args below meth c s₁ Bd hml0 hP hK
  obtain ⟨rfl, hZ, hh, H0⟩ := hP
  have hx := Bd.exec
  have hby := Bd.bytes
  have hml : c.maxLocals = 10 := hml0
  have hown : s.vm.findClass "com/example/arborkey/arborkey/ArgumentShownPinLaw" = some m.cls := findClass_of_methodNamed Bd.named
  have hnm := (name_of_methodNamed Bd.named Bd.method).1
  have X0 : Stand p l e room_1 (s.setVm s.vm) m #[(.int p0), (.int p1), (.int p2), (.int p3), (.int p4)] below meth c s₁ [] 0 0 := Stand.of_body Bd
  have C0 : CHr Z own_EL s.vm h0 s.vm h0 := CHr.refl H0
  have hS0 : s.Since s.vm n0 := own_since s n0
  have kk0 := Z0
  have hEL := own_EW hw
  have hwS := own_wS hw
  have hZ : Z.Warmed39 (s.setVm s.vm).vm := hZ
  have hown : (s.setVm s.vm).vm.findClass "com/example/arborkey/arborkey/ArgumentShownPinLaw" = some m.cls := hown
  have e0 : s₁.heap = h0 := by rw [← hh, Bd.state]; rfl
  have N0 := Fr.nil n0
  show own_F p e below s Z own_EL (Qrm0 p0 p1 p2 p3 p4 cs Z h0 n0) room_1.cells room_1.slots (s₁.setTop (entryFrame m #[(.int p0), (.int p1), (.int p2), (.int p3), (.int p4)] maxLocals))
  refine own_goF (fun t k => castTop (show _ = (mkF m 0 #[.val (.int p0), .val (.int p1), .val (.int p2), .val (.int p3), .val (.int p4), .unset, .unset, .unset, .unset, .unset] []) from by first | (simp [entryFrame, mkF, argsToLocals, Value.category, maxLocals]; done) | rfl) k) ?_
  show own_F _ _ _ _ _ _ _ _ _ (s₁.setTop (mkF m 0 #[.val (.int p0), .val (.int p1), .val (.int p2), .val (.int p3), .val (.int p4), .unset, .unset, .unset, .unset, .unset] []))
  refine own_goF (fun _ k => XS.iloadN X0.here hx rfl (hb hby at_0) rfl k) ?_
  show own_F _ _ _ _ _ _ _ _ _ (s₁.setTop (mkF m 1 #[.val (.int p0), .val (.int p1), .val (.int p2), .val (.int p3), .val (.int p4), .unset, .unset, .unset, .unset, .unset] [(.int p0)]))
  refine own_goF (fun _ k => XT.iconstV X0.here hx rfl (1 : Int32) (hb hby at_1) (by decide) k) ?_
  show own_F _ _ _ _ _ _ _ _ _ (s₁.setTop (mkF m 2 #[.val (.int p0), .val (.int p1), .val (.int p2), .val (.int p3), .val (.int p4), .unset, .unset, .unset, .unset, .unset] [(.int (1 : Int32)), (.int p0)]))
  refine own_goF (fun _ k => XS.iand X0.here hx rfl (hb hby at_2) rfl k) ?_
  show own_F _ _ _ _ _ _ _ _ _ (s₁.setTop (mkF m 3 #[.val (.int p0), .val (.int p1), .val (.int p2), .val (.int p3), .val (.int p4), .unset, .unset, .unset, .unset, .unset] [(.int (p0 &&& (1 : Int32)))]))
  have rest_qt : ∀ qt : Int32, (qt = 0 ∨ qt = 1) → own_F p e below s Z own_EL (Qrm0 p0 p1 p2 p3 p4 cs Z h0 n0) room_1.cells room_1.slots (s₁.setTop (mkF m 11 #[.val (.int p0), .val (.int p1), .val (.int p2), .val (.int p3), .val (.int p4), .unset, .unset, .unset, .unset, .unset] [(.int qt)])) := by
    intro qt hqt
    show own_F _ _ _ _ _ _ _ _ _ (s₁.setTop (mkF m 11 #[.val (.int p0), .val (.int p1), .val (.int p2), .val (.int p3), .val (.int p4), .unset, .unset, .unset, .unset, .unset] [(.int qt)]))
    refine own_goF (fun _ k => XS.istore X0.here hx rfl (hb hby at_11) rfl (l' := #[.val (.int p0), .val (.int p1), .val (.int p2), .val (.int p3), .val (.int p4), .val (.int qt), .unset, .unset, .unset, .unset]) rfl k) ?_
    show own_F _ _ _ _ _ _ _ _ _ (s₁.setTop (mkF m 13 #[.val (.int p0), .val (.int p1), .val (.int p2), .val (.int p3), .val (.int p4), .val (.int qt), .unset, .unset, .unset, .unset] []))
    refine own_goF (fun _ k => XS.iloadN X0.here hx rfl (hb hby at_13) rfl k) ?_
    show own_F _ _ _ _ _ _ _ _ _ (s₁.setTop (mkF m 14 #[.val (.int p0), .val (.int p1), .val (.int p2), .val (.int p3), .val (.int p4), .val (.int qt), .unset, .unset, .unset, .unset] [(.int p0)]))
    refine own_goF (fun _ k => XT.iconstV X0.here hx rfl (2 : Int32) (hb hby at_14) (by decide) k) ?_
    show own_F _ _ _ _ _ _ _ _ _ (s₁.setTop (mkF m 15 #[.val (.int p0), .val (.int p1), .val (.int p2), .val (.int p3), .val (.int p4), .val (.int qt), .unset, .unset, .unset, .unset] [(.int (2 : Int32)), (.int p0)]))
    refine own_goF (fun _ k => XS.iand X0.here hx rfl (hb hby at_15) rfl k) ?_
    show own_F _ _ _ _ _ _ _ _ _ (s₁.setTop (mkF m 16 #[.val (.int p0), .val (.int p1), .val (.int p2), .val (.int p3), .val (.int p4), .val (.int qt), .unset, .unset, .unset, .unset] [(.int (p0 &&& (2 : Int32)))]))
    have rest_qe : ∀ qe : Int32, (qe = 0 ∨ qe = 1) → own_F p e below s Z own_EL (Qrm0 p0 p1 p2 p3 p4 cs Z h0 n0) room_1.cells room_1.slots (s₁.setTop (mkF m 24 #[.val (.int p0), .val (.int p1), .val (.int p2), .val (.int p3), .val (.int p4), .val (.int qt), .unset, .unset, .unset, .unset] [(.int qe)])) := by
      intro qe hqe
      show own_F _ _ _ _ _ _ _ _ _ (s₁.setTop (mkF m 24 #[.val (.int p0), .val (.int p1), .val (.int p2), .val (.int p3), .val (.int p4), .val (.int qt), .unset, .unset, .unset, .unset] [(.int qe)]))
      refine own_goF (fun _ k => XS.iloadN X0.here hx rfl (hb hby at_24) rfl k) ?_
      show own_F _ _ _ _ _ _ _ _ _ (s₁.setTop (mkF m 25 #[.val (.int p0), .val (.int p1), .val (.int p2), .val (.int p3), .val (.int p4), .val (.int qt), .unset, .unset, .unset, .unset] [(.int p1), (.int qe)]))
      refine own_goF (fun _ k => XS.iloadN X0.here hx rfl (hb hby at_25) rfl k) ?_
      show own_F _ _ _ _ _ _ _ _ _ (s₁.setTop (mkF m 26 #[.val (.int p0), .val (.int p1), .val (.int p2), .val (.int p3), .val (.int p4), .val (.int qt), .unset, .unset, .unset, .unset] [(.int p2), (.int p1), (.int qe)]))
      obtain ⟨v101, T101, L101, X101, hS101, hZ101, ho101, hQ101, hC101, st101⟩ := own_callSF X0 hx hZ (rm := ({ frames := 4, cells := 4, slots := 12, locals := 80 } : Room)) (W := 0) (argsL := [(.int qe), (.int p1), (.int p2)]) (rest := []) (y := (⟨"com/example/arborkey/arborkey/ArgumentShownPinLaw", "drawn", "(ZII)Ljava/lang/String;"⟩ : MethodName)) hown (hw _ (List.mem_of_getElem? (i := 0) rfl)) (hw _ (List.mem_of_getElem? (i := 1) rfl)) (hw _ (List.mem_of_getElem? (i := 2) rfl)) (hw _ (List.mem_of_getElem? (i := 3) rfl)) (by decide) (rm1 l Z a0 hw qe p1 p2 cs h0 n0 Z0 hqe (SC.ext O0.2) ncs) e0 hS0 kk0 hEL C0.1 (by decide) (by decide) (by decide) (by decide) (g := (mkF m 26 #[.val (.int p0), .val (.int p1), .val (.int p2), .val (.int p3), .val (.int p4), .val (.int qt), .unset, .unset, .unset, .unset] [(.int p2), (.int p1), (.int qe)])) rfl (by rw [hml]; rfl) (lenOf pd_6 rfl) rfl (Nat.le_of_ble_eq_true rfl) (hb hby at_26)
      obtain ⟨N101, K101, rt, rfl⟩ := hQ101
      refine own_goF st101 ?_
      show own_F _ _ _ _ _ _ _ _ _ (T101.setTop (mkF m 29 #[.val (.int p0), .val (.int p1), .val (.int p2), .val (.int p3), .val (.int p4), .val (.int qt), .unset, .unset, .unset, .unset] [(.ref rt)]))
      have M101 := Fr.app N0 N101
      have e101 : T101.heap = T101.heap := rfl
      have O101 := O0.keep K101 all0
      have Z101 := Nat.le_trans Z0 K101.1
      have C101 := C0.trans hC101
      have kk101 : T101.heap.size ≤ T101.heap.size := Nat.le_refl _
      have hZ := hZ101
      have hown := ho101
      refine own_goF (fun _ k => XS.astore X101.here hx rfl (hb hby at_29) rfl rfl (l' := #[.val (.int p0), .val (.int p1), .val (.int p2), .val (.int p3), .val (.int p4), .val (.int qt), .val (.ref rt), .unset, .unset, .unset]) rfl k) ?_
      show own_F _ _ _ _ _ _ _ _ _ (T101.setTop (mkF m 31 #[.val (.int p0), .val (.int p1), .val (.int p2), .val (.int p3), .val (.int p4), .val (.int qt), .val (.ref rt), .unset, .unset, .unset] []))
      refine own_goF (fun _ k => XS.iloadN X101.here hx rfl (hb hby at_31) rfl k) ?_
      show own_F _ _ _ _ _ _ _ _ _ (T101.setTop (mkF m 32 #[.val (.int p0), .val (.int p1), .val (.int p2), .val (.int p3), .val (.int p4), .val (.int qt), .val (.ref rt), .unset, .unset, .unset] [(.int p0)]))
      refine own_goF (fun _ k => XT.iconstV X101.here hx rfl (4 : Int32) (hb hby at_32) (by decide) k) ?_
      show own_F _ _ _ _ _ _ _ _ _ (T101.setTop (mkF m 33 #[.val (.int p0), .val (.int p1), .val (.int p2), .val (.int p3), .val (.int p4), .val (.int qt), .val (.ref rt), .unset, .unset, .unset] [(.int (4 : Int32)), (.int p0)]))
      refine own_goF (fun _ k => XS.iand X101.here hx rfl (hb hby at_33) rfl k) ?_
      show own_F _ _ _ _ _ _ _ _ _ (T101.setTop (mkF m 34 #[.val (.int p0), .val (.int p1), .val (.int p2), .val (.int p3), .val (.int p4), .val (.int qt), .val (.ref rt), .unset, .unset, .unset] [(.int (p0 &&& (4 : Int32)))]))
      have rest_qf : ∀ qf : Int32, (qf = 0 ∨ qf = 1) → own_F p e below s Z own_EL (Qrm0 p0 p1 p2 p3 p4 cs Z h0 n0) room_1.cells room_1.slots (T101.setTop (mkF m 42 #[.val (.int p0), .val (.int p1), .val (.int p2), .val (.int p3), .val (.int p4), .val (.int qt), .val (.ref rt), .unset, .unset, .unset] [(.int qf)])) := by
        intro qf hqf
        show own_F _ _ _ _ _ _ _ _ _ (T101.setTop (mkF m 42 #[.val (.int p0), .val (.int p1), .val (.int p2), .val (.int p3), .val (.int p4), .val (.int qt), .val (.ref rt), .unset, .unset, .unset] [(.int qf)]))
        refine own_goF (fun _ k => XS.iloadN X101.here hx rfl (hb hby at_42) rfl k) ?_
        show own_F _ _ _ _ _ _ _ _ _ (T101.setTop (mkF m 43 #[.val (.int p0), .val (.int p1), .val (.int p2), .val (.int p3), .val (.int p4), .val (.int qt), .val (.ref rt), .unset, .unset, .unset] [(.int p3), (.int qf)]))
        refine own_goF (fun _ k => XS.iload X101.here hx rfl (hb hby at_43) rfl k) ?_
        show own_F _ _ _ _ _ _ _ _ _ (T101.setTop (mkF m 45 #[.val (.int p0), .val (.int p1), .val (.int p2), .val (.int p3), .val (.int p4), .val (.int qt), .val (.ref rt), .unset, .unset, .unset] [(.int p4), (.int p3), (.int qf)]))
        obtain ⟨v102, T102, L102, X102, hS102, hZ102, ho102, hQ102, hC102, st102⟩ := own_callSF X101 hx hZ (rm := ({ frames := 4, cells := 4, slots := 12, locals := 80 } : Room)) (W := 0) (argsL := [(.int qf), (.int p3), (.int p4)]) (rest := []) (y := (⟨"com/example/arborkey/arborkey/ArgumentShownPinLaw", "drawn", "(ZII)Ljava/lang/String;"⟩ : MethodName)) hown (hw _ (List.mem_of_getElem? (i := 0) rfl)) (hw _ (List.mem_of_getElem? (i := 1) rfl)) (hw _ (List.mem_of_getElem? (i := 2) rfl)) (hw _ (List.mem_of_getElem? (i := 3) rfl)) (by decide) (rm1 l Z a0 hw qf p3 p4 cs T101.heap n0 Z101 hqf (SC.ext O101.2) ncs) e101 hS101 kk101 hEL C101.1 (by decide) (by decide) (by decide) (by decide) (g := (mkF m 45 #[.val (.int p0), .val (.int p1), .val (.int p2), .val (.int p3), .val (.int p4), .val (.int qt), .val (.ref rt), .unset, .unset, .unset] [(.int p4), (.int p3), (.int qf)])) rfl (by rw [hml]; rfl) (lenOf pd_6 rfl) rfl (Nat.le_of_ble_eq_true rfl) (hb hby at_45)
        obtain ⟨N102, K102, rp, rfl⟩ := hQ102
        refine own_goF st102 ?_
        show own_F _ _ _ _ _ _ _ _ _ (T102.setTop (mkF m 48 #[.val (.int p0), .val (.int p1), .val (.int p2), .val (.int p3), .val (.int p4), .val (.int qt), .val (.ref rt), .unset, .unset, .unset] [(.ref rp)]))
        have M102 := Fr.app M101 N102
        have e102 : T102.heap = T102.heap := rfl
        have O102 := O101.keep K102 all0
        have Z102 := Nat.le_trans Z101 K102.1
        have C102 := C101.trans hC102
        have kk102 : T102.heap.size ≤ T102.heap.size := Nat.le_refl _
        have hZ := hZ102
        have hown := ho102
        refine own_goF (fun _ k => XS.astore X102.here hx rfl (hb hby at_48) rfl rfl (l' := #[.val (.int p0), .val (.int p1), .val (.int p2), .val (.int p3), .val (.int p4), .val (.int qt), .val (.ref rt), .val (.ref rp), .unset, .unset]) rfl k) ?_
        show own_F _ _ _ _ _ _ _ _ _ (T102.setTop (mkF m 50 #[.val (.int p0), .val (.int p1), .val (.int p2), .val (.int p3), .val (.int p4), .val (.int qt), .val (.ref rt), .val (.ref rp), .unset, .unset] []))
        obtain ⟨T103, h103, X103, e103, E103, A103, D103, -, st103⟩ := newO X102 hx hZ hown (hw _ (List.mem_of_getElem? (i := 26) rfl)) (hw _ (List.mem_of_getElem? (i := 27) rfl)) (hw _ (List.mem_of_getElem? (i := 28) rfl)) e102 (g := (mkF m 50 #[.val (.int p0), .val (.int p1), .val (.int p2), .val (.int p3), .val (.int p4), .val (.int qt), .val (.ref rt), .val (.ref rp), .unset, .unset] [])) rfl (hb hby at_50) (by decide) (by decide)
        obtain ⟨ag, g103⟩ : ∃ z, z = T102.heap.size := ⟨_, rfl⟩
        rw [← g103] at A103 D103 st103
        have w103 : n0 ≤ ag := by rw [g103]; exact Z102
        have f103_text : Fld Z h103 ag "com/example/arborkey/arborkey/CommandLine$Argument" "text" "Ljava/lang/String;" .null := D103 (Or.inr (hw _ (List.mem_of_getElem? (i := 39) rfl))) (ty := (.object "java/lang/String")) (by decide +kernel)
        have f103_platform : Fld Z h103 ag "com/example/arborkey/arborkey/CommandLine$Argument" "platform" "Ljava/lang/String;" .null := D103 (Or.inr (hw _ (List.mem_of_getElem? (i := 41) rfl))) (ty := (.object "java/lang/String")) (by decide +kernel)
        have C103 := C102.trans (CHr.ext E103 C102.1)
        have kk103 := Nat.le_trans kk102 E103.1
        have O103 := O102.ext E103
        have Z103 := Nat.le_trans Z102 E103.1
        refine own_goF st103 ?_
        show own_F _ _ _ _ _ _ _ _ _ (T103.setTop (mkF m 53 #[.val (.int p0), .val (.int p1), .val (.int p2), .val (.int p3), .val (.int p4), .val (.int qt), .val (.ref rt), .val (.ref rp), .unset, .unset] [(.ref ag)]))
        refine own_goF (fun _ k => XS.dup X103.here hx rfl (hb hby at_53) rfl rfl k) ?_
        show own_F _ _ _ _ _ _ _ _ _ (T103.setTop (mkF m 54 #[.val (.int p0), .val (.int p1), .val (.int p2), .val (.int p3), .val (.int p4), .val (.int qt), .val (.ref rt), .val (.ref rp), .unset, .unset] [(.ref ag), (.ref ag)]))
        refine own_goF (fun _ k => XS.iload X103.here hx rfl (hb hby at_54) rfl k) ?_
        show own_F _ _ _ _ _ _ _ _ _ (T103.setTop (mkF m 56 #[.val (.int p0), .val (.int p1), .val (.int p2), .val (.int p3), .val (.int p4), .val (.int qt), .val (.ref rt), .val (.ref rp), .unset, .unset] [(.int qt), (.ref ag), (.ref ag)]))
        rcases hqt with rfl | rfl
        ·
          show own_F _ _ _ _ _ _ _ _ _ (T103.setTop (mkF m 56 #[.val (.int p0), .val (.int p1), .val (.int p2), .val (.int p3), .val (.int p4), .val (.int (0 : Int32)), .val (.ref rt), .val (.ref rp), .unset, .unset] [(.int (0 : Int32)), (.ref ag), (.ref ag)]))
          refine own_goF (fun _ k => XS.ifYes X103.here hx rfl (pc0 := 56) (pc' := 64) rfl (hb hby at_56) rfl (by decide) (by decide) (by decide) k) ?_
          show own_F _ _ _ _ _ _ _ _ _ (T103.setTop (mkF m 64 #[.val (.int p0), .val (.int p1), .val (.int p2), .val (.int p3), .val (.int p4), .val (.int (0 : Int32)), .val (.ref rt), .val (.ref rp), .unset, .unset] [(.ref ag), (.ref ag)]))
          refine own_goF (fun _ k => XS.aconstNull X103.here hx rfl (hb hby at_64) k) ?_
          show own_F _ _ _ _ _ _ _ _ _ (T103.setTop (mkF m 65 #[.val (.int p0), .val (.int p1), .val (.int p2), .val (.int p3), .val (.int p4), .val (.int (0 : Int32)), .val (.ref rt), .val (.ref rp), .unset, .unset] [.null, (.ref ag), (.ref ag)]))
          refine own_goF (fun _ k => XS.aload X103.here hx rfl (hb hby at_65) rfl rfl k) ?_
          show own_F _ _ _ _ _ _ _ _ _ (T103.setTop (mkF m 67 #[.val (.int p0), .val (.int p1), .val (.int p2), .val (.int p3), .val (.int p4), .val (.int (0 : Int32)), .val (.ref rt), .val (.ref rp), .unset, .unset] [(.ref rp), .null, (.ref ag), (.ref ag)]))
          obtain ⟨v104, T104, L104, X104, hQ104, st104⟩ := own_callI X103 hx hZ (rm := ({ frames := 2, cells := 0, slots := 0, locals := 24 } : Room)) (W := 1) (b := ag) (argsL := [.null, (.ref rp)]) (rest := [(.ref ag)]) (y := (⟨"com/example/arborkey/arborkey/CommandLine$Argument", "<init>", "(Ljava/lang/String;Ljava/lang/String;)V"⟩ : MethodName)) hown rfl (hw _ (List.mem_of_getElem? (i := 29) rfl)) (hw _ (List.mem_of_getElem? (i := 30) rfl)) (hw _ (List.mem_of_getElem? (i := 28) rfl)) (hw _ (List.mem_of_getElem? (i := 31) rfl)) (by decide) (rmAN l Z a0 hw ag rp h103 n0 Z103 A103 f103_text f103_platform w103) e103 (by decide) (by decide) (by decide) (by decide) (g := (mkF m 67 #[.val (.int p0), .val (.int p1), .val (.int p2), .val (.int p3), .val (.int p4), .val (.int (0 : Int32)), .val (.ref rt), .val (.ref rp), .unset, .unset] [(.ref rp), .null, (.ref ag), (.ref ag)])) rfl (by rw [hml]; rfl) (lenOf pd_7 rfl) rfl (Nat.le_of_ble_eq_true rfl) (hb hby at_67)
          obtain ⟨rfl, N104, K104, A104, F104, G104⟩ := hQ104
          refine own_goF st104 ?_
          show own_F _ _ _ _ _ _ _ _ _ (T104.setTop (mkF m 70 #[.val (.int p0), .val (.int p1), .val (.int p2), .val (.int p3), .val (.int p4), .val (.int (0 : Int32)), .val (.ref rt), .val (.ref rp), .unset, .unset] [(.ref ag)]))
          have M104 := Fr.app M102 N104
          have e104 : T104.heap = T104.heap := rfl
          have f104_3 := A103.keep K104
          have C104 := C103.trans (CHr.keep K104 (sfS (Safe.exa (EL := own_EL) (State.Warmed39.alike hZ) A103 (by decide) (by decide)) sf0) C103.1)
          have kk104 := Nat.le_trans kk103 K104.1
          have O104 := O103.keep K104 (allS w103 all0)
          have Z104 := Nat.le_trans Z103 K104.1
          refine own_goF (fun _ k => XS.astore X104.here hx rfl (hb hby at_70) rfl rfl (l' := #[.val (.int p0), .val (.int p1), .val (.int p2), .val (.int p3), .val (.int p4), .val (.int (0 : Int32)), .val (.ref rt), .val (.ref rp), .val (.ref ag), .unset]) rfl k) ?_
          show own_F _ _ _ _ _ _ _ _ _ (T104.setTop (mkF m 72 #[.val (.int p0), .val (.int p1), .val (.int p2), .val (.int p3), .val (.int p4), .val (.int (0 : Int32)), .val (.ref rt), .val (.ref rp), .val (.ref ag), .unset] []))
          refine own_goF (fun _ k => XS.aload X104.here hx rfl (hb hby at_72) rfl rfl k) ?_
          show own_F _ _ _ _ _ _ _ _ _ (T104.setTop (mkF m 74 #[.val (.int p0), .val (.int p1), .val (.int p2), .val (.int p3), .val (.int p4), .val (.int (0 : Int32)), .val (.ref rt), .val (.ref rp), .val (.ref ag), .unset] [(.ref ag)]))
          obtain ⟨v105, T105, L105, X105, hQ105, st105⟩ := own_callV X104 hx hZ (rm := ({ frames := 0, cells := 0, slots := 0, locals := 0 } : Room)) (W := 0) (b := ag) (argsL := []) (rest := []) (y := (⟨"com/example/arborkey/arborkey/CommandLine$Argument", "shown", "()Ljava/lang/String;"⟩ : MethodName)) hown (hw _ (List.mem_of_getElem? (i := 42) rfl)) (hw _ (List.mem_of_getElem? (i := 43) rfl)) (hw _ (List.mem_of_getElem? (i := 45) rfl)) (hw _ (List.mem_of_getElem? (i := 44) rfl)) (hw _ (List.mem_of_getElem? (i := 46) rfl)) (hw _ (List.mem_of_getElem? (i := 28) rfl)) (by decide) (rmSN l Z a0 hw ag rp T104.heap n0 Z104 F104 G104) e104 f104_3 (by decide) (by decide) (by decide) (by decide) (g := (mkF m 74 #[.val (.int p0), .val (.int p1), .val (.int p2), .val (.int p3), .val (.int p4), .val (.int (0 : Int32)), .val (.ref rt), .val (.ref rp), .val (.ref ag), .unset] [(.ref ag)])) rfl (by rw [hml]; rfl) (lenOf pd_8 rfl) rfl (Nat.le_of_ble_eq_true rfl) (hb hby at_74)
          obtain ⟨rfl, N105, e105⟩ := hQ105
          refine own_goF st105 ?_
          show own_F _ _ _ _ _ _ _ _ _ (T105.setTop (mkF m 77 #[.val (.int p0), .val (.int p1), .val (.int p2), .val (.int p3), .val (.int p4), .val (.int (0 : Int32)), .val (.ref rt), .val (.ref rp), .val (.ref ag), .unset] [(.ref rp)]))
          have M105 := Fr.app M104 N105
          refine own_goF (fun _ k => XS.astore X105.here hx rfl (hb hby at_77) rfl rfl (l' := #[.val (.int p0), .val (.int p1), .val (.int p2), .val (.int p3), .val (.int p4), .val (.int (0 : Int32)), .val (.ref rt), .val (.ref rp), .val (.ref ag), .val (.ref rp)]) rfl k) ?_
          show own_F _ _ _ _ _ _ _ _ _ (T105.setTop (mkF m 79 #[.val (.int p0), .val (.int p1), .val (.int p2), .val (.int p3), .val (.int p4), .val (.int (0 : Int32)), .val (.ref rt), .val (.ref rp), .val (.ref ag), .val (.ref rp)] []))
          refine own_goF (fun _ k => XS.iload X105.here hx rfl (hb hby at_79) rfl k) ?_
          show own_F _ _ _ _ _ _ _ _ _ (T105.setTop (mkF m 81 #[.val (.int p0), .val (.int p1), .val (.int p2), .val (.int p3), .val (.int p4), .val (.int (0 : Int32)), .val (.ref rt), .val (.ref rp), .val (.ref ag), .val (.ref rp)] [(.int (0 : Int32))]))
          refine own_goF (fun _ k => XS.ifYes X105.here hx rfl (pc0 := 81) (pc' := 97) rfl (hb hby at_81) rfl (by decide) (by decide) (by decide) k) ?_
          show own_F _ _ _ _ _ _ _ _ _ (T105.setTop (mkF m 97 #[.val (.int p0), .val (.int p1), .val (.int p2), .val (.int p3), .val (.int p4), .val (.int (0 : Int32)), .val (.ref rt), .val (.ref rp), .val (.ref ag), .val (.ref rp)] []))
          refine own_goF (fun _ k => XS.aload X105.here hx rfl (hb hby at_97) rfl rfl k) ?_
          show own_F _ _ _ _ _ _ _ _ _ (T105.setTop (mkF m 99 #[.val (.int p0), .val (.int p1), .val (.int p2), .val (.int p3), .val (.int p4), .val (.int (0 : Int32)), .val (.ref rt), .val (.ref rp), .val (.ref ag), .val (.ref rp)] [(.ref rp)]))
          refine own_goF (fun _ k => XS.aload X105.here hx rfl (hb hby at_99) rfl rfl k) ?_
          show own_F _ _ _ _ _ _ _ _ _ (T105.setTop (mkF m 101 #[.val (.int p0), .val (.int p1), .val (.int p2), .val (.int p3), .val (.int p4), .val (.int (0 : Int32)), .val (.ref rt), .val (.ref rp), .val (.ref ag), .val (.ref rp)] [(.ref rp), (.ref rp)]))
          refine own_goF (fun _ k => Jvm.RoadKit.acmp (g := (mkF m 101 #[.val (.int p0), .val (.int p1), .val (.int p2), .val (.int p3), .val (.int p4), .val (.int (0 : Int32)), .val (.ref rt), .val (.ref rp), .val (.ref ag), .val (.ref rp)] [(.ref rp), (.ref rp)])) X105 hx rfl rfl rfl (pc0 := 101) (pc' := 104) (same := true) rfl (hb hby at_101) rfl (by simp) (by decide) (by decide) k) ?_
          show own_F _ _ _ _ _ _ _ _ _ (T105.setTop (mkF m 104 #[.val (.int p0), .val (.int p1), .val (.int p2), .val (.int p3), .val (.int p4), .val (.int (0 : Int32)), .val (.ref rt), .val (.ref rp), .val (.ref ag), .val (.ref rp)] []))
          refine own_goF (fun _ k => XT.iconstV X105.here hx rfl (1 : Int32) (hb hby at_104) (by decide) k) ?_
          show own_F _ _ _ _ _ _ _ _ _ (T105.setTop (mkF m 105 #[.val (.int p0), .val (.int p1), .val (.int p2), .val (.int p3), .val (.int p4), .val (.int (0 : Int32)), .val (.ref rt), .val (.ref rp), .val (.ref ag), .val (.ref rp)] [(.int (1 : Int32))]))
          refine own_goF (fun _ k => XS.goto X105.here hx rfl (pc0 := 105) (pc' := 109) rfl (hb hby at_105) (by decide) (by decide) k) ?_
          show own_F _ _ _ _ _ _ _ _ _ (T105.setTop (mkF m 109 #[.val (.int p0), .val (.int p1), .val (.int p2), .val (.int p3), .val (.int p4), .val (.int (0 : Int32)), .val (.ref rt), .val (.ref rp), .val (.ref ag), .val (.ref rp)] [(.int (1 : Int32))]))
          exact own_retF X105 hx hS102 (by rw [e105]; exact kk104) (by rw [hh, e105]; exact C104.trans (CHv.at X105 hZ hEL C104.1)) Bd.returns Bd.notSynchronized rfl (Or.inl ⟨rfl, by simp, _, rfl⟩) (hb hby at_109) (by rw [e105]; exact ⟨rfl, M105⟩) (by decide) (by decide)
        ·
          show own_F _ _ _ _ _ _ _ _ _ (T103.setTop (mkF m 56 #[.val (.int p0), .val (.int p1), .val (.int p2), .val (.int p3), .val (.int p4), .val (.int (1 : Int32)), .val (.ref rt), .val (.ref rp), .unset, .unset] [(.int (1 : Int32)), (.ref ag), (.ref ag)]))
          refine own_goF (fun _ k => XS.ifNo X103.here hx rfl (hb hby at_56) rfl (by decide) k) ?_
          show own_F _ _ _ _ _ _ _ _ _ (T103.setTop (mkF m 59 #[.val (.int p0), .val (.int p1), .val (.int p2), .val (.int p3), .val (.int p4), .val (.int (1 : Int32)), .val (.ref rt), .val (.ref rp), .unset, .unset] [(.ref ag), (.ref ag)]))
          refine own_goF (fun _ k => XS.aload X103.here hx rfl (hb hby at_59) rfl rfl k) ?_
          show own_F _ _ _ _ _ _ _ _ _ (T103.setTop (mkF m 61 #[.val (.int p0), .val (.int p1), .val (.int p2), .val (.int p3), .val (.int p4), .val (.int (1 : Int32)), .val (.ref rt), .val (.ref rp), .unset, .unset] [(.ref rt), (.ref ag), (.ref ag)]))
          refine own_goF (fun _ k => XS.goto X103.here hx rfl (pc0 := 61) (pc' := 65) rfl (hb hby at_61) (by decide) (by decide) k) ?_
          show own_F _ _ _ _ _ _ _ _ _ (T103.setTop (mkF m 65 #[.val (.int p0), .val (.int p1), .val (.int p2), .val (.int p3), .val (.int p4), .val (.int (1 : Int32)), .val (.ref rt), .val (.ref rp), .unset, .unset] [(.ref rt), (.ref ag), (.ref ag)]))
          refine own_goF (fun _ k => XS.aload X103.here hx rfl (hb hby at_65) rfl rfl k) ?_
          show own_F _ _ _ _ _ _ _ _ _ (T103.setTop (mkF m 67 #[.val (.int p0), .val (.int p1), .val (.int p2), .val (.int p3), .val (.int p4), .val (.int (1 : Int32)), .val (.ref rt), .val (.ref rp), .unset, .unset] [(.ref rp), (.ref rt), (.ref ag), (.ref ag)]))
          obtain ⟨v106, T106, L106, X106, hQ106, st106⟩ := own_callI X103 hx hZ (rm := ({ frames := 2, cells := 0, slots := 0, locals := 24 } : Room)) (W := 1) (b := ag) (argsL := [(.ref rt), (.ref rp)]) (rest := [(.ref ag)]) (y := (⟨"com/example/arborkey/arborkey/CommandLine$Argument", "<init>", "(Ljava/lang/String;Ljava/lang/String;)V"⟩ : MethodName)) hown rfl (hw _ (List.mem_of_getElem? (i := 29) rfl)) (hw _ (List.mem_of_getElem? (i := 30) rfl)) (hw _ (List.mem_of_getElem? (i := 28) rfl)) (hw _ (List.mem_of_getElem? (i := 31) rfl)) (by decide) (rmAR l Z a0 hw ag rt rp h103 n0 Z103 A103 f103_text f103_platform w103) e103 (by decide) (by decide) (by decide) (by decide) (g := (mkF m 67 #[.val (.int p0), .val (.int p1), .val (.int p2), .val (.int p3), .val (.int p4), .val (.int (1 : Int32)), .val (.ref rt), .val (.ref rp), .unset, .unset] [(.ref rp), (.ref rt), (.ref ag), (.ref ag)])) rfl (by rw [hml]; rfl) (lenOf pd_7 rfl) rfl (Nat.le_of_ble_eq_true rfl) (hb hby at_67)
          obtain ⟨rfl, N106, K106, A106, F106, G106⟩ := hQ106
          refine own_goF st106 ?_
          show own_F _ _ _ _ _ _ _ _ _ (T106.setTop (mkF m 70 #[.val (.int p0), .val (.int p1), .val (.int p2), .val (.int p3), .val (.int p4), .val (.int (1 : Int32)), .val (.ref rt), .val (.ref rp), .unset, .unset] [(.ref ag)]))
          have M106 := Fr.app M102 N106
          have e106 : T106.heap = T106.heap := rfl
          have f106_3 := A103.keep K106
          have C106 := C103.trans (CHr.keep K106 (sfS (Safe.exa (EL := own_EL) (State.Warmed39.alike hZ) A103 (by decide) (by decide)) sf0) C103.1)
          have kk106 := Nat.le_trans kk103 K106.1
          have O106 := O103.keep K106 (allS w103 all0)
          have Z106 := Nat.le_trans Z103 K106.1
          refine own_goF (fun _ k => XS.astore X106.here hx rfl (hb hby at_70) rfl rfl (l' := #[.val (.int p0), .val (.int p1), .val (.int p2), .val (.int p3), .val (.int p4), .val (.int (1 : Int32)), .val (.ref rt), .val (.ref rp), .val (.ref ag), .unset]) rfl k) ?_
          show own_F _ _ _ _ _ _ _ _ _ (T106.setTop (mkF m 72 #[.val (.int p0), .val (.int p1), .val (.int p2), .val (.int p3), .val (.int p4), .val (.int (1 : Int32)), .val (.ref rt), .val (.ref rp), .val (.ref ag), .unset] []))
          refine own_goF (fun _ k => XS.aload X106.here hx rfl (hb hby at_72) rfl rfl k) ?_
          show own_F _ _ _ _ _ _ _ _ _ (T106.setTop (mkF m 74 #[.val (.int p0), .val (.int p1), .val (.int p2), .val (.int p3), .val (.int p4), .val (.int (1 : Int32)), .val (.ref rt), .val (.ref rp), .val (.ref ag), .unset] [(.ref ag)]))
          obtain ⟨v107, T107, L107, X107, hQ107, st107⟩ := own_callV X106 hx hZ (rm := ({ frames := 0, cells := 0, slots := 0, locals := 0 } : Room)) (W := 0) (b := ag) (argsL := []) (rest := []) (y := (⟨"com/example/arborkey/arborkey/CommandLine$Argument", "shown", "()Ljava/lang/String;"⟩ : MethodName)) hown (hw _ (List.mem_of_getElem? (i := 42) rfl)) (hw _ (List.mem_of_getElem? (i := 43) rfl)) (hw _ (List.mem_of_getElem? (i := 45) rfl)) (hw _ (List.mem_of_getElem? (i := 44) rfl)) (hw _ (List.mem_of_getElem? (i := 46) rfl)) (hw _ (List.mem_of_getElem? (i := 28) rfl)) (by decide) (rmSR l Z a0 hw ag rt rp T106.heap n0 Z106 F106 G106) e106 f106_3 (by decide) (by decide) (by decide) (by decide) (g := (mkF m 74 #[.val (.int p0), .val (.int p1), .val (.int p2), .val (.int p3), .val (.int p4), .val (.int (1 : Int32)), .val (.ref rt), .val (.ref rp), .val (.ref ag), .unset] [(.ref ag)])) rfl (by rw [hml]; rfl) (lenOf pd_8 rfl) rfl (Nat.le_of_ble_eq_true rfl) (hb hby at_74)
          obtain ⟨rfl, N107, e107⟩ := hQ107
          refine own_goF st107 ?_
          show own_F _ _ _ _ _ _ _ _ _ (T107.setTop (mkF m 77 #[.val (.int p0), .val (.int p1), .val (.int p2), .val (.int p3), .val (.int p4), .val (.int (1 : Int32)), .val (.ref rt), .val (.ref rp), .val (.ref ag), .unset] [(.ref rt)]))
          have M107 := Fr.app M106 N107
          refine own_goF (fun _ k => XS.astore X107.here hx rfl (hb hby at_77) rfl rfl (l' := #[.val (.int p0), .val (.int p1), .val (.int p2), .val (.int p3), .val (.int p4), .val (.int (1 : Int32)), .val (.ref rt), .val (.ref rp), .val (.ref ag), .val (.ref rt)]) rfl k) ?_
          show own_F _ _ _ _ _ _ _ _ _ (T107.setTop (mkF m 79 #[.val (.int p0), .val (.int p1), .val (.int p2), .val (.int p3), .val (.int p4), .val (.int (1 : Int32)), .val (.ref rt), .val (.ref rp), .val (.ref ag), .val (.ref rt)] []))
          refine own_goF (fun _ k => XS.iload X107.here hx rfl (hb hby at_79) rfl k) ?_
          show own_F _ _ _ _ _ _ _ _ _ (T107.setTop (mkF m 81 #[.val (.int p0), .val (.int p1), .val (.int p2), .val (.int p3), .val (.int p4), .val (.int (1 : Int32)), .val (.ref rt), .val (.ref rp), .val (.ref ag), .val (.ref rt)] [(.int (1 : Int32))]))
          refine own_goF (fun _ k => XS.ifNo X107.here hx rfl (hb hby at_81) rfl (by decide) k) ?_
          show own_F _ _ _ _ _ _ _ _ _ (T107.setTop (mkF m 84 #[.val (.int p0), .val (.int p1), .val (.int p2), .val (.int p3), .val (.int p4), .val (.int (1 : Int32)), .val (.ref rt), .val (.ref rp), .val (.ref ag), .val (.ref rt)] []))
          refine own_goF (fun _ k => XS.aload X107.here hx rfl (hb hby at_84) rfl rfl k) ?_
          show own_F _ _ _ _ _ _ _ _ _ (T107.setTop (mkF m 86 #[.val (.int p0), .val (.int p1), .val (.int p2), .val (.int p3), .val (.int p4), .val (.int (1 : Int32)), .val (.ref rt), .val (.ref rp), .val (.ref ag), .val (.ref rt)] [(.ref rt)]))
          refine own_goF (fun _ k => XS.aload X107.here hx rfl (hb hby at_86) rfl rfl k) ?_
          show own_F _ _ _ _ _ _ _ _ _ (T107.setTop (mkF m 88 #[.val (.int p0), .val (.int p1), .val (.int p2), .val (.int p3), .val (.int p4), .val (.int (1 : Int32)), .val (.ref rt), .val (.ref rp), .val (.ref ag), .val (.ref rt)] [(.ref rt), (.ref rt)]))
          refine own_goF (fun _ k => Jvm.RoadKit.acmp (g := (mkF m 88 #[.val (.int p0), .val (.int p1), .val (.int p2), .val (.int p3), .val (.int p4), .val (.int (1 : Int32)), .val (.ref rt), .val (.ref rp), .val (.ref ag), .val (.ref rt)] [(.ref rt), (.ref rt)])) X107 hx rfl rfl rfl (pc0 := 88) (pc' := 91) (same := true) rfl (hb hby at_88) rfl (by simp) (by decide) (by decide) k) ?_
          show own_F _ _ _ _ _ _ _ _ _ (T107.setTop (mkF m 91 #[.val (.int p0), .val (.int p1), .val (.int p2), .val (.int p3), .val (.int p4), .val (.int (1 : Int32)), .val (.ref rt), .val (.ref rp), .val (.ref ag), .val (.ref rt)] []))
          refine own_goF (fun _ k => XT.iconstV X107.here hx rfl (1 : Int32) (hb hby at_91) (by decide) k) ?_
          show own_F _ _ _ _ _ _ _ _ _ (T107.setTop (mkF m 92 #[.val (.int p0), .val (.int p1), .val (.int p2), .val (.int p3), .val (.int p4), .val (.int (1 : Int32)), .val (.ref rt), .val (.ref rp), .val (.ref ag), .val (.ref rt)] [(.int (1 : Int32))]))
          refine own_goF (fun _ k => XS.goto X107.here hx rfl (pc0 := 92) (pc' := 96) rfl (hb hby at_92) (by decide) (by decide) k) ?_
          show own_F _ _ _ _ _ _ _ _ _ (T107.setTop (mkF m 96 #[.val (.int p0), .val (.int p1), .val (.int p2), .val (.int p3), .val (.int p4), .val (.int (1 : Int32)), .val (.ref rt), .val (.ref rp), .val (.ref ag), .val (.ref rt)] [(.int (1 : Int32))]))
          exact own_retF X107 hx hS102 (by rw [e107]; exact kk106) (by rw [hh, e107]; exact C106.trans (CHv.at X107 hZ hEL C106.1)) Bd.returns Bd.notSynchronized rfl (Or.inl ⟨rfl, by simp, _, rfl⟩) (hb hby at_96) (by rw [e107]; exact ⟨rfl, M107⟩) (by decide) (by decide)
      by_cases s_qf : (p0 &&& (4 : Int32)) = 0
      ·
        refine own_goF (fun _ k => XS.ifYes X101.here hx rfl (pc0 := 34) (pc' := 41) rfl (hb hby at_34) rfl (XT.i0_eq_t s_qf) (by decide) (by decide) k) ?_
        show own_F _ _ _ _ _ _ _ _ _ (T101.setTop (mkF m 41 #[.val (.int p0), .val (.int p1), .val (.int p2), .val (.int p3), .val (.int p4), .val (.int qt), .val (.ref rt), .unset, .unset, .unset] []))
        refine own_goF (fun _ k => XT.iconstV X101.here hx rfl (0 : Int32) (hb hby at_41) (by decide) k) ?_
        show own_F _ _ _ _ _ _ _ _ _ (T101.setTop (mkF m 42 #[.val (.int p0), .val (.int p1), .val (.int p2), .val (.int p3), .val (.int p4), .val (.int qt), .val (.ref rt), .unset, .unset, .unset] [(.int (0 : Int32))]))
        exact rest_qf _ (by decide)
      ·
        refine own_goF (fun _ k => XS.ifNo X101.here hx rfl (hb hby at_34) rfl (XT.i0_eq_f s_qf) k) ?_
        show own_F _ _ _ _ _ _ _ _ _ (T101.setTop (mkF m 37 #[.val (.int p0), .val (.int p1), .val (.int p2), .val (.int p3), .val (.int p4), .val (.int qt), .val (.ref rt), .unset, .unset, .unset] []))
        refine own_goF (fun _ k => XT.iconstV X101.here hx rfl (1 : Int32) (hb hby at_37) (by decide) k) ?_
        show own_F _ _ _ _ _ _ _ _ _ (T101.setTop (mkF m 38 #[.val (.int p0), .val (.int p1), .val (.int p2), .val (.int p3), .val (.int p4), .val (.int qt), .val (.ref rt), .unset, .unset, .unset] [(.int (1 : Int32))]))
        refine own_goF (fun _ k => XS.goto X101.here hx rfl (pc0 := 38) (pc' := 42) rfl (hb hby at_38) (by decide) (by decide) k) ?_
        show own_F _ _ _ _ _ _ _ _ _ (T101.setTop (mkF m 42 #[.val (.int p0), .val (.int p1), .val (.int p2), .val (.int p3), .val (.int p4), .val (.int qt), .val (.ref rt), .unset, .unset, .unset] [(.int (1 : Int32))]))
        exact rest_qf _ (by decide)
    by_cases s_qe : (p0 &&& (2 : Int32)) = 0
    ·
      refine own_goF (fun _ k => XS.ifYes X0.here hx rfl (pc0 := 16) (pc' := 23) rfl (hb hby at_16) rfl (XT.i0_eq_t s_qe) (by decide) (by decide) k) ?_
      show own_F _ _ _ _ _ _ _ _ _ (s₁.setTop (mkF m 23 #[.val (.int p0), .val (.int p1), .val (.int p2), .val (.int p3), .val (.int p4), .val (.int qt), .unset, .unset, .unset, .unset] []))
      refine own_goF (fun _ k => XT.iconstV X0.here hx rfl (0 : Int32) (hb hby at_23) (by decide) k) ?_
      show own_F _ _ _ _ _ _ _ _ _ (s₁.setTop (mkF m 24 #[.val (.int p0), .val (.int p1), .val (.int p2), .val (.int p3), .val (.int p4), .val (.int qt), .unset, .unset, .unset, .unset] [(.int (0 : Int32))]))
      exact rest_qe _ (by decide)
    ·
      refine own_goF (fun _ k => XS.ifNo X0.here hx rfl (hb hby at_16) rfl (XT.i0_eq_f s_qe) k) ?_
      show own_F _ _ _ _ _ _ _ _ _ (s₁.setTop (mkF m 19 #[.val (.int p0), .val (.int p1), .val (.int p2), .val (.int p3), .val (.int p4), .val (.int qt), .unset, .unset, .unset, .unset] []))
      refine own_goF (fun _ k => XT.iconstV X0.here hx rfl (1 : Int32) (hb hby at_19) (by decide) k) ?_
      show own_F _ _ _ _ _ _ _ _ _ (s₁.setTop (mkF m 20 #[.val (.int p0), .val (.int p1), .val (.int p2), .val (.int p3), .val (.int p4), .val (.int qt), .unset, .unset, .unset, .unset] [(.int (1 : Int32))]))
      refine own_goF (fun _ k => XS.goto X0.here hx rfl (pc0 := 20) (pc' := 24) rfl (hb hby at_20) (by decide) (by decide) k) ?_
      show own_F _ _ _ _ _ _ _ _ _ (s₁.setTop (mkF m 24 #[.val (.int p0), .val (.int p1), .val (.int p2), .val (.int p3), .val (.int p4), .val (.int qt), .unset, .unset, .unset, .unset] [(.int (1 : Int32))]))
      exact rest_qe _ (by decide)
  by_cases s_qt : (p0 &&& (1 : Int32)) = 0
  ·
    refine own_goF (fun _ k => XS.ifYes X0.here hx rfl (pc0 := 3) (pc' := 10) rfl (hb hby at_3) rfl (XT.i0_eq_t s_qt) (by decide) (by decide) k) ?_
    show own_F _ _ _ _ _ _ _ _ _ (s₁.setTop (mkF m 10 #[.val (.int p0), .val (.int p1), .val (.int p2), .val (.int p3), .val (.int p4), .unset, .unset, .unset, .unset, .unset] []))
    refine own_goF (fun _ k => XT.iconstV X0.here hx rfl (0 : Int32) (hb hby at_10) (by decide) k) ?_
    show own_F _ _ _ _ _ _ _ _ _ (s₁.setTop (mkF m 11 #[.val (.int p0), .val (.int p1), .val (.int p2), .val (.int p3), .val (.int p4), .unset, .unset, .unset, .unset, .unset] [(.int (0 : Int32))]))
    exact rest_qt _ (by decide)
  ·
    refine own_goF (fun _ k => XS.ifNo X0.here hx rfl (hb hby at_3) rfl (XT.i0_eq_f s_qt) k) ?_
    show own_F _ _ _ _ _ _ _ _ _ (s₁.setTop (mkF m 6 #[.val (.int p0), .val (.int p1), .val (.int p2), .val (.int p3), .val (.int p4), .unset, .unset, .unset, .unset, .unset] []))
    refine own_goF (fun _ k => XT.iconstV X0.here hx rfl (1 : Int32) (hb hby at_6) (by decide) k) ?_
    show own_F _ _ _ _ _ _ _ _ _ (s₁.setTop (mkF m 7 #[.val (.int p0), .val (.int p1), .val (.int p2), .val (.int p3), .val (.int p4), .unset, .unset, .unset, .unset, .unset] [(.int (1 : Int32))]))
    refine own_goF (fun _ k => XS.goto X0.here hx rfl (pc0 := 7) (pc' := 11) rfl (hb hby at_7) (by decide) (by decide) k) ?_
    show own_F _ _ _ _ _ _ _ _ _ (s₁.setTop (mkF m 11 #[.val (.int p0), .val (.int p1), .val (.int p2), .val (.int p3), .val (.int p4), .unset, .unset, .unset, .unset, .unset] [(.int (1 : Int32))]))
    exact rest_qt _ (by decide)
set_option maxRecDepth 65536 in
set_option maxHeartbeats 40000000 in
theorem comes_1 {Post : Tables → Env → Array Value → State → Outcome → State → Prop} (hpost : ∀ tb e args s v u, (limb_1_1.after args s (.returned v) u = true ∧ limb_1_2.after args s (.returned v) u = true ∧ True) → ReturnedEndW s (.returned v) u (Jvm.fieldLocs frame_1_writes args s ++ Jvm.arrayLocs frame_1_arrays args s ++ Jvm.staticLocs frame_1_statics s) 24 1152 → Post tb e args s (.returned v) u) :
    ArmFor flags0 classFile x code maxLocals ret World_1 tables_1 room_1 Calls_1 rest_1 Pre_1 Post := by
  intro l hfl _ _ p e ha hc hk s m args below hf hA hF happ hP
  obtain ⟨hcalls, hrest, hpre⟩ := hP
  obtain ⟨-, -, -, hnamed, -, -, -, hat⟩ := (Spec.applies_iff hf).mp happ
  obtain ⟨hg, hn⟩ := and_e (Cond.before_iff.mp (show (Jvm.Cond.and given_1 narrow_1).before args s = true from hpre))
  obtain ⟨hcount, hg⟩ := and_e hg
  obtain ⟨w0, w1, w2, w3, w4, rfl⟩ : ∃ w0 w1 w2 w3 w4 : Value, args = #[w0, w1, w2, w3, w4] := by
    have hs : args.size = 5 := by simpa [Cond.value, given_1] using hcount
    obtain ⟨L⟩ := args
    match L, hs with
    | [w0, w1, w2, w3, w4], _ => exact ⟨w0, w1, w2, w3, w4, rfl⟩
  have hw := fun d (hd : d ∈ tables_1) => atoms_spec (ws := Jvm.Cond.code x code maxLocals ret :: tables_1) hat d (List.mem_cons_of_mem _ hd)
  have hfit : Fit s := fun {y c} hc i hi => by
    obtain ⟨ha, rfl⟩ := Array.getElem?_eq_some_iff.mp hc
    have q := List.all_eq_true.mp ((Array.all_eq_true_iff_forall_mem.mp hF) _ (Array.getElem_mem ha)) i (List.mem_range.mpr hi)
    simpa [Array.getElem?_eq_getElem hi] using q
  obtain ⟨hg0, hg⟩ := and_e hg
  obtain ⟨i0, q0⟩ := is_v hg0
  obtain rfl : w0 = (.int i0) := Option.some.inj q0
  obtain ⟨hg1, hg⟩ := and_e hg
  obtain ⟨i1, q1⟩ := is_v hg1
  obtain rfl : w1 = (.int i1) := Option.some.inj q1
  obtain ⟨hg2, hg⟩ := and_e hg
  obtain ⟨i2, q2⟩ := is_v hg2
  obtain rfl : w2 = (.int i2) := Option.some.inj q2
  obtain ⟨hg3, hg⟩ := and_e hg
  obtain ⟨i3, q3⟩ := is_v hg3
  obtain rfl : w3 = (.int i3) := Option.some.inj q3
  have hg4 := hg
  obtain ⟨i4, q4⟩ := is_v hg4
  obtain rfl : w4 = (.int i4) := Option.some.inj q4
  obtain ⟨hsets, -⟩ := atoms_of jdkStatics_1 (show (jdkStatics_1.foldr Jvm.Cond.and restOwn_1).before _ s = true from hrest)
  obtain ⟨cs, ev_cs⟩ := is_v (Cond.before_iff.mp (hsets _ (List.mem_of_getElem? (i := 1) rfl)))
  have SC := Sta.start ev_cs (Or.inl (hsets _ (List.mem_of_getElem? (i := 0) rfl)))
  have ncs : ¬ cs = 0 := gotF (Cond.eq_ints ev_cs (Term.int_eval 0)) (not_v (Cond.before_iff.mp (hsets _ (List.mem_of_getElem? (i := 2) rfl))))
  have H0 : CHv s own_EL s.vm s.heap := CHv.start (own_EW hw) (fun q hq => by simp only [own_EL, List.mem_cons, List.not_mem_nil, or_false] at hq; subst hq; exact hcalls.1 ("java/lang/String", 7) (by simp [consts_1])) (hsets _ (List.mem_of_getElem? (i := 2) rfl)) (hw _ (List.mem_of_getElem? (i := 19) rfl)) (hw _ (List.mem_of_getElem? (i := 6) rfl))
  obtain ⟨n, o, h1, h2, h3, _, L, rfl, ⟨rfl, N⟩, -, hq⟩ := rm0 l s _ hw tables_1 i0 i1 i2 i3 i4 cs s.heap s.heap.size (Nat.le_refl _) (Old.start s) SC ncs p e ha hc hk s m _ below hf ((Spec.applies_iff_loose hf).mp happ).1 ⟨rfl, State.Warmed39.refl s, rfl, H0⟩ trivial
  refine ⟨n, _, h1, h2, h3, hpost _ _ _ _ _ _ ⟨Cond.after_iff.mpr rfl, Cond.after_iff.mpr (eq_i res_at (Term.int_eval (1)) rfl), trivial⟩ ⟨hq.1, hq.2.1, hq.2.2.1, (hq.2.2.2.sift fun y hy => Or.inr (N y hy)).mono (by decide) (by decide)⟩⟩
theorem main_1_1 : Claimed_1_1 := comes_1 fun _ _ _ _ _ _ h hF => ⟨h.1, hF⟩
theorem main_1_2 : Claimed_1_2 := comes_1 fun _ _ _ _ _ _ h hF => ⟨h.2.1, hF⟩
end Jvm.Pilot.@@N@@
namespace Jvm.Pilot.@@N@@
open Jvm Jvm.ClassFile Sem Op Lib Jvm.Free Jvm.Stand Jvm.Pilot.@@N@@.Jvm.D
/-! MADE BY PROGRAM (witnessworld.py) out of the Statement's table words and the real class files: 21 classes; the members and pool entries that the words name. The judged class is class 1, her method 2. -/
namespace start1
open Jvm.ClassFile
def u (s : String) : CpInfo := .utf8 (stringToUtf16 s)
/-- a pool by its gaps: so many unusable entries, then the entry; so many at the end -/
def gap : Nat → List CpInfo → List CpInfo
  | 0, r => r
  | n + 1, r => .unusable :: gap n r
def poolList (es : List (Nat × CpInfo)) (last : Nat) : List CpInfo := es.foldr (fun e r => gap e.1 (e.2 :: r)) (gap last [])
def pool (es : List (Nat × CpInfo)) (last : Nat) : Array CpInfo := ⟨poolList es last⟩
def fileOf (pool : Array CpInfo) (this : Nat) (attrs : Array Attribute := #[]) (ms : Array MethodInfo := #[]) (fl : Nat := 33) (sup : Nat := 0) (ifs : Array Nat := #[]) (fds : Array FieldInfo := #[]) : ClassFile where
  minorVersion := 0
  majorVersion := 65
  constantPool := pool
  accessFlags := fl
  thisClass := this
  superClass := sup
  interfaces := ifs
  fields := fds
  methods := ms
  attributes := attrs
def plain (name : String) (sup : Option ClassId) : Class where
  name := name
  kind := .ordinary
  loader := none
  accessFlags := 33
  super := sup
  interfaces := #[]
  cf := none
  fields := #[]
  methods := #[]
  instanceTypes := #[]
  staticTypes := #[]
  resolved := #[]
  callSites := []
  init := .initialized
  statics := none
  mirror := none

def pool0 : Array CpInfo := pool [(5, u "<init>"), (0, u "()V"), (1, .class_ 10), (1, u "java/lang/Object")] 113

def k0c0 : Code := { maxStack := 0, maxLocals := 1, code := object_method_1_code, exceptionTable := #[], attributes := #[] }
def k0m0 : Method := { name := "<init>", desc := "()V", sig := { parameters := [], returnType := none }, accessFlags := 1, code := some k0c0 }
/-- java/lang/Object -/
def k0 : Class := { plain "java/lang/Object" none with
  accessFlags := 33
  interfaces := #[]
  cf := some (fileOf pool0 8 #[] #[{ accessFlags := 1, nameIndex := 5, descriptorIndex := 6, attributes := #[] }] 33 0 #[] #[])
  fields := #[]
  methods := #[k0m0]
  instanceTypes := #[]
  staticTypes := #[]
  resolved := Array.replicate 124 none
  statics := none }

def pool1 : Array CpInfo := pool [(2, .class_ 4), (1, u "java/lang/Object"), (0, u "<init>"), (0, u "()V"), (0, .class_ 8), (0, u "java/lang/String"), (0, .methodref 7 10), (0, .nameAndType 5 11), (0, u "([C)V"), (0, .methodref 13 14), (0, .class_ 15), (0, .nameAndType 16 17), (0, u "com/example/arborkey/arborkey/ArgumentShownPinLaw"), (0, u "drawn"), (0, u "(ZII)Ljava/lang/String;"), (0, .class_ 19), (0, u "com/example/arborkey/arborkey/CommandLine$Argument"), (0, .methodref 18 21), (0, .nameAndType 5 22), (0, u "(Ljava/lang/String;Ljava/lang/String;)V"), (0, .methodref 18 24), (0, .nameAndType 25 26), (0, u "shown"), (0, u "()Ljava/lang/String;"), (5, u "law"), (0, u "(IIIII)Z")] 6

def k1m0 : Method := { name := "<init>", desc := "()V", sig := { parameters := [], returnType := none }, accessFlags := 2, code := none }
def k1c1 : Code := { maxStack := 5, maxLocals := 4, code := method_2_code, exceptionTable := #[], attributes := #[] }
def k1m1 : Method := { name := "drawn", desc := "(ZII)Ljava/lang/String;", sig := { parameters := [.boolean, .int, .int], returnType := some (.object "java/lang/String") }, accessFlags := 10, code := some k1c1 }
def k1c2 : Code := { maxStack := 4, maxLocals := 10, code := code, exceptionTable := #[], attributes := #[] }
def k1m2 : Method := { name := "law", desc := "(IIIII)Z", sig := { parameters := [.int, .int, .int, .int, .int], returnType := some .boolean }, accessFlags := 9, code := some k1c2 }
/-- com/example/arborkey/arborkey/ArgumentShownPinLaw -/
def k1 : Class := { plain "com/example/arborkey/arborkey/ArgumentShownPinLaw" (some 0) with
  accessFlags := 49
  interfaces := #[]
  cf := some (fileOf pool1 13 #[] #[{ accessFlags := 2, nameIndex := 5, descriptorIndex := 6, attributes := #[] }, { accessFlags := 10, nameIndex := 16, descriptorIndex := 17, attributes := #[] }, { accessFlags := 9, nameIndex := 32, descriptorIndex := 33, attributes := #[] }] 49 2 #[] #[])
  fields := #[]
  methods := #[k1m0, k1m1, k1m2]
  instanceTypes := #[]
  staticTypes := #[]
  resolved := Array.replicate 40 none
  statics := none }

def pool2 : Array CpInfo := pool [(1, .class_ 2), (0, u "java/io/Serializable"), (0, .class_ 4), (0, u "java/lang/Object")] 2

/-- java/io/Serializable -/
def k2 : Class := { plain "java/io/Serializable" (some 0) with
  accessFlags := 1537
  interfaces := #[]
  cf := some (fileOf pool2 1 #[] #[] 1537 3 #[] #[])
  fields := #[]
  methods := #[]
  instanceTypes := #[]
  staticTypes := #[]
  resolved := Array.replicate 7 none
  statics := none }

def pool3 : Array CpInfo := pool [(1, .class_ 2), (0, u "java/lang/Comparable"), (0, .class_ 4), (0, u "java/lang/Object")] 7

/-- java/lang/Comparable -/
def k3 : Class := { plain "java/lang/Comparable" (some 0) with
  accessFlags := 1537
  interfaces := #[]
  cf := some (fileOf pool3 1 #[] #[] 1537 3 #[] #[])
  fields := #[]
  methods := #[]
  instanceTypes := #[]
  staticTypes := #[]
  resolved := Array.replicate 12 none
  statics := none }

def pool4 : Array CpInfo := pool [(2, .class_ 4), (1, u "java/lang/CharSequence"), (42, .class_ 48), (0, u "java/lang/CharSequence$1CodePointIterator"), (10, .class_ 60), (0, u "java/lang/CharSequence$1CharIterator"), (5, .class_ 67), (0, u "java/lang/Object")] 63

/-- java/lang/CharSequence -/
def k4 : Class := { plain "java/lang/CharSequence" (some 0) with
  accessFlags := 1537
  interfaces := #[]
  cf := some (fileOf pool4 2 #[.nestMembers #[47, 59]] #[] 1537 66 #[] #[])
  fields := #[]
  methods := #[]
  instanceTypes := #[]
  staticTypes := #[]
  resolved := Array.replicate 131 none
  statics := none }

def pool5 : Array CpInfo := pool [(1, .class_ 2), (0, u "java/lang/constant/Constable"), (0, .class_ 4), (0, u "java/lang/Object")] 6

/-- java/lang/constant/Constable -/
def k5 : Class := { plain "java/lang/constant/Constable" (some 0) with
  accessFlags := 1537
  interfaces := #[]
  cf := some (fileOf pool5 1 #[] #[] 1537 3 #[] #[])
  fields := #[]
  methods := #[]
  instanceTypes := #[]
  staticTypes := #[]
  resolved := Array.replicate 11 none
  statics := none }

def pool6 : Array CpInfo := pool [(1, .class_ 2), (0, u "java/lang/constant/ConstantDesc"), (0, .class_ 4), (0, u "java/lang/Object")] 32

/-- java/lang/constant/ConstantDesc -/
def k6 : Class := { plain "java/lang/constant/ConstantDesc" (some 0) with
  accessFlags := 1537
  interfaces := #[]
  cf := some (fileOf pool6 1 #[] #[] 1537 3 #[] #[])
  fields := #[]
  methods := #[]
  instanceTypes := #[]
  staticTypes := #[]
  resolved := Array.replicate 37 none
  statics := none }

def pool7 : Array CpInfo := pool [(1, .methodref 2 3), (0, .class_ 4), (0, .nameAndType 5 6), (0, u "java/lang/Object"), (0, u "<init>"), (0, u "()V"), (0, .string 8), (0, u ""), (0, .fieldref 10 11), (0, .class_ 12), (0, .nameAndType 13 14), (0, u "java/lang/String"), (0, u "value"), (0, u "[B"), (0, .fieldref 10 16), (0, .nameAndType 17 18), (0, u "coder"), (0, u "B"), (2, u "hash"), (0, u "I"), (2, u "hashIsZero"), (0, u "Z"), (0, .methodref 10 28), (0, .nameAndType 5 29), (0, u "([CIILjava/lang/Void;)V"), (8, .fieldref 10 39), (0, .nameAndType 40 26), (0, u "COMPACT_STRINGS"), (1, .class_ 44), (1, u "java/lang/StringUTF16"), (0, u "compress"), (1, .methodref 42 48), (0, .nameAndType 49 50), (0, u "coderFromArrayLen"), (0, u "([BI)B"), (126, .methodref 42 178), (0, .nameAndType 45 179), (0, u "([CII)[B"), (395, .class_ 576), (0, u "java/lang/CharSequence"), (22, u "CASE_INSENSITIVE_ORDER"), (0, u "Ljava/util/Comparator;"), (409, u "([C)V"), (90, u "serialPersistentFields"), (0, u "[Ljava/io/ObjectStreamField;"), (0, .class_ 1104), (0, u "java/lang/String$CaseInsensitiveComparator"), (1, .class_ 1107), (0, u "java/io/Serializable"), (0, .class_ 1109), (0, u "java/lang/Comparable"), (0, .class_ 1111), (0, u "java/lang/constant/Constable"), (0, .class_ 1113), (0, u "java/lang/constant/ConstantDesc"), (2, u "serialVersionUID"), (0, u "J"), (3, u "REPL"), (0, u "C"), (2, u "LATIN1"), (1, u "UTF16")] 323

def k7m0 : Method := { name := "<init>", desc := "()V", sig := { parameters := [], returnType := none }, accessFlags := 1, code := none }
def k7c1 : Code := { maxStack := 5, maxLocals := 2, code := jdk_42_method_3_code, exceptionTable := #[], attributes := #[] }
def k7m1 : Method := { name := "<init>", desc := "([C)V", sig := { parameters := [(.array .char)], returnType := none }, accessFlags := 1, code := some k7c1 }
def k7c2 : Code := { maxStack := 4, maxLocals := 6, code := jdk_42_method_149_code, exceptionTable := #[], attributes := #[] }
def k7m2 : Method := { name := "<init>", desc := "([CIILjava/lang/Void;)V", sig := { parameters := [(.array .char), .int, .int, (.object "java/lang/Void")], returnType := none }, accessFlags := 2, code := some k7c2 }
/-- java/lang/String -/
def k7 : Class := { plain "java/lang/String" (some 0) with
  accessFlags := 49
  interfaces := #[2, 3, 4, 5, 6]
  cf := some (fileOf pool7 10 #[.nestMembers #[1103]] #[{ accessFlags := 1, nameIndex := 5, descriptorIndex := 6, attributes := #[] }, { accessFlags := 1, nameIndex := 5, descriptorIndex := 1010, attributes := #[] }, { accessFlags := 2, nameIndex := 5, descriptorIndex := 29, attributes := #[] }] 49 2 #[1106, 1108, 575, 1110, 1112] #[{ accessFlags := 18, nameIndex := 13, descriptorIndex := 14, attributes := #[] }, { accessFlags := 18, nameIndex := 17, descriptorIndex := 18, attributes := #[] }, { accessFlags := 2, nameIndex := 21, descriptorIndex := 22, attributes := #[] }, { accessFlags := 2, nameIndex := 25, descriptorIndex := 26, attributes := #[] }, { accessFlags := 26, nameIndex := 1116, descriptorIndex := 1117, attributes := #[] }, { accessFlags := 24, nameIndex := 40, descriptorIndex := 26, attributes := #[] }, { accessFlags := 26, nameIndex := 1101, descriptorIndex := 1102, attributes := #[] }, { accessFlags := 26, nameIndex := 1121, descriptorIndex := 1122, attributes := #[] }, { accessFlags := 25, nameIndex := 599, descriptorIndex := 600, attributes := #[] }, { accessFlags := 24, nameIndex := 1125, descriptorIndex := 18, attributes := #[] }, { accessFlags := 24, nameIndex := 1127, descriptorIndex := 18, attributes := #[] }])
  fields := #[{ name := "value", type := (.array .byte), accessFlags := 18, slot := 0, constantValue := 0 }, { name := "coder", type := .byte, accessFlags := 18, slot := 1, constantValue := 0 }, { name := "hash", type := .int, accessFlags := 2, slot := 2, constantValue := 0 }, { name := "hashIsZero", type := .boolean, accessFlags := 2, slot := 3, constantValue := 0 }, { name := "serialVersionUID", type := .long, accessFlags := 26, slot := 0, constantValue := 0 }, { name := "COMPACT_STRINGS", type := .boolean, accessFlags := 24, slot := 1, constantValue := 0 }, { name := "serialPersistentFields", type := (.array (.object "java/io/ObjectStreamField")), accessFlags := 26, slot := 2, constantValue := 0 }, { name := "REPL", type := .char, accessFlags := 26, slot := 3, constantValue := 0 }, { name := "CASE_INSENSITIVE_ORDER", type := (.object "java/util/Comparator"), accessFlags := 25, slot := 4, constantValue := 0 }, { name := "LATIN1", type := .byte, accessFlags := 24, slot := 5, constantValue := 0 }, { name := "UTF16", type := .byte, accessFlags := 24, slot := 6, constantValue := 0 }]
  methods := #[k7m0, k7m1, k7m2]
  instanceTypes := #[(.array .byte), .byte, .int, .boolean]
  staticTypes := #[.long, .boolean, (.array (.object "java/io/ObjectStreamField")), .char, (.object "java/util/Comparator"), .byte, .byte]
  resolved := Array.replicate 1451 none
  statics := some 0 }

def pool8 : Array CpInfo := pool [(1, .methodref 2 3), (0, .class_ 4), (0, .nameAndType 5 6), (0, u "java/lang/Object"), (0, u "<init>"), (0, u "()V"), (0, .class_ 8), (0, u "java/lang/Record")] 13

def k8c0 : Code := { maxStack := 1, maxLocals := 1, code := jdk_30_method_1_code, exceptionTable := #[], attributes := #[] }
def k8m0 : Method := { name := "<init>", desc := "()V", sig := { parameters := [], returnType := none }, accessFlags := 4, code := some k8c0 }
/-- java/lang/Record -/
def k8 : Class := { plain "java/lang/Record" (some 0) with
  accessFlags := 1057
  interfaces := #[]
  cf := some (fileOf pool8 7 #[] #[{ accessFlags := 4, nameIndex := 5, descriptorIndex := 6, attributes := #[] }] 1057 2 #[] #[])
  fields := #[]
  methods := #[k8m0]
  instanceTypes := #[]
  staticTypes := #[]
  resolved := Array.replicate 22 none
  statics := none }

def pool9 : Array CpInfo := pool [(1, .methodref 2 3), (0, .class_ 4), (0, .nameAndType 5 6), (0, u "java/lang/Record"), (0, u "<init>"), (0, u "()V"), (0, .fieldref 8 9), (0, .class_ 10), (0, .nameAndType 11 12), (0, u "com/example/arborkey/arborkey/CommandLine$Argument"), (0, u "text"), (0, u "Ljava/lang/String;"), (0, .fieldref 8 14), (0, .nameAndType 15 12), (0, u "platform"), (12, u "(Ljava/lang/String;Ljava/lang/String;)V"), (3, u "shown"), (0, u "()Ljava/lang/String;"), (8, .class_ 43), (0, u "com/example/arborkey/arborkey/CommandLine")] 20

def k9c0 : Code := { maxStack := 2, maxLocals := 3, code := prog_25_method_1_code, exceptionTable := #[], attributes := #[] }
def k9m0 : Method := { name := "<init>", desc := "(Ljava/lang/String;Ljava/lang/String;)V", sig := { parameters := [(.object "java/lang/String"), (.object "java/lang/String")], returnType := none }, accessFlags := 0, code := some k9c0 }
def k9c1 : Code := { maxStack := 1, maxLocals := 1, code := prog_25_method_2_code, exceptionTable := #[], attributes := #[] }
def k9m1 : Method := { name := "shown", desc := "()Ljava/lang/String;", sig := { parameters := [], returnType := some (.object "java/lang/String") }, accessFlags := 0, code := some k9c1 }
/-- com/example/arborkey/arborkey/CommandLine$Argument -/
def k9 : Class := { plain "com/example/arborkey/arborkey/CommandLine$Argument" (some 8) with
  accessFlags := 48
  interfaces := #[]
  cf := some (fileOf pool9 8 #[.nestHost 42] #[{ accessFlags := 0, nameIndex := 5, descriptorIndex := 28, attributes := #[] }, { accessFlags := 0, nameIndex := 32, descriptorIndex := 33, attributes := #[] }] 48 2 #[] #[{ accessFlags := 18, nameIndex := 11, descriptorIndex := 12, attributes := #[] }, { accessFlags := 18, nameIndex := 15, descriptorIndex := 12, attributes := #[] }])
  fields := #[{ name := "text", type := (.object "java/lang/String"), accessFlags := 18, slot := 0, constantValue := 0 }, { name := "platform", type := (.object "java/lang/String"), accessFlags := 18, slot := 1, constantValue := 0 }]
  methods := #[k9m0, k9m1]
  instanceTypes := #[(.object "java/lang/String"), (.object "java/lang/String")]
  staticTypes := #[]
  resolved := Array.replicate 64 none
  statics := none }

def pool10 : Array CpInfo := pool [(6, .class_ 8), (1, u "java/lang/Object"), (0, u "<init>"), (0, u "()V"), (1, .class_ 14), (1, u "java/lang/StringUTF16"), (31, u "$assertionsDisabled"), (0, u "Z"), (13, u "HI_BYTE_SHIFT"), (0, u "I"), (2, u "LO_BYTE_SHIFT"), (49, .methodref 12 116), (0, .nameAndType 117 118), (0, u "compress"), (0, u "([CI[BII)I"), (3, u "([CII)[B"), (138, u "coderFromArrayLen"), (0, u "([BI)B"), (106, .class_ 371), (1, u "java/lang/StringUTF16$LinesSpliterator"), (58, u "MAX_LENGTH"), (196, .class_ 628), (0, u "java/lang/StringUTF16$CodePointsSpliterator"), (0, .class_ 630), (0, u "java/lang/StringUTF16$CharsSpliterator")] 4

def k10m0 : Method := { name := "<init>", desc := "()V", sig := { parameters := [], returnType := none }, accessFlags := 0, code := none }
def k10c1 : Code := { maxStack := 2, maxLocals := 2, code := jdk_52_method_15_code, exceptionTable := #[], attributes := #[] }
def k10m1 : Method := { name := "coderFromArrayLen", desc := "([BI)B", sig := { parameters := [(.array .byte), .int], returnType := some .byte }, accessFlags := 8, code := some k10c1 }
def k10c2 : Code := { maxStack := 5, maxLocals := 6, code := jdk_52_method_16_code, exceptionTable := #[], attributes := #[] }
def k10m2 : Method := { name := "compress", desc := "([CII)[B", sig := { parameters := [(.array .char), .int, .int], returnType := some (.array .byte) }, accessFlags := 9, code := some k10c2 }
def k10c3 : Code := { maxStack := 3, maxLocals := 7, code := jdk_52_method_21_code, exceptionTable := #[], attributes := #[] }
def k10m3 : Method := { name := "compress", desc := "([CI[BII)I", sig := { parameters := [(.array .char), .int, (.array .byte), .int, .int], returnType := some .int }, accessFlags := 9, code := some k10c3 }
/-- java/lang/StringUTF16 -/
def k10 : Class := { plain "java/lang/StringUTF16" (some 0) with
  accessFlags := 48
  interfaces := #[]
  cf := some (fileOf pool10 12 #[.nestMembers #[627, 629, 369]] #[{ accessFlags := 0, nameIndex := 9, descriptorIndex := 10, attributes := #[] }, { accessFlags := 8, nameIndex := 261, descriptorIndex := 262, attributes := #[] }, { accessFlags := 9, nameIndex := 117, descriptorIndex := 122, attributes := #[] }, { accessFlags := 9, nameIndex := 117, descriptorIndex := 118, attributes := #[] }] 48 6 #[] #[{ accessFlags := 26, nameIndex := 61, descriptorIndex := 62, attributes := #[] }, { accessFlags := 26, nameIndex := 65, descriptorIndex := 62, attributes := #[] }, { accessFlags := 24, nameIndex := 430, descriptorIndex := 62, attributes := #[] }, { accessFlags := 4120, nameIndex := 46, descriptorIndex := 47, attributes := #[] }])
  fields := #[{ name := "HI_BYTE_SHIFT", type := .int, accessFlags := 26, slot := 0, constantValue := 0 }, { name := "LO_BYTE_SHIFT", type := .int, accessFlags := 26, slot := 1, constantValue := 0 }, { name := "MAX_LENGTH", type := .int, accessFlags := 24, slot := 2, constantValue := 0 }, { name := "$assertionsDisabled", type := .boolean, accessFlags := 4120, slot := 3, constantValue := 0 }]
  methods := #[k10m0, k10m1, k10m2, k10m3]
  instanceTypes := #[]
  staticTypes := #[.int, .int, .int, .boolean]
  resolved := Array.replicate 635 none
  statics := none }

def pool11 : Array CpInfo := pool [(4, .class_ 6), (1, u "java/lang/Object"), (0, u "<init>"), (0, u "()V"), (5, .class_ 16), (1, u "java/lang/StringLatin1"), (104, u "$assertionsDisabled"), (0, u "Z"), (98, .class_ 223), (1, u "java/lang/StringLatin1$LinesSpliterator"), (166, .class_ 391), (0, u "java/lang/StringLatin1$CharsSpliterator")] 3

def k11m0 : Method := { name := "<init>", desc := "()V", sig := { parameters := [], returnType := none }, accessFlags := 0, code := none }
/-- java/lang/StringLatin1 -/
def k11 : Class := { plain "java/lang/StringLatin1" (some 0) with
  accessFlags := 48
  interfaces := #[]
  cf := some (fileOf pool11 14 #[.nestMembers #[390, 221]] #[{ accessFlags := 0, nameIndex := 7, descriptorIndex := 8, attributes := #[] }] 48 4 #[] #[{ accessFlags := 4120, nameIndex := 121, descriptorIndex := 122, attributes := #[] }])
  fields := #[{ name := "$assertionsDisabled", type := .boolean, accessFlags := 4120, slot := 0, constantValue := 0 }]
  methods := #[k11m0]
  instanceTypes := #[]
  staticTypes := #[.boolean]
  resolved := Array.replicate 395 none
  statics := none }

def pool12 : Array CpInfo := pool [(2, .class_ 4), (1, u "java/lang/Object"), (0, u "<init>"), (0, u "()V"), (17, .class_ 26), (1, u "jdk/internal/util/Preconditions"), (28, .class_ 56), (0, u "jdk/internal/util/Preconditions$4"), (57, .class_ 115), (0, u "jdk/internal/util/Preconditions$1"), (7, u "SIOOBE_FORMATTER"), (0, u "Ljava/util/function/BiFunction;"), (0, .class_ 126), (0, u "jdk/internal/util/Preconditions$2"), (3, u "AIOOBE_FORMATTER"), (0, .class_ 132), (0, u "jdk/internal/util/Preconditions$3"), (3, u "IOOBE_FORMATTER")] 57

def k12m0 : Method := { name := "<init>", desc := "()V", sig := { parameters := [], returnType := none }, accessFlags := 1, code := none }
/-- jdk/internal/util/Preconditions -/
def k12 : Class := { plain "jdk/internal/util/Preconditions" (some 0) with
  accessFlags := 33
  interfaces := #[]
  cf := some (fileOf pool12 24 #[.nestMembers #[55, 131, 125, 114]] #[{ accessFlags := 1, nameIndex := 5, descriptorIndex := 6, attributes := #[] }] 33 2 #[] #[{ accessFlags := 25, nameIndex := 123, descriptorIndex := 124, attributes := #[] }, { accessFlags := 25, nameIndex := 130, descriptorIndex := 124, attributes := #[] }, { accessFlags := 25, nameIndex := 136, descriptorIndex := 124, attributes := #[] }])
  fields := #[{ name := "SIOOBE_FORMATTER", type := (.object "java/util/function/BiFunction"), accessFlags := 25, slot := 0, constantValue := 0 }, { name := "AIOOBE_FORMATTER", type := (.object "java/util/function/BiFunction"), accessFlags := 25, slot := 1, constantValue := 0 }, { name := "IOOBE_FORMATTER", type := (.object "java/util/function/BiFunction"), accessFlags := 25, slot := 2, constantValue := 0 }]
  methods := #[k12m0]
  instanceTypes := #[]
  staticTypes := #[(.object "java/util/function/BiFunction"), (.object "java/util/function/BiFunction"), (.object "java/util/function/BiFunction")]
  resolved := Array.replicate 194 none
  statics := some 1 }

def pool13 : Array CpInfo := pool [(9, u "<init>"), (6, .class_ 18), (1, u "java/lang/Object"), (0, u "()V"), (1, .class_ 23), (1, u "jdk/internal/util/ArraysSupport"), (0, u "LOG2_ARRAY_LONG_INDEX_SCALE"), (0, u "I"), (2, u "U"), (0, u "Ljdk/internal/misc/Unsafe;"), (8, u "BIG_ENDIAN"), (0, u "Z"), (8, u "LOG2_BYTE_BIT_SIZE"), (4, u "LOG2_ARRAY_INT_INDEX_SCALE"), (54, u "JLA"), (0, u "Ljdk/internal/access/JavaLangAccess;"), (11, u "LOG2_ARRAY_BOOLEAN_INDEX_SCALE"), (9, u "LOG2_ARRAY_BYTE_INDEX_SCALE"), (5, u "LOG2_ARRAY_CHAR_INDEX_SCALE"), (5, u "LOG2_ARRAY_SHORT_INDEX_SCALE"), (18, u "LOG2_ARRAY_FLOAT_INDEX_SCALE"), (24, u "LOG2_ARRAY_DOUBLE_INDEX_SCALE"), (89, u "T_BOOLEAN"), (2, u "T_CHAR"), (1, u "T_FLOAT"), (1, u "T_DOUBLE"), (1, u "T_BYTE"), (1, u "T_SHORT"), (1, u "T_INT"), (1, u "T_LONG"), (1, u "SOFT_MAX_ARRAY_LENGTH")] 83

def k13m0 : Method := { name := "<init>", desc := "()V", sig := { parameters := [], returnType := none }, accessFlags := 2, code := none }
/-- jdk/internal/util/ArraysSupport -/
def k13 : Class := { plain "jdk/internal/util/ArraysSupport" (some 0) with
  accessFlags := 33
  interfaces := #[]
  cf := some (fileOf pool13 21 #[] #[{ accessFlags := 2, nameIndex := 9, descriptorIndex := 19, attributes := #[] }] 33 16 #[] #[{ accessFlags := 24, nameIndex := 28, descriptorIndex := 29, attributes := #[] }, { accessFlags := 26, nameIndex := 38, descriptorIndex := 39, attributes := #[] }, { accessFlags := 25, nameIndex := 121, descriptorIndex := 25, attributes := #[] }, { accessFlags := 25, nameIndex := 131, descriptorIndex := 25, attributes := #[] }, { accessFlags := 25, nameIndex := 137, descriptorIndex := 25, attributes := #[] }, { accessFlags := 25, nameIndex := 143, descriptorIndex := 25, attributes := #[] }, { accessFlags := 25, nameIndex := 53, descriptorIndex := 25, attributes := #[] }, { accessFlags := 25, nameIndex := 24, descriptorIndex := 25, attributes := #[] }, { accessFlags := 25, nameIndex := 162, descriptorIndex := 25, attributes := #[] }, { accessFlags := 25, nameIndex := 187, descriptorIndex := 25, attributes := #[] }, { accessFlags := 26, nameIndex := 48, descriptorIndex := 25, attributes := #[] }, { accessFlags := 25, nameIndex := 277, descriptorIndex := 25, attributes := #[] }, { accessFlags := 25, nameIndex := 280, descriptorIndex := 25, attributes := #[] }, { accessFlags := 25, nameIndex := 282, descriptorIndex := 25, attributes := #[] }, { accessFlags := 25, nameIndex := 284, descriptorIndex := 25, attributes := #[] }, { accessFlags := 25, nameIndex := 286, descriptorIndex := 25, attributes := #[] }, { accessFlags := 25, nameIndex := 288, descriptorIndex := 25, attributes := #[] }, { accessFlags := 25, nameIndex := 290, descriptorIndex := 25, attributes := #[] }, { accessFlags := 25, nameIndex := 292, descriptorIndex := 25, attributes := #[] }, { accessFlags := 26, nameIndex := 108, descriptorIndex := 109, attributes := #[] }, { accessFlags := 25, nameIndex := 294, descriptorIndex := 25, attributes := #[] }])
  fields := #[{ name := "U", type := (.object "jdk/internal/misc/Unsafe"), accessFlags := 24, slot := 0, constantValue := 0 }, { name := "BIG_ENDIAN", type := .boolean, accessFlags := 26, slot := 1, constantValue := 0 }, { name := "LOG2_ARRAY_BOOLEAN_INDEX_SCALE", type := .int, accessFlags := 25, slot := 2, constantValue := 0 }, { name := "LOG2_ARRAY_BYTE_INDEX_SCALE", type := .int, accessFlags := 25, slot := 3, constantValue := 0 }, { name := "LOG2_ARRAY_CHAR_INDEX_SCALE", type := .int, accessFlags := 25, slot := 4, constantValue := 0 }, { name := "LOG2_ARRAY_SHORT_INDEX_SCALE", type := .int, accessFlags := 25, slot := 5, constantValue := 0 }, { name := "LOG2_ARRAY_INT_INDEX_SCALE", type := .int, accessFlags := 25, slot := 6, constantValue := 0 }, { name := "LOG2_ARRAY_LONG_INDEX_SCALE", type := .int, accessFlags := 25, slot := 7, constantValue := 0 }, { name := "LOG2_ARRAY_FLOAT_INDEX_SCALE", type := .int, accessFlags := 25, slot := 8, constantValue := 0 }, { name := "LOG2_ARRAY_DOUBLE_INDEX_SCALE", type := .int, accessFlags := 25, slot := 9, constantValue := 0 }, { name := "LOG2_BYTE_BIT_SIZE", type := .int, accessFlags := 26, slot := 10, constantValue := 0 }, { name := "T_BOOLEAN", type := .int, accessFlags := 25, slot := 11, constantValue := 0 }, { name := "T_CHAR", type := .int, accessFlags := 25, slot := 12, constantValue := 0 }, { name := "T_FLOAT", type := .int, accessFlags := 25, slot := 13, constantValue := 0 }, { name := "T_DOUBLE", type := .int, accessFlags := 25, slot := 14, constantValue := 0 }, { name := "T_BYTE", type := .int, accessFlags := 25, slot := 15, constantValue := 0 }, { name := "T_SHORT", type := .int, accessFlags := 25, slot := 16, constantValue := 0 }, { name := "T_INT", type := .int, accessFlags := 25, slot := 17, constantValue := 0 }, { name := "T_LONG", type := .int, accessFlags := 25, slot := 18, constantValue := 0 }, { name := "JLA", type := (.object "jdk/internal/access/JavaLangAccess"), accessFlags := 26, slot := 19, constantValue := 0 }, { name := "SOFT_MAX_ARRAY_LENGTH", type := .int, accessFlags := 25, slot := 20, constantValue := 0 }]
  methods := #[k13m0]
  instanceTypes := #[]
  staticTypes := #[(.object "jdk/internal/misc/Unsafe"), .boolean, .int, .int, .int, .int, .int, .int, .int, .int, .int, .int, .int, .int, .int, .int, .int, .int, .int, (.object "jdk/internal/access/JavaLangAccess"), .int]
  resolved := Array.replicate 378 none
  statics := none }

def pool14 : Array CpInfo := pool [(1, u "java/lang/Cloneable"), (0, .class_ 1), (0, u "java/lang/Object"), (0, .class_ 3)] 3

/-- java/lang/Cloneable -/
def k14 : Class := { plain "java/lang/Cloneable" (some 0) with
  accessFlags := 1537
  interfaces := #[]
  cf := some (fileOf pool14 2 #[] #[] 1537 4 #[] #[])
  fields := #[]
  methods := #[]
  instanceTypes := #[]
  staticTypes := #[]
  resolved := Array.replicate 8 none
  statics := none }

/-- the primitive byte -/
def k15 : Class := { plain "byte" none with kind := .primitive 'B', accessFlags := 0x411 }
/-- [B -/
def k16 : Class := { plain "[B" (some 0) with kind := .array 15 .byte, interfaces := #[14, 2], accessFlags := 1041 }

/-- the primitive char -/
def k17 : Class := { plain "char" none with kind := .primitive 'C', accessFlags := 0x411 }
/-- [C -/
def k18 : Class := { plain "[C" (some 0) with kind := .array 17 .char, interfaces := #[14, 2], accessFlags := 1041 }

/-- the primitive int -/
def k19 : Class := { plain "int" none with kind := .primitive 'I', accessFlags := 0x411 }
/-- [I -/
def k20 : Class := { plain "[I" (some 0) with kind := .array 19 .int, interfaces := #[14, 2], accessFlags := 1041 }

def heap : Heap := #[{ cls := 7, slots := #[.long 0, .int 1, .null, .int 0, .null, .int 0, .int 0], vm := .statics 7 },
  { cls := 12, slots := #[.null, .null, .null], vm := .statics 12 }]
def classes : Array Class := #[k0, k1, k2, k3, k4, k5, k6, k7, k8, k9, k10, k11, k12, k13, k14, k15, k16, k17, k18, k19, k20]
def interned : List (Array UInt16 × Addr) := []
def slotsUsed : Nat := 10
def theMethod : MethodId := ⟨1, 2⟩
def args0 : Array Value := #[.int 7, .int 1, .int 2, .int 3, .int 4]
def aboutOver (below : List Frame) : State where
  vm := { classes := classes, interned := interned.toArray }
  heap := heap
  slotsUsed := slotsUsed
  threads := #[{ frames := .invoking theMethod args0 :: below }]
def below0 : List Frame := [.native { method := ⟨0, 0⟩, args := #[] }]
def about1 : State := aboutOver below0
def p0 : Program := .bare "" "" ""
def e0 : Env := launch0.env 0 0 0
theorem w_frames : about1.frames = Frame.invoking theMethod args0 :: below0 := rfl
set_option maxRecDepth 65536 in
theorem w_args : argsFit about1.vm theMethod args0 = true := by decide +kernel
set_option maxRecDepth 65536 in
theorem w_heap : heapFits about1 = true := by decide +kernel
set_option maxRecDepth 65536 in
theorem w_runnable : about1.curStatus? = some .runnable := by decide +kernel
set_option maxRecDepth 65536 in
theorem w_alone : about1.alone = true := by decide +kernel
set_option maxRecDepth 65536 in
theorem w_named : about1.methodNamed? x = some theMethod := by decide +kernel
set_option maxRecDepth 65536 in
theorem w_hears : about1.hears theMethod below0 = true := by decide +kernel
set_option maxRecDepth 65536 in
theorem w_ripe : about1.ripe theMethod args0 below0 = true := by decide +kernel
theorem w_running : about1.status = .running := rfl
set_option maxRecDepth 65536 in
theorem w_room : about1.hasRoom e0.platform room_1 = true :=
  launch0.hasRoom_least _ room_1 (by decide +kernel) (by decide +kernel) (by decide +kernel) (by decide +kernel) (by decide +kernel) (by decide +kernel)
theorem allAtoms_all (ts : List Jvm.Cond) (a : Array Jvm.Value) (st : Jvm.State) : (allAtoms ts).before a st = ts.all (fun c => c.before a st) := by
  induction ts with
  | nil => rfl
  | cons c t ih =>
    show (Jvm.Cond.and c (allAtoms t)).before a st = _
    rw [Jvm.Cond.before_and, ih, List.all_cons]
def words1 : List Jvm.Cond := Jvm.Cond.code x code maxLocals ret :: tables_1
/-- a 'code' word, met by the world's own term for the bytes: nothing is compared byte by byte -/
theorem code_word {y : MethodName} {bytes : ByteArray} {mx : Nat} {rt : Option FieldType} {a : Array Value} {s : State} {m : MethodId} {meth : Method} {c : Code} (h1 : s.methodNamed? y = some m) (h2 : s.vm.method? m = some meth) (h3 : meth.code = some c) (h4 : c.code = bytes)
    (h5 : (c.maxLocals == mx && c.exceptionTable.isEmpty && decide (c.maxStack ≤ mostOperands) && decide (meth.sig.returnType = rt) && !meth.locks && decide (parseMethodDescriptor y.desc = some meth.sig)) = true) : (Jvm.Cond.code y bytes mx rt).before a s = true := by
  simp only [Bool.and_eq_true, beq_iff_eq, Bool.not_eq_true', decide_eq_true_eq] at h5
  obtain ⟨⟨⟨⟨⟨g1, g2⟩, g3⟩, g4⟩, g5⟩, g6⟩ := h5
  simp [Cond.before, Cond.holds, Cond.value, h1, h2, h3, h4, g1, g2, g3, g4, g5, g6]
def isCode : Jvm.Cond → Bool
  | .code _ _ _ _ => true
  | _ => false
theorem all_split {L : List Jvm.Cond} {P : Jvm.Cond → Bool} (h1 : L.all (fun c => isCode c || P c) = true) (h2 : ∀ c ∈ L.filter isCode, P c = true) : L.all P = true := by
  refine List.all_eq_true.mpr fun c hc => ?_
  have h := List.all_eq_true.mp h1 c hc
  rcases Bool.eq_false_or_eq_true (isCode c) with hi | hi
  · exact h2 c (List.mem_filter.mpr ⟨hc, hi⟩)
  · simpa [hi] using h
set_option maxRecDepth 65536 in
theorem w_c0 : (Jvm.Cond.code x code maxLocals ret).before args0 about1 = true := code_word (m := ⟨1, 2⟩) (meth := k1m2) (c := k1c2) (by decide +kernel) rfl rfl rfl (by decide +kernel)
set_option maxRecDepth 65536 in
theorem w_c1 : (Jvm.Cond.code ({ cls := "com/example/arborkey/arborkey/ArgumentShownPinLaw", name := "drawn", desc := "(ZII)Ljava/lang/String;" } : Jvm.MethodName) method_2_code (4 : Nat) (Option.some (Jvm.ClassFile.FieldType.object "java/lang/String"))).before args0 about1 = true := code_word (m := ⟨1, 1⟩) (meth := k1m1) (c := k1c1) (by decide +kernel) rfl rfl rfl (by decide +kernel)
set_option maxRecDepth 65536 in
theorem w_c2 : (Jvm.Cond.code ({ cls := "java/lang/String", name := "<init>", desc := "([C)V" } : Jvm.MethodName) jdk_42_method_3_code (2 : Nat) (Option.none : Option Jvm.ClassFile.FieldType)).before args0 about1 = true := code_word (m := ⟨7, 1⟩) (meth := k7m1) (c := k7c1) (by decide +kernel) rfl rfl rfl (by decide +kernel)
set_option maxRecDepth 65536 in
theorem w_c3 : (Jvm.Cond.code ({ cls := "java/lang/String", name := "<init>", desc := "([CIILjava/lang/Void;)V" } : Jvm.MethodName) jdk_42_method_149_code (6 : Nat) (Option.none : Option Jvm.ClassFile.FieldType)).before args0 about1 = true := code_word (m := ⟨7, 2⟩) (meth := k7m2) (c := k7c2) (by decide +kernel) rfl rfl rfl (by decide +kernel)
set_option maxRecDepth 65536 in
theorem w_c4 : (Jvm.Cond.code ({ cls := "java/lang/Object", name := "<init>", desc := "()V" } : Jvm.MethodName) object_method_1_code (1 : Nat) (Option.none : Option Jvm.ClassFile.FieldType)).before args0 about1 = true := code_word (m := ⟨0, 0⟩) (meth := k0m0) (c := k0c0) (by decide +kernel) rfl rfl rfl (by decide +kernel)
set_option maxRecDepth 65536 in
theorem w_c5 : (Jvm.Cond.code ({ cls := "com/example/arborkey/arborkey/CommandLine$Argument", name := "<init>", desc := "(Ljava/lang/String;Ljava/lang/String;)V" } : Jvm.MethodName) prog_25_method_1_code (3 : Nat) (Option.none : Option Jvm.ClassFile.FieldType)).before args0 about1 = true := code_word (m := ⟨9, 0⟩) (meth := k9m0) (c := k9c0) (by decide +kernel) rfl rfl rfl (by decide +kernel)
set_option maxRecDepth 65536 in
theorem w_c6 : (Jvm.Cond.code ({ cls := "java/lang/Record", name := "<init>", desc := "()V" } : Jvm.MethodName) jdk_30_method_1_code (1 : Nat) (Option.none : Option Jvm.ClassFile.FieldType)).before args0 about1 = true := code_word (m := ⟨8, 0⟩) (meth := k8m0) (c := k8c0) (by decide +kernel) rfl rfl rfl (by decide +kernel)
set_option maxRecDepth 65536 in
theorem w_c7 : (Jvm.Cond.code ({ cls := "com/example/arborkey/arborkey/CommandLine$Argument", name := "shown", desc := "()Ljava/lang/String;" } : Jvm.MethodName) prog_25_method_2_code (1 : Nat) (Option.some (Jvm.ClassFile.FieldType.object "java/lang/String"))).before args0 about1 = true := code_word (m := ⟨9, 1⟩) (meth := k9m1) (c := k9c1) (by decide +kernel) rfl rfl rfl (by decide +kernel)
set_option maxRecDepth 65536 in
theorem w_c8 : (Jvm.Cond.code ({ cls := "java/lang/StringUTF16", name := "compress", desc := "([CII)[B" } : Jvm.MethodName) jdk_52_method_16_code (6 : Nat) (Option.some (Jvm.ClassFile.FieldType.array Jvm.ClassFile.FieldType.byte))).before args0 about1 = true := code_word (m := ⟨10, 2⟩) (meth := k10m2) (c := k10c2) (by decide +kernel) rfl rfl rfl (by decide +kernel)
set_option maxRecDepth 65536 in
theorem w_c9 : (Jvm.Cond.code ({ cls := "java/lang/StringUTF16", name := "compress", desc := "([CI[BII)I" } : Jvm.MethodName) jdk_52_method_21_code (7 : Nat) (Option.some Jvm.ClassFile.FieldType.int)).before args0 about1 = true := code_word (m := ⟨10, 3⟩) (meth := k10m3) (c := k10c3) (by decide +kernel) rfl rfl rfl (by decide +kernel)
set_option maxRecDepth 65536 in
theorem w_c10 : (Jvm.Cond.code ({ cls := "java/lang/StringUTF16", name := "coderFromArrayLen", desc := "([BI)B" } : Jvm.MethodName) jdk_52_method_15_code (2 : Nat) (Option.some Jvm.ClassFile.FieldType.byte)).before args0 about1 = true := code_word (m := ⟨10, 1⟩) (meth := k10m1) (c := k10c1) (by decide +kernel) rfl rfl rfl (by decide +kernel)
def codes1 : List Jvm.Cond := [Jvm.Cond.code x code maxLocals ret, Jvm.Cond.code ({ cls := "com/example/arborkey/arborkey/ArgumentShownPinLaw", name := "drawn", desc := "(ZII)Ljava/lang/String;" } : Jvm.MethodName) method_2_code (4 : Nat) (Option.some (Jvm.ClassFile.FieldType.object "java/lang/String")), Jvm.Cond.code ({ cls := "java/lang/String", name := "<init>", desc := "([C)V" } : Jvm.MethodName) jdk_42_method_3_code (2 : Nat) (Option.none : Option Jvm.ClassFile.FieldType), Jvm.Cond.code ({ cls := "java/lang/String", name := "<init>", desc := "([CIILjava/lang/Void;)V" } : Jvm.MethodName) jdk_42_method_149_code (6 : Nat) (Option.none : Option Jvm.ClassFile.FieldType), Jvm.Cond.code ({ cls := "java/lang/Object", name := "<init>", desc := "()V" } : Jvm.MethodName) object_method_1_code (1 : Nat) (Option.none : Option Jvm.ClassFile.FieldType), Jvm.Cond.code ({ cls := "com/example/arborkey/arborkey/CommandLine$Argument", name := "<init>", desc := "(Ljava/lang/String;Ljava/lang/String;)V" } : Jvm.MethodName) prog_25_method_1_code (3 : Nat) (Option.none : Option Jvm.ClassFile.FieldType), Jvm.Cond.code ({ cls := "java/lang/Record", name := "<init>", desc := "()V" } : Jvm.MethodName) jdk_30_method_1_code (1 : Nat) (Option.none : Option Jvm.ClassFile.FieldType), Jvm.Cond.code ({ cls := "com/example/arborkey/arborkey/CommandLine$Argument", name := "shown", desc := "()Ljava/lang/String;" } : Jvm.MethodName) prog_25_method_2_code (1 : Nat) (Option.some (Jvm.ClassFile.FieldType.object "java/lang/String")), Jvm.Cond.code ({ cls := "java/lang/StringUTF16", name := "compress", desc := "([CII)[B" } : Jvm.MethodName) jdk_52_method_16_code (6 : Nat) (Option.some (Jvm.ClassFile.FieldType.array Jvm.ClassFile.FieldType.byte)), Jvm.Cond.code ({ cls := "java/lang/StringUTF16", name := "compress", desc := "([CI[BII)I" } : Jvm.MethodName) jdk_52_method_21_code (7 : Nat) (Option.some Jvm.ClassFile.FieldType.int), Jvm.Cond.code ({ cls := "java/lang/StringUTF16", name := "coderFromArrayLen", desc := "([BI)B" } : Jvm.MethodName) jdk_52_method_15_code (2 : Nat) (Option.some Jvm.ClassFile.FieldType.byte)]
set_option maxRecDepth 65536 in
theorem codes_eq : words1.filter isCode = codes1 := rfl
theorem w_codes : ∀ c ∈ words1.filter isCode, c.before args0 about1 = true := by
  rw [codes_eq]
  intro c hc
  simp only [codes1, List.mem_cons, List.not_mem_nil, or_false] at hc
  rcases hc with rfl | rfl | rfl | rfl | rfl | rfl | rfl | rfl | rfl | rfl | rfl
  · exact w_c0
  · exact w_c1
  · exact w_c2
  · exact w_c3
  · exact w_c4
  · exact w_c5
  · exact w_c6
  · exact w_c7
  · exact w_c8
  · exact w_c9
  · exact w_c10
set_option maxRecDepth 65536 in
theorem w_t1 : (words1.take 24).all (fun c => isCode c || c.before args0 about1) = true := by decide +kernel
set_option maxRecDepth 65536 in
theorem w_t2 : ((words1.drop 24).take 24).all (fun c => isCode c || c.before args0 about1) = true := by decide +kernel
set_option maxRecDepth 65536 in
theorem w_t3 : ((words1.drop 24).drop 24).all (fun c => isCode c || c.before args0 about1) = true := by decide +kernel
theorem w_tables : (allAtoms (Jvm.Cond.code x code maxLocals ret :: tables_1)).before args0 about1 = true := by
  rw [allAtoms_all]
  show words1.all (fun c => c.before args0 about1) = true
  refine all_split ?_ w_codes
  rw [← List.take_append_drop 24 words1, List.all_append, w_t1, ← List.take_append_drop 24 (words1.drop 24), List.all_append, w_t2, w_t3]
  rfl
set_option maxRecDepth 65536 in
theorem w_rest : rest_1_c.before args0 about1 = true := by decide +kernel
set_option maxRecDepth 65536 in
theorem w_case : (Jvm.Cond.and given_1 narrow_1).before args0 about1 = true := by decide +kernel
set_option maxRecDepth 65536 in
theorem w_consts : constsHeld consts_1 about1 := Jvm.Lit.constsHeldB_iff.mp (by decide +kernel)
theorem w_applies : (headSpec (Jvm.Cond.code x code maxLocals ret :: tables_1) room_1).applies x e0.platform about1 = true :=
  (Spec.applies_iff w_frames).mpr ⟨w_running, w_runnable, w_alone, w_named, w_hears, w_ripe, w_room, w_tables⟩
theorem atStart : AtStart classFile x code maxLocals ret World_1 tables_1 room_1 Calls_1 rest_1 Pre_1 launch0 p0 e0 about1 theMethod args0 below0 :=
  ⟨lists_1, trivial, launch0.admits_env _ _ _, launch0.least_env, fairChoices_fair.cas, fairChoices_fair.clock, w_frames, w_args, w_heap, w_applies, ⟨w_consts, trivial⟩, w_rest, w_case⟩
end start1
theorem witness_1 : WitnessClaimed_1 := ⟨start1.p0, start1.e0, start1.about1, start1.theMethod, start1.args0, start1.below0, start1.atStart⟩
end Jvm.Pilot.@@N@@
