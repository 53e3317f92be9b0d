import JvmDerived
import JvmDerived.Pilot.@@N@@Statement
import JvmDerived.Pilot.@@N@@Code
set_option linter.unusedVariables false
set_option linter.unusedSimpArgs false
namespace Jvm.Pilot.@@N@@
open Jvm Jvm.ClassFile Sem Op Lib Jvm.Free Jvm.Stand Jvm.LawKit Jvm.RoadKit Bundle Jvm.Pilot.@@N@@.Jvm.D
section Own
variable {p : Program} {l : Launch} {e : Env} {R : Room} {s : State} {m : MethodId} {args : Array Value} {below : List Frame} {meth : Method} {c : Code} {T : State} {locs : List Loc} {cells slots : Nat} {Z : State} {a0 : Array Value} {h : Heap}
/-- the walk ends from A: it returns, Q holds, the frame is kept -/
def own_E (p : Program) (e : Env) (below : List Frame) (s : State) (Q : Option Value → Heap → List Loc → Prop) (K N : Nat) (A : State) : Prop :=
  ∃ t o, Steps p.tables e below A t ∧ t.status = .running ∧ Ended t below o ∧ ∃ v L, o = .returned v ∧ Q v t.heap L ∧ FrameEnd s o t L K N
variable {Q : Option Value → Heap → List Loc → Prop} {K N : Nat} {A A' : State}
theorem own_go (h : ∀ t, Steps p.tables e below A' t → Steps p.tables e below A t) (k : own_E p e below s Q K N A') : own_E p e below s Q K N A := by
  obtain ⟨t, o, h1, h2⟩ := k
  exact ⟨t, o, h _ h1, h2⟩
theorem own_ret (X : Stand p l e R s m args below meth c T locs cells slots) (hx : p.tables.exec = Jvm.exec) {pc : Nat} {Ls : Array Slot} {w : Value} {t : FieldType} {i : Instr} {rest : List Value} (hret : meth.sig.returnType = some t) (hlk : meth.locks = false) (hn : narrow t w = w)
    (hi : (i = .ireturn ∧ (t = .int ∨ t = .boolean ∨ t = .byte ∨ t = .char ∨ t = .short) ∧ ∃ z, w = .int z) ∨ (i = .lreturn ∧ t = .long ∧ ∃ z, w = .long z) ∨ (i = .dreturn ∧ t = .double ∧ ∃ z, w = .double z) ∨ (i = .freturn ∧ t = .float ∧ ∃ z, w = .float z) ∨ (i = .areturn ∧ t.isReference = true ∧ w.isRef = true))
    (hd : decode c.code pc = .ok (i, 1)) (hQ : Q (some w) T.heap locs) (hK : cells ≤ K) (hN : slots ≤ N) : own_E p e below s Q K N (T.setTop (mkF m pc Ls (w :: rest))) := by
  obtain ⟨fs, hr, hrun, hended, hW, hsame⟩ := X.leave (v := some w) (fun h => by rw [hret] at h; cases h) hlk
  exact ⟨_, _, retOut X hx hret hn hi hd hr, hrun, hended, _, _, rfl, hQ, ⟨_, rfl⟩, hW, hsame.mono hK hN⟩
theorem own_ret0 (X : Stand p l e R s m args below meth c T locs cells slots) (hx : p.tables.exec = Jvm.exec) {pc : Nat} {Ls : Array Slot} (hret : meth.sig.returnType = none) (hlk : meth.locks = false)
    (hd : decode c.code pc = .ok (.return_, 1)) (hQ : Q none T.heap locs) (hK : cells ≤ K) (hN : slots ≤ N) : own_E p e below s Q K N (T.setTop (mkF m pc Ls [])) := by
  obtain ⟨fs, hr, hrun, hended, hW, hsame⟩ := X.leave (v := none) (fun _ => rfl) hlk
  exact ⟨_, _, X.returnOut hx hret hd hr, hrun, hended, _, _, rfl, hQ, ⟨_, rfl⟩, hW, hsame.mono hK hN⟩
/-- what a callee is asked: its contract -/
abbrev own_M (l : Launch) (y : MethodName) (bytes : ByteArray) (maxL : Nat) (ret : Option FieldType) (rm : Room) (Z : State) (as' : Array Value) (h : Heap) (Q : Option Value → Heap → List Loc → Prop) : Prop :=
  MetFree l y (head1 [Jvm.Cond.code y bytes maxL ret] rm) (fun a U => a = as' ∧ Z.Warmed39 U.vm ∧ U.heap = h) (fun _ _ _ _ _ => True) (fun _ U o U' => ∃ v L, o = .returned v ∧ Q v U'.heap L ∧ FrameEnd U o U' L rm.cells rm.slots)
theorem own_callS (X : Stand p l e R s m args below meth c T locs cells slots) (hx : p.tables.exec = Jvm.exec) (hZ : Z.Warmed39 s.vm) {own : String} {index : Nat} {y : MethodName} {bytes : ByteArray} {maxL : Nat} {ret : Option FieldType} {rm : Room} {W : Nat} {argsL rest : List Value}
    (hown : s.vm.findClass own = some m.cls) (w1 : (Jvm.Cond.methodLink own index y).before a0 Z = true) (w2 : (Jvm.Cond.static y).before a0 Z = true) (w3 : (Jvm.Cond.initialized y.cls).before a0 Z = true) (w4 : (Jvm.Cond.code y bytes maxL ret).before a0 Z = true)
    (hy : y.cls ≠ "java/lang/invoke/MethodHandle" ∧ y.cls ≠ "java/lang/invoke/VarHandle") (hM : own_M l y bytes maxL ret rm Z argsL.toArray h Q) (eT : T.heap = h)
    (hf : rm.frames + 1 ≤ R.frames) (hl : W + (maxL + 11) + rm.locals ≤ R.locals) (hc : cells + rm.cells ≤ R.cells) (hs : slots + rm.slots ≤ R.slots)
    {g : JFrame} (hg : g.method = m) (hsize : g.locals.size = c.maxLocals) (hlen : ∀ sig, parseMethodDescriptor y.desc = some sig → argsL.length = sig.parameters.length)
    (hstack : g.stack = argsL.reverse ++ rest) (hW : 2 * g.monitorRoom + (rest.map fun v => v.category).sum ≤ W) (hdg : decode c.code g.pc = .ok (.invokestatic index, 3)) :
    ∃ v T' L, Stand p l e R s m args below meth c T' (locs ++ L) (cells + rm.cells) (slots + rm.slots) ∧ Q v T'.heap L ∧ ∀ target, Steps p.tables e below (T'.setTop { g with pc := g.pc + 3, stack := v.toList ++ rest }) target → Steps p.tables e below (T.setTop g) target := by
  obtain ⟨v, _, ⟨T', L', k', n'⟩, -, X', ⟨L, hQ, e1, e2, e3⟩, st⟩ := Jvm.LawKit.callS X hx (y := y) hown (mvT hZ w1) (mvT hZ w2) (mvT hZ w3) (mvT hZ w4) hy (backOf (W := W) hM hZ w4 w3 hf hl) hg hsize hlen hstack hW hdg (fun _ _ => ⟨rfl, eT, hc, hs⟩)
  dsimp only [Pt.U, Pt.locs, Pt.cells, Pt.slots] at X' e1 e2 e3 st hQ
  subst e1 e2 e3
  exact ⟨v, T', L, X', hQ, st⟩
theorem own_callV (X : Stand p l e R s m args below meth c T locs cells slots) (hx : p.tables.exec = Jvm.exec) (hZ : Z.Warmed39 s.vm) {own C : String} {index : Nat} {y : MethodName} {bytes : ByteArray} {maxL : Nat} {ret : Option FieldType} {rm : Room} {W : Nat} {b : Addr} {argsL rest : List Value}
    (hown : s.vm.findClass own = some m.cls) (w1 : (Jvm.Cond.methodLink own index y).before a0 Z = true) (w2 : (Jvm.Cond.declares y).before a0 Z = true) (w3 : (Jvm.Cond.selects C y y).before a0 Z = true) (w4 : (Jvm.Cond.instanceMethod y).before a0 Z = true) (w5 : (Jvm.Cond.code y bytes maxL ret).before a0 Z = true) (w6 : (Jvm.Cond.initialized y.cls).before a0 Z = true)
    (hy : y.cls ≠ "java/lang/invoke/MethodHandle" ∧ y.cls ≠ "java/lang/invoke/VarHandle") (hM : own_M l y bytes maxL ret rm Z (.ref b :: argsL).toArray h Q) (eT : T.heap = h) (E : Exa Z h b C)
    (hf : rm.frames + 1 ≤ R.frames) (hl : W + (maxL + 11) + rm.locals ≤ R.locals) (hc : cells + rm.cells ≤ R.cells) (hs : slots + rm.slots ≤ R.slots)
    {g : JFrame} (hg : g.method = m) (hsize : g.locals.size = c.maxLocals) (hlen : ∀ sig, parseMethodDescriptor y.desc = some sig → argsL.length = sig.parameters.length)
    (hstack : g.stack = argsL.reverse ++ .ref b :: rest) (hW : 2 * g.monitorRoom + (rest.map fun v => v.category).sum ≤ W) (hdg : decode c.code g.pc = .ok (.invokevirtual index, 3)) :
    ∃ v T' L, Stand p l e R s m args below meth c T' (locs ++ L) (cells + rm.cells) (slots + rm.slots) ∧ Q v T'.heap L ∧ ∀ target, Steps p.tables e below (T'.setTop { g with pc := g.pc + 3, stack := v.toList ++ rest }) target → Steps p.tables e below (T.setTop g) target := by
  obtain ⟨cq, kq, q1, -, q3⟩ := isOf hZ eT E
  obtain ⟨v, _, ⟨T', L', k', n'⟩, -, X', ⟨L, hQ, e1, e2, e3⟩, st⟩ := X.virtualBack hx (y := y) (z := y) hown (mvT hZ w1) (mvT hZ w2) (notFace_of_selects (args := #[]) (mvT hZ w3)) (mvT hZ w3) (mvT hZ w4) hy (backOf (W := W) hM hZ w5 w6 hf hl) q1 q3 hg hsize (Steps.refl _) hlen hstack hW hdg (fun _ _ => ⟨rfl, eT, hc, hs⟩)
  dsimp only [Pt.U, Pt.locs, Pt.cells, Pt.slots] at X' e1 e2 e3 st hQ
  subst e1 e2 e3
  exact ⟨v, T', L, X', hQ, fun _ k => st.trans k⟩
theorem own_callI (X : Stand p l e R s m args below meth c T locs cells slots) (hx : p.tables.exec = Jvm.exec) (hZ : Z.Warmed39 s.vm) {own : String} {index : Nat} {y : MethodName} {bytes : ByteArray} {maxL : Nat} {rm : Room} {W : Nat} {b : Addr} {argsL rest : List Value}
    (hown : s.vm.findClass own = some m.cls) (hy1 : y.name = "<init>") (w1 : (Jvm.Cond.methodLink own index y).before a0 Z = true) (w2 : (Jvm.Cond.instanceMethod y).before a0 Z = true) (w3 : (Jvm.Cond.initialized y.cls).before a0 Z = true) (w4 : (Jvm.Cond.code y bytes maxL none).before a0 Z = true)
    (hy : y.cls ≠ "java/lang/invoke/MethodHandle" ∧ y.cls ≠ "java/lang/invoke/VarHandle") (hM : own_M l y bytes maxL none rm Z (.ref b :: argsL).toArray h Q) (eT : T.heap = h)
    (hf : rm.frames + 1 ≤ R.frames) (hl : W + (maxL + 11) + rm.locals ≤ R.locals) (hc : cells + rm.cells ≤ R.cells) (hs : slots + rm.slots ≤ R.slots)
    {g : JFrame} (hg : g.method = m) (hsize : g.locals.size = c.maxLocals) (hlen : ∀ sig, parseMethodDescriptor y.desc = some sig → argsL.length = sig.parameters.length)
    (hstack : g.stack = argsL.reverse ++ .ref b :: rest) (hW : 2 * g.monitorRoom + (rest.map fun v => v.category).sum ≤ W) (hdg : decode c.code g.pc = .ok (.invokespecial index, 3)) :
    ∃ v T' L, Stand p l e R s m args below meth c T' (locs ++ L) (cells + rm.cells) (slots + rm.slots) ∧ Q v T'.heap L ∧ ∀ target, Steps p.tables e below (T'.setTop { g with pc := g.pc + 3, stack := v.toList ++ rest }) target → Steps p.tables e below (T.setTop g) target := by
  obtain ⟨v, _, ⟨T', L', k', n'⟩, -, X', ⟨L, hQ, e1, e2, e3⟩, st⟩ := X.specialBack hx (y := y) hy1 hown (mvT hZ w1) (mvT hZ w2) (mvT hZ w4) hy (backOf (W := W) hM hZ w4 w3 hf hl) hg hsize (Steps.refl _) hlen hstack hW hdg (fun _ _ => ⟨rfl, eT, hc, hs⟩)
  dsimp only [Pt.U, Pt.locs, Pt.cells, Pt.slots] at X' e1 e2 e3 st hQ
  subst e1 e2 e3
  exact ⟨v, T', L, X', hQ, fun _ k => st.trans k⟩
theorem own_callVU (X : Stand p l e R s m args below meth c T locs cells slots) (hx : p.tables.exec = Jvm.exec) (hZ : Z.Warmed39 s.vm) {own C owner : String} {index : Nat} {y z : MethodName} {bytes : ByteArray} {maxL : Nat} {ret : Option FieldType} {rm : Room} {W : Nat} {b : Addr} {argsL rest : List Value}
    (hown : s.vm.findClass own = some m.cls) (w1 : (Jvm.Cond.methodLink own index y).before a0 Z = true) (w2 : (Jvm.Cond.sameMethod y.cls owner y.name y.desc).before a0 Z = true) (w2' : (Jvm.Cond.declares ⟨owner, y.name, y.desc⟩).before a0 Z = true) (w3 : (Jvm.Cond.selects C y z).before a0 Z = true) (w4 : (Jvm.Cond.instanceMethod z).before a0 Z = true) (w5 : (Jvm.Cond.code z bytes maxL ret).before a0 Z = true) (w6 : (Jvm.Cond.initialized z.cls).before a0 Z = true)
    (hy : owner ≠ "java/lang/invoke/MethodHandle" ∧ owner ≠ "java/lang/invoke/VarHandle") (hM : own_M l z bytes maxL ret rm Z (.ref b :: argsL).toArray h Q) (eT : T.heap = h) (E : Exa Z h b C)
    (hf : rm.frames + 1 ≤ R.frames) (hl : W + (maxL + 11) + rm.locals ≤ R.locals) (hc : cells + rm.cells ≤ R.cells) (hs : slots + rm.slots ≤ R.slots)
    {g : JFrame} (hg : g.method = m) (hsize : g.locals.size = c.maxLocals) (hlen : ∀ sig, parseMethodDescriptor y.desc = some sig → argsL.length = sig.parameters.length)
    (hstack : g.stack = argsL.reverse ++ .ref b :: rest) (hW : 2 * g.monitorRoom + (rest.map fun v => v.category).sum ≤ W) (hdg : decode c.code g.pc = .ok (.invokevirtual index, 3)) :
    ∃ v T' L, Stand p l e R s m args below meth c T' (locs ++ L) (cells + rm.cells) (slots + rm.slots) ∧ Q v T'.heap L ∧ ∀ target, Steps p.tables e below (T'.setTop { g with pc := g.pc + 3, stack := v.toList ++ rest }) target → Steps p.tables e below (T.setTop g) target := by
  obtain ⟨cq, kq, q1, -, q3⟩ := isOf hZ eT E
  obtain ⟨v, _, ⟨T', L', k', n'⟩, -, X', ⟨L, hQ, e1, e2, e3⟩, st⟩ := X.virtualBackUp hx (x := y) (y := z) hown (mvT hZ w1) (mvT hZ w2) (mvT hZ w2') hy (mvT hZ w3) (mvT hZ w4) (backOf (W := W) hM hZ w5 w6 hf hl) q1 q3 hg hsize (Steps.refl _) hlen hstack hW hdg (fun _ _ => ⟨rfl, eT, hc, hs⟩)
  dsimp only [Pt.U, Pt.locs, Pt.cells, Pt.slots] at X' e1 e2 e3 st hQ
  subst e1 e2 e3
  exact ⟨v, T', L, X', hQ, fun _ k => st.trans k⟩
theorem own_aaload (X : Stand p l e R s m args below meth c T locs cells slots) (hx : p.tables.exec = Jvm.exec) (hZ : Z.Warmed39 s.vm) (eT : T.heap = h) {a : Addr} {cl : Cell} {ty : FieldType} (F : Arr Z h a cl ty) (hty : ty.isReference = true) {j : Int32} {v : Value} (hin : ¬ (j < 0 ∨ cl.slots.size ≤ j.toNatClampNeg)) (hv : cl.slots[j.toNatClampNeg]? = some v)
    {g : JFrame} (hg : g.method = m) {rest : List Value} (hs : g.stack = .int j :: .ref a :: rest) (hd : decode c.code g.pc = .ok (.aaload, 1)) : ∀ target, Steps p.tables e below (T.setTop { g with pc := g.pc + 1, stack := v :: rest }) target → Steps p.tables e below (T.setTop g) target :=
  X.aaload hx (by rw [eT]; exact F.1) (State.isArrayOf_alike hZ.alike F.2.1) hty F.2.2 hin hv hg hs hd
theorem own_laload (X : Stand p l e R s m args below meth c T locs cells slots) (hx : p.tables.exec = Jvm.exec) (hZ : Z.Warmed39 s.vm) (eT : T.heap = h) {a : Addr} {cl : Cell} (F : Arr Z h a cl .long) {j : Int32} {v : Value} (hin : ¬ (j < 0 ∨ cl.slots.size ≤ j.toNatClampNeg)) (hv : cl.slots[j.toNatClampNeg]? = some v)
    {g : JFrame} (hg : g.method = m) {rest : List Value} (hs : g.stack = .int j :: .ref a :: rest) (hd : decode c.code g.pc = .ok (.laload, 1)) : ∀ target, Steps p.tables e below (T.setTop { g with pc := g.pc + 1, stack := v :: rest }) target → Steps p.tables e below (T.setTop g) target :=
  X.laload hx (by rw [eT]; exact F.1) (State.isArrayOf_alike hZ.alike F.2.1) F.2.2 hin hv hg hs hd
theorem own_baload (X : Stand p l e R s m args below meth c T locs cells slots) (hx : p.tables.exec = Jvm.exec) (hZ : Z.Warmed39 s.vm) (eT : T.heap = h) {a : Addr} {cl : Cell} (F : Arr Z h a cl .byte) {j : Int32} {v : Value} (hin : ¬ (j < 0 ∨ cl.slots.size ≤ j.toNatClampNeg)) (hv : cl.slots[j.toNatClampNeg]? = some v)
    {g : JFrame} (hg : g.method = m) {rest : List Value} (hs : g.stack = .int j :: .ref a :: rest) (hd : decode c.code g.pc = .ok (.baload, 1)) : ∀ target, Steps p.tables e below (T.setTop { g with pc := g.pc + 1, stack := v :: rest }) target → Steps p.tables e below (T.setTop g) target :=
  X.baloadBytes hx (by rw [eT]; exact F.1) (State.isArrayOf_alike hZ.alike F.2.1) F.2.2 hin hv hg hs hd
theorem own_zaload (X : Stand p l e R s m args below meth c T locs cells slots) (hx : p.tables.exec = Jvm.exec) (hZ : Z.Warmed39 s.vm) (eT : T.heap = h) {a : Addr} {cl : Cell} (F : Arr Z h a cl .boolean) {j : Int32} {v : Value} (hin : ¬ (j < 0 ∨ cl.slots.size ≤ j.toNatClampNeg)) (hv : cl.slots[j.toNatClampNeg]? = some v)
    {g : JFrame} (hg : g.method = m) {rest : List Value} (hs : g.stack = .int j :: .ref a :: rest) (hd : decode c.code g.pc = .ok (.baload, 1)) : ∀ target, Steps p.tables e below (T.setTop { g with pc := g.pc + 1, stack := v :: rest }) target → Steps p.tables e below (T.setTop g) target :=
  X.baloadBooleans hx (by rw [eT]; exact F.1) (State.isArrayOf_alike hZ.alike F.2.1) F.2.2 hin hv hg hs hd
theorem own_alen (X : Stand p l e R s m args below meth c T locs cells slots) (hx : p.tables.exec = Jvm.exec) (hZ : Z.Warmed39 s.vm) (eT : T.heap = h) {a : Addr} {cl : Cell} {ty : FieldType} (F : Arr Z h a cl ty) {n : Int32} (hn : cl.slots.size.toInt32 = n)
    {g : JFrame} (hg : g.method = m) {rest : List Value} (hs : g.stack = .ref a :: rest) (hd : decode c.code g.pc = .ok (.arraylength, 1)) : ∀ target, Steps p.tables e below (T.setTop { g with pc := g.pc + 1, stack := .int n :: rest }) target → Steps p.tables e below (T.setTop g) target :=
  fun t k => X.arraylength hx (by rw [eT]; exact F.1) (State.isArrayOf_alike hZ.alike F.2.1) hg hs hd t (by rw [hn]; exact k)
theorem own_elemS {t u : Term} {a w : Addr} {cl : Cell} {k : Int32} (ev : t.eval args s none [] s = some (.ref a)) (hc : s.heap[a]? = some cl) (evu : u.eval args s none [] s = some (.ref w)) (he : (Jvm.Cond.eq (.elem t (.int k)) u).value args s none s [] = some true) :
    ¬ (k < 0 ∨ cl.slots.size ≤ k.toNatClampNeg) ∧ cl.slots[k.toNatClampNeg]? = some (.ref w) := by
  obtain ⟨x, y, h1, h2, h3, h4⟩ := cmp_v (Or.inl he)
  cases evu.symm.trans h2
  have h5 := gotT (eq_R h1 h2 h4.2 rfl) he
  subst h5
  exact elem_in h1 ev (Term.int_eval k) hc
theorem own_lenS {t : Term} {a : Addr} {cl : Cell} {n : Int32} (ev : t.eval args s none [] s = some (.ref a)) (hc : s.heap[a]? = some cl) (he : (Jvm.Cond.eq (.length t) (.int n)).value args s none s [] = some true) : cl.slots.size < 2 ^ 31 ∧ cl.slots.size.toInt32 = n := by
  obtain ⟨x, y, h1, h2, h3, h4⟩ := cmp_v (Or.inl he)
  cases (Term.int_eval n).symm.trans h2
  obtain ⟨z, rfl⟩ := h4
  have h5 : z = n := by simpa [Jvm.Cond.value, h1, h2] using he
  subst h5
  obtain ⟨a', c', q1, q2, q3⟩ := Term.length_spec h1
  cases ev.symm.trans q1
  have q4 := (State.arrayAt?_spec q2).1
  cases hc.symm.trans q4
  refine ⟨?_, (Value.int.inj q3).symm⟩
  by_cases hl : cl.slots.size < 2 ^ 31
  · exact hl
  · simp [Term.eval, ev, q2, hl] at h1
/-- from a sheet's words to facts at the start -/
theorem own_const {C n d k0 : String} (hx : (Jvm.Cond.exactly (.static C n d) k0).value args s none s [] = some true) (hi : (Jvm.Cond.initialized C).before args s = true) (hl : (Jvm.Cond.laysStatic C n d).before args s = true) :
    ∃ a, (Term.static C n d).eval args s none [] s = some (.ref a) ∧ Sta s s.heap C n d (.ref a) ∧ Exa s s.heap a k0 := by
  obtain ⟨a, ev⟩ := exa_v hx
  exact ⟨a, ev, Sta.start ev (Or.inr ⟨hi, hl⟩), Exa.start ev hx⟩
theorem own_fldI {t : Term} {a : Addr} {O n d : String} {k : Int32} (ev : t.eval args s none [] s = some (.ref a)) (he : (Jvm.Cond.eq (.field t O n d) (.int k)).value args s none s [] = some true) : Fld s s.heap a O n d (.int k) := by
  obtain ⟨x, y, h1, h2, h3, h4⟩ := cmp_v (Or.inl he)
  have h5 := h1
  rw [fld_at ev] at h5
  have h6 : y = .int k := (Option.some.inj ((Term.int_eval k).symm.trans h2)).symm
  subst h6
  obtain ⟨z, rfl⟩ := h4
  have h7 : z = k := by simpa [Jvm.Cond.value, h1, h2] using he
  subst h7
  exact Fld.start h5
end Own
section Own2
variable {p : Program} {l : Launch} {e : Env} {R : Room} {s : State} {m : MethodId} {args : Array Value} {below : List Frame} {meth : Method} {c : Code} {T : State} {locs : List Loc} {cells slots : Nat} {Z : State} {a0 : Array Value} {h : Heap}
variable {a : Addr} {k : ClassId} {ty : FieldType} {z : Int32} {vs : List Value} {dv : Value}
/-- a fresh array of n places, each said -/
theorem own_arvNew {n : Nat} (A : Arr Z h a (newA k ty z) ty) (q : ¬ z < 0) : Arv Z h a k ty z (List.replicate n (defaultValue ty)) (defaultValue ty) := (Arv.new A q).pad (pad_rep [] _ n)
theorem own_stR (X : Stand p l e R s m args below meth c T locs cells slots) (hx : p.tables.exec = Jvm.exec) (hZ : Z.Warmed39 s.vm) (eT : T.heap = h) {C : String} {y : Addr} (F : Arv Z h a k (.object C) z vs dv) (O : Ovr Z k C) (I : Ins Z h y C true) {j : Int32} (i : Nat) (hj : j.toNatClampNeg = i) (hi : i < vs.length) (hin : ¬ j < 0 ∧ j < z)
    {g : JFrame} (hg : g.method = m) {rest : List Value} (hs : g.stack = .ref y :: .int j :: .ref a :: rest) (hd : decode c.code g.pc = .ok (.aastore, 1)) :
    ∃ T' h', Stand p l e R s m args below meth c T' (locs ++ [⟨a, j.toNatClampNeg⟩]) cells slots ∧ T'.heap = h' ∧ Wr h h' a j.toNatClampNeg (.ref y) ∧ Arv Z h' a k (.object C) z (vs.set i (.ref y)) dv ∧ ∀ target, Steps p.tables e below (T'.setTop { g with pc := g.pc + 1, stack := rest }) target → Steps p.tables e below (T.setTop g) target := by
  obtain ⟨cl, A, q1, S, q3, H, G⟩ := F
  obtain ⟨T', h', X', e', W, st⟩ := stR X hx hZ eT A (inb_of S hin) rfl (Sto.ofV A q1 O I) hg hs hd
  exact ⟨T', h', X', e', W, Arv.set A q1 S q3 H G rfl W i hj hi, st⟩
theorem own_stZ (X : Stand p l e R s m args below meth c T locs cells slots) (hx : p.tables.exec = Jvm.exec) (hZ : Z.Warmed39 s.vm) (eT : T.heap = h) {x : Int32} (F : Arv Z h a k .boolean z vs dv) {j : Int32} (i : Nat) (hj : j.toNatClampNeg = i) (hi : i < vs.length) (hin : ¬ j < 0 ∧ j < z)
    {g : JFrame} (hg : g.method = m) {rest : List Value} (hs : g.stack = .int x :: .int j :: .ref a :: rest) (hd : decode c.code g.pc = .ok (.bastore, 1)) :
    ∃ T' h', Stand p l e R s m args below meth c T' (locs ++ [⟨a, j.toNatClampNeg⟩]) cells slots ∧ T'.heap = h' ∧ Wr h h' a j.toNatClampNeg (.int (nar .boolean x)) ∧ Arv Z h' a k .boolean z (vs.set i (.int (nar .boolean x))) dv ∧ ∀ target, Steps p.tables e below (T'.setTop { g with pc := g.pc + 1, stack := rest }) target → Steps p.tables e below (T.setTop g) target := by
  obtain ⟨cl, A, q1, S, q3, H, G⟩ := F
  obtain ⟨T', h', X', e', W, st⟩ := stZ X hx hZ eT A (inb_of S hin) hg hs hd
  exact ⟨T', h', X', e', W, Arv.set A q1 S q3 H G (fits_nar_bool x) W i hj hi, st⟩
theorem own_stB (X : Stand p l e R s m args below meth c T locs cells slots) (hx : p.tables.exec = Jvm.exec) (hZ : Z.Warmed39 s.vm) (eT : T.heap = h) {x : Int32} (F : Arv Z h a k .byte z vs dv) {j : Int32} (i : Nat) (hj : j.toNatClampNeg = i) (hi : i < vs.length) (hin : ¬ j < 0 ∧ j < z)
    {g : JFrame} (hg : g.method = m) {rest : List Value} (hs : g.stack = .int x :: .int j :: .ref a :: rest) (hd : decode c.code g.pc = .ok (.bastore, 1)) :
    ∃ T' h', Stand p l e R s m args below meth c T' (locs ++ [⟨a, j.toNatClampNeg⟩]) cells slots ∧ T'.heap = h' ∧ Wr h h' a j.toNatClampNeg (.int (nar .byte x)) ∧ Arv Z h' a k .byte z (vs.set i (.int (nar .byte x))) dv ∧ ∀ target, Steps p.tables e below (T'.setTop { g with pc := g.pc + 1, stack := rest }) target → Steps p.tables e below (T.setTop g) target := by
  obtain ⟨cl, A, q1, S, q3, H, G⟩ := F
  obtain ⟨T', h', X', e', W, st⟩ := stB X hx hZ eT A (inb_of S hin) hg hs hd
  exact ⟨T', h', X', e', W, Arv.set A q1 S q3 H G (fits_nar_byte x) W i hj hi, st⟩
theorem own_stJ (X : Stand p l e R s m args below meth c T locs cells slots) (hx : p.tables.exec = Jvm.exec) (hZ : Z.Warmed39 s.vm) (eT : T.heap = h) {x : Int64} (F : Arv Z h a k .long z vs dv) {j : Int32} (i : Nat) (hj : j.toNatClampNeg = i) (hi : i < vs.length) (hin : ¬ j < 0 ∧ j < z)
    {g : JFrame} (hg : g.method = m) {rest : List Value} (hs : g.stack = .long x :: .int j :: .ref a :: rest) (hd : decode c.code g.pc = .ok (.lastore, 1)) :
    ∃ T' h', Stand p l e R s m args below meth c T' (locs ++ [⟨a, j.toNatClampNeg⟩]) cells slots ∧ T'.heap = h' ∧ Wr h h' a j.toNatClampNeg (.long x) ∧ Arv Z h' a k .long z (vs.set i (.long x)) dv ∧ ∀ target, Steps p.tables e below (T'.setTop { g with pc := g.pc + 1, stack := rest }) target → Steps p.tables e below (T.setTop g) target := by
  obtain ⟨cl, A, q1, S, q3, H, G⟩ := F
  obtain ⟨T', h', X', e', W, st⟩ := stJ X hx hZ eT A (inb_of S hin) hg hs hd
  exact ⟨T', h', X', e', W, Arv.set A q1 S q3 H G rfl W i hj hi, st⟩
theorem own_stC (X : Stand p l e R s m args below meth c T locs cells slots) (hx : p.tables.exec = Jvm.exec) (hZ : Z.Warmed39 s.vm) (eT : T.heap = h) {x : Int32} (F : Arv Z h a k .char z vs dv) {j : Int32} (i : Nat) (hj : j.toNatClampNeg = i) (hi : i < vs.length) (hin : ¬ j < 0 ∧ j < z)
    {g : JFrame} (hg : g.method = m) {rest : List Value} (hs : g.stack = .int x :: .int j :: .ref a :: rest) (hd : decode c.code g.pc = .ok (.castore, 1)) :
    ∃ T' h', Stand p l e R s m args below meth c T' (locs ++ [⟨a, j.toNatClampNeg⟩]) cells slots ∧ T'.heap = h' ∧ Wr h h' a j.toNatClampNeg (.int (nar .char x)) ∧ Arv Z h' a k .char z (vs.set i (.int (nar .char x))) dv ∧ ∀ target, Steps p.tables e below (T'.setTop { g with pc := g.pc + 1, stack := rest }) target → Steps p.tables e below (T.setTop g) target := by
  obtain ⟨cl, A, q1, S, q3, H, G⟩ := F
  obtain ⟨T', h', X', e', W, st⟩ := stC X hx hZ eT A (inb_of S hin) hg hs hd
  exact ⟨T', h', X', e', W, Arv.set A q1 S q3 H G (fits_nar_char x) W i hj hi, st⟩
theorem own_caload (X : Stand p l e R s m args below meth c T locs cells slots) (hx : p.tables.exec = Jvm.exec) (hZ : Z.Warmed39 s.vm) (eT : T.heap = h) {cl : Cell} (F : Arr Z h a cl .char) {j : Int32} {v : Value} (hin : ¬ (j < 0 ∨ cl.slots.size ≤ j.toNatClampNeg)) (hv : cl.slots[j.toNatClampNeg]? = some v)
    {g : JFrame} (hg : g.method = m) {rest : List Value} (hs : g.stack = .int j :: .ref a :: rest) (hd : decode c.code g.pc = .ok (.caload, 1)) : ∀ target, Steps p.tables e below (T.setTop { g with pc := g.pc + 1, stack := v :: rest }) target → Steps p.tables e below (T.setTop g) target :=
  X.caload hx (by rw [eT]; exact F.1) (State.isArrayOf_alike hZ.alike F.2.1) F.2.2 hin hv hg hs hd
/-- a place of an array that is said -/
theorem own_at (F : Arv Z h a k ty z vs dv) {j : Int32} (hin : ¬ j < 0 ∧ j < z) : ∃ cl, Arr Z h a cl ty ∧ ¬ (j < 0 ∨ cl.slots.size ≤ j.toNatClampNeg) ∧ cl.slots[j.toNatClampNeg]? = some (vs.getD j.toNatClampNeg dv) := by
  obtain ⟨cl, A, q1, S, q3, H, G⟩ := F
  exact ⟨cl, A, inb_of S hin, H.at (inb_of S hin) rfl⟩
theorem own_len (F : Arv Z h a k ty z vs dv) : ∃ cl, Arr Z h a cl ty ∧ cl.slots.size.toInt32 = z := by
  obtain ⟨cl, A, q1, S, q3, H, G⟩ := F
  exact ⟨cl, A, len_of S q3⟩
theorem own_re {vs' : List Value} (F : Arv Z h a k ty z vs dv) (q : ∀ i, i < z.toNatClampNeg → vs'.getD i dv = vs.getD i dv) : Arv Z h a k ty z vs' dv := by
  obtain ⟨cl, A, q1, S, q3, H, G⟩ := F
  exact ⟨cl, A, q1, S, q3, fun i hi => by rw [q i (S ▸ hi)]; exact H i hi, fun i hi => by rw [q i (S ▸ hi)]; exact G i hi⟩
theorem own_no {n : Nat} {C S O k0 : String} (w : (Jvm.Cond.superclass C S).before a0 Z = true) (w2 : (Jvm.Cond.superclass S O).before a0 Z = true) (w3 : (Jvm.Cond.noSuperclass O).before a0 Z = true) (wi : (Jvm.Cond.instantiable k0 n).before a0 Z = true) (n1 : C ≠ k0) (n2 : S ≠ k0) (n3 : O ≠ k0) :
    ∃ c t, Z.vm.findClass C = some c ∧ Z.vm.findClass k0 = some t ∧ Z.vm.assignable c t = false := by
  obtain ⟨t, kt, g1, g2, g3, g4, -⟩ := Cond.instantiable_spec wi
  have hO : NS Z O k0 := by
    obtain ⟨c, kc, h1, h2, h3, -, -⟩ := Cond.noSuperclass_spec w3
    refine ⟨c, t, h1, g1, fun fuel => ?_⟩
    cases fuel with
    | zero => rfl
    | succ f => simp [Vm.isSubclassAux, ids_ne h1 g1 n3, h2, h3]
  obtain ⟨c, t', h0, g0, n4⟩ := NS.step w (NS.step w2 hO n2) n1
  cases g1.symm.trans g0
  obtain ⟨p, kk, kp, h1, h2, h3, h4, h5, -, h7⟩ := Cond.superclass_spec h0 w
  refine ⟨c, t, h0, g0, ?_⟩
  show Z.vm.assignableAux (255 + 1) c t = false
  simp only [Bool.or_eq_false_iff] at g4
  simp [Vm.assignableAux, ids_ne h0 g0 n1, h2, g2, h5, g3, g4.1, Vm.isSubclass, n4]
theorem own_clone (X : Stand p l e R s m args below meth c T locs cells slots) (hx : p.tables.exec = Jvm.exec) (hZ : Z.Warmed39 s.vm) {own ad : String} {index : Nat} (hown : s.vm.findClass own = some m.cls)
    (w1 : (Jvm.Cond.methodLink own index ⟨ad, "clone", "()Ljava/lang/Object;"⟩).before a0 Z = true) (w2 : (Jvm.Cond.sameMethod ad "java/lang/Object" "clone" "()Ljava/lang/Object;").before a0 Z = true) (w3 : (Jvm.Cond.native ⟨"java/lang/Object", "clone", "()Ljava/lang/Object;"⟩).before a0 Z = true)
    (w4 : (Jvm.Cond.instanceMethod ⟨"java/lang/Object", "clone", "()Ljava/lang/Object;"⟩).before a0 Z = true) (w5 : (Jvm.Cond.selects ad ⟨ad, "clone", "()Ljava/lang/Object;"⟩ ⟨"java/lang/Object", "clone", "()Ljava/lang/Object;"⟩).before a0 Z = true) (w6 : (Jvm.Cond.castable ad "java/lang/Cloneable").before a0 Z = true)
    (eT : T.heap = h) (F : Arv Z h a k ty z vs dv) (E : Exa Z h a ad) {g : JFrame} (hg : g.method = m) (hsize : g.locals.size = c.maxLocals) {rest : List Value} (hst : g.stack = .ref a :: rest) (hd : decode c.code g.pc = .ok (.invokevirtual index, 3))
    (hf : 1 ≤ R.frames) {W cap : Nat} (hW : 2 * g.monitorRoom + (rest.map fun v => v.category).sum ≤ W) (hl : W + 14 ≤ R.locals) (hcap : z.toNatClampNeg ≤ cap) (hc : cells + 1 ≤ R.cells) (hsl : slots + cap ≤ R.slots) :
    ∃ T' h', Stand p l e R s m args below meth c T' locs (cells + 1) (slots + cap) ∧ T'.heap = h' ∧ Ext h h' ∧ Arv Z h' h.size k ty z vs dv ∧ Exa Z h' h.size ad ∧
      ∀ target, Steps p.tables e below (T'.setTop { g with pc := g.pc + 3, stack := .ref h.size :: rest }) target → Steps p.tables e below (T.setTop g) target := by
  obtain ⟨cl, A, q1, S, q3, H, G⟩ := F
  obtain ⟨T', h', X', e', E', A', B', st⟩ := cloneA X hx hZ hown w1 w2 w3 w4 w5 w6 eT A E (fitC_of A (fun i hi v hv => by rw [H i hi] at hv; cases hv; exact G i hi)) hg hsize hst hd hf hW hl (by rw [S]; exact hcap) hc hsl
  exact ⟨T', h', X', e', E', ⟨cloneOf cl, A', q1, S, q3, H, G⟩, B', st⟩
end Own2
def own_mu (u v : Int64) : Int64 :=
  (XT.ushrL u 32 * XT.ushrL v 32 + XT.ushrL (XT.ushrL u 32 * (v &&& 4294967295) + XT.ushrL ((u &&& 4294967295) * (v &&& 4294967295)) 32) 32) +
    XT.ushrL (((XT.ushrL u 32 * (v &&& 4294967295) + XT.ushrL ((u &&& 4294967295) * (v &&& 4294967295)) 32) &&& 4294967295) + (u &&& 4294967295) * XT.ushrL v 32) 32
def own_s32 (x : Int64) : Int64 := x >>> ((32 : Int32).toInt64 &&& 63)
def own_mh (u v : Int64) : Int64 :=
  (own_s32 u * own_s32 v + own_s32 (own_s32 u * (v &&& 4294967295) + XT.ushrL ((u &&& 4294967295) * (v &&& 4294967295)) 32)) +
    own_s32 (((own_s32 u * (v &&& 4294967295) + XT.ushrL ((u &&& 4294967295) * (v &&& 4294967295)) 32) &&& 4294967295) + (u &&& 4294967295) * own_s32 v)
def own_st (u n : Int64) : Int64 := own_mh u n + ((u >>> ((63 : Int32).toInt64 &&& 63)) &&& n)
def own_red (r n : Int64) : Int64 := if r < n then r else if r < 2 * n then r - n else r - (r / n) * n
theorem own_nz {n : Int64} (h : 1 ≤ n.toInt) : n ≠ 0 := fun e => by subst e; exact absurd h (by decide)
theorem own_ush (x : Int64) : (XT.ushrL x 32).toInt = (x.toInt % 18446744073709551616) / 4294967296 := by
  have e : ((32 : Int32).toInt64.toUInt64 &&& Int64.toUInt64 63) = ((32 : Int32) &&& 0x3f).toInt64.toUInt64 := by decide
  have q := c_lushr x 32 32 (by decide) (by decide)
  rw [← e] at q
  exact q
theorem own_sar (x : Int64) : (own_s32 x).toInt = x.toInt / 4294967296 := by
  have e : ((32 : Int32).toInt64 &&& 63) = ((32 : Int32) &&& 0x3f).toInt64 := by decide
  have q := c_lshr x 32 32 (by decide)
  rw [← e] at q
  exact q
theorem own_low (x : Int64) : (x &&& 4294967295).toInt = x.toInt % 4294967296 := c_maskL x 4294967295 32 (by decide) (by decide)
theorem own_pb {a b c d : Int} (h0 : 0 ≤ a) (h1 : a ≤ c) (h2 : 0 ≤ b) (h3 : b ≤ d) : 0 ≤ a * b ∧ a * b ≤ c * d := ⟨Int.mul_nonneg h0 h2, Int.mul_le_mul h1 h3 h2 (Int.le_trans h0 h1)⟩
/-- the parts of the unsigned product -/
theorem own_muv (u : Int64) {n : Int64} (h1 : 1 ≤ n.toInt) (h2 : n.toInt ≤ 2305843009213693952) :
    ∃ u1 u0 n1 n0 A B C D : Int, u.toInt % 18446744073709551616 = u1 * 4294967296 + u0 ∧ 0 ≤ u1 ∧ u1 ≤ 4294967295 ∧ 0 ≤ u0 ∧ u0 ≤ 4294967295 ∧ n.toInt = n1 * 4294967296 + n0 ∧ 0 ≤ n1 ∧ n1 ≤ 536870912 ∧ 0 ≤ n0 ∧ n0 ≤ 4294967295 ∧
      A = u1 * n1 ∧ B = u1 * n0 ∧ C = u0 * n1 ∧ D = u0 * n0 ∧ (own_mu u n).toInt = A + (B + D / 4294967296) / 4294967296 + ((B + D / 4294967296) % 4294967296 + C) / 4294967296 := by
  have r1 := rng64 u
  have eu1 := own_ush u
  have en1 := own_ush n
  have eu0 := own_low u
  have en0 := own_low n
  obtain ⟨U1, hU1⟩ : ∃ z, z = XT.ushrL u 32 := ⟨_, rfl⟩
  obtain ⟨N1, hN1⟩ : ∃ z, z = XT.ushrL n 32 := ⟨_, rfl⟩
  obtain ⟨U0, hU0⟩ : ∃ z, z = u &&& 4294967295 := ⟨_, rfl⟩
  obtain ⟨N0, hN0⟩ : ∃ z, z = n &&& 4294967295 := ⟨_, rfl⟩
  unfold own_mu
  rw [← hU1] at eu1
  rw [← hN1] at en1
  rw [← hU0] at eu0
  rw [← hN0] at en0
  rw [← hU1, ← hN1, ← hU0, ← hN0]
  have pA := own_pb (a := U1.toInt) (b := N1.toInt) (c := 4294967295) (d := 536870912) (by omega) (by omega) (by omega) (by omega)
  have pB := own_pb (a := U1.toInt) (b := N0.toInt) (c := 4294967295) (d := 4294967295) (by omega) (by omega) (by omega) (by omega)
  have pC := own_pb (a := U0.toInt) (b := N1.toInt) (c := 4294967295) (d := 536870912) (by omega) (by omega) (by omega) (by omega)
  have pD := own_pb (a := U0.toInt) (b := N0.toInt) (c := 4294967295) (d := 4294967295) (by omega) (by omega) (by omega) (by omega)
  have mA := c_lmul U1 N1
  have mB := c_lmul U1 N0
  have mC := c_lmul U0 N1
  have mD := c_lmul U0 N0
  have rA := rng64 (U1 * N1)
  have rC := rng64 (U0 * N1)
  have sD := own_ush (U0 * N0)
  obtain ⟨SD, hSD⟩ : ∃ z, z = XT.ushrL (U0 * N0) 32 := ⟨_, rfl⟩
  rw [← hSD] at sD
  rw [← hSD]
  have mT := c_ladd (U1 * N0) SD
  obtain ⟨T, hT⟩ : ∃ z, z = U1 * N0 + SD := ⟨_, rfl⟩
  rw [← hT] at mT
  rw [← hT]
  have sT := own_ush T
  have lT := own_low T
  have mW := c_ladd (T &&& 4294967295) (U0 * N1)
  have rW := rng64 ((T &&& 4294967295) + U0 * N1)
  obtain ⟨W, hW⟩ : ∃ z, z = (T &&& 4294967295) + U0 * N1 := ⟨_, rfl⟩
  rw [← hW] at mW rW
  rw [← hW]
  have sW := own_ush W
  have m1 := c_ladd (U1 * N1) (XT.ushrL T 32)
  have r1' := rng64 (U1 * N1 + XT.ushrL T 32)
  have m2 := c_ladd (U1 * N1 + XT.ushrL T 32) (XT.ushrL W 32)
  have r2' := rng64 (U1 * N1 + XT.ushrL T 32 + XT.ushrL W 32)
  refine ⟨U1.toInt, U0.toInt, N1.toInt, N0.toInt, _, _, _, _, by omega, by omega, by omega, by omega, by omega, by omega, by omega, by omega, by omega, by omega, rfl, rfl, rfl, rfl, ?_⟩
  generalize U1.toInt * N1.toInt = A at *
  generalize U1.toInt * N0.toInt = B at *
  generalize U0.toInt * N1.toInt = C at *
  generalize U0.toInt * N0.toInt = D at *
  omega
theorem own_bound (u : Int64) {n : Int64} (h1 : 1 ≤ n.toInt) (h2 : n.toInt ≤ 2305843009213693952) : 0 ≤ (own_mu u n).toInt ∧ (own_mu u n).toInt < n.toInt := by
  obtain ⟨u1, u0, n1, n0, A, B, C, D, hu, a1, a2, a3, a4, hn, b1, b2, b3, b4, hA, hB, hC, hD, hv⟩ := own_muv u h1 h2
  have pA := own_pb a1 a2 b1 b2
  have pB := own_pb a1 a2 b3 b4
  have pC := own_pb a3 a4 b1 b2
  have pD := own_pb a3 a4 b3 b4
  rw [← hA] at pA
  rw [← hB] at pB
  rw [← hC] at pC
  rw [← hD] at pD
  have hp : (u1 * 4294967296 + u0) * (n1 * 4294967296 + n0) = A * 18446744073709551616 + (B + C) * 4294967296 + D := by rw [hA, hB, hC, hD]; grind
  have hb : (u1 * 4294967296 + u0) * (n1 * 4294967296 + n0) ≤ 18446744073709551615 * (n1 * 4294967296 + n0) := Int.mul_le_mul_of_nonneg_right (by omega) (by omega)
  rw [hp] at hb
  rw [hv, hn]
  omega
theorem own_sgn (u n : Int64) : ((u >>> ((63 : Int32).toInt64 &&& 63)) &&& n).toInt = if 0 ≤ u.toInt then 0 else n.toInt := by
  have e : ((63 : Int32).toInt64 &&& 63) = ((63 : Int32) &&& 0x3f).toInt64 := by decide
  have q : (u >>> ((63 : Int32) &&& 0x3f).toInt64).toInt = u.toInt / 9223372036854775808 := c_lshr u 63 63 (by decide)
  rw [← e] at q
  have r := rng64 u
  by_cases hs : 0 ≤ u.toInt
  · have z : u >>> ((63 : Int32).toInt64 &&& 63) = 0 := Int64.toInt_inj.mp (by rw [q, show (0 : Int64).toInt = 0 from by decide]; omega)
    rw [z, Int64.zero_and, if_pos hs]; decide
  · have z : u >>> ((63 : Int32).toInt64 &&& 63) = -1 := Int64.toInt_inj.mp (by rw [q, show (-1 : Int64).toInt = -1 from by decide]; omega)
    rw [z, Int64.neg_one_and, if_neg hs]
theorem own_addx {x y : Int64} (h : -9223372036854775808 ≤ x.toInt + y.toInt ∧ x.toInt + y.toInt < 9223372036854775808) : (x + y).toInt = x.toInt + y.toInt := by
  have m := c_ladd x y
  have r := rng64 (x + y)
  omega
theorem own_mulx {x y : Int64} {v : Int} (e : x.toInt * y.toInt = v) (h : -9223372036854775808 ≤ v ∧ v < 9223372036854775808) : (x * y).toInt = v := by
  have m := c_lmul x y
  have r := rng64 (x * y)
  rw [e] at m
  omega
theorem own_mulu {x y : Int64} {v : Int} (e : x.toInt * y.toInt = v) (h : 0 ≤ v ∧ v < 18446744073709551616) : (XT.ushrL (x * y) 32).toInt = v / 4294967296 := by
  have m := c_lmul x y
  have s := own_ush (x * y)
  rw [e] at m
  rw [s]
  have q : (x * y).toInt % 18446744073709551616 = v := by omega
  rw [q]
theorem own_core {X1 Y1 U0 N0 : Int64} {A B C D : Int} (hA : X1.toInt * Y1.toInt = A) (hB : X1.toInt * N0.toInt = B) (hC : U0.toInt * Y1.toInt = C) (hD : U0.toInt * N0.toInt = D)
    (bA : -2305843009213693952 ≤ A ∧ A ≤ 2305843009213693952) (bB : -9223372034707292160 ≤ B ∧ B ≤ 9223372030412324865) (bC : 0 ≤ C ∧ C ≤ 2305843009213693952) (bD : 0 ≤ D ∧ D < 18446744073709551616) :
    ((X1 * Y1 + own_s32 (X1 * N0 + XT.ushrL (U0 * N0) 32)) + own_s32 (((X1 * N0 + XT.ushrL (U0 * N0) 32) &&& 4294967295) + U0 * Y1)).toInt = A + (B + D / 4294967296) / 4294967296 + ((B + D / 4294967296) % 4294967296 + C) / 4294967296 := by
  have vA := own_mulx hA (by omega)
  have vB := own_mulx hB (by omega)
  have vC := own_mulx hC (by omega)
  have vD := own_mulu hD bD
  have vT : (X1 * N0 + XT.ushrL (U0 * N0) 32).toInt = B + D / 4294967296 := by rw [own_addx (by rw [vB, vD]; omega), vB, vD]
  have sT := own_sar (X1 * N0 + XT.ushrL (U0 * N0) 32)
  have lT := own_low (X1 * N0 + XT.ushrL (U0 * N0) 32)
  rw [vT] at sT lT
  have vW : (((X1 * N0 + XT.ushrL (U0 * N0) 32) &&& 4294967295) + U0 * Y1).toInt = (B + D / 4294967296) % 4294967296 + C := by rw [own_addx (by rw [lT, vC]; omega), lT, vC]
  have sW := own_sar (((X1 * N0 + XT.ushrL (U0 * N0) 32) &&& 4294967295) + U0 * Y1)
  rw [vW] at sW
  have v1 : (X1 * Y1 + own_s32 (X1 * N0 + XT.ushrL (U0 * N0) 32)).toInt = A + (B + D / 4294967296) / 4294967296 := by rw [own_addx (by rw [vA, sT]; omega), vA, sT]
  rw [own_addx (by rw [v1, sW]; omega), v1, sW]
theorem own_start (u : Int64) {n : Int64} (h1 : 1 ≤ n.toInt) (h2 : n.toInt ≤ 2305843009213693952) : own_st u n = own_mu u n := by
  have bd := own_bound u h1 h2
  obtain ⟨u1, u0, n1, n0, A, B, C, D, hu, a1, a2, a3, a4, hn, b1, b2, b3, b4, hA, hB, hC, hD, hv⟩ := own_muv u h1 h2
  have r := rng64 u
  have ex : (own_s32 u).toInt = u.toInt / 4294967296 := own_sar u
  have ey : (own_s32 n).toInt = n1 := by rw [own_sar n]; omega
  have eu0 : (u &&& 4294967295).toInt = u0 := by rw [own_low u]; omega
  have en0 : (n &&& 4294967295).toInt = n0 := by rw [own_low n]; omega
  have sg := own_sgn u n
  have pA := own_pb a1 a2 b1 b2
  have pB := own_pb a1 a2 b3 b4
  have pC := own_pb a3 a4 b1 b2
  have pD := own_pb a3 a4 b3 b4
  rw [← hA] at pA
  rw [← hB] at pB
  rw [← hC] at pC
  rw [← hD] at pD
  apply Int64.toInt_inj.mp
  rw [hv] at bd ⊢
  by_cases hs : 0 ≤ u.toInt
  · rw [if_pos hs] at sg
    have hx : (own_s32 u).toInt = u1 := by rw [ex]; omega
    have qB := own_pb (a := u1) (b := n0) (c := 2147483647) (d := 4294967295) a1 (by omega) b3 b4
    rw [← hB] at qB
    have k := own_core (X1 := own_s32 u) (Y1 := own_s32 n) (U0 := u &&& 4294967295) (N0 := n &&& 4294967295) (A := A) (B := B) (C := C) (D := D) (by rw [hx, ey, hA]) (by rw [hx, en0, hB]) (by rw [eu0, ey, hC]) (by rw [eu0, en0, hD]) ⟨by omega, by omega⟩ ⟨by omega, by omega⟩ ⟨by omega, by omega⟩ ⟨by omega, by omega⟩
    show (own_mh u n + ((u >>> ((63 : Int32).toInt64 &&& 63)) &&& n)).toInt = _
    have k' : (own_mh u n).toInt = A + (B + D / 4294967296) / 4294967296 + ((B + D / 4294967296) % 4294967296 + C) / 4294967296 := k
    rw [own_addx (by rw [k', sg]; omega), k', sg]
    omega
  · rw [if_neg hs] at sg
    have hx : (own_s32 u).toInt = u1 - 4294967296 := by rw [ex]; omega
    have qB := own_pb (a := 4294967296 - u1) (b := n0) (c := 2147483648) (d := 4294967295) (by omega) (by omega) b3 b4
    rw [Int.sub_mul, ← hB] at qB
    have qA := own_pb (a := 4294967296 - u1) (b := n1) (c := 2147483648) (d := 536870912) (by omega) (by omega) b1 b2
    rw [Int.sub_mul, ← hA] at qA
    have k := own_core (X1 := own_s32 u) (Y1 := own_s32 n) (U0 := u &&& 4294967295) (N0 := n &&& 4294967295) (A := A - 4294967296 * n1) (B := B - 4294967296 * n0) (C := C) (D := D) (by rw [hx, ey, hA, Int.sub_mul]) (by rw [hx, en0, hB, Int.sub_mul]) (by rw [eu0, ey, hC]) (by rw [eu0, en0, hD]) ⟨by omega, by omega⟩ ⟨by omega, by omega⟩ ⟨by omega, by omega⟩ ⟨by omega, by omega⟩
    show (own_mh u n + ((u >>> ((63 : Int32).toInt64 &&& 63)) &&& n)).toInt = _
    have k' : (own_mh u n).toInt = (A - 4294967296 * n1) + ((B - 4294967296 * n0) + D / 4294967296) / 4294967296 + (((B - 4294967296 * n0) + D / 4294967296) % 4294967296 + C) / 4294967296 := k
    have e1 : ((B - 4294967296 * n0) + D / 4294967296) / 4294967296 = (B + D / 4294967296) / 4294967296 - n0 := by omega
    have e2 : ((B - 4294967296 * n0) + D / 4294967296) % 4294967296 = (B + D / 4294967296) % 4294967296 := by omega
    rw [e1, e2] at k'
    rw [own_addx (by rw [k', sg, hn]; omega), k', sg, hn]
    omega
theorem own_m13 (x : Int64) : 0 ≤ (x &&& 8191).toInt ∧ (x &&& 8191).toInt < 8192 := by
  have q : (x &&& 8191).toInt = x.toInt % 8192 := c_maskL x 8191 13 (by decide) (by decide)
  omega
theorem own_redeq {s0 n w : Int64} (hs : 0 ≤ s0.toInt ∧ s0.toInt < n.toInt) (h2 : n.toInt ≤ 2305843009213693952) (hw : 0 ≤ w.toInt ∧ w.toInt < 8192) : own_red (s0 + w) n = (s0 + w) - ((s0 + w) / n) * n := by
  have m := c_ladd s0 w
  have r := rng64 (s0 + w)
  obtain ⟨x, hx⟩ : ∃ z, z = s0 + w := ⟨_, rfl⟩
  rw [← hx] at m r
  rw [← hx]
  have p0 : 0 ≤ x.toInt := by omega
  have l := (c_lrem x n n.toInt rfl).1 p0
  have t := c_lmul 2 n
  have r2 := rng64 (2 * n)
  have e2 : (2 : Int64).toInt = 2 := by decide
  rw [e2] at t
  unfold own_red
  split
  · rename_i q
    rw [Int64.lt_iff_toInt_lt] at q
    exact Int64.toInt_inj.mp (by rw [l, Int.emod_eq_of_lt p0 q])
  · rename_i q
    rw [Int64.lt_iff_toInt_lt] at q
    split
    · rename_i q2
      rw [Int64.lt_iff_toInt_lt] at q2
      have d := c_lsub x n
      have rd := rng64 (x - n)
      apply Int64.toInt_inj.mp
      rw [l]
      have e : x.toInt % n.toInt = x.toInt - n.toInt := by
        rw [← Int.sub_emod_right x.toInt n.toInt]
        exact Int.emod_eq_of_lt (by omega) (by omega)
      omega
    · rfl
theorem own_eq0 {s0 n x y : Int64} (hs : 0 ≤ s0.toInt ∧ s0.toInt < n.toInt) (h1 : 1 ≤ n.toInt) (h2 : n.toInt ≤ 2305843009213693952) : own_red (s0 + (x &&& 8191)) n = (s0 + (x &&& 8191)) - ((s0 + (x &&& 8191)) / n) * n := own_redeq hs h2 (own_m13 _)
theorem own_eq1 {s0 n x y : Int64} (hs : 0 ≤ s0.toInt ∧ s0.toInt < n.toInt) (h1 : 1 ≤ n.toInt) (h2 : n.toInt ≤ 2305843009213693952) : own_red (s0 + ((x + y) &&& 8191)) n = (s0 + ((x + y) &&& 8191)) - ((s0 + ((x + y) &&& 8191)) / n) * n := own_redeq hs h2 (own_m13 _)
theorem own_eq2 {s0 n x y : Int64} (hs : 0 ≤ s0.toInt ∧ s0.toInt < n.toInt) (h1 : 1 ≤ n.toInt) (h2 : n.toInt ≤ 2305843009213693952) : own_red (s0 + ((x + y + (y + 0)) &&& 8191)) n = (s0 + ((x + 2 * y) &&& 8191)) - ((s0 + ((x + 2 * y) &&& 8191)) / n) * n := by
  rw [show x + y + (y + 0) = x + 2 * y from by grind]
  exact own_redeq hs h2 (own_m13 _)
theorem own_eq3 {s0 n x y : Int64} (hs : 0 ≤ s0.toInt ∧ s0.toInt < n.toInt) (h1 : 1 ≤ n.toInt) (h2 : n.toInt ≤ 2305843009213693952) : own_red (s0 + ((x + y + (y + 0) + (y + 0 + (0 + 1))) &&& 8191)) n = (s0 + ((x + 3 * y + 1) &&& 8191)) - ((s0 + ((x + 3 * y + 1) &&& 8191)) / n) * n := by
  rw [show x + y + (y + 0) + (y + 0 + (0 + 1)) = x + 3 * y + 1 from by grind]
  exact own_redeq hs h2 (own_m13 _)
theorem own_nA (x : Int64) : 1 ≤ ((x &&& 2305843009213693951) + 1).toInt ∧ ((x &&& 2305843009213693951) + 1).toInt ≤ 2305843009213693952 := by
  have q : (x &&& 2305843009213693951).toInt = x.toInt % 2305843009213693952 := c_maskL x 2305843009213693951 61 (by decide) (by decide)
  have m := c_ladd (x &&& 2305843009213693951) 1
  have r := rng64 ((x &&& 2305843009213693951) + 1)
  have e : (1 : Int64).toInt = 1 := by decide
  omega
theorem own_nB (x : Int64) : 1 ≤ ((x &&& 16383) + 1).toInt ∧ ((x &&& 16383) + 1).toInt ≤ 2305843009213693952 := by
  have q : (x &&& 16383).toInt = x.toInt % 16384 := c_maskL x 16383 14 (by decide) (by decide)
  have m := c_ladd (x &&& 16383) 1
  have r := rng64 ((x &&& 16383) + 1)
  have e : (1 : Int64).toInt = 1 := by decide
  omega
theorem pd_0 : parseMethodDescriptor "()V" = some ⟨[], none⟩ := by decide +kernel
theorem pd_1 : parseMethodDescriptor "()J" = some ⟨[], some .long⟩ := by decide +kernel
theorem pd_2 : parseMethodDescriptor "(JJ)J" = some ⟨[.long, .long], some .long⟩ := by decide +kernel
theorem pd_3 : parseMethodDescriptor "(JJ)V" = some ⟨[.long, .long], none⟩ := by decide +kernel
theorem pd_4 : parseMethodDescriptor "(Lcom/example/libmember/libmember/hash/Hash128;J)V" = some ⟨[(.object "com/example/libmember/libmember/hash/Hash128"), .long], none⟩ := by decide +kernel
theorem d1_0 : decode method_2_code 0 = .ok (.lload_n 0, 1) := by decide +kernel
theorem d1_1 : decode method_2_code 1 = .ok (.bipush 32, 2) := by decide +kernel
theorem d1_3 : decode method_2_code 3 = .ok (.lushr, 1) := by decide +kernel
theorem d1_4 : decode method_2_code 4 = .ok (.lstore 4, 2) := by decide +kernel
theorem d1_6 : decode method_2_code 6 = .ok (.lload_n 0, 1) := by decide +kernel
theorem d1_7 : decode method_2_code 7 = .ok (.ldc2_w 7, 3) := by decide +kernel
theorem d1_10 : decode method_2_code 10 = .ok (.land, 1) := by decide +kernel
theorem d1_11 : decode method_2_code 11 = .ok (.lstore 6, 2) := by decide +kernel
theorem d1_13 : decode method_2_code 13 = .ok (.lload_n 2, 1) := by decide +kernel
theorem d1_14 : decode method_2_code 14 = .ok (.bipush 32, 2) := by decide +kernel
theorem d1_16 : decode method_2_code 16 = .ok (.lushr, 1) := by decide +kernel
theorem d1_17 : decode method_2_code 17 = .ok (.lstore 8, 2) := by decide +kernel
theorem d1_19 : decode method_2_code 19 = .ok (.lload_n 2, 1) := by decide +kernel
theorem d1_20 : decode method_2_code 20 = .ok (.ldc2_w 7, 3) := by decide +kernel
theorem d1_23 : decode method_2_code 23 = .ok (.land, 1) := by decide +kernel
theorem d1_24 : decode method_2_code 24 = .ok (.lstore 10, 2) := by decide +kernel
theorem d1_26 : decode method_2_code 26 = .ok (.lload 6, 2) := by decide +kernel
theorem d1_28 : decode method_2_code 28 = .ok (.lload 10, 2) := by decide +kernel
theorem d1_30 : decode method_2_code 30 = .ok (.lmul, 1) := by decide +kernel
theorem d1_31 : decode method_2_code 31 = .ok (.lstore 12, 2) := by decide +kernel
theorem d1_33 : decode method_2_code 33 = .ok (.lload 4, 2) := by decide +kernel
theorem d1_35 : decode method_2_code 35 = .ok (.lload 10, 2) := by decide +kernel
theorem d1_37 : decode method_2_code 37 = .ok (.lmul, 1) := by decide +kernel
theorem d1_38 : decode method_2_code 38 = .ok (.lload 12, 2) := by decide +kernel
theorem d1_40 : decode method_2_code 40 = .ok (.bipush 32, 2) := by decide +kernel
theorem d1_42 : decode method_2_code 42 = .ok (.lushr, 1) := by decide +kernel
theorem d1_43 : decode method_2_code 43 = .ok (.ladd, 1) := by decide +kernel
theorem d1_44 : decode method_2_code 44 = .ok (.lstore 14, 2) := by decide +kernel
theorem d1_46 : decode method_2_code 46 = .ok (.lload 14, 2) := by decide +kernel
theorem d1_48 : decode method_2_code 48 = .ok (.ldc2_w 7, 3) := by decide +kernel
theorem d1_51 : decode method_2_code 51 = .ok (.land, 1) := by decide +kernel
theorem d1_52 : decode method_2_code 52 = .ok (.lload 6, 2) := by decide +kernel
theorem d1_54 : decode method_2_code 54 = .ok (.lload 8, 2) := by decide +kernel
theorem d1_56 : decode method_2_code 56 = .ok (.lmul, 1) := by decide +kernel
theorem d1_57 : decode method_2_code 57 = .ok (.ladd, 1) := by decide +kernel
theorem d1_58 : decode method_2_code 58 = .ok (.lstore 16, 2) := by decide +kernel
theorem d1_60 : decode method_2_code 60 = .ok (.lload 4, 2) := by decide +kernel
theorem d1_62 : decode method_2_code 62 = .ok (.lload 8, 2) := by decide +kernel
theorem d1_64 : decode method_2_code 64 = .ok (.lmul, 1) := by decide +kernel
theorem d1_65 : decode method_2_code 65 = .ok (.lload 14, 2) := by decide +kernel
theorem d1_67 : decode method_2_code 67 = .ok (.bipush 32, 2) := by decide +kernel
theorem d1_69 : decode method_2_code 69 = .ok (.lushr, 1) := by decide +kernel
theorem d1_70 : decode method_2_code 70 = .ok (.ladd, 1) := by decide +kernel
theorem d1_71 : decode method_2_code 71 = .ok (.lload 16, 2) := by decide +kernel
theorem d1_73 : decode method_2_code 73 = .ok (.bipush 32, 2) := by decide +kernel
theorem d1_75 : decode method_2_code 75 = .ok (.lushr, 1) := by decide +kernel
theorem d1_76 : decode method_2_code 76 = .ok (.ladd, 1) := by decide +kernel
theorem d1_77 : decode method_2_code 77 = .ok (.lreturn, 1) := by decide +kernel
def Qrm1 (u : Int64) (vv : Int64) (Z : State) (h0 : Heap) (n0 : Nat) (v : Option Value) (h : Heap) (L : List Loc) : Prop := v = some (.long (own_mu u vv)) ∧ Fr n0 L ∧ h = h0
set_option maxRecDepth 65536 in
set_option maxHeartbeats 40000000 in
theorem rm1 (l : Launch) (Z : State) (a0 : Array Value) (hw : ∀ d ∈ tables_1, d.before a0 Z = true) (u : Int64) (vv : Int64) (h0 : Heap) (n0 : Nat) (Z0 : n0 ≤ h0.size) :
    MetFree l (⟨"com/example/libmember/libmember/hash/WindowedPositionsNextPinLaw", "mulHiUnsigned", "(JJ)J"⟩ : MethodName) (head1 (Jvm.Cond.code (⟨"com/example/libmember/libmember/hash/WindowedPositionsNextPinLaw", "mulHiUnsigned", "(JJ)J"⟩ : MethodName) method_2_code 18 (some .long) :: []) ({ frames := 0, cells := 0, slots := 0, locals := 0 } : Room)) (fun ar_ U => ar_ = #[(.long u), (.long vv)] ∧ Z.Warmed39 U.vm ∧ U.heap = h0) (fun _ _ _ _ _ => True) (fun _ U o U' => ∃ v L, o = .returned v ∧ Qrm1 u vv Z h0 n0 v U'.heap L ∧ FrameEnd U o U' L ({ frames := 0, cells := 0, slots := 0, locals := 0 } : Room).cells ({ frames := 0, cells := 0, slots := 0, locals := 0 } : Room).slots) := by
  refine MetFree.of_bodySF (plainFor_of_name (by first | (simp [plainName, overriddenIn]; done) | decide +kernel)) hisR ?_
  intro p e s m args below meth c s₁ Bd hml0 hP hK
  obtain ⟨rfl, hZ, hh⟩ := hP
  have hx := Bd.exec
  have hby := Bd.bytes
  have hml : c.maxLocals = 18 := hml0
  have hown : s.vm.findClass "com/example/libmember/libmember/hash/WindowedPositionsNextPinLaw" = some m.cls := findClass_of_methodNamed Bd.named
  have hnm := (name_of_methodNamed Bd.named Bd.method).1
  have X0 : Stand p l e ({ frames := 0, cells := 0, slots := 0, locals := 0 } : Room) s m #[(.long u), (.long vv)] below meth c s₁ [] 0 0 := Stand.of_body Bd
  have e0 : s₁.heap = h0 := by rw [← hh, Bd.state]; rfl
  have N0 := Fr.nil n0
  show own_E p e below s (Qrm1 u vv Z h0 n0) ({ frames := 0, cells := 0, slots := 0, locals := 0 } : Room).cells ({ frames := 0, cells := 0, slots := 0, locals := 0 } : Room).slots (s₁.setTop (entryFrame m #[(.long u), (.long vv)] 18))
  refine own_go (fun t k => castTop (show _ = (mkF m 0 #[.val (.long u), .second, .val (.long vv), .second, .unset, .unset, .unset, .unset, .unset, .unset, .unset, .unset, .unset, .unset, .unset, .unset, .unset, .unset] []) from by first | (simp [entryFrame, mkF, argsToLocals, Value.category]; done) | rfl) k) ?_
  show own_E _ _ _ _ _ _ _ (s₁.setTop (mkF m 0 #[.val (.long u), .second, .val (.long vv), .second, .unset, .unset, .unset, .unset, .unset, .unset, .unset, .unset, .unset, .unset, .unset, .unset, .unset, .unset] []))
  refine own_go (fun _ k => XT.lloadN X0.here hx rfl (hb hby d1_0) rfl k) ?_
  show own_E _ _ _ _ _ _ _ (s₁.setTop (mkF m 1 #[.val (.long u), .second, .val (.long vv), .second, .unset, .unset, .unset, .unset, .unset, .unset, .unset, .unset, .unset, .unset, .unset, .unset, .unset, .unset] [(.long u)]))
  refine own_go (fun _ k => XT.bipushV X0.here hx rfl (32 : Int32) (hb hby d1_1) (by decide) k) ?_
  show own_E _ _ _ _ _ _ _ (s₁.setTop (mkF m 3 #[.val (.long u), .second, .val (.long vv), .second, .unset, .unset, .unset, .unset, .unset, .unset, .unset, .unset, .unset, .unset, .unset, .unset, .unset, .unset] [(.int (32 : Int32)), (.long u)]))
  refine own_go (fun _ k => XT.lushr X0.here hx rfl (hb hby d1_3) rfl k) ?_
  show own_E _ _ _ _ _ _ _ (s₁.setTop (mkF m 4 #[.val (.long u), .second, .val (.long vv), .second, .unset, .unset, .unset, .unset, .unset, .unset, .unset, .unset, .unset, .unset, .unset, .unset, .unset, .unset] [(.long (XT.ushrL u (32 : Int32)))]))
  obtain ⟨u1, h_u1⟩ : ∃ z, z = (XT.ushrL u (32 : Int32)) := ⟨_, rfl⟩
  rw [← h_u1]
  show own_E _ _ _ _ _ _ _ (s₁.setTop (mkF m 4 #[.val (.long u), .second, .val (.long vv), .second, .unset, .unset, .unset, .unset, .unset, .unset, .unset, .unset, .unset, .unset, .unset, .unset, .unset, .unset] [(.long u1)]))
  refine own_go (fun _ k => XT.lstore X0.here hx rfl (hb hby d1_4) rfl (l' := #[.val (.long u), .second, .val (.long vv), .second, .val (.long u1), .second, .unset, .unset, .unset, .unset, .unset, .unset, .unset, .unset, .unset, .unset, .unset, .unset]) rfl k) ?_
  show own_E _ _ _ _ _ _ _ (s₁.setTop (mkF m 6 #[.val (.long u), .second, .val (.long vv), .second, .val (.long u1), .second, .unset, .unset, .unset, .unset, .unset, .unset, .unset, .unset, .unset, .unset, .unset, .unset] []))
  refine own_go (fun _ k => XT.lloadN X0.here hx rfl (hb hby d1_6) rfl k) ?_
  show own_E _ _ _ _ _ _ _ (s₁.setTop (mkF m 7 #[.val (.long u), .second, .val (.long vv), .second, .val (.long u1), .second, .unset, .unset, .unset, .unset, .unset, .unset, .unset, .unset, .unset, .unset, .unset, .unset] [(.long u)]))
  refine own_go (fun _ k => X0.ldc2J hx hown (mvT hZ (hw _ (List.mem_of_getElem? (i := 5) rfl))) rfl (hb hby d1_7) k) ?_
  show own_E _ _ _ _ _ _ _ (s₁.setTop (mkF m 10 #[.val (.long u), .second, .val (.long vv), .second, .val (.long u1), .second, .unset, .unset, .unset, .unset, .unset, .unset, .unset, .unset, .unset, .unset, .unset, .unset] [(.long (4294967295 : Int64)), (.long u)]))
  refine own_go (fun _ k => XT.land X0.here hx rfl (hb hby d1_10) rfl k) ?_
  show own_E _ _ _ _ _ _ _ (s₁.setTop (mkF m 11 #[.val (.long u), .second, .val (.long vv), .second, .val (.long u1), .second, .unset, .unset, .unset, .unset, .unset, .unset, .unset, .unset, .unset, .unset, .unset, .unset] [(.long (u &&& (4294967295 : Int64)))]))
  obtain ⟨u0, h_u0⟩ : ∃ z, z = (u &&& (4294967295 : Int64)) := ⟨_, rfl⟩
  rw [← h_u0]
  show own_E _ _ _ _ _ _ _ (s₁.setTop (mkF m 11 #[.val (.long u), .second, .val (.long vv), .second, .val (.long u1), .second, .unset, .unset, .unset, .unset, .unset, .unset, .unset, .unset, .unset, .unset, .unset, .unset] [(.long u0)]))
  refine own_go (fun _ k => XT.lstore X0.here hx rfl (hb hby d1_11) rfl (l' := #[.val (.long u), .second, .val (.long vv), .second, .val (.long u1), .second, .val (.long u0), .second, .unset, .unset, .unset, .unset, .unset, .unset, .unset, .unset, .unset, .unset]) rfl k) ?_
  show own_E _ _ _ _ _ _ _ (s₁.setTop (mkF m 13 #[.val (.long u), .second, .val (.long vv), .second, .val (.long u1), .second, .val (.long u0), .second, .unset, .unset, .unset, .unset, .unset, .unset, .unset, .unset, .unset, .unset] []))
  refine own_go (fun _ k => XT.lloadN X0.here hx rfl (hb hby d1_13) rfl k) ?_
  show own_E _ _ _ _ _ _ _ (s₁.setTop (mkF m 14 #[.val (.long u), .second, .val (.long vv), .second, .val (.long u1), .second, .val (.long u0), .second, .unset, .unset, .unset, .unset, .unset, .unset, .unset, .unset, .unset, .unset] [(.long vv)]))
  refine own_go (fun _ k => XT.bipushV X0.here hx rfl (32 : Int32) (hb hby d1_14) (by decide) k) ?_
  show own_E _ _ _ _ _ _ _ (s₁.setTop (mkF m 16 #[.val (.long u), .second, .val (.long vv), .second, .val (.long u1), .second, .val (.long u0), .second, .unset, .unset, .unset, .unset, .unset, .unset, .unset, .unset, .unset, .unset] [(.int (32 : Int32)), (.long vv)]))
  refine own_go (fun _ k => XT.lushr X0.here hx rfl (hb hby d1_16) rfl k) ?_
  show own_E _ _ _ _ _ _ _ (s₁.setTop (mkF m 17 #[.val (.long u), .second, .val (.long vv), .second, .val (.long u1), .second, .val (.long u0), .second, .unset, .unset, .unset, .unset, .unset, .unset, .unset, .unset, .unset, .unset] [(.long (XT.ushrL vv (32 : Int32)))]))
  obtain ⟨v1, h_v1⟩ : ∃ z, z = (XT.ushrL vv (32 : Int32)) := ⟨_, rfl⟩
  rw [← h_v1]
  show own_E _ _ _ _ _ _ _ (s₁.setTop (mkF m 17 #[.val (.long u), .second, .val (.long vv), .second, .val (.long u1), .second, .val (.long u0), .second, .unset, .unset, .unset, .unset, .unset, .unset, .unset, .unset, .unset, .unset] [(.long v1)]))
  refine own_go (fun _ k => XT.lstore X0.here hx rfl (hb hby d1_17) rfl (l' := #[.val (.long u), .second, .val (.long vv), .second, .val (.long u1), .second, .val (.long u0), .second, .val (.long v1), .second, .unset, .unset, .unset, .unset, .unset, .unset, .unset, .unset]) rfl k) ?_
  show own_E _ _ _ _ _ _ _ (s₁.setTop (mkF m 19 #[.val (.long u), .second, .val (.long vv), .second, .val (.long u1), .second, .val (.long u0), .second, .val (.long v1), .second, .unset, .unset, .unset, .unset, .unset, .unset, .unset, .unset] []))
  refine own_go (fun _ k => XT.lloadN X0.here hx rfl (hb hby d1_19) rfl k) ?_
  show own_E _ _ _ _ _ _ _ (s₁.setTop (mkF m 20 #[.val (.long u), .second, .val (.long vv), .second, .val (.long u1), .second, .val (.long u0), .second, .val (.long v1), .second, .unset, .unset, .unset, .unset, .unset, .unset, .unset, .unset] [(.long vv)]))
  refine own_go (fun _ k => X0.ldc2J hx hown (mvT hZ (hw _ (List.mem_of_getElem? (i := 5) rfl))) rfl (hb hby d1_20) k) ?_
  show own_E _ _ _ _ _ _ _ (s₁.setTop (mkF m 23 #[.val (.long u), .second, .val (.long vv), .second, .val (.long u1), .second, .val (.long u0), .second, .val (.long v1), .second, .unset, .unset, .unset, .unset, .unset, .unset, .unset, .unset] [(.long (4294967295 : Int64)), (.long vv)]))
  refine own_go (fun _ k => XT.land X0.here hx rfl (hb hby d1_23) rfl k) ?_
  show own_E _ _ _ _ _ _ _ (s₁.setTop (mkF m 24 #[.val (.long u), .second, .val (.long vv), .second, .val (.long u1), .second, .val (.long u0), .second, .val (.long v1), .second, .unset, .unset, .unset, .unset, .unset, .unset, .unset, .unset] [(.long (vv &&& (4294967295 : Int64)))]))
  obtain ⟨v0, h_v0⟩ : ∃ z, z = (vv &&& (4294967295 : Int64)) := ⟨_, rfl⟩
  rw [← h_v0]
  show own_E _ _ _ _ _ _ _ (s₁.setTop (mkF m 24 #[.val (.long u), .second, .val (.long vv), .second, .val (.long u1), .second, .val (.long u0), .second, .val (.long v1), .second, .unset, .unset, .unset, .unset, .unset, .unset, .unset, .unset] [(.long v0)]))
  refine own_go (fun _ k => XT.lstore X0.here hx rfl (hb hby d1_24) rfl (l' := #[.val (.long u), .second, .val (.long vv), .second, .val (.long u1), .second, .val (.long u0), .second, .val (.long v1), .second, .val (.long v0), .second, .unset, .unset, .unset, .unset, .unset, .unset]) rfl k) ?_
  show own_E _ _ _ _ _ _ _ (s₁.setTop (mkF m 26 #[.val (.long u), .second, .val (.long vv), .second, .val (.long u1), .second, .val (.long u0), .second, .val (.long v1), .second, .val (.long v0), .second, .unset, .unset, .unset, .unset, .unset, .unset] []))
  refine own_go (fun _ k => XT.lload X0.here hx rfl (hb hby d1_26) rfl k) ?_
  show own_E _ _ _ _ _ _ _ (s₁.setTop (mkF m 28 #[.val (.long u), .second, .val (.long vv), .second, .val (.long u1), .second, .val (.long u0), .second, .val (.long v1), .second, .val (.long v0), .second, .unset, .unset, .unset, .unset, .unset, .unset] [(.long u0)]))
  refine own_go (fun _ k => XT.lload X0.here hx rfl (hb hby d1_28) rfl k) ?_
  show own_E _ _ _ _ _ _ _ (s₁.setTop (mkF m 30 #[.val (.long u), .second, .val (.long vv), .second, .val (.long u1), .second, .val (.long u0), .second, .val (.long v1), .second, .val (.long v0), .second, .unset, .unset, .unset, .unset, .unset, .unset] [(.long v0), (.long u0)]))
  refine own_go (fun _ k => XT.lmul X0.here hx rfl (hb hby d1_30) rfl k) ?_
  show own_E _ _ _ _ _ _ _ (s₁.setTop (mkF m 31 #[.val (.long u), .second, .val (.long vv), .second, .val (.long u1), .second, .val (.long u0), .second, .val (.long v1), .second, .val (.long v0), .second, .unset, .unset, .unset, .unset, .unset, .unset] [(.long (u0 * v0))]))
  obtain ⟨lo, h_lo⟩ : ∃ z, z = (u0 * v0) := ⟨_, rfl⟩
  rw [← h_lo]
  show own_E _ _ _ _ _ _ _ (s₁.setTop (mkF m 31 #[.val (.long u), .second, .val (.long vv), .second, .val (.long u1), .second, .val (.long u0), .second, .val (.long v1), .second, .val (.long v0), .second, .unset, .unset, .unset, .unset, .unset, .unset] [(.long lo)]))
  refine own_go (fun _ k => XT.lstore X0.here hx rfl (hb hby d1_31) rfl (l' := #[.val (.long u), .second, .val (.long vv), .second, .val (.long u1), .second, .val (.long u0), .second, .val (.long v1), .second, .val (.long v0), .second, .val (.long lo), .second, .unset, .unset, .unset, .unset]) rfl k) ?_
  show own_E _ _ _ _ _ _ _ (s₁.setTop (mkF m 33 #[.val (.long u), .second, .val (.long vv), .second, .val (.long u1), .second, .val (.long u0), .second, .val (.long v1), .second, .val (.long v0), .second, .val (.long lo), .second, .unset, .unset, .unset, .unset] []))
  refine own_go (fun _ k => XT.lload X0.here hx rfl (hb hby d1_33) rfl k) ?_
  show own_E _ _ _ _ _ _ _ (s₁.setTop (mkF m 35 #[.val (.long u), .second, .val (.long vv), .second, .val (.long u1), .second, .val (.long u0), .second, .val (.long v1), .second, .val (.long v0), .second, .val (.long lo), .second, .unset, .unset, .unset, .unset] [(.long u1)]))
  refine own_go (fun _ k => XT.lload X0.here hx rfl (hb hby d1_35) rfl k) ?_
  show own_E _ _ _ _ _ _ _ (s₁.setTop (mkF m 37 #[.val (.long u), .second, .val (.long vv), .second, .val (.long u1), .second, .val (.long u0), .second, .val (.long v1), .second, .val (.long v0), .second, .val (.long lo), .second, .unset, .unset, .unset, .unset] [(.long v0), (.long u1)]))
  refine own_go (fun _ k => XT.lmul X0.here hx rfl (hb hby d1_37) rfl k) ?_
  show own_E _ _ _ _ _ _ _ (s₁.setTop (mkF m 38 #[.val (.long u), .second, .val (.long vv), .second, .val (.long u1), .second, .val (.long u0), .second, .val (.long v1), .second, .val (.long v0), .second, .val (.long lo), .second, .unset, .unset, .unset, .unset] [(.long (u1 * v0))]))
  refine own_go (fun _ k => XT.lload X0.here hx rfl (hb hby d1_38) rfl k) ?_
  show own_E _ _ _ _ _ _ _ (s₁.setTop (mkF m 40 #[.val (.long u), .second, .val (.long vv), .second, .val (.long u1), .second, .val (.long u0), .second, .val (.long v1), .second, .val (.long v0), .second, .val (.long lo), .second, .unset, .unset, .unset, .unset] [(.long lo), (.long (u1 * v0))]))
  refine own_go (fun _ k => XT.bipushV X0.here hx rfl (32 : Int32) (hb hby d1_40) (by decide) k) ?_
  show own_E _ _ _ _ _ _ _ (s₁.setTop (mkF m 42 #[.val (.long u), .second, .val (.long vv), .second, .val (.long u1), .second, .val (.long u0), .second, .val (.long v1), .second, .val (.long v0), .second, .val (.long lo), .second, .unset, .unset, .unset, .unset] [(.int (32 : Int32)), (.long lo), (.long (u1 * v0))]))
  refine own_go (fun _ k => XT.lushr X0.here hx rfl (hb hby d1_42) rfl k) ?_
  show own_E _ _ _ _ _ _ _ (s₁.setTop (mkF m 43 #[.val (.long u), .second, .val (.long vv), .second, .val (.long u1), .second, .val (.long u0), .second, .val (.long v1), .second, .val (.long v0), .second, .val (.long lo), .second, .unset, .unset, .unset, .unset] [(.long (XT.ushrL lo (32 : Int32))), (.long (u1 * v0))]))
  refine own_go (fun _ k => XT.ladd X0.here hx rfl (hb hby d1_43) rfl k) ?_
  show own_E _ _ _ _ _ _ _ (s₁.setTop (mkF m 44 #[.val (.long u), .second, .val (.long vv), .second, .val (.long u1), .second, .val (.long u0), .second, .val (.long v1), .second, .val (.long v0), .second, .val (.long lo), .second, .unset, .unset, .unset, .unset] [(.long ((u1 * v0) + (XT.ushrL lo (32 : Int32))))]))
  obtain ⟨t, h_t⟩ : ∃ z, z = ((u1 * v0) + (XT.ushrL lo (32 : Int32))) := ⟨_, rfl⟩
  rw [← h_t]
  show own_E _ _ _ _ _ _ _ (s₁.setTop (mkF m 44 #[.val (.long u), .second, .val (.long vv), .second, .val (.long u1), .second, .val (.long u0), .second, .val (.long v1), .second, .val (.long v0), .second, .val (.long lo), .second, .unset, .unset, .unset, .unset] [(.long t)]))
  refine own_go (fun _ k => XT.lstore X0.here hx rfl (hb hby d1_44) rfl (l' := #[.val (.long u), .second, .val (.long vv), .second, .val (.long u1), .second, .val (.long u0), .second, .val (.long v1), .second, .val (.long v0), .second, .val (.long lo), .second, .val (.long t), .second, .unset, .unset]) rfl k) ?_
  show own_E _ _ _ _ _ _ _ (s₁.setTop (mkF m 46 #[.val (.long u), .second, .val (.long vv), .second, .val (.long u1), .second, .val (.long u0), .second, .val (.long v1), .second, .val (.long v0), .second, .val (.long lo), .second, .val (.long t), .second, .unset, .unset] []))
  refine own_go (fun _ k => XT.lload X0.here hx rfl (hb hby d1_46) rfl k) ?_
  show own_E _ _ _ _ _ _ _ (s₁.setTop (mkF m 48 #[.val (.long u), .second, .val (.long vv), .second, .val (.long u1), .second, .val (.long u0), .second, .val (.long v1), .second, .val (.long v0), .second, .val (.long lo), .second, .val (.long t), .second, .unset, .unset] [(.long t)]))
  refine own_go (fun _ k => X0.ldc2J hx hown (mvT hZ (hw _ (List.mem_of_getElem? (i := 5) rfl))) rfl (hb hby d1_48) k) ?_
  show own_E _ _ _ _ _ _ _ (s₁.setTop (mkF m 51 #[.val (.long u), .second, .val (.long vv), .second, .val (.long u1), .second, .val (.long u0), .second, .val (.long v1), .second, .val (.long v0), .second, .val (.long lo), .second, .val (.long t), .second, .unset, .unset] [(.long (4294967295 : Int64)), (.long t)]))
  refine own_go (fun _ k => XT.land X0.here hx rfl (hb hby d1_51) rfl k) ?_
  show own_E _ _ _ _ _ _ _ (s₁.setTop (mkF m 52 #[.val (.long u), .second, .val (.long vv), .second, .val (.long u1), .second, .val (.long u0), .second, .val (.long v1), .second, .val (.long v0), .second, .val (.long lo), .second, .val (.long t), .second, .unset, .unset] [(.long (t &&& (4294967295 : Int64)))]))
  refine own_go (fun _ k => XT.lload X0.here hx rfl (hb hby d1_52) rfl k) ?_
  show own_E _ _ _ _ _ _ _ (s₁.setTop (mkF m 54 #[.val (.long u), .second, .val (.long vv), .second, .val (.long u1), .second, .val (.long u0), .second, .val (.long v1), .second, .val (.long v0), .second, .val (.long lo), .second, .val (.long t), .second, .unset, .unset] [(.long u0), (.long (t &&& (4294967295 : Int64)))]))
  refine own_go (fun _ k => XT.lload X0.here hx rfl (hb hby d1_54) rfl k) ?_
  show own_E _ _ _ _ _ _ _ (s₁.setTop (mkF m 56 #[.val (.long u), .second, .val (.long vv), .second, .val (.long u1), .second, .val (.long u0), .second, .val (.long v1), .second, .val (.long v0), .second, .val (.long lo), .second, .val (.long t), .second, .unset, .unset] [(.long v1), (.long u0), (.long (t &&& (4294967295 : Int64)))]))
  refine own_go (fun _ k => XT.lmul X0.here hx rfl (hb hby d1_56) rfl k) ?_
  show own_E _ _ _ _ _ _ _ (s₁.setTop (mkF m 57 #[.val (.long u), .second, .val (.long vv), .second, .val (.long u1), .second, .val (.long u0), .second, .val (.long v1), .second, .val (.long v0), .second, .val (.long lo), .second, .val (.long t), .second, .unset, .unset] [(.long (u0 * v1)), (.long (t &&& (4294967295 : Int64)))]))
  refine own_go (fun _ k => XT.ladd X0.here hx rfl (hb hby d1_57) rfl k) ?_
  show own_E _ _ _ _ _ _ _ (s₁.setTop (mkF m 58 #[.val (.long u), .second, .val (.long vv), .second, .val (.long u1), .second, .val (.long u0), .second, .val (.long v1), .second, .val (.long v0), .second, .val (.long lo), .second, .val (.long t), .second, .unset, .unset] [(.long ((t &&& (4294967295 : Int64)) + (u0 * v1)))]))
  obtain ⟨w1, h_w1⟩ : ∃ z, z = ((t &&& (4294967295 : Int64)) + (u0 * v1)) := ⟨_, rfl⟩
  rw [← h_w1]
  show own_E _ _ _ _ _ _ _ (s₁.setTop (mkF m 58 #[.val (.long u), .second, .val (.long vv), .second, .val (.long u1), .second, .val (.long u0), .second, .val (.long v1), .second, .val (.long v0), .second, .val (.long lo), .second, .val (.long t), .second, .unset, .unset] [(.long w1)]))
  refine own_go (fun _ k => XT.lstore X0.here hx rfl (hb hby d1_58) rfl (l' := #[.val (.long u), .second, .val (.long vv), .second, .val (.long u1), .second, .val (.long u0), .second, .val (.long v1), .second, .val (.long v0), .second, .val (.long lo), .second, .val (.long t), .second, .val (.long w1), .second]) rfl k) ?_
  show own_E _ _ _ _ _ _ _ (s₁.setTop (mkF m 60 #[.val (.long u), .second, .val (.long vv), .second, .val (.long u1), .second, .val (.long u0), .second, .val (.long v1), .second, .val (.long v0), .second, .val (.long lo), .second, .val (.long t), .second, .val (.long w1), .second] []))
  refine own_go (fun _ k => XT.lload X0.here hx rfl (hb hby d1_60) rfl k) ?_
  show own_E _ _ _ _ _ _ _ (s₁.setTop (mkF m 62 #[.val (.long u), .second, .val (.long vv), .second, .val (.long u1), .second, .val (.long u0), .second, .val (.long v1), .second, .val (.long v0), .second, .val (.long lo), .second, .val (.long t), .second, .val (.long w1), .second] [(.long u1)]))
  refine own_go (fun _ k => XT.lload X0.here hx rfl (hb hby d1_62) rfl k) ?_
  show own_E _ _ _ _ _ _ _ (s₁.setTop (mkF m 64 #[.val (.long u), .second, .val (.long vv), .second, .val (.long u1), .second, .val (.long u0), .second, .val (.long v1), .second, .val (.long v0), .second, .val (.long lo), .second, .val (.long t), .second, .val (.long w1), .second] [(.long v1), (.long u1)]))
  refine own_go (fun _ k => XT.lmul X0.here hx rfl (hb hby d1_64) rfl k) ?_
  show own_E _ _ _ _ _ _ _ (s₁.setTop (mkF m 65 #[.val (.long u), .second, .val (.long vv), .second, .val (.long u1), .second, .val (.long u0), .second, .val (.long v1), .second, .val (.long v0), .second, .val (.long lo), .second, .val (.long t), .second, .val (.long w1), .second] [(.long (u1 * v1))]))
  refine own_go (fun _ k => XT.lload X0.here hx rfl (hb hby d1_65) rfl k) ?_
  show own_E _ _ _ _ _ _ _ (s₁.setTop (mkF m 67 #[.val (.long u), .second, .val (.long vv), .second, .val (.long u1), .second, .val (.long u0), .second, .val (.long v1), .second, .val (.long v0), .second, .val (.long lo), .second, .val (.long t), .second, .val (.long w1), .second] [(.long t), (.long (u1 * v1))]))
  refine own_go (fun _ k => XT.bipushV X0.here hx rfl (32 : Int32) (hb hby d1_67) (by decide) k) ?_
  show own_E _ _ _ _ _ _ _ (s₁.setTop (mkF m 69 #[.val (.long u), .second, .val (.long vv), .second, .val (.long u1), .second, .val (.long u0), .second, .val (.long v1), .second, .val (.long v0), .second, .val (.long lo), .second, .val (.long t), .second, .val (.long w1), .second] [(.int (32 : Int32)), (.long t), (.long (u1 * v1))]))
  refine own_go (fun _ k => XT.lushr X0.here hx rfl (hb hby d1_69) rfl k) ?_
  show own_E _ _ _ _ _ _ _ (s₁.setTop (mkF m 70 #[.val (.long u), .second, .val (.long vv), .second, .val (.long u1), .second, .val (.long u0), .second, .val (.long v1), .second, .val (.long v0), .second, .val (.long lo), .second, .val (.long t), .second, .val (.long w1), .second] [(.long (XT.ushrL t (32 : Int32))), (.long (u1 * v1))]))
  refine own_go (fun _ k => XT.ladd X0.here hx rfl (hb hby d1_70) rfl k) ?_
  show own_E _ _ _ _ _ _ _ (s₁.setTop (mkF m 71 #[.val (.long u), .second, .val (.long vv), .second, .val (.long u1), .second, .val (.long u0), .second, .val (.long v1), .second, .val (.long v0), .second, .val (.long lo), .second, .val (.long t), .second, .val (.long w1), .second] [(.long ((u1 * v1) + (XT.ushrL t (32 : Int32))))]))
  refine own_go (fun _ k => XT.lload X0.here hx rfl (hb hby d1_71) rfl k) ?_
  show own_E _ _ _ _ _ _ _ (s₁.setTop (mkF m 73 #[.val (.long u), .second, .val (.long vv), .second, .val (.long u1), .second, .val (.long u0), .second, .val (.long v1), .second, .val (.long v0), .second, .val (.long lo), .second, .val (.long t), .second, .val (.long w1), .second] [(.long w1), (.long ((u1 * v1) + (XT.ushrL t (32 : Int32))))]))
  refine own_go (fun _ k => XT.bipushV X0.here hx rfl (32 : Int32) (hb hby d1_73) (by decide) k) ?_
  show own_E _ _ _ _ _ _ _ (s₁.setTop (mkF m 75 #[.val (.long u), .second, .val (.long vv), .second, .val (.long u1), .second, .val (.long u0), .second, .val (.long v1), .second, .val (.long v0), .second, .val (.long lo), .second, .val (.long t), .second, .val (.long w1), .second] [(.int (32 : Int32)), (.long w1), (.long ((u1 * v1) + (XT.ushrL t (32 : Int32))))]))
  refine own_go (fun _ k => XT.lushr X0.here hx rfl (hb hby d1_75) rfl k) ?_
  show own_E _ _ _ _ _ _ _ (s₁.setTop (mkF m 76 #[.val (.long u), .second, .val (.long vv), .second, .val (.long u1), .second, .val (.long u0), .second, .val (.long v1), .second, .val (.long v0), .second, .val (.long lo), .second, .val (.long t), .second, .val (.long w1), .second] [(.long (XT.ushrL w1 (32 : Int32))), (.long ((u1 * v1) + (XT.ushrL t (32 : Int32))))]))
  refine own_go (fun _ k => XT.ladd X0.here hx rfl (hb hby d1_76) rfl k) ?_
  show own_E _ _ _ _ _ _ _ (s₁.setTop (mkF m 77 #[.val (.long u), .second, .val (.long vv), .second, .val (.long u1), .second, .val (.long u0), .second, .val (.long v1), .second, .val (.long v0), .second, .val (.long lo), .second, .val (.long t), .second, .val (.long w1), .second] [(.long (((u1 * v1) + (XT.ushrL t (32 : Int32))) + (XT.ushrL w1 (32 : Int32))))]))
  exact own_ret X0 hx Bd.returns Bd.notSynchronized rfl (Or.inr (Or.inl ⟨rfl, rfl, _, rfl⟩)) (hb hby d1_77) (by rw [e0]; exact ⟨by subst h_w1 h_t h_lo h_v0 h_v1 h_u0 h_u1; rfl, N0, rfl⟩) (by decide) (by decide)
theorem d7_0 : decode jdk_29_method_45_code 0 = .ok (.lload_n 0, 1) := by decide +kernel
theorem d7_1 : decode jdk_29_method_45_code 1 = .ok (.bipush 32, 2) := by decide +kernel
theorem d7_3 : decode jdk_29_method_45_code 3 = .ok (.lshr, 1) := by decide +kernel
theorem d7_4 : decode jdk_29_method_45_code 4 = .ok (.lstore 4, 2) := by decide +kernel
theorem d7_6 : decode jdk_29_method_45_code 6 = .ok (.lload_n 0, 1) := by decide +kernel
theorem d7_7 : decode jdk_29_method_45_code 7 = .ok (.ldc2_w 138, 3) := by decide +kernel
theorem d7_10 : decode jdk_29_method_45_code 10 = .ok (.land, 1) := by decide +kernel
theorem d7_11 : decode jdk_29_method_45_code 11 = .ok (.lstore 6, 2) := by decide +kernel
theorem d7_13 : decode jdk_29_method_45_code 13 = .ok (.lload_n 2, 1) := by decide +kernel
theorem d7_14 : decode jdk_29_method_45_code 14 = .ok (.bipush 32, 2) := by decide +kernel
theorem d7_16 : decode jdk_29_method_45_code 16 = .ok (.lshr, 1) := by decide +kernel
theorem d7_17 : decode jdk_29_method_45_code 17 = .ok (.lstore 8, 2) := by decide +kernel
theorem d7_19 : decode jdk_29_method_45_code 19 = .ok (.lload_n 2, 1) := by decide +kernel
theorem d7_20 : decode jdk_29_method_45_code 20 = .ok (.ldc2_w 138, 3) := by decide +kernel
theorem d7_23 : decode jdk_29_method_45_code 23 = .ok (.land, 1) := by decide +kernel
theorem d7_24 : decode jdk_29_method_45_code 24 = .ok (.lstore 10, 2) := by decide +kernel
theorem d7_26 : decode jdk_29_method_45_code 26 = .ok (.lload 6, 2) := by decide +kernel
theorem d7_28 : decode jdk_29_method_45_code 28 = .ok (.lload 10, 2) := by decide +kernel
theorem d7_30 : decode jdk_29_method_45_code 30 = .ok (.lmul, 1) := by decide +kernel
theorem d7_31 : decode jdk_29_method_45_code 31 = .ok (.lstore 12, 2) := by decide +kernel
theorem d7_33 : decode jdk_29_method_45_code 33 = .ok (.lload 4, 2) := by decide +kernel
theorem d7_35 : decode jdk_29_method_45_code 35 = .ok (.lload 10, 2) := by decide +kernel
theorem d7_37 : decode jdk_29_method_45_code 37 = .ok (.lmul, 1) := by decide +kernel
theorem d7_38 : decode jdk_29_method_45_code 38 = .ok (.lload 12, 2) := by decide +kernel
theorem d7_40 : decode jdk_29_method_45_code 40 = .ok (.bipush 32, 2) := by decide +kernel
theorem d7_42 : decode jdk_29_method_45_code 42 = .ok (.lushr, 1) := by decide +kernel
theorem d7_43 : decode jdk_29_method_45_code 43 = .ok (.ladd, 1) := by decide +kernel
theorem d7_44 : decode jdk_29_method_45_code 44 = .ok (.lstore 14, 2) := by decide +kernel
theorem d7_46 : decode jdk_29_method_45_code 46 = .ok (.lload 14, 2) := by decide +kernel
theorem d7_48 : decode jdk_29_method_45_code 48 = .ok (.ldc2_w 138, 3) := by decide +kernel
theorem d7_51 : decode jdk_29_method_45_code 51 = .ok (.land, 1) := by decide +kernel
theorem d7_52 : decode jdk_29_method_45_code 52 = .ok (.lstore 16, 2) := by decide +kernel
theorem d7_54 : decode jdk_29_method_45_code 54 = .ok (.lload 14, 2) := by decide +kernel
theorem d7_56 : decode jdk_29_method_45_code 56 = .ok (.bipush 32, 2) := by decide +kernel
theorem d7_58 : decode jdk_29_method_45_code 58 = .ok (.lshr, 1) := by decide +kernel
theorem d7_59 : decode jdk_29_method_45_code 59 = .ok (.lstore 18, 2) := by decide +kernel
theorem d7_61 : decode jdk_29_method_45_code 61 = .ok (.lload 16, 2) := by decide +kernel
theorem d7_63 : decode jdk_29_method_45_code 63 = .ok (.lload 6, 2) := by decide +kernel
theorem d7_65 : decode jdk_29_method_45_code 65 = .ok (.lload 8, 2) := by decide +kernel
theorem d7_67 : decode jdk_29_method_45_code 67 = .ok (.lmul, 1) := by decide +kernel
theorem d7_68 : decode jdk_29_method_45_code 68 = .ok (.ladd, 1) := by decide +kernel
theorem d7_69 : decode jdk_29_method_45_code 69 = .ok (.lstore 16, 2) := by decide +kernel
theorem d7_71 : decode jdk_29_method_45_code 71 = .ok (.lload 4, 2) := by decide +kernel
theorem d7_73 : decode jdk_29_method_45_code 73 = .ok (.lload 8, 2) := by decide +kernel
theorem d7_75 : decode jdk_29_method_45_code 75 = .ok (.lmul, 1) := by decide +kernel
theorem d7_76 : decode jdk_29_method_45_code 76 = .ok (.lload 18, 2) := by decide +kernel
theorem d7_78 : decode jdk_29_method_45_code 78 = .ok (.ladd, 1) := by decide +kernel
theorem d7_79 : decode jdk_29_method_45_code 79 = .ok (.lload 16, 2) := by decide +kernel
theorem d7_81 : decode jdk_29_method_45_code 81 = .ok (.bipush 32, 2) := by decide +kernel
theorem d7_83 : decode jdk_29_method_45_code 83 = .ok (.lshr, 1) := by decide +kernel
theorem d7_84 : decode jdk_29_method_45_code 84 = .ok (.ladd, 1) := by decide +kernel
theorem d7_85 : decode jdk_29_method_45_code 85 = .ok (.lreturn, 1) := by decide +kernel
def Qrm7 (u : Int64) (vv : Int64) (Z : State) (h0 : Heap) (n0 : Nat) (v : Option Value) (h : Heap) (L : List Loc) : Prop := v = some (.long (own_mh u vv)) ∧ Fr n0 L ∧ h = h0
set_option maxRecDepth 65536 in
set_option maxHeartbeats 40000000 in
theorem rm7 (l : Launch) (Z : State) (a0 : Array Value) (hw : ∀ d ∈ tables_1, d.before a0 Z = true) (u : Int64) (vv : Int64) (h0 : Heap) (n0 : Nat) (Z0 : n0 ≤ h0.size) :
    MetFree l (⟨"java/lang/Math", "multiplyHigh", "(JJ)J"⟩ : MethodName) (head1 (Jvm.Cond.code (⟨"java/lang/Math", "multiplyHigh", "(JJ)J"⟩ : MethodName) jdk_29_method_45_code 20 (some .long) :: []) ({ frames := 0, cells := 0, slots := 0, locals := 0 } : Room)) (fun ar_ U => ar_ = #[(.long u), (.long vv)] ∧ Z.Warmed39 U.vm ∧ U.heap = h0) (fun _ _ _ _ _ => True) (fun _ U o U' => ∃ v L, o = .returned v ∧ Qrm7 u vv Z h0 n0 v U'.heap L ∧ FrameEnd U o U' L ({ frames := 0, cells := 0, slots := 0, locals := 0 } : Room).cells ({ frames := 0, cells := 0, slots := 0, locals := 0 } : Room).slots) := by
  refine MetFree.of_bodySF (by decide +kernel) hisR ?_
  intro p e s m args below meth c s₁ Bd hml0 hP hK
  obtain ⟨rfl, hZ, hh⟩ := hP
  have hx := Bd.exec
  have hby := Bd.bytes
  have hml : c.maxLocals = 20 := hml0
  have hown : s.vm.findClass "java/lang/Math" = some m.cls := findClass_of_methodNamed Bd.named
  have hnm := (name_of_methodNamed Bd.named Bd.method).1
  have X0 : Stand p l e ({ frames := 0, cells := 0, slots := 0, locals := 0 } : Room) s m #[(.long u), (.long vv)] below meth c s₁ [] 0 0 := Stand.of_body Bd
  have e0 : s₁.heap = h0 := by rw [← hh, Bd.state]; rfl
  have N0 := Fr.nil n0
  show own_E p e below s (Qrm7 u vv Z h0 n0) ({ frames := 0, cells := 0, slots := 0, locals := 0 } : Room).cells ({ frames := 0, cells := 0, slots := 0, locals := 0 } : Room).slots (s₁.setTop (entryFrame m #[(.long u), (.long vv)] 20))
  refine own_go (fun t k => castTop (show _ = (mkF m 0 #[.val (.long u), .second, .val (.long vv), .second, .unset, .unset, .unset, .unset, .unset, .unset, .unset, .unset, .unset, .unset, .unset, .unset, .unset, .unset, .unset, .unset] []) from by first | (simp [entryFrame, mkF, argsToLocals, Value.category]; done) | rfl) k) ?_
  show own_E _ _ _ _ _ _ _ (s₁.setTop (mkF m 0 #[.val (.long u), .second, .val (.long vv), .second, .unset, .unset, .unset, .unset, .unset, .unset, .unset, .unset, .unset, .unset, .unset, .unset, .unset, .unset, .unset, .unset] []))
  refine own_go (fun _ k => XT.lloadN X0.here hx rfl (hb hby d7_0) rfl k) ?_
  show own_E _ _ _ _ _ _ _ (s₁.setTop (mkF m 1 #[.val (.long u), .second, .val (.long vv), .second, .unset, .unset, .unset, .unset, .unset, .unset, .unset, .unset, .unset, .unset, .unset, .unset, .unset, .unset, .unset, .unset] [(.long u)]))
  refine own_go (fun _ k => XT.bipushV X0.here hx rfl (32 : Int32) (hb hby d7_1) (by decide) k) ?_
  show own_E _ _ _ _ _ _ _ (s₁.setTop (mkF m 3 #[.val (.long u), .second, .val (.long vv), .second, .unset, .unset, .unset, .unset, .unset, .unset, .unset, .unset, .unset, .unset, .unset, .unset, .unset, .unset, .unset, .unset] [(.int (32 : Int32)), (.long u)]))
  refine own_go (fun _ k => XT.lshr X0.here hx rfl (hb hby d7_3) rfl k) ?_
  show own_E _ _ _ _ _ _ _ (s₁.setTop (mkF m 4 #[.val (.long u), .second, .val (.long vv), .second, .unset, .unset, .unset, .unset, .unset, .unset, .unset, .unset, .unset, .unset, .unset, .unset, .unset, .unset, .unset, .unset] [(.long (u >>> (((32 : Int32)).toInt64 &&& 63)))]))
  obtain ⟨x1, h_x1⟩ : ∃ z, z = (u >>> (((32 : Int32)).toInt64 &&& 63)) := ⟨_, rfl⟩
  rw [← h_x1]
  show own_E _ _ _ _ _ _ _ (s₁.setTop (mkF m 4 #[.val (.long u), .second, .val (.long vv), .second, .unset, .unset, .unset, .unset, .unset, .unset, .unset, .unset, .unset, .unset, .unset, .unset, .unset, .unset, .unset, .unset] [(.long x1)]))
  refine own_go (fun _ k => XT.lstore X0.here hx rfl (hb hby d7_4) rfl (l' := #[.val (.long u), .second, .val (.long vv), .second, .val (.long x1), .second, .unset, .unset, .unset, .unset, .unset, .unset, .unset, .unset, .unset, .unset, .unset, .unset, .unset, .unset]) rfl k) ?_
  show own_E _ _ _ _ _ _ _ (s₁.setTop (mkF m 6 #[.val (.long u), .second, .val (.long vv), .second, .val (.long x1), .second, .unset, .unset, .unset, .unset, .unset, .unset, .unset, .unset, .unset, .unset, .unset, .unset, .unset, .unset] []))
  refine own_go (fun _ k => XT.lloadN X0.here hx rfl (hb hby d7_6) rfl k) ?_
  show own_E _ _ _ _ _ _ _ (s₁.setTop (mkF m 7 #[.val (.long u), .second, .val (.long vv), .second, .val (.long x1), .second, .unset, .unset, .unset, .unset, .unset, .unset, .unset, .unset, .unset, .unset, .unset, .unset, .unset, .unset] [(.long u)]))
  refine own_go (fun _ k => X0.ldc2J hx hown (mvT hZ (hw _ (List.mem_of_getElem? (i := 45) rfl))) rfl (hb hby d7_7) k) ?_
  show own_E _ _ _ _ _ _ _ (s₁.setTop (mkF m 10 #[.val (.long u), .second, .val (.long vv), .second, .val (.long x1), .second, .unset, .unset, .unset, .unset, .unset, .unset, .unset, .unset, .unset, .unset, .unset, .unset, .unset, .unset] [(.long (4294967295 : Int64)), (.long u)]))
  refine own_go (fun _ k => XT.land X0.here hx rfl (hb hby d7_10) rfl k) ?_
  show own_E _ _ _ _ _ _ _ (s₁.setTop (mkF m 11 #[.val (.long u), .second, .val (.long vv), .second, .val (.long x1), .second, .unset, .unset, .unset, .unset, .unset, .unset, .unset, .unset, .unset, .unset, .unset, .unset, .unset, .unset] [(.long (u &&& (4294967295 : Int64)))]))
  obtain ⟨x2, h_x2⟩ : ∃ z, z = (u &&& (4294967295 : Int64)) := ⟨_, rfl⟩
  rw [← h_x2]
  show own_E _ _ _ _ _ _ _ (s₁.setTop (mkF m 11 #[.val (.long u), .second, .val (.long vv), .second, .val (.long x1), .second, .unset, .unset, .unset, .unset, .unset, .unset, .unset, .unset, .unset, .unset, .unset, .unset, .unset, .unset] [(.long x2)]))
  refine own_go (fun _ k => XT.lstore X0.here hx rfl (hb hby d7_11) rfl (l' := #[.val (.long u), .second, .val (.long vv), .second, .val (.long x1), .second, .val (.long x2), .second, .unset, .unset, .unset, .unset, .unset, .unset, .unset, .unset, .unset, .unset, .unset, .unset]) rfl k) ?_
  show own_E _ _ _ _ _ _ _ (s₁.setTop (mkF m 13 #[.val (.long u), .second, .val (.long vv), .second, .val (.long x1), .second, .val (.long x2), .second, .unset, .unset, .unset, .unset, .unset, .unset, .unset, .unset, .unset, .unset, .unset, .unset] []))
  refine own_go (fun _ k => XT.lloadN X0.here hx rfl (hb hby d7_13) rfl k) ?_
  show own_E _ _ _ _ _ _ _ (s₁.setTop (mkF m 14 #[.val (.long u), .second, .val (.long vv), .second, .val (.long x1), .second, .val (.long x2), .second, .unset, .unset, .unset, .unset, .unset, .unset, .unset, .unset, .unset, .unset, .unset, .unset] [(.long vv)]))
  refine own_go (fun _ k => XT.bipushV X0.here hx rfl (32 : Int32) (hb hby d7_14) (by decide) k) ?_
  show own_E _ _ _ _ _ _ _ (s₁.setTop (mkF m 16 #[.val (.long u), .second, .val (.long vv), .second, .val (.long x1), .second, .val (.long x2), .second, .unset, .unset, .unset, .unset, .unset, .unset, .unset, .unset, .unset, .unset, .unset, .unset] [(.int (32 : Int32)), (.long vv)]))
  refine own_go (fun _ k => XT.lshr X0.here hx rfl (hb hby d7_16) rfl k) ?_
  show own_E _ _ _ _ _ _ _ (s₁.setTop (mkF m 17 #[.val (.long u), .second, .val (.long vv), .second, .val (.long x1), .second, .val (.long x2), .second, .unset, .unset, .unset, .unset, .unset, .unset, .unset, .unset, .unset, .unset, .unset, .unset] [(.long (vv >>> (((32 : Int32)).toInt64 &&& 63)))]))
  obtain ⟨y1, h_y1⟩ : ∃ z, z = (vv >>> (((32 : Int32)).toInt64 &&& 63)) := ⟨_, rfl⟩
  rw [← h_y1]
  show own_E _ _ _ _ _ _ _ (s₁.setTop (mkF m 17 #[.val (.long u), .second, .val (.long vv), .second, .val (.long x1), .second, .val (.long x2), .second, .unset, .unset, .unset, .unset, .unset, .unset, .unset, .unset, .unset, .unset, .unset, .unset] [(.long y1)]))
  refine own_go (fun _ k => XT.lstore X0.here hx rfl (hb hby d7_17) rfl (l' := #[.val (.long u), .second, .val (.long vv), .second, .val (.long x1), .second, .val (.long x2), .second, .val (.long y1), .second, .unset, .unset, .unset, .unset, .unset, .unset, .unset, .unset, .unset, .unset]) rfl k) ?_
  show own_E _ _ _ _ _ _ _ (s₁.setTop (mkF m 19 #[.val (.long u), .second, .val (.long vv), .second, .val (.long x1), .second, .val (.long x2), .second, .val (.long y1), .second, .unset, .unset, .unset, .unset, .unset, .unset, .unset, .unset, .unset, .unset] []))
  refine own_go (fun _ k => XT.lloadN X0.here hx rfl (hb hby d7_19) rfl k) ?_
  show own_E _ _ _ _ _ _ _ (s₁.setTop (mkF m 20 #[.val (.long u), .second, .val (.long vv), .second, .val (.long x1), .second, .val (.long x2), .second, .val (.long y1), .second, .unset, .unset, .unset, .unset, .unset, .unset, .unset, .unset, .unset, .unset] [(.long vv)]))
  refine own_go (fun _ k => X0.ldc2J hx hown (mvT hZ (hw _ (List.mem_of_getElem? (i := 45) rfl))) rfl (hb hby d7_20) k) ?_
  show own_E _ _ _ _ _ _ _ (s₁.setTop (mkF m 23 #[.val (.long u), .second, .val (.long vv), .second, .val (.long x1), .second, .val (.long x2), .second, .val (.long y1), .second, .unset, .unset, .unset, .unset, .unset, .unset, .unset, .unset, .unset, .unset] [(.long (4294967295 : Int64)), (.long vv)]))
  refine own_go (fun _ k => XT.land X0.here hx rfl (hb hby d7_23) rfl k) ?_
  show own_E _ _ _ _ _ _ _ (s₁.setTop (mkF m 24 #[.val (.long u), .second, .val (.long vv), .second, .val (.long x1), .second, .val (.long x2), .second, .val (.long y1), .second, .unset, .unset, .unset, .unset, .unset, .unset, .unset, .unset, .unset, .unset] [(.long (vv &&& (4294967295 : Int64)))]))
  obtain ⟨y2, h_y2⟩ : ∃ z, z = (vv &&& (4294967295 : Int64)) := ⟨_, rfl⟩
  rw [← h_y2]
  show own_E _ _ _ _ _ _ _ (s₁.setTop (mkF m 24 #[.val (.long u), .second, .val (.long vv), .second, .val (.long x1), .second, .val (.long x2), .second, .val (.long y1), .second, .unset, .unset, .unset, .unset, .unset, .unset, .unset, .unset, .unset, .unset] [(.long y2)]))
  refine own_go (fun _ k => XT.lstore X0.here hx rfl (hb hby d7_24) rfl (l' := #[.val (.long u), .second, .val (.long vv), .second, .val (.long x1), .second, .val (.long x2), .second, .val (.long y1), .second, .val (.long y2), .second, .unset, .unset, .unset, .unset, .unset, .unset, .unset, .unset]) rfl k) ?_
  show own_E _ _ _ _ _ _ _ (s₁.setTop (mkF m 26 #[.val (.long u), .second, .val (.long vv), .second, .val (.long x1), .second, .val (.long x2), .second, .val (.long y1), .second, .val (.long y2), .second, .unset, .unset, .unset, .unset, .unset, .unset, .unset, .unset] []))
  refine own_go (fun _ k => XT.lload X0.here hx rfl (hb hby d7_26) rfl k) ?_
  show own_E _ _ _ _ _ _ _ (s₁.setTop (mkF m 28 #[.val (.long u), .second, .val (.long vv), .second, .val (.long x1), .second, .val (.long x2), .second, .val (.long y1), .second, .val (.long y2), .second, .unset, .unset, .unset, .unset, .unset, .unset, .unset, .unset] [(.long x2)]))
  refine own_go (fun _ k => XT.lload X0.here hx rfl (hb hby d7_28) rfl k) ?_
  show own_E _ _ _ _ _ _ _ (s₁.setTop (mkF m 30 #[.val (.long u), .second, .val (.long vv), .second, .val (.long x1), .second, .val (.long x2), .second, .val (.long y1), .second, .val (.long y2), .second, .unset, .unset, .unset, .unset, .unset, .unset, .unset, .unset] [(.long y2), (.long x2)]))
  refine own_go (fun _ k => XT.lmul X0.here hx rfl (hb hby d7_30) rfl k) ?_
  show own_E _ _ _ _ _ _ _ (s₁.setTop (mkF m 31 #[.val (.long u), .second, .val (.long vv), .second, .val (.long x1), .second, .val (.long x2), .second, .val (.long y1), .second, .val (.long y2), .second, .unset, .unset, .unset, .unset, .unset, .unset, .unset, .unset] [(.long (x2 * y2))]))
  obtain ⟨z2, h_z2⟩ : ∃ z, z = (x2 * y2) := ⟨_, rfl⟩
  rw [← h_z2]
  show own_E _ _ _ _ _ _ _ (s₁.setTop (mkF m 31 #[.val (.long u), .second, .val (.long vv), .second, .val (.long x1), .second, .val (.long x2), .second, .val (.long y1), .second, .val (.long y2), .second, .unset, .unset, .unset, .unset, .unset, .unset, .unset, .unset] [(.long z2)]))
  refine own_go (fun _ k => XT.lstore X0.here hx rfl (hb hby d7_31) rfl (l' := #[.val (.long u), .second, .val (.long vv), .second, .val (.long x1), .second, .val (.long x2), .second, .val (.long y1), .second, .val (.long y2), .second, .val (.long z2), .second, .unset, .unset, .unset, .unset, .unset, .unset]) rfl k) ?_
  show own_E _ _ _ _ _ _ _ (s₁.setTop (mkF m 33 #[.val (.long u), .second, .val (.long vv), .second, .val (.long x1), .second, .val (.long x2), .second, .val (.long y1), .second, .val (.long y2), .second, .val (.long z2), .second, .unset, .unset, .unset, .unset, .unset, .unset] []))
  refine own_go (fun _ k => XT.lload X0.here hx rfl (hb hby d7_33) rfl k) ?_
  show own_E _ _ _ _ _ _ _ (s₁.setTop (mkF m 35 #[.val (.long u), .second, .val (.long vv), .second, .val (.long x1), .second, .val (.long x2), .second, .val (.long y1), .second, .val (.long y2), .second, .val (.long z2), .second, .unset, .unset, .unset, .unset, .unset, .unset] [(.long x1)]))
  refine own_go (fun _ k => XT.lload X0.here hx rfl (hb hby d7_35) rfl k) ?_
  show own_E _ _ _ _ _ _ _ (s₁.setTop (mkF m 37 #[.val (.long u), .second, .val (.long vv), .second, .val (.long x1), .second, .val (.long x2), .second, .val (.long y1), .second, .val (.long y2), .second, .val (.long z2), .second, .unset, .unset, .unset, .unset, .unset, .unset] [(.long y2), (.long x1)]))
  refine own_go (fun _ k => XT.lmul X0.here hx rfl (hb hby d7_37) rfl k) ?_
  show own_E _ _ _ _ _ _ _ (s₁.setTop (mkF m 38 #[.val (.long u), .second, .val (.long vv), .second, .val (.long x1), .second, .val (.long x2), .second, .val (.long y1), .second, .val (.long y2), .second, .val (.long z2), .second, .unset, .unset, .unset, .unset, .unset, .unset] [(.long (x1 * y2))]))
  refine own_go (fun _ k => XT.lload X0.here hx rfl (hb hby d7_38) rfl k) ?_
  show own_E _ _ _ _ _ _ _ (s₁.setTop (mkF m 40 #[.val (.long u), .second, .val (.long vv), .second, .val (.long x1), .second, .val (.long x2), .second, .val (.long y1), .second, .val (.long y2), .second, .val (.long z2), .second, .unset, .unset, .unset, .unset, .unset, .unset] [(.long z2), (.long (x1 * y2))]))
  refine own_go (fun _ k => XT.bipushV X0.here hx rfl (32 : Int32) (hb hby d7_40) (by decide) k) ?_
  show own_E _ _ _ _ _ _ _ (s₁.setTop (mkF m 42 #[.val (.long u), .second, .val (.long vv), .second, .val (.long x1), .second, .val (.long x2), .second, .val (.long y1), .second, .val (.long y2), .second, .val (.long z2), .second, .unset, .unset, .unset, .unset, .unset, .unset] [(.int (32 : Int32)), (.long z2), (.long (x1 * y2))]))
  refine own_go (fun _ k => XT.lushr X0.here hx rfl (hb hby d7_42) rfl k) ?_
  show own_E _ _ _ _ _ _ _ (s₁.setTop (mkF m 43 #[.val (.long u), .second, .val (.long vv), .second, .val (.long x1), .second, .val (.long x2), .second, .val (.long y1), .second, .val (.long y2), .second, .val (.long z2), .second, .unset, .unset, .unset, .unset, .unset, .unset] [(.long (XT.ushrL z2 (32 : Int32))), (.long (x1 * y2))]))
  refine own_go (fun _ k => XT.ladd X0.here hx rfl (hb hby d7_43) rfl k) ?_
  show own_E _ _ _ _ _ _ _ (s₁.setTop (mkF m 44 #[.val (.long u), .second, .val (.long vv), .second, .val (.long x1), .second, .val (.long x2), .second, .val (.long y1), .second, .val (.long y2), .second, .val (.long z2), .second, .unset, .unset, .unset, .unset, .unset, .unset] [(.long ((x1 * y2) + (XT.ushrL z2 (32 : Int32))))]))
  obtain ⟨t, h_t⟩ : ∃ z, z = ((x1 * y2) + (XT.ushrL z2 (32 : Int32))) := ⟨_, rfl⟩
  rw [← h_t]
  show own_E _ _ _ _ _ _ _ (s₁.setTop (mkF m 44 #[.val (.long u), .second, .val (.long vv), .second, .val (.long x1), .second, .val (.long x2), .second, .val (.long y1), .second, .val (.long y2), .second, .val (.long z2), .second, .unset, .unset, .unset, .unset, .unset, .unset] [(.long t)]))
  refine own_go (fun _ k => XT.lstore X0.here hx rfl (hb hby d7_44) rfl (l' := #[.val (.long u), .second, .val (.long vv), .second, .val (.long x1), .second, .val (.long x2), .second, .val (.long y1), .second, .val (.long y2), .second, .val (.long z2), .second, .val (.long t), .second, .unset, .unset, .unset, .unset]) rfl k) ?_
  show own_E _ _ _ _ _ _ _ (s₁.setTop (mkF m 46 #[.val (.long u), .second, .val (.long vv), .second, .val (.long x1), .second, .val (.long x2), .second, .val (.long y1), .second, .val (.long y2), .second, .val (.long z2), .second, .val (.long t), .second, .unset, .unset, .unset, .unset] []))
  refine own_go (fun _ k => XT.lload X0.here hx rfl (hb hby d7_46) rfl k) ?_
  show own_E _ _ _ _ _ _ _ (s₁.setTop (mkF m 48 #[.val (.long u), .second, .val (.long vv), .second, .val (.long x1), .second, .val (.long x2), .second, .val (.long y1), .second, .val (.long y2), .second, .val (.long z2), .second, .val (.long t), .second, .unset, .unset, .unset, .unset] [(.long t)]))
  refine own_go (fun _ k => X0.ldc2J hx hown (mvT hZ (hw _ (List.mem_of_getElem? (i := 45) rfl))) rfl (hb hby d7_48) k) ?_
  show own_E _ _ _ _ _ _ _ (s₁.setTop (mkF m 51 #[.val (.long u), .second, .val (.long vv), .second, .val (.long x1), .second, .val (.long x2), .second, .val (.long y1), .second, .val (.long y2), .second, .val (.long z2), .second, .val (.long t), .second, .unset, .unset, .unset, .unset] [(.long (4294967295 : Int64)), (.long t)]))
  refine own_go (fun _ k => XT.land X0.here hx rfl (hb hby d7_51) rfl k) ?_
  show own_E _ _ _ _ _ _ _ (s₁.setTop (mkF m 52 #[.val (.long u), .second, .val (.long vv), .second, .val (.long x1), .second, .val (.long x2), .second, .val (.long y1), .second, .val (.long y2), .second, .val (.long z2), .second, .val (.long t), .second, .unset, .unset, .unset, .unset] [(.long (t &&& (4294967295 : Int64)))]))
  obtain ⟨z1, h_z1⟩ : ∃ z, z = (t &&& (4294967295 : Int64)) := ⟨_, rfl⟩
  rw [← h_z1]
  show own_E _ _ _ _ _ _ _ (s₁.setTop (mkF m 52 #[.val (.long u), .second, .val (.long vv), .second, .val (.long x1), .second, .val (.long x2), .second, .val (.long y1), .second, .val (.long y2), .second, .val (.long z2), .second, .val (.long t), .second, .unset, .unset, .unset, .unset] [(.long z1)]))
  refine own_go (fun _ k => XT.lstore X0.here hx rfl (hb hby d7_52) rfl (l' := #[.val (.long u), .second, .val (.long vv), .second, .val (.long x1), .second, .val (.long x2), .second, .val (.long y1), .second, .val (.long y2), .second, .val (.long z2), .second, .val (.long t), .second, .val (.long z1), .second, .unset, .unset]) rfl k) ?_
  show own_E _ _ _ _ _ _ _ (s₁.setTop (mkF m 54 #[.val (.long u), .second, .val (.long vv), .second, .val (.long x1), .second, .val (.long x2), .second, .val (.long y1), .second, .val (.long y2), .second, .val (.long z2), .second, .val (.long t), .second, .val (.long z1), .second, .unset, .unset] []))
  refine own_go (fun _ k => XT.lload X0.here hx rfl (hb hby d7_54) rfl k) ?_
  show own_E _ _ _ _ _ _ _ (s₁.setTop (mkF m 56 #[.val (.long u), .second, .val (.long vv), .second, .val (.long x1), .second, .val (.long x2), .second, .val (.long y1), .second, .val (.long y2), .second, .val (.long z2), .second, .val (.long t), .second, .val (.long z1), .second, .unset, .unset] [(.long t)]))
  refine own_go (fun _ k => XT.bipushV X0.here hx rfl (32 : Int32) (hb hby d7_56) (by decide) k) ?_
  show own_E _ _ _ _ _ _ _ (s₁.setTop (mkF m 58 #[.val (.long u), .second, .val (.long vv), .second, .val (.long x1), .second, .val (.long x2), .second, .val (.long y1), .second, .val (.long y2), .second, .val (.long z2), .second, .val (.long t), .second, .val (.long z1), .second, .unset, .unset] [(.int (32 : Int32)), (.long t)]))
  refine own_go (fun _ k => XT.lshr X0.here hx rfl (hb hby d7_58) rfl k) ?_
  show own_E _ _ _ _ _ _ _ (s₁.setTop (mkF m 59 #[.val (.long u), .second, .val (.long vv), .second, .val (.long x1), .second, .val (.long x2), .second, .val (.long y1), .second, .val (.long y2), .second, .val (.long z2), .second, .val (.long t), .second, .val (.long z1), .second, .unset, .unset] [(.long (t >>> (((32 : Int32)).toInt64 &&& 63)))]))
  obtain ⟨z0, h_z0⟩ : ∃ z, z = (t >>> (((32 : Int32)).toInt64 &&& 63)) := ⟨_, rfl⟩
  rw [← h_z0]
  show own_E _ _ _ _ _ _ _ (s₁.setTop (mkF m 59 #[.val (.long u), .second, .val (.long vv), .second, .val (.long x1), .second, .val (.long x2), .second, .val (.long y1), .second, .val (.long y2), .second, .val (.long z2), .second, .val (.long t), .second, .val (.long z1), .second, .unset, .unset] [(.long z0)]))
  refine own_go (fun _ k => XT.lstore X0.here hx rfl (hb hby d7_59) rfl (l' := #[.val (.long u), .second, .val (.long vv), .second, .val (.long x1), .second, .val (.long x2), .second, .val (.long y1), .second, .val (.long y2), .second, .val (.long z2), .second, .val (.long t), .second, .val (.long z1), .second, .val (.long z0), .second]) rfl k) ?_
  show own_E _ _ _ _ _ _ _ (s₁.setTop (mkF m 61 #[.val (.long u), .second, .val (.long vv), .second, .val (.long x1), .second, .val (.long x2), .second, .val (.long y1), .second, .val (.long y2), .second, .val (.long z2), .second, .val (.long t), .second, .val (.long z1), .second, .val (.long z0), .second] []))
  refine own_go (fun _ k => XT.lload X0.here hx rfl (hb hby d7_61) rfl k) ?_
  show own_E _ _ _ _ _ _ _ (s₁.setTop (mkF m 63 #[.val (.long u), .second, .val (.long vv), .second, .val (.long x1), .second, .val (.long x2), .second, .val (.long y1), .second, .val (.long y2), .second, .val (.long z2), .second, .val (.long t), .second, .val (.long z1), .second, .val (.long z0), .second] [(.long z1)]))
  refine own_go (fun _ k => XT.lload X0.here hx rfl (hb hby d7_63) rfl k) ?_
  show own_E _ _ _ _ _ _ _ (s₁.setTop (mkF m 65 #[.val (.long u), .second, .val (.long vv), .second, .val (.long x1), .second, .val (.long x2), .second, .val (.long y1), .second, .val (.long y2), .second, .val (.long z2), .second, .val (.long t), .second, .val (.long z1), .second, .val (.long z0), .second] [(.long x2), (.long z1)]))
  refine own_go (fun _ k => XT.lload X0.here hx rfl (hb hby d7_65) rfl k) ?_
  show own_E _ _ _ _ _ _ _ (s₁.setTop (mkF m 67 #[.val (.long u), .second, .val (.long vv), .second, .val (.long x1), .second, .val (.long x2), .second, .val (.long y1), .second, .val (.long y2), .second, .val (.long z2), .second, .val (.long t), .second, .val (.long z1), .second, .val (.long z0), .second] [(.long y1), (.long x2), (.long z1)]))
  refine own_go (fun _ k => XT.lmul X0.here hx rfl (hb hby d7_67) rfl k) ?_
  show own_E _ _ _ _ _ _ _ (s₁.setTop (mkF m 68 #[.val (.long u), .second, .val (.long vv), .second, .val (.long x1), .second, .val (.long x2), .second, .val (.long y1), .second, .val (.long y2), .second, .val (.long z2), .second, .val (.long t), .second, .val (.long z1), .second, .val (.long z0), .second] [(.long (x2 * y1)), (.long z1)]))
  refine own_go (fun _ k => XT.ladd X0.here hx rfl (hb hby d7_68) rfl k) ?_
  show own_E _ _ _ _ _ _ _ (s₁.setTop (mkF m 69 #[.val (.long u), .second, .val (.long vv), .second, .val (.long x1), .second, .val (.long x2), .second, .val (.long y1), .second, .val (.long y2), .second, .val (.long z2), .second, .val (.long t), .second, .val (.long z1), .second, .val (.long z0), .second] [(.long (z1 + (x2 * y1)))]))
  obtain ⟨z1b, h_z1b⟩ : ∃ z, z = (z1 + (x2 * y1)) := ⟨_, rfl⟩
  rw [← h_z1b]
  show own_E _ _ _ _ _ _ _ (s₁.setTop (mkF m 69 #[.val (.long u), .second, .val (.long vv), .second, .val (.long x1), .second, .val (.long x2), .second, .val (.long y1), .second, .val (.long y2), .second, .val (.long z2), .second, .val (.long t), .second, .val (.long z1), .second, .val (.long z0), .second] [(.long z1b)]))
  refine own_go (fun _ k => XT.lstore X0.here hx rfl (hb hby d7_69) rfl (l' := #[.val (.long u), .second, .val (.long vv), .second, .val (.long x1), .second, .val (.long x2), .second, .val (.long y1), .second, .val (.long y2), .second, .val (.long z2), .second, .val (.long t), .second, .val (.long z1b), .second, .val (.long z0), .second]) rfl k) ?_
  show own_E _ _ _ _ _ _ _ (s₁.setTop (mkF m 71 #[.val (.long u), .second, .val (.long vv), .second, .val (.long x1), .second, .val (.long x2), .second, .val (.long y1), .second, .val (.long y2), .second, .val (.long z2), .second, .val (.long t), .second, .val (.long z1b), .second, .val (.long z0), .second] []))
  refine own_go (fun _ k => XT.lload X0.here hx rfl (hb hby d7_71) rfl k) ?_
  show own_E _ _ _ _ _ _ _ (s₁.setTop (mkF m 73 #[.val (.long u), .second, .val (.long vv), .second, .val (.long x1), .second, .val (.long x2), .second, .val (.long y1), .second, .val (.long y2), .second, .val (.long z2), .second, .val (.long t), .second, .val (.long z1b), .second, .val (.long z0), .second] [(.long x1)]))
  refine own_go (fun _ k => XT.lload X0.here hx rfl (hb hby d7_73) rfl k) ?_
  show own_E _ _ _ _ _ _ _ (s₁.setTop (mkF m 75 #[.val (.long u), .second, .val (.long vv), .second, .val (.long x1), .second, .val (.long x2), .second, .val (.long y1), .second, .val (.long y2), .second, .val (.long z2), .second, .val (.long t), .second, .val (.long z1b), .second, .val (.long z0), .second] [(.long y1), (.long x1)]))
  refine own_go (fun _ k => XT.lmul X0.here hx rfl (hb hby d7_75) rfl k) ?_
  show own_E _ _ _ _ _ _ _ (s₁.setTop (mkF m 76 #[.val (.long u), .second, .val (.long vv), .second, .val (.long x1), .second, .val (.long x2), .second, .val (.long y1), .second, .val (.long y2), .second, .val (.long z2), .second, .val (.long t), .second, .val (.long z1b), .second, .val (.long z0), .second] [(.long (x1 * y1))]))
  refine own_go (fun _ k => XT.lload X0.here hx rfl (hb hby d7_76) rfl k) ?_
  show own_E _ _ _ _ _ _ _ (s₁.setTop (mkF m 78 #[.val (.long u), .second, .val (.long vv), .second, .val (.long x1), .second, .val (.long x2), .second, .val (.long y1), .second, .val (.long y2), .second, .val (.long z2), .second, .val (.long t), .second, .val (.long z1b), .second, .val (.long z0), .second] [(.long z0), (.long (x1 * y1))]))
  refine own_go (fun _ k => XT.ladd X0.here hx rfl (hb hby d7_78) rfl k) ?_
  show own_E _ _ _ _ _ _ _ (s₁.setTop (mkF m 79 #[.val (.long u), .second, .val (.long vv), .second, .val (.long x1), .second, .val (.long x2), .second, .val (.long y1), .second, .val (.long y2), .second, .val (.long z2), .second, .val (.long t), .second, .val (.long z1b), .second, .val (.long z0), .second] [(.long ((x1 * y1) + z0))]))
  refine own_go (fun _ k => XT.lload X0.here hx rfl (hb hby d7_79) rfl k) ?_
  show own_E _ _ _ _ _ _ _ (s₁.setTop (mkF m 81 #[.val (.long u), .second, .val (.long vv), .second, .val (.long x1), .second, .val (.long x2), .second, .val (.long y1), .second, .val (.long y2), .second, .val (.long z2), .second, .val (.long t), .second, .val (.long z1b), .second, .val (.long z0), .second] [(.long z1b), (.long ((x1 * y1) + z0))]))
  refine own_go (fun _ k => XT.bipushV X0.here hx rfl (32 : Int32) (hb hby d7_81) (by decide) k) ?_
  show own_E _ _ _ _ _ _ _ (s₁.setTop (mkF m 83 #[.val (.long u), .second, .val (.long vv), .second, .val (.long x1), .second, .val (.long x2), .second, .val (.long y1), .second, .val (.long y2), .second, .val (.long z2), .second, .val (.long t), .second, .val (.long z1b), .second, .val (.long z0), .second] [(.int (32 : Int32)), (.long z1b), (.long ((x1 * y1) + z0))]))
  refine own_go (fun _ k => XT.lshr X0.here hx rfl (hb hby d7_83) rfl k) ?_
  show own_E _ _ _ _ _ _ _ (s₁.setTop (mkF m 84 #[.val (.long u), .second, .val (.long vv), .second, .val (.long x1), .second, .val (.long x2), .second, .val (.long y1), .second, .val (.long y2), .second, .val (.long z2), .second, .val (.long t), .second, .val (.long z1b), .second, .val (.long z0), .second] [(.long (z1b >>> (((32 : Int32)).toInt64 &&& 63))), (.long ((x1 * y1) + z0))]))
  refine own_go (fun _ k => XT.ladd X0.here hx rfl (hb hby d7_84) rfl k) ?_
  show own_E _ _ _ _ _ _ _ (s₁.setTop (mkF m 85 #[.val (.long u), .second, .val (.long vv), .second, .val (.long x1), .second, .val (.long x2), .second, .val (.long y1), .second, .val (.long y2), .second, .val (.long z2), .second, .val (.long t), .second, .val (.long z1b), .second, .val (.long z0), .second] [(.long (((x1 * y1) + z0) + (z1b >>> (((32 : Int32)).toInt64 &&& 63))))]))
  exact own_ret X0 hx Bd.returns Bd.notSynchronized rfl (Or.inr (Or.inl ⟨rfl, rfl, _, rfl⟩)) (hb hby d7_85) (by rw [e0]; exact ⟨by subst h_z1b h_z0 h_z1 h_t h_z2 h_y2 h_y1 h_x2 h_x1; rfl, N0, rfl⟩) (by decide) (by decide)
theorem d3_0 : decode jdk_30_method_1_code 0 = .ok (.aload_n 0, 1) := by decide +kernel
theorem d3_1 : decode jdk_30_method_1_code 1 = .ok (.invokespecial 1, 3) := by decide +kernel
theorem d3_4 : decode jdk_30_method_1_code 4 = .ok (.return_, 1) := by decide +kernel
def Qrm3 (a : Addr) (Z : State) (h0 : Heap) (n0 : Nat) (v : Option Value) (h : Heap) (L : List Loc) : Prop := v = none ∧ Fr n0 L ∧ h = h0
set_option maxRecDepth 65536 in
set_option maxHeartbeats 40000000 in
theorem rm3 (l : Launch) (Z : State) (a0 : Array Value) (hw : ∀ d ∈ tables_1, d.before a0 Z = true) (a : Addr) (h0 : Heap) (n0 : Nat) (Z0 : n0 ≤ h0.size) :
    MetFree l (⟨"java/lang/Record", "<init>", "()V"⟩ : MethodName) (head1 (Jvm.Cond.code (⟨"java/lang/Record", "<init>", "()V"⟩ : MethodName) jdk_30_method_1_code 1 none :: []) ({ frames := 1, cells := 0, slots := 0, locals := 12 } : Room)) (fun ar_ U => ar_ = #[(.ref a)] ∧ Z.Warmed39 U.vm ∧ U.heap = h0) (fun _ _ _ _ _ => True) (fun _ U o U' => ∃ v L, o = .returned v ∧ Qrm3 a Z h0 n0 v U'.heap L ∧ FrameEnd U o U' L ({ frames := 1, cells := 0, slots := 0, locals := 12 } : Room).cells ({ frames := 1, cells := 0, slots := 0, locals := 12 } : Room).slots) := by
  refine MetFree.of_bodySF (plainFor_of_name (by first | (simp [plainName, overriddenIn]; done) | decide +kernel)) hisR ?_
  intro p e s m args below meth c s₁ Bd hml0 hP hK
  obtain ⟨rfl, hZ, hh⟩ := hP
  have hx := Bd.exec
  have hby := Bd.bytes
  have hml : c.maxLocals = 1 := hml0
  have hown : s.vm.findClass "java/lang/Record" = some m.cls := findClass_of_methodNamed Bd.named
  have hnm := (name_of_methodNamed Bd.named Bd.method).1
  have X0 : Stand p l e ({ frames := 1, cells := 0, slots := 0, locals := 12 } : Room) s m #[(.ref a)] below meth c s₁ [] 0 0 := Stand.of_body Bd
  have e0 : s₁.heap = h0 := by rw [← hh, Bd.state]; rfl
  have N0 := Fr.nil n0
  show own_E p e below s (Qrm3 a Z h0 n0) ({ frames := 1, cells := 0, slots := 0, locals := 12 } : Room).cells ({ frames := 1, cells := 0, slots := 0, locals := 12 } : Room).slots (s₁.setTop (entryFrame m #[(.ref a)] 1))
  refine own_go (fun t k => castTop (show _ = (mkF m 0 #[.val (.ref a)] []) from by first | (simp [entryFrame, mkF, argsToLocals, Value.category]; done) | rfl) k) ?_
  show own_E _ _ _ _ _ _ _ (s₁.setTop (mkF m 0 #[.val (.ref a)] []))
  refine own_go (fun _ k => XS.aloadN X0.here hx rfl (hb hby d3_0) rfl rfl k) ?_
  show own_E _ _ _ _ _ _ _ (s₁.setTop (mkF m 1 #[.val (.ref a)] [(.ref a)]))
  obtain ⟨T1, X1, e1, st1⟩ := initO X0 hx hZ hown (hw _ (List.mem_of_getElem? (i := 23) rfl)) (hw _ (List.mem_of_getElem? (i := 24) rfl)) (hw _ (List.mem_of_getElem? (i := 25) rfl)) e0 (g := (mkF m 1 #[.val (.ref a)] [(.ref a)])) rfl (by rw [hml]; rfl) rfl (hb hby d3_1) (by decide) (W := 0) (Nat.le_of_ble_eq_true rfl) (by decide)
  refine own_go st1 ?_
  show own_E _ _ _ _ _ _ _ (T1.setTop (mkF m 4 #[.val (.ref a)] []))
  exact own_ret0 X1 hx Bd.returns Bd.notSynchronized (hb hby d3_4) (by rw [e1]; exact ⟨rfl, N0, rfl⟩) (by decide) (by decide)
theorem d2_0 : decode prog_8_method_1_code 0 = .ok (.aload_n 0, 1) := by decide +kernel
theorem d2_1 : decode prog_8_method_1_code 1 = .ok (.invokespecial 1, 3) := by decide +kernel
theorem d2_4 : decode prog_8_method_1_code 4 = .ok (.aload_n 0, 1) := by decide +kernel
theorem d2_5 : decode prog_8_method_1_code 5 = .ok (.lload_n 1, 1) := by decide +kernel
theorem d2_6 : decode prog_8_method_1_code 6 = .ok (.putfield 7, 3) := by decide +kernel
theorem d2_9 : decode prog_8_method_1_code 9 = .ok (.aload_n 0, 1) := by decide +kernel
theorem d2_10 : decode prog_8_method_1_code 10 = .ok (.lload_n 3, 1) := by decide +kernel
theorem d2_11 : decode prog_8_method_1_code 11 = .ok (.putfield 13, 3) := by decide +kernel
theorem d2_14 : decode prog_8_method_1_code 14 = .ok (.return_, 1) := by decide +kernel
def Qrm2 (a : Addr) (u : Int64) (u2 : Int64) (Z : State) (h0 : Heap) (n0 : Nat) (v : Option Value) (h : Heap) (L : List Loc) : Prop := v = none ∧ Fr n0 L ∧ Keep h0 h [a] ∧ Exa Z h a "com/example/libmember/libmember/hash/Hash128" ∧ Fld Z h a "com/example/libmember/libmember/hash/Hash128" "h1" "J" (.long u) ∧ Fld Z h a "com/example/libmember/libmember/hash/Hash128" "h2" "J" (.long u2)
set_option maxRecDepth 65536 in
set_option maxHeartbeats 40000000 in
theorem rm2 (l : Launch) (Z : State) (a0 : Array Value) (hw : ∀ d ∈ tables_1, d.before a0 Z = true) (a : Addr) (u : Int64) (u2 : Int64) (h0 : Heap) (n0 : Nat) (Z0 : n0 ≤ h0.size) (E : Exa Z h0 a "com/example/libmember/libmember/hash/Hash128") (F : Fld Z h0 a "com/example/libmember/libmember/hash/Hash128" "h1" "J" (.long 0)) (G : Fld Z h0 a "com/example/libmember/libmember/hash/Hash128" "h2" "J" (.long 0)) (ga : n0 ≤ a) :
    MetFree l (⟨"com/example/libmember/libmember/hash/Hash128", "<init>", "(JJ)V"⟩ : MethodName) (head1 (Jvm.Cond.code (⟨"com/example/libmember/libmember/hash/Hash128", "<init>", "(JJ)V"⟩ : MethodName) prog_8_method_1_code 5 none :: []) ({ frames := 2, cells := 0, slots := 0, locals := 24 } : Room)) (fun ar_ U => ar_ = #[(.ref a), (.long u), (.long u2)] ∧ Z.Warmed39 U.vm ∧ U.heap = h0) (fun _ _ _ _ _ => True) (fun _ U o U' => ∃ v L, o = .returned v ∧ Qrm2 a u u2 Z h0 n0 v U'.heap L ∧ FrameEnd U o U' L ({ frames := 2, cells := 0, slots := 0, locals := 24 } : Room).cells ({ frames := 2, cells := 0, slots := 0, locals := 24 } : Room).slots) := by
  refine MetFree.of_bodySF (plainFor_of_name (by first | (simp [plainName, overriddenIn]; done) | decide +kernel)) hisR ?_
  intro p e s m args below meth c s₁ Bd hml0 hP hK
  obtain ⟨rfl, hZ, hh⟩ := hP
  have hx := Bd.exec
  have hby := Bd.bytes
  have hml : c.maxLocals = 5 := hml0
  have hown : s.vm.findClass "com/example/libmember/libmember/hash/Hash128" = some m.cls := findClass_of_methodNamed Bd.named
  have hnm := (name_of_methodNamed Bd.named Bd.method).1
  have X0 : Stand p l e ({ frames := 2, cells := 0, slots := 0, locals := 24 } : Room) s m #[(.ref a), (.long u), (.long u2)] below meth c s₁ [] 0 0 := Stand.of_body Bd
  have e0 : s₁.heap = h0 := by rw [← hh, Bd.state]; rfl
  have N0 := Fr.nil n0
  show own_E p e below s (Qrm2 a u u2 Z h0 n0) ({ frames := 2, cells := 0, slots := 0, locals := 24 } : Room).cells ({ frames := 2, cells := 0, slots := 0, locals := 24 } : Room).slots (s₁.setTop (entryFrame m #[(.ref a), (.long u), (.long u2)] 5))
  refine own_go (fun t k => castTop (show _ = (mkF m 0 #[.val (.ref a), .val (.long u), .second, .val (.long u2), .second] []) from by first | (simp [entryFrame, mkF, argsToLocals, Value.category]; done) | rfl) k) ?_
  show own_E _ _ _ _ _ _ _ (s₁.setTop (mkF m 0 #[.val (.ref a), .val (.long u), .second, .val (.long u2), .second] []))
  have KK := Keep.refl h0 [a]
  refine own_go (fun _ k => XS.aloadN X0.here hx rfl (hb hby d2_0) rfl rfl k) ?_
  show own_E _ _ _ _ _ _ _ (s₁.setTop (mkF m 1 #[.val (.ref a), .val (.long u), .second, .val (.long u2), .second] [(.ref a)]))
  obtain ⟨v11, T11, L11, X11, hQ11, st11⟩ := own_callI X0 hx hZ (rm := ({ frames := 1, cells := 0, slots := 0, locals := 12 } : Room)) (W := 0) (b := a) (argsL := []) (rest := []) (y := (⟨"java/lang/Record", "<init>", "()V"⟩ : MethodName)) hown rfl (hw _ (List.mem_of_getElem? (i := 18) rfl)) (hw _ (List.mem_of_getElem? (i := 19) rfl)) (hw _ (List.mem_of_getElem? (i := 21) rfl)) (hw _ (List.mem_of_getElem? (i := 22) rfl)) (by decide) (rm3 l Z a0 hw a h0 n0 Z0) e0 (by decide) (by decide) (by decide) (by decide) (g := (mkF m 1 #[.val (.ref a), .val (.long u), .second, .val (.long u2), .second] [(.ref a)])) rfl (by rw [hml]; rfl) (lenOf pd_0 rfl) rfl (Nat.le_of_ble_eq_true rfl) (hb hby d2_1)
  obtain ⟨rfl, N11, e11⟩ := hQ11
  refine own_go st11 ?_
  show own_E _ _ _ _ _ _ _ (T11.setTop (mkF m 4 #[.val (.ref a), .val (.long u), .second, .val (.long u2), .second] []))
  have M11 := Fr.app N0 N11
  refine own_go (fun _ k => XS.aloadN X11.here hx rfl (hb hby d2_4) rfl rfl k) ?_
  show own_E _ _ _ _ _ _ _ (T11.setTop (mkF m 5 #[.val (.ref a), .val (.long u), .second, .val (.long u2), .second] [(.ref a)]))
  refine own_go (fun _ k => XT.lloadN X11.here hx rfl (hb hby d2_5) rfl k) ?_
  show own_E _ _ _ _ _ _ _ (T11.setTop (mkF m 6 #[.val (.ref a), .val (.long u), .second, .val (.long u2), .second] [(.long u), (.ref a)]))
  obtain ⟨T12, h12, X12, e12, W12, st12⟩ := putF X11 hx hZ hown (host := "") (Or.inl (hw _ (List.mem_of_getElem? (i := 26) rfl))) Via.refl e11 F E (Or.inr ⟨(hw _ (List.mem_of_getElem? (i := 27) rfl)), rfl, hnm⟩) (hw _ (List.mem_of_getElem? (i := 13) rfl)) (ty := .long) (by decide +kernel) rfl rfl (g := (mkF m 6 #[.val (.ref a), .val (.long u), .second, .val (.long u2), .second] [(.long u), (.ref a)])) rfl rfl (hb hby d2_6)
  have f12_0 := F.same W12
  have f12_1 := G.other W12 (Or.inr (slot_ne (Or.inr (hw _ (List.mem_of_getElem? (i := 29) rfl))) (Or.inr (hw _ (List.mem_of_getElem? (i := 27) rfl))) (by decide) (t := .long) (t' := .long) (by decide +kernel) (by decide +kernel)))
  have f12_2 := E.wr W12
  have Z12 : n0 ≤ h12.size := by rw [W12.size]; exact Z0
  have N12 := Fr.snoc X12 M11 ga
  have K12 := KK.wr W12 (Or.inl (by simp))
  refine own_go st12 ?_
  show own_E _ _ _ _ _ _ _ (T12.setTop (mkF m 9 #[.val (.ref a), .val (.long u), .second, .val (.long u2), .second] []))
  refine own_go (fun _ k => XS.aloadN X12.here hx rfl (hb hby d2_9) rfl rfl k) ?_
  show own_E _ _ _ _ _ _ _ (T12.setTop (mkF m 10 #[.val (.ref a), .val (.long u), .second, .val (.long u2), .second] [(.ref a)]))
  refine own_go (fun _ k => XT.lloadN X12.here hx rfl (hb hby d2_10) rfl k) ?_
  show own_E _ _ _ _ _ _ _ (T12.setTop (mkF m 11 #[.val (.ref a), .val (.long u), .second, .val (.long u2), .second] [(.long u2), (.ref a)]))
  obtain ⟨T13, h13, X13, e13, W13, st13⟩ := putF X12 hx hZ hown (host := "") (Or.inl (hw _ (List.mem_of_getElem? (i := 28) rfl))) Via.refl e12 f12_1 f12_2 (Or.inr ⟨(hw _ (List.mem_of_getElem? (i := 29) rfl)), rfl, hnm⟩) (hw _ (List.mem_of_getElem? (i := 13) rfl)) (ty := .long) (by decide +kernel) rfl rfl (g := (mkF m 11 #[.val (.ref a), .val (.long u), .second, .val (.long u2), .second] [(.long u2), (.ref a)])) rfl rfl (hb hby d2_11)
  have f13_0 := f12_0.other W13 (Or.inr (slot_ne (Or.inr (hw _ (List.mem_of_getElem? (i := 27) rfl))) (Or.inr (hw _ (List.mem_of_getElem? (i := 29) rfl))) (by decide) (t := .long) (t' := .long) (by decide +kernel) (by decide +kernel)))
  have f13_1 := f12_1.same W13
  have f13_2 := f12_2.wr W13
  have Z13 : n0 ≤ h13.size := by rw [W13.size]; exact Z12
  have N13 := Fr.snoc X13 N12 ga
  have K13 := K12.wr W13 (Or.inl (by simp))
  refine own_go st13 ?_
  show own_E _ _ _ _ _ _ _ (T13.setTop (mkF m 14 #[.val (.ref a), .val (.long u), .second, .val (.long u2), .second] []))
  exact own_ret0 X13 hx Bd.returns Bd.notSynchronized (hb hby d2_14) (by rw [e13]; exact ⟨rfl, N13, K13, f13_2, f13_0, f13_1⟩) (by decide) (by decide)
theorem d6_0 : decode prog_8_method_6_code 0 = .ok (.aload_n 0, 1) := by decide +kernel
theorem d6_1 : decode prog_8_method_6_code 1 = .ok (.getfield 7, 3) := by decide +kernel
theorem d6_4 : decode prog_8_method_6_code 4 = .ok (.lreturn, 1) := by decide +kernel
def Qrm6 (a : Addr) (u : Int64) (Z : State) (h0 : Heap) (n0 : Nat) (v : Option Value) (h : Heap) (L : List Loc) : Prop := v = some (.long u) ∧ Fr n0 L ∧ h = h0
set_option maxRecDepth 65536 in
set_option maxHeartbeats 40000000 in
theorem rm6 (l : Launch) (Z : State) (a0 : Array Value) (hw : ∀ d ∈ tables_1, d.before a0 Z = true) (a : Addr) (u : Int64) (h0 : Heap) (n0 : Nat) (Z0 : n0 ≤ h0.size) (F : Fld Z h0 a "com/example/libmember/libmember/hash/Hash128" "h1" "J" (.long u)) :
    MetFree l (⟨"com/example/libmember/libmember/hash/Hash128", "h1", "()J"⟩ : MethodName) (head1 (Jvm.Cond.code (⟨"com/example/libmember/libmember/hash/Hash128", "h1", "()J"⟩ : MethodName) prog_8_method_6_code 1 (some .long) :: []) ({ frames := 0, cells := 0, slots := 0, locals := 0 } : Room)) (fun ar_ U => ar_ = #[(.ref a)] ∧ Z.Warmed39 U.vm ∧ U.heap = h0) (fun _ _ _ _ _ => True) (fun _ U o U' => ∃ v L, o = .returned v ∧ Qrm6 a u Z h0 n0 v U'.heap L ∧ FrameEnd U o U' L ({ frames := 0, cells := 0, slots := 0, locals := 0 } : Room).cells ({ frames := 0, cells := 0, slots := 0, locals := 0 } : Room).slots) := by
  refine MetFree.of_bodySF (plainFor_of_name (by first | (simp [plainName, overriddenIn]; done) | decide +kernel)) hisR ?_
  intro p e s m args below meth c s₁ Bd hml0 hP hK
  obtain ⟨rfl, hZ, hh⟩ := hP
  have hx := Bd.exec
  have hby := Bd.bytes
  have hml : c.maxLocals = 1 := hml0
  have hown : s.vm.findClass "com/example/libmember/libmember/hash/Hash128" = some m.cls := findClass_of_methodNamed Bd.named
  have hnm := (name_of_methodNamed Bd.named Bd.method).1
  have X0 : Stand p l e ({ frames := 0, cells := 0, slots := 0, locals := 0 } : Room) s m #[(.ref a)] below meth c s₁ [] 0 0 := Stand.of_body Bd
  have e0 : s₁.heap = h0 := by rw [← hh, Bd.state]; rfl
  have N0 := Fr.nil n0
  show own_E p e below s (Qrm6 a u Z h0 n0) ({ frames := 0, cells := 0, slots := 0, locals := 0 } : Room).cells ({ frames := 0, cells := 0, slots := 0, locals := 0 } : Room).slots (s₁.setTop (entryFrame m #[(.ref a)] 1))
  refine own_go (fun t k => castTop (show _ = (mkF m 0 #[.val (.ref a)] []) from by first | (simp [entryFrame, mkF, argsToLocals, Value.category]; done) | rfl) k) ?_
  show own_E _ _ _ _ _ _ _ (s₁.setTop (mkF m 0 #[.val (.ref a)] []))
  refine own_go (fun _ k => XS.aloadN X0.here hx rfl (hb hby d6_0) rfl rfl k) ?_
  show own_E _ _ _ _ _ _ _ (s₁.setTop (mkF m 1 #[.val (.ref a)] [(.ref a)]))
  obtain ⟨T1, X1, e1, st1⟩ := getF X0 hx hZ hown (host := "") (Or.inl (hw _ (List.mem_of_getElem? (i := 26) rfl))) Via.refl e0 F (g := (mkF m 1 #[.val (.ref a)] [(.ref a)])) rfl rfl (hb hby d6_1)
  refine own_go st1 ?_
  show own_E _ _ _ _ _ _ _ (T1.setTop (mkF m 4 #[.val (.ref a)] [(.long u)]))
  exact own_ret X1 hx Bd.returns Bd.notSynchronized rfl (Or.inr (Or.inl ⟨rfl, rfl, _, rfl⟩)) (hb hby d6_4) (by rw [e1]; exact ⟨rfl, N0, rfl⟩) (by decide) (by decide)
theorem d8_0 : decode prog_8_method_7_code 0 = .ok (.aload_n 0, 1) := by decide +kernel
theorem d8_1 : decode prog_8_method_7_code 1 = .ok (.getfield 13, 3) := by decide +kernel
theorem d8_4 : decode prog_8_method_7_code 4 = .ok (.lreturn, 1) := by decide +kernel
def Qrm8 (a : Addr) (u : Int64) (Z : State) (h0 : Heap) (n0 : Nat) (v : Option Value) (h : Heap) (L : List Loc) : Prop := v = some (.long u) ∧ Fr n0 L ∧ h = h0
set_option maxRecDepth 65536 in
set_option maxHeartbeats 40000000 in
theorem rm8 (l : Launch) (Z : State) (a0 : Array Value) (hw : ∀ d ∈ tables_1, d.before a0 Z = true) (a : Addr) (u : Int64) (h0 : Heap) (n0 : Nat) (Z0 : n0 ≤ h0.size) (F : Fld Z h0 a "com/example/libmember/libmember/hash/Hash128" "h2" "J" (.long u)) :
    MetFree l (⟨"com/example/libmember/libmember/hash/Hash128", "h2", "()J"⟩ : MethodName) (head1 (Jvm.Cond.code (⟨"com/example/libmember/libmember/hash/Hash128", "h2", "()J"⟩ : MethodName) prog_8_method_7_code 1 (some .long) :: []) ({ frames := 0, cells := 0, slots := 0, locals := 0 } : Room)) (fun ar_ U => ar_ = #[(.ref a)] ∧ Z.Warmed39 U.vm ∧ U.heap = h0) (fun _ _ _ _ _ => True) (fun _ U o U' => ∃ v L, o = .returned v ∧ Qrm8 a u Z h0 n0 v U'.heap L ∧ FrameEnd U o U' L ({ frames := 0, cells := 0, slots := 0, locals := 0 } : Room).cells ({ frames := 0, cells := 0, slots := 0, locals := 0 } : Room).slots) := by
  refine MetFree.of_bodySF (plainFor_of_name (by first | (simp [plainName, overriddenIn]; done) | decide +kernel)) hisR ?_
  intro p e s m args below meth c s₁ Bd hml0 hP hK
  obtain ⟨rfl, hZ, hh⟩ := hP
  have hx := Bd.exec
  have hby := Bd.bytes
  have hml : c.maxLocals = 1 := hml0
  have hown : s.vm.findClass "com/example/libmember/libmember/hash/Hash128" = some m.cls := findClass_of_methodNamed Bd.named
  have hnm := (name_of_methodNamed Bd.named Bd.method).1
  have X0 : Stand p l e ({ frames := 0, cells := 0, slots := 0, locals := 0 } : Room) s m #[(.ref a)] below meth c s₁ [] 0 0 := Stand.of_body Bd
  have e0 : s₁.heap = h0 := by rw [← hh, Bd.state]; rfl
  have N0 := Fr.nil n0
  show own_E p e below s (Qrm8 a u Z h0 n0) ({ frames := 0, cells := 0, slots := 0, locals := 0 } : Room).cells ({ frames := 0, cells := 0, slots := 0, locals := 0 } : Room).slots (s₁.setTop (entryFrame m #[(.ref a)] 1))
  refine own_go (fun t k => castTop (show _ = (mkF m 0 #[.val (.ref a)] []) from by first | (simp [entryFrame, mkF, argsToLocals, Value.category]; done) | rfl) k) ?_
  show own_E _ _ _ _ _ _ _ (s₁.setTop (mkF m 0 #[.val (.ref a)] []))
  refine own_go (fun _ k => XS.aloadN X0.here hx rfl (hb hby d8_0) rfl rfl k) ?_
  show own_E _ _ _ _ _ _ _ (s₁.setTop (mkF m 1 #[.val (.ref a)] [(.ref a)]))
  obtain ⟨T1, X1, e1, st1⟩ := getF X0 hx hZ hown (host := "") (Or.inl (hw _ (List.mem_of_getElem? (i := 28) rfl))) Via.refl e0 F (g := (mkF m 1 #[.val (.ref a)] [(.ref a)])) rfl rfl (hb hby d8_1)
  refine own_go st1 ?_
  show own_E _ _ _ _ _ _ _ (T1.setTop (mkF m 4 #[.val (.ref a)] [(.long u)]))
  exact own_ret X1 hx Bd.returns Bd.notSynchronized rfl (Or.inr (Or.inl ⟨rfl, rfl, _, rfl⟩)) (hb hby d8_4) (by rw [e1]; exact ⟨rfl, N0, rfl⟩) (by decide) (by decide)
theorem d5_0 : decode prog_14_method_1_code 0 = .ok (.aload_n 0, 1) := by decide +kernel
theorem d5_1 : decode prog_14_method_1_code 1 = .ok (.invokespecial 3, 3) := by decide +kernel
theorem d5_4 : decode prog_14_method_1_code 4 = .ok (.aload_n 1, 1) := by decide +kernel
theorem d5_5 : decode prog_14_method_1_code 5 = .ok (.invokevirtual 9, 3) := by decide +kernel
theorem d5_8 : decode prog_14_method_1_code 8 = .ok (.lstore 4, 2) := by decide +kernel
theorem d5_10 : decode prog_14_method_1_code 10 = .ok (.aload_n 0, 1) := by decide +kernel
theorem d5_11 : decode prog_14_method_1_code 11 = .ok (.lload_n 2, 1) := by decide +kernel
theorem d5_12 : decode prog_14_method_1_code 12 = .ok (.putfield 15, 3) := by decide +kernel
theorem d5_15 : decode prog_14_method_1_code 15 = .ok (.aload_n 0, 1) := by decide +kernel
theorem d5_16 : decode prog_14_method_1_code 16 = .ok (.lload 4, 2) := by decide +kernel
theorem d5_18 : decode prog_14_method_1_code 18 = .ok (.lload_n 2, 1) := by decide +kernel
theorem d5_19 : decode prog_14_method_1_code 19 = .ok (.invokestatic 19, 3) := by decide +kernel
theorem d5_22 : decode prog_14_method_1_code 22 = .ok (.lload 4, 2) := by decide +kernel
theorem d5_24 : decode prog_14_method_1_code 24 = .ok (.bipush 63, 2) := by decide +kernel
theorem d5_26 : decode prog_14_method_1_code 26 = .ok (.lshr, 1) := by decide +kernel
theorem d5_27 : decode prog_14_method_1_code 27 = .ok (.lload_n 2, 1) := by decide +kernel
theorem d5_28 : decode prog_14_method_1_code 28 = .ok (.land, 1) := by decide +kernel
theorem d5_29 : decode prog_14_method_1_code 29 = .ok (.ladd, 1) := by decide +kernel
theorem d5_30 : decode prog_14_method_1_code 30 = .ok (.putfield 25, 3) := by decide +kernel
theorem d5_33 : decode prog_14_method_1_code 33 = .ok (.aload_n 0, 1) := by decide +kernel
theorem d5_34 : decode prog_14_method_1_code 34 = .ok (.aload_n 1, 1) := by decide +kernel
theorem d5_35 : decode prog_14_method_1_code 35 = .ok (.invokevirtual 28, 3) := by decide +kernel
theorem d5_38 : decode prog_14_method_1_code 38 = .ok (.putfield 31, 3) := by decide +kernel
theorem d5_41 : decode prog_14_method_1_code 41 = .ok (.aload_n 0, 1) := by decide +kernel
theorem d5_42 : decode prog_14_method_1_code 42 = .ok (.aload_n 1, 1) := by decide +kernel
theorem d5_43 : decode prog_14_method_1_code 43 = .ok (.invokevirtual 28, 3) := by decide +kernel
theorem d5_46 : decode prog_14_method_1_code 46 = .ok (.bipush 13, 2) := by decide +kernel
theorem d5_48 : decode prog_14_method_1_code 48 = .ok (.lushr, 1) := by decide +kernel
theorem d5_49 : decode prog_14_method_1_code 49 = .ok (.lconst 1, 1) := by decide +kernel
theorem d5_50 : decode prog_14_method_1_code 50 = .ok (.lor, 1) := by decide +kernel
theorem d5_51 : decode prog_14_method_1_code 51 = .ok (.putfield 34, 3) := by decide +kernel
theorem d5_54 : decode prog_14_method_1_code 54 = .ok (.return_, 1) := by decide +kernel
def Qrm5 (a : Addr) (cv : Addr) (u : Int64) (u2 : Int64) (n : Int64) (Z : State) (h0 : Heap) (n0 : Nat) (v : Option Value) (h : Heap) (L : List Loc) : Prop := v = none ∧ Fr n0 L ∧ Keep h0 h [a] ∧ Exa Z h a "com/example/libmember/libmember/hash/WindowedPositions" ∧ Fld Z h a "com/example/libmember/libmember/hash/WindowedPositions" "bitCount" "J" (.long n) ∧ Fld Z h a "com/example/libmember/libmember/hash/WindowedPositions" "start" "J" (.long (own_st u n)) ∧ Fld Z h a "com/example/libmember/libmember/hash/WindowedPositions" "x" "J" (.long u2) ∧ Fld Z h a "com/example/libmember/libmember/hash/WindowedPositions" "y" "J" (.long (XT.ushrL u2 13 ||| 1)) ∧ Fld Z h a "com/example/libmember/libmember/hash/WindowedPositions" "step" "J" (.long 0)
set_option maxRecDepth 65536 in
set_option maxHeartbeats 40000000 in
theorem rm5 (l : Launch) (Z : State) (a0 : Array Value) (hw : ∀ d ∈ tables_1, d.before a0 Z = true) (a : Addr) (cv : Addr) (u : Int64) (u2 : Int64) (n : Int64) (h0 : Heap) (n0 : Nat) (Z0 : n0 ≤ h0.size) (E : Exa Z h0 a "com/example/libmember/libmember/hash/WindowedPositions") (F_bitCount : Fld Z h0 a "com/example/libmember/libmember/hash/WindowedPositions" "bitCount" "J" (.long 0)) (F_start : Fld Z h0 a "com/example/libmember/libmember/hash/WindowedPositions" "start" "J" (.long 0)) (F_x : Fld Z h0 a "com/example/libmember/libmember/hash/WindowedPositions" "x" "J" (.long 0)) (F_y : Fld Z h0 a "com/example/libmember/libmember/hash/WindowedPositions" "y" "J" (.long 0)) (F_step : Fld Z h0 a "com/example/libmember/libmember/hash/WindowedPositions" "step" "J" (.long 0)) (ga : n0 ≤ a) (EH : Exa Z h0 cv "com/example/libmember/libmember/hash/Hash128") (H1 : Fld Z h0 cv "com/example/libmember/libmember/hash/Hash128" "h1" "J" (.long u)) (H2 : Fld Z h0 cv "com/example/libmember/libmember/hash/Hash128" "h2" "J" (.long u2)) (ne : cv ≠ a) :
    MetFree l (⟨"com/example/libmember/libmember/hash/WindowedPositions", "<init>", "(Lcom/example/libmember/libmember/hash/Hash128;J)V"⟩ : MethodName) (head1 (Jvm.Cond.code (⟨"com/example/libmember/libmember/hash/WindowedPositions", "<init>", "(Lcom/example/libmember/libmember/hash/Hash128;J)V"⟩ : MethodName) prog_14_method_1_code 6 none :: []) ({ frames := 1, cells := 0, slots := 0, locals := 34 } : Room)) (fun ar_ U => ar_ = #[(.ref a), (.ref cv), (.long n)] ∧ Z.Warmed39 U.vm ∧ U.heap = h0) (fun _ _ _ _ _ => True) (fun _ U o U' => ∃ v L, o = .returned v ∧ Qrm5 a cv u u2 n Z h0 n0 v U'.heap L ∧ FrameEnd U o U' L ({ frames := 1, cells := 0, slots := 0, locals := 34 } : Room).cells ({ frames := 1, cells := 0, slots := 0, locals := 34 } : Room).slots) := by
  refine MetFree.of_bodySF (plainFor_of_name (by first | (simp [plainName, overriddenIn]; done) | decide +kernel)) hisR ?_
  intro p e s m args below meth c s₁ Bd hml0 hP hK
  obtain ⟨rfl, hZ, hh⟩ := hP
  have hx := Bd.exec
  have hby := Bd.bytes
  have hml : c.maxLocals = 6 := hml0
  have hown : s.vm.findClass "com/example/libmember/libmember/hash/WindowedPositions" = some m.cls := findClass_of_methodNamed Bd.named
  have hnm := (name_of_methodNamed Bd.named Bd.method).1
  have X0 : Stand p l e ({ frames := 1, cells := 0, slots := 0, locals := 34 } : Room) s m #[(.ref a), (.ref cv), (.long n)] below meth c s₁ [] 0 0 := Stand.of_body Bd
  have e0 : s₁.heap = h0 := by rw [← hh, Bd.state]; rfl
  have N0 := Fr.nil n0
  show own_E p e below s (Qrm5 a cv u u2 n Z h0 n0) ({ frames := 1, cells := 0, slots := 0, locals := 34 } : Room).cells ({ frames := 1, cells := 0, slots := 0, locals := 34 } : Room).slots (s₁.setTop (entryFrame m #[(.ref a), (.ref cv), (.long n)] 6))
  refine own_go (fun t k => castTop (show _ = (mkF m 0 #[.val (.ref a), .val (.ref cv), .val (.long n), .second, .unset, .unset] []) from by first | (simp [entryFrame, mkF, argsToLocals, Value.category]; done) | rfl) k) ?_
  show own_E _ _ _ _ _ _ _ (s₁.setTop (mkF m 0 #[.val (.ref a), .val (.ref cv), .val (.long n), .second, .unset, .unset] []))
  have KK := Keep.refl h0 [a]
  refine own_go (fun _ k => XS.aloadN X0.here hx rfl (hb hby d5_0) rfl rfl k) ?_
  show own_E _ _ _ _ _ _ _ (s₁.setTop (mkF m 1 #[.val (.ref a), .val (.ref cv), .val (.long n), .second, .unset, .unset] [(.ref a)]))
  obtain ⟨T11, X11, e11, st11⟩ := initO X0 hx hZ hown (hw _ (List.mem_of_getElem? (i := 33) rfl)) (hw _ (List.mem_of_getElem? (i := 24) rfl)) (hw _ (List.mem_of_getElem? (i := 25) rfl)) e0 (g := (mkF m 1 #[.val (.ref a), .val (.ref cv), .val (.long n), .second, .unset, .unset] [(.ref a)])) rfl (by rw [hml]; rfl) rfl (hb hby d5_1) (by decide) (W := 0) (Nat.le_of_ble_eq_true rfl) (by decide)
  refine own_go st11 ?_
  show own_E _ _ _ _ _ _ _ (T11.setTop (mkF m 4 #[.val (.ref a), .val (.ref cv), .val (.long n), .second, .unset, .unset] []))
  refine own_go (fun _ k => XS.aloadN X11.here hx rfl (hb hby d5_4) rfl rfl k) ?_
  show own_E _ _ _ _ _ _ _ (T11.setTop (mkF m 5 #[.val (.ref a), .val (.ref cv), .val (.long n), .second, .unset, .unset] [(.ref cv)]))
  obtain ⟨v12, T12, L12, X12, hQ12, st12⟩ := own_callV X11 hx hZ (rm := ({ frames := 0, cells := 0, slots := 0, locals := 0 } : Room)) (W := 0) (b := cv) (argsL := []) (rest := []) (y := (⟨"com/example/libmember/libmember/hash/Hash128", "h1", "()J"⟩ : MethodName)) hown (hw _ (List.mem_of_getElem? (i := 34) rfl)) (hw _ (List.mem_of_getElem? (i := 35) rfl)) (hw _ (List.mem_of_getElem? (i := 37) rfl)) (hw _ (List.mem_of_getElem? (i := 36) rfl)) (hw _ (List.mem_of_getElem? (i := 38) rfl)) (hw _ (List.mem_of_getElem? (i := 14) rfl)) (by decide) (rm6 l Z a0 hw cv u h0 n0 Z0 H1) e11 EH (by decide) (by decide) (by decide) (by decide) (g := (mkF m 5 #[.val (.ref a), .val (.ref cv), .val (.long n), .second, .unset, .unset] [(.ref cv)])) rfl (by rw [hml]; rfl) (lenOf pd_1 rfl) rfl (Nat.le_of_ble_eq_true rfl) (hb hby d5_5)
  obtain ⟨rfl, N12, e12⟩ := hQ12
  refine own_go st12 ?_
  show own_E _ _ _ _ _ _ _ (T12.setTop (mkF m 8 #[.val (.ref a), .val (.ref cv), .val (.long n), .second, .unset, .unset] [(.long u)]))
  have M12 := Fr.app N0 N12
  refine own_go (fun _ k => XT.lstore X12.here hx rfl (hb hby d5_8) rfl (l' := #[.val (.ref a), .val (.ref cv), .val (.long n), .second, .val (.long u), .second]) rfl k) ?_
  show own_E _ _ _ _ _ _ _ (T12.setTop (mkF m 10 #[.val (.ref a), .val (.ref cv), .val (.long n), .second, .val (.long u), .second] []))
  refine own_go (fun _ k => XS.aloadN X12.here hx rfl (hb hby d5_10) rfl rfl k) ?_
  show own_E _ _ _ _ _ _ _ (T12.setTop (mkF m 11 #[.val (.ref a), .val (.ref cv), .val (.long n), .second, .val (.long u), .second] [(.ref a)]))
  refine own_go (fun _ k => XT.lloadN X12.here hx rfl (hb hby d5_11) rfl k) ?_
  show own_E _ _ _ _ _ _ _ (T12.setTop (mkF m 12 #[.val (.ref a), .val (.ref cv), .val (.long n), .second, .val (.long u), .second] [(.long n), (.ref a)]))
  obtain ⟨T13, h13, X13, e13, W13, st13⟩ := putF X12 hx hZ hown (host := "") (Or.inl (hw _ (List.mem_of_getElem? (i := 39) rfl))) Via.refl e12 F_bitCount E (Or.inr ⟨(hw _ (List.mem_of_getElem? (i := 40) rfl)), rfl, hnm⟩) (hw _ (List.mem_of_getElem? (i := 10) rfl)) (ty := .long) (by decide +kernel) rfl rfl (g := (mkF m 12 #[.val (.ref a), .val (.ref cv), .val (.long n), .second, .val (.long u), .second] [(.long n), (.ref a)])) rfl rfl (hb hby d5_12)
  have f13_0 := F_bitCount.same W13
  have f13_1 := F_start.other W13 (Or.inr (slot_ne (Or.inr (hw _ (List.mem_of_getElem? (i := 47) rfl))) (Or.inr (hw _ (List.mem_of_getElem? (i := 40) rfl))) (by decide) (t := .long) (t' := .long) (by decide +kernel) (by decide +kernel)))
  have f13_2 := F_x.other W13 (Or.inr (slot_ne (Or.inl (hw _ (List.mem_of_getElem? (i := 54) rfl))) (Or.inr (hw _ (List.mem_of_getElem? (i := 40) rfl))) (by decide) (t := .long) (t' := .long) (by decide +kernel) (by decide +kernel)))
  have f13_3 := F_y.other W13 (Or.inr (slot_ne (Or.inl (hw _ (List.mem_of_getElem? (i := 56) rfl))) (Or.inr (hw _ (List.mem_of_getElem? (i := 40) rfl))) (by decide) (t := .long) (t' := .long) (by decide +kernel) (by decide +kernel)))
  have f13_4 := F_step.other W13 (Or.inr (slot_ne (Or.inl (hw _ (List.mem_of_getElem? (i := 64) rfl))) (Or.inr (hw _ (List.mem_of_getElem? (i := 40) rfl))) (by decide) (t := .long) (t' := .long) (by decide +kernel) (by decide +kernel)))
  have f13_5 := E.wr W13
  have f13_7 := EH.wr W13
  have f13_8 := H1.other W13 (Or.inl ne)
  have f13_9 := H2.other W13 (Or.inl ne)
  have Z13 : n0 ≤ h13.size := by rw [W13.size]; exact Z0
  have N13 := Fr.snoc X13 M12 ga
  have K13 := KK.wr W13 (Or.inl (by simp))
  refine own_go st13 ?_
  show own_E _ _ _ _ _ _ _ (T13.setTop (mkF m 15 #[.val (.ref a), .val (.ref cv), .val (.long n), .second, .val (.long u), .second] []))
  refine own_go (fun _ k => XS.aloadN X13.here hx rfl (hb hby d5_15) rfl rfl k) ?_
  show own_E _ _ _ _ _ _ _ (T13.setTop (mkF m 16 #[.val (.ref a), .val (.ref cv), .val (.long n), .second, .val (.long u), .second] [(.ref a)]))
  refine own_go (fun _ k => XT.lload X13.here hx rfl (hb hby d5_16) rfl k) ?_
  show own_E _ _ _ _ _ _ _ (T13.setTop (mkF m 18 #[.val (.ref a), .val (.ref cv), .val (.long n), .second, .val (.long u), .second] [(.long u), (.ref a)]))
  refine own_go (fun _ k => XT.lloadN X13.here hx rfl (hb hby d5_18) rfl k) ?_
  show own_E _ _ _ _ _ _ _ (T13.setTop (mkF m 19 #[.val (.ref a), .val (.ref cv), .val (.long n), .second, .val (.long u), .second] [(.long n), (.long u), (.ref a)]))
  obtain ⟨v14, T14, L14, X14, hQ14, st14⟩ := own_callS X13 hx hZ (rm := ({ frames := 0, cells := 0, slots := 0, locals := 0 } : Room)) (W := 1) (argsL := [(.long u), (.long n)]) (rest := [(.ref a)]) (y := (⟨"java/lang/Math", "multiplyHigh", "(JJ)J"⟩ : MethodName)) hown (hw _ (List.mem_of_getElem? (i := 41) rfl)) (hw _ (List.mem_of_getElem? (i := 42) rfl)) (hw _ (List.mem_of_getElem? (i := 43) rfl)) (hw _ (List.mem_of_getElem? (i := 44) rfl)) (by decide) (rm7 l Z a0 hw u n h13 n0 Z13) e13 (by decide) (by decide) (by decide) (by decide) (g := (mkF m 19 #[.val (.ref a), .val (.ref cv), .val (.long n), .second, .val (.long u), .second] [(.long n), (.long u), (.ref a)])) rfl (by rw [hml]; rfl) (lenOf pd_2 rfl) rfl (Nat.le_of_ble_eq_true rfl) (hb hby d5_19)
  obtain ⟨rfl, N14, e14⟩ := hQ14
  refine own_go st14 ?_
  show own_E _ _ _ _ _ _ _ (T14.setTop (mkF m 22 #[.val (.ref a), .val (.ref cv), .val (.long n), .second, .val (.long u), .second] [(.long (own_mh u n)), (.ref a)]))
  have M14 := Fr.app N13 N14
  refine own_go (fun _ k => XT.lload X14.here hx rfl (hb hby d5_22) rfl k) ?_
  show own_E _ _ _ _ _ _ _ (T14.setTop (mkF m 24 #[.val (.ref a), .val (.ref cv), .val (.long n), .second, .val (.long u), .second] [(.long u), (.long (own_mh u n)), (.ref a)]))
  refine own_go (fun _ k => XT.bipushV X14.here hx rfl (63 : Int32) (hb hby d5_24) (by decide) k) ?_
  show own_E _ _ _ _ _ _ _ (T14.setTop (mkF m 26 #[.val (.ref a), .val (.ref cv), .val (.long n), .second, .val (.long u), .second] [(.int (63 : Int32)), (.long u), (.long (own_mh u n)), (.ref a)]))
  refine own_go (fun _ k => XT.lshr X14.here hx rfl (hb hby d5_26) rfl k) ?_
  show own_E _ _ _ _ _ _ _ (T14.setTop (mkF m 27 #[.val (.ref a), .val (.ref cv), .val (.long n), .second, .val (.long u), .second] [(.long (u >>> (((63 : Int32)).toInt64 &&& 63))), (.long (own_mh u n)), (.ref a)]))
  refine own_go (fun _ k => XT.lloadN X14.here hx rfl (hb hby d5_27) rfl k) ?_
  show own_E _ _ _ _ _ _ _ (T14.setTop (mkF m 28 #[.val (.ref a), .val (.ref cv), .val (.long n), .second, .val (.long u), .second] [(.long n), (.long (u >>> (((63 : Int32)).toInt64 &&& 63))), (.long (own_mh u n)), (.ref a)]))
  refine own_go (fun _ k => XT.land X14.here hx rfl (hb hby d5_28) rfl k) ?_
  show own_E _ _ _ _ _ _ _ (T14.setTop (mkF m 29 #[.val (.ref a), .val (.ref cv), .val (.long n), .second, .val (.long u), .second] [(.long ((u >>> (((63 : Int32)).toInt64 &&& 63)) &&& n)), (.long (own_mh u n)), (.ref a)]))
  refine own_go (fun _ k => XT.ladd X14.here hx rfl (hb hby d5_29) rfl k) ?_
  show own_E _ _ _ _ _ _ _ (T14.setTop (mkF m 30 #[.val (.ref a), .val (.ref cv), .val (.long n), .second, .val (.long u), .second] [(.long ((own_mh u n) + ((u >>> (((63 : Int32)).toInt64 &&& 63)) &&& n))), (.ref a)]))
  show own_E _ _ _ _ _ _ _ (T14.setTop (mkF m 30 #[.val (.ref a), .val (.ref cv), .val (.long n), .second, .val (.long u), .second] [(.long (own_st u n)), (.ref a)]))
  obtain ⟨T15, h15, X15, e15, W15, st15⟩ := putF X14 hx hZ hown (host := "") (Or.inl (hw _ (List.mem_of_getElem? (i := 46) rfl))) Via.refl e14 f13_1 f13_5 (Or.inr ⟨(hw _ (List.mem_of_getElem? (i := 47) rfl)), rfl, hnm⟩) (hw _ (List.mem_of_getElem? (i := 10) rfl)) (ty := .long) (by decide +kernel) rfl rfl (g := (mkF m 30 #[.val (.ref a), .val (.ref cv), .val (.long n), .second, .val (.long u), .second] [(.long (own_st u n)), (.ref a)])) rfl rfl (hb hby d5_30)
  have f15_0 := f13_0.other W15 (Or.inr (slot_ne (Or.inr (hw _ (List.mem_of_getElem? (i := 40) rfl))) (Or.inr (hw _ (List.mem_of_getElem? (i := 47) rfl))) (by decide) (t := .long) (t' := .long) (by decide +kernel) (by decide +kernel)))
  have f15_1 := f13_1.same W15
  have f15_2 := f13_2.other W15 (Or.inr (slot_ne (Or.inl (hw _ (List.mem_of_getElem? (i := 54) rfl))) (Or.inr (hw _ (List.mem_of_getElem? (i := 47) rfl))) (by decide) (t := .long) (t' := .long) (by decide +kernel) (by decide +kernel)))
  have f15_3 := f13_3.other W15 (Or.inr (slot_ne (Or.inl (hw _ (List.mem_of_getElem? (i := 56) rfl))) (Or.inr (hw _ (List.mem_of_getElem? (i := 47) rfl))) (by decide) (t := .long) (t' := .long) (by decide +kernel) (by decide +kernel)))
  have f15_4 := f13_4.other W15 (Or.inr (slot_ne (Or.inl (hw _ (List.mem_of_getElem? (i := 64) rfl))) (Or.inr (hw _ (List.mem_of_getElem? (i := 47) rfl))) (by decide) (t := .long) (t' := .long) (by decide +kernel) (by decide +kernel)))
  have f15_5 := f13_5.wr W15
  have f15_7 := f13_7.wr W15
  have f15_8 := f13_8.other W15 (Or.inl ne)
  have f15_9 := f13_9.other W15 (Or.inl ne)
  have Z15 : n0 ≤ h15.size := by rw [W15.size]; exact Z13
  have N15 := Fr.snoc X15 M14 ga
  have K15 := K13.wr W15 (Or.inl (by simp))
  refine own_go st15 ?_
  show own_E _ _ _ _ _ _ _ (T15.setTop (mkF m 33 #[.val (.ref a), .val (.ref cv), .val (.long n), .second, .val (.long u), .second] []))
  refine own_go (fun _ k => XS.aloadN X15.here hx rfl (hb hby d5_33) rfl rfl k) ?_
  show own_E _ _ _ _ _ _ _ (T15.setTop (mkF m 34 #[.val (.ref a), .val (.ref cv), .val (.long n), .second, .val (.long u), .second] [(.ref a)]))
  refine own_go (fun _ k => XS.aloadN X15.here hx rfl (hb hby d5_34) rfl rfl k) ?_
  show own_E _ _ _ _ _ _ _ (T15.setTop (mkF m 35 #[.val (.ref a), .val (.ref cv), .val (.long n), .second, .val (.long u), .second] [(.ref cv), (.ref a)]))
  obtain ⟨v16, T16, L16, X16, hQ16, st16⟩ := own_callV X15 hx hZ (rm := ({ frames := 0, cells := 0, slots := 0, locals := 0 } : Room)) (W := 1) (b := cv) (argsL := []) (rest := [(.ref a)]) (y := (⟨"com/example/libmember/libmember/hash/Hash128", "h2", "()J"⟩ : MethodName)) hown (hw _ (List.mem_of_getElem? (i := 48) rfl)) (hw _ (List.mem_of_getElem? (i := 49) rfl)) (hw _ (List.mem_of_getElem? (i := 51) rfl)) (hw _ (List.mem_of_getElem? (i := 50) rfl)) (hw _ (List.mem_of_getElem? (i := 52) rfl)) (hw _ (List.mem_of_getElem? (i := 14) rfl)) (by decide) (rm8 l Z a0 hw cv u2 h15 n0 Z15 f15_9) e15 f15_7 (by decide) (by decide) (by decide) (by decide) (g := (mkF m 35 #[.val (.ref a), .val (.ref cv), .val (.long n), .second, .val (.long u), .second] [(.ref cv), (.ref a)])) rfl (by rw [hml]; rfl) (lenOf pd_1 rfl) rfl (Nat.le_of_ble_eq_true rfl) (hb hby d5_35)
  obtain ⟨rfl, N16, e16⟩ := hQ16
  refine own_go st16 ?_
  show own_E _ _ _ _ _ _ _ (T16.setTop (mkF m 38 #[.val (.ref a), .val (.ref cv), .val (.long n), .second, .val (.long u), .second] [(.long u2), (.ref a)]))
  have M16 := Fr.app N15 N16
  obtain ⟨T17, h17, X17, e17, W17, st17⟩ := putF X16 hx hZ hown (host := "") (Or.inl (hw _ (List.mem_of_getElem? (i := 53) rfl))) Via.refl e16 f15_2 f15_5 (Or.inl (hw _ (List.mem_of_getElem? (i := 54) rfl))) (hw _ (List.mem_of_getElem? (i := 10) rfl)) (ty := .long) (by decide +kernel) rfl rfl (g := (mkF m 38 #[.val (.ref a), .val (.ref cv), .val (.long n), .second, .val (.long u), .second] [(.long u2), (.ref a)])) rfl rfl (hb hby d5_38)
  have f17_0 := f15_0.other W17 (Or.inr (slot_ne (Or.inr (hw _ (List.mem_of_getElem? (i := 40) rfl))) (Or.inl (hw _ (List.mem_of_getElem? (i := 54) rfl))) (by decide) (t := .long) (t' := .long) (by decide +kernel) (by decide +kernel)))
  have f17_1 := f15_1.other W17 (Or.inr (slot_ne (Or.inr (hw _ (List.mem_of_getElem? (i := 47) rfl))) (Or.inl (hw _ (List.mem_of_getElem? (i := 54) rfl))) (by decide) (t := .long) (t' := .long) (by decide +kernel) (by decide +kernel)))
  have f17_2 := f15_2.same W17
  have f17_3 := f15_3.other W17 (Or.inr (slot_ne (Or.inl (hw _ (List.mem_of_getElem? (i := 56) rfl))) (Or.inl (hw _ (List.mem_of_getElem? (i := 54) rfl))) (by decide) (t := .long) (t' := .long) (by decide +kernel) (by decide +kernel)))
  have f17_4 := f15_4.other W17 (Or.inr (slot_ne (Or.inl (hw _ (List.mem_of_getElem? (i := 64) rfl))) (Or.inl (hw _ (List.mem_of_getElem? (i := 54) rfl))) (by decide) (t := .long) (t' := .long) (by decide +kernel) (by decide +kernel)))
  have f17_5 := f15_5.wr W17
  have f17_7 := f15_7.wr W17
  have f17_8 := f15_8.other W17 (Or.inl ne)
  have f17_9 := f15_9.other W17 (Or.inl ne)
  have Z17 : n0 ≤ h17.size := by rw [W17.size]; exact Z15
  have N17 := Fr.snoc X17 M16 ga
  have K17 := K15.wr W17 (Or.inl (by simp))
  refine own_go st17 ?_
  show own_E _ _ _ _ _ _ _ (T17.setTop (mkF m 41 #[.val (.ref a), .val (.ref cv), .val (.long n), .second, .val (.long u), .second] []))
  refine own_go (fun _ k => XS.aloadN X17.here hx rfl (hb hby d5_41) rfl rfl k) ?_
  show own_E _ _ _ _ _ _ _ (T17.setTop (mkF m 42 #[.val (.ref a), .val (.ref cv), .val (.long n), .second, .val (.long u), .second] [(.ref a)]))
  refine own_go (fun _ k => XS.aloadN X17.here hx rfl (hb hby d5_42) rfl rfl k) ?_
  show own_E _ _ _ _ _ _ _ (T17.setTop (mkF m 43 #[.val (.ref a), .val (.ref cv), .val (.long n), .second, .val (.long u), .second] [(.ref cv), (.ref a)]))
  obtain ⟨v18, T18, L18, X18, hQ18, st18⟩ := own_callV X17 hx hZ (rm := ({ frames := 0, cells := 0, slots := 0, locals := 0 } : Room)) (W := 1) (b := cv) (argsL := []) (rest := [(.ref a)]) (y := (⟨"com/example/libmember/libmember/hash/Hash128", "h2", "()J"⟩ : MethodName)) hown (hw _ (List.mem_of_getElem? (i := 48) rfl)) (hw _ (List.mem_of_getElem? (i := 49) rfl)) (hw _ (List.mem_of_getElem? (i := 51) rfl)) (hw _ (List.mem_of_getElem? (i := 50) rfl)) (hw _ (List.mem_of_getElem? (i := 52) rfl)) (hw _ (List.mem_of_getElem? (i := 14) rfl)) (by decide) (rm8 l Z a0 hw cv u2 h17 n0 Z17 f17_9) e17 f17_7 (by decide) (by decide) (by decide) (by decide) (g := (mkF m 43 #[.val (.ref a), .val (.ref cv), .val (.long n), .second, .val (.long u), .second] [(.ref cv), (.ref a)])) rfl (by rw [hml]; rfl) (lenOf pd_1 rfl) rfl (Nat.le_of_ble_eq_true rfl) (hb hby d5_43)
  obtain ⟨rfl, N18, e18⟩ := hQ18
  refine own_go st18 ?_
  show own_E _ _ _ _ _ _ _ (T18.setTop (mkF m 46 #[.val (.ref a), .val (.ref cv), .val (.long n), .second, .val (.long u), .second] [(.long u2), (.ref a)]))
  have M18 := Fr.app N17 N18
  refine own_go (fun _ k => XT.bipushV X18.here hx rfl (13 : Int32) (hb hby d5_46) (by decide) k) ?_
  show own_E _ _ _ _ _ _ _ (T18.setTop (mkF m 48 #[.val (.ref a), .val (.ref cv), .val (.long n), .second, .val (.long u), .second] [(.int (13 : Int32)), (.long u2), (.ref a)]))
  refine own_go (fun _ k => XT.lushr X18.here hx rfl (hb hby d5_48) rfl k) ?_
  show own_E _ _ _ _ _ _ _ (T18.setTop (mkF m 49 #[.val (.ref a), .val (.ref cv), .val (.long n), .second, .val (.long u), .second] [(.long (XT.ushrL u2 (13 : Int32))), (.ref a)]))
  refine own_go (fun _ k => XT.lconstV X18.here hx rfl (1 : Int64) (hb hby d5_49) (by decide) k) ?_
  show own_E _ _ _ _ _ _ _ (T18.setTop (mkF m 50 #[.val (.ref a), .val (.ref cv), .val (.long n), .second, .val (.long u), .second] [(.long (1 : Int64)), (.long (XT.ushrL u2 (13 : Int32))), (.ref a)]))
  refine own_go (fun _ k => XT.lor X18.here hx rfl (hb hby d5_50) rfl k) ?_
  show own_E _ _ _ _ _ _ _ (T18.setTop (mkF m 51 #[.val (.ref a), .val (.ref cv), .val (.long n), .second, .val (.long u), .second] [(.long ((XT.ushrL u2 (13 : Int32)) ||| (1 : Int64))), (.ref a)]))
  obtain ⟨T19, h19, X19, e19, W19, st19⟩ := putF X18 hx hZ hown (host := "") (Or.inl (hw _ (List.mem_of_getElem? (i := 55) rfl))) Via.refl e18 f17_3 f17_5 (Or.inl (hw _ (List.mem_of_getElem? (i := 56) rfl))) (hw _ (List.mem_of_getElem? (i := 10) rfl)) (ty := .long) (by decide +kernel) rfl rfl (g := (mkF m 51 #[.val (.ref a), .val (.ref cv), .val (.long n), .second, .val (.long u), .second] [(.long ((XT.ushrL u2 (13 : Int32)) ||| (1 : Int64))), (.ref a)])) rfl rfl (hb hby d5_51)
  have f19_0 := f17_0.other W19 (Or.inr (slot_ne (Or.inr (hw _ (List.mem_of_getElem? (i := 40) rfl))) (Or.inl (hw _ (List.mem_of_getElem? (i := 56) rfl))) (by decide) (t := .long) (t' := .long) (by decide +kernel) (by decide +kernel)))
  have f19_1 := f17_1.other W19 (Or.inr (slot_ne (Or.inr (hw _ (List.mem_of_getElem? (i := 47) rfl))) (Or.inl (hw _ (List.mem_of_getElem? (i := 56) rfl))) (by decide) (t := .long) (t' := .long) (by decide +kernel) (by decide +kernel)))
  have f19_2 := f17_2.other W19 (Or.inr (slot_ne (Or.inl (hw _ (List.mem_of_getElem? (i := 54) rfl))) (Or.inl (hw _ (List.mem_of_getElem? (i := 56) rfl))) (by decide) (t := .long) (t' := .long) (by decide +kernel) (by decide +kernel)))
  have f19_3 := f17_3.same W19
  have f19_4 := f17_4.other W19 (Or.inr (slot_ne (Or.inl (hw _ (List.mem_of_getElem? (i := 64) rfl))) (Or.inl (hw _ (List.mem_of_getElem? (i := 56) rfl))) (by decide) (t := .long) (t' := .long) (by decide +kernel) (by decide +kernel)))
  have f19_5 := f17_5.wr W19
  have f19_7 := f17_7.wr W19
  have f19_8 := f17_8.other W19 (Or.inl ne)
  have f19_9 := f17_9.other W19 (Or.inl ne)
  have Z19 : n0 ≤ h19.size := by rw [W19.size]; exact Z17
  have N19 := Fr.snoc X19 M18 ga
  have K19 := K17.wr W19 (Or.inl (by simp))
  refine own_go st19 ?_
  show own_E _ _ _ _ _ _ _ (T19.setTop (mkF m 54 #[.val (.ref a), .val (.ref cv), .val (.long n), .second, .val (.long u), .second] []))
  exact own_ret0 X19 hx Bd.returns Bd.notSynchronized (hb hby d5_54) (by rw [e19]; exact ⟨rfl, N19, K19, f19_5, f19_0, f19_1, f19_2, f19_3, f19_4⟩) (by decide) (by decide)
theorem d9_0 : decode prog_14_method_2_code 0 = .ok (.aload_n 0, 1) := by decide +kernel
theorem d9_1 : decode prog_14_method_2_code 1 = .ok (.getfield 25, 3) := by decide +kernel
theorem d9_4 : decode prog_14_method_2_code 4 = .ok (.aload_n 0, 1) := by decide +kernel
theorem d9_5 : decode prog_14_method_2_code 5 = .ok (.getfield 31, 3) := by decide +kernel
theorem d9_8 : decode prog_14_method_2_code 8 = .ok (.ldc2_w 37, 3) := by decide +kernel
theorem d9_11 : decode prog_14_method_2_code 11 = .ok (.land, 1) := by decide +kernel
theorem d9_12 : decode prog_14_method_2_code 12 = .ok (.ladd, 1) := by decide +kernel
theorem d9_13 : decode prog_14_method_2_code 13 = .ok (.lstore_n 1, 1) := by decide +kernel
theorem d9_14 : decode prog_14_method_2_code 14 = .ok (.aload_n 0, 1) := by decide +kernel
theorem d9_15 : decode prog_14_method_2_code 15 = .ok (.dup, 1) := by decide +kernel
theorem d9_16 : decode prog_14_method_2_code 16 = .ok (.getfield 31, 3) := by decide +kernel
theorem d9_19 : decode prog_14_method_2_code 19 = .ok (.aload_n 0, 1) := by decide +kernel
theorem d9_20 : decode prog_14_method_2_code 20 = .ok (.getfield 34, 3) := by decide +kernel
theorem d9_23 : decode prog_14_method_2_code 23 = .ok (.ladd, 1) := by decide +kernel
theorem d9_24 : decode prog_14_method_2_code 24 = .ok (.putfield 31, 3) := by decide +kernel
theorem d9_27 : decode prog_14_method_2_code 27 = .ok (.aload_n 0, 1) := by decide +kernel
theorem d9_28 : decode prog_14_method_2_code 28 = .ok (.dup, 1) := by decide +kernel
theorem d9_29 : decode prog_14_method_2_code 29 = .ok (.getfield 34, 3) := by decide +kernel
theorem d9_32 : decode prog_14_method_2_code 32 = .ok (.aload_n 0, 1) := by decide +kernel
theorem d9_33 : decode prog_14_method_2_code 33 = .ok (.getfield 39, 3) := by decide +kernel
theorem d9_36 : decode prog_14_method_2_code 36 = .ok (.ladd, 1) := by decide +kernel
theorem d9_37 : decode prog_14_method_2_code 37 = .ok (.putfield 34, 3) := by decide +kernel
theorem d9_40 : decode prog_14_method_2_code 40 = .ok (.aload_n 0, 1) := by decide +kernel
theorem d9_41 : decode prog_14_method_2_code 41 = .ok (.dup, 1) := by decide +kernel
theorem d9_42 : decode prog_14_method_2_code 42 = .ok (.getfield 39, 3) := by decide +kernel
theorem d9_45 : decode prog_14_method_2_code 45 = .ok (.lconst 1, 1) := by decide +kernel
theorem d9_46 : decode prog_14_method_2_code 46 = .ok (.ladd, 1) := by decide +kernel
theorem d9_47 : decode prog_14_method_2_code 47 = .ok (.putfield 39, 3) := by decide +kernel
theorem d9_50 : decode prog_14_method_2_code 50 = .ok (.lload_n 1, 1) := by decide +kernel
theorem d9_51 : decode prog_14_method_2_code 51 = .ok (.aload_n 0, 1) := by decide +kernel
theorem d9_52 : decode prog_14_method_2_code 52 = .ok (.getfield 15, 3) := by decide +kernel
theorem d9_55 : decode prog_14_method_2_code 55 = .ok (.lcmp, 1) := by decide +kernel
theorem d9_56 : decode prog_14_method_2_code 56 = .ok (.ifCond .lt 32, 3) := by decide +kernel
theorem d9_59 : decode prog_14_method_2_code 59 = .ok (.lload_n 1, 1) := by decide +kernel
theorem d9_60 : decode prog_14_method_2_code 60 = .ok (.ldc2_w 42, 3) := by decide +kernel
theorem d9_63 : decode prog_14_method_2_code 63 = .ok (.aload_n 0, 1) := by decide +kernel
theorem d9_64 : decode prog_14_method_2_code 64 = .ok (.getfield 15, 3) := by decide +kernel
theorem d9_67 : decode prog_14_method_2_code 67 = .ok (.lmul, 1) := by decide +kernel
theorem d9_68 : decode prog_14_method_2_code 68 = .ok (.lcmp, 1) := by decide +kernel
theorem d9_69 : decode prog_14_method_2_code 69 = .ok (.ifCond .ge 12, 3) := by decide +kernel
theorem d9_72 : decode prog_14_method_2_code 72 = .ok (.lload_n 1, 1) := by decide +kernel
theorem d9_73 : decode prog_14_method_2_code 73 = .ok (.aload_n 0, 1) := by decide +kernel
theorem d9_74 : decode prog_14_method_2_code 74 = .ok (.getfield 15, 3) := by decide +kernel
theorem d9_77 : decode prog_14_method_2_code 77 = .ok (.lsub, 1) := by decide +kernel
theorem d9_78 : decode prog_14_method_2_code 78 = .ok (.goto 9, 3) := by decide +kernel
theorem d9_81 : decode prog_14_method_2_code 81 = .ok (.lload_n 1, 1) := by decide +kernel
theorem d9_82 : decode prog_14_method_2_code 82 = .ok (.aload_n 0, 1) := by decide +kernel
theorem d9_83 : decode prog_14_method_2_code 83 = .ok (.getfield 15, 3) := by decide +kernel
theorem d9_86 : decode prog_14_method_2_code 86 = .ok (.lrem, 1) := by decide +kernel
theorem d9_87 : decode prog_14_method_2_code 87 = .ok (.lstore_n 1, 1) := by decide +kernel
theorem d9_88 : decode prog_14_method_2_code 88 = .ok (.lload_n 1, 1) := by decide +kernel
theorem d9_89 : decode prog_14_method_2_code 89 = .ok (.lreturn, 1) := by decide +kernel
def Qrm9 (a : Addr) (n : Int64) (s0 : Int64) (x : Int64) (y : Int64) (q : Int64) (Z : State) (h0 : Heap) (n0 : Nat) (v : Option Value) (h : Heap) (L : List Loc) : Prop := v = some (.long (own_red (s0 + (x &&& 8191)) n)) ∧ Fr n0 L ∧ Keep h0 h [a] ∧ Exa Z h a "com/example/libmember/libmember/hash/WindowedPositions" ∧ Fld Z h a "com/example/libmember/libmember/hash/WindowedPositions" "bitCount" "J" (.long n) ∧ Fld Z h a "com/example/libmember/libmember/hash/WindowedPositions" "start" "J" (.long s0) ∧ Fld Z h a "com/example/libmember/libmember/hash/WindowedPositions" "x" "J" (.long (x + y)) ∧ Fld Z h a "com/example/libmember/libmember/hash/WindowedPositions" "y" "J" (.long (y + q)) ∧ Fld Z h a "com/example/libmember/libmember/hash/WindowedPositions" "step" "J" (.long (q + 1))
set_option maxRecDepth 65536 in
set_option maxHeartbeats 40000000 in
theorem rm9 (l : Launch) (Z : State) (a0 : Array Value) (hw : ∀ d ∈ tables_1, d.before a0 Z = true) (a : Addr) (n : Int64) (s0 : Int64) (x : Int64) (y : Int64) (q : Int64) (h0 : Heap) (n0 : Nat) (Z0 : n0 ≤ h0.size) (hn : n ≠ 0) (E : Exa Z h0 a "com/example/libmember/libmember/hash/WindowedPositions") (F_bitCount : Fld Z h0 a "com/example/libmember/libmember/hash/WindowedPositions" "bitCount" "J" (.long n)) (F_start : Fld Z h0 a "com/example/libmember/libmember/hash/WindowedPositions" "start" "J" (.long s0)) (F_x : Fld Z h0 a "com/example/libmember/libmember/hash/WindowedPositions" "x" "J" (.long x)) (F_y : Fld Z h0 a "com/example/libmember/libmember/hash/WindowedPositions" "y" "J" (.long y)) (F_step : Fld Z h0 a "com/example/libmember/libmember/hash/WindowedPositions" "step" "J" (.long q)) (ga : n0 ≤ a) :
    MetFree l (⟨"com/example/libmember/libmember/hash/WindowedPositions", "next", "()J"⟩ : MethodName) (head1 (Jvm.Cond.code (⟨"com/example/libmember/libmember/hash/WindowedPositions", "next", "()J"⟩ : MethodName) prog_14_method_2_code 3 (some .long) :: []) ({ frames := 0, cells := 0, slots := 0, locals := 0 } : Room)) (fun ar_ U => ar_ = #[(.ref a)] ∧ Z.Warmed39 U.vm ∧ U.heap = h0) (fun _ _ _ _ _ => True) (fun _ U o U' => ∃ v L, o = .returned v ∧ Qrm9 a n s0 x y q Z h0 n0 v U'.heap L ∧ FrameEnd U o U' L ({ frames := 0, cells := 0, slots := 0, locals := 0 } : Room).cells ({ frames := 0, cells := 0, slots := 0, locals := 0 } : Room).slots) := by
  refine MetFree.of_bodySF (plainFor_of_name (by first | (simp [plainName, overriddenIn]; done) | decide +kernel)) hisR ?_
  intro p e s m args below meth c s₁ Bd hml0 hP hK
  obtain ⟨rfl, hZ, hh⟩ := hP
  have hx := Bd.exec
  have hby := Bd.bytes
  have hml : c.maxLocals = 3 := hml0
  have hown : s.vm.findClass "com/example/libmember/libmember/hash/WindowedPositions" = some m.cls := findClass_of_methodNamed Bd.named
  have hnm := (name_of_methodNamed Bd.named Bd.method).1
  have X0 : Stand p l e ({ frames := 0, cells := 0, slots := 0, locals := 0 } : Room) s m #[(.ref a)] below meth c s₁ [] 0 0 := Stand.of_body Bd
  have e0 : s₁.heap = h0 := by rw [← hh, Bd.state]; rfl
  have N0 := Fr.nil n0
  show own_E p e below s (Qrm9 a n s0 x y q Z h0 n0) ({ frames := 0, cells := 0, slots := 0, locals := 0 } : Room).cells ({ frames := 0, cells := 0, slots := 0, locals := 0 } : Room).slots (s₁.setTop (entryFrame m #[(.ref a)] 3))
  refine own_go (fun t k => castTop (show _ = (mkF m 0 #[.val (.ref a), .unset, .unset] []) from by first | (simp [entryFrame, mkF, argsToLocals, Value.category]; done) | rfl) k) ?_
  show own_E _ _ _ _ _ _ _ (s₁.setTop (mkF m 0 #[.val (.ref a), .unset, .unset] []))
  have KK := Keep.refl h0 [a]
  refine own_go (fun _ k => XS.aloadN X0.here hx rfl (hb hby d9_0) rfl rfl k) ?_
  show own_E _ _ _ _ _ _ _ (s₁.setTop (mkF m 1 #[.val (.ref a), .unset, .unset] [(.ref a)]))
  obtain ⟨T11, X11, e11, st11⟩ := getF X0 hx hZ hown (host := "") (Or.inl (hw _ (List.mem_of_getElem? (i := 46) rfl))) Via.refl e0 F_start (g := (mkF m 1 #[.val (.ref a), .unset, .unset] [(.ref a)])) rfl rfl (hb hby d9_1)
  refine own_go st11 ?_
  show own_E _ _ _ _ _ _ _ (T11.setTop (mkF m 4 #[.val (.ref a), .unset, .unset] [(.long s0)]))
  refine own_go (fun _ k => XS.aloadN X11.here hx rfl (hb hby d9_4) rfl rfl k) ?_
  show own_E _ _ _ _ _ _ _ (T11.setTop (mkF m 5 #[.val (.ref a), .unset, .unset] [(.ref a), (.long s0)]))
  obtain ⟨T12, X12, e12, st12⟩ := getF X11 hx hZ hown (host := "") (Or.inl (hw _ (List.mem_of_getElem? (i := 53) rfl))) Via.refl e11 F_x (g := (mkF m 5 #[.val (.ref a), .unset, .unset] [(.ref a), (.long s0)])) rfl rfl (hb hby d9_5)
  refine own_go st12 ?_
  show own_E _ _ _ _ _ _ _ (T12.setTop (mkF m 8 #[.val (.ref a), .unset, .unset] [(.long x), (.long s0)]))
  refine own_go (fun _ k => X12.ldc2J hx hown (mvT hZ (hw _ (List.mem_of_getElem? (i := 62) rfl))) rfl (hb hby d9_8) k) ?_
  show own_E _ _ _ _ _ _ _ (T12.setTop (mkF m 11 #[.val (.ref a), .unset, .unset] [(.long (8191 : Int64)), (.long x), (.long s0)]))
  refine own_go (fun _ k => XT.land X12.here hx rfl (hb hby d9_11) rfl k) ?_
  show own_E _ _ _ _ _ _ _ (T12.setTop (mkF m 12 #[.val (.ref a), .unset, .unset] [(.long (x &&& (8191 : Int64))), (.long s0)]))
  refine own_go (fun _ k => XT.ladd X12.here hx rfl (hb hby d9_12) rfl k) ?_
  show own_E _ _ _ _ _ _ _ (T12.setTop (mkF m 13 #[.val (.ref a), .unset, .unset] [(.long (s0 + (x &&& (8191 : Int64))))]))
  obtain ⟨r, hr⟩ : ∃ z, z = (s0 + (x &&& (8191 : Int64))) := ⟨_, rfl⟩
  rw [← hr]
  show own_E _ _ _ _ _ _ _ (T12.setTop (mkF m 13 #[.val (.ref a), .unset, .unset] [(.long r)]))
  refine own_go (fun _ k => XT.lstoreN X12.here hx rfl (hb hby d9_13) rfl (l' := #[.val (.ref a), .val (.long r), .second]) rfl k) ?_
  show own_E _ _ _ _ _ _ _ (T12.setTop (mkF m 14 #[.val (.ref a), .val (.long r), .second] []))
  refine own_go (fun _ k => XS.aloadN X12.here hx rfl (hb hby d9_14) rfl rfl k) ?_
  show own_E _ _ _ _ _ _ _ (T12.setTop (mkF m 15 #[.val (.ref a), .val (.long r), .second] [(.ref a)]))
  refine own_go (fun _ k => XS.dup X12.here hx rfl (hb hby d9_15) rfl rfl k) ?_
  show own_E _ _ _ _ _ _ _ (T12.setTop (mkF m 16 #[.val (.ref a), .val (.long r), .second] [(.ref a), (.ref a)]))
  obtain ⟨T13, X13, e13, st13⟩ := getF X12 hx hZ hown (host := "") (Or.inl (hw _ (List.mem_of_getElem? (i := 53) rfl))) Via.refl e12 F_x (g := (mkF m 16 #[.val (.ref a), .val (.long r), .second] [(.ref a), (.ref a)])) rfl rfl (hb hby d9_16)
  refine own_go st13 ?_
  show own_E _ _ _ _ _ _ _ (T13.setTop (mkF m 19 #[.val (.ref a), .val (.long r), .second] [(.long x), (.ref a)]))
  refine own_go (fun _ k => XS.aloadN X13.here hx rfl (hb hby d9_19) rfl rfl k) ?_
  show own_E _ _ _ _ _ _ _ (T13.setTop (mkF m 20 #[.val (.ref a), .val (.long r), .second] [(.ref a), (.long x), (.ref a)]))
  obtain ⟨T14, X14, e14, st14⟩ := getF X13 hx hZ hown (host := "") (Or.inl (hw _ (List.mem_of_getElem? (i := 55) rfl))) Via.refl e13 F_y (g := (mkF m 20 #[.val (.ref a), .val (.long r), .second] [(.ref a), (.long x), (.ref a)])) rfl rfl (hb hby d9_20)
  refine own_go st14 ?_
  show own_E _ _ _ _ _ _ _ (T14.setTop (mkF m 23 #[.val (.ref a), .val (.long r), .second] [(.long y), (.long x), (.ref a)]))
  refine own_go (fun _ k => XT.ladd X14.here hx rfl (hb hby d9_23) rfl k) ?_
  show own_E _ _ _ _ _ _ _ (T14.setTop (mkF m 24 #[.val (.ref a), .val (.long r), .second] [(.long (x + y)), (.ref a)]))
  obtain ⟨T15, h15, X15, e15, W15, st15⟩ := putF X14 hx hZ hown (host := "") (Or.inl (hw _ (List.mem_of_getElem? (i := 53) rfl))) Via.refl e14 F_x E (Or.inl (hw _ (List.mem_of_getElem? (i := 54) rfl))) (hw _ (List.mem_of_getElem? (i := 10) rfl)) (ty := .long) (by decide +kernel) rfl rfl (g := (mkF m 24 #[.val (.ref a), .val (.long r), .second] [(.long (x + y)), (.ref a)])) rfl rfl (hb hby d9_24)
  have f15_0 := F_bitCount.other W15 (Or.inr (slot_ne (Or.inr (hw _ (List.mem_of_getElem? (i := 40) rfl))) (Or.inl (hw _ (List.mem_of_getElem? (i := 54) rfl))) (by decide) (t := .long) (t' := .long) (by decide +kernel) (by decide +kernel)))
  have f15_1 := F_start.other W15 (Or.inr (slot_ne (Or.inr (hw _ (List.mem_of_getElem? (i := 47) rfl))) (Or.inl (hw _ (List.mem_of_getElem? (i := 54) rfl))) (by decide) (t := .long) (t' := .long) (by decide +kernel) (by decide +kernel)))
  have f15_2 := F_x.same W15
  have f15_3 := F_y.other W15 (Or.inr (slot_ne (Or.inl (hw _ (List.mem_of_getElem? (i := 56) rfl))) (Or.inl (hw _ (List.mem_of_getElem? (i := 54) rfl))) (by decide) (t := .long) (t' := .long) (by decide +kernel) (by decide +kernel)))
  have f15_4 := F_step.other W15 (Or.inr (slot_ne (Or.inl (hw _ (List.mem_of_getElem? (i := 64) rfl))) (Or.inl (hw _ (List.mem_of_getElem? (i := 54) rfl))) (by decide) (t := .long) (t' := .long) (by decide +kernel) (by decide +kernel)))
  have f15_5 := E.wr W15
  have Z15 : n0 ≤ h15.size := by rw [W15.size]; exact Z0
  have N15 := Fr.snoc X15 N0 ga
  have K15 := KK.wr W15 (Or.inl (by simp))
  refine own_go st15 ?_
  show own_E _ _ _ _ _ _ _ (T15.setTop (mkF m 27 #[.val (.ref a), .val (.long r), .second] []))
  refine own_go (fun _ k => XS.aloadN X15.here hx rfl (hb hby d9_27) rfl rfl k) ?_
  show own_E _ _ _ _ _ _ _ (T15.setTop (mkF m 28 #[.val (.ref a), .val (.long r), .second] [(.ref a)]))
  refine own_go (fun _ k => XS.dup X15.here hx rfl (hb hby d9_28) rfl rfl k) ?_
  show own_E _ _ _ _ _ _ _ (T15.setTop (mkF m 29 #[.val (.ref a), .val (.long r), .second] [(.ref a), (.ref a)]))
  obtain ⟨T16, X16, e16, st16⟩ := getF X15 hx hZ hown (host := "") (Or.inl (hw _ (List.mem_of_getElem? (i := 55) rfl))) Via.refl e15 f15_3 (g := (mkF m 29 #[.val (.ref a), .val (.long r), .second] [(.ref a), (.ref a)])) rfl rfl (hb hby d9_29)
  refine own_go st16 ?_
  show own_E _ _ _ _ _ _ _ (T16.setTop (mkF m 32 #[.val (.ref a), .val (.long r), .second] [(.long y), (.ref a)]))
  refine own_go (fun _ k => XS.aloadN X16.here hx rfl (hb hby d9_32) rfl rfl k) ?_
  show own_E _ _ _ _ _ _ _ (T16.setTop (mkF m 33 #[.val (.ref a), .val (.long r), .second] [(.ref a), (.long y), (.ref a)]))
  obtain ⟨T17, X17, e17, st17⟩ := getF X16 hx hZ hown (host := "") (Or.inl (hw _ (List.mem_of_getElem? (i := 63) rfl))) Via.refl e16 f15_4 (g := (mkF m 33 #[.val (.ref a), .val (.long r), .second] [(.ref a), (.long y), (.ref a)])) rfl rfl (hb hby d9_33)
  refine own_go st17 ?_
  show own_E _ _ _ _ _ _ _ (T17.setTop (mkF m 36 #[.val (.ref a), .val (.long r), .second] [(.long q), (.long y), (.ref a)]))
  refine own_go (fun _ k => XT.ladd X17.here hx rfl (hb hby d9_36) rfl k) ?_
  show own_E _ _ _ _ _ _ _ (T17.setTop (mkF m 37 #[.val (.ref a), .val (.long r), .second] [(.long (y + q)), (.ref a)]))
  obtain ⟨T18, h18, X18, e18, W18, st18⟩ := putF X17 hx hZ hown (host := "") (Or.inl (hw _ (List.mem_of_getElem? (i := 55) rfl))) Via.refl e17 f15_3 f15_5 (Or.inl (hw _ (List.mem_of_getElem? (i := 56) rfl))) (hw _ (List.mem_of_getElem? (i := 10) rfl)) (ty := .long) (by decide +kernel) rfl rfl (g := (mkF m 37 #[.val (.ref a), .val (.long r), .second] [(.long (y + q)), (.ref a)])) rfl rfl (hb hby d9_37)
  have f18_0 := f15_0.other W18 (Or.inr (slot_ne (Or.inr (hw _ (List.mem_of_getElem? (i := 40) rfl))) (Or.inl (hw _ (List.mem_of_getElem? (i := 56) rfl))) (by decide) (t := .long) (t' := .long) (by decide +kernel) (by decide +kernel)))
  have f18_1 := f15_1.other W18 (Or.inr (slot_ne (Or.inr (hw _ (List.mem_of_getElem? (i := 47) rfl))) (Or.inl (hw _ (List.mem_of_getElem? (i := 56) rfl))) (by decide) (t := .long) (t' := .long) (by decide +kernel) (by decide +kernel)))
  have f18_2 := f15_2.other W18 (Or.inr (slot_ne (Or.inl (hw _ (List.mem_of_getElem? (i := 54) rfl))) (Or.inl (hw _ (List.mem_of_getElem? (i := 56) rfl))) (by decide) (t := .long) (t' := .long) (by decide +kernel) (by decide +kernel)))
  have f18_3 := f15_3.same W18
  have f18_4 := f15_4.other W18 (Or.inr (slot_ne (Or.inl (hw _ (List.mem_of_getElem? (i := 64) rfl))) (Or.inl (hw _ (List.mem_of_getElem? (i := 56) rfl))) (by decide) (t := .long) (t' := .long) (by decide +kernel) (by decide +kernel)))
  have f18_5 := f15_5.wr W18
  have Z18 : n0 ≤ h18.size := by rw [W18.size]; exact Z15
  have N18 := Fr.snoc X18 N15 ga
  have K18 := K15.wr W18 (Or.inl (by simp))
  refine own_go st18 ?_
  show own_E _ _ _ _ _ _ _ (T18.setTop (mkF m 40 #[.val (.ref a), .val (.long r), .second] []))
  refine own_go (fun _ k => XS.aloadN X18.here hx rfl (hb hby d9_40) rfl rfl k) ?_
  show own_E _ _ _ _ _ _ _ (T18.setTop (mkF m 41 #[.val (.ref a), .val (.long r), .second] [(.ref a)]))
  refine own_go (fun _ k => XS.dup X18.here hx rfl (hb hby d9_41) rfl rfl k) ?_
  show own_E _ _ _ _ _ _ _ (T18.setTop (mkF m 42 #[.val (.ref a), .val (.long r), .second] [(.ref a), (.ref a)]))
  obtain ⟨T19, X19, e19, st19⟩ := getF X18 hx hZ hown (host := "") (Or.inl (hw _ (List.mem_of_getElem? (i := 63) rfl))) Via.refl e18 f18_4 (g := (mkF m 42 #[.val (.ref a), .val (.long r), .second] [(.ref a), (.ref a)])) rfl rfl (hb hby d9_42)
  refine own_go st19 ?_
  show own_E _ _ _ _ _ _ _ (T19.setTop (mkF m 45 #[.val (.ref a), .val (.long r), .second] [(.long q), (.ref a)]))
  refine own_go (fun _ k => XT.lconstV X19.here hx rfl (1 : Int64) (hb hby d9_45) (by decide) k) ?_
  show own_E _ _ _ _ _ _ _ (T19.setTop (mkF m 46 #[.val (.ref a), .val (.long r), .second] [(.long (1 : Int64)), (.long q), (.ref a)]))
  refine own_go (fun _ k => XT.ladd X19.here hx rfl (hb hby d9_46) rfl k) ?_
  show own_E _ _ _ _ _ _ _ (T19.setTop (mkF m 47 #[.val (.ref a), .val (.long r), .second] [(.long (q + (1 : Int64))), (.ref a)]))
  obtain ⟨T20, h20, X20, e20, W20, st20⟩ := putF X19 hx hZ hown (host := "") (Or.inl (hw _ (List.mem_of_getElem? (i := 63) rfl))) Via.refl e19 f18_4 f18_5 (Or.inl (hw _ (List.mem_of_getElem? (i := 64) rfl))) (hw _ (List.mem_of_getElem? (i := 10) rfl)) (ty := .long) (by decide +kernel) rfl rfl (g := (mkF m 47 #[.val (.ref a), .val (.long r), .second] [(.long (q + (1 : Int64))), (.ref a)])) rfl rfl (hb hby d9_47)
  have f20_0 := f18_0.other W20 (Or.inr (slot_ne (Or.inr (hw _ (List.mem_of_getElem? (i := 40) rfl))) (Or.inl (hw _ (List.mem_of_getElem? (i := 64) rfl))) (by decide) (t := .long) (t' := .long) (by decide +kernel) (by decide +kernel)))
  have f20_1 := f18_1.other W20 (Or.inr (slot_ne (Or.inr (hw _ (List.mem_of_getElem? (i := 47) rfl))) (Or.inl (hw _ (List.mem_of_getElem? (i := 64) rfl))) (by decide) (t := .long) (t' := .long) (by decide +kernel) (by decide +kernel)))
  have f20_2 := f18_2.other W20 (Or.inr (slot_ne (Or.inl (hw _ (List.mem_of_getElem? (i := 54) rfl))) (Or.inl (hw _ (List.mem_of_getElem? (i := 64) rfl))) (by decide) (t := .long) (t' := .long) (by decide +kernel) (by decide +kernel)))
  have f20_3 := f18_3.other W20 (Or.inr (slot_ne (Or.inl (hw _ (List.mem_of_getElem? (i := 56) rfl))) (Or.inl (hw _ (List.mem_of_getElem? (i := 64) rfl))) (by decide) (t := .long) (t' := .long) (by decide +kernel) (by decide +kernel)))
  have f20_4 := f18_4.same W20
  have f20_5 := f18_5.wr W20
  have Z20 : n0 ≤ h20.size := by rw [W20.size]; exact Z18
  have N20 := Fr.snoc X20 N18 ga
  have K20 := K18.wr W20 (Or.inl (by simp))
  refine own_go st20 ?_
  show own_E _ _ _ _ _ _ _ (T20.setTop (mkF m 50 #[.val (.ref a), .val (.long r), .second] []))
  refine own_go (fun _ k => XT.lloadN X20.here hx rfl (hb hby d9_50) rfl k) ?_
  show own_E _ _ _ _ _ _ _ (T20.setTop (mkF m 51 #[.val (.ref a), .val (.long r), .second] [(.long r)]))
  refine own_go (fun _ k => XS.aloadN X20.here hx rfl (hb hby d9_51) rfl rfl k) ?_
  show own_E _ _ _ _ _ _ _ (T20.setTop (mkF m 52 #[.val (.ref a), .val (.long r), .second] [(.ref a), (.long r)]))
  obtain ⟨T21, X21, e21, st21⟩ := getF X20 hx hZ hown (host := "") (Or.inl (hw _ (List.mem_of_getElem? (i := 39) rfl))) Via.refl e20 f20_0 (g := (mkF m 52 #[.val (.ref a), .val (.long r), .second] [(.ref a), (.long r)])) rfl rfl (hb hby d9_52)
  refine own_go st21 ?_
  show own_E _ _ _ _ _ _ _ (T21.setTop (mkF m 55 #[.val (.ref a), .val (.long r), .second] [(.long n), (.long r)]))
  refine own_go (fun _ k => XT.lcmp X21.here hx rfl (hb hby d9_55) rfl k) ?_
  show own_E _ _ _ _ _ _ _ (T21.setTop (mkF m 56 #[.val (.ref a), .val (.long r), .second] [(.int (XT.cmpL r n))]))
  by_cases q1 : r < n
  ·
    refine own_go (fun _ k => XS.ifYes X21.here hx rfl (pc0 := 56) (pc' := 88) rfl (hb hby d9_56) rfl (XT.ll_lt_t q1) (by decide) (by decide) k) ?_
    show own_E _ _ _ _ _ _ _ (T21.setTop (mkF m 88 #[.val (.ref a), .val (.long r), .second] []))
    refine own_go (fun _ k => XT.lloadN X21.here hx rfl (hb hby d9_88) rfl k) ?_
    show own_E _ _ _ _ _ _ _ (T21.setTop (mkF m 89 #[.val (.ref a), .val (.long r), .second] [(.long r)]))
    exact own_ret X21 hx Bd.returns Bd.notSynchronized rfl (Or.inr (Or.inl ⟨rfl, rfl, _, rfl⟩)) (hb hby d9_89) (by rw [e21]; exact ⟨by rw [← hr]; rw [own_red, if_pos q1], N20, K20, f20_5, f20_0, f20_1, f20_2, f20_3, f20_4⟩) (by decide) (by decide)
  ·
    refine own_go (fun _ k => XS.ifNo X21.here hx rfl (hb hby d9_56) rfl (XT.ll_lt_f q1) k) ?_
    show own_E _ _ _ _ _ _ _ (T21.setTop (mkF m 59 #[.val (.ref a), .val (.long r), .second] []))
    refine own_go (fun _ k => XT.lloadN X21.here hx rfl (hb hby d9_59) rfl k) ?_
    show own_E _ _ _ _ _ _ _ (T21.setTop (mkF m 60 #[.val (.ref a), .val (.long r), .second] [(.long r)]))
    refine own_go (fun _ k => X21.ldc2J hx hown (mvT hZ (hw _ (List.mem_of_getElem? (i := 65) rfl))) rfl (hb hby d9_60) k) ?_
    show own_E _ _ _ _ _ _ _ (T21.setTop (mkF m 63 #[.val (.ref a), .val (.long r), .second] [(.long (2 : Int64)), (.long r)]))
    refine own_go (fun _ k => XS.aloadN X21.here hx rfl (hb hby d9_63) rfl rfl k) ?_
    show own_E _ _ _ _ _ _ _ (T21.setTop (mkF m 64 #[.val (.ref a), .val (.long r), .second] [(.ref a), (.long (2 : Int64)), (.long r)]))
    obtain ⟨T22, X22, e22, st22⟩ := getF X21 hx hZ hown (host := "") (Or.inl (hw _ (List.mem_of_getElem? (i := 39) rfl))) Via.refl e21 f20_0 (g := (mkF m 64 #[.val (.ref a), .val (.long r), .second] [(.ref a), (.long (2 : Int64)), (.long r)])) rfl rfl (hb hby d9_64)
    refine own_go st22 ?_
    show own_E _ _ _ _ _ _ _ (T22.setTop (mkF m 67 #[.val (.ref a), .val (.long r), .second] [(.long n), (.long (2 : Int64)), (.long r)]))
    refine own_go (fun _ k => XT.lmul X22.here hx rfl (hb hby d9_67) rfl k) ?_
    show own_E _ _ _ _ _ _ _ (T22.setTop (mkF m 68 #[.val (.ref a), .val (.long r), .second] [(.long ((2 : Int64) * n)), (.long r)]))
    refine own_go (fun _ k => XT.lcmp X22.here hx rfl (hb hby d9_68) rfl k) ?_
    show own_E _ _ _ _ _ _ _ (T22.setTop (mkF m 69 #[.val (.ref a), .val (.long r), .second] [(.int (XT.cmpL r ((2 : Int64) * n)))]))
    by_cases q2 : r < 2 * n
    ·
      refine own_go (fun _ k => XS.ifNo X22.here hx rfl (hb hby d9_69) rfl (XT.ll_ge_f q2) k) ?_
      show own_E _ _ _ _ _ _ _ (T22.setTop (mkF m 72 #[.val (.ref a), .val (.long r), .second] []))
      refine own_go (fun _ k => XT.lloadN X22.here hx rfl (hb hby d9_72) rfl k) ?_
      show own_E _ _ _ _ _ _ _ (T22.setTop (mkF m 73 #[.val (.ref a), .val (.long r), .second] [(.long r)]))
      refine own_go (fun _ k => XS.aloadN X22.here hx rfl (hb hby d9_73) rfl rfl k) ?_
      show own_E _ _ _ _ _ _ _ (T22.setTop (mkF m 74 #[.val (.ref a), .val (.long r), .second] [(.ref a), (.long r)]))
      obtain ⟨T23, X23, e23, st23⟩ := getF X22 hx hZ hown (host := "") (Or.inl (hw _ (List.mem_of_getElem? (i := 39) rfl))) Via.refl e22 f20_0 (g := (mkF m 74 #[.val (.ref a), .val (.long r), .second] [(.ref a), (.long r)])) rfl rfl (hb hby d9_74)
      refine own_go st23 ?_
      show own_E _ _ _ _ _ _ _ (T23.setTop (mkF m 77 #[.val (.ref a), .val (.long r), .second] [(.long n), (.long r)]))
      refine own_go (fun _ k => XT.lsub X23.here hx rfl (hb hby d9_77) rfl k) ?_
      show own_E _ _ _ _ _ _ _ (T23.setTop (mkF m 78 #[.val (.ref a), .val (.long r), .second] [(.long (r - n))]))
      refine own_go (fun _ k => XS.goto X23.here hx rfl (pc0 := 78) (pc' := 87) rfl (hb hby d9_78) (by decide) (by decide) k) ?_
      show own_E _ _ _ _ _ _ _ (T23.setTop (mkF m 87 #[.val (.ref a), .val (.long r), .second] [(.long (r - n))]))
      refine own_go (fun _ k => XT.lstoreN X23.here hx rfl (hb hby d9_87) rfl (l' := #[.val (.ref a), .val (.long (r - n)), .second]) rfl k) ?_
      show own_E _ _ _ _ _ _ _ (T23.setTop (mkF m 88 #[.val (.ref a), .val (.long (r - n)), .second] []))
      refine own_go (fun _ k => XT.lloadN X23.here hx rfl (hb hby d9_88) rfl k) ?_
      show own_E _ _ _ _ _ _ _ (T23.setTop (mkF m 89 #[.val (.ref a), .val (.long (r - n)), .second] [(.long (r - n))]))
      exact own_ret X23 hx Bd.returns Bd.notSynchronized rfl (Or.inr (Or.inl ⟨rfl, rfl, _, rfl⟩)) (hb hby d9_89) (by rw [e23]; exact ⟨by rw [← hr]; rw [own_red, if_neg q1, if_pos q2], N20, K20, f20_5, f20_0, f20_1, f20_2, f20_3, f20_4⟩) (by decide) (by decide)
    ·
      refine own_go (fun _ k => XS.ifYes X22.here hx rfl (pc0 := 69) (pc' := 81) rfl (hb hby d9_69) rfl (XT.ll_ge_t q2) (by decide) (by decide) k) ?_
      show own_E _ _ _ _ _ _ _ (T22.setTop (mkF m 81 #[.val (.ref a), .val (.long r), .second] []))
      refine own_go (fun _ k => XT.lloadN X22.here hx rfl (hb hby d9_81) rfl k) ?_
      show own_E _ _ _ _ _ _ _ (T22.setTop (mkF m 82 #[.val (.ref a), .val (.long r), .second] [(.long r)]))
      refine own_go (fun _ k => XS.aloadN X22.here hx rfl (hb hby d9_82) rfl rfl k) ?_
      show own_E _ _ _ _ _ _ _ (T22.setTop (mkF m 83 #[.val (.ref a), .val (.long r), .second] [(.ref a), (.long r)]))
      obtain ⟨T24, X24, e24, st24⟩ := getF X22 hx hZ hown (host := "") (Or.inl (hw _ (List.mem_of_getElem? (i := 39) rfl))) Via.refl e22 f20_0 (g := (mkF m 83 #[.val (.ref a), .val (.long r), .second] [(.ref a), (.long r)])) rfl rfl (hb hby d9_83)
      refine own_go st24 ?_
      show own_E _ _ _ _ _ _ _ (T24.setTop (mkF m 86 #[.val (.ref a), .val (.long r), .second] [(.long n), (.long r)]))
      refine own_go (fun _ k => XT.lrem X24.here hx rfl (hb hby d9_86) rfl hn k) ?_
      show own_E _ _ _ _ _ _ _ (T24.setTop (mkF m 87 #[.val (.ref a), .val (.long r), .second] [(.long (r - (r / n) * n))]))
      refine own_go (fun _ k => XT.lstoreN X24.here hx rfl (hb hby d9_87) rfl (l' := #[.val (.ref a), .val (.long (r - (r / n) * n)), .second]) rfl k) ?_
      show own_E _ _ _ _ _ _ _ (T24.setTop (mkF m 88 #[.val (.ref a), .val (.long (r - (r / n) * n)), .second] []))
      refine own_go (fun _ k => XT.lloadN X24.here hx rfl (hb hby d9_88) rfl k) ?_
      show own_E _ _ _ _ _ _ _ (T24.setTop (mkF m 89 #[.val (.ref a), .val (.long (r - (r / n) * n)), .second] [(.long (r - (r / n) * n))]))
      exact own_ret X24 hx Bd.returns Bd.notSynchronized rfl (Or.inr (Or.inl ⟨rfl, rfl, _, rfl⟩)) (hb hby d9_89) (by rw [e24]; exact ⟨by rw [← hr]; rw [own_red, if_neg q1, if_neg q2], N20, K20, f20_5, f20_0, f20_1, f20_2, f20_3, f20_4⟩) (by decide) (by decide)
def Qrm0 (p0 : Int64) (p1 : Int64) (p2 : Int64) (p3 : Int32) (Z : State) (h0 : Heap) (n0 : Nat) (v : Option Value) (h : Heap) (L : List Loc) : Prop := v = some (.int 1) ∧ Fr n0 L
set_option maxRecDepth 65536 in
set_option maxHeartbeats 40000000 in
theorem rm0 (l : Launch) (Z : State) (a0 : Array Value) (hw : ∀ d ∈ tables_1, d.before a0 Z = true) (ws : List Jvm.Cond) (p0 : Int64) (p1 : Int64) (p2 : Int64) (p3 : Int32) (h0 : Heap) (n0 : Nat) (Z0 : n0 ≤ h0.size) (O0 : Old Z n0 h0) :
    MetFree l x (head1 (Jvm.Cond.code x code maxLocals ret :: ws) room_1) (fun ar_ U => ar_ = #[(.long p0), (.long p1), (.long p2), (.int p3)] ∧ Z.Warmed39 U.vm ∧ U.heap = h0) (fun _ _ _ _ _ => True) (fun _ U o U' => ∃ v L, o = .returned v ∧ Qrm0 p0 p1 p2 p3 Z h0 n0 v U'.heap L ∧ FrameEnd U o U' L room_1.cells room_1.slots) := by
  refine MetFree.of_bodySF (plainFor_of_name (by first | (simp [plainName, overriddenIn]; done) | decide +kernel)) hisR ?_
  intro p e s m args below meth c s₁ Bd hml0 hP hK
  obtain ⟨rfl, hZ, hh⟩ := hP
  have hx := Bd.exec
  have hby := Bd.bytes
  have hml : c.maxLocals = 30 := hml0
  have hown : s.vm.findClass "com/example/libmember/libmember/hash/WindowedPositionsNextPinLaw" = some m.cls := findClass_of_methodNamed Bd.named
  have hnm := (name_of_methodNamed Bd.named Bd.method).1
  have X0 : Stand p l e room_1 s m #[(.long p0), (.long p1), (.long p2), (.int p3)] below meth c s₁ [] 0 0 := Stand.of_body Bd
  have e0 : s₁.heap = h0 := by rw [← hh, Bd.state]; rfl
  have N0 := Fr.nil n0
  show own_E p e below s (Qrm0 p0 p1 p2 p3 Z h0 n0) room_1.cells room_1.slots (s₁.setTop (entryFrame m #[(.long p0), (.long p1), (.long p2), (.int p3)] maxLocals))
  refine own_go (fun t k => castTop (show _ = (mkF m 0 #[.val (.long p0), .second, .val (.long p1), .second, .val (.long p2), .second, .val (.int p3), .unset, .unset, .unset, .unset, .unset, .unset, .unset, .unset, .unset, .unset, .unset, .unset, .unset, .unset, .unset, .unset, .unset, .unset, .unset, .unset, .unset, .unset, .unset] []) from by first | (simp [entryFrame, mkF, argsToLocals, Value.category, maxLocals]; done) | rfl) k) ?_
  show own_E _ _ _ _ _ _ _ (s₁.setTop (mkF m 0 #[.val (.long p0), .second, .val (.long p1), .second, .val (.long p2), .second, .val (.int p3), .unset, .unset, .unset, .unset, .unset, .unset, .unset, .unset, .unset, .unset, .unset, .unset, .unset, .unset, .unset, .unset, .unset, .unset, .unset, .unset, .unset, .unset, .unset] []))
  have rest : ∀ n : Int64, 1 ≤ n.toInt → n.toInt ≤ 2305843009213693952 → own_E p e below s (Qrm0 p0 p1 p2 p3 Z h0 n0) room_1.cells room_1.slots (s₁.setTop (mkF m 30 #[.val (.long p0), .second, .val (.long p1), .second, .val (.long p2), .second, .val (.int p3), .val (.long n), .second, .unset, .unset, .unset, .unset, .unset, .unset, .unset, .unset, .unset, .unset, .unset, .unset, .unset, .unset, .unset, .unset, .unset, .unset, .unset, .unset, .unset] [])) := by
    intro n hn1 hn2
    show own_E _ _ _ _ _ _ _ (s₁.setTop (mkF m 30 #[.val (.long p0), .second, .val (.long p1), .second, .val (.long p2), .second, .val (.int p3), .val (.long n), .second, .unset, .unset, .unset, .unset, .unset, .unset, .unset, .unset, .unset, .unset, .unset, .unset, .unset, .unset, .unset, .unset, .unset, .unset, .unset, .unset, .unset] []))
    have hn0 : n ≠ 0 := own_nz hn1
    refine own_go (fun _ k => XT.lloadN X0.here hx rfl (hb hby at_30) rfl k) ?_
    show own_E _ _ _ _ _ _ _ (s₁.setTop (mkF m 31 #[.val (.long p0), .second, .val (.long p1), .second, .val (.long p2), .second, .val (.int p3), .val (.long n), .second, .unset, .unset, .unset, .unset, .unset, .unset, .unset, .unset, .unset, .unset, .unset, .unset, .unset, .unset, .unset, .unset, .unset, .unset, .unset, .unset, .unset] [(.long p0)]))
    refine own_go (fun _ k => XT.lload X0.here hx rfl (hb hby at_31) rfl k) ?_
    show own_E _ _ _ _ _ _ _ (s₁.setTop (mkF m 33 #[.val (.long p0), .second, .val (.long p1), .second, .val (.long p2), .second, .val (.int p3), .val (.long n), .second, .unset, .unset, .unset, .unset, .unset, .unset, .unset, .unset, .unset, .unset, .unset, .unset, .unset, .unset, .unset, .unset, .unset, .unset, .unset, .unset, .unset] [(.long n), (.long p0)]))
    obtain ⟨v101, T101, L101, X101, hQ101, st101⟩ := own_callS X0 hx hZ (rm := ({ frames := 0, cells := 0, slots := 0, locals := 0 } : Room)) (W := 0) (argsL := [(.long p0), (.long n)]) (rest := []) (y := (⟨"com/example/libmember/libmember/hash/WindowedPositionsNextPinLaw", "mulHiUnsigned", "(JJ)J"⟩ : MethodName)) hown (hw _ (List.mem_of_getElem? (i := 1) rfl)) (hw _ (List.mem_of_getElem? (i := 2) rfl)) (hw _ (List.mem_of_getElem? (i := 3) rfl)) (hw _ (List.mem_of_getElem? (i := 4) rfl)) (by decide) (rm1 l Z a0 hw p0 n h0 n0 Z0) e0 (by decide) (by decide) (by decide) (by decide) (g := (mkF m 33 #[.val (.long p0), .second, .val (.long p1), .second, .val (.long p2), .second, .val (.int p3), .val (.long n), .second, .unset, .unset, .unset, .unset, .unset, .unset, .unset, .unset, .unset, .unset, .unset, .unset, .unset, .unset, .unset, .unset, .unset, .unset, .unset, .unset, .unset] [(.long n), (.long p0)])) rfl (by rw [hml]; rfl) (lenOf pd_2 rfl) rfl (Nat.le_of_ble_eq_true rfl) (hb hby at_33)
    obtain ⟨rfl, N101, e101⟩ := hQ101
    refine own_go st101 ?_
    show own_E _ _ _ _ _ _ _ (T101.setTop (mkF m 36 #[.val (.long p0), .second, .val (.long p1), .second, .val (.long p2), .second, .val (.int p3), .val (.long n), .second, .unset, .unset, .unset, .unset, .unset, .unset, .unset, .unset, .unset, .unset, .unset, .unset, .unset, .unset, .unset, .unset, .unset, .unset, .unset, .unset, .unset] [(.long (own_mu p0 n))]))
    have M101 := Fr.app N0 N101
    have hst := own_start p0 hn1 hn2
    have hsb := own_bound p0 hn1 hn2
    obtain ⟨s0, hs0⟩ : ∃ z, z = own_mu p0 n := ⟨_, rfl⟩
    rw [← hs0] at hst hsb
    rw [← hs0]
    show own_E _ _ _ _ _ _ _ (T101.setTop (mkF m 36 #[.val (.long p0), .second, .val (.long p1), .second, .val (.long p2), .second, .val (.int p3), .val (.long n), .second, .unset, .unset, .unset, .unset, .unset, .unset, .unset, .unset, .unset, .unset, .unset, .unset, .unset, .unset, .unset, .unset, .unset, .unset, .unset, .unset, .unset] [(.long s0)]))
    refine own_go (fun _ k => XT.lstore X101.here hx rfl (hb hby at_36) rfl (l' := #[.val (.long p0), .second, .val (.long p1), .second, .val (.long p2), .second, .val (.int p3), .val (.long n), .second, .val (.long s0), .second, .unset, .unset, .unset, .unset, .unset, .unset, .unset, .unset, .unset, .unset, .unset, .unset, .unset, .unset, .unset, .unset, .unset, .unset, .unset]) rfl k) ?_
    show own_E _ _ _ _ _ _ _ (T101.setTop (mkF m 38 #[.val (.long p0), .second, .val (.long p1), .second, .val (.long p2), .second, .val (.int p3), .val (.long n), .second, .val (.long s0), .second, .unset, .unset, .unset, .unset, .unset, .unset, .unset, .unset, .unset, .unset, .unset, .unset, .unset, .unset, .unset, .unset, .unset, .unset, .unset] []))
    refine own_go (fun _ k => XT.lloadN X101.here hx rfl (hb hby at_38) rfl k) ?_
    show own_E _ _ _ _ _ _ _ (T101.setTop (mkF m 39 #[.val (.long p0), .second, .val (.long p1), .second, .val (.long p2), .second, .val (.int p3), .val (.long n), .second, .val (.long s0), .second, .unset, .unset, .unset, .unset, .unset, .unset, .unset, .unset, .unset, .unset, .unset, .unset, .unset, .unset, .unset, .unset, .unset, .unset, .unset] [(.long p1)]))
    refine own_go (fun _ k => XT.bipushV X101.here hx rfl (13 : Int32) (hb hby at_39) (by decide) k) ?_
    show own_E _ _ _ _ _ _ _ (T101.setTop (mkF m 41 #[.val (.long p0), .second, .val (.long p1), .second, .val (.long p2), .second, .val (.int p3), .val (.long n), .second, .val (.long s0), .second, .unset, .unset, .unset, .unset, .unset, .unset, .unset, .unset, .unset, .unset, .unset, .unset, .unset, .unset, .unset, .unset, .unset, .unset, .unset] [(.int (13 : Int32)), (.long p1)]))
    refine own_go (fun _ k => XT.lushr X101.here hx rfl (hb hby at_41) rfl k) ?_
    show own_E _ _ _ _ _ _ _ (T101.setTop (mkF m 42 #[.val (.long p0), .second, .val (.long p1), .second, .val (.long p2), .second, .val (.int p3), .val (.long n), .second, .val (.long s0), .second, .unset, .unset, .unset, .unset, .unset, .unset, .unset, .unset, .unset, .unset, .unset, .unset, .unset, .unset, .unset, .unset, .unset, .unset, .unset] [(.long (XT.ushrL p1 (13 : Int32)))]))
    refine own_go (fun _ k => XT.lconstV X101.here hx rfl (1 : Int64) (hb hby at_42) (by decide) k) ?_
    show own_E _ _ _ _ _ _ _ (T101.setTop (mkF m 43 #[.val (.long p0), .second, .val (.long p1), .second, .val (.long p2), .second, .val (.int p3), .val (.long n), .second, .val (.long s0), .second, .unset, .unset, .unset, .unset, .unset, .unset, .unset, .unset, .unset, .unset, .unset, .unset, .unset, .unset, .unset, .unset, .unset, .unset, .unset] [(.long (1 : Int64)), (.long (XT.ushrL p1 (13 : Int32)))]))
    refine own_go (fun _ k => XT.lor X101.here hx rfl (hb hby at_43) rfl k) ?_
    show own_E _ _ _ _ _ _ _ (T101.setTop (mkF m 44 #[.val (.long p0), .second, .val (.long p1), .second, .val (.long p2), .second, .val (.int p3), .val (.long n), .second, .val (.long s0), .second, .unset, .unset, .unset, .unset, .unset, .unset, .unset, .unset, .unset, .unset, .unset, .unset, .unset, .unset, .unset, .unset, .unset, .unset, .unset] [(.long ((XT.ushrL p1 (13 : Int32)) ||| (1 : Int64)))]))
    obtain ⟨y0, h_y0⟩ : ∃ z, z = ((XT.ushrL p1 (13 : Int32)) ||| (1 : Int64)) := ⟨_, rfl⟩
    rw [← h_y0]
    show own_E _ _ _ _ _ _ _ (T101.setTop (mkF m 44 #[.val (.long p0), .second, .val (.long p1), .second, .val (.long p2), .second, .val (.int p3), .val (.long n), .second, .val (.long s0), .second, .unset, .unset, .unset, .unset, .unset, .unset, .unset, .unset, .unset, .unset, .unset, .unset, .unset, .unset, .unset, .unset, .unset, .unset, .unset] [(.long y0)]))
    refine own_go (fun _ k => XT.lstore X101.here hx rfl (hb hby at_44) rfl (l' := #[.val (.long p0), .second, .val (.long p1), .second, .val (.long p2), .second, .val (.int p3), .val (.long n), .second, .val (.long s0), .second, .val (.long y0), .second, .unset, .unset, .unset, .unset, .unset, .unset, .unset, .unset, .unset, .unset, .unset, .unset, .unset, .unset, .unset, .unset, .unset]) rfl k) ?_
    show own_E _ _ _ _ _ _ _ (T101.setTop (mkF m 46 #[.val (.long p0), .second, .val (.long p1), .second, .val (.long p2), .second, .val (.int p3), .val (.long n), .second, .val (.long s0), .second, .val (.long y0), .second, .unset, .unset, .unset, .unset, .unset, .unset, .unset, .unset, .unset, .unset, .unset, .unset, .unset, .unset, .unset, .unset, .unset] []))
    refine own_go (fun _ k => XT.lload X101.here hx rfl (hb hby at_46) rfl k) ?_
    show own_E _ _ _ _ _ _ _ (T101.setTop (mkF m 48 #[.val (.long p0), .second, .val (.long p1), .second, .val (.long p2), .second, .val (.int p3), .val (.long n), .second, .val (.long s0), .second, .val (.long y0), .second, .unset, .unset, .unset, .unset, .unset, .unset, .unset, .unset, .unset, .unset, .unset, .unset, .unset, .unset, .unset, .unset, .unset] [(.long s0)]))
    refine own_go (fun _ k => XT.lloadN X101.here hx rfl (hb hby at_48) rfl k) ?_
    show own_E _ _ _ _ _ _ _ (T101.setTop (mkF m 49 #[.val (.long p0), .second, .val (.long p1), .second, .val (.long p2), .second, .val (.int p3), .val (.long n), .second, .val (.long s0), .second, .val (.long y0), .second, .unset, .unset, .unset, .unset, .unset, .unset, .unset, .unset, .unset, .unset, .unset, .unset, .unset, .unset, .unset, .unset, .unset] [(.long p1), (.long s0)]))
    refine own_go (fun _ k => X101.ldc2J hx hown (mvT hZ (hw _ (List.mem_of_getElem? (i := 6) rfl))) rfl (hb hby at_49) k) ?_
    show own_E _ _ _ _ _ _ _ (T101.setTop (mkF m 52 #[.val (.long p0), .second, .val (.long p1), .second, .val (.long p2), .second, .val (.int p3), .val (.long n), .second, .val (.long s0), .second, .val (.long y0), .second, .unset, .unset, .unset, .unset, .unset, .unset, .unset, .unset, .unset, .unset, .unset, .unset, .unset, .unset, .unset, .unset, .unset] [(.long (8191 : Int64)), (.long p1), (.long s0)]))
    refine own_go (fun _ k => XT.land X101.here hx rfl (hb hby at_52) rfl k) ?_
    show own_E _ _ _ _ _ _ _ (T101.setTop (mkF m 53 #[.val (.long p0), .second, .val (.long p1), .second, .val (.long p2), .second, .val (.int p3), .val (.long n), .second, .val (.long s0), .second, .val (.long y0), .second, .unset, .unset, .unset, .unset, .unset, .unset, .unset, .unset, .unset, .unset, .unset, .unset, .unset, .unset, .unset, .unset, .unset] [(.long (p1 &&& (8191 : Int64))), (.long s0)]))
    refine own_go (fun _ k => XT.ladd X101.here hx rfl (hb hby at_53) rfl k) ?_
    show own_E _ _ _ _ _ _ _ (T101.setTop (mkF m 54 #[.val (.long p0), .second, .val (.long p1), .second, .val (.long p2), .second, .val (.int p3), .val (.long n), .second, .val (.long s0), .second, .val (.long y0), .second, .unset, .unset, .unset, .unset, .unset, .unset, .unset, .unset, .unset, .unset, .unset, .unset, .unset, .unset, .unset, .unset, .unset] [(.long (s0 + (p1 &&& (8191 : Int64))))]))
    refine own_go (fun _ k => XT.lload X101.here hx rfl (hb hby at_54) rfl k) ?_
    show own_E _ _ _ _ _ _ _ (T101.setTop (mkF m 56 #[.val (.long p0), .second, .val (.long p1), .second, .val (.long p2), .second, .val (.int p3), .val (.long n), .second, .val (.long s0), .second, .val (.long y0), .second, .unset, .unset, .unset, .unset, .unset, .unset, .unset, .unset, .unset, .unset, .unset, .unset, .unset, .unset, .unset, .unset, .unset] [(.long n), (.long (s0 + (p1 &&& (8191 : Int64))))]))
    refine own_go (fun _ k => XT.lrem X101.here hx rfl (hb hby at_56) rfl hn0 k) ?_
    show own_E _ _ _ _ _ _ _ (T101.setTop (mkF m 57 #[.val (.long p0), .second, .val (.long p1), .second, .val (.long p2), .second, .val (.int p3), .val (.long n), .second, .val (.long s0), .second, .val (.long y0), .second, .unset, .unset, .unset, .unset, .unset, .unset, .unset, .unset, .unset, .unset, .unset, .unset, .unset, .unset, .unset, .unset, .unset] [(.long ((s0 + (p1 &&& (8191 : Int64))) - ((s0 + (p1 &&& (8191 : Int64))) / n) * n))]))
    obtain ⟨e_0, h_e_0⟩ : ∃ z, z = ((s0 + (p1 &&& (8191 : Int64))) - ((s0 + (p1 &&& (8191 : Int64))) / n) * n) := ⟨_, rfl⟩
    rw [← h_e_0]
    show own_E _ _ _ _ _ _ _ (T101.setTop (mkF m 57 #[.val (.long p0), .second, .val (.long p1), .second, .val (.long p2), .second, .val (.int p3), .val (.long n), .second, .val (.long s0), .second, .val (.long y0), .second, .unset, .unset, .unset, .unset, .unset, .unset, .unset, .unset, .unset, .unset, .unset, .unset, .unset, .unset, .unset, .unset, .unset] [(.long e_0)]))
    refine own_go (fun _ k => XT.lstore X101.here hx rfl (hb hby at_57) rfl (l' := #[.val (.long p0), .second, .val (.long p1), .second, .val (.long p2), .second, .val (.int p3), .val (.long n), .second, .val (.long s0), .second, .val (.long y0), .second, .val (.long e_0), .second, .unset, .unset, .unset, .unset, .unset, .unset, .unset, .unset, .unset, .unset, .unset, .unset, .unset, .unset, .unset]) rfl k) ?_
    show own_E _ _ _ _ _ _ _ (T101.setTop (mkF m 59 #[.val (.long p0), .second, .val (.long p1), .second, .val (.long p2), .second, .val (.int p3), .val (.long n), .second, .val (.long s0), .second, .val (.long y0), .second, .val (.long e_0), .second, .unset, .unset, .unset, .unset, .unset, .unset, .unset, .unset, .unset, .unset, .unset, .unset, .unset, .unset, .unset] []))
    refine own_go (fun _ k => XT.lload X101.here hx rfl (hb hby at_59) rfl k) ?_
    show own_E _ _ _ _ _ _ _ (T101.setTop (mkF m 61 #[.val (.long p0), .second, .val (.long p1), .second, .val (.long p2), .second, .val (.int p3), .val (.long n), .second, .val (.long s0), .second, .val (.long y0), .second, .val (.long e_0), .second, .unset, .unset, .unset, .unset, .unset, .unset, .unset, .unset, .unset, .unset, .unset, .unset, .unset, .unset, .unset] [(.long s0)]))
    refine own_go (fun _ k => XT.lloadN X101.here hx rfl (hb hby at_61) rfl k) ?_
    show own_E _ _ _ _ _ _ _ (T101.setTop (mkF m 62 #[.val (.long p0), .second, .val (.long p1), .second, .val (.long p2), .second, .val (.int p3), .val (.long n), .second, .val (.long s0), .second, .val (.long y0), .second, .val (.long e_0), .second, .unset, .unset, .unset, .unset, .unset, .unset, .unset, .unset, .unset, .unset, .unset, .unset, .unset, .unset, .unset] [(.long p1), (.long s0)]))
    refine own_go (fun _ k => XT.lload X101.here hx rfl (hb hby at_62) rfl k) ?_
    show own_E _ _ _ _ _ _ _ (T101.setTop (mkF m 64 #[.val (.long p0), .second, .val (.long p1), .second, .val (.long p2), .second, .val (.int p3), .val (.long n), .second, .val (.long s0), .second, .val (.long y0), .second, .val (.long e_0), .second, .unset, .unset, .unset, .unset, .unset, .unset, .unset, .unset, .unset, .unset, .unset, .unset, .unset, .unset, .unset] [(.long y0), (.long p1), (.long s0)]))
    refine own_go (fun _ k => XT.ladd X101.here hx rfl (hb hby at_64) rfl k) ?_
    show own_E _ _ _ _ _ _ _ (T101.setTop (mkF m 65 #[.val (.long p0), .second, .val (.long p1), .second, .val (.long p2), .second, .val (.int p3), .val (.long n), .second, .val (.long s0), .second, .val (.long y0), .second, .val (.long e_0), .second, .unset, .unset, .unset, .unset, .unset, .unset, .unset, .unset, .unset, .unset, .unset, .unset, .unset, .unset, .unset] [(.long (p1 + y0)), (.long s0)]))
    refine own_go (fun _ k => X101.ldc2J hx hown (mvT hZ (hw _ (List.mem_of_getElem? (i := 6) rfl))) rfl (hb hby at_65) k) ?_
    show own_E _ _ _ _ _ _ _ (T101.setTop (mkF m 68 #[.val (.long p0), .second, .val (.long p1), .second, .val (.long p2), .second, .val (.int p3), .val (.long n), .second, .val (.long s0), .second, .val (.long y0), .second, .val (.long e_0), .second, .unset, .unset, .unset, .unset, .unset, .unset, .unset, .unset, .unset, .unset, .unset, .unset, .unset, .unset, .unset] [(.long (8191 : Int64)), (.long (p1 + y0)), (.long s0)]))
    refine own_go (fun _ k => XT.land X101.here hx rfl (hb hby at_68) rfl k) ?_
    show own_E _ _ _ _ _ _ _ (T101.setTop (mkF m 69 #[.val (.long p0), .second, .val (.long p1), .second, .val (.long p2), .second, .val (.int p3), .val (.long n), .second, .val (.long s0), .second, .val (.long y0), .second, .val (.long e_0), .second, .unset, .unset, .unset, .unset, .unset, .unset, .unset, .unset, .unset, .unset, .unset, .unset, .unset, .unset, .unset] [(.long ((p1 + y0) &&& (8191 : Int64))), (.long s0)]))
    refine own_go (fun _ k => XT.ladd X101.here hx rfl (hb hby at_69) rfl k) ?_
    show own_E _ _ _ _ _ _ _ (T101.setTop (mkF m 70 #[.val (.long p0), .second, .val (.long p1), .second, .val (.long p2), .second, .val (.int p3), .val (.long n), .second, .val (.long s0), .second, .val (.long y0), .second, .val (.long e_0), .second, .unset, .unset, .unset, .unset, .unset, .unset, .unset, .unset, .unset, .unset, .unset, .unset, .unset, .unset, .unset] [(.long (s0 + ((p1 + y0) &&& (8191 : Int64))))]))
    refine own_go (fun _ k => XT.lload X101.here hx rfl (hb hby at_70) rfl k) ?_
    show own_E _ _ _ _ _ _ _ (T101.setTop (mkF m 72 #[.val (.long p0), .second, .val (.long p1), .second, .val (.long p2), .second, .val (.int p3), .val (.long n), .second, .val (.long s0), .second, .val (.long y0), .second, .val (.long e_0), .second, .unset, .unset, .unset, .unset, .unset, .unset, .unset, .unset, .unset, .unset, .unset, .unset, .unset, .unset, .unset] [(.long n), (.long (s0 + ((p1 + y0) &&& (8191 : Int64))))]))
    refine own_go (fun _ k => XT.lrem X101.here hx rfl (hb hby at_72) rfl hn0 k) ?_
    show own_E _ _ _ _ _ _ _ (T101.setTop (mkF m 73 #[.val (.long p0), .second, .val (.long p1), .second, .val (.long p2), .second, .val (.int p3), .val (.long n), .second, .val (.long s0), .second, .val (.long y0), .second, .val (.long e_0), .second, .unset, .unset, .unset, .unset, .unset, .unset, .unset, .unset, .unset, .unset, .unset, .unset, .unset, .unset, .unset] [(.long ((s0 + ((p1 + y0) &&& (8191 : Int64))) - ((s0 + ((p1 + y0) &&& (8191 : Int64))) / n) * n))]))
    obtain ⟨e_1, h_e_1⟩ : ∃ z, z = ((s0 + ((p1 + y0) &&& (8191 : Int64))) - ((s0 + ((p1 + y0) &&& (8191 : Int64))) / n) * n) := ⟨_, rfl⟩
    rw [← h_e_1]
    show own_E _ _ _ _ _ _ _ (T101.setTop (mkF m 73 #[.val (.long p0), .second, .val (.long p1), .second, .val (.long p2), .second, .val (.int p3), .val (.long n), .second, .val (.long s0), .second, .val (.long y0), .second, .val (.long e_0), .second, .unset, .unset, .unset, .unset, .unset, .unset, .unset, .unset, .unset, .unset, .unset, .unset, .unset, .unset, .unset] [(.long e_1)]))
    refine own_go (fun _ k => XT.lstore X101.here hx rfl (hb hby at_73) rfl (l' := #[.val (.long p0), .second, .val (.long p1), .second, .val (.long p2), .second, .val (.int p3), .val (.long n), .second, .val (.long s0), .second, .val (.long y0), .second, .val (.long e_0), .second, .val (.long e_1), .second, .unset, .unset, .unset, .unset, .unset, .unset, .unset, .unset, .unset, .unset, .unset, .unset, .unset]) rfl k) ?_
    show own_E _ _ _ _ _ _ _ (T101.setTop (mkF m 75 #[.val (.long p0), .second, .val (.long p1), .second, .val (.long p2), .second, .val (.int p3), .val (.long n), .second, .val (.long s0), .second, .val (.long y0), .second, .val (.long e_0), .second, .val (.long e_1), .second, .unset, .unset, .unset, .unset, .unset, .unset, .unset, .unset, .unset, .unset, .unset, .unset, .unset] []))
    refine own_go (fun _ k => XT.lload X101.here hx rfl (hb hby at_75) rfl k) ?_
    show own_E _ _ _ _ _ _ _ (T101.setTop (mkF m 77 #[.val (.long p0), .second, .val (.long p1), .second, .val (.long p2), .second, .val (.int p3), .val (.long n), .second, .val (.long s0), .second, .val (.long y0), .second, .val (.long e_0), .second, .val (.long e_1), .second, .unset, .unset, .unset, .unset, .unset, .unset, .unset, .unset, .unset, .unset, .unset, .unset, .unset] [(.long s0)]))
    refine own_go (fun _ k => XT.lloadN X101.here hx rfl (hb hby at_77) rfl k) ?_
    show own_E _ _ _ _ _ _ _ (T101.setTop (mkF m 78 #[.val (.long p0), .second, .val (.long p1), .second, .val (.long p2), .second, .val (.int p3), .val (.long n), .second, .val (.long s0), .second, .val (.long y0), .second, .val (.long e_0), .second, .val (.long e_1), .second, .unset, .unset, .unset, .unset, .unset, .unset, .unset, .unset, .unset, .unset, .unset, .unset, .unset] [(.long p1), (.long s0)]))
    refine own_go (fun _ k => X101.ldc2J hx hown (mvT hZ (hw _ (List.mem_of_getElem? (i := 7) rfl))) rfl (hb hby at_78) k) ?_
    show own_E _ _ _ _ _ _ _ (T101.setTop (mkF m 81 #[.val (.long p0), .second, .val (.long p1), .second, .val (.long p2), .second, .val (.int p3), .val (.long n), .second, .val (.long s0), .second, .val (.long y0), .second, .val (.long e_0), .second, .val (.long e_1), .second, .unset, .unset, .unset, .unset, .unset, .unset, .unset, .unset, .unset, .unset, .unset, .unset, .unset] [(.long (2 : Int64)), (.long p1), (.long s0)]))
    refine own_go (fun _ k => XT.lload X101.here hx rfl (hb hby at_81) rfl k) ?_
    show own_E _ _ _ _ _ _ _ (T101.setTop (mkF m 83 #[.val (.long p0), .second, .val (.long p1), .second, .val (.long p2), .second, .val (.int p3), .val (.long n), .second, .val (.long s0), .second, .val (.long y0), .second, .val (.long e_0), .second, .val (.long e_1), .second, .unset, .unset, .unset, .unset, .unset, .unset, .unset, .unset, .unset, .unset, .unset, .unset, .unset] [(.long y0), (.long (2 : Int64)), (.long p1), (.long s0)]))
    refine own_go (fun _ k => XT.lmul X101.here hx rfl (hb hby at_83) rfl k) ?_
    show own_E _ _ _ _ _ _ _ (T101.setTop (mkF m 84 #[.val (.long p0), .second, .val (.long p1), .second, .val (.long p2), .second, .val (.int p3), .val (.long n), .second, .val (.long s0), .second, .val (.long y0), .second, .val (.long e_0), .second, .val (.long e_1), .second, .unset, .unset, .unset, .unset, .unset, .unset, .unset, .unset, .unset, .unset, .unset, .unset, .unset] [(.long ((2 : Int64) * y0)), (.long p1), (.long s0)]))
    refine own_go (fun _ k => XT.ladd X101.here hx rfl (hb hby at_84) rfl k) ?_
    show own_E _ _ _ _ _ _ _ (T101.setTop (mkF m 85 #[.val (.long p0), .second, .val (.long p1), .second, .val (.long p2), .second, .val (.int p3), .val (.long n), .second, .val (.long s0), .second, .val (.long y0), .second, .val (.long e_0), .second, .val (.long e_1), .second, .unset, .unset, .unset, .unset, .unset, .unset, .unset, .unset, .unset, .unset, .unset, .unset, .unset] [(.long (p1 + ((2 : Int64) * y0))), (.long s0)]))
    refine own_go (fun _ k => X101.ldc2J hx hown (mvT hZ (hw _ (List.mem_of_getElem? (i := 6) rfl))) rfl (hb hby at_85) k) ?_
    show own_E _ _ _ _ _ _ _ (T101.setTop (mkF m 88 #[.val (.long p0), .second, .val (.long p1), .second, .val (.long p2), .second, .val (.int p3), .val (.long n), .second, .val (.long s0), .second, .val (.long y0), .second, .val (.long e_0), .second, .val (.long e_1), .second, .unset, .unset, .unset, .unset, .unset, .unset, .unset, .unset, .unset, .unset, .unset, .unset, .unset] [(.long (8191 : Int64)), (.long (p1 + ((2 : Int64) * y0))), (.long s0)]))
    refine own_go (fun _ k => XT.land X101.here hx rfl (hb hby at_88) rfl k) ?_
    show own_E _ _ _ _ _ _ _ (T101.setTop (mkF m 89 #[.val (.long p0), .second, .val (.long p1), .second, .val (.long p2), .second, .val (.int p3), .val (.long n), .second, .val (.long s0), .second, .val (.long y0), .second, .val (.long e_0), .second, .val (.long e_1), .second, .unset, .unset, .unset, .unset, .unset, .unset, .unset, .unset, .unset, .unset, .unset, .unset, .unset] [(.long ((p1 + ((2 : Int64) * y0)) &&& (8191 : Int64))), (.long s0)]))
    refine own_go (fun _ k => XT.ladd X101.here hx rfl (hb hby at_89) rfl k) ?_
    show own_E _ _ _ _ _ _ _ (T101.setTop (mkF m 90 #[.val (.long p0), .second, .val (.long p1), .second, .val (.long p2), .second, .val (.int p3), .val (.long n), .second, .val (.long s0), .second, .val (.long y0), .second, .val (.long e_0), .second, .val (.long e_1), .second, .unset, .unset, .unset, .unset, .unset, .unset, .unset, .unset, .unset, .unset, .unset, .unset, .unset] [(.long (s0 + ((p1 + ((2 : Int64) * y0)) &&& (8191 : Int64))))]))
    refine own_go (fun _ k => XT.lload X101.here hx rfl (hb hby at_90) rfl k) ?_
    show own_E _ _ _ _ _ _ _ (T101.setTop (mkF m 92 #[.val (.long p0), .second, .val (.long p1), .second, .val (.long p2), .second, .val (.int p3), .val (.long n), .second, .val (.long s0), .second, .val (.long y0), .second, .val (.long e_0), .second, .val (.long e_1), .second, .unset, .unset, .unset, .unset, .unset, .unset, .unset, .unset, .unset, .unset, .unset, .unset, .unset] [(.long n), (.long (s0 + ((p1 + ((2 : Int64) * y0)) &&& (8191 : Int64))))]))
    refine own_go (fun _ k => XT.lrem X101.here hx rfl (hb hby at_92) rfl hn0 k) ?_
    show own_E _ _ _ _ _ _ _ (T101.setTop (mkF m 93 #[.val (.long p0), .second, .val (.long p1), .second, .val (.long p2), .second, .val (.int p3), .val (.long n), .second, .val (.long s0), .second, .val (.long y0), .second, .val (.long e_0), .second, .val (.long e_1), .second, .unset, .unset, .unset, .unset, .unset, .unset, .unset, .unset, .unset, .unset, .unset, .unset, .unset] [(.long ((s0 + ((p1 + ((2 : Int64) * y0)) &&& (8191 : Int64))) - ((s0 + ((p1 + ((2 : Int64) * y0)) &&& (8191 : Int64))) / n) * n))]))
    obtain ⟨e_2, h_e_2⟩ : ∃ z, z = ((s0 + ((p1 + ((2 : Int64) * y0)) &&& (8191 : Int64))) - ((s0 + ((p1 + ((2 : Int64) * y0)) &&& (8191 : Int64))) / n) * n) := ⟨_, rfl⟩
    rw [← h_e_2]
    show own_E _ _ _ _ _ _ _ (T101.setTop (mkF m 93 #[.val (.long p0), .second, .val (.long p1), .second, .val (.long p2), .second, .val (.int p3), .val (.long n), .second, .val (.long s0), .second, .val (.long y0), .second, .val (.long e_0), .second, .val (.long e_1), .second, .unset, .unset, .unset, .unset, .unset, .unset, .unset, .unset, .unset, .unset, .unset, .unset, .unset] [(.long e_2)]))
    refine own_go (fun _ k => XT.lstore X101.here hx rfl (hb hby at_93) rfl (l' := #[.val (.long p0), .second, .val (.long p1), .second, .val (.long p2), .second, .val (.int p3), .val (.long n), .second, .val (.long s0), .second, .val (.long y0), .second, .val (.long e_0), .second, .val (.long e_1), .second, .val (.long e_2), .second, .unset, .unset, .unset, .unset, .unset, .unset, .unset, .unset, .unset, .unset, .unset]) rfl k) ?_
    show own_E _ _ _ _ _ _ _ (T101.setTop (mkF m 95 #[.val (.long p0), .second, .val (.long p1), .second, .val (.long p2), .second, .val (.int p3), .val (.long n), .second, .val (.long s0), .second, .val (.long y0), .second, .val (.long e_0), .second, .val (.long e_1), .second, .val (.long e_2), .second, .unset, .unset, .unset, .unset, .unset, .unset, .unset, .unset, .unset, .unset, .unset] []))
    refine own_go (fun _ k => XT.lload X101.here hx rfl (hb hby at_95) rfl k) ?_
    show own_E _ _ _ _ _ _ _ (T101.setTop (mkF m 97 #[.val (.long p0), .second, .val (.long p1), .second, .val (.long p2), .second, .val (.int p3), .val (.long n), .second, .val (.long s0), .second, .val (.long y0), .second, .val (.long e_0), .second, .val (.long e_1), .second, .val (.long e_2), .second, .unset, .unset, .unset, .unset, .unset, .unset, .unset, .unset, .unset, .unset, .unset] [(.long s0)]))
    refine own_go (fun _ k => XT.lloadN X101.here hx rfl (hb hby at_97) rfl k) ?_
    show own_E _ _ _ _ _ _ _ (T101.setTop (mkF m 98 #[.val (.long p0), .second, .val (.long p1), .second, .val (.long p2), .second, .val (.int p3), .val (.long n), .second, .val (.long s0), .second, .val (.long y0), .second, .val (.long e_0), .second, .val (.long e_1), .second, .val (.long e_2), .second, .unset, .unset, .unset, .unset, .unset, .unset, .unset, .unset, .unset, .unset, .unset] [(.long p1), (.long s0)]))
    refine own_go (fun _ k => X101.ldc2J hx hown (mvT hZ (hw _ (List.mem_of_getElem? (i := 8) rfl))) rfl (hb hby at_98) k) ?_
    show own_E _ _ _ _ _ _ _ (T101.setTop (mkF m 101 #[.val (.long p0), .second, .val (.long p1), .second, .val (.long p2), .second, .val (.int p3), .val (.long n), .second, .val (.long s0), .second, .val (.long y0), .second, .val (.long e_0), .second, .val (.long e_1), .second, .val (.long e_2), .second, .unset, .unset, .unset, .unset, .unset, .unset, .unset, .unset, .unset, .unset, .unset] [(.long (3 : Int64)), (.long p1), (.long s0)]))
    refine own_go (fun _ k => XT.lload X101.here hx rfl (hb hby at_101) rfl k) ?_
    show own_E _ _ _ _ _ _ _ (T101.setTop (mkF m 103 #[.val (.long p0), .second, .val (.long p1), .second, .val (.long p2), .second, .val (.int p3), .val (.long n), .second, .val (.long s0), .second, .val (.long y0), .second, .val (.long e_0), .second, .val (.long e_1), .second, .val (.long e_2), .second, .unset, .unset, .unset, .unset, .unset, .unset, .unset, .unset, .unset, .unset, .unset] [(.long y0), (.long (3 : Int64)), (.long p1), (.long s0)]))
    refine own_go (fun _ k => XT.lmul X101.here hx rfl (hb hby at_103) rfl k) ?_
    show own_E _ _ _ _ _ _ _ (T101.setTop (mkF m 104 #[.val (.long p0), .second, .val (.long p1), .second, .val (.long p2), .second, .val (.int p3), .val (.long n), .second, .val (.long s0), .second, .val (.long y0), .second, .val (.long e_0), .second, .val (.long e_1), .second, .val (.long e_2), .second, .unset, .unset, .unset, .unset, .unset, .unset, .unset, .unset, .unset, .unset, .unset] [(.long ((3 : Int64) * y0)), (.long p1), (.long s0)]))
    refine own_go (fun _ k => XT.ladd X101.here hx rfl (hb hby at_104) rfl k) ?_
    show own_E _ _ _ _ _ _ _ (T101.setTop (mkF m 105 #[.val (.long p0), .second, .val (.long p1), .second, .val (.long p2), .second, .val (.int p3), .val (.long n), .second, .val (.long s0), .second, .val (.long y0), .second, .val (.long e_0), .second, .val (.long e_1), .second, .val (.long e_2), .second, .unset, .unset, .unset, .unset, .unset, .unset, .unset, .unset, .unset, .unset, .unset] [(.long (p1 + ((3 : Int64) * y0))), (.long s0)]))
    refine own_go (fun _ k => XT.lconstV X101.here hx rfl (1 : Int64) (hb hby at_105) (by decide) k) ?_
    show own_E _ _ _ _ _ _ _ (T101.setTop (mkF m 106 #[.val (.long p0), .second, .val (.long p1), .second, .val (.long p2), .second, .val (.int p3), .val (.long n), .second, .val (.long s0), .second, .val (.long y0), .second, .val (.long e_0), .second, .val (.long e_1), .second, .val (.long e_2), .second, .unset, .unset, .unset, .unset, .unset, .unset, .unset, .unset, .unset, .unset, .unset] [(.long (1 : Int64)), (.long (p1 + ((3 : Int64) * y0))), (.long s0)]))
    refine own_go (fun _ k => XT.ladd X101.here hx rfl (hb hby at_106) rfl k) ?_
    show own_E _ _ _ _ _ _ _ (T101.setTop (mkF m 107 #[.val (.long p0), .second, .val (.long p1), .second, .val (.long p2), .second, .val (.int p3), .val (.long n), .second, .val (.long s0), .second, .val (.long y0), .second, .val (.long e_0), .second, .val (.long e_1), .second, .val (.long e_2), .second, .unset, .unset, .unset, .unset, .unset, .unset, .unset, .unset, .unset, .unset, .unset] [(.long ((p1 + ((3 : Int64) * y0)) + (1 : Int64))), (.long s0)]))
    refine own_go (fun _ k => X101.ldc2J hx hown (mvT hZ (hw _ (List.mem_of_getElem? (i := 6) rfl))) rfl (hb hby at_107) k) ?_
    show own_E _ _ _ _ _ _ _ (T101.setTop (mkF m 110 #[.val (.long p0), .second, .val (.long p1), .second, .val (.long p2), .second, .val (.int p3), .val (.long n), .second, .val (.long s0), .second, .val (.long y0), .second, .val (.long e_0), .second, .val (.long e_1), .second, .val (.long e_2), .second, .unset, .unset, .unset, .unset, .unset, .unset, .unset, .unset, .unset, .unset, .unset] [(.long (8191 : Int64)), (.long ((p1 + ((3 : Int64) * y0)) + (1 : Int64))), (.long s0)]))
    refine own_go (fun _ k => XT.land X101.here hx rfl (hb hby at_110) rfl k) ?_
    show own_E _ _ _ _ _ _ _ (T101.setTop (mkF m 111 #[.val (.long p0), .second, .val (.long p1), .second, .val (.long p2), .second, .val (.int p3), .val (.long n), .second, .val (.long s0), .second, .val (.long y0), .second, .val (.long e_0), .second, .val (.long e_1), .second, .val (.long e_2), .second, .unset, .unset, .unset, .unset, .unset, .unset, .unset, .unset, .unset, .unset, .unset] [(.long (((p1 + ((3 : Int64) * y0)) + (1 : Int64)) &&& (8191 : Int64))), (.long s0)]))
    refine own_go (fun _ k => XT.ladd X101.here hx rfl (hb hby at_111) rfl k) ?_
    show own_E _ _ _ _ _ _ _ (T101.setTop (mkF m 112 #[.val (.long p0), .second, .val (.long p1), .second, .val (.long p2), .second, .val (.int p3), .val (.long n), .second, .val (.long s0), .second, .val (.long y0), .second, .val (.long e_0), .second, .val (.long e_1), .second, .val (.long e_2), .second, .unset, .unset, .unset, .unset, .unset, .unset, .unset, .unset, .unset, .unset, .unset] [(.long (s0 + (((p1 + ((3 : Int64) * y0)) + (1 : Int64)) &&& (8191 : Int64))))]))
    refine own_go (fun _ k => XT.lload X101.here hx rfl (hb hby at_112) rfl k) ?_
    show own_E _ _ _ _ _ _ _ (T101.setTop (mkF m 114 #[.val (.long p0), .second, .val (.long p1), .second, .val (.long p2), .second, .val (.int p3), .val (.long n), .second, .val (.long s0), .second, .val (.long y0), .second, .val (.long e_0), .second, .val (.long e_1), .second, .val (.long e_2), .second, .unset, .unset, .unset, .unset, .unset, .unset, .unset, .unset, .unset, .unset, .unset] [(.long n), (.long (s0 + (((p1 + ((3 : Int64) * y0)) + (1 : Int64)) &&& (8191 : Int64))))]))
    refine own_go (fun _ k => XT.lrem X101.here hx rfl (hb hby at_114) rfl hn0 k) ?_
    show own_E _ _ _ _ _ _ _ (T101.setTop (mkF m 115 #[.val (.long p0), .second, .val (.long p1), .second, .val (.long p2), .second, .val (.int p3), .val (.long n), .second, .val (.long s0), .second, .val (.long y0), .second, .val (.long e_0), .second, .val (.long e_1), .second, .val (.long e_2), .second, .unset, .unset, .unset, .unset, .unset, .unset, .unset, .unset, .unset, .unset, .unset] [(.long ((s0 + (((p1 + ((3 : Int64) * y0)) + (1 : Int64)) &&& (8191 : Int64))) - ((s0 + (((p1 + ((3 : Int64) * y0)) + (1 : Int64)) &&& (8191 : Int64))) / n) * n))]))
    obtain ⟨e_3, h_e_3⟩ : ∃ z, z = ((s0 + (((p1 + ((3 : Int64) * y0)) + (1 : Int64)) &&& (8191 : Int64))) - ((s0 + (((p1 + ((3 : Int64) * y0)) + (1 : Int64)) &&& (8191 : Int64))) / n) * n) := ⟨_, rfl⟩
    rw [← h_e_3]
    show own_E _ _ _ _ _ _ _ (T101.setTop (mkF m 115 #[.val (.long p0), .second, .val (.long p1), .second, .val (.long p2), .second, .val (.int p3), .val (.long n), .second, .val (.long s0), .second, .val (.long y0), .second, .val (.long e_0), .second, .val (.long e_1), .second, .val (.long e_2), .second, .unset, .unset, .unset, .unset, .unset, .unset, .unset, .unset, .unset, .unset, .unset] [(.long e_3)]))
    refine own_go (fun _ k => XT.lstore X101.here hx rfl (hb hby at_115) rfl (l' := #[.val (.long p0), .second, .val (.long p1), .second, .val (.long p2), .second, .val (.int p3), .val (.long n), .second, .val (.long s0), .second, .val (.long y0), .second, .val (.long e_0), .second, .val (.long e_1), .second, .val (.long e_2), .second, .val (.long e_3), .second, .unset, .unset, .unset, .unset, .unset, .unset, .unset, .unset, .unset]) rfl k) ?_
    show own_E _ _ _ _ _ _ _ (T101.setTop (mkF m 117 #[.val (.long p0), .second, .val (.long p1), .second, .val (.long p2), .second, .val (.int p3), .val (.long n), .second, .val (.long s0), .second, .val (.long y0), .second, .val (.long e_0), .second, .val (.long e_1), .second, .val (.long e_2), .second, .val (.long e_3), .second, .unset, .unset, .unset, .unset, .unset, .unset, .unset, .unset, .unset] []))
    obtain ⟨T102, h102, X102, e102, E102, A102, D102, -, st102⟩ := newO X101 hx hZ hown (hw _ (List.mem_of_getElem? (i := 9) rfl)) (hw _ (List.mem_of_getElem? (i := 10) rfl)) (hw _ (List.mem_of_getElem? (i := 11) rfl)) e101 (g := (mkF m 117 #[.val (.long p0), .second, .val (.long p1), .second, .val (.long p2), .second, .val (.int p3), .val (.long n), .second, .val (.long s0), .second, .val (.long y0), .second, .val (.long e_0), .second, .val (.long e_1), .second, .val (.long e_2), .second, .val (.long e_3), .second, .unset, .unset, .unset, .unset, .unset, .unset, .unset, .unset, .unset] [])) rfl (hb hby at_117) (by decide) (by decide)
    obtain ⟨aw, g102⟩ : ∃ z, z = h0.size := ⟨_, rfl⟩
    rw [← g102] at A102 D102 st102
    have w102 : n0 ≤ aw := by rw [g102]; exact Z0
    have f102_bitCount : Fld Z h102 aw "com/example/libmember/libmember/hash/WindowedPositions" "bitCount" "J" (.long (0 : Int64)) := D102 (Or.inr (hw _ (List.mem_of_getElem? (i := 40) rfl))) (ty := .long) (by decide +kernel)
    have f102_start : Fld Z h102 aw "com/example/libmember/libmember/hash/WindowedPositions" "start" "J" (.long (0 : Int64)) := D102 (Or.inr (hw _ (List.mem_of_getElem? (i := 47) rfl))) (ty := .long) (by decide +kernel)
    have f102_x : Fld Z h102 aw "com/example/libmember/libmember/hash/WindowedPositions" "x" "J" (.long (0 : Int64)) := D102 (Or.inl (hw _ (List.mem_of_getElem? (i := 54) rfl))) (ty := .long) (by decide +kernel)
    have f102_y : Fld Z h102 aw "com/example/libmember/libmember/hash/WindowedPositions" "y" "J" (.long (0 : Int64)) := D102 (Or.inl (hw _ (List.mem_of_getElem? (i := 56) rfl))) (ty := .long) (by decide +kernel)
    have f102_step : Fld Z h102 aw "com/example/libmember/libmember/hash/WindowedPositions" "step" "J" (.long (0 : Int64)) := D102 (Or.inl (hw _ (List.mem_of_getElem? (i := 64) rfl))) (ty := .long) (by decide +kernel)
    have O102 := O0.ext E102
    have Z102 := Nat.le_trans Z0 E102.1
    refine own_go st102 ?_
    show own_E _ _ _ _ _ _ _ (T102.setTop (mkF m 120 #[.val (.long p0), .second, .val (.long p1), .second, .val (.long p2), .second, .val (.int p3), .val (.long n), .second, .val (.long s0), .second, .val (.long y0), .second, .val (.long e_0), .second, .val (.long e_1), .second, .val (.long e_2), .second, .val (.long e_3), .second, .unset, .unset, .unset, .unset, .unset, .unset, .unset, .unset, .unset] [(.ref aw)]))
    refine own_go (fun _ k => XS.dup X102.here hx rfl (hb hby at_120) rfl rfl k) ?_
    show own_E _ _ _ _ _ _ _ (T102.setTop (mkF m 121 #[.val (.long p0), .second, .val (.long p1), .second, .val (.long p2), .second, .val (.int p3), .val (.long n), .second, .val (.long s0), .second, .val (.long y0), .second, .val (.long e_0), .second, .val (.long e_1), .second, .val (.long e_2), .second, .val (.long e_3), .second, .unset, .unset, .unset, .unset, .unset, .unset, .unset, .unset, .unset] [(.ref aw), (.ref aw)]))
    obtain ⟨T103, h103, X103, e103, E103, A103, D103, -, st103⟩ := newO X102 hx hZ hown (hw _ (List.mem_of_getElem? (i := 12) rfl)) (hw _ (List.mem_of_getElem? (i := 13) rfl)) (hw _ (List.mem_of_getElem? (i := 14) rfl)) e102 (g := (mkF m 121 #[.val (.long p0), .second, .val (.long p1), .second, .val (.long p2), .second, .val (.int p3), .val (.long n), .second, .val (.long s0), .second, .val (.long y0), .second, .val (.long e_0), .second, .val (.long e_1), .second, .val (.long e_2), .second, .val (.long e_3), .second, .unset, .unset, .unset, .unset, .unset, .unset, .unset, .unset, .unset] [(.ref aw), (.ref aw)])) rfl (hb hby at_121) (by decide) (by decide)
    obtain ⟨ah, g103⟩ : ∃ z, z = h102.size := ⟨_, rfl⟩
    rw [← g103] at A103 D103 st103
    have ne103_1 : aw ≠ ah := by rw [g103]; exact Nat.ne_of_lt f102_bitCount.lt
    have w103 : n0 ≤ ah := by rw [g103]; exact Z102
    have f103_h1 : Fld Z h103 ah "com/example/libmember/libmember/hash/Hash128" "h1" "J" (.long (0 : Int64)) := D103 (Or.inr (hw _ (List.mem_of_getElem? (i := 27) rfl))) (ty := .long) (by decide +kernel)
    have f103_h2 : Fld Z h103 ah "com/example/libmember/libmember/hash/Hash128" "h2" "J" (.long (0 : Int64)) := D103 (Or.inr (hw _ (List.mem_of_getElem? (i := 29) rfl))) (ty := .long) (by decide +kernel)
    have f103_1 := f102_bitCount.ext E103
    have f103_2 := f102_start.ext E103
    have f103_3 := f102_x.ext E103
    have f103_4 := f102_y.ext E103
    have f103_5 := f102_step.ext E103
    have f103_6 := A102.ext E103
    have O103 := O102.ext E103
    have Z103 := Nat.le_trans Z102 E103.1
    refine own_go st103 ?_
    show own_E _ _ _ _ _ _ _ (T103.setTop (mkF m 124 #[.val (.long p0), .second, .val (.long p1), .second, .val (.long p2), .second, .val (.int p3), .val (.long n), .second, .val (.long s0), .second, .val (.long y0), .second, .val (.long e_0), .second, .val (.long e_1), .second, .val (.long e_2), .second, .val (.long e_3), .second, .unset, .unset, .unset, .unset, .unset, .unset, .unset, .unset, .unset] [(.ref ah), (.ref aw), (.ref aw)]))
    refine own_go (fun _ k => XS.dup X103.here hx rfl (hb hby at_124) rfl rfl k) ?_
    show own_E _ _ _ _ _ _ _ (T103.setTop (mkF m 125 #[.val (.long p0), .second, .val (.long p1), .second, .val (.long p2), .second, .val (.int p3), .val (.long n), .second, .val (.long s0), .second, .val (.long y0), .second, .val (.long e_0), .second, .val (.long e_1), .second, .val (.long e_2), .second, .val (.long e_3), .second, .unset, .unset, .unset, .unset, .unset, .unset, .unset, .unset, .unset] [(.ref ah), (.ref ah), (.ref aw), (.ref aw)]))
    refine own_go (fun _ k => XT.lloadN X103.here hx rfl (hb hby at_125) rfl k) ?_
    show own_E _ _ _ _ _ _ _ (T103.setTop (mkF m 126 #[.val (.long p0), .second, .val (.long p1), .second, .val (.long p2), .second, .val (.int p3), .val (.long n), .second, .val (.long s0), .second, .val (.long y0), .second, .val (.long e_0), .second, .val (.long e_1), .second, .val (.long e_2), .second, .val (.long e_3), .second, .unset, .unset, .unset, .unset, .unset, .unset, .unset, .unset, .unset] [(.long p0), (.ref ah), (.ref ah), (.ref aw), (.ref aw)]))
    refine own_go (fun _ k => XT.lloadN X103.here hx rfl (hb hby at_126) rfl k) ?_
    show own_E _ _ _ _ _ _ _ (T103.setTop (mkF m 127 #[.val (.long p0), .second, .val (.long p1), .second, .val (.long p2), .second, .val (.int p3), .val (.long n), .second, .val (.long s0), .second, .val (.long y0), .second, .val (.long e_0), .second, .val (.long e_1), .second, .val (.long e_2), .second, .val (.long e_3), .second, .unset, .unset, .unset, .unset, .unset, .unset, .unset, .unset, .unset] [(.long p1), (.long p0), (.ref ah), (.ref ah), (.ref aw), (.ref aw)]))
    obtain ⟨v104, T104, L104, X104, hQ104, st104⟩ := own_callI X103 hx hZ (rm := ({ frames := 2, cells := 0, slots := 0, locals := 24 } : Room)) (W := 3) (b := ah) (argsL := [(.long p0), (.long p1)]) (rest := [(.ref ah), (.ref aw), (.ref aw)]) (y := (⟨"com/example/libmember/libmember/hash/Hash128", "<init>", "(JJ)V"⟩ : MethodName)) hown rfl (hw _ (List.mem_of_getElem? (i := 15) rfl)) (hw _ (List.mem_of_getElem? (i := 16) rfl)) (hw _ (List.mem_of_getElem? (i := 14) rfl)) (hw _ (List.mem_of_getElem? (i := 17) rfl)) (by decide) (rm2 l Z a0 hw ah p0 p1 h103 n0 Z103 A103 f103_h1 f103_h2 w103) e103 (by decide) (by decide) (by decide) (by decide) (g := (mkF m 127 #[.val (.long p0), .second, .val (.long p1), .second, .val (.long p2), .second, .val (.int p3), .val (.long n), .second, .val (.long s0), .second, .val (.long y0), .second, .val (.long e_0), .second, .val (.long e_1), .second, .val (.long e_2), .second, .val (.long e_3), .second, .unset, .unset, .unset, .unset, .unset, .unset, .unset, .unset, .unset] [(.long p1), (.long p0), (.ref ah), (.ref ah), (.ref aw), (.ref aw)])) rfl (by rw [hml]; rfl) (lenOf pd_3 rfl) rfl (Nat.le_of_ble_eq_true rfl) (hb hby at_127)
    obtain ⟨rfl, N104, K104, A104, F104, G104⟩ := hQ104
    refine own_go st104 ?_
    show own_E _ _ _ _ _ _ _ (T104.setTop (mkF m 130 #[.val (.long p0), .second, .val (.long p1), .second, .val (.long p2), .second, .val (.int p3), .val (.long n), .second, .val (.long s0), .second, .val (.long y0), .second, .val (.long e_0), .second, .val (.long e_1), .second, .val (.long e_2), .second, .val (.long e_3), .second, .unset, .unset, .unset, .unset, .unset, .unset, .unset, .unset, .unset] [(.ref ah), (.ref aw), (.ref aw)]))
    have M104 := Fr.app M101 N104
    have e104 : T104.heap = T104.heap := rfl
    have f104_1 := f103_1.keep K104 (ninS ne103_1 nin0)
    have f104_2 := f103_2.keep K104 (ninS ne103_1 nin0)
    have f104_3 := f103_3.keep K104 (ninS ne103_1 nin0)
    have f104_4 := f103_4.keep K104 (ninS ne103_1 nin0)
    have f104_5 := f103_5.keep K104 (ninS ne103_1 nin0)
    have f104_6 := f103_6.keep K104
    have f104_11 := A103.keep K104
    have O104 := O103.keep K104 (allS w103 all0)
    have Z104 := Nat.le_trans Z103 K104.1
    refine own_go (fun _ k => XT.lload X104.here hx rfl (hb hby at_130) rfl k) ?_
    show own_E _ _ _ _ _ _ _ (T104.setTop (mkF m 132 #[.val (.long p0), .second, .val (.long p1), .second, .val (.long p2), .second, .val (.int p3), .val (.long n), .second, .val (.long s0), .second, .val (.long y0), .second, .val (.long e_0), .second, .val (.long e_1), .second, .val (.long e_2), .second, .val (.long e_3), .second, .unset, .unset, .unset, .unset, .unset, .unset, .unset, .unset, .unset] [(.long n), (.ref ah), (.ref aw), (.ref aw)]))
    obtain ⟨v105, T105, L105, X105, hQ105, st105⟩ := own_callI X104 hx hZ (rm := ({ frames := 1, cells := 0, slots := 0, locals := 34 } : Room)) (W := 1) (b := aw) (argsL := [(.ref ah), (.long n)]) (rest := [(.ref aw)]) (y := (⟨"com/example/libmember/libmember/hash/WindowedPositions", "<init>", "(Lcom/example/libmember/libmember/hash/Hash128;J)V"⟩ : MethodName)) hown rfl (hw _ (List.mem_of_getElem? (i := 30) rfl)) (hw _ (List.mem_of_getElem? (i := 31) rfl)) (hw _ (List.mem_of_getElem? (i := 11) rfl)) (hw _ (List.mem_of_getElem? (i := 32) rfl)) (by decide) (rm5 l Z a0 hw aw ah p0 p1 n T104.heap n0 Z104 f104_6 f104_1 f104_2 f104_3 f104_4 f104_5 w102 f104_11 F104 G104 ne103_1.symm) e104 (by decide) (by decide) (by decide) (by decide) (g := (mkF m 132 #[.val (.long p0), .second, .val (.long p1), .second, .val (.long p2), .second, .val (.int p3), .val (.long n), .second, .val (.long s0), .second, .val (.long y0), .second, .val (.long e_0), .second, .val (.long e_1), .second, .val (.long e_2), .second, .val (.long e_3), .second, .unset, .unset, .unset, .unset, .unset, .unset, .unset, .unset, .unset] [(.long n), (.ref ah), (.ref aw), (.ref aw)])) rfl (by rw [hml]; rfl) (lenOf pd_4 rfl) rfl (Nat.le_of_ble_eq_true rfl) (hb hby at_132)
    obtain ⟨rfl, N105, K105, A105, F105_bitCount, F105_start, F105_x, F105_y, F105_step⟩ := hQ105
    refine own_go st105 ?_
    show own_E _ _ _ _ _ _ _ (T105.setTop (mkF m 135 #[.val (.long p0), .second, .val (.long p1), .second, .val (.long p2), .second, .val (.int p3), .val (.long n), .second, .val (.long s0), .second, .val (.long y0), .second, .val (.long e_0), .second, .val (.long e_1), .second, .val (.long e_2), .second, .val (.long e_3), .second, .unset, .unset, .unset, .unset, .unset, .unset, .unset, .unset, .unset] [(.ref aw)]))
    have M105 := Fr.app M104 N105
    have e105 : T105.heap = T105.heap := rfl
    have f105_6 := f104_6.keep K105
    have f105_9 := f104_11.keep K105
    have f105_10 := F104.keep K105 (ninS ne103_1.symm nin0)
    have f105_11 := G104.keep K105 (ninS ne103_1.symm nin0)
    have O105 := O104.keep K105 (allS w102 all0)
    have Z105 := Nat.le_trans Z104 K105.1
    rw [hst] at F105_start
    rw [← h_y0] at F105_y
    refine own_go (fun _ k => XS.astore X105.here hx rfl (hb hby at_135) rfl rfl (l' := #[.val (.long p0), .second, .val (.long p1), .second, .val (.long p2), .second, .val (.int p3), .val (.long n), .second, .val (.long s0), .second, .val (.long y0), .second, .val (.long e_0), .second, .val (.long e_1), .second, .val (.long e_2), .second, .val (.long e_3), .second, .val (.ref aw), .unset, .unset, .unset, .unset, .unset, .unset, .unset, .unset]) rfl k) ?_
    show own_E _ _ _ _ _ _ _ (T105.setTop (mkF m 137 #[.val (.long p0), .second, .val (.long p1), .second, .val (.long p2), .second, .val (.int p3), .val (.long n), .second, .val (.long s0), .second, .val (.long y0), .second, .val (.long e_0), .second, .val (.long e_1), .second, .val (.long e_2), .second, .val (.long e_3), .second, .val (.ref aw), .unset, .unset, .unset, .unset, .unset, .unset, .unset, .unset] []))
    refine own_go (fun _ k => XS.aload X105.here hx rfl (hb hby at_137) rfl rfl k) ?_
    show own_E _ _ _ _ _ _ _ (T105.setTop (mkF m 139 #[.val (.long p0), .second, .val (.long p1), .second, .val (.long p2), .second, .val (.int p3), .val (.long n), .second, .val (.long s0), .second, .val (.long y0), .second, .val (.long e_0), .second, .val (.long e_1), .second, .val (.long e_2), .second, .val (.long e_3), .second, .val (.ref aw), .unset, .unset, .unset, .unset, .unset, .unset, .unset, .unset] [(.ref aw)]))
    obtain ⟨v106, T106, L106, X106, hQ106, st106⟩ := own_callV X105 hx hZ (rm := ({ frames := 0, cells := 0, slots := 0, locals := 0 } : Room)) (W := 0) (b := aw) (argsL := []) (rest := []) (y := (⟨"com/example/libmember/libmember/hash/WindowedPositions", "next", "()J"⟩ : MethodName)) hown (hw _ (List.mem_of_getElem? (i := 57) rfl)) (hw _ (List.mem_of_getElem? (i := 58) rfl)) (hw _ (List.mem_of_getElem? (i := 60) rfl)) (hw _ (List.mem_of_getElem? (i := 59) rfl)) (hw _ (List.mem_of_getElem? (i := 61) rfl)) (hw _ (List.mem_of_getElem? (i := 11) rfl)) (by decide) (rm9 l Z a0 hw aw n s0 p1 y0 0 T105.heap n0 Z105 hn0 f105_6 F105_bitCount F105_start F105_x F105_y F105_step w102) e105 f105_6 (by decide) (by decide) (by decide) (by decide) (g := (mkF m 139 #[.val (.long p0), .second, .val (.long p1), .second, .val (.long p2), .second, .val (.int p3), .val (.long n), .second, .val (.long s0), .second, .val (.long y0), .second, .val (.long e_0), .second, .val (.long e_1), .second, .val (.long e_2), .second, .val (.long e_3), .second, .val (.ref aw), .unset, .unset, .unset, .unset, .unset, .unset, .unset, .unset] [(.ref aw)])) rfl (by rw [hml]; rfl) (lenOf pd_1 rfl) rfl (Nat.le_of_ble_eq_true rfl) (hb hby at_139)
    obtain ⟨rfl, N106, K106, A106, F106_bitCount, F106_start, F106_x, F106_y, F106_step⟩ := hQ106
    refine own_go st106 ?_
    rw [own_eq0 hsb hn1 hn2 (x := p1) (y := y0), ← h_e_0]
    show own_E _ _ _ _ _ _ _ (T106.setTop (mkF m 142 #[.val (.long p0), .second, .val (.long p1), .second, .val (.long p2), .second, .val (.int p3), .val (.long n), .second, .val (.long s0), .second, .val (.long y0), .second, .val (.long e_0), .second, .val (.long e_1), .second, .val (.long e_2), .second, .val (.long e_3), .second, .val (.ref aw), .unset, .unset, .unset, .unset, .unset, .unset, .unset, .unset] [(.long e_0)]))
    have M106 := Fr.app M105 N106
    have e106 : T106.heap = T106.heap := rfl
    have f106_1 := f105_6.keep K106
    have O106 := O105.keep K106 (allS w102 all0)
    have Z106 := Nat.le_trans Z105 K106.1
    refine own_go (fun _ k => XT.lstore X106.here hx rfl (hb hby at_142) rfl (l' := #[.val (.long p0), .second, .val (.long p1), .second, .val (.long p2), .second, .val (.int p3), .val (.long n), .second, .val (.long s0), .second, .val (.long y0), .second, .val (.long e_0), .second, .val (.long e_1), .second, .val (.long e_2), .second, .val (.long e_3), .second, .val (.ref aw), .val (.long e_0), .second, .unset, .unset, .unset, .unset, .unset, .unset]) rfl k) ?_
    show own_E _ _ _ _ _ _ _ (T106.setTop (mkF m 144 #[.val (.long p0), .second, .val (.long p1), .second, .val (.long p2), .second, .val (.int p3), .val (.long n), .second, .val (.long s0), .second, .val (.long y0), .second, .val (.long e_0), .second, .val (.long e_1), .second, .val (.long e_2), .second, .val (.long e_3), .second, .val (.ref aw), .val (.long e_0), .second, .unset, .unset, .unset, .unset, .unset, .unset] []))
    refine own_go (fun _ k => XS.aload X106.here hx rfl (hb hby at_144) rfl rfl k) ?_
    show own_E _ _ _ _ _ _ _ (T106.setTop (mkF m 146 #[.val (.long p0), .second, .val (.long p1), .second, .val (.long p2), .second, .val (.int p3), .val (.long n), .second, .val (.long s0), .second, .val (.long y0), .second, .val (.long e_0), .second, .val (.long e_1), .second, .val (.long e_2), .second, .val (.long e_3), .second, .val (.ref aw), .val (.long e_0), .second, .unset, .unset, .unset, .unset, .unset, .unset] [(.ref aw)]))
    obtain ⟨v107, T107, L107, X107, hQ107, st107⟩ := own_callV X106 hx hZ (rm := ({ frames := 0, cells := 0, slots := 0, locals := 0 } : Room)) (W := 0) (b := aw) (argsL := []) (rest := []) (y := (⟨"com/example/libmember/libmember/hash/WindowedPositions", "next", "()J"⟩ : MethodName)) hown (hw _ (List.mem_of_getElem? (i := 57) rfl)) (hw _ (List.mem_of_getElem? (i := 58) rfl)) (hw _ (List.mem_of_getElem? (i := 60) rfl)) (hw _ (List.mem_of_getElem? (i := 59) rfl)) (hw _ (List.mem_of_getElem? (i := 61) rfl)) (hw _ (List.mem_of_getElem? (i := 11) rfl)) (by decide) (rm9 l Z a0 hw aw n s0 (p1 + y0) (y0 + 0) (0 + 1) T106.heap n0 Z106 hn0 f106_1 F106_bitCount F106_start F106_x F106_y F106_step w102) e106 f106_1 (by decide) (by decide) (by decide) (by decide) (g := (mkF m 146 #[.val (.long p0), .second, .val (.long p1), .second, .val (.long p2), .second, .val (.int p3), .val (.long n), .second, .val (.long s0), .second, .val (.long y0), .second, .val (.long e_0), .second, .val (.long e_1), .second, .val (.long e_2), .second, .val (.long e_3), .second, .val (.ref aw), .val (.long e_0), .second, .unset, .unset, .unset, .unset, .unset, .unset] [(.ref aw)])) rfl (by rw [hml]; rfl) (lenOf pd_1 rfl) rfl (Nat.le_of_ble_eq_true rfl) (hb hby at_146)
    obtain ⟨rfl, N107, K107, A107, F107_bitCount, F107_start, F107_x, F107_y, F107_step⟩ := hQ107
    refine own_go st107 ?_
    rw [own_eq1 hsb hn1 hn2 (x := p1) (y := y0), ← h_e_1]
    show own_E _ _ _ _ _ _ _ (T107.setTop (mkF m 149 #[.val (.long p0), .second, .val (.long p1), .second, .val (.long p2), .second, .val (.int p3), .val (.long n), .second, .val (.long s0), .second, .val (.long y0), .second, .val (.long e_0), .second, .val (.long e_1), .second, .val (.long e_2), .second, .val (.long e_3), .second, .val (.ref aw), .val (.long e_0), .second, .unset, .unset, .unset, .unset, .unset, .unset] [(.long e_1)]))
    have M107 := Fr.app M106 N107
    have e107 : T107.heap = T107.heap := rfl
    have f107_1 := f106_1.keep K107
    have O107 := O106.keep K107 (allS w102 all0)
    have Z107 := Nat.le_trans Z106 K107.1
    refine own_go (fun _ k => XT.lstore X107.here hx rfl (hb hby at_149) rfl (l' := #[.val (.long p0), .second, .val (.long p1), .second, .val (.long p2), .second, .val (.int p3), .val (.long n), .second, .val (.long s0), .second, .val (.long y0), .second, .val (.long e_0), .second, .val (.long e_1), .second, .val (.long e_2), .second, .val (.long e_3), .second, .val (.ref aw), .val (.long e_0), .second, .val (.long e_1), .second, .unset, .unset, .unset, .unset]) rfl k) ?_
    show own_E _ _ _ _ _ _ _ (T107.setTop (mkF m 151 #[.val (.long p0), .second, .val (.long p1), .second, .val (.long p2), .second, .val (.int p3), .val (.long n), .second, .val (.long s0), .second, .val (.long y0), .second, .val (.long e_0), .second, .val (.long e_1), .second, .val (.long e_2), .second, .val (.long e_3), .second, .val (.ref aw), .val (.long e_0), .second, .val (.long e_1), .second, .unset, .unset, .unset, .unset] []))
    refine own_go (fun _ k => XS.aload X107.here hx rfl (hb hby at_151) rfl rfl k) ?_
    show own_E _ _ _ _ _ _ _ (T107.setTop (mkF m 153 #[.val (.long p0), .second, .val (.long p1), .second, .val (.long p2), .second, .val (.int p3), .val (.long n), .second, .val (.long s0), .second, .val (.long y0), .second, .val (.long e_0), .second, .val (.long e_1), .second, .val (.long e_2), .second, .val (.long e_3), .second, .val (.ref aw), .val (.long e_0), .second, .val (.long e_1), .second, .unset, .unset, .unset, .unset] [(.ref aw)]))
    obtain ⟨v108, T108, L108, X108, hQ108, st108⟩ := own_callV X107 hx hZ (rm := ({ frames := 0, cells := 0, slots := 0, locals := 0 } : Room)) (W := 0) (b := aw) (argsL := []) (rest := []) (y := (⟨"com/example/libmember/libmember/hash/WindowedPositions", "next", "()J"⟩ : MethodName)) hown (hw _ (List.mem_of_getElem? (i := 57) rfl)) (hw _ (List.mem_of_getElem? (i := 58) rfl)) (hw _ (List.mem_of_getElem? (i := 60) rfl)) (hw _ (List.mem_of_getElem? (i := 59) rfl)) (hw _ (List.mem_of_getElem? (i := 61) rfl)) (hw _ (List.mem_of_getElem? (i := 11) rfl)) (by decide) (rm9 l Z a0 hw aw n s0 (p1 + y0 + (y0 + 0)) (y0 + 0 + (0 + 1)) (0 + 1 + 1) T107.heap n0 Z107 hn0 f107_1 F107_bitCount F107_start F107_x F107_y F107_step w102) e107 f107_1 (by decide) (by decide) (by decide) (by decide) (g := (mkF m 153 #[.val (.long p0), .second, .val (.long p1), .second, .val (.long p2), .second, .val (.int p3), .val (.long n), .second, .val (.long s0), .second, .val (.long y0), .second, .val (.long e_0), .second, .val (.long e_1), .second, .val (.long e_2), .second, .val (.long e_3), .second, .val (.ref aw), .val (.long e_0), .second, .val (.long e_1), .second, .unset, .unset, .unset, .unset] [(.ref aw)])) rfl (by rw [hml]; rfl) (lenOf pd_1 rfl) rfl (Nat.le_of_ble_eq_true rfl) (hb hby at_153)
    obtain ⟨rfl, N108, K108, A108, F108_bitCount, F108_start, F108_x, F108_y, F108_step⟩ := hQ108
    refine own_go st108 ?_
    rw [own_eq2 hsb hn1 hn2 (x := p1) (y := y0), ← h_e_2]
    show own_E _ _ _ _ _ _ _ (T108.setTop (mkF m 156 #[.val (.long p0), .second, .val (.long p1), .second, .val (.long p2), .second, .val (.int p3), .val (.long n), .second, .val (.long s0), .second, .val (.long y0), .second, .val (.long e_0), .second, .val (.long e_1), .second, .val (.long e_2), .second, .val (.long e_3), .second, .val (.ref aw), .val (.long e_0), .second, .val (.long e_1), .second, .unset, .unset, .unset, .unset] [(.long e_2)]))
    have M108 := Fr.app M107 N108
    have e108 : T108.heap = T108.heap := rfl
    have f108_1 := f107_1.keep K108
    have O108 := O107.keep K108 (allS w102 all0)
    have Z108 := Nat.le_trans Z107 K108.1
    refine own_go (fun _ k => XT.lstore X108.here hx rfl (hb hby at_156) rfl (l' := #[.val (.long p0), .second, .val (.long p1), .second, .val (.long p2), .second, .val (.int p3), .val (.long n), .second, .val (.long s0), .second, .val (.long y0), .second, .val (.long e_0), .second, .val (.long e_1), .second, .val (.long e_2), .second, .val (.long e_3), .second, .val (.ref aw), .val (.long e_0), .second, .val (.long e_1), .second, .val (.long e_2), .second, .unset, .unset]) rfl k) ?_
    show own_E _ _ _ _ _ _ _ (T108.setTop (mkF m 158 #[.val (.long p0), .second, .val (.long p1), .second, .val (.long p2), .second, .val (.int p3), .val (.long n), .second, .val (.long s0), .second, .val (.long y0), .second, .val (.long e_0), .second, .val (.long e_1), .second, .val (.long e_2), .second, .val (.long e_3), .second, .val (.ref aw), .val (.long e_0), .second, .val (.long e_1), .second, .val (.long e_2), .second, .unset, .unset] []))
    refine own_go (fun _ k => XS.aload X108.here hx rfl (hb hby at_158) rfl rfl k) ?_
    show own_E _ _ _ _ _ _ _ (T108.setTop (mkF m 160 #[.val (.long p0), .second, .val (.long p1), .second, .val (.long p2), .second, .val (.int p3), .val (.long n), .second, .val (.long s0), .second, .val (.long y0), .second, .val (.long e_0), .second, .val (.long e_1), .second, .val (.long e_2), .second, .val (.long e_3), .second, .val (.ref aw), .val (.long e_0), .second, .val (.long e_1), .second, .val (.long e_2), .second, .unset, .unset] [(.ref aw)]))
    obtain ⟨v109, T109, L109, X109, hQ109, st109⟩ := own_callV X108 hx hZ (rm := ({ frames := 0, cells := 0, slots := 0, locals := 0 } : Room)) (W := 0) (b := aw) (argsL := []) (rest := []) (y := (⟨"com/example/libmember/libmember/hash/WindowedPositions", "next", "()J"⟩ : MethodName)) hown (hw _ (List.mem_of_getElem? (i := 57) rfl)) (hw _ (List.mem_of_getElem? (i := 58) rfl)) (hw _ (List.mem_of_getElem? (i := 60) rfl)) (hw _ (List.mem_of_getElem? (i := 59) rfl)) (hw _ (List.mem_of_getElem? (i := 61) rfl)) (hw _ (List.mem_of_getElem? (i := 11) rfl)) (by decide) (rm9 l Z a0 hw aw n s0 (p1 + y0 + (y0 + 0) + (y0 + 0 + (0 + 1))) (y0 + 0 + (0 + 1) + (0 + 1 + 1)) (0 + 1 + 1 + 1) T108.heap n0 Z108 hn0 f108_1 F108_bitCount F108_start F108_x F108_y F108_step w102) e108 f108_1 (by decide) (by decide) (by decide) (by decide) (g := (mkF m 160 #[.val (.long p0), .second, .val (.long p1), .second, .val (.long p2), .second, .val (.int p3), .val (.long n), .second, .val (.long s0), .second, .val (.long y0), .second, .val (.long e_0), .second, .val (.long e_1), .second, .val (.long e_2), .second, .val (.long e_3), .second, .val (.ref aw), .val (.long e_0), .second, .val (.long e_1), .second, .val (.long e_2), .second, .unset, .unset] [(.ref aw)])) rfl (by rw [hml]; rfl) (lenOf pd_1 rfl) rfl (Nat.le_of_ble_eq_true rfl) (hb hby at_160)
    obtain ⟨rfl, N109, K109, A109, F109_bitCount, F109_start, F109_x, F109_y, F109_step⟩ := hQ109
    refine own_go st109 ?_
    rw [own_eq3 hsb hn1 hn2 (x := p1) (y := y0), ← h_e_3]
    show own_E _ _ _ _ _ _ _ (T109.setTop (mkF m 163 #[.val (.long p0), .second, .val (.long p1), .second, .val (.long p2), .second, .val (.int p3), .val (.long n), .second, .val (.long s0), .second, .val (.long y0), .second, .val (.long e_0), .second, .val (.long e_1), .second, .val (.long e_2), .second, .val (.long e_3), .second, .val (.ref aw), .val (.long e_0), .second, .val (.long e_1), .second, .val (.long e_2), .second, .unset, .unset] [(.long e_3)]))
    have M109 := Fr.app M108 N109
    have e109 : T109.heap = T109.heap := rfl
    have f109_1 := f108_1.keep K109
    have O109 := O108.keep K109 (allS w102 all0)
    have Z109 := Nat.le_trans Z108 K109.1
    refine own_go (fun _ k => XT.lstore X109.here hx rfl (hb hby at_163) rfl (l' := #[.val (.long p0), .second, .val (.long p1), .second, .val (.long p2), .second, .val (.int p3), .val (.long n), .second, .val (.long s0), .second, .val (.long y0), .second, .val (.long e_0), .second, .val (.long e_1), .second, .val (.long e_2), .second, .val (.long e_3), .second, .val (.ref aw), .val (.long e_0), .second, .val (.long e_1), .second, .val (.long e_2), .second, .val (.long e_3), .second]) rfl k) ?_
    show own_E _ _ _ _ _ _ _ (T109.setTop (mkF m 165 #[.val (.long p0), .second, .val (.long p1), .second, .val (.long p2), .second, .val (.int p3), .val (.long n), .second, .val (.long s0), .second, .val (.long y0), .second, .val (.long e_0), .second, .val (.long e_1), .second, .val (.long e_2), .second, .val (.long e_3), .second, .val (.ref aw), .val (.long e_0), .second, .val (.long e_1), .second, .val (.long e_2), .second, .val (.long e_3), .second] []))
    refine own_go (fun _ k => XT.lload X109.here hx rfl (hb hby at_165) rfl k) ?_
    show own_E _ _ _ _ _ _ _ (T109.setTop (mkF m 167 #[.val (.long p0), .second, .val (.long p1), .second, .val (.long p2), .second, .val (.int p3), .val (.long n), .second, .val (.long s0), .second, .val (.long y0), .second, .val (.long e_0), .second, .val (.long e_1), .second, .val (.long e_2), .second, .val (.long e_3), .second, .val (.ref aw), .val (.long e_0), .second, .val (.long e_1), .second, .val (.long e_2), .second, .val (.long e_3), .second] [(.long e_0)]))
    refine own_go (fun _ k => XT.lload X109.here hx rfl (hb hby at_167) rfl k) ?_
    show own_E _ _ _ _ _ _ _ (T109.setTop (mkF m 169 #[.val (.long p0), .second, .val (.long p1), .second, .val (.long p2), .second, .val (.int p3), .val (.long n), .second, .val (.long s0), .second, .val (.long y0), .second, .val (.long e_0), .second, .val (.long e_1), .second, .val (.long e_2), .second, .val (.long e_3), .second, .val (.ref aw), .val (.long e_0), .second, .val (.long e_1), .second, .val (.long e_2), .second, .val (.long e_3), .second] [(.long e_0), (.long e_0)]))
    refine own_go (fun _ k => XT.lcmp X109.here hx rfl (hb hby at_169) rfl k) ?_
    show own_E _ _ _ _ _ _ _ (T109.setTop (mkF m 170 #[.val (.long p0), .second, .val (.long p1), .second, .val (.long p2), .second, .val (.int p3), .val (.long n), .second, .val (.long s0), .second, .val (.long y0), .second, .val (.long e_0), .second, .val (.long e_1), .second, .val (.long e_2), .second, .val (.long e_3), .second, .val (.ref aw), .val (.long e_0), .second, .val (.long e_1), .second, .val (.long e_2), .second, .val (.long e_3), .second] [(.int (XT.cmpL e_0 e_0))]))
    refine own_go (fun _ k => XS.ifNo X109.here hx rfl (hb hby at_170) rfl (XT.ll_ne_f rfl) k) ?_
    show own_E _ _ _ _ _ _ _ (T109.setTop (mkF m 173 #[.val (.long p0), .second, .val (.long p1), .second, .val (.long p2), .second, .val (.int p3), .val (.long n), .second, .val (.long s0), .second, .val (.long y0), .second, .val (.long e_0), .second, .val (.long e_1), .second, .val (.long e_2), .second, .val (.long e_3), .second, .val (.ref aw), .val (.long e_0), .second, .val (.long e_1), .second, .val (.long e_2), .second, .val (.long e_3), .second] []))
    refine own_go (fun _ k => XT.lload X109.here hx rfl (hb hby at_173) rfl k) ?_
    show own_E _ _ _ _ _ _ _ (T109.setTop (mkF m 175 #[.val (.long p0), .second, .val (.long p1), .second, .val (.long p2), .second, .val (.int p3), .val (.long n), .second, .val (.long s0), .second, .val (.long y0), .second, .val (.long e_0), .second, .val (.long e_1), .second, .val (.long e_2), .second, .val (.long e_3), .second, .val (.ref aw), .val (.long e_0), .second, .val (.long e_1), .second, .val (.long e_2), .second, .val (.long e_3), .second] [(.long e_1)]))
    refine own_go (fun _ k => XT.lload X109.here hx rfl (hb hby at_175) rfl k) ?_
    show own_E _ _ _ _ _ _ _ (T109.setTop (mkF m 177 #[.val (.long p0), .second, .val (.long p1), .second, .val (.long p2), .second, .val (.int p3), .val (.long n), .second, .val (.long s0), .second, .val (.long y0), .second, .val (.long e_0), .second, .val (.long e_1), .second, .val (.long e_2), .second, .val (.long e_3), .second, .val (.ref aw), .val (.long e_0), .second, .val (.long e_1), .second, .val (.long e_2), .second, .val (.long e_3), .second] [(.long e_1), (.long e_1)]))
    refine own_go (fun _ k => XT.lcmp X109.here hx rfl (hb hby at_177) rfl k) ?_
    show own_E _ _ _ _ _ _ _ (T109.setTop (mkF m 178 #[.val (.long p0), .second, .val (.long p1), .second, .val (.long p2), .second, .val (.int p3), .val (.long n), .second, .val (.long s0), .second, .val (.long y0), .second, .val (.long e_0), .second, .val (.long e_1), .second, .val (.long e_2), .second, .val (.long e_3), .second, .val (.ref aw), .val (.long e_0), .second, .val (.long e_1), .second, .val (.long e_2), .second, .val (.long e_3), .second] [(.int (XT.cmpL e_1 e_1))]))
    refine own_go (fun _ k => XS.ifNo X109.here hx rfl (hb hby at_178) rfl (XT.ll_ne_f rfl) k) ?_
    show own_E _ _ _ _ _ _ _ (T109.setTop (mkF m 181 #[.val (.long p0), .second, .val (.long p1), .second, .val (.long p2), .second, .val (.int p3), .val (.long n), .second, .val (.long s0), .second, .val (.long y0), .second, .val (.long e_0), .second, .val (.long e_1), .second, .val (.long e_2), .second, .val (.long e_3), .second, .val (.ref aw), .val (.long e_0), .second, .val (.long e_1), .second, .val (.long e_2), .second, .val (.long e_3), .second] []))
    refine own_go (fun _ k => XT.lload X109.here hx rfl (hb hby at_181) rfl k) ?_
    show own_E _ _ _ _ _ _ _ (T109.setTop (mkF m 183 #[.val (.long p0), .second, .val (.long p1), .second, .val (.long p2), .second, .val (.int p3), .val (.long n), .second, .val (.long s0), .second, .val (.long y0), .second, .val (.long e_0), .second, .val (.long e_1), .second, .val (.long e_2), .second, .val (.long e_3), .second, .val (.ref aw), .val (.long e_0), .second, .val (.long e_1), .second, .val (.long e_2), .second, .val (.long e_3), .second] [(.long e_2)]))
    refine own_go (fun _ k => XT.lload X109.here hx rfl (hb hby at_183) rfl k) ?_
    show own_E _ _ _ _ _ _ _ (T109.setTop (mkF m 185 #[.val (.long p0), .second, .val (.long p1), .second, .val (.long p2), .second, .val (.int p3), .val (.long n), .second, .val (.long s0), .second, .val (.long y0), .second, .val (.long e_0), .second, .val (.long e_1), .second, .val (.long e_2), .second, .val (.long e_3), .second, .val (.ref aw), .val (.long e_0), .second, .val (.long e_1), .second, .val (.long e_2), .second, .val (.long e_3), .second] [(.long e_2), (.long e_2)]))
    refine own_go (fun _ k => XT.lcmp X109.here hx rfl (hb hby at_185) rfl k) ?_
    show own_E _ _ _ _ _ _ _ (T109.setTop (mkF m 186 #[.val (.long p0), .second, .val (.long p1), .second, .val (.long p2), .second, .val (.int p3), .val (.long n), .second, .val (.long s0), .second, .val (.long y0), .second, .val (.long e_0), .second, .val (.long e_1), .second, .val (.long e_2), .second, .val (.long e_3), .second, .val (.ref aw), .val (.long e_0), .second, .val (.long e_1), .second, .val (.long e_2), .second, .val (.long e_3), .second] [(.int (XT.cmpL e_2 e_2))]))
    refine own_go (fun _ k => XS.ifNo X109.here hx rfl (hb hby at_186) rfl (XT.ll_ne_f rfl) k) ?_
    show own_E _ _ _ _ _ _ _ (T109.setTop (mkF m 189 #[.val (.long p0), .second, .val (.long p1), .second, .val (.long p2), .second, .val (.int p3), .val (.long n), .second, .val (.long s0), .second, .val (.long y0), .second, .val (.long e_0), .second, .val (.long e_1), .second, .val (.long e_2), .second, .val (.long e_3), .second, .val (.ref aw), .val (.long e_0), .second, .val (.long e_1), .second, .val (.long e_2), .second, .val (.long e_3), .second] []))
    refine own_go (fun _ k => XT.lload X109.here hx rfl (hb hby at_189) rfl k) ?_
    show own_E _ _ _ _ _ _ _ (T109.setTop (mkF m 191 #[.val (.long p0), .second, .val (.long p1), .second, .val (.long p2), .second, .val (.int p3), .val (.long n), .second, .val (.long s0), .second, .val (.long y0), .second, .val (.long e_0), .second, .val (.long e_1), .second, .val (.long e_2), .second, .val (.long e_3), .second, .val (.ref aw), .val (.long e_0), .second, .val (.long e_1), .second, .val (.long e_2), .second, .val (.long e_3), .second] [(.long e_3)]))
    refine own_go (fun _ k => XT.lload X109.here hx rfl (hb hby at_191) rfl k) ?_
    show own_E _ _ _ _ _ _ _ (T109.setTop (mkF m 193 #[.val (.long p0), .second, .val (.long p1), .second, .val (.long p2), .second, .val (.int p3), .val (.long n), .second, .val (.long s0), .second, .val (.long y0), .second, .val (.long e_0), .second, .val (.long e_1), .second, .val (.long e_2), .second, .val (.long e_3), .second, .val (.ref aw), .val (.long e_0), .second, .val (.long e_1), .second, .val (.long e_2), .second, .val (.long e_3), .second] [(.long e_3), (.long e_3)]))
    refine own_go (fun _ k => XT.lcmp X109.here hx rfl (hb hby at_193) rfl k) ?_
    show own_E _ _ _ _ _ _ _ (T109.setTop (mkF m 194 #[.val (.long p0), .second, .val (.long p1), .second, .val (.long p2), .second, .val (.int p3), .val (.long n), .second, .val (.long s0), .second, .val (.long y0), .second, .val (.long e_0), .second, .val (.long e_1), .second, .val (.long e_2), .second, .val (.long e_3), .second, .val (.ref aw), .val (.long e_0), .second, .val (.long e_1), .second, .val (.long e_2), .second, .val (.long e_3), .second] [(.int (XT.cmpL e_3 e_3))]))
    refine own_go (fun _ k => XS.ifNo X109.here hx rfl (hb hby at_194) rfl (XT.ll_ne_f rfl) k) ?_
    show own_E _ _ _ _ _ _ _ (T109.setTop (mkF m 197 #[.val (.long p0), .second, .val (.long p1), .second, .val (.long p2), .second, .val (.int p3), .val (.long n), .second, .val (.long s0), .second, .val (.long y0), .second, .val (.long e_0), .second, .val (.long e_1), .second, .val (.long e_2), .second, .val (.long e_3), .second, .val (.ref aw), .val (.long e_0), .second, .val (.long e_1), .second, .val (.long e_2), .second, .val (.long e_3), .second] []))
    refine own_go (fun _ k => XT.iconstV X109.here hx rfl (1 : Int32) (hb hby at_197) (by decide) k) ?_
    show own_E _ _ _ _ _ _ _ (T109.setTop (mkF m 198 #[.val (.long p0), .second, .val (.long p1), .second, .val (.long p2), .second, .val (.int p3), .val (.long n), .second, .val (.long s0), .second, .val (.long y0), .second, .val (.long e_0), .second, .val (.long e_1), .second, .val (.long e_2), .second, .val (.long e_3), .second, .val (.ref aw), .val (.long e_0), .second, .val (.long e_1), .second, .val (.long e_2), .second, .val (.long e_3), .second] [(.int (1 : Int32))]))
    refine own_go (fun _ k => XS.goto X109.here hx rfl (pc0 := 198) (pc' := 202) rfl (hb hby at_198) (by decide) (by decide) k) ?_
    show own_E _ _ _ _ _ _ _ (T109.setTop (mkF m 202 #[.val (.long p0), .second, .val (.long p1), .second, .val (.long p2), .second, .val (.int p3), .val (.long n), .second, .val (.long s0), .second, .val (.long y0), .second, .val (.long e_0), .second, .val (.long e_1), .second, .val (.long e_2), .second, .val (.long e_3), .second, .val (.ref aw), .val (.long e_0), .second, .val (.long e_1), .second, .val (.long e_2), .second, .val (.long e_3), .second] [(.int (1 : Int32))]))
    exact own_ret X109 hx Bd.returns Bd.notSynchronized rfl (Or.inl ⟨rfl, by simp, _, rfl⟩) (hb hby at_202) (by rw [e109]; exact ⟨rfl, M109⟩) (by decide) (by decide)
  refine own_go (fun _ k => XS.iload X0.here hx rfl (hb hby at_0) rfl k) ?_
  show own_E _ _ _ _ _ _ _ (s₁.setTop (mkF m 2 #[.val (.long p0), .second, .val (.long p1), .second, .val (.long p2), .second, .val (.int p3), .unset, .unset, .unset, .unset, .unset, .unset, .unset, .unset, .unset, .unset, .unset, .unset, .unset, .unset, .unset, .unset, .unset, .unset, .unset, .unset, .unset, .unset, .unset] [(.int p3)]))
  refine own_go (fun _ k => XT.iconstV X0.here hx rfl (1 : Int32) (hb hby at_2) (by decide) k) ?_
  show own_E _ _ _ _ _ _ _ (s₁.setTop (mkF m 3 #[.val (.long p0), .second, .val (.long p1), .second, .val (.long p2), .second, .val (.int p3), .unset, .unset, .unset, .unset, .unset, .unset, .unset, .unset, .unset, .unset, .unset, .unset, .unset, .unset, .unset, .unset, .unset, .unset, .unset, .unset, .unset, .unset, .unset] [(.int (1 : Int32)), (.int p3)]))
  refine own_go (fun _ k => XS.iand X0.here hx rfl (hb hby at_3) rfl k) ?_
  show own_E _ _ _ _ _ _ _ (s₁.setTop (mkF m 4 #[.val (.long p0), .second, .val (.long p1), .second, .val (.long p2), .second, .val (.int p3), .unset, .unset, .unset, .unset, .unset, .unset, .unset, .unset, .unset, .unset, .unset, .unset, .unset, .unset, .unset, .unset, .unset, .unset, .unset, .unset, .unset, .unset, .unset] [(.int (p3 &&& (1 : Int32)))]))
  by_cases s1 : (p3 &&& (1 : Int32)) = 0
  ·
    refine own_go (fun _ k => XS.ifYes X0.here hx rfl (pc0 := 4) (pc' := 20) rfl (hb hby at_4) rfl (XT.i0_eq_t s1) (by decide) (by decide) k) ?_
    show own_E _ _ _ _ _ _ _ (s₁.setTop (mkF m 20 #[.val (.long p0), .second, .val (.long p1), .second, .val (.long p2), .second, .val (.int p3), .unset, .unset, .unset, .unset, .unset, .unset, .unset, .unset, .unset, .unset, .unset, .unset, .unset, .unset, .unset, .unset, .unset, .unset, .unset, .unset, .unset, .unset, .unset] []))
    refine own_go (fun _ k => XT.lload X0.here hx rfl (hb hby at_20) rfl k) ?_
    show own_E _ _ _ _ _ _ _ (s₁.setTop (mkF m 22 #[.val (.long p0), .second, .val (.long p1), .second, .val (.long p2), .second, .val (.int p3), .unset, .unset, .unset, .unset, .unset, .unset, .unset, .unset, .unset, .unset, .unset, .unset, .unset, .unset, .unset, .unset, .unset, .unset, .unset, .unset, .unset, .unset, .unset] [(.long p2)]))
    refine own_go (fun _ k => X0.ldc2J hx hown (mvT hZ (hw _ (List.mem_of_getElem? (i := 0) rfl))) rfl (hb hby at_22) k) ?_
    show own_E _ _ _ _ _ _ _ (s₁.setTop (mkF m 25 #[.val (.long p0), .second, .val (.long p1), .second, .val (.long p2), .second, .val (.int p3), .unset, .unset, .unset, .unset, .unset, .unset, .unset, .unset, .unset, .unset, .unset, .unset, .unset, .unset, .unset, .unset, .unset, .unset, .unset, .unset, .unset, .unset, .unset] [(.long (2305843009213693951 : Int64)), (.long p2)]))
    refine own_go (fun _ k => XT.land X0.here hx rfl (hb hby at_25) rfl k) ?_
    show own_E _ _ _ _ _ _ _ (s₁.setTop (mkF m 26 #[.val (.long p0), .second, .val (.long p1), .second, .val (.long p2), .second, .val (.int p3), .unset, .unset, .unset, .unset, .unset, .unset, .unset, .unset, .unset, .unset, .unset, .unset, .unset, .unset, .unset, .unset, .unset, .unset, .unset, .unset, .unset, .unset, .unset] [(.long (p2 &&& (2305843009213693951 : Int64)))]))
    refine own_go (fun _ k => XT.lconstV X0.here hx rfl (1 : Int64) (hb hby at_26) (by decide) k) ?_
    show own_E _ _ _ _ _ _ _ (s₁.setTop (mkF m 27 #[.val (.long p0), .second, .val (.long p1), .second, .val (.long p2), .second, .val (.int p3), .unset, .unset, .unset, .unset, .unset, .unset, .unset, .unset, .unset, .unset, .unset, .unset, .unset, .unset, .unset, .unset, .unset, .unset, .unset, .unset, .unset, .unset, .unset] [(.long (1 : Int64)), (.long (p2 &&& (2305843009213693951 : Int64)))]))
    refine own_go (fun _ k => XT.ladd X0.here hx rfl (hb hby at_27) rfl k) ?_
    show own_E _ _ _ _ _ _ _ (s₁.setTop (mkF m 28 #[.val (.long p0), .second, .val (.long p1), .second, .val (.long p2), .second, .val (.int p3), .unset, .unset, .unset, .unset, .unset, .unset, .unset, .unset, .unset, .unset, .unset, .unset, .unset, .unset, .unset, .unset, .unset, .unset, .unset, .unset, .unset, .unset, .unset] [(.long ((p2 &&& (2305843009213693951 : Int64)) + (1 : Int64)))]))
    refine own_go (fun _ k => XT.lstore X0.here hx rfl (hb hby at_28) rfl (l' := #[.val (.long p0), .second, .val (.long p1), .second, .val (.long p2), .second, .val (.int p3), .val (.long ((p2 &&& (2305843009213693951 : Int64)) + (1 : Int64))), .second, .unset, .unset, .unset, .unset, .unset, .unset, .unset, .unset, .unset, .unset, .unset, .unset, .unset, .unset, .unset, .unset, .unset, .unset, .unset, .unset, .unset]) rfl k) ?_
    show own_E _ _ _ _ _ _ _ (s₁.setTop (mkF m 30 #[.val (.long p0), .second, .val (.long p1), .second, .val (.long p2), .second, .val (.int p3), .val (.long ((p2 &&& (2305843009213693951 : Int64)) + (1 : Int64))), .second, .unset, .unset, .unset, .unset, .unset, .unset, .unset, .unset, .unset, .unset, .unset, .unset, .unset, .unset, .unset, .unset, .unset, .unset, .unset, .unset, .unset] []))
    exact rest _ (own_nA p2).1 (own_nA p2).2
  ·
    refine own_go (fun _ k => XS.ifNo X0.here hx rfl (hb hby at_4) rfl (XT.i0_eq_f s1) k) ?_
    show own_E _ _ _ _ _ _ _ (s₁.setTop (mkF m 7 #[.val (.long p0), .second, .val (.long p1), .second, .val (.long p2), .second, .val (.int p3), .unset, .unset, .unset, .unset, .unset, .unset, .unset, .unset, .unset, .unset, .unset, .unset, .unset, .unset, .unset, .unset, .unset, .unset, .unset, .unset, .unset, .unset, .unset] []))
    refine own_go (fun _ k => XT.lload X0.here hx rfl (hb hby at_7) rfl k) ?_
    show own_E _ _ _ _ _ _ _ (s₁.setTop (mkF m 9 #[.val (.long p0), .second, .val (.long p1), .second, .val (.long p2), .second, .val (.int p3), .unset, .unset, .unset, .unset, .unset, .unset, .unset, .unset, .unset, .unset, .unset, .unset, .unset, .unset, .unset, .unset, .unset, .unset, .unset, .unset, .unset, .unset, .unset] [(.long p2)]))
    refine own_go (fun _ k => X0.ldc2J hx hown (mvT hZ (hw _ (List.mem_of_getElem? (i := 66) rfl))) rfl (hb hby at_9) k) ?_
    show own_E _ _ _ _ _ _ _ (s₁.setTop (mkF m 12 #[.val (.long p0), .second, .val (.long p1), .second, .val (.long p2), .second, .val (.int p3), .unset, .unset, .unset, .unset, .unset, .unset, .unset, .unset, .unset, .unset, .unset, .unset, .unset, .unset, .unset, .unset, .unset, .unset, .unset, .unset, .unset, .unset, .unset] [(.long (16383 : Int64)), (.long p2)]))
    refine own_go (fun _ k => XT.land X0.here hx rfl (hb hby at_12) rfl k) ?_
    show own_E _ _ _ _ _ _ _ (s₁.setTop (mkF m 13 #[.val (.long p0), .second, .val (.long p1), .second, .val (.long p2), .second, .val (.int p3), .unset, .unset, .unset, .unset, .unset, .unset, .unset, .unset, .unset, .unset, .unset, .unset, .unset, .unset, .unset, .unset, .unset, .unset, .unset, .unset, .unset, .unset, .unset] [(.long (p2 &&& (16383 : Int64)))]))
    refine own_go (fun _ k => XT.lconstV X0.here hx rfl (1 : Int64) (hb hby at_13) (by decide) k) ?_
    show own_E _ _ _ _ _ _ _ (s₁.setTop (mkF m 14 #[.val (.long p0), .second, .val (.long p1), .second, .val (.long p2), .second, .val (.int p3), .unset, .unset, .unset, .unset, .unset, .unset, .unset, .unset, .unset, .unset, .unset, .unset, .unset, .unset, .unset, .unset, .unset, .unset, .unset, .unset, .unset, .unset, .unset] [(.long (1 : Int64)), (.long (p2 &&& (16383 : Int64)))]))
    refine own_go (fun _ k => XT.ladd X0.here hx rfl (hb hby at_14) rfl k) ?_
    show own_E _ _ _ _ _ _ _ (s₁.setTop (mkF m 15 #[.val (.long p0), .second, .val (.long p1), .second, .val (.long p2), .second, .val (.int p3), .unset, .unset, .unset, .unset, .unset, .unset, .unset, .unset, .unset, .unset, .unset, .unset, .unset, .unset, .unset, .unset, .unset, .unset, .unset, .unset, .unset, .unset, .unset] [(.long ((p2 &&& (16383 : Int64)) + (1 : Int64)))]))
    refine own_go (fun _ k => XT.lstore X0.here hx rfl (hb hby at_15) rfl (l' := #[.val (.long p0), .second, .val (.long p1), .second, .val (.long p2), .second, .val (.int p3), .val (.long ((p2 &&& (16383 : Int64)) + (1 : Int64))), .second, .unset, .unset, .unset, .unset, .unset, .unset, .unset, .unset, .unset, .unset, .unset, .unset, .unset, .unset, .unset, .unset, .unset, .unset, .unset, .unset, .unset]) rfl k) ?_
    show own_E _ _ _ _ _ _ _ (s₁.setTop (mkF m 17 #[.val (.long p0), .second, .val (.long p1), .second, .val (.long p2), .second, .val (.int p3), .val (.long ((p2 &&& (16383 : Int64)) + (1 : Int64))), .second, .unset, .unset, .unset, .unset, .unset, .unset, .unset, .unset, .unset, .unset, .unset, .unset, .unset, .unset, .unset, .unset, .unset, .unset, .unset, .unset, .unset] []))
    refine own_go (fun _ k => XS.goto X0.here hx rfl (pc0 := 17) (pc' := 30) rfl (hb hby at_17) (by decide) (by decide) k) ?_
    show own_E _ _ _ _ _ _ _ (s₁.setTop (mkF m 30 #[.val (.long p0), .second, .val (.long p1), .second, .val (.long p2), .second, .val (.int p3), .val (.long ((p2 &&& (16383 : Int64)) + (1 : Int64))), .second, .unset, .unset, .unset, .unset, .unset, .unset, .unset, .unset, .unset, .unset, .unset, .unset, .unset, .unset, .unset, .unset, .unset, .unset, .unset, .unset, .unset] []))
    exact rest _ (own_nB p2).1 (own_nB p2).2
set_option maxRecDepth 65536 in
set_option maxHeartbeats 40000000 in
theorem comes_1 {Post : Tables → Env → Array Value → State → Outcome → State → Prop} (hpost : ∀ tb e args s v u, (limb_1_1.after args s (.returned v) u = true ∧ limb_1_2.after args s (.returned v) u = true ∧ True) → FrameEnd s (.returned v) u (Jvm.fieldLocs frame_1_writes args s ++ Jvm.arrayLocs frame_1_arrays args s ++ Jvm.staticLocs frame_1_statics s) 16 128 → Post tb e args s (.returned v) u) :
    ArmFor flags0 classFile x code maxLocals ret World_1 tables_1 room_1 Calls_1 rest_1 Pre_1 Post := by
  intro l hfl _ _ p e ha hc hk s m args below hf hA hF happ hP
  obtain ⟨hcalls, hrest, hpre⟩ := hP
  obtain ⟨-, -, -, hnamed, -, -, -, hat⟩ := (Spec.applies_iff hf).mp happ
  obtain ⟨hg, hn⟩ := and_e (Cond.before_iff.mp (show (Jvm.Cond.and given_1 narrow_1).before args s = true from hpre))
  obtain ⟨hcount, hg⟩ := and_e hg
  obtain ⟨w0, w1, w2, w3, rfl⟩ : ∃ w0 w1 w2 w3 : Value, args = #[w0, w1, w2, w3] := by
    have hs : args.size = 4 := by simpa [Cond.value, given_1] using hcount
    obtain ⟨L⟩ := args
    match L, hs with
    | [w0, w1, w2, w3], _ => exact ⟨w0, w1, w2, w3, rfl⟩
  have hw := fun d (hd : d ∈ tables_1) => atoms_spec (ws := Jvm.Cond.code x code maxLocals ret :: tables_1) hat d (List.mem_cons_of_mem _ hd)
  have hfit : Fit s := fun {y c} hc i hi => by
    obtain ⟨ha, rfl⟩ := Array.getElem?_eq_some_iff.mp hc
    have q := List.all_eq_true.mp ((Array.all_eq_true_iff_forall_mem.mp hF) _ (Array.getElem_mem ha)) i (List.mem_range.mpr hi)
    simpa [Array.getElem?_eq_getElem hi] using q
  obtain ⟨hg0, hg⟩ := and_e hg
  obtain ⟨i0, q0⟩ := isL_v hg0
  obtain rfl : w0 = (.long i0) := Option.some.inj q0
  obtain ⟨hg1, hg⟩ := and_e hg
  obtain ⟨i1, q1⟩ := isL_v hg1
  obtain rfl : w1 = (.long i1) := Option.some.inj q1
  obtain ⟨hg2, hg⟩ := and_e hg
  obtain ⟨i2, q2⟩ := isL_v hg2
  obtain rfl : w2 = (.long i2) := Option.some.inj q2
  have hg3 := hg
  obtain ⟨i3, q3⟩ := is_v hg3
  obtain rfl : w3 = (.int i3) := Option.some.inj q3
  obtain ⟨n, o, h1, h2, h3, _, L, rfl, ⟨rfl, N⟩, hq⟩ := rm0 l s _ hw tables_1 i0 i1 i2 i3 s.heap s.heap.size (Nat.le_refl _) (Old.start s) p e ha hc hk s m _ below hf ((Spec.applies_iff_loose hf).mp happ).1 ⟨rfl, State.Warmed39.refl s, rfl⟩ trivial
  refine ⟨n, _, h1, h2, h3, hpost _ _ _ _ _ _ ⟨Cond.after_iff.mpr rfl, Cond.after_iff.mpr (eq_i res_at (Term.int_eval (1)) rfl), trivial⟩ ⟨hq.1, hq.2.1, (hq.2.2.sift fun y hy => Or.inr (N y hy)).mono (by decide) (by decide)⟩⟩
theorem main_1_1 : Claimed_1_1 := comes_1 fun _ _ _ _ _ _ h hF => ⟨h.1, hF⟩
theorem main_1_2 : Claimed_1_2 := comes_1 fun _ _ _ _ _ _ h hF => ⟨h.2.1, hF⟩
end Jvm.Pilot.@@N@@
namespace Jvm.Pilot.@@N@@
open Jvm Jvm.ClassFile Sem Op Lib Jvm.Free Jvm.Stand Jvm.Pilot.@@N@@.Jvm.D
/-! MADE BY PROGRAM (witnessworld.py) out of the Statement's table words and the real class files: 13 classes; the members and pool entries that the words name. The judged class is class 1, her method 2. -/
namespace start1
open Jvm.ClassFile
def u (s : String) : CpInfo := .utf8 (stringToUtf16 s)
/-- a pool by its gaps: so many unusable entries, then the entry; so many at the end -/
def gap : Nat → List CpInfo → List CpInfo
  | 0, r => r
  | n + 1, r => .unusable :: gap n r
def poolList (es : List (Nat × CpInfo)) (last : Nat) : List CpInfo := es.foldr (fun e r => gap e.1 (e.2 :: r)) (gap last [])
def pool (es : List (Nat × CpInfo)) (last : Nat) : Array CpInfo := ⟨poolList es last⟩
def fileOf (pool : Array CpInfo) (this : Nat) (attrs : Array Attribute := #[]) (ms : Array MethodInfo := #[]) (fl : Nat := 33) (sup : Nat := 0) (ifs : Array Nat := #[]) (fds : Array FieldInfo := #[]) : ClassFile where
  minorVersion := 0
  majorVersion := 65
  constantPool := pool
  accessFlags := fl
  thisClass := this
  superClass := sup
  interfaces := ifs
  fields := fds
  methods := ms
  attributes := attrs
def plain (name : String) (sup : Option ClassId) : Class where
  name := name
  kind := .ordinary
  loader := none
  accessFlags := 33
  super := sup
  interfaces := #[]
  cf := none
  fields := #[]
  methods := #[]
  instanceTypes := #[]
  staticTypes := #[]
  resolved := #[]
  callSites := []
  init := .initialized
  statics := none
  mirror := none

def pool0 : Array CpInfo := pool [(5, u "<init>"), (0, u "()V"), (1, .class_ 10), (1, u "java/lang/Object")] 113

def k0c0 : Code := { maxStack := 0, maxLocals := 1, code := object_method_1_code, exceptionTable := #[], attributes := #[] }
def k0m0 : Method := { name := "<init>", desc := "()V", sig := { parameters := [], returnType := none }, accessFlags := 1, code := some k0c0 }
/-- java/lang/Object -/
def k0 : Class := { plain "java/lang/Object" none with
  accessFlags := 33
  interfaces := #[]
  cf := some (fileOf pool0 8 #[] #[{ accessFlags := 1, nameIndex := 5, descriptorIndex := 6, attributes := #[] }] 33 0 #[] #[])
  fields := #[]
  methods := #[k0m0]
  instanceTypes := #[]
  staticTypes := #[]
  resolved := Array.replicate 124 none
  statics := none }

def pool1 : Array CpInfo := pool [(2, .class_ 4), (1, u "java/lang/Object"), (0, u "<init>"), (0, u "()V"), (0, .long 4294967295), (1, .long 16383), (1, .long 2305843009213693951), (1, .methodref 14 15), (0, .class_ 16), (0, .nameAndType 17 18), (0, u "com/example/libmember/libmember/hash/WindowedPositionsNextPinLaw"), (0, u "mulHiUnsigned"), (0, u "(JJ)J"), (0, .long 8191), (1, .long 2), (1, .long 3), (1, .class_ 26), (0, u "com/example/libmember/libmember/hash/WindowedPositions"), (0, .class_ 28), (0, u "com/example/libmember/libmember/hash/Hash128"), (0, .methodref 27 30), (0, .nameAndType 5 31), (0, u "(JJ)V"), (0, .methodref 25 33), (0, .nameAndType 5 34), (0, u "(Lcom/example/libmember/libmember/hash/Hash128;J)V"), (0, .methodref 25 36), (0, .nameAndType 37 38), (0, u "next"), (0, u "()J"), (2, u "law"), (0, u "(JJJI)Z")] 3

def k1m0 : Method := { name := "<init>", desc := "()V", sig := { parameters := [], returnType := none }, accessFlags := 1, code := none }
def k1c1 : Code := { maxStack := 6, maxLocals := 18, code := method_2_code, exceptionTable := #[], attributes := #[] }
def k1m1 : Method := { name := "mulHiUnsigned", desc := "(JJ)J", sig := { parameters := [.long, .long], returnType := some .long }, accessFlags := 10, code := some k1c1 }
def k1c2 : Code := { maxStack := 8, maxLocals := 30, code := code, exceptionTable := #[], attributes := #[] }
def k1m2 : Method := { name := "law", desc := "(JJJI)Z", sig := { parameters := [.long, .long, .long, .int], returnType := some .boolean }, accessFlags := 9, code := some k1c2 }
/-- com/example/libmember/libmember/hash/WindowedPositionsNextPinLaw -/
def k1 : Class := { plain "com/example/libmember/libmember/hash/WindowedPositionsNextPinLaw" (some 0) with
  accessFlags := 49
  interfaces := #[]
  cf := some (fileOf pool1 14 #[] #[{ accessFlags := 1, nameIndex := 5, descriptorIndex := 6, attributes := #[] }, { accessFlags := 10, nameIndex := 17, descriptorIndex := 18, attributes := #[] }, { accessFlags := 9, nameIndex := 41, descriptorIndex := 42, attributes := #[] }] 49 2 #[] #[])
  fields := #[]
  methods := #[k1m0, k1m1, k1m2]
  instanceTypes := #[]
  staticTypes := #[]
  resolved := Array.replicate 46 none
  statics := none }

def pool2 : Array CpInfo := pool [(1, .class_ 2), (0, u "com/example/libmember/libmember/hash/BitPositions"), (0, .class_ 4), (0, u "java/lang/Object")] 4

/-- com/example/libmember/libmember/hash/BitPositions -/
def k2 : Class := { plain "com/example/libmember/libmember/hash/BitPositions" (some 0) with
  accessFlags := 1537
  interfaces := #[]
  cf := some (fileOf pool2 1 #[] #[] 1537 3 #[] #[])
  fields := #[]
  methods := #[]
  instanceTypes := #[]
  staticTypes := #[]
  resolved := Array.replicate 9 none
  statics := none }

def pool3 : Array CpInfo := pool [(1, .class_ 2), (0, u "com/example/libmember/libmember/hash/WindowedPositions"), (0, .methodref 4 5), (0, .class_ 6), (0, .nameAndType 7 8), (0, u "java/lang/Object"), (0, u "<init>"), (0, u "()V"), (0, .methodref 10 11), (0, .class_ 12), (0, .nameAndType 13 14), (0, u "com/example/libmember/libmember/hash/Hash128"), (0, u "h1"), (0, u "()J"), (0, .fieldref 1 16), (0, .nameAndType 17 18), (0, u "bitCount"), (0, u "J"), (0, .methodref 20 21), (0, .class_ 22), (0, .nameAndType 23 24), (0, u "java/lang/Math"), (0, u "multiplyHigh"), (0, u "(JJ)J"), (0, .fieldref 1 26), (0, .nameAndType 27 18), (0, u "start"), (0, .methodref 10 29), (0, .nameAndType 30 14), (0, u "h2"), (0, .fieldref 1 32), (0, .nameAndType 33 18), (0, u "x"), (0, .fieldref 1 35), (0, .nameAndType 36 18), (0, u "y"), (0, .long 8191), (1, .fieldref 1 40), (0, .nameAndType 41 18), (0, u "step"), (0, .long 2), (1, .class_ 45), (0, u "com/example/libmember/libmember/hash/BitPositions"), (0, u "WINDOW_BITS"), (0, u "I"), (2, u "OFFSET_MASK"), (0, u "(Lcom/example/libmember/libmember/hash/Hash128;J)V"), (2, u "next")] 3

def k3c0 : Code := { maxStack := 7, maxLocals := 6, code := prog_14_method_1_code, exceptionTable := #[], attributes := #[] }
def k3m0 : Method := { name := "<init>", desc := "(Lcom/example/libmember/libmember/hash/Hash128;J)V", sig := { parameters := [(.object "com/example/libmember/libmember/hash/Hash128"), .long], returnType := none }, accessFlags := 0, code := some k3c0 }
def k3c1 : Code := { maxStack := 6, maxLocals := 3, code := prog_14_method_2_code, exceptionTable := #[], attributes := #[] }
def k3m1 : Method := { name := "next", desc := "()J", sig := { parameters := [], returnType := some .long }, accessFlags := 1, code := some k3c1 }
/-- com/example/libmember/libmember/hash/WindowedPositions -/
def k3 : Class := { plain "com/example/libmember/libmember/hash/WindowedPositions" (some 0) with
  accessFlags := 48
  interfaces := #[2]
  cf := some (fileOf pool3 1 #[] #[{ accessFlags := 0, nameIndex := 7, descriptorIndex := 51, attributes := #[] }, { accessFlags := 1, nameIndex := 54, descriptorIndex := 14, attributes := #[] }] 48 4 #[44] #[{ accessFlags := 26, nameIndex := 46, descriptorIndex := 47, attributes := #[] }, { accessFlags := 26, nameIndex := 50, descriptorIndex := 18, attributes := #[] }, { accessFlags := 18, nameIndex := 17, descriptorIndex := 18, attributes := #[] }, { accessFlags := 18, nameIndex := 27, descriptorIndex := 18, attributes := #[] }, { accessFlags := 2, nameIndex := 33, descriptorIndex := 18, attributes := #[] }, { accessFlags := 2, nameIndex := 36, descriptorIndex := 18, attributes := #[] }, { accessFlags := 2, nameIndex := 41, descriptorIndex := 18, attributes := #[] }])
  fields := #[{ name := "WINDOW_BITS", type := .int, accessFlags := 26, slot := 0, constantValue := 0 }, { name := "OFFSET_MASK", type := .long, accessFlags := 26, slot := 1, constantValue := 0 }, { name := "bitCount", type := .long, accessFlags := 18, slot := 0, constantValue := 0 }, { name := "start", type := .long, accessFlags := 18, slot := 1, constantValue := 0 }, { name := "x", type := .long, accessFlags := 2, slot := 2, constantValue := 0 }, { name := "y", type := .long, accessFlags := 2, slot := 3, constantValue := 0 }, { name := "step", type := .long, accessFlags := 2, slot := 4, constantValue := 0 }]
  methods := #[k3m0, k3m1]
  instanceTypes := #[.long, .long, .long, .long, .long]
  staticTypes := #[.int, .long]
  resolved := Array.replicate 58 none
  statics := none }

def pool4 : Array CpInfo := pool [(1, .methodref 2 3), (0, .class_ 4), (0, .nameAndType 5 6), (0, u "java/lang/Object"), (0, u "<init>"), (0, u "()V"), (0, .class_ 8), (0, u "java/lang/Record")] 13

def k4c0 : Code := { maxStack := 1, maxLocals := 1, code := jdk_30_method_1_code, exceptionTable := #[], attributes := #[] }
def k4m0 : Method := { name := "<init>", desc := "()V", sig := { parameters := [], returnType := none }, accessFlags := 4, code := some k4c0 }
/-- java/lang/Record -/
def k4 : Class := { plain "java/lang/Record" (some 0) with
  accessFlags := 1057
  interfaces := #[]
  cf := some (fileOf pool4 7 #[] #[{ accessFlags := 4, nameIndex := 5, descriptorIndex := 6, attributes := #[] }] 1057 2 #[] #[])
  fields := #[]
  methods := #[k4m0]
  instanceTypes := #[]
  staticTypes := #[]
  resolved := Array.replicate 22 none
  statics := none }

def pool5 : Array CpInfo := pool [(1, .methodref 2 3), (0, .class_ 4), (0, .nameAndType 5 6), (0, u "java/lang/Record"), (0, u "<init>"), (0, u "()V"), (0, .fieldref 8 9), (0, .class_ 10), (0, .nameAndType 11 12), (0, u "com/example/libmember/libmember/hash/Hash128"), (0, u "h1"), (0, u "J"), (0, .fieldref 8 14), (0, .nameAndType 15 12), (0, u "h2"), (19, u "()J"), (37, u "(JJ)V")] 31

def k5c0 : Code := { maxStack := 3, maxLocals := 5, code := prog_8_method_1_code, exceptionTable := #[], attributes := #[] }
def k5m0 : Method := { name := "<init>", desc := "(JJ)V", sig := { parameters := [.long, .long], returnType := none }, accessFlags := 1, code := some k5c0 }
def k5c1 : Code := { maxStack := 2, maxLocals := 1, code := prog_8_method_6_code, exceptionTable := #[], attributes := #[] }
def k5m1 : Method := { name := "h1", desc := "()J", sig := { parameters := [], returnType := some .long }, accessFlags := 1, code := some k5c1 }
def k5c2 : Code := { maxStack := 2, maxLocals := 1, code := prog_8_method_7_code, exceptionTable := #[], attributes := #[] }
def k5m2 : Method := { name := "h2", desc := "()J", sig := { parameters := [], returnType := some .long }, accessFlags := 1, code := some k5c2 }
/-- com/example/libmember/libmember/hash/Hash128 -/
def k5 : Class := { plain "com/example/libmember/libmember/hash/Hash128" (some 4) with
  accessFlags := 49
  interfaces := #[]
  cf := some (fileOf pool5 8 #[] #[{ accessFlags := 1, nameIndex := 5, descriptorIndex := 73, attributes := #[] }, { accessFlags := 1, nameIndex := 11, descriptorIndex := 35, attributes := #[] }, { accessFlags := 1, nameIndex := 15, descriptorIndex := 35, attributes := #[] }] 49 2 #[] #[{ accessFlags := 18, nameIndex := 11, descriptorIndex := 12, attributes := #[] }, { accessFlags := 18, nameIndex := 15, descriptorIndex := 12, attributes := #[] }])
  fields := #[{ name := "h1", type := .long, accessFlags := 18, slot := 0, constantValue := 0 }, { name := "h2", type := .long, accessFlags := 18, slot := 1, constantValue := 0 }]
  methods := #[k5m0, k5m1, k5m2]
  instanceTypes := #[.long, .long]
  staticTypes := #[]
  resolved := Array.replicate 105 none
  statics := none }

def pool6 : Array CpInfo := pool [(1, .class_ 2), (0, u "java/lang/Math"), (1, .class_ 6), (1, u "java/lang/Object"), (0, u "<init>"), (0, u "()V"), (89, .class_ 100), (1, u "java/lang/Math$RandomNumberGeneratorHolder"), (20, u "(JJ)J"), (16, .long 4294967295), (3, u "multiplyHigh"), (29, u "negativeZeroFloatBits"), (0, u "J"), (2, u "negativeZeroDoubleBits"), (68, u "$assertionsDisabled"), (0, u "Z"), (91, u "twoToTheDoubleScaleDown"), (0, u "D"), (4, u "twoToTheDoubleScaleUp"), (9, u "E"), (3, u "PI"), (2, u "TAU"), (2, u "DEGREES_TO_RADIANS"), (0, u "RADIANS_TO_DEGREES")] 94

def k6m0 : Method := { name := "<init>", desc := "()V", sig := { parameters := [], returnType := none }, accessFlags := 2, code := none }
def k6c1 : Code := { maxStack := 6, maxLocals := 20, code := jdk_29_method_45_code, exceptionTable := #[], attributes := #[] }
def k6m1 : Method := { name := "multiplyHigh", desc := "(JJ)J", sig := { parameters := [.long, .long], returnType := some .long }, accessFlags := 9, code := some k6c1 }
/-- java/lang/Math -/
def k6 : Class := { plain "java/lang/Math" (some 0) with
  accessFlags := 49
  interfaces := #[]
  cf := some (fileOf pool6 1 #[.nestMembers #[98]] #[{ accessFlags := 2, nameIndex := 7, descriptorIndex := 8, attributes := #[] }, { accessFlags := 9, nameIndex := 142, descriptorIndex := 121, attributes := #[] }] 49 4 #[] #[{ accessFlags := 25, nameIndex := 354, descriptorIndex := 339, attributes := #[] }, { accessFlags := 25, nameIndex := 358, descriptorIndex := 339, attributes := #[] }, { accessFlags := 25, nameIndex := 361, descriptorIndex := 339, attributes := #[] }, { accessFlags := 26, nameIndex := 364, descriptorIndex := 339, attributes := #[] }, { accessFlags := 26, nameIndex := 365, descriptorIndex := 339, attributes := #[] }, { accessFlags := 26, nameIndex := 172, descriptorIndex := 173, attributes := #[] }, { accessFlags := 26, nameIndex := 176, descriptorIndex := 173, attributes := #[] }, { accessFlags := 8, nameIndex := 344, descriptorIndex := 339, attributes := #[] }, { accessFlags := 8, nameIndex := 338, descriptorIndex := 339, attributes := #[] }, { accessFlags := 4120, nameIndex := 245, descriptorIndex := 246, attributes := #[] }])
  fields := #[{ name := "E", type := .double, accessFlags := 25, slot := 0, constantValue := 0 }, { name := "PI", type := .double, accessFlags := 25, slot := 1, constantValue := 0 }, { name := "TAU", type := .double, accessFlags := 25, slot := 2, constantValue := 0 }, { name := "DEGREES_TO_RADIANS", type := .double, accessFlags := 26, slot := 3, constantValue := 0 }, { name := "RADIANS_TO_DEGREES", type := .double, accessFlags := 26, slot := 4, constantValue := 0 }, { name := "negativeZeroFloatBits", type := .long, accessFlags := 26, slot := 5, constantValue := 0 }, { name := "negativeZeroDoubleBits", type := .long, accessFlags := 26, slot := 6, constantValue := 0 }, { name := "twoToTheDoubleScaleUp", type := .double, accessFlags := 8, slot := 7, constantValue := 0 }, { name := "twoToTheDoubleScaleDown", type := .double, accessFlags := 8, slot := 8, constantValue := 0 }, { name := "$assertionsDisabled", type := .boolean, accessFlags := 4120, slot := 9, constantValue := 0 }]
  methods := #[k6m0, k6m1]
  instanceTypes := #[]
  staticTypes := #[.double, .double, .double, .double, .double, .long, .long, .double, .double, .boolean]
  resolved := Array.replicate 460 none
  statics := none }

def pool7 : Array CpInfo := pool [(1, u "java/lang/Cloneable"), (0, .class_ 1), (0, u "java/lang/Object"), (0, .class_ 3)] 3

/-- java/lang/Cloneable -/
def k7 : Class := { plain "java/lang/Cloneable" (some 0) with
  accessFlags := 1537
  interfaces := #[]
  cf := some (fileOf pool7 2 #[] #[] 1537 4 #[] #[])
  fields := #[]
  methods := #[]
  instanceTypes := #[]
  staticTypes := #[]
  resolved := Array.replicate 8 none
  statics := none }

def pool8 : Array CpInfo := pool [(1, u "java/io/Serializable"), (0, .class_ 1), (0, u "java/lang/Object"), (0, .class_ 3)] 3

/-- java/io/Serializable -/
def k8 : Class := { plain "java/io/Serializable" (some 0) with
  accessFlags := 1537
  interfaces := #[]
  cf := some (fileOf pool8 2 #[] #[] 1537 4 #[] #[])
  fields := #[]
  methods := #[]
  instanceTypes := #[]
  staticTypes := #[]
  resolved := Array.replicate 8 none
  statics := none }

/-- the primitive byte -/
def k9 : Class := { plain "byte" none with kind := .primitive 'B', accessFlags := 0x411 }
/-- [B -/
def k10 : Class := { plain "[B" (some 0) with kind := .array 9 .byte, interfaces := #[7, 8], accessFlags := 1041 }

/-- the primitive int -/
def k11 : Class := { plain "int" none with kind := .primitive 'I', accessFlags := 0x411 }
/-- [I -/
def k12 : Class := { plain "[I" (some 0) with kind := .array 11 .int, interfaces := #[7, 8], accessFlags := 1041 }

def heap : Heap := #[]
def classes : Array Class := #[k0, k1, k2, k3, k4, k5, k6, k7, k8, k9, k10, k11, k12]
def interned : List (Array UInt16 × Addr) := []
def slotsUsed : Nat := 0
def theMethod : MethodId := ⟨1, 2⟩
def args0 : Array Value := #[.long 5, .long 1, .long 2, .int 0]
def aboutOver (below : List Frame) : State where
  vm := { classes := classes, interned := interned.toArray }
  heap := heap
  slotsUsed := slotsUsed
  threads := #[{ frames := .invoking theMethod args0 :: below }]
def below0 : List Frame := [.native { method := ⟨0, 0⟩, args := #[] }]
def about1 : State := aboutOver below0
def p0 : Program := .bare "" "" ""
def e0 : Env := launch0.env 0 0 0
theorem w_frames : about1.frames = Frame.invoking theMethod args0 :: below0 := rfl
set_option maxRecDepth 65536 in
theorem w_args : argsFit about1.vm theMethod args0 = true := by decide +kernel
set_option maxRecDepth 65536 in
theorem w_heap : heapFits about1 = true := by decide +kernel
set_option maxRecDepth 65536 in
theorem w_runnable : about1.curStatus? = some .runnable := by decide +kernel
set_option maxRecDepth 65536 in
theorem w_alone : about1.alone = true := by decide +kernel
set_option maxRecDepth 65536 in
theorem w_named : about1.methodNamed? x = some theMethod := by decide +kernel
set_option maxRecDepth 65536 in
theorem w_hears : about1.hears theMethod below0 = true := by decide +kernel
set_option maxRecDepth 65536 in
theorem w_ripe : about1.ripe theMethod args0 below0 = true := by decide +kernel
theorem w_running : about1.status = .running := rfl
set_option maxRecDepth 65536 in
theorem w_room : about1.hasRoom e0.platform room_1 = true :=
  launch0.hasRoom_least _ room_1 (by decide +kernel) (by decide +kernel) (by decide +kernel) (by decide +kernel) (by decide +kernel) (by decide +kernel)
theorem allAtoms_all (ts : List Jvm.Cond) (a : Array Jvm.Value) (st : Jvm.State) : (allAtoms ts).before a st = ts.all (fun c => c.before a st) := by
  induction ts with
  | nil => rfl
  | cons c t ih =>
    show (Jvm.Cond.and c (allAtoms t)).before a st = _
    rw [Jvm.Cond.before_and, ih, List.all_cons]
def words1 : List Jvm.Cond := Jvm.Cond.code x code maxLocals ret :: tables_1
/-- a 'code' word, met by the world's own term for the bytes: nothing is compared byte by byte -/
theorem code_word {y : MethodName} {bytes : ByteArray} {mx : Nat} {rt : Option FieldType} {a : Array Value} {s : State} {m : MethodId} {meth : Method} {c : Code} (h1 : s.methodNamed? y = some m) (h2 : s.vm.method? m = some meth) (h3 : meth.code = some c) (h4 : c.code = bytes)
    (h5 : (c.maxLocals == mx && c.exceptionTable.isEmpty && decide (c.maxStack ≤ mostOperands) && decide (meth.sig.returnType = rt) && !meth.locks && decide (parseMethodDescriptor y.desc = some meth.sig)) = true) : (Jvm.Cond.code y bytes mx rt).before a s = true := by
  simp only [Bool.and_eq_true, beq_iff_eq, Bool.not_eq_true', decide_eq_true_eq] at h5
  obtain ⟨⟨⟨⟨⟨g1, g2⟩, g3⟩, g4⟩, g5⟩, g6⟩ := h5
  simp [Cond.before, Cond.holds, Cond.value, h1, h2, h3, h4, g1, g2, g3, g4, g5, g6]
def isCode : Jvm.Cond → Bool
  | .code _ _ _ _ => true
  | _ => false
theorem all_split {L : List Jvm.Cond} {P : Jvm.Cond → Bool} (h1 : L.all (fun c => isCode c || P c) = true) (h2 : ∀ c ∈ L.filter isCode, P c = true) : L.all P = true := by
  refine List.all_eq_true.mpr fun c hc => ?_
  have h := List.all_eq_true.mp h1 c hc
  rcases Bool.eq_false_or_eq_true (isCode c) with hi | hi
  · exact h2 c (List.mem_filter.mpr ⟨hc, hi⟩)
  · simpa [hi] using h
set_option maxRecDepth 65536 in
theorem w_c0 : (Jvm.Cond.code x code maxLocals ret).before args0 about1 = true := code_word (m := ⟨1, 2⟩) (meth := k1m2) (c := k1c2) (by decide +kernel) rfl rfl rfl (by decide +kernel)
set_option maxRecDepth 65536 in
theorem w_c1 : (Jvm.Cond.code ({ cls := "com/example/libmember/libmember/hash/WindowedPositionsNextPinLaw", name := "mulHiUnsigned", desc := "(JJ)J" } : Jvm.MethodName) method_2_code (18 : Nat) (Option.some Jvm.ClassFile.FieldType.long)).before args0 about1 = true := code_word (m := ⟨1, 1⟩) (meth := k1m1) (c := k1c1) (by decide +kernel) rfl rfl rfl (by decide +kernel)
set_option maxRecDepth 65536 in
theorem w_c2 : (Jvm.Cond.code ({ cls := "com/example/libmember/libmember/hash/Hash128", name := "<init>", desc := "(JJ)V" } : Jvm.MethodName) prog_8_method_1_code (5 : Nat) (Option.none : Option Jvm.ClassFile.FieldType)).before args0 about1 = true := code_word (m := ⟨5, 0⟩) (meth := k5m0) (c := k5c0) (by decide +kernel) rfl rfl rfl (by decide +kernel)
set_option maxRecDepth 65536 in
theorem w_c3 : (Jvm.Cond.code ({ cls := "java/lang/Record", name := "<init>", desc := "()V" } : Jvm.MethodName) jdk_30_method_1_code (1 : Nat) (Option.none : Option Jvm.ClassFile.FieldType)).before args0 about1 = true := code_word (m := ⟨4, 0⟩) (meth := k4m0) (c := k4c0) (by decide +kernel) rfl rfl rfl (by decide +kernel)
set_option maxRecDepth 65536 in
theorem w_c4 : (Jvm.Cond.code ({ cls := "java/lang/Object", name := "<init>", desc := "()V" } : Jvm.MethodName) object_method_1_code (1 : Nat) (Option.none : Option Jvm.ClassFile.FieldType)).before args0 about1 = true := code_word (m := ⟨0, 0⟩) (meth := k0m0) (c := k0c0) (by decide +kernel) rfl rfl rfl (by decide +kernel)
set_option maxRecDepth 65536 in
theorem w_c5 : (Jvm.Cond.code ({ cls := "com/example/libmember/libmember/hash/WindowedPositions", name := "<init>", desc := "(Lcom/example/libmember/libmember/hash/Hash128;J)V" } : Jvm.MethodName) prog_14_method_1_code (6 : Nat) (Option.none : Option Jvm.ClassFile.FieldType)).before args0 about1 = true := code_word (m := ⟨3, 0⟩) (meth := k3m0) (c := k3c0) (by decide +kernel) rfl rfl rfl (by decide +kernel)
set_option maxRecDepth 65536 in
theorem w_c6 : (Jvm.Cond.code ({ cls := "com/example/libmember/libmember/hash/Hash128", name := "h1", desc := "()J" } : Jvm.MethodName) prog_8_method_6_code (1 : Nat) (Option.some Jvm.ClassFile.FieldType.long)).before args0 about1 = true := code_word (m := ⟨5, 1⟩) (meth := k5m1) (c := k5c1) (by decide +kernel) rfl rfl rfl (by decide +kernel)
set_option maxRecDepth 65536 in
theorem w_c7 : (Jvm.Cond.code ({ cls := "java/lang/Math", name := "multiplyHigh", desc := "(JJ)J" } : Jvm.MethodName) jdk_29_method_45_code (20 : Nat) (Option.some Jvm.ClassFile.FieldType.long)).before args0 about1 = true := code_word (m := ⟨6, 1⟩) (meth := k6m1) (c := k6c1) (by decide +kernel) rfl rfl rfl (by decide +kernel)
set_option maxRecDepth 65536 in
theorem w_c8 : (Jvm.Cond.code ({ cls := "com/example/libmember/libmember/hash/Hash128", name := "h2", desc := "()J" } : Jvm.MethodName) prog_8_method_7_code (1 : Nat) (Option.some Jvm.ClassFile.FieldType.long)).before args0 about1 = true := code_word (m := ⟨5, 2⟩) (meth := k5m2) (c := k5c2) (by decide +kernel) rfl rfl rfl (by decide +kernel)
set_option maxRecDepth 65536 in
theorem w_c9 : (Jvm.Cond.code ({ cls := "com/example/libmember/libmember/hash/WindowedPositions", name := "next", desc := "()J" } : Jvm.MethodName) prog_14_method_2_code (3 : Nat) (Option.some Jvm.ClassFile.FieldType.long)).before args0 about1 = true := code_word (m := ⟨3, 1⟩) (meth := k3m1) (c := k3c1) (by decide +kernel) rfl rfl rfl (by decide +kernel)
def codes1 : List Jvm.Cond := [Jvm.Cond.code x code maxLocals ret, Jvm.Cond.code ({ cls := "com/example/libmember/libmember/hash/WindowedPositionsNextPinLaw", name := "mulHiUnsigned", desc := "(JJ)J" } : Jvm.MethodName) method_2_code (18 : Nat) (Option.some Jvm.ClassFile.FieldType.long), Jvm.Cond.code ({ cls := "com/example/libmember/libmember/hash/Hash128", name := "<init>", desc := "(JJ)V" } : Jvm.MethodName) prog_8_method_1_code (5 : Nat) (Option.none : Option Jvm.ClassFile.FieldType), Jvm.Cond.code ({ cls := "java/lang/Record", name := "<init>", desc := "()V" } : Jvm.MethodName) jdk_30_method_1_code (1 : Nat) (Option.none : Option Jvm.ClassFile.FieldType), Jvm.Cond.code ({ cls := "java/lang/Object", name := "<init>", desc := "()V" } : Jvm.MethodName) object_method_1_code (1 : Nat) (Option.none : Option Jvm.ClassFile.FieldType), Jvm.Cond.code ({ cls := "com/example/libmember/libmember/hash/WindowedPositions", name := "<init>", desc := "(Lcom/example/libmember/libmember/hash/Hash128;J)V" } : Jvm.MethodName) prog_14_method_1_code (6 : Nat) (Option.none : Option Jvm.ClassFile.FieldType), Jvm.Cond.code ({ cls := "com/example/libmember/libmember/hash/Hash128", name := "h1", desc := "()J" } : Jvm.MethodName) prog_8_method_6_code (1 : Nat) (Option.some Jvm.ClassFile.FieldType.long), Jvm.Cond.code ({ cls := "java/lang/Math", name := "multiplyHigh", desc := "(JJ)J" } : Jvm.MethodName) jdk_29_method_45_code (20 : Nat) (Option.some Jvm.ClassFile.FieldType.long), Jvm.Cond.code ({ cls := "com/example/libmember/libmember/hash/Hash128", name := "h2", desc := "()J" } : Jvm.MethodName) prog_8_method_7_code (1 : Nat) (Option.some Jvm.ClassFile.FieldType.long), Jvm.Cond.code ({ cls := "com/example/libmember/libmember/hash/WindowedPositions", name := "next", desc := "()J" } : Jvm.MethodName) prog_14_method_2_code (3 : Nat) (Option.some Jvm.ClassFile.FieldType.long)]
set_option maxRecDepth 65536 in
theorem codes_eq : words1.filter isCode = codes1 := rfl
theorem w_codes : ∀ c ∈ words1.filter isCode, c.before args0 about1 = true := by
  rw [codes_eq]
  intro c hc
  simp only [codes1, List.mem_cons, List.not_mem_nil, or_false] at hc
  rcases hc with rfl | rfl | rfl | rfl | rfl | rfl | rfl | rfl | rfl | rfl
  · exact w_c0
  · exact w_c1
  · exact w_c2
  · exact w_c3
  · exact w_c4
  · exact w_c5
  · exact w_c6
  · exact w_c7
  · exact w_c8
  · exact w_c9
set_option maxRecDepth 65536 in
theorem w_t1 : (words1.take 24).all (fun c => isCode c || c.before args0 about1) = true := by decide +kernel
set_option maxRecDepth 65536 in
theorem w_t2 : ((words1.drop 24).take 24).all (fun c => isCode c || c.before args0 about1) = true := by decide +kernel
set_option maxRecDepth 65536 in
theorem w_t3 : ((words1.drop 24).drop 24).all (fun c => isCode c || c.before args0 about1) = true := by decide +kernel
theorem w_tables : (allAtoms (Jvm.Cond.code x code maxLocals ret :: tables_1)).before args0 about1 = true := by
  rw [allAtoms_all]
  show words1.all (fun c => c.before args0 about1) = true
  refine all_split ?_ w_codes
  rw [← List.take_append_drop 24 words1, List.all_append, w_t1, ← List.take_append_drop 24 (words1.drop 24), List.all_append, w_t2, w_t3]
  rfl
set_option maxRecDepth 65536 in
theorem w_case : (Jvm.Cond.and given_1 narrow_1).before args0 about1 = true := by decide +kernel
theorem w_applies : (headSpec (Jvm.Cond.code x code maxLocals ret :: tables_1) room_1).applies x e0.platform about1 = true :=
  (Spec.applies_iff w_frames).mpr ⟨w_running, w_runnable, w_alone, w_named, w_hears, w_ripe, w_room, w_tables⟩
theorem atStart : AtStart classFile x code maxLocals ret World_1 tables_1 room_1 Calls_1 rest_1 Pre_1 launch0 p0 e0 about1 theMethod args0 below0 :=
  ⟨lists_1, trivial, launch0.admits_env _ _ _, launch0.least_env, fairChoices_fair.cas, fairChoices_fair.clock, w_frames, w_args, w_heap, w_applies, trivial, trivial, w_case⟩
end start1
theorem witness_1 : WitnessClaimed_1 := ⟨start1.p0, start1.e0, start1.about1, start1.theMethod, start1.args0, start1.below0, start1.atStart⟩
end Jvm.Pilot.@@N@@
