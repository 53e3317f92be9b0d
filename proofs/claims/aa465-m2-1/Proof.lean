import JvmDerived
import JvmDerived.Pilot.@@N@@Statement
import JvmDerived.Pilot.@@N@@Code
set_option linter.unusedVariables false
set_option linter.unusedSimpArgs false
namespace Jvm.Pilot.@@N@@
open Jvm Jvm.ClassFile Sem Op Lib Jvm.Free Jvm.Stand Jvm.LawKit Jvm.RoadKit Bundle Jvm.Pilot.@@N@@.Jvm.D
section Own
variable {p : Program} {l : Launch} {e : Env} {R : Room} {s : State} {m : MethodId} {args : Array Value} {below : List Frame} {meth : Method} {c : Code} {T : State} {locs : List Loc} {cells slots : Nat} {Z : State} {a0 : Array Value} {h : Heap}
/-- the walk ends from A: it returns, Q holds, the frame is kept -/
def own_E (p : Program) (e : Env) (below : List Frame) (s : State) (Q : Option Value → Heap → List Loc → Prop) (K N : Nat) (A : State) : Prop :=
  ∃ t o, Steps p.tables e below A t ∧ t.status = .running ∧ Ended t below o ∧ ∃ v L, o = .returned v ∧ Q v t.heap L ∧ FrameEnd s o t L K N
variable {Q : Option Value → Heap → List Loc → Prop} {K N : Nat} {A A' : State}
theorem own_go (h : ∀ t, Steps p.tables e below A' t → Steps p.tables e below A t) (k : own_E p e below s Q K N A') : own_E p e below s Q K N A := by
  obtain ⟨t, o, h1, h2⟩ := k
  exact ⟨t, o, h _ h1, h2⟩
theorem own_ret (X : Stand p l e R s m args below meth c T locs cells slots) (hx : p.tables.exec = Jvm.exec) {pc : Nat} {Ls : Array Slot} {w : Value} {t : FieldType} {i : Instr} {rest : List Value} (hret : meth.sig.returnType = some t) (hlk : meth.locks = false) (hn : narrow t w = w)
    (hi : (i = .ireturn ∧ (t = .int ∨ t = .boolean ∨ t = .byte ∨ t = .char ∨ t = .short) ∧ ∃ z, w = .int z) ∨ (i = .lreturn ∧ t = .long ∧ ∃ z, w = .long z) ∨ (i = .dreturn ∧ t = .double ∧ ∃ z, w = .double z) ∨ (i = .freturn ∧ t = .float ∧ ∃ z, w = .float z) ∨ (i = .areturn ∧ t.isReference = true ∧ w.isRef = true))
    (hd : decode c.code pc = .ok (i, 1)) (hQ : Q (some w) T.heap locs) (hK : cells ≤ K) (hN : slots ≤ N) : own_E p e below s Q K N (T.setTop (mkF m pc Ls (w :: rest))) := by
  obtain ⟨fs, hr, hrun, hended, hW, hsame⟩ := X.leave (v := some w) (fun h => by rw [hret] at h; cases h) hlk
  exact ⟨_, _, retOut X hx hret hn hi hd hr, hrun, hended, _, _, rfl, hQ, ⟨_, rfl⟩, hW, hsame.mono hK hN⟩
theorem own_ret0 (X : Stand p l e R s m args below meth c T locs cells slots) (hx : p.tables.exec = Jvm.exec) {pc : Nat} {Ls : Array Slot} (hret : meth.sig.returnType = none) (hlk : meth.locks = false)
    (hd : decode c.code pc = .ok (.return_, 1)) (hQ : Q none T.heap locs) (hK : cells ≤ K) (hN : slots ≤ N) : own_E p e below s Q K N (T.setTop (mkF m pc Ls [])) := by
  obtain ⟨fs, hr, hrun, hended, hW, hsame⟩ := X.leave (v := none) (fun _ => rfl) hlk
  exact ⟨_, _, X.returnOut hx hret hd hr, hrun, hended, _, _, rfl, hQ, ⟨_, rfl⟩, hW, hsame.mono hK hN⟩
/-- what a callee is asked: its contract -/
abbrev own_M (l : Launch) (y : MethodName) (bytes : ByteArray) (maxL : Nat) (ret : Option FieldType) (rm : Room) (Z : State) (as' : Array Value) (h : Heap) (Q : Option Value → Heap → List Loc → Prop) : Prop :=
  MetFree l y (head1 [Jvm.Cond.code y bytes maxL ret] rm) (fun a U => a = as' ∧ Z.Warmed39 U.vm ∧ U.heap = h) (fun _ _ _ _ _ => True) (fun _ U o U' => ∃ v L, o = .returned v ∧ Q v U'.heap L ∧ FrameEnd U o U' L rm.cells rm.slots)
theorem own_callS (X : Stand p l e R s m args below meth c T locs cells slots) (hx : p.tables.exec = Jvm.exec) (hZ : Z.Warmed39 s.vm) {own : String} {index : Nat} {y : MethodName} {bytes : ByteArray} {maxL : Nat} {ret : Option FieldType} {rm : Room} {W : Nat} {argsL rest : List Value}
    (hown : s.vm.findClass own = some m.cls) (w1 : (Jvm.Cond.methodLink own index y).before a0 Z = true) (w2 : (Jvm.Cond.static y).before a0 Z = true) (w3 : (Jvm.Cond.initialized y.cls).before a0 Z = true) (w4 : (Jvm.Cond.code y bytes maxL ret).before a0 Z = true)
    (hy : y.cls ≠ "java/lang/invoke/MethodHandle" ∧ y.cls ≠ "java/lang/invoke/VarHandle") (hM : own_M l y bytes maxL ret rm Z argsL.toArray h Q) (eT : T.heap = h)
    (hf : rm.frames + 1 ≤ R.frames) (hl : W + (maxL + 11) + rm.locals ≤ R.locals) (hc : cells + rm.cells ≤ R.cells) (hs : slots + rm.slots ≤ R.slots)
    {g : JFrame} (hg : g.method = m) (hsize : g.locals.size = c.maxLocals) (hlen : ∀ sig, parseMethodDescriptor y.desc = some sig → argsL.length = sig.parameters.length)
    (hstack : g.stack = argsL.reverse ++ rest) (hW : 2 * g.monitorRoom + (rest.map fun v => v.category).sum ≤ W) (hdg : decode c.code g.pc = .ok (.invokestatic index, 3)) :
    ∃ v T' L, Stand p l e R s m args below meth c T' (locs ++ L) (cells + rm.cells) (slots + rm.slots) ∧ Q v T'.heap L ∧ ∀ target, Steps p.tables e below (T'.setTop { g with pc := g.pc + 3, stack := v.toList ++ rest }) target → Steps p.tables e below (T.setTop g) target := by
  obtain ⟨v, _, ⟨T', L', k', n'⟩, -, X', ⟨L, hQ, e1, e2, e3⟩, st⟩ := Jvm.LawKit.callS X hx (y := y) hown (mvT hZ w1) (mvT hZ w2) (mvT hZ w3) (mvT hZ w4) hy (backOf (W := W) hM hZ w4 w3 hf hl) hg hsize hlen hstack hW hdg (fun _ _ => ⟨rfl, eT, hc, hs⟩)
  dsimp only [Pt.U, Pt.locs, Pt.cells, Pt.slots] at X' e1 e2 e3 st hQ
  subst e1 e2 e3
  exact ⟨v, T', L, X', hQ, st⟩
theorem own_callV (X : Stand p l e R s m args below meth c T locs cells slots) (hx : p.tables.exec = Jvm.exec) (hZ : Z.Warmed39 s.vm) {own C : String} {index : Nat} {y : MethodName} {bytes : ByteArray} {maxL : Nat} {ret : Option FieldType} {rm : Room} {W : Nat} {b : Addr} {argsL rest : List Value}
    (hown : s.vm.findClass own = some m.cls) (w1 : (Jvm.Cond.methodLink own index y).before a0 Z = true) (w2 : (Jvm.Cond.declares y).before a0 Z = true) (w3 : (Jvm.Cond.selects C y y).before a0 Z = true) (w4 : (Jvm.Cond.instanceMethod y).before a0 Z = true) (w5 : (Jvm.Cond.code y bytes maxL ret).before a0 Z = true) (w6 : (Jvm.Cond.initialized y.cls).before a0 Z = true)
    (hy : y.cls ≠ "java/lang/invoke/MethodHandle" ∧ y.cls ≠ "java/lang/invoke/VarHandle") (hM : own_M l y bytes maxL ret rm Z (.ref b :: argsL).toArray h Q) (eT : T.heap = h) (E : Exa Z h b C)
    (hf : rm.frames + 1 ≤ R.frames) (hl : W + (maxL + 11) + rm.locals ≤ R.locals) (hc : cells + rm.cells ≤ R.cells) (hs : slots + rm.slots ≤ R.slots)
    {g : JFrame} (hg : g.method = m) (hsize : g.locals.size = c.maxLocals) (hlen : ∀ sig, parseMethodDescriptor y.desc = some sig → argsL.length = sig.parameters.length)
    (hstack : g.stack = argsL.reverse ++ .ref b :: rest) (hW : 2 * g.monitorRoom + (rest.map fun v => v.category).sum ≤ W) (hdg : decode c.code g.pc = .ok (.invokevirtual index, 3)) :
    ∃ v T' L, Stand p l e R s m args below meth c T' (locs ++ L) (cells + rm.cells) (slots + rm.slots) ∧ Q v T'.heap L ∧ ∀ target, Steps p.tables e below (T'.setTop { g with pc := g.pc + 3, stack := v.toList ++ rest }) target → Steps p.tables e below (T.setTop g) target := by
  obtain ⟨cq, kq, q1, -, q3⟩ := isOf hZ eT E
  obtain ⟨v, _, ⟨T', L', k', n'⟩, -, X', ⟨L, hQ, e1, e2, e3⟩, st⟩ := X.virtualBack hx (y := y) (z := y) hown (mvT hZ w1) (mvT hZ w2) (notFace_of_selects (args := #[]) (mvT hZ w3)) (mvT hZ w3) (mvT hZ w4) hy (backOf (W := W) hM hZ w5 w6 hf hl) q1 q3 hg hsize (Steps.refl _) hlen hstack hW hdg (fun _ _ => ⟨rfl, eT, hc, hs⟩)
  dsimp only [Pt.U, Pt.locs, Pt.cells, Pt.slots] at X' e1 e2 e3 st hQ
  subst e1 e2 e3
  exact ⟨v, T', L, X', hQ, fun _ k => st.trans k⟩
theorem own_callI (X : Stand p l e R s m args below meth c T locs cells slots) (hx : p.tables.exec = Jvm.exec) (hZ : Z.Warmed39 s.vm) {own : String} {index : Nat} {y : MethodName} {bytes : ByteArray} {maxL : Nat} {rm : Room} {W : Nat} {b : Addr} {argsL rest : List Value}
    (hown : s.vm.findClass own = some m.cls) (hy1 : y.name = "<init>") (w1 : (Jvm.Cond.methodLink own index y).before a0 Z = true) (w2 : (Jvm.Cond.instanceMethod y).before a0 Z = true) (w3 : (Jvm.Cond.initialized y.cls).before a0 Z = true) (w4 : (Jvm.Cond.code y bytes maxL none).before a0 Z = true)
    (hy : y.cls ≠ "java/lang/invoke/MethodHandle" ∧ y.cls ≠ "java/lang/invoke/VarHandle") (hM : own_M l y bytes maxL none rm Z (.ref b :: argsL).toArray h Q) (eT : T.heap = h)
    (hf : rm.frames + 1 ≤ R.frames) (hl : W + (maxL + 11) + rm.locals ≤ R.locals) (hc : cells + rm.cells ≤ R.cells) (hs : slots + rm.slots ≤ R.slots)
    {g : JFrame} (hg : g.method = m) (hsize : g.locals.size = c.maxLocals) (hlen : ∀ sig, parseMethodDescriptor y.desc = some sig → argsL.length = sig.parameters.length)
    (hstack : g.stack = argsL.reverse ++ .ref b :: rest) (hW : 2 * g.monitorRoom + (rest.map fun v => v.category).sum ≤ W) (hdg : decode c.code g.pc = .ok (.invokespecial index, 3)) :
    ∃ v T' L, Stand p l e R s m args below meth c T' (locs ++ L) (cells + rm.cells) (slots + rm.slots) ∧ Q v T'.heap L ∧ ∀ target, Steps p.tables e below (T'.setTop { g with pc := g.pc + 3, stack := v.toList ++ rest }) target → Steps p.tables e below (T.setTop g) target := by
  obtain ⟨v, _, ⟨T', L', k', n'⟩, -, X', ⟨L, hQ, e1, e2, e3⟩, st⟩ := X.specialBack hx (y := y) hy1 hown (mvT hZ w1) (mvT hZ w2) (mvT hZ w4) hy (backOf (W := W) hM hZ w4 w3 hf hl) hg hsize (Steps.refl _) hlen hstack hW hdg (fun _ _ => ⟨rfl, eT, hc, hs⟩)
  dsimp only [Pt.U, Pt.locs, Pt.cells, Pt.slots] at X' e1 e2 e3 st hQ
  subst e1 e2 e3
  exact ⟨v, T', L, X', hQ, fun _ k => st.trans k⟩
theorem own_callVU (X : Stand p l e R s m args below meth c T locs cells slots) (hx : p.tables.exec = Jvm.exec) (hZ : Z.Warmed39 s.vm) {own C owner : String} {index : Nat} {y z : MethodName} {bytes : ByteArray} {maxL : Nat} {ret : Option FieldType} {rm : Room} {W : Nat} {b : Addr} {argsL rest : List Value}
    (hown : s.vm.findClass own = some m.cls) (w1 : (Jvm.Cond.methodLink own index y).before a0 Z = true) (w2 : (Jvm.Cond.sameMethod y.cls owner y.name y.desc).before a0 Z = true) (w2' : (Jvm.Cond.declares ⟨owner, y.name, y.desc⟩).before a0 Z = true) (w3 : (Jvm.Cond.selects C y z).before a0 Z = true) (w4 : (Jvm.Cond.instanceMethod z).before a0 Z = true) (w5 : (Jvm.Cond.code z bytes maxL ret).before a0 Z = true) (w6 : (Jvm.Cond.initialized z.cls).before a0 Z = true)
    (hy : owner ≠ "java/lang/invoke/MethodHandle" ∧ owner ≠ "java/lang/invoke/VarHandle") (hM : own_M l z bytes maxL ret rm Z (.ref b :: argsL).toArray h Q) (eT : T.heap = h) (E : Exa Z h b C)
    (hf : rm.frames + 1 ≤ R.frames) (hl : W + (maxL + 11) + rm.locals ≤ R.locals) (hc : cells + rm.cells ≤ R.cells) (hs : slots + rm.slots ≤ R.slots)
    {g : JFrame} (hg : g.method = m) (hsize : g.locals.size = c.maxLocals) (hlen : ∀ sig, parseMethodDescriptor y.desc = some sig → argsL.length = sig.parameters.length)
    (hstack : g.stack = argsL.reverse ++ .ref b :: rest) (hW : 2 * g.monitorRoom + (rest.map fun v => v.category).sum ≤ W) (hdg : decode c.code g.pc = .ok (.invokevirtual index, 3)) :
    ∃ v T' L, Stand p l e R s m args below meth c T' (locs ++ L) (cells + rm.cells) (slots + rm.slots) ∧ Q v T'.heap L ∧ ∀ target, Steps p.tables e below (T'.setTop { g with pc := g.pc + 3, stack := v.toList ++ rest }) target → Steps p.tables e below (T.setTop g) target := by
  obtain ⟨cq, kq, q1, -, q3⟩ := isOf hZ eT E
  obtain ⟨v, _, ⟨T', L', k', n'⟩, -, X', ⟨L, hQ, e1, e2, e3⟩, st⟩ := X.virtualBackUp hx (x := y) (y := z) hown (mvT hZ w1) (mvT hZ w2) (mvT hZ w2') hy (mvT hZ w3) (mvT hZ w4) (backOf (W := W) hM hZ w5 w6 hf hl) q1 q3 hg hsize (Steps.refl _) hlen hstack hW hdg (fun _ _ => ⟨rfl, eT, hc, hs⟩)
  dsimp only [Pt.U, Pt.locs, Pt.cells, Pt.slots] at X' e1 e2 e3 st hQ
  subst e1 e2 e3
  exact ⟨v, T', L, X', hQ, fun _ k => st.trans k⟩
theorem own_aaload (X : Stand p l e R s m args below meth c T locs cells slots) (hx : p.tables.exec = Jvm.exec) (hZ : Z.Warmed39 s.vm) (eT : T.heap = h) {a : Addr} {cl : Cell} {ty : FieldType} (F : Arr Z h a cl ty) (hty : ty.isReference = true) {j : Int32} {v : Value} (hin : ¬ (j < 0 ∨ cl.slots.size ≤ j.toNatClampNeg)) (hv : cl.slots[j.toNatClampNeg]? = some v)
    {g : JFrame} (hg : g.method = m) {rest : List Value} (hs : g.stack = .int j :: .ref a :: rest) (hd : decode c.code g.pc = .ok (.aaload, 1)) : ∀ target, Steps p.tables e below (T.setTop { g with pc := g.pc + 1, stack := v :: rest }) target → Steps p.tables e below (T.setTop g) target :=
  X.aaload hx (by rw [eT]; exact F.1) (State.isArrayOf_alike hZ.alike F.2.1) hty F.2.2 hin hv hg hs hd
theorem own_laload (X : Stand p l e R s m args below meth c T locs cells slots) (hx : p.tables.exec = Jvm.exec) (hZ : Z.Warmed39 s.vm) (eT : T.heap = h) {a : Addr} {cl : Cell} (F : Arr Z h a cl .long) {j : Int32} {v : Value} (hin : ¬ (j < 0 ∨ cl.slots.size ≤ j.toNatClampNeg)) (hv : cl.slots[j.toNatClampNeg]? = some v)
    {g : JFrame} (hg : g.method = m) {rest : List Value} (hs : g.stack = .int j :: .ref a :: rest) (hd : decode c.code g.pc = .ok (.laload, 1)) : ∀ target, Steps p.tables e below (T.setTop { g with pc := g.pc + 1, stack := v :: rest }) target → Steps p.tables e below (T.setTop g) target :=
  X.laload hx (by rw [eT]; exact F.1) (State.isArrayOf_alike hZ.alike F.2.1) F.2.2 hin hv hg hs hd
theorem own_baload (X : Stand p l e R s m args below meth c T locs cells slots) (hx : p.tables.exec = Jvm.exec) (hZ : Z.Warmed39 s.vm) (eT : T.heap = h) {a : Addr} {cl : Cell} (F : Arr Z h a cl .byte) {j : Int32} {v : Value} (hin : ¬ (j < 0 ∨ cl.slots.size ≤ j.toNatClampNeg)) (hv : cl.slots[j.toNatClampNeg]? = some v)
    {g : JFrame} (hg : g.method = m) {rest : List Value} (hs : g.stack = .int j :: .ref a :: rest) (hd : decode c.code g.pc = .ok (.baload, 1)) : ∀ target, Steps p.tables e below (T.setTop { g with pc := g.pc + 1, stack := v :: rest }) target → Steps p.tables e below (T.setTop g) target :=
  X.baloadBytes hx (by rw [eT]; exact F.1) (State.isArrayOf_alike hZ.alike F.2.1) F.2.2 hin hv hg hs hd
theorem own_zaload (X : Stand p l e R s m args below meth c T locs cells slots) (hx : p.tables.exec = Jvm.exec) (hZ : Z.Warmed39 s.vm) (eT : T.heap = h) {a : Addr} {cl : Cell} (F : Arr Z h a cl .boolean) {j : Int32} {v : Value} (hin : ¬ (j < 0 ∨ cl.slots.size ≤ j.toNatClampNeg)) (hv : cl.slots[j.toNatClampNeg]? = some v)
    {g : JFrame} (hg : g.method = m) {rest : List Value} (hs : g.stack = .int j :: .ref a :: rest) (hd : decode c.code g.pc = .ok (.baload, 1)) : ∀ target, Steps p.tables e below (T.setTop { g with pc := g.pc + 1, stack := v :: rest }) target → Steps p.tables e below (T.setTop g) target :=
  X.baloadBooleans hx (by rw [eT]; exact F.1) (State.isArrayOf_alike hZ.alike F.2.1) F.2.2 hin hv hg hs hd
theorem own_alen (X : Stand p l e R s m args below meth c T locs cells slots) (hx : p.tables.exec = Jvm.exec) (hZ : Z.Warmed39 s.vm) (eT : T.heap = h) {a : Addr} {cl : Cell} {ty : FieldType} (F : Arr Z h a cl ty) {n : Int32} (hn : cl.slots.size.toInt32 = n)
    {g : JFrame} (hg : g.method = m) {rest : List Value} (hs : g.stack = .ref a :: rest) (hd : decode c.code g.pc = .ok (.arraylength, 1)) : ∀ target, Steps p.tables e below (T.setTop { g with pc := g.pc + 1, stack := .int n :: rest }) target → Steps p.tables e below (T.setTop g) target :=
  fun t k => X.arraylength hx (by rw [eT]; exact F.1) (State.isArrayOf_alike hZ.alike F.2.1) hg hs hd t (by rw [hn]; exact k)
theorem own_elemS {t u : Term} {a w : Addr} {cl : Cell} {k : Int32} (ev : t.eval args s none [] s = some (.ref a)) (hc : s.heap[a]? = some cl) (evu : u.eval args s none [] s = some (.ref w)) (he : (Jvm.Cond.eq (.elem t (.int k)) u).value args s none s [] = some true) :
    ¬ (k < 0 ∨ cl.slots.size ≤ k.toNatClampNeg) ∧ cl.slots[k.toNatClampNeg]? = some (.ref w) := by
  obtain ⟨x, y, h1, h2, h3, h4⟩ := cmp_v (Or.inl he)
  cases evu.symm.trans h2
  have h5 := gotT (eq_R h1 h2 h4.2 rfl) he
  subst h5
  exact elem_in h1 ev (Term.int_eval k) hc
theorem own_lenS {t : Term} {a : Addr} {cl : Cell} {n : Int32} (ev : t.eval args s none [] s = some (.ref a)) (hc : s.heap[a]? = some cl) (he : (Jvm.Cond.eq (.length t) (.int n)).value args s none s [] = some true) : cl.slots.size < 2 ^ 31 ∧ cl.slots.size.toInt32 = n := by
  obtain ⟨x, y, h1, h2, h3, h4⟩ := cmp_v (Or.inl he)
  cases (Term.int_eval n).symm.trans h2
  obtain ⟨z, rfl⟩ := h4
  have h5 : z = n := by simpa [Jvm.Cond.value, h1, h2] using he
  subst h5
  obtain ⟨a', c', q1, q2, q3⟩ := Term.length_spec h1
  cases ev.symm.trans q1
  have q4 := (State.arrayAt?_spec q2).1
  cases hc.symm.trans q4
  refine ⟨?_, (Value.int.inj q3).symm⟩
  by_cases hl : cl.slots.size < 2 ^ 31
  · exact hl
  · simp [Term.eval, ev, q2, hl] at h1
/-- from a sheet's words to facts at the start -/
theorem own_const {C n d k0 : String} (hx : (Jvm.Cond.exactly (.static C n d) k0).value args s none s [] = some true) (hi : (Jvm.Cond.initialized C).before args s = true) (hl : (Jvm.Cond.laysStatic C n d).before args s = true) :
    ∃ a, (Term.static C n d).eval args s none [] s = some (.ref a) ∧ Sta s s.heap C n d (.ref a) ∧ Exa s s.heap a k0 := by
  obtain ⟨a, ev⟩ := exa_v hx
  exact ⟨a, ev, Sta.start ev (Or.inr ⟨hi, hl⟩), Exa.start ev hx⟩
theorem own_fldI {t : Term} {a : Addr} {O n d : String} {k : Int32} (ev : t.eval args s none [] s = some (.ref a)) (he : (Jvm.Cond.eq (.field t O n d) (.int k)).value args s none s [] = some true) : Fld s s.heap a O n d (.int k) := by
  obtain ⟨x, y, h1, h2, h3, h4⟩ := cmp_v (Or.inl he)
  have h5 := h1
  rw [fld_at ev] at h5
  have h6 : y = .int k := (Option.some.inj ((Term.int_eval k).symm.trans h2)).symm
  subst h6
  obtain ⟨z, rfl⟩ := h4
  have h7 : z = k := by simpa [Jvm.Cond.value, h1, h2] using he
  subst h7
  exact Fld.start h5
end Own
section Own2
variable {p : Program} {l : Launch} {e : Env} {R : Room} {s : State} {m : MethodId} {args : Array Value} {below : List Frame} {meth : Method} {c : Code} {T : State} {locs : List Loc} {cells slots : Nat} {Z : State} {a0 : Array Value} {h : Heap}
variable {a : Addr} {k : ClassId} {ty : FieldType} {z : Int32} {vs : List Value} {dv : Value}
/-- a fresh array of n places, each said -/
theorem own_arvNew {n : Nat} (A : Arr Z h a (newA k ty z) ty) (q : ¬ z < 0) : Arv Z h a k ty z (List.replicate n (defaultValue ty)) (defaultValue ty) := (Arv.new A q).pad (pad_rep [] _ n)
theorem own_stR (X : Stand p l e R s m args below meth c T locs cells slots) (hx : p.tables.exec = Jvm.exec) (hZ : Z.Warmed39 s.vm) (eT : T.heap = h) {C : String} {y : Addr} (F : Arv Z h a k (.object C) z vs dv) (O : Ovr Z k C) (I : Ins Z h y C true) {j : Int32} (i : Nat) (hj : j.toNatClampNeg = i) (hi : i < vs.length) (hin : ¬ j < 0 ∧ j < z)
    {g : JFrame} (hg : g.method = m) {rest : List Value} (hs : g.stack = .ref y :: .int j :: .ref a :: rest) (hd : decode c.code g.pc = .ok (.aastore, 1)) :
    ∃ T' h', Stand p l e R s m args below meth c T' (locs ++ [⟨a, j.toNatClampNeg⟩]) cells slots ∧ T'.heap = h' ∧ Wr h h' a j.toNatClampNeg (.ref y) ∧ Arv Z h' a k (.object C) z (vs.set i (.ref y)) dv ∧ ∀ target, Steps p.tables e below (T'.setTop { g with pc := g.pc + 1, stack := rest }) target → Steps p.tables e below (T.setTop g) target := by
  obtain ⟨cl, A, q1, S, q3, H, G⟩ := F
  obtain ⟨T', h', X', e', W, st⟩ := stR X hx hZ eT A (inb_of S hin) rfl (Sto.ofV A q1 O I) hg hs hd
  exact ⟨T', h', X', e', W, Arv.set A q1 S q3 H G rfl W i hj hi, st⟩
theorem own_stZ (X : Stand p l e R s m args below meth c T locs cells slots) (hx : p.tables.exec = Jvm.exec) (hZ : Z.Warmed39 s.vm) (eT : T.heap = h) {x : Int32} (F : Arv Z h a k .boolean z vs dv) {j : Int32} (i : Nat) (hj : j.toNatClampNeg = i) (hi : i < vs.length) (hin : ¬ j < 0 ∧ j < z)
    {g : JFrame} (hg : g.method = m) {rest : List Value} (hs : g.stack = .int x :: .int j :: .ref a :: rest) (hd : decode c.code g.pc = .ok (.bastore, 1)) :
    ∃ T' h', Stand p l e R s m args below meth c T' (locs ++ [⟨a, j.toNatClampNeg⟩]) cells slots ∧ T'.heap = h' ∧ Wr h h' a j.toNatClampNeg (.int (nar .boolean x)) ∧ Arv Z h' a k .boolean z (vs.set i (.int (nar .boolean x))) dv ∧ ∀ target, Steps p.tables e below (T'.setTop { g with pc := g.pc + 1, stack := rest }) target → Steps p.tables e below (T.setTop g) target := by
  obtain ⟨cl, A, q1, S, q3, H, G⟩ := F
  obtain ⟨T', h', X', e', W, st⟩ := stZ X hx hZ eT A (inb_of S hin) hg hs hd
  exact ⟨T', h', X', e', W, Arv.set A q1 S q3 H G (fits_nar_bool x) W i hj hi, st⟩
theorem own_stB (X : Stand p l e R s m args below meth c T locs cells slots) (hx : p.tables.exec = Jvm.exec) (hZ : Z.Warmed39 s.vm) (eT : T.heap = h) {x : Int32} (F : Arv Z h a k .byte z vs dv) {j : Int32} (i : Nat) (hj : j.toNatClampNeg = i) (hi : i < vs.length) (hin : ¬ j < 0 ∧ j < z)
    {g : JFrame} (hg : g.method = m) {rest : List Value} (hs : g.stack = .int x :: .int j :: .ref a :: rest) (hd : decode c.code g.pc = .ok (.bastore, 1)) :
    ∃ T' h', Stand p l e R s m args below meth c T' (locs ++ [⟨a, j.toNatClampNeg⟩]) cells slots ∧ T'.heap = h' ∧ Wr h h' a j.toNatClampNeg (.int (nar .byte x)) ∧ Arv Z h' a k .byte z (vs.set i (.int (nar .byte x))) dv ∧ ∀ target, Steps p.tables e below (T'.setTop { g with pc := g.pc + 1, stack := rest }) target → Steps p.tables e below (T.setTop g) target := by
  obtain ⟨cl, A, q1, S, q3, H, G⟩ := F
  obtain ⟨T', h', X', e', W, st⟩ := stB X hx hZ eT A (inb_of S hin) hg hs hd
  exact ⟨T', h', X', e', W, Arv.set A q1 S q3 H G (fits_nar_byte x) W i hj hi, st⟩
theorem own_stJ (X : Stand p l e R s m args below meth c T locs cells slots) (hx : p.tables.exec = Jvm.exec) (hZ : Z.Warmed39 s.vm) (eT : T.heap = h) {x : Int64} (F : Arv Z h a k .long z vs dv) {j : Int32} (i : Nat) (hj : j.toNatClampNeg = i) (hi : i < vs.length) (hin : ¬ j < 0 ∧ j < z)
    {g : JFrame} (hg : g.method = m) {rest : List Value} (hs : g.stack = .long x :: .int j :: .ref a :: rest) (hd : decode c.code g.pc = .ok (.lastore, 1)) :
    ∃ T' h', Stand p l e R s m args below meth c T' (locs ++ [⟨a, j.toNatClampNeg⟩]) cells slots ∧ T'.heap = h' ∧ Wr h h' a j.toNatClampNeg (.long x) ∧ Arv Z h' a k .long z (vs.set i (.long x)) dv ∧ ∀ target, Steps p.tables e below (T'.setTop { g with pc := g.pc + 1, stack := rest }) target → Steps p.tables e below (T.setTop g) target := by
  obtain ⟨cl, A, q1, S, q3, H, G⟩ := F
  obtain ⟨T', h', X', e', W, st⟩ := stJ X hx hZ eT A (inb_of S hin) hg hs hd
  exact ⟨T', h', X', e', W, Arv.set A q1 S q3 H G rfl W i hj hi, st⟩
theorem own_stC (X : Stand p l e R s m args below meth c T locs cells slots) (hx : p.tables.exec = Jvm.exec) (hZ : Z.Warmed39 s.vm) (eT : T.heap = h) {x : Int32} (F : Arv Z h a k .char z vs dv) {j : Int32} (i : Nat) (hj : j.toNatClampNeg = i) (hi : i < vs.length) (hin : ¬ j < 0 ∧ j < z)
    {g : JFrame} (hg : g.method = m) {rest : List Value} (hs : g.stack = .int x :: .int j :: .ref a :: rest) (hd : decode c.code g.pc = .ok (.castore, 1)) :
    ∃ T' h', Stand p l e R s m args below meth c T' (locs ++ [⟨a, j.toNatClampNeg⟩]) cells slots ∧ T'.heap = h' ∧ Wr h h' a j.toNatClampNeg (.int (nar .char x)) ∧ Arv Z h' a k .char z (vs.set i (.int (nar .char x))) dv ∧ ∀ target, Steps p.tables e below (T'.setTop { g with pc := g.pc + 1, stack := rest }) target → Steps p.tables e below (T.setTop g) target := by
  obtain ⟨cl, A, q1, S, q3, H, G⟩ := F
  obtain ⟨T', h', X', e', W, st⟩ := stC X hx hZ eT A (inb_of S hin) hg hs hd
  exact ⟨T', h', X', e', W, Arv.set A q1 S q3 H G (fits_nar_char x) W i hj hi, st⟩
theorem own_caload (X : Stand p l e R s m args below meth c T locs cells slots) (hx : p.tables.exec = Jvm.exec) (hZ : Z.Warmed39 s.vm) (eT : T.heap = h) {cl : Cell} (F : Arr Z h a cl .char) {j : Int32} {v : Value} (hin : ¬ (j < 0 ∨ cl.slots.size ≤ j.toNatClampNeg)) (hv : cl.slots[j.toNatClampNeg]? = some v)
    {g : JFrame} (hg : g.method = m) {rest : List Value} (hs : g.stack = .int j :: .ref a :: rest) (hd : decode c.code g.pc = .ok (.caload, 1)) : ∀ target, Steps p.tables e below (T.setTop { g with pc := g.pc + 1, stack := v :: rest }) target → Steps p.tables e below (T.setTop g) target :=
  X.caload hx (by rw [eT]; exact F.1) (State.isArrayOf_alike hZ.alike F.2.1) F.2.2 hin hv hg hs hd
/-- a place of an array that is said -/
theorem own_at (F : Arv Z h a k ty z vs dv) {j : Int32} (hin : ¬ j < 0 ∧ j < z) : ∃ cl, Arr Z h a cl ty ∧ ¬ (j < 0 ∨ cl.slots.size ≤ j.toNatClampNeg) ∧ cl.slots[j.toNatClampNeg]? = some (vs.getD j.toNatClampNeg dv) := by
  obtain ⟨cl, A, q1, S, q3, H, G⟩ := F
  exact ⟨cl, A, inb_of S hin, H.at (inb_of S hin) rfl⟩
theorem own_len (F : Arv Z h a k ty z vs dv) : ∃ cl, Arr Z h a cl ty ∧ cl.slots.size.toInt32 = z := by
  obtain ⟨cl, A, q1, S, q3, H, G⟩ := F
  exact ⟨cl, A, len_of S q3⟩
theorem own_re {vs' : List Value} (F : Arv Z h a k ty z vs dv) (q : ∀ i, i < z.toNatClampNeg → vs'.getD i dv = vs.getD i dv) : Arv Z h a k ty z vs' dv := by
  obtain ⟨cl, A, q1, S, q3, H, G⟩ := F
  exact ⟨cl, A, q1, S, q3, fun i hi => by rw [q i (S ▸ hi)]; exact H i hi, fun i hi => by rw [q i (S ▸ hi)]; exact G i hi⟩
theorem own_no {n : Nat} {C S O k0 : String} (w : (Jvm.Cond.superclass C S).before a0 Z = true) (w2 : (Jvm.Cond.superclass S O).before a0 Z = true) (w3 : (Jvm.Cond.noSuperclass O).before a0 Z = true) (wi : (Jvm.Cond.instantiable k0 n).before a0 Z = true) (n1 : C ≠ k0) (n2 : S ≠ k0) (n3 : O ≠ k0) :
    ∃ c t, Z.vm.findClass C = some c ∧ Z.vm.findClass k0 = some t ∧ Z.vm.assignable c t = false := by
  obtain ⟨t, kt, g1, g2, g3, g4, -⟩ := Cond.instantiable_spec wi
  have hO : NS Z O k0 := by
    obtain ⟨c, kc, h1, h2, h3, -, -⟩ := Cond.noSuperclass_spec w3
    refine ⟨c, t, h1, g1, fun fuel => ?_⟩
    cases fuel with
    | zero => rfl
    | succ f => simp [Vm.isSubclassAux, ids_ne h1 g1 n3, h2, h3]
  obtain ⟨c, t', h0, g0, n4⟩ := NS.step w (NS.step w2 hO n2) n1
  cases g1.symm.trans g0
  obtain ⟨p, kk, kp, h1, h2, h3, h4, h5, -, h7⟩ := Cond.superclass_spec h0 w
  refine ⟨c, t, h0, g0, ?_⟩
  show Z.vm.assignableAux (255 + 1) c t = false
  simp only [Bool.or_eq_false_iff] at g4
  simp [Vm.assignableAux, ids_ne h0 g0 n1, h2, g2, h5, g3, g4.1, Vm.isSubclass, n4]
theorem own_clone (X : Stand p l e R s m args below meth c T locs cells slots) (hx : p.tables.exec = Jvm.exec) (hZ : Z.Warmed39 s.vm) {own ad : String} {index : Nat} (hown : s.vm.findClass own = some m.cls)
    (w1 : (Jvm.Cond.methodLink own index ⟨ad, "clone", "()Ljava/lang/Object;"⟩).before a0 Z = true) (w2 : (Jvm.Cond.sameMethod ad "java/lang/Object" "clone" "()Ljava/lang/Object;").before a0 Z = true) (w3 : (Jvm.Cond.native ⟨"java/lang/Object", "clone", "()Ljava/lang/Object;"⟩).before a0 Z = true)
    (w4 : (Jvm.Cond.instanceMethod ⟨"java/lang/Object", "clone", "()Ljava/lang/Object;"⟩).before a0 Z = true) (w5 : (Jvm.Cond.selects ad ⟨ad, "clone", "()Ljava/lang/Object;"⟩ ⟨"java/lang/Object", "clone", "()Ljava/lang/Object;"⟩).before a0 Z = true) (w6 : (Jvm.Cond.castable ad "java/lang/Cloneable").before a0 Z = true)
    (eT : T.heap = h) (F : Arv Z h a k ty z vs dv) (E : Exa Z h a ad) {g : JFrame} (hg : g.method = m) (hsize : g.locals.size = c.maxLocals) {rest : List Value} (hst : g.stack = .ref a :: rest) (hd : decode c.code g.pc = .ok (.invokevirtual index, 3))
    (hf : 1 ≤ R.frames) {W cap : Nat} (hW : 2 * g.monitorRoom + (rest.map fun v => v.category).sum ≤ W) (hl : W + 14 ≤ R.locals) (hcap : z.toNatClampNeg ≤ cap) (hc : cells + 1 ≤ R.cells) (hsl : slots + cap ≤ R.slots) :
    ∃ T' h', Stand p l e R s m args below meth c T' locs (cells + 1) (slots + cap) ∧ T'.heap = h' ∧ Ext h h' ∧ Arv Z h' h.size k ty z vs dv ∧ Exa Z h' h.size ad ∧
      ∀ target, Steps p.tables e below (T'.setTop { g with pc := g.pc + 3, stack := .ref h.size :: rest }) target → Steps p.tables e below (T.setTop g) target := by
  obtain ⟨cl, A, q1, S, q3, H, G⟩ := F
  obtain ⟨T', h', X', e', E', A', B', st⟩ := cloneA X hx hZ hown w1 w2 w3 w4 w5 w6 eT A E (fitC_of A (fun i hi v hv => by rw [H i hi] at hv; cases hv; exact G i hi)) hg hsize hst hd hf hW hl (by rw [S]; exact hcap) hc hsl
  exact ⟨T', h', X', e', E', ⟨cloneOf cl, A', q1, S, q3, H, G⟩, B', st⟩
end Own2
def own_pick (w0 w1 w2 w3 : Addr) (n : Int32) : Value := if n = 1 then .ref w0 else if n = 2 then .ref w1 else if n = 3 then .ref w2 else if n = 4 then .ref w3 else .null
theorem own_pick_form (w0 w1 w2 w3 : Addr) (n : Int32) : own_pick w0 w1 w2 w3 n = .null ∨ ∃ w, own_pick w0 w1 w2 w3 n = .ref w := by
  unfold own_pick; split; · exact Or.inr ⟨_, rfl⟩
  split; · exact Or.inr ⟨_, rfl⟩
  split; · exact Or.inr ⟨_, rfl⟩
  split; · exact Or.inr ⟨_, rfl⟩
  exact Or.inl rfl
theorem pd_0 : parseMethodDescriptor "()[Lcom/example/libmember/libmember/hash/HashScheme;" = some ⟨[], some (.array (.object "com/example/libmember/libmember/hash/HashScheme"))⟩ := by decide +kernel
theorem pd_1 : parseMethodDescriptor "(I)Lcom/example/libmember/libmember/hash/HashScheme;" = some ⟨[.int], some (.object "com/example/libmember/libmember/hash/HashScheme")⟩ := by decide +kernel
theorem d2_0 : decode prog_9_method_1_code 0 = .ok (.getstatic 16, 3) := by decide +kernel
theorem d2_3 : decode prog_9_method_1_code 3 = .ok (.invokevirtual 20, 3) := by decide +kernel
theorem d2_6 : decode prog_9_method_1_code 6 = .ok (.checkcast 21, 3) := by decide +kernel
theorem d2_9 : decode prog_9_method_1_code 9 = .ok (.areturn, 1) := by decide +kernel
def Qrm2 (ar : Addr) (kA : ClassId) (w0 : Addr) (w1 : Addr) (w2 : Addr) (w3 : Addr) (Z : State) (h0 : Heap) (n0 : Nat) (v : Option Value) (h : Heap) (L : List Loc) : Prop := Fr n0 L ∧ Ext h0 h ∧ ∃ a, v = some (.ref a) ∧ Arv Z h a kA (.object "com/example/libmember/libmember/hash/HashScheme") (4 : Int32) [.ref w0, .ref w1, .ref w2, .ref w3] .null
set_option maxRecDepth 65536 in
set_option maxHeartbeats 40000000 in
theorem rm2 (l : Launch) (Z : State) (a0 : Array Value) (hw : ∀ d ∈ tables_1, d.before a0 Z = true) (ar : Addr) (kA : ClassId) (w0 : Addr) (w1 : Addr) (w2 : Addr) (w3 : Addr) (h0 : Heap) (n0 : Nat) (Z0 : n0 ≤ h0.size) (O0 : Old Z n0 h0) (SA : Sta Z h0 "com/example/libmember/libmember/hash/HashScheme" "$VALUES" "[Lcom/example/libmember/libmember/hash/HashScheme;" (.ref ar)) (AV : Arv Z h0 ar kA (.object "com/example/libmember/libmember/hash/HashScheme") (4 : Int32) [.ref w0, .ref w1, .ref w2, .ref w3] .null) (EA : Exa Z h0 ar "[Lcom/example/libmember/libmember/hash/HashScheme;") :
    MetFree l (⟨"com/example/libmember/libmember/hash/HashScheme", "values", "()[Lcom/example/libmember/libmember/hash/HashScheme;"⟩ : MethodName) (head1 (Jvm.Cond.code (⟨"com/example/libmember/libmember/hash/HashScheme", "values", "()[Lcom/example/libmember/libmember/hash/HashScheme;"⟩ : MethodName) prog_9_method_1_code 0 (some (.array (.object "com/example/libmember/libmember/hash/HashScheme"))) :: []) ({ frames := 1, cells := 1, slots := 4, locals := 14 } : Room)) (fun ar_ U => ar_ = #[] ∧ Z.Warmed39 U.vm ∧ U.heap = h0) (fun _ _ _ _ _ => True) (fun _ U o U' => ∃ v L, o = .returned v ∧ Qrm2 ar kA w0 w1 w2 w3 Z h0 n0 v U'.heap L ∧ FrameEnd U o U' L ({ frames := 1, cells := 1, slots := 4, locals := 14 } : Room).cells ({ frames := 1, cells := 1, slots := 4, locals := 14 } : Room).slots) := by
  refine MetFree.of_bodySF (plainFor_of_name (by first | (simp [plainName, overriddenIn]; done) | decide +kernel)) hisR ?_
  intro p e s m args below meth c s₁ Bd hml0 hP hK
  obtain ⟨rfl, hZ, hh⟩ := hP
  have hx := Bd.exec
  have hby := Bd.bytes
  have hml : c.maxLocals = 0 := hml0
  have hown : s.vm.findClass "com/example/libmember/libmember/hash/HashScheme" = some m.cls := findClass_of_methodNamed Bd.named
  have hnm := (name_of_methodNamed Bd.named Bd.method).1
  have X0 : Stand p l e ({ frames := 1, cells := 1, slots := 4, locals := 14 } : Room) s m #[] below meth c s₁ [] 0 0 := Stand.of_body Bd
  have e0 : s₁.heap = h0 := by rw [← hh, Bd.state]; rfl
  have N0 := Fr.nil n0
  show own_E p e below s (Qrm2 ar kA w0 w1 w2 w3 Z h0 n0) ({ frames := 1, cells := 1, slots := 4, locals := 14 } : Room).cells ({ frames := 1, cells := 1, slots := 4, locals := 14 } : Room).slots (s₁.setTop (entryFrame m #[] 0))
  refine own_go (fun t k => castTop (show _ = (mkF m 0 #[] []) from by first | (simp [entryFrame, mkF, argsToLocals, Value.category]; done) | rfl) k) ?_
  show own_E _ _ _ _ _ _ _ (s₁.setTop (mkF m 0 #[] []))
  obtain ⟨T11, X11, e11, st11⟩ := getS2 X0 hx hZ hown (host := "") (Or.inl (hw _ (List.mem_of_getElem? (i := 7) rfl))) Via.refl e0 SA (g := (mkF m 0 #[] [])) rfl (hb hby d2_0)
  refine own_go st11 ?_
  show own_E _ _ _ _ _ _ _ (T11.setTop (mkF m 3 #[] [(.ref ar)]))
  obtain ⟨T12, h12, X12, e12, E12, v12, B12, st12⟩ := own_clone X11 hx hZ hown (hw _ (List.mem_of_getElem? (i := 9) rfl)) (hw _ (List.mem_of_getElem? (i := 10) rfl)) (hw _ (List.mem_of_getElem? (i := 14) rfl)) (hw _ (List.mem_of_getElem? (i := 12) rfl)) (hw _ (List.mem_of_getElem? (i := 13) rfl)) (hw _ (List.mem_of_getElem? (i := 15) rfl)) e11 AV EA (g := (mkF m 3 #[] [(.ref ar)])) rfl (by rw [hml]; rfl) rfl (hb hby d2_3) (by decide) (W := 0) (cap := 4) (Nat.le_of_ble_eq_true rfl) (by decide) (by decide) (by decide) (by decide)
  obtain ⟨aa, g12⟩ : ∃ z, z = h0.size := ⟨_, rfl⟩
  rw [← g12] at v12 B12 st12
  have ne12_1 : ar ≠ aa := by rw [g12]; exact Nat.ne_of_lt AV.lt
  have w12 : n0 ≤ aa := by rw [g12]; exact Z0
  have f12_0 := SA.ext E12
  have f12_1 := AV.ext E12
  have f12_2 := EA.ext E12
  have O12 := O0.ext E12
  have Z12 := Nat.le_trans Z0 E12.1
  refine own_go st12 ?_
  show own_E _ _ _ _ _ _ _ (T12.setTop (mkF m 6 #[] [(.ref aa)]))
  obtain ⟨T13, X13, e13, st13⟩ := castY X12 hx hZ hown (hw _ (List.mem_of_getElem? (i := 21) rfl)) e12 (Ins.self B12) (g := (mkF m 6 #[] [(.ref aa)])) rfl rfl (hb hby d2_6)
  refine own_go st13 ?_
  show own_E _ _ _ _ _ _ _ (T13.setTop (mkF m 9 #[] [(.ref aa)]))
  exact own_ret X13 hx Bd.returns Bd.notSynchronized rfl (Or.inr (Or.inr (Or.inr (Or.inr ⟨rfl, rfl, rfl⟩)))) (hb hby d2_9) (by rw [e13]; exact ⟨N0, E12, _, rfl, v12⟩) (by decide) (by decide)
theorem d1_0 : decode prog_9_method_4_code 0 = .ok (.invokestatic 49, 3) := by decide +kernel
theorem d1_3 : decode prog_9_method_4_code 3 = .ok (.astore_n 1, 1) := by decide +kernel
theorem d1_4 : decode prog_9_method_4_code 4 = .ok (.aload_n 1, 1) := by decide +kernel
theorem d1_5 : decode prog_9_method_4_code 5 = .ok (.arraylength, 1) := by decide +kernel
theorem d1_6 : decode prog_9_method_4_code 6 = .ok (.istore_n 2, 1) := by decide +kernel
theorem d1_7 : decode prog_9_method_4_code 7 = .ok (.iconst 0, 1) := by decide +kernel
theorem d1_8 : decode prog_9_method_4_code 8 = .ok (.istore_n 3, 1) := by decide +kernel
theorem d1_9 : decode prog_9_method_4_code 9 = .ok (.iload_n 3, 1) := by decide +kernel
theorem d1_10 : decode prog_9_method_4_code 10 = .ok (.iload_n 2, 1) := by decide +kernel
theorem d1_11 : decode prog_9_method_4_code 11 = .ok (.if_icmp .ge 26, 3) := by decide +kernel
theorem d1_14 : decode prog_9_method_4_code 14 = .ok (.aload_n 1, 1) := by decide +kernel
theorem d1_15 : decode prog_9_method_4_code 15 = .ok (.iload_n 3, 1) := by decide +kernel
theorem d1_16 : decode prog_9_method_4_code 16 = .ok (.aaload, 1) := by decide +kernel
theorem d1_17 : decode prog_9_method_4_code 17 = .ok (.astore 4, 2) := by decide +kernel
theorem d1_19 : decode prog_9_method_4_code 19 = .ok (.aload 4, 2) := by decide +kernel
theorem d1_21 : decode prog_9_method_4_code 21 = .ok (.getfield 35, 3) := by decide +kernel
theorem d1_24 : decode prog_9_method_4_code 24 = .ok (.iload_n 0, 1) := by decide +kernel
theorem d1_25 : decode prog_9_method_4_code 25 = .ok (.if_icmp .ne 6, 3) := by decide +kernel
theorem d1_28 : decode prog_9_method_4_code 28 = .ok (.aload 4, 2) := by decide +kernel
theorem d1_30 : decode prog_9_method_4_code 30 = .ok (.areturn, 1) := by decide +kernel
theorem d1_31 : decode prog_9_method_4_code 31 = .ok (.iinc 3 1, 3) := by decide +kernel
theorem d1_34 : decode prog_9_method_4_code 34 = .ok (.goto (-25), 3) := by decide +kernel
theorem d1_37 : decode prog_9_method_4_code 37 = .ok (.aconst_null, 1) := by decide +kernel
theorem d1_38 : decode prog_9_method_4_code 38 = .ok (.areturn, 1) := by decide +kernel
def Qrm1 (n : Int32) (ar : Addr) (kA : ClassId) (w0 : Addr) (w1 : Addr) (w2 : Addr) (w3 : Addr) (Z : State) (h0 : Heap) (n0 : Nat) (v : Option Value) (h : Heap) (L : List Loc) : Prop := v = some (own_pick w0 w1 w2 w3 n) ∧ Fr n0 L ∧ Ext h0 h
set_option maxRecDepth 65536 in
set_option maxHeartbeats 40000000 in
theorem rm1 (l : Launch) (Z : State) (a0 : Array Value) (hw : ∀ d ∈ tables_1, d.before a0 Z = true) (n : Int32) (ar : Addr) (kA : ClassId) (w0 : Addr) (w1 : Addr) (w2 : Addr) (w3 : Addr) (h0 : Heap) (n0 : Nat) (Z0 : n0 ≤ h0.size) (O0 : Old Z n0 h0) (SA : Sta Z h0 "com/example/libmember/libmember/hash/HashScheme" "$VALUES" "[Lcom/example/libmember/libmember/hash/HashScheme;" (.ref ar)) (AV : Arv Z h0 ar kA (.object "com/example/libmember/libmember/hash/HashScheme") (4 : Int32) [.ref w0, .ref w1, .ref w2, .ref w3] .null) (EA : Exa Z h0 ar "[Lcom/example/libmember/libmember/hash/HashScheme;") (F0 : Fld Z h0 w0 "com/example/libmember/libmember/hash/HashScheme" "number" "I" (.int (1 : Int32))) (F1 : Fld Z h0 w1 "com/example/libmember/libmember/hash/HashScheme" "number" "I" (.int (2 : Int32))) (F2 : Fld Z h0 w2 "com/example/libmember/libmember/hash/HashScheme" "number" "I" (.int (3 : Int32))) (F3 : Fld Z h0 w3 "com/example/libmember/libmember/hash/HashScheme" "number" "I" (.int (4 : Int32))) :
    MetFree l (⟨"com/example/libmember/libmember/hash/HashScheme", "ofNumber", "(I)Lcom/example/libmember/libmember/hash/HashScheme;"⟩ : MethodName) (head1 (Jvm.Cond.code (⟨"com/example/libmember/libmember/hash/HashScheme", "ofNumber", "(I)Lcom/example/libmember/libmember/hash/HashScheme;"⟩ : MethodName) prog_9_method_4_code 5 (some (.object "com/example/libmember/libmember/hash/HashScheme")) :: []) ({ frames := 2, cells := 1, slots := 4, locals := 26 } : Room)) (fun ar_ U => ar_ = #[(.int n)] ∧ Z.Warmed39 U.vm ∧ U.heap = h0) (fun _ _ _ _ _ => True) (fun _ U o U' => ∃ v L, o = .returned v ∧ Qrm1 n ar kA w0 w1 w2 w3 Z h0 n0 v U'.heap L ∧ FrameEnd U o U' L ({ frames := 2, cells := 1, slots := 4, locals := 26 } : Room).cells ({ frames := 2, cells := 1, slots := 4, locals := 26 } : Room).slots) := by
  refine MetFree.of_bodySF (plainFor_of_name (by first | (simp [plainName, overriddenIn]; done) | decide +kernel)) hisR ?_
  intro p e s m args below meth c s₁ Bd hml0 hP hK
  obtain ⟨rfl, hZ, hh⟩ := hP
  have hx := Bd.exec
  have hby := Bd.bytes
  have hml : c.maxLocals = 5 := hml0
  have hown : s.vm.findClass "com/example/libmember/libmember/hash/HashScheme" = some m.cls := findClass_of_methodNamed Bd.named
  have hnm := (name_of_methodNamed Bd.named Bd.method).1
  have X0 : Stand p l e ({ frames := 2, cells := 1, slots := 4, locals := 26 } : Room) s m #[(.int n)] below meth c s₁ [] 0 0 := Stand.of_body Bd
  have e0 : s₁.heap = h0 := by rw [← hh, Bd.state]; rfl
  have N0 := Fr.nil n0
  show own_E p e below s (Qrm1 n ar kA w0 w1 w2 w3 Z h0 n0) ({ frames := 2, cells := 1, slots := 4, locals := 26 } : Room).cells ({ frames := 2, cells := 1, slots := 4, locals := 26 } : Room).slots (s₁.setTop (entryFrame m #[(.int n)] 5))
  refine own_go (fun t k => castTop (show _ = (mkF m 0 #[.val (.int n), .unset, .unset, .unset, .unset] []) from by first | (simp [entryFrame, mkF, argsToLocals, Value.category]; done) | rfl) k) ?_
  show own_E _ _ _ _ _ _ _ (s₁.setTop (mkF m 0 #[.val (.int n), .unset, .unset, .unset, .unset] []))
  obtain ⟨v11, T11, L11, X11, hQ11, st11⟩ := own_callS X0 hx hZ (rm := ({ frames := 1, cells := 1, slots := 4, locals := 14 } : Room)) (W := 0) (argsL := []) (rest := []) (y := (⟨"com/example/libmember/libmember/hash/HashScheme", "values", "()[Lcom/example/libmember/libmember/hash/HashScheme;"⟩ : MethodName)) hown (hw _ (List.mem_of_getElem? (i := 4) rfl)) (hw _ (List.mem_of_getElem? (i := 5) rfl)) (hw _ (List.mem_of_getElem? (i := 2) rfl)) (hw _ (List.mem_of_getElem? (i := 6) rfl)) (by decide) (rm2 l Z a0 hw ar kA w0 w1 w2 w3 h0 n0 Z0 O0 SA AV EA) e0 (by decide) (by decide) (by decide) (by decide) (g := (mkF m 0 #[.val (.int n), .unset, .unset, .unset, .unset] [])) rfl (by rw [hml]; rfl) (lenOf pd_0 rfl) rfl (Nat.le_of_ble_eq_true rfl) (hb hby d1_0)
  obtain ⟨N11, E11, aa, rfl, V11⟩ := hQ11
  refine own_go st11 ?_
  show own_E _ _ _ _ _ _ _ (T11.setTop (mkF m 3 #[.val (.int n), .unset, .unset, .unset, .unset] [(.ref aa)]))
  have M11 := Fr.app N0 N11
  have e11 : T11.heap = T11.heap := rfl
  have f11_0 := F0.ext E11
  have f11_1 := F1.ext E11
  have f11_2 := F2.ext E11
  have f11_3 := F3.ext E11
  have O11 := O0.ext E11
  have Z11 := Nat.le_trans Z0 E11.1
  refine own_go (fun _ k => XS.astoreN X11.here hx rfl (hb hby d1_3) rfl rfl (l' := #[.val (.int n), .val (.ref aa), .unset, .unset, .unset]) rfl k) ?_
  show own_E _ _ _ _ _ _ _ (T11.setTop (mkF m 4 #[.val (.int n), .val (.ref aa), .unset, .unset, .unset] []))
  refine own_go (fun _ k => XS.aloadN X11.here hx rfl (hb hby d1_4) rfl rfl k) ?_
  show own_E _ _ _ _ _ _ _ (T11.setTop (mkF m 5 #[.val (.int n), .val (.ref aa), .unset, .unset, .unset] [(.ref aa)]))
  obtain ⟨c12, a12, u12⟩ := own_len V11
  refine own_go (own_alen X11 hx hZ e11 a12 u12 (g := (mkF m 5 #[.val (.int n), .val (.ref aa), .unset, .unset, .unset] [(.ref aa)])) rfl rfl (hb hby d1_5)) ?_
  show own_E _ _ _ _ _ _ _ (T11.setTop (mkF m 6 #[.val (.int n), .val (.ref aa), .unset, .unset, .unset] [(.int (4 : Int32))]))
  refine own_go (fun _ k => XS.istoreN X11.here hx rfl (hb hby d1_6) rfl (l' := #[.val (.int n), .val (.ref aa), .val (.int (4 : Int32)), .unset, .unset]) rfl k) ?_
  show own_E _ _ _ _ _ _ _ (T11.setTop (mkF m 7 #[.val (.int n), .val (.ref aa), .val (.int (4 : Int32)), .unset, .unset] []))
  refine own_go (fun _ k => XT.iconstV X11.here hx rfl (0 : Int32) (hb hby d1_7) (by decide) k) ?_
  show own_E _ _ _ _ _ _ _ (T11.setTop (mkF m 8 #[.val (.int n), .val (.ref aa), .val (.int (4 : Int32)), .unset, .unset] [(.int (0 : Int32))]))
  refine own_go (fun _ k => XS.istoreN X11.here hx rfl (hb hby d1_8) rfl (l' := #[.val (.int n), .val (.ref aa), .val (.int (4 : Int32)), .val (.int (0 : Int32)), .unset]) rfl k) ?_
  show own_E _ _ _ _ _ _ _ (T11.setTop (mkF m 9 #[.val (.int n), .val (.ref aa), .val (.int (4 : Int32)), .val (.int (0 : Int32)), .unset] []))
  refine own_go (fun _ k => XS.iloadN X11.here hx rfl (hb hby d1_9) rfl k) ?_
  show own_E _ _ _ _ _ _ _ (T11.setTop (mkF m 10 #[.val (.int n), .val (.ref aa), .val (.int (4 : Int32)), .val (.int (0 : Int32)), .unset] [(.int (0 : Int32))]))
  refine own_go (fun _ k => XS.iloadN X11.here hx rfl (hb hby d1_10) rfl k) ?_
  show own_E _ _ _ _ _ _ _ (T11.setTop (mkF m 11 #[.val (.int n), .val (.ref aa), .val (.int (4 : Int32)), .val (.int (0 : Int32)), .unset] [(.int (4 : Int32)), (.int (0 : Int32))]))
  refine own_go (fun _ k => XS.icmpNo X11.here hx rfl (hb hby d1_11) rfl (by decide) k) ?_
  show own_E _ _ _ _ _ _ _ (T11.setTop (mkF m 14 #[.val (.int n), .val (.ref aa), .val (.int (4 : Int32)), .val (.int (0 : Int32)), .unset] []))
  refine own_go (fun _ k => XS.aloadN X11.here hx rfl (hb hby d1_14) rfl rfl k) ?_
  show own_E _ _ _ _ _ _ _ (T11.setTop (mkF m 15 #[.val (.int n), .val (.ref aa), .val (.int (4 : Int32)), .val (.int (0 : Int32)), .unset] [(.ref aa)]))
  refine own_go (fun _ k => XS.iloadN X11.here hx rfl (hb hby d1_15) rfl k) ?_
  show own_E _ _ _ _ _ _ _ (T11.setTop (mkF m 16 #[.val (.int n), .val (.ref aa), .val (.int (4 : Int32)), .val (.int (0 : Int32)), .unset] [(.int (0 : Int32)), (.ref aa)]))
  obtain ⟨c13, a13, i13, u13⟩ := own_at V11 (j := (0 : Int32)) (by decide)
  refine own_go (own_aaload X11 hx hZ e11 a13 rfl (j := (0 : Int32)) (v := (.ref w0)) i13 u13 (g := (mkF m 16 #[.val (.int n), .val (.ref aa), .val (.int (4 : Int32)), .val (.int (0 : Int32)), .unset] [(.int (0 : Int32)), (.ref aa)])) rfl rfl (hb hby d1_16)) ?_
  show own_E _ _ _ _ _ _ _ (T11.setTop (mkF m 17 #[.val (.int n), .val (.ref aa), .val (.int (4 : Int32)), .val (.int (0 : Int32)), .unset] [(.ref w0)]))
  refine own_go (fun _ k => XS.astore X11.here hx rfl (hb hby d1_17) rfl rfl (l' := #[.val (.int n), .val (.ref aa), .val (.int (4 : Int32)), .val (.int (0 : Int32)), .val (.ref w0)]) rfl k) ?_
  show own_E _ _ _ _ _ _ _ (T11.setTop (mkF m 19 #[.val (.int n), .val (.ref aa), .val (.int (4 : Int32)), .val (.int (0 : Int32)), .val (.ref w0)] []))
  refine own_go (fun _ k => XS.aload X11.here hx rfl (hb hby d1_19) rfl rfl k) ?_
  show own_E _ _ _ _ _ _ _ (T11.setTop (mkF m 21 #[.val (.int n), .val (.ref aa), .val (.int (4 : Int32)), .val (.int (0 : Int32)), .val (.ref w0)] [(.ref w0)]))
  obtain ⟨T14, X14, e14, st14⟩ := getF X11 hx hZ hown (host := "") (Or.inl (hw _ (List.mem_of_getElem? (i := 23) rfl))) Via.refl e11 f11_0 (g := (mkF m 21 #[.val (.int n), .val (.ref aa), .val (.int (4 : Int32)), .val (.int (0 : Int32)), .val (.ref w0)] [(.ref w0)])) rfl rfl (hb hby d1_21)
  refine own_go st14 ?_
  show own_E _ _ _ _ _ _ _ (T14.setTop (mkF m 24 #[.val (.int n), .val (.ref aa), .val (.int (4 : Int32)), .val (.int (0 : Int32)), .val (.ref w0)] [(.int (1 : Int32))]))
  refine own_go (fun _ k => XS.iloadN X14.here hx rfl (hb hby d1_24) rfl k) ?_
  show own_E _ _ _ _ _ _ _ (T14.setTop (mkF m 25 #[.val (.int n), .val (.ref aa), .val (.int (4 : Int32)), .val (.int (0 : Int32)), .val (.ref w0)] [(.int n), (.int (1 : Int32))]))
  by_cases q0 : n = 1
  ·
    refine own_go (fun _ k => XS.icmpNo X14.here hx rfl (hb hby d1_25) rfl (teq q0.symm).2 k) ?_
    show own_E _ _ _ _ _ _ _ (T14.setTop (mkF m 28 #[.val (.int n), .val (.ref aa), .val (.int (4 : Int32)), .val (.int (0 : Int32)), .val (.ref w0)] []))
    refine own_go (fun _ k => XS.aload X14.here hx rfl (hb hby d1_28) rfl rfl k) ?_
    show own_E _ _ _ _ _ _ _ (T14.setTop (mkF m 30 #[.val (.int n), .val (.ref aa), .val (.int (4 : Int32)), .val (.int (0 : Int32)), .val (.ref w0)] [(.ref w0)]))
    exact own_ret X14 hx Bd.returns Bd.notSynchronized rfl (Or.inr (Or.inr (Or.inr (Or.inr ⟨rfl, rfl, rfl⟩)))) (hb hby d1_30) (by rw [e14]; exact ⟨by simp [own_pick, q0], M11, E11⟩) (by decide) (by decide)
  ·
    refine own_go (fun _ k => XS.icmpYes X14.here hx rfl (pc0 := 25) (pc' := 31) rfl (hb hby d1_25) rfl (feq (fun z => q0 z.symm)).2 (by decide) (by decide) k) ?_
    show own_E _ _ _ _ _ _ _ (T14.setTop (mkF m 31 #[.val (.int n), .val (.ref aa), .val (.int (4 : Int32)), .val (.int (0 : Int32)), .val (.ref w0)] []))
    refine own_go (fun _ k => XT.iincV X14.here hx rfl (1 : Int32) (hb hby d1_31) (by decide) rfl (l' := #[.val (.int n), .val (.ref aa), .val (.int (4 : Int32)), .val (.int (1 : Int32)), .val (.ref w0)]) rfl k) ?_
    show own_E _ _ _ _ _ _ _ (T14.setTop (mkF m 34 #[.val (.int n), .val (.ref aa), .val (.int (4 : Int32)), .val (.int (1 : Int32)), .val (.ref w0)] []))
    refine own_go (fun _ k => XS.goto X14.here hx rfl (pc0 := 34) (pc' := 9) rfl (hb hby d1_34) (by decide) (by decide) k) ?_
    show own_E _ _ _ _ _ _ _ (T14.setTop (mkF m 9 #[.val (.int n), .val (.ref aa), .val (.int (4 : Int32)), .val (.int (1 : Int32)), .val (.ref w0)] []))
    refine own_go (fun _ k => XS.iloadN X14.here hx rfl (hb hby d1_9) rfl k) ?_
    show own_E _ _ _ _ _ _ _ (T14.setTop (mkF m 10 #[.val (.int n), .val (.ref aa), .val (.int (4 : Int32)), .val (.int (1 : Int32)), .val (.ref w0)] [(.int (1 : Int32))]))
    refine own_go (fun _ k => XS.iloadN X14.here hx rfl (hb hby d1_10) rfl k) ?_
    show own_E _ _ _ _ _ _ _ (T14.setTop (mkF m 11 #[.val (.int n), .val (.ref aa), .val (.int (4 : Int32)), .val (.int (1 : Int32)), .val (.ref w0)] [(.int (4 : Int32)), (.int (1 : Int32))]))
    refine own_go (fun _ k => XS.icmpNo X14.here hx rfl (hb hby d1_11) rfl (by decide) k) ?_
    show own_E _ _ _ _ _ _ _ (T14.setTop (mkF m 14 #[.val (.int n), .val (.ref aa), .val (.int (4 : Int32)), .val (.int (1 : Int32)), .val (.ref w0)] []))
    refine own_go (fun _ k => XS.aloadN X14.here hx rfl (hb hby d1_14) rfl rfl k) ?_
    show own_E _ _ _ _ _ _ _ (T14.setTop (mkF m 15 #[.val (.int n), .val (.ref aa), .val (.int (4 : Int32)), .val (.int (1 : Int32)), .val (.ref w0)] [(.ref aa)]))
    refine own_go (fun _ k => XS.iloadN X14.here hx rfl (hb hby d1_15) rfl k) ?_
    show own_E _ _ _ _ _ _ _ (T14.setTop (mkF m 16 #[.val (.int n), .val (.ref aa), .val (.int (4 : Int32)), .val (.int (1 : Int32)), .val (.ref w0)] [(.int (1 : Int32)), (.ref aa)]))
    obtain ⟨c15, a15, i15, u15⟩ := own_at V11 (j := (1 : Int32)) (by decide)
    refine own_go (own_aaload X14 hx hZ e14 a15 rfl (j := (1 : Int32)) (v := (.ref w1)) i15 u15 (g := (mkF m 16 #[.val (.int n), .val (.ref aa), .val (.int (4 : Int32)), .val (.int (1 : Int32)), .val (.ref w0)] [(.int (1 : Int32)), (.ref aa)])) rfl rfl (hb hby d1_16)) ?_
    show own_E _ _ _ _ _ _ _ (T14.setTop (mkF m 17 #[.val (.int n), .val (.ref aa), .val (.int (4 : Int32)), .val (.int (1 : Int32)), .val (.ref w0)] [(.ref w1)]))
    refine own_go (fun _ k => XS.astore X14.here hx rfl (hb hby d1_17) rfl rfl (l' := #[.val (.int n), .val (.ref aa), .val (.int (4 : Int32)), .val (.int (1 : Int32)), .val (.ref w1)]) rfl k) ?_
    show own_E _ _ _ _ _ _ _ (T14.setTop (mkF m 19 #[.val (.int n), .val (.ref aa), .val (.int (4 : Int32)), .val (.int (1 : Int32)), .val (.ref w1)] []))
    refine own_go (fun _ k => XS.aload X14.here hx rfl (hb hby d1_19) rfl rfl k) ?_
    show own_E _ _ _ _ _ _ _ (T14.setTop (mkF m 21 #[.val (.int n), .val (.ref aa), .val (.int (4 : Int32)), .val (.int (1 : Int32)), .val (.ref w1)] [(.ref w1)]))
    obtain ⟨T16, X16, e16, st16⟩ := getF X14 hx hZ hown (host := "") (Or.inl (hw _ (List.mem_of_getElem? (i := 23) rfl))) Via.refl e14 f11_1 (g := (mkF m 21 #[.val (.int n), .val (.ref aa), .val (.int (4 : Int32)), .val (.int (1 : Int32)), .val (.ref w1)] [(.ref w1)])) rfl rfl (hb hby d1_21)
    refine own_go st16 ?_
    show own_E _ _ _ _ _ _ _ (T16.setTop (mkF m 24 #[.val (.int n), .val (.ref aa), .val (.int (4 : Int32)), .val (.int (1 : Int32)), .val (.ref w1)] [(.int (2 : Int32))]))
    refine own_go (fun _ k => XS.iloadN X16.here hx rfl (hb hby d1_24) rfl k) ?_
    show own_E _ _ _ _ _ _ _ (T16.setTop (mkF m 25 #[.val (.int n), .val (.ref aa), .val (.int (4 : Int32)), .val (.int (1 : Int32)), .val (.ref w1)] [(.int n), (.int (2 : Int32))]))
    by_cases q1 : n = 2
    ·
      refine own_go (fun _ k => XS.icmpNo X16.here hx rfl (hb hby d1_25) rfl (teq q1.symm).2 k) ?_
      show own_E _ _ _ _ _ _ _ (T16.setTop (mkF m 28 #[.val (.int n), .val (.ref aa), .val (.int (4 : Int32)), .val (.int (1 : Int32)), .val (.ref w1)] []))
      refine own_go (fun _ k => XS.aload X16.here hx rfl (hb hby d1_28) rfl rfl k) ?_
      show own_E _ _ _ _ _ _ _ (T16.setTop (mkF m 30 #[.val (.int n), .val (.ref aa), .val (.int (4 : Int32)), .val (.int (1 : Int32)), .val (.ref w1)] [(.ref w1)]))
      exact own_ret X16 hx Bd.returns Bd.notSynchronized rfl (Or.inr (Or.inr (Or.inr (Or.inr ⟨rfl, rfl, rfl⟩)))) (hb hby d1_30) (by rw [e16]; exact ⟨by simp [own_pick, q1], M11, E11⟩) (by decide) (by decide)
    ·
      refine own_go (fun _ k => XS.icmpYes X16.here hx rfl (pc0 := 25) (pc' := 31) rfl (hb hby d1_25) rfl (feq (fun z => q1 z.symm)).2 (by decide) (by decide) k) ?_
      show own_E _ _ _ _ _ _ _ (T16.setTop (mkF m 31 #[.val (.int n), .val (.ref aa), .val (.int (4 : Int32)), .val (.int (1 : Int32)), .val (.ref w1)] []))
      refine own_go (fun _ k => XT.iincV X16.here hx rfl (1 : Int32) (hb hby d1_31) (by decide) rfl (l' := #[.val (.int n), .val (.ref aa), .val (.int (4 : Int32)), .val (.int (2 : Int32)), .val (.ref w1)]) rfl k) ?_
      show own_E _ _ _ _ _ _ _ (T16.setTop (mkF m 34 #[.val (.int n), .val (.ref aa), .val (.int (4 : Int32)), .val (.int (2 : Int32)), .val (.ref w1)] []))
      refine own_go (fun _ k => XS.goto X16.here hx rfl (pc0 := 34) (pc' := 9) rfl (hb hby d1_34) (by decide) (by decide) k) ?_
      show own_E _ _ _ _ _ _ _ (T16.setTop (mkF m 9 #[.val (.int n), .val (.ref aa), .val (.int (4 : Int32)), .val (.int (2 : Int32)), .val (.ref w1)] []))
      refine own_go (fun _ k => XS.iloadN X16.here hx rfl (hb hby d1_9) rfl k) ?_
      show own_E _ _ _ _ _ _ _ (T16.setTop (mkF m 10 #[.val (.int n), .val (.ref aa), .val (.int (4 : Int32)), .val (.int (2 : Int32)), .val (.ref w1)] [(.int (2 : Int32))]))
      refine own_go (fun _ k => XS.iloadN X16.here hx rfl (hb hby d1_10) rfl k) ?_
      show own_E _ _ _ _ _ _ _ (T16.setTop (mkF m 11 #[.val (.int n), .val (.ref aa), .val (.int (4 : Int32)), .val (.int (2 : Int32)), .val (.ref w1)] [(.int (4 : Int32)), (.int (2 : Int32))]))
      refine own_go (fun _ k => XS.icmpNo X16.here hx rfl (hb hby d1_11) rfl (by decide) k) ?_
      show own_E _ _ _ _ _ _ _ (T16.setTop (mkF m 14 #[.val (.int n), .val (.ref aa), .val (.int (4 : Int32)), .val (.int (2 : Int32)), .val (.ref w1)] []))
      refine own_go (fun _ k => XS.aloadN X16.here hx rfl (hb hby d1_14) rfl rfl k) ?_
      show own_E _ _ _ _ _ _ _ (T16.setTop (mkF m 15 #[.val (.int n), .val (.ref aa), .val (.int (4 : Int32)), .val (.int (2 : Int32)), .val (.ref w1)] [(.ref aa)]))
      refine own_go (fun _ k => XS.iloadN X16.here hx rfl (hb hby d1_15) rfl k) ?_
      show own_E _ _ _ _ _ _ _ (T16.setTop (mkF m 16 #[.val (.int n), .val (.ref aa), .val (.int (4 : Int32)), .val (.int (2 : Int32)), .val (.ref w1)] [(.int (2 : Int32)), (.ref aa)]))
      obtain ⟨c17, a17, i17, u17⟩ := own_at V11 (j := (2 : Int32)) (by decide)
      refine own_go (own_aaload X16 hx hZ e16 a17 rfl (j := (2 : Int32)) (v := (.ref w2)) i17 u17 (g := (mkF m 16 #[.val (.int n), .val (.ref aa), .val (.int (4 : Int32)), .val (.int (2 : Int32)), .val (.ref w1)] [(.int (2 : Int32)), (.ref aa)])) rfl rfl (hb hby d1_16)) ?_
      show own_E _ _ _ _ _ _ _ (T16.setTop (mkF m 17 #[.val (.int n), .val (.ref aa), .val (.int (4 : Int32)), .val (.int (2 : Int32)), .val (.ref w1)] [(.ref w2)]))
      refine own_go (fun _ k => XS.astore X16.here hx rfl (hb hby d1_17) rfl rfl (l' := #[.val (.int n), .val (.ref aa), .val (.int (4 : Int32)), .val (.int (2 : Int32)), .val (.ref w2)]) rfl k) ?_
      show own_E _ _ _ _ _ _ _ (T16.setTop (mkF m 19 #[.val (.int n), .val (.ref aa), .val (.int (4 : Int32)), .val (.int (2 : Int32)), .val (.ref w2)] []))
      refine own_go (fun _ k => XS.aload X16.here hx rfl (hb hby d1_19) rfl rfl k) ?_
      show own_E _ _ _ _ _ _ _ (T16.setTop (mkF m 21 #[.val (.int n), .val (.ref aa), .val (.int (4 : Int32)), .val (.int (2 : Int32)), .val (.ref w2)] [(.ref w2)]))
      obtain ⟨T18, X18, e18, st18⟩ := getF X16 hx hZ hown (host := "") (Or.inl (hw _ (List.mem_of_getElem? (i := 23) rfl))) Via.refl e16 f11_2 (g := (mkF m 21 #[.val (.int n), .val (.ref aa), .val (.int (4 : Int32)), .val (.int (2 : Int32)), .val (.ref w2)] [(.ref w2)])) rfl rfl (hb hby d1_21)
      refine own_go st18 ?_
      show own_E _ _ _ _ _ _ _ (T18.setTop (mkF m 24 #[.val (.int n), .val (.ref aa), .val (.int (4 : Int32)), .val (.int (2 : Int32)), .val (.ref w2)] [(.int (3 : Int32))]))
      refine own_go (fun _ k => XS.iloadN X18.here hx rfl (hb hby d1_24) rfl k) ?_
      show own_E _ _ _ _ _ _ _ (T18.setTop (mkF m 25 #[.val (.int n), .val (.ref aa), .val (.int (4 : Int32)), .val (.int (2 : Int32)), .val (.ref w2)] [(.int n), (.int (3 : Int32))]))
      by_cases q2 : n = 3
      ·
        refine own_go (fun _ k => XS.icmpNo X18.here hx rfl (hb hby d1_25) rfl (teq q2.symm).2 k) ?_
        show own_E _ _ _ _ _ _ _ (T18.setTop (mkF m 28 #[.val (.int n), .val (.ref aa), .val (.int (4 : Int32)), .val (.int (2 : Int32)), .val (.ref w2)] []))
        refine own_go (fun _ k => XS.aload X18.here hx rfl (hb hby d1_28) rfl rfl k) ?_
        show own_E _ _ _ _ _ _ _ (T18.setTop (mkF m 30 #[.val (.int n), .val (.ref aa), .val (.int (4 : Int32)), .val (.int (2 : Int32)), .val (.ref w2)] [(.ref w2)]))
        exact own_ret X18 hx Bd.returns Bd.notSynchronized rfl (Or.inr (Or.inr (Or.inr (Or.inr ⟨rfl, rfl, rfl⟩)))) (hb hby d1_30) (by rw [e18]; exact ⟨by simp [own_pick, q2], M11, E11⟩) (by decide) (by decide)
      ·
        refine own_go (fun _ k => XS.icmpYes X18.here hx rfl (pc0 := 25) (pc' := 31) rfl (hb hby d1_25) rfl (feq (fun z => q2 z.symm)).2 (by decide) (by decide) k) ?_
        show own_E _ _ _ _ _ _ _ (T18.setTop (mkF m 31 #[.val (.int n), .val (.ref aa), .val (.int (4 : Int32)), .val (.int (2 : Int32)), .val (.ref w2)] []))
        refine own_go (fun _ k => XT.iincV X18.here hx rfl (1 : Int32) (hb hby d1_31) (by decide) rfl (l' := #[.val (.int n), .val (.ref aa), .val (.int (4 : Int32)), .val (.int (3 : Int32)), .val (.ref w2)]) rfl k) ?_
        show own_E _ _ _ _ _ _ _ (T18.setTop (mkF m 34 #[.val (.int n), .val (.ref aa), .val (.int (4 : Int32)), .val (.int (3 : Int32)), .val (.ref w2)] []))
        refine own_go (fun _ k => XS.goto X18.here hx rfl (pc0 := 34) (pc' := 9) rfl (hb hby d1_34) (by decide) (by decide) k) ?_
        show own_E _ _ _ _ _ _ _ (T18.setTop (mkF m 9 #[.val (.int n), .val (.ref aa), .val (.int (4 : Int32)), .val (.int (3 : Int32)), .val (.ref w2)] []))
        refine own_go (fun _ k => XS.iloadN X18.here hx rfl (hb hby d1_9) rfl k) ?_
        show own_E _ _ _ _ _ _ _ (T18.setTop (mkF m 10 #[.val (.int n), .val (.ref aa), .val (.int (4 : Int32)), .val (.int (3 : Int32)), .val (.ref w2)] [(.int (3 : Int32))]))
        refine own_go (fun _ k => XS.iloadN X18.here hx rfl (hb hby d1_10) rfl k) ?_
        show own_E _ _ _ _ _ _ _ (T18.setTop (mkF m 11 #[.val (.int n), .val (.ref aa), .val (.int (4 : Int32)), .val (.int (3 : Int32)), .val (.ref w2)] [(.int (4 : Int32)), (.int (3 : Int32))]))
        refine own_go (fun _ k => XS.icmpNo X18.here hx rfl (hb hby d1_11) rfl (by decide) k) ?_
        show own_E _ _ _ _ _ _ _ (T18.setTop (mkF m 14 #[.val (.int n), .val (.ref aa), .val (.int (4 : Int32)), .val (.int (3 : Int32)), .val (.ref w2)] []))
        refine own_go (fun _ k => XS.aloadN X18.here hx rfl (hb hby d1_14) rfl rfl k) ?_
        show own_E _ _ _ _ _ _ _ (T18.setTop (mkF m 15 #[.val (.int n), .val (.ref aa), .val (.int (4 : Int32)), .val (.int (3 : Int32)), .val (.ref w2)] [(.ref aa)]))
        refine own_go (fun _ k => XS.iloadN X18.here hx rfl (hb hby d1_15) rfl k) ?_
        show own_E _ _ _ _ _ _ _ (T18.setTop (mkF m 16 #[.val (.int n), .val (.ref aa), .val (.int (4 : Int32)), .val (.int (3 : Int32)), .val (.ref w2)] [(.int (3 : Int32)), (.ref aa)]))
        obtain ⟨c19, a19, i19, u19⟩ := own_at V11 (j := (3 : Int32)) (by decide)
        refine own_go (own_aaload X18 hx hZ e18 a19 rfl (j := (3 : Int32)) (v := (.ref w3)) i19 u19 (g := (mkF m 16 #[.val (.int n), .val (.ref aa), .val (.int (4 : Int32)), .val (.int (3 : Int32)), .val (.ref w2)] [(.int (3 : Int32)), (.ref aa)])) rfl rfl (hb hby d1_16)) ?_
        show own_E _ _ _ _ _ _ _ (T18.setTop (mkF m 17 #[.val (.int n), .val (.ref aa), .val (.int (4 : Int32)), .val (.int (3 : Int32)), .val (.ref w2)] [(.ref w3)]))
        refine own_go (fun _ k => XS.astore X18.here hx rfl (hb hby d1_17) rfl rfl (l' := #[.val (.int n), .val (.ref aa), .val (.int (4 : Int32)), .val (.int (3 : Int32)), .val (.ref w3)]) rfl k) ?_
        show own_E _ _ _ _ _ _ _ (T18.setTop (mkF m 19 #[.val (.int n), .val (.ref aa), .val (.int (4 : Int32)), .val (.int (3 : Int32)), .val (.ref w3)] []))
        refine own_go (fun _ k => XS.aload X18.here hx rfl (hb hby d1_19) rfl rfl k) ?_
        show own_E _ _ _ _ _ _ _ (T18.setTop (mkF m 21 #[.val (.int n), .val (.ref aa), .val (.int (4 : Int32)), .val (.int (3 : Int32)), .val (.ref w3)] [(.ref w3)]))
        obtain ⟨T20, X20, e20, st20⟩ := getF X18 hx hZ hown (host := "") (Or.inl (hw _ (List.mem_of_getElem? (i := 23) rfl))) Via.refl e18 f11_3 (g := (mkF m 21 #[.val (.int n), .val (.ref aa), .val (.int (4 : Int32)), .val (.int (3 : Int32)), .val (.ref w3)] [(.ref w3)])) rfl rfl (hb hby d1_21)
        refine own_go st20 ?_
        show own_E _ _ _ _ _ _ _ (T20.setTop (mkF m 24 #[.val (.int n), .val (.ref aa), .val (.int (4 : Int32)), .val (.int (3 : Int32)), .val (.ref w3)] [(.int (4 : Int32))]))
        refine own_go (fun _ k => XS.iloadN X20.here hx rfl (hb hby d1_24) rfl k) ?_
        show own_E _ _ _ _ _ _ _ (T20.setTop (mkF m 25 #[.val (.int n), .val (.ref aa), .val (.int (4 : Int32)), .val (.int (3 : Int32)), .val (.ref w3)] [(.int n), (.int (4 : Int32))]))
        by_cases q3 : n = 4
        ·
          refine own_go (fun _ k => XS.icmpNo X20.here hx rfl (hb hby d1_25) rfl (teq q3.symm).2 k) ?_
          show own_E _ _ _ _ _ _ _ (T20.setTop (mkF m 28 #[.val (.int n), .val (.ref aa), .val (.int (4 : Int32)), .val (.int (3 : Int32)), .val (.ref w3)] []))
          refine own_go (fun _ k => XS.aload X20.here hx rfl (hb hby d1_28) rfl rfl k) ?_
          show own_E _ _ _ _ _ _ _ (T20.setTop (mkF m 30 #[.val (.int n), .val (.ref aa), .val (.int (4 : Int32)), .val (.int (3 : Int32)), .val (.ref w3)] [(.ref w3)]))
          exact own_ret X20 hx Bd.returns Bd.notSynchronized rfl (Or.inr (Or.inr (Or.inr (Or.inr ⟨rfl, rfl, rfl⟩)))) (hb hby d1_30) (by rw [e20]; exact ⟨by simp [own_pick, q3], M11, E11⟩) (by decide) (by decide)
        ·
          refine own_go (fun _ k => XS.icmpYes X20.here hx rfl (pc0 := 25) (pc' := 31) rfl (hb hby d1_25) rfl (feq (fun z => q3 z.symm)).2 (by decide) (by decide) k) ?_
          show own_E _ _ _ _ _ _ _ (T20.setTop (mkF m 31 #[.val (.int n), .val (.ref aa), .val (.int (4 : Int32)), .val (.int (3 : Int32)), .val (.ref w3)] []))
          refine own_go (fun _ k => XT.iincV X20.here hx rfl (1 : Int32) (hb hby d1_31) (by decide) rfl (l' := #[.val (.int n), .val (.ref aa), .val (.int (4 : Int32)), .val (.int (4 : Int32)), .val (.ref w3)]) rfl k) ?_
          show own_E _ _ _ _ _ _ _ (T20.setTop (mkF m 34 #[.val (.int n), .val (.ref aa), .val (.int (4 : Int32)), .val (.int (4 : Int32)), .val (.ref w3)] []))
          refine own_go (fun _ k => XS.goto X20.here hx rfl (pc0 := 34) (pc' := 9) rfl (hb hby d1_34) (by decide) (by decide) k) ?_
          show own_E _ _ _ _ _ _ _ (T20.setTop (mkF m 9 #[.val (.int n), .val (.ref aa), .val (.int (4 : Int32)), .val (.int (4 : Int32)), .val (.ref w3)] []))
          refine own_go (fun _ k => XS.iloadN X20.here hx rfl (hb hby d1_9) rfl k) ?_
          show own_E _ _ _ _ _ _ _ (T20.setTop (mkF m 10 #[.val (.int n), .val (.ref aa), .val (.int (4 : Int32)), .val (.int (4 : Int32)), .val (.ref w3)] [(.int (4 : Int32))]))
          refine own_go (fun _ k => XS.iloadN X20.here hx rfl (hb hby d1_10) rfl k) ?_
          show own_E _ _ _ _ _ _ _ (T20.setTop (mkF m 11 #[.val (.int n), .val (.ref aa), .val (.int (4 : Int32)), .val (.int (4 : Int32)), .val (.ref w3)] [(.int (4 : Int32)), (.int (4 : Int32))]))
          refine own_go (fun _ k => XS.icmpYes X20.here hx rfl (pc0 := 11) (pc' := 37) rfl (hb hby d1_11) rfl (by decide) (by decide) (by decide) k) ?_
          show own_E _ _ _ _ _ _ _ (T20.setTop (mkF m 37 #[.val (.int n), .val (.ref aa), .val (.int (4 : Int32)), .val (.int (4 : Int32)), .val (.ref w3)] []))
          refine own_go (fun _ k => XS.aconstNull X20.here hx rfl (hb hby d1_37) k) ?_
          show own_E _ _ _ _ _ _ _ (T20.setTop (mkF m 38 #[.val (.int n), .val (.ref aa), .val (.int (4 : Int32)), .val (.int (4 : Int32)), .val (.ref w3)] [.null]))
          exact own_ret X20 hx Bd.returns Bd.notSynchronized rfl (Or.inr (Or.inr (Or.inr (Or.inr ⟨rfl, rfl, rfl⟩)))) (hb hby d1_38) (by rw [e20]; exact ⟨by simp [own_pick, q0, q1, q2, q3], M11, E11⟩) (by decide) (by decide)
theorem d3_0 : decode method_2_code 0 = .ok (.iload_n 0, 1) := by decide +kernel
theorem d3_1 : decode method_2_code 1 = .ok (.iconst 1, 1) := by decide +kernel
theorem d3_2 : decode method_2_code 2 = .ok (.if_icmp .ne 7, 3) := by decide +kernel
theorem d3_5 : decode method_2_code 5 = .ok (.getstatic 7, 3) := by decide +kernel
theorem d3_8 : decode method_2_code 8 = .ok (.areturn, 1) := by decide +kernel
theorem d3_9 : decode method_2_code 9 = .ok (.iload_n 0, 1) := by decide +kernel
theorem d3_10 : decode method_2_code 10 = .ok (.iconst 2, 1) := by decide +kernel
theorem d3_11 : decode method_2_code 11 = .ok (.if_icmp .ne 7, 3) := by decide +kernel
theorem d3_14 : decode method_2_code 14 = .ok (.getstatic 13, 3) := by decide +kernel
theorem d3_17 : decode method_2_code 17 = .ok (.areturn, 1) := by decide +kernel
theorem d3_18 : decode method_2_code 18 = .ok (.iload_n 0, 1) := by decide +kernel
theorem d3_19 : decode method_2_code 19 = .ok (.iconst 3, 1) := by decide +kernel
theorem d3_20 : decode method_2_code 20 = .ok (.if_icmp .ne 7, 3) := by decide +kernel
theorem d3_23 : decode method_2_code 23 = .ok (.getstatic 16, 3) := by decide +kernel
theorem d3_26 : decode method_2_code 26 = .ok (.areturn, 1) := by decide +kernel
theorem d3_27 : decode method_2_code 27 = .ok (.iload_n 0, 1) := by decide +kernel
theorem d3_28 : decode method_2_code 28 = .ok (.iconst 4, 1) := by decide +kernel
theorem d3_29 : decode method_2_code 29 = .ok (.if_icmp .ne 7, 3) := by decide +kernel
theorem d3_32 : decode method_2_code 32 = .ok (.getstatic 19, 3) := by decide +kernel
theorem d3_35 : decode method_2_code 35 = .ok (.areturn, 1) := by decide +kernel
theorem d3_36 : decode method_2_code 36 = .ok (.aconst_null, 1) := by decide +kernel
theorem d3_37 : decode method_2_code 37 = .ok (.areturn, 1) := by decide +kernel
def Qrm3 (n : Int32) (w0 : Addr) (w1 : Addr) (w2 : Addr) (w3 : Addr) (Z : State) (h0 : Heap) (n0 : Nat) (v : Option Value) (h : Heap) (L : List Loc) : Prop := v = some (own_pick w0 w1 w2 w3 n) ∧ Fr n0 L ∧ h = h0
set_option maxRecDepth 65536 in
set_option maxHeartbeats 40000000 in
theorem rm3 (l : Launch) (Z : State) (a0 : Array Value) (hw : ∀ d ∈ tables_1, d.before a0 Z = true) (n : Int32) (w0 : Addr) (w1 : Addr) (w2 : Addr) (w3 : Addr) (h0 : Heap) (n0 : Nat) (Z0 : n0 ≤ h0.size) (S0 : Sta Z h0 "com/example/libmember/libmember/hash/HashScheme" "DOUBLE_HASHING" "Lcom/example/libmember/libmember/hash/HashScheme;" (.ref w0)) (S1 : Sta Z h0 "com/example/libmember/libmember/hash/HashScheme" "WINDOWED" "Lcom/example/libmember/libmember/hash/HashScheme;" (.ref w1)) (S2 : Sta Z h0 "com/example/libmember/libmember/hash/HashScheme" "BLOCKED" "Lcom/example/libmember/libmember/hash/HashScheme;" (.ref w2)) (S3 : Sta Z h0 "com/example/libmember/libmember/hash/HashScheme" "SCALED_WINDOW" "Lcom/example/libmember/libmember/hash/HashScheme;" (.ref w3)) :
    MetFree l (⟨"com/example/libmember/libmember/hash/HashSchemeOfNumberPinLaw", "expected", "(I)Lcom/example/libmember/libmember/hash/HashScheme;"⟩ : MethodName) (head1 (Jvm.Cond.code (⟨"com/example/libmember/libmember/hash/HashSchemeOfNumberPinLaw", "expected", "(I)Lcom/example/libmember/libmember/hash/HashScheme;"⟩ : MethodName) method_2_code 1 (some (.object "com/example/libmember/libmember/hash/HashScheme")) :: []) ({ frames := 0, cells := 0, slots := 0, locals := 0 } : Room)) (fun ar_ U => ar_ = #[(.int n)] ∧ Z.Warmed39 U.vm ∧ U.heap = h0) (fun _ _ _ _ _ => True) (fun _ U o U' => ∃ v L, o = .returned v ∧ Qrm3 n w0 w1 w2 w3 Z h0 n0 v U'.heap L ∧ FrameEnd U o U' L ({ frames := 0, cells := 0, slots := 0, locals := 0 } : Room).cells ({ frames := 0, cells := 0, slots := 0, locals := 0 } : Room).slots) := by
  refine MetFree.of_bodySF (plainFor_of_name (by first | (simp [plainName, overriddenIn]; done) | decide +kernel)) hisR ?_
  intro p e s m args below meth c s₁ Bd hml0 hP hK
  obtain ⟨rfl, hZ, hh⟩ := hP
  have hx := Bd.exec
  have hby := Bd.bytes
  have hml : c.maxLocals = 1 := hml0
  have hown : s.vm.findClass "com/example/libmember/libmember/hash/HashSchemeOfNumberPinLaw" = some m.cls := findClass_of_methodNamed Bd.named
  have hnm := (name_of_methodNamed Bd.named Bd.method).1
  have X0 : Stand p l e ({ frames := 0, cells := 0, slots := 0, locals := 0 } : Room) s m #[(.int n)] below meth c s₁ [] 0 0 := Stand.of_body Bd
  have e0 : s₁.heap = h0 := by rw [← hh, Bd.state]; rfl
  have N0 := Fr.nil n0
  show own_E p e below s (Qrm3 n w0 w1 w2 w3 Z h0 n0) ({ frames := 0, cells := 0, slots := 0, locals := 0 } : Room).cells ({ frames := 0, cells := 0, slots := 0, locals := 0 } : Room).slots (s₁.setTop (entryFrame m #[(.int n)] 1))
  refine own_go (fun t k => castTop (show _ = (mkF m 0 #[.val (.int n)] []) from by first | (simp [entryFrame, mkF, argsToLocals, Value.category]; done) | rfl) k) ?_
  show own_E _ _ _ _ _ _ _ (s₁.setTop (mkF m 0 #[.val (.int n)] []))
  refine own_go (fun _ k => XS.iloadN X0.here hx rfl (hb hby d3_0) rfl k) ?_
  show own_E _ _ _ _ _ _ _ (s₁.setTop (mkF m 1 #[.val (.int n)] [(.int n)]))
  refine own_go (fun _ k => XT.iconstV X0.here hx rfl (1 : Int32) (hb hby d3_1) (by decide) k) ?_
  show own_E _ _ _ _ _ _ _ (s₁.setTop (mkF m 2 #[.val (.int n)] [(.int (1 : Int32)), (.int n)]))
  by_cases q0 : n = 1
  ·
    refine own_go (fun _ k => XS.icmpNo X0.here hx rfl (hb hby d3_2) rfl (teq q0).2 k) ?_
    show own_E _ _ _ _ _ _ _ (s₁.setTop (mkF m 5 #[.val (.int n)] []))
    obtain ⟨T1, X1, e1, st1⟩ := getS2 X0 hx hZ hown (host := "") (Or.inl (hw _ (List.mem_of_getElem? (i := 29) rfl))) Via.refl e0 S0 (g := (mkF m 5 #[.val (.int n)] [])) rfl (hb hby d3_5)
    refine own_go st1 ?_
    show own_E _ _ _ _ _ _ _ (T1.setTop (mkF m 8 #[.val (.int n)] [(.ref w0)]))
    exact own_ret X1 hx Bd.returns Bd.notSynchronized rfl (Or.inr (Or.inr (Or.inr (Or.inr ⟨rfl, rfl, rfl⟩)))) (hb hby d3_8) (by rw [e1]; exact ⟨by simp [own_pick, q0], N0, rfl⟩) (by decide) (by decide)
  ·
    refine own_go (fun _ k => XS.icmpYes X0.here hx rfl (pc0 := 2) (pc' := 9) rfl (hb hby d3_2) rfl (feq q0).2 (by decide) (by decide) k) ?_
    show own_E _ _ _ _ _ _ _ (s₁.setTop (mkF m 9 #[.val (.int n)] []))
    refine own_go (fun _ k => XS.iloadN X0.here hx rfl (hb hby d3_9) rfl k) ?_
    show own_E _ _ _ _ _ _ _ (s₁.setTop (mkF m 10 #[.val (.int n)] [(.int n)]))
    refine own_go (fun _ k => XT.iconstV X0.here hx rfl (2 : Int32) (hb hby d3_10) (by decide) k) ?_
    show own_E _ _ _ _ _ _ _ (s₁.setTop (mkF m 11 #[.val (.int n)] [(.int (2 : Int32)), (.int n)]))
    by_cases q1 : n = 2
    ·
      refine own_go (fun _ k => XS.icmpNo X0.here hx rfl (hb hby d3_11) rfl (teq q1).2 k) ?_
      show own_E _ _ _ _ _ _ _ (s₁.setTop (mkF m 14 #[.val (.int n)] []))
      obtain ⟨T2, X2, e2, st2⟩ := getS2 X0 hx hZ hown (host := "") (Or.inl (hw _ (List.mem_of_getElem? (i := 30) rfl))) Via.refl e0 S1 (g := (mkF m 14 #[.val (.int n)] [])) rfl (hb hby d3_14)
      refine own_go st2 ?_
      show own_E _ _ _ _ _ _ _ (T2.setTop (mkF m 17 #[.val (.int n)] [(.ref w1)]))
      exact own_ret X2 hx Bd.returns Bd.notSynchronized rfl (Or.inr (Or.inr (Or.inr (Or.inr ⟨rfl, rfl, rfl⟩)))) (hb hby d3_17) (by rw [e2]; exact ⟨by simp [own_pick, q1], N0, rfl⟩) (by decide) (by decide)
    ·
      refine own_go (fun _ k => XS.icmpYes X0.here hx rfl (pc0 := 11) (pc' := 18) rfl (hb hby d3_11) rfl (feq q1).2 (by decide) (by decide) k) ?_
      show own_E _ _ _ _ _ _ _ (s₁.setTop (mkF m 18 #[.val (.int n)] []))
      refine own_go (fun _ k => XS.iloadN X0.here hx rfl (hb hby d3_18) rfl k) ?_
      show own_E _ _ _ _ _ _ _ (s₁.setTop (mkF m 19 #[.val (.int n)] [(.int n)]))
      refine own_go (fun _ k => XT.iconstV X0.here hx rfl (3 : Int32) (hb hby d3_19) (by decide) k) ?_
      show own_E _ _ _ _ _ _ _ (s₁.setTop (mkF m 20 #[.val (.int n)] [(.int (3 : Int32)), (.int n)]))
      by_cases q2 : n = 3
      ·
        refine own_go (fun _ k => XS.icmpNo X0.here hx rfl (hb hby d3_20) rfl (teq q2).2 k) ?_
        show own_E _ _ _ _ _ _ _ (s₁.setTop (mkF m 23 #[.val (.int n)] []))
        obtain ⟨T3, X3, e3, st3⟩ := getS2 X0 hx hZ hown (host := "") (Or.inl (hw _ (List.mem_of_getElem? (i := 31) rfl))) Via.refl e0 S2 (g := (mkF m 23 #[.val (.int n)] [])) rfl (hb hby d3_23)
        refine own_go st3 ?_
        show own_E _ _ _ _ _ _ _ (T3.setTop (mkF m 26 #[.val (.int n)] [(.ref w2)]))
        exact own_ret X3 hx Bd.returns Bd.notSynchronized rfl (Or.inr (Or.inr (Or.inr (Or.inr ⟨rfl, rfl, rfl⟩)))) (hb hby d3_26) (by rw [e3]; exact ⟨by simp [own_pick, q2], N0, rfl⟩) (by decide) (by decide)
      ·
        refine own_go (fun _ k => XS.icmpYes X0.here hx rfl (pc0 := 20) (pc' := 27) rfl (hb hby d3_20) rfl (feq q2).2 (by decide) (by decide) k) ?_
        show own_E _ _ _ _ _ _ _ (s₁.setTop (mkF m 27 #[.val (.int n)] []))
        refine own_go (fun _ k => XS.iloadN X0.here hx rfl (hb hby d3_27) rfl k) ?_
        show own_E _ _ _ _ _ _ _ (s₁.setTop (mkF m 28 #[.val (.int n)] [(.int n)]))
        refine own_go (fun _ k => XT.iconstV X0.here hx rfl (4 : Int32) (hb hby d3_28) (by decide) k) ?_
        show own_E _ _ _ _ _ _ _ (s₁.setTop (mkF m 29 #[.val (.int n)] [(.int (4 : Int32)), (.int n)]))
        by_cases q3 : n = 4
        ·
          refine own_go (fun _ k => XS.icmpNo X0.here hx rfl (hb hby d3_29) rfl (teq q3).2 k) ?_
          show own_E _ _ _ _ _ _ _ (s₁.setTop (mkF m 32 #[.val (.int n)] []))
          obtain ⟨T4, X4, e4, st4⟩ := getS2 X0 hx hZ hown (host := "") (Or.inl (hw _ (List.mem_of_getElem? (i := 32) rfl))) Via.refl e0 S3 (g := (mkF m 32 #[.val (.int n)] [])) rfl (hb hby d3_32)
          refine own_go st4 ?_
          show own_E _ _ _ _ _ _ _ (T4.setTop (mkF m 35 #[.val (.int n)] [(.ref w3)]))
          exact own_ret X4 hx Bd.returns Bd.notSynchronized rfl (Or.inr (Or.inr (Or.inr (Or.inr ⟨rfl, rfl, rfl⟩)))) (hb hby d3_35) (by rw [e4]; exact ⟨by simp [own_pick, q3], N0, rfl⟩) (by decide) (by decide)
        ·
          refine own_go (fun _ k => XS.icmpYes X0.here hx rfl (pc0 := 29) (pc' := 36) rfl (hb hby d3_29) rfl (feq q3).2 (by decide) (by decide) k) ?_
          show own_E _ _ _ _ _ _ _ (s₁.setTop (mkF m 36 #[.val (.int n)] []))
          refine own_go (fun _ k => XS.aconstNull X0.here hx rfl (hb hby d3_36) k) ?_
          show own_E _ _ _ _ _ _ _ (s₁.setTop (mkF m 37 #[.val (.int n)] [.null]))
          exact own_ret X0 hx Bd.returns Bd.notSynchronized rfl (Or.inr (Or.inr (Or.inr (Or.inr ⟨rfl, rfl, rfl⟩)))) (hb hby d3_37) (by rw [e0]; exact ⟨by simp [own_pick, q0, q1, q2, q3], N0, rfl⟩) (by decide) (by decide)
def Qrm0 (p0 : Int32) (p1 : Int32) (ar : Addr) (kA : ClassId) (w0 : Addr) (w1 : Addr) (w2 : Addr) (w3 : Addr) (Z : State) (h0 : Heap) (n0 : Nat) (v : Option Value) (h : Heap) (L : List Loc) : Prop := v = some (.int 1) ∧ Fr n0 L
set_option maxRecDepth 65536 in
set_option maxHeartbeats 40000000 in
theorem rm0 (l : Launch) (Z : State) (a0 : Array Value) (hw : ∀ d ∈ tables_1, d.before a0 Z = true) (ws : List Jvm.Cond) (p0 : Int32) (p1 : Int32) (ar : Addr) (kA : ClassId) (w0 : Addr) (w1 : Addr) (w2 : Addr) (w3 : Addr) (h0 : Heap) (n0 : Nat) (Z0 : n0 ≤ h0.size) (O0 : Old Z n0 h0) (S0 : Sta Z Z.heap "com/example/libmember/libmember/hash/HashScheme" "DOUBLE_HASHING" "Lcom/example/libmember/libmember/hash/HashScheme;" (.ref w0)) (S1 : Sta Z Z.heap "com/example/libmember/libmember/hash/HashScheme" "WINDOWED" "Lcom/example/libmember/libmember/hash/HashScheme;" (.ref w1)) (S2 : Sta Z Z.heap "com/example/libmember/libmember/hash/HashScheme" "BLOCKED" "Lcom/example/libmember/libmember/hash/HashScheme;" (.ref w2)) (S3 : Sta Z Z.heap "com/example/libmember/libmember/hash/HashScheme" "SCALED_WINDOW" "Lcom/example/libmember/libmember/hash/HashScheme;" (.ref w3)) (SA : Sta Z Z.heap "com/example/libmember/libmember/hash/HashScheme" "$VALUES" "[Lcom/example/libmember/libmember/hash/HashScheme;" (.ref ar)) (AV : Arv Z Z.heap ar kA (.object "com/example/libmember/libmember/hash/HashScheme") (4 : Int32) [.ref w0, .ref w1, .ref w2, .ref w3] .null) (EA : Exa Z Z.heap ar "[Lcom/example/libmember/libmember/hash/HashScheme;") (F0 : Fld Z Z.heap w0 "com/example/libmember/libmember/hash/HashScheme" "number" "I" (.int (1 : Int32))) (F1 : Fld Z Z.heap w1 "com/example/libmember/libmember/hash/HashScheme" "number" "I" (.int (2 : Int32))) (F2 : Fld Z Z.heap w2 "com/example/libmember/libmember/hash/HashScheme" "number" "I" (.int (3 : Int32))) (F3 : Fld Z Z.heap w3 "com/example/libmember/libmember/hash/HashScheme" "number" "I" (.int (4 : Int32))) :
    MetFree l x (head1 (Jvm.Cond.code x code maxLocals ret :: ws) room_1) (fun ar_ U => ar_ = #[(.int p0), (.int p1)] ∧ Z.Warmed39 U.vm ∧ U.heap = h0) (fun _ _ _ _ _ => True) (fun _ U o U' => ∃ v L, o = .returned v ∧ Qrm0 p0 p1 ar kA w0 w1 w2 w3 Z h0 n0 v U'.heap L ∧ FrameEnd U o U' L room_1.cells room_1.slots) := by
  refine MetFree.of_bodySF (plainFor_of_name (by first | (simp [plainName, overriddenIn]; done) | decide +kernel)) hisR ?_
  intro p e s m args below meth c s₁ Bd hml0 hP hK
  obtain ⟨rfl, hZ, hh⟩ := hP
  have hx := Bd.exec
  have hby := Bd.bytes
  have hml : c.maxLocals = 5 := hml0
  have hown : s.vm.findClass "com/example/libmember/libmember/hash/HashSchemeOfNumberPinLaw" = some m.cls := findClass_of_methodNamed Bd.named
  have hnm := (name_of_methodNamed Bd.named Bd.method).1
  have X0 : Stand p l e room_1 s m #[(.int p0), (.int p1)] below meth c s₁ [] 0 0 := Stand.of_body Bd
  have e0 : s₁.heap = h0 := by rw [← hh, Bd.state]; rfl
  have N0 := Fr.nil n0
  show own_E p e below s (Qrm0 p0 p1 ar kA w0 w1 w2 w3 Z h0 n0) room_1.cells room_1.slots (s₁.setTop (entryFrame m #[(.int p0), (.int p1)] maxLocals))
  refine own_go (fun t k => castTop (show _ = (mkF m 0 #[.val (.int p0), .val (.int p1), .unset, .unset, .unset] []) from by first | (simp [entryFrame, mkF, argsToLocals, Value.category, maxLocals]; done) | rfl) k) ?_
  show own_E _ _ _ _ _ _ _ (s₁.setTop (mkF m 0 #[.val (.int p0), .val (.int p1), .unset, .unset, .unset] []))
  refine own_go (fun _ k => XS.iloadN X0.here hx rfl (hb hby at_0) rfl k) ?_
  show own_E _ _ _ _ _ _ _ (s₁.setTop (mkF m 1 #[.val (.int p0), .val (.int p1), .unset, .unset, .unset] [(.int p1)]))
  refine own_go (fun _ k => XT.bipushV X0.here hx rfl (7 : Int32) (hb hby at_1) (by decide) k) ?_
  show own_E _ _ _ _ _ _ _ (s₁.setTop (mkF m 3 #[.val (.int p0), .val (.int p1), .unset, .unset, .unset] [(.int (7 : Int32)), (.int p1)]))
  refine own_go (fun _ k => XS.iand X0.here hx rfl (hb hby at_3) rfl k) ?_
  show own_E _ _ _ _ _ _ _ (s₁.setTop (mkF m 4 #[.val (.int p0), .val (.int p1), .unset, .unset, .unset] [(.int (p1 &&& (7 : Int32)))]))
  refine own_go (fun _ k => XT.iconstV X0.here hx rfl (2 : Int32) (hb hby at_4) (by decide) k) ?_
  show own_E _ _ _ _ _ _ _ (s₁.setTop (mkF m 5 #[.val (.int p0), .val (.int p1), .unset, .unset, .unset] [(.int (2 : Int32)), (.int (p1 &&& (7 : Int32)))]))
  refine own_go (fun _ k => XS.isub X0.here hx rfl (hb hby at_5) rfl k) ?_
  show own_E _ _ _ _ _ _ _ (s₁.setTop (mkF m 6 #[.val (.int p0), .val (.int p1), .unset, .unset, .unset] [(.int ((p1 &&& (7 : Int32)) - (2 : Int32)))]))
  refine own_go (fun _ k => XS.istoreN X0.here hx rfl (hb hby at_6) rfl (l' := #[.val (.int p0), .val (.int p1), .val (.int ((p1 &&& (7 : Int32)) - (2 : Int32))), .unset, .unset]) rfl k) ?_
  show own_E _ _ _ _ _ _ _ (s₁.setTop (mkF m 7 #[.val (.int p0), .val (.int p1), .val (.int ((p1 &&& (7 : Int32)) - (2 : Int32))), .unset, .unset] []))
  refine own_go (fun _ k => XS.iloadN X0.here hx rfl (hb hby at_7) rfl k) ?_
  show own_E _ _ _ _ _ _ _ (s₁.setTop (mkF m 8 #[.val (.int p0), .val (.int p1), .val (.int ((p1 &&& (7 : Int32)) - (2 : Int32))), .unset, .unset] [(.int p0)]))
  obtain ⟨v11, T11, L11, X11, hQ11, st11⟩ := own_callS X0 hx hZ (rm := ({ frames := 2, cells := 1, slots := 4, locals := 26 } : Room)) (W := 3) (argsL := [(.int p0)]) (rest := []) (y := (⟨"com/example/libmember/libmember/hash/HashScheme", "ofNumber", "(I)Lcom/example/libmember/libmember/hash/HashScheme;"⟩ : MethodName)) hown (hw _ (List.mem_of_getElem? (i := 0) rfl)) (hw _ (List.mem_of_getElem? (i := 1) rfl)) (hw _ (List.mem_of_getElem? (i := 2) rfl)) (hw _ (List.mem_of_getElem? (i := 3) rfl)) (by decide) (rm1 l Z a0 hw p0 ar kA w0 w1 w2 w3 h0 n0 Z0 O0 (SA.ext O0.2) (AV.ext O0.2) (EA.ext O0.2) (F0.ext O0.2) (F1.ext O0.2) (F2.ext O0.2) (F3.ext O0.2)) e0 (by decide) (by decide) (by decide) (by decide) (g := (mkF m 8 #[.val (.int p0), .val (.int p1), .val (.int ((p1 &&& (7 : Int32)) - (2 : Int32))), .unset, .unset] [(.int p0)])) rfl (by rw [hml]; rfl) (lenOf pd_1 rfl) rfl (Nat.le_of_ble_eq_true rfl) (hb hby at_8)
  obtain ⟨rfl, N11, E11⟩ := hQ11
  refine own_go st11 ?_
  have M11 := Fr.app N0 N11
  have e11 : T11.heap = T11.heap := rfl
  have O11 := O0.ext E11
  have Z11 := Nat.le_trans Z0 E11.1
  rcases own_pick_form w0 w1 w2 w3 p0 with uva | ⟨va, uva⟩
  ·
    rw [uva]
    show own_E _ _ _ _ _ _ _ (T11.setTop (mkF m 11 #[.val (.int p0), .val (.int p1), .val (.int ((p1 &&& (7 : Int32)) - (2 : Int32))), .unset, .unset] [.null]))
    refine own_go (fun _ k => XS.astoreN X11.here hx rfl (hb hby at_11) rfl rfl (l' := #[.val (.int p0), .val (.int p1), .val (.int ((p1 &&& (7 : Int32)) - (2 : Int32))), .val .null, .unset]) rfl k) ?_
    show own_E _ _ _ _ _ _ _ (T11.setTop (mkF m 12 #[.val (.int p0), .val (.int p1), .val (.int ((p1 &&& (7 : Int32)) - (2 : Int32))), .val .null, .unset] []))
    refine own_go (fun _ k => XS.iloadN X11.here hx rfl (hb hby at_12) rfl k) ?_
    show own_E _ _ _ _ _ _ _ (T11.setTop (mkF m 13 #[.val (.int p0), .val (.int p1), .val (.int ((p1 &&& (7 : Int32)) - (2 : Int32))), .val .null, .unset] [(.int ((p1 &&& (7 : Int32)) - (2 : Int32)))]))
    obtain ⟨v12, T12, L12, X12, hQ12, st12⟩ := own_callS X11 hx hZ (rm := ({ frames := 2, cells := 1, slots := 4, locals := 26 } : Room)) (W := 3) (argsL := [(.int ((p1 &&& (7 : Int32)) - (2 : Int32)))]) (rest := []) (y := (⟨"com/example/libmember/libmember/hash/HashScheme", "ofNumber", "(I)Lcom/example/libmember/libmember/hash/HashScheme;"⟩ : MethodName)) hown (hw _ (List.mem_of_getElem? (i := 0) rfl)) (hw _ (List.mem_of_getElem? (i := 1) rfl)) (hw _ (List.mem_of_getElem? (i := 2) rfl)) (hw _ (List.mem_of_getElem? (i := 3) rfl)) (by decide) (rm1 l Z a0 hw ((p1 &&& (7 : Int32)) - (2 : Int32)) ar kA w0 w1 w2 w3 T11.heap n0 Z11 O11 (SA.ext O11.2) (AV.ext O11.2) (EA.ext O11.2) (F0.ext O11.2) (F1.ext O11.2) (F2.ext O11.2) (F3.ext O11.2)) e11 (by decide) (by decide) (by decide) (by decide) (g := (mkF m 13 #[.val (.int p0), .val (.int p1), .val (.int ((p1 &&& (7 : Int32)) - (2 : Int32))), .val .null, .unset] [(.int ((p1 &&& (7 : Int32)) - (2 : Int32)))])) rfl (by rw [hml]; rfl) (lenOf pd_1 rfl) rfl (Nat.le_of_ble_eq_true rfl) (hb hby at_13)
    obtain ⟨rfl, N12, E12⟩ := hQ12
    refine own_go st12 ?_
    have M12 := Fr.app M11 N12
    have e12 : T12.heap = T12.heap := rfl
    have O12 := O11.ext E12
    have Z12 := Nat.le_trans Z11 E12.1
    rcases own_pick_form w0 w1 w2 w3 ((p1 &&& (7 : Int32)) - (2 : Int32)) with uvb | ⟨vb, uvb⟩
    ·
      rw [uvb]
      show own_E _ _ _ _ _ _ _ (T12.setTop (mkF m 16 #[.val (.int p0), .val (.int p1), .val (.int ((p1 &&& (7 : Int32)) - (2 : Int32))), .val .null, .unset] [.null]))
      refine own_go (fun _ k => XS.astore X12.here hx rfl (hb hby at_16) rfl rfl (l' := #[.val (.int p0), .val (.int p1), .val (.int ((p1 &&& (7 : Int32)) - (2 : Int32))), .val .null, .val .null]) rfl k) ?_
      show own_E _ _ _ _ _ _ _ (T12.setTop (mkF m 18 #[.val (.int p0), .val (.int p1), .val (.int ((p1 &&& (7 : Int32)) - (2 : Int32))), .val .null, .val .null] []))
      refine own_go (fun _ k => XS.aloadN X12.here hx rfl (hb hby at_18) rfl rfl k) ?_
      show own_E _ _ _ _ _ _ _ (T12.setTop (mkF m 19 #[.val (.int p0), .val (.int p1), .val (.int ((p1 &&& (7 : Int32)) - (2 : Int32))), .val .null, .val .null] [.null]))
      refine own_go (fun _ k => XS.iloadN X12.here hx rfl (hb hby at_19) rfl k) ?_
      show own_E _ _ _ _ _ _ _ (T12.setTop (mkF m 20 #[.val (.int p0), .val (.int p1), .val (.int ((p1 &&& (7 : Int32)) - (2 : Int32))), .val .null, .val .null] [(.int p0), .null]))
      obtain ⟨v13, T13, L13, X13, hQ13, st13⟩ := own_callS X12 hx hZ (rm := ({ frames := 0, cells := 0, slots := 0, locals := 0 } : Room)) (W := 3) (argsL := [(.int p0)]) (rest := [.null]) (y := (⟨"com/example/libmember/libmember/hash/HashSchemeOfNumberPinLaw", "expected", "(I)Lcom/example/libmember/libmember/hash/HashScheme;"⟩ : MethodName)) hown (hw _ (List.mem_of_getElem? (i := 25) rfl)) (hw _ (List.mem_of_getElem? (i := 26) rfl)) (hw _ (List.mem_of_getElem? (i := 27) rfl)) (hw _ (List.mem_of_getElem? (i := 28) rfl)) (by decide) (rm3 l Z a0 hw p0 w0 w1 w2 w3 T12.heap n0 Z12 (S0.ext O12.2) (S1.ext O12.2) (S2.ext O12.2) (S3.ext O12.2)) e12 (by decide) (by decide) (by decide) (by decide) (g := (mkF m 20 #[.val (.int p0), .val (.int p1), .val (.int ((p1 &&& (7 : Int32)) - (2 : Int32))), .val .null, .val .null] [(.int p0), .null])) rfl (by rw [hml]; rfl) (lenOf pd_1 rfl) rfl (Nat.le_of_ble_eq_true rfl) (hb hby at_20)
      obtain ⟨rfl, N13, e13⟩ := hQ13
      refine own_go st13 ?_
      have M13 := Fr.app M12 N13
      rw [uva]
      show own_E _ _ _ _ _ _ _ (T13.setTop (mkF m 23 #[.val (.int p0), .val (.int p1), .val (.int ((p1 &&& (7 : Int32)) - (2 : Int32))), .val .null, .val .null] [.null, .null]))
      refine own_go (fun _ k => Jvm.RoadKit.acmp (g := (mkF m 23 #[.val (.int p0), .val (.int p1), .val (.int ((p1 &&& (7 : Int32)) - (2 : Int32))), .val .null, .val .null] [.null, .null])) X13 hx rfl rfl rfl (pc0 := 23) (pc' := 26) (same := true) rfl (hb hby at_23) rfl (by simp) (by decide) (by decide) k) ?_
      show own_E _ _ _ _ _ _ _ (T13.setTop (mkF m 26 #[.val (.int p0), .val (.int p1), .val (.int ((p1 &&& (7 : Int32)) - (2 : Int32))), .val .null, .val .null] []))
      refine own_go (fun _ k => XS.aload X13.here hx rfl (hb hby at_26) rfl rfl k) ?_
      show own_E _ _ _ _ _ _ _ (T13.setTop (mkF m 28 #[.val (.int p0), .val (.int p1), .val (.int ((p1 &&& (7 : Int32)) - (2 : Int32))), .val .null, .val .null] [.null]))
      refine own_go (fun _ k => XS.iloadN X13.here hx rfl (hb hby at_28) rfl k) ?_
      show own_E _ _ _ _ _ _ _ (T13.setTop (mkF m 29 #[.val (.int p0), .val (.int p1), .val (.int ((p1 &&& (7 : Int32)) - (2 : Int32))), .val .null, .val .null] [(.int ((p1 &&& (7 : Int32)) - (2 : Int32))), .null]))
      obtain ⟨v14, T14, L14, X14, hQ14, st14⟩ := own_callS X13 hx hZ (rm := ({ frames := 0, cells := 0, slots := 0, locals := 0 } : Room)) (W := 3) (argsL := [(.int ((p1 &&& (7 : Int32)) - (2 : Int32)))]) (rest := [.null]) (y := (⟨"com/example/libmember/libmember/hash/HashSchemeOfNumberPinLaw", "expected", "(I)Lcom/example/libmember/libmember/hash/HashScheme;"⟩ : MethodName)) hown (hw _ (List.mem_of_getElem? (i := 25) rfl)) (hw _ (List.mem_of_getElem? (i := 26) rfl)) (hw _ (List.mem_of_getElem? (i := 27) rfl)) (hw _ (List.mem_of_getElem? (i := 28) rfl)) (by decide) (rm3 l Z a0 hw ((p1 &&& (7 : Int32)) - (2 : Int32)) w0 w1 w2 w3 T12.heap n0 Z12 (S0.ext O12.2) (S1.ext O12.2) (S2.ext O12.2) (S3.ext O12.2)) e13 (by decide) (by decide) (by decide) (by decide) (g := (mkF m 29 #[.val (.int p0), .val (.int p1), .val (.int ((p1 &&& (7 : Int32)) - (2 : Int32))), .val .null, .val .null] [(.int ((p1 &&& (7 : Int32)) - (2 : Int32))), .null])) rfl (by rw [hml]; rfl) (lenOf pd_1 rfl) rfl (Nat.le_of_ble_eq_true rfl) (hb hby at_29)
      obtain ⟨rfl, N14, e14⟩ := hQ14
      refine own_go st14 ?_
      have M14 := Fr.app M13 N14
      rw [uvb]
      show own_E _ _ _ _ _ _ _ (T14.setTop (mkF m 32 #[.val (.int p0), .val (.int p1), .val (.int ((p1 &&& (7 : Int32)) - (2 : Int32))), .val .null, .val .null] [.null, .null]))
      refine own_go (fun _ k => Jvm.RoadKit.acmp (g := (mkF m 32 #[.val (.int p0), .val (.int p1), .val (.int ((p1 &&& (7 : Int32)) - (2 : Int32))), .val .null, .val .null] [.null, .null])) X14 hx rfl rfl rfl (pc0 := 32) (pc' := 35) (same := true) rfl (hb hby at_32) rfl (by simp) (by decide) (by decide) k) ?_
      show own_E _ _ _ _ _ _ _ (T14.setTop (mkF m 35 #[.val (.int p0), .val (.int p1), .val (.int ((p1 &&& (7 : Int32)) - (2 : Int32))), .val .null, .val .null] []))
      refine own_go (fun _ k => XT.iconstV X14.here hx rfl (1 : Int32) (hb hby at_35) (by decide) k) ?_
      show own_E _ _ _ _ _ _ _ (T14.setTop (mkF m 36 #[.val (.int p0), .val (.int p1), .val (.int ((p1 &&& (7 : Int32)) - (2 : Int32))), .val .null, .val .null] [(.int (1 : Int32))]))
      refine own_go (fun _ k => XS.goto X14.here hx rfl (pc0 := 36) (pc' := 40) rfl (hb hby at_36) (by decide) (by decide) k) ?_
      show own_E _ _ _ _ _ _ _ (T14.setTop (mkF m 40 #[.val (.int p0), .val (.int p1), .val (.int ((p1 &&& (7 : Int32)) - (2 : Int32))), .val .null, .val .null] [(.int (1 : Int32))]))
      exact own_ret X14 hx Bd.returns Bd.notSynchronized rfl (Or.inl ⟨rfl, by simp, _, rfl⟩) (hb hby at_40) (by rw [e14]; exact ⟨rfl, M14⟩) (by decide) (by decide)
    ·
      rw [uvb]
      show own_E _ _ _ _ _ _ _ (T12.setTop (mkF m 16 #[.val (.int p0), .val (.int p1), .val (.int ((p1 &&& (7 : Int32)) - (2 : Int32))), .val .null, .unset] [(.ref vb)]))
      refine own_go (fun _ k => XS.astore X12.here hx rfl (hb hby at_16) rfl rfl (l' := #[.val (.int p0), .val (.int p1), .val (.int ((p1 &&& (7 : Int32)) - (2 : Int32))), .val .null, .val (.ref vb)]) rfl k) ?_
      show own_E _ _ _ _ _ _ _ (T12.setTop (mkF m 18 #[.val (.int p0), .val (.int p1), .val (.int ((p1 &&& (7 : Int32)) - (2 : Int32))), .val .null, .val (.ref vb)] []))
      refine own_go (fun _ k => XS.aloadN X12.here hx rfl (hb hby at_18) rfl rfl k) ?_
      show own_E _ _ _ _ _ _ _ (T12.setTop (mkF m 19 #[.val (.int p0), .val (.int p1), .val (.int ((p1 &&& (7 : Int32)) - (2 : Int32))), .val .null, .val (.ref vb)] [.null]))
      refine own_go (fun _ k => XS.iloadN X12.here hx rfl (hb hby at_19) rfl k) ?_
      show own_E _ _ _ _ _ _ _ (T12.setTop (mkF m 20 #[.val (.int p0), .val (.int p1), .val (.int ((p1 &&& (7 : Int32)) - (2 : Int32))), .val .null, .val (.ref vb)] [(.int p0), .null]))
      obtain ⟨v15, T15, L15, X15, hQ15, st15⟩ := own_callS X12 hx hZ (rm := ({ frames := 0, cells := 0, slots := 0, locals := 0 } : Room)) (W := 3) (argsL := [(.int p0)]) (rest := [.null]) (y := (⟨"com/example/libmember/libmember/hash/HashSchemeOfNumberPinLaw", "expected", "(I)Lcom/example/libmember/libmember/hash/HashScheme;"⟩ : MethodName)) hown (hw _ (List.mem_of_getElem? (i := 25) rfl)) (hw _ (List.mem_of_getElem? (i := 26) rfl)) (hw _ (List.mem_of_getElem? (i := 27) rfl)) (hw _ (List.mem_of_getElem? (i := 28) rfl)) (by decide) (rm3 l Z a0 hw p0 w0 w1 w2 w3 T12.heap n0 Z12 (S0.ext O12.2) (S1.ext O12.2) (S2.ext O12.2) (S3.ext O12.2)) e12 (by decide) (by decide) (by decide) (by decide) (g := (mkF m 20 #[.val (.int p0), .val (.int p1), .val (.int ((p1 &&& (7 : Int32)) - (2 : Int32))), .val .null, .val (.ref vb)] [(.int p0), .null])) rfl (by rw [hml]; rfl) (lenOf pd_1 rfl) rfl (Nat.le_of_ble_eq_true rfl) (hb hby at_20)
      obtain ⟨rfl, N15, e15⟩ := hQ15
      refine own_go st15 ?_
      have M15 := Fr.app M12 N15
      rw [uva]
      show own_E _ _ _ _ _ _ _ (T15.setTop (mkF m 23 #[.val (.int p0), .val (.int p1), .val (.int ((p1 &&& (7 : Int32)) - (2 : Int32))), .val .null, .val (.ref vb)] [.null, .null]))
      refine own_go (fun _ k => Jvm.RoadKit.acmp (g := (mkF m 23 #[.val (.int p0), .val (.int p1), .val (.int ((p1 &&& (7 : Int32)) - (2 : Int32))), .val .null, .val (.ref vb)] [.null, .null])) X15 hx rfl rfl rfl (pc0 := 23) (pc' := 26) (same := true) rfl (hb hby at_23) rfl (by simp) (by decide) (by decide) k) ?_
      show own_E _ _ _ _ _ _ _ (T15.setTop (mkF m 26 #[.val (.int p0), .val (.int p1), .val (.int ((p1 &&& (7 : Int32)) - (2 : Int32))), .val .null, .val (.ref vb)] []))
      refine own_go (fun _ k => XS.aload X15.here hx rfl (hb hby at_26) rfl rfl k) ?_
      show own_E _ _ _ _ _ _ _ (T15.setTop (mkF m 28 #[.val (.int p0), .val (.int p1), .val (.int ((p1 &&& (7 : Int32)) - (2 : Int32))), .val .null, .val (.ref vb)] [(.ref vb)]))
      refine own_go (fun _ k => XS.iloadN X15.here hx rfl (hb hby at_28) rfl k) ?_
      show own_E _ _ _ _ _ _ _ (T15.setTop (mkF m 29 #[.val (.int p0), .val (.int p1), .val (.int ((p1 &&& (7 : Int32)) - (2 : Int32))), .val .null, .val (.ref vb)] [(.int ((p1 &&& (7 : Int32)) - (2 : Int32))), (.ref vb)]))
      obtain ⟨v16, T16, L16, X16, hQ16, st16⟩ := own_callS X15 hx hZ (rm := ({ frames := 0, cells := 0, slots := 0, locals := 0 } : Room)) (W := 3) (argsL := [(.int ((p1 &&& (7 : Int32)) - (2 : Int32)))]) (rest := [(.ref vb)]) (y := (⟨"com/example/libmember/libmember/hash/HashSchemeOfNumberPinLaw", "expected", "(I)Lcom/example/libmember/libmember/hash/HashScheme;"⟩ : MethodName)) hown (hw _ (List.mem_of_getElem? (i := 25) rfl)) (hw _ (List.mem_of_getElem? (i := 26) rfl)) (hw _ (List.mem_of_getElem? (i := 27) rfl)) (hw _ (List.mem_of_getElem? (i := 28) rfl)) (by decide) (rm3 l Z a0 hw ((p1 &&& (7 : Int32)) - (2 : Int32)) w0 w1 w2 w3 T12.heap n0 Z12 (S0.ext O12.2) (S1.ext O12.2) (S2.ext O12.2) (S3.ext O12.2)) e15 (by decide) (by decide) (by decide) (by decide) (g := (mkF m 29 #[.val (.int p0), .val (.int p1), .val (.int ((p1 &&& (7 : Int32)) - (2 : Int32))), .val .null, .val (.ref vb)] [(.int ((p1 &&& (7 : Int32)) - (2 : Int32))), (.ref vb)])) rfl (by rw [hml]; rfl) (lenOf pd_1 rfl) rfl (Nat.le_of_ble_eq_true rfl) (hb hby at_29)
      obtain ⟨rfl, N16, e16⟩ := hQ16
      refine own_go st16 ?_
      have M16 := Fr.app M15 N16
      rw [uvb]
      show own_E _ _ _ _ _ _ _ (T16.setTop (mkF m 32 #[.val (.int p0), .val (.int p1), .val (.int ((p1 &&& (7 : Int32)) - (2 : Int32))), .val .null, .val (.ref vb)] [(.ref vb), (.ref vb)]))
      refine own_go (fun _ k => Jvm.RoadKit.acmp (g := (mkF m 32 #[.val (.int p0), .val (.int p1), .val (.int ((p1 &&& (7 : Int32)) - (2 : Int32))), .val .null, .val (.ref vb)] [(.ref vb), (.ref vb)])) X16 hx rfl rfl rfl (pc0 := 32) (pc' := 35) (same := true) rfl (hb hby at_32) rfl (by simp) (by decide) (by decide) k) ?_
      show own_E _ _ _ _ _ _ _ (T16.setTop (mkF m 35 #[.val (.int p0), .val (.int p1), .val (.int ((p1 &&& (7 : Int32)) - (2 : Int32))), .val .null, .val (.ref vb)] []))
      refine own_go (fun _ k => XT.iconstV X16.here hx rfl (1 : Int32) (hb hby at_35) (by decide) k) ?_
      show own_E _ _ _ _ _ _ _ (T16.setTop (mkF m 36 #[.val (.int p0), .val (.int p1), .val (.int ((p1 &&& (7 : Int32)) - (2 : Int32))), .val .null, .val (.ref vb)] [(.int (1 : Int32))]))
      refine own_go (fun _ k => XS.goto X16.here hx rfl (pc0 := 36) (pc' := 40) rfl (hb hby at_36) (by decide) (by decide) k) ?_
      show own_E _ _ _ _ _ _ _ (T16.setTop (mkF m 40 #[.val (.int p0), .val (.int p1), .val (.int ((p1 &&& (7 : Int32)) - (2 : Int32))), .val .null, .val (.ref vb)] [(.int (1 : Int32))]))
      exact own_ret X16 hx Bd.returns Bd.notSynchronized rfl (Or.inl ⟨rfl, by simp, _, rfl⟩) (hb hby at_40) (by rw [e16]; exact ⟨rfl, M16⟩) (by decide) (by decide)
  ·
    rw [uva]
    show own_E _ _ _ _ _ _ _ (T11.setTop (mkF m 11 #[.val (.int p0), .val (.int p1), .val (.int ((p1 &&& (7 : Int32)) - (2 : Int32))), .unset, .unset] [(.ref va)]))
    refine own_go (fun _ k => XS.astoreN X11.here hx rfl (hb hby at_11) rfl rfl (l' := #[.val (.int p0), .val (.int p1), .val (.int ((p1 &&& (7 : Int32)) - (2 : Int32))), .val (.ref va), .unset]) rfl k) ?_
    show own_E _ _ _ _ _ _ _ (T11.setTop (mkF m 12 #[.val (.int p0), .val (.int p1), .val (.int ((p1 &&& (7 : Int32)) - (2 : Int32))), .val (.ref va), .unset] []))
    refine own_go (fun _ k => XS.iloadN X11.here hx rfl (hb hby at_12) rfl k) ?_
    show own_E _ _ _ _ _ _ _ (T11.setTop (mkF m 13 #[.val (.int p0), .val (.int p1), .val (.int ((p1 &&& (7 : Int32)) - (2 : Int32))), .val (.ref va), .unset] [(.int ((p1 &&& (7 : Int32)) - (2 : Int32)))]))
    obtain ⟨v17, T17, L17, X17, hQ17, st17⟩ := own_callS X11 hx hZ (rm := ({ frames := 2, cells := 1, slots := 4, locals := 26 } : Room)) (W := 3) (argsL := [(.int ((p1 &&& (7 : Int32)) - (2 : Int32)))]) (rest := []) (y := (⟨"com/example/libmember/libmember/hash/HashScheme", "ofNumber", "(I)Lcom/example/libmember/libmember/hash/HashScheme;"⟩ : MethodName)) hown (hw _ (List.mem_of_getElem? (i := 0) rfl)) (hw _ (List.mem_of_getElem? (i := 1) rfl)) (hw _ (List.mem_of_getElem? (i := 2) rfl)) (hw _ (List.mem_of_getElem? (i := 3) rfl)) (by decide) (rm1 l Z a0 hw ((p1 &&& (7 : Int32)) - (2 : Int32)) ar kA w0 w1 w2 w3 T11.heap n0 Z11 O11 (SA.ext O11.2) (AV.ext O11.2) (EA.ext O11.2) (F0.ext O11.2) (F1.ext O11.2) (F2.ext O11.2) (F3.ext O11.2)) e11 (by decide) (by decide) (by decide) (by decide) (g := (mkF m 13 #[.val (.int p0), .val (.int p1), .val (.int ((p1 &&& (7 : Int32)) - (2 : Int32))), .val (.ref va), .unset] [(.int ((p1 &&& (7 : Int32)) - (2 : Int32)))])) rfl (by rw [hml]; rfl) (lenOf pd_1 rfl) rfl (Nat.le_of_ble_eq_true rfl) (hb hby at_13)
    obtain ⟨rfl, N17, E17⟩ := hQ17
    refine own_go st17 ?_
    have M17 := Fr.app M11 N17
    have e17 : T17.heap = T17.heap := rfl
    have O17 := O11.ext E17
    have Z17 := Nat.le_trans Z11 E17.1
    rcases own_pick_form w0 w1 w2 w3 ((p1 &&& (7 : Int32)) - (2 : Int32)) with uvb | ⟨vb, uvb⟩
    ·
      rw [uvb]
      show own_E _ _ _ _ _ _ _ (T17.setTop (mkF m 16 #[.val (.int p0), .val (.int p1), .val (.int ((p1 &&& (7 : Int32)) - (2 : Int32))), .val (.ref va), .unset] [.null]))
      refine own_go (fun _ k => XS.astore X17.here hx rfl (hb hby at_16) rfl rfl (l' := #[.val (.int p0), .val (.int p1), .val (.int ((p1 &&& (7 : Int32)) - (2 : Int32))), .val (.ref va), .val .null]) rfl k) ?_
      show own_E _ _ _ _ _ _ _ (T17.setTop (mkF m 18 #[.val (.int p0), .val (.int p1), .val (.int ((p1 &&& (7 : Int32)) - (2 : Int32))), .val (.ref va), .val .null] []))
      refine own_go (fun _ k => XS.aloadN X17.here hx rfl (hb hby at_18) rfl rfl k) ?_
      show own_E _ _ _ _ _ _ _ (T17.setTop (mkF m 19 #[.val (.int p0), .val (.int p1), .val (.int ((p1 &&& (7 : Int32)) - (2 : Int32))), .val (.ref va), .val .null] [(.ref va)]))
      refine own_go (fun _ k => XS.iloadN X17.here hx rfl (hb hby at_19) rfl k) ?_
      show own_E _ _ _ _ _ _ _ (T17.setTop (mkF m 20 #[.val (.int p0), .val (.int p1), .val (.int ((p1 &&& (7 : Int32)) - (2 : Int32))), .val (.ref va), .val .null] [(.int p0), (.ref va)]))
      obtain ⟨v18, T18, L18, X18, hQ18, st18⟩ := own_callS X17 hx hZ (rm := ({ frames := 0, cells := 0, slots := 0, locals := 0 } : Room)) (W := 3) (argsL := [(.int p0)]) (rest := [(.ref va)]) (y := (⟨"com/example/libmember/libmember/hash/HashSchemeOfNumberPinLaw", "expected", "(I)Lcom/example/libmember/libmember/hash/HashScheme;"⟩ : MethodName)) hown (hw _ (List.mem_of_getElem? (i := 25) rfl)) (hw _ (List.mem_of_getElem? (i := 26) rfl)) (hw _ (List.mem_of_getElem? (i := 27) rfl)) (hw _ (List.mem_of_getElem? (i := 28) rfl)) (by decide) (rm3 l Z a0 hw p0 w0 w1 w2 w3 T17.heap n0 Z17 (S0.ext O17.2) (S1.ext O17.2) (S2.ext O17.2) (S3.ext O17.2)) e17 (by decide) (by decide) (by decide) (by decide) (g := (mkF m 20 #[.val (.int p0), .val (.int p1), .val (.int ((p1 &&& (7 : Int32)) - (2 : Int32))), .val (.ref va), .val .null] [(.int p0), (.ref va)])) rfl (by rw [hml]; rfl) (lenOf pd_1 rfl) rfl (Nat.le_of_ble_eq_true rfl) (hb hby at_20)
      obtain ⟨rfl, N18, e18⟩ := hQ18
      refine own_go st18 ?_
      have M18 := Fr.app M17 N18
      rw [uva]
      show own_E _ _ _ _ _ _ _ (T18.setTop (mkF m 23 #[.val (.int p0), .val (.int p1), .val (.int ((p1 &&& (7 : Int32)) - (2 : Int32))), .val (.ref va), .val .null] [(.ref va), (.ref va)]))
      refine own_go (fun _ k => Jvm.RoadKit.acmp (g := (mkF m 23 #[.val (.int p0), .val (.int p1), .val (.int ((p1 &&& (7 : Int32)) - (2 : Int32))), .val (.ref va), .val .null] [(.ref va), (.ref va)])) X18 hx rfl rfl rfl (pc0 := 23) (pc' := 26) (same := true) rfl (hb hby at_23) rfl (by simp) (by decide) (by decide) k) ?_
      show own_E _ _ _ _ _ _ _ (T18.setTop (mkF m 26 #[.val (.int p0), .val (.int p1), .val (.int ((p1 &&& (7 : Int32)) - (2 : Int32))), .val (.ref va), .val .null] []))
      refine own_go (fun _ k => XS.aload X18.here hx rfl (hb hby at_26) rfl rfl k) ?_
      show own_E _ _ _ _ _ _ _ (T18.setTop (mkF m 28 #[.val (.int p0), .val (.int p1), .val (.int ((p1 &&& (7 : Int32)) - (2 : Int32))), .val (.ref va), .val .null] [.null]))
      refine own_go (fun _ k => XS.iloadN X18.here hx rfl (hb hby at_28) rfl k) ?_
      show own_E _ _ _ _ _ _ _ (T18.setTop (mkF m 29 #[.val (.int p0), .val (.int p1), .val (.int ((p1 &&& (7 : Int32)) - (2 : Int32))), .val (.ref va), .val .null] [(.int ((p1 &&& (7 : Int32)) - (2 : Int32))), .null]))
      obtain ⟨v19, T19, L19, X19, hQ19, st19⟩ := own_callS X18 hx hZ (rm := ({ frames := 0, cells := 0, slots := 0, locals := 0 } : Room)) (W := 3) (argsL := [(.int ((p1 &&& (7 : Int32)) - (2 : Int32)))]) (rest := [.null]) (y := (⟨"com/example/libmember/libmember/hash/HashSchemeOfNumberPinLaw", "expected", "(I)Lcom/example/libmember/libmember/hash/HashScheme;"⟩ : MethodName)) hown (hw _ (List.mem_of_getElem? (i := 25) rfl)) (hw _ (List.mem_of_getElem? (i := 26) rfl)) (hw _ (List.mem_of_getElem? (i := 27) rfl)) (hw _ (List.mem_of_getElem? (i := 28) rfl)) (by decide) (rm3 l Z a0 hw ((p1 &&& (7 : Int32)) - (2 : Int32)) w0 w1 w2 w3 T17.heap n0 Z17 (S0.ext O17.2) (S1.ext O17.2) (S2.ext O17.2) (S3.ext O17.2)) e18 (by decide) (by decide) (by decide) (by decide) (g := (mkF m 29 #[.val (.int p0), .val (.int p1), .val (.int ((p1 &&& (7 : Int32)) - (2 : Int32))), .val (.ref va), .val .null] [(.int ((p1 &&& (7 : Int32)) - (2 : Int32))), .null])) rfl (by rw [hml]; rfl) (lenOf pd_1 rfl) rfl (Nat.le_of_ble_eq_true rfl) (hb hby at_29)
      obtain ⟨rfl, N19, e19⟩ := hQ19
      refine own_go st19 ?_
      have M19 := Fr.app M18 N19
      rw [uvb]
      show own_E _ _ _ _ _ _ _ (T19.setTop (mkF m 32 #[.val (.int p0), .val (.int p1), .val (.int ((p1 &&& (7 : Int32)) - (2 : Int32))), .val (.ref va), .val .null] [.null, .null]))
      refine own_go (fun _ k => Jvm.RoadKit.acmp (g := (mkF m 32 #[.val (.int p0), .val (.int p1), .val (.int ((p1 &&& (7 : Int32)) - (2 : Int32))), .val (.ref va), .val .null] [.null, .null])) X19 hx rfl rfl rfl (pc0 := 32) (pc' := 35) (same := true) rfl (hb hby at_32) rfl (by simp) (by decide) (by decide) k) ?_
      show own_E _ _ _ _ _ _ _ (T19.setTop (mkF m 35 #[.val (.int p0), .val (.int p1), .val (.int ((p1 &&& (7 : Int32)) - (2 : Int32))), .val (.ref va), .val .null] []))
      refine own_go (fun _ k => XT.iconstV X19.here hx rfl (1 : Int32) (hb hby at_35) (by decide) k) ?_
      show own_E _ _ _ _ _ _ _ (T19.setTop (mkF m 36 #[.val (.int p0), .val (.int p1), .val (.int ((p1 &&& (7 : Int32)) - (2 : Int32))), .val (.ref va), .val .null] [(.int (1 : Int32))]))
      refine own_go (fun _ k => XS.goto X19.here hx rfl (pc0 := 36) (pc' := 40) rfl (hb hby at_36) (by decide) (by decide) k) ?_
      show own_E _ _ _ _ _ _ _ (T19.setTop (mkF m 40 #[.val (.int p0), .val (.int p1), .val (.int ((p1 &&& (7 : Int32)) - (2 : Int32))), .val (.ref va), .val .null] [(.int (1 : Int32))]))
      exact own_ret X19 hx Bd.returns Bd.notSynchronized rfl (Or.inl ⟨rfl, by simp, _, rfl⟩) (hb hby at_40) (by rw [e19]; exact ⟨rfl, M19⟩) (by decide) (by decide)
    ·
      rw [uvb]
      show own_E _ _ _ _ _ _ _ (T17.setTop (mkF m 16 #[.val (.int p0), .val (.int p1), .val (.int ((p1 &&& (7 : Int32)) - (2 : Int32))), .val (.ref va), .unset] [(.ref vb)]))
      refine own_go (fun _ k => XS.astore X17.here hx rfl (hb hby at_16) rfl rfl (l' := #[.val (.int p0), .val (.int p1), .val (.int ((p1 &&& (7 : Int32)) - (2 : Int32))), .val (.ref va), .val (.ref vb)]) rfl k) ?_
      show own_E _ _ _ _ _ _ _ (T17.setTop (mkF m 18 #[.val (.int p0), .val (.int p1), .val (.int ((p1 &&& (7 : Int32)) - (2 : Int32))), .val (.ref va), .val (.ref vb)] []))
      refine own_go (fun _ k => XS.aloadN X17.here hx rfl (hb hby at_18) rfl rfl k) ?_
      show own_E _ _ _ _ _ _ _ (T17.setTop (mkF m 19 #[.val (.int p0), .val (.int p1), .val (.int ((p1 &&& (7 : Int32)) - (2 : Int32))), .val (.ref va), .val (.ref vb)] [(.ref va)]))
      refine own_go (fun _ k => XS.iloadN X17.here hx rfl (hb hby at_19) rfl k) ?_
      show own_E _ _ _ _ _ _ _ (T17.setTop (mkF m 20 #[.val (.int p0), .val (.int p1), .val (.int ((p1 &&& (7 : Int32)) - (2 : Int32))), .val (.ref va), .val (.ref vb)] [(.int p0), (.ref va)]))
      obtain ⟨v20, T20, L20, X20, hQ20, st20⟩ := own_callS X17 hx hZ (rm := ({ frames := 0, cells := 0, slots := 0, locals := 0 } : Room)) (W := 3) (argsL := [(.int p0)]) (rest := [(.ref va)]) (y := (⟨"com/example/libmember/libmember/hash/HashSchemeOfNumberPinLaw", "expected", "(I)Lcom/example/libmember/libmember/hash/HashScheme;"⟩ : MethodName)) hown (hw _ (List.mem_of_getElem? (i := 25) rfl)) (hw _ (List.mem_of_getElem? (i := 26) rfl)) (hw _ (List.mem_of_getElem? (i := 27) rfl)) (hw _ (List.mem_of_getElem? (i := 28) rfl)) (by decide) (rm3 l Z a0 hw p0 w0 w1 w2 w3 T17.heap n0 Z17 (S0.ext O17.2) (S1.ext O17.2) (S2.ext O17.2) (S3.ext O17.2)) e17 (by decide) (by decide) (by decide) (by decide) (g := (mkF m 20 #[.val (.int p0), .val (.int p1), .val (.int ((p1 &&& (7 : Int32)) - (2 : Int32))), .val (.ref va), .val (.ref vb)] [(.int p0), (.ref va)])) rfl (by rw [hml]; rfl) (lenOf pd_1 rfl) rfl (Nat.le_of_ble_eq_true rfl) (hb hby at_20)
      obtain ⟨rfl, N20, e20⟩ := hQ20
      refine own_go st20 ?_
      have M20 := Fr.app M17 N20
      rw [uva]
      show own_E _ _ _ _ _ _ _ (T20.setTop (mkF m 23 #[.val (.int p0), .val (.int p1), .val (.int ((p1 &&& (7 : Int32)) - (2 : Int32))), .val (.ref va), .val (.ref vb)] [(.ref va), (.ref va)]))
      refine own_go (fun _ k => Jvm.RoadKit.acmp (g := (mkF m 23 #[.val (.int p0), .val (.int p1), .val (.int ((p1 &&& (7 : Int32)) - (2 : Int32))), .val (.ref va), .val (.ref vb)] [(.ref va), (.ref va)])) X20 hx rfl rfl rfl (pc0 := 23) (pc' := 26) (same := true) rfl (hb hby at_23) rfl (by simp) (by decide) (by decide) k) ?_
      show own_E _ _ _ _ _ _ _ (T20.setTop (mkF m 26 #[.val (.int p0), .val (.int p1), .val (.int ((p1 &&& (7 : Int32)) - (2 : Int32))), .val (.ref va), .val (.ref vb)] []))
      refine own_go (fun _ k => XS.aload X20.here hx rfl (hb hby at_26) rfl rfl k) ?_
      show own_E _ _ _ _ _ _ _ (T20.setTop (mkF m 28 #[.val (.int p0), .val (.int p1), .val (.int ((p1 &&& (7 : Int32)) - (2 : Int32))), .val (.ref va), .val (.ref vb)] [(.ref vb)]))
      refine own_go (fun _ k => XS.iloadN X20.here hx rfl (hb hby at_28) rfl k) ?_
      show own_E _ _ _ _ _ _ _ (T20.setTop (mkF m 29 #[.val (.int p0), .val (.int p1), .val (.int ((p1 &&& (7 : Int32)) - (2 : Int32))), .val (.ref va), .val (.ref vb)] [(.int ((p1 &&& (7 : Int32)) - (2 : Int32))), (.ref vb)]))
      obtain ⟨v21, T21, L21, X21, hQ21, st21⟩ := own_callS X20 hx hZ (rm := ({ frames := 0, cells := 0, slots := 0, locals := 0 } : Room)) (W := 3) (argsL := [(.int ((p1 &&& (7 : Int32)) - (2 : Int32)))]) (rest := [(.ref vb)]) (y := (⟨"com/example/libmember/libmember/hash/HashSchemeOfNumberPinLaw", "expected", "(I)Lcom/example/libmember/libmember/hash/HashScheme;"⟩ : MethodName)) hown (hw _ (List.mem_of_getElem? (i := 25) rfl)) (hw _ (List.mem_of_getElem? (i := 26) rfl)) (hw _ (List.mem_of_getElem? (i := 27) rfl)) (hw _ (List.mem_of_getElem? (i := 28) rfl)) (by decide) (rm3 l Z a0 hw ((p1 &&& (7 : Int32)) - (2 : Int32)) w0 w1 w2 w3 T17.heap n0 Z17 (S0.ext O17.2) (S1.ext O17.2) (S2.ext O17.2) (S3.ext O17.2)) e20 (by decide) (by decide) (by decide) (by decide) (g := (mkF m 29 #[.val (.int p0), .val (.int p1), .val (.int ((p1 &&& (7 : Int32)) - (2 : Int32))), .val (.ref va), .val (.ref vb)] [(.int ((p1 &&& (7 : Int32)) - (2 : Int32))), (.ref vb)])) rfl (by rw [hml]; rfl) (lenOf pd_1 rfl) rfl (Nat.le_of_ble_eq_true rfl) (hb hby at_29)
      obtain ⟨rfl, N21, e21⟩ := hQ21
      refine own_go st21 ?_
      have M21 := Fr.app M20 N21
      rw [uvb]
      show own_E _ _ _ _ _ _ _ (T21.setTop (mkF m 32 #[.val (.int p0), .val (.int p1), .val (.int ((p1 &&& (7 : Int32)) - (2 : Int32))), .val (.ref va), .val (.ref vb)] [(.ref vb), (.ref vb)]))
      refine own_go (fun _ k => Jvm.RoadKit.acmp (g := (mkF m 32 #[.val (.int p0), .val (.int p1), .val (.int ((p1 &&& (7 : Int32)) - (2 : Int32))), .val (.ref va), .val (.ref vb)] [(.ref vb), (.ref vb)])) X21 hx rfl rfl rfl (pc0 := 32) (pc' := 35) (same := true) rfl (hb hby at_32) rfl (by simp) (by decide) (by decide) k) ?_
      show own_E _ _ _ _ _ _ _ (T21.setTop (mkF m 35 #[.val (.int p0), .val (.int p1), .val (.int ((p1 &&& (7 : Int32)) - (2 : Int32))), .val (.ref va), .val (.ref vb)] []))
      refine own_go (fun _ k => XT.iconstV X21.here hx rfl (1 : Int32) (hb hby at_35) (by decide) k) ?_
      show own_E _ _ _ _ _ _ _ (T21.setTop (mkF m 36 #[.val (.int p0), .val (.int p1), .val (.int ((p1 &&& (7 : Int32)) - (2 : Int32))), .val (.ref va), .val (.ref vb)] [(.int (1 : Int32))]))
      refine own_go (fun _ k => XS.goto X21.here hx rfl (pc0 := 36) (pc' := 40) rfl (hb hby at_36) (by decide) (by decide) k) ?_
      show own_E _ _ _ _ _ _ _ (T21.setTop (mkF m 40 #[.val (.int p0), .val (.int p1), .val (.int ((p1 &&& (7 : Int32)) - (2 : Int32))), .val (.ref va), .val (.ref vb)] [(.int (1 : Int32))]))
      exact own_ret X21 hx Bd.returns Bd.notSynchronized rfl (Or.inl ⟨rfl, by simp, _, rfl⟩) (hb hby at_40) (by rw [e21]; exact ⟨rfl, M21⟩) (by decide) (by decide)
set_option maxRecDepth 65536 in
set_option maxHeartbeats 40000000 in
theorem comes_1 {Post : Tables → Env → Array Value → State → Outcome → State → Prop} (hpost : ∀ tb e args s v u, (limb_1_1.after args s (.returned v) u = true ∧ limb_1_2.after args s (.returned v) u = true ∧ True) → FrameEnd s (.returned v) u (Jvm.fieldLocs frame_1_writes args s ++ Jvm.arrayLocs frame_1_arrays args s ++ Jvm.staticLocs frame_1_statics s) 16 128 → Post tb e args s (.returned v) u) :
    ArmFor flags0 classFile x code maxLocals ret World_1 tables_1 room_1 Calls_1 rest_1 Pre_1 Post := by
  intro l hfl _ _ p e ha hc hk s m args below hf hA hF happ hP
  obtain ⟨hcalls, hrest, hpre⟩ := hP
  obtain ⟨-, -, -, hnamed, -, -, -, hat⟩ := (Spec.applies_iff hf).mp happ
  obtain ⟨hg, hn⟩ := and_e (Cond.before_iff.mp (show (Jvm.Cond.and given_1 narrow_1).before args s = true from hpre))
  obtain ⟨hcount, hg⟩ := and_e hg
  obtain ⟨w0, w1, rfl⟩ : ∃ w0 w1 : Value, args = #[w0, w1] := by
    have hs : args.size = 2 := by simpa [Cond.value, given_1] using hcount
    obtain ⟨L⟩ := args
    match L, hs with
    | [w0, w1], _ => exact ⟨w0, w1, rfl⟩
  have hw := fun d (hd : d ∈ tables_1) => atoms_spec (ws := Jvm.Cond.code x code maxLocals ret :: tables_1) hat d (List.mem_cons_of_mem _ hd)
  have hfit : Fit s := fun {y c} hc i hi => by
    obtain ⟨ha, rfl⟩ := Array.getElem?_eq_some_iff.mp hc
    have q := List.all_eq_true.mp ((Array.all_eq_true_iff_forall_mem.mp hF) _ (Array.getElem_mem ha)) i (List.mem_range.mpr hi)
    simpa [Array.getElem?_eq_getElem hi] using q
  obtain ⟨hg0, hg⟩ := and_e hg
  obtain ⟨i0, q0⟩ := is_v hg0
  obtain rfl : w0 = (.int i0) := Option.some.inj q0
  have hg1 := hg
  obtain ⟨i1, q1⟩ := is_v hg1
  obtain rfl : w1 = (.int i1) := Option.some.inj q1
  obtain ⟨c0, hn⟩ := and_e hn
  obtain ⟨c1, hn⟩ := and_e hn
  obtain ⟨c2, hn⟩ := and_e hn
  obtain ⟨c3, hn⟩ := and_e hn
  obtain ⟨c4, hn⟩ := and_e hn
  obtain ⟨c5, hn⟩ := and_e hn
  obtain ⟨c6, hn⟩ := and_e hn
  obtain ⟨c7, hn⟩ := and_e hn
  obtain ⟨c8, hn⟩ := and_e hn
  obtain ⟨c9, hn⟩ := and_e hn
  obtain ⟨c10, hn⟩ := and_e hn
  obtain ⟨c11, hn⟩ := and_e hn
  obtain ⟨c12, hn⟩ := and_e hn
  obtain ⟨c13, hn⟩ := and_e hn
  have c14 := hn
  obtain ⟨ar, ev_ar⟩ := arr_v c0
  have S_ar := Sta.start ev_ar (Or.inr ⟨(hw _ (List.mem_of_getElem? (i := 2) rfl)), (hw _ (List.mem_of_getElem? (i := 8) rfl))⟩)
  obtain ⟨cl_ar, A_ar⟩ := Arr.start ev_ar c0
  have E_ar := Exa.start ev_ar c1
  obtain ⟨w0, ev_w0, S_w0, E_w0⟩ := own_const c3 (hw _ (List.mem_of_getElem? (i := 2) rfl)) (hw _ (List.mem_of_getElem? (i := 16) rfl))
  obtain ⟨w1, ev_w1, S_w1, E_w1⟩ := own_const c5 (hw _ (List.mem_of_getElem? (i := 2) rfl)) (hw _ (List.mem_of_getElem? (i := 17) rfl))
  obtain ⟨w2, ev_w2, S_w2, E_w2⟩ := own_const c7 (hw _ (List.mem_of_getElem? (i := 2) rfl)) (hw _ (List.mem_of_getElem? (i := 18) rfl))
  obtain ⟨w3, ev_w3, S_w3, E_w3⟩ := own_const c9 (hw _ (List.mem_of_getElem? (i := 2) rfl)) (hw _ (List.mem_of_getElem? (i := 19) rfl))
  have N_ar := own_lenS ev_ar A_ar.1 c2
  have I_ar_0 := own_elemS ev_ar A_ar.1 ev_w0 c4
  have I_ar_1 := own_elemS ev_ar A_ar.1 ev_w1 c6
  have I_ar_2 := own_elemS ev_ar A_ar.1 ev_w2 c8
  have I_ar_3 := own_elemS ev_ar A_ar.1 ev_w3 c10
  have F_w0_number := own_fldI ev_w0 c11
  have F_w1_number := own_fldI ev_w1 c12
  have F_w2_number := own_fldI ev_w2 c13
  have F_w3_number := own_fldI ev_w3 c14
  have AV : Arv s s.heap ar cl_ar.cls (.object "com/example/libmember/libmember/hash/HashScheme") (4 : Int32) [.ref w0, .ref w1, .ref w2, .ref w3] .null := Arv.start hfit A_ar N_ar.1 N_ar.2 (by decide) rfl ⟨I_ar_0.2, I_ar_1.2, I_ar_2.2, I_ar_3.2, trivial⟩
  obtain ⟨n, o, h1, h2, h3, _, L, rfl, ⟨rfl, N⟩, hq⟩ := rm0 l s _ hw tables_1 i0 i1 ar cl_ar.cls w0 w1 w2 w3 s.heap s.heap.size (Nat.le_refl _) (Old.start s) S_w0 S_w1 S_w2 S_w3 S_ar AV E_ar F_w0_number F_w1_number F_w2_number F_w3_number p e ha hc hk s m _ below hf ((Spec.applies_iff_loose hf).mp happ).1 ⟨rfl, State.Warmed39.refl s, rfl⟩ trivial
  refine ⟨n, _, h1, h2, h3, hpost _ _ _ _ _ _ ⟨Cond.after_iff.mpr rfl, Cond.after_iff.mpr (eq_i res_at (Term.int_eval (1)) rfl), trivial⟩ ⟨hq.1, hq.2.1, (hq.2.2.sift fun y hy => Or.inr (N y hy)).mono (by decide) (by decide)⟩⟩
theorem main_1_1 : Claimed_1_1 := comes_1 fun _ _ _ _ _ _ h hF => ⟨h.1, hF⟩
theorem main_1_2 : Claimed_1_2 := comes_1 fun _ _ _ _ _ _ h hF => ⟨h.2.1, hF⟩
end Jvm.Pilot.@@N@@
namespace Jvm.Pilot.@@N@@
open Jvm Jvm.ClassFile Sem Op Lib Jvm.Free Jvm.Stand Jvm.Pilot.@@N@@.Jvm.D
/-! MADE BY PROGRAM (witnessworld.py) out of the Statement's table words and the real class files: 13 classes; the members and pool entries that the words name. The judged class is class 1, her method 2. -/
namespace start1
open Jvm.ClassFile
def u (s : String) : CpInfo := .utf8 (stringToUtf16 s)
/-- a pool by its gaps: so many unusable entries, then the entry; so many at the end -/
def gap : Nat → List CpInfo → List CpInfo
  | 0, r => r
  | n + 1, r => .unusable :: gap n r
def poolList (es : List (Nat × CpInfo)) (last : Nat) : List CpInfo := es.foldr (fun e r => gap e.1 (e.2 :: r)) (gap last [])
def pool (es : List (Nat × CpInfo)) (last : Nat) : Array CpInfo := ⟨poolList es last⟩
def fileOf (pool : Array CpInfo) (this : Nat) (attrs : Array Attribute := #[]) (ms : Array MethodInfo := #[]) (fl : Nat := 33) (sup : Nat := 0) (ifs : Array Nat := #[]) (fds : Array FieldInfo := #[]) : ClassFile where
  minorVersion := 0
  majorVersion := 65
  constantPool := pool
  accessFlags := fl
  thisClass := this
  superClass := sup
  interfaces := ifs
  fields := fds
  methods := ms
  attributes := attrs
def plain (name : String) (sup : Option ClassId) : Class where
  name := name
  kind := .ordinary
  loader := none
  accessFlags := 33
  super := sup
  interfaces := #[]
  cf := none
  fields := #[]
  methods := #[]
  instanceTypes := #[]
  staticTypes := #[]
  resolved := #[]
  callSites := []
  init := .initialized
  statics := none
  mirror := none

def pool0 : Array CpInfo := pool [(5, u "<init>"), (0, u "()V"), (1, .class_ 10), (1, u "java/lang/Object"), (85, u "clone"), (0, u "()Ljava/lang/Object;")] 26

def k0m0 : Method := { name := "<init>", desc := "()V", sig := { parameters := [], returnType := none }, accessFlags := 1, code := none }
def k0m1 : Method := { name := "clone", desc := "()Ljava/lang/Object;", sig := { parameters := [], returnType := some (.object "java/lang/Object") }, accessFlags := 260, code := none }
/-- java/lang/Object -/
def k0 : Class := { plain "java/lang/Object" none with
  accessFlags := 33
  interfaces := #[]
  cf := some (fileOf pool0 8 #[] #[{ accessFlags := 1, nameIndex := 5, descriptorIndex := 6, attributes := #[] }, { accessFlags := 260, nameIndex := 96, descriptorIndex := 97, attributes := #[] }] 33 0 #[] #[])
  fields := #[]
  methods := #[k0m0, k0m1]
  instanceTypes := #[]
  staticTypes := #[]
  resolved := Array.replicate 124 none
  statics := none }

def pool1 : Array CpInfo := pool [(2, .class_ 4), (1, u "java/lang/Object"), (0, u "<init>"), (0, u "()V"), (0, .fieldref 8 9), (0, .class_ 10), (0, .nameAndType 11 12), (0, u "com/example/libmember/libmember/hash/HashScheme"), (0, u "DOUBLE_HASHING"), (0, u "Lcom/example/libmember/libmember/hash/HashScheme;"), (0, .fieldref 8 14), (0, .nameAndType 15 12), (0, u "WINDOWED"), (0, .fieldref 8 17), (0, .nameAndType 18 12), (0, u "BLOCKED"), (0, .fieldref 8 20), (0, .nameAndType 21 12), (0, u "SCALED_WINDOW"), (0, .methodref 8 23), (0, .nameAndType 24 25), (0, u "ofNumber"), (0, u "(I)Lcom/example/libmember/libmember/hash/HashScheme;"), (0, .methodref 27 28), (0, .class_ 29), (0, .nameAndType 30 25), (0, u "com/example/libmember/libmember/hash/HashSchemeOfNumberPinLaw"), (0, u "expected"), (3, u "law"), (0, u "(II)Z")] 2

def k1m0 : Method := { name := "<init>", desc := "()V", sig := { parameters := [], returnType := none }, accessFlags := 2, code := none }
def k1c1 : Code := { maxStack := 2, maxLocals := 1, code := method_2_code, exceptionTable := #[], attributes := #[] }
def k1m1 : Method := { name := "expected", desc := "(I)Lcom/example/libmember/libmember/hash/HashScheme;", sig := { parameters := [.int], returnType := some (.object "com/example/libmember/libmember/hash/HashScheme") }, accessFlags := 10, code := some k1c1 }
def k1c2 : Code := { maxStack := 2, maxLocals := 5, code := code, exceptionTable := #[], attributes := #[] }
def k1m2 : Method := { name := "law", desc := "(II)Z", sig := { parameters := [.int, .int], returnType := some .boolean }, accessFlags := 9, code := some k1c2 }
/-- com/example/libmember/libmember/hash/HashSchemeOfNumberPinLaw -/
def k1 : Class := { plain "com/example/libmember/libmember/hash/HashSchemeOfNumberPinLaw" (some 0) with
  accessFlags := 49
  interfaces := #[]
  cf := some (fileOf pool1 27 #[] #[{ accessFlags := 2, nameIndex := 5, descriptorIndex := 6, attributes := #[] }, { accessFlags := 10, nameIndex := 30, descriptorIndex := 25, attributes := #[] }, { accessFlags := 9, nameIndex := 34, descriptorIndex := 35, attributes := #[] }] 49 2 #[] #[])
  fields := #[]
  methods := #[k1m0, k1m1, k1m2]
  instanceTypes := #[]
  staticTypes := #[]
  resolved := Array.replicate 38 none
  statics := none }

def pool2 : Array CpInfo := pool [(1, .class_ 2), (0, u "java/lang/constant/Constable"), (0, .class_ 4), (0, u "java/lang/Object")] 6

/-- java/lang/constant/Constable -/
def k2 : Class := { plain "java/lang/constant/Constable" (some 0) with
  accessFlags := 1537
  interfaces := #[]
  cf := some (fileOf pool2 1 #[] #[] 1537 3 #[] #[])
  fields := #[]
  methods := #[]
  instanceTypes := #[]
  staticTypes := #[]
  resolved := Array.replicate 11 none
  statics := none }

def pool3 : Array CpInfo := pool [(1, .class_ 2), (0, u "java/lang/Comparable"), (0, .class_ 4), (0, u "java/lang/Object")] 7

/-- java/lang/Comparable -/
def k3 : Class := { plain "java/lang/Comparable" (some 0) with
  accessFlags := 1537
  interfaces := #[]
  cf := some (fileOf pool3 1 #[] #[] 1537 3 #[] #[])
  fields := #[]
  methods := #[]
  instanceTypes := #[]
  staticTypes := #[]
  resolved := Array.replicate 12 none
  statics := none }

def pool4 : Array CpInfo := pool [(1, .class_ 2), (0, u "java/io/Serializable"), (0, .class_ 4), (0, u "java/lang/Object")] 2

/-- java/io/Serializable -/
def k4 : Class := { plain "java/io/Serializable" (some 0) with
  accessFlags := 1537
  interfaces := #[]
  cf := some (fileOf pool4 1 #[] #[] 1537 3 #[] #[])
  fields := #[]
  methods := #[]
  instanceTypes := #[]
  staticTypes := #[]
  resolved := Array.replicate 7 none
  statics := none }

def pool5 : Array CpInfo := pool [(2, .class_ 4), (1, u "java/lang/Enum"), (0, u "name"), (0, u "Ljava/lang/String;"), (2, u "ordinal"), (0, u "I"), (1, .class_ 14), (1, u "java/lang/Object"), (4, u "hash"), (86, .class_ 108), (1, u "java/lang/Enum$EnumDesc"), (2, .class_ 112), (0, u "java/lang/constant/Constable"), (0, .class_ 114), (0, u "java/lang/Comparable"), (0, .class_ 116), (0, u "java/io/Serializable")] 87

/-- java/lang/Enum -/
def k5 : Class := { plain "java/lang/Enum" (some 0) with
  accessFlags := 1057
  interfaces := #[2, 3, 4]
  cf := some (fileOf pool5 2 #[.nestMembers #[106]] #[] 1057 12 #[111, 113, 115] #[{ accessFlags := 18, nameIndex := 5, descriptorIndex := 6, attributes := #[] }, { accessFlags := 18, nameIndex := 9, descriptorIndex := 10, attributes := #[] }, { accessFlags := 2, nameIndex := 19, descriptorIndex := 10, attributes := #[] }])
  fields := #[{ name := "name", type := (.object "java/lang/String"), accessFlags := 18, slot := 0, constantValue := 0 }, { name := "ordinal", type := .int, accessFlags := 18, slot := 1, constantValue := 0 }, { name := "hash", type := .int, accessFlags := 2, slot := 2, constantValue := 0 }]
  methods := #[]
  instanceTypes := #[(.object "java/lang/String"), .int, .int]
  staticTypes := #[]
  resolved := Array.replicate 204 none
  statics := none }

def pool6 : Array CpInfo := pool [(1, .class_ 2), (0, u "com/example/libmember/libmember/hash/HashScheme"), (2, u "DOUBLE_HASHING"), (0, u "Lcom/example/libmember/libmember/hash/HashScheme;"), (2, u "WINDOWED"), (2, u "BLOCKED"), (2, u "SCALED_WINDOW"), (0, .fieldref 1 17), (0, .nameAndType 18 19), (0, u "$VALUES"), (0, u "[Lcom/example/libmember/libmember/hash/HashScheme;"), (0, .methodref 21 22), (0, .class_ 19), (0, .nameAndType 23 24), (0, u "clone"), (0, u "()Ljava/lang/Object;"), (1, .class_ 28), (1, u "java/lang/Enum"), (6, .fieldref 1 36), (0, .nameAndType 37 38), (0, u "number"), (0, u "I"), (2, u "formatVersion"), (2, u "rule"), (0, u "Lcom/example/libmember/libmember/hash/HashScheme$Rule;"), (2, u "blockSize"), (0, .methodref 1 50), (0, .nameAndType 51 52), (0, u "values"), (0, u "()[Lcom/example/libmember/libmember/hash/HashScheme;"), (1, .class_ 56), (1, u "com/example/libmember/libmember/hash/HashScheme$Rule"), (35, u "NEWEST"), (6, u "ofNumber"), (0, u "(I)Lcom/example/libmember/libmember/hash/HashScheme;")] 52

def k6c0 : Code := { maxStack := 1, maxLocals := 0, code := prog_9_method_1_code, exceptionTable := #[], attributes := #[] }
def k6m0 : Method := { name := "values", desc := "()[Lcom/example/libmember/libmember/hash/HashScheme;", sig := { parameters := [], returnType := some (.array (.object "com/example/libmember/libmember/hash/HashScheme")) }, accessFlags := 9, code := some k6c0 }
def k6c1 : Code := { maxStack := 2, maxLocals := 5, code := prog_9_method_4_code, exceptionTable := #[], attributes := #[] }
def k6m1 : Method := { name := "ofNumber", desc := "(I)Lcom/example/libmember/libmember/hash/HashScheme;", sig := { parameters := [.int], returnType := some (.object "com/example/libmember/libmember/hash/HashScheme") }, accessFlags := 9, code := some k6c1 }
/-- com/example/libmember/libmember/hash/HashScheme -/
def k6 : Class := { plain "com/example/libmember/libmember/hash/HashScheme" (some 5) with
  accessFlags := 16433
  interfaces := #[]
  cf := some (fileOf pool6 1 #[.nestMembers #[54]] #[{ accessFlags := 9, nameIndex := 51, descriptorIndex := 52, attributes := #[] }, { accessFlags := 9, nameIndex := 99, descriptorIndex := 100, attributes := #[] }] 16433 26 #[] #[{ accessFlags := 16409, nameIndex := 5, descriptorIndex := 6, attributes := #[] }, { accessFlags := 16409, nameIndex := 9, descriptorIndex := 6, attributes := #[] }, { accessFlags := 16409, nameIndex := 12, descriptorIndex := 6, attributes := #[] }, { accessFlags := 16409, nameIndex := 15, descriptorIndex := 6, attributes := #[] }, { accessFlags := 25, nameIndex := 92, descriptorIndex := 6, attributes := #[] }, { accessFlags := 18, nameIndex := 37, descriptorIndex := 38, attributes := #[] }, { accessFlags := 18, nameIndex := 41, descriptorIndex := 38, attributes := #[] }, { accessFlags := 18, nameIndex := 44, descriptorIndex := 45, attributes := #[] }, { accessFlags := 18, nameIndex := 48, descriptorIndex := 38, attributes := #[] }, { accessFlags := 4122, nameIndex := 18, descriptorIndex := 19, attributes := #[] }])
  fields := #[{ name := "DOUBLE_HASHING", type := (.object "com/example/libmember/libmember/hash/HashScheme"), accessFlags := 16409, slot := 0, constantValue := 0 }, { name := "WINDOWED", type := (.object "com/example/libmember/libmember/hash/HashScheme"), accessFlags := 16409, slot := 1, constantValue := 0 }, { name := "BLOCKED", type := (.object "com/example/libmember/libmember/hash/HashScheme"), accessFlags := 16409, slot := 2, constantValue := 0 }, { name := "SCALED_WINDOW", type := (.object "com/example/libmember/libmember/hash/HashScheme"), accessFlags := 16409, slot := 3, constantValue := 0 }, { name := "NEWEST", type := (.object "com/example/libmember/libmember/hash/HashScheme"), accessFlags := 25, slot := 4, constantValue := 0 }, { name := "number", type := .int, accessFlags := 18, slot := 3, constantValue := 0 }, { name := "formatVersion", type := .int, accessFlags := 18, slot := 4, constantValue := 0 }, { name := "rule", type := (.object "com/example/libmember/libmember/hash/HashScheme$Rule"), accessFlags := 18, slot := 5, constantValue := 0 }, { name := "blockSize", type := .int, accessFlags := 18, slot := 6, constantValue := 0 }, { name := "$VALUES", type := (.array (.object "com/example/libmember/libmember/hash/HashScheme")), accessFlags := 4122, slot := 5, constantValue := 0 }]
  methods := #[k6m0, k6m1]
  instanceTypes := #[(.object "java/lang/String"), .int, .int, .int, .int, (.object "com/example/libmember/libmember/hash/HashScheme$Rule"), .int]
  staticTypes := #[(.object "com/example/libmember/libmember/hash/HashScheme"), (.object "com/example/libmember/libmember/hash/HashScheme"), (.object "com/example/libmember/libmember/hash/HashScheme"), (.object "com/example/libmember/libmember/hash/HashScheme"), (.object "com/example/libmember/libmember/hash/HashScheme"), (.array (.object "com/example/libmember/libmember/hash/HashScheme"))]
  resolved := Array.replicate 153 none
  statics := some 0 }

def pool7 : Array CpInfo := pool [(1, .class_ 2), (0, u "java/lang/Cloneable"), (0, .class_ 4), (0, u "java/lang/Object")] 2

/-- java/lang/Cloneable -/
def k7 : Class := { plain "java/lang/Cloneable" (some 0) with
  accessFlags := 1537
  interfaces := #[]
  cf := some (fileOf pool7 1 #[] #[] 1537 3 #[] #[])
  fields := #[]
  methods := #[]
  instanceTypes := #[]
  staticTypes := #[]
  resolved := Array.replicate 7 none
  statics := none }

/-- the primitive byte -/
def k8 : Class := { plain "byte" none with kind := .primitive 'B', accessFlags := 0x411 }
/-- [B -/
def k9 : Class := { plain "[B" (some 0) with kind := .array 8 .byte, interfaces := #[7, 4], accessFlags := 1041 }

/-- the primitive int -/
def k10 : Class := { plain "int" none with kind := .primitive 'I', accessFlags := 0x411 }
/-- [I -/
def k11 : Class := { plain "[I" (some 0) with kind := .array 10 .int, interfaces := #[7, 4], accessFlags := 1041 }

/-- [Lcom/example/libmember/libmember/hash/HashScheme; -/
def k12 : Class := { plain "[Lcom/example/libmember/libmember/hash/HashScheme;" (some 0) with kind := .array 6 (.object "com/example/libmember/libmember/hash/HashScheme"), interfaces := #[7, 4], accessFlags := 1041 }

def heap : Heap := #[{ cls := 6, slots := #[.ref 2, .ref 3, .ref 4, .ref 5, .null, .ref 1], vm := .statics 6 },
  { cls := 12, slots := #[.ref 2, .ref 3, .ref 4, .ref 5], vm := .none },
  { cls := 6, slots := #[.null, .int 0, .int 0, .int 1, .int 0, .null, .int 0], vm := .none },
  { cls := 6, slots := #[.null, .int 1, .int 0, .int 2, .int 0, .null, .int 0], vm := .none },
  { cls := 6, slots := #[.null, .int 2, .int 0, .int 3, .int 0, .null, .int 0], vm := .none },
  { cls := 6, slots := #[.null, .int 3, .int 0, .int 4, .int 0, .null, .int 0], vm := .none }]
def classes : Array Class := #[k0, k1, k2, k3, k4, k5, k6, k7, k8, k9, k10, k11, k12]
def interned : List (Array UInt16 × Addr) := []
def slotsUsed : Nat := 38
def theMethod : MethodId := ⟨1, 2⟩
def args0 : Array Value := #[.int 5, .int 1]
def aboutOver (below : List Frame) : State where
  vm := { classes := classes, interned := interned.toArray }
  heap := heap
  slotsUsed := slotsUsed
  threads := #[{ frames := .invoking theMethod args0 :: below }]
def below0 : List Frame := [.native { method := ⟨0, 0⟩, args := #[] }]
def about1 : State := aboutOver below0
def p0 : Program := .bare "" "" ""
def e0 : Env := launch0.env 0 0 0
theorem w_frames : about1.frames = Frame.invoking theMethod args0 :: below0 := rfl
set_option maxRecDepth 65536 in
theorem w_args : argsFit about1.vm theMethod args0 = true := by decide +kernel
set_option maxRecDepth 65536 in
theorem w_heap : heapFits about1 = true := by decide +kernel
set_option maxRecDepth 65536 in
theorem w_runnable : about1.curStatus? = some .runnable := by decide +kernel
set_option maxRecDepth 65536 in
theorem w_alone : about1.alone = true := by decide +kernel
set_option maxRecDepth 65536 in
theorem w_named : about1.methodNamed? x = some theMethod := by decide +kernel
set_option maxRecDepth 65536 in
theorem w_hears : about1.hears theMethod below0 = true := by decide +kernel
set_option maxRecDepth 65536 in
theorem w_ripe : about1.ripe theMethod args0 below0 = true := by decide +kernel
theorem w_running : about1.status = .running := rfl
set_option maxRecDepth 65536 in
theorem w_room : about1.hasRoom e0.platform room_1 = true :=
  launch0.hasRoom_least _ room_1 (by decide +kernel) (by decide +kernel) (by decide +kernel) (by decide +kernel) (by decide +kernel) (by decide +kernel)
theorem allAtoms_all (ts : List Jvm.Cond) (a : Array Jvm.Value) (st : Jvm.State) : (allAtoms ts).before a st = ts.all (fun c => c.before a st) := by
  induction ts with
  | nil => rfl
  | cons c t ih =>
    show (Jvm.Cond.and c (allAtoms t)).before a st = _
    rw [Jvm.Cond.before_and, ih, List.all_cons]
def words1 : List Jvm.Cond := Jvm.Cond.code x code maxLocals ret :: tables_1
/-- a 'code' word, met by the world's own term for the bytes: nothing is compared byte by byte -/
theorem code_word {y : MethodName} {bytes : ByteArray} {mx : Nat} {rt : Option FieldType} {a : Array Value} {s : State} {m : MethodId} {meth : Method} {c : Code} (h1 : s.methodNamed? y = some m) (h2 : s.vm.method? m = some meth) (h3 : meth.code = some c) (h4 : c.code = bytes)
    (h5 : (c.maxLocals == mx && c.exceptionTable.isEmpty && decide (c.maxStack ≤ mostOperands) && decide (meth.sig.returnType = rt) && !meth.locks && decide (parseMethodDescriptor y.desc = some meth.sig)) = true) : (Jvm.Cond.code y bytes mx rt).before a s = true := by
  simp only [Bool.and_eq_true, beq_iff_eq, Bool.not_eq_true', decide_eq_true_eq] at h5
  obtain ⟨⟨⟨⟨⟨g1, g2⟩, g3⟩, g4⟩, g5⟩, g6⟩ := h5
  simp [Cond.before, Cond.holds, Cond.value, h1, h2, h3, h4, g1, g2, g3, g4, g5, g6]
def isCode : Jvm.Cond → Bool
  | .code _ _ _ _ => true
  | _ => false
theorem all_split {L : List Jvm.Cond} {P : Jvm.Cond → Bool} (h1 : L.all (fun c => isCode c || P c) = true) (h2 : ∀ c ∈ L.filter isCode, P c = true) : L.all P = true := by
  refine List.all_eq_true.mpr fun c hc => ?_
  have h := List.all_eq_true.mp h1 c hc
  rcases Bool.eq_false_or_eq_true (isCode c) with hi | hi
  · exact h2 c (List.mem_filter.mpr ⟨hc, hi⟩)
  · simpa [hi] using h
set_option maxRecDepth 65536 in
theorem w_c0 : (Jvm.Cond.code x code maxLocals ret).before args0 about1 = true := code_word (m := ⟨1, 2⟩) (meth := k1m2) (c := k1c2) (by decide +kernel) rfl rfl rfl (by decide +kernel)
set_option maxRecDepth 65536 in
theorem w_c1 : (Jvm.Cond.code ({ cls := "com/example/libmember/libmember/hash/HashScheme", name := "ofNumber", desc := "(I)Lcom/example/libmember/libmember/hash/HashScheme;" } : Jvm.MethodName) prog_9_method_4_code (5 : Nat) (Option.some (Jvm.ClassFile.FieldType.object "com/example/libmember/libmember/hash/HashScheme"))).before args0 about1 = true := code_word (m := ⟨6, 1⟩) (meth := k6m1) (c := k6c1) (by decide +kernel) rfl rfl rfl (by decide +kernel)
set_option maxRecDepth 65536 in
theorem w_c2 : (Jvm.Cond.code ({ cls := "com/example/libmember/libmember/hash/HashScheme", name := "values", desc := "()[Lcom/example/libmember/libmember/hash/HashScheme;" } : Jvm.MethodName) prog_9_method_1_code (0 : Nat) (Option.some (Jvm.ClassFile.FieldType.array (Jvm.ClassFile.FieldType.object "com/example/libmember/libmember/hash/HashScheme")))).before args0 about1 = true := code_word (m := ⟨6, 0⟩) (meth := k6m0) (c := k6c0) (by decide +kernel) rfl rfl rfl (by decide +kernel)
set_option maxRecDepth 65536 in
theorem w_c3 : (Jvm.Cond.code ({ cls := "com/example/libmember/libmember/hash/HashSchemeOfNumberPinLaw", name := "expected", desc := "(I)Lcom/example/libmember/libmember/hash/HashScheme;" } : Jvm.MethodName) method_2_code (1 : Nat) (Option.some (Jvm.ClassFile.FieldType.object "com/example/libmember/libmember/hash/HashScheme"))).before args0 about1 = true := code_word (m := ⟨1, 1⟩) (meth := k1m1) (c := k1c1) (by decide +kernel) rfl rfl rfl (by decide +kernel)
def codes1 : List Jvm.Cond := [Jvm.Cond.code x code maxLocals ret, Jvm.Cond.code ({ cls := "com/example/libmember/libmember/hash/HashScheme", name := "ofNumber", desc := "(I)Lcom/example/libmember/libmember/hash/HashScheme;" } : Jvm.MethodName) prog_9_method_4_code (5 : Nat) (Option.some (Jvm.ClassFile.FieldType.object "com/example/libmember/libmember/hash/HashScheme")), Jvm.Cond.code ({ cls := "com/example/libmember/libmember/hash/HashScheme", name := "values", desc := "()[Lcom/example/libmember/libmember/hash/HashScheme;" } : Jvm.MethodName) prog_9_method_1_code (0 : Nat) (Option.some (Jvm.ClassFile.FieldType.array (Jvm.ClassFile.FieldType.object "com/example/libmember/libmember/hash/HashScheme"))), Jvm.Cond.code ({ cls := "com/example/libmember/libmember/hash/HashSchemeOfNumberPinLaw", name := "expected", desc := "(I)Lcom/example/libmember/libmember/hash/HashScheme;" } : Jvm.MethodName) method_2_code (1 : Nat) (Option.some (Jvm.ClassFile.FieldType.object "com/example/libmember/libmember/hash/HashScheme"))]
set_option maxRecDepth 65536 in
theorem codes_eq : words1.filter isCode = codes1 := rfl
theorem w_codes : ∀ c ∈ words1.filter isCode, c.before args0 about1 = true := by
  rw [codes_eq]
  intro c hc
  simp only [codes1, List.mem_cons, List.not_mem_nil, or_false] at hc
  rcases hc with rfl | rfl | rfl | rfl
  · exact w_c0
  · exact w_c1
  · exact w_c2
  · exact w_c3
set_option maxRecDepth 65536 in
theorem w_t1 : (words1.take 24).all (fun c => isCode c || c.before args0 about1) = true := by decide +kernel
set_option maxRecDepth 65536 in
theorem w_t2 : (words1.drop 24).all (fun c => isCode c || c.before args0 about1) = true := by decide +kernel
theorem w_tables : (allAtoms (Jvm.Cond.code x code maxLocals ret :: tables_1)).before args0 about1 = true := by
  rw [allAtoms_all]
  show words1.all (fun c => c.before args0 about1) = true
  refine all_split ?_ w_codes
  rw [← List.take_append_drop 24 words1, List.all_append, w_t1, w_t2]
  rfl
set_option maxRecDepth 65536 in
theorem w_case : (Jvm.Cond.and given_1 narrow_1).before args0 about1 = true := by decide +kernel
theorem w_applies : (headSpec (Jvm.Cond.code x code maxLocals ret :: tables_1) room_1).applies x e0.platform about1 = true :=
  (Spec.applies_iff w_frames).mpr ⟨w_running, w_runnable, w_alone, w_named, w_hears, w_ripe, w_room, w_tables⟩
theorem atStart : AtStart classFile x code maxLocals ret World_1 tables_1 room_1 Calls_1 rest_1 Pre_1 launch0 p0 e0 about1 theMethod args0 below0 :=
  ⟨lists_1, trivial, launch0.admits_env _ _ _, launch0.least_env, fairChoices_fair.cas, fairChoices_fair.clock, w_frames, w_args, w_heap, w_applies, trivial, trivial, w_case⟩
end start1
theorem witness_1 : WitnessClaimed_1 := ⟨start1.p0, start1.e0, start1.about1, start1.theMethod, start1.args0, start1.below0, start1.atStart⟩
end Jvm.Pilot.@@N@@
