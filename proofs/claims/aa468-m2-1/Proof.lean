import JvmDerived
import JvmDerived.Pilot.@@N@@Statement
import JvmDerived.Pilot.@@N@@Code
set_option linter.unusedVariables false
set_option linter.unusedSimpArgs false
namespace Jvm.Pilot.@@N@@
open Jvm Jvm.ClassFile Sem Op Lib Jvm.Free Jvm.Stand Jvm.LawKit Jvm.RoadKit Bundle Jvm.Pilot.@@N@@.Jvm.D
section Own
variable {p : Program} {l : Launch} {e : Env} {R : Room} {s : State} {m : MethodId} {args : Array Value} {below : List Frame} {meth : Method} {c : Code} {T : State} {locs : List Loc} {cells slots : Nat} {Z : State} {a0 : Array Value} {h : Heap}
/-- the walk ends from A: it returns, Q holds, the frame is kept -/
def own_E (p : Program) (e : Env) (below : List Frame) (s : State) (Q : Option Value → Heap → List Loc → Prop) (K N : Nat) (A : State) : Prop :=
  ∃ t o, Steps p.tables e below A t ∧ t.status = .running ∧ Ended t below o ∧ ∃ v L, o = .returned v ∧ Q v t.heap L ∧ FrameEnd s o t L K N
variable {Q : Option Value → Heap → List Loc → Prop} {K N : Nat} {A A' : State}
theorem own_go (h : ∀ t, Steps p.tables e below A' t → Steps p.tables e below A t) (k : own_E p e below s Q K N A') : own_E p e below s Q K N A := by
  obtain ⟨t, o, h1, h2⟩ := k
  exact ⟨t, o, h _ h1, h2⟩
theorem own_ret (X : Stand p l e R s m args below meth c T locs cells slots) (hx : p.tables.exec = Jvm.exec) {pc : Nat} {Ls : Array Slot} {w : Value} {t : FieldType} {i : Instr} {rest : List Value} (hret : meth.sig.returnType = some t) (hlk : meth.locks = false) (hn : narrow t w = w)
    (hi : (i = .ireturn ∧ (t = .int ∨ t = .boolean ∨ t = .byte ∨ t = .char ∨ t = .short) ∧ ∃ z, w = .int z) ∨ (i = .lreturn ∧ t = .long ∧ ∃ z, w = .long z) ∨ (i = .dreturn ∧ t = .double ∧ ∃ z, w = .double z) ∨ (i = .freturn ∧ t = .float ∧ ∃ z, w = .float z) ∨ (i = .areturn ∧ t.isReference = true ∧ w.isRef = true))
    (hd : decode c.code pc = .ok (i, 1)) (hQ : Q (some w) T.heap locs) (hK : cells ≤ K) (hN : slots ≤ N) : own_E p e below s Q K N (T.setTop (mkF m pc Ls (w :: rest))) := by
  obtain ⟨fs, hr, hrun, hended, hW, hsame⟩ := X.leave (v := some w) (fun h => by rw [hret] at h; cases h) hlk
  exact ⟨_, _, retOut X hx hret hn hi hd hr, hrun, hended, _, _, rfl, hQ, ⟨_, rfl⟩, hW, hsame.mono hK hN⟩
theorem own_ret0 (X : Stand p l e R s m args below meth c T locs cells slots) (hx : p.tables.exec = Jvm.exec) {pc : Nat} {Ls : Array Slot} (hret : meth.sig.returnType = none) (hlk : meth.locks = false)
    (hd : decode c.code pc = .ok (.return_, 1)) (hQ : Q none T.heap locs) (hK : cells ≤ K) (hN : slots ≤ N) : own_E p e below s Q K N (T.setTop (mkF m pc Ls [])) := by
  obtain ⟨fs, hr, hrun, hended, hW, hsame⟩ := X.leave (v := none) (fun _ => rfl) hlk
  exact ⟨_, _, X.returnOut hx hret hd hr, hrun, hended, _, _, rfl, hQ, ⟨_, rfl⟩, hW, hsame.mono hK hN⟩
/-- what a callee is asked: its contract -/
abbrev own_M (l : Launch) (y : MethodName) (bytes : ByteArray) (maxL : Nat) (ret : Option FieldType) (rm : Room) (Z : State) (as' : Array Value) (h : Heap) (Q : Option Value → Heap → List Loc → Prop) : Prop :=
  MetFree l y (head1 [Jvm.Cond.code y bytes maxL ret] rm) (fun a U => a = as' ∧ Z.Warmed39 U.vm ∧ U.heap = h) (fun _ _ _ _ _ => True) (fun _ U o U' => ∃ v L, o = .returned v ∧ Q v U'.heap L ∧ FrameEnd U o U' L rm.cells rm.slots)
theorem own_callS (X : Stand p l e R s m args below meth c T locs cells slots) (hx : p.tables.exec = Jvm.exec) (hZ : Z.Warmed39 s.vm) {own : String} {index : Nat} {y : MethodName} {bytes : ByteArray} {maxL : Nat} {ret : Option FieldType} {rm : Room} {W : Nat} {argsL rest : List Value}
    (hown : s.vm.findClass own = some m.cls) (w1 : (Jvm.Cond.methodLink own index y).before a0 Z = true) (w2 : (Jvm.Cond.static y).before a0 Z = true) (w3 : (Jvm.Cond.initialized y.cls).before a0 Z = true) (w4 : (Jvm.Cond.code y bytes maxL ret).before a0 Z = true)
    (hy : y.cls ≠ "java/lang/invoke/MethodHandle" ∧ y.cls ≠ "java/lang/invoke/VarHandle") (hM : own_M l y bytes maxL ret rm Z argsL.toArray h Q) (eT : T.heap = h)
    (hf : rm.frames + 1 ≤ R.frames) (hl : W + (maxL + 11) + rm.locals ≤ R.locals) (hc : cells + rm.cells ≤ R.cells) (hs : slots + rm.slots ≤ R.slots)
    {g : JFrame} (hg : g.method = m) (hsize : g.locals.size = c.maxLocals) (hlen : ∀ sig, parseMethodDescriptor y.desc = some sig → argsL.length = sig.parameters.length)
    (hstack : g.stack = argsL.reverse ++ rest) (hW : 2 * g.monitorRoom + (rest.map fun v => v.category).sum ≤ W) (hdg : decode c.code g.pc = .ok (.invokestatic index, 3)) :
    ∃ v T' L, Stand p l e R s m args below meth c T' (locs ++ L) (cells + rm.cells) (slots + rm.slots) ∧ Q v T'.heap L ∧ ∀ target, Steps p.tables e below (T'.setTop { g with pc := g.pc + 3, stack := v.toList ++ rest }) target → Steps p.tables e below (T.setTop g) target := by
  obtain ⟨v, _, ⟨T', L', k', n'⟩, -, X', ⟨L, hQ, e1, e2, e3⟩, st⟩ := Jvm.LawKit.callS X hx (y := y) hown (mvT hZ w1) (mvT hZ w2) (mvT hZ w3) (mvT hZ w4) hy (backOf (W := W) hM hZ w4 w3 hf hl) hg hsize hlen hstack hW hdg (fun _ _ => ⟨rfl, eT, hc, hs⟩)
  dsimp only [Pt.U, Pt.locs, Pt.cells, Pt.slots] at X' e1 e2 e3 st hQ
  subst e1 e2 e3
  exact ⟨v, T', L, X', hQ, st⟩
theorem own_callV (X : Stand p l e R s m args below meth c T locs cells slots) (hx : p.tables.exec = Jvm.exec) (hZ : Z.Warmed39 s.vm) {own C : String} {index : Nat} {y : MethodName} {bytes : ByteArray} {maxL : Nat} {ret : Option FieldType} {rm : Room} {W : Nat} {b : Addr} {argsL rest : List Value}
    (hown : s.vm.findClass own = some m.cls) (w1 : (Jvm.Cond.methodLink own index y).before a0 Z = true) (w2 : (Jvm.Cond.declares y).before a0 Z = true) (w3 : (Jvm.Cond.selects C y y).before a0 Z = true) (w4 : (Jvm.Cond.instanceMethod y).before a0 Z = true) (w5 : (Jvm.Cond.code y bytes maxL ret).before a0 Z = true) (w6 : (Jvm.Cond.initialized y.cls).before a0 Z = true)
    (hy : y.cls ≠ "java/lang/invoke/MethodHandle" ∧ y.cls ≠ "java/lang/invoke/VarHandle") (hM : own_M l y bytes maxL ret rm Z (.ref b :: argsL).toArray h Q) (eT : T.heap = h) (E : Exa Z h b C)
    (hf : rm.frames + 1 ≤ R.frames) (hl : W + (maxL + 11) + rm.locals ≤ R.locals) (hc : cells + rm.cells ≤ R.cells) (hs : slots + rm.slots ≤ R.slots)
    {g : JFrame} (hg : g.method = m) (hsize : g.locals.size = c.maxLocals) (hlen : ∀ sig, parseMethodDescriptor y.desc = some sig → argsL.length = sig.parameters.length)
    (hstack : g.stack = argsL.reverse ++ .ref b :: rest) (hW : 2 * g.monitorRoom + (rest.map fun v => v.category).sum ≤ W) (hdg : decode c.code g.pc = .ok (.invokevirtual index, 3)) :
    ∃ v T' L, Stand p l e R s m args below meth c T' (locs ++ L) (cells + rm.cells) (slots + rm.slots) ∧ Q v T'.heap L ∧ ∀ target, Steps p.tables e below (T'.setTop { g with pc := g.pc + 3, stack := v.toList ++ rest }) target → Steps p.tables e below (T.setTop g) target := by
  obtain ⟨cq, kq, q1, -, q3⟩ := isOf hZ eT E
  obtain ⟨v, _, ⟨T', L', k', n'⟩, -, X', ⟨L, hQ, e1, e2, e3⟩, st⟩ := X.virtualBack hx (y := y) (z := y) hown (mvT hZ w1) (mvT hZ w2) (notFace_of_selects (args := #[]) (mvT hZ w3)) (mvT hZ w3) (mvT hZ w4) hy (backOf (W := W) hM hZ w5 w6 hf hl) q1 q3 hg hsize (Steps.refl _) hlen hstack hW hdg (fun _ _ => ⟨rfl, eT, hc, hs⟩)
  dsimp only [Pt.U, Pt.locs, Pt.cells, Pt.slots] at X' e1 e2 e3 st hQ
  subst e1 e2 e3
  exact ⟨v, T', L, X', hQ, fun _ k => st.trans k⟩
theorem own_callI (X : Stand p l e R s m args below meth c T locs cells slots) (hx : p.tables.exec = Jvm.exec) (hZ : Z.Warmed39 s.vm) {own : String} {index : Nat} {y : MethodName} {bytes : ByteArray} {maxL : Nat} {rm : Room} {W : Nat} {b : Addr} {argsL rest : List Value}
    (hown : s.vm.findClass own = some m.cls) (hy1 : y.name = "<init>") (w1 : (Jvm.Cond.methodLink own index y).before a0 Z = true) (w2 : (Jvm.Cond.instanceMethod y).before a0 Z = true) (w3 : (Jvm.Cond.initialized y.cls).before a0 Z = true) (w4 : (Jvm.Cond.code y bytes maxL none).before a0 Z = true)
    (hy : y.cls ≠ "java/lang/invoke/MethodHandle" ∧ y.cls ≠ "java/lang/invoke/VarHandle") (hM : own_M l y bytes maxL none rm Z (.ref b :: argsL).toArray h Q) (eT : T.heap = h)
    (hf : rm.frames + 1 ≤ R.frames) (hl : W + (maxL + 11) + rm.locals ≤ R.locals) (hc : cells + rm.cells ≤ R.cells) (hs : slots + rm.slots ≤ R.slots)
    {g : JFrame} (hg : g.method = m) (hsize : g.locals.size = c.maxLocals) (hlen : ∀ sig, parseMethodDescriptor y.desc = some sig → argsL.length = sig.parameters.length)
    (hstack : g.stack = argsL.reverse ++ .ref b :: rest) (hW : 2 * g.monitorRoom + (rest.map fun v => v.category).sum ≤ W) (hdg : decode c.code g.pc = .ok (.invokespecial index, 3)) :
    ∃ v T' L, Stand p l e R s m args below meth c T' (locs ++ L) (cells + rm.cells) (slots + rm.slots) ∧ Q v T'.heap L ∧ ∀ target, Steps p.tables e below (T'.setTop { g with pc := g.pc + 3, stack := v.toList ++ rest }) target → Steps p.tables e below (T.setTop g) target := by
  obtain ⟨v, _, ⟨T', L', k', n'⟩, -, X', ⟨L, hQ, e1, e2, e3⟩, st⟩ := X.specialBack hx (y := y) hy1 hown (mvT hZ w1) (mvT hZ w2) (mvT hZ w4) hy (backOf (W := W) hM hZ w4 w3 hf hl) hg hsize (Steps.refl _) hlen hstack hW hdg (fun _ _ => ⟨rfl, eT, hc, hs⟩)
  dsimp only [Pt.U, Pt.locs, Pt.cells, Pt.slots] at X' e1 e2 e3 st hQ
  subst e1 e2 e3
  exact ⟨v, T', L, X', hQ, fun _ k => st.trans k⟩
theorem own_callVU (X : Stand p l e R s m args below meth c T locs cells slots) (hx : p.tables.exec = Jvm.exec) (hZ : Z.Warmed39 s.vm) {own C owner : String} {index : Nat} {y z : MethodName} {bytes : ByteArray} {maxL : Nat} {ret : Option FieldType} {rm : Room} {W : Nat} {b : Addr} {argsL rest : List Value}
    (hown : s.vm.findClass own = some m.cls) (w1 : (Jvm.Cond.methodLink own index y).before a0 Z = true) (w2 : (Jvm.Cond.sameMethod y.cls owner y.name y.desc).before a0 Z = true) (w2' : (Jvm.Cond.declares ⟨owner, y.name, y.desc⟩).before a0 Z = true) (w3 : (Jvm.Cond.selects C y z).before a0 Z = true) (w4 : (Jvm.Cond.instanceMethod z).before a0 Z = true) (w5 : (Jvm.Cond.code z bytes maxL ret).before a0 Z = true) (w6 : (Jvm.Cond.initialized z.cls).before a0 Z = true)
    (hy : owner ≠ "java/lang/invoke/MethodHandle" ∧ owner ≠ "java/lang/invoke/VarHandle") (hM : own_M l z bytes maxL ret rm Z (.ref b :: argsL).toArray h Q) (eT : T.heap = h) (E : Exa Z h b C)
    (hf : rm.frames + 1 ≤ R.frames) (hl : W + (maxL + 11) + rm.locals ≤ R.locals) (hc : cells + rm.cells ≤ R.cells) (hs : slots + rm.slots ≤ R.slots)
    {g : JFrame} (hg : g.method = m) (hsize : g.locals.size = c.maxLocals) (hlen : ∀ sig, parseMethodDescriptor y.desc = some sig → argsL.length = sig.parameters.length)
    (hstack : g.stack = argsL.reverse ++ .ref b :: rest) (hW : 2 * g.monitorRoom + (rest.map fun v => v.category).sum ≤ W) (hdg : decode c.code g.pc = .ok (.invokevirtual index, 3)) :
    ∃ v T' L, Stand p l e R s m args below meth c T' (locs ++ L) (cells + rm.cells) (slots + rm.slots) ∧ Q v T'.heap L ∧ ∀ target, Steps p.tables e below (T'.setTop { g with pc := g.pc + 3, stack := v.toList ++ rest }) target → Steps p.tables e below (T.setTop g) target := by
  obtain ⟨cq, kq, q1, -, q3⟩ := isOf hZ eT E
  obtain ⟨v, _, ⟨T', L', k', n'⟩, -, X', ⟨L, hQ, e1, e2, e3⟩, st⟩ := X.virtualBackUp hx (x := y) (y := z) hown (mvT hZ w1) (mvT hZ w2) (mvT hZ w2') hy (mvT hZ w3) (mvT hZ w4) (backOf (W := W) hM hZ w5 w6 hf hl) q1 q3 hg hsize (Steps.refl _) hlen hstack hW hdg (fun _ _ => ⟨rfl, eT, hc, hs⟩)
  dsimp only [Pt.U, Pt.locs, Pt.cells, Pt.slots] at X' e1 e2 e3 st hQ
  subst e1 e2 e3
  exact ⟨v, T', L, X', hQ, fun _ k => st.trans k⟩
theorem own_aaload (X : Stand p l e R s m args below meth c T locs cells slots) (hx : p.tables.exec = Jvm.exec) (hZ : Z.Warmed39 s.vm) (eT : T.heap = h) {a : Addr} {cl : Cell} {ty : FieldType} (F : Arr Z h a cl ty) (hty : ty.isReference = true) {j : Int32} {v : Value} (hin : ¬ (j < 0 ∨ cl.slots.size ≤ j.toNatClampNeg)) (hv : cl.slots[j.toNatClampNeg]? = some v)
    {g : JFrame} (hg : g.method = m) {rest : List Value} (hs : g.stack = .int j :: .ref a :: rest) (hd : decode c.code g.pc = .ok (.aaload, 1)) : ∀ target, Steps p.tables e below (T.setTop { g with pc := g.pc + 1, stack := v :: rest }) target → Steps p.tables e below (T.setTop g) target :=
  X.aaload hx (by rw [eT]; exact F.1) (State.isArrayOf_alike hZ.alike F.2.1) hty F.2.2 hin hv hg hs hd
theorem own_laload (X : Stand p l e R s m args below meth c T locs cells slots) (hx : p.tables.exec = Jvm.exec) (hZ : Z.Warmed39 s.vm) (eT : T.heap = h) {a : Addr} {cl : Cell} (F : Arr Z h a cl .long) {j : Int32} {v : Value} (hin : ¬ (j < 0 ∨ cl.slots.size ≤ j.toNatClampNeg)) (hv : cl.slots[j.toNatClampNeg]? = some v)
    {g : JFrame} (hg : g.method = m) {rest : List Value} (hs : g.stack = .int j :: .ref a :: rest) (hd : decode c.code g.pc = .ok (.laload, 1)) : ∀ target, Steps p.tables e below (T.setTop { g with pc := g.pc + 1, stack := v :: rest }) target → Steps p.tables e below (T.setTop g) target :=
  X.laload hx (by rw [eT]; exact F.1) (State.isArrayOf_alike hZ.alike F.2.1) F.2.2 hin hv hg hs hd
theorem own_baload (X : Stand p l e R s m args below meth c T locs cells slots) (hx : p.tables.exec = Jvm.exec) (hZ : Z.Warmed39 s.vm) (eT : T.heap = h) {a : Addr} {cl : Cell} (F : Arr Z h a cl .byte) {j : Int32} {v : Value} (hin : ¬ (j < 0 ∨ cl.slots.size ≤ j.toNatClampNeg)) (hv : cl.slots[j.toNatClampNeg]? = some v)
    {g : JFrame} (hg : g.method = m) {rest : List Value} (hs : g.stack = .int j :: .ref a :: rest) (hd : decode c.code g.pc = .ok (.baload, 1)) : ∀ target, Steps p.tables e below (T.setTop { g with pc := g.pc + 1, stack := v :: rest }) target → Steps p.tables e below (T.setTop g) target :=
  X.baloadBytes hx (by rw [eT]; exact F.1) (State.isArrayOf_alike hZ.alike F.2.1) F.2.2 hin hv hg hs hd
theorem own_zaload (X : Stand p l e R s m args below meth c T locs cells slots) (hx : p.tables.exec = Jvm.exec) (hZ : Z.Warmed39 s.vm) (eT : T.heap = h) {a : Addr} {cl : Cell} (F : Arr Z h a cl .boolean) {j : Int32} {v : Value} (hin : ¬ (j < 0 ∨ cl.slots.size ≤ j.toNatClampNeg)) (hv : cl.slots[j.toNatClampNeg]? = some v)
    {g : JFrame} (hg : g.method = m) {rest : List Value} (hs : g.stack = .int j :: .ref a :: rest) (hd : decode c.code g.pc = .ok (.baload, 1)) : ∀ target, Steps p.tables e below (T.setTop { g with pc := g.pc + 1, stack := v :: rest }) target → Steps p.tables e below (T.setTop g) target :=
  X.baloadBooleans hx (by rw [eT]; exact F.1) (State.isArrayOf_alike hZ.alike F.2.1) F.2.2 hin hv hg hs hd
theorem own_alen (X : Stand p l e R s m args below meth c T locs cells slots) (hx : p.tables.exec = Jvm.exec) (hZ : Z.Warmed39 s.vm) (eT : T.heap = h) {a : Addr} {cl : Cell} {ty : FieldType} (F : Arr Z h a cl ty) {n : Int32} (hn : cl.slots.size.toInt32 = n)
    {g : JFrame} (hg : g.method = m) {rest : List Value} (hs : g.stack = .ref a :: rest) (hd : decode c.code g.pc = .ok (.arraylength, 1)) : ∀ target, Steps p.tables e below (T.setTop { g with pc := g.pc + 1, stack := .int n :: rest }) target → Steps p.tables e below (T.setTop g) target :=
  fun t k => X.arraylength hx (by rw [eT]; exact F.1) (State.isArrayOf_alike hZ.alike F.2.1) hg hs hd t (by rw [hn]; exact k)
theorem own_elemS {t u : Term} {a w : Addr} {cl : Cell} {k : Int32} (ev : t.eval args s none [] s = some (.ref a)) (hc : s.heap[a]? = some cl) (evu : u.eval args s none [] s = some (.ref w)) (he : (Jvm.Cond.eq (.elem t (.int k)) u).value args s none s [] = some true) :
    ¬ (k < 0 ∨ cl.slots.size ≤ k.toNatClampNeg) ∧ cl.slots[k.toNatClampNeg]? = some (.ref w) := by
  obtain ⟨x, y, h1, h2, h3, h4⟩ := cmp_v (Or.inl he)
  cases evu.symm.trans h2
  have h5 := gotT (eq_R h1 h2 h4.2 rfl) he
  subst h5
  exact elem_in h1 ev (Term.int_eval k) hc
theorem own_lenS {t : Term} {a : Addr} {cl : Cell} {n : Int32} (ev : t.eval args s none [] s = some (.ref a)) (hc : s.heap[a]? = some cl) (he : (Jvm.Cond.eq (.length t) (.int n)).value args s none s [] = some true) : cl.slots.size < 2 ^ 31 ∧ cl.slots.size.toInt32 = n := by
  obtain ⟨x, y, h1, h2, h3, h4⟩ := cmp_v (Or.inl he)
  cases (Term.int_eval n).symm.trans h2
  obtain ⟨z, rfl⟩ := h4
  have h5 : z = n := by simpa [Jvm.Cond.value, h1, h2] using he
  subst h5
  obtain ⟨a', c', q1, q2, q3⟩ := Term.length_spec h1
  cases ev.symm.trans q1
  have q4 := (State.arrayAt?_spec q2).1
  cases hc.symm.trans q4
  refine ⟨?_, (Value.int.inj q3).symm⟩
  by_cases hl : cl.slots.size < 2 ^ 31
  · exact hl
  · simp [Term.eval, ev, q2, hl] at h1
/-- from a sheet's words to facts at the start -/
theorem own_const {C n d k0 : String} (hx : (Jvm.Cond.exactly (.static C n d) k0).value args s none s [] = some true) (hi : (Jvm.Cond.initialized C).before args s = true) (hl : (Jvm.Cond.laysStatic C n d).before args s = true) :
    ∃ a, (Term.static C n d).eval args s none [] s = some (.ref a) ∧ Sta s s.heap C n d (.ref a) ∧ Exa s s.heap a k0 := by
  obtain ⟨a, ev⟩ := exa_v hx
  exact ⟨a, ev, Sta.start ev (Or.inr ⟨hi, hl⟩), Exa.start ev hx⟩
theorem own_fldI {t : Term} {a : Addr} {O n d : String} {k : Int32} (ev : t.eval args s none [] s = some (.ref a)) (he : (Jvm.Cond.eq (.field t O n d) (.int k)).value args s none s [] = some true) : Fld s s.heap a O n d (.int k) := by
  obtain ⟨x, y, h1, h2, h3, h4⟩ := cmp_v (Or.inl he)
  have h5 := h1
  rw [fld_at ev] at h5
  have h6 : y = .int k := (Option.some.inj ((Term.int_eval k).symm.trans h2)).symm
  subst h6
  obtain ⟨z, rfl⟩ := h4
  have h7 : z = k := by simpa [Jvm.Cond.value, h1, h2] using he
  subst h7
  exact Fld.start h5
end Own
section Own2
variable {p : Program} {l : Launch} {e : Env} {R : Room} {s : State} {m : MethodId} {args : Array Value} {below : List Frame} {meth : Method} {c : Code} {T : State} {locs : List Loc} {cells slots : Nat} {Z : State} {a0 : Array Value} {h : Heap}
variable {a : Addr} {k : ClassId} {ty : FieldType} {z : Int32} {vs : List Value} {dv : Value}
/-- a fresh array of n places, each said -/
theorem own_arvNew {n : Nat} (A : Arr Z h a (newA k ty z) ty) (q : ¬ z < 0) : Arv Z h a k ty z (List.replicate n (defaultValue ty)) (defaultValue ty) := (Arv.new A q).pad (pad_rep [] _ n)
theorem own_stR (X : Stand p l e R s m args below meth c T locs cells slots) (hx : p.tables.exec = Jvm.exec) (hZ : Z.Warmed39 s.vm) (eT : T.heap = h) {C : String} {y : Addr} (F : Arv Z h a k (.object C) z vs dv) (O : Ovr Z k C) (I : Ins Z h y C true) {j : Int32} (i : Nat) (hj : j.toNatClampNeg = i) (hi : i < vs.length) (hin : ¬ j < 0 ∧ j < z)
    {g : JFrame} (hg : g.method = m) {rest : List Value} (hs : g.stack = .ref y :: .int j :: .ref a :: rest) (hd : decode c.code g.pc = .ok (.aastore, 1)) :
    ∃ T' h', Stand p l e R s m args below meth c T' (locs ++ [⟨a, j.toNatClampNeg⟩]) cells slots ∧ T'.heap = h' ∧ Wr h h' a j.toNatClampNeg (.ref y) ∧ Arv Z h' a k (.object C) z (vs.set i (.ref y)) dv ∧ ∀ target, Steps p.tables e below (T'.setTop { g with pc := g.pc + 1, stack := rest }) target → Steps p.tables e below (T.setTop g) target := by
  obtain ⟨cl, A, q1, S, q3, H, G⟩ := F
  obtain ⟨T', h', X', e', W, st⟩ := stR X hx hZ eT A (inb_of S hin) rfl (Sto.ofV A q1 O I) hg hs hd
  exact ⟨T', h', X', e', W, Arv.set A q1 S q3 H G rfl W i hj hi, st⟩
theorem own_stZ (X : Stand p l e R s m args below meth c T locs cells slots) (hx : p.tables.exec = Jvm.exec) (hZ : Z.Warmed39 s.vm) (eT : T.heap = h) {x : Int32} (F : Arv Z h a k .boolean z vs dv) {j : Int32} (i : Nat) (hj : j.toNatClampNeg = i) (hi : i < vs.length) (hin : ¬ j < 0 ∧ j < z)
    {g : JFrame} (hg : g.method = m) {rest : List Value} (hs : g.stack = .int x :: .int j :: .ref a :: rest) (hd : decode c.code g.pc = .ok (.bastore, 1)) :
    ∃ T' h', Stand p l e R s m args below meth c T' (locs ++ [⟨a, j.toNatClampNeg⟩]) cells slots ∧ T'.heap = h' ∧ Wr h h' a j.toNatClampNeg (.int (nar .boolean x)) ∧ Arv Z h' a k .boolean z (vs.set i (.int (nar .boolean x))) dv ∧ ∀ target, Steps p.tables e below (T'.setTop { g with pc := g.pc + 1, stack := rest }) target → Steps p.tables e below (T.setTop g) target := by
  obtain ⟨cl, A, q1, S, q3, H, G⟩ := F
  obtain ⟨T', h', X', e', W, st⟩ := stZ X hx hZ eT A (inb_of S hin) hg hs hd
  exact ⟨T', h', X', e', W, Arv.set A q1 S q3 H G (fits_nar_bool x) W i hj hi, st⟩
theorem own_stB (X : Stand p l e R s m args below meth c T locs cells slots) (hx : p.tables.exec = Jvm.exec) (hZ : Z.Warmed39 s.vm) (eT : T.heap = h) {x : Int32} (F : Arv Z h a k .byte z vs dv) {j : Int32} (i : Nat) (hj : j.toNatClampNeg = i) (hi : i < vs.length) (hin : ¬ j < 0 ∧ j < z)
    {g : JFrame} (hg : g.method = m) {rest : List Value} (hs : g.stack = .int x :: .int j :: .ref a :: rest) (hd : decode c.code g.pc = .ok (.bastore, 1)) :
    ∃ T' h', Stand p l e R s m args below meth c T' (locs ++ [⟨a, j.toNatClampNeg⟩]) cells slots ∧ T'.heap = h' ∧ Wr h h' a j.toNatClampNeg (.int (nar .byte x)) ∧ Arv Z h' a k .byte z (vs.set i (.int (nar .byte x))) dv ∧ ∀ target, Steps p.tables e below (T'.setTop { g with pc := g.pc + 1, stack := rest }) target → Steps p.tables e below (T.setTop g) target := by
  obtain ⟨cl, A, q1, S, q3, H, G⟩ := F
  obtain ⟨T', h', X', e', W, st⟩ := stB X hx hZ eT A (inb_of S hin) hg hs hd
  exact ⟨T', h', X', e', W, Arv.set A q1 S q3 H G (fits_nar_byte x) W i hj hi, st⟩
theorem own_stJ (X : Stand p l e R s m args below meth c T locs cells slots) (hx : p.tables.exec = Jvm.exec) (hZ : Z.Warmed39 s.vm) (eT : T.heap = h) {x : Int64} (F : Arv Z h a k .long z vs dv) {j : Int32} (i : Nat) (hj : j.toNatClampNeg = i) (hi : i < vs.length) (hin : ¬ j < 0 ∧ j < z)
    {g : JFrame} (hg : g.method = m) {rest : List Value} (hs : g.stack = .long x :: .int j :: .ref a :: rest) (hd : decode c.code g.pc = .ok (.lastore, 1)) :
    ∃ T' h', Stand p l e R s m args below meth c T' (locs ++ [⟨a, j.toNatClampNeg⟩]) cells slots ∧ T'.heap = h' ∧ Wr h h' a j.toNatClampNeg (.long x) ∧ Arv Z h' a k .long z (vs.set i (.long x)) dv ∧ ∀ target, Steps p.tables e below (T'.setTop { g with pc := g.pc + 1, stack := rest }) target → Steps p.tables e below (T.setTop g) target := by
  obtain ⟨cl, A, q1, S, q3, H, G⟩ := F
  obtain ⟨T', h', X', e', W, st⟩ := stJ X hx hZ eT A (inb_of S hin) hg hs hd
  exact ⟨T', h', X', e', W, Arv.set A q1 S q3 H G rfl W i hj hi, st⟩
theorem own_stC (X : Stand p l e R s m args below meth c T locs cells slots) (hx : p.tables.exec = Jvm.exec) (hZ : Z.Warmed39 s.vm) (eT : T.heap = h) {x : Int32} (F : Arv Z h a k .char z vs dv) {j : Int32} (i : Nat) (hj : j.toNatClampNeg = i) (hi : i < vs.length) (hin : ¬ j < 0 ∧ j < z)
    {g : JFrame} (hg : g.method = m) {rest : List Value} (hs : g.stack = .int x :: .int j :: .ref a :: rest) (hd : decode c.code g.pc = .ok (.castore, 1)) :
    ∃ T' h', Stand p l e R s m args below meth c T' (locs ++ [⟨a, j.toNatClampNeg⟩]) cells slots ∧ T'.heap = h' ∧ Wr h h' a j.toNatClampNeg (.int (nar .char x)) ∧ Arv Z h' a k .char z (vs.set i (.int (nar .char x))) dv ∧ ∀ target, Steps p.tables e below (T'.setTop { g with pc := g.pc + 1, stack := rest }) target → Steps p.tables e below (T.setTop g) target := by
  obtain ⟨cl, A, q1, S, q3, H, G⟩ := F
  obtain ⟨T', h', X', e', W, st⟩ := stC X hx hZ eT A (inb_of S hin) hg hs hd
  exact ⟨T', h', X', e', W, Arv.set A q1 S q3 H G (fits_nar_char x) W i hj hi, st⟩
theorem own_caload (X : Stand p l e R s m args below meth c T locs cells slots) (hx : p.tables.exec = Jvm.exec) (hZ : Z.Warmed39 s.vm) (eT : T.heap = h) {cl : Cell} (F : Arr Z h a cl .char) {j : Int32} {v : Value} (hin : ¬ (j < 0 ∨ cl.slots.size ≤ j.toNatClampNeg)) (hv : cl.slots[j.toNatClampNeg]? = some v)
    {g : JFrame} (hg : g.method = m) {rest : List Value} (hs : g.stack = .int j :: .ref a :: rest) (hd : decode c.code g.pc = .ok (.caload, 1)) : ∀ target, Steps p.tables e below (T.setTop { g with pc := g.pc + 1, stack := v :: rest }) target → Steps p.tables e below (T.setTop g) target :=
  X.caload hx (by rw [eT]; exact F.1) (State.isArrayOf_alike hZ.alike F.2.1) F.2.2 hin hv hg hs hd
/-- a place of an array that is said -/
theorem own_at (F : Arv Z h a k ty z vs dv) {j : Int32} (hin : ¬ j < 0 ∧ j < z) : ∃ cl, Arr Z h a cl ty ∧ ¬ (j < 0 ∨ cl.slots.size ≤ j.toNatClampNeg) ∧ cl.slots[j.toNatClampNeg]? = some (vs.getD j.toNatClampNeg dv) := by
  obtain ⟨cl, A, q1, S, q3, H, G⟩ := F
  exact ⟨cl, A, inb_of S hin, H.at (inb_of S hin) rfl⟩
theorem own_len (F : Arv Z h a k ty z vs dv) : ∃ cl, Arr Z h a cl ty ∧ cl.slots.size.toInt32 = z := by
  obtain ⟨cl, A, q1, S, q3, H, G⟩ := F
  exact ⟨cl, A, len_of S q3⟩
theorem own_re {vs' : List Value} (F : Arv Z h a k ty z vs dv) (q : ∀ i, i < z.toNatClampNeg → vs'.getD i dv = vs.getD i dv) : Arv Z h a k ty z vs' dv := by
  obtain ⟨cl, A, q1, S, q3, H, G⟩ := F
  exact ⟨cl, A, q1, S, q3, fun i hi => by rw [q i (S ▸ hi)]; exact H i hi, fun i hi => by rw [q i (S ▸ hi)]; exact G i hi⟩
theorem own_no {n : Nat} {C S O k0 : String} (w : (Jvm.Cond.superclass C S).before a0 Z = true) (w2 : (Jvm.Cond.superclass S O).before a0 Z = true) (w3 : (Jvm.Cond.noSuperclass O).before a0 Z = true) (wi : (Jvm.Cond.instantiable k0 n).before a0 Z = true) (n1 : C ≠ k0) (n2 : S ≠ k0) (n3 : O ≠ k0) :
    ∃ c t, Z.vm.findClass C = some c ∧ Z.vm.findClass k0 = some t ∧ Z.vm.assignable c t = false := by
  obtain ⟨t, kt, g1, g2, g3, g4, -⟩ := Cond.instantiable_spec wi
  have hO : NS Z O k0 := by
    obtain ⟨c, kc, h1, h2, h3, -, -⟩ := Cond.noSuperclass_spec w3
    refine ⟨c, t, h1, g1, fun fuel => ?_⟩
    cases fuel with
    | zero => rfl
    | succ f => simp [Vm.isSubclassAux, ids_ne h1 g1 n3, h2, h3]
  obtain ⟨c, t', h0, g0, n4⟩ := NS.step w (NS.step w2 hO n2) n1
  cases g1.symm.trans g0
  obtain ⟨p, kk, kp, h1, h2, h3, h4, h5, -, h7⟩ := Cond.superclass_spec h0 w
  refine ⟨c, t, h0, g0, ?_⟩
  show Z.vm.assignableAux (255 + 1) c t = false
  simp only [Bool.or_eq_false_iff] at g4
  simp [Vm.assignableAux, ids_ne h0 g0 n1, h2, g2, h5, g3, g4.1, Vm.isSubclass, n4]
theorem own_clone (X : Stand p l e R s m args below meth c T locs cells slots) (hx : p.tables.exec = Jvm.exec) (hZ : Z.Warmed39 s.vm) {own ad : String} {index : Nat} (hown : s.vm.findClass own = some m.cls)
    (w1 : (Jvm.Cond.methodLink own index ⟨ad, "clone", "()Ljava/lang/Object;"⟩).before a0 Z = true) (w2 : (Jvm.Cond.sameMethod ad "java/lang/Object" "clone" "()Ljava/lang/Object;").before a0 Z = true) (w3 : (Jvm.Cond.native ⟨"java/lang/Object", "clone", "()Ljava/lang/Object;"⟩).before a0 Z = true)
    (w4 : (Jvm.Cond.instanceMethod ⟨"java/lang/Object", "clone", "()Ljava/lang/Object;"⟩).before a0 Z = true) (w5 : (Jvm.Cond.selects ad ⟨ad, "clone", "()Ljava/lang/Object;"⟩ ⟨"java/lang/Object", "clone", "()Ljava/lang/Object;"⟩).before a0 Z = true) (w6 : (Jvm.Cond.castable ad "java/lang/Cloneable").before a0 Z = true)
    (eT : T.heap = h) (F : Arv Z h a k ty z vs dv) (E : Exa Z h a ad) {g : JFrame} (hg : g.method = m) (hsize : g.locals.size = c.maxLocals) {rest : List Value} (hst : g.stack = .ref a :: rest) (hd : decode c.code g.pc = .ok (.invokevirtual index, 3))
    (hf : 1 ≤ R.frames) {W cap : Nat} (hW : 2 * g.monitorRoom + (rest.map fun v => v.category).sum ≤ W) (hl : W + 14 ≤ R.locals) (hcap : z.toNatClampNeg ≤ cap) (hc : cells + 1 ≤ R.cells) (hsl : slots + cap ≤ R.slots) :
    ∃ T' h', Stand p l e R s m args below meth c T' locs (cells + 1) (slots + cap) ∧ T'.heap = h' ∧ Ext h h' ∧ Arv Z h' h.size k ty z vs dv ∧ Exa Z h' h.size ad ∧
      ∀ target, Steps p.tables e below (T'.setTop { g with pc := g.pc + 3, stack := .ref h.size :: rest }) target → Steps p.tables e below (T.setTop g) target := by
  obtain ⟨cl, A, q1, S, q3, H, G⟩ := F
  obtain ⟨T', h', X', e', E', A', B', st⟩ := cloneA X hx hZ hown w1 w2 w3 w4 w5 w6 eT A E (fitC_of A (fun i hi v hv => by rw [H i hi] at hv; cases hv; exact G i hi)) hg hsize hst hd hf hW hl (by rw [S]; exact hcap) hc hsl
  exact ⟨T', h', X', e', E', ⟨cloneOf cl, A', q1, S, q3, H, G⟩, B', st⟩
end Own2
def own_r (n z : Int32) (v0 v1 v2 v3 : Int64) : Int64 := if n - 1 < z then (if n = 1 then v0 else if n = 2 then v1 else if n = 3 then v2 else v3) else 0
theorem own_sub1 {n : Int32} (h : 1 ≤ n.toInt) : (n - 1).toInt = n.toInt - 1 := by
  have e1 : (1 : Int32).toInt = 1 := by decide
  have h2 := n.toInt_lt
  rw [Int32.toInt_sub, e1]
  exact Int.bmod_eq_of_le (by omega) (by omega)
theorem own_four {n z : Int32} (hn : 1 ≤ n.toInt) (hz : z.toInt ≤ 4) (q : n - 1 < z) : n = 1 ∨ n = 2 ∨ n = 3 ∨ n = 4 := by
  have e0 : (0 : Int32).toInt = 0 := by decide
  have e1 : (1 : Int32).toInt = 1 := by decide
  have e2 : (2 : Int32).toInt = 2 := by decide
  have e3 : (3 : Int32).toInt = 3 := by decide
  have e4 : (4 : Int32).toInt = 4 := by decide
  have e5 : (5 : Int32).toInt = 5 := by decide
  rw [Int32.lt_iff_toInt_lt, own_sub1 hn] at q
  simp only [← Int32.toInt_inj]
  rw [e1, e2, e3, e4]
  omega
theorem own_five {n : Int32} (hn : 1 ≤ n.toInt) : n = 1 ∨ n = 2 ∨ n = 3 ∨ n = 4 ∨ 5 ≤ n.toInt := by
  have e0 : (0 : Int32).toInt = 0 := by decide
  have e1 : (1 : Int32).toInt = 1 := by decide
  have e2 : (2 : Int32).toInt = 2 := by decide
  have e3 : (3 : Int32).toInt = 3 := by decide
  have e4 : (4 : Int32).toInt = 4 := by decide
  have e5 : (5 : Int32).toInt = 5 := by decide
  simp only [← Int32.toInt_inj]
  rw [e1, e2, e3, e4]
  omega
theorem own_far {n z : Int32} {v0 v1 v2 v3 : Int64} (hn : 5 ≤ n.toInt) (hz : z.toInt ≤ 4) : own_r n z v0 v1 v2 v3 = 0 := by
  have q : ¬ n - 1 < z := by rw [Int32.lt_iff_toInt_lt, own_sub1 (by omega)]; omega
  rw [own_r, if_neg q]
theorem own_nq {n t : Int32} (hn : 5 ≤ n.toInt) (ht : t.toInt ≤ 4) : ¬ n = t := fun z => by subst z; omega
theorem own_z (x : Int32) : (x &&& 7) % 5 = 0 ∨ (x &&& 7) % 5 = 1 ∨ (x &&& 7) % 5 = 2 ∨ (x &&& 7) % 5 = 3 ∨ (x &&& 7) % 5 = 4 := by
  have h1 := c_and x 7 (by decide)
  have h2 := (c_iremV (x &&& 7) 5).1 h1.1 (by decide)
  have e0 : (0 : Int32).toInt = 0 := by decide
  have e1 : (1 : Int32).toInt = 1 := by decide
  have e2 : (2 : Int32).toInt = 2 := by decide
  have e3 : (3 : Int32).toInt = 3 := by decide
  have e4 : (4 : Int32).toInt = 4 := by decide
  have e5 : (5 : Int32).toInt = 5 := by decide
  rw [e5] at h2
  simp only [← Int32.toInt_inj]
  rw [e0, e1, e2, e3, e4]
  omega
theorem own_n2 (x : Int32) : 1 ≤ ((1 : Int32) + (x &&& 7)).toInt := by
  have h1 := c_and x 7 (by decide)
  have e1 : (1 : Int32).toInt = 1 := by decide
  have e7 : (7 : Int32).toInt = 7 := by decide
  rw [e7] at h1
  rw [Int32.toInt_add, e1]
  have b2 : (1 + (x &&& 7).toInt).bmod (2 ^ 32) = 1 + (x &&& 7).toInt := Int.bmod_eq_of_le (by omega) (by omega)
  rw [b2]; omega
theorem own_n1 (x : Int32) : 1 ≤ ((1 : Int32) + ((x &&& 2147483647) % 2147483647)).toInt := by
  have h1 := c_and x 2147483647 (by decide)
  have h2 := (c_iremV (x &&& 2147483647) 2147483647).1 h1.1 (by decide)
  have e1 : (1 : Int32).toInt = 1 := by decide
  have e7 : (2147483647 : Int32).toInt = 2147483647 := by decide
  rw [e7] at h2
  rw [Int32.toInt_add, e1]
  have b2 : (1 + ((x &&& 2147483647) % 2147483647).toInt).bmod (2 ^ 32) = 1 + ((x &&& 2147483647) % 2147483647).toInt := Int.bmod_eq_of_le (by omega) (by omega)
  rw [b2]; omega
theorem own_gd0 {v0 v1 v2 v3 : Int64} (i : Nat) (hi : i < (0 : Int32).toNatClampNeg) : ([.long v0, .long v1, .long v2, .long v3] : List Value).getD i (.long 0) = ([] : List Value).getD i (.long 0) := by
  have hi : i < 0 := hi
  omega
theorem own_gd1 {v0 v1 v2 v3 : Int64} (i : Nat) (hi : i < (1 : Int32).toNatClampNeg) : ([.long v0, .long v1, .long v2, .long v3] : List Value).getD i (.long 0) = ([.long v0] : List Value).getD i (.long 0) := by
  have hi : i < 1 := hi
  match i, hi with
  | 0, _ => rfl
theorem own_gd2 {v0 v1 v2 v3 : Int64} (i : Nat) (hi : i < (2 : Int32).toNatClampNeg) : ([.long v0, .long v1, .long v2, .long v3] : List Value).getD i (.long 0) = ([.long v0, .long v1] : List Value).getD i (.long 0) := by
  have hi : i < 2 := hi
  match i, hi with
  | 0, _ => rfl
  | 1, _ => rfl
theorem own_gd3 {v0 v1 v2 v3 : Int64} (i : Nat) (hi : i < (3 : Int32).toNatClampNeg) : ([.long v0, .long v1, .long v2, .long v3] : List Value).getD i (.long 0) = ([.long v0, .long v1, .long v2] : List Value).getD i (.long 0) := by
  have hi : i < 3 := hi
  match i, hi with
  | 0, _ => rfl
  | 1, _ => rfl
  | 2, _ => rfl
theorem own_gd4 {v0 v1 v2 v3 : Int64} (i : Nat) (hi : i < (4 : Int32).toNatClampNeg) : ([.long v0, .long v1, .long v2, .long v3] : List Value).getD i (.long 0) = ([.long v0, .long v1, .long v2, .long v3] : List Value).getD i (.long 0) := by
  have hi : i < 4 := hi
  match i, hi with
  | 0, _ => rfl
  | 1, _ => rfl
  | 2, _ => rfl
  | 3, _ => rfl
theorem pd_0 : parseMethodDescriptor "(Ljava/util/Map;)Ljava/util/Map;" = some ⟨[(.object "java/util/Map")], some (.object "java/util/Map")⟩ := by decide +kernel
theorem pd_1 : parseMethodDescriptor "()Ljava/util/Map;" = some ⟨[], some (.object "java/util/Map")⟩ := by decide +kernel
theorem pd_2 : parseMethodDescriptor "([JLjava/util/Map;)V" = some ⟨[(.array .long), (.object "java/util/Map")], none⟩ := by decide +kernel
theorem pd_3 : parseMethodDescriptor "()V" = some ⟨[], none⟩ := by decide +kernel
theorem pd_4 : parseMethodDescriptor "()I" = some ⟨[], some .int⟩ := by decide +kernel
theorem pd_5 : parseMethodDescriptor "(I)Lcom/example/pathwright/pathwright/value/PrimitiveType;" = some ⟨[.int], some (.object "com/example/pathwright/pathwright/value/PrimitiveType")⟩ := by decide +kernel
theorem pd_6 : parseMethodDescriptor "([J)V" = some ⟨[(.array .long)], none⟩ := by decide +kernel
theorem pd_7 : parseMethodDescriptor "(ILcom/example/pathwright/pathwright/value/PrimitiveType;)V" = some ⟨[.int, (.object "com/example/pathwright/pathwright/value/PrimitiveType")], none⟩ := by decide +kernel
theorem pd_8 : parseMethodDescriptor "(Lcom/example/pathwright/pathwright/value/Input;)J" = some ⟨[(.object "com/example/pathwright/pathwright/value/Input")], some .long⟩ := by decide +kernel
theorem d1_0 : decode method_2_code 0 = .ok (.iload_n 0, 1) := by decide +kernel
theorem d1_1 : decode method_2_code 1 = .ok (.ifCond .ne 7, 3) := by decide +kernel
theorem d1_4 : decode method_2_code 4 = .ok (.getstatic 7, 3) := by decide +kernel
theorem d1_7 : decode method_2_code 7 = .ok (.areturn, 1) := by decide +kernel
theorem d1_8 : decode method_2_code 8 = .ok (.iload_n 0, 1) := by decide +kernel
theorem d1_9 : decode method_2_code 9 = .ok (.iconst 1, 1) := by decide +kernel
theorem d1_10 : decode method_2_code 10 = .ok (.if_icmp .ne 7, 3) := by decide +kernel
theorem d1_13 : decode method_2_code 13 = .ok (.getstatic 13, 3) := by decide +kernel
theorem d1_16 : decode method_2_code 16 = .ok (.areturn, 1) := by decide +kernel
theorem d1_17 : decode method_2_code 17 = .ok (.iload_n 0, 1) := by decide +kernel
theorem d1_18 : decode method_2_code 18 = .ok (.iconst 2, 1) := by decide +kernel
theorem d1_19 : decode method_2_code 19 = .ok (.if_icmp .ne 7, 3) := by decide +kernel
theorem d1_22 : decode method_2_code 22 = .ok (.getstatic 16, 3) := by decide +kernel
theorem d1_25 : decode method_2_code 25 = .ok (.areturn, 1) := by decide +kernel
theorem d1_26 : decode method_2_code 26 = .ok (.iload_n 0, 1) := by decide +kernel
theorem d1_27 : decode method_2_code 27 = .ok (.iconst 3, 1) := by decide +kernel
theorem d1_28 : decode method_2_code 28 = .ok (.if_icmp .ne 7, 3) := by decide +kernel
theorem d1_31 : decode method_2_code 31 = .ok (.getstatic 19, 3) := by decide +kernel
theorem d1_34 : decode method_2_code 34 = .ok (.areturn, 1) := by decide +kernel
theorem d1_35 : decode method_2_code 35 = .ok (.iload_n 0, 1) := by decide +kernel
theorem d1_36 : decode method_2_code 36 = .ok (.iconst 4, 1) := by decide +kernel
theorem d1_37 : decode method_2_code 37 = .ok (.if_icmp .ne 7, 3) := by decide +kernel
theorem d1_40 : decode method_2_code 40 = .ok (.getstatic 22, 3) := by decide +kernel
theorem d1_43 : decode method_2_code 43 = .ok (.areturn, 1) := by decide +kernel
theorem d1_44 : decode method_2_code 44 = .ok (.iload_n 0, 1) := by decide +kernel
theorem d1_45 : decode method_2_code 45 = .ok (.iconst 5, 1) := by decide +kernel
theorem d1_46 : decode method_2_code 46 = .ok (.if_icmp .ne 7, 3) := by decide +kernel
theorem d1_49 : decode method_2_code 49 = .ok (.getstatic 25, 3) := by decide +kernel
theorem d1_52 : decode method_2_code 52 = .ok (.areturn, 1) := by decide +kernel
theorem d1_53 : decode method_2_code 53 = .ok (.iload_n 0, 1) := by decide +kernel
theorem d1_54 : decode method_2_code 54 = .ok (.bipush 6, 2) := by decide +kernel
theorem d1_56 : decode method_2_code 56 = .ok (.if_icmp .ne 7, 3) := by decide +kernel
theorem d1_59 : decode method_2_code 59 = .ok (.getstatic 28, 3) := by decide +kernel
theorem d1_62 : decode method_2_code 62 = .ok (.areturn, 1) := by decide +kernel
theorem d1_63 : decode method_2_code 63 = .ok (.getstatic 31, 3) := by decide +kernel
theorem d1_66 : decode method_2_code 66 = .ok (.areturn, 1) := by decide +kernel
def Qrm1 (n : Int32) (w0 : Addr) (w1 : Addr) (w2 : Addr) (w3 : Addr) (w4 : Addr) (w5 : Addr) (w6 : Addr) (w7 : Addr) (Z : State) (h0 : Heap) (n0 : Nat) (v : Option Value) (h : Heap) (L : List Loc) : Prop := (∃ r, v = some (.ref r)) ∧ Fr n0 L ∧ h = h0
set_option maxRecDepth 65536 in
set_option maxHeartbeats 40000000 in
theorem rm1 (l : Launch) (Z : State) (a0 : Array Value) (hw : ∀ d ∈ tables_1, d.before a0 Z = true) (n : Int32) (w0 : Addr) (w1 : Addr) (w2 : Addr) (w3 : Addr) (w4 : Addr) (w5 : Addr) (w6 : Addr) (w7 : Addr) (h0 : Heap) (n0 : Nat) (Z0 : n0 ≤ h0.size) (S0 : Sta Z h0 "com/example/pathwright/pathwright/value/PrimitiveType" "BOOLEAN" "Lcom/example/pathwright/pathwright/value/PrimitiveType;" (.ref w0)) (S1 : Sta Z h0 "com/example/pathwright/pathwright/value/PrimitiveType" "BYTE" "Lcom/example/pathwright/pathwright/value/PrimitiveType;" (.ref w1)) (S2 : Sta Z h0 "com/example/pathwright/pathwright/value/PrimitiveType" "CHAR" "Lcom/example/pathwright/pathwright/value/PrimitiveType;" (.ref w2)) (S3 : Sta Z h0 "com/example/pathwright/pathwright/value/PrimitiveType" "SHORT" "Lcom/example/pathwright/pathwright/value/PrimitiveType;" (.ref w3)) (S4 : Sta Z h0 "com/example/pathwright/pathwright/value/PrimitiveType" "INT" "Lcom/example/pathwright/pathwright/value/PrimitiveType;" (.ref w4)) (S5 : Sta Z h0 "com/example/pathwright/pathwright/value/PrimitiveType" "LONG" "Lcom/example/pathwright/pathwright/value/PrimitiveType;" (.ref w5)) (S6 : Sta Z h0 "com/example/pathwright/pathwright/value/PrimitiveType" "FLOAT" "Lcom/example/pathwright/pathwright/value/PrimitiveType;" (.ref w6)) (S7 : Sta Z h0 "com/example/pathwright/pathwright/value/PrimitiveType" "DOUBLE" "Lcom/example/pathwright/pathwright/value/PrimitiveType;" (.ref w7)) :
    MetFree l (⟨"com/example/pathwright/pathwright/value/AssignmentValueOfPinLaw", "typeOf", "(I)Lcom/example/pathwright/pathwright/value/PrimitiveType;"⟩ : MethodName) (head1 (Jvm.Cond.code (⟨"com/example/pathwright/pathwright/value/AssignmentValueOfPinLaw", "typeOf", "(I)Lcom/example/pathwright/pathwright/value/PrimitiveType;"⟩ : MethodName) method_2_code 1 (some (.object "com/example/pathwright/pathwright/value/PrimitiveType")) :: []) ({ frames := 0, cells := 0, slots := 0, locals := 0 } : Room)) (fun ar_ U => ar_ = #[(.int n)] ∧ Z.Warmed39 U.vm ∧ U.heap = h0) (fun _ _ _ _ _ => True) (fun _ U o U' => ∃ v L, o = .returned v ∧ Qrm1 n w0 w1 w2 w3 w4 w5 w6 w7 Z h0 n0 v U'.heap L ∧ FrameEnd U o U' L ({ frames := 0, cells := 0, slots := 0, locals := 0 } : Room).cells ({ frames := 0, cells := 0, slots := 0, locals := 0 } : Room).slots) := by
  refine MetFree.of_bodySF (plainFor_of_name (by first | (simp [plainName, overriddenIn]; done) | decide +kernel)) hisR ?_
  intro p e s m args below meth c s₁ Bd hml0 hP hK
  obtain ⟨rfl, hZ, hh⟩ := hP
  have hx := Bd.exec
  have hby := Bd.bytes
  have hml : c.maxLocals = 1 := hml0
  have hown : s.vm.findClass "com/example/pathwright/pathwright/value/AssignmentValueOfPinLaw" = some m.cls := findClass_of_methodNamed Bd.named
  have hnm := (name_of_methodNamed Bd.named Bd.method).1
  have X0 : Stand p l e ({ frames := 0, cells := 0, slots := 0, locals := 0 } : Room) s m #[(.int n)] below meth c s₁ [] 0 0 := Stand.of_body Bd
  have e0 : s₁.heap = h0 := by rw [← hh, Bd.state]; rfl
  have N0 := Fr.nil n0
  show own_E p e below s (Qrm1 n w0 w1 w2 w3 w4 w5 w6 w7 Z h0 n0) ({ frames := 0, cells := 0, slots := 0, locals := 0 } : Room).cells ({ frames := 0, cells := 0, slots := 0, locals := 0 } : Room).slots (s₁.setTop (entryFrame m #[(.int n)] 1))
  refine own_go (fun t k => castTop (show _ = (mkF m 0 #[.val (.int n)] []) from by first | (simp [entryFrame, mkF, argsToLocals, Value.category]; done) | rfl) k) ?_
  show own_E _ _ _ _ _ _ _ (s₁.setTop (mkF m 0 #[.val (.int n)] []))
  refine own_go (fun _ k => XS.iloadN X0.here hx rfl (hb hby d1_0) rfl k) ?_
  show own_E _ _ _ _ _ _ _ (s₁.setTop (mkF m 1 #[.val (.int n)] [(.int n)]))
  by_cases q0 : n = 0
  ·
    refine own_go (fun _ k => XS.ifNo X0.here hx rfl (hb hby d1_1) rfl (XT.i0_ne_f q0) k) ?_
    show own_E _ _ _ _ _ _ _ (s₁.setTop (mkF m 4 #[.val (.int n)] []))
    obtain ⟨T1, X1, e1, st1⟩ := getS2 X0 hx hZ hown (host := "") (Or.inl (hw _ (List.mem_of_getElem? (i := 6) rfl))) Via.refl e0 S0 (g := (mkF m 4 #[.val (.int n)] [])) rfl (hb hby d1_4)
    refine own_go st1 ?_
    show own_E _ _ _ _ _ _ _ (T1.setTop (mkF m 7 #[.val (.int n)] [(.ref w0)]))
    exact own_ret X1 hx Bd.returns Bd.notSynchronized rfl (Or.inr (Or.inr (Or.inr (Or.inr ⟨rfl, rfl, rfl⟩)))) (hb hby d1_7) (by rw [e1]; exact ⟨⟨_, rfl⟩, N0, rfl⟩) (by decide) (by decide)
  ·
    refine own_go (fun _ k => XS.ifYes X0.here hx rfl (pc0 := 1) (pc' := 8) rfl (hb hby d1_1) rfl (XT.i0_ne_t q0) (by decide) (by decide) k) ?_
    show own_E _ _ _ _ _ _ _ (s₁.setTop (mkF m 8 #[.val (.int n)] []))
    refine own_go (fun _ k => XS.iloadN X0.here hx rfl (hb hby d1_8) rfl k) ?_
    show own_E _ _ _ _ _ _ _ (s₁.setTop (mkF m 9 #[.val (.int n)] [(.int n)]))
    refine own_go (fun _ k => XT.iconstV X0.here hx rfl (1 : Int32) (hb hby d1_9) (by decide) k) ?_
    show own_E _ _ _ _ _ _ _ (s₁.setTop (mkF m 10 #[.val (.int n)] [(.int (1 : Int32)), (.int n)]))
    by_cases q1 : n = 1
    ·
      refine own_go (fun _ k => XS.icmpNo X0.here hx rfl (hb hby d1_10) rfl (teq q1).2 k) ?_
      show own_E _ _ _ _ _ _ _ (s₁.setTop (mkF m 13 #[.val (.int n)] []))
      obtain ⟨T2, X2, e2, st2⟩ := getS2 X0 hx hZ hown (host := "") (Or.inl (hw _ (List.mem_of_getElem? (i := 75) rfl))) Via.refl e0 S1 (g := (mkF m 13 #[.val (.int n)] [])) rfl (hb hby d1_13)
      refine own_go st2 ?_
      show own_E _ _ _ _ _ _ _ (T2.setTop (mkF m 16 #[.val (.int n)] [(.ref w1)]))
      exact own_ret X2 hx Bd.returns Bd.notSynchronized rfl (Or.inr (Or.inr (Or.inr (Or.inr ⟨rfl, rfl, rfl⟩)))) (hb hby d1_16) (by rw [e2]; exact ⟨⟨_, rfl⟩, N0, rfl⟩) (by decide) (by decide)
    ·
      refine own_go (fun _ k => XS.icmpYes X0.here hx rfl (pc0 := 10) (pc' := 17) rfl (hb hby d1_10) rfl (feq q1).2 (by decide) (by decide) k) ?_
      show own_E _ _ _ _ _ _ _ (s₁.setTop (mkF m 17 #[.val (.int n)] []))
      refine own_go (fun _ k => XS.iloadN X0.here hx rfl (hb hby d1_17) rfl k) ?_
      show own_E _ _ _ _ _ _ _ (s₁.setTop (mkF m 18 #[.val (.int n)] [(.int n)]))
      refine own_go (fun _ k => XT.iconstV X0.here hx rfl (2 : Int32) (hb hby d1_18) (by decide) k) ?_
      show own_E _ _ _ _ _ _ _ (s₁.setTop (mkF m 19 #[.val (.int n)] [(.int (2 : Int32)), (.int n)]))
      by_cases q2 : n = 2
      ·
        refine own_go (fun _ k => XS.icmpNo X0.here hx rfl (hb hby d1_19) rfl (teq q2).2 k) ?_
        show own_E _ _ _ _ _ _ _ (s₁.setTop (mkF m 22 #[.val (.int n)] []))
        obtain ⟨T3, X3, e3, st3⟩ := getS2 X0 hx hZ hown (host := "") (Or.inl (hw _ (List.mem_of_getElem? (i := 73) rfl))) Via.refl e0 S2 (g := (mkF m 22 #[.val (.int n)] [])) rfl (hb hby d1_22)
        refine own_go st3 ?_
        show own_E _ _ _ _ _ _ _ (T3.setTop (mkF m 25 #[.val (.int n)] [(.ref w2)]))
        exact own_ret X3 hx Bd.returns Bd.notSynchronized rfl (Or.inr (Or.inr (Or.inr (Or.inr ⟨rfl, rfl, rfl⟩)))) (hb hby d1_25) (by rw [e3]; exact ⟨⟨_, rfl⟩, N0, rfl⟩) (by decide) (by decide)
      ·
        refine own_go (fun _ k => XS.icmpYes X0.here hx rfl (pc0 := 19) (pc' := 26) rfl (hb hby d1_19) rfl (feq q2).2 (by decide) (by decide) k) ?_
        show own_E _ _ _ _ _ _ _ (s₁.setTop (mkF m 26 #[.val (.int n)] []))
        refine own_go (fun _ k => XS.iloadN X0.here hx rfl (hb hby d1_26) rfl k) ?_
        show own_E _ _ _ _ _ _ _ (s₁.setTop (mkF m 27 #[.val (.int n)] [(.int n)]))
        refine own_go (fun _ k => XT.iconstV X0.here hx rfl (3 : Int32) (hb hby d1_27) (by decide) k) ?_
        show own_E _ _ _ _ _ _ _ (s₁.setTop (mkF m 28 #[.val (.int n)] [(.int (3 : Int32)), (.int n)]))
        by_cases q3 : n = 3
        ·
          refine own_go (fun _ k => XS.icmpNo X0.here hx rfl (hb hby d1_28) rfl (teq q3).2 k) ?_
          show own_E _ _ _ _ _ _ _ (s₁.setTop (mkF m 31 #[.val (.int n)] []))
          obtain ⟨T4, X4, e4, st4⟩ := getS2 X0 hx hZ hown (host := "") (Or.inl (hw _ (List.mem_of_getElem? (i := 83) rfl))) Via.refl e0 S3 (g := (mkF m 31 #[.val (.int n)] [])) rfl (hb hby d1_31)
          refine own_go st4 ?_
          show own_E _ _ _ _ _ _ _ (T4.setTop (mkF m 34 #[.val (.int n)] [(.ref w3)]))
          exact own_ret X4 hx Bd.returns Bd.notSynchronized rfl (Or.inr (Or.inr (Or.inr (Or.inr ⟨rfl, rfl, rfl⟩)))) (hb hby d1_34) (by rw [e4]; exact ⟨⟨_, rfl⟩, N0, rfl⟩) (by decide) (by decide)
        ·
          refine own_go (fun _ k => XS.icmpYes X0.here hx rfl (pc0 := 28) (pc' := 35) rfl (hb hby d1_28) rfl (feq q3).2 (by decide) (by decide) k) ?_
          show own_E _ _ _ _ _ _ _ (s₁.setTop (mkF m 35 #[.val (.int n)] []))
          refine own_go (fun _ k => XS.iloadN X0.here hx rfl (hb hby d1_35) rfl k) ?_
          show own_E _ _ _ _ _ _ _ (s₁.setTop (mkF m 36 #[.val (.int n)] [(.int n)]))
          refine own_go (fun _ k => XT.iconstV X0.here hx rfl (4 : Int32) (hb hby d1_36) (by decide) k) ?_
          show own_E _ _ _ _ _ _ _ (s₁.setTop (mkF m 37 #[.val (.int n)] [(.int (4 : Int32)), (.int n)]))
          by_cases q4 : n = 4
          ·
            refine own_go (fun _ k => XS.icmpNo X0.here hx rfl (hb hby d1_37) rfl (teq q4).2 k) ?_
            show own_E _ _ _ _ _ _ _ (s₁.setTop (mkF m 40 #[.val (.int n)] []))
            obtain ⟨T5, X5, e5, st5⟩ := getS2 X0 hx hZ hown (host := "") (Or.inl (hw _ (List.mem_of_getElem? (i := 81) rfl))) Via.refl e0 S4 (g := (mkF m 40 #[.val (.int n)] [])) rfl (hb hby d1_40)
            refine own_go st5 ?_
            show own_E _ _ _ _ _ _ _ (T5.setTop (mkF m 43 #[.val (.int n)] [(.ref w4)]))
            exact own_ret X5 hx Bd.returns Bd.notSynchronized rfl (Or.inr (Or.inr (Or.inr (Or.inr ⟨rfl, rfl, rfl⟩)))) (hb hby d1_43) (by rw [e5]; exact ⟨⟨_, rfl⟩, N0, rfl⟩) (by decide) (by decide)
          ·
            refine own_go (fun _ k => XS.icmpYes X0.here hx rfl (pc0 := 37) (pc' := 44) rfl (hb hby d1_37) rfl (feq q4).2 (by decide) (by decide) k) ?_
            show own_E _ _ _ _ _ _ _ (s₁.setTop (mkF m 44 #[.val (.int n)] []))
            refine own_go (fun _ k => XS.iloadN X0.here hx rfl (hb hby d1_44) rfl k) ?_
            show own_E _ _ _ _ _ _ _ (s₁.setTop (mkF m 45 #[.val (.int n)] [(.int n)]))
            refine own_go (fun _ k => XT.iconstV X0.here hx rfl (5 : Int32) (hb hby d1_45) (by decide) k) ?_
            show own_E _ _ _ _ _ _ _ (s₁.setTop (mkF m 46 #[.val (.int n)] [(.int (5 : Int32)), (.int n)]))
            by_cases q5 : n = 5
            ·
              refine own_go (fun _ k => XS.icmpNo X0.here hx rfl (hb hby d1_46) rfl (teq q5).2 k) ?_
              show own_E _ _ _ _ _ _ _ (s₁.setTop (mkF m 49 #[.val (.int n)] []))
              obtain ⟨T6, X6, e6, st6⟩ := getS2 X0 hx hZ hown (host := "") (Or.inl (hw _ (List.mem_of_getElem? (i := 79) rfl))) Via.refl e0 S5 (g := (mkF m 49 #[.val (.int n)] [])) rfl (hb hby d1_49)
              refine own_go st6 ?_
              show own_E _ _ _ _ _ _ _ (T6.setTop (mkF m 52 #[.val (.int n)] [(.ref w5)]))
              exact own_ret X6 hx Bd.returns Bd.notSynchronized rfl (Or.inr (Or.inr (Or.inr (Or.inr ⟨rfl, rfl, rfl⟩)))) (hb hby d1_52) (by rw [e6]; exact ⟨⟨_, rfl⟩, N0, rfl⟩) (by decide) (by decide)
            ·
              refine own_go (fun _ k => XS.icmpYes X0.here hx rfl (pc0 := 46) (pc' := 53) rfl (hb hby d1_46) rfl (feq q5).2 (by decide) (by decide) k) ?_
              show own_E _ _ _ _ _ _ _ (s₁.setTop (mkF m 53 #[.val (.int n)] []))
              refine own_go (fun _ k => XS.iloadN X0.here hx rfl (hb hby d1_53) rfl k) ?_
              show own_E _ _ _ _ _ _ _ (s₁.setTop (mkF m 54 #[.val (.int n)] [(.int n)]))
              refine own_go (fun _ k => XT.bipushV X0.here hx rfl (6 : Int32) (hb hby d1_54) (by decide) k) ?_
              show own_E _ _ _ _ _ _ _ (s₁.setTop (mkF m 56 #[.val (.int n)] [(.int (6 : Int32)), (.int n)]))
              by_cases q6 : n = 6
              ·
                refine own_go (fun _ k => XS.icmpNo X0.here hx rfl (hb hby d1_56) rfl (teq q6).2 k) ?_
                show own_E _ _ _ _ _ _ _ (s₁.setTop (mkF m 59 #[.val (.int n)] []))
                obtain ⟨T7, X7, e7, st7⟩ := getS2 X0 hx hZ hown (host := "") (Or.inl (hw _ (List.mem_of_getElem? (i := 77) rfl))) Via.refl e0 S6 (g := (mkF m 59 #[.val (.int n)] [])) rfl (hb hby d1_59)
                refine own_go st7 ?_
                show own_E _ _ _ _ _ _ _ (T7.setTop (mkF m 62 #[.val (.int n)] [(.ref w6)]))
                exact own_ret X7 hx Bd.returns Bd.notSynchronized rfl (Or.inr (Or.inr (Or.inr (Or.inr ⟨rfl, rfl, rfl⟩)))) (hb hby d1_62) (by rw [e7]; exact ⟨⟨_, rfl⟩, N0, rfl⟩) (by decide) (by decide)
              ·
                refine own_go (fun _ k => XS.icmpYes X0.here hx rfl (pc0 := 56) (pc' := 63) rfl (hb hby d1_56) rfl (feq q6).2 (by decide) (by decide) k) ?_
                show own_E _ _ _ _ _ _ _ (s₁.setTop (mkF m 63 #[.val (.int n)] []))
                obtain ⟨T8, X8, e8, st8⟩ := getS2 X0 hx hZ hown (host := "") (Or.inl (hw _ (List.mem_of_getElem? (i := 71) rfl))) Via.refl e0 S7 (g := (mkF m 63 #[.val (.int n)] [])) rfl (hb hby d1_63)
                refine own_go st8 ?_
                show own_E _ _ _ _ _ _ _ (T8.setTop (mkF m 66 #[.val (.int n)] [(.ref w7)]))
                exact own_ret X8 hx Bd.returns Bd.notSynchronized rfl (Or.inr (Or.inr (Or.inr (Or.inr ⟨rfl, rfl, rfl⟩)))) (hb hby d1_66) (by rw [e8]; exact ⟨⟨_, rfl⟩, N0, rfl⟩) (by decide) (by decide)
theorem d3_0 : decode jdk_72_method_26_code 0 = .ok (.getstatic 81, 3) := by decide +kernel
theorem d3_3 : decode jdk_72_method_26_code 3 = .ok (.areturn, 1) := by decide +kernel
def Qrm3 (em : Addr) (Z : State) (h0 : Heap) (n0 : Nat) (v : Option Value) (h : Heap) (L : List Loc) : Prop := v = some (.ref em) ∧ Fr n0 L ∧ h = h0
set_option maxRecDepth 65536 in
set_option maxHeartbeats 40000000 in
theorem rm3 (l : Launch) (Z : State) (a0 : Array Value) (hw : ∀ d ∈ tables_1, d.before a0 Z = true) (em : Addr) (h0 : Heap) (n0 : Nat) (Z0 : n0 ≤ h0.size) (S : Sta Z h0 "java/util/ImmutableCollections" "EMPTY_MAP" "Ljava/util/ImmutableCollections$MapN;" (.ref em)) :
    MetFree l (⟨"java/util/Map", "of", "()Ljava/util/Map;"⟩ : MethodName) (head1 (Jvm.Cond.code (⟨"java/util/Map", "of", "()Ljava/util/Map;"⟩ : MethodName) jdk_72_method_26_code 0 (some (.object "java/util/Map")) :: []) ({ frames := 0, cells := 0, slots := 0, locals := 0 } : Room)) (fun ar_ U => ar_ = #[] ∧ Z.Warmed39 U.vm ∧ U.heap = h0) (fun _ _ _ _ _ => True) (fun _ U o U' => ∃ v L, o = .returned v ∧ Qrm3 em Z h0 n0 v U'.heap L ∧ FrameEnd U o U' L ({ frames := 0, cells := 0, slots := 0, locals := 0 } : Room).cells ({ frames := 0, cells := 0, slots := 0, locals := 0 } : Room).slots) := by
  refine MetFree.of_bodySF (plainFor_of_name (by first | (simp [plainName, overriddenIn]; done) | decide +kernel)) hisR ?_
  intro p e s m args below meth c s₁ Bd hml0 hP hK
  obtain ⟨rfl, hZ, hh⟩ := hP
  have hx := Bd.exec
  have hby := Bd.bytes
  have hml : c.maxLocals = 0 := hml0
  have hown : s.vm.findClass "java/util/Map" = some m.cls := findClass_of_methodNamed Bd.named
  have hnm := (name_of_methodNamed Bd.named Bd.method).1
  have X0 : Stand p l e ({ frames := 0, cells := 0, slots := 0, locals := 0 } : Room) s m #[] below meth c s₁ [] 0 0 := Stand.of_body Bd
  have e0 : s₁.heap = h0 := by rw [← hh, Bd.state]; rfl
  have N0 := Fr.nil n0
  show own_E p e below s (Qrm3 em Z h0 n0) ({ frames := 0, cells := 0, slots := 0, locals := 0 } : Room).cells ({ frames := 0, cells := 0, slots := 0, locals := 0 } : Room).slots (s₁.setTop (entryFrame m #[] 0))
  refine own_go (fun t k => castTop (show _ = (mkF m 0 #[] []) from by first | (simp [entryFrame, mkF, argsToLocals, Value.category]; done) | rfl) k) ?_
  show own_E _ _ _ _ _ _ _ (s₁.setTop (mkF m 0 #[] []))
  obtain ⟨T1, X1, e1, st1⟩ := getS2 X0 hx hZ hown (host := "") (Or.inl (hw _ (List.mem_of_getElem? (i := 19) rfl))) Via.refl e0 S (g := (mkF m 0 #[] [])) rfl (hb hby d3_0)
  refine own_go st1 ?_
  show own_E _ _ _ _ _ _ _ (T1.setTop (mkF m 3 #[] [(.ref em)]))
  exact own_ret X1 hx Bd.returns Bd.notSynchronized rfl (Or.inr (Or.inr (Or.inr (Or.inr ⟨rfl, rfl, rfl⟩)))) (hb hby d3_3) (by rw [e1]; exact ⟨rfl, N0, rfl⟩) (by decide) (by decide)
theorem d6_0 : decode jdk_72_method_39_code 0 = .ok (.aload_n 0, 1) := by decide +kernel
theorem d6_1 : decode jdk_72_method_39_code 1 = .ok (.instanceof 101, 3) := by decide +kernel
theorem d6_4 : decode jdk_72_method_39_code 4 = .ok (.ifCond .eq 5, 3) := by decide +kernel
theorem d6_7 : decode jdk_72_method_39_code 7 = .ok (.aload_n 0, 1) := by decide +kernel
theorem d6_8 : decode jdk_72_method_39_code 8 = .ok (.areturn, 1) := by decide +kernel
def Qrm6 (em : Addr) (Z : State) (h0 : Heap) (n0 : Nat) (v : Option Value) (h : Heap) (L : List Loc) : Prop := v = some (.ref em) ∧ Fr n0 L ∧ h = h0
set_option maxRecDepth 65536 in
set_option maxHeartbeats 40000000 in
theorem rm6 (l : Launch) (Z : State) (a0 : Array Value) (hw : ∀ d ∈ tables_1, d.before a0 Z = true) (em : Addr) (h0 : Heap) (n0 : Nat) (Z0 : n0 ≤ h0.size) (E : Exa Z h0 em "java/util/ImmutableCollections$MapN") :
    MetFree l (⟨"java/util/Map", "copyOf", "(Ljava/util/Map;)Ljava/util/Map;"⟩ : MethodName) (head1 (Jvm.Cond.code (⟨"java/util/Map", "copyOf", "(Ljava/util/Map;)Ljava/util/Map;"⟩ : MethodName) jdk_72_method_39_code 1 (some (.object "java/util/Map")) :: []) ({ frames := 0, cells := 0, slots := 0, locals := 0 } : Room)) (fun ar_ U => ar_ = #[(.ref em)] ∧ Z.Warmed39 U.vm ∧ U.heap = h0) (fun _ _ _ _ _ => True) (fun _ U o U' => ∃ v L, o = .returned v ∧ Qrm6 em Z h0 n0 v U'.heap L ∧ FrameEnd U o U' L ({ frames := 0, cells := 0, slots := 0, locals := 0 } : Room).cells ({ frames := 0, cells := 0, slots := 0, locals := 0 } : Room).slots) := by
  refine MetFree.of_bodySF (plainFor_of_name (by first | (simp [plainName, overriddenIn]; done) | decide +kernel)) hisR ?_
  intro p e s m args below meth c s₁ Bd hml0 hP hK
  obtain ⟨rfl, hZ, hh⟩ := hP
  have hx := Bd.exec
  have hby := Bd.bytes
  have hml : c.maxLocals = 1 := hml0
  have hown : s.vm.findClass "java/util/Map" = some m.cls := findClass_of_methodNamed Bd.named
  have hnm := (name_of_methodNamed Bd.named Bd.method).1
  have X0 : Stand p l e ({ frames := 0, cells := 0, slots := 0, locals := 0 } : Room) s m #[(.ref em)] below meth c s₁ [] 0 0 := Stand.of_body Bd
  have e0 : s₁.heap = h0 := by rw [← hh, Bd.state]; rfl
  have N0 := Fr.nil n0
  show own_E p e below s (Qrm6 em Z h0 n0) ({ frames := 0, cells := 0, slots := 0, locals := 0 } : Room).cells ({ frames := 0, cells := 0, slots := 0, locals := 0 } : Room).slots (s₁.setTop (entryFrame m #[(.ref em)] 1))
  refine own_go (fun t k => castTop (show _ = (mkF m 0 #[.val (.ref em)] []) from by first | (simp [entryFrame, mkF, argsToLocals, Value.category]; done) | rfl) k) ?_
  show own_E _ _ _ _ _ _ _ (s₁.setTop (mkF m 0 #[.val (.ref em)] []))
  refine own_go (fun _ k => XS.aloadN X0.here hx rfl (hb hby d6_0) rfl rfl k) ?_
  show own_E _ _ _ _ _ _ _ (s₁.setTop (mkF m 1 #[.val (.ref em)] [(.ref em)]))
  obtain ⟨T1, X1, e1, st1⟩ := instY X0 hx hZ hown (hw _ (List.mem_of_getElem? (i := 41) rfl)) e0 (Ins.of_exa E (hw _ (List.mem_of_getElem? (i := 42) rfl))) (g := (mkF m 1 #[.val (.ref em)] [(.ref em)])) rfl rfl (hb hby d6_1)
  refine own_go st1 ?_
  show own_E _ _ _ _ _ _ _ (T1.setTop (mkF m 4 #[.val (.ref em)] [(.int (1 : Int32))]))
  refine own_go (fun _ k => XS.ifNo X1.here hx rfl (hb hby d6_4) rfl (by decide) k) ?_
  show own_E _ _ _ _ _ _ _ (T1.setTop (mkF m 7 #[.val (.ref em)] []))
  refine own_go (fun _ k => XS.aloadN X1.here hx rfl (hb hby d6_7) rfl rfl k) ?_
  show own_E _ _ _ _ _ _ _ (T1.setTop (mkF m 8 #[.val (.ref em)] [(.ref em)]))
  exact own_ret X1 hx Bd.returns Bd.notSynchronized rfl (Or.inr (Or.inr (Or.inr (Or.inr ⟨rfl, rfl, rfl⟩)))) (hb hby d6_8) (by rw [e1]; exact ⟨rfl, N0, rfl⟩) (by decide) (by decide)
theorem d4_0 : decode prog_53_method_2_code 0 = .ok (.aload_n 0, 1) := by decide +kernel
theorem d4_1 : decode prog_53_method_2_code 1 = .ok (.invokespecial 13, 3) := by decide +kernel
theorem d4_4 : decode prog_53_method_2_code 4 = .ok (.aload_n 0, 1) := by decide +kernel
theorem d4_5 : decode prog_53_method_2_code 5 = .ok (.aload_n 1, 1) := by decide +kernel
theorem d4_6 : decode prog_53_method_2_code 6 = .ok (.invokevirtual 18, 3) := by decide +kernel
theorem d4_9 : decode prog_53_method_2_code 9 = .ok (.checkcast 19, 3) := by decide +kernel
theorem d4_12 : decode prog_53_method_2_code 12 = .ok (.putfield 24, 3) := by decide +kernel
theorem d4_15 : decode prog_53_method_2_code 15 = .ok (.aload_n 0, 1) := by decide +kernel
theorem d4_16 : decode prog_53_method_2_code 16 = .ok (.aload_n 2, 1) := by decide +kernel
theorem d4_17 : decode prog_53_method_2_code 17 = .ok (.invokestatic 27, 3) := by decide +kernel
theorem d4_20 : decode prog_53_method_2_code 20 = .ok (.putfield 31, 3) := by decide +kernel
theorem d4_23 : decode prog_53_method_2_code 23 = .ok (.return_, 1) := by decide +kernel
def Qrm4 (a : Addr) (ar : Addr) (kA : ClassId) (z : Int32) (v0 : Int64) (v1 : Int64) (v2 : Int64) (v3 : Int64) (em : Addr) (Z : State) (h0 : Heap) (n0 : Nat) (v : Option Value) (h : Heap) (L : List Loc) : Prop := v = none ∧ Fr n0 L ∧ Keep h0 h [a] ∧ Exa Z h a "com/example/pathwright/pathwright/value/Assignment" ∧ ∃ c, Fld Z h a "com/example/pathwright/pathwright/value/Assignment" "values" "[J" (.ref c) ∧ Arv Z h c kA .long z [.long v0, .long v1, .long v2, .long v3] (.long 0) ∧ h0.size ≤ c
set_option maxRecDepth 65536 in
set_option maxHeartbeats 40000000 in
theorem rm4 (l : Launch) (Z : State) (a0 : Array Value) (hw : ∀ d ∈ tables_1, d.before a0 Z = true) (a : Addr) (ar : Addr) (kA : ClassId) (z : Int32) (v0 : Int64) (v1 : Int64) (v2 : Int64) (v3 : Int64) (em : Addr) (h0 : Heap) (n0 : Nat) (Z0 : n0 ≤ h0.size) (hz : z.toNatClampNeg ≤ 4) (E : Exa Z h0 a "com/example/pathwright/pathwright/value/Assignment") (F : Fld Z h0 a "com/example/pathwright/pathwright/value/Assignment" "values" "[J" .null) (G : Fld Z h0 a "com/example/pathwright/pathwright/value/Assignment" "elements" "Ljava/util/Map;" .null) (ga : n0 ≤ a) (V : Arv Z h0 ar kA .long z [.long v0, .long v1, .long v2, .long v3] (.long 0)) (EV : Exa Z h0 ar "[J") (nea : ar ≠ a) (EM : Exa Z h0 em "java/util/ImmutableCollections$MapN") (nem : em ≠ a) :
    MetFree l (⟨"com/example/pathwright/pathwright/value/Assignment", "<init>", "([JLjava/util/Map;)V"⟩ : MethodName) (head1 (Jvm.Cond.code (⟨"com/example/pathwright/pathwright/value/Assignment", "<init>", "([JLjava/util/Map;)V"⟩ : MethodName) prog_53_method_2_code 3 none :: []) ({ frames := 1, cells := 1, slots := 4, locals := 16 } : Room)) (fun ar_ U => ar_ = #[(.ref a), (.ref ar), (.ref em)] ∧ Z.Warmed39 U.vm ∧ U.heap = h0) (fun _ _ _ _ _ => True) (fun _ U o U' => ∃ v L, o = .returned v ∧ Qrm4 a ar kA z v0 v1 v2 v3 em Z h0 n0 v U'.heap L ∧ FrameEnd U o U' L ({ frames := 1, cells := 1, slots := 4, locals := 16 } : Room).cells ({ frames := 1, cells := 1, slots := 4, locals := 16 } : Room).slots) := by
  refine MetFree.of_bodySF (plainFor_of_name (by first | (simp [plainName, overriddenIn]; done) | decide +kernel)) hisR ?_
  intro p e s m args below meth c s₁ Bd hml0 hP hK
  obtain ⟨rfl, hZ, hh⟩ := hP
  have hx := Bd.exec
  have hby := Bd.bytes
  have hml : c.maxLocals = 3 := hml0
  have hown : s.vm.findClass "com/example/pathwright/pathwright/value/Assignment" = some m.cls := findClass_of_methodNamed Bd.named
  have hnm := (name_of_methodNamed Bd.named Bd.method).1
  have X0 : Stand p l e ({ frames := 1, cells := 1, slots := 4, locals := 16 } : Room) s m #[(.ref a), (.ref ar), (.ref em)] below meth c s₁ [] 0 0 := Stand.of_body Bd
  have e0 : s₁.heap = h0 := by rw [← hh, Bd.state]; rfl
  have N0 := Fr.nil n0
  show own_E p e below s (Qrm4 a ar kA z v0 v1 v2 v3 em Z h0 n0) ({ frames := 1, cells := 1, slots := 4, locals := 16 } : Room).cells ({ frames := 1, cells := 1, slots := 4, locals := 16 } : Room).slots (s₁.setTop (entryFrame m #[(.ref a), (.ref ar), (.ref em)] 3))
  refine own_go (fun t k => castTop (show _ = (mkF m 0 #[.val (.ref a), .val (.ref ar), .val (.ref em)] []) from by first | (simp [entryFrame, mkF, argsToLocals, Value.category]; done) | rfl) k) ?_
  show own_E _ _ _ _ _ _ _ (s₁.setTop (mkF m 0 #[.val (.ref a), .val (.ref ar), .val (.ref em)] []))
  have KK := Keep.refl h0 [a]
  refine own_go (fun _ k => XS.aloadN X0.here hx rfl (hb hby d4_0) rfl rfl k) ?_
  show own_E _ _ _ _ _ _ _ (s₁.setTop (mkF m 1 #[.val (.ref a), .val (.ref ar), .val (.ref em)] [(.ref a)]))
  obtain ⟨T11, X11, e11, st11⟩ := initO X0 hx hZ hown (hw _ (List.mem_of_getElem? (i := 24) rfl)) (hw _ (List.mem_of_getElem? (i := 25) rfl)) (hw _ (List.mem_of_getElem? (i := 26) rfl)) e0 (g := (mkF m 1 #[.val (.ref a), .val (.ref ar), .val (.ref em)] [(.ref a)])) rfl (by rw [hml]; rfl) rfl (hb hby d4_1) (by decide) (W := 0) (Nat.le_of_ble_eq_true rfl) (by decide)
  refine own_go st11 ?_
  show own_E _ _ _ _ _ _ _ (T11.setTop (mkF m 4 #[.val (.ref a), .val (.ref ar), .val (.ref em)] []))
  refine own_go (fun _ k => XS.aloadN X11.here hx rfl (hb hby d4_4) rfl rfl k) ?_
  show own_E _ _ _ _ _ _ _ (T11.setTop (mkF m 5 #[.val (.ref a), .val (.ref ar), .val (.ref em)] [(.ref a)]))
  refine own_go (fun _ k => XS.aloadN X11.here hx rfl (hb hby d4_5) rfl rfl k) ?_
  show own_E _ _ _ _ _ _ _ (T11.setTop (mkF m 6 #[.val (.ref a), .val (.ref ar), .val (.ref em)] [(.ref ar), (.ref a)]))
  obtain ⟨T12, h12, X12, e12, E12, v12, B12, st12⟩ := own_clone X11 hx hZ hown (hw _ (List.mem_of_getElem? (i := 27) rfl)) (hw _ (List.mem_of_getElem? (i := 28) rfl)) (hw _ (List.mem_of_getElem? (i := 32) rfl)) (hw _ (List.mem_of_getElem? (i := 30) rfl)) (hw _ (List.mem_of_getElem? (i := 31) rfl)) (hw _ (List.mem_of_getElem? (i := 33) rfl)) e11 V EV (g := (mkF m 6 #[.val (.ref a), .val (.ref ar), .val (.ref em)] [(.ref ar), (.ref a)])) rfl (by rw [hml]; rfl) rfl (hb hby d4_6) (by decide) (W := 1) (cap := 4) (Nat.le_of_ble_eq_true rfl) (by decide) hz (by decide) (by decide)
  obtain ⟨ac, g12⟩ : ∃ z, z = h0.size := ⟨_, rfl⟩
  rw [← g12] at v12 B12 st12
  have ne12_1 : a ≠ ac := by rw [g12]; exact Nat.ne_of_lt F.lt
  have ne12_2 : ar ≠ ac := by rw [g12]; exact Nat.ne_of_lt V.lt
  have ne12_3 : em ≠ ac := by rw [g12]; exact Nat.ne_of_lt EM.lt
  have w12 : n0 ≤ ac := by rw [g12]; exact Z0
  have kz12 : h0.size ≤ ac := by rw [g12]; exact KK.1
  have f12_0 := F.ext E12
  have f12_1 := G.ext E12
  have f12_2 := E.ext E12
  have f12_4 := V.ext E12
  have f12_5 := EV.ext E12
  have f12_7 := EM.ext E12
  have K12 := KK.ext E12
  have Z12 := Nat.le_trans Z0 E12.1
  refine own_go st12 ?_
  show own_E _ _ _ _ _ _ _ (T12.setTop (mkF m 9 #[.val (.ref a), .val (.ref ar), .val (.ref em)] [(.ref ac), (.ref a)]))
  obtain ⟨T13, X13, e13, st13⟩ := castY X12 hx hZ hown (hw _ (List.mem_of_getElem? (i := 34) rfl)) e12 (Ins.self B12) (g := (mkF m 9 #[.val (.ref a), .val (.ref ar), .val (.ref em)] [(.ref ac), (.ref a)])) rfl rfl (hb hby d4_9)
  refine own_go st13 ?_
  show own_E _ _ _ _ _ _ _ (T13.setTop (mkF m 12 #[.val (.ref a), .val (.ref ar), .val (.ref em)] [(.ref ac), (.ref a)]))
  obtain ⟨T14, h14, X14, e14, W14, st14⟩ := putF X13 hx hZ hown (host := "") (Or.inl (hw _ (List.mem_of_getElem? (i := 36) rfl))) Via.refl e13 f12_0 f12_2 (Or.inr ⟨(hw _ (List.mem_of_getElem? (i := 37) rfl)), rfl, hnm⟩) (hw _ (List.mem_of_getElem? (i := 10) rfl)) (ty := (.array .long)) (by decide +kernel) rfl rfl (g := (mkF m 12 #[.val (.ref a), .val (.ref ar), .val (.ref em)] [(.ref ac), (.ref a)])) rfl rfl (hb hby d4_12)
  have f14_0 := f12_0.same W14
  have f14_1 := f12_1.other W14 (Or.inr (slot_ne (Or.inr (hw _ (List.mem_of_getElem? (i := 44) rfl))) (Or.inr (hw _ (List.mem_of_getElem? (i := 37) rfl))) (by decide) (t := (.object "java/util/Map")) (t' := (.array .long)) (by decide +kernel) (by decide +kernel)))
  have f14_2 := f12_2.wr W14
  have f14_4 := f12_4.other W14 nea
  have f14_5 := f12_5.wr W14
  have f14_7 := f12_7.wr W14
  have f14_14 := v12.other W14 ne12_1.symm
  have f14_15 := B12.wr W14
  have Z14 : n0 ≤ h14.size := by rw [W14.size]; exact Z12
  have N14 := Fr.snoc X14 N0 ga
  have K14 := K12.wr W14 (Or.inl (by simp))
  refine own_go st14 ?_
  show own_E _ _ _ _ _ _ _ (T14.setTop (mkF m 15 #[.val (.ref a), .val (.ref ar), .val (.ref em)] []))
  refine own_go (fun _ k => XS.aloadN X14.here hx rfl (hb hby d4_15) rfl rfl k) ?_
  show own_E _ _ _ _ _ _ _ (T14.setTop (mkF m 16 #[.val (.ref a), .val (.ref ar), .val (.ref em)] [(.ref a)]))
  refine own_go (fun _ k => XS.aloadN X14.here hx rfl (hb hby d4_16) rfl rfl k) ?_
  show own_E _ _ _ _ _ _ _ (T14.setTop (mkF m 17 #[.val (.ref a), .val (.ref ar), .val (.ref em)] [(.ref em), (.ref a)]))
  obtain ⟨v15, T15, L15, X15, hQ15, st15⟩ := own_callS X14 hx hZ (rm := ({ frames := 0, cells := 0, slots := 0, locals := 0 } : Room)) (W := 1) (argsL := [(.ref em)]) (rest := [(.ref a)]) (y := (⟨"java/util/Map", "copyOf", "(Ljava/util/Map;)Ljava/util/Map;"⟩ : MethodName)) hown (hw _ (List.mem_of_getElem? (i := 38) rfl)) (hw _ (List.mem_of_getElem? (i := 39) rfl)) (hw _ (List.mem_of_getElem? (i := 17) rfl)) (hw _ (List.mem_of_getElem? (i := 40) rfl)) (by decide) (rm6 l Z a0 hw em h14 n0 Z14 f14_7) e14 (by decide) (by decide) (by decide) (by decide) (g := (mkF m 17 #[.val (.ref a), .val (.ref ar), .val (.ref em)] [(.ref em), (.ref a)])) rfl (by rw [hml]; rfl) (lenOf pd_0 rfl) rfl (Nat.le_of_ble_eq_true rfl) (hb hby d4_17)
  obtain ⟨rfl, N15, e15⟩ := hQ15
  refine own_go st15 ?_
  show own_E _ _ _ _ _ _ _ (T15.setTop (mkF m 20 #[.val (.ref a), .val (.ref ar), .val (.ref em)] [(.ref em), (.ref a)]))
  have M15 := Fr.app N14 N15
  obtain ⟨T16, h16, X16, e16, W16, st16⟩ := putF X15 hx hZ hown (host := "") (Or.inl (hw _ (List.mem_of_getElem? (i := 43) rfl))) Via.refl e15 f14_1 f14_2 (Or.inr ⟨(hw _ (List.mem_of_getElem? (i := 44) rfl)), rfl, hnm⟩) (hw _ (List.mem_of_getElem? (i := 10) rfl)) (ty := (.object "java/util/Map")) (by decide +kernel) rfl rfl (g := (mkF m 20 #[.val (.ref a), .val (.ref ar), .val (.ref em)] [(.ref em), (.ref a)])) rfl rfl (hb hby d4_20)
  have f16_0 := f14_0.other W16 (Or.inr (slot_ne (Or.inr (hw _ (List.mem_of_getElem? (i := 37) rfl))) (Or.inr (hw _ (List.mem_of_getElem? (i := 44) rfl))) (by decide) (t := (.array .long)) (t' := (.object "java/util/Map")) (by decide +kernel) (by decide +kernel)))
  have f16_1 := f14_1.same W16
  have f16_2 := f14_2.wr W16
  have f16_4 := f14_4.other W16 nea
  have f16_5 := f14_5.wr W16
  have f16_7 := f14_7.wr W16
  have f16_14 := f14_14.other W16 ne12_1.symm
  have f16_15 := f14_15.wr W16
  have Z16 : n0 ≤ h16.size := by rw [W16.size]; exact Z14
  have N16 := Fr.snoc X16 M15 ga
  have K16 := K14.wr W16 (Or.inl (by simp))
  refine own_go st16 ?_
  show own_E _ _ _ _ _ _ _ (T16.setTop (mkF m 23 #[.val (.ref a), .val (.ref ar), .val (.ref em)] []))
  exact own_ret0 X16 hx Bd.returns Bd.notSynchronized (hb hby d4_23) (by rw [e16]; exact ⟨rfl, N16, K16, f16_2, _, f16_0, f16_14, Nat.le_of_eq g12.symm⟩) (by decide) (by decide)
theorem d2_0 : decode prog_53_method_1_code 0 = .ok (.aload_n 0, 1) := by decide +kernel
theorem d2_1 : decode prog_53_method_1_code 1 = .ok (.aload_n 1, 1) := by decide +kernel
theorem d2_2 : decode prog_53_method_1_code 2 = .ok (.invokestatic 1, 3) := by decide +kernel
theorem d2_5 : decode prog_53_method_1_code 5 = .ok (.invokespecial 7, 3) := by decide +kernel
theorem d2_8 : decode prog_53_method_1_code 8 = .ok (.return_, 1) := by decide +kernel
def Qrm2 (a : Addr) (ar : Addr) (kA : ClassId) (z : Int32) (v0 : Int64) (v1 : Int64) (v2 : Int64) (v3 : Int64) (em : Addr) (Z : State) (h0 : Heap) (n0 : Nat) (v : Option Value) (h : Heap) (L : List Loc) : Prop := v = none ∧ Fr n0 L ∧ Keep h0 h [a] ∧ Exa Z h a "com/example/pathwright/pathwright/value/Assignment" ∧ ∃ c, Fld Z h a "com/example/pathwright/pathwright/value/Assignment" "values" "[J" (.ref c) ∧ Arv Z h c kA .long z [.long v0, .long v1, .long v2, .long v3] (.long 0) ∧ h0.size ≤ c
set_option maxRecDepth 65536 in
set_option maxHeartbeats 40000000 in
theorem rm2 (l : Launch) (Z : State) (a0 : Array Value) (hw : ∀ d ∈ tables_1, d.before a0 Z = true) (a : Addr) (ar : Addr) (kA : ClassId) (z : Int32) (v0 : Int64) (v1 : Int64) (v2 : Int64) (v3 : Int64) (em : Addr) (h0 : Heap) (n0 : Nat) (Z0 : n0 ≤ h0.size) (hz : z.toNatClampNeg ≤ 4) (E : Exa Z h0 a "com/example/pathwright/pathwright/value/Assignment") (F : Fld Z h0 a "com/example/pathwright/pathwright/value/Assignment" "values" "[J" .null) (G : Fld Z h0 a "com/example/pathwright/pathwright/value/Assignment" "elements" "Ljava/util/Map;" .null) (ga : n0 ≤ a) (V : Arv Z h0 ar kA .long z [.long v0, .long v1, .long v2, .long v3] (.long 0)) (EV : Exa Z h0 ar "[J") (nea : ar ≠ a) (EM : Exa Z h0 em "java/util/ImmutableCollections$MapN") (nem : em ≠ a) (SM : Sta Z h0 "java/util/ImmutableCollections" "EMPTY_MAP" "Ljava/util/ImmutableCollections$MapN;" (.ref em)) :
    MetFree l (⟨"com/example/pathwright/pathwright/value/Assignment", "<init>", "([J)V"⟩ : MethodName) (head1 (Jvm.Cond.code (⟨"com/example/pathwright/pathwright/value/Assignment", "<init>", "([J)V"⟩ : MethodName) prog_53_method_1_code 2 none :: []) ({ frames := 2, cells := 1, slots := 4, locals := 32 } : Room)) (fun ar_ U => ar_ = #[(.ref a), (.ref ar)] ∧ Z.Warmed39 U.vm ∧ U.heap = h0) (fun _ _ _ _ _ => True) (fun _ U o U' => ∃ v L, o = .returned v ∧ Qrm2 a ar kA z v0 v1 v2 v3 em Z h0 n0 v U'.heap L ∧ FrameEnd U o U' L ({ frames := 2, cells := 1, slots := 4, locals := 32 } : Room).cells ({ frames := 2, cells := 1, slots := 4, locals := 32 } : Room).slots) := by
  refine MetFree.of_bodySF (plainFor_of_name (by first | (simp [plainName, overriddenIn]; done) | decide +kernel)) hisR ?_
  intro p e s m args below meth c s₁ Bd hml0 hP hK
  obtain ⟨rfl, hZ, hh⟩ := hP
  have hx := Bd.exec
  have hby := Bd.bytes
  have hml : c.maxLocals = 2 := hml0
  have hown : s.vm.findClass "com/example/pathwright/pathwright/value/Assignment" = some m.cls := findClass_of_methodNamed Bd.named
  have hnm := (name_of_methodNamed Bd.named Bd.method).1
  have X0 : Stand p l e ({ frames := 2, cells := 1, slots := 4, locals := 32 } : Room) s m #[(.ref a), (.ref ar)] below meth c s₁ [] 0 0 := Stand.of_body Bd
  have e0 : s₁.heap = h0 := by rw [← hh, Bd.state]; rfl
  have N0 := Fr.nil n0
  show own_E p e below s (Qrm2 a ar kA z v0 v1 v2 v3 em Z h0 n0) ({ frames := 2, cells := 1, slots := 4, locals := 32 } : Room).cells ({ frames := 2, cells := 1, slots := 4, locals := 32 } : Room).slots (s₁.setTop (entryFrame m #[(.ref a), (.ref ar)] 2))
  refine own_go (fun t k => castTop (show _ = (mkF m 0 #[.val (.ref a), .val (.ref ar)] []) from by first | (simp [entryFrame, mkF, argsToLocals, Value.category]; done) | rfl) k) ?_
  show own_E _ _ _ _ _ _ _ (s₁.setTop (mkF m 0 #[.val (.ref a), .val (.ref ar)] []))
  refine own_go (fun _ k => XS.aloadN X0.here hx rfl (hb hby d2_0) rfl rfl k) ?_
  show own_E _ _ _ _ _ _ _ (s₁.setTop (mkF m 1 #[.val (.ref a), .val (.ref ar)] [(.ref a)]))
  refine own_go (fun _ k => XS.aloadN X0.here hx rfl (hb hby d2_1) rfl rfl k) ?_
  show own_E _ _ _ _ _ _ _ (s₁.setTop (mkF m 2 #[.val (.ref a), .val (.ref ar)] [(.ref ar), (.ref a)]))
  obtain ⟨v11, T11, L11, X11, hQ11, st11⟩ := own_callS X0 hx hZ (rm := ({ frames := 0, cells := 0, slots := 0, locals := 0 } : Room)) (W := 2) (argsL := []) (rest := [(.ref ar), (.ref a)]) (y := (⟨"java/util/Map", "of", "()Ljava/util/Map;"⟩ : MethodName)) hown (hw _ (List.mem_of_getElem? (i := 15) rfl)) (hw _ (List.mem_of_getElem? (i := 16) rfl)) (hw _ (List.mem_of_getElem? (i := 17) rfl)) (hw _ (List.mem_of_getElem? (i := 18) rfl)) (by decide) (rm3 l Z a0 hw em h0 n0 Z0 SM) e0 (by decide) (by decide) (by decide) (by decide) (g := (mkF m 2 #[.val (.ref a), .val (.ref ar)] [(.ref ar), (.ref a)])) rfl (by rw [hml]; rfl) (lenOf pd_1 rfl) rfl (Nat.le_of_ble_eq_true rfl) (hb hby d2_2)
  obtain ⟨rfl, N11, e11⟩ := hQ11
  refine own_go st11 ?_
  show own_E _ _ _ _ _ _ _ (T11.setTop (mkF m 5 #[.val (.ref a), .val (.ref ar)] [(.ref em), (.ref ar), (.ref a)]))
  have M11 := Fr.app N0 N11
  obtain ⟨v12, T12, L12, X12, hQ12, st12⟩ := own_callI X11 hx hZ (rm := ({ frames := 1, cells := 1, slots := 4, locals := 16 } : Room)) (W := 0) (b := a) (argsL := [(.ref ar), (.ref em)]) (rest := []) (y := (⟨"com/example/pathwright/pathwright/value/Assignment", "<init>", "([JLjava/util/Map;)V"⟩ : MethodName)) hown rfl (hw _ (List.mem_of_getElem? (i := 21) rfl)) (hw _ (List.mem_of_getElem? (i := 22) rfl)) (hw _ (List.mem_of_getElem? (i := 11) rfl)) (hw _ (List.mem_of_getElem? (i := 23) rfl)) (by decide) (rm4 l Z a0 hw a ar kA z v0 v1 v2 v3 em h0 n0 Z0 hz E F G ga V EV nea EM nem) e11 (by decide) (by decide) (by decide) (by decide) (g := (mkF m 5 #[.val (.ref a), .val (.ref ar)] [(.ref em), (.ref ar), (.ref a)])) rfl (by rw [hml]; rfl) (lenOf pd_2 rfl) rfl (Nat.le_of_ble_eq_true rfl) (hb hby d2_5)
  obtain ⟨rfl, N12, K12, A12, cv, F12, V12, g12⟩ := hQ12
  refine own_go st12 ?_
  show own_E _ _ _ _ _ _ _ (T12.setTop (mkF m 8 #[.val (.ref a), .val (.ref ar)] []))
  have e12 : T12.heap = T12.heap := rfl
  exact own_ret0 X12 hx Bd.returns Bd.notSynchronized (hb hby d2_8) (by rw [e12]; exact ⟨rfl, Fr.app M11 N12, K12, A12, cv, F12, V12, g12⟩) (by decide) (by decide)
theorem d8_0 : decode jdk_30_method_1_code 0 = .ok (.aload_n 0, 1) := by decide +kernel
theorem d8_1 : decode jdk_30_method_1_code 1 = .ok (.invokespecial 1, 3) := by decide +kernel
theorem d8_4 : decode jdk_30_method_1_code 4 = .ok (.return_, 1) := by decide +kernel
def Qrm8 (a : Addr) (Z : State) (h0 : Heap) (n0 : Nat) (v : Option Value) (h : Heap) (L : List Loc) : Prop := v = none ∧ Fr n0 L ∧ h = h0
set_option maxRecDepth 65536 in
set_option maxHeartbeats 40000000 in
theorem rm8 (l : Launch) (Z : State) (a0 : Array Value) (hw : ∀ d ∈ tables_1, d.before a0 Z = true) (a : Addr) (h0 : Heap) (n0 : Nat) (Z0 : n0 ≤ h0.size) :
    MetFree l (⟨"java/lang/Record", "<init>", "()V"⟩ : MethodName) (head1 (Jvm.Cond.code (⟨"java/lang/Record", "<init>", "()V"⟩ : MethodName) jdk_30_method_1_code 1 none :: []) ({ frames := 1, cells := 0, slots := 0, locals := 12 } : Room)) (fun ar_ U => ar_ = #[(.ref a)] ∧ Z.Warmed39 U.vm ∧ U.heap = h0) (fun _ _ _ _ _ => True) (fun _ U o U' => ∃ v L, o = .returned v ∧ Qrm8 a Z h0 n0 v U'.heap L ∧ FrameEnd U o U' L ({ frames := 1, cells := 0, slots := 0, locals := 12 } : Room).cells ({ frames := 1, cells := 0, slots := 0, locals := 12 } : Room).slots) := by
  refine MetFree.of_bodySF (plainFor_of_name (by first | (simp [plainName, overriddenIn]; done) | decide +kernel)) hisR ?_
  intro p e s m args below meth c s₁ Bd hml0 hP hK
  obtain ⟨rfl, hZ, hh⟩ := hP
  have hx := Bd.exec
  have hby := Bd.bytes
  have hml : c.maxLocals = 1 := hml0
  have hown : s.vm.findClass "java/lang/Record" = some m.cls := findClass_of_methodNamed Bd.named
  have hnm := (name_of_methodNamed Bd.named Bd.method).1
  have X0 : Stand p l e ({ frames := 1, cells := 0, slots := 0, locals := 12 } : Room) s m #[(.ref a)] below meth c s₁ [] 0 0 := Stand.of_body Bd
  have e0 : s₁.heap = h0 := by rw [← hh, Bd.state]; rfl
  have N0 := Fr.nil n0
  show own_E p e below s (Qrm8 a Z h0 n0) ({ frames := 1, cells := 0, slots := 0, locals := 12 } : Room).cells ({ frames := 1, cells := 0, slots := 0, locals := 12 } : Room).slots (s₁.setTop (entryFrame m #[(.ref a)] 1))
  refine own_go (fun t k => castTop (show _ = (mkF m 0 #[.val (.ref a)] []) from by first | (simp [entryFrame, mkF, argsToLocals, Value.category]; done) | rfl) k) ?_
  show own_E _ _ _ _ _ _ _ (s₁.setTop (mkF m 0 #[.val (.ref a)] []))
  refine own_go (fun _ k => XS.aloadN X0.here hx rfl (hb hby d8_0) rfl rfl k) ?_
  show own_E _ _ _ _ _ _ _ (s₁.setTop (mkF m 1 #[.val (.ref a)] [(.ref a)]))
  obtain ⟨T1, X1, e1, st1⟩ := initO X0 hx hZ hown (hw _ (List.mem_of_getElem? (i := 56) rfl)) (hw _ (List.mem_of_getElem? (i := 25) rfl)) (hw _ (List.mem_of_getElem? (i := 26) rfl)) e0 (g := (mkF m 1 #[.val (.ref a)] [(.ref a)])) rfl (by rw [hml]; rfl) rfl (hb hby d8_1) (by decide) (W := 0) (Nat.le_of_ble_eq_true rfl) (by decide)
  refine own_go st1 ?_
  show own_E _ _ _ _ _ _ _ (T1.setTop (mkF m 4 #[.val (.ref a)] []))
  exact own_ret0 X1 hx Bd.returns Bd.notSynchronized (hb hby d8_4) (by rw [e1]; exact ⟨rfl, N0, rfl⟩) (by decide) (by decide)
theorem d7_0 : decode prog_70_method_1_code 0 = .ok (.aload_n 0, 1) := by decide +kernel
theorem d7_1 : decode prog_70_method_1_code 1 = .ok (.invokespecial 1, 3) := by decide +kernel
theorem d7_4 : decode prog_70_method_1_code 4 = .ok (.aload_n 0, 1) := by decide +kernel
theorem d7_5 : decode prog_70_method_1_code 5 = .ok (.iload_n 1, 1) := by decide +kernel
theorem d7_6 : decode prog_70_method_1_code 6 = .ok (.putfield 7, 3) := by decide +kernel
theorem d7_9 : decode prog_70_method_1_code 9 = .ok (.aload_n 0, 1) := by decide +kernel
theorem d7_10 : decode prog_70_method_1_code 10 = .ok (.aload_n 2, 1) := by decide +kernel
theorem d7_11 : decode prog_70_method_1_code 11 = .ok (.putfield 13, 3) := by decide +kernel
theorem d7_14 : decode prog_70_method_1_code 14 = .ok (.return_, 1) := by decide +kernel
def Qrm7 (a : Addr) (n : Int32) (r : Addr) (Z : State) (h0 : Heap) (n0 : Nat) (v : Option Value) (h : Heap) (L : List Loc) : Prop := v = none ∧ Fr n0 L ∧ Keep h0 h [a] ∧ Exa Z h a "com/example/pathwright/pathwright/value/Input" ∧ Fld Z h a "com/example/pathwright/pathwright/value/Input" "number" "I" (.int n)
set_option maxRecDepth 65536 in
set_option maxHeartbeats 40000000 in
theorem rm7 (l : Launch) (Z : State) (a0 : Array Value) (hw : ∀ d ∈ tables_1, d.before a0 Z = true) (a : Addr) (n : Int32) (r : Addr) (h0 : Heap) (n0 : Nat) (Z0 : n0 ≤ h0.size) (E : Exa Z h0 a "com/example/pathwright/pathwright/value/Input") (F : Fld Z h0 a "com/example/pathwright/pathwright/value/Input" "number" "I" (.int 0)) (G : Fld Z h0 a "com/example/pathwright/pathwright/value/Input" "type" "Lcom/example/pathwright/pathwright/value/PrimitiveType;" .null) (ga : n0 ≤ a) :
    MetFree l (⟨"com/example/pathwright/pathwright/value/Input", "<init>", "(ILcom/example/pathwright/pathwright/value/PrimitiveType;)V"⟩ : MethodName) (head1 (Jvm.Cond.code (⟨"com/example/pathwright/pathwright/value/Input", "<init>", "(ILcom/example/pathwright/pathwright/value/PrimitiveType;)V"⟩ : MethodName) prog_70_method_1_code 3 none :: []) ({ frames := 2, cells := 0, slots := 0, locals := 24 } : Room)) (fun ar_ U => ar_ = #[(.ref a), (.int n), (.ref r)] ∧ Z.Warmed39 U.vm ∧ U.heap = h0) (fun _ _ _ _ _ => True) (fun _ U o U' => ∃ v L, o = .returned v ∧ Qrm7 a n r Z h0 n0 v U'.heap L ∧ FrameEnd U o U' L ({ frames := 2, cells := 0, slots := 0, locals := 24 } : Room).cells ({ frames := 2, cells := 0, slots := 0, locals := 24 } : Room).slots) := by
  refine MetFree.of_bodySF (plainFor_of_name (by first | (simp [plainName, overriddenIn]; done) | decide +kernel)) hisR ?_
  intro p e s m args below meth c s₁ Bd hml0 hP hK
  obtain ⟨rfl, hZ, hh⟩ := hP
  have hx := Bd.exec
  have hby := Bd.bytes
  have hml : c.maxLocals = 3 := hml0
  have hown : s.vm.findClass "com/example/pathwright/pathwright/value/Input" = some m.cls := findClass_of_methodNamed Bd.named
  have hnm := (name_of_methodNamed Bd.named Bd.method).1
  have X0 : Stand p l e ({ frames := 2, cells := 0, slots := 0, locals := 24 } : Room) s m #[(.ref a), (.int n), (.ref r)] below meth c s₁ [] 0 0 := Stand.of_body Bd
  have e0 : s₁.heap = h0 := by rw [← hh, Bd.state]; rfl
  have N0 := Fr.nil n0
  show own_E p e below s (Qrm7 a n r Z h0 n0) ({ frames := 2, cells := 0, slots := 0, locals := 24 } : Room).cells ({ frames := 2, cells := 0, slots := 0, locals := 24 } : Room).slots (s₁.setTop (entryFrame m #[(.ref a), (.int n), (.ref r)] 3))
  refine own_go (fun t k => castTop (show _ = (mkF m 0 #[.val (.ref a), .val (.int n), .val (.ref r)] []) from by first | (simp [entryFrame, mkF, argsToLocals, Value.category]; done) | rfl) k) ?_
  show own_E _ _ _ _ _ _ _ (s₁.setTop (mkF m 0 #[.val (.ref a), .val (.int n), .val (.ref r)] []))
  have KK := Keep.refl h0 [a]
  refine own_go (fun _ k => XS.aloadN X0.here hx rfl (hb hby d7_0) rfl rfl k) ?_
  show own_E _ _ _ _ _ _ _ (s₁.setTop (mkF m 1 #[.val (.ref a), .val (.int n), .val (.ref r)] [(.ref a)]))
  obtain ⟨v11, T11, L11, X11, hQ11, st11⟩ := own_callI X0 hx hZ (rm := ({ frames := 1, cells := 0, slots := 0, locals := 12 } : Room)) (W := 0) (b := a) (argsL := []) (rest := []) (y := (⟨"java/lang/Record", "<init>", "()V"⟩ : MethodName)) hown rfl (hw _ (List.mem_of_getElem? (i := 51) rfl)) (hw _ (List.mem_of_getElem? (i := 52) rfl)) (hw _ (List.mem_of_getElem? (i := 54) rfl)) (hw _ (List.mem_of_getElem? (i := 55) rfl)) (by decide) (rm8 l Z a0 hw a h0 n0 Z0) e0 (by decide) (by decide) (by decide) (by decide) (g := (mkF m 1 #[.val (.ref a), .val (.int n), .val (.ref r)] [(.ref a)])) rfl (by rw [hml]; rfl) (lenOf pd_3 rfl) rfl (Nat.le_of_ble_eq_true rfl) (hb hby d7_1)
  obtain ⟨rfl, N11, e11⟩ := hQ11
  refine own_go st11 ?_
  show own_E _ _ _ _ _ _ _ (T11.setTop (mkF m 4 #[.val (.ref a), .val (.int n), .val (.ref r)] []))
  have M11 := Fr.app N0 N11
  refine own_go (fun _ k => XS.aloadN X11.here hx rfl (hb hby d7_4) rfl rfl k) ?_
  show own_E _ _ _ _ _ _ _ (T11.setTop (mkF m 5 #[.val (.ref a), .val (.int n), .val (.ref r)] [(.ref a)]))
  refine own_go (fun _ k => XS.iloadN X11.here hx rfl (hb hby d7_5) rfl k) ?_
  show own_E _ _ _ _ _ _ _ (T11.setTop (mkF m 6 #[.val (.ref a), .val (.int n), .val (.ref r)] [(.int n), (.ref a)]))
  obtain ⟨T12, h12, X12, e12, W12, st12⟩ := putF X11 hx hZ hown (host := "") (Or.inl (hw _ (List.mem_of_getElem? (i := 57) rfl))) Via.refl e11 F E (Or.inr ⟨(hw _ (List.mem_of_getElem? (i := 58) rfl)), rfl, hnm⟩) (hw _ (List.mem_of_getElem? (i := 46) rfl)) (ty := .int) (by decide +kernel) rfl rfl (g := (mkF m 6 #[.val (.ref a), .val (.int n), .val (.ref r)] [(.int n), (.ref a)])) rfl rfl (hb hby d7_6)
  have f12_0 := F.same W12
  have f12_1 := G.other W12 (Or.inr (slot_ne (Or.inr (hw _ (List.mem_of_getElem? (i := 60) rfl))) (Or.inr (hw _ (List.mem_of_getElem? (i := 58) rfl))) (by decide) (t := (.object "com/example/pathwright/pathwright/value/PrimitiveType")) (t' := .int) (by decide +kernel) (by decide +kernel)))
  have f12_2 := E.wr W12
  have Z12 : n0 ≤ h12.size := by rw [W12.size]; exact Z0
  have N12 := Fr.snoc X12 M11 ga
  have K12 := KK.wr W12 (Or.inl (by simp))
  refine own_go st12 ?_
  show own_E _ _ _ _ _ _ _ (T12.setTop (mkF m 9 #[.val (.ref a), .val (.int n), .val (.ref r)] []))
  refine own_go (fun _ k => XS.aloadN X12.here hx rfl (hb hby d7_9) rfl rfl k) ?_
  show own_E _ _ _ _ _ _ _ (T12.setTop (mkF m 10 #[.val (.ref a), .val (.int n), .val (.ref r)] [(.ref a)]))
  refine own_go (fun _ k => XS.aloadN X12.here hx rfl (hb hby d7_10) rfl rfl k) ?_
  show own_E _ _ _ _ _ _ _ (T12.setTop (mkF m 11 #[.val (.ref a), .val (.int n), .val (.ref r)] [(.ref r), (.ref a)]))
  obtain ⟨T13, h13, X13, e13, W13, st13⟩ := putF X12 hx hZ hown (host := "") (Or.inl (hw _ (List.mem_of_getElem? (i := 59) rfl))) Via.refl e12 f12_1 f12_2 (Or.inr ⟨(hw _ (List.mem_of_getElem? (i := 60) rfl)), rfl, hnm⟩) (hw _ (List.mem_of_getElem? (i := 46) rfl)) (ty := (.object "com/example/pathwright/pathwright/value/PrimitiveType")) (by decide +kernel) rfl rfl (g := (mkF m 11 #[.val (.ref a), .val (.int n), .val (.ref r)] [(.ref r), (.ref a)])) rfl rfl (hb hby d7_11)
  have f13_0 := f12_0.other W13 (Or.inr (slot_ne (Or.inr (hw _ (List.mem_of_getElem? (i := 58) rfl))) (Or.inr (hw _ (List.mem_of_getElem? (i := 60) rfl))) (by decide) (t := .int) (t' := (.object "com/example/pathwright/pathwright/value/PrimitiveType")) (by decide +kernel) (by decide +kernel)))
  have f13_1 := f12_1.same W13
  have f13_2 := f12_2.wr W13
  have Z13 : n0 ≤ h13.size := by rw [W13.size]; exact Z12
  have N13 := Fr.snoc X13 N12 ga
  have K13 := K12.wr W13 (Or.inl (by simp))
  refine own_go st13 ?_
  show own_E _ _ _ _ _ _ _ (T13.setTop (mkF m 14 #[.val (.ref a), .val (.int n), .val (.ref r)] []))
  exact own_ret0 X13 hx Bd.returns Bd.notSynchronized (hb hby d7_14) (by rw [e13]; exact ⟨rfl, N13, K13, f13_2, f13_0⟩) (by decide) (by decide)
theorem d10_0 : decode prog_70_method_7_code 0 = .ok (.aload_n 0, 1) := by decide +kernel
theorem d10_1 : decode prog_70_method_7_code 1 = .ok (.getfield 7, 3) := by decide +kernel
theorem d10_4 : decode prog_70_method_7_code 4 = .ok (.ireturn, 1) := by decide +kernel
def Qrm10 (a : Addr) (n : Int32) (Z : State) (h0 : Heap) (n0 : Nat) (v : Option Value) (h : Heap) (L : List Loc) : Prop := v = some (.int n) ∧ Fr n0 L ∧ h = h0
set_option maxRecDepth 65536 in
set_option maxHeartbeats 40000000 in
theorem rm10 (l : Launch) (Z : State) (a0 : Array Value) (hw : ∀ d ∈ tables_1, d.before a0 Z = true) (a : Addr) (n : Int32) (h0 : Heap) (n0 : Nat) (Z0 : n0 ≤ h0.size) (F : Fld Z h0 a "com/example/pathwright/pathwright/value/Input" "number" "I" (.int n)) :
    MetFree l (⟨"com/example/pathwright/pathwright/value/Input", "number", "()I"⟩ : MethodName) (head1 (Jvm.Cond.code (⟨"com/example/pathwright/pathwright/value/Input", "number", "()I"⟩ : MethodName) prog_70_method_7_code 1 (some .int) :: []) ({ frames := 0, cells := 0, slots := 0, locals := 0 } : Room)) (fun ar_ U => ar_ = #[(.ref a)] ∧ Z.Warmed39 U.vm ∧ U.heap = h0) (fun _ _ _ _ _ => True) (fun _ U o U' => ∃ v L, o = .returned v ∧ Qrm10 a n Z h0 n0 v U'.heap L ∧ FrameEnd U o U' L ({ frames := 0, cells := 0, slots := 0, locals := 0 } : Room).cells ({ frames := 0, cells := 0, slots := 0, locals := 0 } : Room).slots) := by
  refine MetFree.of_bodySF (plainFor_of_name (by first | (simp [plainName, overriddenIn]; done) | decide +kernel)) hisR ?_
  intro p e s m args below meth c s₁ Bd hml0 hP hK
  obtain ⟨rfl, hZ, hh⟩ := hP
  have hx := Bd.exec
  have hby := Bd.bytes
  have hml : c.maxLocals = 1 := hml0
  have hown : s.vm.findClass "com/example/pathwright/pathwright/value/Input" = some m.cls := findClass_of_methodNamed Bd.named
  have hnm := (name_of_methodNamed Bd.named Bd.method).1
  have X0 : Stand p l e ({ frames := 0, cells := 0, slots := 0, locals := 0 } : Room) s m #[(.ref a)] below meth c s₁ [] 0 0 := Stand.of_body Bd
  have e0 : s₁.heap = h0 := by rw [← hh, Bd.state]; rfl
  have N0 := Fr.nil n0
  show own_E p e below s (Qrm10 a n Z h0 n0) ({ frames := 0, cells := 0, slots := 0, locals := 0 } : Room).cells ({ frames := 0, cells := 0, slots := 0, locals := 0 } : Room).slots (s₁.setTop (entryFrame m #[(.ref a)] 1))
  refine own_go (fun t k => castTop (show _ = (mkF m 0 #[.val (.ref a)] []) from by first | (simp [entryFrame, mkF, argsToLocals, Value.category]; done) | rfl) k) ?_
  show own_E _ _ _ _ _ _ _ (s₁.setTop (mkF m 0 #[.val (.ref a)] []))
  refine own_go (fun _ k => XS.aloadN X0.here hx rfl (hb hby d10_0) rfl rfl k) ?_
  show own_E _ _ _ _ _ _ _ (s₁.setTop (mkF m 1 #[.val (.ref a)] [(.ref a)]))
  obtain ⟨T1, X1, e1, st1⟩ := getF X0 hx hZ hown (host := "") (Or.inl (hw _ (List.mem_of_getElem? (i := 57) rfl))) Via.refl e0 F (g := (mkF m 1 #[.val (.ref a)] [(.ref a)])) rfl rfl (hb hby d10_1)
  refine own_go st1 ?_
  show own_E _ _ _ _ _ _ _ (T1.setTop (mkF m 4 #[.val (.ref a)] [(.int n)]))
  exact own_ret X1 hx Bd.returns Bd.notSynchronized rfl (Or.inl ⟨rfl, by simp, _, rfl⟩) (hb hby d10_4) (by rw [e1]; exact ⟨rfl, N0, rfl⟩) (by decide) (by decide)
theorem d9_0 : decode prog_53_method_4_code 0 = .ok (.aload_n 1, 1) := by decide +kernel
theorem d9_1 : decode prog_53_method_4_code 1 = .ok (.invokevirtual 66, 3) := by decide +kernel
theorem d9_4 : decode prog_53_method_4_code 4 = .ok (.iconst 1, 1) := by decide +kernel
theorem d9_5 : decode prog_53_method_4_code 5 = .ok (.isub, 1) := by decide +kernel
theorem d9_6 : decode prog_53_method_4_code 6 = .ok (.istore_n 2, 1) := by decide +kernel
theorem d9_7 : decode prog_53_method_4_code 7 = .ok (.iload_n 2, 1) := by decide +kernel
theorem d9_8 : decode prog_53_method_4_code 8 = .ok (.aload_n 0, 1) := by decide +kernel
theorem d9_9 : decode prog_53_method_4_code 9 = .ok (.getfield 24, 3) := by decide +kernel
theorem d9_12 : decode prog_53_method_4_code 12 = .ok (.arraylength, 1) := by decide +kernel
theorem d9_13 : decode prog_53_method_4_code 13 = .ok (.if_icmp .ge 12, 3) := by decide +kernel
theorem d9_16 : decode prog_53_method_4_code 16 = .ok (.aload_n 0, 1) := by decide +kernel
theorem d9_17 : decode prog_53_method_4_code 17 = .ok (.getfield 24, 3) := by decide +kernel
theorem d9_20 : decode prog_53_method_4_code 20 = .ok (.iload_n 2, 1) := by decide +kernel
theorem d9_21 : decode prog_53_method_4_code 21 = .ok (.laload, 1) := by decide +kernel
theorem d9_22 : decode prog_53_method_4_code 22 = .ok (.goto 4, 3) := by decide +kernel
theorem d9_25 : decode prog_53_method_4_code 25 = .ok (.lconst 0, 1) := by decide +kernel
theorem d9_26 : decode prog_53_method_4_code 26 = .ok (.lreturn, 1) := by decide +kernel
def Qrm9 (a : Addr) (i : Addr) (n : Int32) (cv : Addr) (kA : ClassId) (z : Int32) (v0 : Int64) (v1 : Int64) (v2 : Int64) (v3 : Int64) (Z : State) (h0 : Heap) (n0 : Nat) (v : Option Value) (h : Heap) (L : List Loc) : Prop := v = some (.long (own_r n z v0 v1 v2 v3)) ∧ Fr n0 L ∧ h = h0
set_option maxRecDepth 65536 in
set_option maxHeartbeats 40000000 in
theorem rm9 (l : Launch) (Z : State) (a0 : Array Value) (hw : ∀ d ∈ tables_1, d.before a0 Z = true) (a : Addr) (i : Addr) (n : Int32) (cv : Addr) (kA : ClassId) (z : Int32) (v0 : Int64) (v1 : Int64) (v2 : Int64) (v3 : Int64) (h0 : Heap) (n0 : Nat) (Z0 : n0 ≤ h0.size) (hn : 1 ≤ n.toInt) (hz : z.toInt ≤ 4) (F : Fld Z h0 a "com/example/pathwright/pathwright/value/Assignment" "values" "[J" (.ref cv)) (V : Arv Z h0 cv kA .long z [.long v0, .long v1, .long v2, .long v3] (.long 0)) (EI : Exa Z h0 i "com/example/pathwright/pathwright/value/Input") (FI : Fld Z h0 i "com/example/pathwright/pathwright/value/Input" "number" "I" (.int n)) :
    MetFree l (⟨"com/example/pathwright/pathwright/value/Assignment", "valueOf", "(Lcom/example/pathwright/pathwright/value/Input;)J"⟩ : MethodName) (head1 (Jvm.Cond.code (⟨"com/example/pathwright/pathwright/value/Assignment", "valueOf", "(Lcom/example/pathwright/pathwright/value/Input;)J"⟩ : MethodName) prog_53_method_4_code 3 (some .long) :: []) ({ frames := 1, cells := 0, slots := 0, locals := 12 } : Room)) (fun ar_ U => ar_ = #[(.ref a), (.ref i)] ∧ Z.Warmed39 U.vm ∧ U.heap = h0) (fun _ _ _ _ _ => True) (fun _ U o U' => ∃ v L, o = .returned v ∧ Qrm9 a i n cv kA z v0 v1 v2 v3 Z h0 n0 v U'.heap L ∧ FrameEnd U o U' L ({ frames := 1, cells := 0, slots := 0, locals := 12 } : Room).cells ({ frames := 1, cells := 0, slots := 0, locals := 12 } : Room).slots) := by
  refine MetFree.of_bodySF (plainFor_of_name (by first | (simp [plainName, overriddenIn]; done) | decide +kernel)) hisR ?_
  intro p e s m args below meth c s₁ Bd hml0 hP hK
  obtain ⟨rfl, hZ, hh⟩ := hP
  have hx := Bd.exec
  have hby := Bd.bytes
  have hml : c.maxLocals = 3 := hml0
  have hown : s.vm.findClass "com/example/pathwright/pathwright/value/Assignment" = some m.cls := findClass_of_methodNamed Bd.named
  have hnm := (name_of_methodNamed Bd.named Bd.method).1
  have X0 : Stand p l e ({ frames := 1, cells := 0, slots := 0, locals := 12 } : Room) s m #[(.ref a), (.ref i)] below meth c s₁ [] 0 0 := Stand.of_body Bd
  have e0 : s₁.heap = h0 := by rw [← hh, Bd.state]; rfl
  have N0 := Fr.nil n0
  show own_E p e below s (Qrm9 a i n cv kA z v0 v1 v2 v3 Z h0 n0) ({ frames := 1, cells := 0, slots := 0, locals := 12 } : Room).cells ({ frames := 1, cells := 0, slots := 0, locals := 12 } : Room).slots (s₁.setTop (entryFrame m #[(.ref a), (.ref i)] 3))
  refine own_go (fun t k => castTop (show _ = (mkF m 0 #[.val (.ref a), .val (.ref i), .unset] []) from by first | (simp [entryFrame, mkF, argsToLocals, Value.category]; done) | rfl) k) ?_
  show own_E _ _ _ _ _ _ _ (s₁.setTop (mkF m 0 #[.val (.ref a), .val (.ref i), .unset] []))
  refine own_go (fun _ k => XS.aloadN X0.here hx rfl (hb hby d9_0) rfl rfl k) ?_
  show own_E _ _ _ _ _ _ _ (s₁.setTop (mkF m 1 #[.val (.ref a), .val (.ref i), .unset] [(.ref i)]))
  obtain ⟨v11, T11, L11, X11, hQ11, st11⟩ := own_callV X0 hx hZ (rm := ({ frames := 0, cells := 0, slots := 0, locals := 0 } : Room)) (W := 0) (b := i) (argsL := []) (rest := []) (y := (⟨"com/example/pathwright/pathwright/value/Input", "number", "()I"⟩ : MethodName)) hown (hw _ (List.mem_of_getElem? (i := 66) rfl)) (hw _ (List.mem_of_getElem? (i := 67) rfl)) (hw _ (List.mem_of_getElem? (i := 69) rfl)) (hw _ (List.mem_of_getElem? (i := 68) rfl)) (hw _ (List.mem_of_getElem? (i := 70) rfl)) (hw _ (List.mem_of_getElem? (i := 47) rfl)) (by decide) (rm10 l Z a0 hw i n h0 n0 Z0 FI) e0 EI (by decide) (by decide) (by decide) (by decide) (g := (mkF m 1 #[.val (.ref a), .val (.ref i), .unset] [(.ref i)])) rfl (by rw [hml]; rfl) (lenOf pd_4 rfl) rfl (Nat.le_of_ble_eq_true rfl) (hb hby d9_1)
  obtain ⟨rfl, N11, e11⟩ := hQ11
  refine own_go st11 ?_
  show own_E _ _ _ _ _ _ _ (T11.setTop (mkF m 4 #[.val (.ref a), .val (.ref i), .unset] [(.int n)]))
  have M11 := Fr.app N0 N11
  refine own_go (fun _ k => XT.iconstV X11.here hx rfl (1 : Int32) (hb hby d9_4) (by decide) k) ?_
  show own_E _ _ _ _ _ _ _ (T11.setTop (mkF m 5 #[.val (.ref a), .val (.ref i), .unset] [(.int (1 : Int32)), (.int n)]))
  refine own_go (fun _ k => XS.isub X11.here hx rfl (hb hby d9_5) rfl k) ?_
  show own_E _ _ _ _ _ _ _ (T11.setTop (mkF m 6 #[.val (.ref a), .val (.ref i), .unset] [(.int (n - (1 : Int32)))]))
  refine own_go (fun _ k => XS.istoreN X11.here hx rfl (hb hby d9_6) rfl (l' := #[.val (.ref a), .val (.ref i), .val (.int (n - (1 : Int32)))]) rfl k) ?_
  show own_E _ _ _ _ _ _ _ (T11.setTop (mkF m 7 #[.val (.ref a), .val (.ref i), .val (.int (n - (1 : Int32)))] []))
  refine own_go (fun _ k => XS.iloadN X11.here hx rfl (hb hby d9_7) rfl k) ?_
  show own_E _ _ _ _ _ _ _ (T11.setTop (mkF m 8 #[.val (.ref a), .val (.ref i), .val (.int (n - (1 : Int32)))] [(.int (n - (1 : Int32)))]))
  refine own_go (fun _ k => XS.aloadN X11.here hx rfl (hb hby d9_8) rfl rfl k) ?_
  show own_E _ _ _ _ _ _ _ (T11.setTop (mkF m 9 #[.val (.ref a), .val (.ref i), .val (.int (n - (1 : Int32)))] [(.ref a), (.int (n - (1 : Int32)))]))
  obtain ⟨T12, X12, e12, st12⟩ := getF X11 hx hZ hown (host := "") (Or.inl (hw _ (List.mem_of_getElem? (i := 36) rfl))) Via.refl e11 F (g := (mkF m 9 #[.val (.ref a), .val (.ref i), .val (.int (n - (1 : Int32)))] [(.ref a), (.int (n - (1 : Int32)))])) rfl rfl (hb hby d9_9)
  refine own_go st12 ?_
  show own_E _ _ _ _ _ _ _ (T12.setTop (mkF m 12 #[.val (.ref a), .val (.ref i), .val (.int (n - (1 : Int32)))] [(.ref cv), (.int (n - (1 : Int32)))]))
  obtain ⟨c13, a13, u13⟩ := own_len V
  refine own_go (own_alen X12 hx hZ e12 a13 u13 (g := (mkF m 12 #[.val (.ref a), .val (.ref i), .val (.int (n - (1 : Int32)))] [(.ref cv), (.int (n - (1 : Int32)))])) rfl rfl (hb hby d9_12)) ?_
  show own_E _ _ _ _ _ _ _ (T12.setTop (mkF m 13 #[.val (.ref a), .val (.ref i), .val (.int (n - (1 : Int32)))] [(.int z), (.int (n - (1 : Int32)))]))
  by_cases q : n - 1 < z
  ·
    refine own_go (fun _ k => XS.icmpNo X12.here hx rfl (hb hby d9_13) rfl (tlt q).2.1 k) ?_
    show own_E _ _ _ _ _ _ _ (T12.setTop (mkF m 16 #[.val (.ref a), .val (.ref i), .val (.int (n - (1 : Int32)))] []))
    refine own_go (fun _ k => XS.aloadN X12.here hx rfl (hb hby d9_16) rfl rfl k) ?_
    show own_E _ _ _ _ _ _ _ (T12.setTop (mkF m 17 #[.val (.ref a), .val (.ref i), .val (.int (n - (1 : Int32)))] [(.ref a)]))
    obtain ⟨T14, X14, e14, st14⟩ := getF X12 hx hZ hown (host := "") (Or.inl (hw _ (List.mem_of_getElem? (i := 36) rfl))) Via.refl e12 F (g := (mkF m 17 #[.val (.ref a), .val (.ref i), .val (.int (n - (1 : Int32)))] [(.ref a)])) rfl rfl (hb hby d9_17)
    refine own_go st14 ?_
    show own_E _ _ _ _ _ _ _ (T14.setTop (mkF m 20 #[.val (.ref a), .val (.ref i), .val (.int (n - (1 : Int32)))] [(.ref cv)]))
    refine own_go (fun _ k => XS.iloadN X14.here hx rfl (hb hby d9_20) rfl k) ?_
    show own_E _ _ _ _ _ _ _ (T14.setTop (mkF m 21 #[.val (.ref a), .val (.ref i), .val (.int (n - (1 : Int32)))] [(.int (n - (1 : Int32))), (.ref cv)]))
    rcases own_four hn hz q with rfl | rfl | rfl | rfl
    ·
      show own_E _ _ _ _ _ _ _ (T14.setTop (mkF m 21 #[.val (.ref a), .val (.ref i), .val (.int ((1 : Int32) - (1 : Int32)))] [(.int ((1 : Int32) - (1 : Int32))), (.ref cv)]))
      obtain ⟨c15, a15, i15, u15⟩ := own_at V (j := ((1 : Int32) - (1 : Int32))) ⟨by decide, q⟩
      refine own_go (own_laload X14 hx hZ e14 a15 (j := ((1 : Int32) - (1 : Int32))) (v := (.long v0)) i15 u15 (g := (mkF m 21 #[.val (.ref a), .val (.ref i), .val (.int ((1 : Int32) - (1 : Int32)))] [(.int ((1 : Int32) - (1 : Int32))), (.ref cv)])) rfl rfl (hb hby d9_21)) ?_
      show own_E _ _ _ _ _ _ _ (T14.setTop (mkF m 22 #[.val (.ref a), .val (.ref i), .val (.int ((1 : Int32) - (1 : Int32)))] [(.long v0)]))
      refine own_go (fun _ k => XS.goto X14.here hx rfl (pc0 := 22) (pc' := 26) rfl (hb hby d9_22) (by decide) (by decide) k) ?_
      show own_E _ _ _ _ _ _ _ (T14.setTop (mkF m 26 #[.val (.ref a), .val (.ref i), .val (.int ((1 : Int32) - (1 : Int32)))] [(.long v0)]))
      exact own_ret X14 hx Bd.returns Bd.notSynchronized rfl (Or.inr (Or.inl ⟨rfl, rfl, _, rfl⟩)) (hb hby d9_26) (by rw [e14]; exact ⟨by simp only [own_r, if_pos q]; rfl, M11, rfl⟩) (by decide) (by decide)
    ·
      show own_E _ _ _ _ _ _ _ (T14.setTop (mkF m 21 #[.val (.ref a), .val (.ref i), .val (.int ((2 : Int32) - (1 : Int32)))] [(.int ((2 : Int32) - (1 : Int32))), (.ref cv)]))
      obtain ⟨c16, a16, i16, u16⟩ := own_at V (j := ((2 : Int32) - (1 : Int32))) ⟨by decide, q⟩
      refine own_go (own_laload X14 hx hZ e14 a16 (j := ((2 : Int32) - (1 : Int32))) (v := (.long v1)) i16 u16 (g := (mkF m 21 #[.val (.ref a), .val (.ref i), .val (.int ((2 : Int32) - (1 : Int32)))] [(.int ((2 : Int32) - (1 : Int32))), (.ref cv)])) rfl rfl (hb hby d9_21)) ?_
      show own_E _ _ _ _ _ _ _ (T14.setTop (mkF m 22 #[.val (.ref a), .val (.ref i), .val (.int ((2 : Int32) - (1 : Int32)))] [(.long v1)]))
      refine own_go (fun _ k => XS.goto X14.here hx rfl (pc0 := 22) (pc' := 26) rfl (hb hby d9_22) (by decide) (by decide) k) ?_
      show own_E _ _ _ _ _ _ _ (T14.setTop (mkF m 26 #[.val (.ref a), .val (.ref i), .val (.int ((2 : Int32) - (1 : Int32)))] [(.long v1)]))
      exact own_ret X14 hx Bd.returns Bd.notSynchronized rfl (Or.inr (Or.inl ⟨rfl, rfl, _, rfl⟩)) (hb hby d9_26) (by rw [e14]; exact ⟨by simp only [own_r, if_pos q]; rfl, M11, rfl⟩) (by decide) (by decide)
    ·
      show own_E _ _ _ _ _ _ _ (T14.setTop (mkF m 21 #[.val (.ref a), .val (.ref i), .val (.int ((3 : Int32) - (1 : Int32)))] [(.int ((3 : Int32) - (1 : Int32))), (.ref cv)]))
      obtain ⟨c17, a17, i17, u17⟩ := own_at V (j := ((3 : Int32) - (1 : Int32))) ⟨by decide, q⟩
      refine own_go (own_laload X14 hx hZ e14 a17 (j := ((3 : Int32) - (1 : Int32))) (v := (.long v2)) i17 u17 (g := (mkF m 21 #[.val (.ref a), .val (.ref i), .val (.int ((3 : Int32) - (1 : Int32)))] [(.int ((3 : Int32) - (1 : Int32))), (.ref cv)])) rfl rfl (hb hby d9_21)) ?_
      show own_E _ _ _ _ _ _ _ (T14.setTop (mkF m 22 #[.val (.ref a), .val (.ref i), .val (.int ((3 : Int32) - (1 : Int32)))] [(.long v2)]))
      refine own_go (fun _ k => XS.goto X14.here hx rfl (pc0 := 22) (pc' := 26) rfl (hb hby d9_22) (by decide) (by decide) k) ?_
      show own_E _ _ _ _ _ _ _ (T14.setTop (mkF m 26 #[.val (.ref a), .val (.ref i), .val (.int ((3 : Int32) - (1 : Int32)))] [(.long v2)]))
      exact own_ret X14 hx Bd.returns Bd.notSynchronized rfl (Or.inr (Or.inl ⟨rfl, rfl, _, rfl⟩)) (hb hby d9_26) (by rw [e14]; exact ⟨by simp only [own_r, if_pos q]; rfl, M11, rfl⟩) (by decide) (by decide)
    ·
      show own_E _ _ _ _ _ _ _ (T14.setTop (mkF m 21 #[.val (.ref a), .val (.ref i), .val (.int ((4 : Int32) - (1 : Int32)))] [(.int ((4 : Int32) - (1 : Int32))), (.ref cv)]))
      obtain ⟨c18, a18, i18, u18⟩ := own_at V (j := ((4 : Int32) - (1 : Int32))) ⟨by decide, q⟩
      refine own_go (own_laload X14 hx hZ e14 a18 (j := ((4 : Int32) - (1 : Int32))) (v := (.long v3)) i18 u18 (g := (mkF m 21 #[.val (.ref a), .val (.ref i), .val (.int ((4 : Int32) - (1 : Int32)))] [(.int ((4 : Int32) - (1 : Int32))), (.ref cv)])) rfl rfl (hb hby d9_21)) ?_
      show own_E _ _ _ _ _ _ _ (T14.setTop (mkF m 22 #[.val (.ref a), .val (.ref i), .val (.int ((4 : Int32) - (1 : Int32)))] [(.long v3)]))
      refine own_go (fun _ k => XS.goto X14.here hx rfl (pc0 := 22) (pc' := 26) rfl (hb hby d9_22) (by decide) (by decide) k) ?_
      show own_E _ _ _ _ _ _ _ (T14.setTop (mkF m 26 #[.val (.ref a), .val (.ref i), .val (.int ((4 : Int32) - (1 : Int32)))] [(.long v3)]))
      exact own_ret X14 hx Bd.returns Bd.notSynchronized rfl (Or.inr (Or.inl ⟨rfl, rfl, _, rfl⟩)) (hb hby d9_26) (by rw [e14]; exact ⟨by simp only [own_r, if_pos q]; rfl, M11, rfl⟩) (by decide) (by decide)
  ·
    refine own_go (fun _ k => XS.icmpYes X12.here hx rfl (pc0 := 13) (pc' := 25) rfl (hb hby d9_13) rfl (flt q).2.1 (by decide) (by decide) k) ?_
    show own_E _ _ _ _ _ _ _ (T12.setTop (mkF m 25 #[.val (.ref a), .val (.ref i), .val (.int (n - (1 : Int32)))] []))
    refine own_go (fun _ k => XT.lconstV X12.here hx rfl (0 : Int64) (hb hby d9_25) (by decide) k) ?_
    show own_E _ _ _ _ _ _ _ (T12.setTop (mkF m 26 #[.val (.ref a), .val (.ref i), .val (.int (n - (1 : Int32)))] [(.long (0 : Int64))]))
    exact own_ret X12 hx Bd.returns Bd.notSynchronized rfl (Or.inr (Or.inl ⟨rfl, rfl, _, rfl⟩)) (hb hby d9_26) (by rw [e12]; exact ⟨by simp only [own_r, if_neg q], M11, rfl⟩) (by decide) (by decide)
def Qrm0 (p0 : Int32) (p1 : Int32) (v0 : Int64) (v1 : Int64) (v2 : Int64) (v3 : Int64) (w0 : Addr) (w1 : Addr) (w2 : Addr) (w3 : Addr) (w4 : Addr) (w5 : Addr) (w6 : Addr) (w7 : Addr) (em : Addr) (Z : State) (h0 : Heap) (n0 : Nat) (v : Option Value) (h : Heap) (L : List Loc) : Prop := v = some (.int 1) ∧ Fr n0 L
set_option maxRecDepth 65536 in
set_option maxHeartbeats 40000000 in
theorem rm0 (l : Launch) (Z : State) (a0 : Array Value) (hw : ∀ d ∈ tables_1, d.before a0 Z = true) (ws : List Jvm.Cond) (p0 : Int32) (p1 : Int32) (v0 : Int64) (v1 : Int64) (v2 : Int64) (v3 : Int64) (w0 : Addr) (w1 : Addr) (w2 : Addr) (w3 : Addr) (w4 : Addr) (w5 : Addr) (w6 : Addr) (w7 : Addr) (em : Addr) (h0 : Heap) (n0 : Nat) (Z0 : n0 ≤ h0.size) (O0 : Old Z n0 h0) (S0 : Sta Z Z.heap "com/example/pathwright/pathwright/value/PrimitiveType" "BOOLEAN" "Lcom/example/pathwright/pathwright/value/PrimitiveType;" (.ref w0)) (S1 : Sta Z Z.heap "com/example/pathwright/pathwright/value/PrimitiveType" "BYTE" "Lcom/example/pathwright/pathwright/value/PrimitiveType;" (.ref w1)) (S2 : Sta Z Z.heap "com/example/pathwright/pathwright/value/PrimitiveType" "CHAR" "Lcom/example/pathwright/pathwright/value/PrimitiveType;" (.ref w2)) (S3 : Sta Z Z.heap "com/example/pathwright/pathwright/value/PrimitiveType" "SHORT" "Lcom/example/pathwright/pathwright/value/PrimitiveType;" (.ref w3)) (S4 : Sta Z Z.heap "com/example/pathwright/pathwright/value/PrimitiveType" "INT" "Lcom/example/pathwright/pathwright/value/PrimitiveType;" (.ref w4)) (S5 : Sta Z Z.heap "com/example/pathwright/pathwright/value/PrimitiveType" "LONG" "Lcom/example/pathwright/pathwright/value/PrimitiveType;" (.ref w5)) (S6 : Sta Z Z.heap "com/example/pathwright/pathwright/value/PrimitiveType" "FLOAT" "Lcom/example/pathwright/pathwright/value/PrimitiveType;" (.ref w6)) (S7 : Sta Z Z.heap "com/example/pathwright/pathwright/value/PrimitiveType" "DOUBLE" "Lcom/example/pathwright/pathwright/value/PrimitiveType;" (.ref w7)) (SM : Sta Z Z.heap "java/util/ImmutableCollections" "EMPTY_MAP" "Ljava/util/ImmutableCollections$MapN;" (.ref em)) (EM : Exa Z Z.heap em "java/util/ImmutableCollections$MapN") :
    MetFree l x (head1 (Jvm.Cond.code x code maxLocals ret :: ws) room_1) (fun ar_ U => ar_ = #[(.int p0), (.int p1), (.long v0), (.long v1), (.long v2), (.long v3)] ∧ Z.Warmed39 U.vm ∧ U.heap = h0) (fun _ _ _ _ _ => True) (fun _ U o U' => ∃ v L, o = .returned v ∧ Qrm0 p0 p1 v0 v1 v2 v3 w0 w1 w2 w3 w4 w5 w6 w7 em Z h0 n0 v U'.heap L ∧ FrameEnd U o U' L room_1.cells room_1.slots) := by
  refine MetFree.of_bodySF (plainFor_of_name (by first | (simp [plainName, overriddenIn]; done) | decide +kernel)) hisR ?_
  intro p e s m args below meth c s₁ Bd hml0 hP hK
  obtain ⟨rfl, hZ, hh⟩ := hP
  have hx := Bd.exec
  have hby := Bd.bytes
  have hml : c.maxLocals = 19 := hml0
  have hown : s.vm.findClass "com/example/pathwright/pathwright/value/AssignmentValueOfPinLaw" = some m.cls := findClass_of_methodNamed Bd.named
  have hnm := (name_of_methodNamed Bd.named Bd.method).1
  have X0 : Stand p l e room_1 s m #[(.int p0), (.int p1), (.long v0), (.long v1), (.long v2), (.long v3)] below meth c s₁ [] 0 0 := Stand.of_body Bd
  have e0 : s₁.heap = h0 := by rw [← hh, Bd.state]; rfl
  have N0 := Fr.nil n0
  show own_E p e below s (Qrm0 p0 p1 v0 v1 v2 v3 w0 w1 w2 w3 w4 w5 w6 w7 em Z h0 n0) room_1.cells room_1.slots (s₁.setTop (entryFrame m #[(.int p0), (.int p1), (.long v0), (.long v1), (.long v2), (.long v3)] maxLocals))
  refine own_go (fun t k => castTop (show _ = (mkF m 0 #[.val (.int p0), .val (.int p1), .val (.long v0), .second, .val (.long v1), .second, .val (.long v2), .second, .val (.long v3), .second, .unset, .unset, .unset, .unset, .unset, .unset, .unset, .unset, .unset] []) from by first | (simp [entryFrame, mkF, argsToLocals, Value.category, maxLocals]; done) | rfl) k) ?_
  show own_E _ _ _ _ _ _ _ (s₁.setTop (mkF m 0 #[.val (.int p0), .val (.int p1), .val (.long v0), .second, .val (.long v1), .second, .val (.long v2), .second, .val (.long v3), .second, .unset, .unset, .unset, .unset, .unset, .unset, .unset, .unset, .unset] []))
  have rest60 : ∀ (z : Int32) (T : State) (h : Heap) (locs : List Loc) (aa : Addr) (kA : ClassId), (z = 0 ∨ z = 1 ∨ z = 2 ∨ z = 3 ∨ z = 4) → Stand p l e room_1 s m #[(.int p0), (.int p1), (.long v0), (.long v1), (.long v2), (.long v3)] below meth c T locs (0 + 1) (0 + 4) → T.heap = h → Old Z n0 h → n0 ≤ h.size → Fr n0 locs → Arv Z h aa kA .long z [.long v0, .long v1, .long v2, .long v3] (.long 0) → Exa Z h aa "[J" → n0 ≤ aa → own_E p e below s (Qrm0 p0 p1 v0 v1 v2 v3 w0 w1 w2 w3 w4 w5 w6 w7 em Z h0 n0) room_1.cells room_1.slots (T.setTop (mkF m 60 #[.val (.int p0), .val (.int p1), .val (.long v0), .second, .val (.long v1), .second, .val (.long v2), .second, .val (.long v3), .second, .val (.int z), .val (.ref aa), .unset, .unset, .unset, .unset, .unset, .unset, .unset] [])) := by
    intro z T h locs aa kA hz X e1 O Zh N V EV ga
    show own_E _ _ _ _ _ _ _ (T.setTop (mkF m 60 #[.val (.int p0), .val (.int p1), .val (.long v0), .second, .val (.long v1), .second, .val (.long v2), .second, .val (.long v3), .second, .val (.int z), .val (.ref aa), .unset, .unset, .unset, .unset, .unset, .unset, .unset] []))
    have hz4 : z.toNatClampNeg ≤ 4 := by rcases hz with rfl | rfl | rfl | rfl | rfl <;> decide
    have hzi : z.toInt ≤ 4 := by rcases hz with rfl | rfl | rfl | rfl | rfl <;> decide
    have rest89 : ∀ n : Int32, 1 ≤ n.toInt → own_E p e below s (Qrm0 p0 p1 v0 v1 v2 v3 w0 w1 w2 w3 w4 w5 w6 w7 em Z h0 n0) room_1.cells room_1.slots (T.setTop (mkF m 89 #[.val (.int p0), .val (.int p1), .val (.long v0), .second, .val (.long v1), .second, .val (.long v2), .second, .val (.long v3), .second, .val (.int z), .val (.ref aa), .val (.int n), .unset, .unset, .unset, .unset, .unset, .unset] [])) := by
      intro n hn
      show own_E _ _ _ _ _ _ _ (T.setTop (mkF m 89 #[.val (.int p0), .val (.int p1), .val (.long v0), .second, .val (.long v1), .second, .val (.long v2), .second, .val (.long v3), .second, .val (.int z), .val (.ref aa), .val (.int n), .unset, .unset, .unset, .unset, .unset, .unset] []))
      refine own_go (fun _ k => XS.iloadN X.here hx rfl (hb hby at_89) rfl k) ?_
      show own_E _ _ _ _ _ _ _ (T.setTop (mkF m 90 #[.val (.int p0), .val (.int p1), .val (.long v0), .second, .val (.long v1), .second, .val (.long v2), .second, .val (.long v3), .second, .val (.int z), .val (.ref aa), .val (.int n), .unset, .unset, .unset, .unset, .unset, .unset] [(.int p0)]))
      refine own_go (fun _ k => XT.iconstV X.here hx rfl (4 : Int32) (hb hby at_90) (by decide) k) ?_
      show own_E _ _ _ _ _ _ _ (T.setTop (mkF m 91 #[.val (.int p0), .val (.int p1), .val (.long v0), .second, .val (.long v1), .second, .val (.long v2), .second, .val (.long v3), .second, .val (.int z), .val (.ref aa), .val (.int n), .unset, .unset, .unset, .unset, .unset, .unset] [(.int (4 : Int32)), (.int p0)]))
      refine own_go (fun _ k => XT.iushr X.here hx rfl (hb hby at_91) rfl k) ?_
      show own_E _ _ _ _ _ _ _ (T.setTop (mkF m 92 #[.val (.int p0), .val (.int p1), .val (.long v0), .second, .val (.long v1), .second, .val (.long v2), .second, .val (.long v3), .second, .val (.int z), .val (.ref aa), .val (.int n), .unset, .unset, .unset, .unset, .unset, .unset] [(.int (XT.ushr p0 (4 : Int32)))]))
      refine own_go (fun _ k => XT.bipushV X.here hx rfl (7 : Int32) (hb hby at_92) (by decide) k) ?_
      show own_E _ _ _ _ _ _ _ (T.setTop (mkF m 94 #[.val (.int p0), .val (.int p1), .val (.long v0), .second, .val (.long v1), .second, .val (.long v2), .second, .val (.long v3), .second, .val (.int z), .val (.ref aa), .val (.int n), .unset, .unset, .unset, .unset, .unset, .unset] [(.int (7 : Int32)), (.int (XT.ushr p0 (4 : Int32)))]))
      refine own_go (fun _ k => XS.iand X.here hx rfl (hb hby at_94) rfl k) ?_
      show own_E _ _ _ _ _ _ _ (T.setTop (mkF m 95 #[.val (.int p0), .val (.int p1), .val (.long v0), .second, .val (.long v1), .second, .val (.long v2), .second, .val (.long v3), .second, .val (.int z), .val (.ref aa), .val (.int n), .unset, .unset, .unset, .unset, .unset, .unset] [(.int ((XT.ushr p0 (4 : Int32)) &&& (7 : Int32)))]))
      obtain ⟨v101, T101, L101, X101, hQ101, st101⟩ := own_callS X hx hZ (rm := ({ frames := 0, cells := 0, slots := 0, locals := 0 } : Room)) (W := 0) (argsL := [(.int ((XT.ushr p0 (4 : Int32)) &&& (7 : Int32)))]) (rest := []) (y := (⟨"com/example/pathwright/pathwright/value/AssignmentValueOfPinLaw", "typeOf", "(I)Lcom/example/pathwright/pathwright/value/PrimitiveType;"⟩ : MethodName)) hown (hw _ (List.mem_of_getElem? (i := 2) rfl)) (hw _ (List.mem_of_getElem? (i := 3) rfl)) (hw _ (List.mem_of_getElem? (i := 4) rfl)) (hw _ (List.mem_of_getElem? (i := 5) rfl)) (by decide) (rm1 l Z a0 hw ((XT.ushr p0 (4 : Int32)) &&& (7 : Int32)) w0 w1 w2 w3 w4 w5 w6 w7 h n0 Zh (S0.ext O.2) (S1.ext O.2) (S2.ext O.2) (S3.ext O.2) (S4.ext O.2) (S5.ext O.2) (S6.ext O.2) (S7.ext O.2)) e1 (by decide) (by decide) (by decide) (by decide) (g := (mkF m 95 #[.val (.int p0), .val (.int p1), .val (.long v0), .second, .val (.long v1), .second, .val (.long v2), .second, .val (.long v3), .second, .val (.int z), .val (.ref aa), .val (.int n), .unset, .unset, .unset, .unset, .unset, .unset] [(.int ((XT.ushr p0 (4 : Int32)) &&& (7 : Int32)))])) rfl (by rw [hml]; rfl) (lenOf pd_5 rfl) rfl (Nat.le_of_ble_eq_true rfl) (hb hby at_95)
      obtain ⟨⟨r, rfl⟩, N101, e101⟩ := hQ101
      refine own_go st101 ?_
      show own_E _ _ _ _ _ _ _ (T101.setTop (mkF m 98 #[.val (.int p0), .val (.int p1), .val (.long v0), .second, .val (.long v1), .second, .val (.long v2), .second, .val (.long v3), .second, .val (.int z), .val (.ref aa), .val (.int n), .unset, .unset, .unset, .unset, .unset, .unset] [(.ref r)]))
      have M101 := Fr.app N N101
      refine own_go (fun _ k => XS.astore X101.here hx rfl (hb hby at_98) rfl rfl (l' := #[.val (.int p0), .val (.int p1), .val (.long v0), .second, .val (.long v1), .second, .val (.long v2), .second, .val (.long v3), .second, .val (.int z), .val (.ref aa), .val (.int n), .val (.ref r), .unset, .unset, .unset, .unset, .unset]) rfl k) ?_
      show own_E _ _ _ _ _ _ _ (T101.setTop (mkF m 100 #[.val (.int p0), .val (.int p1), .val (.long v0), .second, .val (.long v1), .second, .val (.long v2), .second, .val (.long v3), .second, .val (.int z), .val (.ref aa), .val (.int n), .val (.ref r), .unset, .unset, .unset, .unset, .unset] []))
      obtain ⟨T102, h102, X102, e102, E102, A102, D102, -, st102⟩ := newO X101 hx hZ hown (hw _ (List.mem_of_getElem? (i := 9) rfl)) (hw _ (List.mem_of_getElem? (i := 10) rfl)) (hw _ (List.mem_of_getElem? (i := 11) rfl)) e101 (g := (mkF m 100 #[.val (.int p0), .val (.int p1), .val (.long v0), .second, .val (.long v1), .second, .val (.long v2), .second, .val (.long v3), .second, .val (.int z), .val (.ref aa), .val (.int n), .val (.ref r), .unset, .unset, .unset, .unset, .unset] [])) rfl (hb hby at_100) (by decide) (by decide)
      obtain ⟨ax, g102⟩ : ∃ z, z = h.size := ⟨_, rfl⟩
      rw [← g102] at A102 D102 st102
      have ne102_1 : aa ≠ ax := by rw [g102]; exact Nat.ne_of_lt V.lt
      have ne102_2 : em ≠ ax := by rw [g102]; exact Nat.ne_of_lt (EM.ext O.2).lt
      have w102 : n0 ≤ ax := by rw [g102]; exact Zh
      have f102_values : Fld Z h102 ax "com/example/pathwright/pathwright/value/Assignment" "values" "[J" .null := D102 (Or.inr (hw _ (List.mem_of_getElem? (i := 37) rfl))) (ty := (.array .long)) (by decide +kernel)
      have f102_elements : Fld Z h102 ax "com/example/pathwright/pathwright/value/Assignment" "elements" "Ljava/util/Map;" .null := D102 (Or.inr (hw _ (List.mem_of_getElem? (i := 44) rfl))) (ty := (.object "java/util/Map")) (by decide +kernel)
      have f102_0 := V.ext E102
      have f102_1 := EV.ext E102
      have O102 := O.ext E102
      have Z102 := Nat.le_trans Zh E102.1
      refine own_go st102 ?_
      show own_E _ _ _ _ _ _ _ (T102.setTop (mkF m 103 #[.val (.int p0), .val (.int p1), .val (.long v0), .second, .val (.long v1), .second, .val (.long v2), .second, .val (.long v3), .second, .val (.int z), .val (.ref aa), .val (.int n), .val (.ref r), .unset, .unset, .unset, .unset, .unset] [(.ref ax)]))
      refine own_go (fun _ k => XS.dup X102.here hx rfl (hb hby at_103) rfl rfl k) ?_
      show own_E _ _ _ _ _ _ _ (T102.setTop (mkF m 104 #[.val (.int p0), .val (.int p1), .val (.long v0), .second, .val (.long v1), .second, .val (.long v2), .second, .val (.long v3), .second, .val (.int z), .val (.ref aa), .val (.int n), .val (.ref r), .unset, .unset, .unset, .unset, .unset] [(.ref ax), (.ref ax)]))
      refine own_go (fun _ k => XS.aload X102.here hx rfl (hb hby at_104) rfl rfl k) ?_
      show own_E _ _ _ _ _ _ _ (T102.setTop (mkF m 106 #[.val (.int p0), .val (.int p1), .val (.long v0), .second, .val (.long v1), .second, .val (.long v2), .second, .val (.long v3), .second, .val (.int z), .val (.ref aa), .val (.int n), .val (.ref r), .unset, .unset, .unset, .unset, .unset] [(.ref aa), (.ref ax), (.ref ax)]))
      obtain ⟨v103, T103, L103, X103, hQ103, st103⟩ := own_callI X102 hx hZ (rm := ({ frames := 2, cells := 1, slots := 4, locals := 32 } : Room)) (W := 1) (b := ax) (argsL := [(.ref aa)]) (rest := [(.ref ax)]) (y := (⟨"com/example/pathwright/pathwright/value/Assignment", "<init>", "([J)V"⟩ : MethodName)) hown rfl (hw _ (List.mem_of_getElem? (i := 12) rfl)) (hw _ (List.mem_of_getElem? (i := 13) rfl)) (hw _ (List.mem_of_getElem? (i := 11) rfl)) (hw _ (List.mem_of_getElem? (i := 14) rfl)) (by decide) (rm2 l Z a0 hw ax aa kA z v0 v1 v2 v3 em h102 n0 Z102 hz4 A102 f102_values f102_elements w102 f102_0 f102_1 ne102_1 (EM.ext O102.2) ne102_2 (SM.ext O102.2)) e102 (by decide) (by decide) (by decide) (by decide) (g := (mkF m 106 #[.val (.int p0), .val (.int p1), .val (.long v0), .second, .val (.long v1), .second, .val (.long v2), .second, .val (.long v3), .second, .val (.int z), .val (.ref aa), .val (.int n), .val (.ref r), .unset, .unset, .unset, .unset, .unset] [(.ref aa), (.ref ax), (.ref ax)])) rfl (by rw [hml]; rfl) (lenOf pd_6 rfl) rfl (Nat.le_of_ble_eq_true rfl) (hb hby at_106)
      obtain ⟨rfl, N103, K103, A103, cv, F103, V103, g103⟩ := hQ103
      refine own_go st103 ?_
      show own_E _ _ _ _ _ _ _ (T103.setTop (mkF m 109 #[.val (.int p0), .val (.int p1), .val (.long v0), .second, .val (.long v1), .second, .val (.long v2), .second, .val (.long v3), .second, .val (.int z), .val (.ref aa), .val (.int n), .val (.ref r), .unset, .unset, .unset, .unset, .unset] [(.ref ax)]))
      have M103 := Fr.app M101 N103
      have ne103_cv_1 : aa ≠ cv := Nat.ne_of_lt (Nat.lt_of_lt_of_le f102_0.lt g103)
      have ne103_cv_2 : em ≠ cv := Nat.ne_of_lt (Nat.lt_of_lt_of_le (EM.ext O102.2).lt g103)
      have ne103_cv_3 : ax ≠ cv := Nat.ne_of_lt (Nat.lt_of_lt_of_le f102_values.lt g103)
      have w103_cv : n0 ≤ cv := Nat.le_trans Z102 g103
      have e103 : T103.heap = T103.heap := rfl
      have f103_0 := f102_0.keep K103 (ninS ne102_1 nin0)
      have f103_1 := f102_1.keep K103
      have f103_9 := A102.keep K103
      have O103 := O102.keep K103 (allS w102 all0)
      have Z103 := Nat.le_trans Z102 K103.1
      refine own_go (fun _ k => XS.astore X103.here hx rfl (hb hby at_109) rfl rfl (l' := #[.val (.int p0), .val (.int p1), .val (.long v0), .second, .val (.long v1), .second, .val (.long v2), .second, .val (.long v3), .second, .val (.int z), .val (.ref aa), .val (.int n), .val (.ref r), .val (.ref ax), .unset, .unset, .unset, .unset]) rfl k) ?_
      show own_E _ _ _ _ _ _ _ (T103.setTop (mkF m 111 #[.val (.int p0), .val (.int p1), .val (.long v0), .second, .val (.long v1), .second, .val (.long v2), .second, .val (.long v3), .second, .val (.int z), .val (.ref aa), .val (.int n), .val (.ref r), .val (.ref ax), .unset, .unset, .unset, .unset] []))
      refine own_go (fun _ k => XS.aload X103.here hx rfl (hb hby at_111) rfl rfl k) ?_
      show own_E _ _ _ _ _ _ _ (T103.setTop (mkF m 113 #[.val (.int p0), .val (.int p1), .val (.long v0), .second, .val (.long v1), .second, .val (.long v2), .second, .val (.long v3), .second, .val (.int z), .val (.ref aa), .val (.int n), .val (.ref r), .val (.ref ax), .unset, .unset, .unset, .unset] [(.ref ax)]))
      obtain ⟨T104, h104, X104, e104, E104, A104, D104, -, st104⟩ := newO X103 hx hZ hown (hw _ (List.mem_of_getElem? (i := 45) rfl)) (hw _ (List.mem_of_getElem? (i := 46) rfl)) (hw _ (List.mem_of_getElem? (i := 47) rfl)) e103 (g := (mkF m 113 #[.val (.int p0), .val (.int p1), .val (.long v0), .second, .val (.long v1), .second, .val (.long v2), .second, .val (.long v3), .second, .val (.int z), .val (.ref aa), .val (.int n), .val (.ref r), .val (.ref ax), .unset, .unset, .unset, .unset] [(.ref ax)])) rfl (hb hby at_113) (by decide) (by decide)
      obtain ⟨ay, g104⟩ : ∃ z, z = T103.heap.size := ⟨_, rfl⟩
      rw [← g104] at A104 D104 st104
      have ne104_1 : aa ≠ ay := by rw [g104]; exact Nat.ne_of_lt f103_0.lt
      have ne104_2 : em ≠ ay := by rw [g104]; exact Nat.ne_of_lt (EM.ext O103.2).lt
      have ne104_3 : ax ≠ ay := by rw [g104]; exact Nat.ne_of_lt f103_9.lt
      have ne104_4 : cv ≠ ay := by rw [g104]; exact Nat.ne_of_lt V103.lt
      have w104 : n0 ≤ ay := by rw [g104]; exact Z103
      have f104_number : Fld Z h104 ay "com/example/pathwright/pathwright/value/Input" "number" "I" (.int (0 : Int32)) := D104 (Or.inr (hw _ (List.mem_of_getElem? (i := 58) rfl))) (ty := .int) (by decide +kernel)
      have f104_type : Fld Z h104 ay "com/example/pathwright/pathwright/value/Input" "type" "Lcom/example/pathwright/pathwright/value/PrimitiveType;" .null := D104 (Or.inr (hw _ (List.mem_of_getElem? (i := 60) rfl))) (ty := (.object "com/example/pathwright/pathwright/value/PrimitiveType")) (by decide +kernel)
      have f104_0 := f103_0.ext E104
      have f104_1 := f103_1.ext E104
      have f104_7 := f103_9.ext E104
      have f104_12 := F103.ext E104
      have f104_13 := V103.ext E104
      have O104 := O103.ext E104
      have Z104 := Nat.le_trans Z103 E104.1
      refine own_go st104 ?_
      show own_E _ _ _ _ _ _ _ (T104.setTop (mkF m 116 #[.val (.int p0), .val (.int p1), .val (.long v0), .second, .val (.long v1), .second, .val (.long v2), .second, .val (.long v3), .second, .val (.int z), .val (.ref aa), .val (.int n), .val (.ref r), .val (.ref ax), .unset, .unset, .unset, .unset] [(.ref ay), (.ref ax)]))
      refine own_go (fun _ k => XS.dup X104.here hx rfl (hb hby at_116) rfl rfl k) ?_
      show own_E _ _ _ _ _ _ _ (T104.setTop (mkF m 117 #[.val (.int p0), .val (.int p1), .val (.long v0), .second, .val (.long v1), .second, .val (.long v2), .second, .val (.long v3), .second, .val (.int z), .val (.ref aa), .val (.int n), .val (.ref r), .val (.ref ax), .unset, .unset, .unset, .unset] [(.ref ay), (.ref ay), (.ref ax)]))
      refine own_go (fun _ k => XS.iload X104.here hx rfl (hb hby at_117) rfl k) ?_
      show own_E _ _ _ _ _ _ _ (T104.setTop (mkF m 119 #[.val (.int p0), .val (.int p1), .val (.long v0), .second, .val (.long v1), .second, .val (.long v2), .second, .val (.long v3), .second, .val (.int z), .val (.ref aa), .val (.int n), .val (.ref r), .val (.ref ax), .unset, .unset, .unset, .unset] [(.int n), (.ref ay), (.ref ay), (.ref ax)]))
      refine own_go (fun _ k => XS.aload X104.here hx rfl (hb hby at_119) rfl rfl k) ?_
      show own_E _ _ _ _ _ _ _ (T104.setTop (mkF m 121 #[.val (.int p0), .val (.int p1), .val (.long v0), .second, .val (.long v1), .second, .val (.long v2), .second, .val (.long v3), .second, .val (.int z), .val (.ref aa), .val (.int n), .val (.ref r), .val (.ref ax), .unset, .unset, .unset, .unset] [(.ref r), (.int n), (.ref ay), (.ref ay), (.ref ax)]))
      obtain ⟨v105, T105, L105, X105, hQ105, st105⟩ := own_callI X104 hx hZ (rm := ({ frames := 2, cells := 0, slots := 0, locals := 24 } : Room)) (W := 2) (b := ay) (argsL := [(.int n), (.ref r)]) (rest := [(.ref ay), (.ref ax)]) (y := (⟨"com/example/pathwright/pathwright/value/Input", "<init>", "(ILcom/example/pathwright/pathwright/value/PrimitiveType;)V"⟩ : MethodName)) hown rfl (hw _ (List.mem_of_getElem? (i := 48) rfl)) (hw _ (List.mem_of_getElem? (i := 49) rfl)) (hw _ (List.mem_of_getElem? (i := 47) rfl)) (hw _ (List.mem_of_getElem? (i := 50) rfl)) (by decide) (rm7 l Z a0 hw ay n r h104 n0 Z104 A104 f104_number f104_type w104) e104 (by decide) (by decide) (by decide) (by decide) (g := (mkF m 121 #[.val (.int p0), .val (.int p1), .val (.long v0), .second, .val (.long v1), .second, .val (.long v2), .second, .val (.long v3), .second, .val (.int z), .val (.ref aa), .val (.int n), .val (.ref r), .val (.ref ax), .unset, .unset, .unset, .unset] [(.ref r), (.int n), (.ref ay), (.ref ay), (.ref ax)])) rfl (by rw [hml]; rfl) (lenOf pd_7 rfl) rfl (Nat.le_of_ble_eq_true rfl) (hb hby at_121)
      obtain ⟨rfl, N105, K105, A105, F105⟩ := hQ105
      refine own_go st105 ?_
      show own_E _ _ _ _ _ _ _ (T105.setTop (mkF m 124 #[.val (.int p0), .val (.int p1), .val (.long v0), .second, .val (.long v1), .second, .val (.long v2), .second, .val (.long v3), .second, .val (.int z), .val (.ref aa), .val (.int n), .val (.ref r), .val (.ref ax), .unset, .unset, .unset, .unset] [(.ref ay), (.ref ax)]))
      have M105 := Fr.app M103 N105
      have e105 : T105.heap = T105.heap := rfl
      have f105_0 := f104_0.keep K105 (ninS ne104_1 nin0)
      have f105_1 := f104_1.keep K105
      have f105_7 := f104_7.keep K105
      have f105_12 := f104_12.keep K105 (ninS ne104_3 nin0)
      have f105_13 := f104_13.keep K105 (ninS ne104_4 nin0)
      have f105_21 := A104.keep K105
      have O105 := O104.keep K105 (allS w104 all0)
      have Z105 := Nat.le_trans Z104 K105.1
      obtain ⟨v106, T106, L106, X106, hQ106, st106⟩ := own_callV X105 hx hZ (rm := ({ frames := 1, cells := 0, slots := 0, locals := 12 } : Room)) (W := 0) (b := ax) (argsL := [(.ref ay)]) (rest := []) (y := (⟨"com/example/pathwright/pathwright/value/Assignment", "valueOf", "(Lcom/example/pathwright/pathwright/value/Input;)J"⟩ : MethodName)) hown (hw _ (List.mem_of_getElem? (i := 61) rfl)) (hw _ (List.mem_of_getElem? (i := 62) rfl)) (hw _ (List.mem_of_getElem? (i := 64) rfl)) (hw _ (List.mem_of_getElem? (i := 63) rfl)) (hw _ (List.mem_of_getElem? (i := 65) rfl)) (hw _ (List.mem_of_getElem? (i := 11) rfl)) (by decide) (rm9 l Z a0 hw ax ay n cv kA z v0 v1 v2 v3 T105.heap n0 Z105 hn hzi f105_12 f105_13 f105_21 F105) e105 f105_7 (by decide) (by decide) (by decide) (by decide) (g := (mkF m 124 #[.val (.int p0), .val (.int p1), .val (.long v0), .second, .val (.long v1), .second, .val (.long v2), .second, .val (.long v3), .second, .val (.int z), .val (.ref aa), .val (.int n), .val (.ref r), .val (.ref ax), .unset, .unset, .unset, .unset] [(.ref ay), (.ref ax)])) rfl (by rw [hml]; rfl) (lenOf pd_8 rfl) rfl (Nat.le_of_ble_eq_true rfl) (hb hby at_124)
      obtain ⟨rfl, N106, e106⟩ := hQ106
      refine own_go st106 ?_
      show own_E _ _ _ _ _ _ _ (T106.setTop (mkF m 127 #[.val (.int p0), .val (.int p1), .val (.long v0), .second, .val (.long v1), .second, .val (.long v2), .second, .val (.long v3), .second, .val (.int z), .val (.ref aa), .val (.int n), .val (.ref r), .val (.ref ax), .unset, .unset, .unset, .unset] [(.long (own_r n z v0 v1 v2 v3))]))
      have M106 := Fr.app M105 N106
      rcases hz with rfl | rfl | rfl | rfl | rfl
      ·
        rcases own_five hn with rfl | rfl | rfl | rfl | h5
        ·
          rw [show own_r (1 : Int32) (0 : Int32) v0 v1 v2 v3 = (0 : Int64) from rfl]
          show own_E _ _ _ _ _ _ _ (T106.setTop (mkF m 127 #[.val (.int p0), .val (.int p1), .val (.long v0), .second, .val (.long v1), .second, .val (.long v2), .second, .val (.long v3), .second, .val (.int (0 : Int32)), .val (.ref aa), .val (.int (1 : Int32)), .val (.ref r), .val (.ref ax), .unset, .unset, .unset, .unset] [(.long (0 : Int64))]))
          refine own_go (fun _ k => XT.lstore X106.here hx rfl (hb hby at_127) rfl (l' := #[.val (.int p0), .val (.int p1), .val (.long v0), .second, .val (.long v1), .second, .val (.long v2), .second, .val (.long v3), .second, .val (.int (0 : Int32)), .val (.ref aa), .val (.int (1 : Int32)), .val (.ref r), .val (.ref ax), .val (.long (0 : Int64)), .second, .unset, .unset]) rfl k) ?_
          show own_E _ _ _ _ _ _ _ (T106.setTop (mkF m 129 #[.val (.int p0), .val (.int p1), .val (.long v0), .second, .val (.long v1), .second, .val (.long v2), .second, .val (.long v3), .second, .val (.int (0 : Int32)), .val (.ref aa), .val (.int (1 : Int32)), .val (.ref r), .val (.ref ax), .val (.long (0 : Int64)), .second, .unset, .unset] []))
          refine own_go (fun _ k => XS.iload X106.here hx rfl (hb hby at_129) rfl k) ?_
          show own_E _ _ _ _ _ _ _ (T106.setTop (mkF m 131 #[.val (.int p0), .val (.int p1), .val (.long v0), .second, .val (.long v1), .second, .val (.long v2), .second, .val (.long v3), .second, .val (.int (0 : Int32)), .val (.ref aa), .val (.int (1 : Int32)), .val (.ref r), .val (.ref ax), .val (.long (0 : Int64)), .second, .unset, .unset] [(.int (1 : Int32))]))
          refine own_go (fun _ k => XT.iconstV X106.here hx rfl (1 : Int32) (hb hby at_131) (by decide) k) ?_
          show own_E _ _ _ _ _ _ _ (T106.setTop (mkF m 132 #[.val (.int p0), .val (.int p1), .val (.long v0), .second, .val (.long v1), .second, .val (.long v2), .second, .val (.long v3), .second, .val (.int (0 : Int32)), .val (.ref aa), .val (.int (1 : Int32)), .val (.ref r), .val (.ref ax), .val (.long (0 : Int64)), .second, .unset, .unset] [(.int (1 : Int32)), (.int (1 : Int32))]))
          refine own_go (fun _ k => XS.icmpNo X106.here hx rfl (hb hby at_132) rfl (by decide) k) ?_
          show own_E _ _ _ _ _ _ _ (T106.setTop (mkF m 135 #[.val (.int p0), .val (.int p1), .val (.long v0), .second, .val (.long v1), .second, .val (.long v2), .second, .val (.long v3), .second, .val (.int (0 : Int32)), .val (.ref aa), .val (.int (1 : Int32)), .val (.ref r), .val (.ref ax), .val (.long (0 : Int64)), .second, .unset, .unset] []))
          refine own_go (fun _ k => XS.iload X106.here hx rfl (hb hby at_135) rfl k) ?_
          show own_E _ _ _ _ _ _ _ (T106.setTop (mkF m 137 #[.val (.int p0), .val (.int p1), .val (.long v0), .second, .val (.long v1), .second, .val (.long v2), .second, .val (.long v3), .second, .val (.int (0 : Int32)), .val (.ref aa), .val (.int (1 : Int32)), .val (.ref r), .val (.ref ax), .val (.long (0 : Int64)), .second, .unset, .unset] [(.int (0 : Int32))]))
          refine own_go (fun _ k => XT.iconstV X106.here hx rfl (1 : Int32) (hb hby at_137) (by decide) k) ?_
          show own_E _ _ _ _ _ _ _ (T106.setTop (mkF m 138 #[.val (.int p0), .val (.int p1), .val (.long v0), .second, .val (.long v1), .second, .val (.long v2), .second, .val (.long v3), .second, .val (.int (0 : Int32)), .val (.ref aa), .val (.int (1 : Int32)), .val (.ref r), .val (.ref ax), .val (.long (0 : Int64)), .second, .unset, .unset] [(.int (1 : Int32)), (.int (0 : Int32))]))
          refine own_go (fun _ k => XS.icmpYes X106.here hx rfl (pc0 := 138) (pc' := 147) rfl (hb hby at_138) rfl (by decide) (by decide) (by decide) k) ?_
          show own_E _ _ _ _ _ _ _ (T106.setTop (mkF m 147 #[.val (.int p0), .val (.int p1), .val (.long v0), .second, .val (.long v1), .second, .val (.long v2), .second, .val (.long v3), .second, .val (.int (0 : Int32)), .val (.ref aa), .val (.int (1 : Int32)), .val (.ref r), .val (.ref ax), .val (.long (0 : Int64)), .second, .unset, .unset] []))
          refine own_go (fun _ k => XS.iload X106.here hx rfl (hb hby at_147) rfl k) ?_
          show own_E _ _ _ _ _ _ _ (T106.setTop (mkF m 149 #[.val (.int p0), .val (.int p1), .val (.long v0), .second, .val (.long v1), .second, .val (.long v2), .second, .val (.long v3), .second, .val (.int (0 : Int32)), .val (.ref aa), .val (.int (1 : Int32)), .val (.ref r), .val (.ref ax), .val (.long (0 : Int64)), .second, .unset, .unset] [(.int (1 : Int32))]))
          refine own_go (fun _ k => XT.iconstV X106.here hx rfl (2 : Int32) (hb hby at_149) (by decide) k) ?_
          show own_E _ _ _ _ _ _ _ (T106.setTop (mkF m 150 #[.val (.int p0), .val (.int p1), .val (.long v0), .second, .val (.long v1), .second, .val (.long v2), .second, .val (.long v3), .second, .val (.int (0 : Int32)), .val (.ref aa), .val (.int (1 : Int32)), .val (.ref r), .val (.ref ax), .val (.long (0 : Int64)), .second, .unset, .unset] [(.int (2 : Int32)), (.int (1 : Int32))]))
          refine own_go (fun _ k => XS.icmpYes X106.here hx rfl (pc0 := 150) (pc' := 166) rfl (hb hby at_150) rfl (by decide) (by decide) (by decide) k) ?_
          show own_E _ _ _ _ _ _ _ (T106.setTop (mkF m 166 #[.val (.int p0), .val (.int p1), .val (.long v0), .second, .val (.long v1), .second, .val (.long v2), .second, .val (.long v3), .second, .val (.int (0 : Int32)), .val (.ref aa), .val (.int (1 : Int32)), .val (.ref r), .val (.ref ax), .val (.long (0 : Int64)), .second, .unset, .unset] []))
          refine own_go (fun _ k => XS.iload X106.here hx rfl (hb hby at_166) rfl k) ?_
          show own_E _ _ _ _ _ _ _ (T106.setTop (mkF m 168 #[.val (.int p0), .val (.int p1), .val (.long v0), .second, .val (.long v1), .second, .val (.long v2), .second, .val (.long v3), .second, .val (.int (0 : Int32)), .val (.ref aa), .val (.int (1 : Int32)), .val (.ref r), .val (.ref ax), .val (.long (0 : Int64)), .second, .unset, .unset] [(.int (1 : Int32))]))
          refine own_go (fun _ k => XT.iconstV X106.here hx rfl (3 : Int32) (hb hby at_168) (by decide) k) ?_
          show own_E _ _ _ _ _ _ _ (T106.setTop (mkF m 169 #[.val (.int p0), .val (.int p1), .val (.long v0), .second, .val (.long v1), .second, .val (.long v2), .second, .val (.long v3), .second, .val (.int (0 : Int32)), .val (.ref aa), .val (.int (1 : Int32)), .val (.ref r), .val (.ref ax), .val (.long (0 : Int64)), .second, .unset, .unset] [(.int (3 : Int32)), (.int (1 : Int32))]))
          refine own_go (fun _ k => XS.icmpYes X106.here hx rfl (pc0 := 169) (pc' := 185) rfl (hb hby at_169) rfl (by decide) (by decide) (by decide) k) ?_
          show own_E _ _ _ _ _ _ _ (T106.setTop (mkF m 185 #[.val (.int p0), .val (.int p1), .val (.long v0), .second, .val (.long v1), .second, .val (.long v2), .second, .val (.long v3), .second, .val (.int (0 : Int32)), .val (.ref aa), .val (.int (1 : Int32)), .val (.ref r), .val (.ref ax), .val (.long (0 : Int64)), .second, .unset, .unset] []))
          refine own_go (fun _ k => XS.iload X106.here hx rfl (hb hby at_185) rfl k) ?_
          show own_E _ _ _ _ _ _ _ (T106.setTop (mkF m 187 #[.val (.int p0), .val (.int p1), .val (.long v0), .second, .val (.long v1), .second, .val (.long v2), .second, .val (.long v3), .second, .val (.int (0 : Int32)), .val (.ref aa), .val (.int (1 : Int32)), .val (.ref r), .val (.ref ax), .val (.long (0 : Int64)), .second, .unset, .unset] [(.int (1 : Int32))]))
          refine own_go (fun _ k => XT.iconstV X106.here hx rfl (4 : Int32) (hb hby at_187) (by decide) k) ?_
          show own_E _ _ _ _ _ _ _ (T106.setTop (mkF m 188 #[.val (.int p0), .val (.int p1), .val (.long v0), .second, .val (.long v1), .second, .val (.long v2), .second, .val (.long v3), .second, .val (.int (0 : Int32)), .val (.ref aa), .val (.int (1 : Int32)), .val (.ref r), .val (.ref ax), .val (.long (0 : Int64)), .second, .unset, .unset] [(.int (4 : Int32)), (.int (1 : Int32))]))
          refine own_go (fun _ k => XS.icmpYes X106.here hx rfl (pc0 := 188) (pc' := 204) rfl (hb hby at_188) rfl (by decide) (by decide) (by decide) k) ?_
          show own_E _ _ _ _ _ _ _ (T106.setTop (mkF m 204 #[.val (.int p0), .val (.int p1), .val (.long v0), .second, .val (.long v1), .second, .val (.long v2), .second, .val (.long v3), .second, .val (.int (0 : Int32)), .val (.ref aa), .val (.int (1 : Int32)), .val (.ref r), .val (.ref ax), .val (.long (0 : Int64)), .second, .unset, .unset] []))
          refine own_go (fun _ k => XT.lconstV X106.here hx rfl (0 : Int64) (hb hby at_204) (by decide) k) ?_
          show own_E _ _ _ _ _ _ _ (T106.setTop (mkF m 205 #[.val (.int p0), .val (.int p1), .val (.long v0), .second, .val (.long v1), .second, .val (.long v2), .second, .val (.long v3), .second, .val (.int (0 : Int32)), .val (.ref aa), .val (.int (1 : Int32)), .val (.ref r), .val (.ref ax), .val (.long (0 : Int64)), .second, .unset, .unset] [(.long (0 : Int64))]))
          refine own_go (fun _ k => XT.lstore X106.here hx rfl (hb hby at_205) rfl (l' := #[.val (.int p0), .val (.int p1), .val (.long v0), .second, .val (.long v1), .second, .val (.long v2), .second, .val (.long v3), .second, .val (.int (0 : Int32)), .val (.ref aa), .val (.int (1 : Int32)), .val (.ref r), .val (.ref ax), .val (.long (0 : Int64)), .second, .val (.long (0 : Int64)), .second]) rfl k) ?_
          show own_E _ _ _ _ _ _ _ (T106.setTop (mkF m 207 #[.val (.int p0), .val (.int p1), .val (.long v0), .second, .val (.long v1), .second, .val (.long v2), .second, .val (.long v3), .second, .val (.int (0 : Int32)), .val (.ref aa), .val (.int (1 : Int32)), .val (.ref r), .val (.ref ax), .val (.long (0 : Int64)), .second, .val (.long (0 : Int64)), .second] []))
          refine own_go (fun _ k => XT.lload X106.here hx rfl (hb hby at_207) rfl k) ?_
          show own_E _ _ _ _ _ _ _ (T106.setTop (mkF m 209 #[.val (.int p0), .val (.int p1), .val (.long v0), .second, .val (.long v1), .second, .val (.long v2), .second, .val (.long v3), .second, .val (.int (0 : Int32)), .val (.ref aa), .val (.int (1 : Int32)), .val (.ref r), .val (.ref ax), .val (.long (0 : Int64)), .second, .val (.long (0 : Int64)), .second] [(.long (0 : Int64))]))
          refine own_go (fun _ k => XT.lload X106.here hx rfl (hb hby at_209) rfl k) ?_
          show own_E _ _ _ _ _ _ _ (T106.setTop (mkF m 211 #[.val (.int p0), .val (.int p1), .val (.long v0), .second, .val (.long v1), .second, .val (.long v2), .second, .val (.long v3), .second, .val (.int (0 : Int32)), .val (.ref aa), .val (.int (1 : Int32)), .val (.ref r), .val (.ref ax), .val (.long (0 : Int64)), .second, .val (.long (0 : Int64)), .second] [(.long (0 : Int64)), (.long (0 : Int64))]))
          refine own_go (fun _ k => XT.lcmp X106.here hx rfl (hb hby at_211) rfl k) ?_
          show own_E _ _ _ _ _ _ _ (T106.setTop (mkF m 212 #[.val (.int p0), .val (.int p1), .val (.long v0), .second, .val (.long v1), .second, .val (.long v2), .second, .val (.long v3), .second, .val (.int (0 : Int32)), .val (.ref aa), .val (.int (1 : Int32)), .val (.ref r), .val (.ref ax), .val (.long (0 : Int64)), .second, .val (.long (0 : Int64)), .second] [(.int (XT.cmpL (0 : Int64) (0 : Int64)))]))
          refine own_go (fun _ k => XS.ifNo X106.here hx rfl (hb hby at_212) rfl (XT.ll_ne_f rfl) k) ?_
          show own_E _ _ _ _ _ _ _ (T106.setTop (mkF m 215 #[.val (.int p0), .val (.int p1), .val (.long v0), .second, .val (.long v1), .second, .val (.long v2), .second, .val (.long v3), .second, .val (.int (0 : Int32)), .val (.ref aa), .val (.int (1 : Int32)), .val (.ref r), .val (.ref ax), .val (.long (0 : Int64)), .second, .val (.long (0 : Int64)), .second] []))
          refine own_go (fun _ k => XT.iconstV X106.here hx rfl (1 : Int32) (hb hby at_215) (by decide) k) ?_
          show own_E _ _ _ _ _ _ _ (T106.setTop (mkF m 216 #[.val (.int p0), .val (.int p1), .val (.long v0), .second, .val (.long v1), .second, .val (.long v2), .second, .val (.long v3), .second, .val (.int (0 : Int32)), .val (.ref aa), .val (.int (1 : Int32)), .val (.ref r), .val (.ref ax), .val (.long (0 : Int64)), .second, .val (.long (0 : Int64)), .second] [(.int (1 : Int32))]))
          refine own_go (fun _ k => XS.goto X106.here hx rfl (pc0 := 216) (pc' := 220) rfl (hb hby at_216) (by decide) (by decide) k) ?_
          show own_E _ _ _ _ _ _ _ (T106.setTop (mkF m 220 #[.val (.int p0), .val (.int p1), .val (.long v0), .second, .val (.long v1), .second, .val (.long v2), .second, .val (.long v3), .second, .val (.int (0 : Int32)), .val (.ref aa), .val (.int (1 : Int32)), .val (.ref r), .val (.ref ax), .val (.long (0 : Int64)), .second, .val (.long (0 : Int64)), .second] [(.int (1 : Int32))]))
          exact own_ret X106 hx Bd.returns Bd.notSynchronized rfl (Or.inl ⟨rfl, by simp, _, rfl⟩) (hb hby at_220) (by rw [e106]; exact ⟨rfl, M106⟩) (by decide) (by decide)
        ·
          rw [show own_r (2 : Int32) (0 : Int32) v0 v1 v2 v3 = (0 : Int64) from rfl]
          show own_E _ _ _ _ _ _ _ (T106.setTop (mkF m 127 #[.val (.int p0), .val (.int p1), .val (.long v0), .second, .val (.long v1), .second, .val (.long v2), .second, .val (.long v3), .second, .val (.int (0 : Int32)), .val (.ref aa), .val (.int (2 : Int32)), .val (.ref r), .val (.ref ax), .unset, .unset, .unset, .unset] [(.long (0 : Int64))]))
          refine own_go (fun _ k => XT.lstore X106.here hx rfl (hb hby at_127) rfl (l' := #[.val (.int p0), .val (.int p1), .val (.long v0), .second, .val (.long v1), .second, .val (.long v2), .second, .val (.long v3), .second, .val (.int (0 : Int32)), .val (.ref aa), .val (.int (2 : Int32)), .val (.ref r), .val (.ref ax), .val (.long (0 : Int64)), .second, .unset, .unset]) rfl k) ?_
          show own_E _ _ _ _ _ _ _ (T106.setTop (mkF m 129 #[.val (.int p0), .val (.int p1), .val (.long v0), .second, .val (.long v1), .second, .val (.long v2), .second, .val (.long v3), .second, .val (.int (0 : Int32)), .val (.ref aa), .val (.int (2 : Int32)), .val (.ref r), .val (.ref ax), .val (.long (0 : Int64)), .second, .unset, .unset] []))
          refine own_go (fun _ k => XS.iload X106.here hx rfl (hb hby at_129) rfl k) ?_
          show own_E _ _ _ _ _ _ _ (T106.setTop (mkF m 131 #[.val (.int p0), .val (.int p1), .val (.long v0), .second, .val (.long v1), .second, .val (.long v2), .second, .val (.long v3), .second, .val (.int (0 : Int32)), .val (.ref aa), .val (.int (2 : Int32)), .val (.ref r), .val (.ref ax), .val (.long (0 : Int64)), .second, .unset, .unset] [(.int (2 : Int32))]))
          refine own_go (fun _ k => XT.iconstV X106.here hx rfl (1 : Int32) (hb hby at_131) (by decide) k) ?_
          show own_E _ _ _ _ _ _ _ (T106.setTop (mkF m 132 #[.val (.int p0), .val (.int p1), .val (.long v0), .second, .val (.long v1), .second, .val (.long v2), .second, .val (.long v3), .second, .val (.int (0 : Int32)), .val (.ref aa), .val (.int (2 : Int32)), .val (.ref r), .val (.ref ax), .val (.long (0 : Int64)), .second, .unset, .unset] [(.int (1 : Int32)), (.int (2 : Int32))]))
          refine own_go (fun _ k => XS.icmpYes X106.here hx rfl (pc0 := 132) (pc' := 147) rfl (hb hby at_132) rfl (by decide) (by decide) (by decide) k) ?_
          show own_E _ _ _ _ _ _ _ (T106.setTop (mkF m 147 #[.val (.int p0), .val (.int p1), .val (.long v0), .second, .val (.long v1), .second, .val (.long v2), .second, .val (.long v3), .second, .val (.int (0 : Int32)), .val (.ref aa), .val (.int (2 : Int32)), .val (.ref r), .val (.ref ax), .val (.long (0 : Int64)), .second, .unset, .unset] []))
          refine own_go (fun _ k => XS.iload X106.here hx rfl (hb hby at_147) rfl k) ?_
          show own_E _ _ _ _ _ _ _ (T106.setTop (mkF m 149 #[.val (.int p0), .val (.int p1), .val (.long v0), .second, .val (.long v1), .second, .val (.long v2), .second, .val (.long v3), .second, .val (.int (0 : Int32)), .val (.ref aa), .val (.int (2 : Int32)), .val (.ref r), .val (.ref ax), .val (.long (0 : Int64)), .second, .unset, .unset] [(.int (2 : Int32))]))
          refine own_go (fun _ k => XT.iconstV X106.here hx rfl (2 : Int32) (hb hby at_149) (by decide) k) ?_
          show own_E _ _ _ _ _ _ _ (T106.setTop (mkF m 150 #[.val (.int p0), .val (.int p1), .val (.long v0), .second, .val (.long v1), .second, .val (.long v2), .second, .val (.long v3), .second, .val (.int (0 : Int32)), .val (.ref aa), .val (.int (2 : Int32)), .val (.ref r), .val (.ref ax), .val (.long (0 : Int64)), .second, .unset, .unset] [(.int (2 : Int32)), (.int (2 : Int32))]))
          refine own_go (fun _ k => XS.icmpNo X106.here hx rfl (hb hby at_150) rfl (by decide) k) ?_
          show own_E _ _ _ _ _ _ _ (T106.setTop (mkF m 153 #[.val (.int p0), .val (.int p1), .val (.long v0), .second, .val (.long v1), .second, .val (.long v2), .second, .val (.long v3), .second, .val (.int (0 : Int32)), .val (.ref aa), .val (.int (2 : Int32)), .val (.ref r), .val (.ref ax), .val (.long (0 : Int64)), .second, .unset, .unset] []))
          refine own_go (fun _ k => XS.iload X106.here hx rfl (hb hby at_153) rfl k) ?_
          show own_E _ _ _ _ _ _ _ (T106.setTop (mkF m 155 #[.val (.int p0), .val (.int p1), .val (.long v0), .second, .val (.long v1), .second, .val (.long v2), .second, .val (.long v3), .second, .val (.int (0 : Int32)), .val (.ref aa), .val (.int (2 : Int32)), .val (.ref r), .val (.ref ax), .val (.long (0 : Int64)), .second, .unset, .unset] [(.int (0 : Int32))]))
          refine own_go (fun _ k => XT.iconstV X106.here hx rfl (2 : Int32) (hb hby at_155) (by decide) k) ?_
          show own_E _ _ _ _ _ _ _ (T106.setTop (mkF m 156 #[.val (.int p0), .val (.int p1), .val (.long v0), .second, .val (.long v1), .second, .val (.long v2), .second, .val (.long v3), .second, .val (.int (0 : Int32)), .val (.ref aa), .val (.int (2 : Int32)), .val (.ref r), .val (.ref ax), .val (.long (0 : Int64)), .second, .unset, .unset] [(.int (2 : Int32)), (.int (0 : Int32))]))
          refine own_go (fun _ k => XS.icmpYes X106.here hx rfl (pc0 := 156) (pc' := 166) rfl (hb hby at_156) rfl (by decide) (by decide) (by decide) k) ?_
          show own_E _ _ _ _ _ _ _ (T106.setTop (mkF m 166 #[.val (.int p0), .val (.int p1), .val (.long v0), .second, .val (.long v1), .second, .val (.long v2), .second, .val (.long v3), .second, .val (.int (0 : Int32)), .val (.ref aa), .val (.int (2 : Int32)), .val (.ref r), .val (.ref ax), .val (.long (0 : Int64)), .second, .unset, .unset] []))
          refine own_go (fun _ k => XS.iload X106.here hx rfl (hb hby at_166) rfl k) ?_
          show own_E _ _ _ _ _ _ _ (T106.setTop (mkF m 168 #[.val (.int p0), .val (.int p1), .val (.long v0), .second, .val (.long v1), .second, .val (.long v2), .second, .val (.long v3), .second, .val (.int (0 : Int32)), .val (.ref aa), .val (.int (2 : Int32)), .val (.ref r), .val (.ref ax), .val (.long (0 : Int64)), .second, .unset, .unset] [(.int (2 : Int32))]))
          refine own_go (fun _ k => XT.iconstV X106.here hx rfl (3 : Int32) (hb hby at_168) (by decide) k) ?_
          show own_E _ _ _ _ _ _ _ (T106.setTop (mkF m 169 #[.val (.int p0), .val (.int p1), .val (.long v0), .second, .val (.long v1), .second, .val (.long v2), .second, .val (.long v3), .second, .val (.int (0 : Int32)), .val (.ref aa), .val (.int (2 : Int32)), .val (.ref r), .val (.ref ax), .val (.long (0 : Int64)), .second, .unset, .unset] [(.int (3 : Int32)), (.int (2 : Int32))]))
          refine own_go (fun _ k => XS.icmpYes X106.here hx rfl (pc0 := 169) (pc' := 185) rfl (hb hby at_169) rfl (by decide) (by decide) (by decide) k) ?_
          show own_E _ _ _ _ _ _ _ (T106.setTop (mkF m 185 #[.val (.int p0), .val (.int p1), .val (.long v0), .second, .val (.long v1), .second, .val (.long v2), .second, .val (.long v3), .second, .val (.int (0 : Int32)), .val (.ref aa), .val (.int (2 : Int32)), .val (.ref r), .val (.ref ax), .val (.long (0 : Int64)), .second, .unset, .unset] []))
          refine own_go (fun _ k => XS.iload X106.here hx rfl (hb hby at_185) rfl k) ?_
          show own_E _ _ _ _ _ _ _ (T106.setTop (mkF m 187 #[.val (.int p0), .val (.int p1), .val (.long v0), .second, .val (.long v1), .second, .val (.long v2), .second, .val (.long v3), .second, .val (.int (0 : Int32)), .val (.ref aa), .val (.int (2 : Int32)), .val (.ref r), .val (.ref ax), .val (.long (0 : Int64)), .second, .unset, .unset] [(.int (2 : Int32))]))
          refine own_go (fun _ k => XT.iconstV X106.here hx rfl (4 : Int32) (hb hby at_187) (by decide) k) ?_
          show own_E _ _ _ _ _ _ _ (T106.setTop (mkF m 188 #[.val (.int p0), .val (.int p1), .val (.long v0), .second, .val (.long v1), .second, .val (.long v2), .second, .val (.long v3), .second, .val (.int (0 : Int32)), .val (.ref aa), .val (.int (2 : Int32)), .val (.ref r), .val (.ref ax), .val (.long (0 : Int64)), .second, .unset, .unset] [(.int (4 : Int32)), (.int (2 : Int32))]))
          refine own_go (fun _ k => XS.icmpYes X106.here hx rfl (pc0 := 188) (pc' := 204) rfl (hb hby at_188) rfl (by decide) (by decide) (by decide) k) ?_
          show own_E _ _ _ _ _ _ _ (T106.setTop (mkF m 204 #[.val (.int p0), .val (.int p1), .val (.long v0), .second, .val (.long v1), .second, .val (.long v2), .second, .val (.long v3), .second, .val (.int (0 : Int32)), .val (.ref aa), .val (.int (2 : Int32)), .val (.ref r), .val (.ref ax), .val (.long (0 : Int64)), .second, .unset, .unset] []))
          refine own_go (fun _ k => XT.lconstV X106.here hx rfl (0 : Int64) (hb hby at_204) (by decide) k) ?_
          show own_E _ _ _ _ _ _ _ (T106.setTop (mkF m 205 #[.val (.int p0), .val (.int p1), .val (.long v0), .second, .val (.long v1), .second, .val (.long v2), .second, .val (.long v3), .second, .val (.int (0 : Int32)), .val (.ref aa), .val (.int (2 : Int32)), .val (.ref r), .val (.ref ax), .val (.long (0 : Int64)), .second, .unset, .unset] [(.long (0 : Int64))]))
          refine own_go (fun _ k => XT.lstore X106.here hx rfl (hb hby at_205) rfl (l' := #[.val (.int p0), .val (.int p1), .val (.long v0), .second, .val (.long v1), .second, .val (.long v2), .second, .val (.long v3), .second, .val (.int (0 : Int32)), .val (.ref aa), .val (.int (2 : Int32)), .val (.ref r), .val (.ref ax), .val (.long (0 : Int64)), .second, .val (.long (0 : Int64)), .second]) rfl k) ?_
          show own_E _ _ _ _ _ _ _ (T106.setTop (mkF m 207 #[.val (.int p0), .val (.int p1), .val (.long v0), .second, .val (.long v1), .second, .val (.long v2), .second, .val (.long v3), .second, .val (.int (0 : Int32)), .val (.ref aa), .val (.int (2 : Int32)), .val (.ref r), .val (.ref ax), .val (.long (0 : Int64)), .second, .val (.long (0 : Int64)), .second] []))
          refine own_go (fun _ k => XT.lload X106.here hx rfl (hb hby at_207) rfl k) ?_
          show own_E _ _ _ _ _ _ _ (T106.setTop (mkF m 209 #[.val (.int p0), .val (.int p1), .val (.long v0), .second, .val (.long v1), .second, .val (.long v2), .second, .val (.long v3), .second, .val (.int (0 : Int32)), .val (.ref aa), .val (.int (2 : Int32)), .val (.ref r), .val (.ref ax), .val (.long (0 : Int64)), .second, .val (.long (0 : Int64)), .second] [(.long (0 : Int64))]))
          refine own_go (fun _ k => XT.lload X106.here hx rfl (hb hby at_209) rfl k) ?_
          show own_E _ _ _ _ _ _ _ (T106.setTop (mkF m 211 #[.val (.int p0), .val (.int p1), .val (.long v0), .second, .val (.long v1), .second, .val (.long v2), .second, .val (.long v3), .second, .val (.int (0 : Int32)), .val (.ref aa), .val (.int (2 : Int32)), .val (.ref r), .val (.ref ax), .val (.long (0 : Int64)), .second, .val (.long (0 : Int64)), .second] [(.long (0 : Int64)), (.long (0 : Int64))]))
          refine own_go (fun _ k => XT.lcmp X106.here hx rfl (hb hby at_211) rfl k) ?_
          show own_E _ _ _ _ _ _ _ (T106.setTop (mkF m 212 #[.val (.int p0), .val (.int p1), .val (.long v0), .second, .val (.long v1), .second, .val (.long v2), .second, .val (.long v3), .second, .val (.int (0 : Int32)), .val (.ref aa), .val (.int (2 : Int32)), .val (.ref r), .val (.ref ax), .val (.long (0 : Int64)), .second, .val (.long (0 : Int64)), .second] [(.int (XT.cmpL (0 : Int64) (0 : Int64)))]))
          refine own_go (fun _ k => XS.ifNo X106.here hx rfl (hb hby at_212) rfl (XT.ll_ne_f rfl) k) ?_
          show own_E _ _ _ _ _ _ _ (T106.setTop (mkF m 215 #[.val (.int p0), .val (.int p1), .val (.long v0), .second, .val (.long v1), .second, .val (.long v2), .second, .val (.long v3), .second, .val (.int (0 : Int32)), .val (.ref aa), .val (.int (2 : Int32)), .val (.ref r), .val (.ref ax), .val (.long (0 : Int64)), .second, .val (.long (0 : Int64)), .second] []))
          refine own_go (fun _ k => XT.iconstV X106.here hx rfl (1 : Int32) (hb hby at_215) (by decide) k) ?_
          show own_E _ _ _ _ _ _ _ (T106.setTop (mkF m 216 #[.val (.int p0), .val (.int p1), .val (.long v0), .second, .val (.long v1), .second, .val (.long v2), .second, .val (.long v3), .second, .val (.int (0 : Int32)), .val (.ref aa), .val (.int (2 : Int32)), .val (.ref r), .val (.ref ax), .val (.long (0 : Int64)), .second, .val (.long (0 : Int64)), .second] [(.int (1 : Int32))]))
          refine own_go (fun _ k => XS.goto X106.here hx rfl (pc0 := 216) (pc' := 220) rfl (hb hby at_216) (by decide) (by decide) k) ?_
          show own_E _ _ _ _ _ _ _ (T106.setTop (mkF m 220 #[.val (.int p0), .val (.int p1), .val (.long v0), .second, .val (.long v1), .second, .val (.long v2), .second, .val (.long v3), .second, .val (.int (0 : Int32)), .val (.ref aa), .val (.int (2 : Int32)), .val (.ref r), .val (.ref ax), .val (.long (0 : Int64)), .second, .val (.long (0 : Int64)), .second] [(.int (1 : Int32))]))
          exact own_ret X106 hx Bd.returns Bd.notSynchronized rfl (Or.inl ⟨rfl, by simp, _, rfl⟩) (hb hby at_220) (by rw [e106]; exact ⟨rfl, M106⟩) (by decide) (by decide)
        ·
          rw [show own_r (3 : Int32) (0 : Int32) v0 v1 v2 v3 = (0 : Int64) from rfl]
          show own_E _ _ _ _ _ _ _ (T106.setTop (mkF m 127 #[.val (.int p0), .val (.int p1), .val (.long v0), .second, .val (.long v1), .second, .val (.long v2), .second, .val (.long v3), .second, .val (.int (0 : Int32)), .val (.ref aa), .val (.int (3 : Int32)), .val (.ref r), .val (.ref ax), .unset, .unset, .unset, .unset] [(.long (0 : Int64))]))
          refine own_go (fun _ k => XT.lstore X106.here hx rfl (hb hby at_127) rfl (l' := #[.val (.int p0), .val (.int p1), .val (.long v0), .second, .val (.long v1), .second, .val (.long v2), .second, .val (.long v3), .second, .val (.int (0 : Int32)), .val (.ref aa), .val (.int (3 : Int32)), .val (.ref r), .val (.ref ax), .val (.long (0 : Int64)), .second, .unset, .unset]) rfl k) ?_
          show own_E _ _ _ _ _ _ _ (T106.setTop (mkF m 129 #[.val (.int p0), .val (.int p1), .val (.long v0), .second, .val (.long v1), .second, .val (.long v2), .second, .val (.long v3), .second, .val (.int (0 : Int32)), .val (.ref aa), .val (.int (3 : Int32)), .val (.ref r), .val (.ref ax), .val (.long (0 : Int64)), .second, .unset, .unset] []))
          refine own_go (fun _ k => XS.iload X106.here hx rfl (hb hby at_129) rfl k) ?_
          show own_E _ _ _ _ _ _ _ (T106.setTop (mkF m 131 #[.val (.int p0), .val (.int p1), .val (.long v0), .second, .val (.long v1), .second, .val (.long v2), .second, .val (.long v3), .second, .val (.int (0 : Int32)), .val (.ref aa), .val (.int (3 : Int32)), .val (.ref r), .val (.ref ax), .val (.long (0 : Int64)), .second, .unset, .unset] [(.int (3 : Int32))]))
          refine own_go (fun _ k => XT.iconstV X106.here hx rfl (1 : Int32) (hb hby at_131) (by decide) k) ?_
          show own_E _ _ _ _ _ _ _ (T106.setTop (mkF m 132 #[.val (.int p0), .val (.int p1), .val (.long v0), .second, .val (.long v1), .second, .val (.long v2), .second, .val (.long v3), .second, .val (.int (0 : Int32)), .val (.ref aa), .val (.int (3 : Int32)), .val (.ref r), .val (.ref ax), .val (.long (0 : Int64)), .second, .unset, .unset] [(.int (1 : Int32)), (.int (3 : Int32))]))
          refine own_go (fun _ k => XS.icmpYes X106.here hx rfl (pc0 := 132) (pc' := 147) rfl (hb hby at_132) rfl (by decide) (by decide) (by decide) k) ?_
          show own_E _ _ _ _ _ _ _ (T106.setTop (mkF m 147 #[.val (.int p0), .val (.int p1), .val (.long v0), .second, .val (.long v1), .second, .val (.long v2), .second, .val (.long v3), .second, .val (.int (0 : Int32)), .val (.ref aa), .val (.int (3 : Int32)), .val (.ref r), .val (.ref ax), .val (.long (0 : Int64)), .second, .unset, .unset] []))
          refine own_go (fun _ k => XS.iload X106.here hx rfl (hb hby at_147) rfl k) ?_
          show own_E _ _ _ _ _ _ _ (T106.setTop (mkF m 149 #[.val (.int p0), .val (.int p1), .val (.long v0), .second, .val (.long v1), .second, .val (.long v2), .second, .val (.long v3), .second, .val (.int (0 : Int32)), .val (.ref aa), .val (.int (3 : Int32)), .val (.ref r), .val (.ref ax), .val (.long (0 : Int64)), .second, .unset, .unset] [(.int (3 : Int32))]))
          refine own_go (fun _ k => XT.iconstV X106.here hx rfl (2 : Int32) (hb hby at_149) (by decide) k) ?_
          show own_E _ _ _ _ _ _ _ (T106.setTop (mkF m 150 #[.val (.int p0), .val (.int p1), .val (.long v0), .second, .val (.long v1), .second, .val (.long v2), .second, .val (.long v3), .second, .val (.int (0 : Int32)), .val (.ref aa), .val (.int (3 : Int32)), .val (.ref r), .val (.ref ax), .val (.long (0 : Int64)), .second, .unset, .unset] [(.int (2 : Int32)), (.int (3 : Int32))]))
          refine own_go (fun _ k => XS.icmpYes X106.here hx rfl (pc0 := 150) (pc' := 166) rfl (hb hby at_150) rfl (by decide) (by decide) (by decide) k) ?_
          show own_E _ _ _ _ _ _ _ (T106.setTop (mkF m 166 #[.val (.int p0), .val (.int p1), .val (.long v0), .second, .val (.long v1), .second, .val (.long v2), .second, .val (.long v3), .second, .val (.int (0 : Int32)), .val (.ref aa), .val (.int (3 : Int32)), .val (.ref r), .val (.ref ax), .val (.long (0 : Int64)), .second, .unset, .unset] []))
          refine own_go (fun _ k => XS.iload X106.here hx rfl (hb hby at_166) rfl k) ?_
          show own_E _ _ _ _ _ _ _ (T106.setTop (mkF m 168 #[.val (.int p0), .val (.int p1), .val (.long v0), .second, .val (.long v1), .second, .val (.long v2), .second, .val (.long v3), .second, .val (.int (0 : Int32)), .val (.ref aa), .val (.int (3 : Int32)), .val (.ref r), .val (.ref ax), .val (.long (0 : Int64)), .second, .unset, .unset] [(.int (3 : Int32))]))
          refine own_go (fun _ k => XT.iconstV X106.here hx rfl (3 : Int32) (hb hby at_168) (by decide) k) ?_
          show own_E _ _ _ _ _ _ _ (T106.setTop (mkF m 169 #[.val (.int p0), .val (.int p1), .val (.long v0), .second, .val (.long v1), .second, .val (.long v2), .second, .val (.long v3), .second, .val (.int (0 : Int32)), .val (.ref aa), .val (.int (3 : Int32)), .val (.ref r), .val (.ref ax), .val (.long (0 : Int64)), .second, .unset, .unset] [(.int (3 : Int32)), (.int (3 : Int32))]))
          refine own_go (fun _ k => XS.icmpNo X106.here hx rfl (hb hby at_169) rfl (by decide) k) ?_
          show own_E _ _ _ _ _ _ _ (T106.setTop (mkF m 172 #[.val (.int p0), .val (.int p1), .val (.long v0), .second, .val (.long v1), .second, .val (.long v2), .second, .val (.long v3), .second, .val (.int (0 : Int32)), .val (.ref aa), .val (.int (3 : Int32)), .val (.ref r), .val (.ref ax), .val (.long (0 : Int64)), .second, .unset, .unset] []))
          refine own_go (fun _ k => XS.iload X106.here hx rfl (hb hby at_172) rfl k) ?_
          show own_E _ _ _ _ _ _ _ (T106.setTop (mkF m 174 #[.val (.int p0), .val (.int p1), .val (.long v0), .second, .val (.long v1), .second, .val (.long v2), .second, .val (.long v3), .second, .val (.int (0 : Int32)), .val (.ref aa), .val (.int (3 : Int32)), .val (.ref r), .val (.ref ax), .val (.long (0 : Int64)), .second, .unset, .unset] [(.int (0 : Int32))]))
          refine own_go (fun _ k => XT.iconstV X106.here hx rfl (3 : Int32) (hb hby at_174) (by decide) k) ?_
          show own_E _ _ _ _ _ _ _ (T106.setTop (mkF m 175 #[.val (.int p0), .val (.int p1), .val (.long v0), .second, .val (.long v1), .second, .val (.long v2), .second, .val (.long v3), .second, .val (.int (0 : Int32)), .val (.ref aa), .val (.int (3 : Int32)), .val (.ref r), .val (.ref ax), .val (.long (0 : Int64)), .second, .unset, .unset] [(.int (3 : Int32)), (.int (0 : Int32))]))
          refine own_go (fun _ k => XS.icmpYes X106.here hx rfl (pc0 := 175) (pc' := 185) rfl (hb hby at_175) rfl (by decide) (by decide) (by decide) k) ?_
          show own_E _ _ _ _ _ _ _ (T106.setTop (mkF m 185 #[.val (.int p0), .val (.int p1), .val (.long v0), .second, .val (.long v1), .second, .val (.long v2), .second, .val (.long v3), .second, .val (.int (0 : Int32)), .val (.ref aa), .val (.int (3 : Int32)), .val (.ref r), .val (.ref ax), .val (.long (0 : Int64)), .second, .unset, .unset] []))
          refine own_go (fun _ k => XS.iload X106.here hx rfl (hb hby at_185) rfl k) ?_
          show own_E _ _ _ _ _ _ _ (T106.setTop (mkF m 187 #[.val (.int p0), .val (.int p1), .val (.long v0), .second, .val (.long v1), .second, .val (.long v2), .second, .val (.long v3), .second, .val (.int (0 : Int32)), .val (.ref aa), .val (.int (3 : Int32)), .val (.ref r), .val (.ref ax), .val (.long (0 : Int64)), .second, .unset, .unset] [(.int (3 : Int32))]))
          refine own_go (fun _ k => XT.iconstV X106.here hx rfl (4 : Int32) (hb hby at_187) (by decide) k) ?_
          show own_E _ _ _ _ _ _ _ (T106.setTop (mkF m 188 #[.val (.int p0), .val (.int p1), .val (.long v0), .second, .val (.long v1), .second, .val (.long v2), .second, .val (.long v3), .second, .val (.int (0 : Int32)), .val (.ref aa), .val (.int (3 : Int32)), .val (.ref r), .val (.ref ax), .val (.long (0 : Int64)), .second, .unset, .unset] [(.int (4 : Int32)), (.int (3 : Int32))]))
          refine own_go (fun _ k => XS.icmpYes X106.here hx rfl (pc0 := 188) (pc' := 204) rfl (hb hby at_188) rfl (by decide) (by decide) (by decide) k) ?_
          show own_E _ _ _ _ _ _ _ (T106.setTop (mkF m 204 #[.val (.int p0), .val (.int p1), .val (.long v0), .second, .val (.long v1), .second, .val (.long v2), .second, .val (.long v3), .second, .val (.int (0 : Int32)), .val (.ref aa), .val (.int (3 : Int32)), .val (.ref r), .val (.ref ax), .val (.long (0 : Int64)), .second, .unset, .unset] []))
          refine own_go (fun _ k => XT.lconstV X106.here hx rfl (0 : Int64) (hb hby at_204) (by decide) k) ?_
          show own_E _ _ _ _ _ _ _ (T106.setTop (mkF m 205 #[.val (.int p0), .val (.int p1), .val (.long v0), .second, .val (.long v1), .second, .val (.long v2), .second, .val (.long v3), .second, .val (.int (0 : Int32)), .val (.ref aa), .val (.int (3 : Int32)), .val (.ref r), .val (.ref ax), .val (.long (0 : Int64)), .second, .unset, .unset] [(.long (0 : Int64))]))
          refine own_go (fun _ k => XT.lstore X106.here hx rfl (hb hby at_205) rfl (l' := #[.val (.int p0), .val (.int p1), .val (.long v0), .second, .val (.long v1), .second, .val (.long v2), .second, .val (.long v3), .second, .val (.int (0 : Int32)), .val (.ref aa), .val (.int (3 : Int32)), .val (.ref r), .val (.ref ax), .val (.long (0 : Int64)), .second, .val (.long (0 : Int64)), .second]) rfl k) ?_
          show own_E _ _ _ _ _ _ _ (T106.setTop (mkF m 207 #[.val (.int p0), .val (.int p1), .val (.long v0), .second, .val (.long v1), .second, .val (.long v2), .second, .val (.long v3), .second, .val (.int (0 : Int32)), .val (.ref aa), .val (.int (3 : Int32)), .val (.ref r), .val (.ref ax), .val (.long (0 : Int64)), .second, .val (.long (0 : Int64)), .second] []))
          refine own_go (fun _ k => XT.lload X106.here hx rfl (hb hby at_207) rfl k) ?_
          show own_E _ _ _ _ _ _ _ (T106.setTop (mkF m 209 #[.val (.int p0), .val (.int p1), .val (.long v0), .second, .val (.long v1), .second, .val (.long v2), .second, .val (.long v3), .second, .val (.int (0 : Int32)), .val (.ref aa), .val (.int (3 : Int32)), .val (.ref r), .val (.ref ax), .val (.long (0 : Int64)), .second, .val (.long (0 : Int64)), .second] [(.long (0 : Int64))]))
          refine own_go (fun _ k => XT.lload X106.here hx rfl (hb hby at_209) rfl k) ?_
          show own_E _ _ _ _ _ _ _ (T106.setTop (mkF m 211 #[.val (.int p0), .val (.int p1), .val (.long v0), .second, .val (.long v1), .second, .val (.long v2), .second, .val (.long v3), .second, .val (.int (0 : Int32)), .val (.ref aa), .val (.int (3 : Int32)), .val (.ref r), .val (.ref ax), .val (.long (0 : Int64)), .second, .val (.long (0 : Int64)), .second] [(.long (0 : Int64)), (.long (0 : Int64))]))
          refine own_go (fun _ k => XT.lcmp X106.here hx rfl (hb hby at_211) rfl k) ?_
          show own_E _ _ _ _ _ _ _ (T106.setTop (mkF m 212 #[.val (.int p0), .val (.int p1), .val (.long v0), .second, .val (.long v1), .second, .val (.long v2), .second, .val (.long v3), .second, .val (.int (0 : Int32)), .val (.ref aa), .val (.int (3 : Int32)), .val (.ref r), .val (.ref ax), .val (.long (0 : Int64)), .second, .val (.long (0 : Int64)), .second] [(.int (XT.cmpL (0 : Int64) (0 : Int64)))]))
          refine own_go (fun _ k => XS.ifNo X106.here hx rfl (hb hby at_212) rfl (XT.ll_ne_f rfl) k) ?_
          show own_E _ _ _ _ _ _ _ (T106.setTop (mkF m 215 #[.val (.int p0), .val (.int p1), .val (.long v0), .second, .val (.long v1), .second, .val (.long v2), .second, .val (.long v3), .second, .val (.int (0 : Int32)), .val (.ref aa), .val (.int (3 : Int32)), .val (.ref r), .val (.ref ax), .val (.long (0 : Int64)), .second, .val (.long (0 : Int64)), .second] []))
          refine own_go (fun _ k => XT.iconstV X106.here hx rfl (1 : Int32) (hb hby at_215) (by decide) k) ?_
          show own_E _ _ _ _ _ _ _ (T106.setTop (mkF m 216 #[.val (.int p0), .val (.int p1), .val (.long v0), .second, .val (.long v1), .second, .val (.long v2), .second, .val (.long v3), .second, .val (.int (0 : Int32)), .val (.ref aa), .val (.int (3 : Int32)), .val (.ref r), .val (.ref ax), .val (.long (0 : Int64)), .second, .val (.long (0 : Int64)), .second] [(.int (1 : Int32))]))
          refine own_go (fun _ k => XS.goto X106.here hx rfl (pc0 := 216) (pc' := 220) rfl (hb hby at_216) (by decide) (by decide) k) ?_
          show own_E _ _ _ _ _ _ _ (T106.setTop (mkF m 220 #[.val (.int p0), .val (.int p1), .val (.long v0), .second, .val (.long v1), .second, .val (.long v2), .second, .val (.long v3), .second, .val (.int (0 : Int32)), .val (.ref aa), .val (.int (3 : Int32)), .val (.ref r), .val (.ref ax), .val (.long (0 : Int64)), .second, .val (.long (0 : Int64)), .second] [(.int (1 : Int32))]))
          exact own_ret X106 hx Bd.returns Bd.notSynchronized rfl (Or.inl ⟨rfl, by simp, _, rfl⟩) (hb hby at_220) (by rw [e106]; exact ⟨rfl, M106⟩) (by decide) (by decide)
        ·
          rw [show own_r (4 : Int32) (0 : Int32) v0 v1 v2 v3 = (0 : Int64) from rfl]
          show own_E _ _ _ _ _ _ _ (T106.setTop (mkF m 127 #[.val (.int p0), .val (.int p1), .val (.long v0), .second, .val (.long v1), .second, .val (.long v2), .second, .val (.long v3), .second, .val (.int (0 : Int32)), .val (.ref aa), .val (.int (4 : Int32)), .val (.ref r), .val (.ref ax), .unset, .unset, .unset, .unset] [(.long (0 : Int64))]))
          refine own_go (fun _ k => XT.lstore X106.here hx rfl (hb hby at_127) rfl (l' := #[.val (.int p0), .val (.int p1), .val (.long v0), .second, .val (.long v1), .second, .val (.long v2), .second, .val (.long v3), .second, .val (.int (0 : Int32)), .val (.ref aa), .val (.int (4 : Int32)), .val (.ref r), .val (.ref ax), .val (.long (0 : Int64)), .second, .unset, .unset]) rfl k) ?_
          show own_E _ _ _ _ _ _ _ (T106.setTop (mkF m 129 #[.val (.int p0), .val (.int p1), .val (.long v0), .second, .val (.long v1), .second, .val (.long v2), .second, .val (.long v3), .second, .val (.int (0 : Int32)), .val (.ref aa), .val (.int (4 : Int32)), .val (.ref r), .val (.ref ax), .val (.long (0 : Int64)), .second, .unset, .unset] []))
          refine own_go (fun _ k => XS.iload X106.here hx rfl (hb hby at_129) rfl k) ?_
          show own_E _ _ _ _ _ _ _ (T106.setTop (mkF m 131 #[.val (.int p0), .val (.int p1), .val (.long v0), .second, .val (.long v1), .second, .val (.long v2), .second, .val (.long v3), .second, .val (.int (0 : Int32)), .val (.ref aa), .val (.int (4 : Int32)), .val (.ref r), .val (.ref ax), .val (.long (0 : Int64)), .second, .unset, .unset] [(.int (4 : Int32))]))
          refine own_go (fun _ k => XT.iconstV X106.here hx rfl (1 : Int32) (hb hby at_131) (by decide) k) ?_
          show own_E _ _ _ _ _ _ _ (T106.setTop (mkF m 132 #[.val (.int p0), .val (.int p1), .val (.long v0), .second, .val (.long v1), .second, .val (.long v2), .second, .val (.long v3), .second, .val (.int (0 : Int32)), .val (.ref aa), .val (.int (4 : Int32)), .val (.ref r), .val (.ref ax), .val (.long (0 : Int64)), .second, .unset, .unset] [(.int (1 : Int32)), (.int (4 : Int32))]))
          refine own_go (fun _ k => XS.icmpYes X106.here hx rfl (pc0 := 132) (pc' := 147) rfl (hb hby at_132) rfl (by decide) (by decide) (by decide) k) ?_
          show own_E _ _ _ _ _ _ _ (T106.setTop (mkF m 147 #[.val (.int p0), .val (.int p1), .val (.long v0), .second, .val (.long v1), .second, .val (.long v2), .second, .val (.long v3), .second, .val (.int (0 : Int32)), .val (.ref aa), .val (.int (4 : Int32)), .val (.ref r), .val (.ref ax), .val (.long (0 : Int64)), .second, .unset, .unset] []))
          refine own_go (fun _ k => XS.iload X106.here hx rfl (hb hby at_147) rfl k) ?_
          show own_E _ _ _ _ _ _ _ (T106.setTop (mkF m 149 #[.val (.int p0), .val (.int p1), .val (.long v0), .second, .val (.long v1), .second, .val (.long v2), .second, .val (.long v3), .second, .val (.int (0 : Int32)), .val (.ref aa), .val (.int (4 : Int32)), .val (.ref r), .val (.ref ax), .val (.long (0 : Int64)), .second, .unset, .unset] [(.int (4 : Int32))]))
          refine own_go (fun _ k => XT.iconstV X106.here hx rfl (2 : Int32) (hb hby at_149) (by decide) k) ?_
          show own_E _ _ _ _ _ _ _ (T106.setTop (mkF m 150 #[.val (.int p0), .val (.int p1), .val (.long v0), .second, .val (.long v1), .second, .val (.long v2), .second, .val (.long v3), .second, .val (.int (0 : Int32)), .val (.ref aa), .val (.int (4 : Int32)), .val (.ref r), .val (.ref ax), .val (.long (0 : Int64)), .second, .unset, .unset] [(.int (2 : Int32)), (.int (4 : Int32))]))
          refine own_go (fun _ k => XS.icmpYes X106.here hx rfl (pc0 := 150) (pc' := 166) rfl (hb hby at_150) rfl (by decide) (by decide) (by decide) k) ?_
          show own_E _ _ _ _ _ _ _ (T106.setTop (mkF m 166 #[.val (.int p0), .val (.int p1), .val (.long v0), .second, .val (.long v1), .second, .val (.long v2), .second, .val (.long v3), .second, .val (.int (0 : Int32)), .val (.ref aa), .val (.int (4 : Int32)), .val (.ref r), .val (.ref ax), .val (.long (0 : Int64)), .second, .unset, .unset] []))
          refine own_go (fun _ k => XS.iload X106.here hx rfl (hb hby at_166) rfl k) ?_
          show own_E _ _ _ _ _ _ _ (T106.setTop (mkF m 168 #[.val (.int p0), .val (.int p1), .val (.long v0), .second, .val (.long v1), .second, .val (.long v2), .second, .val (.long v3), .second, .val (.int (0 : Int32)), .val (.ref aa), .val (.int (4 : Int32)), .val (.ref r), .val (.ref ax), .val (.long (0 : Int64)), .second, .unset, .unset] [(.int (4 : Int32))]))
          refine own_go (fun _ k => XT.iconstV X106.here hx rfl (3 : Int32) (hb hby at_168) (by decide) k) ?_
          show own_E _ _ _ _ _ _ _ (T106.setTop (mkF m 169 #[.val (.int p0), .val (.int p1), .val (.long v0), .second, .val (.long v1), .second, .val (.long v2), .second, .val (.long v3), .second, .val (.int (0 : Int32)), .val (.ref aa), .val (.int (4 : Int32)), .val (.ref r), .val (.ref ax), .val (.long (0 : Int64)), .second, .unset, .unset] [(.int (3 : Int32)), (.int (4 : Int32))]))
          refine own_go (fun _ k => XS.icmpYes X106.here hx rfl (pc0 := 169) (pc' := 185) rfl (hb hby at_169) rfl (by decide) (by decide) (by decide) k) ?_
          show own_E _ _ _ _ _ _ _ (T106.setTop (mkF m 185 #[.val (.int p0), .val (.int p1), .val (.long v0), .second, .val (.long v1), .second, .val (.long v2), .second, .val (.long v3), .second, .val (.int (0 : Int32)), .val (.ref aa), .val (.int (4 : Int32)), .val (.ref r), .val (.ref ax), .val (.long (0 : Int64)), .second, .unset, .unset] []))
          refine own_go (fun _ k => XS.iload X106.here hx rfl (hb hby at_185) rfl k) ?_
          show own_E _ _ _ _ _ _ _ (T106.setTop (mkF m 187 #[.val (.int p0), .val (.int p1), .val (.long v0), .second, .val (.long v1), .second, .val (.long v2), .second, .val (.long v3), .second, .val (.int (0 : Int32)), .val (.ref aa), .val (.int (4 : Int32)), .val (.ref r), .val (.ref ax), .val (.long (0 : Int64)), .second, .unset, .unset] [(.int (4 : Int32))]))
          refine own_go (fun _ k => XT.iconstV X106.here hx rfl (4 : Int32) (hb hby at_187) (by decide) k) ?_
          show own_E _ _ _ _ _ _ _ (T106.setTop (mkF m 188 #[.val (.int p0), .val (.int p1), .val (.long v0), .second, .val (.long v1), .second, .val (.long v2), .second, .val (.long v3), .second, .val (.int (0 : Int32)), .val (.ref aa), .val (.int (4 : Int32)), .val (.ref r), .val (.ref ax), .val (.long (0 : Int64)), .second, .unset, .unset] [(.int (4 : Int32)), (.int (4 : Int32))]))
          refine own_go (fun _ k => XS.icmpNo X106.here hx rfl (hb hby at_188) rfl (by decide) k) ?_
          show own_E _ _ _ _ _ _ _ (T106.setTop (mkF m 191 #[.val (.int p0), .val (.int p1), .val (.long v0), .second, .val (.long v1), .second, .val (.long v2), .second, .val (.long v3), .second, .val (.int (0 : Int32)), .val (.ref aa), .val (.int (4 : Int32)), .val (.ref r), .val (.ref ax), .val (.long (0 : Int64)), .second, .unset, .unset] []))
          refine own_go (fun _ k => XS.iload X106.here hx rfl (hb hby at_191) rfl k) ?_
          show own_E _ _ _ _ _ _ _ (T106.setTop (mkF m 193 #[.val (.int p0), .val (.int p1), .val (.long v0), .second, .val (.long v1), .second, .val (.long v2), .second, .val (.long v3), .second, .val (.int (0 : Int32)), .val (.ref aa), .val (.int (4 : Int32)), .val (.ref r), .val (.ref ax), .val (.long (0 : Int64)), .second, .unset, .unset] [(.int (0 : Int32))]))
          refine own_go (fun _ k => XT.iconstV X106.here hx rfl (4 : Int32) (hb hby at_193) (by decide) k) ?_
          show own_E _ _ _ _ _ _ _ (T106.setTop (mkF m 194 #[.val (.int p0), .val (.int p1), .val (.long v0), .second, .val (.long v1), .second, .val (.long v2), .second, .val (.long v3), .second, .val (.int (0 : Int32)), .val (.ref aa), .val (.int (4 : Int32)), .val (.ref r), .val (.ref ax), .val (.long (0 : Int64)), .second, .unset, .unset] [(.int (4 : Int32)), (.int (0 : Int32))]))
          refine own_go (fun _ k => XS.icmpYes X106.here hx rfl (pc0 := 194) (pc' := 204) rfl (hb hby at_194) rfl (by decide) (by decide) (by decide) k) ?_
          show own_E _ _ _ _ _ _ _ (T106.setTop (mkF m 204 #[.val (.int p0), .val (.int p1), .val (.long v0), .second, .val (.long v1), .second, .val (.long v2), .second, .val (.long v3), .second, .val (.int (0 : Int32)), .val (.ref aa), .val (.int (4 : Int32)), .val (.ref r), .val (.ref ax), .val (.long (0 : Int64)), .second, .unset, .unset] []))
          refine own_go (fun _ k => XT.lconstV X106.here hx rfl (0 : Int64) (hb hby at_204) (by decide) k) ?_
          show own_E _ _ _ _ _ _ _ (T106.setTop (mkF m 205 #[.val (.int p0), .val (.int p1), .val (.long v0), .second, .val (.long v1), .second, .val (.long v2), .second, .val (.long v3), .second, .val (.int (0 : Int32)), .val (.ref aa), .val (.int (4 : Int32)), .val (.ref r), .val (.ref ax), .val (.long (0 : Int64)), .second, .unset, .unset] [(.long (0 : Int64))]))
          refine own_go (fun _ k => XT.lstore X106.here hx rfl (hb hby at_205) rfl (l' := #[.val (.int p0), .val (.int p1), .val (.long v0), .second, .val (.long v1), .second, .val (.long v2), .second, .val (.long v3), .second, .val (.int (0 : Int32)), .val (.ref aa), .val (.int (4 : Int32)), .val (.ref r), .val (.ref ax), .val (.long (0 : Int64)), .second, .val (.long (0 : Int64)), .second]) rfl k) ?_
          show own_E _ _ _ _ _ _ _ (T106.setTop (mkF m 207 #[.val (.int p0), .val (.int p1), .val (.long v0), .second, .val (.long v1), .second, .val (.long v2), .second, .val (.long v3), .second, .val (.int (0 : Int32)), .val (.ref aa), .val (.int (4 : Int32)), .val (.ref r), .val (.ref ax), .val (.long (0 : Int64)), .second, .val (.long (0 : Int64)), .second] []))
          refine own_go (fun _ k => XT.lload X106.here hx rfl (hb hby at_207) rfl k) ?_
          show own_E _ _ _ _ _ _ _ (T106.setTop (mkF m 209 #[.val (.int p0), .val (.int p1), .val (.long v0), .second, .val (.long v1), .second, .val (.long v2), .second, .val (.long v3), .second, .val (.int (0 : Int32)), .val (.ref aa), .val (.int (4 : Int32)), .val (.ref r), .val (.ref ax), .val (.long (0 : Int64)), .second, .val (.long (0 : Int64)), .second] [(.long (0 : Int64))]))
          refine own_go (fun _ k => XT.lload X106.here hx rfl (hb hby at_209) rfl k) ?_
          show own_E _ _ _ _ _ _ _ (T106.setTop (mkF m 211 #[.val (.int p0), .val (.int p1), .val (.long v0), .second, .val (.long v1), .second, .val (.long v2), .second, .val (.long v3), .second, .val (.int (0 : Int32)), .val (.ref aa), .val (.int (4 : Int32)), .val (.ref r), .val (.ref ax), .val (.long (0 : Int64)), .second, .val (.long (0 : Int64)), .second] [(.long (0 : Int64)), (.long (0 : Int64))]))
          refine own_go (fun _ k => XT.lcmp X106.here hx rfl (hb hby at_211) rfl k) ?_
          show own_E _ _ _ _ _ _ _ (T106.setTop (mkF m 212 #[.val (.int p0), .val (.int p1), .val (.long v0), .second, .val (.long v1), .second, .val (.long v2), .second, .val (.long v3), .second, .val (.int (0 : Int32)), .val (.ref aa), .val (.int (4 : Int32)), .val (.ref r), .val (.ref ax), .val (.long (0 : Int64)), .second, .val (.long (0 : Int64)), .second] [(.int (XT.cmpL (0 : Int64) (0 : Int64)))]))
          refine own_go (fun _ k => XS.ifNo X106.here hx rfl (hb hby at_212) rfl (XT.ll_ne_f rfl) k) ?_
          show own_E _ _ _ _ _ _ _ (T106.setTop (mkF m 215 #[.val (.int p0), .val (.int p1), .val (.long v0), .second, .val (.long v1), .second, .val (.long v2), .second, .val (.long v3), .second, .val (.int (0 : Int32)), .val (.ref aa), .val (.int (4 : Int32)), .val (.ref r), .val (.ref ax), .val (.long (0 : Int64)), .second, .val (.long (0 : Int64)), .second] []))
          refine own_go (fun _ k => XT.iconstV X106.here hx rfl (1 : Int32) (hb hby at_215) (by decide) k) ?_
          show own_E _ _ _ _ _ _ _ (T106.setTop (mkF m 216 #[.val (.int p0), .val (.int p1), .val (.long v0), .second, .val (.long v1), .second, .val (.long v2), .second, .val (.long v3), .second, .val (.int (0 : Int32)), .val (.ref aa), .val (.int (4 : Int32)), .val (.ref r), .val (.ref ax), .val (.long (0 : Int64)), .second, .val (.long (0 : Int64)), .second] [(.int (1 : Int32))]))
          refine own_go (fun _ k => XS.goto X106.here hx rfl (pc0 := 216) (pc' := 220) rfl (hb hby at_216) (by decide) (by decide) k) ?_
          show own_E _ _ _ _ _ _ _ (T106.setTop (mkF m 220 #[.val (.int p0), .val (.int p1), .val (.long v0), .second, .val (.long v1), .second, .val (.long v2), .second, .val (.long v3), .second, .val (.int (0 : Int32)), .val (.ref aa), .val (.int (4 : Int32)), .val (.ref r), .val (.ref ax), .val (.long (0 : Int64)), .second, .val (.long (0 : Int64)), .second] [(.int (1 : Int32))]))
          exact own_ret X106 hx Bd.returns Bd.notSynchronized rfl (Or.inl ⟨rfl, by simp, _, rfl⟩) (hb hby at_220) (by rw [e106]; exact ⟨rfl, M106⟩) (by decide) (by decide)
        ·
          rw [show own_r n (0 : Int32) v0 v1 v2 v3 = 0 from own_far h5 (by decide)]
          show own_E _ _ _ _ _ _ _ (T106.setTop (mkF m 127 #[.val (.int p0), .val (.int p1), .val (.long v0), .second, .val (.long v1), .second, .val (.long v2), .second, .val (.long v3), .second, .val (.int (0 : Int32)), .val (.ref aa), .val (.int n), .val (.ref r), .val (.ref ax), .unset, .unset, .unset, .unset] [(.long (0 : Int64))]))
          refine own_go (fun _ k => XT.lstore X106.here hx rfl (hb hby at_127) rfl (l' := #[.val (.int p0), .val (.int p1), .val (.long v0), .second, .val (.long v1), .second, .val (.long v2), .second, .val (.long v3), .second, .val (.int (0 : Int32)), .val (.ref aa), .val (.int n), .val (.ref r), .val (.ref ax), .val (.long (0 : Int64)), .second, .unset, .unset]) rfl k) ?_
          show own_E _ _ _ _ _ _ _ (T106.setTop (mkF m 129 #[.val (.int p0), .val (.int p1), .val (.long v0), .second, .val (.long v1), .second, .val (.long v2), .second, .val (.long v3), .second, .val (.int (0 : Int32)), .val (.ref aa), .val (.int n), .val (.ref r), .val (.ref ax), .val (.long (0 : Int64)), .second, .unset, .unset] []))
          refine own_go (fun _ k => XS.iload X106.here hx rfl (hb hby at_129) rfl k) ?_
          show own_E _ _ _ _ _ _ _ (T106.setTop (mkF m 131 #[.val (.int p0), .val (.int p1), .val (.long v0), .second, .val (.long v1), .second, .val (.long v2), .second, .val (.long v3), .second, .val (.int (0 : Int32)), .val (.ref aa), .val (.int n), .val (.ref r), .val (.ref ax), .val (.long (0 : Int64)), .second, .unset, .unset] [(.int n)]))
          refine own_go (fun _ k => XT.iconstV X106.here hx rfl (1 : Int32) (hb hby at_131) (by decide) k) ?_
          show own_E _ _ _ _ _ _ _ (T106.setTop (mkF m 132 #[.val (.int p0), .val (.int p1), .val (.long v0), .second, .val (.long v1), .second, .val (.long v2), .second, .val (.long v3), .second, .val (.int (0 : Int32)), .val (.ref aa), .val (.int n), .val (.ref r), .val (.ref ax), .val (.long (0 : Int64)), .second, .unset, .unset] [(.int (1 : Int32)), (.int n)]))
          refine own_go (fun _ k => XS.icmpYes X106.here hx rfl (pc0 := 132) (pc' := 147) rfl (hb hby at_132) rfl (feq (own_nq h5 (by decide))).2 (by decide) (by decide) k) ?_
          show own_E _ _ _ _ _ _ _ (T106.setTop (mkF m 147 #[.val (.int p0), .val (.int p1), .val (.long v0), .second, .val (.long v1), .second, .val (.long v2), .second, .val (.long v3), .second, .val (.int (0 : Int32)), .val (.ref aa), .val (.int n), .val (.ref r), .val (.ref ax), .val (.long (0 : Int64)), .second, .unset, .unset] []))
          refine own_go (fun _ k => XS.iload X106.here hx rfl (hb hby at_147) rfl k) ?_
          show own_E _ _ _ _ _ _ _ (T106.setTop (mkF m 149 #[.val (.int p0), .val (.int p1), .val (.long v0), .second, .val (.long v1), .second, .val (.long v2), .second, .val (.long v3), .second, .val (.int (0 : Int32)), .val (.ref aa), .val (.int n), .val (.ref r), .val (.ref ax), .val (.long (0 : Int64)), .second, .unset, .unset] [(.int n)]))
          refine own_go (fun _ k => XT.iconstV X106.here hx rfl (2 : Int32) (hb hby at_149) (by decide) k) ?_
          show own_E _ _ _ _ _ _ _ (T106.setTop (mkF m 150 #[.val (.int p0), .val (.int p1), .val (.long v0), .second, .val (.long v1), .second, .val (.long v2), .second, .val (.long v3), .second, .val (.int (0 : Int32)), .val (.ref aa), .val (.int n), .val (.ref r), .val (.ref ax), .val (.long (0 : Int64)), .second, .unset, .unset] [(.int (2 : Int32)), (.int n)]))
          refine own_go (fun _ k => XS.icmpYes X106.here hx rfl (pc0 := 150) (pc' := 166) rfl (hb hby at_150) rfl (feq (own_nq h5 (by decide))).2 (by decide) (by decide) k) ?_
          show own_E _ _ _ _ _ _ _ (T106.setTop (mkF m 166 #[.val (.int p0), .val (.int p1), .val (.long v0), .second, .val (.long v1), .second, .val (.long v2), .second, .val (.long v3), .second, .val (.int (0 : Int32)), .val (.ref aa), .val (.int n), .val (.ref r), .val (.ref ax), .val (.long (0 : Int64)), .second, .unset, .unset] []))
          refine own_go (fun _ k => XS.iload X106.here hx rfl (hb hby at_166) rfl k) ?_
          show own_E _ _ _ _ _ _ _ (T106.setTop (mkF m 168 #[.val (.int p0), .val (.int p1), .val (.long v0), .second, .val (.long v1), .second, .val (.long v2), .second, .val (.long v3), .second, .val (.int (0 : Int32)), .val (.ref aa), .val (.int n), .val (.ref r), .val (.ref ax), .val (.long (0 : Int64)), .second, .unset, .unset] [(.int n)]))
          refine own_go (fun _ k => XT.iconstV X106.here hx rfl (3 : Int32) (hb hby at_168) (by decide) k) ?_
          show own_E _ _ _ _ _ _ _ (T106.setTop (mkF m 169 #[.val (.int p0), .val (.int p1), .val (.long v0), .second, .val (.long v1), .second, .val (.long v2), .second, .val (.long v3), .second, .val (.int (0 : Int32)), .val (.ref aa), .val (.int n), .val (.ref r), .val (.ref ax), .val (.long (0 : Int64)), .second, .unset, .unset] [(.int (3 : Int32)), (.int n)]))
          refine own_go (fun _ k => XS.icmpYes X106.here hx rfl (pc0 := 169) (pc' := 185) rfl (hb hby at_169) rfl (feq (own_nq h5 (by decide))).2 (by decide) (by decide) k) ?_
          show own_E _ _ _ _ _ _ _ (T106.setTop (mkF m 185 #[.val (.int p0), .val (.int p1), .val (.long v0), .second, .val (.long v1), .second, .val (.long v2), .second, .val (.long v3), .second, .val (.int (0 : Int32)), .val (.ref aa), .val (.int n), .val (.ref r), .val (.ref ax), .val (.long (0 : Int64)), .second, .unset, .unset] []))
          refine own_go (fun _ k => XS.iload X106.here hx rfl (hb hby at_185) rfl k) ?_
          show own_E _ _ _ _ _ _ _ (T106.setTop (mkF m 187 #[.val (.int p0), .val (.int p1), .val (.long v0), .second, .val (.long v1), .second, .val (.long v2), .second, .val (.long v3), .second, .val (.int (0 : Int32)), .val (.ref aa), .val (.int n), .val (.ref r), .val (.ref ax), .val (.long (0 : Int64)), .second, .unset, .unset] [(.int n)]))
          refine own_go (fun _ k => XT.iconstV X106.here hx rfl (4 : Int32) (hb hby at_187) (by decide) k) ?_
          show own_E _ _ _ _ _ _ _ (T106.setTop (mkF m 188 #[.val (.int p0), .val (.int p1), .val (.long v0), .second, .val (.long v1), .second, .val (.long v2), .second, .val (.long v3), .second, .val (.int (0 : Int32)), .val (.ref aa), .val (.int n), .val (.ref r), .val (.ref ax), .val (.long (0 : Int64)), .second, .unset, .unset] [(.int (4 : Int32)), (.int n)]))
          refine own_go (fun _ k => XS.icmpYes X106.here hx rfl (pc0 := 188) (pc' := 204) rfl (hb hby at_188) rfl (feq (own_nq h5 (by decide))).2 (by decide) (by decide) k) ?_
          show own_E _ _ _ _ _ _ _ (T106.setTop (mkF m 204 #[.val (.int p0), .val (.int p1), .val (.long v0), .second, .val (.long v1), .second, .val (.long v2), .second, .val (.long v3), .second, .val (.int (0 : Int32)), .val (.ref aa), .val (.int n), .val (.ref r), .val (.ref ax), .val (.long (0 : Int64)), .second, .unset, .unset] []))
          refine own_go (fun _ k => XT.lconstV X106.here hx rfl (0 : Int64) (hb hby at_204) (by decide) k) ?_
          show own_E _ _ _ _ _ _ _ (T106.setTop (mkF m 205 #[.val (.int p0), .val (.int p1), .val (.long v0), .second, .val (.long v1), .second, .val (.long v2), .second, .val (.long v3), .second, .val (.int (0 : Int32)), .val (.ref aa), .val (.int n), .val (.ref r), .val (.ref ax), .val (.long (0 : Int64)), .second, .unset, .unset] [(.long (0 : Int64))]))
          refine own_go (fun _ k => XT.lstore X106.here hx rfl (hb hby at_205) rfl (l' := #[.val (.int p0), .val (.int p1), .val (.long v0), .second, .val (.long v1), .second, .val (.long v2), .second, .val (.long v3), .second, .val (.int (0 : Int32)), .val (.ref aa), .val (.int n), .val (.ref r), .val (.ref ax), .val (.long (0 : Int64)), .second, .val (.long (0 : Int64)), .second]) rfl k) ?_
          show own_E _ _ _ _ _ _ _ (T106.setTop (mkF m 207 #[.val (.int p0), .val (.int p1), .val (.long v0), .second, .val (.long v1), .second, .val (.long v2), .second, .val (.long v3), .second, .val (.int (0 : Int32)), .val (.ref aa), .val (.int n), .val (.ref r), .val (.ref ax), .val (.long (0 : Int64)), .second, .val (.long (0 : Int64)), .second] []))
          refine own_go (fun _ k => XT.lload X106.here hx rfl (hb hby at_207) rfl k) ?_
          show own_E _ _ _ _ _ _ _ (T106.setTop (mkF m 209 #[.val (.int p0), .val (.int p1), .val (.long v0), .second, .val (.long v1), .second, .val (.long v2), .second, .val (.long v3), .second, .val (.int (0 : Int32)), .val (.ref aa), .val (.int n), .val (.ref r), .val (.ref ax), .val (.long (0 : Int64)), .second, .val (.long (0 : Int64)), .second] [(.long (0 : Int64))]))
          refine own_go (fun _ k => XT.lload X106.here hx rfl (hb hby at_209) rfl k) ?_
          show own_E _ _ _ _ _ _ _ (T106.setTop (mkF m 211 #[.val (.int p0), .val (.int p1), .val (.long v0), .second, .val (.long v1), .second, .val (.long v2), .second, .val (.long v3), .second, .val (.int (0 : Int32)), .val (.ref aa), .val (.int n), .val (.ref r), .val (.ref ax), .val (.long (0 : Int64)), .second, .val (.long (0 : Int64)), .second] [(.long (0 : Int64)), (.long (0 : Int64))]))
          refine own_go (fun _ k => XT.lcmp X106.here hx rfl (hb hby at_211) rfl k) ?_
          show own_E _ _ _ _ _ _ _ (T106.setTop (mkF m 212 #[.val (.int p0), .val (.int p1), .val (.long v0), .second, .val (.long v1), .second, .val (.long v2), .second, .val (.long v3), .second, .val (.int (0 : Int32)), .val (.ref aa), .val (.int n), .val (.ref r), .val (.ref ax), .val (.long (0 : Int64)), .second, .val (.long (0 : Int64)), .second] [(.int (XT.cmpL (0 : Int64) (0 : Int64)))]))
          refine own_go (fun _ k => XS.ifNo X106.here hx rfl (hb hby at_212) rfl (XT.ll_ne_f rfl) k) ?_
          show own_E _ _ _ _ _ _ _ (T106.setTop (mkF m 215 #[.val (.int p0), .val (.int p1), .val (.long v0), .second, .val (.long v1), .second, .val (.long v2), .second, .val (.long v3), .second, .val (.int (0 : Int32)), .val (.ref aa), .val (.int n), .val (.ref r), .val (.ref ax), .val (.long (0 : Int64)), .second, .val (.long (0 : Int64)), .second] []))
          refine own_go (fun _ k => XT.iconstV X106.here hx rfl (1 : Int32) (hb hby at_215) (by decide) k) ?_
          show own_E _ _ _ _ _ _ _ (T106.setTop (mkF m 216 #[.val (.int p0), .val (.int p1), .val (.long v0), .second, .val (.long v1), .second, .val (.long v2), .second, .val (.long v3), .second, .val (.int (0 : Int32)), .val (.ref aa), .val (.int n), .val (.ref r), .val (.ref ax), .val (.long (0 : Int64)), .second, .val (.long (0 : Int64)), .second] [(.int (1 : Int32))]))
          refine own_go (fun _ k => XS.goto X106.here hx rfl (pc0 := 216) (pc' := 220) rfl (hb hby at_216) (by decide) (by decide) k) ?_
          show own_E _ _ _ _ _ _ _ (T106.setTop (mkF m 220 #[.val (.int p0), .val (.int p1), .val (.long v0), .second, .val (.long v1), .second, .val (.long v2), .second, .val (.long v3), .second, .val (.int (0 : Int32)), .val (.ref aa), .val (.int n), .val (.ref r), .val (.ref ax), .val (.long (0 : Int64)), .second, .val (.long (0 : Int64)), .second] [(.int (1 : Int32))]))
          exact own_ret X106 hx Bd.returns Bd.notSynchronized rfl (Or.inl ⟨rfl, by simp, _, rfl⟩) (hb hby at_220) (by rw [e106]; exact ⟨rfl, M106⟩) (by decide) (by decide)
      ·
        rcases own_five hn with rfl | rfl | rfl | rfl | h5
        ·
          rw [show own_r (1 : Int32) (1 : Int32) v0 v1 v2 v3 = v0 from rfl]
          show own_E _ _ _ _ _ _ _ (T106.setTop (mkF m 127 #[.val (.int p0), .val (.int p1), .val (.long v0), .second, .val (.long v1), .second, .val (.long v2), .second, .val (.long v3), .second, .val (.int (1 : Int32)), .val (.ref aa), .val (.int (1 : Int32)), .val (.ref r), .val (.ref ax), .unset, .unset, .unset, .unset] [(.long v0)]))
          refine own_go (fun _ k => XT.lstore X106.here hx rfl (hb hby at_127) rfl (l' := #[.val (.int p0), .val (.int p1), .val (.long v0), .second, .val (.long v1), .second, .val (.long v2), .second, .val (.long v3), .second, .val (.int (1 : Int32)), .val (.ref aa), .val (.int (1 : Int32)), .val (.ref r), .val (.ref ax), .val (.long v0), .second, .unset, .unset]) rfl k) ?_
          show own_E _ _ _ _ _ _ _ (T106.setTop (mkF m 129 #[.val (.int p0), .val (.int p1), .val (.long v0), .second, .val (.long v1), .second, .val (.long v2), .second, .val (.long v3), .second, .val (.int (1 : Int32)), .val (.ref aa), .val (.int (1 : Int32)), .val (.ref r), .val (.ref ax), .val (.long v0), .second, .unset, .unset] []))
          refine own_go (fun _ k => XS.iload X106.here hx rfl (hb hby at_129) rfl k) ?_
          show own_E _ _ _ _ _ _ _ (T106.setTop (mkF m 131 #[.val (.int p0), .val (.int p1), .val (.long v0), .second, .val (.long v1), .second, .val (.long v2), .second, .val (.long v3), .second, .val (.int (1 : Int32)), .val (.ref aa), .val (.int (1 : Int32)), .val (.ref r), .val (.ref ax), .val (.long v0), .second, .unset, .unset] [(.int (1 : Int32))]))
          refine own_go (fun _ k => XT.iconstV X106.here hx rfl (1 : Int32) (hb hby at_131) (by decide) k) ?_
          show own_E _ _ _ _ _ _ _ (T106.setTop (mkF m 132 #[.val (.int p0), .val (.int p1), .val (.long v0), .second, .val (.long v1), .second, .val (.long v2), .second, .val (.long v3), .second, .val (.int (1 : Int32)), .val (.ref aa), .val (.int (1 : Int32)), .val (.ref r), .val (.ref ax), .val (.long v0), .second, .unset, .unset] [(.int (1 : Int32)), (.int (1 : Int32))]))
          refine own_go (fun _ k => XS.icmpNo X106.here hx rfl (hb hby at_132) rfl (by decide) k) ?_
          show own_E _ _ _ _ _ _ _ (T106.setTop (mkF m 135 #[.val (.int p0), .val (.int p1), .val (.long v0), .second, .val (.long v1), .second, .val (.long v2), .second, .val (.long v3), .second, .val (.int (1 : Int32)), .val (.ref aa), .val (.int (1 : Int32)), .val (.ref r), .val (.ref ax), .val (.long v0), .second, .unset, .unset] []))
          refine own_go (fun _ k => XS.iload X106.here hx rfl (hb hby at_135) rfl k) ?_
          show own_E _ _ _ _ _ _ _ (T106.setTop (mkF m 137 #[.val (.int p0), .val (.int p1), .val (.long v0), .second, .val (.long v1), .second, .val (.long v2), .second, .val (.long v3), .second, .val (.int (1 : Int32)), .val (.ref aa), .val (.int (1 : Int32)), .val (.ref r), .val (.ref ax), .val (.long v0), .second, .unset, .unset] [(.int (1 : Int32))]))
          refine own_go (fun _ k => XT.iconstV X106.here hx rfl (1 : Int32) (hb hby at_137) (by decide) k) ?_
          show own_E _ _ _ _ _ _ _ (T106.setTop (mkF m 138 #[.val (.int p0), .val (.int p1), .val (.long v0), .second, .val (.long v1), .second, .val (.long v2), .second, .val (.long v3), .second, .val (.int (1 : Int32)), .val (.ref aa), .val (.int (1 : Int32)), .val (.ref r), .val (.ref ax), .val (.long v0), .second, .unset, .unset] [(.int (1 : Int32)), (.int (1 : Int32))]))
          refine own_go (fun _ k => XS.icmpNo X106.here hx rfl (hb hby at_138) rfl (by decide) k) ?_
          show own_E _ _ _ _ _ _ _ (T106.setTop (mkF m 141 #[.val (.int p0), .val (.int p1), .val (.long v0), .second, .val (.long v1), .second, .val (.long v2), .second, .val (.long v3), .second, .val (.int (1 : Int32)), .val (.ref aa), .val (.int (1 : Int32)), .val (.ref r), .val (.ref ax), .val (.long v0), .second, .unset, .unset] []))
          refine own_go (fun _ k => XT.lloadN X106.here hx rfl (hb hby at_141) rfl k) ?_
          show own_E _ _ _ _ _ _ _ (T106.setTop (mkF m 142 #[.val (.int p0), .val (.int p1), .val (.long v0), .second, .val (.long v1), .second, .val (.long v2), .second, .val (.long v3), .second, .val (.int (1 : Int32)), .val (.ref aa), .val (.int (1 : Int32)), .val (.ref r), .val (.ref ax), .val (.long v0), .second, .unset, .unset] [(.long v0)]))
          refine own_go (fun _ k => XT.lstore X106.here hx rfl (hb hby at_142) rfl (l' := #[.val (.int p0), .val (.int p1), .val (.long v0), .second, .val (.long v1), .second, .val (.long v2), .second, .val (.long v3), .second, .val (.int (1 : Int32)), .val (.ref aa), .val (.int (1 : Int32)), .val (.ref r), .val (.ref ax), .val (.long v0), .second, .val (.long v0), .second]) rfl k) ?_
          show own_E _ _ _ _ _ _ _ (T106.setTop (mkF m 144 #[.val (.int p0), .val (.int p1), .val (.long v0), .second, .val (.long v1), .second, .val (.long v2), .second, .val (.long v3), .second, .val (.int (1 : Int32)), .val (.ref aa), .val (.int (1 : Int32)), .val (.ref r), .val (.ref ax), .val (.long v0), .second, .val (.long v0), .second] []))
          refine own_go (fun _ k => XS.goto X106.here hx rfl (pc0 := 144) (pc' := 207) rfl (hb hby at_144) (by decide) (by decide) k) ?_
          show own_E _ _ _ _ _ _ _ (T106.setTop (mkF m 207 #[.val (.int p0), .val (.int p1), .val (.long v0), .second, .val (.long v1), .second, .val (.long v2), .second, .val (.long v3), .second, .val (.int (1 : Int32)), .val (.ref aa), .val (.int (1 : Int32)), .val (.ref r), .val (.ref ax), .val (.long v0), .second, .val (.long v0), .second] []))
          refine own_go (fun _ k => XT.lload X106.here hx rfl (hb hby at_207) rfl k) ?_
          show own_E _ _ _ _ _ _ _ (T106.setTop (mkF m 209 #[.val (.int p0), .val (.int p1), .val (.long v0), .second, .val (.long v1), .second, .val (.long v2), .second, .val (.long v3), .second, .val (.int (1 : Int32)), .val (.ref aa), .val (.int (1 : Int32)), .val (.ref r), .val (.ref ax), .val (.long v0), .second, .val (.long v0), .second] [(.long v0)]))
          refine own_go (fun _ k => XT.lload X106.here hx rfl (hb hby at_209) rfl k) ?_
          show own_E _ _ _ _ _ _ _ (T106.setTop (mkF m 211 #[.val (.int p0), .val (.int p1), .val (.long v0), .second, .val (.long v1), .second, .val (.long v2), .second, .val (.long v3), .second, .val (.int (1 : Int32)), .val (.ref aa), .val (.int (1 : Int32)), .val (.ref r), .val (.ref ax), .val (.long v0), .second, .val (.long v0), .second] [(.long v0), (.long v0)]))
          refine own_go (fun _ k => XT.lcmp X106.here hx rfl (hb hby at_211) rfl k) ?_
          show own_E _ _ _ _ _ _ _ (T106.setTop (mkF m 212 #[.val (.int p0), .val (.int p1), .val (.long v0), .second, .val (.long v1), .second, .val (.long v2), .second, .val (.long v3), .second, .val (.int (1 : Int32)), .val (.ref aa), .val (.int (1 : Int32)), .val (.ref r), .val (.ref ax), .val (.long v0), .second, .val (.long v0), .second] [(.int (XT.cmpL v0 v0))]))
          refine own_go (fun _ k => XS.ifNo X106.here hx rfl (hb hby at_212) rfl (XT.ll_ne_f rfl) k) ?_
          show own_E _ _ _ _ _ _ _ (T106.setTop (mkF m 215 #[.val (.int p0), .val (.int p1), .val (.long v0), .second, .val (.long v1), .second, .val (.long v2), .second, .val (.long v3), .second, .val (.int (1 : Int32)), .val (.ref aa), .val (.int (1 : Int32)), .val (.ref r), .val (.ref ax), .val (.long v0), .second, .val (.long v0), .second] []))
          refine own_go (fun _ k => XT.iconstV X106.here hx rfl (1 : Int32) (hb hby at_215) (by decide) k) ?_
          show own_E _ _ _ _ _ _ _ (T106.setTop (mkF m 216 #[.val (.int p0), .val (.int p1), .val (.long v0), .second, .val (.long v1), .second, .val (.long v2), .second, .val (.long v3), .second, .val (.int (1 : Int32)), .val (.ref aa), .val (.int (1 : Int32)), .val (.ref r), .val (.ref ax), .val (.long v0), .second, .val (.long v0), .second] [(.int (1 : Int32))]))
          refine own_go (fun _ k => XS.goto X106.here hx rfl (pc0 := 216) (pc' := 220) rfl (hb hby at_216) (by decide) (by decide) k) ?_
          show own_E _ _ _ _ _ _ _ (T106.setTop (mkF m 220 #[.val (.int p0), .val (.int p1), .val (.long v0), .second, .val (.long v1), .second, .val (.long v2), .second, .val (.long v3), .second, .val (.int (1 : Int32)), .val (.ref aa), .val (.int (1 : Int32)), .val (.ref r), .val (.ref ax), .val (.long v0), .second, .val (.long v0), .second] [(.int (1 : Int32))]))
          exact own_ret X106 hx Bd.returns Bd.notSynchronized rfl (Or.inl ⟨rfl, by simp, _, rfl⟩) (hb hby at_220) (by rw [e106]; exact ⟨rfl, M106⟩) (by decide) (by decide)
        ·
          rw [show own_r (2 : Int32) (1 : Int32) v0 v1 v2 v3 = (0 : Int64) from rfl]
          show own_E _ _ _ _ _ _ _ (T106.setTop (mkF m 127 #[.val (.int p0), .val (.int p1), .val (.long v0), .second, .val (.long v1), .second, .val (.long v2), .second, .val (.long v3), .second, .val (.int (1 : Int32)), .val (.ref aa), .val (.int (2 : Int32)), .val (.ref r), .val (.ref ax), .unset, .unset, .unset, .unset] [(.long (0 : Int64))]))
          refine own_go (fun _ k => XT.lstore X106.here hx rfl (hb hby at_127) rfl (l' := #[.val (.int p0), .val (.int p1), .val (.long v0), .second, .val (.long v1), .second, .val (.long v2), .second, .val (.long v3), .second, .val (.int (1 : Int32)), .val (.ref aa), .val (.int (2 : Int32)), .val (.ref r), .val (.ref ax), .val (.long (0 : Int64)), .second, .unset, .unset]) rfl k) ?_
          show own_E _ _ _ _ _ _ _ (T106.setTop (mkF m 129 #[.val (.int p0), .val (.int p1), .val (.long v0), .second, .val (.long v1), .second, .val (.long v2), .second, .val (.long v3), .second, .val (.int (1 : Int32)), .val (.ref aa), .val (.int (2 : Int32)), .val (.ref r), .val (.ref ax), .val (.long (0 : Int64)), .second, .unset, .unset] []))
          refine own_go (fun _ k => XS.iload X106.here hx rfl (hb hby at_129) rfl k) ?_
          show own_E _ _ _ _ _ _ _ (T106.setTop (mkF m 131 #[.val (.int p0), .val (.int p1), .val (.long v0), .second, .val (.long v1), .second, .val (.long v2), .second, .val (.long v3), .second, .val (.int (1 : Int32)), .val (.ref aa), .val (.int (2 : Int32)), .val (.ref r), .val (.ref ax), .val (.long (0 : Int64)), .second, .unset, .unset] [(.int (2 : Int32))]))
          refine own_go (fun _ k => XT.iconstV X106.here hx rfl (1 : Int32) (hb hby at_131) (by decide) k) ?_
          show own_E _ _ _ _ _ _ _ (T106.setTop (mkF m 132 #[.val (.int p0), .val (.int p1), .val (.long v0), .second, .val (.long v1), .second, .val (.long v2), .second, .val (.long v3), .second, .val (.int (1 : Int32)), .val (.ref aa), .val (.int (2 : Int32)), .val (.ref r), .val (.ref ax), .val (.long (0 : Int64)), .second, .unset, .unset] [(.int (1 : Int32)), (.int (2 : Int32))]))
          refine own_go (fun _ k => XS.icmpYes X106.here hx rfl (pc0 := 132) (pc' := 147) rfl (hb hby at_132) rfl (by decide) (by decide) (by decide) k) ?_
          show own_E _ _ _ _ _ _ _ (T106.setTop (mkF m 147 #[.val (.int p0), .val (.int p1), .val (.long v0), .second, .val (.long v1), .second, .val (.long v2), .second, .val (.long v3), .second, .val (.int (1 : Int32)), .val (.ref aa), .val (.int (2 : Int32)), .val (.ref r), .val (.ref ax), .val (.long (0 : Int64)), .second, .unset, .unset] []))
          refine own_go (fun _ k => XS.iload X106.here hx rfl (hb hby at_147) rfl k) ?_
          show own_E _ _ _ _ _ _ _ (T106.setTop (mkF m 149 #[.val (.int p0), .val (.int p1), .val (.long v0), .second, .val (.long v1), .second, .val (.long v2), .second, .val (.long v3), .second, .val (.int (1 : Int32)), .val (.ref aa), .val (.int (2 : Int32)), .val (.ref r), .val (.ref ax), .val (.long (0 : Int64)), .second, .unset, .unset] [(.int (2 : Int32))]))
          refine own_go (fun _ k => XT.iconstV X106.here hx rfl (2 : Int32) (hb hby at_149) (by decide) k) ?_
          show own_E _ _ _ _ _ _ _ (T106.setTop (mkF m 150 #[.val (.int p0), .val (.int p1), .val (.long v0), .second, .val (.long v1), .second, .val (.long v2), .second, .val (.long v3), .second, .val (.int (1 : Int32)), .val (.ref aa), .val (.int (2 : Int32)), .val (.ref r), .val (.ref ax), .val (.long (0 : Int64)), .second, .unset, .unset] [(.int (2 : Int32)), (.int (2 : Int32))]))
          refine own_go (fun _ k => XS.icmpNo X106.here hx rfl (hb hby at_150) rfl (by decide) k) ?_
          show own_E _ _ _ _ _ _ _ (T106.setTop (mkF m 153 #[.val (.int p0), .val (.int p1), .val (.long v0), .second, .val (.long v1), .second, .val (.long v2), .second, .val (.long v3), .second, .val (.int (1 : Int32)), .val (.ref aa), .val (.int (2 : Int32)), .val (.ref r), .val (.ref ax), .val (.long (0 : Int64)), .second, .unset, .unset] []))
          refine own_go (fun _ k => XS.iload X106.here hx rfl (hb hby at_153) rfl k) ?_
          show own_E _ _ _ _ _ _ _ (T106.setTop (mkF m 155 #[.val (.int p0), .val (.int p1), .val (.long v0), .second, .val (.long v1), .second, .val (.long v2), .second, .val (.long v3), .second, .val (.int (1 : Int32)), .val (.ref aa), .val (.int (2 : Int32)), .val (.ref r), .val (.ref ax), .val (.long (0 : Int64)), .second, .unset, .unset] [(.int (1 : Int32))]))
          refine own_go (fun _ k => XT.iconstV X106.here hx rfl (2 : Int32) (hb hby at_155) (by decide) k) ?_
          show own_E _ _ _ _ _ _ _ (T106.setTop (mkF m 156 #[.val (.int p0), .val (.int p1), .val (.long v0), .second, .val (.long v1), .second, .val (.long v2), .second, .val (.long v3), .second, .val (.int (1 : Int32)), .val (.ref aa), .val (.int (2 : Int32)), .val (.ref r), .val (.ref ax), .val (.long (0 : Int64)), .second, .unset, .unset] [(.int (2 : Int32)), (.int (1 : Int32))]))
          refine own_go (fun _ k => XS.icmpYes X106.here hx rfl (pc0 := 156) (pc' := 166) rfl (hb hby at_156) rfl (by decide) (by decide) (by decide) k) ?_
          show own_E _ _ _ _ _ _ _ (T106.setTop (mkF m 166 #[.val (.int p0), .val (.int p1), .val (.long v0), .second, .val (.long v1), .second, .val (.long v2), .second, .val (.long v3), .second, .val (.int (1 : Int32)), .val (.ref aa), .val (.int (2 : Int32)), .val (.ref r), .val (.ref ax), .val (.long (0 : Int64)), .second, .unset, .unset] []))
          refine own_go (fun _ k => XS.iload X106.here hx rfl (hb hby at_166) rfl k) ?_
          show own_E _ _ _ _ _ _ _ (T106.setTop (mkF m 168 #[.val (.int p0), .val (.int p1), .val (.long v0), .second, .val (.long v1), .second, .val (.long v2), .second, .val (.long v3), .second, .val (.int (1 : Int32)), .val (.ref aa), .val (.int (2 : Int32)), .val (.ref r), .val (.ref ax), .val (.long (0 : Int64)), .second, .unset, .unset] [(.int (2 : Int32))]))
          refine own_go (fun _ k => XT.iconstV X106.here hx rfl (3 : Int32) (hb hby at_168) (by decide) k) ?_
          show own_E _ _ _ _ _ _ _ (T106.setTop (mkF m 169 #[.val (.int p0), .val (.int p1), .val (.long v0), .second, .val (.long v1), .second, .val (.long v2), .second, .val (.long v3), .second, .val (.int (1 : Int32)), .val (.ref aa), .val (.int (2 : Int32)), .val (.ref r), .val (.ref ax), .val (.long (0 : Int64)), .second, .unset, .unset] [(.int (3 : Int32)), (.int (2 : Int32))]))
          refine own_go (fun _ k => XS.icmpYes X106.here hx rfl (pc0 := 169) (pc' := 185) rfl (hb hby at_169) rfl (by decide) (by decide) (by decide) k) ?_
          show own_E _ _ _ _ _ _ _ (T106.setTop (mkF m 185 #[.val (.int p0), .val (.int p1), .val (.long v0), .second, .val (.long v1), .second, .val (.long v2), .second, .val (.long v3), .second, .val (.int (1 : Int32)), .val (.ref aa), .val (.int (2 : Int32)), .val (.ref r), .val (.ref ax), .val (.long (0 : Int64)), .second, .unset, .unset] []))
          refine own_go (fun _ k => XS.iload X106.here hx rfl (hb hby at_185) rfl k) ?_
          show own_E _ _ _ _ _ _ _ (T106.setTop (mkF m 187 #[.val (.int p0), .val (.int p1), .val (.long v0), .second, .val (.long v1), .second, .val (.long v2), .second, .val (.long v3), .second, .val (.int (1 : Int32)), .val (.ref aa), .val (.int (2 : Int32)), .val (.ref r), .val (.ref ax), .val (.long (0 : Int64)), .second, .unset, .unset] [(.int (2 : Int32))]))
          refine own_go (fun _ k => XT.iconstV X106.here hx rfl (4 : Int32) (hb hby at_187) (by decide) k) ?_
          show own_E _ _ _ _ _ _ _ (T106.setTop (mkF m 188 #[.val (.int p0), .val (.int p1), .val (.long v0), .second, .val (.long v1), .second, .val (.long v2), .second, .val (.long v3), .second, .val (.int (1 : Int32)), .val (.ref aa), .val (.int (2 : Int32)), .val (.ref r), .val (.ref ax), .val (.long (0 : Int64)), .second, .unset, .unset] [(.int (4 : Int32)), (.int (2 : Int32))]))
          refine own_go (fun _ k => XS.icmpYes X106.here hx rfl (pc0 := 188) (pc' := 204) rfl (hb hby at_188) rfl (by decide) (by decide) (by decide) k) ?_
          show own_E _ _ _ _ _ _ _ (T106.setTop (mkF m 204 #[.val (.int p0), .val (.int p1), .val (.long v0), .second, .val (.long v1), .second, .val (.long v2), .second, .val (.long v3), .second, .val (.int (1 : Int32)), .val (.ref aa), .val (.int (2 : Int32)), .val (.ref r), .val (.ref ax), .val (.long (0 : Int64)), .second, .unset, .unset] []))
          refine own_go (fun _ k => XT.lconstV X106.here hx rfl (0 : Int64) (hb hby at_204) (by decide) k) ?_
          show own_E _ _ _ _ _ _ _ (T106.setTop (mkF m 205 #[.val (.int p0), .val (.int p1), .val (.long v0), .second, .val (.long v1), .second, .val (.long v2), .second, .val (.long v3), .second, .val (.int (1 : Int32)), .val (.ref aa), .val (.int (2 : Int32)), .val (.ref r), .val (.ref ax), .val (.long (0 : Int64)), .second, .unset, .unset] [(.long (0 : Int64))]))
          refine own_go (fun _ k => XT.lstore X106.here hx rfl (hb hby at_205) rfl (l' := #[.val (.int p0), .val (.int p1), .val (.long v0), .second, .val (.long v1), .second, .val (.long v2), .second, .val (.long v3), .second, .val (.int (1 : Int32)), .val (.ref aa), .val (.int (2 : Int32)), .val (.ref r), .val (.ref ax), .val (.long (0 : Int64)), .second, .val (.long (0 : Int64)), .second]) rfl k) ?_
          show own_E _ _ _ _ _ _ _ (T106.setTop (mkF m 207 #[.val (.int p0), .val (.int p1), .val (.long v0), .second, .val (.long v1), .second, .val (.long v2), .second, .val (.long v3), .second, .val (.int (1 : Int32)), .val (.ref aa), .val (.int (2 : Int32)), .val (.ref r), .val (.ref ax), .val (.long (0 : Int64)), .second, .val (.long (0 : Int64)), .second] []))
          refine own_go (fun _ k => XT.lload X106.here hx rfl (hb hby at_207) rfl k) ?_
          show own_E _ _ _ _ _ _ _ (T106.setTop (mkF m 209 #[.val (.int p0), .val (.int p1), .val (.long v0), .second, .val (.long v1), .second, .val (.long v2), .second, .val (.long v3), .second, .val (.int (1 : Int32)), .val (.ref aa), .val (.int (2 : Int32)), .val (.ref r), .val (.ref ax), .val (.long (0 : Int64)), .second, .val (.long (0 : Int64)), .second] [(.long (0 : Int64))]))
          refine own_go (fun _ k => XT.lload X106.here hx rfl (hb hby at_209) rfl k) ?_
          show own_E _ _ _ _ _ _ _ (T106.setTop (mkF m 211 #[.val (.int p0), .val (.int p1), .val (.long v0), .second, .val (.long v1), .second, .val (.long v2), .second, .val (.long v3), .second, .val (.int (1 : Int32)), .val (.ref aa), .val (.int (2 : Int32)), .val (.ref r), .val (.ref ax), .val (.long (0 : Int64)), .second, .val (.long (0 : Int64)), .second] [(.long (0 : Int64)), (.long (0 : Int64))]))
          refine own_go (fun _ k => XT.lcmp X106.here hx rfl (hb hby at_211) rfl k) ?_
          show own_E _ _ _ _ _ _ _ (T106.setTop (mkF m 212 #[.val (.int p0), .val (.int p1), .val (.long v0), .second, .val (.long v1), .second, .val (.long v2), .second, .val (.long v3), .second, .val (.int (1 : Int32)), .val (.ref aa), .val (.int (2 : Int32)), .val (.ref r), .val (.ref ax), .val (.long (0 : Int64)), .second, .val (.long (0 : Int64)), .second] [(.int (XT.cmpL (0 : Int64) (0 : Int64)))]))
          refine own_go (fun _ k => XS.ifNo X106.here hx rfl (hb hby at_212) rfl (XT.ll_ne_f rfl) k) ?_
          show own_E _ _ _ _ _ _ _ (T106.setTop (mkF m 215 #[.val (.int p0), .val (.int p1), .val (.long v0), .second, .val (.long v1), .second, .val (.long v2), .second, .val (.long v3), .second, .val (.int (1 : Int32)), .val (.ref aa), .val (.int (2 : Int32)), .val (.ref r), .val (.ref ax), .val (.long (0 : Int64)), .second, .val (.long (0 : Int64)), .second] []))
          refine own_go (fun _ k => XT.iconstV X106.here hx rfl (1 : Int32) (hb hby at_215) (by decide) k) ?_
          show own_E _ _ _ _ _ _ _ (T106.setTop (mkF m 216 #[.val (.int p0), .val (.int p1), .val (.long v0), .second, .val (.long v1), .second, .val (.long v2), .second, .val (.long v3), .second, .val (.int (1 : Int32)), .val (.ref aa), .val (.int (2 : Int32)), .val (.ref r), .val (.ref ax), .val (.long (0 : Int64)), .second, .val (.long (0 : Int64)), .second] [(.int (1 : Int32))]))
          refine own_go (fun _ k => XS.goto X106.here hx rfl (pc0 := 216) (pc' := 220) rfl (hb hby at_216) (by decide) (by decide) k) ?_
          show own_E _ _ _ _ _ _ _ (T106.setTop (mkF m 220 #[.val (.int p0), .val (.int p1), .val (.long v0), .second, .val (.long v1), .second, .val (.long v2), .second, .val (.long v3), .second, .val (.int (1 : Int32)), .val (.ref aa), .val (.int (2 : Int32)), .val (.ref r), .val (.ref ax), .val (.long (0 : Int64)), .second, .val (.long (0 : Int64)), .second] [(.int (1 : Int32))]))
          exact own_ret X106 hx Bd.returns Bd.notSynchronized rfl (Or.inl ⟨rfl, by simp, _, rfl⟩) (hb hby at_220) (by rw [e106]; exact ⟨rfl, M106⟩) (by decide) (by decide)
        ·
          rw [show own_r (3 : Int32) (1 : Int32) v0 v1 v2 v3 = (0 : Int64) from rfl]
          show own_E _ _ _ _ _ _ _ (T106.setTop (mkF m 127 #[.val (.int p0), .val (.int p1), .val (.long v0), .second, .val (.long v1), .second, .val (.long v2), .second, .val (.long v3), .second, .val (.int (1 : Int32)), .val (.ref aa), .val (.int (3 : Int32)), .val (.ref r), .val (.ref ax), .unset, .unset, .unset, .unset] [(.long (0 : Int64))]))
          refine own_go (fun _ k => XT.lstore X106.here hx rfl (hb hby at_127) rfl (l' := #[.val (.int p0), .val (.int p1), .val (.long v0), .second, .val (.long v1), .second, .val (.long v2), .second, .val (.long v3), .second, .val (.int (1 : Int32)), .val (.ref aa), .val (.int (3 : Int32)), .val (.ref r), .val (.ref ax), .val (.long (0 : Int64)), .second, .unset, .unset]) rfl k) ?_
          show own_E _ _ _ _ _ _ _ (T106.setTop (mkF m 129 #[.val (.int p0), .val (.int p1), .val (.long v0), .second, .val (.long v1), .second, .val (.long v2), .second, .val (.long v3), .second, .val (.int (1 : Int32)), .val (.ref aa), .val (.int (3 : Int32)), .val (.ref r), .val (.ref ax), .val (.long (0 : Int64)), .second, .unset, .unset] []))
          refine own_go (fun _ k => XS.iload X106.here hx rfl (hb hby at_129) rfl k) ?_
          show own_E _ _ _ _ _ _ _ (T106.setTop (mkF m 131 #[.val (.int p0), .val (.int p1), .val (.long v0), .second, .val (.long v1), .second, .val (.long v2), .second, .val (.long v3), .second, .val (.int (1 : Int32)), .val (.ref aa), .val (.int (3 : Int32)), .val (.ref r), .val (.ref ax), .val (.long (0 : Int64)), .second, .unset, .unset] [(.int (3 : Int32))]))
          refine own_go (fun _ k => XT.iconstV X106.here hx rfl (1 : Int32) (hb hby at_131) (by decide) k) ?_
          show own_E _ _ _ _ _ _ _ (T106.setTop (mkF m 132 #[.val (.int p0), .val (.int p1), .val (.long v0), .second, .val (.long v1), .second, .val (.long v2), .second, .val (.long v3), .second, .val (.int (1 : Int32)), .val (.ref aa), .val (.int (3 : Int32)), .val (.ref r), .val (.ref ax), .val (.long (0 : Int64)), .second, .unset, .unset] [(.int (1 : Int32)), (.int (3 : Int32))]))
          refine own_go (fun _ k => XS.icmpYes X106.here hx rfl (pc0 := 132) (pc' := 147) rfl (hb hby at_132) rfl (by decide) (by decide) (by decide) k) ?_
          show own_E _ _ _ _ _ _ _ (T106.setTop (mkF m 147 #[.val (.int p0), .val (.int p1), .val (.long v0), .second, .val (.long v1), .second, .val (.long v2), .second, .val (.long v3), .second, .val (.int (1 : Int32)), .val (.ref aa), .val (.int (3 : Int32)), .val (.ref r), .val (.ref ax), .val (.long (0 : Int64)), .second, .unset, .unset] []))
          refine own_go (fun _ k => XS.iload X106.here hx rfl (hb hby at_147) rfl k) ?_
          show own_E _ _ _ _ _ _ _ (T106.setTop (mkF m 149 #[.val (.int p0), .val (.int p1), .val (.long v0), .second, .val (.long v1), .second, .val (.long v2), .second, .val (.long v3), .second, .val (.int (1 : Int32)), .val (.ref aa), .val (.int (3 : Int32)), .val (.ref r), .val (.ref ax), .val (.long (0 : Int64)), .second, .unset, .unset] [(.int (3 : Int32))]))
          refine own_go (fun _ k => XT.iconstV X106.here hx rfl (2 : Int32) (hb hby at_149) (by decide) k) ?_
          show own_E _ _ _ _ _ _ _ (T106.setTop (mkF m 150 #[.val (.int p0), .val (.int p1), .val (.long v0), .second, .val (.long v1), .second, .val (.long v2), .second, .val (.long v3), .second, .val (.int (1 : Int32)), .val (.ref aa), .val (.int (3 : Int32)), .val (.ref r), .val (.ref ax), .val (.long (0 : Int64)), .second, .unset, .unset] [(.int (2 : Int32)), (.int (3 : Int32))]))
          refine own_go (fun _ k => XS.icmpYes X106.here hx rfl (pc0 := 150) (pc' := 166) rfl (hb hby at_150) rfl (by decide) (by decide) (by decide) k) ?_
          show own_E _ _ _ _ _ _ _ (T106.setTop (mkF m 166 #[.val (.int p0), .val (.int p1), .val (.long v0), .second, .val (.long v1), .second, .val (.long v2), .second, .val (.long v3), .second, .val (.int (1 : Int32)), .val (.ref aa), .val (.int (3 : Int32)), .val (.ref r), .val (.ref ax), .val (.long (0 : Int64)), .second, .unset, .unset] []))
          refine own_go (fun _ k => XS.iload X106.here hx rfl (hb hby at_166) rfl k) ?_
          show own_E _ _ _ _ _ _ _ (T106.setTop (mkF m 168 #[.val (.int p0), .val (.int p1), .val (.long v0), .second, .val (.long v1), .second, .val (.long v2), .second, .val (.long v3), .second, .val (.int (1 : Int32)), .val (.ref aa), .val (.int (3 : Int32)), .val (.ref r), .val (.ref ax), .val (.long (0 : Int64)), .second, .unset, .unset] [(.int (3 : Int32))]))
          refine own_go (fun _ k => XT.iconstV X106.here hx rfl (3 : Int32) (hb hby at_168) (by decide) k) ?_
          show own_E _ _ _ _ _ _ _ (T106.setTop (mkF m 169 #[.val (.int p0), .val (.int p1), .val (.long v0), .second, .val (.long v1), .second, .val (.long v2), .second, .val (.long v3), .second, .val (.int (1 : Int32)), .val (.ref aa), .val (.int (3 : Int32)), .val (.ref r), .val (.ref ax), .val (.long (0 : Int64)), .second, .unset, .unset] [(.int (3 : Int32)), (.int (3 : Int32))]))
          refine own_go (fun _ k => XS.icmpNo X106.here hx rfl (hb hby at_169) rfl (by decide) k) ?_
          show own_E _ _ _ _ _ _ _ (T106.setTop (mkF m 172 #[.val (.int p0), .val (.int p1), .val (.long v0), .second, .val (.long v1), .second, .val (.long v2), .second, .val (.long v3), .second, .val (.int (1 : Int32)), .val (.ref aa), .val (.int (3 : Int32)), .val (.ref r), .val (.ref ax), .val (.long (0 : Int64)), .second, .unset, .unset] []))
          refine own_go (fun _ k => XS.iload X106.here hx rfl (hb hby at_172) rfl k) ?_
          show own_E _ _ _ _ _ _ _ (T106.setTop (mkF m 174 #[.val (.int p0), .val (.int p1), .val (.long v0), .second, .val (.long v1), .second, .val (.long v2), .second, .val (.long v3), .second, .val (.int (1 : Int32)), .val (.ref aa), .val (.int (3 : Int32)), .val (.ref r), .val (.ref ax), .val (.long (0 : Int64)), .second, .unset, .unset] [(.int (1 : Int32))]))
          refine own_go (fun _ k => XT.iconstV X106.here hx rfl (3 : Int32) (hb hby at_174) (by decide) k) ?_
          show own_E _ _ _ _ _ _ _ (T106.setTop (mkF m 175 #[.val (.int p0), .val (.int p1), .val (.long v0), .second, .val (.long v1), .second, .val (.long v2), .second, .val (.long v3), .second, .val (.int (1 : Int32)), .val (.ref aa), .val (.int (3 : Int32)), .val (.ref r), .val (.ref ax), .val (.long (0 : Int64)), .second, .unset, .unset] [(.int (3 : Int32)), (.int (1 : Int32))]))
          refine own_go (fun _ k => XS.icmpYes X106.here hx rfl (pc0 := 175) (pc' := 185) rfl (hb hby at_175) rfl (by decide) (by decide) (by decide) k) ?_
          show own_E _ _ _ _ _ _ _ (T106.setTop (mkF m 185 #[.val (.int p0), .val (.int p1), .val (.long v0), .second, .val (.long v1), .second, .val (.long v2), .second, .val (.long v3), .second, .val (.int (1 : Int32)), .val (.ref aa), .val (.int (3 : Int32)), .val (.ref r), .val (.ref ax), .val (.long (0 : Int64)), .second, .unset, .unset] []))
          refine own_go (fun _ k => XS.iload X106.here hx rfl (hb hby at_185) rfl k) ?_
          show own_E _ _ _ _ _ _ _ (T106.setTop (mkF m 187 #[.val (.int p0), .val (.int p1), .val (.long v0), .second, .val (.long v1), .second, .val (.long v2), .second, .val (.long v3), .second, .val (.int (1 : Int32)), .val (.ref aa), .val (.int (3 : Int32)), .val (.ref r), .val (.ref ax), .val (.long (0 : Int64)), .second, .unset, .unset] [(.int (3 : Int32))]))
          refine own_go (fun _ k => XT.iconstV X106.here hx rfl (4 : Int32) (hb hby at_187) (by decide) k) ?_
          show own_E _ _ _ _ _ _ _ (T106.setTop (mkF m 188 #[.val (.int p0), .val (.int p1), .val (.long v0), .second, .val (.long v1), .second, .val (.long v2), .second, .val (.long v3), .second, .val (.int (1 : Int32)), .val (.ref aa), .val (.int (3 : Int32)), .val (.ref r), .val (.ref ax), .val (.long (0 : Int64)), .second, .unset, .unset] [(.int (4 : Int32)), (.int (3 : Int32))]))
          refine own_go (fun _ k => XS.icmpYes X106.here hx rfl (pc0 := 188) (pc' := 204) rfl (hb hby at_188) rfl (by decide) (by decide) (by decide) k) ?_
          show own_E _ _ _ _ _ _ _ (T106.setTop (mkF m 204 #[.val (.int p0), .val (.int p1), .val (.long v0), .second, .val (.long v1), .second, .val (.long v2), .second, .val (.long v3), .second, .val (.int (1 : Int32)), .val (.ref aa), .val (.int (3 : Int32)), .val (.ref r), .val (.ref ax), .val (.long (0 : Int64)), .second, .unset, .unset] []))
          refine own_go (fun _ k => XT.lconstV X106.here hx rfl (0 : Int64) (hb hby at_204) (by decide) k) ?_
          show own_E _ _ _ _ _ _ _ (T106.setTop (mkF m 205 #[.val (.int p0), .val (.int p1), .val (.long v0), .second, .val (.long v1), .second, .val (.long v2), .second, .val (.long v3), .second, .val (.int (1 : Int32)), .val (.ref aa), .val (.int (3 : Int32)), .val (.ref r), .val (.ref ax), .val (.long (0 : Int64)), .second, .unset, .unset] [(.long (0 : Int64))]))
          refine own_go (fun _ k => XT.lstore X106.here hx rfl (hb hby at_205) rfl (l' := #[.val (.int p0), .val (.int p1), .val (.long v0), .second, .val (.long v1), .second, .val (.long v2), .second, .val (.long v3), .second, .val (.int (1 : Int32)), .val (.ref aa), .val (.int (3 : Int32)), .val (.ref r), .val (.ref ax), .val (.long (0 : Int64)), .second, .val (.long (0 : Int64)), .second]) rfl k) ?_
          show own_E _ _ _ _ _ _ _ (T106.setTop (mkF m 207 #[.val (.int p0), .val (.int p1), .val (.long v0), .second, .val (.long v1), .second, .val (.long v2), .second, .val (.long v3), .second, .val (.int (1 : Int32)), .val (.ref aa), .val (.int (3 : Int32)), .val (.ref r), .val (.ref ax), .val (.long (0 : Int64)), .second, .val (.long (0 : Int64)), .second] []))
          refine own_go (fun _ k => XT.lload X106.here hx rfl (hb hby at_207) rfl k) ?_
          show own_E _ _ _ _ _ _ _ (T106.setTop (mkF m 209 #[.val (.int p0), .val (.int p1), .val (.long v0), .second, .val (.long v1), .second, .val (.long v2), .second, .val (.long v3), .second, .val (.int (1 : Int32)), .val (.ref aa), .val (.int (3 : Int32)), .val (.ref r), .val (.ref ax), .val (.long (0 : Int64)), .second, .val (.long (0 : Int64)), .second] [(.long (0 : Int64))]))
          refine own_go (fun _ k => XT.lload X106.here hx rfl (hb hby at_209) rfl k) ?_
          show own_E _ _ _ _ _ _ _ (T106.setTop (mkF m 211 #[.val (.int p0), .val (.int p1), .val (.long v0), .second, .val (.long v1), .second, .val (.long v2), .second, .val (.long v3), .second, .val (.int (1 : Int32)), .val (.ref aa), .val (.int (3 : Int32)), .val (.ref r), .val (.ref ax), .val (.long (0 : Int64)), .second, .val (.long (0 : Int64)), .second] [(.long (0 : Int64)), (.long (0 : Int64))]))
          refine own_go (fun _ k => XT.lcmp X106.here hx rfl (hb hby at_211) rfl k) ?_
          show own_E _ _ _ _ _ _ _ (T106.setTop (mkF m 212 #[.val (.int p0), .val (.int p1), .val (.long v0), .second, .val (.long v1), .second, .val (.long v2), .second, .val (.long v3), .second, .val (.int (1 : Int32)), .val (.ref aa), .val (.int (3 : Int32)), .val (.ref r), .val (.ref ax), .val (.long (0 : Int64)), .second, .val (.long (0 : Int64)), .second] [(.int (XT.cmpL (0 : Int64) (0 : Int64)))]))
          refine own_go (fun _ k => XS.ifNo X106.here hx rfl (hb hby at_212) rfl (XT.ll_ne_f rfl) k) ?_
          show own_E _ _ _ _ _ _ _ (T106.setTop (mkF m 215 #[.val (.int p0), .val (.int p1), .val (.long v0), .second, .val (.long v1), .second, .val (.long v2), .second, .val (.long v3), .second, .val (.int (1 : Int32)), .val (.ref aa), .val (.int (3 : Int32)), .val (.ref r), .val (.ref ax), .val (.long (0 : Int64)), .second, .val (.long (0 : Int64)), .second] []))
          refine own_go (fun _ k => XT.iconstV X106.here hx rfl (1 : Int32) (hb hby at_215) (by decide) k) ?_
          show own_E _ _ _ _ _ _ _ (T106.setTop (mkF m 216 #[.val (.int p0), .val (.int p1), .val (.long v0), .second, .val (.long v1), .second, .val (.long v2), .second, .val (.long v3), .second, .val (.int (1 : Int32)), .val (.ref aa), .val (.int (3 : Int32)), .val (.ref r), .val (.ref ax), .val (.long (0 : Int64)), .second, .val (.long (0 : Int64)), .second] [(.int (1 : Int32))]))
          refine own_go (fun _ k => XS.goto X106.here hx rfl (pc0 := 216) (pc' := 220) rfl (hb hby at_216) (by decide) (by decide) k) ?_
          show own_E _ _ _ _ _ _ _ (T106.setTop (mkF m 220 #[.val (.int p0), .val (.int p1), .val (.long v0), .second, .val (.long v1), .second, .val (.long v2), .second, .val (.long v3), .second, .val (.int (1 : Int32)), .val (.ref aa), .val (.int (3 : Int32)), .val (.ref r), .val (.ref ax), .val (.long (0 : Int64)), .second, .val (.long (0 : Int64)), .second] [(.int (1 : Int32))]))
          exact own_ret X106 hx Bd.returns Bd.notSynchronized rfl (Or.inl ⟨rfl, by simp, _, rfl⟩) (hb hby at_220) (by rw [e106]; exact ⟨rfl, M106⟩) (by decide) (by decide)
        ·
          rw [show own_r (4 : Int32) (1 : Int32) v0 v1 v2 v3 = (0 : Int64) from rfl]
          show own_E _ _ _ _ _ _ _ (T106.setTop (mkF m 127 #[.val (.int p0), .val (.int p1), .val (.long v0), .second, .val (.long v1), .second, .val (.long v2), .second, .val (.long v3), .second, .val (.int (1 : Int32)), .val (.ref aa), .val (.int (4 : Int32)), .val (.ref r), .val (.ref ax), .unset, .unset, .unset, .unset] [(.long (0 : Int64))]))
          refine own_go (fun _ k => XT.lstore X106.here hx rfl (hb hby at_127) rfl (l' := #[.val (.int p0), .val (.int p1), .val (.long v0), .second, .val (.long v1), .second, .val (.long v2), .second, .val (.long v3), .second, .val (.int (1 : Int32)), .val (.ref aa), .val (.int (4 : Int32)), .val (.ref r), .val (.ref ax), .val (.long (0 : Int64)), .second, .unset, .unset]) rfl k) ?_
          show own_E _ _ _ _ _ _ _ (T106.setTop (mkF m 129 #[.val (.int p0), .val (.int p1), .val (.long v0), .second, .val (.long v1), .second, .val (.long v2), .second, .val (.long v3), .second, .val (.int (1 : Int32)), .val (.ref aa), .val (.int (4 : Int32)), .val (.ref r), .val (.ref ax), .val (.long (0 : Int64)), .second, .unset, .unset] []))
          refine own_go (fun _ k => XS.iload X106.here hx rfl (hb hby at_129) rfl k) ?_
          show own_E _ _ _ _ _ _ _ (T106.setTop (mkF m 131 #[.val (.int p0), .val (.int p1), .val (.long v0), .second, .val (.long v1), .second, .val (.long v2), .second, .val (.long v3), .second, .val (.int (1 : Int32)), .val (.ref aa), .val (.int (4 : Int32)), .val (.ref r), .val (.ref ax), .val (.long (0 : Int64)), .second, .unset, .unset] [(.int (4 : Int32))]))
          refine own_go (fun _ k => XT.iconstV X106.here hx rfl (1 : Int32) (hb hby at_131) (by decide) k) ?_
          show own_E _ _ _ _ _ _ _ (T106.setTop (mkF m 132 #[.val (.int p0), .val (.int p1), .val (.long v0), .second, .val (.long v1), .second, .val (.long v2), .second, .val (.long v3), .second, .val (.int (1 : Int32)), .val (.ref aa), .val (.int (4 : Int32)), .val (.ref r), .val (.ref ax), .val (.long (0 : Int64)), .second, .unset, .unset] [(.int (1 : Int32)), (.int (4 : Int32))]))
          refine own_go (fun _ k => XS.icmpYes X106.here hx rfl (pc0 := 132) (pc' := 147) rfl (hb hby at_132) rfl (by decide) (by decide) (by decide) k) ?_
          show own_E _ _ _ _ _ _ _ (T106.setTop (mkF m 147 #[.val (.int p0), .val (.int p1), .val (.long v0), .second, .val (.long v1), .second, .val (.long v2), .second, .val (.long v3), .second, .val (.int (1 : Int32)), .val (.ref aa), .val (.int (4 : Int32)), .val (.ref r), .val (.ref ax), .val (.long (0 : Int64)), .second, .unset, .unset] []))
          refine own_go (fun _ k => XS.iload X106.here hx rfl (hb hby at_147) rfl k) ?_
          show own_E _ _ _ _ _ _ _ (T106.setTop (mkF m 149 #[.val (.int p0), .val (.int p1), .val (.long v0), .second, .val (.long v1), .second, .val (.long v2), .second, .val (.long v3), .second, .val (.int (1 : Int32)), .val (.ref aa), .val (.int (4 : Int32)), .val (.ref r), .val (.ref ax), .val (.long (0 : Int64)), .second, .unset, .unset] [(.int (4 : Int32))]))
          refine own_go (fun _ k => XT.iconstV X106.here hx rfl (2 : Int32) (hb hby at_149) (by decide) k) ?_
          show own_E _ _ _ _ _ _ _ (T106.setTop (mkF m 150 #[.val (.int p0), .val (.int p1), .val (.long v0), .second, .val (.long v1), .second, .val (.long v2), .second, .val (.long v3), .second, .val (.int (1 : Int32)), .val (.ref aa), .val (.int (4 : Int32)), .val (.ref r), .val (.ref ax), .val (.long (0 : Int64)), .second, .unset, .unset] [(.int (2 : Int32)), (.int (4 : Int32))]))
          refine own_go (fun _ k => XS.icmpYes X106.here hx rfl (pc0 := 150) (pc' := 166) rfl (hb hby at_150) rfl (by decide) (by decide) (by decide) k) ?_
          show own_E _ _ _ _ _ _ _ (T106.setTop (mkF m 166 #[.val (.int p0), .val (.int p1), .val (.long v0), .second, .val (.long v1), .second, .val (.long v2), .second, .val (.long v3), .second, .val (.int (1 : Int32)), .val (.ref aa), .val (.int (4 : Int32)), .val (.ref r), .val (.ref ax), .val (.long (0 : Int64)), .second, .unset, .unset] []))
          refine own_go (fun _ k => XS.iload X106.here hx rfl (hb hby at_166) rfl k) ?_
          show own_E _ _ _ _ _ _ _ (T106.setTop (mkF m 168 #[.val (.int p0), .val (.int p1), .val (.long v0), .second, .val (.long v1), .second, .val (.long v2), .second, .val (.long v3), .second, .val (.int (1 : Int32)), .val (.ref aa), .val (.int (4 : Int32)), .val (.ref r), .val (.ref ax), .val (.long (0 : Int64)), .second, .unset, .unset] [(.int (4 : Int32))]))
          refine own_go (fun _ k => XT.iconstV X106.here hx rfl (3 : Int32) (hb hby at_168) (by decide) k) ?_
          show own_E _ _ _ _ _ _ _ (T106.setTop (mkF m 169 #[.val (.int p0), .val (.int p1), .val (.long v0), .second, .val (.long v1), .second, .val (.long v2), .second, .val (.long v3), .second, .val (.int (1 : Int32)), .val (.ref aa), .val (.int (4 : Int32)), .val (.ref r), .val (.ref ax), .val (.long (0 : Int64)), .second, .unset, .unset] [(.int (3 : Int32)), (.int (4 : Int32))]))
          refine own_go (fun _ k => XS.icmpYes X106.here hx rfl (pc0 := 169) (pc' := 185) rfl (hb hby at_169) rfl (by decide) (by decide) (by decide) k) ?_
          show own_E _ _ _ _ _ _ _ (T106.setTop (mkF m 185 #[.val (.int p0), .val (.int p1), .val (.long v0), .second, .val (.long v1), .second, .val (.long v2), .second, .val (.long v3), .second, .val (.int (1 : Int32)), .val (.ref aa), .val (.int (4 : Int32)), .val (.ref r), .val (.ref ax), .val (.long (0 : Int64)), .second, .unset, .unset] []))
          refine own_go (fun _ k => XS.iload X106.here hx rfl (hb hby at_185) rfl k) ?_
          show own_E _ _ _ _ _ _ _ (T106.setTop (mkF m 187 #[.val (.int p0), .val (.int p1), .val (.long v0), .second, .val (.long v1), .second, .val (.long v2), .second, .val (.long v3), .second, .val (.int (1 : Int32)), .val (.ref aa), .val (.int (4 : Int32)), .val (.ref r), .val (.ref ax), .val (.long (0 : Int64)), .second, .unset, .unset] [(.int (4 : Int32))]))
          refine own_go (fun _ k => XT.iconstV X106.here hx rfl (4 : Int32) (hb hby at_187) (by decide) k) ?_
          show own_E _ _ _ _ _ _ _ (T106.setTop (mkF m 188 #[.val (.int p0), .val (.int p1), .val (.long v0), .second, .val (.long v1), .second, .val (.long v2), .second, .val (.long v3), .second, .val (.int (1 : Int32)), .val (.ref aa), .val (.int (4 : Int32)), .val (.ref r), .val (.ref ax), .val (.long (0 : Int64)), .second, .unset, .unset] [(.int (4 : Int32)), (.int (4 : Int32))]))
          refine own_go (fun _ k => XS.icmpNo X106.here hx rfl (hb hby at_188) rfl (by decide) k) ?_
          show own_E _ _ _ _ _ _ _ (T106.setTop (mkF m 191 #[.val (.int p0), .val (.int p1), .val (.long v0), .second, .val (.long v1), .second, .val (.long v2), .second, .val (.long v3), .second, .val (.int (1 : Int32)), .val (.ref aa), .val (.int (4 : Int32)), .val (.ref r), .val (.ref ax), .val (.long (0 : Int64)), .second, .unset, .unset] []))
          refine own_go (fun _ k => XS.iload X106.here hx rfl (hb hby at_191) rfl k) ?_
          show own_E _ _ _ _ _ _ _ (T106.setTop (mkF m 193 #[.val (.int p0), .val (.int p1), .val (.long v0), .second, .val (.long v1), .second, .val (.long v2), .second, .val (.long v3), .second, .val (.int (1 : Int32)), .val (.ref aa), .val (.int (4 : Int32)), .val (.ref r), .val (.ref ax), .val (.long (0 : Int64)), .second, .unset, .unset] [(.int (1 : Int32))]))
          refine own_go (fun _ k => XT.iconstV X106.here hx rfl (4 : Int32) (hb hby at_193) (by decide) k) ?_
          show own_E _ _ _ _ _ _ _ (T106.setTop (mkF m 194 #[.val (.int p0), .val (.int p1), .val (.long v0), .second, .val (.long v1), .second, .val (.long v2), .second, .val (.long v3), .second, .val (.int (1 : Int32)), .val (.ref aa), .val (.int (4 : Int32)), .val (.ref r), .val (.ref ax), .val (.long (0 : Int64)), .second, .unset, .unset] [(.int (4 : Int32)), (.int (1 : Int32))]))
          refine own_go (fun _ k => XS.icmpYes X106.here hx rfl (pc0 := 194) (pc' := 204) rfl (hb hby at_194) rfl (by decide) (by decide) (by decide) k) ?_
          show own_E _ _ _ _ _ _ _ (T106.setTop (mkF m 204 #[.val (.int p0), .val (.int p1), .val (.long v0), .second, .val (.long v1), .second, .val (.long v2), .second, .val (.long v3), .second, .val (.int (1 : Int32)), .val (.ref aa), .val (.int (4 : Int32)), .val (.ref r), .val (.ref ax), .val (.long (0 : Int64)), .second, .unset, .unset] []))
          refine own_go (fun _ k => XT.lconstV X106.here hx rfl (0 : Int64) (hb hby at_204) (by decide) k) ?_
          show own_E _ _ _ _ _ _ _ (T106.setTop (mkF m 205 #[.val (.int p0), .val (.int p1), .val (.long v0), .second, .val (.long v1), .second, .val (.long v2), .second, .val (.long v3), .second, .val (.int (1 : Int32)), .val (.ref aa), .val (.int (4 : Int32)), .val (.ref r), .val (.ref ax), .val (.long (0 : Int64)), .second, .unset, .unset] [(.long (0 : Int64))]))
          refine own_go (fun _ k => XT.lstore X106.here hx rfl (hb hby at_205) rfl (l' := #[.val (.int p0), .val (.int p1), .val (.long v0), .second, .val (.long v1), .second, .val (.long v2), .second, .val (.long v3), .second, .val (.int (1 : Int32)), .val (.ref aa), .val (.int (4 : Int32)), .val (.ref r), .val (.ref ax), .val (.long (0 : Int64)), .second, .val (.long (0 : Int64)), .second]) rfl k) ?_
          show own_E _ _ _ _ _ _ _ (T106.setTop (mkF m 207 #[.val (.int p0), .val (.int p1), .val (.long v0), .second, .val (.long v1), .second, .val (.long v2), .second, .val (.long v3), .second, .val (.int (1 : Int32)), .val (.ref aa), .val (.int (4 : Int32)), .val (.ref r), .val (.ref ax), .val (.long (0 : Int64)), .second, .val (.long (0 : Int64)), .second] []))
          refine own_go (fun _ k => XT.lload X106.here hx rfl (hb hby at_207) rfl k) ?_
          show own_E _ _ _ _ _ _ _ (T106.setTop (mkF m 209 #[.val (.int p0), .val (.int p1), .val (.long v0), .second, .val (.long v1), .second, .val (.long v2), .second, .val (.long v3), .second, .val (.int (1 : Int32)), .val (.ref aa), .val (.int (4 : Int32)), .val (.ref r), .val (.ref ax), .val (.long (0 : Int64)), .second, .val (.long (0 : Int64)), .second] [(.long (0 : Int64))]))
          refine own_go (fun _ k => XT.lload X106.here hx rfl (hb hby at_209) rfl k) ?_
          show own_E _ _ _ _ _ _ _ (T106.setTop (mkF m 211 #[.val (.int p0), .val (.int p1), .val (.long v0), .second, .val (.long v1), .second, .val (.long v2), .second, .val (.long v3), .second, .val (.int (1 : Int32)), .val (.ref aa), .val (.int (4 : Int32)), .val (.ref r), .val (.ref ax), .val (.long (0 : Int64)), .second, .val (.long (0 : Int64)), .second] [(.long (0 : Int64)), (.long (0 : Int64))]))
          refine own_go (fun _ k => XT.lcmp X106.here hx rfl (hb hby at_211) rfl k) ?_
          show own_E _ _ _ _ _ _ _ (T106.setTop (mkF m 212 #[.val (.int p0), .val (.int p1), .val (.long v0), .second, .val (.long v1), .second, .val (.long v2), .second, .val (.long v3), .second, .val (.int (1 : Int32)), .val (.ref aa), .val (.int (4 : Int32)), .val (.ref r), .val (.ref ax), .val (.long (0 : Int64)), .second, .val (.long (0 : Int64)), .second] [(.int (XT.cmpL (0 : Int64) (0 : Int64)))]))
          refine own_go (fun _ k => XS.ifNo X106.here hx rfl (hb hby at_212) rfl (XT.ll_ne_f rfl) k) ?_
          show own_E _ _ _ _ _ _ _ (T106.setTop (mkF m 215 #[.val (.int p0), .val (.int p1), .val (.long v0), .second, .val (.long v1), .second, .val (.long v2), .second, .val (.long v3), .second, .val (.int (1 : Int32)), .val (.ref aa), .val (.int (4 : Int32)), .val (.ref r), .val (.ref ax), .val (.long (0 : Int64)), .second, .val (.long (0 : Int64)), .second] []))
          refine own_go (fun _ k => XT.iconstV X106.here hx rfl (1 : Int32) (hb hby at_215) (by decide) k) ?_
          show own_E _ _ _ _ _ _ _ (T106.setTop (mkF m 216 #[.val (.int p0), .val (.int p1), .val (.long v0), .second, .val (.long v1), .second, .val (.long v2), .second, .val (.long v3), .second, .val (.int (1 : Int32)), .val (.ref aa), .val (.int (4 : Int32)), .val (.ref r), .val (.ref ax), .val (.long (0 : Int64)), .second, .val (.long (0 : Int64)), .second] [(.int (1 : Int32))]))
          refine own_go (fun _ k => XS.goto X106.here hx rfl (pc0 := 216) (pc' := 220) rfl (hb hby at_216) (by decide) (by decide) k) ?_
          show own_E _ _ _ _ _ _ _ (T106.setTop (mkF m 220 #[.val (.int p0), .val (.int p1), .val (.long v0), .second, .val (.long v1), .second, .val (.long v2), .second, .val (.long v3), .second, .val (.int (1 : Int32)), .val (.ref aa), .val (.int (4 : Int32)), .val (.ref r), .val (.ref ax), .val (.long (0 : Int64)), .second, .val (.long (0 : Int64)), .second] [(.int (1 : Int32))]))
          exact own_ret X106 hx Bd.returns Bd.notSynchronized rfl (Or.inl ⟨rfl, by simp, _, rfl⟩) (hb hby at_220) (by rw [e106]; exact ⟨rfl, M106⟩) (by decide) (by decide)
        ·
          rw [show own_r n (1 : Int32) v0 v1 v2 v3 = 0 from own_far h5 (by decide)]
          show own_E _ _ _ _ _ _ _ (T106.setTop (mkF m 127 #[.val (.int p0), .val (.int p1), .val (.long v0), .second, .val (.long v1), .second, .val (.long v2), .second, .val (.long v3), .second, .val (.int (1 : Int32)), .val (.ref aa), .val (.int n), .val (.ref r), .val (.ref ax), .unset, .unset, .unset, .unset] [(.long (0 : Int64))]))
          refine own_go (fun _ k => XT.lstore X106.here hx rfl (hb hby at_127) rfl (l' := #[.val (.int p0), .val (.int p1), .val (.long v0), .second, .val (.long v1), .second, .val (.long v2), .second, .val (.long v3), .second, .val (.int (1 : Int32)), .val (.ref aa), .val (.int n), .val (.ref r), .val (.ref ax), .val (.long (0 : Int64)), .second, .unset, .unset]) rfl k) ?_
          show own_E _ _ _ _ _ _ _ (T106.setTop (mkF m 129 #[.val (.int p0), .val (.int p1), .val (.long v0), .second, .val (.long v1), .second, .val (.long v2), .second, .val (.long v3), .second, .val (.int (1 : Int32)), .val (.ref aa), .val (.int n), .val (.ref r), .val (.ref ax), .val (.long (0 : Int64)), .second, .unset, .unset] []))
          refine own_go (fun _ k => XS.iload X106.here hx rfl (hb hby at_129) rfl k) ?_
          show own_E _ _ _ _ _ _ _ (T106.setTop (mkF m 131 #[.val (.int p0), .val (.int p1), .val (.long v0), .second, .val (.long v1), .second, .val (.long v2), .second, .val (.long v3), .second, .val (.int (1 : Int32)), .val (.ref aa), .val (.int n), .val (.ref r), .val (.ref ax), .val (.long (0 : Int64)), .second, .unset, .unset] [(.int n)]))
          refine own_go (fun _ k => XT.iconstV X106.here hx rfl (1 : Int32) (hb hby at_131) (by decide) k) ?_
          show own_E _ _ _ _ _ _ _ (T106.setTop (mkF m 132 #[.val (.int p0), .val (.int p1), .val (.long v0), .second, .val (.long v1), .second, .val (.long v2), .second, .val (.long v3), .second, .val (.int (1 : Int32)), .val (.ref aa), .val (.int n), .val (.ref r), .val (.ref ax), .val (.long (0 : Int64)), .second, .unset, .unset] [(.int (1 : Int32)), (.int n)]))
          refine own_go (fun _ k => XS.icmpYes X106.here hx rfl (pc0 := 132) (pc' := 147) rfl (hb hby at_132) rfl (feq (own_nq h5 (by decide))).2 (by decide) (by decide) k) ?_
          show own_E _ _ _ _ _ _ _ (T106.setTop (mkF m 147 #[.val (.int p0), .val (.int p1), .val (.long v0), .second, .val (.long v1), .second, .val (.long v2), .second, .val (.long v3), .second, .val (.int (1 : Int32)), .val (.ref aa), .val (.int n), .val (.ref r), .val (.ref ax), .val (.long (0 : Int64)), .second, .unset, .unset] []))
          refine own_go (fun _ k => XS.iload X106.here hx rfl (hb hby at_147) rfl k) ?_
          show own_E _ _ _ _ _ _ _ (T106.setTop (mkF m 149 #[.val (.int p0), .val (.int p1), .val (.long v0), .second, .val (.long v1), .second, .val (.long v2), .second, .val (.long v3), .second, .val (.int (1 : Int32)), .val (.ref aa), .val (.int n), .val (.ref r), .val (.ref ax), .val (.long (0 : Int64)), .second, .unset, .unset] [(.int n)]))
          refine own_go (fun _ k => XT.iconstV X106.here hx rfl (2 : Int32) (hb hby at_149) (by decide) k) ?_
          show own_E _ _ _ _ _ _ _ (T106.setTop (mkF m 150 #[.val (.int p0), .val (.int p1), .val (.long v0), .second, .val (.long v1), .second, .val (.long v2), .second, .val (.long v3), .second, .val (.int (1 : Int32)), .val (.ref aa), .val (.int n), .val (.ref r), .val (.ref ax), .val (.long (0 : Int64)), .second, .unset, .unset] [(.int (2 : Int32)), (.int n)]))
          refine own_go (fun _ k => XS.icmpYes X106.here hx rfl (pc0 := 150) (pc' := 166) rfl (hb hby at_150) rfl (feq (own_nq h5 (by decide))).2 (by decide) (by decide) k) ?_
          show own_E _ _ _ _ _ _ _ (T106.setTop (mkF m 166 #[.val (.int p0), .val (.int p1), .val (.long v0), .second, .val (.long v1), .second, .val (.long v2), .second, .val (.long v3), .second, .val (.int (1 : Int32)), .val (.ref aa), .val (.int n), .val (.ref r), .val (.ref ax), .val (.long (0 : Int64)), .second, .unset, .unset] []))
          refine own_go (fun _ k => XS.iload X106.here hx rfl (hb hby at_166) rfl k) ?_
          show own_E _ _ _ _ _ _ _ (T106.setTop (mkF m 168 #[.val (.int p0), .val (.int p1), .val (.long v0), .second, .val (.long v1), .second, .val (.long v2), .second, .val (.long v3), .second, .val (.int (1 : Int32)), .val (.ref aa), .val (.int n), .val (.ref r), .val (.ref ax), .val (.long (0 : Int64)), .second, .unset, .unset] [(.int n)]))
          refine own_go (fun _ k => XT.iconstV X106.here hx rfl (3 : Int32) (hb hby at_168) (by decide) k) ?_
          show own_E _ _ _ _ _ _ _ (T106.setTop (mkF m 169 #[.val (.int p0), .val (.int p1), .val (.long v0), .second, .val (.long v1), .second, .val (.long v2), .second, .val (.long v3), .second, .val (.int (1 : Int32)), .val (.ref aa), .val (.int n), .val (.ref r), .val (.ref ax), .val (.long (0 : Int64)), .second, .unset, .unset] [(.int (3 : Int32)), (.int n)]))
          refine own_go (fun _ k => XS.icmpYes X106.here hx rfl (pc0 := 169) (pc' := 185) rfl (hb hby at_169) rfl (feq (own_nq h5 (by decide))).2 (by decide) (by decide) k) ?_
          show own_E _ _ _ _ _ _ _ (T106.setTop (mkF m 185 #[.val (.int p0), .val (.int p1), .val (.long v0), .second, .val (.long v1), .second, .val (.long v2), .second, .val (.long v3), .second, .val (.int (1 : Int32)), .val (.ref aa), .val (.int n), .val (.ref r), .val (.ref ax), .val (.long (0 : Int64)), .second, .unset, .unset] []))
          refine own_go (fun _ k => XS.iload X106.here hx rfl (hb hby at_185) rfl k) ?_
          show own_E _ _ _ _ _ _ _ (T106.setTop (mkF m 187 #[.val (.int p0), .val (.int p1), .val (.long v0), .second, .val (.long v1), .second, .val (.long v2), .second, .val (.long v3), .second, .val (.int (1 : Int32)), .val (.ref aa), .val (.int n), .val (.ref r), .val (.ref ax), .val (.long (0 : Int64)), .second, .unset, .unset] [(.int n)]))
          refine own_go (fun _ k => XT.iconstV X106.here hx rfl (4 : Int32) (hb hby at_187) (by decide) k) ?_
          show own_E _ _ _ _ _ _ _ (T106.setTop (mkF m 188 #[.val (.int p0), .val (.int p1), .val (.long v0), .second, .val (.long v1), .second, .val (.long v2), .second, .val (.long v3), .second, .val (.int (1 : Int32)), .val (.ref aa), .val (.int n), .val (.ref r), .val (.ref ax), .val (.long (0 : Int64)), .second, .unset, .unset] [(.int (4 : Int32)), (.int n)]))
          refine own_go (fun _ k => XS.icmpYes X106.here hx rfl (pc0 := 188) (pc' := 204) rfl (hb hby at_188) rfl (feq (own_nq h5 (by decide))).2 (by decide) (by decide) k) ?_
          show own_E _ _ _ _ _ _ _ (T106.setTop (mkF m 204 #[.val (.int p0), .val (.int p1), .val (.long v0), .second, .val (.long v1), .second, .val (.long v2), .second, .val (.long v3), .second, .val (.int (1 : Int32)), .val (.ref aa), .val (.int n), .val (.ref r), .val (.ref ax), .val (.long (0 : Int64)), .second, .unset, .unset] []))
          refine own_go (fun _ k => XT.lconstV X106.here hx rfl (0 : Int64) (hb hby at_204) (by decide) k) ?_
          show own_E _ _ _ _ _ _ _ (T106.setTop (mkF m 205 #[.val (.int p0), .val (.int p1), .val (.long v0), .second, .val (.long v1), .second, .val (.long v2), .second, .val (.long v3), .second, .val (.int (1 : Int32)), .val (.ref aa), .val (.int n), .val (.ref r), .val (.ref ax), .val (.long (0 : Int64)), .second, .unset, .unset] [(.long (0 : Int64))]))
          refine own_go (fun _ k => XT.lstore X106.here hx rfl (hb hby at_205) rfl (l' := #[.val (.int p0), .val (.int p1), .val (.long v0), .second, .val (.long v1), .second, .val (.long v2), .second, .val (.long v3), .second, .val (.int (1 : Int32)), .val (.ref aa), .val (.int n), .val (.ref r), .val (.ref ax), .val (.long (0 : Int64)), .second, .val (.long (0 : Int64)), .second]) rfl k) ?_
          show own_E _ _ _ _ _ _ _ (T106.setTop (mkF m 207 #[.val (.int p0), .val (.int p1), .val (.long v0), .second, .val (.long v1), .second, .val (.long v2), .second, .val (.long v3), .second, .val (.int (1 : Int32)), .val (.ref aa), .val (.int n), .val (.ref r), .val (.ref ax), .val (.long (0 : Int64)), .second, .val (.long (0 : Int64)), .second] []))
          refine own_go (fun _ k => XT.lload X106.here hx rfl (hb hby at_207) rfl k) ?_
          show own_E _ _ _ _ _ _ _ (T106.setTop (mkF m 209 #[.val (.int p0), .val (.int p1), .val (.long v0), .second, .val (.long v1), .second, .val (.long v2), .second, .val (.long v3), .second, .val (.int (1 : Int32)), .val (.ref aa), .val (.int n), .val (.ref r), .val (.ref ax), .val (.long (0 : Int64)), .second, .val (.long (0 : Int64)), .second] [(.long (0 : Int64))]))
          refine own_go (fun _ k => XT.lload X106.here hx rfl (hb hby at_209) rfl k) ?_
          show own_E _ _ _ _ _ _ _ (T106.setTop (mkF m 211 #[.val (.int p0), .val (.int p1), .val (.long v0), .second, .val (.long v1), .second, .val (.long v2), .second, .val (.long v3), .second, .val (.int (1 : Int32)), .val (.ref aa), .val (.int n), .val (.ref r), .val (.ref ax), .val (.long (0 : Int64)), .second, .val (.long (0 : Int64)), .second] [(.long (0 : Int64)), (.long (0 : Int64))]))
          refine own_go (fun _ k => XT.lcmp X106.here hx rfl (hb hby at_211) rfl k) ?_
          show own_E _ _ _ _ _ _ _ (T106.setTop (mkF m 212 #[.val (.int p0), .val (.int p1), .val (.long v0), .second, .val (.long v1), .second, .val (.long v2), .second, .val (.long v3), .second, .val (.int (1 : Int32)), .val (.ref aa), .val (.int n), .val (.ref r), .val (.ref ax), .val (.long (0 : Int64)), .second, .val (.long (0 : Int64)), .second] [(.int (XT.cmpL (0 : Int64) (0 : Int64)))]))
          refine own_go (fun _ k => XS.ifNo X106.here hx rfl (hb hby at_212) rfl (XT.ll_ne_f rfl) k) ?_
          show own_E _ _ _ _ _ _ _ (T106.setTop (mkF m 215 #[.val (.int p0), .val (.int p1), .val (.long v0), .second, .val (.long v1), .second, .val (.long v2), .second, .val (.long v3), .second, .val (.int (1 : Int32)), .val (.ref aa), .val (.int n), .val (.ref r), .val (.ref ax), .val (.long (0 : Int64)), .second, .val (.long (0 : Int64)), .second] []))
          refine own_go (fun _ k => XT.iconstV X106.here hx rfl (1 : Int32) (hb hby at_215) (by decide) k) ?_
          show own_E _ _ _ _ _ _ _ (T106.setTop (mkF m 216 #[.val (.int p0), .val (.int p1), .val (.long v0), .second, .val (.long v1), .second, .val (.long v2), .second, .val (.long v3), .second, .val (.int (1 : Int32)), .val (.ref aa), .val (.int n), .val (.ref r), .val (.ref ax), .val (.long (0 : Int64)), .second, .val (.long (0 : Int64)), .second] [(.int (1 : Int32))]))
          refine own_go (fun _ k => XS.goto X106.here hx rfl (pc0 := 216) (pc' := 220) rfl (hb hby at_216) (by decide) (by decide) k) ?_
          show own_E _ _ _ _ _ _ _ (T106.setTop (mkF m 220 #[.val (.int p0), .val (.int p1), .val (.long v0), .second, .val (.long v1), .second, .val (.long v2), .second, .val (.long v3), .second, .val (.int (1 : Int32)), .val (.ref aa), .val (.int n), .val (.ref r), .val (.ref ax), .val (.long (0 : Int64)), .second, .val (.long (0 : Int64)), .second] [(.int (1 : Int32))]))
          exact own_ret X106 hx Bd.returns Bd.notSynchronized rfl (Or.inl ⟨rfl, by simp, _, rfl⟩) (hb hby at_220) (by rw [e106]; exact ⟨rfl, M106⟩) (by decide) (by decide)
      ·
        rcases own_five hn with rfl | rfl | rfl | rfl | h5
        ·
          rw [show own_r (1 : Int32) (2 : Int32) v0 v1 v2 v3 = v0 from rfl]
          show own_E _ _ _ _ _ _ _ (T106.setTop (mkF m 127 #[.val (.int p0), .val (.int p1), .val (.long v0), .second, .val (.long v1), .second, .val (.long v2), .second, .val (.long v3), .second, .val (.int (2 : Int32)), .val (.ref aa), .val (.int (1 : Int32)), .val (.ref r), .val (.ref ax), .unset, .unset, .unset, .unset] [(.long v0)]))
          refine own_go (fun _ k => XT.lstore X106.here hx rfl (hb hby at_127) rfl (l' := #[.val (.int p0), .val (.int p1), .val (.long v0), .second, .val (.long v1), .second, .val (.long v2), .second, .val (.long v3), .second, .val (.int (2 : Int32)), .val (.ref aa), .val (.int (1 : Int32)), .val (.ref r), .val (.ref ax), .val (.long v0), .second, .unset, .unset]) rfl k) ?_
          show own_E _ _ _ _ _ _ _ (T106.setTop (mkF m 129 #[.val (.int p0), .val (.int p1), .val (.long v0), .second, .val (.long v1), .second, .val (.long v2), .second, .val (.long v3), .second, .val (.int (2 : Int32)), .val (.ref aa), .val (.int (1 : Int32)), .val (.ref r), .val (.ref ax), .val (.long v0), .second, .unset, .unset] []))
          refine own_go (fun _ k => XS.iload X106.here hx rfl (hb hby at_129) rfl k) ?_
          show own_E _ _ _ _ _ _ _ (T106.setTop (mkF m 131 #[.val (.int p0), .val (.int p1), .val (.long v0), .second, .val (.long v1), .second, .val (.long v2), .second, .val (.long v3), .second, .val (.int (2 : Int32)), .val (.ref aa), .val (.int (1 : Int32)), .val (.ref r), .val (.ref ax), .val (.long v0), .second, .unset, .unset] [(.int (1 : Int32))]))
          refine own_go (fun _ k => XT.iconstV X106.here hx rfl (1 : Int32) (hb hby at_131) (by decide) k) ?_
          show own_E _ _ _ _ _ _ _ (T106.setTop (mkF m 132 #[.val (.int p0), .val (.int p1), .val (.long v0), .second, .val (.long v1), .second, .val (.long v2), .second, .val (.long v3), .second, .val (.int (2 : Int32)), .val (.ref aa), .val (.int (1 : Int32)), .val (.ref r), .val (.ref ax), .val (.long v0), .second, .unset, .unset] [(.int (1 : Int32)), (.int (1 : Int32))]))
          refine own_go (fun _ k => XS.icmpNo X106.here hx rfl (hb hby at_132) rfl (by decide) k) ?_
          show own_E _ _ _ _ _ _ _ (T106.setTop (mkF m 135 #[.val (.int p0), .val (.int p1), .val (.long v0), .second, .val (.long v1), .second, .val (.long v2), .second, .val (.long v3), .second, .val (.int (2 : Int32)), .val (.ref aa), .val (.int (1 : Int32)), .val (.ref r), .val (.ref ax), .val (.long v0), .second, .unset, .unset] []))
          refine own_go (fun _ k => XS.iload X106.here hx rfl (hb hby at_135) rfl k) ?_
          show own_E _ _ _ _ _ _ _ (T106.setTop (mkF m 137 #[.val (.int p0), .val (.int p1), .val (.long v0), .second, .val (.long v1), .second, .val (.long v2), .second, .val (.long v3), .second, .val (.int (2 : Int32)), .val (.ref aa), .val (.int (1 : Int32)), .val (.ref r), .val (.ref ax), .val (.long v0), .second, .unset, .unset] [(.int (2 : Int32))]))
          refine own_go (fun _ k => XT.iconstV X106.here hx rfl (1 : Int32) (hb hby at_137) (by decide) k) ?_
          show own_E _ _ _ _ _ _ _ (T106.setTop (mkF m 138 #[.val (.int p0), .val (.int p1), .val (.long v0), .second, .val (.long v1), .second, .val (.long v2), .second, .val (.long v3), .second, .val (.int (2 : Int32)), .val (.ref aa), .val (.int (1 : Int32)), .val (.ref r), .val (.ref ax), .val (.long v0), .second, .unset, .unset] [(.int (1 : Int32)), (.int (2 : Int32))]))
          refine own_go (fun _ k => XS.icmpNo X106.here hx rfl (hb hby at_138) rfl (by decide) k) ?_
          show own_E _ _ _ _ _ _ _ (T106.setTop (mkF m 141 #[.val (.int p0), .val (.int p1), .val (.long v0), .second, .val (.long v1), .second, .val (.long v2), .second, .val (.long v3), .second, .val (.int (2 : Int32)), .val (.ref aa), .val (.int (1 : Int32)), .val (.ref r), .val (.ref ax), .val (.long v0), .second, .unset, .unset] []))
          refine own_go (fun _ k => XT.lloadN X106.here hx rfl (hb hby at_141) rfl k) ?_
          show own_E _ _ _ _ _ _ _ (T106.setTop (mkF m 142 #[.val (.int p0), .val (.int p1), .val (.long v0), .second, .val (.long v1), .second, .val (.long v2), .second, .val (.long v3), .second, .val (.int (2 : Int32)), .val (.ref aa), .val (.int (1 : Int32)), .val (.ref r), .val (.ref ax), .val (.long v0), .second, .unset, .unset] [(.long v0)]))
          refine own_go (fun _ k => XT.lstore X106.here hx rfl (hb hby at_142) rfl (l' := #[.val (.int p0), .val (.int p1), .val (.long v0), .second, .val (.long v1), .second, .val (.long v2), .second, .val (.long v3), .second, .val (.int (2 : Int32)), .val (.ref aa), .val (.int (1 : Int32)), .val (.ref r), .val (.ref ax), .val (.long v0), .second, .val (.long v0), .second]) rfl k) ?_
          show own_E _ _ _ _ _ _ _ (T106.setTop (mkF m 144 #[.val (.int p0), .val (.int p1), .val (.long v0), .second, .val (.long v1), .second, .val (.long v2), .second, .val (.long v3), .second, .val (.int (2 : Int32)), .val (.ref aa), .val (.int (1 : Int32)), .val (.ref r), .val (.ref ax), .val (.long v0), .second, .val (.long v0), .second] []))
          refine own_go (fun _ k => XS.goto X106.here hx rfl (pc0 := 144) (pc' := 207) rfl (hb hby at_144) (by decide) (by decide) k) ?_
          show own_E _ _ _ _ _ _ _ (T106.setTop (mkF m 207 #[.val (.int p0), .val (.int p1), .val (.long v0), .second, .val (.long v1), .second, .val (.long v2), .second, .val (.long v3), .second, .val (.int (2 : Int32)), .val (.ref aa), .val (.int (1 : Int32)), .val (.ref r), .val (.ref ax), .val (.long v0), .second, .val (.long v0), .second] []))
          refine own_go (fun _ k => XT.lload X106.here hx rfl (hb hby at_207) rfl k) ?_
          show own_E _ _ _ _ _ _ _ (T106.setTop (mkF m 209 #[.val (.int p0), .val (.int p1), .val (.long v0), .second, .val (.long v1), .second, .val (.long v2), .second, .val (.long v3), .second, .val (.int (2 : Int32)), .val (.ref aa), .val (.int (1 : Int32)), .val (.ref r), .val (.ref ax), .val (.long v0), .second, .val (.long v0), .second] [(.long v0)]))
          refine own_go (fun _ k => XT.lload X106.here hx rfl (hb hby at_209) rfl k) ?_
          show own_E _ _ _ _ _ _ _ (T106.setTop (mkF m 211 #[.val (.int p0), .val (.int p1), .val (.long v0), .second, .val (.long v1), .second, .val (.long v2), .second, .val (.long v3), .second, .val (.int (2 : Int32)), .val (.ref aa), .val (.int (1 : Int32)), .val (.ref r), .val (.ref ax), .val (.long v0), .second, .val (.long v0), .second] [(.long v0), (.long v0)]))
          refine own_go (fun _ k => XT.lcmp X106.here hx rfl (hb hby at_211) rfl k) ?_
          show own_E _ _ _ _ _ _ _ (T106.setTop (mkF m 212 #[.val (.int p0), .val (.int p1), .val (.long v0), .second, .val (.long v1), .second, .val (.long v2), .second, .val (.long v3), .second, .val (.int (2 : Int32)), .val (.ref aa), .val (.int (1 : Int32)), .val (.ref r), .val (.ref ax), .val (.long v0), .second, .val (.long v0), .second] [(.int (XT.cmpL v0 v0))]))
          refine own_go (fun _ k => XS.ifNo X106.here hx rfl (hb hby at_212) rfl (XT.ll_ne_f rfl) k) ?_
          show own_E _ _ _ _ _ _ _ (T106.setTop (mkF m 215 #[.val (.int p0), .val (.int p1), .val (.long v0), .second, .val (.long v1), .second, .val (.long v2), .second, .val (.long v3), .second, .val (.int (2 : Int32)), .val (.ref aa), .val (.int (1 : Int32)), .val (.ref r), .val (.ref ax), .val (.long v0), .second, .val (.long v0), .second] []))
          refine own_go (fun _ k => XT.iconstV X106.here hx rfl (1 : Int32) (hb hby at_215) (by decide) k) ?_
          show own_E _ _ _ _ _ _ _ (T106.setTop (mkF m 216 #[.val (.int p0), .val (.int p1), .val (.long v0), .second, .val (.long v1), .second, .val (.long v2), .second, .val (.long v3), .second, .val (.int (2 : Int32)), .val (.ref aa), .val (.int (1 : Int32)), .val (.ref r), .val (.ref ax), .val (.long v0), .second, .val (.long v0), .second] [(.int (1 : Int32))]))
          refine own_go (fun _ k => XS.goto X106.here hx rfl (pc0 := 216) (pc' := 220) rfl (hb hby at_216) (by decide) (by decide) k) ?_
          show own_E _ _ _ _ _ _ _ (T106.setTop (mkF m 220 #[.val (.int p0), .val (.int p1), .val (.long v0), .second, .val (.long v1), .second, .val (.long v2), .second, .val (.long v3), .second, .val (.int (2 : Int32)), .val (.ref aa), .val (.int (1 : Int32)), .val (.ref r), .val (.ref ax), .val (.long v0), .second, .val (.long v0), .second] [(.int (1 : Int32))]))
          exact own_ret X106 hx Bd.returns Bd.notSynchronized rfl (Or.inl ⟨rfl, by simp, _, rfl⟩) (hb hby at_220) (by rw [e106]; exact ⟨rfl, M106⟩) (by decide) (by decide)
        ·
          rw [show own_r (2 : Int32) (2 : Int32) v0 v1 v2 v3 = v1 from rfl]
          show own_E _ _ _ _ _ _ _ (T106.setTop (mkF m 127 #[.val (.int p0), .val (.int p1), .val (.long v0), .second, .val (.long v1), .second, .val (.long v2), .second, .val (.long v3), .second, .val (.int (2 : Int32)), .val (.ref aa), .val (.int (2 : Int32)), .val (.ref r), .val (.ref ax), .unset, .unset, .unset, .unset] [(.long v1)]))
          refine own_go (fun _ k => XT.lstore X106.here hx rfl (hb hby at_127) rfl (l' := #[.val (.int p0), .val (.int p1), .val (.long v0), .second, .val (.long v1), .second, .val (.long v2), .second, .val (.long v3), .second, .val (.int (2 : Int32)), .val (.ref aa), .val (.int (2 : Int32)), .val (.ref r), .val (.ref ax), .val (.long v1), .second, .unset, .unset]) rfl k) ?_
          show own_E _ _ _ _ _ _ _ (T106.setTop (mkF m 129 #[.val (.int p0), .val (.int p1), .val (.long v0), .second, .val (.long v1), .second, .val (.long v2), .second, .val (.long v3), .second, .val (.int (2 : Int32)), .val (.ref aa), .val (.int (2 : Int32)), .val (.ref r), .val (.ref ax), .val (.long v1), .second, .unset, .unset] []))
          refine own_go (fun _ k => XS.iload X106.here hx rfl (hb hby at_129) rfl k) ?_
          show own_E _ _ _ _ _ _ _ (T106.setTop (mkF m 131 #[.val (.int p0), .val (.int p1), .val (.long v0), .second, .val (.long v1), .second, .val (.long v2), .second, .val (.long v3), .second, .val (.int (2 : Int32)), .val (.ref aa), .val (.int (2 : Int32)), .val (.ref r), .val (.ref ax), .val (.long v1), .second, .unset, .unset] [(.int (2 : Int32))]))
          refine own_go (fun _ k => XT.iconstV X106.here hx rfl (1 : Int32) (hb hby at_131) (by decide) k) ?_
          show own_E _ _ _ _ _ _ _ (T106.setTop (mkF m 132 #[.val (.int p0), .val (.int p1), .val (.long v0), .second, .val (.long v1), .second, .val (.long v2), .second, .val (.long v3), .second, .val (.int (2 : Int32)), .val (.ref aa), .val (.int (2 : Int32)), .val (.ref r), .val (.ref ax), .val (.long v1), .second, .unset, .unset] [(.int (1 : Int32)), (.int (2 : Int32))]))
          refine own_go (fun _ k => XS.icmpYes X106.here hx rfl (pc0 := 132) (pc' := 147) rfl (hb hby at_132) rfl (by decide) (by decide) (by decide) k) ?_
          show own_E _ _ _ _ _ _ _ (T106.setTop (mkF m 147 #[.val (.int p0), .val (.int p1), .val (.long v0), .second, .val (.long v1), .second, .val (.long v2), .second, .val (.long v3), .second, .val (.int (2 : Int32)), .val (.ref aa), .val (.int (2 : Int32)), .val (.ref r), .val (.ref ax), .val (.long v1), .second, .unset, .unset] []))
          refine own_go (fun _ k => XS.iload X106.here hx rfl (hb hby at_147) rfl k) ?_
          show own_E _ _ _ _ _ _ _ (T106.setTop (mkF m 149 #[.val (.int p0), .val (.int p1), .val (.long v0), .second, .val (.long v1), .second, .val (.long v2), .second, .val (.long v3), .second, .val (.int (2 : Int32)), .val (.ref aa), .val (.int (2 : Int32)), .val (.ref r), .val (.ref ax), .val (.long v1), .second, .unset, .unset] [(.int (2 : Int32))]))
          refine own_go (fun _ k => XT.iconstV X106.here hx rfl (2 : Int32) (hb hby at_149) (by decide) k) ?_
          show own_E _ _ _ _ _ _ _ (T106.setTop (mkF m 150 #[.val (.int p0), .val (.int p1), .val (.long v0), .second, .val (.long v1), .second, .val (.long v2), .second, .val (.long v3), .second, .val (.int (2 : Int32)), .val (.ref aa), .val (.int (2 : Int32)), .val (.ref r), .val (.ref ax), .val (.long v1), .second, .unset, .unset] [(.int (2 : Int32)), (.int (2 : Int32))]))
          refine own_go (fun _ k => XS.icmpNo X106.here hx rfl (hb hby at_150) rfl (by decide) k) ?_
          show own_E _ _ _ _ _ _ _ (T106.setTop (mkF m 153 #[.val (.int p0), .val (.int p1), .val (.long v0), .second, .val (.long v1), .second, .val (.long v2), .second, .val (.long v3), .second, .val (.int (2 : Int32)), .val (.ref aa), .val (.int (2 : Int32)), .val (.ref r), .val (.ref ax), .val (.long v1), .second, .unset, .unset] []))
          refine own_go (fun _ k => XS.iload X106.here hx rfl (hb hby at_153) rfl k) ?_
          show own_E _ _ _ _ _ _ _ (T106.setTop (mkF m 155 #[.val (.int p0), .val (.int p1), .val (.long v0), .second, .val (.long v1), .second, .val (.long v2), .second, .val (.long v3), .second, .val (.int (2 : Int32)), .val (.ref aa), .val (.int (2 : Int32)), .val (.ref r), .val (.ref ax), .val (.long v1), .second, .unset, .unset] [(.int (2 : Int32))]))
          refine own_go (fun _ k => XT.iconstV X106.here hx rfl (2 : Int32) (hb hby at_155) (by decide) k) ?_
          show own_E _ _ _ _ _ _ _ (T106.setTop (mkF m 156 #[.val (.int p0), .val (.int p1), .val (.long v0), .second, .val (.long v1), .second, .val (.long v2), .second, .val (.long v3), .second, .val (.int (2 : Int32)), .val (.ref aa), .val (.int (2 : Int32)), .val (.ref r), .val (.ref ax), .val (.long v1), .second, .unset, .unset] [(.int (2 : Int32)), (.int (2 : Int32))]))
          refine own_go (fun _ k => XS.icmpNo X106.here hx rfl (hb hby at_156) rfl (by decide) k) ?_
          show own_E _ _ _ _ _ _ _ (T106.setTop (mkF m 159 #[.val (.int p0), .val (.int p1), .val (.long v0), .second, .val (.long v1), .second, .val (.long v2), .second, .val (.long v3), .second, .val (.int (2 : Int32)), .val (.ref aa), .val (.int (2 : Int32)), .val (.ref r), .val (.ref ax), .val (.long v1), .second, .unset, .unset] []))
          refine own_go (fun _ k => XT.lload X106.here hx rfl (hb hby at_159) rfl k) ?_
          show own_E _ _ _ _ _ _ _ (T106.setTop (mkF m 161 #[.val (.int p0), .val (.int p1), .val (.long v0), .second, .val (.long v1), .second, .val (.long v2), .second, .val (.long v3), .second, .val (.int (2 : Int32)), .val (.ref aa), .val (.int (2 : Int32)), .val (.ref r), .val (.ref ax), .val (.long v1), .second, .unset, .unset] [(.long v1)]))
          refine own_go (fun _ k => XT.lstore X106.here hx rfl (hb hby at_161) rfl (l' := #[.val (.int p0), .val (.int p1), .val (.long v0), .second, .val (.long v1), .second, .val (.long v2), .second, .val (.long v3), .second, .val (.int (2 : Int32)), .val (.ref aa), .val (.int (2 : Int32)), .val (.ref r), .val (.ref ax), .val (.long v1), .second, .val (.long v1), .second]) rfl k) ?_
          show own_E _ _ _ _ _ _ _ (T106.setTop (mkF m 163 #[.val (.int p0), .val (.int p1), .val (.long v0), .second, .val (.long v1), .second, .val (.long v2), .second, .val (.long v3), .second, .val (.int (2 : Int32)), .val (.ref aa), .val (.int (2 : Int32)), .val (.ref r), .val (.ref ax), .val (.long v1), .second, .val (.long v1), .second] []))
          refine own_go (fun _ k => XS.goto X106.here hx rfl (pc0 := 163) (pc' := 207) rfl (hb hby at_163) (by decide) (by decide) k) ?_
          show own_E _ _ _ _ _ _ _ (T106.setTop (mkF m 207 #[.val (.int p0), .val (.int p1), .val (.long v0), .second, .val (.long v1), .second, .val (.long v2), .second, .val (.long v3), .second, .val (.int (2 : Int32)), .val (.ref aa), .val (.int (2 : Int32)), .val (.ref r), .val (.ref ax), .val (.long v1), .second, .val (.long v1), .second] []))
          refine own_go (fun _ k => XT.lload X106.here hx rfl (hb hby at_207) rfl k) ?_
          show own_E _ _ _ _ _ _ _ (T106.setTop (mkF m 209 #[.val (.int p0), .val (.int p1), .val (.long v0), .second, .val (.long v1), .second, .val (.long v2), .second, .val (.long v3), .second, .val (.int (2 : Int32)), .val (.ref aa), .val (.int (2 : Int32)), .val (.ref r), .val (.ref ax), .val (.long v1), .second, .val (.long v1), .second] [(.long v1)]))
          refine own_go (fun _ k => XT.lload X106.here hx rfl (hb hby at_209) rfl k) ?_
          show own_E _ _ _ _ _ _ _ (T106.setTop (mkF m 211 #[.val (.int p0), .val (.int p1), .val (.long v0), .second, .val (.long v1), .second, .val (.long v2), .second, .val (.long v3), .second, .val (.int (2 : Int32)), .val (.ref aa), .val (.int (2 : Int32)), .val (.ref r), .val (.ref ax), .val (.long v1), .second, .val (.long v1), .second] [(.long v1), (.long v1)]))
          refine own_go (fun _ k => XT.lcmp X106.here hx rfl (hb hby at_211) rfl k) ?_
          show own_E _ _ _ _ _ _ _ (T106.setTop (mkF m 212 #[.val (.int p0), .val (.int p1), .val (.long v0), .second, .val (.long v1), .second, .val (.long v2), .second, .val (.long v3), .second, .val (.int (2 : Int32)), .val (.ref aa), .val (.int (2 : Int32)), .val (.ref r), .val (.ref ax), .val (.long v1), .second, .val (.long v1), .second] [(.int (XT.cmpL v1 v1))]))
          refine own_go (fun _ k => XS.ifNo X106.here hx rfl (hb hby at_212) rfl (XT.ll_ne_f rfl) k) ?_
          show own_E _ _ _ _ _ _ _ (T106.setTop (mkF m 215 #[.val (.int p0), .val (.int p1), .val (.long v0), .second, .val (.long v1), .second, .val (.long v2), .second, .val (.long v3), .second, .val (.int (2 : Int32)), .val (.ref aa), .val (.int (2 : Int32)), .val (.ref r), .val (.ref ax), .val (.long v1), .second, .val (.long v1), .second] []))
          refine own_go (fun _ k => XT.iconstV X106.here hx rfl (1 : Int32) (hb hby at_215) (by decide) k) ?_
          show own_E _ _ _ _ _ _ _ (T106.setTop (mkF m 216 #[.val (.int p0), .val (.int p1), .val (.long v0), .second, .val (.long v1), .second, .val (.long v2), .second, .val (.long v3), .second, .val (.int (2 : Int32)), .val (.ref aa), .val (.int (2 : Int32)), .val (.ref r), .val (.ref ax), .val (.long v1), .second, .val (.long v1), .second] [(.int (1 : Int32))]))
          refine own_go (fun _ k => XS.goto X106.here hx rfl (pc0 := 216) (pc' := 220) rfl (hb hby at_216) (by decide) (by decide) k) ?_
          show own_E _ _ _ _ _ _ _ (T106.setTop (mkF m 220 #[.val (.int p0), .val (.int p1), .val (.long v0), .second, .val (.long v1), .second, .val (.long v2), .second, .val (.long v3), .second, .val (.int (2 : Int32)), .val (.ref aa), .val (.int (2 : Int32)), .val (.ref r), .val (.ref ax), .val (.long v1), .second, .val (.long v1), .second] [(.int (1 : Int32))]))
          exact own_ret X106 hx Bd.returns Bd.notSynchronized rfl (Or.inl ⟨rfl, by simp, _, rfl⟩) (hb hby at_220) (by rw [e106]; exact ⟨rfl, M106⟩) (by decide) (by decide)
        ·
          rw [show own_r (3 : Int32) (2 : Int32) v0 v1 v2 v3 = (0 : Int64) from rfl]
          show own_E _ _ _ _ _ _ _ (T106.setTop (mkF m 127 #[.val (.int p0), .val (.int p1), .val (.long v0), .second, .val (.long v1), .second, .val (.long v2), .second, .val (.long v3), .second, .val (.int (2 : Int32)), .val (.ref aa), .val (.int (3 : Int32)), .val (.ref r), .val (.ref ax), .unset, .unset, .unset, .unset] [(.long (0 : Int64))]))
          refine own_go (fun _ k => XT.lstore X106.here hx rfl (hb hby at_127) rfl (l' := #[.val (.int p0), .val (.int p1), .val (.long v0), .second, .val (.long v1), .second, .val (.long v2), .second, .val (.long v3), .second, .val (.int (2 : Int32)), .val (.ref aa), .val (.int (3 : Int32)), .val (.ref r), .val (.ref ax), .val (.long (0 : Int64)), .second, .unset, .unset]) rfl k) ?_
          show own_E _ _ _ _ _ _ _ (T106.setTop (mkF m 129 #[.val (.int p0), .val (.int p1), .val (.long v0), .second, .val (.long v1), .second, .val (.long v2), .second, .val (.long v3), .second, .val (.int (2 : Int32)), .val (.ref aa), .val (.int (3 : Int32)), .val (.ref r), .val (.ref ax), .val (.long (0 : Int64)), .second, .unset, .unset] []))
          refine own_go (fun _ k => XS.iload X106.here hx rfl (hb hby at_129) rfl k) ?_
          show own_E _ _ _ _ _ _ _ (T106.setTop (mkF m 131 #[.val (.int p0), .val (.int p1), .val (.long v0), .second, .val (.long v1), .second, .val (.long v2), .second, .val (.long v3), .second, .val (.int (2 : Int32)), .val (.ref aa), .val (.int (3 : Int32)), .val (.ref r), .val (.ref ax), .val (.long (0 : Int64)), .second, .unset, .unset] [(.int (3 : Int32))]))
          refine own_go (fun _ k => XT.iconstV X106.here hx rfl (1 : Int32) (hb hby at_131) (by decide) k) ?_
          show own_E _ _ _ _ _ _ _ (T106.setTop (mkF m 132 #[.val (.int p0), .val (.int p1), .val (.long v0), .second, .val (.long v1), .second, .val (.long v2), .second, .val (.long v3), .second, .val (.int (2 : Int32)), .val (.ref aa), .val (.int (3 : Int32)), .val (.ref r), .val (.ref ax), .val (.long (0 : Int64)), .second, .unset, .unset] [(.int (1 : Int32)), (.int (3 : Int32))]))
          refine own_go (fun _ k => XS.icmpYes X106.here hx rfl (pc0 := 132) (pc' := 147) rfl (hb hby at_132) rfl (by decide) (by decide) (by decide) k) ?_
          show own_E _ _ _ _ _ _ _ (T106.setTop (mkF m 147 #[.val (.int p0), .val (.int p1), .val (.long v0), .second, .val (.long v1), .second, .val (.long v2), .second, .val (.long v3), .second, .val (.int (2 : Int32)), .val (.ref aa), .val (.int (3 : Int32)), .val (.ref r), .val (.ref ax), .val (.long (0 : Int64)), .second, .unset, .unset] []))
          refine own_go (fun _ k => XS.iload X106.here hx rfl (hb hby at_147) rfl k) ?_
          show own_E _ _ _ _ _ _ _ (T106.setTop (mkF m 149 #[.val (.int p0), .val (.int p1), .val (.long v0), .second, .val (.long v1), .second, .val (.long v2), .second, .val (.long v3), .second, .val (.int (2 : Int32)), .val (.ref aa), .val (.int (3 : Int32)), .val (.ref r), .val (.ref ax), .val (.long (0 : Int64)), .second, .unset, .unset] [(.int (3 : Int32))]))
          refine own_go (fun _ k => XT.iconstV X106.here hx rfl (2 : Int32) (hb hby at_149) (by decide) k) ?_
          show own_E _ _ _ _ _ _ _ (T106.setTop (mkF m 150 #[.val (.int p0), .val (.int p1), .val (.long v0), .second, .val (.long v1), .second, .val (.long v2), .second, .val (.long v3), .second, .val (.int (2 : Int32)), .val (.ref aa), .val (.int (3 : Int32)), .val (.ref r), .val (.ref ax), .val (.long (0 : Int64)), .second, .unset, .unset] [(.int (2 : Int32)), (.int (3 : Int32))]))
          refine own_go (fun _ k => XS.icmpYes X106.here hx rfl (pc0 := 150) (pc' := 166) rfl (hb hby at_150) rfl (by decide) (by decide) (by decide) k) ?_
          show own_E _ _ _ _ _ _ _ (T106.setTop (mkF m 166 #[.val (.int p0), .val (.int p1), .val (.long v0), .second, .val (.long v1), .second, .val (.long v2), .second, .val (.long v3), .second, .val (.int (2 : Int32)), .val (.ref aa), .val (.int (3 : Int32)), .val (.ref r), .val (.ref ax), .val (.long (0 : Int64)), .second, .unset, .unset] []))
          refine own_go (fun _ k => XS.iload X106.here hx rfl (hb hby at_166) rfl k) ?_
          show own_E _ _ _ _ _ _ _ (T106.setTop (mkF m 168 #[.val (.int p0), .val (.int p1), .val (.long v0), .second, .val (.long v1), .second, .val (.long v2), .second, .val (.long v3), .second, .val (.int (2 : Int32)), .val (.ref aa), .val (.int (3 : Int32)), .val (.ref r), .val (.ref ax), .val (.long (0 : Int64)), .second, .unset, .unset] [(.int (3 : Int32))]))
          refine own_go (fun _ k => XT.iconstV X106.here hx rfl (3 : Int32) (hb hby at_168) (by decide) k) ?_
          show own_E _ _ _ _ _ _ _ (T106.setTop (mkF m 169 #[.val (.int p0), .val (.int p1), .val (.long v0), .second, .val (.long v1), .second, .val (.long v2), .second, .val (.long v3), .second, .val (.int (2 : Int32)), .val (.ref aa), .val (.int (3 : Int32)), .val (.ref r), .val (.ref ax), .val (.long (0 : Int64)), .second, .unset, .unset] [(.int (3 : Int32)), (.int (3 : Int32))]))
          refine own_go (fun _ k => XS.icmpNo X106.here hx rfl (hb hby at_169) rfl (by decide) k) ?_
          show own_E _ _ _ _ _ _ _ (T106.setTop (mkF m 172 #[.val (.int p0), .val (.int p1), .val (.long v0), .second, .val (.long v1), .second, .val (.long v2), .second, .val (.long v3), .second, .val (.int (2 : Int32)), .val (.ref aa), .val (.int (3 : Int32)), .val (.ref r), .val (.ref ax), .val (.long (0 : Int64)), .second, .unset, .unset] []))
          refine own_go (fun _ k => XS.iload X106.here hx rfl (hb hby at_172) rfl k) ?_
          show own_E _ _ _ _ _ _ _ (T106.setTop (mkF m 174 #[.val (.int p0), .val (.int p1), .val (.long v0), .second, .val (.long v1), .second, .val (.long v2), .second, .val (.long v3), .second, .val (.int (2 : Int32)), .val (.ref aa), .val (.int (3 : Int32)), .val (.ref r), .val (.ref ax), .val (.long (0 : Int64)), .second, .unset, .unset] [(.int (2 : Int32))]))
          refine own_go (fun _ k => XT.iconstV X106.here hx rfl (3 : Int32) (hb hby at_174) (by decide) k) ?_
          show own_E _ _ _ _ _ _ _ (T106.setTop (mkF m 175 #[.val (.int p0), .val (.int p1), .val (.long v0), .second, .val (.long v1), .second, .val (.long v2), .second, .val (.long v3), .second, .val (.int (2 : Int32)), .val (.ref aa), .val (.int (3 : Int32)), .val (.ref r), .val (.ref ax), .val (.long (0 : Int64)), .second, .unset, .unset] [(.int (3 : Int32)), (.int (2 : Int32))]))
          refine own_go (fun _ k => XS.icmpYes X106.here hx rfl (pc0 := 175) (pc' := 185) rfl (hb hby at_175) rfl (by decide) (by decide) (by decide) k) ?_
          show own_E _ _ _ _ _ _ _ (T106.setTop (mkF m 185 #[.val (.int p0), .val (.int p1), .val (.long v0), .second, .val (.long v1), .second, .val (.long v2), .second, .val (.long v3), .second, .val (.int (2 : Int32)), .val (.ref aa), .val (.int (3 : Int32)), .val (.ref r), .val (.ref ax), .val (.long (0 : Int64)), .second, .unset, .unset] []))
          refine own_go (fun _ k => XS.iload X106.here hx rfl (hb hby at_185) rfl k) ?_
          show own_E _ _ _ _ _ _ _ (T106.setTop (mkF m 187 #[.val (.int p0), .val (.int p1), .val (.long v0), .second, .val (.long v1), .second, .val (.long v2), .second, .val (.long v3), .second, .val (.int (2 : Int32)), .val (.ref aa), .val (.int (3 : Int32)), .val (.ref r), .val (.ref ax), .val (.long (0 : Int64)), .second, .unset, .unset] [(.int (3 : Int32))]))
          refine own_go (fun _ k => XT.iconstV X106.here hx rfl (4 : Int32) (hb hby at_187) (by decide) k) ?_
          show own_E _ _ _ _ _ _ _ (T106.setTop (mkF m 188 #[.val (.int p0), .val (.int p1), .val (.long v0), .second, .val (.long v1), .second, .val (.long v2), .second, .val (.long v3), .second, .val (.int (2 : Int32)), .val (.ref aa), .val (.int (3 : Int32)), .val (.ref r), .val (.ref ax), .val (.long (0 : Int64)), .second, .unset, .unset] [(.int (4 : Int32)), (.int (3 : Int32))]))
          refine own_go (fun _ k => XS.icmpYes X106.here hx rfl (pc0 := 188) (pc' := 204) rfl (hb hby at_188) rfl (by decide) (by decide) (by decide) k) ?_
          show own_E _ _ _ _ _ _ _ (T106.setTop (mkF m 204 #[.val (.int p0), .val (.int p1), .val (.long v0), .second, .val (.long v1), .second, .val (.long v2), .second, .val (.long v3), .second, .val (.int (2 : Int32)), .val (.ref aa), .val (.int (3 : Int32)), .val (.ref r), .val (.ref ax), .val (.long (0 : Int64)), .second, .unset, .unset] []))
          refine own_go (fun _ k => XT.lconstV X106.here hx rfl (0 : Int64) (hb hby at_204) (by decide) k) ?_
          show own_E _ _ _ _ _ _ _ (T106.setTop (mkF m 205 #[.val (.int p0), .val (.int p1), .val (.long v0), .second, .val (.long v1), .second, .val (.long v2), .second, .val (.long v3), .second, .val (.int (2 : Int32)), .val (.ref aa), .val (.int (3 : Int32)), .val (.ref r), .val (.ref ax), .val (.long (0 : Int64)), .second, .unset, .unset] [(.long (0 : Int64))]))
          refine own_go (fun _ k => XT.lstore X106.here hx rfl (hb hby at_205) rfl (l' := #[.val (.int p0), .val (.int p1), .val (.long v0), .second, .val (.long v1), .second, .val (.long v2), .second, .val (.long v3), .second, .val (.int (2 : Int32)), .val (.ref aa), .val (.int (3 : Int32)), .val (.ref r), .val (.ref ax), .val (.long (0 : Int64)), .second, .val (.long (0 : Int64)), .second]) rfl k) ?_
          show own_E _ _ _ _ _ _ _ (T106.setTop (mkF m 207 #[.val (.int p0), .val (.int p1), .val (.long v0), .second, .val (.long v1), .second, .val (.long v2), .second, .val (.long v3), .second, .val (.int (2 : Int32)), .val (.ref aa), .val (.int (3 : Int32)), .val (.ref r), .val (.ref ax), .val (.long (0 : Int64)), .second, .val (.long (0 : Int64)), .second] []))
          refine own_go (fun _ k => XT.lload X106.here hx rfl (hb hby at_207) rfl k) ?_
          show own_E _ _ _ _ _ _ _ (T106.setTop (mkF m 209 #[.val (.int p0), .val (.int p1), .val (.long v0), .second, .val (.long v1), .second, .val (.long v2), .second, .val (.long v3), .second, .val (.int (2 : Int32)), .val (.ref aa), .val (.int (3 : Int32)), .val (.ref r), .val (.ref ax), .val (.long (0 : Int64)), .second, .val (.long (0 : Int64)), .second] [(.long (0 : Int64))]))
          refine own_go (fun _ k => XT.lload X106.here hx rfl (hb hby at_209) rfl k) ?_
          show own_E _ _ _ _ _ _ _ (T106.setTop (mkF m 211 #[.val (.int p0), .val (.int p1), .val (.long v0), .second, .val (.long v1), .second, .val (.long v2), .second, .val (.long v3), .second, .val (.int (2 : Int32)), .val (.ref aa), .val (.int (3 : Int32)), .val (.ref r), .val (.ref ax), .val (.long (0 : Int64)), .second, .val (.long (0 : Int64)), .second] [(.long (0 : Int64)), (.long (0 : Int64))]))
          refine own_go (fun _ k => XT.lcmp X106.here hx rfl (hb hby at_211) rfl k) ?_
          show own_E _ _ _ _ _ _ _ (T106.setTop (mkF m 212 #[.val (.int p0), .val (.int p1), .val (.long v0), .second, .val (.long v1), .second, .val (.long v2), .second, .val (.long v3), .second, .val (.int (2 : Int32)), .val (.ref aa), .val (.int (3 : Int32)), .val (.ref r), .val (.ref ax), .val (.long (0 : Int64)), .second, .val (.long (0 : Int64)), .second] [(.int (XT.cmpL (0 : Int64) (0 : Int64)))]))
          refine own_go (fun _ k => XS.ifNo X106.here hx rfl (hb hby at_212) rfl (XT.ll_ne_f rfl) k) ?_
          show own_E _ _ _ _ _ _ _ (T106.setTop (mkF m 215 #[.val (.int p0), .val (.int p1), .val (.long v0), .second, .val (.long v1), .second, .val (.long v2), .second, .val (.long v3), .second, .val (.int (2 : Int32)), .val (.ref aa), .val (.int (3 : Int32)), .val (.ref r), .val (.ref ax), .val (.long (0 : Int64)), .second, .val (.long (0 : Int64)), .second] []))
          refine own_go (fun _ k => XT.iconstV X106.here hx rfl (1 : Int32) (hb hby at_215) (by decide) k) ?_
          show own_E _ _ _ _ _ _ _ (T106.setTop (mkF m 216 #[.val (.int p0), .val (.int p1), .val (.long v0), .second, .val (.long v1), .second, .val (.long v2), .second, .val (.long v3), .second, .val (.int (2 : Int32)), .val (.ref aa), .val (.int (3 : Int32)), .val (.ref r), .val (.ref ax), .val (.long (0 : Int64)), .second, .val (.long (0 : Int64)), .second] [(.int (1 : Int32))]))
          refine own_go (fun _ k => XS.goto X106.here hx rfl (pc0 := 216) (pc' := 220) rfl (hb hby at_216) (by decide) (by decide) k) ?_
          show own_E _ _ _ _ _ _ _ (T106.setTop (mkF m 220 #[.val (.int p0), .val (.int p1), .val (.long v0), .second, .val (.long v1), .second, .val (.long v2), .second, .val (.long v3), .second, .val (.int (2 : Int32)), .val (.ref aa), .val (.int (3 : Int32)), .val (.ref r), .val (.ref ax), .val (.long (0 : Int64)), .second, .val (.long (0 : Int64)), .second] [(.int (1 : Int32))]))
          exact own_ret X106 hx Bd.returns Bd.notSynchronized rfl (Or.inl ⟨rfl, by simp, _, rfl⟩) (hb hby at_220) (by rw [e106]; exact ⟨rfl, M106⟩) (by decide) (by decide)
        ·
          rw [show own_r (4 : Int32) (2 : Int32) v0 v1 v2 v3 = (0 : Int64) from rfl]
          show own_E _ _ _ _ _ _ _ (T106.setTop (mkF m 127 #[.val (.int p0), .val (.int p1), .val (.long v0), .second, .val (.long v1), .second, .val (.long v2), .second, .val (.long v3), .second, .val (.int (2 : Int32)), .val (.ref aa), .val (.int (4 : Int32)), .val (.ref r), .val (.ref ax), .unset, .unset, .unset, .unset] [(.long (0 : Int64))]))
          refine own_go (fun _ k => XT.lstore X106.here hx rfl (hb hby at_127) rfl (l' := #[.val (.int p0), .val (.int p1), .val (.long v0), .second, .val (.long v1), .second, .val (.long v2), .second, .val (.long v3), .second, .val (.int (2 : Int32)), .val (.ref aa), .val (.int (4 : Int32)), .val (.ref r), .val (.ref ax), .val (.long (0 : Int64)), .second, .unset, .unset]) rfl k) ?_
          show own_E _ _ _ _ _ _ _ (T106.setTop (mkF m 129 #[.val (.int p0), .val (.int p1), .val (.long v0), .second, .val (.long v1), .second, .val (.long v2), .second, .val (.long v3), .second, .val (.int (2 : Int32)), .val (.ref aa), .val (.int (4 : Int32)), .val (.ref r), .val (.ref ax), .val (.long (0 : Int64)), .second, .unset, .unset] []))
          refine own_go (fun _ k => XS.iload X106.here hx rfl (hb hby at_129) rfl k) ?_
          show own_E _ _ _ _ _ _ _ (T106.setTop (mkF m 131 #[.val (.int p0), .val (.int p1), .val (.long v0), .second, .val (.long v1), .second, .val (.long v2), .second, .val (.long v3), .second, .val (.int (2 : Int32)), .val (.ref aa), .val (.int (4 : Int32)), .val (.ref r), .val (.ref ax), .val (.long (0 : Int64)), .second, .unset, .unset] [(.int (4 : Int32))]))
          refine own_go (fun _ k => XT.iconstV X106.here hx rfl (1 : Int32) (hb hby at_131) (by decide) k) ?_
          show own_E _ _ _ _ _ _ _ (T106.setTop (mkF m 132 #[.val (.int p0), .val (.int p1), .val (.long v0), .second, .val (.long v1), .second, .val (.long v2), .second, .val (.long v3), .second, .val (.int (2 : Int32)), .val (.ref aa), .val (.int (4 : Int32)), .val (.ref r), .val (.ref ax), .val (.long (0 : Int64)), .second, .unset, .unset] [(.int (1 : Int32)), (.int (4 : Int32))]))
          refine own_go (fun _ k => XS.icmpYes X106.here hx rfl (pc0 := 132) (pc' := 147) rfl (hb hby at_132) rfl (by decide) (by decide) (by decide) k) ?_
          show own_E _ _ _ _ _ _ _ (T106.setTop (mkF m 147 #[.val (.int p0), .val (.int p1), .val (.long v0), .second, .val (.long v1), .second, .val (.long v2), .second, .val (.long v3), .second, .val (.int (2 : Int32)), .val (.ref aa), .val (.int (4 : Int32)), .val (.ref r), .val (.ref ax), .val (.long (0 : Int64)), .second, .unset, .unset] []))
          refine own_go (fun _ k => XS.iload X106.here hx rfl (hb hby at_147) rfl k) ?_
          show own_E _ _ _ _ _ _ _ (T106.setTop (mkF m 149 #[.val (.int p0), .val (.int p1), .val (.long v0), .second, .val (.long v1), .second, .val (.long v2), .second, .val (.long v3), .second, .val (.int (2 : Int32)), .val (.ref aa), .val (.int (4 : Int32)), .val (.ref r), .val (.ref ax), .val (.long (0 : Int64)), .second, .unset, .unset] [(.int (4 : Int32))]))
          refine own_go (fun _ k => XT.iconstV X106.here hx rfl (2 : Int32) (hb hby at_149) (by decide) k) ?_
          show own_E _ _ _ _ _ _ _ (T106.setTop (mkF m 150 #[.val (.int p0), .val (.int p1), .val (.long v0), .second, .val (.long v1), .second, .val (.long v2), .second, .val (.long v3), .second, .val (.int (2 : Int32)), .val (.ref aa), .val (.int (4 : Int32)), .val (.ref r), .val (.ref ax), .val (.long (0 : Int64)), .second, .unset, .unset] [(.int (2 : Int32)), (.int (4 : Int32))]))
          refine own_go (fun _ k => XS.icmpYes X106.here hx rfl (pc0 := 150) (pc' := 166) rfl (hb hby at_150) rfl (by decide) (by decide) (by decide) k) ?_
          show own_E _ _ _ _ _ _ _ (T106.setTop (mkF m 166 #[.val (.int p0), .val (.int p1), .val (.long v0), .second, .val (.long v1), .second, .val (.long v2), .second, .val (.long v3), .second, .val (.int (2 : Int32)), .val (.ref aa), .val (.int (4 : Int32)), .val (.ref r), .val (.ref ax), .val (.long (0 : Int64)), .second, .unset, .unset] []))
          refine own_go (fun _ k => XS.iload X106.here hx rfl (hb hby at_166) rfl k) ?_
          show own_E _ _ _ _ _ _ _ (T106.setTop (mkF m 168 #[.val (.int p0), .val (.int p1), .val (.long v0), .second, .val (.long v1), .second, .val (.long v2), .second, .val (.long v3), .second, .val (.int (2 : Int32)), .val (.ref aa), .val (.int (4 : Int32)), .val (.ref r), .val (.ref ax), .val (.long (0 : Int64)), .second, .unset, .unset] [(.int (4 : Int32))]))
          refine own_go (fun _ k => XT.iconstV X106.here hx rfl (3 : Int32) (hb hby at_168) (by decide) k) ?_
          show own_E _ _ _ _ _ _ _ (T106.setTop (mkF m 169 #[.val (.int p0), .val (.int p1), .val (.long v0), .second, .val (.long v1), .second, .val (.long v2), .second, .val (.long v3), .second, .val (.int (2 : Int32)), .val (.ref aa), .val (.int (4 : Int32)), .val (.ref r), .val (.ref ax), .val (.long (0 : Int64)), .second, .unset, .unset] [(.int (3 : Int32)), (.int (4 : Int32))]))
          refine own_go (fun _ k => XS.icmpYes X106.here hx rfl (pc0 := 169) (pc' := 185) rfl (hb hby at_169) rfl (by decide) (by decide) (by decide) k) ?_
          show own_E _ _ _ _ _ _ _ (T106.setTop (mkF m 185 #[.val (.int p0), .val (.int p1), .val (.long v0), .second, .val (.long v1), .second, .val (.long v2), .second, .val (.long v3), .second, .val (.int (2 : Int32)), .val (.ref aa), .val (.int (4 : Int32)), .val (.ref r), .val (.ref ax), .val (.long (0 : Int64)), .second, .unset, .unset] []))
          refine own_go (fun _ k => XS.iload X106.here hx rfl (hb hby at_185) rfl k) ?_
          show own_E _ _ _ _ _ _ _ (T106.setTop (mkF m 187 #[.val (.int p0), .val (.int p1), .val (.long v0), .second, .val (.long v1), .second, .val (.long v2), .second, .val (.long v3), .second, .val (.int (2 : Int32)), .val (.ref aa), .val (.int (4 : Int32)), .val (.ref r), .val (.ref ax), .val (.long (0 : Int64)), .second, .unset, .unset] [(.int (4 : Int32))]))
          refine own_go (fun _ k => XT.iconstV X106.here hx rfl (4 : Int32) (hb hby at_187) (by decide) k) ?_
          show own_E _ _ _ _ _ _ _ (T106.setTop (mkF m 188 #[.val (.int p0), .val (.int p1), .val (.long v0), .second, .val (.long v1), .second, .val (.long v2), .second, .val (.long v3), .second, .val (.int (2 : Int32)), .val (.ref aa), .val (.int (4 : Int32)), .val (.ref r), .val (.ref ax), .val (.long (0 : Int64)), .second, .unset, .unset] [(.int (4 : Int32)), (.int (4 : Int32))]))
          refine own_go (fun _ k => XS.icmpNo X106.here hx rfl (hb hby at_188) rfl (by decide) k) ?_
          show own_E _ _ _ _ _ _ _ (T106.setTop (mkF m 191 #[.val (.int p0), .val (.int p1), .val (.long v0), .second, .val (.long v1), .second, .val (.long v2), .second, .val (.long v3), .second, .val (.int (2 : Int32)), .val (.ref aa), .val (.int (4 : Int32)), .val (.ref r), .val (.ref ax), .val (.long (0 : Int64)), .second, .unset, .unset] []))
          refine own_go (fun _ k => XS.iload X106.here hx rfl (hb hby at_191) rfl k) ?_
          show own_E _ _ _ _ _ _ _ (T106.setTop (mkF m 193 #[.val (.int p0), .val (.int p1), .val (.long v0), .second, .val (.long v1), .second, .val (.long v2), .second, .val (.long v3), .second, .val (.int (2 : Int32)), .val (.ref aa), .val (.int (4 : Int32)), .val (.ref r), .val (.ref ax), .val (.long (0 : Int64)), .second, .unset, .unset] [(.int (2 : Int32))]))
          refine own_go (fun _ k => XT.iconstV X106.here hx rfl (4 : Int32) (hb hby at_193) (by decide) k) ?_
          show own_E _ _ _ _ _ _ _ (T106.setTop (mkF m 194 #[.val (.int p0), .val (.int p1), .val (.long v0), .second, .val (.long v1), .second, .val (.long v2), .second, .val (.long v3), .second, .val (.int (2 : Int32)), .val (.ref aa), .val (.int (4 : Int32)), .val (.ref r), .val (.ref ax), .val (.long (0 : Int64)), .second, .unset, .unset] [(.int (4 : Int32)), (.int (2 : Int32))]))
          refine own_go (fun _ k => XS.icmpYes X106.here hx rfl (pc0 := 194) (pc' := 204) rfl (hb hby at_194) rfl (by decide) (by decide) (by decide) k) ?_
          show own_E _ _ _ _ _ _ _ (T106.setTop (mkF m 204 #[.val (.int p0), .val (.int p1), .val (.long v0), .second, .val (.long v1), .second, .val (.long v2), .second, .val (.long v3), .second, .val (.int (2 : Int32)), .val (.ref aa), .val (.int (4 : Int32)), .val (.ref r), .val (.ref ax), .val (.long (0 : Int64)), .second, .unset, .unset] []))
          refine own_go (fun _ k => XT.lconstV X106.here hx rfl (0 : Int64) (hb hby at_204) (by decide) k) ?_
          show own_E _ _ _ _ _ _ _ (T106.setTop (mkF m 205 #[.val (.int p0), .val (.int p1), .val (.long v0), .second, .val (.long v1), .second, .val (.long v2), .second, .val (.long v3), .second, .val (.int (2 : Int32)), .val (.ref aa), .val (.int (4 : Int32)), .val (.ref r), .val (.ref ax), .val (.long (0 : Int64)), .second, .unset, .unset] [(.long (0 : Int64))]))
          refine own_go (fun _ k => XT.lstore X106.here hx rfl (hb hby at_205) rfl (l' := #[.val (.int p0), .val (.int p1), .val (.long v0), .second, .val (.long v1), .second, .val (.long v2), .second, .val (.long v3), .second, .val (.int (2 : Int32)), .val (.ref aa), .val (.int (4 : Int32)), .val (.ref r), .val (.ref ax), .val (.long (0 : Int64)), .second, .val (.long (0 : Int64)), .second]) rfl k) ?_
          show own_E _ _ _ _ _ _ _ (T106.setTop (mkF m 207 #[.val (.int p0), .val (.int p1), .val (.long v0), .second, .val (.long v1), .second, .val (.long v2), .second, .val (.long v3), .second, .val (.int (2 : Int32)), .val (.ref aa), .val (.int (4 : Int32)), .val (.ref r), .val (.ref ax), .val (.long (0 : Int64)), .second, .val (.long (0 : Int64)), .second] []))
          refine own_go (fun _ k => XT.lload X106.here hx rfl (hb hby at_207) rfl k) ?_
          show own_E _ _ _ _ _ _ _ (T106.setTop (mkF m 209 #[.val (.int p0), .val (.int p1), .val (.long v0), .second, .val (.long v1), .second, .val (.long v2), .second, .val (.long v3), .second, .val (.int (2 : Int32)), .val (.ref aa), .val (.int (4 : Int32)), .val (.ref r), .val (.ref ax), .val (.long (0 : Int64)), .second, .val (.long (0 : Int64)), .second] [(.long (0 : Int64))]))
          refine own_go (fun _ k => XT.lload X106.here hx rfl (hb hby at_209) rfl k) ?_
          show own_E _ _ _ _ _ _ _ (T106.setTop (mkF m 211 #[.val (.int p0), .val (.int p1), .val (.long v0), .second, .val (.long v1), .second, .val (.long v2), .second, .val (.long v3), .second, .val (.int (2 : Int32)), .val (.ref aa), .val (.int (4 : Int32)), .val (.ref r), .val (.ref ax), .val (.long (0 : Int64)), .second, .val (.long (0 : Int64)), .second] [(.long (0 : Int64)), (.long (0 : Int64))]))
          refine own_go (fun _ k => XT.lcmp X106.here hx rfl (hb hby at_211) rfl k) ?_
          show own_E _ _ _ _ _ _ _ (T106.setTop (mkF m 212 #[.val (.int p0), .val (.int p1), .val (.long v0), .second, .val (.long v1), .second, .val (.long v2), .second, .val (.long v3), .second, .val (.int (2 : Int32)), .val (.ref aa), .val (.int (4 : Int32)), .val (.ref r), .val (.ref ax), .val (.long (0 : Int64)), .second, .val (.long (0 : Int64)), .second] [(.int (XT.cmpL (0 : Int64) (0 : Int64)))]))
          refine own_go (fun _ k => XS.ifNo X106.here hx rfl (hb hby at_212) rfl (XT.ll_ne_f rfl) k) ?_
          show own_E _ _ _ _ _ _ _ (T106.setTop (mkF m 215 #[.val (.int p0), .val (.int p1), .val (.long v0), .second, .val (.long v1), .second, .val (.long v2), .second, .val (.long v3), .second, .val (.int (2 : Int32)), .val (.ref aa), .val (.int (4 : Int32)), .val (.ref r), .val (.ref ax), .val (.long (0 : Int64)), .second, .val (.long (0 : Int64)), .second] []))
          refine own_go (fun _ k => XT.iconstV X106.here hx rfl (1 : Int32) (hb hby at_215) (by decide) k) ?_
          show own_E _ _ _ _ _ _ _ (T106.setTop (mkF m 216 #[.val (.int p0), .val (.int p1), .val (.long v0), .second, .val (.long v1), .second, .val (.long v2), .second, .val (.long v3), .second, .val (.int (2 : Int32)), .val (.ref aa), .val (.int (4 : Int32)), .val (.ref r), .val (.ref ax), .val (.long (0 : Int64)), .second, .val (.long (0 : Int64)), .second] [(.int (1 : Int32))]))
          refine own_go (fun _ k => XS.goto X106.here hx rfl (pc0 := 216) (pc' := 220) rfl (hb hby at_216) (by decide) (by decide) k) ?_
          show own_E _ _ _ _ _ _ _ (T106.setTop (mkF m 220 #[.val (.int p0), .val (.int p1), .val (.long v0), .second, .val (.long v1), .second, .val (.long v2), .second, .val (.long v3), .second, .val (.int (2 : Int32)), .val (.ref aa), .val (.int (4 : Int32)), .val (.ref r), .val (.ref ax), .val (.long (0 : Int64)), .second, .val (.long (0 : Int64)), .second] [(.int (1 : Int32))]))
          exact own_ret X106 hx Bd.returns Bd.notSynchronized rfl (Or.inl ⟨rfl, by simp, _, rfl⟩) (hb hby at_220) (by rw [e106]; exact ⟨rfl, M106⟩) (by decide) (by decide)
        ·
          rw [show own_r n (2 : Int32) v0 v1 v2 v3 = 0 from own_far h5 (by decide)]
          show own_E _ _ _ _ _ _ _ (T106.setTop (mkF m 127 #[.val (.int p0), .val (.int p1), .val (.long v0), .second, .val (.long v1), .second, .val (.long v2), .second, .val (.long v3), .second, .val (.int (2 : Int32)), .val (.ref aa), .val (.int n), .val (.ref r), .val (.ref ax), .unset, .unset, .unset, .unset] [(.long (0 : Int64))]))
          refine own_go (fun _ k => XT.lstore X106.here hx rfl (hb hby at_127) rfl (l' := #[.val (.int p0), .val (.int p1), .val (.long v0), .second, .val (.long v1), .second, .val (.long v2), .second, .val (.long v3), .second, .val (.int (2 : Int32)), .val (.ref aa), .val (.int n), .val (.ref r), .val (.ref ax), .val (.long (0 : Int64)), .second, .unset, .unset]) rfl k) ?_
          show own_E _ _ _ _ _ _ _ (T106.setTop (mkF m 129 #[.val (.int p0), .val (.int p1), .val (.long v0), .second, .val (.long v1), .second, .val (.long v2), .second, .val (.long v3), .second, .val (.int (2 : Int32)), .val (.ref aa), .val (.int n), .val (.ref r), .val (.ref ax), .val (.long (0 : Int64)), .second, .unset, .unset] []))
          refine own_go (fun _ k => XS.iload X106.here hx rfl (hb hby at_129) rfl k) ?_
          show own_E _ _ _ _ _ _ _ (T106.setTop (mkF m 131 #[.val (.int p0), .val (.int p1), .val (.long v0), .second, .val (.long v1), .second, .val (.long v2), .second, .val (.long v3), .second, .val (.int (2 : Int32)), .val (.ref aa), .val (.int n), .val (.ref r), .val (.ref ax), .val (.long (0 : Int64)), .second, .unset, .unset] [(.int n)]))
          refine own_go (fun _ k => XT.iconstV X106.here hx rfl (1 : Int32) (hb hby at_131) (by decide) k) ?_
          show own_E _ _ _ _ _ _ _ (T106.setTop (mkF m 132 #[.val (.int p0), .val (.int p1), .val (.long v0), .second, .val (.long v1), .second, .val (.long v2), .second, .val (.long v3), .second, .val (.int (2 : Int32)), .val (.ref aa), .val (.int n), .val (.ref r), .val (.ref ax), .val (.long (0 : Int64)), .second, .unset, .unset] [(.int (1 : Int32)), (.int n)]))
          refine own_go (fun _ k => XS.icmpYes X106.here hx rfl (pc0 := 132) (pc' := 147) rfl (hb hby at_132) rfl (feq (own_nq h5 (by decide))).2 (by decide) (by decide) k) ?_
          show own_E _ _ _ _ _ _ _ (T106.setTop (mkF m 147 #[.val (.int p0), .val (.int p1), .val (.long v0), .second, .val (.long v1), .second, .val (.long v2), .second, .val (.long v3), .second, .val (.int (2 : Int32)), .val (.ref aa), .val (.int n), .val (.ref r), .val (.ref ax), .val (.long (0 : Int64)), .second, .unset, .unset] []))
          refine own_go (fun _ k => XS.iload X106.here hx rfl (hb hby at_147) rfl k) ?_
          show own_E _ _ _ _ _ _ _ (T106.setTop (mkF m 149 #[.val (.int p0), .val (.int p1), .val (.long v0), .second, .val (.long v1), .second, .val (.long v2), .second, .val (.long v3), .second, .val (.int (2 : Int32)), .val (.ref aa), .val (.int n), .val (.ref r), .val (.ref ax), .val (.long (0 : Int64)), .second, .unset, .unset] [(.int n)]))
          refine own_go (fun _ k => XT.iconstV X106.here hx rfl (2 : Int32) (hb hby at_149) (by decide) k) ?_
          show own_E _ _ _ _ _ _ _ (T106.setTop (mkF m 150 #[.val (.int p0), .val (.int p1), .val (.long v0), .second, .val (.long v1), .second, .val (.long v2), .second, .val (.long v3), .second, .val (.int (2 : Int32)), .val (.ref aa), .val (.int n), .val (.ref r), .val (.ref ax), .val (.long (0 : Int64)), .second, .unset, .unset] [(.int (2 : Int32)), (.int n)]))
          refine own_go (fun _ k => XS.icmpYes X106.here hx rfl (pc0 := 150) (pc' := 166) rfl (hb hby at_150) rfl (feq (own_nq h5 (by decide))).2 (by decide) (by decide) k) ?_
          show own_E _ _ _ _ _ _ _ (T106.setTop (mkF m 166 #[.val (.int p0), .val (.int p1), .val (.long v0), .second, .val (.long v1), .second, .val (.long v2), .second, .val (.long v3), .second, .val (.int (2 : Int32)), .val (.ref aa), .val (.int n), .val (.ref r), .val (.ref ax), .val (.long (0 : Int64)), .second, .unset, .unset] []))
          refine own_go (fun _ k => XS.iload X106.here hx rfl (hb hby at_166) rfl k) ?_
          show own_E _ _ _ _ _ _ _ (T106.setTop (mkF m 168 #[.val (.int p0), .val (.int p1), .val (.long v0), .second, .val (.long v1), .second, .val (.long v2), .second, .val (.long v3), .second, .val (.int (2 : Int32)), .val (.ref aa), .val (.int n), .val (.ref r), .val (.ref ax), .val (.long (0 : Int64)), .second, .unset, .unset] [(.int n)]))
          refine own_go (fun _ k => XT.iconstV X106.here hx rfl (3 : Int32) (hb hby at_168) (by decide) k) ?_
          show own_E _ _ _ _ _ _ _ (T106.setTop (mkF m 169 #[.val (.int p0), .val (.int p1), .val (.long v0), .second, .val (.long v1), .second, .val (.long v2), .second, .val (.long v3), .second, .val (.int (2 : Int32)), .val (.ref aa), .val (.int n), .val (.ref r), .val (.ref ax), .val (.long (0 : Int64)), .second, .unset, .unset] [(.int (3 : Int32)), (.int n)]))
          refine own_go (fun _ k => XS.icmpYes X106.here hx rfl (pc0 := 169) (pc' := 185) rfl (hb hby at_169) rfl (feq (own_nq h5 (by decide))).2 (by decide) (by decide) k) ?_
          show own_E _ _ _ _ _ _ _ (T106.setTop (mkF m 185 #[.val (.int p0), .val (.int p1), .val (.long v0), .second, .val (.long v1), .second, .val (.long v2), .second, .val (.long v3), .second, .val (.int (2 : Int32)), .val (.ref aa), .val (.int n), .val (.ref r), .val (.ref ax), .val (.long (0 : Int64)), .second, .unset, .unset] []))
          refine own_go (fun _ k => XS.iload X106.here hx rfl (hb hby at_185) rfl k) ?_
          show own_E _ _ _ _ _ _ _ (T106.setTop (mkF m 187 #[.val (.int p0), .val (.int p1), .val (.long v0), .second, .val (.long v1), .second, .val (.long v2), .second, .val (.long v3), .second, .val (.int (2 : Int32)), .val (.ref aa), .val (.int n), .val (.ref r), .val (.ref ax), .val (.long (0 : Int64)), .second, .unset, .unset] [(.int n)]))
          refine own_go (fun _ k => XT.iconstV X106.here hx rfl (4 : Int32) (hb hby at_187) (by decide) k) ?_
          show own_E _ _ _ _ _ _ _ (T106.setTop (mkF m 188 #[.val (.int p0), .val (.int p1), .val (.long v0), .second, .val (.long v1), .second, .val (.long v2), .second, .val (.long v3), .second, .val (.int (2 : Int32)), .val (.ref aa), .val (.int n), .val (.ref r), .val (.ref ax), .val (.long (0 : Int64)), .second, .unset, .unset] [(.int (4 : Int32)), (.int n)]))
          refine own_go (fun _ k => XS.icmpYes X106.here hx rfl (pc0 := 188) (pc' := 204) rfl (hb hby at_188) rfl (feq (own_nq h5 (by decide))).2 (by decide) (by decide) k) ?_
          show own_E _ _ _ _ _ _ _ (T106.setTop (mkF m 204 #[.val (.int p0), .val (.int p1), .val (.long v0), .second, .val (.long v1), .second, .val (.long v2), .second, .val (.long v3), .second, .val (.int (2 : Int32)), .val (.ref aa), .val (.int n), .val (.ref r), .val (.ref ax), .val (.long (0 : Int64)), .second, .unset, .unset] []))
          refine own_go (fun _ k => XT.lconstV X106.here hx rfl (0 : Int64) (hb hby at_204) (by decide) k) ?_
          show own_E _ _ _ _ _ _ _ (T106.setTop (mkF m 205 #[.val (.int p0), .val (.int p1), .val (.long v0), .second, .val (.long v1), .second, .val (.long v2), .second, .val (.long v3), .second, .val (.int (2 : Int32)), .val (.ref aa), .val (.int n), .val (.ref r), .val (.ref ax), .val (.long (0 : Int64)), .second, .unset, .unset] [(.long (0 : Int64))]))
          refine own_go (fun _ k => XT.lstore X106.here hx rfl (hb hby at_205) rfl (l' := #[.val (.int p0), .val (.int p1), .val (.long v0), .second, .val (.long v1), .second, .val (.long v2), .second, .val (.long v3), .second, .val (.int (2 : Int32)), .val (.ref aa), .val (.int n), .val (.ref r), .val (.ref ax), .val (.long (0 : Int64)), .second, .val (.long (0 : Int64)), .second]) rfl k) ?_
          show own_E _ _ _ _ _ _ _ (T106.setTop (mkF m 207 #[.val (.int p0), .val (.int p1), .val (.long v0), .second, .val (.long v1), .second, .val (.long v2), .second, .val (.long v3), .second, .val (.int (2 : Int32)), .val (.ref aa), .val (.int n), .val (.ref r), .val (.ref ax), .val (.long (0 : Int64)), .second, .val (.long (0 : Int64)), .second] []))
          refine own_go (fun _ k => XT.lload X106.here hx rfl (hb hby at_207) rfl k) ?_
          show own_E _ _ _ _ _ _ _ (T106.setTop (mkF m 209 #[.val (.int p0), .val (.int p1), .val (.long v0), .second, .val (.long v1), .second, .val (.long v2), .second, .val (.long v3), .second, .val (.int (2 : Int32)), .val (.ref aa), .val (.int n), .val (.ref r), .val (.ref ax), .val (.long (0 : Int64)), .second, .val (.long (0 : Int64)), .second] [(.long (0 : Int64))]))
          refine own_go (fun _ k => XT.lload X106.here hx rfl (hb hby at_209) rfl k) ?_
          show own_E _ _ _ _ _ _ _ (T106.setTop (mkF m 211 #[.val (.int p0), .val (.int p1), .val (.long v0), .second, .val (.long v1), .second, .val (.long v2), .second, .val (.long v3), .second, .val (.int (2 : Int32)), .val (.ref aa), .val (.int n), .val (.ref r), .val (.ref ax), .val (.long (0 : Int64)), .second, .val (.long (0 : Int64)), .second] [(.long (0 : Int64)), (.long (0 : Int64))]))
          refine own_go (fun _ k => XT.lcmp X106.here hx rfl (hb hby at_211) rfl k) ?_
          show own_E _ _ _ _ _ _ _ (T106.setTop (mkF m 212 #[.val (.int p0), .val (.int p1), .val (.long v0), .second, .val (.long v1), .second, .val (.long v2), .second, .val (.long v3), .second, .val (.int (2 : Int32)), .val (.ref aa), .val (.int n), .val (.ref r), .val (.ref ax), .val (.long (0 : Int64)), .second, .val (.long (0 : Int64)), .second] [(.int (XT.cmpL (0 : Int64) (0 : Int64)))]))
          refine own_go (fun _ k => XS.ifNo X106.here hx rfl (hb hby at_212) rfl (XT.ll_ne_f rfl) k) ?_
          show own_E _ _ _ _ _ _ _ (T106.setTop (mkF m 215 #[.val (.int p0), .val (.int p1), .val (.long v0), .second, .val (.long v1), .second, .val (.long v2), .second, .val (.long v3), .second, .val (.int (2 : Int32)), .val (.ref aa), .val (.int n), .val (.ref r), .val (.ref ax), .val (.long (0 : Int64)), .second, .val (.long (0 : Int64)), .second] []))
          refine own_go (fun _ k => XT.iconstV X106.here hx rfl (1 : Int32) (hb hby at_215) (by decide) k) ?_
          show own_E _ _ _ _ _ _ _ (T106.setTop (mkF m 216 #[.val (.int p0), .val (.int p1), .val (.long v0), .second, .val (.long v1), .second, .val (.long v2), .second, .val (.long v3), .second, .val (.int (2 : Int32)), .val (.ref aa), .val (.int n), .val (.ref r), .val (.ref ax), .val (.long (0 : Int64)), .second, .val (.long (0 : Int64)), .second] [(.int (1 : Int32))]))
          refine own_go (fun _ k => XS.goto X106.here hx rfl (pc0 := 216) (pc' := 220) rfl (hb hby at_216) (by decide) (by decide) k) ?_
          show own_E _ _ _ _ _ _ _ (T106.setTop (mkF m 220 #[.val (.int p0), .val (.int p1), .val (.long v0), .second, .val (.long v1), .second, .val (.long v2), .second, .val (.long v3), .second, .val (.int (2 : Int32)), .val (.ref aa), .val (.int n), .val (.ref r), .val (.ref ax), .val (.long (0 : Int64)), .second, .val (.long (0 : Int64)), .second] [(.int (1 : Int32))]))
          exact own_ret X106 hx Bd.returns Bd.notSynchronized rfl (Or.inl ⟨rfl, by simp, _, rfl⟩) (hb hby at_220) (by rw [e106]; exact ⟨rfl, M106⟩) (by decide) (by decide)
      ·
        rcases own_five hn with rfl | rfl | rfl | rfl | h5
        ·
          rw [show own_r (1 : Int32) (3 : Int32) v0 v1 v2 v3 = v0 from rfl]
          show own_E _ _ _ _ _ _ _ (T106.setTop (mkF m 127 #[.val (.int p0), .val (.int p1), .val (.long v0), .second, .val (.long v1), .second, .val (.long v2), .second, .val (.long v3), .second, .val (.int (3 : Int32)), .val (.ref aa), .val (.int (1 : Int32)), .val (.ref r), .val (.ref ax), .unset, .unset, .unset, .unset] [(.long v0)]))
          refine own_go (fun _ k => XT.lstore X106.here hx rfl (hb hby at_127) rfl (l' := #[.val (.int p0), .val (.int p1), .val (.long v0), .second, .val (.long v1), .second, .val (.long v2), .second, .val (.long v3), .second, .val (.int (3 : Int32)), .val (.ref aa), .val (.int (1 : Int32)), .val (.ref r), .val (.ref ax), .val (.long v0), .second, .unset, .unset]) rfl k) ?_
          show own_E _ _ _ _ _ _ _ (T106.setTop (mkF m 129 #[.val (.int p0), .val (.int p1), .val (.long v0), .second, .val (.long v1), .second, .val (.long v2), .second, .val (.long v3), .second, .val (.int (3 : Int32)), .val (.ref aa), .val (.int (1 : Int32)), .val (.ref r), .val (.ref ax), .val (.long v0), .second, .unset, .unset] []))
          refine own_go (fun _ k => XS.iload X106.here hx rfl (hb hby at_129) rfl k) ?_
          show own_E _ _ _ _ _ _ _ (T106.setTop (mkF m 131 #[.val (.int p0), .val (.int p1), .val (.long v0), .second, .val (.long v1), .second, .val (.long v2), .second, .val (.long v3), .second, .val (.int (3 : Int32)), .val (.ref aa), .val (.int (1 : Int32)), .val (.ref r), .val (.ref ax), .val (.long v0), .second, .unset, .unset] [(.int (1 : Int32))]))
          refine own_go (fun _ k => XT.iconstV X106.here hx rfl (1 : Int32) (hb hby at_131) (by decide) k) ?_
          show own_E _ _ _ _ _ _ _ (T106.setTop (mkF m 132 #[.val (.int p0), .val (.int p1), .val (.long v0), .second, .val (.long v1), .second, .val (.long v2), .second, .val (.long v3), .second, .val (.int (3 : Int32)), .val (.ref aa), .val (.int (1 : Int32)), .val (.ref r), .val (.ref ax), .val (.long v0), .second, .unset, .unset] [(.int (1 : Int32)), (.int (1 : Int32))]))
          refine own_go (fun _ k => XS.icmpNo X106.here hx rfl (hb hby at_132) rfl (by decide) k) ?_
          show own_E _ _ _ _ _ _ _ (T106.setTop (mkF m 135 #[.val (.int p0), .val (.int p1), .val (.long v0), .second, .val (.long v1), .second, .val (.long v2), .second, .val (.long v3), .second, .val (.int (3 : Int32)), .val (.ref aa), .val (.int (1 : Int32)), .val (.ref r), .val (.ref ax), .val (.long v0), .second, .unset, .unset] []))
          refine own_go (fun _ k => XS.iload X106.here hx rfl (hb hby at_135) rfl k) ?_
          show own_E _ _ _ _ _ _ _ (T106.setTop (mkF m 137 #[.val (.int p0), .val (.int p1), .val (.long v0), .second, .val (.long v1), .second, .val (.long v2), .second, .val (.long v3), .second, .val (.int (3 : Int32)), .val (.ref aa), .val (.int (1 : Int32)), .val (.ref r), .val (.ref ax), .val (.long v0), .second, .unset, .unset] [(.int (3 : Int32))]))
          refine own_go (fun _ k => XT.iconstV X106.here hx rfl (1 : Int32) (hb hby at_137) (by decide) k) ?_
          show own_E _ _ _ _ _ _ _ (T106.setTop (mkF m 138 #[.val (.int p0), .val (.int p1), .val (.long v0), .second, .val (.long v1), .second, .val (.long v2), .second, .val (.long v3), .second, .val (.int (3 : Int32)), .val (.ref aa), .val (.int (1 : Int32)), .val (.ref r), .val (.ref ax), .val (.long v0), .second, .unset, .unset] [(.int (1 : Int32)), (.int (3 : Int32))]))
          refine own_go (fun _ k => XS.icmpNo X106.here hx rfl (hb hby at_138) rfl (by decide) k) ?_
          show own_E _ _ _ _ _ _ _ (T106.setTop (mkF m 141 #[.val (.int p0), .val (.int p1), .val (.long v0), .second, .val (.long v1), .second, .val (.long v2), .second, .val (.long v3), .second, .val (.int (3 : Int32)), .val (.ref aa), .val (.int (1 : Int32)), .val (.ref r), .val (.ref ax), .val (.long v0), .second, .unset, .unset] []))
          refine own_go (fun _ k => XT.lloadN X106.here hx rfl (hb hby at_141) rfl k) ?_
          show own_E _ _ _ _ _ _ _ (T106.setTop (mkF m 142 #[.val (.int p0), .val (.int p1), .val (.long v0), .second, .val (.long v1), .second, .val (.long v2), .second, .val (.long v3), .second, .val (.int (3 : Int32)), .val (.ref aa), .val (.int (1 : Int32)), .val (.ref r), .val (.ref ax), .val (.long v0), .second, .unset, .unset] [(.long v0)]))
          refine own_go (fun _ k => XT.lstore X106.here hx rfl (hb hby at_142) rfl (l' := #[.val (.int p0), .val (.int p1), .val (.long v0), .second, .val (.long v1), .second, .val (.long v2), .second, .val (.long v3), .second, .val (.int (3 : Int32)), .val (.ref aa), .val (.int (1 : Int32)), .val (.ref r), .val (.ref ax), .val (.long v0), .second, .val (.long v0), .second]) rfl k) ?_
          show own_E _ _ _ _ _ _ _ (T106.setTop (mkF m 144 #[.val (.int p0), .val (.int p1), .val (.long v0), .second, .val (.long v1), .second, .val (.long v2), .second, .val (.long v3), .second, .val (.int (3 : Int32)), .val (.ref aa), .val (.int (1 : Int32)), .val (.ref r), .val (.ref ax), .val (.long v0), .second, .val (.long v0), .second] []))
          refine own_go (fun _ k => XS.goto X106.here hx rfl (pc0 := 144) (pc' := 207) rfl (hb hby at_144) (by decide) (by decide) k) ?_
          show own_E _ _ _ _ _ _ _ (T106.setTop (mkF m 207 #[.val (.int p0), .val (.int p1), .val (.long v0), .second, .val (.long v1), .second, .val (.long v2), .second, .val (.long v3), .second, .val (.int (3 : Int32)), .val (.ref aa), .val (.int (1 : Int32)), .val (.ref r), .val (.ref ax), .val (.long v0), .second, .val (.long v0), .second] []))
          refine own_go (fun _ k => XT.lload X106.here hx rfl (hb hby at_207) rfl k) ?_
          show own_E _ _ _ _ _ _ _ (T106.setTop (mkF m 209 #[.val (.int p0), .val (.int p1), .val (.long v0), .second, .val (.long v1), .second, .val (.long v2), .second, .val (.long v3), .second, .val (.int (3 : Int32)), .val (.ref aa), .val (.int (1 : Int32)), .val (.ref r), .val (.ref ax), .val (.long v0), .second, .val (.long v0), .second] [(.long v0)]))
          refine own_go (fun _ k => XT.lload X106.here hx rfl (hb hby at_209) rfl k) ?_
          show own_E _ _ _ _ _ _ _ (T106.setTop (mkF m 211 #[.val (.int p0), .val (.int p1), .val (.long v0), .second, .val (.long v1), .second, .val (.long v2), .second, .val (.long v3), .second, .val (.int (3 : Int32)), .val (.ref aa), .val (.int (1 : Int32)), .val (.ref r), .val (.ref ax), .val (.long v0), .second, .val (.long v0), .second] [(.long v0), (.long v0)]))
          refine own_go (fun _ k => XT.lcmp X106.here hx rfl (hb hby at_211) rfl k) ?_
          show own_E _ _ _ _ _ _ _ (T106.setTop (mkF m 212 #[.val (.int p0), .val (.int p1), .val (.long v0), .second, .val (.long v1), .second, .val (.long v2), .second, .val (.long v3), .second, .val (.int (3 : Int32)), .val (.ref aa), .val (.int (1 : Int32)), .val (.ref r), .val (.ref ax), .val (.long v0), .second, .val (.long v0), .second] [(.int (XT.cmpL v0 v0))]))
          refine own_go (fun _ k => XS.ifNo X106.here hx rfl (hb hby at_212) rfl (XT.ll_ne_f rfl) k) ?_
          show own_E _ _ _ _ _ _ _ (T106.setTop (mkF m 215 #[.val (.int p0), .val (.int p1), .val (.long v0), .second, .val (.long v1), .second, .val (.long v2), .second, .val (.long v3), .second, .val (.int (3 : Int32)), .val (.ref aa), .val (.int (1 : Int32)), .val (.ref r), .val (.ref ax), .val (.long v0), .second, .val (.long v0), .second] []))
          refine own_go (fun _ k => XT.iconstV X106.here hx rfl (1 : Int32) (hb hby at_215) (by decide) k) ?_
          show own_E _ _ _ _ _ _ _ (T106.setTop (mkF m 216 #[.val (.int p0), .val (.int p1), .val (.long v0), .second, .val (.long v1), .second, .val (.long v2), .second, .val (.long v3), .second, .val (.int (3 : Int32)), .val (.ref aa), .val (.int (1 : Int32)), .val (.ref r), .val (.ref ax), .val (.long v0), .second, .val (.long v0), .second] [(.int (1 : Int32))]))
          refine own_go (fun _ k => XS.goto X106.here hx rfl (pc0 := 216) (pc' := 220) rfl (hb hby at_216) (by decide) (by decide) k) ?_
          show own_E _ _ _ _ _ _ _ (T106.setTop (mkF m 220 #[.val (.int p0), .val (.int p1), .val (.long v0), .second, .val (.long v1), .second, .val (.long v2), .second, .val (.long v3), .second, .val (.int (3 : Int32)), .val (.ref aa), .val (.int (1 : Int32)), .val (.ref r), .val (.ref ax), .val (.long v0), .second, .val (.long v0), .second] [(.int (1 : Int32))]))
          exact own_ret X106 hx Bd.returns Bd.notSynchronized rfl (Or.inl ⟨rfl, by simp, _, rfl⟩) (hb hby at_220) (by rw [e106]; exact ⟨rfl, M106⟩) (by decide) (by decide)
        ·
          rw [show own_r (2 : Int32) (3 : Int32) v0 v1 v2 v3 = v1 from rfl]
          show own_E _ _ _ _ _ _ _ (T106.setTop (mkF m 127 #[.val (.int p0), .val (.int p1), .val (.long v0), .second, .val (.long v1), .second, .val (.long v2), .second, .val (.long v3), .second, .val (.int (3 : Int32)), .val (.ref aa), .val (.int (2 : Int32)), .val (.ref r), .val (.ref ax), .unset, .unset, .unset, .unset] [(.long v1)]))
          refine own_go (fun _ k => XT.lstore X106.here hx rfl (hb hby at_127) rfl (l' := #[.val (.int p0), .val (.int p1), .val (.long v0), .second, .val (.long v1), .second, .val (.long v2), .second, .val (.long v3), .second, .val (.int (3 : Int32)), .val (.ref aa), .val (.int (2 : Int32)), .val (.ref r), .val (.ref ax), .val (.long v1), .second, .unset, .unset]) rfl k) ?_
          show own_E _ _ _ _ _ _ _ (T106.setTop (mkF m 129 #[.val (.int p0), .val (.int p1), .val (.long v0), .second, .val (.long v1), .second, .val (.long v2), .second, .val (.long v3), .second, .val (.int (3 : Int32)), .val (.ref aa), .val (.int (2 : Int32)), .val (.ref r), .val (.ref ax), .val (.long v1), .second, .unset, .unset] []))
          refine own_go (fun _ k => XS.iload X106.here hx rfl (hb hby at_129) rfl k) ?_
          show own_E _ _ _ _ _ _ _ (T106.setTop (mkF m 131 #[.val (.int p0), .val (.int p1), .val (.long v0), .second, .val (.long v1), .second, .val (.long v2), .second, .val (.long v3), .second, .val (.int (3 : Int32)), .val (.ref aa), .val (.int (2 : Int32)), .val (.ref r), .val (.ref ax), .val (.long v1), .second, .unset, .unset] [(.int (2 : Int32))]))
          refine own_go (fun _ k => XT.iconstV X106.here hx rfl (1 : Int32) (hb hby at_131) (by decide) k) ?_
          show own_E _ _ _ _ _ _ _ (T106.setTop (mkF m 132 #[.val (.int p0), .val (.int p1), .val (.long v0), .second, .val (.long v1), .second, .val (.long v2), .second, .val (.long v3), .second, .val (.int (3 : Int32)), .val (.ref aa), .val (.int (2 : Int32)), .val (.ref r), .val (.ref ax), .val (.long v1), .second, .unset, .unset] [(.int (1 : Int32)), (.int (2 : Int32))]))
          refine own_go (fun _ k => XS.icmpYes X106.here hx rfl (pc0 := 132) (pc' := 147) rfl (hb hby at_132) rfl (by decide) (by decide) (by decide) k) ?_
          show own_E _ _ _ _ _ _ _ (T106.setTop (mkF m 147 #[.val (.int p0), .val (.int p1), .val (.long v0), .second, .val (.long v1), .second, .val (.long v2), .second, .val (.long v3), .second, .val (.int (3 : Int32)), .val (.ref aa), .val (.int (2 : Int32)), .val (.ref r), .val (.ref ax), .val (.long v1), .second, .unset, .unset] []))
          refine own_go (fun _ k => XS.iload X106.here hx rfl (hb hby at_147) rfl k) ?_
          show own_E _ _ _ _ _ _ _ (T106.setTop (mkF m 149 #[.val (.int p0), .val (.int p1), .val (.long v0), .second, .val (.long v1), .second, .val (.long v2), .second, .val (.long v3), .second, .val (.int (3 : Int32)), .val (.ref aa), .val (.int (2 : Int32)), .val (.ref r), .val (.ref ax), .val (.long v1), .second, .unset, .unset] [(.int (2 : Int32))]))
          refine own_go (fun _ k => XT.iconstV X106.here hx rfl (2 : Int32) (hb hby at_149) (by decide) k) ?_
          show own_E _ _ _ _ _ _ _ (T106.setTop (mkF m 150 #[.val (.int p0), .val (.int p1), .val (.long v0), .second, .val (.long v1), .second, .val (.long v2), .second, .val (.long v3), .second, .val (.int (3 : Int32)), .val (.ref aa), .val (.int (2 : Int32)), .val (.ref r), .val (.ref ax), .val (.long v1), .second, .unset, .unset] [(.int (2 : Int32)), (.int (2 : Int32))]))
          refine own_go (fun _ k => XS.icmpNo X106.here hx rfl (hb hby at_150) rfl (by decide) k) ?_
          show own_E _ _ _ _ _ _ _ (T106.setTop (mkF m 153 #[.val (.int p0), .val (.int p1), .val (.long v0), .second, .val (.long v1), .second, .val (.long v2), .second, .val (.long v3), .second, .val (.int (3 : Int32)), .val (.ref aa), .val (.int (2 : Int32)), .val (.ref r), .val (.ref ax), .val (.long v1), .second, .unset, .unset] []))
          refine own_go (fun _ k => XS.iload X106.here hx rfl (hb hby at_153) rfl k) ?_
          show own_E _ _ _ _ _ _ _ (T106.setTop (mkF m 155 #[.val (.int p0), .val (.int p1), .val (.long v0), .second, .val (.long v1), .second, .val (.long v2), .second, .val (.long v3), .second, .val (.int (3 : Int32)), .val (.ref aa), .val (.int (2 : Int32)), .val (.ref r), .val (.ref ax), .val (.long v1), .second, .unset, .unset] [(.int (3 : Int32))]))
          refine own_go (fun _ k => XT.iconstV X106.here hx rfl (2 : Int32) (hb hby at_155) (by decide) k) ?_
          show own_E _ _ _ _ _ _ _ (T106.setTop (mkF m 156 #[.val (.int p0), .val (.int p1), .val (.long v0), .second, .val (.long v1), .second, .val (.long v2), .second, .val (.long v3), .second, .val (.int (3 : Int32)), .val (.ref aa), .val (.int (2 : Int32)), .val (.ref r), .val (.ref ax), .val (.long v1), .second, .unset, .unset] [(.int (2 : Int32)), (.int (3 : Int32))]))
          refine own_go (fun _ k => XS.icmpNo X106.here hx rfl (hb hby at_156) rfl (by decide) k) ?_
          show own_E _ _ _ _ _ _ _ (T106.setTop (mkF m 159 #[.val (.int p0), .val (.int p1), .val (.long v0), .second, .val (.long v1), .second, .val (.long v2), .second, .val (.long v3), .second, .val (.int (3 : Int32)), .val (.ref aa), .val (.int (2 : Int32)), .val (.ref r), .val (.ref ax), .val (.long v1), .second, .unset, .unset] []))
          refine own_go (fun _ k => XT.lload X106.here hx rfl (hb hby at_159) rfl k) ?_
          show own_E _ _ _ _ _ _ _ (T106.setTop (mkF m 161 #[.val (.int p0), .val (.int p1), .val (.long v0), .second, .val (.long v1), .second, .val (.long v2), .second, .val (.long v3), .second, .val (.int (3 : Int32)), .val (.ref aa), .val (.int (2 : Int32)), .val (.ref r), .val (.ref ax), .val (.long v1), .second, .unset, .unset] [(.long v1)]))
          refine own_go (fun _ k => XT.lstore X106.here hx rfl (hb hby at_161) rfl (l' := #[.val (.int p0), .val (.int p1), .val (.long v0), .second, .val (.long v1), .second, .val (.long v2), .second, .val (.long v3), .second, .val (.int (3 : Int32)), .val (.ref aa), .val (.int (2 : Int32)), .val (.ref r), .val (.ref ax), .val (.long v1), .second, .val (.long v1), .second]) rfl k) ?_
          show own_E _ _ _ _ _ _ _ (T106.setTop (mkF m 163 #[.val (.int p0), .val (.int p1), .val (.long v0), .second, .val (.long v1), .second, .val (.long v2), .second, .val (.long v3), .second, .val (.int (3 : Int32)), .val (.ref aa), .val (.int (2 : Int32)), .val (.ref r), .val (.ref ax), .val (.long v1), .second, .val (.long v1), .second] []))
          refine own_go (fun _ k => XS.goto X106.here hx rfl (pc0 := 163) (pc' := 207) rfl (hb hby at_163) (by decide) (by decide) k) ?_
          show own_E _ _ _ _ _ _ _ (T106.setTop (mkF m 207 #[.val (.int p0), .val (.int p1), .val (.long v0), .second, .val (.long v1), .second, .val (.long v2), .second, .val (.long v3), .second, .val (.int (3 : Int32)), .val (.ref aa), .val (.int (2 : Int32)), .val (.ref r), .val (.ref ax), .val (.long v1), .second, .val (.long v1), .second] []))
          refine own_go (fun _ k => XT.lload X106.here hx rfl (hb hby at_207) rfl k) ?_
          show own_E _ _ _ _ _ _ _ (T106.setTop (mkF m 209 #[.val (.int p0), .val (.int p1), .val (.long v0), .second, .val (.long v1), .second, .val (.long v2), .second, .val (.long v3), .second, .val (.int (3 : Int32)), .val (.ref aa), .val (.int (2 : Int32)), .val (.ref r), .val (.ref ax), .val (.long v1), .second, .val (.long v1), .second] [(.long v1)]))
          refine own_go (fun _ k => XT.lload X106.here hx rfl (hb hby at_209) rfl k) ?_
          show own_E _ _ _ _ _ _ _ (T106.setTop (mkF m 211 #[.val (.int p0), .val (.int p1), .val (.long v0), .second, .val (.long v1), .second, .val (.long v2), .second, .val (.long v3), .second, .val (.int (3 : Int32)), .val (.ref aa), .val (.int (2 : Int32)), .val (.ref r), .val (.ref ax), .val (.long v1), .second, .val (.long v1), .second] [(.long v1), (.long v1)]))
          refine own_go (fun _ k => XT.lcmp X106.here hx rfl (hb hby at_211) rfl k) ?_
          show own_E _ _ _ _ _ _ _ (T106.setTop (mkF m 212 #[.val (.int p0), .val (.int p1), .val (.long v0), .second, .val (.long v1), .second, .val (.long v2), .second, .val (.long v3), .second, .val (.int (3 : Int32)), .val (.ref aa), .val (.int (2 : Int32)), .val (.ref r), .val (.ref ax), .val (.long v1), .second, .val (.long v1), .second] [(.int (XT.cmpL v1 v1))]))
          refine own_go (fun _ k => XS.ifNo X106.here hx rfl (hb hby at_212) rfl (XT.ll_ne_f rfl) k) ?_
          show own_E _ _ _ _ _ _ _ (T106.setTop (mkF m 215 #[.val (.int p0), .val (.int p1), .val (.long v0), .second, .val (.long v1), .second, .val (.long v2), .second, .val (.long v3), .second, .val (.int (3 : Int32)), .val (.ref aa), .val (.int (2 : Int32)), .val (.ref r), .val (.ref ax), .val (.long v1), .second, .val (.long v1), .second] []))
          refine own_go (fun _ k => XT.iconstV X106.here hx rfl (1 : Int32) (hb hby at_215) (by decide) k) ?_
          show own_E _ _ _ _ _ _ _ (T106.setTop (mkF m 216 #[.val (.int p0), .val (.int p1), .val (.long v0), .second, .val (.long v1), .second, .val (.long v2), .second, .val (.long v3), .second, .val (.int (3 : Int32)), .val (.ref aa), .val (.int (2 : Int32)), .val (.ref r), .val (.ref ax), .val (.long v1), .second, .val (.long v1), .second] [(.int (1 : Int32))]))
          refine own_go (fun _ k => XS.goto X106.here hx rfl (pc0 := 216) (pc' := 220) rfl (hb hby at_216) (by decide) (by decide) k) ?_
          show own_E _ _ _ _ _ _ _ (T106.setTop (mkF m 220 #[.val (.int p0), .val (.int p1), .val (.long v0), .second, .val (.long v1), .second, .val (.long v2), .second, .val (.long v3), .second, .val (.int (3 : Int32)), .val (.ref aa), .val (.int (2 : Int32)), .val (.ref r), .val (.ref ax), .val (.long v1), .second, .val (.long v1), .second] [(.int (1 : Int32))]))
          exact own_ret X106 hx Bd.returns Bd.notSynchronized rfl (Or.inl ⟨rfl, by simp, _, rfl⟩) (hb hby at_220) (by rw [e106]; exact ⟨rfl, M106⟩) (by decide) (by decide)
        ·
          rw [show own_r (3 : Int32) (3 : Int32) v0 v1 v2 v3 = v2 from rfl]
          show own_E _ _ _ _ _ _ _ (T106.setTop (mkF m 127 #[.val (.int p0), .val (.int p1), .val (.long v0), .second, .val (.long v1), .second, .val (.long v2), .second, .val (.long v3), .second, .val (.int (3 : Int32)), .val (.ref aa), .val (.int (3 : Int32)), .val (.ref r), .val (.ref ax), .unset, .unset, .unset, .unset] [(.long v2)]))
          refine own_go (fun _ k => XT.lstore X106.here hx rfl (hb hby at_127) rfl (l' := #[.val (.int p0), .val (.int p1), .val (.long v0), .second, .val (.long v1), .second, .val (.long v2), .second, .val (.long v3), .second, .val (.int (3 : Int32)), .val (.ref aa), .val (.int (3 : Int32)), .val (.ref r), .val (.ref ax), .val (.long v2), .second, .unset, .unset]) rfl k) ?_
          show own_E _ _ _ _ _ _ _ (T106.setTop (mkF m 129 #[.val (.int p0), .val (.int p1), .val (.long v0), .second, .val (.long v1), .second, .val (.long v2), .second, .val (.long v3), .second, .val (.int (3 : Int32)), .val (.ref aa), .val (.int (3 : Int32)), .val (.ref r), .val (.ref ax), .val (.long v2), .second, .unset, .unset] []))
          refine own_go (fun _ k => XS.iload X106.here hx rfl (hb hby at_129) rfl k) ?_
          show own_E _ _ _ _ _ _ _ (T106.setTop (mkF m 131 #[.val (.int p0), .val (.int p1), .val (.long v0), .second, .val (.long v1), .second, .val (.long v2), .second, .val (.long v3), .second, .val (.int (3 : Int32)), .val (.ref aa), .val (.int (3 : Int32)), .val (.ref r), .val (.ref ax), .val (.long v2), .second, .unset, .unset] [(.int (3 : Int32))]))
          refine own_go (fun _ k => XT.iconstV X106.here hx rfl (1 : Int32) (hb hby at_131) (by decide) k) ?_
          show own_E _ _ _ _ _ _ _ (T106.setTop (mkF m 132 #[.val (.int p0), .val (.int p1), .val (.long v0), .second, .val (.long v1), .second, .val (.long v2), .second, .val (.long v3), .second, .val (.int (3 : Int32)), .val (.ref aa), .val (.int (3 : Int32)), .val (.ref r), .val (.ref ax), .val (.long v2), .second, .unset, .unset] [(.int (1 : Int32)), (.int (3 : Int32))]))
          refine own_go (fun _ k => XS.icmpYes X106.here hx rfl (pc0 := 132) (pc' := 147) rfl (hb hby at_132) rfl (by decide) (by decide) (by decide) k) ?_
          show own_E _ _ _ _ _ _ _ (T106.setTop (mkF m 147 #[.val (.int p0), .val (.int p1), .val (.long v0), .second, .val (.long v1), .second, .val (.long v2), .second, .val (.long v3), .second, .val (.int (3 : Int32)), .val (.ref aa), .val (.int (3 : Int32)), .val (.ref r), .val (.ref ax), .val (.long v2), .second, .unset, .unset] []))
          refine own_go (fun _ k => XS.iload X106.here hx rfl (hb hby at_147) rfl k) ?_
          show own_E _ _ _ _ _ _ _ (T106.setTop (mkF m 149 #[.val (.int p0), .val (.int p1), .val (.long v0), .second, .val (.long v1), .second, .val (.long v2), .second, .val (.long v3), .second, .val (.int (3 : Int32)), .val (.ref aa), .val (.int (3 : Int32)), .val (.ref r), .val (.ref ax), .val (.long v2), .second, .unset, .unset] [(.int (3 : Int32))]))
          refine own_go (fun _ k => XT.iconstV X106.here hx rfl (2 : Int32) (hb hby at_149) (by decide) k) ?_
          show own_E _ _ _ _ _ _ _ (T106.setTop (mkF m 150 #[.val (.int p0), .val (.int p1), .val (.long v0), .second, .val (.long v1), .second, .val (.long v2), .second, .val (.long v3), .second, .val (.int (3 : Int32)), .val (.ref aa), .val (.int (3 : Int32)), .val (.ref r), .val (.ref ax), .val (.long v2), .second, .unset, .unset] [(.int (2 : Int32)), (.int (3 : Int32))]))
          refine own_go (fun _ k => XS.icmpYes X106.here hx rfl (pc0 := 150) (pc' := 166) rfl (hb hby at_150) rfl (by decide) (by decide) (by decide) k) ?_
          show own_E _ _ _ _ _ _ _ (T106.setTop (mkF m 166 #[.val (.int p0), .val (.int p1), .val (.long v0), .second, .val (.long v1), .second, .val (.long v2), .second, .val (.long v3), .second, .val (.int (3 : Int32)), .val (.ref aa), .val (.int (3 : Int32)), .val (.ref r), .val (.ref ax), .val (.long v2), .second, .unset, .unset] []))
          refine own_go (fun _ k => XS.iload X106.here hx rfl (hb hby at_166) rfl k) ?_
          show own_E _ _ _ _ _ _ _ (T106.setTop (mkF m 168 #[.val (.int p0), .val (.int p1), .val (.long v0), .second, .val (.long v1), .second, .val (.long v2), .second, .val (.long v3), .second, .val (.int (3 : Int32)), .val (.ref aa), .val (.int (3 : Int32)), .val (.ref r), .val (.ref ax), .val (.long v2), .second, .unset, .unset] [(.int (3 : Int32))]))
          refine own_go (fun _ k => XT.iconstV X106.here hx rfl (3 : Int32) (hb hby at_168) (by decide) k) ?_
          show own_E _ _ _ _ _ _ _ (T106.setTop (mkF m 169 #[.val (.int p0), .val (.int p1), .val (.long v0), .second, .val (.long v1), .second, .val (.long v2), .second, .val (.long v3), .second, .val (.int (3 : Int32)), .val (.ref aa), .val (.int (3 : Int32)), .val (.ref r), .val (.ref ax), .val (.long v2), .second, .unset, .unset] [(.int (3 : Int32)), (.int (3 : Int32))]))
          refine own_go (fun _ k => XS.icmpNo X106.here hx rfl (hb hby at_169) rfl (by decide) k) ?_
          show own_E _ _ _ _ _ _ _ (T106.setTop (mkF m 172 #[.val (.int p0), .val (.int p1), .val (.long v0), .second, .val (.long v1), .second, .val (.long v2), .second, .val (.long v3), .second, .val (.int (3 : Int32)), .val (.ref aa), .val (.int (3 : Int32)), .val (.ref r), .val (.ref ax), .val (.long v2), .second, .unset, .unset] []))
          refine own_go (fun _ k => XS.iload X106.here hx rfl (hb hby at_172) rfl k) ?_
          show own_E _ _ _ _ _ _ _ (T106.setTop (mkF m 174 #[.val (.int p0), .val (.int p1), .val (.long v0), .second, .val (.long v1), .second, .val (.long v2), .second, .val (.long v3), .second, .val (.int (3 : Int32)), .val (.ref aa), .val (.int (3 : Int32)), .val (.ref r), .val (.ref ax), .val (.long v2), .second, .unset, .unset] [(.int (3 : Int32))]))
          refine own_go (fun _ k => XT.iconstV X106.here hx rfl (3 : Int32) (hb hby at_174) (by decide) k) ?_
          show own_E _ _ _ _ _ _ _ (T106.setTop (mkF m 175 #[.val (.int p0), .val (.int p1), .val (.long v0), .second, .val (.long v1), .second, .val (.long v2), .second, .val (.long v3), .second, .val (.int (3 : Int32)), .val (.ref aa), .val (.int (3 : Int32)), .val (.ref r), .val (.ref ax), .val (.long v2), .second, .unset, .unset] [(.int (3 : Int32)), (.int (3 : Int32))]))
          refine own_go (fun _ k => XS.icmpNo X106.here hx rfl (hb hby at_175) rfl (by decide) k) ?_
          show own_E _ _ _ _ _ _ _ (T106.setTop (mkF m 178 #[.val (.int p0), .val (.int p1), .val (.long v0), .second, .val (.long v1), .second, .val (.long v2), .second, .val (.long v3), .second, .val (.int (3 : Int32)), .val (.ref aa), .val (.int (3 : Int32)), .val (.ref r), .val (.ref ax), .val (.long v2), .second, .unset, .unset] []))
          refine own_go (fun _ k => XT.lload X106.here hx rfl (hb hby at_178) rfl k) ?_
          show own_E _ _ _ _ _ _ _ (T106.setTop (mkF m 180 #[.val (.int p0), .val (.int p1), .val (.long v0), .second, .val (.long v1), .second, .val (.long v2), .second, .val (.long v3), .second, .val (.int (3 : Int32)), .val (.ref aa), .val (.int (3 : Int32)), .val (.ref r), .val (.ref ax), .val (.long v2), .second, .unset, .unset] [(.long v2)]))
          refine own_go (fun _ k => XT.lstore X106.here hx rfl (hb hby at_180) rfl (l' := #[.val (.int p0), .val (.int p1), .val (.long v0), .second, .val (.long v1), .second, .val (.long v2), .second, .val (.long v3), .second, .val (.int (3 : Int32)), .val (.ref aa), .val (.int (3 : Int32)), .val (.ref r), .val (.ref ax), .val (.long v2), .second, .val (.long v2), .second]) rfl k) ?_
          show own_E _ _ _ _ _ _ _ (T106.setTop (mkF m 182 #[.val (.int p0), .val (.int p1), .val (.long v0), .second, .val (.long v1), .second, .val (.long v2), .second, .val (.long v3), .second, .val (.int (3 : Int32)), .val (.ref aa), .val (.int (3 : Int32)), .val (.ref r), .val (.ref ax), .val (.long v2), .second, .val (.long v2), .second] []))
          refine own_go (fun _ k => XS.goto X106.here hx rfl (pc0 := 182) (pc' := 207) rfl (hb hby at_182) (by decide) (by decide) k) ?_
          show own_E _ _ _ _ _ _ _ (T106.setTop (mkF m 207 #[.val (.int p0), .val (.int p1), .val (.long v0), .second, .val (.long v1), .second, .val (.long v2), .second, .val (.long v3), .second, .val (.int (3 : Int32)), .val (.ref aa), .val (.int (3 : Int32)), .val (.ref r), .val (.ref ax), .val (.long v2), .second, .val (.long v2), .second] []))
          refine own_go (fun _ k => XT.lload X106.here hx rfl (hb hby at_207) rfl k) ?_
          show own_E _ _ _ _ _ _ _ (T106.setTop (mkF m 209 #[.val (.int p0), .val (.int p1), .val (.long v0), .second, .val (.long v1), .second, .val (.long v2), .second, .val (.long v3), .second, .val (.int (3 : Int32)), .val (.ref aa), .val (.int (3 : Int32)), .val (.ref r), .val (.ref ax), .val (.long v2), .second, .val (.long v2), .second] [(.long v2)]))
          refine own_go (fun _ k => XT.lload X106.here hx rfl (hb hby at_209) rfl k) ?_
          show own_E _ _ _ _ _ _ _ (T106.setTop (mkF m 211 #[.val (.int p0), .val (.int p1), .val (.long v0), .second, .val (.long v1), .second, .val (.long v2), .second, .val (.long v3), .second, .val (.int (3 : Int32)), .val (.ref aa), .val (.int (3 : Int32)), .val (.ref r), .val (.ref ax), .val (.long v2), .second, .val (.long v2), .second] [(.long v2), (.long v2)]))
          refine own_go (fun _ k => XT.lcmp X106.here hx rfl (hb hby at_211) rfl k) ?_
          show own_E _ _ _ _ _ _ _ (T106.setTop (mkF m 212 #[.val (.int p0), .val (.int p1), .val (.long v0), .second, .val (.long v1), .second, .val (.long v2), .second, .val (.long v3), .second, .val (.int (3 : Int32)), .val (.ref aa), .val (.int (3 : Int32)), .val (.ref r), .val (.ref ax), .val (.long v2), .second, .val (.long v2), .second] [(.int (XT.cmpL v2 v2))]))
          refine own_go (fun _ k => XS.ifNo X106.here hx rfl (hb hby at_212) rfl (XT.ll_ne_f rfl) k) ?_
          show own_E _ _ _ _ _ _ _ (T106.setTop (mkF m 215 #[.val (.int p0), .val (.int p1), .val (.long v0), .second, .val (.long v1), .second, .val (.long v2), .second, .val (.long v3), .second, .val (.int (3 : Int32)), .val (.ref aa), .val (.int (3 : Int32)), .val (.ref r), .val (.ref ax), .val (.long v2), .second, .val (.long v2), .second] []))
          refine own_go (fun _ k => XT.iconstV X106.here hx rfl (1 : Int32) (hb hby at_215) (by decide) k) ?_
          show own_E _ _ _ _ _ _ _ (T106.setTop (mkF m 216 #[.val (.int p0), .val (.int p1), .val (.long v0), .second, .val (.long v1), .second, .val (.long v2), .second, .val (.long v3), .second, .val (.int (3 : Int32)), .val (.ref aa), .val (.int (3 : Int32)), .val (.ref r), .val (.ref ax), .val (.long v2), .second, .val (.long v2), .second] [(.int (1 : Int32))]))
          refine own_go (fun _ k => XS.goto X106.here hx rfl (pc0 := 216) (pc' := 220) rfl (hb hby at_216) (by decide) (by decide) k) ?_
          show own_E _ _ _ _ _ _ _ (T106.setTop (mkF m 220 #[.val (.int p0), .val (.int p1), .val (.long v0), .second, .val (.long v1), .second, .val (.long v2), .second, .val (.long v3), .second, .val (.int (3 : Int32)), .val (.ref aa), .val (.int (3 : Int32)), .val (.ref r), .val (.ref ax), .val (.long v2), .second, .val (.long v2), .second] [(.int (1 : Int32))]))
          exact own_ret X106 hx Bd.returns Bd.notSynchronized rfl (Or.inl ⟨rfl, by simp, _, rfl⟩) (hb hby at_220) (by rw [e106]; exact ⟨rfl, M106⟩) (by decide) (by decide)
        ·
          rw [show own_r (4 : Int32) (3 : Int32) v0 v1 v2 v3 = (0 : Int64) from rfl]
          show own_E _ _ _ _ _ _ _ (T106.setTop (mkF m 127 #[.val (.int p0), .val (.int p1), .val (.long v0), .second, .val (.long v1), .second, .val (.long v2), .second, .val (.long v3), .second, .val (.int (3 : Int32)), .val (.ref aa), .val (.int (4 : Int32)), .val (.ref r), .val (.ref ax), .unset, .unset, .unset, .unset] [(.long (0 : Int64))]))
          refine own_go (fun _ k => XT.lstore X106.here hx rfl (hb hby at_127) rfl (l' := #[.val (.int p0), .val (.int p1), .val (.long v0), .second, .val (.long v1), .second, .val (.long v2), .second, .val (.long v3), .second, .val (.int (3 : Int32)), .val (.ref aa), .val (.int (4 : Int32)), .val (.ref r), .val (.ref ax), .val (.long (0 : Int64)), .second, .unset, .unset]) rfl k) ?_
          show own_E _ _ _ _ _ _ _ (T106.setTop (mkF m 129 #[.val (.int p0), .val (.int p1), .val (.long v0), .second, .val (.long v1), .second, .val (.long v2), .second, .val (.long v3), .second, .val (.int (3 : Int32)), .val (.ref aa), .val (.int (4 : Int32)), .val (.ref r), .val (.ref ax), .val (.long (0 : Int64)), .second, .unset, .unset] []))
          refine own_go (fun _ k => XS.iload X106.here hx rfl (hb hby at_129) rfl k) ?_
          show own_E _ _ _ _ _ _ _ (T106.setTop (mkF m 131 #[.val (.int p0), .val (.int p1), .val (.long v0), .second, .val (.long v1), .second, .val (.long v2), .second, .val (.long v3), .second, .val (.int (3 : Int32)), .val (.ref aa), .val (.int (4 : Int32)), .val (.ref r), .val (.ref ax), .val (.long (0 : Int64)), .second, .unset, .unset] [(.int (4 : Int32))]))
          refine own_go (fun _ k => XT.iconstV X106.here hx rfl (1 : Int32) (hb hby at_131) (by decide) k) ?_
          show own_E _ _ _ _ _ _ _ (T106.setTop (mkF m 132 #[.val (.int p0), .val (.int p1), .val (.long v0), .second, .val (.long v1), .second, .val (.long v2), .second, .val (.long v3), .second, .val (.int (3 : Int32)), .val (.ref aa), .val (.int (4 : Int32)), .val (.ref r), .val (.ref ax), .val (.long (0 : Int64)), .second, .unset, .unset] [(.int (1 : Int32)), (.int (4 : Int32))]))
          refine own_go (fun _ k => XS.icmpYes X106.here hx rfl (pc0 := 132) (pc' := 147) rfl (hb hby at_132) rfl (by decide) (by decide) (by decide) k) ?_
          show own_E _ _ _ _ _ _ _ (T106.setTop (mkF m 147 #[.val (.int p0), .val (.int p1), .val (.long v0), .second, .val (.long v1), .second, .val (.long v2), .second, .val (.long v3), .second, .val (.int (3 : Int32)), .val (.ref aa), .val (.int (4 : Int32)), .val (.ref r), .val (.ref ax), .val (.long (0 : Int64)), .second, .unset, .unset] []))
          refine own_go (fun _ k => XS.iload X106.here hx rfl (hb hby at_147) rfl k) ?_
          show own_E _ _ _ _ _ _ _ (T106.setTop (mkF m 149 #[.val (.int p0), .val (.int p1), .val (.long v0), .second, .val (.long v1), .second, .val (.long v2), .second, .val (.long v3), .second, .val (.int (3 : Int32)), .val (.ref aa), .val (.int (4 : Int32)), .val (.ref r), .val (.ref ax), .val (.long (0 : Int64)), .second, .unset, .unset] [(.int (4 : Int32))]))
          refine own_go (fun _ k => XT.iconstV X106.here hx rfl (2 : Int32) (hb hby at_149) (by decide) k) ?_
          show own_E _ _ _ _ _ _ _ (T106.setTop (mkF m 150 #[.val (.int p0), .val (.int p1), .val (.long v0), .second, .val (.long v1), .second, .val (.long v2), .second, .val (.long v3), .second, .val (.int (3 : Int32)), .val (.ref aa), .val (.int (4 : Int32)), .val (.ref r), .val (.ref ax), .val (.long (0 : Int64)), .second, .unset, .unset] [(.int (2 : Int32)), (.int (4 : Int32))]))
          refine own_go (fun _ k => XS.icmpYes X106.here hx rfl (pc0 := 150) (pc' := 166) rfl (hb hby at_150) rfl (by decide) (by decide) (by decide) k) ?_
          show own_E _ _ _ _ _ _ _ (T106.setTop (mkF m 166 #[.val (.int p0), .val (.int p1), .val (.long v0), .second, .val (.long v1), .second, .val (.long v2), .second, .val (.long v3), .second, .val (.int (3 : Int32)), .val (.ref aa), .val (.int (4 : Int32)), .val (.ref r), .val (.ref ax), .val (.long (0 : Int64)), .second, .unset, .unset] []))
          refine own_go (fun _ k => XS.iload X106.here hx rfl (hb hby at_166) rfl k) ?_
          show own_E _ _ _ _ _ _ _ (T106.setTop (mkF m 168 #[.val (.int p0), .val (.int p1), .val (.long v0), .second, .val (.long v1), .second, .val (.long v2), .second, .val (.long v3), .second, .val (.int (3 : Int32)), .val (.ref aa), .val (.int (4 : Int32)), .val (.ref r), .val (.ref ax), .val (.long (0 : Int64)), .second, .unset, .unset] [(.int (4 : Int32))]))
          refine own_go (fun _ k => XT.iconstV X106.here hx rfl (3 : Int32) (hb hby at_168) (by decide) k) ?_
          show own_E _ _ _ _ _ _ _ (T106.setTop (mkF m 169 #[.val (.int p0), .val (.int p1), .val (.long v0), .second, .val (.long v1), .second, .val (.long v2), .second, .val (.long v3), .second, .val (.int (3 : Int32)), .val (.ref aa), .val (.int (4 : Int32)), .val (.ref r), .val (.ref ax), .val (.long (0 : Int64)), .second, .unset, .unset] [(.int (3 : Int32)), (.int (4 : Int32))]))
          refine own_go (fun _ k => XS.icmpYes X106.here hx rfl (pc0 := 169) (pc' := 185) rfl (hb hby at_169) rfl (by decide) (by decide) (by decide) k) ?_
          show own_E _ _ _ _ _ _ _ (T106.setTop (mkF m 185 #[.val (.int p0), .val (.int p1), .val (.long v0), .second, .val (.long v1), .second, .val (.long v2), .second, .val (.long v3), .second, .val (.int (3 : Int32)), .val (.ref aa), .val (.int (4 : Int32)), .val (.ref r), .val (.ref ax), .val (.long (0 : Int64)), .second, .unset, .unset] []))
          refine own_go (fun _ k => XS.iload X106.here hx rfl (hb hby at_185) rfl k) ?_
          show own_E _ _ _ _ _ _ _ (T106.setTop (mkF m 187 #[.val (.int p0), .val (.int p1), .val (.long v0), .second, .val (.long v1), .second, .val (.long v2), .second, .val (.long v3), .second, .val (.int (3 : Int32)), .val (.ref aa), .val (.int (4 : Int32)), .val (.ref r), .val (.ref ax), .val (.long (0 : Int64)), .second, .unset, .unset] [(.int (4 : Int32))]))
          refine own_go (fun _ k => XT.iconstV X106.here hx rfl (4 : Int32) (hb hby at_187) (by decide) k) ?_
          show own_E _ _ _ _ _ _ _ (T106.setTop (mkF m 188 #[.val (.int p0), .val (.int p1), .val (.long v0), .second, .val (.long v1), .second, .val (.long v2), .second, .val (.long v3), .second, .val (.int (3 : Int32)), .val (.ref aa), .val (.int (4 : Int32)), .val (.ref r), .val (.ref ax), .val (.long (0 : Int64)), .second, .unset, .unset] [(.int (4 : Int32)), (.int (4 : Int32))]))
          refine own_go (fun _ k => XS.icmpNo X106.here hx rfl (hb hby at_188) rfl (by decide) k) ?_
          show own_E _ _ _ _ _ _ _ (T106.setTop (mkF m 191 #[.val (.int p0), .val (.int p1), .val (.long v0), .second, .val (.long v1), .second, .val (.long v2), .second, .val (.long v3), .second, .val (.int (3 : Int32)), .val (.ref aa), .val (.int (4 : Int32)), .val (.ref r), .val (.ref ax), .val (.long (0 : Int64)), .second, .unset, .unset] []))
          refine own_go (fun _ k => XS.iload X106.here hx rfl (hb hby at_191) rfl k) ?_
          show own_E _ _ _ _ _ _ _ (T106.setTop (mkF m 193 #[.val (.int p0), .val (.int p1), .val (.long v0), .second, .val (.long v1), .second, .val (.long v2), .second, .val (.long v3), .second, .val (.int (3 : Int32)), .val (.ref aa), .val (.int (4 : Int32)), .val (.ref r), .val (.ref ax), .val (.long (0 : Int64)), .second, .unset, .unset] [(.int (3 : Int32))]))
          refine own_go (fun _ k => XT.iconstV X106.here hx rfl (4 : Int32) (hb hby at_193) (by decide) k) ?_
          show own_E _ _ _ _ _ _ _ (T106.setTop (mkF m 194 #[.val (.int p0), .val (.int p1), .val (.long v0), .second, .val (.long v1), .second, .val (.long v2), .second, .val (.long v3), .second, .val (.int (3 : Int32)), .val (.ref aa), .val (.int (4 : Int32)), .val (.ref r), .val (.ref ax), .val (.long (0 : Int64)), .second, .unset, .unset] [(.int (4 : Int32)), (.int (3 : Int32))]))
          refine own_go (fun _ k => XS.icmpYes X106.here hx rfl (pc0 := 194) (pc' := 204) rfl (hb hby at_194) rfl (by decide) (by decide) (by decide) k) ?_
          show own_E _ _ _ _ _ _ _ (T106.setTop (mkF m 204 #[.val (.int p0), .val (.int p1), .val (.long v0), .second, .val (.long v1), .second, .val (.long v2), .second, .val (.long v3), .second, .val (.int (3 : Int32)), .val (.ref aa), .val (.int (4 : Int32)), .val (.ref r), .val (.ref ax), .val (.long (0 : Int64)), .second, .unset, .unset] []))
          refine own_go (fun _ k => XT.lconstV X106.here hx rfl (0 : Int64) (hb hby at_204) (by decide) k) ?_
          show own_E _ _ _ _ _ _ _ (T106.setTop (mkF m 205 #[.val (.int p0), .val (.int p1), .val (.long v0), .second, .val (.long v1), .second, .val (.long v2), .second, .val (.long v3), .second, .val (.int (3 : Int32)), .val (.ref aa), .val (.int (4 : Int32)), .val (.ref r), .val (.ref ax), .val (.long (0 : Int64)), .second, .unset, .unset] [(.long (0 : Int64))]))
          refine own_go (fun _ k => XT.lstore X106.here hx rfl (hb hby at_205) rfl (l' := #[.val (.int p0), .val (.int p1), .val (.long v0), .second, .val (.long v1), .second, .val (.long v2), .second, .val (.long v3), .second, .val (.int (3 : Int32)), .val (.ref aa), .val (.int (4 : Int32)), .val (.ref r), .val (.ref ax), .val (.long (0 : Int64)), .second, .val (.long (0 : Int64)), .second]) rfl k) ?_
          show own_E _ _ _ _ _ _ _ (T106.setTop (mkF m 207 #[.val (.int p0), .val (.int p1), .val (.long v0), .second, .val (.long v1), .second, .val (.long v2), .second, .val (.long v3), .second, .val (.int (3 : Int32)), .val (.ref aa), .val (.int (4 : Int32)), .val (.ref r), .val (.ref ax), .val (.long (0 : Int64)), .second, .val (.long (0 : Int64)), .second] []))
          refine own_go (fun _ k => XT.lload X106.here hx rfl (hb hby at_207) rfl k) ?_
          show own_E _ _ _ _ _ _ _ (T106.setTop (mkF m 209 #[.val (.int p0), .val (.int p1), .val (.long v0), .second, .val (.long v1), .second, .val (.long v2), .second, .val (.long v3), .second, .val (.int (3 : Int32)), .val (.ref aa), .val (.int (4 : Int32)), .val (.ref r), .val (.ref ax), .val (.long (0 : Int64)), .second, .val (.long (0 : Int64)), .second] [(.long (0 : Int64))]))
          refine own_go (fun _ k => XT.lload X106.here hx rfl (hb hby at_209) rfl k) ?_
          show own_E _ _ _ _ _ _ _ (T106.setTop (mkF m 211 #[.val (.int p0), .val (.int p1), .val (.long v0), .second, .val (.long v1), .second, .val (.long v2), .second, .val (.long v3), .second, .val (.int (3 : Int32)), .val (.ref aa), .val (.int (4 : Int32)), .val (.ref r), .val (.ref ax), .val (.long (0 : Int64)), .second, .val (.long (0 : Int64)), .second] [(.long (0 : Int64)), (.long (0 : Int64))]))
          refine own_go (fun _ k => XT.lcmp X106.here hx rfl (hb hby at_211) rfl k) ?_
          show own_E _ _ _ _ _ _ _ (T106.setTop (mkF m 212 #[.val (.int p0), .val (.int p1), .val (.long v0), .second, .val (.long v1), .second, .val (.long v2), .second, .val (.long v3), .second, .val (.int (3 : Int32)), .val (.ref aa), .val (.int (4 : Int32)), .val (.ref r), .val (.ref ax), .val (.long (0 : Int64)), .second, .val (.long (0 : Int64)), .second] [(.int (XT.cmpL (0 : Int64) (0 : Int64)))]))
          refine own_go (fun _ k => XS.ifNo X106.here hx rfl (hb hby at_212) rfl (XT.ll_ne_f rfl) k) ?_
          show own_E _ _ _ _ _ _ _ (T106.setTop (mkF m 215 #[.val (.int p0), .val (.int p1), .val (.long v0), .second, .val (.long v1), .second, .val (.long v2), .second, .val (.long v3), .second, .val (.int (3 : Int32)), .val (.ref aa), .val (.int (4 : Int32)), .val (.ref r), .val (.ref ax), .val (.long (0 : Int64)), .second, .val (.long (0 : Int64)), .second] []))
          refine own_go (fun _ k => XT.iconstV X106.here hx rfl (1 : Int32) (hb hby at_215) (by decide) k) ?_
          show own_E _ _ _ _ _ _ _ (T106.setTop (mkF m 216 #[.val (.int p0), .val (.int p1), .val (.long v0), .second, .val (.long v1), .second, .val (.long v2), .second, .val (.long v3), .second, .val (.int (3 : Int32)), .val (.ref aa), .val (.int (4 : Int32)), .val (.ref r), .val (.ref ax), .val (.long (0 : Int64)), .second, .val (.long (0 : Int64)), .second] [(.int (1 : Int32))]))
          refine own_go (fun _ k => XS.goto X106.here hx rfl (pc0 := 216) (pc' := 220) rfl (hb hby at_216) (by decide) (by decide) k) ?_
          show own_E _ _ _ _ _ _ _ (T106.setTop (mkF m 220 #[.val (.int p0), .val (.int p1), .val (.long v0), .second, .val (.long v1), .second, .val (.long v2), .second, .val (.long v3), .second, .val (.int (3 : Int32)), .val (.ref aa), .val (.int (4 : Int32)), .val (.ref r), .val (.ref ax), .val (.long (0 : Int64)), .second, .val (.long (0 : Int64)), .second] [(.int (1 : Int32))]))
          exact own_ret X106 hx Bd.returns Bd.notSynchronized rfl (Or.inl ⟨rfl, by simp, _, rfl⟩) (hb hby at_220) (by rw [e106]; exact ⟨rfl, M106⟩) (by decide) (by decide)
        ·
          rw [show own_r n (3 : Int32) v0 v1 v2 v3 = 0 from own_far h5 (by decide)]
          show own_E _ _ _ _ _ _ _ (T106.setTop (mkF m 127 #[.val (.int p0), .val (.int p1), .val (.long v0), .second, .val (.long v1), .second, .val (.long v2), .second, .val (.long v3), .second, .val (.int (3 : Int32)), .val (.ref aa), .val (.int n), .val (.ref r), .val (.ref ax), .unset, .unset, .unset, .unset] [(.long (0 : Int64))]))
          refine own_go (fun _ k => XT.lstore X106.here hx rfl (hb hby at_127) rfl (l' := #[.val (.int p0), .val (.int p1), .val (.long v0), .second, .val (.long v1), .second, .val (.long v2), .second, .val (.long v3), .second, .val (.int (3 : Int32)), .val (.ref aa), .val (.int n), .val (.ref r), .val (.ref ax), .val (.long (0 : Int64)), .second, .unset, .unset]) rfl k) ?_
          show own_E _ _ _ _ _ _ _ (T106.setTop (mkF m 129 #[.val (.int p0), .val (.int p1), .val (.long v0), .second, .val (.long v1), .second, .val (.long v2), .second, .val (.long v3), .second, .val (.int (3 : Int32)), .val (.ref aa), .val (.int n), .val (.ref r), .val (.ref ax), .val (.long (0 : Int64)), .second, .unset, .unset] []))
          refine own_go (fun _ k => XS.iload X106.here hx rfl (hb hby at_129) rfl k) ?_
          show own_E _ _ _ _ _ _ _ (T106.setTop (mkF m 131 #[.val (.int p0), .val (.int p1), .val (.long v0), .second, .val (.long v1), .second, .val (.long v2), .second, .val (.long v3), .second, .val (.int (3 : Int32)), .val (.ref aa), .val (.int n), .val (.ref r), .val (.ref ax), .val (.long (0 : Int64)), .second, .unset, .unset] [(.int n)]))
          refine own_go (fun _ k => XT.iconstV X106.here hx rfl (1 : Int32) (hb hby at_131) (by decide) k) ?_
          show own_E _ _ _ _ _ _ _ (T106.setTop (mkF m 132 #[.val (.int p0), .val (.int p1), .val (.long v0), .second, .val (.long v1), .second, .val (.long v2), .second, .val (.long v3), .second, .val (.int (3 : Int32)), .val (.ref aa), .val (.int n), .val (.ref r), .val (.ref ax), .val (.long (0 : Int64)), .second, .unset, .unset] [(.int (1 : Int32)), (.int n)]))
          refine own_go (fun _ k => XS.icmpYes X106.here hx rfl (pc0 := 132) (pc' := 147) rfl (hb hby at_132) rfl (feq (own_nq h5 (by decide))).2 (by decide) (by decide) k) ?_
          show own_E _ _ _ _ _ _ _ (T106.setTop (mkF m 147 #[.val (.int p0), .val (.int p1), .val (.long v0), .second, .val (.long v1), .second, .val (.long v2), .second, .val (.long v3), .second, .val (.int (3 : Int32)), .val (.ref aa), .val (.int n), .val (.ref r), .val (.ref ax), .val (.long (0 : Int64)), .second, .unset, .unset] []))
          refine own_go (fun _ k => XS.iload X106.here hx rfl (hb hby at_147) rfl k) ?_
          show own_E _ _ _ _ _ _ _ (T106.setTop (mkF m 149 #[.val (.int p0), .val (.int p1), .val (.long v0), .second, .val (.long v1), .second, .val (.long v2), .second, .val (.long v3), .second, .val (.int (3 : Int32)), .val (.ref aa), .val (.int n), .val (.ref r), .val (.ref ax), .val (.long (0 : Int64)), .second, .unset, .unset] [(.int n)]))
          refine own_go (fun _ k => XT.iconstV X106.here hx rfl (2 : Int32) (hb hby at_149) (by decide) k) ?_
          show own_E _ _ _ _ _ _ _ (T106.setTop (mkF m 150 #[.val (.int p0), .val (.int p1), .val (.long v0), .second, .val (.long v1), .second, .val (.long v2), .second, .val (.long v3), .second, .val (.int (3 : Int32)), .val (.ref aa), .val (.int n), .val (.ref r), .val (.ref ax), .val (.long (0 : Int64)), .second, .unset, .unset] [(.int (2 : Int32)), (.int n)]))
          refine own_go (fun _ k => XS.icmpYes X106.here hx rfl (pc0 := 150) (pc' := 166) rfl (hb hby at_150) rfl (feq (own_nq h5 (by decide))).2 (by decide) (by decide) k) ?_
          show own_E _ _ _ _ _ _ _ (T106.setTop (mkF m 166 #[.val (.int p0), .val (.int p1), .val (.long v0), .second, .val (.long v1), .second, .val (.long v2), .second, .val (.long v3), .second, .val (.int (3 : Int32)), .val (.ref aa), .val (.int n), .val (.ref r), .val (.ref ax), .val (.long (0 : Int64)), .second, .unset, .unset] []))
          refine own_go (fun _ k => XS.iload X106.here hx rfl (hb hby at_166) rfl k) ?_
          show own_E _ _ _ _ _ _ _ (T106.setTop (mkF m 168 #[.val (.int p0), .val (.int p1), .val (.long v0), .second, .val (.long v1), .second, .val (.long v2), .second, .val (.long v3), .second, .val (.int (3 : Int32)), .val (.ref aa), .val (.int n), .val (.ref r), .val (.ref ax), .val (.long (0 : Int64)), .second, .unset, .unset] [(.int n)]))
          refine own_go (fun _ k => XT.iconstV X106.here hx rfl (3 : Int32) (hb hby at_168) (by decide) k) ?_
          show own_E _ _ _ _ _ _ _ (T106.setTop (mkF m 169 #[.val (.int p0), .val (.int p1), .val (.long v0), .second, .val (.long v1), .second, .val (.long v2), .second, .val (.long v3), .second, .val (.int (3 : Int32)), .val (.ref aa), .val (.int n), .val (.ref r), .val (.ref ax), .val (.long (0 : Int64)), .second, .unset, .unset] [(.int (3 : Int32)), (.int n)]))
          refine own_go (fun _ k => XS.icmpYes X106.here hx rfl (pc0 := 169) (pc' := 185) rfl (hb hby at_169) rfl (feq (own_nq h5 (by decide))).2 (by decide) (by decide) k) ?_
          show own_E _ _ _ _ _ _ _ (T106.setTop (mkF m 185 #[.val (.int p0), .val (.int p1), .val (.long v0), .second, .val (.long v1), .second, .val (.long v2), .second, .val (.long v3), .second, .val (.int (3 : Int32)), .val (.ref aa), .val (.int n), .val (.ref r), .val (.ref ax), .val (.long (0 : Int64)), .second, .unset, .unset] []))
          refine own_go (fun _ k => XS.iload X106.here hx rfl (hb hby at_185) rfl k) ?_
          show own_E _ _ _ _ _ _ _ (T106.setTop (mkF m 187 #[.val (.int p0), .val (.int p1), .val (.long v0), .second, .val (.long v1), .second, .val (.long v2), .second, .val (.long v3), .second, .val (.int (3 : Int32)), .val (.ref aa), .val (.int n), .val (.ref r), .val (.ref ax), .val (.long (0 : Int64)), .second, .unset, .unset] [(.int n)]))
          refine own_go (fun _ k => XT.iconstV X106.here hx rfl (4 : Int32) (hb hby at_187) (by decide) k) ?_
          show own_E _ _ _ _ _ _ _ (T106.setTop (mkF m 188 #[.val (.int p0), .val (.int p1), .val (.long v0), .second, .val (.long v1), .second, .val (.long v2), .second, .val (.long v3), .second, .val (.int (3 : Int32)), .val (.ref aa), .val (.int n), .val (.ref r), .val (.ref ax), .val (.long (0 : Int64)), .second, .unset, .unset] [(.int (4 : Int32)), (.int n)]))
          refine own_go (fun _ k => XS.icmpYes X106.here hx rfl (pc0 := 188) (pc' := 204) rfl (hb hby at_188) rfl (feq (own_nq h5 (by decide))).2 (by decide) (by decide) k) ?_
          show own_E _ _ _ _ _ _ _ (T106.setTop (mkF m 204 #[.val (.int p0), .val (.int p1), .val (.long v0), .second, .val (.long v1), .second, .val (.long v2), .second, .val (.long v3), .second, .val (.int (3 : Int32)), .val (.ref aa), .val (.int n), .val (.ref r), .val (.ref ax), .val (.long (0 : Int64)), .second, .unset, .unset] []))
          refine own_go (fun _ k => XT.lconstV X106.here hx rfl (0 : Int64) (hb hby at_204) (by decide) k) ?_
          show own_E _ _ _ _ _ _ _ (T106.setTop (mkF m 205 #[.val (.int p0), .val (.int p1), .val (.long v0), .second, .val (.long v1), .second, .val (.long v2), .second, .val (.long v3), .second, .val (.int (3 : Int32)), .val (.ref aa), .val (.int n), .val (.ref r), .val (.ref ax), .val (.long (0 : Int64)), .second, .unset, .unset] [(.long (0 : Int64))]))
          refine own_go (fun _ k => XT.lstore X106.here hx rfl (hb hby at_205) rfl (l' := #[.val (.int p0), .val (.int p1), .val (.long v0), .second, .val (.long v1), .second, .val (.long v2), .second, .val (.long v3), .second, .val (.int (3 : Int32)), .val (.ref aa), .val (.int n), .val (.ref r), .val (.ref ax), .val (.long (0 : Int64)), .second, .val (.long (0 : Int64)), .second]) rfl k) ?_
          show own_E _ _ _ _ _ _ _ (T106.setTop (mkF m 207 #[.val (.int p0), .val (.int p1), .val (.long v0), .second, .val (.long v1), .second, .val (.long v2), .second, .val (.long v3), .second, .val (.int (3 : Int32)), .val (.ref aa), .val (.int n), .val (.ref r), .val (.ref ax), .val (.long (0 : Int64)), .second, .val (.long (0 : Int64)), .second] []))
          refine own_go (fun _ k => XT.lload X106.here hx rfl (hb hby at_207) rfl k) ?_
          show own_E _ _ _ _ _ _ _ (T106.setTop (mkF m 209 #[.val (.int p0), .val (.int p1), .val (.long v0), .second, .val (.long v1), .second, .val (.long v2), .second, .val (.long v3), .second, .val (.int (3 : Int32)), .val (.ref aa), .val (.int n), .val (.ref r), .val (.ref ax), .val (.long (0 : Int64)), .second, .val (.long (0 : Int64)), .second] [(.long (0 : Int64))]))
          refine own_go (fun _ k => XT.lload X106.here hx rfl (hb hby at_209) rfl k) ?_
          show own_E _ _ _ _ _ _ _ (T106.setTop (mkF m 211 #[.val (.int p0), .val (.int p1), .val (.long v0), .second, .val (.long v1), .second, .val (.long v2), .second, .val (.long v3), .second, .val (.int (3 : Int32)), .val (.ref aa), .val (.int n), .val (.ref r), .val (.ref ax), .val (.long (0 : Int64)), .second, .val (.long (0 : Int64)), .second] [(.long (0 : Int64)), (.long (0 : Int64))]))
          refine own_go (fun _ k => XT.lcmp X106.here hx rfl (hb hby at_211) rfl k) ?_
          show own_E _ _ _ _ _ _ _ (T106.setTop (mkF m 212 #[.val (.int p0), .val (.int p1), .val (.long v0), .second, .val (.long v1), .second, .val (.long v2), .second, .val (.long v3), .second, .val (.int (3 : Int32)), .val (.ref aa), .val (.int n), .val (.ref r), .val (.ref ax), .val (.long (0 : Int64)), .second, .val (.long (0 : Int64)), .second] [(.int (XT.cmpL (0 : Int64) (0 : Int64)))]))
          refine own_go (fun _ k => XS.ifNo X106.here hx rfl (hb hby at_212) rfl (XT.ll_ne_f rfl) k) ?_
          show own_E _ _ _ _ _ _ _ (T106.setTop (mkF m 215 #[.val (.int p0), .val (.int p1), .val (.long v0), .second, .val (.long v1), .second, .val (.long v2), .second, .val (.long v3), .second, .val (.int (3 : Int32)), .val (.ref aa), .val (.int n), .val (.ref r), .val (.ref ax), .val (.long (0 : Int64)), .second, .val (.long (0 : Int64)), .second] []))
          refine own_go (fun _ k => XT.iconstV X106.here hx rfl (1 : Int32) (hb hby at_215) (by decide) k) ?_
          show own_E _ _ _ _ _ _ _ (T106.setTop (mkF m 216 #[.val (.int p0), .val (.int p1), .val (.long v0), .second, .val (.long v1), .second, .val (.long v2), .second, .val (.long v3), .second, .val (.int (3 : Int32)), .val (.ref aa), .val (.int n), .val (.ref r), .val (.ref ax), .val (.long (0 : Int64)), .second, .val (.long (0 : Int64)), .second] [(.int (1 : Int32))]))
          refine own_go (fun _ k => XS.goto X106.here hx rfl (pc0 := 216) (pc' := 220) rfl (hb hby at_216) (by decide) (by decide) k) ?_
          show own_E _ _ _ _ _ _ _ (T106.setTop (mkF m 220 #[.val (.int p0), .val (.int p1), .val (.long v0), .second, .val (.long v1), .second, .val (.long v2), .second, .val (.long v3), .second, .val (.int (3 : Int32)), .val (.ref aa), .val (.int n), .val (.ref r), .val (.ref ax), .val (.long (0 : Int64)), .second, .val (.long (0 : Int64)), .second] [(.int (1 : Int32))]))
          exact own_ret X106 hx Bd.returns Bd.notSynchronized rfl (Or.inl ⟨rfl, by simp, _, rfl⟩) (hb hby at_220) (by rw [e106]; exact ⟨rfl, M106⟩) (by decide) (by decide)
      ·
        rcases own_five hn with rfl | rfl | rfl | rfl | h5
        ·
          rw [show own_r (1 : Int32) (4 : Int32) v0 v1 v2 v3 = v0 from rfl]
          show own_E _ _ _ _ _ _ _ (T106.setTop (mkF m 127 #[.val (.int p0), .val (.int p1), .val (.long v0), .second, .val (.long v1), .second, .val (.long v2), .second, .val (.long v3), .second, .val (.int (4 : Int32)), .val (.ref aa), .val (.int (1 : Int32)), .val (.ref r), .val (.ref ax), .unset, .unset, .unset, .unset] [(.long v0)]))
          refine own_go (fun _ k => XT.lstore X106.here hx rfl (hb hby at_127) rfl (l' := #[.val (.int p0), .val (.int p1), .val (.long v0), .second, .val (.long v1), .second, .val (.long v2), .second, .val (.long v3), .second, .val (.int (4 : Int32)), .val (.ref aa), .val (.int (1 : Int32)), .val (.ref r), .val (.ref ax), .val (.long v0), .second, .unset, .unset]) rfl k) ?_
          show own_E _ _ _ _ _ _ _ (T106.setTop (mkF m 129 #[.val (.int p0), .val (.int p1), .val (.long v0), .second, .val (.long v1), .second, .val (.long v2), .second, .val (.long v3), .second, .val (.int (4 : Int32)), .val (.ref aa), .val (.int (1 : Int32)), .val (.ref r), .val (.ref ax), .val (.long v0), .second, .unset, .unset] []))
          refine own_go (fun _ k => XS.iload X106.here hx rfl (hb hby at_129) rfl k) ?_
          show own_E _ _ _ _ _ _ _ (T106.setTop (mkF m 131 #[.val (.int p0), .val (.int p1), .val (.long v0), .second, .val (.long v1), .second, .val (.long v2), .second, .val (.long v3), .second, .val (.int (4 : Int32)), .val (.ref aa), .val (.int (1 : Int32)), .val (.ref r), .val (.ref ax), .val (.long v0), .second, .unset, .unset] [(.int (1 : Int32))]))
          refine own_go (fun _ k => XT.iconstV X106.here hx rfl (1 : Int32) (hb hby at_131) (by decide) k) ?_
          show own_E _ _ _ _ _ _ _ (T106.setTop (mkF m 132 #[.val (.int p0), .val (.int p1), .val (.long v0), .second, .val (.long v1), .second, .val (.long v2), .second, .val (.long v3), .second, .val (.int (4 : Int32)), .val (.ref aa), .val (.int (1 : Int32)), .val (.ref r), .val (.ref ax), .val (.long v0), .second, .unset, .unset] [(.int (1 : Int32)), (.int (1 : Int32))]))
          refine own_go (fun _ k => XS.icmpNo X106.here hx rfl (hb hby at_132) rfl (by decide) k) ?_
          show own_E _ _ _ _ _ _ _ (T106.setTop (mkF m 135 #[.val (.int p0), .val (.int p1), .val (.long v0), .second, .val (.long v1), .second, .val (.long v2), .second, .val (.long v3), .second, .val (.int (4 : Int32)), .val (.ref aa), .val (.int (1 : Int32)), .val (.ref r), .val (.ref ax), .val (.long v0), .second, .unset, .unset] []))
          refine own_go (fun _ k => XS.iload X106.here hx rfl (hb hby at_135) rfl k) ?_
          show own_E _ _ _ _ _ _ _ (T106.setTop (mkF m 137 #[.val (.int p0), .val (.int p1), .val (.long v0), .second, .val (.long v1), .second, .val (.long v2), .second, .val (.long v3), .second, .val (.int (4 : Int32)), .val (.ref aa), .val (.int (1 : Int32)), .val (.ref r), .val (.ref ax), .val (.long v0), .second, .unset, .unset] [(.int (4 : Int32))]))
          refine own_go (fun _ k => XT.iconstV X106.here hx rfl (1 : Int32) (hb hby at_137) (by decide) k) ?_
          show own_E _ _ _ _ _ _ _ (T106.setTop (mkF m 138 #[.val (.int p0), .val (.int p1), .val (.long v0), .second, .val (.long v1), .second, .val (.long v2), .second, .val (.long v3), .second, .val (.int (4 : Int32)), .val (.ref aa), .val (.int (1 : Int32)), .val (.ref r), .val (.ref ax), .val (.long v0), .second, .unset, .unset] [(.int (1 : Int32)), (.int (4 : Int32))]))
          refine own_go (fun _ k => XS.icmpNo X106.here hx rfl (hb hby at_138) rfl (by decide) k) ?_
          show own_E _ _ _ _ _ _ _ (T106.setTop (mkF m 141 #[.val (.int p0), .val (.int p1), .val (.long v0), .second, .val (.long v1), .second, .val (.long v2), .second, .val (.long v3), .second, .val (.int (4 : Int32)), .val (.ref aa), .val (.int (1 : Int32)), .val (.ref r), .val (.ref ax), .val (.long v0), .second, .unset, .unset] []))
          refine own_go (fun _ k => XT.lloadN X106.here hx rfl (hb hby at_141) rfl k) ?_
          show own_E _ _ _ _ _ _ _ (T106.setTop (mkF m 142 #[.val (.int p0), .val (.int p1), .val (.long v0), .second, .val (.long v1), .second, .val (.long v2), .second, .val (.long v3), .second, .val (.int (4 : Int32)), .val (.ref aa), .val (.int (1 : Int32)), .val (.ref r), .val (.ref ax), .val (.long v0), .second, .unset, .unset] [(.long v0)]))
          refine own_go (fun _ k => XT.lstore X106.here hx rfl (hb hby at_142) rfl (l' := #[.val (.int p0), .val (.int p1), .val (.long v0), .second, .val (.long v1), .second, .val (.long v2), .second, .val (.long v3), .second, .val (.int (4 : Int32)), .val (.ref aa), .val (.int (1 : Int32)), .val (.ref r), .val (.ref ax), .val (.long v0), .second, .val (.long v0), .second]) rfl k) ?_
          show own_E _ _ _ _ _ _ _ (T106.setTop (mkF m 144 #[.val (.int p0), .val (.int p1), .val (.long v0), .second, .val (.long v1), .second, .val (.long v2), .second, .val (.long v3), .second, .val (.int (4 : Int32)), .val (.ref aa), .val (.int (1 : Int32)), .val (.ref r), .val (.ref ax), .val (.long v0), .second, .val (.long v0), .second] []))
          refine own_go (fun _ k => XS.goto X106.here hx rfl (pc0 := 144) (pc' := 207) rfl (hb hby at_144) (by decide) (by decide) k) ?_
          show own_E _ _ _ _ _ _ _ (T106.setTop (mkF m 207 #[.val (.int p0), .val (.int p1), .val (.long v0), .second, .val (.long v1), .second, .val (.long v2), .second, .val (.long v3), .second, .val (.int (4 : Int32)), .val (.ref aa), .val (.int (1 : Int32)), .val (.ref r), .val (.ref ax), .val (.long v0), .second, .val (.long v0), .second] []))
          refine own_go (fun _ k => XT.lload X106.here hx rfl (hb hby at_207) rfl k) ?_
          show own_E _ _ _ _ _ _ _ (T106.setTop (mkF m 209 #[.val (.int p0), .val (.int p1), .val (.long v0), .second, .val (.long v1), .second, .val (.long v2), .second, .val (.long v3), .second, .val (.int (4 : Int32)), .val (.ref aa), .val (.int (1 : Int32)), .val (.ref r), .val (.ref ax), .val (.long v0), .second, .val (.long v0), .second] [(.long v0)]))
          refine own_go (fun _ k => XT.lload X106.here hx rfl (hb hby at_209) rfl k) ?_
          show own_E _ _ _ _ _ _ _ (T106.setTop (mkF m 211 #[.val (.int p0), .val (.int p1), .val (.long v0), .second, .val (.long v1), .second, .val (.long v2), .second, .val (.long v3), .second, .val (.int (4 : Int32)), .val (.ref aa), .val (.int (1 : Int32)), .val (.ref r), .val (.ref ax), .val (.long v0), .second, .val (.long v0), .second] [(.long v0), (.long v0)]))
          refine own_go (fun _ k => XT.lcmp X106.here hx rfl (hb hby at_211) rfl k) ?_
          show own_E _ _ _ _ _ _ _ (T106.setTop (mkF m 212 #[.val (.int p0), .val (.int p1), .val (.long v0), .second, .val (.long v1), .second, .val (.long v2), .second, .val (.long v3), .second, .val (.int (4 : Int32)), .val (.ref aa), .val (.int (1 : Int32)), .val (.ref r), .val (.ref ax), .val (.long v0), .second, .val (.long v0), .second] [(.int (XT.cmpL v0 v0))]))
          refine own_go (fun _ k => XS.ifNo X106.here hx rfl (hb hby at_212) rfl (XT.ll_ne_f rfl) k) ?_
          show own_E _ _ _ _ _ _ _ (T106.setTop (mkF m 215 #[.val (.int p0), .val (.int p1), .val (.long v0), .second, .val (.long v1), .second, .val (.long v2), .second, .val (.long v3), .second, .val (.int (4 : Int32)), .val (.ref aa), .val (.int (1 : Int32)), .val (.ref r), .val (.ref ax), .val (.long v0), .second, .val (.long v0), .second] []))
          refine own_go (fun _ k => XT.iconstV X106.here hx rfl (1 : Int32) (hb hby at_215) (by decide) k) ?_
          show own_E _ _ _ _ _ _ _ (T106.setTop (mkF m 216 #[.val (.int p0), .val (.int p1), .val (.long v0), .second, .val (.long v1), .second, .val (.long v2), .second, .val (.long v3), .second, .val (.int (4 : Int32)), .val (.ref aa), .val (.int (1 : Int32)), .val (.ref r), .val (.ref ax), .val (.long v0), .second, .val (.long v0), .second] [(.int (1 : Int32))]))
          refine own_go (fun _ k => XS.goto X106.here hx rfl (pc0 := 216) (pc' := 220) rfl (hb hby at_216) (by decide) (by decide) k) ?_
          show own_E _ _ _ _ _ _ _ (T106.setTop (mkF m 220 #[.val (.int p0), .val (.int p1), .val (.long v0), .second, .val (.long v1), .second, .val (.long v2), .second, .val (.long v3), .second, .val (.int (4 : Int32)), .val (.ref aa), .val (.int (1 : Int32)), .val (.ref r), .val (.ref ax), .val (.long v0), .second, .val (.long v0), .second] [(.int (1 : Int32))]))
          exact own_ret X106 hx Bd.returns Bd.notSynchronized rfl (Or.inl ⟨rfl, by simp, _, rfl⟩) (hb hby at_220) (by rw [e106]; exact ⟨rfl, M106⟩) (by decide) (by decide)
        ·
          rw [show own_r (2 : Int32) (4 : Int32) v0 v1 v2 v3 = v1 from rfl]
          show own_E _ _ _ _ _ _ _ (T106.setTop (mkF m 127 #[.val (.int p0), .val (.int p1), .val (.long v0), .second, .val (.long v1), .second, .val (.long v2), .second, .val (.long v3), .second, .val (.int (4 : Int32)), .val (.ref aa), .val (.int (2 : Int32)), .val (.ref r), .val (.ref ax), .unset, .unset, .unset, .unset] [(.long v1)]))
          refine own_go (fun _ k => XT.lstore X106.here hx rfl (hb hby at_127) rfl (l' := #[.val (.int p0), .val (.int p1), .val (.long v0), .second, .val (.long v1), .second, .val (.long v2), .second, .val (.long v3), .second, .val (.int (4 : Int32)), .val (.ref aa), .val (.int (2 : Int32)), .val (.ref r), .val (.ref ax), .val (.long v1), .second, .unset, .unset]) rfl k) ?_
          show own_E _ _ _ _ _ _ _ (T106.setTop (mkF m 129 #[.val (.int p0), .val (.int p1), .val (.long v0), .second, .val (.long v1), .second, .val (.long v2), .second, .val (.long v3), .second, .val (.int (4 : Int32)), .val (.ref aa), .val (.int (2 : Int32)), .val (.ref r), .val (.ref ax), .val (.long v1), .second, .unset, .unset] []))
          refine own_go (fun _ k => XS.iload X106.here hx rfl (hb hby at_129) rfl k) ?_
          show own_E _ _ _ _ _ _ _ (T106.setTop (mkF m 131 #[.val (.int p0), .val (.int p1), .val (.long v0), .second, .val (.long v1), .second, .val (.long v2), .second, .val (.long v3), .second, .val (.int (4 : Int32)), .val (.ref aa), .val (.int (2 : Int32)), .val (.ref r), .val (.ref ax), .val (.long v1), .second, .unset, .unset] [(.int (2 : Int32))]))
          refine own_go (fun _ k => XT.iconstV X106.here hx rfl (1 : Int32) (hb hby at_131) (by decide) k) ?_
          show own_E _ _ _ _ _ _ _ (T106.setTop (mkF m 132 #[.val (.int p0), .val (.int p1), .val (.long v0), .second, .val (.long v1), .second, .val (.long v2), .second, .val (.long v3), .second, .val (.int (4 : Int32)), .val (.ref aa), .val (.int (2 : Int32)), .val (.ref r), .val (.ref ax), .val (.long v1), .second, .unset, .unset] [(.int (1 : Int32)), (.int (2 : Int32))]))
          refine own_go (fun _ k => XS.icmpYes X106.here hx rfl (pc0 := 132) (pc' := 147) rfl (hb hby at_132) rfl (by decide) (by decide) (by decide) k) ?_
          show own_E _ _ _ _ _ _ _ (T106.setTop (mkF m 147 #[.val (.int p0), .val (.int p1), .val (.long v0), .second, .val (.long v1), .second, .val (.long v2), .second, .val (.long v3), .second, .val (.int (4 : Int32)), .val (.ref aa), .val (.int (2 : Int32)), .val (.ref r), .val (.ref ax), .val (.long v1), .second, .unset, .unset] []))
          refine own_go (fun _ k => XS.iload X106.here hx rfl (hb hby at_147) rfl k) ?_
          show own_E _ _ _ _ _ _ _ (T106.setTop (mkF m 149 #[.val (.int p0), .val (.int p1), .val (.long v0), .second, .val (.long v1), .second, .val (.long v2), .second, .val (.long v3), .second, .val (.int (4 : Int32)), .val (.ref aa), .val (.int (2 : Int32)), .val (.ref r), .val (.ref ax), .val (.long v1), .second, .unset, .unset] [(.int (2 : Int32))]))
          refine own_go (fun _ k => XT.iconstV X106.here hx rfl (2 : Int32) (hb hby at_149) (by decide) k) ?_
          show own_E _ _ _ _ _ _ _ (T106.setTop (mkF m 150 #[.val (.int p0), .val (.int p1), .val (.long v0), .second, .val (.long v1), .second, .val (.long v2), .second, .val (.long v3), .second, .val (.int (4 : Int32)), .val (.ref aa), .val (.int (2 : Int32)), .val (.ref r), .val (.ref ax), .val (.long v1), .second, .unset, .unset] [(.int (2 : Int32)), (.int (2 : Int32))]))
          refine own_go (fun _ k => XS.icmpNo X106.here hx rfl (hb hby at_150) rfl (by decide) k) ?_
          show own_E _ _ _ _ _ _ _ (T106.setTop (mkF m 153 #[.val (.int p0), .val (.int p1), .val (.long v0), .second, .val (.long v1), .second, .val (.long v2), .second, .val (.long v3), .second, .val (.int (4 : Int32)), .val (.ref aa), .val (.int (2 : Int32)), .val (.ref r), .val (.ref ax), .val (.long v1), .second, .unset, .unset] []))
          refine own_go (fun _ k => XS.iload X106.here hx rfl (hb hby at_153) rfl k) ?_
          show own_E _ _ _ _ _ _ _ (T106.setTop (mkF m 155 #[.val (.int p0), .val (.int p1), .val (.long v0), .second, .val (.long v1), .second, .val (.long v2), .second, .val (.long v3), .second, .val (.int (4 : Int32)), .val (.ref aa), .val (.int (2 : Int32)), .val (.ref r), .val (.ref ax), .val (.long v1), .second, .unset, .unset] [(.int (4 : Int32))]))
          refine own_go (fun _ k => XT.iconstV X106.here hx rfl (2 : Int32) (hb hby at_155) (by decide) k) ?_
          show own_E _ _ _ _ _ _ _ (T106.setTop (mkF m 156 #[.val (.int p0), .val (.int p1), .val (.long v0), .second, .val (.long v1), .second, .val (.long v2), .second, .val (.long v3), .second, .val (.int (4 : Int32)), .val (.ref aa), .val (.int (2 : Int32)), .val (.ref r), .val (.ref ax), .val (.long v1), .second, .unset, .unset] [(.int (2 : Int32)), (.int (4 : Int32))]))
          refine own_go (fun _ k => XS.icmpNo X106.here hx rfl (hb hby at_156) rfl (by decide) k) ?_
          show own_E _ _ _ _ _ _ _ (T106.setTop (mkF m 159 #[.val (.int p0), .val (.int p1), .val (.long v0), .second, .val (.long v1), .second, .val (.long v2), .second, .val (.long v3), .second, .val (.int (4 : Int32)), .val (.ref aa), .val (.int (2 : Int32)), .val (.ref r), .val (.ref ax), .val (.long v1), .second, .unset, .unset] []))
          refine own_go (fun _ k => XT.lload X106.here hx rfl (hb hby at_159) rfl k) ?_
          show own_E _ _ _ _ _ _ _ (T106.setTop (mkF m 161 #[.val (.int p0), .val (.int p1), .val (.long v0), .second, .val (.long v1), .second, .val (.long v2), .second, .val (.long v3), .second, .val (.int (4 : Int32)), .val (.ref aa), .val (.int (2 : Int32)), .val (.ref r), .val (.ref ax), .val (.long v1), .second, .unset, .unset] [(.long v1)]))
          refine own_go (fun _ k => XT.lstore X106.here hx rfl (hb hby at_161) rfl (l' := #[.val (.int p0), .val (.int p1), .val (.long v0), .second, .val (.long v1), .second, .val (.long v2), .second, .val (.long v3), .second, .val (.int (4 : Int32)), .val (.ref aa), .val (.int (2 : Int32)), .val (.ref r), .val (.ref ax), .val (.long v1), .second, .val (.long v1), .second]) rfl k) ?_
          show own_E _ _ _ _ _ _ _ (T106.setTop (mkF m 163 #[.val (.int p0), .val (.int p1), .val (.long v0), .second, .val (.long v1), .second, .val (.long v2), .second, .val (.long v3), .second, .val (.int (4 : Int32)), .val (.ref aa), .val (.int (2 : Int32)), .val (.ref r), .val (.ref ax), .val (.long v1), .second, .val (.long v1), .second] []))
          refine own_go (fun _ k => XS.goto X106.here hx rfl (pc0 := 163) (pc' := 207) rfl (hb hby at_163) (by decide) (by decide) k) ?_
          show own_E _ _ _ _ _ _ _ (T106.setTop (mkF m 207 #[.val (.int p0), .val (.int p1), .val (.long v0), .second, .val (.long v1), .second, .val (.long v2), .second, .val (.long v3), .second, .val (.int (4 : Int32)), .val (.ref aa), .val (.int (2 : Int32)), .val (.ref r), .val (.ref ax), .val (.long v1), .second, .val (.long v1), .second] []))
          refine own_go (fun _ k => XT.lload X106.here hx rfl (hb hby at_207) rfl k) ?_
          show own_E _ _ _ _ _ _ _ (T106.setTop (mkF m 209 #[.val (.int p0), .val (.int p1), .val (.long v0), .second, .val (.long v1), .second, .val (.long v2), .second, .val (.long v3), .second, .val (.int (4 : Int32)), .val (.ref aa), .val (.int (2 : Int32)), .val (.ref r), .val (.ref ax), .val (.long v1), .second, .val (.long v1), .second] [(.long v1)]))
          refine own_go (fun _ k => XT.lload X106.here hx rfl (hb hby at_209) rfl k) ?_
          show own_E _ _ _ _ _ _ _ (T106.setTop (mkF m 211 #[.val (.int p0), .val (.int p1), .val (.long v0), .second, .val (.long v1), .second, .val (.long v2), .second, .val (.long v3), .second, .val (.int (4 : Int32)), .val (.ref aa), .val (.int (2 : Int32)), .val (.ref r), .val (.ref ax), .val (.long v1), .second, .val (.long v1), .second] [(.long v1), (.long v1)]))
          refine own_go (fun _ k => XT.lcmp X106.here hx rfl (hb hby at_211) rfl k) ?_
          show own_E _ _ _ _ _ _ _ (T106.setTop (mkF m 212 #[.val (.int p0), .val (.int p1), .val (.long v0), .second, .val (.long v1), .second, .val (.long v2), .second, .val (.long v3), .second, .val (.int (4 : Int32)), .val (.ref aa), .val (.int (2 : Int32)), .val (.ref r), .val (.ref ax), .val (.long v1), .second, .val (.long v1), .second] [(.int (XT.cmpL v1 v1))]))
          refine own_go (fun _ k => XS.ifNo X106.here hx rfl (hb hby at_212) rfl (XT.ll_ne_f rfl) k) ?_
          show own_E _ _ _ _ _ _ _ (T106.setTop (mkF m 215 #[.val (.int p0), .val (.int p1), .val (.long v0), .second, .val (.long v1), .second, .val (.long v2), .second, .val (.long v3), .second, .val (.int (4 : Int32)), .val (.ref aa), .val (.int (2 : Int32)), .val (.ref r), .val (.ref ax), .val (.long v1), .second, .val (.long v1), .second] []))
          refine own_go (fun _ k => XT.iconstV X106.here hx rfl (1 : Int32) (hb hby at_215) (by decide) k) ?_
          show own_E _ _ _ _ _ _ _ (T106.setTop (mkF m 216 #[.val (.int p0), .val (.int p1), .val (.long v0), .second, .val (.long v1), .second, .val (.long v2), .second, .val (.long v3), .second, .val (.int (4 : Int32)), .val (.ref aa), .val (.int (2 : Int32)), .val (.ref r), .val (.ref ax), .val (.long v1), .second, .val (.long v1), .second] [(.int (1 : Int32))]))
          refine own_go (fun _ k => XS.goto X106.here hx rfl (pc0 := 216) (pc' := 220) rfl (hb hby at_216) (by decide) (by decide) k) ?_
          show own_E _ _ _ _ _ _ _ (T106.setTop (mkF m 220 #[.val (.int p0), .val (.int p1), .val (.long v0), .second, .val (.long v1), .second, .val (.long v2), .second, .val (.long v3), .second, .val (.int (4 : Int32)), .val (.ref aa), .val (.int (2 : Int32)), .val (.ref r), .val (.ref ax), .val (.long v1), .second, .val (.long v1), .second] [(.int (1 : Int32))]))
          exact own_ret X106 hx Bd.returns Bd.notSynchronized rfl (Or.inl ⟨rfl, by simp, _, rfl⟩) (hb hby at_220) (by rw [e106]; exact ⟨rfl, M106⟩) (by decide) (by decide)
        ·
          rw [show own_r (3 : Int32) (4 : Int32) v0 v1 v2 v3 = v2 from rfl]
          show own_E _ _ _ _ _ _ _ (T106.setTop (mkF m 127 #[.val (.int p0), .val (.int p1), .val (.long v0), .second, .val (.long v1), .second, .val (.long v2), .second, .val (.long v3), .second, .val (.int (4 : Int32)), .val (.ref aa), .val (.int (3 : Int32)), .val (.ref r), .val (.ref ax), .unset, .unset, .unset, .unset] [(.long v2)]))
          refine own_go (fun _ k => XT.lstore X106.here hx rfl (hb hby at_127) rfl (l' := #[.val (.int p0), .val (.int p1), .val (.long v0), .second, .val (.long v1), .second, .val (.long v2), .second, .val (.long v3), .second, .val (.int (4 : Int32)), .val (.ref aa), .val (.int (3 : Int32)), .val (.ref r), .val (.ref ax), .val (.long v2), .second, .unset, .unset]) rfl k) ?_
          show own_E _ _ _ _ _ _ _ (T106.setTop (mkF m 129 #[.val (.int p0), .val (.int p1), .val (.long v0), .second, .val (.long v1), .second, .val (.long v2), .second, .val (.long v3), .second, .val (.int (4 : Int32)), .val (.ref aa), .val (.int (3 : Int32)), .val (.ref r), .val (.ref ax), .val (.long v2), .second, .unset, .unset] []))
          refine own_go (fun _ k => XS.iload X106.here hx rfl (hb hby at_129) rfl k) ?_
          show own_E _ _ _ _ _ _ _ (T106.setTop (mkF m 131 #[.val (.int p0), .val (.int p1), .val (.long v0), .second, .val (.long v1), .second, .val (.long v2), .second, .val (.long v3), .second, .val (.int (4 : Int32)), .val (.ref aa), .val (.int (3 : Int32)), .val (.ref r), .val (.ref ax), .val (.long v2), .second, .unset, .unset] [(.int (3 : Int32))]))
          refine own_go (fun _ k => XT.iconstV X106.here hx rfl (1 : Int32) (hb hby at_131) (by decide) k) ?_
          show own_E _ _ _ _ _ _ _ (T106.setTop (mkF m 132 #[.val (.int p0), .val (.int p1), .val (.long v0), .second, .val (.long v1), .second, .val (.long v2), .second, .val (.long v3), .second, .val (.int (4 : Int32)), .val (.ref aa), .val (.int (3 : Int32)), .val (.ref r), .val (.ref ax), .val (.long v2), .second, .unset, .unset] [(.int (1 : Int32)), (.int (3 : Int32))]))
          refine own_go (fun _ k => XS.icmpYes X106.here hx rfl (pc0 := 132) (pc' := 147) rfl (hb hby at_132) rfl (by decide) (by decide) (by decide) k) ?_
          show own_E _ _ _ _ _ _ _ (T106.setTop (mkF m 147 #[.val (.int p0), .val (.int p1), .val (.long v0), .second, .val (.long v1), .second, .val (.long v2), .second, .val (.long v3), .second, .val (.int (4 : Int32)), .val (.ref aa), .val (.int (3 : Int32)), .val (.ref r), .val (.ref ax), .val (.long v2), .second, .unset, .unset] []))
          refine own_go (fun _ k => XS.iload X106.here hx rfl (hb hby at_147) rfl k) ?_
          show own_E _ _ _ _ _ _ _ (T106.setTop (mkF m 149 #[.val (.int p0), .val (.int p1), .val (.long v0), .second, .val (.long v1), .second, .val (.long v2), .second, .val (.long v3), .second, .val (.int (4 : Int32)), .val (.ref aa), .val (.int (3 : Int32)), .val (.ref r), .val (.ref ax), .val (.long v2), .second, .unset, .unset] [(.int (3 : Int32))]))
          refine own_go (fun _ k => XT.iconstV X106.here hx rfl (2 : Int32) (hb hby at_149) (by decide) k) ?_
          show own_E _ _ _ _ _ _ _ (T106.setTop (mkF m 150 #[.val (.int p0), .val (.int p1), .val (.long v0), .second, .val (.long v1), .second, .val (.long v2), .second, .val (.long v3), .second, .val (.int (4 : Int32)), .val (.ref aa), .val (.int (3 : Int32)), .val (.ref r), .val (.ref ax), .val (.long v2), .second, .unset, .unset] [(.int (2 : Int32)), (.int (3 : Int32))]))
          refine own_go (fun _ k => XS.icmpYes X106.here hx rfl (pc0 := 150) (pc' := 166) rfl (hb hby at_150) rfl (by decide) (by decide) (by decide) k) ?_
          show own_E _ _ _ _ _ _ _ (T106.setTop (mkF m 166 #[.val (.int p0), .val (.int p1), .val (.long v0), .second, .val (.long v1), .second, .val (.long v2), .second, .val (.long v3), .second, .val (.int (4 : Int32)), .val (.ref aa), .val (.int (3 : Int32)), .val (.ref r), .val (.ref ax), .val (.long v2), .second, .unset, .unset] []))
          refine own_go (fun _ k => XS.iload X106.here hx rfl (hb hby at_166) rfl k) ?_
          show own_E _ _ _ _ _ _ _ (T106.setTop (mkF m 168 #[.val (.int p0), .val (.int p1), .val (.long v0), .second, .val (.long v1), .second, .val (.long v2), .second, .val (.long v3), .second, .val (.int (4 : Int32)), .val (.ref aa), .val (.int (3 : Int32)), .val (.ref r), .val (.ref ax), .val (.long v2), .second, .unset, .unset] [(.int (3 : Int32))]))
          refine own_go (fun _ k => XT.iconstV X106.here hx rfl (3 : Int32) (hb hby at_168) (by decide) k) ?_
          show own_E _ _ _ _ _ _ _ (T106.setTop (mkF m 169 #[.val (.int p0), .val (.int p1), .val (.long v0), .second, .val (.long v1), .second, .val (.long v2), .second, .val (.long v3), .second, .val (.int (4 : Int32)), .val (.ref aa), .val (.int (3 : Int32)), .val (.ref r), .val (.ref ax), .val (.long v2), .second, .unset, .unset] [(.int (3 : Int32)), (.int (3 : Int32))]))
          refine own_go (fun _ k => XS.icmpNo X106.here hx rfl (hb hby at_169) rfl (by decide) k) ?_
          show own_E _ _ _ _ _ _ _ (T106.setTop (mkF m 172 #[.val (.int p0), .val (.int p1), .val (.long v0), .second, .val (.long v1), .second, .val (.long v2), .second, .val (.long v3), .second, .val (.int (4 : Int32)), .val (.ref aa), .val (.int (3 : Int32)), .val (.ref r), .val (.ref ax), .val (.long v2), .second, .unset, .unset] []))
          refine own_go (fun _ k => XS.iload X106.here hx rfl (hb hby at_172) rfl k) ?_
          show own_E _ _ _ _ _ _ _ (T106.setTop (mkF m 174 #[.val (.int p0), .val (.int p1), .val (.long v0), .second, .val (.long v1), .second, .val (.long v2), .second, .val (.long v3), .second, .val (.int (4 : Int32)), .val (.ref aa), .val (.int (3 : Int32)), .val (.ref r), .val (.ref ax), .val (.long v2), .second, .unset, .unset] [(.int (4 : Int32))]))
          refine own_go (fun _ k => XT.iconstV X106.here hx rfl (3 : Int32) (hb hby at_174) (by decide) k) ?_
          show own_E _ _ _ _ _ _ _ (T106.setTop (mkF m 175 #[.val (.int p0), .val (.int p1), .val (.long v0), .second, .val (.long v1), .second, .val (.long v2), .second, .val (.long v3), .second, .val (.int (4 : Int32)), .val (.ref aa), .val (.int (3 : Int32)), .val (.ref r), .val (.ref ax), .val (.long v2), .second, .unset, .unset] [(.int (3 : Int32)), (.int (4 : Int32))]))
          refine own_go (fun _ k => XS.icmpNo X106.here hx rfl (hb hby at_175) rfl (by decide) k) ?_
          show own_E _ _ _ _ _ _ _ (T106.setTop (mkF m 178 #[.val (.int p0), .val (.int p1), .val (.long v0), .second, .val (.long v1), .second, .val (.long v2), .second, .val (.long v3), .second, .val (.int (4 : Int32)), .val (.ref aa), .val (.int (3 : Int32)), .val (.ref r), .val (.ref ax), .val (.long v2), .second, .unset, .unset] []))
          refine own_go (fun _ k => XT.lload X106.here hx rfl (hb hby at_178) rfl k) ?_
          show own_E _ _ _ _ _ _ _ (T106.setTop (mkF m 180 #[.val (.int p0), .val (.int p1), .val (.long v0), .second, .val (.long v1), .second, .val (.long v2), .second, .val (.long v3), .second, .val (.int (4 : Int32)), .val (.ref aa), .val (.int (3 : Int32)), .val (.ref r), .val (.ref ax), .val (.long v2), .second, .unset, .unset] [(.long v2)]))
          refine own_go (fun _ k => XT.lstore X106.here hx rfl (hb hby at_180) rfl (l' := #[.val (.int p0), .val (.int p1), .val (.long v0), .second, .val (.long v1), .second, .val (.long v2), .second, .val (.long v3), .second, .val (.int (4 : Int32)), .val (.ref aa), .val (.int (3 : Int32)), .val (.ref r), .val (.ref ax), .val (.long v2), .second, .val (.long v2), .second]) rfl k) ?_
          show own_E _ _ _ _ _ _ _ (T106.setTop (mkF m 182 #[.val (.int p0), .val (.int p1), .val (.long v0), .second, .val (.long v1), .second, .val (.long v2), .second, .val (.long v3), .second, .val (.int (4 : Int32)), .val (.ref aa), .val (.int (3 : Int32)), .val (.ref r), .val (.ref ax), .val (.long v2), .second, .val (.long v2), .second] []))
          refine own_go (fun _ k => XS.goto X106.here hx rfl (pc0 := 182) (pc' := 207) rfl (hb hby at_182) (by decide) (by decide) k) ?_
          show own_E _ _ _ _ _ _ _ (T106.setTop (mkF m 207 #[.val (.int p0), .val (.int p1), .val (.long v0), .second, .val (.long v1), .second, .val (.long v2), .second, .val (.long v3), .second, .val (.int (4 : Int32)), .val (.ref aa), .val (.int (3 : Int32)), .val (.ref r), .val (.ref ax), .val (.long v2), .second, .val (.long v2), .second] []))
          refine own_go (fun _ k => XT.lload X106.here hx rfl (hb hby at_207) rfl k) ?_
          show own_E _ _ _ _ _ _ _ (T106.setTop (mkF m 209 #[.val (.int p0), .val (.int p1), .val (.long v0), .second, .val (.long v1), .second, .val (.long v2), .second, .val (.long v3), .second, .val (.int (4 : Int32)), .val (.ref aa), .val (.int (3 : Int32)), .val (.ref r), .val (.ref ax), .val (.long v2), .second, .val (.long v2), .second] [(.long v2)]))
          refine own_go (fun _ k => XT.lload X106.here hx rfl (hb hby at_209) rfl k) ?_
          show own_E _ _ _ _ _ _ _ (T106.setTop (mkF m 211 #[.val (.int p0), .val (.int p1), .val (.long v0), .second, .val (.long v1), .second, .val (.long v2), .second, .val (.long v3), .second, .val (.int (4 : Int32)), .val (.ref aa), .val (.int (3 : Int32)), .val (.ref r), .val (.ref ax), .val (.long v2), .second, .val (.long v2), .second] [(.long v2), (.long v2)]))
          refine own_go (fun _ k => XT.lcmp X106.here hx rfl (hb hby at_211) rfl k) ?_
          show own_E _ _ _ _ _ _ _ (T106.setTop (mkF m 212 #[.val (.int p0), .val (.int p1), .val (.long v0), .second, .val (.long v1), .second, .val (.long v2), .second, .val (.long v3), .second, .val (.int (4 : Int32)), .val (.ref aa), .val (.int (3 : Int32)), .val (.ref r), .val (.ref ax), .val (.long v2), .second, .val (.long v2), .second] [(.int (XT.cmpL v2 v2))]))
          refine own_go (fun _ k => XS.ifNo X106.here hx rfl (hb hby at_212) rfl (XT.ll_ne_f rfl) k) ?_
          show own_E _ _ _ _ _ _ _ (T106.setTop (mkF m 215 #[.val (.int p0), .val (.int p1), .val (.long v0), .second, .val (.long v1), .second, .val (.long v2), .second, .val (.long v3), .second, .val (.int (4 : Int32)), .val (.ref aa), .val (.int (3 : Int32)), .val (.ref r), .val (.ref ax), .val (.long v2), .second, .val (.long v2), .second] []))
          refine own_go (fun _ k => XT.iconstV X106.here hx rfl (1 : Int32) (hb hby at_215) (by decide) k) ?_
          show own_E _ _ _ _ _ _ _ (T106.setTop (mkF m 216 #[.val (.int p0), .val (.int p1), .val (.long v0), .second, .val (.long v1), .second, .val (.long v2), .second, .val (.long v3), .second, .val (.int (4 : Int32)), .val (.ref aa), .val (.int (3 : Int32)), .val (.ref r), .val (.ref ax), .val (.long v2), .second, .val (.long v2), .second] [(.int (1 : Int32))]))
          refine own_go (fun _ k => XS.goto X106.here hx rfl (pc0 := 216) (pc' := 220) rfl (hb hby at_216) (by decide) (by decide) k) ?_
          show own_E _ _ _ _ _ _ _ (T106.setTop (mkF m 220 #[.val (.int p0), .val (.int p1), .val (.long v0), .second, .val (.long v1), .second, .val (.long v2), .second, .val (.long v3), .second, .val (.int (4 : Int32)), .val (.ref aa), .val (.int (3 : Int32)), .val (.ref r), .val (.ref ax), .val (.long v2), .second, .val (.long v2), .second] [(.int (1 : Int32))]))
          exact own_ret X106 hx Bd.returns Bd.notSynchronized rfl (Or.inl ⟨rfl, by simp, _, rfl⟩) (hb hby at_220) (by rw [e106]; exact ⟨rfl, M106⟩) (by decide) (by decide)
        ·
          rw [show own_r (4 : Int32) (4 : Int32) v0 v1 v2 v3 = v3 from rfl]
          show own_E _ _ _ _ _ _ _ (T106.setTop (mkF m 127 #[.val (.int p0), .val (.int p1), .val (.long v0), .second, .val (.long v1), .second, .val (.long v2), .second, .val (.long v3), .second, .val (.int (4 : Int32)), .val (.ref aa), .val (.int (4 : Int32)), .val (.ref r), .val (.ref ax), .unset, .unset, .unset, .unset] [(.long v3)]))
          refine own_go (fun _ k => XT.lstore X106.here hx rfl (hb hby at_127) rfl (l' := #[.val (.int p0), .val (.int p1), .val (.long v0), .second, .val (.long v1), .second, .val (.long v2), .second, .val (.long v3), .second, .val (.int (4 : Int32)), .val (.ref aa), .val (.int (4 : Int32)), .val (.ref r), .val (.ref ax), .val (.long v3), .second, .unset, .unset]) rfl k) ?_
          show own_E _ _ _ _ _ _ _ (T106.setTop (mkF m 129 #[.val (.int p0), .val (.int p1), .val (.long v0), .second, .val (.long v1), .second, .val (.long v2), .second, .val (.long v3), .second, .val (.int (4 : Int32)), .val (.ref aa), .val (.int (4 : Int32)), .val (.ref r), .val (.ref ax), .val (.long v3), .second, .unset, .unset] []))
          refine own_go (fun _ k => XS.iload X106.here hx rfl (hb hby at_129) rfl k) ?_
          show own_E _ _ _ _ _ _ _ (T106.setTop (mkF m 131 #[.val (.int p0), .val (.int p1), .val (.long v0), .second, .val (.long v1), .second, .val (.long v2), .second, .val (.long v3), .second, .val (.int (4 : Int32)), .val (.ref aa), .val (.int (4 : Int32)), .val (.ref r), .val (.ref ax), .val (.long v3), .second, .unset, .unset] [(.int (4 : Int32))]))
          refine own_go (fun _ k => XT.iconstV X106.here hx rfl (1 : Int32) (hb hby at_131) (by decide) k) ?_
          show own_E _ _ _ _ _ _ _ (T106.setTop (mkF m 132 #[.val (.int p0), .val (.int p1), .val (.long v0), .second, .val (.long v1), .second, .val (.long v2), .second, .val (.long v3), .second, .val (.int (4 : Int32)), .val (.ref aa), .val (.int (4 : Int32)), .val (.ref r), .val (.ref ax), .val (.long v3), .second, .unset, .unset] [(.int (1 : Int32)), (.int (4 : Int32))]))
          refine own_go (fun _ k => XS.icmpYes X106.here hx rfl (pc0 := 132) (pc' := 147) rfl (hb hby at_132) rfl (by decide) (by decide) (by decide) k) ?_
          show own_E _ _ _ _ _ _ _ (T106.setTop (mkF m 147 #[.val (.int p0), .val (.int p1), .val (.long v0), .second, .val (.long v1), .second, .val (.long v2), .second, .val (.long v3), .second, .val (.int (4 : Int32)), .val (.ref aa), .val (.int (4 : Int32)), .val (.ref r), .val (.ref ax), .val (.long v3), .second, .unset, .unset] []))
          refine own_go (fun _ k => XS.iload X106.here hx rfl (hb hby at_147) rfl k) ?_
          show own_E _ _ _ _ _ _ _ (T106.setTop (mkF m 149 #[.val (.int p0), .val (.int p1), .val (.long v0), .second, .val (.long v1), .second, .val (.long v2), .second, .val (.long v3), .second, .val (.int (4 : Int32)), .val (.ref aa), .val (.int (4 : Int32)), .val (.ref r), .val (.ref ax), .val (.long v3), .second, .unset, .unset] [(.int (4 : Int32))]))
          refine own_go (fun _ k => XT.iconstV X106.here hx rfl (2 : Int32) (hb hby at_149) (by decide) k) ?_
          show own_E _ _ _ _ _ _ _ (T106.setTop (mkF m 150 #[.val (.int p0), .val (.int p1), .val (.long v0), .second, .val (.long v1), .second, .val (.long v2), .second, .val (.long v3), .second, .val (.int (4 : Int32)), .val (.ref aa), .val (.int (4 : Int32)), .val (.ref r), .val (.ref ax), .val (.long v3), .second, .unset, .unset] [(.int (2 : Int32)), (.int (4 : Int32))]))
          refine own_go (fun _ k => XS.icmpYes X106.here hx rfl (pc0 := 150) (pc' := 166) rfl (hb hby at_150) rfl (by decide) (by decide) (by decide) k) ?_
          show own_E _ _ _ _ _ _ _ (T106.setTop (mkF m 166 #[.val (.int p0), .val (.int p1), .val (.long v0), .second, .val (.long v1), .second, .val (.long v2), .second, .val (.long v3), .second, .val (.int (4 : Int32)), .val (.ref aa), .val (.int (4 : Int32)), .val (.ref r), .val (.ref ax), .val (.long v3), .second, .unset, .unset] []))
          refine own_go (fun _ k => XS.iload X106.here hx rfl (hb hby at_166) rfl k) ?_
          show own_E _ _ _ _ _ _ _ (T106.setTop (mkF m 168 #[.val (.int p0), .val (.int p1), .val (.long v0), .second, .val (.long v1), .second, .val (.long v2), .second, .val (.long v3), .second, .val (.int (4 : Int32)), .val (.ref aa), .val (.int (4 : Int32)), .val (.ref r), .val (.ref ax), .val (.long v3), .second, .unset, .unset] [(.int (4 : Int32))]))
          refine own_go (fun _ k => XT.iconstV X106.here hx rfl (3 : Int32) (hb hby at_168) (by decide) k) ?_
          show own_E _ _ _ _ _ _ _ (T106.setTop (mkF m 169 #[.val (.int p0), .val (.int p1), .val (.long v0), .second, .val (.long v1), .second, .val (.long v2), .second, .val (.long v3), .second, .val (.int (4 : Int32)), .val (.ref aa), .val (.int (4 : Int32)), .val (.ref r), .val (.ref ax), .val (.long v3), .second, .unset, .unset] [(.int (3 : Int32)), (.int (4 : Int32))]))
          refine own_go (fun _ k => XS.icmpYes X106.here hx rfl (pc0 := 169) (pc' := 185) rfl (hb hby at_169) rfl (by decide) (by decide) (by decide) k) ?_
          show own_E _ _ _ _ _ _ _ (T106.setTop (mkF m 185 #[.val (.int p0), .val (.int p1), .val (.long v0), .second, .val (.long v1), .second, .val (.long v2), .second, .val (.long v3), .second, .val (.int (4 : Int32)), .val (.ref aa), .val (.int (4 : Int32)), .val (.ref r), .val (.ref ax), .val (.long v3), .second, .unset, .unset] []))
          refine own_go (fun _ k => XS.iload X106.here hx rfl (hb hby at_185) rfl k) ?_
          show own_E _ _ _ _ _ _ _ (T106.setTop (mkF m 187 #[.val (.int p0), .val (.int p1), .val (.long v0), .second, .val (.long v1), .second, .val (.long v2), .second, .val (.long v3), .second, .val (.int (4 : Int32)), .val (.ref aa), .val (.int (4 : Int32)), .val (.ref r), .val (.ref ax), .val (.long v3), .second, .unset, .unset] [(.int (4 : Int32))]))
          refine own_go (fun _ k => XT.iconstV X106.here hx rfl (4 : Int32) (hb hby at_187) (by decide) k) ?_
          show own_E _ _ _ _ _ _ _ (T106.setTop (mkF m 188 #[.val (.int p0), .val (.int p1), .val (.long v0), .second, .val (.long v1), .second, .val (.long v2), .second, .val (.long v3), .second, .val (.int (4 : Int32)), .val (.ref aa), .val (.int (4 : Int32)), .val (.ref r), .val (.ref ax), .val (.long v3), .second, .unset, .unset] [(.int (4 : Int32)), (.int (4 : Int32))]))
          refine own_go (fun _ k => XS.icmpNo X106.here hx rfl (hb hby at_188) rfl (by decide) k) ?_
          show own_E _ _ _ _ _ _ _ (T106.setTop (mkF m 191 #[.val (.int p0), .val (.int p1), .val (.long v0), .second, .val (.long v1), .second, .val (.long v2), .second, .val (.long v3), .second, .val (.int (4 : Int32)), .val (.ref aa), .val (.int (4 : Int32)), .val (.ref r), .val (.ref ax), .val (.long v3), .second, .unset, .unset] []))
          refine own_go (fun _ k => XS.iload X106.here hx rfl (hb hby at_191) rfl k) ?_
          show own_E _ _ _ _ _ _ _ (T106.setTop (mkF m 193 #[.val (.int p0), .val (.int p1), .val (.long v0), .second, .val (.long v1), .second, .val (.long v2), .second, .val (.long v3), .second, .val (.int (4 : Int32)), .val (.ref aa), .val (.int (4 : Int32)), .val (.ref r), .val (.ref ax), .val (.long v3), .second, .unset, .unset] [(.int (4 : Int32))]))
          refine own_go (fun _ k => XT.iconstV X106.here hx rfl (4 : Int32) (hb hby at_193) (by decide) k) ?_
          show own_E _ _ _ _ _ _ _ (T106.setTop (mkF m 194 #[.val (.int p0), .val (.int p1), .val (.long v0), .second, .val (.long v1), .second, .val (.long v2), .second, .val (.long v3), .second, .val (.int (4 : Int32)), .val (.ref aa), .val (.int (4 : Int32)), .val (.ref r), .val (.ref ax), .val (.long v3), .second, .unset, .unset] [(.int (4 : Int32)), (.int (4 : Int32))]))
          refine own_go (fun _ k => XS.icmpNo X106.here hx rfl (hb hby at_194) rfl (by decide) k) ?_
          show own_E _ _ _ _ _ _ _ (T106.setTop (mkF m 197 #[.val (.int p0), .val (.int p1), .val (.long v0), .second, .val (.long v1), .second, .val (.long v2), .second, .val (.long v3), .second, .val (.int (4 : Int32)), .val (.ref aa), .val (.int (4 : Int32)), .val (.ref r), .val (.ref ax), .val (.long v3), .second, .unset, .unset] []))
          refine own_go (fun _ k => XT.lload X106.here hx rfl (hb hby at_197) rfl k) ?_
          show own_E _ _ _ _ _ _ _ (T106.setTop (mkF m 199 #[.val (.int p0), .val (.int p1), .val (.long v0), .second, .val (.long v1), .second, .val (.long v2), .second, .val (.long v3), .second, .val (.int (4 : Int32)), .val (.ref aa), .val (.int (4 : Int32)), .val (.ref r), .val (.ref ax), .val (.long v3), .second, .unset, .unset] [(.long v3)]))
          refine own_go (fun _ k => XT.lstore X106.here hx rfl (hb hby at_199) rfl (l' := #[.val (.int p0), .val (.int p1), .val (.long v0), .second, .val (.long v1), .second, .val (.long v2), .second, .val (.long v3), .second, .val (.int (4 : Int32)), .val (.ref aa), .val (.int (4 : Int32)), .val (.ref r), .val (.ref ax), .val (.long v3), .second, .val (.long v3), .second]) rfl k) ?_
          show own_E _ _ _ _ _ _ _ (T106.setTop (mkF m 201 #[.val (.int p0), .val (.int p1), .val (.long v0), .second, .val (.long v1), .second, .val (.long v2), .second, .val (.long v3), .second, .val (.int (4 : Int32)), .val (.ref aa), .val (.int (4 : Int32)), .val (.ref r), .val (.ref ax), .val (.long v3), .second, .val (.long v3), .second] []))
          refine own_go (fun _ k => XS.goto X106.here hx rfl (pc0 := 201) (pc' := 207) rfl (hb hby at_201) (by decide) (by decide) k) ?_
          show own_E _ _ _ _ _ _ _ (T106.setTop (mkF m 207 #[.val (.int p0), .val (.int p1), .val (.long v0), .second, .val (.long v1), .second, .val (.long v2), .second, .val (.long v3), .second, .val (.int (4 : Int32)), .val (.ref aa), .val (.int (4 : Int32)), .val (.ref r), .val (.ref ax), .val (.long v3), .second, .val (.long v3), .second] []))
          refine own_go (fun _ k => XT.lload X106.here hx rfl (hb hby at_207) rfl k) ?_
          show own_E _ _ _ _ _ _ _ (T106.setTop (mkF m 209 #[.val (.int p0), .val (.int p1), .val (.long v0), .second, .val (.long v1), .second, .val (.long v2), .second, .val (.long v3), .second, .val (.int (4 : Int32)), .val (.ref aa), .val (.int (4 : Int32)), .val (.ref r), .val (.ref ax), .val (.long v3), .second, .val (.long v3), .second] [(.long v3)]))
          refine own_go (fun _ k => XT.lload X106.here hx rfl (hb hby at_209) rfl k) ?_
          show own_E _ _ _ _ _ _ _ (T106.setTop (mkF m 211 #[.val (.int p0), .val (.int p1), .val (.long v0), .second, .val (.long v1), .second, .val (.long v2), .second, .val (.long v3), .second, .val (.int (4 : Int32)), .val (.ref aa), .val (.int (4 : Int32)), .val (.ref r), .val (.ref ax), .val (.long v3), .second, .val (.long v3), .second] [(.long v3), (.long v3)]))
          refine own_go (fun _ k => XT.lcmp X106.here hx rfl (hb hby at_211) rfl k) ?_
          show own_E _ _ _ _ _ _ _ (T106.setTop (mkF m 212 #[.val (.int p0), .val (.int p1), .val (.long v0), .second, .val (.long v1), .second, .val (.long v2), .second, .val (.long v3), .second, .val (.int (4 : Int32)), .val (.ref aa), .val (.int (4 : Int32)), .val (.ref r), .val (.ref ax), .val (.long v3), .second, .val (.long v3), .second] [(.int (XT.cmpL v3 v3))]))
          refine own_go (fun _ k => XS.ifNo X106.here hx rfl (hb hby at_212) rfl (XT.ll_ne_f rfl) k) ?_
          show own_E _ _ _ _ _ _ _ (T106.setTop (mkF m 215 #[.val (.int p0), .val (.int p1), .val (.long v0), .second, .val (.long v1), .second, .val (.long v2), .second, .val (.long v3), .second, .val (.int (4 : Int32)), .val (.ref aa), .val (.int (4 : Int32)), .val (.ref r), .val (.ref ax), .val (.long v3), .second, .val (.long v3), .second] []))
          refine own_go (fun _ k => XT.iconstV X106.here hx rfl (1 : Int32) (hb hby at_215) (by decide) k) ?_
          show own_E _ _ _ _ _ _ _ (T106.setTop (mkF m 216 #[.val (.int p0), .val (.int p1), .val (.long v0), .second, .val (.long v1), .second, .val (.long v2), .second, .val (.long v3), .second, .val (.int (4 : Int32)), .val (.ref aa), .val (.int (4 : Int32)), .val (.ref r), .val (.ref ax), .val (.long v3), .second, .val (.long v3), .second] [(.int (1 : Int32))]))
          refine own_go (fun _ k => XS.goto X106.here hx rfl (pc0 := 216) (pc' := 220) rfl (hb hby at_216) (by decide) (by decide) k) ?_
          show own_E _ _ _ _ _ _ _ (T106.setTop (mkF m 220 #[.val (.int p0), .val (.int p1), .val (.long v0), .second, .val (.long v1), .second, .val (.long v2), .second, .val (.long v3), .second, .val (.int (4 : Int32)), .val (.ref aa), .val (.int (4 : Int32)), .val (.ref r), .val (.ref ax), .val (.long v3), .second, .val (.long v3), .second] [(.int (1 : Int32))]))
          exact own_ret X106 hx Bd.returns Bd.notSynchronized rfl (Or.inl ⟨rfl, by simp, _, rfl⟩) (hb hby at_220) (by rw [e106]; exact ⟨rfl, M106⟩) (by decide) (by decide)
        ·
          rw [show own_r n (4 : Int32) v0 v1 v2 v3 = 0 from own_far h5 (by decide)]
          show own_E _ _ _ _ _ _ _ (T106.setTop (mkF m 127 #[.val (.int p0), .val (.int p1), .val (.long v0), .second, .val (.long v1), .second, .val (.long v2), .second, .val (.long v3), .second, .val (.int (4 : Int32)), .val (.ref aa), .val (.int n), .val (.ref r), .val (.ref ax), .unset, .unset, .unset, .unset] [(.long (0 : Int64))]))
          refine own_go (fun _ k => XT.lstore X106.here hx rfl (hb hby at_127) rfl (l' := #[.val (.int p0), .val (.int p1), .val (.long v0), .second, .val (.long v1), .second, .val (.long v2), .second, .val (.long v3), .second, .val (.int (4 : Int32)), .val (.ref aa), .val (.int n), .val (.ref r), .val (.ref ax), .val (.long (0 : Int64)), .second, .unset, .unset]) rfl k) ?_
          show own_E _ _ _ _ _ _ _ (T106.setTop (mkF m 129 #[.val (.int p0), .val (.int p1), .val (.long v0), .second, .val (.long v1), .second, .val (.long v2), .second, .val (.long v3), .second, .val (.int (4 : Int32)), .val (.ref aa), .val (.int n), .val (.ref r), .val (.ref ax), .val (.long (0 : Int64)), .second, .unset, .unset] []))
          refine own_go (fun _ k => XS.iload X106.here hx rfl (hb hby at_129) rfl k) ?_
          show own_E _ _ _ _ _ _ _ (T106.setTop (mkF m 131 #[.val (.int p0), .val (.int p1), .val (.long v0), .second, .val (.long v1), .second, .val (.long v2), .second, .val (.long v3), .second, .val (.int (4 : Int32)), .val (.ref aa), .val (.int n), .val (.ref r), .val (.ref ax), .val (.long (0 : Int64)), .second, .unset, .unset] [(.int n)]))
          refine own_go (fun _ k => XT.iconstV X106.here hx rfl (1 : Int32) (hb hby at_131) (by decide) k) ?_
          show own_E _ _ _ _ _ _ _ (T106.setTop (mkF m 132 #[.val (.int p0), .val (.int p1), .val (.long v0), .second, .val (.long v1), .second, .val (.long v2), .second, .val (.long v3), .second, .val (.int (4 : Int32)), .val (.ref aa), .val (.int n), .val (.ref r), .val (.ref ax), .val (.long (0 : Int64)), .second, .unset, .unset] [(.int (1 : Int32)), (.int n)]))
          refine own_go (fun _ k => XS.icmpYes X106.here hx rfl (pc0 := 132) (pc' := 147) rfl (hb hby at_132) rfl (feq (own_nq h5 (by decide))).2 (by decide) (by decide) k) ?_
          show own_E _ _ _ _ _ _ _ (T106.setTop (mkF m 147 #[.val (.int p0), .val (.int p1), .val (.long v0), .second, .val (.long v1), .second, .val (.long v2), .second, .val (.long v3), .second, .val (.int (4 : Int32)), .val (.ref aa), .val (.int n), .val (.ref r), .val (.ref ax), .val (.long (0 : Int64)), .second, .unset, .unset] []))
          refine own_go (fun _ k => XS.iload X106.here hx rfl (hb hby at_147) rfl k) ?_
          show own_E _ _ _ _ _ _ _ (T106.setTop (mkF m 149 #[.val (.int p0), .val (.int p1), .val (.long v0), .second, .val (.long v1), .second, .val (.long v2), .second, .val (.long v3), .second, .val (.int (4 : Int32)), .val (.ref aa), .val (.int n), .val (.ref r), .val (.ref ax), .val (.long (0 : Int64)), .second, .unset, .unset] [(.int n)]))
          refine own_go (fun _ k => XT.iconstV X106.here hx rfl (2 : Int32) (hb hby at_149) (by decide) k) ?_
          show own_E _ _ _ _ _ _ _ (T106.setTop (mkF m 150 #[.val (.int p0), .val (.int p1), .val (.long v0), .second, .val (.long v1), .second, .val (.long v2), .second, .val (.long v3), .second, .val (.int (4 : Int32)), .val (.ref aa), .val (.int n), .val (.ref r), .val (.ref ax), .val (.long (0 : Int64)), .second, .unset, .unset] [(.int (2 : Int32)), (.int n)]))
          refine own_go (fun _ k => XS.icmpYes X106.here hx rfl (pc0 := 150) (pc' := 166) rfl (hb hby at_150) rfl (feq (own_nq h5 (by decide))).2 (by decide) (by decide) k) ?_
          show own_E _ _ _ _ _ _ _ (T106.setTop (mkF m 166 #[.val (.int p0), .val (.int p1), .val (.long v0), .second, .val (.long v1), .second, .val (.long v2), .second, .val (.long v3), .second, .val (.int (4 : Int32)), .val (.ref aa), .val (.int n), .val (.ref r), .val (.ref ax), .val (.long (0 : Int64)), .second, .unset, .unset] []))
          refine own_go (fun _ k => XS.iload X106.here hx rfl (hb hby at_166) rfl k) ?_
          show own_E _ _ _ _ _ _ _ (T106.setTop (mkF m 168 #[.val (.int p0), .val (.int p1), .val (.long v0), .second, .val (.long v1), .second, .val (.long v2), .second, .val (.long v3), .second, .val (.int (4 : Int32)), .val (.ref aa), .val (.int n), .val (.ref r), .val (.ref ax), .val (.long (0 : Int64)), .second, .unset, .unset] [(.int n)]))
          refine own_go (fun _ k => XT.iconstV X106.here hx rfl (3 : Int32) (hb hby at_168) (by decide) k) ?_
          show own_E _ _ _ _ _ _ _ (T106.setTop (mkF m 169 #[.val (.int p0), .val (.int p1), .val (.long v0), .second, .val (.long v1), .second, .val (.long v2), .second, .val (.long v3), .second, .val (.int (4 : Int32)), .val (.ref aa), .val (.int n), .val (.ref r), .val (.ref ax), .val (.long (0 : Int64)), .second, .unset, .unset] [(.int (3 : Int32)), (.int n)]))
          refine own_go (fun _ k => XS.icmpYes X106.here hx rfl (pc0 := 169) (pc' := 185) rfl (hb hby at_169) rfl (feq (own_nq h5 (by decide))).2 (by decide) (by decide) k) ?_
          show own_E _ _ _ _ _ _ _ (T106.setTop (mkF m 185 #[.val (.int p0), .val (.int p1), .val (.long v0), .second, .val (.long v1), .second, .val (.long v2), .second, .val (.long v3), .second, .val (.int (4 : Int32)), .val (.ref aa), .val (.int n), .val (.ref r), .val (.ref ax), .val (.long (0 : Int64)), .second, .unset, .unset] []))
          refine own_go (fun _ k => XS.iload X106.here hx rfl (hb hby at_185) rfl k) ?_
          show own_E _ _ _ _ _ _ _ (T106.setTop (mkF m 187 #[.val (.int p0), .val (.int p1), .val (.long v0), .second, .val (.long v1), .second, .val (.long v2), .second, .val (.long v3), .second, .val (.int (4 : Int32)), .val (.ref aa), .val (.int n), .val (.ref r), .val (.ref ax), .val (.long (0 : Int64)), .second, .unset, .unset] [(.int n)]))
          refine own_go (fun _ k => XT.iconstV X106.here hx rfl (4 : Int32) (hb hby at_187) (by decide) k) ?_
          show own_E _ _ _ _ _ _ _ (T106.setTop (mkF m 188 #[.val (.int p0), .val (.int p1), .val (.long v0), .second, .val (.long v1), .second, .val (.long v2), .second, .val (.long v3), .second, .val (.int (4 : Int32)), .val (.ref aa), .val (.int n), .val (.ref r), .val (.ref ax), .val (.long (0 : Int64)), .second, .unset, .unset] [(.int (4 : Int32)), (.int n)]))
          refine own_go (fun _ k => XS.icmpYes X106.here hx rfl (pc0 := 188) (pc' := 204) rfl (hb hby at_188) rfl (feq (own_nq h5 (by decide))).2 (by decide) (by decide) k) ?_
          show own_E _ _ _ _ _ _ _ (T106.setTop (mkF m 204 #[.val (.int p0), .val (.int p1), .val (.long v0), .second, .val (.long v1), .second, .val (.long v2), .second, .val (.long v3), .second, .val (.int (4 : Int32)), .val (.ref aa), .val (.int n), .val (.ref r), .val (.ref ax), .val (.long (0 : Int64)), .second, .unset, .unset] []))
          refine own_go (fun _ k => XT.lconstV X106.here hx rfl (0 : Int64) (hb hby at_204) (by decide) k) ?_
          show own_E _ _ _ _ _ _ _ (T106.setTop (mkF m 205 #[.val (.int p0), .val (.int p1), .val (.long v0), .second, .val (.long v1), .second, .val (.long v2), .second, .val (.long v3), .second, .val (.int (4 : Int32)), .val (.ref aa), .val (.int n), .val (.ref r), .val (.ref ax), .val (.long (0 : Int64)), .second, .unset, .unset] [(.long (0 : Int64))]))
          refine own_go (fun _ k => XT.lstore X106.here hx rfl (hb hby at_205) rfl (l' := #[.val (.int p0), .val (.int p1), .val (.long v0), .second, .val (.long v1), .second, .val (.long v2), .second, .val (.long v3), .second, .val (.int (4 : Int32)), .val (.ref aa), .val (.int n), .val (.ref r), .val (.ref ax), .val (.long (0 : Int64)), .second, .val (.long (0 : Int64)), .second]) rfl k) ?_
          show own_E _ _ _ _ _ _ _ (T106.setTop (mkF m 207 #[.val (.int p0), .val (.int p1), .val (.long v0), .second, .val (.long v1), .second, .val (.long v2), .second, .val (.long v3), .second, .val (.int (4 : Int32)), .val (.ref aa), .val (.int n), .val (.ref r), .val (.ref ax), .val (.long (0 : Int64)), .second, .val (.long (0 : Int64)), .second] []))
          refine own_go (fun _ k => XT.lload X106.here hx rfl (hb hby at_207) rfl k) ?_
          show own_E _ _ _ _ _ _ _ (T106.setTop (mkF m 209 #[.val (.int p0), .val (.int p1), .val (.long v0), .second, .val (.long v1), .second, .val (.long v2), .second, .val (.long v3), .second, .val (.int (4 : Int32)), .val (.ref aa), .val (.int n), .val (.ref r), .val (.ref ax), .val (.long (0 : Int64)), .second, .val (.long (0 : Int64)), .second] [(.long (0 : Int64))]))
          refine own_go (fun _ k => XT.lload X106.here hx rfl (hb hby at_209) rfl k) ?_
          show own_E _ _ _ _ _ _ _ (T106.setTop (mkF m 211 #[.val (.int p0), .val (.int p1), .val (.long v0), .second, .val (.long v1), .second, .val (.long v2), .second, .val (.long v3), .second, .val (.int (4 : Int32)), .val (.ref aa), .val (.int n), .val (.ref r), .val (.ref ax), .val (.long (0 : Int64)), .second, .val (.long (0 : Int64)), .second] [(.long (0 : Int64)), (.long (0 : Int64))]))
          refine own_go (fun _ k => XT.lcmp X106.here hx rfl (hb hby at_211) rfl k) ?_
          show own_E _ _ _ _ _ _ _ (T106.setTop (mkF m 212 #[.val (.int p0), .val (.int p1), .val (.long v0), .second, .val (.long v1), .second, .val (.long v2), .second, .val (.long v3), .second, .val (.int (4 : Int32)), .val (.ref aa), .val (.int n), .val (.ref r), .val (.ref ax), .val (.long (0 : Int64)), .second, .val (.long (0 : Int64)), .second] [(.int (XT.cmpL (0 : Int64) (0 : Int64)))]))
          refine own_go (fun _ k => XS.ifNo X106.here hx rfl (hb hby at_212) rfl (XT.ll_ne_f rfl) k) ?_
          show own_E _ _ _ _ _ _ _ (T106.setTop (mkF m 215 #[.val (.int p0), .val (.int p1), .val (.long v0), .second, .val (.long v1), .second, .val (.long v2), .second, .val (.long v3), .second, .val (.int (4 : Int32)), .val (.ref aa), .val (.int n), .val (.ref r), .val (.ref ax), .val (.long (0 : Int64)), .second, .val (.long (0 : Int64)), .second] []))
          refine own_go (fun _ k => XT.iconstV X106.here hx rfl (1 : Int32) (hb hby at_215) (by decide) k) ?_
          show own_E _ _ _ _ _ _ _ (T106.setTop (mkF m 216 #[.val (.int p0), .val (.int p1), .val (.long v0), .second, .val (.long v1), .second, .val (.long v2), .second, .val (.long v3), .second, .val (.int (4 : Int32)), .val (.ref aa), .val (.int n), .val (.ref r), .val (.ref ax), .val (.long (0 : Int64)), .second, .val (.long (0 : Int64)), .second] [(.int (1 : Int32))]))
          refine own_go (fun _ k => XS.goto X106.here hx rfl (pc0 := 216) (pc' := 220) rfl (hb hby at_216) (by decide) (by decide) k) ?_
          show own_E _ _ _ _ _ _ _ (T106.setTop (mkF m 220 #[.val (.int p0), .val (.int p1), .val (.long v0), .second, .val (.long v1), .second, .val (.long v2), .second, .val (.long v3), .second, .val (.int (4 : Int32)), .val (.ref aa), .val (.int n), .val (.ref r), .val (.ref ax), .val (.long (0 : Int64)), .second, .val (.long (0 : Int64)), .second] [(.int (1 : Int32))]))
          exact own_ret X106 hx Bd.returns Bd.notSynchronized rfl (Or.inl ⟨rfl, by simp, _, rfl⟩) (hb hby at_220) (by rw [e106]; exact ⟨rfl, M106⟩) (by decide) (by decide)
    refine own_go (fun _ k => XS.iloadN X.here hx rfl (hb hby at_60) rfl k) ?_
    show own_E _ _ _ _ _ _ _ (T.setTop (mkF m 61 #[.val (.int p0), .val (.int p1), .val (.long v0), .second, .val (.long v1), .second, .val (.long v2), .second, .val (.long v3), .second, .val (.int z), .val (.ref aa), .unset, .unset, .unset, .unset, .unset, .unset, .unset] [(.int p0)]))
    refine own_go (fun _ k => XT.bipushV X.here hx rfl (8 : Int32) (hb hby at_61) (by decide) k) ?_
    show own_E _ _ _ _ _ _ _ (T.setTop (mkF m 63 #[.val (.int p0), .val (.int p1), .val (.long v0), .second, .val (.long v1), .second, .val (.long v2), .second, .val (.long v3), .second, .val (.int z), .val (.ref aa), .unset, .unset, .unset, .unset, .unset, .unset, .unset] [(.int (8 : Int32)), (.int p0)]))
    refine own_go (fun _ k => XS.iand X.here hx rfl (hb hby at_63) rfl k) ?_
    show own_E _ _ _ _ _ _ _ (T.setTop (mkF m 64 #[.val (.int p0), .val (.int p1), .val (.long v0), .second, .val (.long v1), .second, .val (.long v2), .second, .val (.long v3), .second, .val (.int z), .val (.ref aa), .unset, .unset, .unset, .unset, .unset, .unset, .unset] [(.int (p0 &&& (8 : Int32)))]))
    by_cases s1 : (p0 &&& (8 : Int32)) = 0
    ·
      refine own_go (fun _ k => XS.ifYes X.here hx rfl (pc0 := 64) (pc' := 78) rfl (hb hby at_64) rfl (XT.i0_eq_t s1) (by decide) (by decide) k) ?_
      show own_E _ _ _ _ _ _ _ (T.setTop (mkF m 78 #[.val (.int p0), .val (.int p1), .val (.long v0), .second, .val (.long v1), .second, .val (.long v2), .second, .val (.long v3), .second, .val (.int z), .val (.ref aa), .unset, .unset, .unset, .unset, .unset, .unset, .unset] []))
      refine own_go (fun _ k => XT.iconstV X.here hx rfl (1 : Int32) (hb hby at_78) (by decide) k) ?_
      show own_E _ _ _ _ _ _ _ (T.setTop (mkF m 79 #[.val (.int p0), .val (.int p1), .val (.long v0), .second, .val (.long v1), .second, .val (.long v2), .second, .val (.long v3), .second, .val (.int z), .val (.ref aa), .unset, .unset, .unset, .unset, .unset, .unset, .unset] [(.int (1 : Int32))]))
      refine own_go (fun _ k => XS.iloadN X.here hx rfl (hb hby at_79) rfl k) ?_
      show own_E _ _ _ _ _ _ _ (T.setTop (mkF m 80 #[.val (.int p0), .val (.int p1), .val (.long v0), .second, .val (.long v1), .second, .val (.long v2), .second, .val (.long v3), .second, .val (.int z), .val (.ref aa), .unset, .unset, .unset, .unset, .unset, .unset, .unset] [(.int p1), (.int (1 : Int32))]))
      refine own_go (fun _ k => X.ldcI hx hown (mvT hZ (hw _ (List.mem_of_getElem? (i := 1) rfl))) rfl (hb hby at_80) k) ?_
      show own_E _ _ _ _ _ _ _ (T.setTop (mkF m 82 #[.val (.int p0), .val (.int p1), .val (.long v0), .second, .val (.long v1), .second, .val (.long v2), .second, .val (.long v3), .second, .val (.int z), .val (.ref aa), .unset, .unset, .unset, .unset, .unset, .unset, .unset] [(.int (2147483647 : Int32)), (.int p1), (.int (1 : Int32))]))
      refine own_go (fun _ k => XS.iand X.here hx rfl (hb hby at_82) rfl k) ?_
      show own_E _ _ _ _ _ _ _ (T.setTop (mkF m 83 #[.val (.int p0), .val (.int p1), .val (.long v0), .second, .val (.long v1), .second, .val (.long v2), .second, .val (.long v3), .second, .val (.int z), .val (.ref aa), .unset, .unset, .unset, .unset, .unset, .unset, .unset] [(.int (p1 &&& (2147483647 : Int32))), (.int (1 : Int32))]))
      refine own_go (fun _ k => X.ldcI hx hown (mvT hZ (hw _ (List.mem_of_getElem? (i := 1) rfl))) rfl (hb hby at_83) k) ?_
      show own_E _ _ _ _ _ _ _ (T.setTop (mkF m 85 #[.val (.int p0), .val (.int p1), .val (.long v0), .second, .val (.long v1), .second, .val (.long v2), .second, .val (.long v3), .second, .val (.int z), .val (.ref aa), .unset, .unset, .unset, .unset, .unset, .unset, .unset] [(.int (2147483647 : Int32)), (.int (p1 &&& (2147483647 : Int32))), (.int (1 : Int32))]))
      refine own_go (fun _ k => iremM X hx rfl (hb hby at_85) rfl (by decide) k) ?_
      show own_E _ _ _ _ _ _ _ (T.setTop (mkF m 86 #[.val (.int p0), .val (.int p1), .val (.long v0), .second, .val (.long v1), .second, .val (.long v2), .second, .val (.long v3), .second, .val (.int z), .val (.ref aa), .unset, .unset, .unset, .unset, .unset, .unset, .unset] [(.int ((p1 &&& (2147483647 : Int32)) % (2147483647 : Int32))), (.int (1 : Int32))]))
      refine own_go (fun _ k => XS.iadd X.here hx rfl (hb hby at_86) rfl k) ?_
      show own_E _ _ _ _ _ _ _ (T.setTop (mkF m 87 #[.val (.int p0), .val (.int p1), .val (.long v0), .second, .val (.long v1), .second, .val (.long v2), .second, .val (.long v3), .second, .val (.int z), .val (.ref aa), .unset, .unset, .unset, .unset, .unset, .unset, .unset] [(.int ((1 : Int32) + ((p1 &&& (2147483647 : Int32)) % (2147483647 : Int32))))]))
      refine own_go (fun _ k => XS.istore X.here hx rfl (hb hby at_87) rfl (l' := #[.val (.int p0), .val (.int p1), .val (.long v0), .second, .val (.long v1), .second, .val (.long v2), .second, .val (.long v3), .second, .val (.int z), .val (.ref aa), .val (.int ((1 : Int32) + ((p1 &&& (2147483647 : Int32)) % (2147483647 : Int32)))), .unset, .unset, .unset, .unset, .unset, .unset]) rfl k) ?_
      show own_E _ _ _ _ _ _ _ (T.setTop (mkF m 89 #[.val (.int p0), .val (.int p1), .val (.long v0), .second, .val (.long v1), .second, .val (.long v2), .second, .val (.long v3), .second, .val (.int z), .val (.ref aa), .val (.int ((1 : Int32) + ((p1 &&& (2147483647 : Int32)) % (2147483647 : Int32)))), .unset, .unset, .unset, .unset, .unset, .unset] []))
      exact rest89 _ (own_n1 p1)
    ·
      refine own_go (fun _ k => XS.ifNo X.here hx rfl (hb hby at_64) rfl (XT.i0_eq_f s1) k) ?_
      show own_E _ _ _ _ _ _ _ (T.setTop (mkF m 67 #[.val (.int p0), .val (.int p1), .val (.long v0), .second, .val (.long v1), .second, .val (.long v2), .second, .val (.long v3), .second, .val (.int z), .val (.ref aa), .unset, .unset, .unset, .unset, .unset, .unset, .unset] []))
      refine own_go (fun _ k => XT.iconstV X.here hx rfl (1 : Int32) (hb hby at_67) (by decide) k) ?_
      show own_E _ _ _ _ _ _ _ (T.setTop (mkF m 68 #[.val (.int p0), .val (.int p1), .val (.long v0), .second, .val (.long v1), .second, .val (.long v2), .second, .val (.long v3), .second, .val (.int z), .val (.ref aa), .unset, .unset, .unset, .unset, .unset, .unset, .unset] [(.int (1 : Int32))]))
      refine own_go (fun _ k => XS.iloadN X.here hx rfl (hb hby at_68) rfl k) ?_
      show own_E _ _ _ _ _ _ _ (T.setTop (mkF m 69 #[.val (.int p0), .val (.int p1), .val (.long v0), .second, .val (.long v1), .second, .val (.long v2), .second, .val (.long v3), .second, .val (.int z), .val (.ref aa), .unset, .unset, .unset, .unset, .unset, .unset, .unset] [(.int p1), (.int (1 : Int32))]))
      refine own_go (fun _ k => XT.bipushV X.here hx rfl (7 : Int32) (hb hby at_69) (by decide) k) ?_
      show own_E _ _ _ _ _ _ _ (T.setTop (mkF m 71 #[.val (.int p0), .val (.int p1), .val (.long v0), .second, .val (.long v1), .second, .val (.long v2), .second, .val (.long v3), .second, .val (.int z), .val (.ref aa), .unset, .unset, .unset, .unset, .unset, .unset, .unset] [(.int (7 : Int32)), (.int p1), (.int (1 : Int32))]))
      refine own_go (fun _ k => XS.iand X.here hx rfl (hb hby at_71) rfl k) ?_
      show own_E _ _ _ _ _ _ _ (T.setTop (mkF m 72 #[.val (.int p0), .val (.int p1), .val (.long v0), .second, .val (.long v1), .second, .val (.long v2), .second, .val (.long v3), .second, .val (.int z), .val (.ref aa), .unset, .unset, .unset, .unset, .unset, .unset, .unset] [(.int (p1 &&& (7 : Int32))), (.int (1 : Int32))]))
      refine own_go (fun _ k => XS.iadd X.here hx rfl (hb hby at_72) rfl k) ?_
      show own_E _ _ _ _ _ _ _ (T.setTop (mkF m 73 #[.val (.int p0), .val (.int p1), .val (.long v0), .second, .val (.long v1), .second, .val (.long v2), .second, .val (.long v3), .second, .val (.int z), .val (.ref aa), .unset, .unset, .unset, .unset, .unset, .unset, .unset] [(.int ((1 : Int32) + (p1 &&& (7 : Int32))))]))
      refine own_go (fun _ k => XS.istore X.here hx rfl (hb hby at_73) rfl (l' := #[.val (.int p0), .val (.int p1), .val (.long v0), .second, .val (.long v1), .second, .val (.long v2), .second, .val (.long v3), .second, .val (.int z), .val (.ref aa), .val (.int ((1 : Int32) + (p1 &&& (7 : Int32)))), .unset, .unset, .unset, .unset, .unset, .unset]) rfl k) ?_
      show own_E _ _ _ _ _ _ _ (T.setTop (mkF m 75 #[.val (.int p0), .val (.int p1), .val (.long v0), .second, .val (.long v1), .second, .val (.long v2), .second, .val (.long v3), .second, .val (.int z), .val (.ref aa), .val (.int ((1 : Int32) + (p1 &&& (7 : Int32)))), .unset, .unset, .unset, .unset, .unset, .unset] []))
      refine own_go (fun _ k => XS.goto X.here hx rfl (pc0 := 75) (pc' := 89) rfl (hb hby at_75) (by decide) (by decide) k) ?_
      show own_E _ _ _ _ _ _ _ (T.setTop (mkF m 89 #[.val (.int p0), .val (.int p1), .val (.long v0), .second, .val (.long v1), .second, .val (.long v2), .second, .val (.long v3), .second, .val (.int z), .val (.ref aa), .val (.int ((1 : Int32) + (p1 &&& (7 : Int32)))), .unset, .unset, .unset, .unset, .unset, .unset] []))
      exact rest89 _ (own_n2 p1)
  refine own_go (fun _ k => XS.iloadN X0.here hx rfl (hb hby at_0) rfl k) ?_
  show own_E _ _ _ _ _ _ _ (s₁.setTop (mkF m 1 #[.val (.int p0), .val (.int p1), .val (.long v0), .second, .val (.long v1), .second, .val (.long v2), .second, .val (.long v3), .second, .unset, .unset, .unset, .unset, .unset, .unset, .unset, .unset, .unset] [(.int p0)]))
  refine own_go (fun _ k => XT.bipushV X0.here hx rfl (7 : Int32) (hb hby at_1) (by decide) k) ?_
  show own_E _ _ _ _ _ _ _ (s₁.setTop (mkF m 3 #[.val (.int p0), .val (.int p1), .val (.long v0), .second, .val (.long v1), .second, .val (.long v2), .second, .val (.long v3), .second, .unset, .unset, .unset, .unset, .unset, .unset, .unset, .unset, .unset] [(.int (7 : Int32)), (.int p0)]))
  refine own_go (fun _ k => XS.iand X0.here hx rfl (hb hby at_3) rfl k) ?_
  show own_E _ _ _ _ _ _ _ (s₁.setTop (mkF m 4 #[.val (.int p0), .val (.int p1), .val (.long v0), .second, .val (.long v1), .second, .val (.long v2), .second, .val (.long v3), .second, .unset, .unset, .unset, .unset, .unset, .unset, .unset, .unset, .unset] [(.int (p0 &&& (7 : Int32)))]))
  refine own_go (fun _ k => XT.iconstV X0.here hx rfl (5 : Int32) (hb hby at_4) (by decide) k) ?_
  show own_E _ _ _ _ _ _ _ (s₁.setTop (mkF m 5 #[.val (.int p0), .val (.int p1), .val (.long v0), .second, .val (.long v1), .second, .val (.long v2), .second, .val (.long v3), .second, .unset, .unset, .unset, .unset, .unset, .unset, .unset, .unset, .unset] [(.int (5 : Int32)), (.int (p0 &&& (7 : Int32)))]))
  refine own_go (fun _ k => iremM X0 hx rfl (hb hby at_5) rfl (by decide) k) ?_
  show own_E _ _ _ _ _ _ _ (s₁.setTop (mkF m 6 #[.val (.int p0), .val (.int p1), .val (.long v0), .second, .val (.long v1), .second, .val (.long v2), .second, .val (.long v3), .second, .unset, .unset, .unset, .unset, .unset, .unset, .unset, .unset, .unset] [(.int ((p0 &&& (7 : Int32)) % (5 : Int32)))]))
  obtain ⟨z, hr⟩ : ∃ z, z = ((p0 &&& (7 : Int32)) % (5 : Int32)) := ⟨_, rfl⟩
  rw [← hr]
  have hz : z = 0 ∨ z = 1 ∨ z = 2 ∨ z = 3 ∨ z = 4 := by rw [hr]; exact own_z p0
  clear hr
  rcases hz with rfl | rfl | rfl | rfl | rfl
  ·
    show own_E _ _ _ _ _ _ _ (s₁.setTop (mkF m 6 #[.val (.int p0), .val (.int p1), .val (.long v0), .second, .val (.long v1), .second, .val (.long v2), .second, .val (.long v3), .second, .unset, .unset, .unset, .unset, .unset, .unset, .unset, .unset, .unset] [(.int (0 : Int32))]))
    refine own_go (fun _ k => XS.istore X0.here hx rfl (hb hby at_6) rfl (l' := #[.val (.int p0), .val (.int p1), .val (.long v0), .second, .val (.long v1), .second, .val (.long v2), .second, .val (.long v3), .second, .val (.int (0 : Int32)), .unset, .unset, .unset, .unset, .unset, .unset, .unset, .unset]) rfl k) ?_
    show own_E _ _ _ _ _ _ _ (s₁.setTop (mkF m 8 #[.val (.int p0), .val (.int p1), .val (.long v0), .second, .val (.long v1), .second, .val (.long v2), .second, .val (.long v3), .second, .val (.int (0 : Int32)), .unset, .unset, .unset, .unset, .unset, .unset, .unset, .unset] []))
    refine own_go (fun _ k => XS.iload X0.here hx rfl (hb hby at_8) rfl k) ?_
    show own_E _ _ _ _ _ _ _ (s₁.setTop (mkF m 10 #[.val (.int p0), .val (.int p1), .val (.long v0), .second, .val (.long v1), .second, .val (.long v2), .second, .val (.long v3), .second, .val (.int (0 : Int32)), .unset, .unset, .unset, .unset, .unset, .unset, .unset, .unset] [(.int (0 : Int32))]))
    obtain ⟨T107, h107, k107, X107, e107, E107, A107, B107, st107⟩ := newPE X0 hx hZ (hw _ (List.mem_of_getElem? (i := 0) rfl)) e0 (g := (mkF m 10 #[.val (.int p0), .val (.int p1), .val (.long v0), .second, .val (.long v1), .second, .val (.long v2), .second, .val (.long v3), .second, .val (.int (0 : Int32)), .unset, .unset, .unset, .unset, .unset, .unset, .unset, .unset] [(.int (0 : Int32))])) rfl (hb hby at_10) rfl (by decide) (cap := 4) (by decide) (by decide) (by decide) (by decide) (ad := "[J") (by decide)
    obtain ⟨aa, g107⟩ : ∃ z, z = h0.size := ⟨_, rfl⟩
    rw [← g107] at A107 B107 st107
    have w107 : n0 ≤ aa := by rw [g107]; exact Z0
    have v107 : Arv Z h107 aa k107 .long (0 : Int32) [] (.long 0) := own_arvNew (n := 0) A107 (by decide)
    have O107 := O0.ext E107
    have Z107 := Nat.le_trans Z0 E107.1
    refine own_go st107 ?_
    show own_E _ _ _ _ _ _ _ (T107.setTop (mkF m 12 #[.val (.int p0), .val (.int p1), .val (.long v0), .second, .val (.long v1), .second, .val (.long v2), .second, .val (.long v3), .second, .val (.int (0 : Int32)), .unset, .unset, .unset, .unset, .unset, .unset, .unset, .unset] [(.ref aa)]))
    refine own_go (fun _ k => XS.astore X107.here hx rfl (hb hby at_12) rfl rfl (l' := #[.val (.int p0), .val (.int p1), .val (.long v0), .second, .val (.long v1), .second, .val (.long v2), .second, .val (.long v3), .second, .val (.int (0 : Int32)), .val (.ref aa), .unset, .unset, .unset, .unset, .unset, .unset, .unset]) rfl k) ?_
    show own_E _ _ _ _ _ _ _ (T107.setTop (mkF m 14 #[.val (.int p0), .val (.int p1), .val (.long v0), .second, .val (.long v1), .second, .val (.long v2), .second, .val (.long v3), .second, .val (.int (0 : Int32)), .val (.ref aa), .unset, .unset, .unset, .unset, .unset, .unset, .unset] []))
    refine own_go (fun _ k => XS.iload X107.here hx rfl (hb hby at_14) rfl k) ?_
    show own_E _ _ _ _ _ _ _ (T107.setTop (mkF m 16 #[.val (.int p0), .val (.int p1), .val (.long v0), .second, .val (.long v1), .second, .val (.long v2), .second, .val (.long v3), .second, .val (.int (0 : Int32)), .val (.ref aa), .unset, .unset, .unset, .unset, .unset, .unset, .unset] [(.int (0 : Int32))]))
    refine own_go (fun _ k => XS.ifYes X107.here hx rfl (pc0 := 16) (pc' := 24) rfl (hb hby at_16) rfl (by decide) (by decide) (by decide) k) ?_
    show own_E _ _ _ _ _ _ _ (T107.setTop (mkF m 24 #[.val (.int p0), .val (.int p1), .val (.long v0), .second, .val (.long v1), .second, .val (.long v2), .second, .val (.long v3), .second, .val (.int (0 : Int32)), .val (.ref aa), .unset, .unset, .unset, .unset, .unset, .unset, .unset] []))
    refine own_go (fun _ k => XS.iload X107.here hx rfl (hb hby at_24) rfl k) ?_
    show own_E _ _ _ _ _ _ _ (T107.setTop (mkF m 26 #[.val (.int p0), .val (.int p1), .val (.long v0), .second, .val (.long v1), .second, .val (.long v2), .second, .val (.long v3), .second, .val (.int (0 : Int32)), .val (.ref aa), .unset, .unset, .unset, .unset, .unset, .unset, .unset] [(.int (0 : Int32))]))
    refine own_go (fun _ k => XT.iconstV X107.here hx rfl (1 : Int32) (hb hby at_26) (by decide) k) ?_
    show own_E _ _ _ _ _ _ _ (T107.setTop (mkF m 27 #[.val (.int p0), .val (.int p1), .val (.long v0), .second, .val (.long v1), .second, .val (.long v2), .second, .val (.long v3), .second, .val (.int (0 : Int32)), .val (.ref aa), .unset, .unset, .unset, .unset, .unset, .unset, .unset] [(.int (1 : Int32)), (.int (0 : Int32))]))
    refine own_go (fun _ k => XS.icmpYes X107.here hx rfl (pc0 := 27) (pc' := 36) rfl (hb hby at_27) rfl (by decide) (by decide) (by decide) k) ?_
    show own_E _ _ _ _ _ _ _ (T107.setTop (mkF m 36 #[.val (.int p0), .val (.int p1), .val (.long v0), .second, .val (.long v1), .second, .val (.long v2), .second, .val (.long v3), .second, .val (.int (0 : Int32)), .val (.ref aa), .unset, .unset, .unset, .unset, .unset, .unset, .unset] []))
    refine own_go (fun _ k => XS.iload X107.here hx rfl (hb hby at_36) rfl k) ?_
    show own_E _ _ _ _ _ _ _ (T107.setTop (mkF m 38 #[.val (.int p0), .val (.int p1), .val (.long v0), .second, .val (.long v1), .second, .val (.long v2), .second, .val (.long v3), .second, .val (.int (0 : Int32)), .val (.ref aa), .unset, .unset, .unset, .unset, .unset, .unset, .unset] [(.int (0 : Int32))]))
    refine own_go (fun _ k => XT.iconstV X107.here hx rfl (2 : Int32) (hb hby at_38) (by decide) k) ?_
    show own_E _ _ _ _ _ _ _ (T107.setTop (mkF m 39 #[.val (.int p0), .val (.int p1), .val (.long v0), .second, .val (.long v1), .second, .val (.long v2), .second, .val (.long v3), .second, .val (.int (0 : Int32)), .val (.ref aa), .unset, .unset, .unset, .unset, .unset, .unset, .unset] [(.int (2 : Int32)), (.int (0 : Int32))]))
    refine own_go (fun _ k => XS.icmpYes X107.here hx rfl (pc0 := 39) (pc' := 48) rfl (hb hby at_39) rfl (by decide) (by decide) (by decide) k) ?_
    show own_E _ _ _ _ _ _ _ (T107.setTop (mkF m 48 #[.val (.int p0), .val (.int p1), .val (.long v0), .second, .val (.long v1), .second, .val (.long v2), .second, .val (.long v3), .second, .val (.int (0 : Int32)), .val (.ref aa), .unset, .unset, .unset, .unset, .unset, .unset, .unset] []))
    refine own_go (fun _ k => XS.iload X107.here hx rfl (hb hby at_48) rfl k) ?_
    show own_E _ _ _ _ _ _ _ (T107.setTop (mkF m 50 #[.val (.int p0), .val (.int p1), .val (.long v0), .second, .val (.long v1), .second, .val (.long v2), .second, .val (.long v3), .second, .val (.int (0 : Int32)), .val (.ref aa), .unset, .unset, .unset, .unset, .unset, .unset, .unset] [(.int (0 : Int32))]))
    refine own_go (fun _ k => XT.iconstV X107.here hx rfl (3 : Int32) (hb hby at_50) (by decide) k) ?_
    show own_E _ _ _ _ _ _ _ (T107.setTop (mkF m 51 #[.val (.int p0), .val (.int p1), .val (.long v0), .second, .val (.long v1), .second, .val (.long v2), .second, .val (.long v3), .second, .val (.int (0 : Int32)), .val (.ref aa), .unset, .unset, .unset, .unset, .unset, .unset, .unset] [(.int (3 : Int32)), (.int (0 : Int32))]))
    refine own_go (fun _ k => XS.icmpYes X107.here hx rfl (pc0 := 51) (pc' := 60) rfl (hb hby at_51) rfl (by decide) (by decide) (by decide) k) ?_
    show own_E _ _ _ _ _ _ _ (T107.setTop (mkF m 60 #[.val (.int p0), .val (.int p1), .val (.long v0), .second, .val (.long v1), .second, .val (.long v2), .second, .val (.long v3), .second, .val (.int (0 : Int32)), .val (.ref aa), .unset, .unset, .unset, .unset, .unset, .unset, .unset] []))
    exact rest60 0 T107 h107 _ aa _ (by simp) X107 e107 O107 Z107 N0 (own_re v107 (fun i hi => own_gd0 i hi)) B107 w107
  ·
    show own_E _ _ _ _ _ _ _ (s₁.setTop (mkF m 6 #[.val (.int p0), .val (.int p1), .val (.long v0), .second, .val (.long v1), .second, .val (.long v2), .second, .val (.long v3), .second, .unset, .unset, .unset, .unset, .unset, .unset, .unset, .unset, .unset] [(.int (1 : Int32))]))
    refine own_go (fun _ k => XS.istore X0.here hx rfl (hb hby at_6) rfl (l' := #[.val (.int p0), .val (.int p1), .val (.long v0), .second, .val (.long v1), .second, .val (.long v2), .second, .val (.long v3), .second, .val (.int (1 : Int32)), .unset, .unset, .unset, .unset, .unset, .unset, .unset, .unset]) rfl k) ?_
    show own_E _ _ _ _ _ _ _ (s₁.setTop (mkF m 8 #[.val (.int p0), .val (.int p1), .val (.long v0), .second, .val (.long v1), .second, .val (.long v2), .second, .val (.long v3), .second, .val (.int (1 : Int32)), .unset, .unset, .unset, .unset, .unset, .unset, .unset, .unset] []))
    refine own_go (fun _ k => XS.iload X0.here hx rfl (hb hby at_8) rfl k) ?_
    show own_E _ _ _ _ _ _ _ (s₁.setTop (mkF m 10 #[.val (.int p0), .val (.int p1), .val (.long v0), .second, .val (.long v1), .second, .val (.long v2), .second, .val (.long v3), .second, .val (.int (1 : Int32)), .unset, .unset, .unset, .unset, .unset, .unset, .unset, .unset] [(.int (1 : Int32))]))
    obtain ⟨T108, h108, k108, X108, e108, E108, A108, B108, st108⟩ := newPE X0 hx hZ (hw _ (List.mem_of_getElem? (i := 0) rfl)) e0 (g := (mkF m 10 #[.val (.int p0), .val (.int p1), .val (.long v0), .second, .val (.long v1), .second, .val (.long v2), .second, .val (.long v3), .second, .val (.int (1 : Int32)), .unset, .unset, .unset, .unset, .unset, .unset, .unset, .unset] [(.int (1 : Int32))])) rfl (hb hby at_10) rfl (by decide) (cap := 4) (by decide) (by decide) (by decide) (by decide) (ad := "[J") (by decide)
    obtain ⟨aa, g108⟩ : ∃ z, z = h0.size := ⟨_, rfl⟩
    rw [← g108] at A108 B108 st108
    have w108 : n0 ≤ aa := by rw [g108]; exact Z0
    have v108 : Arv Z h108 aa k108 .long (1 : Int32) [(.long 0)] (.long 0) := own_arvNew (n := 1) A108 (by decide)
    have O108 := O0.ext E108
    have Z108 := Nat.le_trans Z0 E108.1
    refine own_go st108 ?_
    show own_E _ _ _ _ _ _ _ (T108.setTop (mkF m 12 #[.val (.int p0), .val (.int p1), .val (.long v0), .second, .val (.long v1), .second, .val (.long v2), .second, .val (.long v3), .second, .val (.int (1 : Int32)), .unset, .unset, .unset, .unset, .unset, .unset, .unset, .unset] [(.ref aa)]))
    refine own_go (fun _ k => XS.astore X108.here hx rfl (hb hby at_12) rfl rfl (l' := #[.val (.int p0), .val (.int p1), .val (.long v0), .second, .val (.long v1), .second, .val (.long v2), .second, .val (.long v3), .second, .val (.int (1 : Int32)), .val (.ref aa), .unset, .unset, .unset, .unset, .unset, .unset, .unset]) rfl k) ?_
    show own_E _ _ _ _ _ _ _ (T108.setTop (mkF m 14 #[.val (.int p0), .val (.int p1), .val (.long v0), .second, .val (.long v1), .second, .val (.long v2), .second, .val (.long v3), .second, .val (.int (1 : Int32)), .val (.ref aa), .unset, .unset, .unset, .unset, .unset, .unset, .unset] []))
    refine own_go (fun _ k => XS.iload X108.here hx rfl (hb hby at_14) rfl k) ?_
    show own_E _ _ _ _ _ _ _ (T108.setTop (mkF m 16 #[.val (.int p0), .val (.int p1), .val (.long v0), .second, .val (.long v1), .second, .val (.long v2), .second, .val (.long v3), .second, .val (.int (1 : Int32)), .val (.ref aa), .unset, .unset, .unset, .unset, .unset, .unset, .unset] [(.int (1 : Int32))]))
    refine own_go (fun _ k => XS.ifNo X108.here hx rfl (hb hby at_16) rfl (by decide) k) ?_
    show own_E _ _ _ _ _ _ _ (T108.setTop (mkF m 19 #[.val (.int p0), .val (.int p1), .val (.long v0), .second, .val (.long v1), .second, .val (.long v2), .second, .val (.long v3), .second, .val (.int (1 : Int32)), .val (.ref aa), .unset, .unset, .unset, .unset, .unset, .unset, .unset] []))
    refine own_go (fun _ k => XS.aload X108.here hx rfl (hb hby at_19) rfl rfl k) ?_
    show own_E _ _ _ _ _ _ _ (T108.setTop (mkF m 21 #[.val (.int p0), .val (.int p1), .val (.long v0), .second, .val (.long v1), .second, .val (.long v2), .second, .val (.long v3), .second, .val (.int (1 : Int32)), .val (.ref aa), .unset, .unset, .unset, .unset, .unset, .unset, .unset] [(.ref aa)]))
    refine own_go (fun _ k => XT.iconstV X108.here hx rfl (0 : Int32) (hb hby at_21) (by decide) k) ?_
    show own_E _ _ _ _ _ _ _ (T108.setTop (mkF m 22 #[.val (.int p0), .val (.int p1), .val (.long v0), .second, .val (.long v1), .second, .val (.long v2), .second, .val (.long v3), .second, .val (.int (1 : Int32)), .val (.ref aa), .unset, .unset, .unset, .unset, .unset, .unset, .unset] [(.int (0 : Int32)), (.ref aa)]))
    refine own_go (fun _ k => XT.lloadN X108.here hx rfl (hb hby at_22) rfl k) ?_
    show own_E _ _ _ _ _ _ _ (T108.setTop (mkF m 23 #[.val (.int p0), .val (.int p1), .val (.long v0), .second, .val (.long v1), .second, .val (.long v2), .second, .val (.long v3), .second, .val (.int (1 : Int32)), .val (.ref aa), .unset, .unset, .unset, .unset, .unset, .unset, .unset] [(.long v0), (.int (0 : Int32)), (.ref aa)]))
    obtain ⟨T109, h109, X109, e109, W109, v109, st109⟩ := own_stJ X108 hx hZ e108 v108 (j := (0 : Int32)) 0 (by decide) (by simp) (by decide) (g := (mkF m 23 #[.val (.int p0), .val (.int p1), .val (.long v0), .second, .val (.long v1), .second, .val (.long v2), .second, .val (.long v3), .second, .val (.int (1 : Int32)), .val (.ref aa), .unset, .unset, .unset, .unset, .unset, .unset, .unset] [(.long v0), (.int (0 : Int32)), (.ref aa)])) rfl rfl (hb hby at_23)
    replace v109 : Arv Z h109 aa k108 .long (1 : Int32) [(.long v0)] (.long 0) := v109
    have f109_1 := B108.wr W109
    have O109 := O108.wr W109 w108
    have Z109 : n0 ≤ h109.size := by rw [W109.size]; exact Z108
    have N109 := Fr.snoc X109 N0 w108
    refine own_go st109 ?_
    show own_E _ _ _ _ _ _ _ (T109.setTop (mkF m 24 #[.val (.int p0), .val (.int p1), .val (.long v0), .second, .val (.long v1), .second, .val (.long v2), .second, .val (.long v3), .second, .val (.int (1 : Int32)), .val (.ref aa), .unset, .unset, .unset, .unset, .unset, .unset, .unset] []))
    refine own_go (fun _ k => XS.iload X109.here hx rfl (hb hby at_24) rfl k) ?_
    show own_E _ _ _ _ _ _ _ (T109.setTop (mkF m 26 #[.val (.int p0), .val (.int p1), .val (.long v0), .second, .val (.long v1), .second, .val (.long v2), .second, .val (.long v3), .second, .val (.int (1 : Int32)), .val (.ref aa), .unset, .unset, .unset, .unset, .unset, .unset, .unset] [(.int (1 : Int32))]))
    refine own_go (fun _ k => XT.iconstV X109.here hx rfl (1 : Int32) (hb hby at_26) (by decide) k) ?_
    show own_E _ _ _ _ _ _ _ (T109.setTop (mkF m 27 #[.val (.int p0), .val (.int p1), .val (.long v0), .second, .val (.long v1), .second, .val (.long v2), .second, .val (.long v3), .second, .val (.int (1 : Int32)), .val (.ref aa), .unset, .unset, .unset, .unset, .unset, .unset, .unset] [(.int (1 : Int32)), (.int (1 : Int32))]))
    refine own_go (fun _ k => XS.icmpYes X109.here hx rfl (pc0 := 27) (pc' := 36) rfl (hb hby at_27) rfl (by decide) (by decide) (by decide) k) ?_
    show own_E _ _ _ _ _ _ _ (T109.setTop (mkF m 36 #[.val (.int p0), .val (.int p1), .val (.long v0), .second, .val (.long v1), .second, .val (.long v2), .second, .val (.long v3), .second, .val (.int (1 : Int32)), .val (.ref aa), .unset, .unset, .unset, .unset, .unset, .unset, .unset] []))
    refine own_go (fun _ k => XS.iload X109.here hx rfl (hb hby at_36) rfl k) ?_
    show own_E _ _ _ _ _ _ _ (T109.setTop (mkF m 38 #[.val (.int p0), .val (.int p1), .val (.long v0), .second, .val (.long v1), .second, .val (.long v2), .second, .val (.long v3), .second, .val (.int (1 : Int32)), .val (.ref aa), .unset, .unset, .unset, .unset, .unset, .unset, .unset] [(.int (1 : Int32))]))
    refine own_go (fun _ k => XT.iconstV X109.here hx rfl (2 : Int32) (hb hby at_38) (by decide) k) ?_
    show own_E _ _ _ _ _ _ _ (T109.setTop (mkF m 39 #[.val (.int p0), .val (.int p1), .val (.long v0), .second, .val (.long v1), .second, .val (.long v2), .second, .val (.long v3), .second, .val (.int (1 : Int32)), .val (.ref aa), .unset, .unset, .unset, .unset, .unset, .unset, .unset] [(.int (2 : Int32)), (.int (1 : Int32))]))
    refine own_go (fun _ k => XS.icmpYes X109.here hx rfl (pc0 := 39) (pc' := 48) rfl (hb hby at_39) rfl (by decide) (by decide) (by decide) k) ?_
    show own_E _ _ _ _ _ _ _ (T109.setTop (mkF m 48 #[.val (.int p0), .val (.int p1), .val (.long v0), .second, .val (.long v1), .second, .val (.long v2), .second, .val (.long v3), .second, .val (.int (1 : Int32)), .val (.ref aa), .unset, .unset, .unset, .unset, .unset, .unset, .unset] []))
    refine own_go (fun _ k => XS.iload X109.here hx rfl (hb hby at_48) rfl k) ?_
    show own_E _ _ _ _ _ _ _ (T109.setTop (mkF m 50 #[.val (.int p0), .val (.int p1), .val (.long v0), .second, .val (.long v1), .second, .val (.long v2), .second, .val (.long v3), .second, .val (.int (1 : Int32)), .val (.ref aa), .unset, .unset, .unset, .unset, .unset, .unset, .unset] [(.int (1 : Int32))]))
    refine own_go (fun _ k => XT.iconstV X109.here hx rfl (3 : Int32) (hb hby at_50) (by decide) k) ?_
    show own_E _ _ _ _ _ _ _ (T109.setTop (mkF m 51 #[.val (.int p0), .val (.int p1), .val (.long v0), .second, .val (.long v1), .second, .val (.long v2), .second, .val (.long v3), .second, .val (.int (1 : Int32)), .val (.ref aa), .unset, .unset, .unset, .unset, .unset, .unset, .unset] [(.int (3 : Int32)), (.int (1 : Int32))]))
    refine own_go (fun _ k => XS.icmpYes X109.here hx rfl (pc0 := 51) (pc' := 60) rfl (hb hby at_51) rfl (by decide) (by decide) (by decide) k) ?_
    show own_E _ _ _ _ _ _ _ (T109.setTop (mkF m 60 #[.val (.int p0), .val (.int p1), .val (.long v0), .second, .val (.long v1), .second, .val (.long v2), .second, .val (.long v3), .second, .val (.int (1 : Int32)), .val (.ref aa), .unset, .unset, .unset, .unset, .unset, .unset, .unset] []))
    exact rest60 1 T109 h109 _ aa _ (by simp) X109 e109 O109 Z109 N109 (own_re v109 (fun i hi => own_gd1 i hi)) f109_1 w108
  ·
    show own_E _ _ _ _ _ _ _ (s₁.setTop (mkF m 6 #[.val (.int p0), .val (.int p1), .val (.long v0), .second, .val (.long v1), .second, .val (.long v2), .second, .val (.long v3), .second, .unset, .unset, .unset, .unset, .unset, .unset, .unset, .unset, .unset] [(.int (2 : Int32))]))
    refine own_go (fun _ k => XS.istore X0.here hx rfl (hb hby at_6) rfl (l' := #[.val (.int p0), .val (.int p1), .val (.long v0), .second, .val (.long v1), .second, .val (.long v2), .second, .val (.long v3), .second, .val (.int (2 : Int32)), .unset, .unset, .unset, .unset, .unset, .unset, .unset, .unset]) rfl k) ?_
    show own_E _ _ _ _ _ _ _ (s₁.setTop (mkF m 8 #[.val (.int p0), .val (.int p1), .val (.long v0), .second, .val (.long v1), .second, .val (.long v2), .second, .val (.long v3), .second, .val (.int (2 : Int32)), .unset, .unset, .unset, .unset, .unset, .unset, .unset, .unset] []))
    refine own_go (fun _ k => XS.iload X0.here hx rfl (hb hby at_8) rfl k) ?_
    show own_E _ _ _ _ _ _ _ (s₁.setTop (mkF m 10 #[.val (.int p0), .val (.int p1), .val (.long v0), .second, .val (.long v1), .second, .val (.long v2), .second, .val (.long v3), .second, .val (.int (2 : Int32)), .unset, .unset, .unset, .unset, .unset, .unset, .unset, .unset] [(.int (2 : Int32))]))
    obtain ⟨T110, h110, k110, X110, e110, E110, A110, B110, st110⟩ := newPE X0 hx hZ (hw _ (List.mem_of_getElem? (i := 0) rfl)) e0 (g := (mkF m 10 #[.val (.int p0), .val (.int p1), .val (.long v0), .second, .val (.long v1), .second, .val (.long v2), .second, .val (.long v3), .second, .val (.int (2 : Int32)), .unset, .unset, .unset, .unset, .unset, .unset, .unset, .unset] [(.int (2 : Int32))])) rfl (hb hby at_10) rfl (by decide) (cap := 4) (by decide) (by decide) (by decide) (by decide) (ad := "[J") (by decide)
    obtain ⟨aa, g110⟩ : ∃ z, z = h0.size := ⟨_, rfl⟩
    rw [← g110] at A110 B110 st110
    have w110 : n0 ≤ aa := by rw [g110]; exact Z0
    have v110 : Arv Z h110 aa k110 .long (2 : Int32) [(.long 0), (.long 0)] (.long 0) := own_arvNew (n := 2) A110 (by decide)
    have O110 := O0.ext E110
    have Z110 := Nat.le_trans Z0 E110.1
    refine own_go st110 ?_
    show own_E _ _ _ _ _ _ _ (T110.setTop (mkF m 12 #[.val (.int p0), .val (.int p1), .val (.long v0), .second, .val (.long v1), .second, .val (.long v2), .second, .val (.long v3), .second, .val (.int (2 : Int32)), .unset, .unset, .unset, .unset, .unset, .unset, .unset, .unset] [(.ref aa)]))
    refine own_go (fun _ k => XS.astore X110.here hx rfl (hb hby at_12) rfl rfl (l' := #[.val (.int p0), .val (.int p1), .val (.long v0), .second, .val (.long v1), .second, .val (.long v2), .second, .val (.long v3), .second, .val (.int (2 : Int32)), .val (.ref aa), .unset, .unset, .unset, .unset, .unset, .unset, .unset]) rfl k) ?_
    show own_E _ _ _ _ _ _ _ (T110.setTop (mkF m 14 #[.val (.int p0), .val (.int p1), .val (.long v0), .second, .val (.long v1), .second, .val (.long v2), .second, .val (.long v3), .second, .val (.int (2 : Int32)), .val (.ref aa), .unset, .unset, .unset, .unset, .unset, .unset, .unset] []))
    refine own_go (fun _ k => XS.iload X110.here hx rfl (hb hby at_14) rfl k) ?_
    show own_E _ _ _ _ _ _ _ (T110.setTop (mkF m 16 #[.val (.int p0), .val (.int p1), .val (.long v0), .second, .val (.long v1), .second, .val (.long v2), .second, .val (.long v3), .second, .val (.int (2 : Int32)), .val (.ref aa), .unset, .unset, .unset, .unset, .unset, .unset, .unset] [(.int (2 : Int32))]))
    refine own_go (fun _ k => XS.ifNo X110.here hx rfl (hb hby at_16) rfl (by decide) k) ?_
    show own_E _ _ _ _ _ _ _ (T110.setTop (mkF m 19 #[.val (.int p0), .val (.int p1), .val (.long v0), .second, .val (.long v1), .second, .val (.long v2), .second, .val (.long v3), .second, .val (.int (2 : Int32)), .val (.ref aa), .unset, .unset, .unset, .unset, .unset, .unset, .unset] []))
    refine own_go (fun _ k => XS.aload X110.here hx rfl (hb hby at_19) rfl rfl k) ?_
    show own_E _ _ _ _ _ _ _ (T110.setTop (mkF m 21 #[.val (.int p0), .val (.int p1), .val (.long v0), .second, .val (.long v1), .second, .val (.long v2), .second, .val (.long v3), .second, .val (.int (2 : Int32)), .val (.ref aa), .unset, .unset, .unset, .unset, .unset, .unset, .unset] [(.ref aa)]))
    refine own_go (fun _ k => XT.iconstV X110.here hx rfl (0 : Int32) (hb hby at_21) (by decide) k) ?_
    show own_E _ _ _ _ _ _ _ (T110.setTop (mkF m 22 #[.val (.int p0), .val (.int p1), .val (.long v0), .second, .val (.long v1), .second, .val (.long v2), .second, .val (.long v3), .second, .val (.int (2 : Int32)), .val (.ref aa), .unset, .unset, .unset, .unset, .unset, .unset, .unset] [(.int (0 : Int32)), (.ref aa)]))
    refine own_go (fun _ k => XT.lloadN X110.here hx rfl (hb hby at_22) rfl k) ?_
    show own_E _ _ _ _ _ _ _ (T110.setTop (mkF m 23 #[.val (.int p0), .val (.int p1), .val (.long v0), .second, .val (.long v1), .second, .val (.long v2), .second, .val (.long v3), .second, .val (.int (2 : Int32)), .val (.ref aa), .unset, .unset, .unset, .unset, .unset, .unset, .unset] [(.long v0), (.int (0 : Int32)), (.ref aa)]))
    obtain ⟨T111, h111, X111, e111, W111, v111, st111⟩ := own_stJ X110 hx hZ e110 v110 (j := (0 : Int32)) 0 (by decide) (by simp) (by decide) (g := (mkF m 23 #[.val (.int p0), .val (.int p1), .val (.long v0), .second, .val (.long v1), .second, .val (.long v2), .second, .val (.long v3), .second, .val (.int (2 : Int32)), .val (.ref aa), .unset, .unset, .unset, .unset, .unset, .unset, .unset] [(.long v0), (.int (0 : Int32)), (.ref aa)])) rfl rfl (hb hby at_23)
    replace v111 : Arv Z h111 aa k110 .long (2 : Int32) [(.long v0), (.long 0)] (.long 0) := v111
    have f111_1 := B110.wr W111
    have O111 := O110.wr W111 w110
    have Z111 : n0 ≤ h111.size := by rw [W111.size]; exact Z110
    have N111 := Fr.snoc X111 N0 w110
    refine own_go st111 ?_
    show own_E _ _ _ _ _ _ _ (T111.setTop (mkF m 24 #[.val (.int p0), .val (.int p1), .val (.long v0), .second, .val (.long v1), .second, .val (.long v2), .second, .val (.long v3), .second, .val (.int (2 : Int32)), .val (.ref aa), .unset, .unset, .unset, .unset, .unset, .unset, .unset] []))
    refine own_go (fun _ k => XS.iload X111.here hx rfl (hb hby at_24) rfl k) ?_
    show own_E _ _ _ _ _ _ _ (T111.setTop (mkF m 26 #[.val (.int p0), .val (.int p1), .val (.long v0), .second, .val (.long v1), .second, .val (.long v2), .second, .val (.long v3), .second, .val (.int (2 : Int32)), .val (.ref aa), .unset, .unset, .unset, .unset, .unset, .unset, .unset] [(.int (2 : Int32))]))
    refine own_go (fun _ k => XT.iconstV X111.here hx rfl (1 : Int32) (hb hby at_26) (by decide) k) ?_
    show own_E _ _ _ _ _ _ _ (T111.setTop (mkF m 27 #[.val (.int p0), .val (.int p1), .val (.long v0), .second, .val (.long v1), .second, .val (.long v2), .second, .val (.long v3), .second, .val (.int (2 : Int32)), .val (.ref aa), .unset, .unset, .unset, .unset, .unset, .unset, .unset] [(.int (1 : Int32)), (.int (2 : Int32))]))
    refine own_go (fun _ k => XS.icmpNo X111.here hx rfl (hb hby at_27) rfl (by decide) k) ?_
    show own_E _ _ _ _ _ _ _ (T111.setTop (mkF m 30 #[.val (.int p0), .val (.int p1), .val (.long v0), .second, .val (.long v1), .second, .val (.long v2), .second, .val (.long v3), .second, .val (.int (2 : Int32)), .val (.ref aa), .unset, .unset, .unset, .unset, .unset, .unset, .unset] []))
    refine own_go (fun _ k => XS.aload X111.here hx rfl (hb hby at_30) rfl rfl k) ?_
    show own_E _ _ _ _ _ _ _ (T111.setTop (mkF m 32 #[.val (.int p0), .val (.int p1), .val (.long v0), .second, .val (.long v1), .second, .val (.long v2), .second, .val (.long v3), .second, .val (.int (2 : Int32)), .val (.ref aa), .unset, .unset, .unset, .unset, .unset, .unset, .unset] [(.ref aa)]))
    refine own_go (fun _ k => XT.iconstV X111.here hx rfl (1 : Int32) (hb hby at_32) (by decide) k) ?_
    show own_E _ _ _ _ _ _ _ (T111.setTop (mkF m 33 #[.val (.int p0), .val (.int p1), .val (.long v0), .second, .val (.long v1), .second, .val (.long v2), .second, .val (.long v3), .second, .val (.int (2 : Int32)), .val (.ref aa), .unset, .unset, .unset, .unset, .unset, .unset, .unset] [(.int (1 : Int32)), (.ref aa)]))
    refine own_go (fun _ k => XT.lload X111.here hx rfl (hb hby at_33) rfl k) ?_
    show own_E _ _ _ _ _ _ _ (T111.setTop (mkF m 35 #[.val (.int p0), .val (.int p1), .val (.long v0), .second, .val (.long v1), .second, .val (.long v2), .second, .val (.long v3), .second, .val (.int (2 : Int32)), .val (.ref aa), .unset, .unset, .unset, .unset, .unset, .unset, .unset] [(.long v1), (.int (1 : Int32)), (.ref aa)]))
    obtain ⟨T112, h112, X112, e112, W112, v112, st112⟩ := own_stJ X111 hx hZ e111 v111 (j := (1 : Int32)) 1 (by decide) (by simp) (by decide) (g := (mkF m 35 #[.val (.int p0), .val (.int p1), .val (.long v0), .second, .val (.long v1), .second, .val (.long v2), .second, .val (.long v3), .second, .val (.int (2 : Int32)), .val (.ref aa), .unset, .unset, .unset, .unset, .unset, .unset, .unset] [(.long v1), (.int (1 : Int32)), (.ref aa)])) rfl rfl (hb hby at_35)
    replace v112 : Arv Z h112 aa k110 .long (2 : Int32) [(.long v0), (.long v1)] (.long 0) := v112
    have f112_1 := f111_1.wr W112
    have O112 := O111.wr W112 w110
    have Z112 : n0 ≤ h112.size := by rw [W112.size]; exact Z111
    have N112 := Fr.snoc X112 N111 w110
    refine own_go st112 ?_
    show own_E _ _ _ _ _ _ _ (T112.setTop (mkF m 36 #[.val (.int p0), .val (.int p1), .val (.long v0), .second, .val (.long v1), .second, .val (.long v2), .second, .val (.long v3), .second, .val (.int (2 : Int32)), .val (.ref aa), .unset, .unset, .unset, .unset, .unset, .unset, .unset] []))
    refine own_go (fun _ k => XS.iload X112.here hx rfl (hb hby at_36) rfl k) ?_
    show own_E _ _ _ _ _ _ _ (T112.setTop (mkF m 38 #[.val (.int p0), .val (.int p1), .val (.long v0), .second, .val (.long v1), .second, .val (.long v2), .second, .val (.long v3), .second, .val (.int (2 : Int32)), .val (.ref aa), .unset, .unset, .unset, .unset, .unset, .unset, .unset] [(.int (2 : Int32))]))
    refine own_go (fun _ k => XT.iconstV X112.here hx rfl (2 : Int32) (hb hby at_38) (by decide) k) ?_
    show own_E _ _ _ _ _ _ _ (T112.setTop (mkF m 39 #[.val (.int p0), .val (.int p1), .val (.long v0), .second, .val (.long v1), .second, .val (.long v2), .second, .val (.long v3), .second, .val (.int (2 : Int32)), .val (.ref aa), .unset, .unset, .unset, .unset, .unset, .unset, .unset] [(.int (2 : Int32)), (.int (2 : Int32))]))
    refine own_go (fun _ k => XS.icmpYes X112.here hx rfl (pc0 := 39) (pc' := 48) rfl (hb hby at_39) rfl (by decide) (by decide) (by decide) k) ?_
    show own_E _ _ _ _ _ _ _ (T112.setTop (mkF m 48 #[.val (.int p0), .val (.int p1), .val (.long v0), .second, .val (.long v1), .second, .val (.long v2), .second, .val (.long v3), .second, .val (.int (2 : Int32)), .val (.ref aa), .unset, .unset, .unset, .unset, .unset, .unset, .unset] []))
    refine own_go (fun _ k => XS.iload X112.here hx rfl (hb hby at_48) rfl k) ?_
    show own_E _ _ _ _ _ _ _ (T112.setTop (mkF m 50 #[.val (.int p0), .val (.int p1), .val (.long v0), .second, .val (.long v1), .second, .val (.long v2), .second, .val (.long v3), .second, .val (.int (2 : Int32)), .val (.ref aa), .unset, .unset, .unset, .unset, .unset, .unset, .unset] [(.int (2 : Int32))]))
    refine own_go (fun _ k => XT.iconstV X112.here hx rfl (3 : Int32) (hb hby at_50) (by decide) k) ?_
    show own_E _ _ _ _ _ _ _ (T112.setTop (mkF m 51 #[.val (.int p0), .val (.int p1), .val (.long v0), .second, .val (.long v1), .second, .val (.long v2), .second, .val (.long v3), .second, .val (.int (2 : Int32)), .val (.ref aa), .unset, .unset, .unset, .unset, .unset, .unset, .unset] [(.int (3 : Int32)), (.int (2 : Int32))]))
    refine own_go (fun _ k => XS.icmpYes X112.here hx rfl (pc0 := 51) (pc' := 60) rfl (hb hby at_51) rfl (by decide) (by decide) (by decide) k) ?_
    show own_E _ _ _ _ _ _ _ (T112.setTop (mkF m 60 #[.val (.int p0), .val (.int p1), .val (.long v0), .second, .val (.long v1), .second, .val (.long v2), .second, .val (.long v3), .second, .val (.int (2 : Int32)), .val (.ref aa), .unset, .unset, .unset, .unset, .unset, .unset, .unset] []))
    exact rest60 2 T112 h112 _ aa _ (by simp) X112 e112 O112 Z112 N112 (own_re v112 (fun i hi => own_gd2 i hi)) f112_1 w110
  ·
    show own_E _ _ _ _ _ _ _ (s₁.setTop (mkF m 6 #[.val (.int p0), .val (.int p1), .val (.long v0), .second, .val (.long v1), .second, .val (.long v2), .second, .val (.long v3), .second, .unset, .unset, .unset, .unset, .unset, .unset, .unset, .unset, .unset] [(.int (3 : Int32))]))
    refine own_go (fun _ k => XS.istore X0.here hx rfl (hb hby at_6) rfl (l' := #[.val (.int p0), .val (.int p1), .val (.long v0), .second, .val (.long v1), .second, .val (.long v2), .second, .val (.long v3), .second, .val (.int (3 : Int32)), .unset, .unset, .unset, .unset, .unset, .unset, .unset, .unset]) rfl k) ?_
    show own_E _ _ _ _ _ _ _ (s₁.setTop (mkF m 8 #[.val (.int p0), .val (.int p1), .val (.long v0), .second, .val (.long v1), .second, .val (.long v2), .second, .val (.long v3), .second, .val (.int (3 : Int32)), .unset, .unset, .unset, .unset, .unset, .unset, .unset, .unset] []))
    refine own_go (fun _ k => XS.iload X0.here hx rfl (hb hby at_8) rfl k) ?_
    show own_E _ _ _ _ _ _ _ (s₁.setTop (mkF m 10 #[.val (.int p0), .val (.int p1), .val (.long v0), .second, .val (.long v1), .second, .val (.long v2), .second, .val (.long v3), .second, .val (.int (3 : Int32)), .unset, .unset, .unset, .unset, .unset, .unset, .unset, .unset] [(.int (3 : Int32))]))
    obtain ⟨T113, h113, k113, X113, e113, E113, A113, B113, st113⟩ := newPE X0 hx hZ (hw _ (List.mem_of_getElem? (i := 0) rfl)) e0 (g := (mkF m 10 #[.val (.int p0), .val (.int p1), .val (.long v0), .second, .val (.long v1), .second, .val (.long v2), .second, .val (.long v3), .second, .val (.int (3 : Int32)), .unset, .unset, .unset, .unset, .unset, .unset, .unset, .unset] [(.int (3 : Int32))])) rfl (hb hby at_10) rfl (by decide) (cap := 4) (by decide) (by decide) (by decide) (by decide) (ad := "[J") (by decide)
    obtain ⟨aa, g113⟩ : ∃ z, z = h0.size := ⟨_, rfl⟩
    rw [← g113] at A113 B113 st113
    have w113 : n0 ≤ aa := by rw [g113]; exact Z0
    have v113 : Arv Z h113 aa k113 .long (3 : Int32) [(.long 0), (.long 0), (.long 0)] (.long 0) := own_arvNew (n := 3) A113 (by decide)
    have O113 := O0.ext E113
    have Z113 := Nat.le_trans Z0 E113.1
    refine own_go st113 ?_
    show own_E _ _ _ _ _ _ _ (T113.setTop (mkF m 12 #[.val (.int p0), .val (.int p1), .val (.long v0), .second, .val (.long v1), .second, .val (.long v2), .second, .val (.long v3), .second, .val (.int (3 : Int32)), .unset, .unset, .unset, .unset, .unset, .unset, .unset, .unset] [(.ref aa)]))
    refine own_go (fun _ k => XS.astore X113.here hx rfl (hb hby at_12) rfl rfl (l' := #[.val (.int p0), .val (.int p1), .val (.long v0), .second, .val (.long v1), .second, .val (.long v2), .second, .val (.long v3), .second, .val (.int (3 : Int32)), .val (.ref aa), .unset, .unset, .unset, .unset, .unset, .unset, .unset]) rfl k) ?_
    show own_E _ _ _ _ _ _ _ (T113.setTop (mkF m 14 #[.val (.int p0), .val (.int p1), .val (.long v0), .second, .val (.long v1), .second, .val (.long v2), .second, .val (.long v3), .second, .val (.int (3 : Int32)), .val (.ref aa), .unset, .unset, .unset, .unset, .unset, .unset, .unset] []))
    refine own_go (fun _ k => XS.iload X113.here hx rfl (hb hby at_14) rfl k) ?_
    show own_E _ _ _ _ _ _ _ (T113.setTop (mkF m 16 #[.val (.int p0), .val (.int p1), .val (.long v0), .second, .val (.long v1), .second, .val (.long v2), .second, .val (.long v3), .second, .val (.int (3 : Int32)), .val (.ref aa), .unset, .unset, .unset, .unset, .unset, .unset, .unset] [(.int (3 : Int32))]))
    refine own_go (fun _ k => XS.ifNo X113.here hx rfl (hb hby at_16) rfl (by decide) k) ?_
    show own_E _ _ _ _ _ _ _ (T113.setTop (mkF m 19 #[.val (.int p0), .val (.int p1), .val (.long v0), .second, .val (.long v1), .second, .val (.long v2), .second, .val (.long v3), .second, .val (.int (3 : Int32)), .val (.ref aa), .unset, .unset, .unset, .unset, .unset, .unset, .unset] []))
    refine own_go (fun _ k => XS.aload X113.here hx rfl (hb hby at_19) rfl rfl k) ?_
    show own_E _ _ _ _ _ _ _ (T113.setTop (mkF m 21 #[.val (.int p0), .val (.int p1), .val (.long v0), .second, .val (.long v1), .second, .val (.long v2), .second, .val (.long v3), .second, .val (.int (3 : Int32)), .val (.ref aa), .unset, .unset, .unset, .unset, .unset, .unset, .unset] [(.ref aa)]))
    refine own_go (fun _ k => XT.iconstV X113.here hx rfl (0 : Int32) (hb hby at_21) (by decide) k) ?_
    show own_E _ _ _ _ _ _ _ (T113.setTop (mkF m 22 #[.val (.int p0), .val (.int p1), .val (.long v0), .second, .val (.long v1), .second, .val (.long v2), .second, .val (.long v3), .second, .val (.int (3 : Int32)), .val (.ref aa), .unset, .unset, .unset, .unset, .unset, .unset, .unset] [(.int (0 : Int32)), (.ref aa)]))
    refine own_go (fun _ k => XT.lloadN X113.here hx rfl (hb hby at_22) rfl k) ?_
    show own_E _ _ _ _ _ _ _ (T113.setTop (mkF m 23 #[.val (.int p0), .val (.int p1), .val (.long v0), .second, .val (.long v1), .second, .val (.long v2), .second, .val (.long v3), .second, .val (.int (3 : Int32)), .val (.ref aa), .unset, .unset, .unset, .unset, .unset, .unset, .unset] [(.long v0), (.int (0 : Int32)), (.ref aa)]))
    obtain ⟨T114, h114, X114, e114, W114, v114, st114⟩ := own_stJ X113 hx hZ e113 v113 (j := (0 : Int32)) 0 (by decide) (by simp) (by decide) (g := (mkF m 23 #[.val (.int p0), .val (.int p1), .val (.long v0), .second, .val (.long v1), .second, .val (.long v2), .second, .val (.long v3), .second, .val (.int (3 : Int32)), .val (.ref aa), .unset, .unset, .unset, .unset, .unset, .unset, .unset] [(.long v0), (.int (0 : Int32)), (.ref aa)])) rfl rfl (hb hby at_23)
    replace v114 : Arv Z h114 aa k113 .long (3 : Int32) [(.long v0), (.long 0), (.long 0)] (.long 0) := v114
    have f114_1 := B113.wr W114
    have O114 := O113.wr W114 w113
    have Z114 : n0 ≤ h114.size := by rw [W114.size]; exact Z113
    have N114 := Fr.snoc X114 N0 w113
    refine own_go st114 ?_
    show own_E _ _ _ _ _ _ _ (T114.setTop (mkF m 24 #[.val (.int p0), .val (.int p1), .val (.long v0), .second, .val (.long v1), .second, .val (.long v2), .second, .val (.long v3), .second, .val (.int (3 : Int32)), .val (.ref aa), .unset, .unset, .unset, .unset, .unset, .unset, .unset] []))
    refine own_go (fun _ k => XS.iload X114.here hx rfl (hb hby at_24) rfl k) ?_
    show own_E _ _ _ _ _ _ _ (T114.setTop (mkF m 26 #[.val (.int p0), .val (.int p1), .val (.long v0), .second, .val (.long v1), .second, .val (.long v2), .second, .val (.long v3), .second, .val (.int (3 : Int32)), .val (.ref aa), .unset, .unset, .unset, .unset, .unset, .unset, .unset] [(.int (3 : Int32))]))
    refine own_go (fun _ k => XT.iconstV X114.here hx rfl (1 : Int32) (hb hby at_26) (by decide) k) ?_
    show own_E _ _ _ _ _ _ _ (T114.setTop (mkF m 27 #[.val (.int p0), .val (.int p1), .val (.long v0), .second, .val (.long v1), .second, .val (.long v2), .second, .val (.long v3), .second, .val (.int (3 : Int32)), .val (.ref aa), .unset, .unset, .unset, .unset, .unset, .unset, .unset] [(.int (1 : Int32)), (.int (3 : Int32))]))
    refine own_go (fun _ k => XS.icmpNo X114.here hx rfl (hb hby at_27) rfl (by decide) k) ?_
    show own_E _ _ _ _ _ _ _ (T114.setTop (mkF m 30 #[.val (.int p0), .val (.int p1), .val (.long v0), .second, .val (.long v1), .second, .val (.long v2), .second, .val (.long v3), .second, .val (.int (3 : Int32)), .val (.ref aa), .unset, .unset, .unset, .unset, .unset, .unset, .unset] []))
    refine own_go (fun _ k => XS.aload X114.here hx rfl (hb hby at_30) rfl rfl k) ?_
    show own_E _ _ _ _ _ _ _ (T114.setTop (mkF m 32 #[.val (.int p0), .val (.int p1), .val (.long v0), .second, .val (.long v1), .second, .val (.long v2), .second, .val (.long v3), .second, .val (.int (3 : Int32)), .val (.ref aa), .unset, .unset, .unset, .unset, .unset, .unset, .unset] [(.ref aa)]))
    refine own_go (fun _ k => XT.iconstV X114.here hx rfl (1 : Int32) (hb hby at_32) (by decide) k) ?_
    show own_E _ _ _ _ _ _ _ (T114.setTop (mkF m 33 #[.val (.int p0), .val (.int p1), .val (.long v0), .second, .val (.long v1), .second, .val (.long v2), .second, .val (.long v3), .second, .val (.int (3 : Int32)), .val (.ref aa), .unset, .unset, .unset, .unset, .unset, .unset, .unset] [(.int (1 : Int32)), (.ref aa)]))
    refine own_go (fun _ k => XT.lload X114.here hx rfl (hb hby at_33) rfl k) ?_
    show own_E _ _ _ _ _ _ _ (T114.setTop (mkF m 35 #[.val (.int p0), .val (.int p1), .val (.long v0), .second, .val (.long v1), .second, .val (.long v2), .second, .val (.long v3), .second, .val (.int (3 : Int32)), .val (.ref aa), .unset, .unset, .unset, .unset, .unset, .unset, .unset] [(.long v1), (.int (1 : Int32)), (.ref aa)]))
    obtain ⟨T115, h115, X115, e115, W115, v115, st115⟩ := own_stJ X114 hx hZ e114 v114 (j := (1 : Int32)) 1 (by decide) (by simp) (by decide) (g := (mkF m 35 #[.val (.int p0), .val (.int p1), .val (.long v0), .second, .val (.long v1), .second, .val (.long v2), .second, .val (.long v3), .second, .val (.int (3 : Int32)), .val (.ref aa), .unset, .unset, .unset, .unset, .unset, .unset, .unset] [(.long v1), (.int (1 : Int32)), (.ref aa)])) rfl rfl (hb hby at_35)
    replace v115 : Arv Z h115 aa k113 .long (3 : Int32) [(.long v0), (.long v1), (.long 0)] (.long 0) := v115
    have f115_1 := f114_1.wr W115
    have O115 := O114.wr W115 w113
    have Z115 : n0 ≤ h115.size := by rw [W115.size]; exact Z114
    have N115 := Fr.snoc X115 N114 w113
    refine own_go st115 ?_
    show own_E _ _ _ _ _ _ _ (T115.setTop (mkF m 36 #[.val (.int p0), .val (.int p1), .val (.long v0), .second, .val (.long v1), .second, .val (.long v2), .second, .val (.long v3), .second, .val (.int (3 : Int32)), .val (.ref aa), .unset, .unset, .unset, .unset, .unset, .unset, .unset] []))
    refine own_go (fun _ k => XS.iload X115.here hx rfl (hb hby at_36) rfl k) ?_
    show own_E _ _ _ _ _ _ _ (T115.setTop (mkF m 38 #[.val (.int p0), .val (.int p1), .val (.long v0), .second, .val (.long v1), .second, .val (.long v2), .second, .val (.long v3), .second, .val (.int (3 : Int32)), .val (.ref aa), .unset, .unset, .unset, .unset, .unset, .unset, .unset] [(.int (3 : Int32))]))
    refine own_go (fun _ k => XT.iconstV X115.here hx rfl (2 : Int32) (hb hby at_38) (by decide) k) ?_
    show own_E _ _ _ _ _ _ _ (T115.setTop (mkF m 39 #[.val (.int p0), .val (.int p1), .val (.long v0), .second, .val (.long v1), .second, .val (.long v2), .second, .val (.long v3), .second, .val (.int (3 : Int32)), .val (.ref aa), .unset, .unset, .unset, .unset, .unset, .unset, .unset] [(.int (2 : Int32)), (.int (3 : Int32))]))
    refine own_go (fun _ k => XS.icmpNo X115.here hx rfl (hb hby at_39) rfl (by decide) k) ?_
    show own_E _ _ _ _ _ _ _ (T115.setTop (mkF m 42 #[.val (.int p0), .val (.int p1), .val (.long v0), .second, .val (.long v1), .second, .val (.long v2), .second, .val (.long v3), .second, .val (.int (3 : Int32)), .val (.ref aa), .unset, .unset, .unset, .unset, .unset, .unset, .unset] []))
    refine own_go (fun _ k => XS.aload X115.here hx rfl (hb hby at_42) rfl rfl k) ?_
    show own_E _ _ _ _ _ _ _ (T115.setTop (mkF m 44 #[.val (.int p0), .val (.int p1), .val (.long v0), .second, .val (.long v1), .second, .val (.long v2), .second, .val (.long v3), .second, .val (.int (3 : Int32)), .val (.ref aa), .unset, .unset, .unset, .unset, .unset, .unset, .unset] [(.ref aa)]))
    refine own_go (fun _ k => XT.iconstV X115.here hx rfl (2 : Int32) (hb hby at_44) (by decide) k) ?_
    show own_E _ _ _ _ _ _ _ (T115.setTop (mkF m 45 #[.val (.int p0), .val (.int p1), .val (.long v0), .second, .val (.long v1), .second, .val (.long v2), .second, .val (.long v3), .second, .val (.int (3 : Int32)), .val (.ref aa), .unset, .unset, .unset, .unset, .unset, .unset, .unset] [(.int (2 : Int32)), (.ref aa)]))
    refine own_go (fun _ k => XT.lload X115.here hx rfl (hb hby at_45) rfl k) ?_
    show own_E _ _ _ _ _ _ _ (T115.setTop (mkF m 47 #[.val (.int p0), .val (.int p1), .val (.long v0), .second, .val (.long v1), .second, .val (.long v2), .second, .val (.long v3), .second, .val (.int (3 : Int32)), .val (.ref aa), .unset, .unset, .unset, .unset, .unset, .unset, .unset] [(.long v2), (.int (2 : Int32)), (.ref aa)]))
    obtain ⟨T116, h116, X116, e116, W116, v116, st116⟩ := own_stJ X115 hx hZ e115 v115 (j := (2 : Int32)) 2 (by decide) (by simp) (by decide) (g := (mkF m 47 #[.val (.int p0), .val (.int p1), .val (.long v0), .second, .val (.long v1), .second, .val (.long v2), .second, .val (.long v3), .second, .val (.int (3 : Int32)), .val (.ref aa), .unset, .unset, .unset, .unset, .unset, .unset, .unset] [(.long v2), (.int (2 : Int32)), (.ref aa)])) rfl rfl (hb hby at_47)
    replace v116 : Arv Z h116 aa k113 .long (3 : Int32) [(.long v0), (.long v1), (.long v2)] (.long 0) := v116
    have f116_1 := f115_1.wr W116
    have O116 := O115.wr W116 w113
    have Z116 : n0 ≤ h116.size := by rw [W116.size]; exact Z115
    have N116 := Fr.snoc X116 N115 w113
    refine own_go st116 ?_
    show own_E _ _ _ _ _ _ _ (T116.setTop (mkF m 48 #[.val (.int p0), .val (.int p1), .val (.long v0), .second, .val (.long v1), .second, .val (.long v2), .second, .val (.long v3), .second, .val (.int (3 : Int32)), .val (.ref aa), .unset, .unset, .unset, .unset, .unset, .unset, .unset] []))
    refine own_go (fun _ k => XS.iload X116.here hx rfl (hb hby at_48) rfl k) ?_
    show own_E _ _ _ _ _ _ _ (T116.setTop (mkF m 50 #[.val (.int p0), .val (.int p1), .val (.long v0), .second, .val (.long v1), .second, .val (.long v2), .second, .val (.long v3), .second, .val (.int (3 : Int32)), .val (.ref aa), .unset, .unset, .unset, .unset, .unset, .unset, .unset] [(.int (3 : Int32))]))
    refine own_go (fun _ k => XT.iconstV X116.here hx rfl (3 : Int32) (hb hby at_50) (by decide) k) ?_
    show own_E _ _ _ _ _ _ _ (T116.setTop (mkF m 51 #[.val (.int p0), .val (.int p1), .val (.long v0), .second, .val (.long v1), .second, .val (.long v2), .second, .val (.long v3), .second, .val (.int (3 : Int32)), .val (.ref aa), .unset, .unset, .unset, .unset, .unset, .unset, .unset] [(.int (3 : Int32)), (.int (3 : Int32))]))
    refine own_go (fun _ k => XS.icmpYes X116.here hx rfl (pc0 := 51) (pc' := 60) rfl (hb hby at_51) rfl (by decide) (by decide) (by decide) k) ?_
    show own_E _ _ _ _ _ _ _ (T116.setTop (mkF m 60 #[.val (.int p0), .val (.int p1), .val (.long v0), .second, .val (.long v1), .second, .val (.long v2), .second, .val (.long v3), .second, .val (.int (3 : Int32)), .val (.ref aa), .unset, .unset, .unset, .unset, .unset, .unset, .unset] []))
    exact rest60 3 T116 h116 _ aa _ (by simp) X116 e116 O116 Z116 N116 (own_re v116 (fun i hi => own_gd3 i hi)) f116_1 w113
  ·
    show own_E _ _ _ _ _ _ _ (s₁.setTop (mkF m 6 #[.val (.int p0), .val (.int p1), .val (.long v0), .second, .val (.long v1), .second, .val (.long v2), .second, .val (.long v3), .second, .unset, .unset, .unset, .unset, .unset, .unset, .unset, .unset, .unset] [(.int (4 : Int32))]))
    refine own_go (fun _ k => XS.istore X0.here hx rfl (hb hby at_6) rfl (l' := #[.val (.int p0), .val (.int p1), .val (.long v0), .second, .val (.long v1), .second, .val (.long v2), .second, .val (.long v3), .second, .val (.int (4 : Int32)), .unset, .unset, .unset, .unset, .unset, .unset, .unset, .unset]) rfl k) ?_
    show own_E _ _ _ _ _ _ _ (s₁.setTop (mkF m 8 #[.val (.int p0), .val (.int p1), .val (.long v0), .second, .val (.long v1), .second, .val (.long v2), .second, .val (.long v3), .second, .val (.int (4 : Int32)), .unset, .unset, .unset, .unset, .unset, .unset, .unset, .unset] []))
    refine own_go (fun _ k => XS.iload X0.here hx rfl (hb hby at_8) rfl k) ?_
    show own_E _ _ _ _ _ _ _ (s₁.setTop (mkF m 10 #[.val (.int p0), .val (.int p1), .val (.long v0), .second, .val (.long v1), .second, .val (.long v2), .second, .val (.long v3), .second, .val (.int (4 : Int32)), .unset, .unset, .unset, .unset, .unset, .unset, .unset, .unset] [(.int (4 : Int32))]))
    obtain ⟨T117, h117, k117, X117, e117, E117, A117, B117, st117⟩ := newPE X0 hx hZ (hw _ (List.mem_of_getElem? (i := 0) rfl)) e0 (g := (mkF m 10 #[.val (.int p0), .val (.int p1), .val (.long v0), .second, .val (.long v1), .second, .val (.long v2), .second, .val (.long v3), .second, .val (.int (4 : Int32)), .unset, .unset, .unset, .unset, .unset, .unset, .unset, .unset] [(.int (4 : Int32))])) rfl (hb hby at_10) rfl (by decide) (cap := 4) (by decide) (by decide) (by decide) (by decide) (ad := "[J") (by decide)
    obtain ⟨aa, g117⟩ : ∃ z, z = h0.size := ⟨_, rfl⟩
    rw [← g117] at A117 B117 st117
    have w117 : n0 ≤ aa := by rw [g117]; exact Z0
    have v117 : Arv Z h117 aa k117 .long (4 : Int32) [(.long 0), (.long 0), (.long 0), (.long 0)] (.long 0) := own_arvNew (n := 4) A117 (by decide)
    have O117 := O0.ext E117
    have Z117 := Nat.le_trans Z0 E117.1
    refine own_go st117 ?_
    show own_E _ _ _ _ _ _ _ (T117.setTop (mkF m 12 #[.val (.int p0), .val (.int p1), .val (.long v0), .second, .val (.long v1), .second, .val (.long v2), .second, .val (.long v3), .second, .val (.int (4 : Int32)), .unset, .unset, .unset, .unset, .unset, .unset, .unset, .unset] [(.ref aa)]))
    refine own_go (fun _ k => XS.astore X117.here hx rfl (hb hby at_12) rfl rfl (l' := #[.val (.int p0), .val (.int p1), .val (.long v0), .second, .val (.long v1), .second, .val (.long v2), .second, .val (.long v3), .second, .val (.int (4 : Int32)), .val (.ref aa), .unset, .unset, .unset, .unset, .unset, .unset, .unset]) rfl k) ?_
    show own_E _ _ _ _ _ _ _ (T117.setTop (mkF m 14 #[.val (.int p0), .val (.int p1), .val (.long v0), .second, .val (.long v1), .second, .val (.long v2), .second, .val (.long v3), .second, .val (.int (4 : Int32)), .val (.ref aa), .unset, .unset, .unset, .unset, .unset, .unset, .unset] []))
    refine own_go (fun _ k => XS.iload X117.here hx rfl (hb hby at_14) rfl k) ?_
    show own_E _ _ _ _ _ _ _ (T117.setTop (mkF m 16 #[.val (.int p0), .val (.int p1), .val (.long v0), .second, .val (.long v1), .second, .val (.long v2), .second, .val (.long v3), .second, .val (.int (4 : Int32)), .val (.ref aa), .unset, .unset, .unset, .unset, .unset, .unset, .unset] [(.int (4 : Int32))]))
    refine own_go (fun _ k => XS.ifNo X117.here hx rfl (hb hby at_16) rfl (by decide) k) ?_
    show own_E _ _ _ _ _ _ _ (T117.setTop (mkF m 19 #[.val (.int p0), .val (.int p1), .val (.long v0), .second, .val (.long v1), .second, .val (.long v2), .second, .val (.long v3), .second, .val (.int (4 : Int32)), .val (.ref aa), .unset, .unset, .unset, .unset, .unset, .unset, .unset] []))
    refine own_go (fun _ k => XS.aload X117.here hx rfl (hb hby at_19) rfl rfl k) ?_
    show own_E _ _ _ _ _ _ _ (T117.setTop (mkF m 21 #[.val (.int p0), .val (.int p1), .val (.long v0), .second, .val (.long v1), .second, .val (.long v2), .second, .val (.long v3), .second, .val (.int (4 : Int32)), .val (.ref aa), .unset, .unset, .unset, .unset, .unset, .unset, .unset] [(.ref aa)]))
    refine own_go (fun _ k => XT.iconstV X117.here hx rfl (0 : Int32) (hb hby at_21) (by decide) k) ?_
    show own_E _ _ _ _ _ _ _ (T117.setTop (mkF m 22 #[.val (.int p0), .val (.int p1), .val (.long v0), .second, .val (.long v1), .second, .val (.long v2), .second, .val (.long v3), .second, .val (.int (4 : Int32)), .val (.ref aa), .unset, .unset, .unset, .unset, .unset, .unset, .unset] [(.int (0 : Int32)), (.ref aa)]))
    refine own_go (fun _ k => XT.lloadN X117.here hx rfl (hb hby at_22) rfl k) ?_
    show own_E _ _ _ _ _ _ _ (T117.setTop (mkF m 23 #[.val (.int p0), .val (.int p1), .val (.long v0), .second, .val (.long v1), .second, .val (.long v2), .second, .val (.long v3), .second, .val (.int (4 : Int32)), .val (.ref aa), .unset, .unset, .unset, .unset, .unset, .unset, .unset] [(.long v0), (.int (0 : Int32)), (.ref aa)]))
    obtain ⟨T118, h118, X118, e118, W118, v118, st118⟩ := own_stJ X117 hx hZ e117 v117 (j := (0 : Int32)) 0 (by decide) (by simp) (by decide) (g := (mkF m 23 #[.val (.int p0), .val (.int p1), .val (.long v0), .second, .val (.long v1), .second, .val (.long v2), .second, .val (.long v3), .second, .val (.int (4 : Int32)), .val (.ref aa), .unset, .unset, .unset, .unset, .unset, .unset, .unset] [(.long v0), (.int (0 : Int32)), (.ref aa)])) rfl rfl (hb hby at_23)
    replace v118 : Arv Z h118 aa k117 .long (4 : Int32) [(.long v0), (.long 0), (.long 0), (.long 0)] (.long 0) := v118
    have f118_1 := B117.wr W118
    have O118 := O117.wr W118 w117
    have Z118 : n0 ≤ h118.size := by rw [W118.size]; exact Z117
    have N118 := Fr.snoc X118 N0 w117
    refine own_go st118 ?_
    show own_E _ _ _ _ _ _ _ (T118.setTop (mkF m 24 #[.val (.int p0), .val (.int p1), .val (.long v0), .second, .val (.long v1), .second, .val (.long v2), .second, .val (.long v3), .second, .val (.int (4 : Int32)), .val (.ref aa), .unset, .unset, .unset, .unset, .unset, .unset, .unset] []))
    refine own_go (fun _ k => XS.iload X118.here hx rfl (hb hby at_24) rfl k) ?_
    show own_E _ _ _ _ _ _ _ (T118.setTop (mkF m 26 #[.val (.int p0), .val (.int p1), .val (.long v0), .second, .val (.long v1), .second, .val (.long v2), .second, .val (.long v3), .second, .val (.int (4 : Int32)), .val (.ref aa), .unset, .unset, .unset, .unset, .unset, .unset, .unset] [(.int (4 : Int32))]))
    refine own_go (fun _ k => XT.iconstV X118.here hx rfl (1 : Int32) (hb hby at_26) (by decide) k) ?_
    show own_E _ _ _ _ _ _ _ (T118.setTop (mkF m 27 #[.val (.int p0), .val (.int p1), .val (.long v0), .second, .val (.long v1), .second, .val (.long v2), .second, .val (.long v3), .second, .val (.int (4 : Int32)), .val (.ref aa), .unset, .unset, .unset, .unset, .unset, .unset, .unset] [(.int (1 : Int32)), (.int (4 : Int32))]))
    refine own_go (fun _ k => XS.icmpNo X118.here hx rfl (hb hby at_27) rfl (by decide) k) ?_
    show own_E _ _ _ _ _ _ _ (T118.setTop (mkF m 30 #[.val (.int p0), .val (.int p1), .val (.long v0), .second, .val (.long v1), .second, .val (.long v2), .second, .val (.long v3), .second, .val (.int (4 : Int32)), .val (.ref aa), .unset, .unset, .unset, .unset, .unset, .unset, .unset] []))
    refine own_go (fun _ k => XS.aload X118.here hx rfl (hb hby at_30) rfl rfl k) ?_
    show own_E _ _ _ _ _ _ _ (T118.setTop (mkF m 32 #[.val (.int p0), .val (.int p1), .val (.long v0), .second, .val (.long v1), .second, .val (.long v2), .second, .val (.long v3), .second, .val (.int (4 : Int32)), .val (.ref aa), .unset, .unset, .unset, .unset, .unset, .unset, .unset] [(.ref aa)]))
    refine own_go (fun _ k => XT.iconstV X118.here hx rfl (1 : Int32) (hb hby at_32) (by decide) k) ?_
    show own_E _ _ _ _ _ _ _ (T118.setTop (mkF m 33 #[.val (.int p0), .val (.int p1), .val (.long v0), .second, .val (.long v1), .second, .val (.long v2), .second, .val (.long v3), .second, .val (.int (4 : Int32)), .val (.ref aa), .unset, .unset, .unset, .unset, .unset, .unset, .unset] [(.int (1 : Int32)), (.ref aa)]))
    refine own_go (fun _ k => XT.lload X118.here hx rfl (hb hby at_33) rfl k) ?_
    show own_E _ _ _ _ _ _ _ (T118.setTop (mkF m 35 #[.val (.int p0), .val (.int p1), .val (.long v0), .second, .val (.long v1), .second, .val (.long v2), .second, .val (.long v3), .second, .val (.int (4 : Int32)), .val (.ref aa), .unset, .unset, .unset, .unset, .unset, .unset, .unset] [(.long v1), (.int (1 : Int32)), (.ref aa)]))
    obtain ⟨T119, h119, X119, e119, W119, v119, st119⟩ := own_stJ X118 hx hZ e118 v118 (j := (1 : Int32)) 1 (by decide) (by simp) (by decide) (g := (mkF m 35 #[.val (.int p0), .val (.int p1), .val (.long v0), .second, .val (.long v1), .second, .val (.long v2), .second, .val (.long v3), .second, .val (.int (4 : Int32)), .val (.ref aa), .unset, .unset, .unset, .unset, .unset, .unset, .unset] [(.long v1), (.int (1 : Int32)), (.ref aa)])) rfl rfl (hb hby at_35)
    replace v119 : Arv Z h119 aa k117 .long (4 : Int32) [(.long v0), (.long v1), (.long 0), (.long 0)] (.long 0) := v119
    have f119_1 := f118_1.wr W119
    have O119 := O118.wr W119 w117
    have Z119 : n0 ≤ h119.size := by rw [W119.size]; exact Z118
    have N119 := Fr.snoc X119 N118 w117
    refine own_go st119 ?_
    show own_E _ _ _ _ _ _ _ (T119.setTop (mkF m 36 #[.val (.int p0), .val (.int p1), .val (.long v0), .second, .val (.long v1), .second, .val (.long v2), .second, .val (.long v3), .second, .val (.int (4 : Int32)), .val (.ref aa), .unset, .unset, .unset, .unset, .unset, .unset, .unset] []))
    refine own_go (fun _ k => XS.iload X119.here hx rfl (hb hby at_36) rfl k) ?_
    show own_E _ _ _ _ _ _ _ (T119.setTop (mkF m 38 #[.val (.int p0), .val (.int p1), .val (.long v0), .second, .val (.long v1), .second, .val (.long v2), .second, .val (.long v3), .second, .val (.int (4 : Int32)), .val (.ref aa), .unset, .unset, .unset, .unset, .unset, .unset, .unset] [(.int (4 : Int32))]))
    refine own_go (fun _ k => XT.iconstV X119.here hx rfl (2 : Int32) (hb hby at_38) (by decide) k) ?_
    show own_E _ _ _ _ _ _ _ (T119.setTop (mkF m 39 #[.val (.int p0), .val (.int p1), .val (.long v0), .second, .val (.long v1), .second, .val (.long v2), .second, .val (.long v3), .second, .val (.int (4 : Int32)), .val (.ref aa), .unset, .unset, .unset, .unset, .unset, .unset, .unset] [(.int (2 : Int32)), (.int (4 : Int32))]))
    refine own_go (fun _ k => XS.icmpNo X119.here hx rfl (hb hby at_39) rfl (by decide) k) ?_
    show own_E _ _ _ _ _ _ _ (T119.setTop (mkF m 42 #[.val (.int p0), .val (.int p1), .val (.long v0), .second, .val (.long v1), .second, .val (.long v2), .second, .val (.long v3), .second, .val (.int (4 : Int32)), .val (.ref aa), .unset, .unset, .unset, .unset, .unset, .unset, .unset] []))
    refine own_go (fun _ k => XS.aload X119.here hx rfl (hb hby at_42) rfl rfl k) ?_
    show own_E _ _ _ _ _ _ _ (T119.setTop (mkF m 44 #[.val (.int p0), .val (.int p1), .val (.long v0), .second, .val (.long v1), .second, .val (.long v2), .second, .val (.long v3), .second, .val (.int (4 : Int32)), .val (.ref aa), .unset, .unset, .unset, .unset, .unset, .unset, .unset] [(.ref aa)]))
    refine own_go (fun _ k => XT.iconstV X119.here hx rfl (2 : Int32) (hb hby at_44) (by decide) k) ?_
    show own_E _ _ _ _ _ _ _ (T119.setTop (mkF m 45 #[.val (.int p0), .val (.int p1), .val (.long v0), .second, .val (.long v1), .second, .val (.long v2), .second, .val (.long v3), .second, .val (.int (4 : Int32)), .val (.ref aa), .unset, .unset, .unset, .unset, .unset, .unset, .unset] [(.int (2 : Int32)), (.ref aa)]))
    refine own_go (fun _ k => XT.lload X119.here hx rfl (hb hby at_45) rfl k) ?_
    show own_E _ _ _ _ _ _ _ (T119.setTop (mkF m 47 #[.val (.int p0), .val (.int p1), .val (.long v0), .second, .val (.long v1), .second, .val (.long v2), .second, .val (.long v3), .second, .val (.int (4 : Int32)), .val (.ref aa), .unset, .unset, .unset, .unset, .unset, .unset, .unset] [(.long v2), (.int (2 : Int32)), (.ref aa)]))
    obtain ⟨T120, h120, X120, e120, W120, v120, st120⟩ := own_stJ X119 hx hZ e119 v119 (j := (2 : Int32)) 2 (by decide) (by simp) (by decide) (g := (mkF m 47 #[.val (.int p0), .val (.int p1), .val (.long v0), .second, .val (.long v1), .second, .val (.long v2), .second, .val (.long v3), .second, .val (.int (4 : Int32)), .val (.ref aa), .unset, .unset, .unset, .unset, .unset, .unset, .unset] [(.long v2), (.int (2 : Int32)), (.ref aa)])) rfl rfl (hb hby at_47)
    replace v120 : Arv Z h120 aa k117 .long (4 : Int32) [(.long v0), (.long v1), (.long v2), (.long 0)] (.long 0) := v120
    have f120_1 := f119_1.wr W120
    have O120 := O119.wr W120 w117
    have Z120 : n0 ≤ h120.size := by rw [W120.size]; exact Z119
    have N120 := Fr.snoc X120 N119 w117
    refine own_go st120 ?_
    show own_E _ _ _ _ _ _ _ (T120.setTop (mkF m 48 #[.val (.int p0), .val (.int p1), .val (.long v0), .second, .val (.long v1), .second, .val (.long v2), .second, .val (.long v3), .second, .val (.int (4 : Int32)), .val (.ref aa), .unset, .unset, .unset, .unset, .unset, .unset, .unset] []))
    refine own_go (fun _ k => XS.iload X120.here hx rfl (hb hby at_48) rfl k) ?_
    show own_E _ _ _ _ _ _ _ (T120.setTop (mkF m 50 #[.val (.int p0), .val (.int p1), .val (.long v0), .second, .val (.long v1), .second, .val (.long v2), .second, .val (.long v3), .second, .val (.int (4 : Int32)), .val (.ref aa), .unset, .unset, .unset, .unset, .unset, .unset, .unset] [(.int (4 : Int32))]))
    refine own_go (fun _ k => XT.iconstV X120.here hx rfl (3 : Int32) (hb hby at_50) (by decide) k) ?_
    show own_E _ _ _ _ _ _ _ (T120.setTop (mkF m 51 #[.val (.int p0), .val (.int p1), .val (.long v0), .second, .val (.long v1), .second, .val (.long v2), .second, .val (.long v3), .second, .val (.int (4 : Int32)), .val (.ref aa), .unset, .unset, .unset, .unset, .unset, .unset, .unset] [(.int (3 : Int32)), (.int (4 : Int32))]))
    refine own_go (fun _ k => XS.icmpNo X120.here hx rfl (hb hby at_51) rfl (by decide) k) ?_
    show own_E _ _ _ _ _ _ _ (T120.setTop (mkF m 54 #[.val (.int p0), .val (.int p1), .val (.long v0), .second, .val (.long v1), .second, .val (.long v2), .second, .val (.long v3), .second, .val (.int (4 : Int32)), .val (.ref aa), .unset, .unset, .unset, .unset, .unset, .unset, .unset] []))
    refine own_go (fun _ k => XS.aload X120.here hx rfl (hb hby at_54) rfl rfl k) ?_
    show own_E _ _ _ _ _ _ _ (T120.setTop (mkF m 56 #[.val (.int p0), .val (.int p1), .val (.long v0), .second, .val (.long v1), .second, .val (.long v2), .second, .val (.long v3), .second, .val (.int (4 : Int32)), .val (.ref aa), .unset, .unset, .unset, .unset, .unset, .unset, .unset] [(.ref aa)]))
    refine own_go (fun _ k => XT.iconstV X120.here hx rfl (3 : Int32) (hb hby at_56) (by decide) k) ?_
    show own_E _ _ _ _ _ _ _ (T120.setTop (mkF m 57 #[.val (.int p0), .val (.int p1), .val (.long v0), .second, .val (.long v1), .second, .val (.long v2), .second, .val (.long v3), .second, .val (.int (4 : Int32)), .val (.ref aa), .unset, .unset, .unset, .unset, .unset, .unset, .unset] [(.int (3 : Int32)), (.ref aa)]))
    refine own_go (fun _ k => XT.lload X120.here hx rfl (hb hby at_57) rfl k) ?_
    show own_E _ _ _ _ _ _ _ (T120.setTop (mkF m 59 #[.val (.int p0), .val (.int p1), .val (.long v0), .second, .val (.long v1), .second, .val (.long v2), .second, .val (.long v3), .second, .val (.int (4 : Int32)), .val (.ref aa), .unset, .unset, .unset, .unset, .unset, .unset, .unset] [(.long v3), (.int (3 : Int32)), (.ref aa)]))
    obtain ⟨T121, h121, X121, e121, W121, v121, st121⟩ := own_stJ X120 hx hZ e120 v120 (j := (3 : Int32)) 3 (by decide) (by simp) (by decide) (g := (mkF m 59 #[.val (.int p0), .val (.int p1), .val (.long v0), .second, .val (.long v1), .second, .val (.long v2), .second, .val (.long v3), .second, .val (.int (4 : Int32)), .val (.ref aa), .unset, .unset, .unset, .unset, .unset, .unset, .unset] [(.long v3), (.int (3 : Int32)), (.ref aa)])) rfl rfl (hb hby at_59)
    replace v121 : Arv Z h121 aa k117 .long (4 : Int32) [(.long v0), (.long v1), (.long v2), (.long v3)] (.long 0) := v121
    have f121_1 := f120_1.wr W121
    have O121 := O120.wr W121 w117
    have Z121 : n0 ≤ h121.size := by rw [W121.size]; exact Z120
    have N121 := Fr.snoc X121 N120 w117
    refine own_go st121 ?_
    show own_E _ _ _ _ _ _ _ (T121.setTop (mkF m 60 #[.val (.int p0), .val (.int p1), .val (.long v0), .second, .val (.long v1), .second, .val (.long v2), .second, .val (.long v3), .second, .val (.int (4 : Int32)), .val (.ref aa), .unset, .unset, .unset, .unset, .unset, .unset, .unset] []))
    exact rest60 4 T121 h121 _ aa _ (by simp) X121 e121 O121 Z121 N121 (own_re v121 (fun i hi => own_gd4 i hi)) f121_1 w117
set_option maxRecDepth 65536 in
set_option maxHeartbeats 40000000 in
theorem comes_1 {Post : Tables → Env → Array Value → State → Outcome → State → Prop} (hpost : ∀ tb e args s v u, (limb_1_1.after args s (.returned v) u = true ∧ limb_1_2.after args s (.returned v) u = true ∧ True) → FrameEnd s (.returned v) u (Jvm.fieldLocs frame_1_writes args s ++ Jvm.arrayLocs frame_1_arrays args s ++ Jvm.staticLocs frame_1_statics s) 16 128 → Post tb e args s (.returned v) u) :
    ArmFor flags0 classFile x code maxLocals ret World_1 tables_1 room_1 Calls_1 rest_1 Pre_1 Post := by
  intro l hfl _ _ p e ha hc hk s m args below hf hA hF happ hP
  obtain ⟨hcalls, hrest, hpre⟩ := hP
  obtain ⟨-, -, -, hnamed, -, -, -, hat⟩ := (Spec.applies_iff hf).mp happ
  obtain ⟨hg, hn⟩ := and_e (Cond.before_iff.mp (show (Jvm.Cond.and given_1 narrow_1).before args s = true from hpre))
  obtain ⟨hcount, hg⟩ := and_e hg
  obtain ⟨w0, w1, w2, w3, w4, w5, rfl⟩ : ∃ w0 w1 w2 w3 w4 w5 : Value, args = #[w0, w1, w2, w3, w4, w5] := by
    have hs : args.size = 6 := by simpa [Cond.value, given_1] using hcount
    obtain ⟨L⟩ := args
    match L, hs with
    | [w0, w1, w2, w3, w4, w5], _ => exact ⟨w0, w1, w2, w3, w4, w5, rfl⟩
  have hw := fun d (hd : d ∈ tables_1) => atoms_spec (ws := Jvm.Cond.code x code maxLocals ret :: tables_1) hat d (List.mem_cons_of_mem _ hd)
  have hfit : Fit s := fun {y c} hc i hi => by
    obtain ⟨ha, rfl⟩ := Array.getElem?_eq_some_iff.mp hc
    have q := List.all_eq_true.mp ((Array.all_eq_true_iff_forall_mem.mp hF) _ (Array.getElem_mem ha)) i (List.mem_range.mpr hi)
    simpa [Array.getElem?_eq_getElem hi] using q
  obtain ⟨hg0, hg⟩ := and_e hg
  obtain ⟨i0, q0⟩ := is_v hg0
  obtain rfl : w0 = (.int i0) := Option.some.inj q0
  obtain ⟨hg1, hg⟩ := and_e hg
  obtain ⟨i1, q1⟩ := is_v hg1
  obtain rfl : w1 = (.int i1) := Option.some.inj q1
  obtain ⟨hg2, hg⟩ := and_e hg
  obtain ⟨i2, q2⟩ := isL_v hg2
  obtain rfl : w2 = (.long i2) := Option.some.inj q2
  obtain ⟨hg3, hg⟩ := and_e hg
  obtain ⟨i3, q3⟩ := isL_v hg3
  obtain rfl : w3 = (.long i3) := Option.some.inj q3
  obtain ⟨hg4, hg⟩ := and_e hg
  obtain ⟨i4, q4⟩ := isL_v hg4
  obtain rfl : w4 = (.long i4) := Option.some.inj q4
  have hg5 := hg
  obtain ⟨i5, q5⟩ := isL_v hg5
  obtain rfl : w5 = (.long i5) := Option.some.inj q5
  obtain ⟨c0, hn⟩ := and_e hn
  obtain ⟨c1, hn⟩ := and_e hn
  obtain ⟨c2, hn⟩ := and_e hn
  obtain ⟨c3, hn⟩ := and_e hn
  obtain ⟨c4, hn⟩ := and_e hn
  obtain ⟨c5, hn⟩ := and_e hn
  obtain ⟨c6, hn⟩ := and_e hn
  have c7 := hn
  obtain ⟨w0, ev_w0, S_w0, E_w0⟩ := own_const c0 (hw _ (List.mem_of_getElem? (i := 7) rfl)) (hw _ (List.mem_of_getElem? (i := 8) rfl))
  obtain ⟨w7, ev_w7, S_w7, E_w7⟩ := own_const c1 (hw _ (List.mem_of_getElem? (i := 7) rfl)) (hw _ (List.mem_of_getElem? (i := 72) rfl))
  obtain ⟨w2, ev_w2, S_w2, E_w2⟩ := own_const c2 (hw _ (List.mem_of_getElem? (i := 7) rfl)) (hw _ (List.mem_of_getElem? (i := 74) rfl))
  obtain ⟨w1, ev_w1, S_w1, E_w1⟩ := own_const c3 (hw _ (List.mem_of_getElem? (i := 7) rfl)) (hw _ (List.mem_of_getElem? (i := 76) rfl))
  obtain ⟨w6, ev_w6, S_w6, E_w6⟩ := own_const c4 (hw _ (List.mem_of_getElem? (i := 7) rfl)) (hw _ (List.mem_of_getElem? (i := 78) rfl))
  obtain ⟨w5, ev_w5, S_w5, E_w5⟩ := own_const c5 (hw _ (List.mem_of_getElem? (i := 7) rfl)) (hw _ (List.mem_of_getElem? (i := 80) rfl))
  obtain ⟨w4, ev_w4, S_w4, E_w4⟩ := own_const c6 (hw _ (List.mem_of_getElem? (i := 7) rfl)) (hw _ (List.mem_of_getElem? (i := 82) rfl))
  obtain ⟨w3, ev_w3, S_w3, E_w3⟩ := own_const c7 (hw _ (List.mem_of_getElem? (i := 7) rfl)) (hw _ (List.mem_of_getElem? (i := 84) rfl))
  obtain ⟨hsets, -⟩ := atoms_of jdkStatics_1 (show (jdkStatics_1.foldr Jvm.Cond.and restOwn_1).before _ s = true from hrest)
  obtain ⟨em, ev_em⟩ := exa_v (Cond.before_iff.mp (hsets _ (List.mem_of_getElem? (i := 2) rfl)))
  have SM := Sta.start ev_em (Or.inl (hsets _ (List.mem_of_getElem? (i := 1) rfl)))
  have EM := Exa.start ev_em (Cond.before_iff.mp (hsets _ (List.mem_of_getElem? (i := 2) rfl)))
  obtain ⟨n, o, h1, h2, h3, _, L, rfl, ⟨rfl, N⟩, hq⟩ := rm0 l s _ hw tables_1 i0 i1 i2 i3 i4 i5 w0 w1 w2 w3 w4 w5 w6 w7 em s.heap s.heap.size (Nat.le_refl _) (Old.start s) S_w0 S_w1 S_w2 S_w3 S_w4 S_w5 S_w6 S_w7 SM EM p e ha hc hk s m _ below hf ((Spec.applies_iff_loose hf).mp happ).1 ⟨rfl, State.Warmed39.refl s, rfl⟩ trivial
  refine ⟨n, _, h1, h2, h3, hpost _ _ _ _ _ _ ⟨Cond.after_iff.mpr rfl, Cond.after_iff.mpr (eq_i res_at (Term.int_eval (1)) rfl), trivial⟩ ⟨hq.1, hq.2.1, (hq.2.2.sift fun y hy => Or.inr (N y hy)).mono (by decide) (by decide)⟩⟩
theorem main_1_1 : Claimed_1_1 := comes_1 fun _ _ _ _ _ _ h hF => ⟨h.1, hF⟩
theorem main_1_2 : Claimed_1_2 := comes_1 fun _ _ _ _ _ _ h hF => ⟨h.2.1, hF⟩
end Jvm.Pilot.@@N@@
namespace Jvm.Pilot.@@N@@
open Jvm Jvm.ClassFile Sem Op Lib Jvm.Free Jvm.Stand Jvm.Pilot.@@N@@.Jvm.D
/-! MADE BY PROGRAM (witnessworld.py) out of the Statement's table words and the real class files: 25 classes; the members and pool entries that the words name. The judged class is class 1, her method 2. -/
namespace start1
open Jvm.ClassFile
def u (s : String) : CpInfo := .utf8 (stringToUtf16 s)
/-- a pool by its gaps: so many unusable entries, then the entry; so many at the end -/
def gap : Nat → List CpInfo → List CpInfo
  | 0, r => r
  | n + 1, r => .unusable :: gap n r
def poolList (es : List (Nat × CpInfo)) (last : Nat) : List CpInfo := es.foldr (fun e r => gap e.1 (e.2 :: r)) (gap last [])
def pool (es : List (Nat × CpInfo)) (last : Nat) : Array CpInfo := ⟨poolList es last⟩
def fileOf (pool : Array CpInfo) (this : Nat) (attrs : Array Attribute := #[]) (ms : Array MethodInfo := #[]) (fl : Nat := 33) (sup : Nat := 0) (ifs : Array Nat := #[]) (fds : Array FieldInfo := #[]) : ClassFile where
  minorVersion := 0
  majorVersion := 65
  constantPool := pool
  accessFlags := fl
  thisClass := this
  superClass := sup
  interfaces := ifs
  fields := fds
  methods := ms
  attributes := attrs
def plain (name : String) (sup : Option ClassId) : Class where
  name := name
  kind := .ordinary
  loader := none
  accessFlags := 33
  super := sup
  interfaces := #[]
  cf := none
  fields := #[]
  methods := #[]
  instanceTypes := #[]
  staticTypes := #[]
  resolved := #[]
  callSites := []
  init := .initialized
  statics := none
  mirror := none

def pool0 : Array CpInfo := pool [(5, u "<init>"), (0, u "()V"), (1, .class_ 10), (1, u "java/lang/Object"), (85, u "clone"), (0, u "()Ljava/lang/Object;")] 26

def k0c0 : Code := { maxStack := 0, maxLocals := 1, code := object_method_1_code, exceptionTable := #[], attributes := #[] }
def k0m0 : Method := { name := "<init>", desc := "()V", sig := { parameters := [], returnType := none }, accessFlags := 1, code := some k0c0 }
def k0m1 : Method := { name := "clone", desc := "()Ljava/lang/Object;", sig := { parameters := [], returnType := some (.object "java/lang/Object") }, accessFlags := 260, code := none }
/-- java/lang/Object -/
def k0 : Class := { plain "java/lang/Object" none with
  accessFlags := 33
  interfaces := #[]
  cf := some (fileOf pool0 8 #[] #[{ accessFlags := 1, nameIndex := 5, descriptorIndex := 6, attributes := #[] }, { accessFlags := 260, nameIndex := 96, descriptorIndex := 97, attributes := #[] }] 33 0 #[] #[])
  fields := #[]
  methods := #[k0m0, k0m1]
  instanceTypes := #[]
  staticTypes := #[]
  resolved := Array.replicate 124 none
  statics := none }

def pool1 : Array CpInfo := pool [(2, .class_ 4), (1, u "java/lang/Object"), (0, u "<init>"), (0, u "()V"), (0, .fieldref 8 9), (0, .class_ 10), (0, .nameAndType 11 12), (0, u "com/example/pathwright/pathwright/value/PrimitiveType"), (0, u "BOOLEAN"), (0, u "Lcom/example/pathwright/pathwright/value/PrimitiveType;"), (0, .fieldref 8 14), (0, .nameAndType 15 12), (0, u "BYTE"), (0, .fieldref 8 17), (0, .nameAndType 18 12), (0, u "CHAR"), (0, .fieldref 8 20), (0, .nameAndType 21 12), (0, u "SHORT"), (0, .fieldref 8 23), (0, .nameAndType 24 12), (0, u "INT"), (0, .fieldref 8 26), (0, .nameAndType 27 12), (0, u "LONG"), (0, .fieldref 8 29), (0, .nameAndType 30 12), (0, u "FLOAT"), (0, .fieldref 8 32), (0, .nameAndType 33 12), (0, u "DOUBLE"), (0, .integer 2147483647), (0, .methodref 36 37), (0, .class_ 38), (0, .nameAndType 39 40), (0, u "com/example/pathwright/pathwright/value/AssignmentValueOfPinLaw"), (0, u "typeOf"), (0, u "(I)Lcom/example/pathwright/pathwright/value/PrimitiveType;"), (0, .class_ 42), (0, u "com/example/pathwright/pathwright/value/Assignment"), (0, .methodref 41 44), (0, .nameAndType 5 45), (0, u "([J)V"), (0, .class_ 47), (0, u "com/example/pathwright/pathwright/value/Input"), (0, .methodref 46 49), (0, .nameAndType 5 50), (0, u "(ILcom/example/pathwright/pathwright/value/PrimitiveType;)V"), (0, .methodref 41 52), (0, .nameAndType 53 54), (0, u "valueOf"), (0, u "(Lcom/example/pathwright/pathwright/value/Input;)J"), (3, u "law"), (0, u "(IIJJJJ)Z")] 4

def k1m0 : Method := { name := "<init>", desc := "()V", sig := { parameters := [], returnType := none }, accessFlags := 1, code := none }
def k1c1 : Code := { maxStack := 2, maxLocals := 1, code := method_2_code, exceptionTable := #[], attributes := #[] }
def k1m1 : Method := { name := "typeOf", desc := "(I)Lcom/example/pathwright/pathwright/value/PrimitiveType;", sig := { parameters := [.int], returnType := some (.object "com/example/pathwright/pathwright/value/PrimitiveType") }, accessFlags := 10, code := some k1c1 }
def k1c2 : Code := { maxStack := 5, maxLocals := 19, code := code, exceptionTable := #[], attributes := #[] }
def k1m2 : Method := { name := "law", desc := "(IIJJJJ)Z", sig := { parameters := [.int, .int, .long, .long, .long, .long], returnType := some .boolean }, accessFlags := 9, code := some k1c2 }
/-- com/example/pathwright/pathwright/value/AssignmentValueOfPinLaw -/
def k1 : Class := { plain "com/example/pathwright/pathwright/value/AssignmentValueOfPinLaw" (some 0) with
  accessFlags := 49
  interfaces := #[]
  cf := some (fileOf pool1 36 #[] #[{ accessFlags := 1, nameIndex := 5, descriptorIndex := 6, attributes := #[] }, { accessFlags := 10, nameIndex := 39, descriptorIndex := 40, attributes := #[] }, { accessFlags := 9, nameIndex := 58, descriptorIndex := 59, attributes := #[] }] 49 2 #[] #[])
  fields := #[]
  methods := #[k1m0, k1m1, k1m2]
  instanceTypes := #[]
  staticTypes := #[]
  resolved := Array.replicate 64 none
  statics := none }

def pool2 : Array CpInfo := pool [(1, .class_ 2), (0, u "java/lang/constant/Constable"), (0, .class_ 4), (0, u "java/lang/Object")] 6

/-- java/lang/constant/Constable -/
def k2 : Class := { plain "java/lang/constant/Constable" (some 0) with
  accessFlags := 1537
  interfaces := #[]
  cf := some (fileOf pool2 1 #[] #[] 1537 3 #[] #[])
  fields := #[]
  methods := #[]
  instanceTypes := #[]
  staticTypes := #[]
  resolved := Array.replicate 11 none
  statics := none }

def pool3 : Array CpInfo := pool [(1, .class_ 2), (0, u "java/lang/Comparable"), (0, .class_ 4), (0, u "java/lang/Object")] 7

/-- java/lang/Comparable -/
def k3 : Class := { plain "java/lang/Comparable" (some 0) with
  accessFlags := 1537
  interfaces := #[]
  cf := some (fileOf pool3 1 #[] #[] 1537 3 #[] #[])
  fields := #[]
  methods := #[]
  instanceTypes := #[]
  staticTypes := #[]
  resolved := Array.replicate 12 none
  statics := none }

def pool4 : Array CpInfo := pool [(1, .class_ 2), (0, u "java/io/Serializable"), (0, .class_ 4), (0, u "java/lang/Object")] 2

/-- java/io/Serializable -/
def k4 : Class := { plain "java/io/Serializable" (some 0) with
  accessFlags := 1537
  interfaces := #[]
  cf := some (fileOf pool4 1 #[] #[] 1537 3 #[] #[])
  fields := #[]
  methods := #[]
  instanceTypes := #[]
  staticTypes := #[]
  resolved := Array.replicate 7 none
  statics := none }

def pool5 : Array CpInfo := pool [(2, .class_ 4), (1, u "java/lang/Enum"), (0, u "name"), (0, u "Ljava/lang/String;"), (2, u "ordinal"), (0, u "I"), (1, .class_ 14), (1, u "java/lang/Object"), (4, u "hash"), (86, .class_ 108), (1, u "java/lang/Enum$EnumDesc"), (2, .class_ 112), (0, u "java/lang/constant/Constable"), (0, .class_ 114), (0, u "java/lang/Comparable"), (0, .class_ 116), (0, u "java/io/Serializable")] 87

/-- java/lang/Enum -/
def k5 : Class := { plain "java/lang/Enum" (some 0) with
  accessFlags := 1057
  interfaces := #[2, 3, 4]
  cf := some (fileOf pool5 2 #[.nestMembers #[106]] #[] 1057 12 #[111, 113, 115] #[{ accessFlags := 18, nameIndex := 5, descriptorIndex := 6, attributes := #[] }, { accessFlags := 18, nameIndex := 9, descriptorIndex := 10, attributes := #[] }, { accessFlags := 2, nameIndex := 19, descriptorIndex := 10, attributes := #[] }])
  fields := #[{ name := "name", type := (.object "java/lang/String"), accessFlags := 18, slot := 0, constantValue := 0 }, { name := "ordinal", type := .int, accessFlags := 18, slot := 1, constantValue := 0 }, { name := "hash", type := .int, accessFlags := 2, slot := 2, constantValue := 0 }]
  methods := #[]
  instanceTypes := #[(.object "java/lang/String"), .int, .int]
  staticTypes := #[]
  resolved := Array.replicate 204 none
  statics := none }

def pool6 : Array CpInfo := pool [(1, .class_ 2), (0, u "com/example/pathwright/pathwright/value/PrimitiveType"), (2, u "BOOLEAN"), (0, u "Lcom/example/pathwright/pathwright/value/PrimitiveType;"), (2, u "BYTE"), (2, u "CHAR"), (2, u "SHORT"), (2, u "INT"), (2, u "LONG"), (2, u "FLOAT"), (2, u "DOUBLE"), (2, u "$VALUES"), (0, u "[Lcom/example/pathwright/pathwright/value/PrimitiveType;"), (6, .class_ 40), (1, u "java/lang/Enum"), (8, u "javaName"), (0, u "Ljava/lang/String;"), (2, u "descriptor"), (2, u "bits"), (0, u "I"), (2, u "signed"), (0, u "Z"), (6, u "wrapper")] 116

/-- com/example/pathwright/pathwright/value/PrimitiveType -/
def k6 : Class := { plain "com/example/pathwright/pathwright/value/PrimitiveType" (some 5) with
  accessFlags := 16433
  interfaces := #[]
  cf := some (fileOf pool6 1 #[] #[] 16433 38 #[] #[{ accessFlags := 16409, nameIndex := 5, descriptorIndex := 6, attributes := #[] }, { accessFlags := 16409, nameIndex := 9, descriptorIndex := 6, attributes := #[] }, { accessFlags := 16409, nameIndex := 12, descriptorIndex := 6, attributes := #[] }, { accessFlags := 16409, nameIndex := 15, descriptorIndex := 6, attributes := #[] }, { accessFlags := 16409, nameIndex := 18, descriptorIndex := 6, attributes := #[] }, { accessFlags := 16409, nameIndex := 21, descriptorIndex := 6, attributes := #[] }, { accessFlags := 16409, nameIndex := 24, descriptorIndex := 6, attributes := #[] }, { accessFlags := 16409, nameIndex := 27, descriptorIndex := 6, attributes := #[] }, { accessFlags := 18, nameIndex := 49, descriptorIndex := 50, attributes := #[] }, { accessFlags := 18, nameIndex := 53, descriptorIndex := 50, attributes := #[] }, { accessFlags := 18, nameIndex := 56, descriptorIndex := 57, attributes := #[] }, { accessFlags := 18, nameIndex := 60, descriptorIndex := 61, attributes := #[] }, { accessFlags := 18, nameIndex := 68, descriptorIndex := 50, attributes := #[] }, { accessFlags := 4122, nameIndex := 30, descriptorIndex := 31, attributes := #[] }])
  fields := #[{ name := "BOOLEAN", type := (.object "com/example/pathwright/pathwright/value/PrimitiveType"), accessFlags := 16409, slot := 0, constantValue := 0 }, { name := "BYTE", type := (.object "com/example/pathwright/pathwright/value/PrimitiveType"), accessFlags := 16409, slot := 1, constantValue := 0 }, { name := "CHAR", type := (.object "com/example/pathwright/pathwright/value/PrimitiveType"), accessFlags := 16409, slot := 2, constantValue := 0 }, { name := "SHORT", type := (.object "com/example/pathwright/pathwright/value/PrimitiveType"), accessFlags := 16409, slot := 3, constantValue := 0 }, { name := "INT", type := (.object "com/example/pathwright/pathwright/value/PrimitiveType"), accessFlags := 16409, slot := 4, constantValue := 0 }, { name := "LONG", type := (.object "com/example/pathwright/pathwright/value/PrimitiveType"), accessFlags := 16409, slot := 5, constantValue := 0 }, { name := "FLOAT", type := (.object "com/example/pathwright/pathwright/value/PrimitiveType"), accessFlags := 16409, slot := 6, constantValue := 0 }, { name := "DOUBLE", type := (.object "com/example/pathwright/pathwright/value/PrimitiveType"), accessFlags := 16409, slot := 7, constantValue := 0 }, { name := "javaName", type := (.object "java/lang/String"), accessFlags := 18, slot := 3, constantValue := 0 }, { name := "descriptor", type := (.object "java/lang/String"), accessFlags := 18, slot := 4, constantValue := 0 }, { name := "bits", type := .int, accessFlags := 18, slot := 5, constantValue := 0 }, { name := "signed", type := .boolean, accessFlags := 18, slot := 6, constantValue := 0 }, { name := "wrapper", type := (.object "java/lang/String"), accessFlags := 18, slot := 7, constantValue := 0 }, { name := "$VALUES", type := (.array (.object "com/example/pathwright/pathwright/value/PrimitiveType")), accessFlags := 4122, slot := 8, constantValue := 0 }]
  methods := #[]
  instanceTypes := #[(.object "java/lang/String"), .int, .int, (.object "java/lang/String"), (.object "java/lang/String"), .int, .boolean, (.object "java/lang/String")]
  staticTypes := #[(.object "com/example/pathwright/pathwright/value/PrimitiveType"), (.object "com/example/pathwright/pathwright/value/PrimitiveType"), (.object "com/example/pathwright/pathwright/value/PrimitiveType"), (.object "com/example/pathwright/pathwright/value/PrimitiveType"), (.object "com/example/pathwright/pathwright/value/PrimitiveType"), (.object "com/example/pathwright/pathwright/value/PrimitiveType"), (.object "com/example/pathwright/pathwright/value/PrimitiveType"), (.object "com/example/pathwright/pathwright/value/PrimitiveType"), (.array (.object "com/example/pathwright/pathwright/value/PrimitiveType"))]
  resolved := Array.replicate 185 none
  statics := some 0 }

def pool7 : Array CpInfo := pool [(1, .interfaceMethodref 2 3), (0, .class_ 4), (0, .nameAndType 5 6), (0, u "java/util/Map"), (0, u "of"), (0, u "()Ljava/util/Map;"), (0, .methodref 8 9), (0, .class_ 10), (0, .nameAndType 11 12), (0, u "com/example/pathwright/pathwright/value/Assignment"), (0, u "<init>"), (0, u "([JLjava/util/Map;)V"), (0, .methodref 14 15), (0, .class_ 16), (0, .nameAndType 11 17), (0, u "java/lang/Object"), (0, u "()V"), (0, .methodref 19 20), (0, .class_ 21), (0, .nameAndType 22 23), (0, u "[J"), (0, u "clone"), (0, u "()Ljava/lang/Object;"), (0, .fieldref 8 25), (0, .nameAndType 26 21), (0, u "values"), (0, .interfaceMethodref 2 28), (0, .nameAndType 29 30), (0, u "copyOf"), (0, u "(Ljava/util/Map;)Ljava/util/Map;"), (0, .fieldref 8 32), (0, .nameAndType 33 34), (0, u "elements"), (0, u "Ljava/util/Map;"), (4, .class_ 40), (0, u "com/example/pathwright/pathwright/value/Assignment$Elements"), (25, .methodref 67 68), (0, .class_ 69), (0, .nameAndType 70 71), (0, u "com/example/pathwright/pathwright/value/Input"), (0, u "number"), (0, u "()I"), (0, .class_ 73), (0, u "com/example/pathwright/pathwright/value/Assignment$Evaluation"), (18, u "([J)V"), (2, u "EMPTY"), (0, u "Lcom/example/pathwright/pathwright/value/Assignment;"), (0, u "MOST_WALKED"), (0, u "I"), (9, u "valueOf"), (0, u "(Lcom/example/pathwright/pathwright/value/Input;)J"), (6, .class_ 117), (0, u "com/example/pathwright/pathwright/value/Assignment$Undetermined")] 28

def k7c0 : Code := { maxStack := 3, maxLocals := 2, code := prog_53_method_1_code, exceptionTable := #[], attributes := #[] }
def k7m0 : Method := { name := "<init>", desc := "([J)V", sig := { parameters := [(.array .long)], returnType := none }, accessFlags := 1, code := some k7c0 }
def k7c1 : Code := { maxStack := 2, maxLocals := 3, code := prog_53_method_2_code, exceptionTable := #[], attributes := #[] }
def k7m1 : Method := { name := "<init>", desc := "([JLjava/util/Map;)V", sig := { parameters := [(.array .long), (.object "java/util/Map")], returnType := none }, accessFlags := 1, code := some k7c1 }
def k7c2 : Code := { maxStack := 2, maxLocals := 3, code := prog_53_method_4_code, exceptionTable := #[], attributes := #[] }
def k7m2 : Method := { name := "valueOf", desc := "(Lcom/example/pathwright/pathwright/value/Input;)J", sig := { parameters := [(.object "com/example/pathwright/pathwright/value/Input")], returnType := some .long }, accessFlags := 1, code := some k7c2 }
/-- com/example/pathwright/pathwright/value/Assignment -/
def k7 : Class := { plain "com/example/pathwright/pathwright/value/Assignment" (some 0) with
  accessFlags := 49
  interfaces := #[]
  cf := some (fileOf pool7 8 #[.nestMembers #[72, 116, 39]] #[{ accessFlags := 1, nameIndex := 11, descriptorIndex := 92, attributes := #[] }, { accessFlags := 1, nameIndex := 11, descriptorIndex := 12, attributes := #[] }, { accessFlags := 1, nameIndex := 108, descriptorIndex := 109, attributes := #[] }] 49 14 #[] #[{ accessFlags := 25, nameIndex := 95, descriptorIndex := 96, attributes := #[] }, { accessFlags := 26, nameIndex := 97, descriptorIndex := 98, attributes := #[] }, { accessFlags := 18, nameIndex := 26, descriptorIndex := 21, attributes := #[] }, { accessFlags := 18, nameIndex := 33, descriptorIndex := 34, attributes := #[] }])
  fields := #[{ name := "EMPTY", type := (.object "com/example/pathwright/pathwright/value/Assignment"), accessFlags := 25, slot := 0, constantValue := 0 }, { name := "MOST_WALKED", type := .int, accessFlags := 26, slot := 1, constantValue := 0 }, { name := "values", type := (.array .long), accessFlags := 18, slot := 0, constantValue := 0 }, { name := "elements", type := (.object "java/util/Map"), accessFlags := 18, slot := 1, constantValue := 0 }]
  methods := #[k7m0, k7m1, k7m2]
  instanceTypes := #[(.array .long), (.object "java/util/Map")]
  staticTypes := #[(.object "com/example/pathwright/pathwright/value/Assignment"), .int]
  resolved := Array.replicate 146 none
  statics := none }

def pool8 : Array CpInfo := pool [(2, .class_ 4), (1, u "java/util/Map"), (31, .class_ 37), (0, u "java/util/Map$Entry"), (43, .fieldref 82 83), (0, .class_ 84), (0, .nameAndType 85 86), (0, u "java/util/ImmutableCollections"), (0, u "EMPTY_MAP"), (0, u "Ljava/util/ImmutableCollections$MapN;"), (6, .class_ 94), (0, u "java/lang/Object"), (6, .class_ 102), (0, u "java/util/ImmutableCollections$AbstractImmutableMap"), (5, u "of"), (0, u "()Ljava/util/Map;"), (140, u "copyOf"), (0, u "(Ljava/util/Map;)Ljava/util/Map;")] 11

def k8c0 : Code := { maxStack := 1, maxLocals := 0, code := jdk_72_method_26_code, exceptionTable := #[], attributes := #[] }
def k8m0 : Method := { name := "of", desc := "()Ljava/util/Map;", sig := { parameters := [], returnType := some (.object "java/util/Map") }, accessFlags := 9, code := some k8c0 }
def k8c1 : Code := { maxStack := 2, maxLocals := 1, code := jdk_72_method_39_code, exceptionTable := #[], attributes := #[] }
def k8m1 : Method := { name := "copyOf", desc := "(Ljava/util/Map;)Ljava/util/Map;", sig := { parameters := [(.object "java/util/Map")], returnType := some (.object "java/util/Map") }, accessFlags := 9, code := some k8c1 }
/-- java/util/Map -/
def k8 : Class := { plain "java/util/Map" (some 0) with
  accessFlags := 1537
  interfaces := #[]
  cf := some (fileOf pool8 2 #[.nestMembers #[36]] #[{ accessFlags := 9, nameIndex := 108, descriptorIndex := 109, attributes := #[] }, { accessFlags := 9, nameIndex := 250, descriptorIndex := 251, attributes := #[] }] 1537 93 #[] #[])
  fields := #[]
  methods := #[k8m0, k8m1]
  instanceTypes := #[]
  staticTypes := #[]
  resolved := Array.replicate 263 none
  statics := none }

def pool9 : Array CpInfo := pool [(2, .class_ 4), (1, u "java/lang/Object"), (0, u "<init>"), (0, u "()V"), (3, .class_ 11), (0, u "java/util/ImmutableCollections$List12"), (0, .class_ 13), (0, u "java/util/ImmutableCollections$ListN"), (3, u "Z"), (29, .class_ 49), (1, u "java/util/ImmutableCollections"), (0, u "$assertionsDisabled"), (5, u "[Ljava/lang/Object;"), (5, u "EMPTY_LIST"), (0, u "Ljava/util/ImmutableCollections$ListN;"), (8, u "EMPTY_LIST_NULLS"), (22, u "SALT32L"), (0, u "J"), (2, u "REVERSE"), (6, u "archivedObjects"), (2, u "EMPTY"), (0, u "Ljava/lang/Object;"), (0, .class_ 112), (0, u "java/util/ImmutableCollections$SetN"), (5, u "EMPTY_SET"), (0, u "Ljava/util/ImmutableCollections$SetN;"), (0, .class_ 121), (0, u "java/util/ImmutableCollections$MapN"), (3, u "EMPTY_MAP"), (0, u "Ljava/util/ImmutableCollections$MapN;"), (4, u "EXPAND_FACTOR"), (0, u "I"), (36, .class_ 170), (0, u "java/util/ImmutableCollections$MapN$MapNIterator"), (0, .class_ 172), (0, u "java/util/ImmutableCollections$MapN$1"), (0, .class_ 174), (0, u "java/util/ImmutableCollections$Map1"), (0, .class_ 176), (0, u "java/util/ImmutableCollections$AbstractImmutableMap"), (0, .class_ 178), (0, u "java/util/ImmutableCollections$SetN$SetNIterator"), (0, .class_ 180), (0, u "java/util/ImmutableCollections$Set12"), (0, .class_ 182), (0, u "java/util/ImmutableCollections$Set12$1"), (0, .class_ 184), (0, u "java/util/ImmutableCollections$AbstractImmutableSet"), (0, .class_ 186), (0, u "java/util/ImmutableCollections$SubList"), (0, .class_ 188), (0, u "java/util/ImmutableCollections$ListItr"), (0, .class_ 190), (0, u "java/util/ImmutableCollections$AbstractImmutableList"), (0, .class_ 192), (0, u "java/util/ImmutableCollections$AbstractImmutableCollection"), (0, .class_ 194), (0, u "java/util/ImmutableCollections$Access"), (0, .class_ 196), (0, u "java/util/ImmutableCollections$Access$1")] 16

def k9m0 : Method := { name := "<init>", desc := "()V", sig := { parameters := [], returnType := none }, accessFlags := 2, code := none }
/-- java/util/ImmutableCollections -/
def k9 : Class := { plain "java/util/ImmutableCollections" (some 0) with
  accessFlags := 32
  interfaces := #[]
  cf := some (fileOf pool9 47 #[.nestMembers #[120, 169, 171, 173, 175, 111, 177, 179, 181, 183, 12, 10, 185, 187, 189, 191, 193, 195]] #[{ accessFlags := 2, nameIndex := 5, descriptorIndex := 6, attributes := #[] }] 32 2 #[] #[{ accessFlags := 26, nameIndex := 95, descriptorIndex := 96, attributes := #[] }, { accessFlags := 26, nameIndex := 99, descriptorIndex := 17, attributes := #[] }, { accessFlags := 10, nameIndex := 106, descriptorIndex := 56, attributes := #[] }, { accessFlags := 26, nameIndex := 109, descriptorIndex := 110, attributes := #[] }, { accessFlags := 24, nameIndex := 62, descriptorIndex := 63, attributes := #[] }, { accessFlags := 24, nameIndex := 72, descriptorIndex := 63, attributes := #[] }, { accessFlags := 24, nameIndex := 118, descriptorIndex := 119, attributes := #[] }, { accessFlags := 24, nameIndex := 125, descriptorIndex := 126, attributes := #[] }, { accessFlags := 24, nameIndex := 131, descriptorIndex := 132, attributes := #[] }, { accessFlags := 4120, nameIndex := 50, descriptorIndex := 17, attributes := #[] }])
  fields := #[{ name := "SALT32L", type := .long, accessFlags := 26, slot := 0, constantValue := 0 }, { name := "REVERSE", type := .boolean, accessFlags := 26, slot := 1, constantValue := 0 }, { name := "archivedObjects", type := (.array (.object "java/lang/Object")), accessFlags := 10, slot := 2, constantValue := 0 }, { name := "EMPTY", type := (.object "java/lang/Object"), accessFlags := 26, slot := 3, constantValue := 0 }, { name := "EMPTY_LIST", type := (.object "java/util/ImmutableCollections$ListN"), accessFlags := 24, slot := 4, constantValue := 0 }, { name := "EMPTY_LIST_NULLS", type := (.object "java/util/ImmutableCollections$ListN"), accessFlags := 24, slot := 5, constantValue := 0 }, { name := "EMPTY_SET", type := (.object "java/util/ImmutableCollections$SetN"), accessFlags := 24, slot := 6, constantValue := 0 }, { name := "EMPTY_MAP", type := (.object "java/util/ImmutableCollections$MapN"), accessFlags := 24, slot := 7, constantValue := 0 }, { name := "EXPAND_FACTOR", type := .int, accessFlags := 24, slot := 8, constantValue := 0 }, { name := "$assertionsDisabled", type := .boolean, accessFlags := 4120, slot := 9, constantValue := 0 }]
  methods := #[k9m0]
  instanceTypes := #[]
  staticTypes := #[.long, .boolean, (.array (.object "java/lang/Object")), (.object "java/lang/Object"), (.object "java/util/ImmutableCollections$ListN"), (.object "java/util/ImmutableCollections$ListN"), (.object "java/util/ImmutableCollections$SetN"), (.object "java/util/ImmutableCollections$MapN"), .int, .boolean]
  resolved := Array.replicate 213 none
  statics := some 1 }

def pool10 : Array CpInfo := pool [(1, .class_ 2), (0, u "java/lang/Cloneable"), (0, .class_ 4), (0, u "java/lang/Object")] 2

/-- java/lang/Cloneable -/
def k10 : Class := { plain "java/lang/Cloneable" (some 0) with
  accessFlags := 1537
  interfaces := #[]
  cf := some (fileOf pool10 1 #[] #[] 1537 3 #[] #[])
  fields := #[]
  methods := #[]
  instanceTypes := #[]
  staticTypes := #[]
  resolved := Array.replicate 7 none
  statics := none }

def pool11 : Array CpInfo := pool [(2, .class_ 4), (1, u "java/lang/Object"), (0, u "<init>"), (0, u "()V"), (1, .class_ 10), (1, u "java/util/AbstractMap"), (42, .class_ 54), (0, u "java/util/Map"), (9, u "keySet"), (0, u "Ljava/util/Set;"), (0, .class_ 67), (0, u "java/util/AbstractMap$1"), (5, u "values"), (0, u "Ljava/util/Collection;"), (0, .class_ 76), (0, u "java/util/AbstractMap$2"), (104, .class_ 182), (0, u "java/util/AbstractMap$ViewCollection"), (0, .class_ 184), (0, u "java/util/AbstractMap$SimpleImmutableEntry"), (0, .class_ 186), (0, u "java/util/AbstractMap$SimpleEntry"), (0, .class_ 188), (0, u "java/util/AbstractMap$2$1"), (0, .class_ 190), (0, u "java/util/AbstractMap$1$1")] 5

def k11m0 : Method := { name := "<init>", desc := "()V", sig := { parameters := [], returnType := none }, accessFlags := 4, code := none }
/-- java/util/AbstractMap -/
def k11 : Class := { plain "java/util/AbstractMap" (some 0) with
  accessFlags := 1057
  interfaces := #[8]
  cf := some (fileOf pool11 8 #[.nestMembers #[181, 183, 185, 75, 187, 66, 189]] #[{ accessFlags := 4, nameIndex := 5, descriptorIndex := 6, attributes := #[] }] 1057 2 #[53] #[{ accessFlags := 128, nameIndex := 64, descriptorIndex := 65, attributes := #[] }, { accessFlags := 128, nameIndex := 73, descriptorIndex := 74, attributes := #[] }])
  fields := #[{ name := "keySet", type := (.object "java/util/Set"), accessFlags := 128, slot := 0, constantValue := 0 }, { name := "values", type := (.object "java/util/Collection"), accessFlags := 128, slot := 1, constantValue := 0 }]
  methods := #[k11m0]
  instanceTypes := #[(.object "java/util/Set"), (.object "java/util/Collection")]
  staticTypes := #[]
  resolved := Array.replicate 196 none
  statics := none }

def pool12 : Array CpInfo := pool [(2, .class_ 4), (1, u "java/util/AbstractMap"), (0, u "<init>"), (0, u "()V"), (1, .class_ 10), (1, u "java/util/ImmutableCollections"), (3, .class_ 16), (1, u "java/util/ImmutableCollections$AbstractImmutableMap"), (2, .class_ 20), (0, u "java/io/Serializable")] 66

def k12m0 : Method := { name := "<init>", desc := "()V", sig := { parameters := [], returnType := none }, accessFlags := 0, code := none }
/-- java/util/ImmutableCollections$AbstractImmutableMap -/
def k12 : Class := { plain "java/util/ImmutableCollections$AbstractImmutableMap" (some 11) with
  accessFlags := 1056
  interfaces := #[4]
  cf := some (fileOf pool12 14 #[.nestHost 8] #[{ accessFlags := 0, nameIndex := 5, descriptorIndex := 6, attributes := #[] }] 1056 2 #[19] #[])
  fields := #[]
  methods := #[k12m0]
  instanceTypes := #[(.object "java/util/Set"), (.object "java/util/Collection")]
  staticTypes := #[]
  resolved := Array.replicate 87 none
  statics := none }

def pool13 : Array CpInfo := pool [(1, .class_ 2), (0, u "java/util/ImmutableCollections"), (1, .class_ 6), (1, u "java/util/ImmutableCollections$AbstractImmutableMap"), (10, .class_ 19), (1, u "java/util/ImmutableCollections$MapN"), (0, u "size"), (0, u "I"), (4, u "table"), (0, u "[Ljava/lang/Object;")] 121

/-- java/util/ImmutableCollections$MapN -/
def k13 : Class := { plain "java/util/ImmutableCollections$MapN" (some 12) with
  accessFlags := 48
  interfaces := #[]
  cf := some (fileOf pool13 17 #[.nestHost 1] #[] 48 4 #[] #[{ accessFlags := 16, nameIndex := 26, descriptorIndex := 27, attributes := #[] }, { accessFlags := 16, nameIndex := 20, descriptorIndex := 21, attributes := #[] }])
  fields := #[{ name := "table", type := (.array (.object "java/lang/Object")), accessFlags := 16, slot := 2, constantValue := 0 }, { name := "size", type := .int, accessFlags := 16, slot := 3, constantValue := 0 }]
  methods := #[]
  instanceTypes := #[(.object "java/util/Set"), (.object "java/util/Collection"), (.array (.object "java/lang/Object")), .int]
  staticTypes := #[]
  resolved := Array.replicate 149 none
  statics := none }

def pool14 : Array CpInfo := pool [(1, .methodref 2 3), (0, .class_ 4), (0, .nameAndType 5 6), (0, u "java/lang/Object"), (0, u "<init>"), (0, u "()V"), (0, .class_ 8), (0, u "java/lang/Record")] 13

def k14c0 : Code := { maxStack := 1, maxLocals := 1, code := jdk_30_method_1_code, exceptionTable := #[], attributes := #[] }
def k14m0 : Method := { name := "<init>", desc := "()V", sig := { parameters := [], returnType := none }, accessFlags := 4, code := some k14c0 }
/-- java/lang/Record -/
def k14 : Class := { plain "java/lang/Record" (some 0) with
  accessFlags := 1057
  interfaces := #[]
  cf := some (fileOf pool14 7 #[] #[{ accessFlags := 4, nameIndex := 5, descriptorIndex := 6, attributes := #[] }] 1057 2 #[] #[])
  fields := #[]
  methods := #[k14m0]
  instanceTypes := #[]
  staticTypes := #[]
  resolved := Array.replicate 22 none
  statics := none }

def pool15 : Array CpInfo := pool [(1, .class_ 2), (0, u "com/example/pathwright/pathwright/value/Value"), (0, .class_ 4), (0, u "java/lang/Object")] 2

/-- com/example/pathwright/pathwright/value/Value -/
def k15 : Class := { plain "com/example/pathwright/pathwright/value/Value" (some 0) with
  accessFlags := 1537
  interfaces := #[]
  cf := some (fileOf pool15 1 #[] #[] 1537 3 #[] #[])
  fields := #[]
  methods := #[]
  instanceTypes := #[]
  staticTypes := #[]
  resolved := Array.replicate 7 none
  statics := none }

def pool16 : Array CpInfo := pool [(1, .class_ 2), (0, u "com/example/pathwright/pathwright/value/Term"), (0, .class_ 4), (0, u "java/lang/Object"), (0, .class_ 6), (0, u "com/example/pathwright/pathwright/value/Value"), (9, .class_ 17), (0, u "com/example/pathwright/pathwright/value/Term$Visitor")] 19

/-- com/example/pathwright/pathwright/value/Term -/
def k16 : Class := { plain "com/example/pathwright/pathwright/value/Term" (some 0) with
  accessFlags := 1537
  interfaces := #[15]
  cf := some (fileOf pool16 1 #[.nestMembers #[16]] #[] 1537 3 #[5] #[])
  fields := #[]
  methods := #[]
  instanceTypes := #[]
  staticTypes := #[]
  resolved := Array.replicate 37 none
  statics := none }

def pool17 : Array CpInfo := pool [(1, .methodref 2 3), (0, .class_ 4), (0, .nameAndType 5 6), (0, u "java/lang/Record"), (0, u "<init>"), (0, u "()V"), (0, .fieldref 8 9), (0, .class_ 10), (0, .nameAndType 11 12), (0, u "com/example/pathwright/pathwright/value/Input"), (0, u "number"), (0, u "I"), (0, .fieldref 8 14), (0, .nameAndType 15 16), (0, u "type"), (0, u "Lcom/example/pathwright/pathwright/value/PrimitiveType;"), (5, u "()I"), (18, .class_ 42), (0, u "com/example/pathwright/pathwright/value/Term"), (0, u "(ILcom/example/pathwright/pathwright/value/PrimitiveType;)V")] 32

def k17c0 : Code := { maxStack := 2, maxLocals := 3, code := prog_70_method_1_code, exceptionTable := #[], attributes := #[] }
def k17m0 : Method := { name := "<init>", desc := "(ILcom/example/pathwright/pathwright/value/PrimitiveType;)V", sig := { parameters := [.int, (.object "com/example/pathwright/pathwright/value/PrimitiveType")], returnType := none }, accessFlags := 1, code := some k17c0 }
def k17c1 : Code := { maxStack := 1, maxLocals := 1, code := prog_70_method_7_code, exceptionTable := #[], attributes := #[] }
def k17m1 : Method := { name := "number", desc := "()I", sig := { parameters := [], returnType := some .int }, accessFlags := 1, code := some k17c1 }
/-- com/example/pathwright/pathwright/value/Input -/
def k17 : Class := { plain "com/example/pathwright/pathwright/value/Input" (some 14) with
  accessFlags := 49
  interfaces := #[16]
  cf := some (fileOf pool17 8 #[] #[{ accessFlags := 1, nameIndex := 5, descriptorIndex := 43, attributes := #[] }, { accessFlags := 1, nameIndex := 11, descriptorIndex := 22, attributes := #[] }] 49 2 #[41] #[{ accessFlags := 18, nameIndex := 11, descriptorIndex := 12, attributes := #[] }, { accessFlags := 18, nameIndex := 15, descriptorIndex := 16, attributes := #[] }])
  fields := #[{ name := "number", type := .int, accessFlags := 18, slot := 0, constantValue := 0 }, { name := "type", type := (.object "com/example/pathwright/pathwright/value/PrimitiveType"), accessFlags := 18, slot := 1, constantValue := 0 }]
  methods := #[k17m0, k17m1]
  instanceTypes := #[.int, (.object "com/example/pathwright/pathwright/value/PrimitiveType")]
  staticTypes := #[]
  resolved := Array.replicate 76 none
  statics := none }

/-- the primitive byte -/
def k18 : Class := { plain "byte" none with kind := .primitive 'B', accessFlags := 0x411 }
/-- [B -/
def k19 : Class := { plain "[B" (some 0) with kind := .array 18 .byte, interfaces := #[10, 4], accessFlags := 1041 }

/-- the primitive int -/
def k20 : Class := { plain "int" none with kind := .primitive 'I', accessFlags := 0x411 }
/-- [I -/
def k21 : Class := { plain "[I" (some 0) with kind := .array 20 .int, interfaces := #[10, 4], accessFlags := 1041 }

/-- the primitive long -/
def k22 : Class := { plain "long" none with kind := .primitive 'J', accessFlags := 0x411 }
/-- [J -/
def k23 : Class := { plain "[J" (some 0) with kind := .array 22 .long, interfaces := #[10, 4], accessFlags := 1041 }

/-- [Ljava/lang/Object; -/
def k24 : Class := { plain "[Ljava/lang/Object;" (some 0) with kind := .array 0 (.object "java/lang/Object"), interfaces := #[10, 4], accessFlags := 1041 }

def heap : Heap := #[{ cls := 6, slots := #[.ref 3, .ref 4, .ref 5, .ref 6, .ref 7, .ref 8, .ref 9, .ref 10, .null], vm := .statics 6 },
  { cls := 9, slots := #[.long 0, .int 0, .null, .null, .null, .null, .null, .ref 11, .int 0, .int 0], vm := .statics 9 },
  { cls := 24, slots := #[], vm := .none },
  { cls := 6, slots := #[.null, .int 0, .int 0, .null, .null, .int 0, .int 0, .null], vm := .none },
  { cls := 6, slots := #[.null, .int 1, .int 0, .null, .null, .int 0, .int 0, .null], vm := .none },
  { cls := 6, slots := #[.null, .int 2, .int 0, .null, .null, .int 0, .int 0, .null], vm := .none },
  { cls := 6, slots := #[.null, .int 3, .int 0, .null, .null, .int 0, .int 0, .null], vm := .none },
  { cls := 6, slots := #[.null, .int 4, .int 0, .null, .null, .int 0, .int 0, .null], vm := .none },
  { cls := 6, slots := #[.null, .int 5, .int 0, .null, .null, .int 0, .int 0, .null], vm := .none },
  { cls := 6, slots := #[.null, .int 6, .int 0, .null, .null, .int 0, .int 0, .null], vm := .none },
  { cls := 6, slots := #[.null, .int 7, .int 0, .null, .null, .int 0, .int 0, .null], vm := .none },
  { cls := 13, slots := #[.null, .null, .ref 2, .int 0], vm := .none }]
def classes : Array Class := #[k0, k1, k2, k3, k4, k5, k6, k7, k8, k9, k10, k11, k12, k13, k14, k15, k16, k17, k18, k19, k20, k21, k22, k23, k24]
def interned : List (Array UInt16 × Addr) := []
def slotsUsed : Nat := 87
def theMethod : MethodId := ⟨1, 2⟩
def args0 : Array Value := #[.int 5, .int 1, .long 1, .long 2, .long 3, .long 4]
def aboutOver (below : List Frame) : State where
  vm := { classes := classes, interned := interned.toArray }
  heap := heap
  slotsUsed := slotsUsed
  threads := #[{ frames := .invoking theMethod args0 :: below }]
def below0 : List Frame := [.native { method := ⟨0, 0⟩, args := #[] }]
def about1 : State := aboutOver below0
def p0 : Program := .bare "" "" ""
def e0 : Env := launch0.env 0 0 0
theorem w_frames : about1.frames = Frame.invoking theMethod args0 :: below0 := rfl
set_option maxRecDepth 65536 in
theorem w_args : argsFit about1.vm theMethod args0 = true := by decide +kernel
set_option maxRecDepth 65536 in
theorem w_heap : heapFits about1 = true := by decide +kernel
set_option maxRecDepth 65536 in
theorem w_runnable : about1.curStatus? = some .runnable := by decide +kernel
set_option maxRecDepth 65536 in
theorem w_alone : about1.alone = true := by decide +kernel
set_option maxRecDepth 65536 in
theorem w_named : about1.methodNamed? x = some theMethod := by decide +kernel
set_option maxRecDepth 65536 in
theorem w_hears : about1.hears theMethod below0 = true := by decide +kernel
set_option maxRecDepth 65536 in
theorem w_ripe : about1.ripe theMethod args0 below0 = true := by decide +kernel
theorem w_running : about1.status = .running := rfl
set_option maxRecDepth 65536 in
theorem w_room : about1.hasRoom e0.platform room_1 = true :=
  launch0.hasRoom_least _ room_1 (by decide +kernel) (by decide +kernel) (by decide +kernel) (by decide +kernel) (by decide +kernel) (by decide +kernel)
theorem allAtoms_all (ts : List Jvm.Cond) (a : Array Jvm.Value) (st : Jvm.State) : (allAtoms ts).before a st = ts.all (fun c => c.before a st) := by
  induction ts with
  | nil => rfl
  | cons c t ih =>
    show (Jvm.Cond.and c (allAtoms t)).before a st = _
    rw [Jvm.Cond.before_and, ih, List.all_cons]
def words1 : List Jvm.Cond := Jvm.Cond.code x code maxLocals ret :: tables_1
/-- a 'code' word, met by the world's own term for the bytes: nothing is compared byte by byte -/
theorem code_word {y : MethodName} {bytes : ByteArray} {mx : Nat} {rt : Option FieldType} {a : Array Value} {s : State} {m : MethodId} {meth : Method} {c : Code} (h1 : s.methodNamed? y = some m) (h2 : s.vm.method? m = some meth) (h3 : meth.code = some c) (h4 : c.code = bytes)
    (h5 : (c.maxLocals == mx && c.exceptionTable.isEmpty && decide (c.maxStack ≤ mostOperands) && decide (meth.sig.returnType = rt) && !meth.locks && decide (parseMethodDescriptor y.desc = some meth.sig)) = true) : (Jvm.Cond.code y bytes mx rt).before a s = true := by
  simp only [Bool.and_eq_true, beq_iff_eq, Bool.not_eq_true', decide_eq_true_eq] at h5
  obtain ⟨⟨⟨⟨⟨g1, g2⟩, g3⟩, g4⟩, g5⟩, g6⟩ := h5
  simp [Cond.before, Cond.holds, Cond.value, h1, h2, h3, h4, g1, g2, g3, g4, g5, g6]
def isCode : Jvm.Cond → Bool
  | .code _ _ _ _ => true
  | _ => false
theorem all_split {L : List Jvm.Cond} {P : Jvm.Cond → Bool} (h1 : L.all (fun c => isCode c || P c) = true) (h2 : ∀ c ∈ L.filter isCode, P c = true) : L.all P = true := by
  refine List.all_eq_true.mpr fun c hc => ?_
  have h := List.all_eq_true.mp h1 c hc
  rcases Bool.eq_false_or_eq_true (isCode c) with hi | hi
  · exact h2 c (List.mem_filter.mpr ⟨hc, hi⟩)
  · simpa [hi] using h
set_option maxRecDepth 65536 in
theorem w_c0 : (Jvm.Cond.code x code maxLocals ret).before args0 about1 = true := code_word (m := ⟨1, 2⟩) (meth := k1m2) (c := k1c2) (by decide +kernel) rfl rfl rfl (by decide +kernel)
set_option maxRecDepth 65536 in
theorem w_c1 : (Jvm.Cond.code ({ cls := "com/example/pathwright/pathwright/value/AssignmentValueOfPinLaw", name := "typeOf", desc := "(I)Lcom/example/pathwright/pathwright/value/PrimitiveType;" } : Jvm.MethodName) method_2_code (1 : Nat) (Option.some (Jvm.ClassFile.FieldType.object "com/example/pathwright/pathwright/value/PrimitiveType"))).before args0 about1 = true := code_word (m := ⟨1, 1⟩) (meth := k1m1) (c := k1c1) (by decide +kernel) rfl rfl rfl (by decide +kernel)
set_option maxRecDepth 65536 in
theorem w_c2 : (Jvm.Cond.code ({ cls := "com/example/pathwright/pathwright/value/Assignment", name := "<init>", desc := "([J)V" } : Jvm.MethodName) prog_53_method_1_code (2 : Nat) (Option.none : Option Jvm.ClassFile.FieldType)).before args0 about1 = true := code_word (m := ⟨7, 0⟩) (meth := k7m0) (c := k7c0) (by decide +kernel) rfl rfl rfl (by decide +kernel)
set_option maxRecDepth 65536 in
theorem w_c3 : (Jvm.Cond.code ({ cls := "java/util/Map", name := "of", desc := "()Ljava/util/Map;" } : Jvm.MethodName) jdk_72_method_26_code (0 : Nat) (Option.some (Jvm.ClassFile.FieldType.object "java/util/Map"))).before args0 about1 = true := code_word (m := ⟨8, 0⟩) (meth := k8m0) (c := k8c0) (by decide +kernel) rfl rfl rfl (by decide +kernel)
set_option maxRecDepth 65536 in
theorem w_c4 : (Jvm.Cond.code ({ cls := "com/example/pathwright/pathwright/value/Assignment", name := "<init>", desc := "([JLjava/util/Map;)V" } : Jvm.MethodName) prog_53_method_2_code (3 : Nat) (Option.none : Option Jvm.ClassFile.FieldType)).before args0 about1 = true := code_word (m := ⟨7, 1⟩) (meth := k7m1) (c := k7c1) (by decide +kernel) rfl rfl rfl (by decide +kernel)
set_option maxRecDepth 65536 in
theorem w_c5 : (Jvm.Cond.code ({ cls := "java/lang/Object", name := "<init>", desc := "()V" } : Jvm.MethodName) object_method_1_code (1 : Nat) (Option.none : Option Jvm.ClassFile.FieldType)).before args0 about1 = true := code_word (m := ⟨0, 0⟩) (meth := k0m0) (c := k0c0) (by decide +kernel) rfl rfl rfl (by decide +kernel)
set_option maxRecDepth 65536 in
theorem w_c6 : (Jvm.Cond.code ({ cls := "java/util/Map", name := "copyOf", desc := "(Ljava/util/Map;)Ljava/util/Map;" } : Jvm.MethodName) jdk_72_method_39_code (1 : Nat) (Option.some (Jvm.ClassFile.FieldType.object "java/util/Map"))).before args0 about1 = true := code_word (m := ⟨8, 1⟩) (meth := k8m1) (c := k8c1) (by decide +kernel) rfl rfl rfl (by decide +kernel)
set_option maxRecDepth 65536 in
theorem w_c7 : (Jvm.Cond.code ({ cls := "com/example/pathwright/pathwright/value/Input", name := "<init>", desc := "(ILcom/example/pathwright/pathwright/value/PrimitiveType;)V" } : Jvm.MethodName) prog_70_method_1_code (3 : Nat) (Option.none : Option Jvm.ClassFile.FieldType)).before args0 about1 = true := code_word (m := ⟨17, 0⟩) (meth := k17m0) (c := k17c0) (by decide +kernel) rfl rfl rfl (by decide +kernel)
set_option maxRecDepth 65536 in
theorem w_c8 : (Jvm.Cond.code ({ cls := "java/lang/Record", name := "<init>", desc := "()V" } : Jvm.MethodName) jdk_30_method_1_code (1 : Nat) (Option.none : Option Jvm.ClassFile.FieldType)).before args0 about1 = true := code_word (m := ⟨14, 0⟩) (meth := k14m0) (c := k14c0) (by decide +kernel) rfl rfl rfl (by decide +kernel)
set_option maxRecDepth 65536 in
theorem w_c9 : (Jvm.Cond.code ({ cls := "com/example/pathwright/pathwright/value/Assignment", name := "valueOf", desc := "(Lcom/example/pathwright/pathwright/value/Input;)J" } : Jvm.MethodName) prog_53_method_4_code (3 : Nat) (Option.some Jvm.ClassFile.FieldType.long)).before args0 about1 = true := code_word (m := ⟨7, 2⟩) (meth := k7m2) (c := k7c2) (by decide +kernel) rfl rfl rfl (by decide +kernel)
set_option maxRecDepth 65536 in
theorem w_c10 : (Jvm.Cond.code ({ cls := "com/example/pathwright/pathwright/value/Input", name := "number", desc := "()I" } : Jvm.MethodName) prog_70_method_7_code (1 : Nat) (Option.some Jvm.ClassFile.FieldType.int)).before args0 about1 = true := code_word (m := ⟨17, 1⟩) (meth := k17m1) (c := k17c1) (by decide +kernel) rfl rfl rfl (by decide +kernel)
def codes1 : List Jvm.Cond := [Jvm.Cond.code x code maxLocals ret, Jvm.Cond.code ({ cls := "com/example/pathwright/pathwright/value/AssignmentValueOfPinLaw", name := "typeOf", desc := "(I)Lcom/example/pathwright/pathwright/value/PrimitiveType;" } : Jvm.MethodName) method_2_code (1 : Nat) (Option.some (Jvm.ClassFile.FieldType.object "com/example/pathwright/pathwright/value/PrimitiveType")), Jvm.Cond.code ({ cls := "com/example/pathwright/pathwright/value/Assignment", name := "<init>", desc := "([J)V" } : Jvm.MethodName) prog_53_method_1_code (2 : Nat) (Option.none : Option Jvm.ClassFile.FieldType), Jvm.Cond.code ({ cls := "java/util/Map", name := "of", desc := "()Ljava/util/Map;" } : Jvm.MethodName) jdk_72_method_26_code (0 : Nat) (Option.some (Jvm.ClassFile.FieldType.object "java/util/Map")), Jvm.Cond.code ({ cls := "com/example/pathwright/pathwright/value/Assignment", name := "<init>", desc := "([JLjava/util/Map;)V" } : Jvm.MethodName) prog_53_method_2_code (3 : Nat) (Option.none : Option Jvm.ClassFile.FieldType), Jvm.Cond.code ({ cls := "java/lang/Object", name := "<init>", desc := "()V" } : Jvm.MethodName) object_method_1_code (1 : Nat) (Option.none : Option Jvm.ClassFile.FieldType), Jvm.Cond.code ({ cls := "java/util/Map", name := "copyOf", desc := "(Ljava/util/Map;)Ljava/util/Map;" } : Jvm.MethodName) jdk_72_method_39_code (1 : Nat) (Option.some (Jvm.ClassFile.FieldType.object "java/util/Map")), Jvm.Cond.code ({ cls := "com/example/pathwright/pathwright/value/Input", name := "<init>", desc := "(ILcom/example/pathwright/pathwright/value/PrimitiveType;)V" } : Jvm.MethodName) prog_70_method_1_code (3 : Nat) (Option.none : Option Jvm.ClassFile.FieldType), Jvm.Cond.code ({ cls := "java/lang/Record", name := "<init>", desc := "()V" } : Jvm.MethodName) jdk_30_method_1_code (1 : Nat) (Option.none : Option Jvm.ClassFile.FieldType), Jvm.Cond.code ({ cls := "com/example/pathwright/pathwright/value/Assignment", name := "valueOf", desc := "(Lcom/example/pathwright/pathwright/value/Input;)J" } : Jvm.MethodName) prog_53_method_4_code (3 : Nat) (Option.some Jvm.ClassFile.FieldType.long), Jvm.Cond.code ({ cls := "com/example/pathwright/pathwright/value/Input", name := "number", desc := "()I" } : Jvm.MethodName) prog_70_method_7_code (1 : Nat) (Option.some Jvm.ClassFile.FieldType.int)]
set_option maxRecDepth 65536 in
theorem codes_eq : words1.filter isCode = codes1 := rfl
theorem w_codes : ∀ c ∈ words1.filter isCode, c.before args0 about1 = true := by
  rw [codes_eq]
  intro c hc
  simp only [codes1, List.mem_cons, List.not_mem_nil, or_false] at hc
  rcases hc with rfl | rfl | rfl | rfl | rfl | rfl | rfl | rfl | rfl | rfl | rfl
  · exact w_c0
  · exact w_c1
  · exact w_c2
  · exact w_c3
  · exact w_c4
  · exact w_c5
  · exact w_c6
  · exact w_c7
  · exact w_c8
  · exact w_c9
  · exact w_c10
set_option maxRecDepth 65536 in
theorem w_t1 : (words1.take 24).all (fun c => isCode c || c.before args0 about1) = true := by decide +kernel
set_option maxRecDepth 65536 in
theorem w_t2 : ((words1.drop 24).take 24).all (fun c => isCode c || c.before args0 about1) = true := by decide +kernel
set_option maxRecDepth 65536 in
theorem w_t3 : (((words1.drop 24).drop 24).take 24).all (fun c => isCode c || c.before args0 about1) = true := by decide +kernel
set_option maxRecDepth 65536 in
theorem w_t4 : (((words1.drop 24).drop 24).drop 24).all (fun c => isCode c || c.before args0 about1) = true := by decide +kernel
theorem w_tables : (allAtoms (Jvm.Cond.code x code maxLocals ret :: tables_1)).before args0 about1 = true := by
  rw [allAtoms_all]
  show words1.all (fun c => c.before args0 about1) = true
  refine all_split ?_ w_codes
  rw [← List.take_append_drop 24 words1, List.all_append, w_t1, ← List.take_append_drop 24 (words1.drop 24), List.all_append, w_t2, ← List.take_append_drop 24 ((words1.drop 24).drop 24), List.all_append, w_t3, w_t4]
  rfl
set_option maxRecDepth 65536 in
theorem w_rest : rest_1_c.before args0 about1 = true := by decide +kernel
set_option maxRecDepth 65536 in
theorem w_case : (Jvm.Cond.and given_1 narrow_1).before args0 about1 = true := by decide +kernel
theorem w_applies : (headSpec (Jvm.Cond.code x code maxLocals ret :: tables_1) room_1).applies x e0.platform about1 = true :=
  (Spec.applies_iff w_frames).mpr ⟨w_running, w_runnable, w_alone, w_named, w_hears, w_ripe, w_room, w_tables⟩
theorem atStart : AtStart classFile x code maxLocals ret World_1 tables_1 room_1 Calls_1 rest_1 Pre_1 launch0 p0 e0 about1 theMethod args0 below0 :=
  ⟨lists_1, trivial, launch0.admits_env _ _ _, launch0.least_env, fairChoices_fair.cas, fairChoices_fair.clock, w_frames, w_args, w_heap, w_applies, trivial, w_rest, w_case⟩
end start1
theorem witness_1 : WitnessClaimed_1 := ⟨start1.p0, start1.e0, start1.about1, start1.theMethod, start1.args0, start1.below0, start1.atStart⟩
end Jvm.Pilot.@@N@@
