import JvmDerived
import JvmDerived.Pilot.@@N@@Statement
import JvmDerived.Pilot.@@N@@Code
set_option linter.unusedVariables false
set_option linter.unusedSimpArgs false
namespace Jvm.Pilot.@@N@@
open Jvm Jvm.ClassFile Sem Op Lib Jvm.Free Jvm.Stand Jvm.LawKit Jvm.RoadKit Bundle Jvm.Pilot.@@N@@.Jvm.D
section Own
variable {p : Program} {l : Launch} {e : Env} {R : Room} {s : State} {m : MethodId} {args : Array Value} {below : List Frame} {meth : Method} {c : Code} {T : State} {locs : List Loc} {cells slots : Nat} {Z : State} {a0 : Array Value} {h : Heap}
/-- the walk ends from A: it returns, Q holds, the frame is kept -/
def own_E (p : Program) (e : Env) (below : List Frame) (s : State) (Q : Option Value → Heap → List Loc → Prop) (K N : Nat) (A : State) : Prop :=
  ∃ t o, Steps p.tables e below A t ∧ t.status = .running ∧ Ended t below o ∧ ∃ v L, o = .returned v ∧ Q v t.heap L ∧ FrameEnd s o t L K N
variable {Q : Option Value → Heap → List Loc → Prop} {K N : Nat} {A A' : State}
theorem own_go (h : ∀ t, Steps p.tables e below A' t → Steps p.tables e below A t) (k : own_E p e below s Q K N A') : own_E p e below s Q K N A := by
  obtain ⟨t, o, h1, h2⟩ := k
  exact ⟨t, o, h _ h1, h2⟩
theorem own_ret (X : Stand p l e R s m args below meth c T locs cells slots) (hx : p.tables.exec = Jvm.exec) {pc : Nat} {Ls : Array Slot} {w : Value} {t : FieldType} {i : Instr} {rest : List Value} (hret : meth.sig.returnType = some t) (hlk : meth.locks = false) (hn : narrow t w = w)
    (hi : (i = .ireturn ∧ (t = .int ∨ t = .boolean ∨ t = .byte ∨ t = .char ∨ t = .short) ∧ ∃ z, w = .int z) ∨ (i = .lreturn ∧ t = .long ∧ ∃ z, w = .long z) ∨ (i = .dreturn ∧ t = .double ∧ ∃ z, w = .double z) ∨ (i = .freturn ∧ t = .float ∧ ∃ z, w = .float z) ∨ (i = .areturn ∧ t.isReference = true ∧ w.isRef = true))
    (hd : decode c.code pc = .ok (i, 1)) (hQ : Q (some w) T.heap locs) (hK : cells ≤ K) (hN : slots ≤ N) : own_E p e below s Q K N (T.setTop (mkF m pc Ls (w :: rest))) := by
  obtain ⟨fs, hr, hrun, hended, hW, hsame⟩ := X.leave (v := some w) (fun h => by rw [hret] at h; cases h) hlk
  exact ⟨_, _, retOut X hx hret hn hi hd hr, hrun, hended, _, _, rfl, hQ, ⟨_, rfl⟩, hW, hsame.mono hK hN⟩
theorem own_ret0 (X : Stand p l e R s m args below meth c T locs cells slots) (hx : p.tables.exec = Jvm.exec) {pc : Nat} {Ls : Array Slot} (hret : meth.sig.returnType = none) (hlk : meth.locks = false)
    (hd : decode c.code pc = .ok (.return_, 1)) (hQ : Q none T.heap locs) (hK : cells ≤ K) (hN : slots ≤ N) : own_E p e below s Q K N (T.setTop (mkF m pc Ls [])) := by
  obtain ⟨fs, hr, hrun, hended, hW, hsame⟩ := X.leave (v := none) (fun _ => rfl) hlk
  exact ⟨_, _, X.returnOut hx hret hd hr, hrun, hended, _, _, rfl, hQ, ⟨_, rfl⟩, hW, hsame.mono hK hN⟩
/-- what a callee is asked: its contract -/
abbrev own_M (l : Launch) (y : MethodName) (bytes : ByteArray) (maxL : Nat) (ret : Option FieldType) (rm : Room) (Z : State) (as' : Array Value) (h : Heap) (Q : Option Value → Heap → List Loc → Prop) : Prop :=
  MetFree l y (head1 [Jvm.Cond.code y bytes maxL ret] rm) (fun a U => a = as' ∧ Z.Warmed39 U.vm ∧ U.heap = h) (fun _ _ _ _ _ => True) (fun _ U o U' => ∃ v L, o = .returned v ∧ Q v U'.heap L ∧ FrameEnd U o U' L rm.cells rm.slots)
theorem own_callS (X : Stand p l e R s m args below meth c T locs cells slots) (hx : p.tables.exec = Jvm.exec) (hZ : Z.Warmed39 s.vm) {own : String} {index : Nat} {y : MethodName} {bytes : ByteArray} {maxL : Nat} {ret : Option FieldType} {rm : Room} {W : Nat} {argsL rest : List Value}
    (hown : s.vm.findClass own = some m.cls) (w1 : (Jvm.Cond.methodLink own index y).before a0 Z = true) (w2 : (Jvm.Cond.static y).before a0 Z = true) (w3 : (Jvm.Cond.initialized y.cls).before a0 Z = true) (w4 : (Jvm.Cond.code y bytes maxL ret).before a0 Z = true)
    (hy : y.cls ≠ "java/lang/invoke/MethodHandle" ∧ y.cls ≠ "java/lang/invoke/VarHandle") (hM : own_M l y bytes maxL ret rm Z argsL.toArray h Q) (eT : T.heap = h)
    (hf : rm.frames + 1 ≤ R.frames) (hl : W + (maxL + 11) + rm.locals ≤ R.locals) (hc : cells + rm.cells ≤ R.cells) (hs : slots + rm.slots ≤ R.slots)
    {g : JFrame} (hg : g.method = m) (hsize : g.locals.size = c.maxLocals) (hlen : ∀ sig, parseMethodDescriptor y.desc = some sig → argsL.length = sig.parameters.length)
    (hstack : g.stack = argsL.reverse ++ rest) (hW : 2 * g.monitorRoom + (rest.map fun v => v.category).sum ≤ W) (hdg : decode c.code g.pc = .ok (.invokestatic index, 3)) :
    ∃ v T' L, Stand p l e R s m args below meth c T' (locs ++ L) (cells + rm.cells) (slots + rm.slots) ∧ Q v T'.heap L ∧ ∀ target, Steps p.tables e below (T'.setTop { g with pc := g.pc + 3, stack := v.toList ++ rest }) target → Steps p.tables e below (T.setTop g) target := by
  obtain ⟨v, _, ⟨T', L', k', n'⟩, -, X', ⟨L, hQ, e1, e2, e3⟩, st⟩ := Jvm.LawKit.callS X hx (y := y) hown (mvT hZ w1) (mvT hZ w2) (mvT hZ w3) (mvT hZ w4) hy (backOf (W := W) hM hZ w4 w3 hf hl) hg hsize hlen hstack hW hdg (fun _ _ => ⟨rfl, eT, hc, hs⟩)
  dsimp only [Pt.U, Pt.locs, Pt.cells, Pt.slots] at X' e1 e2 e3 st hQ
  subst e1 e2 e3
  exact ⟨v, T', L, X', hQ, st⟩
theorem own_callV (X : Stand p l e R s m args below meth c T locs cells slots) (hx : p.tables.exec = Jvm.exec) (hZ : Z.Warmed39 s.vm) {own C : String} {index : Nat} {y : MethodName} {bytes : ByteArray} {maxL : Nat} {ret : Option FieldType} {rm : Room} {W : Nat} {b : Addr} {argsL rest : List Value}
    (hown : s.vm.findClass own = some m.cls) (w1 : (Jvm.Cond.methodLink own index y).before a0 Z = true) (w2 : (Jvm.Cond.declares y).before a0 Z = true) (w3 : (Jvm.Cond.selects C y y).before a0 Z = true) (w4 : (Jvm.Cond.instanceMethod y).before a0 Z = true) (w5 : (Jvm.Cond.code y bytes maxL ret).before a0 Z = true) (w6 : (Jvm.Cond.initialized y.cls).before a0 Z = true)
    (hy : y.cls ≠ "java/lang/invoke/MethodHandle" ∧ y.cls ≠ "java/lang/invoke/VarHandle") (hM : own_M l y bytes maxL ret rm Z (.ref b :: argsL).toArray h Q) (eT : T.heap = h) (E : Exa Z h b C)
    (hf : rm.frames + 1 ≤ R.frames) (hl : W + (maxL + 11) + rm.locals ≤ R.locals) (hc : cells + rm.cells ≤ R.cells) (hs : slots + rm.slots ≤ R.slots)
    {g : JFrame} (hg : g.method = m) (hsize : g.locals.size = c.maxLocals) (hlen : ∀ sig, parseMethodDescriptor y.desc = some sig → argsL.length = sig.parameters.length)
    (hstack : g.stack = argsL.reverse ++ .ref b :: rest) (hW : 2 * g.monitorRoom + (rest.map fun v => v.category).sum ≤ W) (hdg : decode c.code g.pc = .ok (.invokevirtual index, 3)) :
    ∃ v T' L, Stand p l e R s m args below meth c T' (locs ++ L) (cells + rm.cells) (slots + rm.slots) ∧ Q v T'.heap L ∧ ∀ target, Steps p.tables e below (T'.setTop { g with pc := g.pc + 3, stack := v.toList ++ rest }) target → Steps p.tables e below (T.setTop g) target := by
  obtain ⟨cq, kq, q1, -, q3⟩ := isOf hZ eT E
  obtain ⟨v, _, ⟨T', L', k', n'⟩, -, X', ⟨L, hQ, e1, e2, e3⟩, st⟩ := X.virtualBack hx (y := y) (z := y) hown (mvT hZ w1) (mvT hZ w2) (notFace_of_selects (args := #[]) (mvT hZ w3)) (mvT hZ w3) (mvT hZ w4) hy (backOf (W := W) hM hZ w5 w6 hf hl) q1 q3 hg hsize (Steps.refl _) hlen hstack hW hdg (fun _ _ => ⟨rfl, eT, hc, hs⟩)
  dsimp only [Pt.U, Pt.locs, Pt.cells, Pt.slots] at X' e1 e2 e3 st hQ
  subst e1 e2 e3
  exact ⟨v, T', L, X', hQ, fun _ k => st.trans k⟩
theorem own_callI (X : Stand p l e R s m args below meth c T locs cells slots) (hx : p.tables.exec = Jvm.exec) (hZ : Z.Warmed39 s.vm) {own : String} {index : Nat} {y : MethodName} {bytes : ByteArray} {maxL : Nat} {rm : Room} {W : Nat} {b : Addr} {argsL rest : List Value}
    (hown : s.vm.findClass own = some m.cls) (hy1 : y.name = "<init>") (w1 : (Jvm.Cond.methodLink own index y).before a0 Z = true) (w2 : (Jvm.Cond.instanceMethod y).before a0 Z = true) (w3 : (Jvm.Cond.initialized y.cls).before a0 Z = true) (w4 : (Jvm.Cond.code y bytes maxL none).before a0 Z = true)
    (hy : y.cls ≠ "java/lang/invoke/MethodHandle" ∧ y.cls ≠ "java/lang/invoke/VarHandle") (hM : own_M l y bytes maxL none rm Z (.ref b :: argsL).toArray h Q) (eT : T.heap = h)
    (hf : rm.frames + 1 ≤ R.frames) (hl : W + (maxL + 11) + rm.locals ≤ R.locals) (hc : cells + rm.cells ≤ R.cells) (hs : slots + rm.slots ≤ R.slots)
    {g : JFrame} (hg : g.method = m) (hsize : g.locals.size = c.maxLocals) (hlen : ∀ sig, parseMethodDescriptor y.desc = some sig → argsL.length = sig.parameters.length)
    (hstack : g.stack = argsL.reverse ++ .ref b :: rest) (hW : 2 * g.monitorRoom + (rest.map fun v => v.category).sum ≤ W) (hdg : decode c.code g.pc = .ok (.invokespecial index, 3)) :
    ∃ v T' L, Stand p l e R s m args below meth c T' (locs ++ L) (cells + rm.cells) (slots + rm.slots) ∧ Q v T'.heap L ∧ ∀ target, Steps p.tables e below (T'.setTop { g with pc := g.pc + 3, stack := v.toList ++ rest }) target → Steps p.tables e below (T.setTop g) target := by
  obtain ⟨v, _, ⟨T', L', k', n'⟩, -, X', ⟨L, hQ, e1, e2, e3⟩, st⟩ := X.specialBack hx (y := y) hy1 hown (mvT hZ w1) (mvT hZ w2) (mvT hZ w4) hy (backOf (W := W) hM hZ w4 w3 hf hl) hg hsize (Steps.refl _) hlen hstack hW hdg (fun _ _ => ⟨rfl, eT, hc, hs⟩)
  dsimp only [Pt.U, Pt.locs, Pt.cells, Pt.slots] at X' e1 e2 e3 st hQ
  subst e1 e2 e3
  exact ⟨v, T', L, X', hQ, fun _ k => st.trans k⟩
theorem own_callVU (X : Stand p l e R s m args below meth c T locs cells slots) (hx : p.tables.exec = Jvm.exec) (hZ : Z.Warmed39 s.vm) {own C owner : String} {index : Nat} {y z : MethodName} {bytes : ByteArray} {maxL : Nat} {ret : Option FieldType} {rm : Room} {W : Nat} {b : Addr} {argsL rest : List Value}
    (hown : s.vm.findClass own = some m.cls) (w1 : (Jvm.Cond.methodLink own index y).before a0 Z = true) (w2 : (Jvm.Cond.sameMethod y.cls owner y.name y.desc).before a0 Z = true) (w2' : (Jvm.Cond.declares ⟨owner, y.name, y.desc⟩).before a0 Z = true) (w3 : (Jvm.Cond.selects C y z).before a0 Z = true) (w4 : (Jvm.Cond.instanceMethod z).before a0 Z = true) (w5 : (Jvm.Cond.code z bytes maxL ret).before a0 Z = true) (w6 : (Jvm.Cond.initialized z.cls).before a0 Z = true)
    (hy : owner ≠ "java/lang/invoke/MethodHandle" ∧ owner ≠ "java/lang/invoke/VarHandle") (hM : own_M l z bytes maxL ret rm Z (.ref b :: argsL).toArray h Q) (eT : T.heap = h) (E : Exa Z h b C)
    (hf : rm.frames + 1 ≤ R.frames) (hl : W + (maxL + 11) + rm.locals ≤ R.locals) (hc : cells + rm.cells ≤ R.cells) (hs : slots + rm.slots ≤ R.slots)
    {g : JFrame} (hg : g.method = m) (hsize : g.locals.size = c.maxLocals) (hlen : ∀ sig, parseMethodDescriptor y.desc = some sig → argsL.length = sig.parameters.length)
    (hstack : g.stack = argsL.reverse ++ .ref b :: rest) (hW : 2 * g.monitorRoom + (rest.map fun v => v.category).sum ≤ W) (hdg : decode c.code g.pc = .ok (.invokevirtual index, 3)) :
    ∃ v T' L, Stand p l e R s m args below meth c T' (locs ++ L) (cells + rm.cells) (slots + rm.slots) ∧ Q v T'.heap L ∧ ∀ target, Steps p.tables e below (T'.setTop { g with pc := g.pc + 3, stack := v.toList ++ rest }) target → Steps p.tables e below (T.setTop g) target := by
  obtain ⟨cq, kq, q1, -, q3⟩ := isOf hZ eT E
  obtain ⟨v, _, ⟨T', L', k', n'⟩, -, X', ⟨L, hQ, e1, e2, e3⟩, st⟩ := X.virtualBackUp hx (x := y) (y := z) hown (mvT hZ w1) (mvT hZ w2) (mvT hZ w2') hy (mvT hZ w3) (mvT hZ w4) (backOf (W := W) hM hZ w5 w6 hf hl) q1 q3 hg hsize (Steps.refl _) hlen hstack hW hdg (fun _ _ => ⟨rfl, eT, hc, hs⟩)
  dsimp only [Pt.U, Pt.locs, Pt.cells, Pt.slots] at X' e1 e2 e3 st hQ
  subst e1 e2 e3
  exact ⟨v, T', L, X', hQ, fun _ k => st.trans k⟩
theorem own_aaload (X : Stand p l e R s m args below meth c T locs cells slots) (hx : p.tables.exec = Jvm.exec) (hZ : Z.Warmed39 s.vm) (eT : T.heap = h) {a : Addr} {cl : Cell} {ty : FieldType} (F : Arr Z h a cl ty) (hty : ty.isReference = true) {j : Int32} {v : Value} (hin : ¬ (j < 0 ∨ cl.slots.size ≤ j.toNatClampNeg)) (hv : cl.slots[j.toNatClampNeg]? = some v)
    {g : JFrame} (hg : g.method = m) {rest : List Value} (hs : g.stack = .int j :: .ref a :: rest) (hd : decode c.code g.pc = .ok (.aaload, 1)) : ∀ target, Steps p.tables e below (T.setTop { g with pc := g.pc + 1, stack := v :: rest }) target → Steps p.tables e below (T.setTop g) target :=
  X.aaload hx (by rw [eT]; exact F.1) (State.isArrayOf_alike hZ.alike F.2.1) hty F.2.2 hin hv hg hs hd
theorem own_laload (X : Stand p l e R s m args below meth c T locs cells slots) (hx : p.tables.exec = Jvm.exec) (hZ : Z.Warmed39 s.vm) (eT : T.heap = h) {a : Addr} {cl : Cell} (F : Arr Z h a cl .long) {j : Int32} {v : Value} (hin : ¬ (j < 0 ∨ cl.slots.size ≤ j.toNatClampNeg)) (hv : cl.slots[j.toNatClampNeg]? = some v)
    {g : JFrame} (hg : g.method = m) {rest : List Value} (hs : g.stack = .int j :: .ref a :: rest) (hd : decode c.code g.pc = .ok (.laload, 1)) : ∀ target, Steps p.tables e below (T.setTop { g with pc := g.pc + 1, stack := v :: rest }) target → Steps p.tables e below (T.setTop g) target :=
  X.laload hx (by rw [eT]; exact F.1) (State.isArrayOf_alike hZ.alike F.2.1) F.2.2 hin hv hg hs hd
theorem own_baload (X : Stand p l e R s m args below meth c T locs cells slots) (hx : p.tables.exec = Jvm.exec) (hZ : Z.Warmed39 s.vm) (eT : T.heap = h) {a : Addr} {cl : Cell} (F : Arr Z h a cl .byte) {j : Int32} {v : Value} (hin : ¬ (j < 0 ∨ cl.slots.size ≤ j.toNatClampNeg)) (hv : cl.slots[j.toNatClampNeg]? = some v)
    {g : JFrame} (hg : g.method = m) {rest : List Value} (hs : g.stack = .int j :: .ref a :: rest) (hd : decode c.code g.pc = .ok (.baload, 1)) : ∀ target, Steps p.tables e below (T.setTop { g with pc := g.pc + 1, stack := v :: rest }) target → Steps p.tables e below (T.setTop g) target :=
  X.baloadBytes hx (by rw [eT]; exact F.1) (State.isArrayOf_alike hZ.alike F.2.1) F.2.2 hin hv hg hs hd
theorem own_zaload (X : Stand p l e R s m args below meth c T locs cells slots) (hx : p.tables.exec = Jvm.exec) (hZ : Z.Warmed39 s.vm) (eT : T.heap = h) {a : Addr} {cl : Cell} (F : Arr Z h a cl .boolean) {j : Int32} {v : Value} (hin : ¬ (j < 0 ∨ cl.slots.size ≤ j.toNatClampNeg)) (hv : cl.slots[j.toNatClampNeg]? = some v)
    {g : JFrame} (hg : g.method = m) {rest : List Value} (hs : g.stack = .int j :: .ref a :: rest) (hd : decode c.code g.pc = .ok (.baload, 1)) : ∀ target, Steps p.tables e below (T.setTop { g with pc := g.pc + 1, stack := v :: rest }) target → Steps p.tables e below (T.setTop g) target :=
  X.baloadBooleans hx (by rw [eT]; exact F.1) (State.isArrayOf_alike hZ.alike F.2.1) F.2.2 hin hv hg hs hd
theorem own_alen (X : Stand p l e R s m args below meth c T locs cells slots) (hx : p.tables.exec = Jvm.exec) (hZ : Z.Warmed39 s.vm) (eT : T.heap = h) {a : Addr} {cl : Cell} {ty : FieldType} (F : Arr Z h a cl ty) {n : Int32} (hn : cl.slots.size.toInt32 = n)
    {g : JFrame} (hg : g.method = m) {rest : List Value} (hs : g.stack = .ref a :: rest) (hd : decode c.code g.pc = .ok (.arraylength, 1)) : ∀ target, Steps p.tables e below (T.setTop { g with pc := g.pc + 1, stack := .int n :: rest }) target → Steps p.tables e below (T.setTop g) target :=
  fun t k => X.arraylength hx (by rw [eT]; exact F.1) (State.isArrayOf_alike hZ.alike F.2.1) hg hs hd t (by rw [hn]; exact k)
theorem own_elemS {t u : Term} {a w : Addr} {cl : Cell} {k : Int32} (ev : t.eval args s none [] s = some (.ref a)) (hc : s.heap[a]? = some cl) (evu : u.eval args s none [] s = some (.ref w)) (he : (Jvm.Cond.eq (.elem t (.int k)) u).value args s none s [] = some true) :
    ¬ (k < 0 ∨ cl.slots.size ≤ k.toNatClampNeg) ∧ cl.slots[k.toNatClampNeg]? = some (.ref w) := by
  obtain ⟨x, y, h1, h2, h3, h4⟩ := cmp_v (Or.inl he)
  cases evu.symm.trans h2
  have h5 := gotT (eq_R h1 h2 h4.2 rfl) he
  subst h5
  exact elem_in h1 ev (Term.int_eval k) hc
theorem own_lenS {t : Term} {a : Addr} {cl : Cell} {n : Int32} (ev : t.eval args s none [] s = some (.ref a)) (hc : s.heap[a]? = some cl) (he : (Jvm.Cond.eq (.length t) (.int n)).value args s none s [] = some true) : cl.slots.size < 2 ^ 31 ∧ cl.slots.size.toInt32 = n := by
  obtain ⟨x, y, h1, h2, h3, h4⟩ := cmp_v (Or.inl he)
  cases (Term.int_eval n).symm.trans h2
  obtain ⟨z, rfl⟩ := h4
  have h5 : z = n := by simpa [Jvm.Cond.value, h1, h2] using he
  subst h5
  obtain ⟨a', c', q1, q2, q3⟩ := Term.length_spec h1
  cases ev.symm.trans q1
  have q4 := (State.arrayAt?_spec q2).1
  cases hc.symm.trans q4
  refine ⟨?_, (Value.int.inj q3).symm⟩
  by_cases hl : cl.slots.size < 2 ^ 31
  · exact hl
  · simp [Term.eval, ev, q2, hl] at h1
/-- from a sheet's words to facts at the start -/
theorem own_const {C n d k0 : String} (hx : (Jvm.Cond.exactly (.static C n d) k0).value args s none s [] = some true) (hi : (Jvm.Cond.initialized C).before args s = true) (hl : (Jvm.Cond.laysStatic C n d).before args s = true) :
    ∃ a, (Term.static C n d).eval args s none [] s = some (.ref a) ∧ Sta s s.heap C n d (.ref a) ∧ Exa s s.heap a k0 := by
  obtain ⟨a, ev⟩ := exa_v hx
  exact ⟨a, ev, Sta.start ev (Or.inr ⟨hi, hl⟩), Exa.start ev hx⟩
theorem own_fldI {t : Term} {a : Addr} {O n d : String} {k : Int32} (ev : t.eval args s none [] s = some (.ref a)) (he : (Jvm.Cond.eq (.field t O n d) (.int k)).value args s none s [] = some true) : Fld s s.heap a O n d (.int k) := by
  obtain ⟨x, y, h1, h2, h3, h4⟩ := cmp_v (Or.inl he)
  have h5 := h1
  rw [fld_at ev] at h5
  have h6 : y = .int k := (Option.some.inj ((Term.int_eval k).symm.trans h2)).symm
  subst h6
  obtain ⟨z, rfl⟩ := h4
  have h7 : z = k := by simpa [Jvm.Cond.value, h1, h2] using he
  subst h7
  exact Fld.start h5
end Own
section Own2
variable {p : Program} {l : Launch} {e : Env} {R : Room} {s : State} {m : MethodId} {args : Array Value} {below : List Frame} {meth : Method} {c : Code} {T : State} {locs : List Loc} {cells slots : Nat} {Z : State} {a0 : Array Value} {h : Heap}
variable {a : Addr} {k : ClassId} {ty : FieldType} {z : Int32} {vs : List Value} {dv : Value}
/-- a fresh array of n places, each said -/
theorem own_arvNew {n : Nat} (A : Arr Z h a (newA k ty z) ty) (q : ¬ z < 0) : Arv Z h a k ty z (List.replicate n (defaultValue ty)) (defaultValue ty) := (Arv.new A q).pad (pad_rep [] _ n)
theorem own_stR (X : Stand p l e R s m args below meth c T locs cells slots) (hx : p.tables.exec = Jvm.exec) (hZ : Z.Warmed39 s.vm) (eT : T.heap = h) {C : String} {y : Addr} (F : Arv Z h a k (.object C) z vs dv) (O : Ovr Z k C) (I : Ins Z h y C true) {j : Int32} (i : Nat) (hj : j.toNatClampNeg = i) (hi : i < vs.length) (hin : ¬ j < 0 ∧ j < z)
    {g : JFrame} (hg : g.method = m) {rest : List Value} (hs : g.stack = .ref y :: .int j :: .ref a :: rest) (hd : decode c.code g.pc = .ok (.aastore, 1)) :
    ∃ T' h', Stand p l e R s m args below meth c T' (locs ++ [⟨a, j.toNatClampNeg⟩]) cells slots ∧ T'.heap = h' ∧ Wr h h' a j.toNatClampNeg (.ref y) ∧ Arv Z h' a k (.object C) z (vs.set i (.ref y)) dv ∧ ∀ target, Steps p.tables e below (T'.setTop { g with pc := g.pc + 1, stack := rest }) target → Steps p.tables e below (T.setTop g) target := by
  obtain ⟨cl, A, q1, S, q3, H, G⟩ := F
  obtain ⟨T', h', X', e', W, st⟩ := stR X hx hZ eT A (inb_of S hin) rfl (Sto.ofV A q1 O I) hg hs hd
  exact ⟨T', h', X', e', W, Arv.set A q1 S q3 H G rfl W i hj hi, st⟩
theorem own_stZ (X : Stand p l e R s m args below meth c T locs cells slots) (hx : p.tables.exec = Jvm.exec) (hZ : Z.Warmed39 s.vm) (eT : T.heap = h) {x : Int32} (F : Arv Z h a k .boolean z vs dv) {j : Int32} (i : Nat) (hj : j.toNatClampNeg = i) (hi : i < vs.length) (hin : ¬ j < 0 ∧ j < z)
    {g : JFrame} (hg : g.method = m) {rest : List Value} (hs : g.stack = .int x :: .int j :: .ref a :: rest) (hd : decode c.code g.pc = .ok (.bastore, 1)) :
    ∃ T' h', Stand p l e R s m args below meth c T' (locs ++ [⟨a, j.toNatClampNeg⟩]) cells slots ∧ T'.heap = h' ∧ Wr h h' a j.toNatClampNeg (.int (nar .boolean x)) ∧ Arv Z h' a k .boolean z (vs.set i (.int (nar .boolean x))) dv ∧ ∀ target, Steps p.tables e below (T'.setTop { g with pc := g.pc + 1, stack := rest }) target → Steps p.tables e below (T.setTop g) target := by
  obtain ⟨cl, A, q1, S, q3, H, G⟩ := F
  obtain ⟨T', h', X', e', W, st⟩ := stZ X hx hZ eT A (inb_of S hin) hg hs hd
  exact ⟨T', h', X', e', W, Arv.set A q1 S q3 H G (fits_nar_bool x) W i hj hi, st⟩
theorem own_stB (X : Stand p l e R s m args below meth c T locs cells slots) (hx : p.tables.exec = Jvm.exec) (hZ : Z.Warmed39 s.vm) (eT : T.heap = h) {x : Int32} (F : Arv Z h a k .byte z vs dv) {j : Int32} (i : Nat) (hj : j.toNatClampNeg = i) (hi : i < vs.length) (hin : ¬ j < 0 ∧ j < z)
    {g : JFrame} (hg : g.method = m) {rest : List Value} (hs : g.stack = .int x :: .int j :: .ref a :: rest) (hd : decode c.code g.pc = .ok (.bastore, 1)) :
    ∃ T' h', Stand p l e R s m args below meth c T' (locs ++ [⟨a, j.toNatClampNeg⟩]) cells slots ∧ T'.heap = h' ∧ Wr h h' a j.toNatClampNeg (.int (nar .byte x)) ∧ Arv Z h' a k .byte z (vs.set i (.int (nar .byte x))) dv ∧ ∀ target, Steps p.tables e below (T'.setTop { g with pc := g.pc + 1, stack := rest }) target → Steps p.tables e below (T.setTop g) target := by
  obtain ⟨cl, A, q1, S, q3, H, G⟩ := F
  obtain ⟨T', h', X', e', W, st⟩ := stB X hx hZ eT A (inb_of S hin) hg hs hd
  exact ⟨T', h', X', e', W, Arv.set A q1 S q3 H G (fits_nar_byte x) W i hj hi, st⟩
theorem own_stJ (X : Stand p l e R s m args below meth c T locs cells slots) (hx : p.tables.exec = Jvm.exec) (hZ : Z.Warmed39 s.vm) (eT : T.heap = h) {x : Int64} (F : Arv Z h a k .long z vs dv) {j : Int32} (i : Nat) (hj : j.toNatClampNeg = i) (hi : i < vs.length) (hin : ¬ j < 0 ∧ j < z)
    {g : JFrame} (hg : g.method = m) {rest : List Value} (hs : g.stack = .long x :: .int j :: .ref a :: rest) (hd : decode c.code g.pc = .ok (.lastore, 1)) :
    ∃ T' h', Stand p l e R s m args below meth c T' (locs ++ [⟨a, j.toNatClampNeg⟩]) cells slots ∧ T'.heap = h' ∧ Wr h h' a j.toNatClampNeg (.long x) ∧ Arv Z h' a k .long z (vs.set i (.long x)) dv ∧ ∀ target, Steps p.tables e below (T'.setTop { g with pc := g.pc + 1, stack := rest }) target → Steps p.tables e below (T.setTop g) target := by
  obtain ⟨cl, A, q1, S, q3, H, G⟩ := F
  obtain ⟨T', h', X', e', W, st⟩ := stJ X hx hZ eT A (inb_of S hin) hg hs hd
  exact ⟨T', h', X', e', W, Arv.set A q1 S q3 H G rfl W i hj hi, st⟩
theorem own_stC (X : Stand p l e R s m args below meth c T locs cells slots) (hx : p.tables.exec = Jvm.exec) (hZ : Z.Warmed39 s.vm) (eT : T.heap = h) {x : Int32} (F : Arv Z h a k .char z vs dv) {j : Int32} (i : Nat) (hj : j.toNatClampNeg = i) (hi : i < vs.length) (hin : ¬ j < 0 ∧ j < z)
    {g : JFrame} (hg : g.method = m) {rest : List Value} (hs : g.stack = .int x :: .int j :: .ref a :: rest) (hd : decode c.code g.pc = .ok (.castore, 1)) :
    ∃ T' h', Stand p l e R s m args below meth c T' (locs ++ [⟨a, j.toNatClampNeg⟩]) cells slots ∧ T'.heap = h' ∧ Wr h h' a j.toNatClampNeg (.int (nar .char x)) ∧ Arv Z h' a k .char z (vs.set i (.int (nar .char x))) dv ∧ ∀ target, Steps p.tables e below (T'.setTop { g with pc := g.pc + 1, stack := rest }) target → Steps p.tables e below (T.setTop g) target := by
  obtain ⟨cl, A, q1, S, q3, H, G⟩ := F
  obtain ⟨T', h', X', e', W, st⟩ := stC X hx hZ eT A (inb_of S hin) hg hs hd
  exact ⟨T', h', X', e', W, Arv.set A q1 S q3 H G (fits_nar_char x) W i hj hi, st⟩
theorem own_caload (X : Stand p l e R s m args below meth c T locs cells slots) (hx : p.tables.exec = Jvm.exec) (hZ : Z.Warmed39 s.vm) (eT : T.heap = h) {cl : Cell} (F : Arr Z h a cl .char) {j : Int32} {v : Value} (hin : ¬ (j < 0 ∨ cl.slots.size ≤ j.toNatClampNeg)) (hv : cl.slots[j.toNatClampNeg]? = some v)
    {g : JFrame} (hg : g.method = m) {rest : List Value} (hs : g.stack = .int j :: .ref a :: rest) (hd : decode c.code g.pc = .ok (.caload, 1)) : ∀ target, Steps p.tables e below (T.setTop { g with pc := g.pc + 1, stack := v :: rest }) target → Steps p.tables e below (T.setTop g) target :=
  X.caload hx (by rw [eT]; exact F.1) (State.isArrayOf_alike hZ.alike F.2.1) F.2.2 hin hv hg hs hd
/-- a place of an array that is said -/
theorem own_at (F : Arv Z h a k ty z vs dv) {j : Int32} (hin : ¬ j < 0 ∧ j < z) : ∃ cl, Arr Z h a cl ty ∧ ¬ (j < 0 ∨ cl.slots.size ≤ j.toNatClampNeg) ∧ cl.slots[j.toNatClampNeg]? = some (vs.getD j.toNatClampNeg dv) := by
  obtain ⟨cl, A, q1, S, q3, H, G⟩ := F
  exact ⟨cl, A, inb_of S hin, H.at (inb_of S hin) rfl⟩
theorem own_len (F : Arv Z h a k ty z vs dv) : ∃ cl, Arr Z h a cl ty ∧ cl.slots.size.toInt32 = z := by
  obtain ⟨cl, A, q1, S, q3, H, G⟩ := F
  exact ⟨cl, A, len_of S q3⟩
theorem own_re {vs' : List Value} (F : Arv Z h a k ty z vs dv) (q : ∀ i, i < z.toNatClampNeg → vs'.getD i dv = vs.getD i dv) : Arv Z h a k ty z vs' dv := by
  obtain ⟨cl, A, q1, S, q3, H, G⟩ := F
  exact ⟨cl, A, q1, S, q3, fun i hi => by rw [q i (S ▸ hi)]; exact H i hi, fun i hi => by rw [q i (S ▸ hi)]; exact G i hi⟩
theorem own_no {n : Nat} {C S O k0 : String} (w : (Jvm.Cond.superclass C S).before a0 Z = true) (w2 : (Jvm.Cond.superclass S O).before a0 Z = true) (w3 : (Jvm.Cond.noSuperclass O).before a0 Z = true) (wi : (Jvm.Cond.instantiable k0 n).before a0 Z = true) (n1 : C ≠ k0) (n2 : S ≠ k0) (n3 : O ≠ k0) :
    ∃ c t, Z.vm.findClass C = some c ∧ Z.vm.findClass k0 = some t ∧ Z.vm.assignable c t = false := by
  obtain ⟨t, kt, g1, g2, g3, g4, -⟩ := Cond.instantiable_spec wi
  have hO : NS Z O k0 := by
    obtain ⟨c, kc, h1, h2, h3, -, -⟩ := Cond.noSuperclass_spec w3
    refine ⟨c, t, h1, g1, fun fuel => ?_⟩
    cases fuel with
    | zero => rfl
    | succ f => simp [Vm.isSubclassAux, ids_ne h1 g1 n3, h2, h3]
  obtain ⟨c, t', h0, g0, n4⟩ := NS.step w (NS.step w2 hO n2) n1
  cases g1.symm.trans g0
  obtain ⟨p, kk, kp, h1, h2, h3, h4, h5, -, h7⟩ := Cond.superclass_spec h0 w
  refine ⟨c, t, h0, g0, ?_⟩
  show Z.vm.assignableAux (255 + 1) c t = false
  simp only [Bool.or_eq_false_iff] at g4
  simp [Vm.assignableAux, ids_ne h0 g0 n1, h2, g2, h5, g3, g4.1, Vm.isSubclass, n4]
theorem own_clone (X : Stand p l e R s m args below meth c T locs cells slots) (hx : p.tables.exec = Jvm.exec) (hZ : Z.Warmed39 s.vm) {own ad : String} {index : Nat} (hown : s.vm.findClass own = some m.cls)
    (w1 : (Jvm.Cond.methodLink own index ⟨ad, "clone", "()Ljava/lang/Object;"⟩).before a0 Z = true) (w2 : (Jvm.Cond.sameMethod ad "java/lang/Object" "clone" "()Ljava/lang/Object;").before a0 Z = true) (w3 : (Jvm.Cond.native ⟨"java/lang/Object", "clone", "()Ljava/lang/Object;"⟩).before a0 Z = true)
    (w4 : (Jvm.Cond.instanceMethod ⟨"java/lang/Object", "clone", "()Ljava/lang/Object;"⟩).before a0 Z = true) (w5 : (Jvm.Cond.selects ad ⟨ad, "clone", "()Ljava/lang/Object;"⟩ ⟨"java/lang/Object", "clone", "()Ljava/lang/Object;"⟩).before a0 Z = true) (w6 : (Jvm.Cond.castable ad "java/lang/Cloneable").before a0 Z = true)
    (eT : T.heap = h) (F : Arv Z h a k ty z vs dv) (E : Exa Z h a ad) {g : JFrame} (hg : g.method = m) (hsize : g.locals.size = c.maxLocals) {rest : List Value} (hst : g.stack = .ref a :: rest) (hd : decode c.code g.pc = .ok (.invokevirtual index, 3))
    (hf : 1 ≤ R.frames) {W cap : Nat} (hW : 2 * g.monitorRoom + (rest.map fun v => v.category).sum ≤ W) (hl : W + 14 ≤ R.locals) (hcap : z.toNatClampNeg ≤ cap) (hc : cells + 1 ≤ R.cells) (hsl : slots + cap ≤ R.slots) :
    ∃ T' h', Stand p l e R s m args below meth c T' locs (cells + 1) (slots + cap) ∧ T'.heap = h' ∧ Ext h h' ∧ Arv Z h' h.size k ty z vs dv ∧ Exa Z h' h.size ad ∧
      ∀ target, Steps p.tables e below (T'.setTop { g with pc := g.pc + 3, stack := .ref h.size :: rest }) target → Steps p.tables e below (T.setTop g) target := by
  obtain ⟨cl, A, q1, S, q3, H, G⟩ := F
  obtain ⟨T', h', X', e', E', A', B', st⟩ := cloneA X hx hZ hown w1 w2 w3 w4 w5 w6 eT A E (fitC_of A (fun i hi v hv => by rw [H i hi] at hv; cases hv; exact G i hi)) hg hsize hst hd hf hW hl (by rw [S]; exact hcap) hc hsl
  exact ⟨T', h', X', e', E', ⟨cloneOf cl, A', q1, S, q3, H, G⟩, B', st⟩
end Own2
theorem own_sub {args : Array Value} {first s : State} {o : Option Outcome} {idx : List Nat} {a b : Term} {x y : Int32} (ha : a.eval args first o idx s = some (.int x)) (hb : b.eval args first o idx s = some (.int y)) : (Term.sub a b).eval args first o idx s = some (.int (x - y)) := by simp [Term.eval, ha, hb]
def own_valJ (j : Int32) : Value := .long (j - 128).toInt64
def own_valI (j : Int32) : Value := .int (j - 128)
theorem own_idxL {x : Int64} (h1 : ¬ x < -128) (h2 : ¬ 127 < x) : ¬ (x.toInt32 + 128 < 0) ∧ (x.toInt32 + 128) < 256 := by
  have e1 : (-128 : Int64).toInt = -128 := by decide
  have e2 : (127 : Int64).toInt = 127 := by decide
  have e3 : (128 : Int32).toInt = 128 := by decide
  have e4 : (0 : Int32).toInt = 0 := by decide
  have e5 : (256 : Int32).toInt = 256 := by decide
  rw [Int64.lt_iff_toInt_lt, e1] at h1
  rw [Int64.lt_iff_toInt_lt, e2] at h2
  rw [Int32.lt_iff_toInt_lt, Int32.lt_iff_toInt_lt, e4, e5, Int32.toInt_add, e3, Int64.toInt_toInt32]
  have b1 : x.toInt.bmod (2 ^ 32) = x.toInt := Int.bmod_eq_of_le (by omega) (by omega)
  rw [b1]
  have b2 : (x.toInt + 128).bmod (2 ^ 32) = x.toInt + 128 := Int.bmod_eq_of_le (by omega) (by omega)
  rw [b2]
  omega
theorem own_idxI {x : Int32} (h1 : ¬ x < -128) (h2 : ¬ 127 < x) : ¬ (x + 128 < 0) ∧ (x + 128) < 256 := by
  have e1 : (-128 : Int32).toInt = -128 := by decide
  have e2 : (127 : Int32).toInt = 127 := by decide
  have e3 : (128 : Int32).toInt = 128 := by decide
  have e4 : (0 : Int32).toInt = 0 := by decide
  have e5 : (256 : Int32).toInt = 256 := by decide
  rw [Int32.lt_iff_toInt_lt, e1] at h1
  rw [Int32.lt_iff_toInt_lt, e2] at h2
  rw [Int32.lt_iff_toInt_lt, Int32.lt_iff_toInt_lt, e4, e5, Int32.toInt_add, e3]
  have b2 : (x.toInt + 128).bmod (2 ^ 32) = x.toInt + 128 := Int.bmod_eq_of_le (by omega) (by omega)
  rw [b2]
  omega
theorem pd_0 : parseMethodDescriptor "()V" = some ⟨[], none⟩ := by decide +kernel
theorem pd_1 : parseMethodDescriptor "(J)V" = some ⟨[.long], none⟩ := by decide +kernel
theorem pd_2 : parseMethodDescriptor "(I)V" = some ⟨[.int], none⟩ := by decide +kernel
theorem pd_3 : parseMethodDescriptor "(IJ)V" = some ⟨[.int, .long], none⟩ := by decide +kernel
theorem pd_4 : parseMethodDescriptor "(Ljava/lang/Object;)Z" = some ⟨[(.object "java/lang/Object")], some .boolean⟩ := by decide +kernel
theorem pd_5 : parseMethodDescriptor "(I)Ljava/lang/Integer;" = some ⟨[.int], some (.object "java/lang/Integer")⟩ := by decide +kernel
theorem pd_6 : parseMethodDescriptor "(J)Ljava/lang/Long;" = some ⟨[.long], some (.object "java/lang/Long")⟩ := by decide +kernel
theorem d1_0 : decode prog_20_method_1_code 0 = .ok (.aload_n 0, 1) := by decide +kernel
theorem d1_1 : decode prog_20_method_1_code 1 = .ok (.invokespecial 1, 3) := by decide +kernel
theorem d1_4 : decode prog_20_method_1_code 4 = .ok (.aload_n 0, 1) := by decide +kernel
theorem d1_5 : decode prog_20_method_1_code 5 = .ok (.iload_n 1, 1) := by decide +kernel
theorem d1_6 : decode prog_20_method_1_code 6 = .ok (.putfield 7, 3) := by decide +kernel
theorem d1_9 : decode prog_20_method_1_code 9 = .ok (.aload_n 0, 1) := by decide +kernel
theorem d1_10 : decode prog_20_method_1_code 10 = .ok (.lload_n 2, 1) := by decide +kernel
theorem d1_11 : decode prog_20_method_1_code 11 = .ok (.putfield 13, 3) := by decide +kernel
theorem d1_14 : decode prog_20_method_1_code 14 = .ok (.return_, 1) := by decide +kernel
def Qrm1 (a : Addr) (b1 : Int32) (n1 : Int64) (Z : State) (h0 : Heap) (n0 : Nat) (v : Option Value) (h : Heap) (L : List Loc) : Prop := v = none ∧ Fr n0 L ∧ Keep h0 h [a] ∧ Exa Z h a "com/example/vestnik/vestnik/model/MessageId" ∧ Fld Z h a "com/example/vestnik/vestnik/model/MessageId" "broker" "I" (.int b1) ∧ Fld Z h a "com/example/vestnik/vestnik/model/MessageId" "sequence" "J" (.long n1)
set_option maxRecDepth 65536 in
set_option maxHeartbeats 40000000 in
theorem rm1 (l : Launch) (Z : State) (a0 : Array Value) (hw : ∀ d ∈ tables_1, d.before a0 Z = true) (a : Addr) (b1 : Int32) (n1 : Int64) (h0 : Heap) (n0 : Nat) (Z0 : n0 ≤ h0.size) (E : Exa Z h0 a "com/example/vestnik/vestnik/model/MessageId") (F : Fld Z h0 a "com/example/vestnik/vestnik/model/MessageId" "broker" "I" (.int 0)) (G : Fld Z h0 a "com/example/vestnik/vestnik/model/MessageId" "sequence" "J" (.long 0)) (ga : n0 ≤ a) :
    MetFree l (⟨"com/example/vestnik/vestnik/model/MessageId", "<init>", "(IJ)V"⟩ : MethodName) (head1 (Jvm.Cond.code (⟨"com/example/vestnik/vestnik/model/MessageId", "<init>", "(IJ)V"⟩ : MethodName) prog_20_method_1_code 4 none :: []) ({ frames := 1, cells := 0, slots := 0, locals := 12 } : Room)) (fun ar_ U => ar_ = #[(.ref a), (.int b1), (.long n1)] ∧ Z.Warmed39 U.vm ∧ U.heap = h0) (fun _ _ _ _ _ => True) (fun _ U o U' => ∃ v L, o = .returned v ∧ Qrm1 a b1 n1 Z h0 n0 v U'.heap L ∧ FrameEnd U o U' L ({ frames := 1, cells := 0, slots := 0, locals := 12 } : Room).cells ({ frames := 1, cells := 0, slots := 0, locals := 12 } : Room).slots) := by
  refine MetFree.of_bodySF (plainFor_of_name (by first | (simp [plainName, overriddenIn]; done) | decide +kernel)) hisR ?_
  intro p e s m args below meth c s₁ Bd hml0 hP hK
  obtain ⟨rfl, hZ, hh⟩ := hP
  have hx := Bd.exec
  have hby := Bd.bytes
  have hml : c.maxLocals = 4 := hml0
  have hown : s.vm.findClass "com/example/vestnik/vestnik/model/MessageId" = some m.cls := findClass_of_methodNamed Bd.named
  have hnm := (name_of_methodNamed Bd.named Bd.method).1
  have X0 : Stand p l e ({ frames := 1, cells := 0, slots := 0, locals := 12 } : Room) s m #[(.ref a), (.int b1), (.long n1)] below meth c s₁ [] 0 0 := Stand.of_body Bd
  have e0 : s₁.heap = h0 := by rw [← hh, Bd.state]; rfl
  have N0 := Fr.nil n0
  show own_E p e below s (Qrm1 a b1 n1 Z h0 n0) ({ frames := 1, cells := 0, slots := 0, locals := 12 } : Room).cells ({ frames := 1, cells := 0, slots := 0, locals := 12 } : Room).slots (s₁.setTop (entryFrame m #[(.ref a), (.int b1), (.long n1)] 4))
  refine own_go (fun t k => castTop (show _ = (mkF m 0 #[.val (.ref a), .val (.int b1), .val (.long n1), .second] []) from by first | (simp [entryFrame, mkF, argsToLocals, Value.category]; done) | rfl) k) ?_
  show own_E _ _ _ _ _ _ _ (s₁.setTop (mkF m 0 #[.val (.ref a), .val (.int b1), .val (.long n1), .second] []))
  have KK := Keep.refl h0 [a]
  refine own_go (fun _ k => XS.aloadN X0.here hx rfl (hb hby d1_0) rfl rfl k) ?_
  show own_E _ _ _ _ _ _ _ (s₁.setTop (mkF m 1 #[.val (.ref a), .val (.int b1), .val (.long n1), .second] [(.ref a)]))
  obtain ⟨T11, X11, e11, st11⟩ := initO X0 hx hZ hown (hw _ (List.mem_of_getElem? (i := 6) rfl)) (hw _ (List.mem_of_getElem? (i := 7) rfl)) (hw _ (List.mem_of_getElem? (i := 8) rfl)) e0 (g := (mkF m 1 #[.val (.ref a), .val (.int b1), .val (.long n1), .second] [(.ref a)])) rfl (by rw [hml]; rfl) rfl (hb hby d1_1) (by decide) (W := 0) (Nat.le_of_ble_eq_true rfl) (by decide)
  refine own_go st11 ?_
  show own_E _ _ _ _ _ _ _ (T11.setTop (mkF m 4 #[.val (.ref a), .val (.int b1), .val (.long n1), .second] []))
  refine own_go (fun _ k => XS.aloadN X11.here hx rfl (hb hby d1_4) rfl rfl k) ?_
  show own_E _ _ _ _ _ _ _ (T11.setTop (mkF m 5 #[.val (.ref a), .val (.int b1), .val (.long n1), .second] [(.ref a)]))
  refine own_go (fun _ k => XS.iloadN X11.here hx rfl (hb hby d1_5) rfl k) ?_
  show own_E _ _ _ _ _ _ _ (T11.setTop (mkF m 6 #[.val (.ref a), .val (.int b1), .val (.long n1), .second] [(.int b1), (.ref a)]))
  obtain ⟨T12, h12, X12, e12, W12, st12⟩ := putF X11 hx hZ hown (host := "") (Or.inl (hw _ (List.mem_of_getElem? (i := 9) rfl))) Via.refl e11 F E (Or.inr ⟨(hw _ (List.mem_of_getElem? (i := 10) rfl)), rfl, hnm⟩) (hw _ (List.mem_of_getElem? (i := 1) rfl)) (ty := .int) (by decide +kernel) rfl rfl (g := (mkF m 6 #[.val (.ref a), .val (.int b1), .val (.long n1), .second] [(.int b1), (.ref a)])) rfl rfl (hb hby d1_6)
  have f12_0 := F.same W12
  have f12_1 := G.other W12 (Or.inr (slot_ne (Or.inr (hw _ (List.mem_of_getElem? (i := 12) rfl))) (Or.inr (hw _ (List.mem_of_getElem? (i := 10) rfl))) (by decide) (t := .long) (t' := .int) (by decide +kernel) (by decide +kernel)))
  have f12_2 := E.wr W12
  have Z12 : n0 ≤ h12.size := by rw [W12.size]; exact Z0
  have N12 := Fr.snoc X12 N0 ga
  have K12 := KK.wr W12 (Or.inl (by simp))
  refine own_go st12 ?_
  show own_E _ _ _ _ _ _ _ (T12.setTop (mkF m 9 #[.val (.ref a), .val (.int b1), .val (.long n1), .second] []))
  refine own_go (fun _ k => XS.aloadN X12.here hx rfl (hb hby d1_9) rfl rfl k) ?_
  show own_E _ _ _ _ _ _ _ (T12.setTop (mkF m 10 #[.val (.ref a), .val (.int b1), .val (.long n1), .second] [(.ref a)]))
  refine own_go (fun _ k => XT.lloadN X12.here hx rfl (hb hby d1_10) rfl k) ?_
  show own_E _ _ _ _ _ _ _ (T12.setTop (mkF m 11 #[.val (.ref a), .val (.int b1), .val (.long n1), .second] [(.long n1), (.ref a)]))
  obtain ⟨T13, h13, X13, e13, W13, st13⟩ := putF X12 hx hZ hown (host := "") (Or.inl (hw _ (List.mem_of_getElem? (i := 11) rfl))) Via.refl e12 f12_1 f12_2 (Or.inr ⟨(hw _ (List.mem_of_getElem? (i := 12) rfl)), rfl, hnm⟩) (hw _ (List.mem_of_getElem? (i := 1) rfl)) (ty := .long) (by decide +kernel) rfl rfl (g := (mkF m 11 #[.val (.ref a), .val (.int b1), .val (.long n1), .second] [(.long n1), (.ref a)])) rfl rfl (hb hby d1_11)
  have f13_0 := f12_0.other W13 (Or.inr (slot_ne (Or.inr (hw _ (List.mem_of_getElem? (i := 10) rfl))) (Or.inr (hw _ (List.mem_of_getElem? (i := 12) rfl))) (by decide) (t := .int) (t' := .long) (by decide +kernel) (by decide +kernel)))
  have f13_1 := f12_1.same W13
  have f13_2 := f12_2.wr W13
  have Z13 : n0 ≤ h13.size := by rw [W13.size]; exact Z12
  have N13 := Fr.snoc X13 N12 ga
  have K13 := K12.wr W13 (Or.inl (by simp))
  refine own_go st13 ?_
  show own_E _ _ _ _ _ _ _ (T13.setTop (mkF m 14 #[.val (.ref a), .val (.int b1), .val (.long n1), .second] []))
  exact own_ret0 X13 hx Bd.returns Bd.notSynchronized (hb hby d1_14) (by rw [e13]; exact ⟨rfl, N13, K13, f13_2, f13_0, f13_1⟩) (by decide) (by decide)
theorem d3_0 : decode prog_20_method_4_code 0 = .ok (.aload_n 1, 1) := by decide +kernel
theorem d3_1 : decode prog_20_method_4_code 1 = .ok (.instanceof 8, 3) := by decide +kernel
theorem d3_4 : decode prog_20_method_4_code 4 = .ok (.ifCond .ne 5, 3) := by decide +kernel
theorem d3_7 : decode prog_20_method_4_code 7 = .ok (.iconst 0, 1) := by decide +kernel
theorem d3_8 : decode prog_20_method_4_code 8 = .ok (.ireturn, 1) := by decide +kernel
theorem d3_9 : decode prog_20_method_4_code 9 = .ok (.aload_n 1, 1) := by decide +kernel
theorem d3_10 : decode prog_20_method_4_code 10 = .ok (.checkcast 8, 3) := by decide +kernel
theorem d3_13 : decode prog_20_method_4_code 13 = .ok (.astore_n 2, 1) := by decide +kernel
theorem d3_14 : decode prog_20_method_4_code 14 = .ok (.aload_n 0, 1) := by decide +kernel
theorem d3_15 : decode prog_20_method_4_code 15 = .ok (.getfield 7, 3) := by decide +kernel
theorem d3_18 : decode prog_20_method_4_code 18 = .ok (.aload_n 2, 1) := by decide +kernel
theorem d3_19 : decode prog_20_method_4_code 19 = .ok (.getfield 7, 3) := by decide +kernel
theorem d3_22 : decode prog_20_method_4_code 22 = .ok (.if_icmp .ne 19, 3) := by decide +kernel
theorem d3_25 : decode prog_20_method_4_code 25 = .ok (.aload_n 0, 1) := by decide +kernel
theorem d3_26 : decode prog_20_method_4_code 26 = .ok (.getfield 13, 3) := by decide +kernel
theorem d3_29 : decode prog_20_method_4_code 29 = .ok (.aload_n 2, 1) := by decide +kernel
theorem d3_30 : decode prog_20_method_4_code 30 = .ok (.getfield 13, 3) := by decide +kernel
theorem d3_33 : decode prog_20_method_4_code 33 = .ok (.lcmp, 1) := by decide +kernel
theorem d3_34 : decode prog_20_method_4_code 34 = .ok (.ifCond .ne 7, 3) := by decide +kernel
theorem d3_37 : decode prog_20_method_4_code 37 = .ok (.iconst 1, 1) := by decide +kernel
theorem d3_38 : decode prog_20_method_4_code 38 = .ok (.goto 4, 3) := by decide +kernel
theorem d3_41 : decode prog_20_method_4_code 41 = .ok (.iconst 0, 1) := by decide +kernel
theorem d3_42 : decode prog_20_method_4_code 42 = .ok (.ireturn, 1) := by decide +kernel
def QrmEN (a : Addr) (Z : State) (h0 : Heap) (n0 : Nat) (v : Option Value) (h : Heap) (L : List Loc) : Prop := v = some (.int 0) ∧ Fr n0 L ∧ h = h0
set_option maxRecDepth 65536 in
set_option maxHeartbeats 40000000 in
theorem rmEN (l : Launch) (Z : State) (a0 : Array Value) (hw : ∀ d ∈ tables_1, d.before a0 Z = true) (a : Addr) (h0 : Heap) (n0 : Nat) (Z0 : n0 ≤ h0.size) :
    MetFree l (⟨"com/example/vestnik/vestnik/model/MessageId", "equals", "(Ljava/lang/Object;)Z"⟩ : MethodName) (head1 (Jvm.Cond.code (⟨"com/example/vestnik/vestnik/model/MessageId", "equals", "(Ljava/lang/Object;)Z"⟩ : MethodName) prog_20_method_4_code 3 (some .boolean) :: []) ({ frames := 0, cells := 0, slots := 0, locals := 0 } : Room)) (fun ar_ U => ar_ = #[(.ref a), .null] ∧ Z.Warmed39 U.vm ∧ U.heap = h0) (fun _ _ _ _ _ => True) (fun _ U o U' => ∃ v L, o = .returned v ∧ QrmEN a Z h0 n0 v U'.heap L ∧ FrameEnd U o U' L ({ frames := 0, cells := 0, slots := 0, locals := 0 } : Room).cells ({ frames := 0, cells := 0, slots := 0, locals := 0 } : Room).slots) := by
  refine MetFree.of_bodySF (plainFor_of_name (by first | (simp [plainName, overriddenIn]; done) | decide +kernel)) hisR ?_
  intro p e s m args below meth c s₁ Bd hml0 hP hK
  obtain ⟨rfl, hZ, hh⟩ := hP
  have hx := Bd.exec
  have hby := Bd.bytes
  have hml : c.maxLocals = 3 := hml0
  have hown : s.vm.findClass "com/example/vestnik/vestnik/model/MessageId" = some m.cls := findClass_of_methodNamed Bd.named
  have hnm := (name_of_methodNamed Bd.named Bd.method).1
  have X0 : Stand p l e ({ frames := 0, cells := 0, slots := 0, locals := 0 } : Room) s m #[(.ref a), .null] below meth c s₁ [] 0 0 := Stand.of_body Bd
  have e0 : s₁.heap = h0 := by rw [← hh, Bd.state]; rfl
  have N0 := Fr.nil n0
  show own_E p e below s (QrmEN a Z h0 n0) ({ frames := 0, cells := 0, slots := 0, locals := 0 } : Room).cells ({ frames := 0, cells := 0, slots := 0, locals := 0 } : Room).slots (s₁.setTop (entryFrame m #[(.ref a), .null] 3))
  refine own_go (fun t k => castTop (show _ = (mkF m 0 #[.val (.ref a), .val .null, .unset] []) from by first | (simp [entryFrame, mkF, argsToLocals, Value.category]; done) | rfl) k) ?_
  show own_E _ _ _ _ _ _ _ (s₁.setTop (mkF m 0 #[.val (.ref a), .val .null, .unset] []))
  refine own_go (fun _ k => XS.aloadN X0.here hx rfl (hb hby d3_0) rfl rfl k) ?_
  show own_E _ _ _ _ _ _ _ (s₁.setTop (mkF m 1 #[.val (.ref a), .val .null, .unset] [.null]))
  refine own_go (X0.instanceofNull hx (g := (mkF m 1 #[.val (.ref a), .val .null, .unset] [.null])) rfl rfl (hb hby d3_1)) ?_
  show own_E _ _ _ _ _ _ _ (s₁.setTop (mkF m 4 #[.val (.ref a), .val .null, .unset] [(.int (0 : Int32))]))
  refine own_go (fun _ k => XS.ifNo X0.here hx rfl (hb hby d3_4) rfl (by decide) k) ?_
  show own_E _ _ _ _ _ _ _ (s₁.setTop (mkF m 7 #[.val (.ref a), .val .null, .unset] []))
  refine own_go (fun _ k => XT.iconstV X0.here hx rfl (0 : Int32) (hb hby d3_7) (by decide) k) ?_
  show own_E _ _ _ _ _ _ _ (s₁.setTop (mkF m 8 #[.val (.ref a), .val .null, .unset] [(.int (0 : Int32))]))
  exact own_ret X0 hx Bd.returns Bd.notSynchronized rfl (Or.inl ⟨rfl, by simp, _, rfl⟩) (hb hby d3_8) (by rw [e0]; exact ⟨rfl, N0, rfl⟩) (by decide) (by decide)
def QrmEO (a : Addr) (y : Addr) (CC : String) (Z : State) (h0 : Heap) (n0 : Nat) (v : Option Value) (h : Heap) (L : List Loc) : Prop := v = some (.int 0) ∧ Fr n0 L ∧ h = h0
set_option maxRecDepth 65536 in
set_option maxHeartbeats 40000000 in
theorem rmEO (l : Launch) (Z : State) (a0 : Array Value) (hw : ∀ d ∈ tables_1, d.before a0 Z = true) (a : Addr) (y : Addr) (CC : String) (h0 : Heap) (n0 : Nat) (Z0 : n0 ≤ h0.size) (E : Exa Z h0 y CC) (no : ∃ c t, Z.vm.findClass CC = some c ∧ Z.vm.findClass "com/example/vestnik/vestnik/model/MessageId" = some t ∧ Z.vm.assignable c t = false) :
    MetFree l (⟨"com/example/vestnik/vestnik/model/MessageId", "equals", "(Ljava/lang/Object;)Z"⟩ : MethodName) (head1 (Jvm.Cond.code (⟨"com/example/vestnik/vestnik/model/MessageId", "equals", "(Ljava/lang/Object;)Z"⟩ : MethodName) prog_20_method_4_code 3 (some .boolean) :: []) ({ frames := 0, cells := 0, slots := 0, locals := 0 } : Room)) (fun ar_ U => ar_ = #[(.ref a), (.ref y)] ∧ Z.Warmed39 U.vm ∧ U.heap = h0) (fun _ _ _ _ _ => True) (fun _ U o U' => ∃ v L, o = .returned v ∧ QrmEO a y CC Z h0 n0 v U'.heap L ∧ FrameEnd U o U' L ({ frames := 0, cells := 0, slots := 0, locals := 0 } : Room).cells ({ frames := 0, cells := 0, slots := 0, locals := 0 } : Room).slots) := by
  refine MetFree.of_bodySF (plainFor_of_name (by first | (simp [plainName, overriddenIn]; done) | decide +kernel)) hisR ?_
  intro p e s m args below meth c s₁ Bd hml0 hP hK
  obtain ⟨rfl, hZ, hh⟩ := hP
  have hx := Bd.exec
  have hby := Bd.bytes
  have hml : c.maxLocals = 3 := hml0
  have hown : s.vm.findClass "com/example/vestnik/vestnik/model/MessageId" = some m.cls := findClass_of_methodNamed Bd.named
  have hnm := (name_of_methodNamed Bd.named Bd.method).1
  have X0 : Stand p l e ({ frames := 0, cells := 0, slots := 0, locals := 0 } : Room) s m #[(.ref a), (.ref y)] below meth c s₁ [] 0 0 := Stand.of_body Bd
  have e0 : s₁.heap = h0 := by rw [← hh, Bd.state]; rfl
  have N0 := Fr.nil n0
  show own_E p e below s (QrmEO a y CC Z h0 n0) ({ frames := 0, cells := 0, slots := 0, locals := 0 } : Room).cells ({ frames := 0, cells := 0, slots := 0, locals := 0 } : Room).slots (s₁.setTop (entryFrame m #[(.ref a), (.ref y)] 3))
  refine own_go (fun t k => castTop (show _ = (mkF m 0 #[.val (.ref a), .val (.ref y), .unset] []) from by first | (simp [entryFrame, mkF, argsToLocals, Value.category]; done) | rfl) k) ?_
  show own_E _ _ _ _ _ _ _ (s₁.setTop (mkF m 0 #[.val (.ref a), .val (.ref y), .unset] []))
  refine own_go (fun _ k => XS.aloadN X0.here hx rfl (hb hby d3_0) rfl rfl k) ?_
  show own_E _ _ _ _ _ _ _ (s₁.setTop (mkF m 1 #[.val (.ref a), .val (.ref y), .unset] [(.ref y)]))
  obtain ⟨T1, X1, e1, st1⟩ := instNo X0 hx hZ hown (hw _ (List.mem_of_getElem? (i := 18) rfl)) e0 E no (g := (mkF m 1 #[.val (.ref a), .val (.ref y), .unset] [(.ref y)])) rfl rfl (hb hby d3_1)
  refine own_go st1 ?_
  show own_E _ _ _ _ _ _ _ (T1.setTop (mkF m 4 #[.val (.ref a), .val (.ref y), .unset] [(.int (0 : Int32))]))
  refine own_go (fun _ k => XS.ifNo X1.here hx rfl (hb hby d3_4) rfl (by decide) k) ?_
  show own_E _ _ _ _ _ _ _ (T1.setTop (mkF m 7 #[.val (.ref a), .val (.ref y), .unset] []))
  refine own_go (fun _ k => XT.iconstV X1.here hx rfl (0 : Int32) (hb hby d3_7) (by decide) k) ?_
  show own_E _ _ _ _ _ _ _ (T1.setTop (mkF m 8 #[.val (.ref a), .val (.ref y), .unset] [(.int (0 : Int32))]))
  exact own_ret X1 hx Bd.returns Bd.notSynchronized rfl (Or.inl ⟨rfl, by simp, _, rfl⟩) (hb hby d3_8) (by rw [e1]; exact ⟨rfl, N0, rfl⟩) (by decide) (by decide)
def QrmES (a : Addr) (y : Addr) (b1 : Int32) (n1 : Int64) (b2 : Int32) (n2 : Int64) (Z : State) (h0 : Heap) (n0 : Nat) (v : Option Value) (h : Heap) (L : List Loc) : Prop := v = some (.int (if b1 = b2 ∧ n1 = n2 then (1 : Int32) else 0)) ∧ Fr n0 L ∧ h = h0
set_option maxRecDepth 65536 in
set_option maxHeartbeats 40000000 in
theorem rmES (l : Launch) (Z : State) (a0 : Array Value) (hw : ∀ d ∈ tables_1, d.before a0 Z = true) (a : Addr) (y : Addr) (b1 : Int32) (n1 : Int64) (b2 : Int32) (n2 : Int64) (h0 : Heap) (n0 : Nat) (Z0 : n0 ≤ h0.size) (E : Exa Z h0 y "com/example/vestnik/vestnik/model/MessageId") (F1 : Fld Z h0 a "com/example/vestnik/vestnik/model/MessageId" "broker" "I" (.int b1)) (G1 : Fld Z h0 a "com/example/vestnik/vestnik/model/MessageId" "sequence" "J" (.long n1)) (F2 : Fld Z h0 y "com/example/vestnik/vestnik/model/MessageId" "broker" "I" (.int b2)) (G2 : Fld Z h0 y "com/example/vestnik/vestnik/model/MessageId" "sequence" "J" (.long n2)) :
    MetFree l (⟨"com/example/vestnik/vestnik/model/MessageId", "equals", "(Ljava/lang/Object;)Z"⟩ : MethodName) (head1 (Jvm.Cond.code (⟨"com/example/vestnik/vestnik/model/MessageId", "equals", "(Ljava/lang/Object;)Z"⟩ : MethodName) prog_20_method_4_code 3 (some .boolean) :: []) ({ frames := 0, cells := 0, slots := 0, locals := 0 } : Room)) (fun ar_ U => ar_ = #[(.ref a), (.ref y)] ∧ Z.Warmed39 U.vm ∧ U.heap = h0) (fun _ _ _ _ _ => True) (fun _ U o U' => ∃ v L, o = .returned v ∧ QrmES a y b1 n1 b2 n2 Z h0 n0 v U'.heap L ∧ FrameEnd U o U' L ({ frames := 0, cells := 0, slots := 0, locals := 0 } : Room).cells ({ frames := 0, cells := 0, slots := 0, locals := 0 } : Room).slots) := by
  refine MetFree.of_bodySF (plainFor_of_name (by first | (simp [plainName, overriddenIn]; done) | decide +kernel)) hisR ?_
  intro p e s m args below meth c s₁ Bd hml0 hP hK
  obtain ⟨rfl, hZ, hh⟩ := hP
  have hx := Bd.exec
  have hby := Bd.bytes
  have hml : c.maxLocals = 3 := hml0
  have hown : s.vm.findClass "com/example/vestnik/vestnik/model/MessageId" = some m.cls := findClass_of_methodNamed Bd.named
  have hnm := (name_of_methodNamed Bd.named Bd.method).1
  have X0 : Stand p l e ({ frames := 0, cells := 0, slots := 0, locals := 0 } : Room) s m #[(.ref a), (.ref y)] below meth c s₁ [] 0 0 := Stand.of_body Bd
  have e0 : s₁.heap = h0 := by rw [← hh, Bd.state]; rfl
  have N0 := Fr.nil n0
  show own_E p e below s (QrmES a y b1 n1 b2 n2 Z h0 n0) ({ frames := 0, cells := 0, slots := 0, locals := 0 } : Room).cells ({ frames := 0, cells := 0, slots := 0, locals := 0 } : Room).slots (s₁.setTop (entryFrame m #[(.ref a), (.ref y)] 3))
  refine own_go (fun t k => castTop (show _ = (mkF m 0 #[.val (.ref a), .val (.ref y), .unset] []) from by first | (simp [entryFrame, mkF, argsToLocals, Value.category]; done) | rfl) k) ?_
  show own_E _ _ _ _ _ _ _ (s₁.setTop (mkF m 0 #[.val (.ref a), .val (.ref y), .unset] []))
  refine own_go (fun _ k => XS.aloadN X0.here hx rfl (hb hby d3_0) rfl rfl k) ?_
  show own_E _ _ _ _ _ _ _ (s₁.setTop (mkF m 1 #[.val (.ref a), .val (.ref y), .unset] [(.ref y)]))
  obtain ⟨T1, X1, e1, st1⟩ := instY X0 hx hZ hown (hw _ (List.mem_of_getElem? (i := 18) rfl)) e0 (Ins.self E) (g := (mkF m 1 #[.val (.ref a), .val (.ref y), .unset] [(.ref y)])) rfl rfl (hb hby d3_1)
  refine own_go st1 ?_
  show own_E _ _ _ _ _ _ _ (T1.setTop (mkF m 4 #[.val (.ref a), .val (.ref y), .unset] [(.int (1 : Int32))]))
  refine own_go (fun _ k => XS.ifYes X1.here hx rfl (pc0 := 4) (pc' := 9) rfl (hb hby d3_4) rfl (by decide) (by decide) (by decide) k) ?_
  show own_E _ _ _ _ _ _ _ (T1.setTop (mkF m 9 #[.val (.ref a), .val (.ref y), .unset] []))
  refine own_go (fun _ k => XS.aloadN X1.here hx rfl (hb hby d3_9) rfl rfl k) ?_
  show own_E _ _ _ _ _ _ _ (T1.setTop (mkF m 10 #[.val (.ref a), .val (.ref y), .unset] [(.ref y)]))
  obtain ⟨T2, X2, e2, st2⟩ := castY X1 hx hZ hown (hw _ (List.mem_of_getElem? (i := 18) rfl)) e1 (Ins.self E) (g := (mkF m 10 #[.val (.ref a), .val (.ref y), .unset] [(.ref y)])) rfl rfl (hb hby d3_10)
  refine own_go st2 ?_
  show own_E _ _ _ _ _ _ _ (T2.setTop (mkF m 13 #[.val (.ref a), .val (.ref y), .unset] [(.ref y)]))
  refine own_go (fun _ k => XS.astoreN X2.here hx rfl (hb hby d3_13) rfl rfl (l' := #[.val (.ref a), .val (.ref y), .val (.ref y)]) rfl k) ?_
  show own_E _ _ _ _ _ _ _ (T2.setTop (mkF m 14 #[.val (.ref a), .val (.ref y), .val (.ref y)] []))
  refine own_go (fun _ k => XS.aloadN X2.here hx rfl (hb hby d3_14) rfl rfl k) ?_
  show own_E _ _ _ _ _ _ _ (T2.setTop (mkF m 15 #[.val (.ref a), .val (.ref y), .val (.ref y)] [(.ref a)]))
  obtain ⟨T3, X3, e3, st3⟩ := getF X2 hx hZ hown (host := "") (Or.inl (hw _ (List.mem_of_getElem? (i := 9) rfl))) Via.refl e2 F1 (g := (mkF m 15 #[.val (.ref a), .val (.ref y), .val (.ref y)] [(.ref a)])) rfl rfl (hb hby d3_15)
  refine own_go st3 ?_
  show own_E _ _ _ _ _ _ _ (T3.setTop (mkF m 18 #[.val (.ref a), .val (.ref y), .val (.ref y)] [(.int b1)]))
  refine own_go (fun _ k => XS.aloadN X3.here hx rfl (hb hby d3_18) rfl rfl k) ?_
  show own_E _ _ _ _ _ _ _ (T3.setTop (mkF m 19 #[.val (.ref a), .val (.ref y), .val (.ref y)] [(.ref y), (.int b1)]))
  obtain ⟨T4, X4, e4, st4⟩ := getF X3 hx hZ hown (host := "") (Or.inl (hw _ (List.mem_of_getElem? (i := 9) rfl))) Via.refl e3 F2 (g := (mkF m 19 #[.val (.ref a), .val (.ref y), .val (.ref y)] [(.ref y), (.int b1)])) rfl rfl (hb hby d3_19)
  refine own_go st4 ?_
  show own_E _ _ _ _ _ _ _ (T4.setTop (mkF m 22 #[.val (.ref a), .val (.ref y), .val (.ref y)] [(.int b2), (.int b1)]))
  by_cases q1 : b1 = b2
  ·
    refine own_go (fun _ k => XS.icmpNo X4.here hx rfl (hb hby d3_22) rfl (teq q1).2 k) ?_
    show own_E _ _ _ _ _ _ _ (T4.setTop (mkF m 25 #[.val (.ref a), .val (.ref y), .val (.ref y)] []))
    refine own_go (fun _ k => XS.aloadN X4.here hx rfl (hb hby d3_25) rfl rfl k) ?_
    show own_E _ _ _ _ _ _ _ (T4.setTop (mkF m 26 #[.val (.ref a), .val (.ref y), .val (.ref y)] [(.ref a)]))
    obtain ⟨T5, X5, e5, st5⟩ := getF X4 hx hZ hown (host := "") (Or.inl (hw _ (List.mem_of_getElem? (i := 11) rfl))) Via.refl e4 G1 (g := (mkF m 26 #[.val (.ref a), .val (.ref y), .val (.ref y)] [(.ref a)])) rfl rfl (hb hby d3_26)
    refine own_go st5 ?_
    show own_E _ _ _ _ _ _ _ (T5.setTop (mkF m 29 #[.val (.ref a), .val (.ref y), .val (.ref y)] [(.long n1)]))
    refine own_go (fun _ k => XS.aloadN X5.here hx rfl (hb hby d3_29) rfl rfl k) ?_
    show own_E _ _ _ _ _ _ _ (T5.setTop (mkF m 30 #[.val (.ref a), .val (.ref y), .val (.ref y)] [(.ref y), (.long n1)]))
    obtain ⟨T6, X6, e6, st6⟩ := getF X5 hx hZ hown (host := "") (Or.inl (hw _ (List.mem_of_getElem? (i := 11) rfl))) Via.refl e5 G2 (g := (mkF m 30 #[.val (.ref a), .val (.ref y), .val (.ref y)] [(.ref y), (.long n1)])) rfl rfl (hb hby d3_30)
    refine own_go st6 ?_
    show own_E _ _ _ _ _ _ _ (T6.setTop (mkF m 33 #[.val (.ref a), .val (.ref y), .val (.ref y)] [(.long n2), (.long n1)]))
    refine own_go (fun _ k => XT.lcmp X6.here hx rfl (hb hby d3_33) rfl k) ?_
    show own_E _ _ _ _ _ _ _ (T6.setTop (mkF m 34 #[.val (.ref a), .val (.ref y), .val (.ref y)] [(.int (XT.cmpL n1 n2))]))
    by_cases q2 : n1 = n2
    ·
      refine own_go (fun _ k => XS.ifNo X6.here hx rfl (hb hby d3_34) rfl (XT.ll_ne_f q2) k) ?_
      show own_E _ _ _ _ _ _ _ (T6.setTop (mkF m 37 #[.val (.ref a), .val (.ref y), .val (.ref y)] []))
      refine own_go (fun _ k => XT.iconstV X6.here hx rfl (1 : Int32) (hb hby d3_37) (by decide) k) ?_
      show own_E _ _ _ _ _ _ _ (T6.setTop (mkF m 38 #[.val (.ref a), .val (.ref y), .val (.ref y)] [(.int (1 : Int32))]))
      refine own_go (fun _ k => XS.goto X6.here hx rfl (pc0 := 38) (pc' := 42) rfl (hb hby d3_38) (by decide) (by decide) k) ?_
      show own_E _ _ _ _ _ _ _ (T6.setTop (mkF m 42 #[.val (.ref a), .val (.ref y), .val (.ref y)] [(.int (1 : Int32))]))
      exact own_ret X6 hx Bd.returns Bd.notSynchronized rfl (Or.inl ⟨rfl, by simp, _, rfl⟩) (hb hby d3_42) (by rw [e6]; exact ⟨by rw [if_pos ⟨q1, q2⟩], N0, rfl⟩) (by decide) (by decide)
    ·
      refine own_go (fun _ k => XS.ifYes X6.here hx rfl (pc0 := 34) (pc' := 41) rfl (hb hby d3_34) rfl (XT.ll_ne_t q2) (by decide) (by decide) k) ?_
      show own_E _ _ _ _ _ _ _ (T6.setTop (mkF m 41 #[.val (.ref a), .val (.ref y), .val (.ref y)] []))
      refine own_go (fun _ k => XT.iconstV X6.here hx rfl (0 : Int32) (hb hby d3_41) (by decide) k) ?_
      show own_E _ _ _ _ _ _ _ (T6.setTop (mkF m 42 #[.val (.ref a), .val (.ref y), .val (.ref y)] [(.int (0 : Int32))]))
      exact own_ret X6 hx Bd.returns Bd.notSynchronized rfl (Or.inl ⟨rfl, by simp, _, rfl⟩) (hb hby d3_42) (by rw [e6]; exact ⟨by rw [if_neg (fun z => q2 z.2)], N0, rfl⟩) (by decide) (by decide)
  ·
    refine own_go (fun _ k => XS.icmpYes X4.here hx rfl (pc0 := 22) (pc' := 41) rfl (hb hby d3_22) rfl (feq q1).2 (by decide) (by decide) k) ?_
    show own_E _ _ _ _ _ _ _ (T4.setTop (mkF m 41 #[.val (.ref a), .val (.ref y), .val (.ref y)] []))
    refine own_go (fun _ k => XT.iconstV X4.here hx rfl (0 : Int32) (hb hby d3_41) (by decide) k) ?_
    show own_E _ _ _ _ _ _ _ (T4.setTop (mkF m 42 #[.val (.ref a), .val (.ref y), .val (.ref y)] [(.int (0 : Int32))]))
    exact own_ret X4 hx Bd.returns Bd.notSynchronized rfl (Or.inl ⟨rfl, by simp, _, rfl⟩) (hb hby d3_42) (by rw [e4]; exact ⟨by rw [if_neg (fun z => q1 z.1)], N0, rfl⟩) (by decide) (by decide)
theorem d7_0 : decode jdk_18_method_1_code 0 = .ok (.aload_n 0, 1) := by decide +kernel
theorem d7_1 : decode jdk_18_method_1_code 1 = .ok (.invokespecial 1, 3) := by decide +kernel
theorem d7_4 : decode jdk_18_method_1_code 4 = .ok (.return_, 1) := by decide +kernel
def Qrm7 (a : Addr) (Z : State) (h0 : Heap) (n0 : Nat) (v : Option Value) (h : Heap) (L : List Loc) : Prop := v = none ∧ Fr n0 L ∧ h = h0
set_option maxRecDepth 65536 in
set_option maxHeartbeats 40000000 in
theorem rm7 (l : Launch) (Z : State) (a0 : Array Value) (hw : ∀ d ∈ tables_1, d.before a0 Z = true) (a : Addr) (h0 : Heap) (n0 : Nat) (Z0 : n0 ≤ h0.size) :
    MetFree l (⟨"java/lang/Number", "<init>", "()V"⟩ : MethodName) (head1 (Jvm.Cond.code (⟨"java/lang/Number", "<init>", "()V"⟩ : MethodName) jdk_18_method_1_code 1 none :: []) ({ frames := 1, cells := 0, slots := 0, locals := 12 } : Room)) (fun ar_ U => ar_ = #[(.ref a)] ∧ Z.Warmed39 U.vm ∧ U.heap = h0) (fun _ _ _ _ _ => True) (fun _ U o U' => ∃ v L, o = .returned v ∧ Qrm7 a Z h0 n0 v U'.heap L ∧ FrameEnd U o U' L ({ frames := 1, cells := 0, slots := 0, locals := 12 } : Room).cells ({ frames := 1, cells := 0, slots := 0, locals := 12 } : Room).slots) := by
  refine MetFree.of_bodySF (plainFor_of_name (by first | (simp [plainName, overriddenIn]; done) | decide +kernel)) hisR ?_
  intro p e s m args below meth c s₁ Bd hml0 hP hK
  obtain ⟨rfl, hZ, hh⟩ := hP
  have hx := Bd.exec
  have hby := Bd.bytes
  have hml : c.maxLocals = 1 := hml0
  have hown : s.vm.findClass "java/lang/Number" = some m.cls := findClass_of_methodNamed Bd.named
  have hnm := (name_of_methodNamed Bd.named Bd.method).1
  have X0 : Stand p l e ({ frames := 1, cells := 0, slots := 0, locals := 12 } : Room) s m #[(.ref a)] below meth c s₁ [] 0 0 := Stand.of_body Bd
  have e0 : s₁.heap = h0 := by rw [← hh, Bd.state]; rfl
  have N0 := Fr.nil n0
  show own_E p e below s (Qrm7 a Z h0 n0) ({ frames := 1, cells := 0, slots := 0, locals := 12 } : Room).cells ({ frames := 1, cells := 0, slots := 0, locals := 12 } : Room).slots (s₁.setTop (entryFrame m #[(.ref a)] 1))
  refine own_go (fun t k => castTop (show _ = (mkF m 0 #[.val (.ref a)] []) from by first | (simp [entryFrame, mkF, argsToLocals, Value.category]; done) | rfl) k) ?_
  show own_E _ _ _ _ _ _ _ (s₁.setTop (mkF m 0 #[.val (.ref a)] []))
  refine own_go (fun _ k => XS.aloadN X0.here hx rfl (hb hby d7_0) rfl rfl k) ?_
  show own_E _ _ _ _ _ _ _ (s₁.setTop (mkF m 1 #[.val (.ref a)] [(.ref a)]))
  obtain ⟨T1, X1, e1, st1⟩ := initO X0 hx hZ hown (hw _ (List.mem_of_getElem? (i := 48) rfl)) (hw _ (List.mem_of_getElem? (i := 7) rfl)) (hw _ (List.mem_of_getElem? (i := 8) rfl)) e0 (g := (mkF m 1 #[.val (.ref a)] [(.ref a)])) rfl (by rw [hml]; rfl) rfl (hb hby d7_1) (by decide) (W := 0) (Nat.le_of_ble_eq_true rfl) (by decide)
  refine own_go st1 ?_
  show own_E _ _ _ _ _ _ _ (T1.setTop (mkF m 4 #[.val (.ref a)] []))
  exact own_ret0 X1 hx Bd.returns Bd.notSynchronized (hb hby d7_4) (by rw [e1]; exact ⟨rfl, N0, rfl⟩) (by decide) (by decide)
theorem d6_0 : decode jdk_35_method_26_code 0 = .ok (.aload_n 0, 1) := by decide +kernel
theorem d6_1 : decode jdk_35_method_26_code 1 = .ok (.invokespecial 270, 3) := by decide +kernel
theorem d6_4 : decode jdk_35_method_26_code 4 = .ok (.aload_n 0, 1) := by decide +kernel
theorem d6_5 : decode jdk_35_method_26_code 5 = .ok (.lload_n 1, 1) := by decide +kernel
theorem d6_6 : decode jdk_35_method_26_code 6 = .ok (.putfield 273, 3) := by decide +kernel
theorem d6_9 : decode jdk_35_method_26_code 9 = .ok (.return_, 1) := by decide +kernel
def Qrm6 (a : Addr) (x : Int64) (Z : State) (h0 : Heap) (n0 : Nat) (v : Option Value) (h : Heap) (L : List Loc) : Prop := v = none ∧ Fr n0 L ∧ Keep h0 h [a] ∧ Exa Z h a "java/lang/Long" ∧ Fld Z h a "java/lang/Long" "value" "J" (.long x)
set_option maxRecDepth 65536 in
set_option maxHeartbeats 40000000 in
theorem rm6 (l : Launch) (Z : State) (a0 : Array Value) (hw : ∀ d ∈ tables_1, d.before a0 Z = true) (a : Addr) (x : Int64) (h0 : Heap) (n0 : Nat) (Z0 : n0 ≤ h0.size) (E : Exa Z h0 a "java/lang/Long") (F : Fld Z h0 a "java/lang/Long" "value" "J" (.long 0)) (ga : n0 ≤ a) :
    MetFree l (⟨"java/lang/Long", "<init>", "(J)V"⟩ : MethodName) (head1 (Jvm.Cond.code (⟨"java/lang/Long", "<init>", "(J)V"⟩ : MethodName) jdk_35_method_26_code 3 none :: []) ({ frames := 2, cells := 0, slots := 0, locals := 24 } : Room)) (fun ar_ U => ar_ = #[(.ref a), (.long x)] ∧ Z.Warmed39 U.vm ∧ U.heap = h0) (fun _ _ _ _ _ => True) (fun _ U o U' => ∃ v L, o = .returned v ∧ Qrm6 a x Z h0 n0 v U'.heap L ∧ FrameEnd U o U' L ({ frames := 2, cells := 0, slots := 0, locals := 24 } : Room).cells ({ frames := 2, cells := 0, slots := 0, locals := 24 } : Room).slots) := by
  refine MetFree.of_bodySF (plainFor_of_name (by first | (simp [plainName, overriddenIn]; done) | decide +kernel)) hisR ?_
  intro p e s m args below meth c s₁ Bd hml0 hP hK
  obtain ⟨rfl, hZ, hh⟩ := hP
  have hx := Bd.exec
  have hby := Bd.bytes
  have hml : c.maxLocals = 3 := hml0
  have hown : s.vm.findClass "java/lang/Long" = some m.cls := findClass_of_methodNamed Bd.named
  have hnm := (name_of_methodNamed Bd.named Bd.method).1
  have X0 : Stand p l e ({ frames := 2, cells := 0, slots := 0, locals := 24 } : Room) s m #[(.ref a), (.long x)] below meth c s₁ [] 0 0 := Stand.of_body Bd
  have e0 : s₁.heap = h0 := by rw [← hh, Bd.state]; rfl
  have N0 := Fr.nil n0
  show own_E p e below s (Qrm6 a x Z h0 n0) ({ frames := 2, cells := 0, slots := 0, locals := 24 } : Room).cells ({ frames := 2, cells := 0, slots := 0, locals := 24 } : Room).slots (s₁.setTop (entryFrame m #[(.ref a), (.long x)] 3))
  refine own_go (fun t k => castTop (show _ = (mkF m 0 #[.val (.ref a), .val (.long x), .second] []) from by first | (simp [entryFrame, mkF, argsToLocals, Value.category]; done) | rfl) k) ?_
  show own_E _ _ _ _ _ _ _ (s₁.setTop (mkF m 0 #[.val (.ref a), .val (.long x), .second] []))
  have KK := Keep.refl h0 [a]
  refine own_go (fun _ k => XS.aloadN X0.here hx rfl (hb hby d6_0) rfl rfl k) ?_
  show own_E _ _ _ _ _ _ _ (s₁.setTop (mkF m 1 #[.val (.ref a), .val (.long x), .second] [(.ref a)]))
  obtain ⟨v11, T11, L11, X11, hQ11, st11⟩ := own_callI X0 hx hZ (rm := ({ frames := 1, cells := 0, slots := 0, locals := 12 } : Room)) (W := 0) (b := a) (argsL := []) (rest := []) (y := (⟨"java/lang/Number", "<init>", "()V"⟩ : MethodName)) hown rfl (hw _ (List.mem_of_getElem? (i := 42) rfl)) (hw _ (List.mem_of_getElem? (i := 43) rfl)) (hw _ (List.mem_of_getElem? (i := 46) rfl)) (hw _ (List.mem_of_getElem? (i := 47) rfl)) (by decide) (rm7 l Z a0 hw a h0 n0 Z0) e0 (by decide) (by decide) (by decide) (by decide) (g := (mkF m 1 #[.val (.ref a), .val (.long x), .second] [(.ref a)])) rfl (by rw [hml]; rfl) (lenOf pd_0 rfl) rfl (Nat.le_of_ble_eq_true rfl) (hb hby d6_1)
  obtain ⟨rfl, N11, e11⟩ := hQ11
  refine own_go st11 ?_
  show own_E _ _ _ _ _ _ _ (T11.setTop (mkF m 4 #[.val (.ref a), .val (.long x), .second] []))
  have M11 := Fr.app N0 N11
  refine own_go (fun _ k => XS.aloadN X11.here hx rfl (hb hby d6_4) rfl rfl k) ?_
  show own_E _ _ _ _ _ _ _ (T11.setTop (mkF m 5 #[.val (.ref a), .val (.long x), .second] [(.ref a)]))
  refine own_go (fun _ k => XT.lloadN X11.here hx rfl (hb hby d6_5) rfl k) ?_
  show own_E _ _ _ _ _ _ _ (T11.setTop (mkF m 6 #[.val (.ref a), .val (.long x), .second] [(.long x), (.ref a)]))
  obtain ⟨T12, h12, X12, e12, W12, st12⟩ := putF X11 hx hZ hown (host := "") (Or.inl (hw _ (List.mem_of_getElem? (i := 49) rfl))) Via.refl e11 F E (Or.inr ⟨(hw _ (List.mem_of_getElem? (i := 50) rfl)), rfl, hnm⟩) (hw _ (List.mem_of_getElem? (i := 37) rfl)) (ty := .long) (by decide +kernel) rfl rfl (g := (mkF m 6 #[.val (.ref a), .val (.long x), .second] [(.long x), (.ref a)])) rfl rfl (hb hby d6_6)
  have f12_0 := F.same W12
  have f12_1 := E.wr W12
  have Z12 : n0 ≤ h12.size := by rw [W12.size]; exact Z0
  have N12 := Fr.snoc X12 M11 ga
  have K12 := KK.wr W12 (Or.inl (by simp))
  refine own_go st12 ?_
  show own_E _ _ _ _ _ _ _ (T12.setTop (mkF m 9 #[.val (.ref a), .val (.long x), .second] []))
  exact own_ret0 X12 hx Bd.returns Bd.notSynchronized (hb hby d6_9) (by rw [e12]; exact ⟨rfl, N12, K12, f12_1, f12_0⟩) (by decide) (by decide)
theorem d5_0 : decode jdk_35_method_24_code 0 = .ok (.sipush 128, 3) := by decide +kernel
theorem d5_3 : decode jdk_35_method_24_code 3 = .ok (.istore_n 2, 1) := by decide +kernel
theorem d5_4 : decode jdk_35_method_24_code 4 = .ok (.lload_n 0, 1) := by decide +kernel
theorem d5_5 : decode jdk_35_method_24_code 5 = .ok (.ldc2_w 230, 3) := by decide +kernel
theorem d5_8 : decode jdk_35_method_24_code 8 = .ok (.lcmp, 1) := by decide +kernel
theorem d5_9 : decode jdk_35_method_24_code 9 = .ok (.ifCond .lt 22, 3) := by decide +kernel
theorem d5_12 : decode jdk_35_method_24_code 12 = .ok (.lload_n 0, 1) := by decide +kernel
theorem d5_13 : decode jdk_35_method_24_code 13 = .ok (.ldc2_w 232, 3) := by decide +kernel
theorem d5_16 : decode jdk_35_method_24_code 16 = .ok (.lcmp, 1) := by decide +kernel
theorem d5_17 : decode jdk_35_method_24_code 17 = .ok (.ifCond .gt 14, 3) := by decide +kernel
theorem d5_20 : decode jdk_35_method_24_code 20 = .ok (.getstatic 234, 3) := by decide +kernel
theorem d5_23 : decode jdk_35_method_24_code 23 = .ok (.lload_n 0, 1) := by decide +kernel
theorem d5_24 : decode jdk_35_method_24_code 24 = .ok (.l2i, 1) := by decide +kernel
theorem d5_25 : decode jdk_35_method_24_code 25 = .ok (.sipush 128, 3) := by decide +kernel
theorem d5_28 : decode jdk_35_method_24_code 28 = .ok (.iadd, 1) := by decide +kernel
theorem d5_29 : decode jdk_35_method_24_code 29 = .ok (.aaload, 1) := by decide +kernel
theorem d5_30 : decode jdk_35_method_24_code 30 = .ok (.areturn, 1) := by decide +kernel
theorem d5_31 : decode jdk_35_method_24_code 31 = .ok (.new 1, 3) := by decide +kernel
theorem d5_34 : decode jdk_35_method_24_code 34 = .ok (.dup, 1) := by decide +kernel
theorem d5_35 : decode jdk_35_method_24_code 35 = .ok (.lload_n 0, 1) := by decide +kernel
theorem d5_36 : decode jdk_35_method_24_code 36 = .ok (.invokespecial 240, 3) := by decide +kernel
theorem d5_39 : decode jdk_35_method_24_code 39 = .ok (.areturn, 1) := by decide +kernel
def Qrm5 (x : Int64) (ar : Addr) (cl : Cell) (Z : State) (h0 : Heap) (n0 : Nat) (v : Option Value) (h : Heap) (L : List Loc) : Prop := Fr n0 L ∧ Keep h0 h [] ∧ ∃ r, v = some (.ref r) ∧ Exa Z h r "java/lang/Long"
set_option maxRecDepth 65536 in
set_option maxHeartbeats 40000000 in
theorem rm5 (l : Launch) (Z : State) (a0 : Array Value) (hw : ∀ d ∈ tables_1, d.before a0 Z = true) (x : Int64) (ar : Addr) (cl : Cell) (h0 : Heap) (n0 : Nat) (Z0 : n0 ≤ h0.size) (O0 : Old Z n0 h0) (S : Sta Z Z.heap "java/lang/Long$LongCache" "cache" "[Ljava/lang/Long;" (.ref ar)) (B : Bxs Z ar cl "java/lang/Long" "J" (256 : Int32) own_valJ) :
    MetFree l (⟨"java/lang/Long", "valueOf", "(J)Ljava/lang/Long;"⟩ : MethodName) (head1 (Jvm.Cond.code (⟨"java/lang/Long", "valueOf", "(J)Ljava/lang/Long;"⟩ : MethodName) jdk_35_method_24_code 3 (some (.object "java/lang/Long")) :: []) ({ frames := 3, cells := 1, slots := 1, locals := 40 } : Room)) (fun ar_ U => ar_ = #[(.long x)] ∧ Z.Warmed39 U.vm ∧ U.heap = h0) (fun _ _ _ _ _ => True) (fun _ U o U' => ∃ v L, o = .returned v ∧ Qrm5 x ar cl Z h0 n0 v U'.heap L ∧ FrameEnd U o U' L ({ frames := 3, cells := 1, slots := 1, locals := 40 } : Room).cells ({ frames := 3, cells := 1, slots := 1, locals := 40 } : Room).slots) := by
  refine MetFree.of_bodySF (plainFor_of_name (by first | (simp [plainName, overriddenIn]; done) | decide +kernel)) hisR ?_
  intro p e s m args below meth c s₁ Bd hml0 hP hK
  obtain ⟨rfl, hZ, hh⟩ := hP
  have hx := Bd.exec
  have hby := Bd.bytes
  have hml : c.maxLocals = 3 := hml0
  have hown : s.vm.findClass "java/lang/Long" = some m.cls := findClass_of_methodNamed Bd.named
  have hnm := (name_of_methodNamed Bd.named Bd.method).1
  have X0 : Stand p l e ({ frames := 3, cells := 1, slots := 1, locals := 40 } : Room) s m #[(.long x)] below meth c s₁ [] 0 0 := Stand.of_body Bd
  have e0 : s₁.heap = h0 := by rw [← hh, Bd.state]; rfl
  have N0 := Fr.nil n0
  show own_E p e below s (Qrm5 x ar cl Z h0 n0) ({ frames := 3, cells := 1, slots := 1, locals := 40 } : Room).cells ({ frames := 3, cells := 1, slots := 1, locals := 40 } : Room).slots (s₁.setTop (entryFrame m #[(.long x)] 3))
  refine own_go (fun t k => castTop (show _ = (mkF m 0 #[.val (.long x), .second, .unset] []) from by first | (simp [entryFrame, mkF, argsToLocals, Value.category]; done) | rfl) k) ?_
  show own_E _ _ _ _ _ _ _ (s₁.setTop (mkF m 0 #[.val (.long x), .second, .unset] []))
  have KK := Keep.refl h0 []
  refine own_go (fun _ k => XT.sipushV X0.here hx rfl (128 : Int32) (hb hby d5_0) (by decide) k) ?_
  show own_E _ _ _ _ _ _ _ (s₁.setTop (mkF m 3 #[.val (.long x), .second, .unset] [(.int (128 : Int32))]))
  refine own_go (fun _ k => XS.istoreN X0.here hx rfl (hb hby d5_3) rfl (l' := #[.val (.long x), .second, .val (.int (128 : Int32))]) rfl k) ?_
  show own_E _ _ _ _ _ _ _ (s₁.setTop (mkF m 4 #[.val (.long x), .second, .val (.int (128 : Int32))] []))
  refine own_go (fun _ k => XT.lloadN X0.here hx rfl (hb hby d5_4) rfl k) ?_
  show own_E _ _ _ _ _ _ _ (s₁.setTop (mkF m 5 #[.val (.long x), .second, .val (.int (128 : Int32))] [(.long x)]))
  refine own_go (fun _ k => X0.ldc2J hx hown (mvT hZ (hw _ (List.mem_of_getElem? (i := 34) rfl))) rfl (hb hby d5_5) k) ?_
  show own_E _ _ _ _ _ _ _ (s₁.setTop (mkF m 8 #[.val (.long x), .second, .val (.int (128 : Int32))] [(.long (-128 : Int64)), (.long x)]))
  refine own_go (fun _ k => XT.lcmp X0.here hx rfl (hb hby d5_8) rfl k) ?_
  show own_E _ _ _ _ _ _ _ (s₁.setTop (mkF m 9 #[.val (.long x), .second, .val (.int (128 : Int32))] [(.int (XT.cmpL x (-128 : Int64)))]))
  by_cases q1 : x < -128
  ·
    refine own_go (fun _ k => XS.ifYes X0.here hx rfl (pc0 := 9) (pc' := 31) rfl (hb hby d5_9) rfl (XT.ll_lt_t q1) (by decide) (by decide) k) ?_
    show own_E _ _ _ _ _ _ _ (s₁.setTop (mkF m 31 #[.val (.long x), .second, .val (.int (128 : Int32))] []))
    obtain ⟨T11, h11, X11, e11, E11, A11, D11, -, st11⟩ := newO X0 hx hZ hown (hw _ (List.mem_of_getElem? (i := 36) rfl)) (hw _ (List.mem_of_getElem? (i := 37) rfl)) (hw _ (List.mem_of_getElem? (i := 32) rfl)) e0 (g := (mkF m 31 #[.val (.long x), .second, .val (.int (128 : Int32))] [])) rfl (hb hby d5_31) (by decide) (by decide)
    obtain ⟨a, g11⟩ : ∃ z, z = h0.size := ⟨_, rfl⟩
    rw [← g11] at A11 D11 st11
    have w11 : n0 ≤ a := by rw [g11]; exact Z0
    have kz11 : h0.size ≤ a := by rw [g11]; exact KK.1
    have f11_value : Fld Z h11 a "java/lang/Long" "value" "J" (.long (0 : Int64)) := D11 (Or.inr (hw _ (List.mem_of_getElem? (i := 50) rfl))) (ty := .long) (by decide +kernel)
    have O11 := O0.ext E11
    have K11 := KK.ext E11
    have Z11 := Nat.le_trans Z0 E11.1
    refine own_go st11 ?_
    show own_E _ _ _ _ _ _ _ (T11.setTop (mkF m 34 #[.val (.long x), .second, .val (.int (128 : Int32))] [(.ref a)]))
    refine own_go (fun _ k => XS.dup X11.here hx rfl (hb hby d5_34) rfl rfl k) ?_
    show own_E _ _ _ _ _ _ _ (T11.setTop (mkF m 35 #[.val (.long x), .second, .val (.int (128 : Int32))] [(.ref a), (.ref a)]))
    refine own_go (fun _ k => XT.lloadN X11.here hx rfl (hb hby d5_35) rfl k) ?_
    show own_E _ _ _ _ _ _ _ (T11.setTop (mkF m 36 #[.val (.long x), .second, .val (.int (128 : Int32))] [(.long x), (.ref a), (.ref a)]))
    obtain ⟨v12, T12, L12, X12, hQ12, st12⟩ := own_callI X11 hx hZ (rm := ({ frames := 2, cells := 0, slots := 0, locals := 24 } : Room)) (W := 1) (b := a) (argsL := [(.long x)]) (rest := [(.ref a)]) (y := (⟨"java/lang/Long", "<init>", "(J)V"⟩ : MethodName)) hown rfl (hw _ (List.mem_of_getElem? (i := 38) rfl)) (hw _ (List.mem_of_getElem? (i := 39) rfl)) (hw _ (List.mem_of_getElem? (i := 32) rfl)) (hw _ (List.mem_of_getElem? (i := 41) rfl)) (by decide) (rm6 l Z a0 hw a x h11 n0 Z11 A11 f11_value w11) e11 (by decide) (by decide) (by decide) (by decide) (g := (mkF m 36 #[.val (.long x), .second, .val (.int (128 : Int32))] [(.long x), (.ref a), (.ref a)])) rfl (by rw [hml]; rfl) (lenOf pd_1 rfl) rfl (Nat.le_of_ble_eq_true rfl) (hb hby d5_36)
    obtain ⟨rfl, N12, K12, A12, F12⟩ := hQ12
    refine own_go st12 ?_
    show own_E _ _ _ _ _ _ _ (T12.setTop (mkF m 39 #[.val (.long x), .second, .val (.int (128 : Int32))] [(.ref a)]))
    have M12 := Fr.app N0 N12
    have e12 : T12.heap = T12.heap := rfl
    have f12_4 := A11.keep K12
    have O12 := O11.keep K12 (allS w11 all0)
    have Z12 := Nat.le_trans Z11 K12.1
    have KK12 := K11.trans K12 (allS (Or.inr kz11) all0)
    exact own_ret X12 hx Bd.returns Bd.notSynchronized rfl (Or.inr (Or.inr (Or.inr (Or.inr ⟨rfl, rfl, rfl⟩)))) (hb hby d5_39) (by rw [e12]; exact ⟨M12, KK12, _, rfl, A12⟩) (by decide) (by decide)
  ·
    refine own_go (fun _ k => XS.ifNo X0.here hx rfl (hb hby d5_9) rfl (XT.ll_lt_f q1) k) ?_
    show own_E _ _ _ _ _ _ _ (s₁.setTop (mkF m 12 #[.val (.long x), .second, .val (.int (128 : Int32))] []))
    refine own_go (fun _ k => XT.lloadN X0.here hx rfl (hb hby d5_12) rfl k) ?_
    show own_E _ _ _ _ _ _ _ (s₁.setTop (mkF m 13 #[.val (.long x), .second, .val (.int (128 : Int32))] [(.long x)]))
    refine own_go (fun _ k => X0.ldc2J hx hown (mvT hZ (hw _ (List.mem_of_getElem? (i := 35) rfl))) rfl (hb hby d5_13) k) ?_
    show own_E _ _ _ _ _ _ _ (s₁.setTop (mkF m 16 #[.val (.long x), .second, .val (.int (128 : Int32))] [(.long (127 : Int64)), (.long x)]))
    refine own_go (fun _ k => XT.lcmp X0.here hx rfl (hb hby d5_16) rfl k) ?_
    show own_E _ _ _ _ _ _ _ (s₁.setTop (mkF m 17 #[.val (.long x), .second, .val (.int (128 : Int32))] [(.int (XT.cmpL x (127 : Int64)))]))
    by_cases q2 : 127 < x
    ·
      refine own_go (fun _ k => XS.ifYes X0.here hx rfl (pc0 := 17) (pc' := 31) rfl (hb hby d5_17) rfl (XT.ll_gt_t q2) (by decide) (by decide) k) ?_
      show own_E _ _ _ _ _ _ _ (s₁.setTop (mkF m 31 #[.val (.long x), .second, .val (.int (128 : Int32))] []))
      obtain ⟨T13, h13, X13, e13, E13, A13, D13, -, st13⟩ := newO X0 hx hZ hown (hw _ (List.mem_of_getElem? (i := 36) rfl)) (hw _ (List.mem_of_getElem? (i := 37) rfl)) (hw _ (List.mem_of_getElem? (i := 32) rfl)) e0 (g := (mkF m 31 #[.val (.long x), .second, .val (.int (128 : Int32))] [])) rfl (hb hby d5_31) (by decide) (by decide)
      obtain ⟨a, g13⟩ : ∃ z, z = h0.size := ⟨_, rfl⟩
      rw [← g13] at A13 D13 st13
      have w13 : n0 ≤ a := by rw [g13]; exact Z0
      have kz13 : h0.size ≤ a := by rw [g13]; exact KK.1
      have f13_value : Fld Z h13 a "java/lang/Long" "value" "J" (.long (0 : Int64)) := D13 (Or.inr (hw _ (List.mem_of_getElem? (i := 50) rfl))) (ty := .long) (by decide +kernel)
      have O13 := O0.ext E13
      have K13 := KK.ext E13
      have Z13 := Nat.le_trans Z0 E13.1
      refine own_go st13 ?_
      show own_E _ _ _ _ _ _ _ (T13.setTop (mkF m 34 #[.val (.long x), .second, .val (.int (128 : Int32))] [(.ref a)]))
      refine own_go (fun _ k => XS.dup X13.here hx rfl (hb hby d5_34) rfl rfl k) ?_
      show own_E _ _ _ _ _ _ _ (T13.setTop (mkF m 35 #[.val (.long x), .second, .val (.int (128 : Int32))] [(.ref a), (.ref a)]))
      refine own_go (fun _ k => XT.lloadN X13.here hx rfl (hb hby d5_35) rfl k) ?_
      show own_E _ _ _ _ _ _ _ (T13.setTop (mkF m 36 #[.val (.long x), .second, .val (.int (128 : Int32))] [(.long x), (.ref a), (.ref a)]))
      obtain ⟨v14, T14, L14, X14, hQ14, st14⟩ := own_callI X13 hx hZ (rm := ({ frames := 2, cells := 0, slots := 0, locals := 24 } : Room)) (W := 1) (b := a) (argsL := [(.long x)]) (rest := [(.ref a)]) (y := (⟨"java/lang/Long", "<init>", "(J)V"⟩ : MethodName)) hown rfl (hw _ (List.mem_of_getElem? (i := 38) rfl)) (hw _ (List.mem_of_getElem? (i := 39) rfl)) (hw _ (List.mem_of_getElem? (i := 32) rfl)) (hw _ (List.mem_of_getElem? (i := 41) rfl)) (by decide) (rm6 l Z a0 hw a x h13 n0 Z13 A13 f13_value w13) e13 (by decide) (by decide) (by decide) (by decide) (g := (mkF m 36 #[.val (.long x), .second, .val (.int (128 : Int32))] [(.long x), (.ref a), (.ref a)])) rfl (by rw [hml]; rfl) (lenOf pd_1 rfl) rfl (Nat.le_of_ble_eq_true rfl) (hb hby d5_36)
      obtain ⟨rfl, N14, K14, A14, F14⟩ := hQ14
      refine own_go st14 ?_
      show own_E _ _ _ _ _ _ _ (T14.setTop (mkF m 39 #[.val (.long x), .second, .val (.int (128 : Int32))] [(.ref a)]))
      have M14 := Fr.app N0 N14
      have e14 : T14.heap = T14.heap := rfl
      have f14_4 := A13.keep K14
      have O14 := O13.keep K14 (allS w13 all0)
      have Z14 := Nat.le_trans Z13 K14.1
      have KK14 := K13.trans K14 (allS (Or.inr kz13) all0)
      exact own_ret X14 hx Bd.returns Bd.notSynchronized rfl (Or.inr (Or.inr (Or.inr (Or.inr ⟨rfl, rfl, rfl⟩)))) (hb hby d5_39) (by rw [e14]; exact ⟨M14, KK14, _, rfl, A14⟩) (by decide) (by decide)
    ·
      refine own_go (fun _ k => XS.ifNo X0.here hx rfl (hb hby d5_17) rfl (XT.ll_gt_f q2) k) ?_
      show own_E _ _ _ _ _ _ _ (s₁.setTop (mkF m 20 #[.val (.long x), .second, .val (.int (128 : Int32))] []))
      obtain ⟨T15, X15, e15, st15⟩ := getS2 X0 hx hZ hown (host := "") (Or.inl (hw _ (List.mem_of_getElem? (i := 62) rfl))) Via.refl e0 (S.ext O0.2) (g := (mkF m 20 #[.val (.long x), .second, .val (.int (128 : Int32))] [])) rfl (hb hby d5_20)
      refine own_go st15 ?_
      show own_E _ _ _ _ _ _ _ (T15.setTop (mkF m 23 #[.val (.long x), .second, .val (.int (128 : Int32))] [(.ref ar)]))
      refine own_go (fun _ k => XT.lloadN X15.here hx rfl (hb hby d5_23) rfl k) ?_
      show own_E _ _ _ _ _ _ _ (T15.setTop (mkF m 24 #[.val (.long x), .second, .val (.int (128 : Int32))] [(.long x), (.ref ar)]))
      refine own_go (fun _ k => XT.l2i X15.here hx rfl (hb hby d5_24) rfl k) ?_
      show own_E _ _ _ _ _ _ _ (T15.setTop (mkF m 25 #[.val (.long x), .second, .val (.int (128 : Int32))] [(.int (x).toInt32), (.ref ar)]))
      refine own_go (fun _ k => XT.sipushV X15.here hx rfl (128 : Int32) (hb hby d5_25) (by decide) k) ?_
      show own_E _ _ _ _ _ _ _ (T15.setTop (mkF m 28 #[.val (.long x), .second, .val (.int (128 : Int32))] [(.int (128 : Int32)), (.int (x).toInt32), (.ref ar)]))
      refine own_go (fun _ k => XS.iadd X15.here hx rfl (hb hby d5_28) rfl k) ?_
      show own_E _ _ _ _ _ _ _ (T15.setTop (mkF m 29 #[.val (.long x), .second, .val (.int (128 : Int32))] [(.int ((x).toInt32 + (128 : Int32))), (.ref ar)]))
      have hi := own_idxL q1 q2
      have hin := inb_of B.2.1 hi
      obtain ⟨r, hr, Er, -⟩ := B.2.2.2 _ hin
      refine own_go (own_aaload X15 hx hZ e15 (B.1.ext O0.2) rfl (v := .ref r) hin hr (g := (mkF m 29 #[.val (.long x), .second, .val (.int (128 : Int32))] [(.int ((x).toInt32 + (128 : Int32))), (.ref ar)])) rfl rfl (hb hby d5_29)) ?_
      show own_E _ _ _ _ _ _ _ (T15.setTop (mkF m 30 #[.val (.long x), .second, .val (.int (128 : Int32))] [(.ref r)]))
      exact own_ret X15 hx Bd.returns Bd.notSynchronized rfl (Or.inr (Or.inr (Or.inr (Or.inr ⟨rfl, rfl, rfl⟩)))) (hb hby d5_30) (by rw [e15]; exact ⟨N0, KK, _, rfl, Er.ext O0.2⟩) (by decide) (by decide)
theorem d8_0 : decode jdk_33_method_23_code 0 = .ok (.aload_n 0, 1) := by decide +kernel
theorem d8_1 : decode jdk_33_method_23_code 1 = .ok (.invokespecial 202, 3) := by decide +kernel
theorem d8_4 : decode jdk_33_method_23_code 4 = .ok (.aload_n 0, 1) := by decide +kernel
theorem d8_5 : decode jdk_33_method_23_code 5 = .ok (.iload_n 1, 1) := by decide +kernel
theorem d8_6 : decode jdk_33_method_23_code 6 = .ok (.putfield 205, 3) := by decide +kernel
theorem d8_9 : decode jdk_33_method_23_code 9 = .ok (.return_, 1) := by decide +kernel
def Qrm8 (a : Addr) (x : Int32) (Z : State) (h0 : Heap) (n0 : Nat) (v : Option Value) (h : Heap) (L : List Loc) : Prop := v = none ∧ Fr n0 L ∧ Keep h0 h [a] ∧ Exa Z h a "java/lang/Integer" ∧ Fld Z h a "java/lang/Integer" "value" "I" (.int x)
set_option maxRecDepth 65536 in
set_option maxHeartbeats 40000000 in
theorem rm8 (l : Launch) (Z : State) (a0 : Array Value) (hw : ∀ d ∈ tables_1, d.before a0 Z = true) (a : Addr) (x : Int32) (h0 : Heap) (n0 : Nat) (Z0 : n0 ≤ h0.size) (E : Exa Z h0 a "java/lang/Integer") (F : Fld Z h0 a "java/lang/Integer" "value" "I" (.int 0)) (ga : n0 ≤ a) :
    MetFree l (⟨"java/lang/Integer", "<init>", "(I)V"⟩ : MethodName) (head1 (Jvm.Cond.code (⟨"java/lang/Integer", "<init>", "(I)V"⟩ : MethodName) jdk_33_method_23_code 2 none :: []) ({ frames := 2, cells := 0, slots := 0, locals := 24 } : Room)) (fun ar_ U => ar_ = #[(.ref a), (.int x)] ∧ Z.Warmed39 U.vm ∧ U.heap = h0) (fun _ _ _ _ _ => True) (fun _ U o U' => ∃ v L, o = .returned v ∧ Qrm8 a x Z h0 n0 v U'.heap L ∧ FrameEnd U o U' L ({ frames := 2, cells := 0, slots := 0, locals := 24 } : Room).cells ({ frames := 2, cells := 0, slots := 0, locals := 24 } : Room).slots) := by
  refine MetFree.of_bodySF (plainFor_of_name (by first | (simp [plainName, overriddenIn]; done) | decide +kernel)) hisR ?_
  intro p e s m args below meth c s₁ Bd hml0 hP hK
  obtain ⟨rfl, hZ, hh⟩ := hP
  have hx := Bd.exec
  have hby := Bd.bytes
  have hml : c.maxLocals = 2 := hml0
  have hown : s.vm.findClass "java/lang/Integer" = some m.cls := findClass_of_methodNamed Bd.named
  have hnm := (name_of_methodNamed Bd.named Bd.method).1
  have X0 : Stand p l e ({ frames := 2, cells := 0, slots := 0, locals := 24 } : Room) s m #[(.ref a), (.int x)] below meth c s₁ [] 0 0 := Stand.of_body Bd
  have e0 : s₁.heap = h0 := by rw [← hh, Bd.state]; rfl
  have N0 := Fr.nil n0
  show own_E p e below s (Qrm8 a x Z h0 n0) ({ frames := 2, cells := 0, slots := 0, locals := 24 } : Room).cells ({ frames := 2, cells := 0, slots := 0, locals := 24 } : Room).slots (s₁.setTop (entryFrame m #[(.ref a), (.int x)] 2))
  refine own_go (fun t k => castTop (show _ = (mkF m 0 #[.val (.ref a), .val (.int x)] []) from by first | (simp [entryFrame, mkF, argsToLocals, Value.category]; done) | rfl) k) ?_
  show own_E _ _ _ _ _ _ _ (s₁.setTop (mkF m 0 #[.val (.ref a), .val (.int x)] []))
  have KK := Keep.refl h0 [a]
  refine own_go (fun _ k => XS.aloadN X0.here hx rfl (hb hby d8_0) rfl rfl k) ?_
  show own_E _ _ _ _ _ _ _ (s₁.setTop (mkF m 1 #[.val (.ref a), .val (.int x)] [(.ref a)]))
  obtain ⟨v11, T11, L11, X11, hQ11, st11⟩ := own_callI X0 hx hZ (rm := ({ frames := 1, cells := 0, slots := 0, locals := 12 } : Room)) (W := 0) (b := a) (argsL := []) (rest := []) (y := (⟨"java/lang/Number", "<init>", "()V"⟩ : MethodName)) hown rfl (hw _ (List.mem_of_getElem? (i := 58) rfl)) (hw _ (List.mem_of_getElem? (i := 43) rfl)) (hw _ (List.mem_of_getElem? (i := 46) rfl)) (hw _ (List.mem_of_getElem? (i := 47) rfl)) (by decide) (rm7 l Z a0 hw a h0 n0 Z0) e0 (by decide) (by decide) (by decide) (by decide) (g := (mkF m 1 #[.val (.ref a), .val (.int x)] [(.ref a)])) rfl (by rw [hml]; rfl) (lenOf pd_0 rfl) rfl (Nat.le_of_ble_eq_true rfl) (hb hby d8_1)
  obtain ⟨rfl, N11, e11⟩ := hQ11
  refine own_go st11 ?_
  show own_E _ _ _ _ _ _ _ (T11.setTop (mkF m 4 #[.val (.ref a), .val (.int x)] []))
  have M11 := Fr.app N0 N11
  refine own_go (fun _ k => XS.aloadN X11.here hx rfl (hb hby d8_4) rfl rfl k) ?_
  show own_E _ _ _ _ _ _ _ (T11.setTop (mkF m 5 #[.val (.ref a), .val (.int x)] [(.ref a)]))
  refine own_go (fun _ k => XS.iloadN X11.here hx rfl (hb hby d8_5) rfl k) ?_
  show own_E _ _ _ _ _ _ _ (T11.setTop (mkF m 6 #[.val (.ref a), .val (.int x)] [(.int x), (.ref a)]))
  obtain ⟨T12, h12, X12, e12, W12, st12⟩ := putF X11 hx hZ hown (host := "") (Or.inl (hw _ (List.mem_of_getElem? (i := 60) rfl))) Via.refl e11 F E (Or.inr ⟨(hw _ (List.mem_of_getElem? (i := 61) rfl)), rfl, hnm⟩) (hw _ (List.mem_of_getElem? (i := 53) rfl)) (ty := .int) (by decide +kernel) rfl rfl (g := (mkF m 6 #[.val (.ref a), .val (.int x)] [(.int x), (.ref a)])) rfl rfl (hb hby d8_6)
  have f12_0 := F.same W12
  have f12_1 := E.wr W12
  have Z12 : n0 ≤ h12.size := by rw [W12.size]; exact Z0
  have N12 := Fr.snoc X12 M11 ga
  have K12 := KK.wr W12 (Or.inl (by simp))
  refine own_go st12 ?_
  show own_E _ _ _ _ _ _ _ (T12.setTop (mkF m 9 #[.val (.ref a), .val (.int x)] []))
  exact own_ret0 X12 hx Bd.returns Bd.notSynchronized (hb hby d8_9) (by rw [e12]; exact ⟨rfl, N12, K12, f12_1, f12_0⟩) (by decide) (by decide)
theorem d4_0 : decode jdk_33_method_22_code 0 = .ok (.iload_n 0, 1) := by decide +kernel
theorem d4_1 : decode jdk_33_method_22_code 1 = .ok (.bipush (-128), 2) := by decide +kernel
theorem d4_3 : decode jdk_33_method_22_code 3 = .ok (.if_icmp .lt 20, 3) := by decide +kernel
theorem d4_6 : decode jdk_33_method_22_code 6 = .ok (.iload_n 0, 1) := by decide +kernel
theorem d4_7 : decode jdk_33_method_22_code 7 = .ok (.getstatic 191, 3) := by decide +kernel
theorem d4_10 : decode jdk_33_method_22_code 10 = .ok (.if_icmp .gt 13, 3) := by decide +kernel
theorem d4_13 : decode jdk_33_method_22_code 13 = .ok (.getstatic 195, 3) := by decide +kernel
theorem d4_16 : decode jdk_33_method_22_code 16 = .ok (.iload_n 0, 1) := by decide +kernel
theorem d4_17 : decode jdk_33_method_22_code 17 = .ok (.sipush 128, 3) := by decide +kernel
theorem d4_20 : decode jdk_33_method_22_code 20 = .ok (.iadd, 1) := by decide +kernel
theorem d4_21 : decode jdk_33_method_22_code 21 = .ok (.aaload, 1) := by decide +kernel
theorem d4_22 : decode jdk_33_method_22_code 22 = .ok (.areturn, 1) := by decide +kernel
theorem d4_23 : decode jdk_33_method_22_code 23 = .ok (.new 1, 3) := by decide +kernel
theorem d4_26 : decode jdk_33_method_22_code 26 = .ok (.dup, 1) := by decide +kernel
theorem d4_27 : decode jdk_33_method_22_code 27 = .ok (.iload_n 0, 1) := by decide +kernel
theorem d4_28 : decode jdk_33_method_22_code 28 = .ok (.invokespecial 199, 3) := by decide +kernel
theorem d4_31 : decode jdk_33_method_22_code 31 = .ok (.areturn, 1) := by decide +kernel
def Qrm4 (x : Int32) (ar : Addr) (cl : Cell) (Z : State) (h0 : Heap) (n0 : Nat) (v : Option Value) (h : Heap) (L : List Loc) : Prop := Fr n0 L ∧ Keep h0 h [] ∧ ∃ r, v = some (.ref r) ∧ Exa Z h r "java/lang/Integer"
set_option maxRecDepth 65536 in
set_option maxHeartbeats 40000000 in
theorem rm4 (l : Launch) (Z : State) (a0 : Array Value) (hw : ∀ d ∈ tables_1, d.before a0 Z = true) (x : Int32) (ar : Addr) (cl : Cell) (h0 : Heap) (n0 : Nat) (Z0 : n0 ≤ h0.size) (O0 : Old Z n0 h0) (S : Sta Z Z.heap "java/lang/Integer$IntegerCache" "cache" "[Ljava/lang/Integer;" (.ref ar)) (B : Bxs Z ar cl "java/lang/Integer" "I" (256 : Int32) own_valI) (SH : Sta Z Z.heap "java/lang/Integer$IntegerCache" "high" "I" (.int (127 : Int32))) :
    MetFree l (⟨"java/lang/Integer", "valueOf", "(I)Ljava/lang/Integer;"⟩ : MethodName) (head1 (Jvm.Cond.code (⟨"java/lang/Integer", "valueOf", "(I)Ljava/lang/Integer;"⟩ : MethodName) jdk_33_method_22_code 1 (some (.object "java/lang/Integer")) :: []) ({ frames := 3, cells := 1, slots := 1, locals := 40 } : Room)) (fun ar_ U => ar_ = #[(.int x)] ∧ Z.Warmed39 U.vm ∧ U.heap = h0) (fun _ _ _ _ _ => True) (fun _ U o U' => ∃ v L, o = .returned v ∧ Qrm4 x ar cl Z h0 n0 v U'.heap L ∧ FrameEnd U o U' L ({ frames := 3, cells := 1, slots := 1, locals := 40 } : Room).cells ({ frames := 3, cells := 1, slots := 1, locals := 40 } : Room).slots) := by
  refine MetFree.of_bodySF (plainFor_of_name (by first | (simp [plainName, overriddenIn]; done) | decide +kernel)) hisR ?_
  intro p e s m args below meth c s₁ Bd hml0 hP hK
  obtain ⟨rfl, hZ, hh⟩ := hP
  have hx := Bd.exec
  have hby := Bd.bytes
  have hml : c.maxLocals = 1 := hml0
  have hown : s.vm.findClass "java/lang/Integer" = some m.cls := findClass_of_methodNamed Bd.named
  have hnm := (name_of_methodNamed Bd.named Bd.method).1
  have X0 : Stand p l e ({ frames := 3, cells := 1, slots := 1, locals := 40 } : Room) s m #[(.int x)] below meth c s₁ [] 0 0 := Stand.of_body Bd
  have e0 : s₁.heap = h0 := by rw [← hh, Bd.state]; rfl
  have N0 := Fr.nil n0
  show own_E p e below s (Qrm4 x ar cl Z h0 n0) ({ frames := 3, cells := 1, slots := 1, locals := 40 } : Room).cells ({ frames := 3, cells := 1, slots := 1, locals := 40 } : Room).slots (s₁.setTop (entryFrame m #[(.int x)] 1))
  refine own_go (fun t k => castTop (show _ = (mkF m 0 #[.val (.int x)] []) from by first | (simp [entryFrame, mkF, argsToLocals, Value.category]; done) | rfl) k) ?_
  show own_E _ _ _ _ _ _ _ (s₁.setTop (mkF m 0 #[.val (.int x)] []))
  have KK := Keep.refl h0 []
  refine own_go (fun _ k => XS.iloadN X0.here hx rfl (hb hby d4_0) rfl k) ?_
  show own_E _ _ _ _ _ _ _ (s₁.setTop (mkF m 1 #[.val (.int x)] [(.int x)]))
  refine own_go (fun _ k => XT.bipushV X0.here hx rfl (-128 : Int32) (hb hby d4_1) (by decide) k) ?_
  show own_E _ _ _ _ _ _ _ (s₁.setTop (mkF m 3 #[.val (.int x)] [(.int (-128 : Int32)), (.int x)]))
  by_cases q1 : x < -128
  ·
    refine own_go (fun _ k => XS.icmpYes X0.here hx rfl (pc0 := 3) (pc' := 23) rfl (hb hby d4_3) rfl (XT.ii_lt_t q1) (by decide) (by decide) k) ?_
    show own_E _ _ _ _ _ _ _ (s₁.setTop (mkF m 23 #[.val (.int x)] []))
    obtain ⟨T11, h11, X11, e11, E11, A11, D11, -, st11⟩ := newO X0 hx hZ hown (hw _ (List.mem_of_getElem? (i := 52) rfl)) (hw _ (List.mem_of_getElem? (i := 53) rfl)) (hw _ (List.mem_of_getElem? (i := 22) rfl)) e0 (g := (mkF m 23 #[.val (.int x)] [])) rfl (hb hby d4_23) (by decide) (by decide)
    obtain ⟨a, g11⟩ : ∃ z, z = h0.size := ⟨_, rfl⟩
    rw [← g11] at A11 D11 st11
    have w11 : n0 ≤ a := by rw [g11]; exact Z0
    have kz11 : h0.size ≤ a := by rw [g11]; exact KK.1
    have f11_value : Fld Z h11 a "java/lang/Integer" "value" "I" (.int (0 : Int32)) := D11 (Or.inr (hw _ (List.mem_of_getElem? (i := 61) rfl))) (ty := .int) (by decide +kernel)
    have O11 := O0.ext E11
    have K11 := KK.ext E11
    have Z11 := Nat.le_trans Z0 E11.1
    refine own_go st11 ?_
    show own_E _ _ _ _ _ _ _ (T11.setTop (mkF m 26 #[.val (.int x)] [(.ref a)]))
    refine own_go (fun _ k => XS.dup X11.here hx rfl (hb hby d4_26) rfl rfl k) ?_
    show own_E _ _ _ _ _ _ _ (T11.setTop (mkF m 27 #[.val (.int x)] [(.ref a), (.ref a)]))
    refine own_go (fun _ k => XS.iloadN X11.here hx rfl (hb hby d4_27) rfl k) ?_
    show own_E _ _ _ _ _ _ _ (T11.setTop (mkF m 28 #[.val (.int x)] [(.int x), (.ref a), (.ref a)]))
    obtain ⟨v12, T12, L12, X12, hQ12, st12⟩ := own_callI X11 hx hZ (rm := ({ frames := 2, cells := 0, slots := 0, locals := 24 } : Room)) (W := 1) (b := a) (argsL := [(.int x)]) (rest := [(.ref a)]) (y := (⟨"java/lang/Integer", "<init>", "(I)V"⟩ : MethodName)) hown rfl (hw _ (List.mem_of_getElem? (i := 54) rfl)) (hw _ (List.mem_of_getElem? (i := 55) rfl)) (hw _ (List.mem_of_getElem? (i := 22) rfl)) (hw _ (List.mem_of_getElem? (i := 57) rfl)) (by decide) (rm8 l Z a0 hw a x h11 n0 Z11 A11 f11_value w11) e11 (by decide) (by decide) (by decide) (by decide) (g := (mkF m 28 #[.val (.int x)] [(.int x), (.ref a), (.ref a)])) rfl (by rw [hml]; rfl) (lenOf pd_2 rfl) rfl (Nat.le_of_ble_eq_true rfl) (hb hby d4_28)
    obtain ⟨rfl, N12, K12, A12, F12⟩ := hQ12
    refine own_go st12 ?_
    show own_E _ _ _ _ _ _ _ (T12.setTop (mkF m 31 #[.val (.int x)] [(.ref a)]))
    have M12 := Fr.app N0 N12
    have e12 : T12.heap = T12.heap := rfl
    have f12_5 := A11.keep K12
    have O12 := O11.keep K12 (allS w11 all0)
    have Z12 := Nat.le_trans Z11 K12.1
    have KK12 := K11.trans K12 (allS (Or.inr kz11) all0)
    exact own_ret X12 hx Bd.returns Bd.notSynchronized rfl (Or.inr (Or.inr (Or.inr (Or.inr ⟨rfl, rfl, rfl⟩)))) (hb hby d4_31) (by rw [e12]; exact ⟨M12, KK12, _, rfl, A12⟩) (by decide) (by decide)
  ·
    refine own_go (fun _ k => XS.icmpNo X0.here hx rfl (hb hby d4_3) rfl (XT.ii_lt_f q1) k) ?_
    show own_E _ _ _ _ _ _ _ (s₁.setTop (mkF m 6 #[.val (.int x)] []))
    refine own_go (fun _ k => XS.iloadN X0.here hx rfl (hb hby d4_6) rfl k) ?_
    show own_E _ _ _ _ _ _ _ (s₁.setTop (mkF m 7 #[.val (.int x)] [(.int x)]))
    obtain ⟨T13, X13, e13, st13⟩ := getS2 X0 hx hZ hown (host := "") (Or.inl (hw _ (List.mem_of_getElem? (i := 24) rfl))) Via.refl e0 (SH.ext O0.2) (g := (mkF m 7 #[.val (.int x)] [(.int x)])) rfl (hb hby d4_7)
    refine own_go st13 ?_
    show own_E _ _ _ _ _ _ _ (T13.setTop (mkF m 10 #[.val (.int x)] [(.int (127 : Int32)), (.int x)]))
    by_cases q2 : 127 < x
    ·
      refine own_go (fun _ k => XS.icmpYes X13.here hx rfl (pc0 := 10) (pc' := 23) rfl (hb hby d4_10) rfl (XT.ii_gt_t q2) (by decide) (by decide) k) ?_
      show own_E _ _ _ _ _ _ _ (T13.setTop (mkF m 23 #[.val (.int x)] []))
      obtain ⟨T14, h14, X14, e14, E14, A14, D14, -, st14⟩ := newO X13 hx hZ hown (hw _ (List.mem_of_getElem? (i := 52) rfl)) (hw _ (List.mem_of_getElem? (i := 53) rfl)) (hw _ (List.mem_of_getElem? (i := 22) rfl)) e13 (g := (mkF m 23 #[.val (.int x)] [])) rfl (hb hby d4_23) (by decide) (by decide)
      obtain ⟨a, g14⟩ : ∃ z, z = h0.size := ⟨_, rfl⟩
      rw [← g14] at A14 D14 st14
      have w14 : n0 ≤ a := by rw [g14]; exact Z0
      have kz14 : h0.size ≤ a := by rw [g14]; exact KK.1
      have f14_value : Fld Z h14 a "java/lang/Integer" "value" "I" (.int (0 : Int32)) := D14 (Or.inr (hw _ (List.mem_of_getElem? (i := 61) rfl))) (ty := .int) (by decide +kernel)
      have O14 := O0.ext E14
      have K14 := KK.ext E14
      have Z14 := Nat.le_trans Z0 E14.1
      refine own_go st14 ?_
      show own_E _ _ _ _ _ _ _ (T14.setTop (mkF m 26 #[.val (.int x)] [(.ref a)]))
      refine own_go (fun _ k => XS.dup X14.here hx rfl (hb hby d4_26) rfl rfl k) ?_
      show own_E _ _ _ _ _ _ _ (T14.setTop (mkF m 27 #[.val (.int x)] [(.ref a), (.ref a)]))
      refine own_go (fun _ k => XS.iloadN X14.here hx rfl (hb hby d4_27) rfl k) ?_
      show own_E _ _ _ _ _ _ _ (T14.setTop (mkF m 28 #[.val (.int x)] [(.int x), (.ref a), (.ref a)]))
      obtain ⟨v15, T15, L15, X15, hQ15, st15⟩ := own_callI X14 hx hZ (rm := ({ frames := 2, cells := 0, slots := 0, locals := 24 } : Room)) (W := 1) (b := a) (argsL := [(.int x)]) (rest := [(.ref a)]) (y := (⟨"java/lang/Integer", "<init>", "(I)V"⟩ : MethodName)) hown rfl (hw _ (List.mem_of_getElem? (i := 54) rfl)) (hw _ (List.mem_of_getElem? (i := 55) rfl)) (hw _ (List.mem_of_getElem? (i := 22) rfl)) (hw _ (List.mem_of_getElem? (i := 57) rfl)) (by decide) (rm8 l Z a0 hw a x h14 n0 Z14 A14 f14_value w14) e14 (by decide) (by decide) (by decide) (by decide) (g := (mkF m 28 #[.val (.int x)] [(.int x), (.ref a), (.ref a)])) rfl (by rw [hml]; rfl) (lenOf pd_2 rfl) rfl (Nat.le_of_ble_eq_true rfl) (hb hby d4_28)
      obtain ⟨rfl, N15, K15, A15, F15⟩ := hQ15
      refine own_go st15 ?_
      show own_E _ _ _ _ _ _ _ (T15.setTop (mkF m 31 #[.val (.int x)] [(.ref a)]))
      have M15 := Fr.app N0 N15
      have e15 : T15.heap = T15.heap := rfl
      have f15_5 := A14.keep K15
      have O15 := O14.keep K15 (allS w14 all0)
      have Z15 := Nat.le_trans Z14 K15.1
      have KK15 := K14.trans K15 (allS (Or.inr kz14) all0)
      exact own_ret X15 hx Bd.returns Bd.notSynchronized rfl (Or.inr (Or.inr (Or.inr (Or.inr ⟨rfl, rfl, rfl⟩)))) (hb hby d4_31) (by rw [e15]; exact ⟨M15, KK15, _, rfl, A15⟩) (by decide) (by decide)
    ·
      refine own_go (fun _ k => XS.icmpNo X13.here hx rfl (hb hby d4_10) rfl (XT.ii_gt_f q2) k) ?_
      show own_E _ _ _ _ _ _ _ (T13.setTop (mkF m 13 #[.val (.int x)] []))
      obtain ⟨T16, X16, e16, st16⟩ := getS2 X13 hx hZ hown (host := "") (Or.inl (hw _ (List.mem_of_getElem? (i := 26) rfl))) Via.refl e13 (S.ext O0.2) (g := (mkF m 13 #[.val (.int x)] [])) rfl (hb hby d4_13)
      refine own_go st16 ?_
      show own_E _ _ _ _ _ _ _ (T16.setTop (mkF m 16 #[.val (.int x)] [(.ref ar)]))
      refine own_go (fun _ k => XS.iloadN X16.here hx rfl (hb hby d4_16) rfl k) ?_
      show own_E _ _ _ _ _ _ _ (T16.setTop (mkF m 17 #[.val (.int x)] [(.int x), (.ref ar)]))
      refine own_go (fun _ k => XT.sipushV X16.here hx rfl (128 : Int32) (hb hby d4_17) (by decide) k) ?_
      show own_E _ _ _ _ _ _ _ (T16.setTop (mkF m 20 #[.val (.int x)] [(.int (128 : Int32)), (.int x), (.ref ar)]))
      refine own_go (fun _ k => XS.iadd X16.here hx rfl (hb hby d4_20) rfl k) ?_
      show own_E _ _ _ _ _ _ _ (T16.setTop (mkF m 21 #[.val (.int x)] [(.int (x + (128 : Int32))), (.ref ar)]))
      have hi := own_idxI q1 q2
      have hin := inb_of B.2.1 hi
      obtain ⟨r, hr, Er, -⟩ := B.2.2.2 _ hin
      refine own_go (own_aaload X16 hx hZ e16 (B.1.ext O0.2) rfl (v := .ref r) hin hr (g := (mkF m 21 #[.val (.int x)] [(.int (x + (128 : Int32))), (.ref ar)])) rfl rfl (hb hby d4_21)) ?_
      show own_E _ _ _ _ _ _ _ (T16.setTop (mkF m 22 #[.val (.int x)] [(.ref r)]))
      exact own_ret X16 hx Bd.returns Bd.notSynchronized rfl (Or.inr (Or.inr (Or.inr (Or.inr ⟨rfl, rfl, rfl⟩)))) (hb hby d4_22) (by rw [e16]; exact ⟨N0, KK, _, rfl, Er.ext O0.2⟩) (by decide) (by decide)
def Qrm0 (p0 : Int32) (p1 : Int64) (p2 : Int32) (p3 : Int64) (p4 : Int32) (ar : Addr) (cl : Cell) (ai : Addr) (ci : Cell) (Z : State) (h0 : Heap) (n0 : Nat) (v : Option Value) (h : Heap) (L : List Loc) : Prop := v = some (.int 1) ∧ Fr n0 L
set_option maxRecDepth 65536 in
set_option maxHeartbeats 40000000 in
theorem rm0 (l : Launch) (Z : State) (a0 : Array Value) (hw : ∀ d ∈ tables_1, d.before a0 Z = true) (ws : List Jvm.Cond) (p0 : Int32) (p1 : Int64) (p2 : Int32) (p3 : Int64) (p4 : Int32) (ar : Addr) (cl : Cell) (ai : Addr) (ci : Cell) (h0 : Heap) (n0 : Nat) (Z0 : n0 ≤ h0.size) (O0 : Old Z n0 h0) (SL : Sta Z Z.heap "java/lang/Long$LongCache" "cache" "[Ljava/lang/Long;" (.ref ar)) (BL : Bxs Z ar cl "java/lang/Long" "J" (256 : Int32) own_valJ) (SI : Sta Z Z.heap "java/lang/Integer$IntegerCache" "cache" "[Ljava/lang/Integer;" (.ref ai)) (BI : Bxs Z ai ci "java/lang/Integer" "I" (256 : Int32) own_valI) (SH : Sta Z Z.heap "java/lang/Integer$IntegerCache" "high" "I" (.int (127 : Int32))) :
    MetFree l x (head1 (Jvm.Cond.code x code maxLocals ret :: ws) room_1) (fun ar_ U => ar_ = #[(.int p0), (.long p1), (.int p2), (.long p3), (.int p4)] ∧ Z.Warmed39 U.vm ∧ U.heap = h0) (fun _ _ _ _ _ => True) (fun _ U o U' => ∃ v L, o = .returned v ∧ Qrm0 p0 p1 p2 p3 p4 ar cl ai ci Z h0 n0 v U'.heap L ∧ FrameEnd U o U' L room_1.cells room_1.slots) := by
  refine MetFree.of_bodySF (plainFor_of_name (by first | (simp [plainName, overriddenIn]; done) | decide +kernel)) hisR ?_
  intro p e s m args below meth c s₁ Bd hml0 hP hK
  obtain ⟨rfl, hZ, hh⟩ := hP
  have hx := Bd.exec
  have hby := Bd.bytes
  have hml : c.maxLocals = 14 := hml0
  have hown : s.vm.findClass "com/example/vestnik/vestnik/model/MessageIdEqualsPinLaw" = some m.cls := findClass_of_methodNamed Bd.named
  have hnm := (name_of_methodNamed Bd.named Bd.method).1
  have X0 : Stand p l e room_1 s m #[(.int p0), (.long p1), (.int p2), (.long p3), (.int p4)] below meth c s₁ [] 0 0 := Stand.of_body Bd
  have e0 : s₁.heap = h0 := by rw [← hh, Bd.state]; rfl
  have N0 := Fr.nil n0
  show own_E p e below s (Qrm0 p0 p1 p2 p3 p4 ar cl ai ci Z h0 n0) room_1.cells room_1.slots (s₁.setTop (entryFrame m #[(.int p0), (.long p1), (.int p2), (.long p3), (.int p4)] maxLocals))
  refine own_go (fun t k => castTop (show _ = (mkF m 0 #[.val (.int p0), .val (.long p1), .second, .val (.int p2), .val (.long p3), .second, .val (.int p4), .unset, .unset, .unset, .unset, .unset, .unset, .unset] []) from by first | (simp [entryFrame, mkF, argsToLocals, Value.category, maxLocals]; done) | rfl) k) ?_
  show own_E _ _ _ _ _ _ _ (s₁.setTop (mkF m 0 #[.val (.int p0), .val (.long p1), .second, .val (.int p2), .val (.long p3), .second, .val (.int p4), .unset, .unset, .unset, .unset, .unset, .unset, .unset] []))
  have rest : ∀ (b2 : Int32) (n2 : Int64), own_E p e below s (Qrm0 p0 p1 p2 p3 p4 ar cl ai ci Z h0 n0) room_1.cells room_1.slots (s₁.setTop (mkF m 29 #[.val (.int p0), .val (.long p1), .second, .val (.int p2), .val (.long p3), .second, .val (.int p4), .val (.int b2), .val (.long n2), .second, .unset, .unset, .unset, .unset] [])) := by
    intro b2 n2
    show own_E _ _ _ _ _ _ _ (s₁.setTop (mkF m 29 #[.val (.int p0), .val (.long p1), .second, .val (.int p2), .val (.long p3), .second, .val (.int p4), .val (.int b2), .val (.long n2), .second, .unset, .unset, .unset, .unset] []))
    obtain ⟨T21, h21, X21, e21, E21, A21, D21, -, st21⟩ := newO X0 hx hZ hown (hw _ (List.mem_of_getElem? (i := 0) rfl)) (hw _ (List.mem_of_getElem? (i := 1) rfl)) (hw _ (List.mem_of_getElem? (i := 2) rfl)) e0 (g := (mkF m 29 #[.val (.int p0), .val (.long p1), .second, .val (.int p2), .val (.long p3), .second, .val (.int p4), .val (.int b2), .val (.long n2), .second, .unset, .unset, .unset, .unset] [])) rfl (hb hby at_29) (by decide) (by decide)
    obtain ⟨ax, g21⟩ : ∃ z, z = h0.size := ⟨_, rfl⟩
    rw [← g21] at A21 D21 st21
    have w21 : n0 ≤ ax := by rw [g21]; exact Z0
    have f21_broker : Fld Z h21 ax "com/example/vestnik/vestnik/model/MessageId" "broker" "I" (.int (0 : Int32)) := D21 (Or.inr (hw _ (List.mem_of_getElem? (i := 10) rfl))) (ty := .int) (by decide +kernel)
    have f21_sequence : Fld Z h21 ax "com/example/vestnik/vestnik/model/MessageId" "sequence" "J" (.long (0 : Int64)) := D21 (Or.inr (hw _ (List.mem_of_getElem? (i := 12) rfl))) (ty := .long) (by decide +kernel)
    have O21 := O0.ext E21
    have Z21 := Nat.le_trans Z0 E21.1
    refine own_go st21 ?_
    show own_E _ _ _ _ _ _ _ (T21.setTop (mkF m 32 #[.val (.int p0), .val (.long p1), .second, .val (.int p2), .val (.long p3), .second, .val (.int p4), .val (.int b2), .val (.long n2), .second, .unset, .unset, .unset, .unset] [(.ref ax)]))
    refine own_go (fun _ k => XS.dup X21.here hx rfl (hb hby at_32) rfl rfl k) ?_
    show own_E _ _ _ _ _ _ _ (T21.setTop (mkF m 33 #[.val (.int p0), .val (.long p1), .second, .val (.int p2), .val (.long p3), .second, .val (.int p4), .val (.int b2), .val (.long n2), .second, .unset, .unset, .unset, .unset] [(.ref ax), (.ref ax)]))
    refine own_go (fun _ k => XS.iloadN X21.here hx rfl (hb hby at_33) rfl k) ?_
    show own_E _ _ _ _ _ _ _ (T21.setTop (mkF m 34 #[.val (.int p0), .val (.long p1), .second, .val (.int p2), .val (.long p3), .second, .val (.int p4), .val (.int b2), .val (.long n2), .second, .unset, .unset, .unset, .unset] [(.int p0), (.ref ax), (.ref ax)]))
    refine own_go (fun _ k => XT.lloadN X21.here hx rfl (hb hby at_34) rfl k) ?_
    show own_E _ _ _ _ _ _ _ (T21.setTop (mkF m 35 #[.val (.int p0), .val (.long p1), .second, .val (.int p2), .val (.long p3), .second, .val (.int p4), .val (.int b2), .val (.long n2), .second, .unset, .unset, .unset, .unset] [(.long p1), (.int p0), (.ref ax), (.ref ax)]))
    obtain ⟨v22, T22, L22, X22, hQ22, st22⟩ := own_callI X21 hx hZ (rm := ({ frames := 1, cells := 0, slots := 0, locals := 12 } : Room)) (W := 1) (b := ax) (argsL := [(.int p0), (.long p1)]) (rest := [(.ref ax)]) (y := (⟨"com/example/vestnik/vestnik/model/MessageId", "<init>", "(IJ)V"⟩ : MethodName)) hown rfl (hw _ (List.mem_of_getElem? (i := 3) rfl)) (hw _ (List.mem_of_getElem? (i := 4) rfl)) (hw _ (List.mem_of_getElem? (i := 2) rfl)) (hw _ (List.mem_of_getElem? (i := 5) rfl)) (by decide) (rm1 l Z a0 hw ax p0 p1 h21 n0 Z21 A21 f21_broker f21_sequence w21) e21 (by decide) (by decide) (by decide) (by decide) (g := (mkF m 35 #[.val (.int p0), .val (.long p1), .second, .val (.int p2), .val (.long p3), .second, .val (.int p4), .val (.int b2), .val (.long n2), .second, .unset, .unset, .unset, .unset] [(.long p1), (.int p0), (.ref ax), (.ref ax)])) rfl (by rw [hml]; rfl) (lenOf pd_3 rfl) rfl (Nat.le_of_ble_eq_true rfl) (hb hby at_35)
    obtain ⟨rfl, N22, K22, A22, F22, G22⟩ := hQ22
    refine own_go st22 ?_
    show own_E _ _ _ _ _ _ _ (T22.setTop (mkF m 38 #[.val (.int p0), .val (.long p1), .second, .val (.int p2), .val (.long p3), .second, .val (.int p4), .val (.int b2), .val (.long n2), .second, .unset, .unset, .unset, .unset] [(.ref ax)]))
    have M22 := Fr.app N0 N22
    have e22 : T22.heap = T22.heap := rfl
    have f22_3 := A21.keep K22
    have O22 := O21.keep K22 (allS w21 all0)
    have Z22 := Nat.le_trans Z21 K22.1
    refine own_go (fun _ k => XS.astore X22.here hx rfl (hb hby at_38) rfl rfl (l' := #[.val (.int p0), .val (.long p1), .second, .val (.int p2), .val (.long p3), .second, .val (.int p4), .val (.int b2), .val (.long n2), .second, .val (.ref ax), .unset, .unset, .unset]) rfl k) ?_
    show own_E _ _ _ _ _ _ _ (T22.setTop (mkF m 40 #[.val (.int p0), .val (.long p1), .second, .val (.int p2), .val (.long p3), .second, .val (.int p4), .val (.int b2), .val (.long n2), .second, .val (.ref ax), .unset, .unset, .unset] []))
    refine own_go (fun _ k => XS.iload X22.here hx rfl (hb hby at_40) rfl k) ?_
    show own_E _ _ _ _ _ _ _ (T22.setTop (mkF m 42 #[.val (.int p0), .val (.long p1), .second, .val (.int p2), .val (.long p3), .second, .val (.int p4), .val (.int b2), .val (.long n2), .second, .val (.ref ax), .unset, .unset, .unset] [(.int p4)]))
    refine own_go (fun _ k => XT.iconstV X22.here hx rfl (2 : Int32) (hb hby at_42) (by decide) k) ?_
    show own_E _ _ _ _ _ _ _ (T22.setTop (mkF m 43 #[.val (.int p0), .val (.long p1), .second, .val (.int p2), .val (.long p3), .second, .val (.int p4), .val (.int b2), .val (.long n2), .second, .val (.ref ax), .unset, .unset, .unset] [(.int (2 : Int32)), (.int p4)]))
    refine own_go (fun _ k => XT.iushr X22.here hx rfl (hb hby at_43) rfl k) ?_
    show own_E _ _ _ _ _ _ _ (T22.setTop (mkF m 44 #[.val (.int p0), .val (.long p1), .second, .val (.int p2), .val (.long p3), .second, .val (.int p4), .val (.int b2), .val (.long n2), .second, .val (.ref ax), .unset, .unset, .unset] [(.int (XT.ushr p4 (2 : Int32)))]))
    refine own_go (fun _ k => XT.iconstV X22.here hx rfl (3 : Int32) (hb hby at_44) (by decide) k) ?_
    show own_E _ _ _ _ _ _ _ (T22.setTop (mkF m 45 #[.val (.int p0), .val (.long p1), .second, .val (.int p2), .val (.long p3), .second, .val (.int p4), .val (.int b2), .val (.long n2), .second, .val (.ref ax), .unset, .unset, .unset] [(.int (3 : Int32)), (.int (XT.ushr p4 (2 : Int32)))]))
    refine own_go (fun _ k => XS.iand X22.here hx rfl (hb hby at_45) rfl k) ?_
    show own_E _ _ _ _ _ _ _ (T22.setTop (mkF m 46 #[.val (.int p0), .val (.long p1), .second, .val (.int p2), .val (.long p3), .second, .val (.int p4), .val (.int b2), .val (.long n2), .second, .val (.ref ax), .unset, .unset, .unset] [(.int ((XT.ushr p4 (2 : Int32)) &&& (3 : Int32)))]))
    refine own_go (fun _ k => XS.istore X22.here hx rfl (hb hby at_46) rfl (l' := #[.val (.int p0), .val (.long p1), .second, .val (.int p2), .val (.long p3), .second, .val (.int p4), .val (.int b2), .val (.long n2), .second, .val (.ref ax), .val (.int ((XT.ushr p4 (2 : Int32)) &&& (3 : Int32))), .unset, .unset]) rfl k) ?_
    show own_E _ _ _ _ _ _ _ (T22.setTop (mkF m 48 #[.val (.int p0), .val (.long p1), .second, .val (.int p2), .val (.long p3), .second, .val (.int p4), .val (.int b2), .val (.long n2), .second, .val (.ref ax), .val (.int ((XT.ushr p4 (2 : Int32)) &&& (3 : Int32))), .unset, .unset] []))
    refine own_go (fun _ k => XS.iload X22.here hx rfl (hb hby at_48) rfl k) ?_
    show own_E _ _ _ _ _ _ _ (T22.setTop (mkF m 50 #[.val (.int p0), .val (.long p1), .second, .val (.int p2), .val (.long p3), .second, .val (.int p4), .val (.int b2), .val (.long n2), .second, .val (.ref ax), .val (.int ((XT.ushr p4 (2 : Int32)) &&& (3 : Int32))), .unset, .unset] [(.int ((XT.ushr p4 (2 : Int32)) &&& (3 : Int32)))]))
    by_cases k0 : ((XT.ushr p4 (2 : Int32)) &&& (3 : Int32)) = 0
    ·
      refine own_go (fun _ k => XS.ifNo X22.here hx rfl (hb hby at_50) rfl (XT.i0_ne_f k0) k) ?_
      show own_E _ _ _ _ _ _ _ (T22.setTop (mkF m 53 #[.val (.int p0), .val (.long p1), .second, .val (.int p2), .val (.long p3), .second, .val (.int p4), .val (.int b2), .val (.long n2), .second, .val (.ref ax), .val (.int ((XT.ushr p4 (2 : Int32)) &&& (3 : Int32))), .unset, .unset] []))
      obtain ⟨T23, h23, X23, e23, E23, A23, D23, -, st23⟩ := newO X22 hx hZ hown (hw _ (List.mem_of_getElem? (i := 0) rfl)) (hw _ (List.mem_of_getElem? (i := 1) rfl)) (hw _ (List.mem_of_getElem? (i := 2) rfl)) e22 (g := (mkF m 53 #[.val (.int p0), .val (.long p1), .second, .val (.int p2), .val (.long p3), .second, .val (.int p4), .val (.int b2), .val (.long n2), .second, .val (.ref ax), .val (.int ((XT.ushr p4 (2 : Int32)) &&& (3 : Int32))), .unset, .unset] [])) rfl (hb hby at_53) (by decide) (by decide)
      obtain ⟨ay, g23⟩ : ∃ z, z = T22.heap.size := ⟨_, rfl⟩
      rw [← g23] at A23 D23 st23
      have ne23_1 : ax ≠ ay := by rw [g23]; exact Nat.ne_of_lt A22.lt
      have w23 : n0 ≤ ay := by rw [g23]; exact Z22
      have f23_broker : Fld Z h23 ay "com/example/vestnik/vestnik/model/MessageId" "broker" "I" (.int (0 : Int32)) := D23 (Or.inr (hw _ (List.mem_of_getElem? (i := 10) rfl))) (ty := .int) (by decide +kernel)
      have f23_sequence : Fld Z h23 ay "com/example/vestnik/vestnik/model/MessageId" "sequence" "J" (.long (0 : Int64)) := D23 (Or.inr (hw _ (List.mem_of_getElem? (i := 12) rfl))) (ty := .long) (by decide +kernel)
      have f23_1 := A22.ext E23
      have f23_2 := F22.ext E23
      have f23_3 := G22.ext E23
      have O23 := O22.ext E23
      have Z23 := Nat.le_trans Z22 E23.1
      refine own_go st23 ?_
      show own_E _ _ _ _ _ _ _ (T23.setTop (mkF m 56 #[.val (.int p0), .val (.long p1), .second, .val (.int p2), .val (.long p3), .second, .val (.int p4), .val (.int b2), .val (.long n2), .second, .val (.ref ax), .val (.int ((XT.ushr p4 (2 : Int32)) &&& (3 : Int32))), .unset, .unset] [(.ref ay)]))
      refine own_go (fun _ k => XS.dup X23.here hx rfl (hb hby at_56) rfl rfl k) ?_
      show own_E _ _ _ _ _ _ _ (T23.setTop (mkF m 57 #[.val (.int p0), .val (.long p1), .second, .val (.int p2), .val (.long p3), .second, .val (.int p4), .val (.int b2), .val (.long n2), .second, .val (.ref ax), .val (.int ((XT.ushr p4 (2 : Int32)) &&& (3 : Int32))), .unset, .unset] [(.ref ay), (.ref ay)]))
      refine own_go (fun _ k => XS.iload X23.here hx rfl (hb hby at_57) rfl k) ?_
      show own_E _ _ _ _ _ _ _ (T23.setTop (mkF m 59 #[.val (.int p0), .val (.long p1), .second, .val (.int p2), .val (.long p3), .second, .val (.int p4), .val (.int b2), .val (.long n2), .second, .val (.ref ax), .val (.int ((XT.ushr p4 (2 : Int32)) &&& (3 : Int32))), .unset, .unset] [(.int b2), (.ref ay), (.ref ay)]))
      refine own_go (fun _ k => XT.lload X23.here hx rfl (hb hby at_59) rfl k) ?_
      show own_E _ _ _ _ _ _ _ (T23.setTop (mkF m 61 #[.val (.int p0), .val (.long p1), .second, .val (.int p2), .val (.long p3), .second, .val (.int p4), .val (.int b2), .val (.long n2), .second, .val (.ref ax), .val (.int ((XT.ushr p4 (2 : Int32)) &&& (3 : Int32))), .unset, .unset] [(.long n2), (.int b2), (.ref ay), (.ref ay)]))
      obtain ⟨v24, T24, L24, X24, hQ24, st24⟩ := own_callI X23 hx hZ (rm := ({ frames := 1, cells := 0, slots := 0, locals := 12 } : Room)) (W := 1) (b := ay) (argsL := [(.int b2), (.long n2)]) (rest := [(.ref ay)]) (y := (⟨"com/example/vestnik/vestnik/model/MessageId", "<init>", "(IJ)V"⟩ : MethodName)) hown rfl (hw _ (List.mem_of_getElem? (i := 3) rfl)) (hw _ (List.mem_of_getElem? (i := 4) rfl)) (hw _ (List.mem_of_getElem? (i := 2) rfl)) (hw _ (List.mem_of_getElem? (i := 5) rfl)) (by decide) (rm1 l Z a0 hw ay b2 n2 h23 n0 Z23 A23 f23_broker f23_sequence w23) e23 (by decide) (by decide) (by decide) (by decide) (g := (mkF m 61 #[.val (.int p0), .val (.long p1), .second, .val (.int p2), .val (.long p3), .second, .val (.int p4), .val (.int b2), .val (.long n2), .second, .val (.ref ax), .val (.int ((XT.ushr p4 (2 : Int32)) &&& (3 : Int32))), .unset, .unset] [(.long n2), (.int b2), (.ref ay), (.ref ay)])) rfl (by rw [hml]; rfl) (lenOf pd_3 rfl) rfl (Nat.le_of_ble_eq_true rfl) (hb hby at_61)
      obtain ⟨rfl, N24, K24, A24, F24, G24⟩ := hQ24
      refine own_go st24 ?_
      show own_E _ _ _ _ _ _ _ (T24.setTop (mkF m 64 #[.val (.int p0), .val (.long p1), .second, .val (.int p2), .val (.long p3), .second, .val (.int p4), .val (.int b2), .val (.long n2), .second, .val (.ref ax), .val (.int ((XT.ushr p4 (2 : Int32)) &&& (3 : Int32))), .unset, .unset] [(.ref ay)]))
      have M24 := Fr.app M22 N24
      have e24 : T24.heap = T24.heap := rfl
      have f24_1 := f23_1.keep K24
      have f24_2 := f23_2.keep K24 (ninS ne23_1 nin0)
      have f24_3 := f23_3.keep K24 (ninS ne23_1 nin0)
      have f24_8 := A23.keep K24
      have O24 := O23.keep K24 (allS w23 all0)
      have Z24 := Nat.le_trans Z23 K24.1
      refine own_go (fun _ k => XS.astore X24.here hx rfl (hb hby at_64) rfl rfl (l' := #[.val (.int p0), .val (.long p1), .second, .val (.int p2), .val (.long p3), .second, .val (.int p4), .val (.int b2), .val (.long n2), .second, .val (.ref ax), .val (.int ((XT.ushr p4 (2 : Int32)) &&& (3 : Int32))), .val (.ref ay), .unset]) rfl k) ?_
      show own_E _ _ _ _ _ _ _ (T24.setTop (mkF m 66 #[.val (.int p0), .val (.long p1), .second, .val (.int p2), .val (.long p3), .second, .val (.int p4), .val (.int b2), .val (.long n2), .second, .val (.ref ax), .val (.int ((XT.ushr p4 (2 : Int32)) &&& (3 : Int32))), .val (.ref ay), .unset] []))
      refine own_go (fun _ k => XS.iloadN X24.here hx rfl (hb hby at_66) rfl k) ?_
      show own_E _ _ _ _ _ _ _ (T24.setTop (mkF m 67 #[.val (.int p0), .val (.long p1), .second, .val (.int p2), .val (.long p3), .second, .val (.int p4), .val (.int b2), .val (.long n2), .second, .val (.ref ax), .val (.int ((XT.ushr p4 (2 : Int32)) &&& (3 : Int32))), .val (.ref ay), .unset] [(.int p0)]))
      refine own_go (fun _ k => XS.iload X24.here hx rfl (hb hby at_67) rfl k) ?_
      show own_E _ _ _ _ _ _ _ (T24.setTop (mkF m 69 #[.val (.int p0), .val (.long p1), .second, .val (.int p2), .val (.long p3), .second, .val (.int p4), .val (.int b2), .val (.long n2), .second, .val (.ref ax), .val (.int ((XT.ushr p4 (2 : Int32)) &&& (3 : Int32))), .val (.ref ay), .unset] [(.int b2), (.int p0)]))
      by_cases q1 : p0 = b2
      ·
        refine own_go (fun _ k => XS.icmpNo X24.here hx rfl (hb hby at_69) rfl (teq q1).2 k) ?_
        show own_E _ _ _ _ _ _ _ (T24.setTop (mkF m 72 #[.val (.int p0), .val (.long p1), .second, .val (.int p2), .val (.long p3), .second, .val (.int p4), .val (.int b2), .val (.long n2), .second, .val (.ref ax), .val (.int ((XT.ushr p4 (2 : Int32)) &&& (3 : Int32))), .val (.ref ay), .unset] []))
        refine own_go (fun _ k => XT.lloadN X24.here hx rfl (hb hby at_72) rfl k) ?_
        show own_E _ _ _ _ _ _ _ (T24.setTop (mkF m 73 #[.val (.int p0), .val (.long p1), .second, .val (.int p2), .val (.long p3), .second, .val (.int p4), .val (.int b2), .val (.long n2), .second, .val (.ref ax), .val (.int ((XT.ushr p4 (2 : Int32)) &&& (3 : Int32))), .val (.ref ay), .unset] [(.long p1)]))
        refine own_go (fun _ k => XT.lload X24.here hx rfl (hb hby at_73) rfl k) ?_
        show own_E _ _ _ _ _ _ _ (T24.setTop (mkF m 75 #[.val (.int p0), .val (.long p1), .second, .val (.int p2), .val (.long p3), .second, .val (.int p4), .val (.int b2), .val (.long n2), .second, .val (.ref ax), .val (.int ((XT.ushr p4 (2 : Int32)) &&& (3 : Int32))), .val (.ref ay), .unset] [(.long n2), (.long p1)]))
        refine own_go (fun _ k => XT.lcmp X24.here hx rfl (hb hby at_75) rfl k) ?_
        show own_E _ _ _ _ _ _ _ (T24.setTop (mkF m 76 #[.val (.int p0), .val (.long p1), .second, .val (.int p2), .val (.long p3), .second, .val (.int p4), .val (.int b2), .val (.long n2), .second, .val (.ref ax), .val (.int ((XT.ushr p4 (2 : Int32)) &&& (3 : Int32))), .val (.ref ay), .unset] [(.int (XT.cmpL p1 n2))]))
        by_cases q2 : p1 = n2
        ·
          refine own_go (fun _ k => XS.ifNo X24.here hx rfl (hb hby at_76) rfl (XT.ll_ne_f q2) k) ?_
          show own_E _ _ _ _ _ _ _ (T24.setTop (mkF m 79 #[.val (.int p0), .val (.long p1), .second, .val (.int p2), .val (.long p3), .second, .val (.int p4), .val (.int b2), .val (.long n2), .second, .val (.ref ax), .val (.int ((XT.ushr p4 (2 : Int32)) &&& (3 : Int32))), .val (.ref ay), .unset] []))
          refine own_go (fun _ k => XT.iconstV X24.here hx rfl (1 : Int32) (hb hby at_79) (by decide) k) ?_
          show own_E _ _ _ _ _ _ _ (T24.setTop (mkF m 80 #[.val (.int p0), .val (.long p1), .second, .val (.int p2), .val (.long p3), .second, .val (.int p4), .val (.int b2), .val (.long n2), .second, .val (.ref ax), .val (.int ((XT.ushr p4 (2 : Int32)) &&& (3 : Int32))), .val (.ref ay), .unset] [(.int (1 : Int32))]))
          refine own_go (fun _ k => XS.goto X24.here hx rfl (pc0 := 80) (pc' := 84) rfl (hb hby at_80) (by decide) (by decide) k) ?_
          show own_E _ _ _ _ _ _ _ (T24.setTop (mkF m 84 #[.val (.int p0), .val (.long p1), .second, .val (.int p2), .val (.long p3), .second, .val (.int p4), .val (.int b2), .val (.long n2), .second, .val (.ref ax), .val (.int ((XT.ushr p4 (2 : Int32)) &&& (3 : Int32))), .val (.ref ay), .unset] [(.int (1 : Int32))]))
          refine own_go (fun _ k => XS.istore X24.here hx rfl (hb hby at_84) rfl (l' := #[.val (.int p0), .val (.long p1), .second, .val (.int p2), .val (.long p3), .second, .val (.int p4), .val (.int b2), .val (.long n2), .second, .val (.ref ax), .val (.int ((XT.ushr p4 (2 : Int32)) &&& (3 : Int32))), .val (.ref ay), .val (.int (1 : Int32))]) rfl k) ?_
          show own_E _ _ _ _ _ _ _ (T24.setTop (mkF m 86 #[.val (.int p0), .val (.long p1), .second, .val (.int p2), .val (.long p3), .second, .val (.int p4), .val (.int b2), .val (.long n2), .second, .val (.ref ax), .val (.int ((XT.ushr p4 (2 : Int32)) &&& (3 : Int32))), .val (.ref ay), .val (.int (1 : Int32))] []))
          refine own_go (fun _ k => XS.aload X24.here hx rfl (hb hby at_86) rfl rfl k) ?_
          show own_E _ _ _ _ _ _ _ (T24.setTop (mkF m 88 #[.val (.int p0), .val (.long p1), .second, .val (.int p2), .val (.long p3), .second, .val (.int p4), .val (.int b2), .val (.long n2), .second, .val (.ref ax), .val (.int ((XT.ushr p4 (2 : Int32)) &&& (3 : Int32))), .val (.ref ay), .val (.int (1 : Int32))] [(.ref ax)]))
          refine own_go (fun _ k => XS.aload X24.here hx rfl (hb hby at_88) rfl rfl k) ?_
          show own_E _ _ _ _ _ _ _ (T24.setTop (mkF m 90 #[.val (.int p0), .val (.long p1), .second, .val (.int p2), .val (.long p3), .second, .val (.int p4), .val (.int b2), .val (.long n2), .second, .val (.ref ax), .val (.int ((XT.ushr p4 (2 : Int32)) &&& (3 : Int32))), .val (.ref ay), .val (.int (1 : Int32))] [(.ref ay), (.ref ax)]))
          obtain ⟨v25, T25, L25, X25, hQ25, st25⟩ := own_callV X24 hx hZ (rm := ({ frames := 0, cells := 0, slots := 0, locals := 0 } : Room)) (W := 0) (b := ax) (argsL := [(.ref ay)]) (rest := []) (y := (⟨"com/example/vestnik/vestnik/model/MessageId", "equals", "(Ljava/lang/Object;)Z"⟩ : MethodName)) hown (hw _ (List.mem_of_getElem? (i := 13) rfl)) (hw _ (List.mem_of_getElem? (i := 14) rfl)) (hw _ (List.mem_of_getElem? (i := 16) rfl)) (hw _ (List.mem_of_getElem? (i := 15) rfl)) (hw _ (List.mem_of_getElem? (i := 17) rfl)) (hw _ (List.mem_of_getElem? (i := 2) rfl)) (by decide) (rmES l Z a0 hw ax ay p0 p1 b2 n2 T24.heap n0 Z24 A24 f24_2 f24_3 F24 G24) e24 f24_1 (by decide) (by decide) (by decide) (by decide) (g := (mkF m 90 #[.val (.int p0), .val (.long p1), .second, .val (.int p2), .val (.long p3), .second, .val (.int p4), .val (.int b2), .val (.long n2), .second, .val (.ref ax), .val (.int ((XT.ushr p4 (2 : Int32)) &&& (3 : Int32))), .val (.ref ay), .val (.int (1 : Int32))] [(.ref ay), (.ref ax)])) rfl (by rw [hml]; rfl) (lenOf pd_4 rfl) rfl (Nat.le_of_ble_eq_true rfl) (hb hby at_90)
          obtain ⟨rfl, N25, e25⟩ := hQ25
          refine own_go st25 ?_
          rw [if_pos ⟨q1, q2⟩]
          show own_E _ _ _ _ _ _ _ (T25.setTop (mkF m 93 #[.val (.int p0), .val (.long p1), .second, .val (.int p2), .val (.long p3), .second, .val (.int p4), .val (.int b2), .val (.long n2), .second, .val (.ref ax), .val (.int ((XT.ushr p4 (2 : Int32)) &&& (3 : Int32))), .val (.ref ay), .val (.int (1 : Int32))] [(.int (1 : Int32))]))
          have M25 := Fr.app M24 N25
          have e25_ := e25
          refine own_go (fun _ k => XS.iload X25.here hx rfl (hb hby at_93) rfl k) ?_
          show own_E _ _ _ _ _ _ _ (T25.setTop (mkF m 95 #[.val (.int p0), .val (.long p1), .second, .val (.int p2), .val (.long p3), .second, .val (.int p4), .val (.int b2), .val (.long n2), .second, .val (.ref ax), .val (.int ((XT.ushr p4 (2 : Int32)) &&& (3 : Int32))), .val (.ref ay), .val (.int (1 : Int32))] [(.int (1 : Int32)), (.int (1 : Int32))]))
          refine own_go (fun _ k => XS.icmpNo X25.here hx rfl (hb hby at_95) rfl (by decide) k) ?_
          show own_E _ _ _ _ _ _ _ (T25.setTop (mkF m 98 #[.val (.int p0), .val (.long p1), .second, .val (.int p2), .val (.long p3), .second, .val (.int p4), .val (.int b2), .val (.long n2), .second, .val (.ref ax), .val (.int ((XT.ushr p4 (2 : Int32)) &&& (3 : Int32))), .val (.ref ay), .val (.int (1 : Int32))] []))
          refine own_go (fun _ k => XS.aload X25.here hx rfl (hb hby at_98) rfl rfl k) ?_
          show own_E _ _ _ _ _ _ _ (T25.setTop (mkF m 100 #[.val (.int p0), .val (.long p1), .second, .val (.int p2), .val (.long p3), .second, .val (.int p4), .val (.int b2), .val (.long n2), .second, .val (.ref ax), .val (.int ((XT.ushr p4 (2 : Int32)) &&& (3 : Int32))), .val (.ref ay), .val (.int (1 : Int32))] [(.ref ay)]))
          refine own_go (fun _ k => XS.aload X25.here hx rfl (hb hby at_100) rfl rfl k) ?_
          show own_E _ _ _ _ _ _ _ (T25.setTop (mkF m 102 #[.val (.int p0), .val (.long p1), .second, .val (.int p2), .val (.long p3), .second, .val (.int p4), .val (.int b2), .val (.long n2), .second, .val (.ref ax), .val (.int ((XT.ushr p4 (2 : Int32)) &&& (3 : Int32))), .val (.ref ay), .val (.int (1 : Int32))] [(.ref ax), (.ref ay)]))
          obtain ⟨v26, T26, L26, X26, hQ26, st26⟩ := own_callV X25 hx hZ (rm := ({ frames := 0, cells := 0, slots := 0, locals := 0 } : Room)) (W := 0) (b := ay) (argsL := [(.ref ax)]) (rest := []) (y := (⟨"com/example/vestnik/vestnik/model/MessageId", "equals", "(Ljava/lang/Object;)Z"⟩ : MethodName)) hown (hw _ (List.mem_of_getElem? (i := 13) rfl)) (hw _ (List.mem_of_getElem? (i := 14) rfl)) (hw _ (List.mem_of_getElem? (i := 16) rfl)) (hw _ (List.mem_of_getElem? (i := 15) rfl)) (hw _ (List.mem_of_getElem? (i := 17) rfl)) (hw _ (List.mem_of_getElem? (i := 2) rfl)) (by decide) (rmES l Z a0 hw ay ax b2 n2 p0 p1 T24.heap n0 Z24 f24_1 F24 G24 f24_2 f24_3) e25 A24 (by decide) (by decide) (by decide) (by decide) (g := (mkF m 102 #[.val (.int p0), .val (.long p1), .second, .val (.int p2), .val (.long p3), .second, .val (.int p4), .val (.int b2), .val (.long n2), .second, .val (.ref ax), .val (.int ((XT.ushr p4 (2 : Int32)) &&& (3 : Int32))), .val (.ref ay), .val (.int (1 : Int32))] [(.ref ax), (.ref ay)])) rfl (by rw [hml]; rfl) (lenOf pd_4 rfl) rfl (Nat.le_of_ble_eq_true rfl) (hb hby at_102)
          obtain ⟨rfl, N26, e26⟩ := hQ26
          refine own_go st26 ?_
          rw [if_pos ⟨q1.symm, q2.symm⟩]
          show own_E _ _ _ _ _ _ _ (T26.setTop (mkF m 105 #[.val (.int p0), .val (.long p1), .second, .val (.int p2), .val (.long p3), .second, .val (.int p4), .val (.int b2), .val (.long n2), .second, .val (.ref ax), .val (.int ((XT.ushr p4 (2 : Int32)) &&& (3 : Int32))), .val (.ref ay), .val (.int (1 : Int32))] [(.int (1 : Int32))]))
          have M26 := Fr.app M25 N26
          have e26_ := e26
          refine own_go (fun _ k => XS.iload X26.here hx rfl (hb hby at_105) rfl k) ?_
          show own_E _ _ _ _ _ _ _ (T26.setTop (mkF m 107 #[.val (.int p0), .val (.long p1), .second, .val (.int p2), .val (.long p3), .second, .val (.int p4), .val (.int b2), .val (.long n2), .second, .val (.ref ax), .val (.int ((XT.ushr p4 (2 : Int32)) &&& (3 : Int32))), .val (.ref ay), .val (.int (1 : Int32))] [(.int (1 : Int32)), (.int (1 : Int32))]))
          refine own_go (fun _ k => XS.icmpNo X26.here hx rfl (hb hby at_107) rfl (by decide) k) ?_
          show own_E _ _ _ _ _ _ _ (T26.setTop (mkF m 110 #[.val (.int p0), .val (.long p1), .second, .val (.int p2), .val (.long p3), .second, .val (.int p4), .val (.int b2), .val (.long n2), .second, .val (.ref ax), .val (.int ((XT.ushr p4 (2 : Int32)) &&& (3 : Int32))), .val (.ref ay), .val (.int (1 : Int32))] []))
          refine own_go (fun _ k => XS.aload X26.here hx rfl (hb hby at_110) rfl rfl k) ?_
          show own_E _ _ _ _ _ _ _ (T26.setTop (mkF m 112 #[.val (.int p0), .val (.long p1), .second, .val (.int p2), .val (.long p3), .second, .val (.int p4), .val (.int b2), .val (.long n2), .second, .val (.ref ax), .val (.int ((XT.ushr p4 (2 : Int32)) &&& (3 : Int32))), .val (.ref ay), .val (.int (1 : Int32))] [(.ref ax)]))
          refine own_go (fun _ k => XS.aload X26.here hx rfl (hb hby at_112) rfl rfl k) ?_
          show own_E _ _ _ _ _ _ _ (T26.setTop (mkF m 114 #[.val (.int p0), .val (.long p1), .second, .val (.int p2), .val (.long p3), .second, .val (.int p4), .val (.int b2), .val (.long n2), .second, .val (.ref ax), .val (.int ((XT.ushr p4 (2 : Int32)) &&& (3 : Int32))), .val (.ref ay), .val (.int (1 : Int32))] [(.ref ax), (.ref ax)]))
          obtain ⟨v27, T27, L27, X27, hQ27, st27⟩ := own_callV X26 hx hZ (rm := ({ frames := 0, cells := 0, slots := 0, locals := 0 } : Room)) (W := 0) (b := ax) (argsL := [(.ref ax)]) (rest := []) (y := (⟨"com/example/vestnik/vestnik/model/MessageId", "equals", "(Ljava/lang/Object;)Z"⟩ : MethodName)) hown (hw _ (List.mem_of_getElem? (i := 13) rfl)) (hw _ (List.mem_of_getElem? (i := 14) rfl)) (hw _ (List.mem_of_getElem? (i := 16) rfl)) (hw _ (List.mem_of_getElem? (i := 15) rfl)) (hw _ (List.mem_of_getElem? (i := 17) rfl)) (hw _ (List.mem_of_getElem? (i := 2) rfl)) (by decide) (rmES l Z a0 hw ax ax p0 p1 p0 p1 T24.heap n0 Z24 f24_1 f24_2 f24_3 f24_2 f24_3) e26 f24_1 (by decide) (by decide) (by decide) (by decide) (g := (mkF m 114 #[.val (.int p0), .val (.long p1), .second, .val (.int p2), .val (.long p3), .second, .val (.int p4), .val (.int b2), .val (.long n2), .second, .val (.ref ax), .val (.int ((XT.ushr p4 (2 : Int32)) &&& (3 : Int32))), .val (.ref ay), .val (.int (1 : Int32))] [(.ref ax), (.ref ax)])) rfl (by rw [hml]; rfl) (lenOf pd_4 rfl) rfl (Nat.le_of_ble_eq_true rfl) (hb hby at_114)
          obtain ⟨rfl, N27, e27⟩ := hQ27
          refine own_go st27 ?_
          rw [if_pos ⟨rfl, rfl⟩]
          show own_E _ _ _ _ _ _ _ (T27.setTop (mkF m 117 #[.val (.int p0), .val (.long p1), .second, .val (.int p2), .val (.long p3), .second, .val (.int p4), .val (.int b2), .val (.long n2), .second, .val (.ref ax), .val (.int ((XT.ushr p4 (2 : Int32)) &&& (3 : Int32))), .val (.ref ay), .val (.int (1 : Int32))] [(.int (1 : Int32))]))
          have M27 := Fr.app M26 N27
          have e27_ := e27
          refine own_go (fun _ k => XS.ifNo X27.here hx rfl (hb hby at_117) rfl (by decide) k) ?_
          show own_E _ _ _ _ _ _ _ (T27.setTop (mkF m 120 #[.val (.int p0), .val (.long p1), .second, .val (.int p2), .val (.long p3), .second, .val (.int p4), .val (.int b2), .val (.long n2), .second, .val (.ref ax), .val (.int ((XT.ushr p4 (2 : Int32)) &&& (3 : Int32))), .val (.ref ay), .val (.int (1 : Int32))] []))
          refine own_go (fun _ k => XT.iconstV X27.here hx rfl (1 : Int32) (hb hby at_120) (by decide) k) ?_
          show own_E _ _ _ _ _ _ _ (T27.setTop (mkF m 121 #[.val (.int p0), .val (.long p1), .second, .val (.int p2), .val (.long p3), .second, .val (.int p4), .val (.int b2), .val (.long n2), .second, .val (.ref ax), .val (.int ((XT.ushr p4 (2 : Int32)) &&& (3 : Int32))), .val (.ref ay), .val (.int (1 : Int32))] [(.int (1 : Int32))]))
          refine own_go (fun _ k => XS.goto X27.here hx rfl (pc0 := 121) (pc' := 125) rfl (hb hby at_121) (by decide) (by decide) k) ?_
          show own_E _ _ _ _ _ _ _ (T27.setTop (mkF m 125 #[.val (.int p0), .val (.long p1), .second, .val (.int p2), .val (.long p3), .second, .val (.int p4), .val (.int b2), .val (.long n2), .second, .val (.ref ax), .val (.int ((XT.ushr p4 (2 : Int32)) &&& (3 : Int32))), .val (.ref ay), .val (.int (1 : Int32))] [(.int (1 : Int32))]))
          exact own_ret X27 hx Bd.returns Bd.notSynchronized rfl (Or.inl ⟨rfl, by simp, _, rfl⟩) (hb hby at_125) (by rw [e27]; exact ⟨rfl, M27⟩) (by decide) (by decide)
        ·
          refine own_go (fun _ k => XS.ifYes X24.here hx rfl (pc0 := 76) (pc' := 83) rfl (hb hby at_76) rfl (XT.ll_ne_t q2) (by decide) (by decide) k) ?_
          show own_E _ _ _ _ _ _ _ (T24.setTop (mkF m 83 #[.val (.int p0), .val (.long p1), .second, .val (.int p2), .val (.long p3), .second, .val (.int p4), .val (.int b2), .val (.long n2), .second, .val (.ref ax), .val (.int ((XT.ushr p4 (2 : Int32)) &&& (3 : Int32))), .val (.ref ay), .unset] []))
          refine own_go (fun _ k => XT.iconstV X24.here hx rfl (0 : Int32) (hb hby at_83) (by decide) k) ?_
          show own_E _ _ _ _ _ _ _ (T24.setTop (mkF m 84 #[.val (.int p0), .val (.long p1), .second, .val (.int p2), .val (.long p3), .second, .val (.int p4), .val (.int b2), .val (.long n2), .second, .val (.ref ax), .val (.int ((XT.ushr p4 (2 : Int32)) &&& (3 : Int32))), .val (.ref ay), .unset] [(.int (0 : Int32))]))
          refine own_go (fun _ k => XS.istore X24.here hx rfl (hb hby at_84) rfl (l' := #[.val (.int p0), .val (.long p1), .second, .val (.int p2), .val (.long p3), .second, .val (.int p4), .val (.int b2), .val (.long n2), .second, .val (.ref ax), .val (.int ((XT.ushr p4 (2 : Int32)) &&& (3 : Int32))), .val (.ref ay), .val (.int (0 : Int32))]) rfl k) ?_
          show own_E _ _ _ _ _ _ _ (T24.setTop (mkF m 86 #[.val (.int p0), .val (.long p1), .second, .val (.int p2), .val (.long p3), .second, .val (.int p4), .val (.int b2), .val (.long n2), .second, .val (.ref ax), .val (.int ((XT.ushr p4 (2 : Int32)) &&& (3 : Int32))), .val (.ref ay), .val (.int (0 : Int32))] []))
          refine own_go (fun _ k => XS.aload X24.here hx rfl (hb hby at_86) rfl rfl k) ?_
          show own_E _ _ _ _ _ _ _ (T24.setTop (mkF m 88 #[.val (.int p0), .val (.long p1), .second, .val (.int p2), .val (.long p3), .second, .val (.int p4), .val (.int b2), .val (.long n2), .second, .val (.ref ax), .val (.int ((XT.ushr p4 (2 : Int32)) &&& (3 : Int32))), .val (.ref ay), .val (.int (0 : Int32))] [(.ref ax)]))
          refine own_go (fun _ k => XS.aload X24.here hx rfl (hb hby at_88) rfl rfl k) ?_
          show own_E _ _ _ _ _ _ _ (T24.setTop (mkF m 90 #[.val (.int p0), .val (.long p1), .second, .val (.int p2), .val (.long p3), .second, .val (.int p4), .val (.int b2), .val (.long n2), .second, .val (.ref ax), .val (.int ((XT.ushr p4 (2 : Int32)) &&& (3 : Int32))), .val (.ref ay), .val (.int (0 : Int32))] [(.ref ay), (.ref ax)]))
          obtain ⟨v28, T28, L28, X28, hQ28, st28⟩ := own_callV X24 hx hZ (rm := ({ frames := 0, cells := 0, slots := 0, locals := 0 } : Room)) (W := 0) (b := ax) (argsL := [(.ref ay)]) (rest := []) (y := (⟨"com/example/vestnik/vestnik/model/MessageId", "equals", "(Ljava/lang/Object;)Z"⟩ : MethodName)) hown (hw _ (List.mem_of_getElem? (i := 13) rfl)) (hw _ (List.mem_of_getElem? (i := 14) rfl)) (hw _ (List.mem_of_getElem? (i := 16) rfl)) (hw _ (List.mem_of_getElem? (i := 15) rfl)) (hw _ (List.mem_of_getElem? (i := 17) rfl)) (hw _ (List.mem_of_getElem? (i := 2) rfl)) (by decide) (rmES l Z a0 hw ax ay p0 p1 b2 n2 T24.heap n0 Z24 A24 f24_2 f24_3 F24 G24) e24 f24_1 (by decide) (by decide) (by decide) (by decide) (g := (mkF m 90 #[.val (.int p0), .val (.long p1), .second, .val (.int p2), .val (.long p3), .second, .val (.int p4), .val (.int b2), .val (.long n2), .second, .val (.ref ax), .val (.int ((XT.ushr p4 (2 : Int32)) &&& (3 : Int32))), .val (.ref ay), .val (.int (0 : Int32))] [(.ref ay), (.ref ax)])) rfl (by rw [hml]; rfl) (lenOf pd_4 rfl) rfl (Nat.le_of_ble_eq_true rfl) (hb hby at_90)
          obtain ⟨rfl, N28, e28⟩ := hQ28
          refine own_go st28 ?_
          rw [if_neg (fun z => q2 z.2)]
          show own_E _ _ _ _ _ _ _ (T28.setTop (mkF m 93 #[.val (.int p0), .val (.long p1), .second, .val (.int p2), .val (.long p3), .second, .val (.int p4), .val (.int b2), .val (.long n2), .second, .val (.ref ax), .val (.int ((XT.ushr p4 (2 : Int32)) &&& (3 : Int32))), .val (.ref ay), .val (.int (0 : Int32))] [(.int (0 : Int32))]))
          have M28 := Fr.app M24 N28
          have e28_ := e28
          refine own_go (fun _ k => XS.iload X28.here hx rfl (hb hby at_93) rfl k) ?_
          show own_E _ _ _ _ _ _ _ (T28.setTop (mkF m 95 #[.val (.int p0), .val (.long p1), .second, .val (.int p2), .val (.long p3), .second, .val (.int p4), .val (.int b2), .val (.long n2), .second, .val (.ref ax), .val (.int ((XT.ushr p4 (2 : Int32)) &&& (3 : Int32))), .val (.ref ay), .val (.int (0 : Int32))] [(.int (0 : Int32)), (.int (0 : Int32))]))
          refine own_go (fun _ k => XS.icmpNo X28.here hx rfl (hb hby at_95) rfl (by decide) k) ?_
          show own_E _ _ _ _ _ _ _ (T28.setTop (mkF m 98 #[.val (.int p0), .val (.long p1), .second, .val (.int p2), .val (.long p3), .second, .val (.int p4), .val (.int b2), .val (.long n2), .second, .val (.ref ax), .val (.int ((XT.ushr p4 (2 : Int32)) &&& (3 : Int32))), .val (.ref ay), .val (.int (0 : Int32))] []))
          refine own_go (fun _ k => XS.aload X28.here hx rfl (hb hby at_98) rfl rfl k) ?_
          show own_E _ _ _ _ _ _ _ (T28.setTop (mkF m 100 #[.val (.int p0), .val (.long p1), .second, .val (.int p2), .val (.long p3), .second, .val (.int p4), .val (.int b2), .val (.long n2), .second, .val (.ref ax), .val (.int ((XT.ushr p4 (2 : Int32)) &&& (3 : Int32))), .val (.ref ay), .val (.int (0 : Int32))] [(.ref ay)]))
          refine own_go (fun _ k => XS.aload X28.here hx rfl (hb hby at_100) rfl rfl k) ?_
          show own_E _ _ _ _ _ _ _ (T28.setTop (mkF m 102 #[.val (.int p0), .val (.long p1), .second, .val (.int p2), .val (.long p3), .second, .val (.int p4), .val (.int b2), .val (.long n2), .second, .val (.ref ax), .val (.int ((XT.ushr p4 (2 : Int32)) &&& (3 : Int32))), .val (.ref ay), .val (.int (0 : Int32))] [(.ref ax), (.ref ay)]))
          obtain ⟨v29, T29, L29, X29, hQ29, st29⟩ := own_callV X28 hx hZ (rm := ({ frames := 0, cells := 0, slots := 0, locals := 0 } : Room)) (W := 0) (b := ay) (argsL := [(.ref ax)]) (rest := []) (y := (⟨"com/example/vestnik/vestnik/model/MessageId", "equals", "(Ljava/lang/Object;)Z"⟩ : MethodName)) hown (hw _ (List.mem_of_getElem? (i := 13) rfl)) (hw _ (List.mem_of_getElem? (i := 14) rfl)) (hw _ (List.mem_of_getElem? (i := 16) rfl)) (hw _ (List.mem_of_getElem? (i := 15) rfl)) (hw _ (List.mem_of_getElem? (i := 17) rfl)) (hw _ (List.mem_of_getElem? (i := 2) rfl)) (by decide) (rmES l Z a0 hw ay ax b2 n2 p0 p1 T24.heap n0 Z24 f24_1 F24 G24 f24_2 f24_3) e28 A24 (by decide) (by decide) (by decide) (by decide) (g := (mkF m 102 #[.val (.int p0), .val (.long p1), .second, .val (.int p2), .val (.long p3), .second, .val (.int p4), .val (.int b2), .val (.long n2), .second, .val (.ref ax), .val (.int ((XT.ushr p4 (2 : Int32)) &&& (3 : Int32))), .val (.ref ay), .val (.int (0 : Int32))] [(.ref ax), (.ref ay)])) rfl (by rw [hml]; rfl) (lenOf pd_4 rfl) rfl (Nat.le_of_ble_eq_true rfl) (hb hby at_102)
          obtain ⟨rfl, N29, e29⟩ := hQ29
          refine own_go st29 ?_
          rw [if_neg (fun z => q2 z.2.symm)]
          show own_E _ _ _ _ _ _ _ (T29.setTop (mkF m 105 #[.val (.int p0), .val (.long p1), .second, .val (.int p2), .val (.long p3), .second, .val (.int p4), .val (.int b2), .val (.long n2), .second, .val (.ref ax), .val (.int ((XT.ushr p4 (2 : Int32)) &&& (3 : Int32))), .val (.ref ay), .val (.int (0 : Int32))] [(.int (0 : Int32))]))
          have M29 := Fr.app M28 N29
          have e29_ := e29
          refine own_go (fun _ k => XS.iload X29.here hx rfl (hb hby at_105) rfl k) ?_
          show own_E _ _ _ _ _ _ _ (T29.setTop (mkF m 107 #[.val (.int p0), .val (.long p1), .second, .val (.int p2), .val (.long p3), .second, .val (.int p4), .val (.int b2), .val (.long n2), .second, .val (.ref ax), .val (.int ((XT.ushr p4 (2 : Int32)) &&& (3 : Int32))), .val (.ref ay), .val (.int (0 : Int32))] [(.int (0 : Int32)), (.int (0 : Int32))]))
          refine own_go (fun _ k => XS.icmpNo X29.here hx rfl (hb hby at_107) rfl (by decide) k) ?_
          show own_E _ _ _ _ _ _ _ (T29.setTop (mkF m 110 #[.val (.int p0), .val (.long p1), .second, .val (.int p2), .val (.long p3), .second, .val (.int p4), .val (.int b2), .val (.long n2), .second, .val (.ref ax), .val (.int ((XT.ushr p4 (2 : Int32)) &&& (3 : Int32))), .val (.ref ay), .val (.int (0 : Int32))] []))
          refine own_go (fun _ k => XS.aload X29.here hx rfl (hb hby at_110) rfl rfl k) ?_
          show own_E _ _ _ _ _ _ _ (T29.setTop (mkF m 112 #[.val (.int p0), .val (.long p1), .second, .val (.int p2), .val (.long p3), .second, .val (.int p4), .val (.int b2), .val (.long n2), .second, .val (.ref ax), .val (.int ((XT.ushr p4 (2 : Int32)) &&& (3 : Int32))), .val (.ref ay), .val (.int (0 : Int32))] [(.ref ax)]))
          refine own_go (fun _ k => XS.aload X29.here hx rfl (hb hby at_112) rfl rfl k) ?_
          show own_E _ _ _ _ _ _ _ (T29.setTop (mkF m 114 #[.val (.int p0), .val (.long p1), .second, .val (.int p2), .val (.long p3), .second, .val (.int p4), .val (.int b2), .val (.long n2), .second, .val (.ref ax), .val (.int ((XT.ushr p4 (2 : Int32)) &&& (3 : Int32))), .val (.ref ay), .val (.int (0 : Int32))] [(.ref ax), (.ref ax)]))
          obtain ⟨v30, T30, L30, X30, hQ30, st30⟩ := own_callV X29 hx hZ (rm := ({ frames := 0, cells := 0, slots := 0, locals := 0 } : Room)) (W := 0) (b := ax) (argsL := [(.ref ax)]) (rest := []) (y := (⟨"com/example/vestnik/vestnik/model/MessageId", "equals", "(Ljava/lang/Object;)Z"⟩ : MethodName)) hown (hw _ (List.mem_of_getElem? (i := 13) rfl)) (hw _ (List.mem_of_getElem? (i := 14) rfl)) (hw _ (List.mem_of_getElem? (i := 16) rfl)) (hw _ (List.mem_of_getElem? (i := 15) rfl)) (hw _ (List.mem_of_getElem? (i := 17) rfl)) (hw _ (List.mem_of_getElem? (i := 2) rfl)) (by decide) (rmES l Z a0 hw ax ax p0 p1 p0 p1 T24.heap n0 Z24 f24_1 f24_2 f24_3 f24_2 f24_3) e29 f24_1 (by decide) (by decide) (by decide) (by decide) (g := (mkF m 114 #[.val (.int p0), .val (.long p1), .second, .val (.int p2), .val (.long p3), .second, .val (.int p4), .val (.int b2), .val (.long n2), .second, .val (.ref ax), .val (.int ((XT.ushr p4 (2 : Int32)) &&& (3 : Int32))), .val (.ref ay), .val (.int (0 : Int32))] [(.ref ax), (.ref ax)])) rfl (by rw [hml]; rfl) (lenOf pd_4 rfl) rfl (Nat.le_of_ble_eq_true rfl) (hb hby at_114)
          obtain ⟨rfl, N30, e30⟩ := hQ30
          refine own_go st30 ?_
          rw [if_pos ⟨rfl, rfl⟩]
          show own_E _ _ _ _ _ _ _ (T30.setTop (mkF m 117 #[.val (.int p0), .val (.long p1), .second, .val (.int p2), .val (.long p3), .second, .val (.int p4), .val (.int b2), .val (.long n2), .second, .val (.ref ax), .val (.int ((XT.ushr p4 (2 : Int32)) &&& (3 : Int32))), .val (.ref ay), .val (.int (0 : Int32))] [(.int (1 : Int32))]))
          have M30 := Fr.app M29 N30
          have e30_ := e30
          refine own_go (fun _ k => XS.ifNo X30.here hx rfl (hb hby at_117) rfl (by decide) k) ?_
          show own_E _ _ _ _ _ _ _ (T30.setTop (mkF m 120 #[.val (.int p0), .val (.long p1), .second, .val (.int p2), .val (.long p3), .second, .val (.int p4), .val (.int b2), .val (.long n2), .second, .val (.ref ax), .val (.int ((XT.ushr p4 (2 : Int32)) &&& (3 : Int32))), .val (.ref ay), .val (.int (0 : Int32))] []))
          refine own_go (fun _ k => XT.iconstV X30.here hx rfl (1 : Int32) (hb hby at_120) (by decide) k) ?_
          show own_E _ _ _ _ _ _ _ (T30.setTop (mkF m 121 #[.val (.int p0), .val (.long p1), .second, .val (.int p2), .val (.long p3), .second, .val (.int p4), .val (.int b2), .val (.long n2), .second, .val (.ref ax), .val (.int ((XT.ushr p4 (2 : Int32)) &&& (3 : Int32))), .val (.ref ay), .val (.int (0 : Int32))] [(.int (1 : Int32))]))
          refine own_go (fun _ k => XS.goto X30.here hx rfl (pc0 := 121) (pc' := 125) rfl (hb hby at_121) (by decide) (by decide) k) ?_
          show own_E _ _ _ _ _ _ _ (T30.setTop (mkF m 125 #[.val (.int p0), .val (.long p1), .second, .val (.int p2), .val (.long p3), .second, .val (.int p4), .val (.int b2), .val (.long n2), .second, .val (.ref ax), .val (.int ((XT.ushr p4 (2 : Int32)) &&& (3 : Int32))), .val (.ref ay), .val (.int (0 : Int32))] [(.int (1 : Int32))]))
          exact own_ret X30 hx Bd.returns Bd.notSynchronized rfl (Or.inl ⟨rfl, by simp, _, rfl⟩) (hb hby at_125) (by rw [e30]; exact ⟨rfl, M30⟩) (by decide) (by decide)
      ·
        refine own_go (fun _ k => XS.icmpYes X24.here hx rfl (pc0 := 69) (pc' := 83) rfl (hb hby at_69) rfl (feq q1).2 (by decide) (by decide) k) ?_
        show own_E _ _ _ _ _ _ _ (T24.setTop (mkF m 83 #[.val (.int p0), .val (.long p1), .second, .val (.int p2), .val (.long p3), .second, .val (.int p4), .val (.int b2), .val (.long n2), .second, .val (.ref ax), .val (.int ((XT.ushr p4 (2 : Int32)) &&& (3 : Int32))), .val (.ref ay), .unset] []))
        refine own_go (fun _ k => XT.iconstV X24.here hx rfl (0 : Int32) (hb hby at_83) (by decide) k) ?_
        show own_E _ _ _ _ _ _ _ (T24.setTop (mkF m 84 #[.val (.int p0), .val (.long p1), .second, .val (.int p2), .val (.long p3), .second, .val (.int p4), .val (.int b2), .val (.long n2), .second, .val (.ref ax), .val (.int ((XT.ushr p4 (2 : Int32)) &&& (3 : Int32))), .val (.ref ay), .unset] [(.int (0 : Int32))]))
        refine own_go (fun _ k => XS.istore X24.here hx rfl (hb hby at_84) rfl (l' := #[.val (.int p0), .val (.long p1), .second, .val (.int p2), .val (.long p3), .second, .val (.int p4), .val (.int b2), .val (.long n2), .second, .val (.ref ax), .val (.int ((XT.ushr p4 (2 : Int32)) &&& (3 : Int32))), .val (.ref ay), .val (.int (0 : Int32))]) rfl k) ?_
        show own_E _ _ _ _ _ _ _ (T24.setTop (mkF m 86 #[.val (.int p0), .val (.long p1), .second, .val (.int p2), .val (.long p3), .second, .val (.int p4), .val (.int b2), .val (.long n2), .second, .val (.ref ax), .val (.int ((XT.ushr p4 (2 : Int32)) &&& (3 : Int32))), .val (.ref ay), .val (.int (0 : Int32))] []))
        refine own_go (fun _ k => XS.aload X24.here hx rfl (hb hby at_86) rfl rfl k) ?_
        show own_E _ _ _ _ _ _ _ (T24.setTop (mkF m 88 #[.val (.int p0), .val (.long p1), .second, .val (.int p2), .val (.long p3), .second, .val (.int p4), .val (.int b2), .val (.long n2), .second, .val (.ref ax), .val (.int ((XT.ushr p4 (2 : Int32)) &&& (3 : Int32))), .val (.ref ay), .val (.int (0 : Int32))] [(.ref ax)]))
        refine own_go (fun _ k => XS.aload X24.here hx rfl (hb hby at_88) rfl rfl k) ?_
        show own_E _ _ _ _ _ _ _ (T24.setTop (mkF m 90 #[.val (.int p0), .val (.long p1), .second, .val (.int p2), .val (.long p3), .second, .val (.int p4), .val (.int b2), .val (.long n2), .second, .val (.ref ax), .val (.int ((XT.ushr p4 (2 : Int32)) &&& (3 : Int32))), .val (.ref ay), .val (.int (0 : Int32))] [(.ref ay), (.ref ax)]))
        obtain ⟨v31, T31, L31, X31, hQ31, st31⟩ := own_callV X24 hx hZ (rm := ({ frames := 0, cells := 0, slots := 0, locals := 0 } : Room)) (W := 0) (b := ax) (argsL := [(.ref ay)]) (rest := []) (y := (⟨"com/example/vestnik/vestnik/model/MessageId", "equals", "(Ljava/lang/Object;)Z"⟩ : MethodName)) hown (hw _ (List.mem_of_getElem? (i := 13) rfl)) (hw _ (List.mem_of_getElem? (i := 14) rfl)) (hw _ (List.mem_of_getElem? (i := 16) rfl)) (hw _ (List.mem_of_getElem? (i := 15) rfl)) (hw _ (List.mem_of_getElem? (i := 17) rfl)) (hw _ (List.mem_of_getElem? (i := 2) rfl)) (by decide) (rmES l Z a0 hw ax ay p0 p1 b2 n2 T24.heap n0 Z24 A24 f24_2 f24_3 F24 G24) e24 f24_1 (by decide) (by decide) (by decide) (by decide) (g := (mkF m 90 #[.val (.int p0), .val (.long p1), .second, .val (.int p2), .val (.long p3), .second, .val (.int p4), .val (.int b2), .val (.long n2), .second, .val (.ref ax), .val (.int ((XT.ushr p4 (2 : Int32)) &&& (3 : Int32))), .val (.ref ay), .val (.int (0 : Int32))] [(.ref ay), (.ref ax)])) rfl (by rw [hml]; rfl) (lenOf pd_4 rfl) rfl (Nat.le_of_ble_eq_true rfl) (hb hby at_90)
        obtain ⟨rfl, N31, e31⟩ := hQ31
        refine own_go st31 ?_
        rw [if_neg (fun z => q1 z.1)]
        show own_E _ _ _ _ _ _ _ (T31.setTop (mkF m 93 #[.val (.int p0), .val (.long p1), .second, .val (.int p2), .val (.long p3), .second, .val (.int p4), .val (.int b2), .val (.long n2), .second, .val (.ref ax), .val (.int ((XT.ushr p4 (2 : Int32)) &&& (3 : Int32))), .val (.ref ay), .val (.int (0 : Int32))] [(.int (0 : Int32))]))
        have M31 := Fr.app M24 N31
        have e31_ := e31
        refine own_go (fun _ k => XS.iload X31.here hx rfl (hb hby at_93) rfl k) ?_
        show own_E _ _ _ _ _ _ _ (T31.setTop (mkF m 95 #[.val (.int p0), .val (.long p1), .second, .val (.int p2), .val (.long p3), .second, .val (.int p4), .val (.int b2), .val (.long n2), .second, .val (.ref ax), .val (.int ((XT.ushr p4 (2 : Int32)) &&& (3 : Int32))), .val (.ref ay), .val (.int (0 : Int32))] [(.int (0 : Int32)), (.int (0 : Int32))]))
        refine own_go (fun _ k => XS.icmpNo X31.here hx rfl (hb hby at_95) rfl (by decide) k) ?_
        show own_E _ _ _ _ _ _ _ (T31.setTop (mkF m 98 #[.val (.int p0), .val (.long p1), .second, .val (.int p2), .val (.long p3), .second, .val (.int p4), .val (.int b2), .val (.long n2), .second, .val (.ref ax), .val (.int ((XT.ushr p4 (2 : Int32)) &&& (3 : Int32))), .val (.ref ay), .val (.int (0 : Int32))] []))
        refine own_go (fun _ k => XS.aload X31.here hx rfl (hb hby at_98) rfl rfl k) ?_
        show own_E _ _ _ _ _ _ _ (T31.setTop (mkF m 100 #[.val (.int p0), .val (.long p1), .second, .val (.int p2), .val (.long p3), .second, .val (.int p4), .val (.int b2), .val (.long n2), .second, .val (.ref ax), .val (.int ((XT.ushr p4 (2 : Int32)) &&& (3 : Int32))), .val (.ref ay), .val (.int (0 : Int32))] [(.ref ay)]))
        refine own_go (fun _ k => XS.aload X31.here hx rfl (hb hby at_100) rfl rfl k) ?_
        show own_E _ _ _ _ _ _ _ (T31.setTop (mkF m 102 #[.val (.int p0), .val (.long p1), .second, .val (.int p2), .val (.long p3), .second, .val (.int p4), .val (.int b2), .val (.long n2), .second, .val (.ref ax), .val (.int ((XT.ushr p4 (2 : Int32)) &&& (3 : Int32))), .val (.ref ay), .val (.int (0 : Int32))] [(.ref ax), (.ref ay)]))
        obtain ⟨v32, T32, L32, X32, hQ32, st32⟩ := own_callV X31 hx hZ (rm := ({ frames := 0, cells := 0, slots := 0, locals := 0 } : Room)) (W := 0) (b := ay) (argsL := [(.ref ax)]) (rest := []) (y := (⟨"com/example/vestnik/vestnik/model/MessageId", "equals", "(Ljava/lang/Object;)Z"⟩ : MethodName)) hown (hw _ (List.mem_of_getElem? (i := 13) rfl)) (hw _ (List.mem_of_getElem? (i := 14) rfl)) (hw _ (List.mem_of_getElem? (i := 16) rfl)) (hw _ (List.mem_of_getElem? (i := 15) rfl)) (hw _ (List.mem_of_getElem? (i := 17) rfl)) (hw _ (List.mem_of_getElem? (i := 2) rfl)) (by decide) (rmES l Z a0 hw ay ax b2 n2 p0 p1 T24.heap n0 Z24 f24_1 F24 G24 f24_2 f24_3) e31 A24 (by decide) (by decide) (by decide) (by decide) (g := (mkF m 102 #[.val (.int p0), .val (.long p1), .second, .val (.int p2), .val (.long p3), .second, .val (.int p4), .val (.int b2), .val (.long n2), .second, .val (.ref ax), .val (.int ((XT.ushr p4 (2 : Int32)) &&& (3 : Int32))), .val (.ref ay), .val (.int (0 : Int32))] [(.ref ax), (.ref ay)])) rfl (by rw [hml]; rfl) (lenOf pd_4 rfl) rfl (Nat.le_of_ble_eq_true rfl) (hb hby at_102)
        obtain ⟨rfl, N32, e32⟩ := hQ32
        refine own_go st32 ?_
        rw [if_neg (fun z => q1 z.1.symm)]
        show own_E _ _ _ _ _ _ _ (T32.setTop (mkF m 105 #[.val (.int p0), .val (.long p1), .second, .val (.int p2), .val (.long p3), .second, .val (.int p4), .val (.int b2), .val (.long n2), .second, .val (.ref ax), .val (.int ((XT.ushr p4 (2 : Int32)) &&& (3 : Int32))), .val (.ref ay), .val (.int (0 : Int32))] [(.int (0 : Int32))]))
        have M32 := Fr.app M31 N32
        have e32_ := e32
        refine own_go (fun _ k => XS.iload X32.here hx rfl (hb hby at_105) rfl k) ?_
        show own_E _ _ _ _ _ _ _ (T32.setTop (mkF m 107 #[.val (.int p0), .val (.long p1), .second, .val (.int p2), .val (.long p3), .second, .val (.int p4), .val (.int b2), .val (.long n2), .second, .val (.ref ax), .val (.int ((XT.ushr p4 (2 : Int32)) &&& (3 : Int32))), .val (.ref ay), .val (.int (0 : Int32))] [(.int (0 : Int32)), (.int (0 : Int32))]))
        refine own_go (fun _ k => XS.icmpNo X32.here hx rfl (hb hby at_107) rfl (by decide) k) ?_
        show own_E _ _ _ _ _ _ _ (T32.setTop (mkF m 110 #[.val (.int p0), .val (.long p1), .second, .val (.int p2), .val (.long p3), .second, .val (.int p4), .val (.int b2), .val (.long n2), .second, .val (.ref ax), .val (.int ((XT.ushr p4 (2 : Int32)) &&& (3 : Int32))), .val (.ref ay), .val (.int (0 : Int32))] []))
        refine own_go (fun _ k => XS.aload X32.here hx rfl (hb hby at_110) rfl rfl k) ?_
        show own_E _ _ _ _ _ _ _ (T32.setTop (mkF m 112 #[.val (.int p0), .val (.long p1), .second, .val (.int p2), .val (.long p3), .second, .val (.int p4), .val (.int b2), .val (.long n2), .second, .val (.ref ax), .val (.int ((XT.ushr p4 (2 : Int32)) &&& (3 : Int32))), .val (.ref ay), .val (.int (0 : Int32))] [(.ref ax)]))
        refine own_go (fun _ k => XS.aload X32.here hx rfl (hb hby at_112) rfl rfl k) ?_
        show own_E _ _ _ _ _ _ _ (T32.setTop (mkF m 114 #[.val (.int p0), .val (.long p1), .second, .val (.int p2), .val (.long p3), .second, .val (.int p4), .val (.int b2), .val (.long n2), .second, .val (.ref ax), .val (.int ((XT.ushr p4 (2 : Int32)) &&& (3 : Int32))), .val (.ref ay), .val (.int (0 : Int32))] [(.ref ax), (.ref ax)]))
        obtain ⟨v33, T33, L33, X33, hQ33, st33⟩ := own_callV X32 hx hZ (rm := ({ frames := 0, cells := 0, slots := 0, locals := 0 } : Room)) (W := 0) (b := ax) (argsL := [(.ref ax)]) (rest := []) (y := (⟨"com/example/vestnik/vestnik/model/MessageId", "equals", "(Ljava/lang/Object;)Z"⟩ : MethodName)) hown (hw _ (List.mem_of_getElem? (i := 13) rfl)) (hw _ (List.mem_of_getElem? (i := 14) rfl)) (hw _ (List.mem_of_getElem? (i := 16) rfl)) (hw _ (List.mem_of_getElem? (i := 15) rfl)) (hw _ (List.mem_of_getElem? (i := 17) rfl)) (hw _ (List.mem_of_getElem? (i := 2) rfl)) (by decide) (rmES l Z a0 hw ax ax p0 p1 p0 p1 T24.heap n0 Z24 f24_1 f24_2 f24_3 f24_2 f24_3) e32 f24_1 (by decide) (by decide) (by decide) (by decide) (g := (mkF m 114 #[.val (.int p0), .val (.long p1), .second, .val (.int p2), .val (.long p3), .second, .val (.int p4), .val (.int b2), .val (.long n2), .second, .val (.ref ax), .val (.int ((XT.ushr p4 (2 : Int32)) &&& (3 : Int32))), .val (.ref ay), .val (.int (0 : Int32))] [(.ref ax), (.ref ax)])) rfl (by rw [hml]; rfl) (lenOf pd_4 rfl) rfl (Nat.le_of_ble_eq_true rfl) (hb hby at_114)
        obtain ⟨rfl, N33, e33⟩ := hQ33
        refine own_go st33 ?_
        rw [if_pos ⟨rfl, rfl⟩]
        show own_E _ _ _ _ _ _ _ (T33.setTop (mkF m 117 #[.val (.int p0), .val (.long p1), .second, .val (.int p2), .val (.long p3), .second, .val (.int p4), .val (.int b2), .val (.long n2), .second, .val (.ref ax), .val (.int ((XT.ushr p4 (2 : Int32)) &&& (3 : Int32))), .val (.ref ay), .val (.int (0 : Int32))] [(.int (1 : Int32))]))
        have M33 := Fr.app M32 N33
        have e33_ := e33
        refine own_go (fun _ k => XS.ifNo X33.here hx rfl (hb hby at_117) rfl (by decide) k) ?_
        show own_E _ _ _ _ _ _ _ (T33.setTop (mkF m 120 #[.val (.int p0), .val (.long p1), .second, .val (.int p2), .val (.long p3), .second, .val (.int p4), .val (.int b2), .val (.long n2), .second, .val (.ref ax), .val (.int ((XT.ushr p4 (2 : Int32)) &&& (3 : Int32))), .val (.ref ay), .val (.int (0 : Int32))] []))
        refine own_go (fun _ k => XT.iconstV X33.here hx rfl (1 : Int32) (hb hby at_120) (by decide) k) ?_
        show own_E _ _ _ _ _ _ _ (T33.setTop (mkF m 121 #[.val (.int p0), .val (.long p1), .second, .val (.int p2), .val (.long p3), .second, .val (.int p4), .val (.int b2), .val (.long n2), .second, .val (.ref ax), .val (.int ((XT.ushr p4 (2 : Int32)) &&& (3 : Int32))), .val (.ref ay), .val (.int (0 : Int32))] [(.int (1 : Int32))]))
        refine own_go (fun _ k => XS.goto X33.here hx rfl (pc0 := 121) (pc' := 125) rfl (hb hby at_121) (by decide) (by decide) k) ?_
        show own_E _ _ _ _ _ _ _ (T33.setTop (mkF m 125 #[.val (.int p0), .val (.long p1), .second, .val (.int p2), .val (.long p3), .second, .val (.int p4), .val (.int b2), .val (.long n2), .second, .val (.ref ax), .val (.int ((XT.ushr p4 (2 : Int32)) &&& (3 : Int32))), .val (.ref ay), .val (.int (0 : Int32))] [(.int (1 : Int32))]))
        exact own_ret X33 hx Bd.returns Bd.notSynchronized rfl (Or.inl ⟨rfl, by simp, _, rfl⟩) (hb hby at_125) (by rw [e33]; exact ⟨rfl, M33⟩) (by decide) (by decide)
    ·
      refine own_go (fun _ k => XS.ifYes X22.here hx rfl (pc0 := 50) (pc' := 126) rfl (hb hby at_50) rfl (XT.i0_ne_t k0) (by decide) (by decide) k) ?_
      show own_E _ _ _ _ _ _ _ (T22.setTop (mkF m 126 #[.val (.int p0), .val (.long p1), .second, .val (.int p2), .val (.long p3), .second, .val (.int p4), .val (.int b2), .val (.long n2), .second, .val (.ref ax), .val (.int ((XT.ushr p4 (2 : Int32)) &&& (3 : Int32))), .unset, .unset] []))
      refine own_go (fun _ k => XS.iload X22.here hx rfl (hb hby at_126) rfl k) ?_
      show own_E _ _ _ _ _ _ _ (T22.setTop (mkF m 128 #[.val (.int p0), .val (.long p1), .second, .val (.int p2), .val (.long p3), .second, .val (.int p4), .val (.int b2), .val (.long n2), .second, .val (.ref ax), .val (.int ((XT.ushr p4 (2 : Int32)) &&& (3 : Int32))), .unset, .unset] [(.int ((XT.ushr p4 (2 : Int32)) &&& (3 : Int32)))]))
      refine own_go (fun _ k => XT.iconstV X22.here hx rfl (1 : Int32) (hb hby at_128) (by decide) k) ?_
      show own_E _ _ _ _ _ _ _ (T22.setTop (mkF m 129 #[.val (.int p0), .val (.long p1), .second, .val (.int p2), .val (.long p3), .second, .val (.int p4), .val (.int b2), .val (.long n2), .second, .val (.ref ax), .val (.int ((XT.ushr p4 (2 : Int32)) &&& (3 : Int32))), .unset, .unset] [(.int (1 : Int32)), (.int ((XT.ushr p4 (2 : Int32)) &&& (3 : Int32)))]))
      by_cases k1 : ((XT.ushr p4 (2 : Int32)) &&& (3 : Int32)) = 1
      ·
        refine own_go (fun _ k => XS.icmpNo X22.here hx rfl (hb hby at_129) rfl (teq k1).2 k) ?_
        show own_E _ _ _ _ _ _ _ (T22.setTop (mkF m 132 #[.val (.int p0), .val (.long p1), .second, .val (.int p2), .val (.long p3), .second, .val (.int p4), .val (.int b2), .val (.long n2), .second, .val (.ref ax), .val (.int ((XT.ushr p4 (2 : Int32)) &&& (3 : Int32))), .unset, .unset] []))
        refine own_go (fun _ k => XS.aconstNull X22.here hx rfl (hb hby at_132) k) ?_
        show own_E _ _ _ _ _ _ _ (T22.setTop (mkF m 133 #[.val (.int p0), .val (.long p1), .second, .val (.int p2), .val (.long p3), .second, .val (.int p4), .val (.int b2), .val (.long n2), .second, .val (.ref ax), .val (.int ((XT.ushr p4 (2 : Int32)) &&& (3 : Int32))), .unset, .unset] [.null]))
        refine own_go (fun _ k => XS.astore X22.here hx rfl (hb hby at_133) rfl rfl (l' := #[.val (.int p0), .val (.long p1), .second, .val (.int p2), .val (.long p3), .second, .val (.int p4), .val (.int b2), .val (.long n2), .second, .val (.ref ax), .val (.int ((XT.ushr p4 (2 : Int32)) &&& (3 : Int32))), .val .null, .unset]) rfl k) ?_
        show own_E _ _ _ _ _ _ _ (T22.setTop (mkF m 135 #[.val (.int p0), .val (.long p1), .second, .val (.int p2), .val (.long p3), .second, .val (.int p4), .val (.int b2), .val (.long n2), .second, .val (.ref ax), .val (.int ((XT.ushr p4 (2 : Int32)) &&& (3 : Int32))), .val .null, .unset] []))
        refine own_go (fun _ k => XS.goto X22.here hx rfl (pc0 := 135) (pc' := 159) rfl (hb hby at_135) (by decide) (by decide) k) ?_
        show own_E _ _ _ _ _ _ _ (T22.setTop (mkF m 159 #[.val (.int p0), .val (.long p1), .second, .val (.int p2), .val (.long p3), .second, .val (.int p4), .val (.int b2), .val (.long n2), .second, .val (.ref ax), .val (.int ((XT.ushr p4 (2 : Int32)) &&& (3 : Int32))), .val .null, .unset] []))
        refine own_go (fun _ k => XS.aload X22.here hx rfl (hb hby at_159) rfl rfl k) ?_
        show own_E _ _ _ _ _ _ _ (T22.setTop (mkF m 161 #[.val (.int p0), .val (.long p1), .second, .val (.int p2), .val (.long p3), .second, .val (.int p4), .val (.int b2), .val (.long n2), .second, .val (.ref ax), .val (.int ((XT.ushr p4 (2 : Int32)) &&& (3 : Int32))), .val .null, .unset] [(.ref ax)]))
        refine own_go (fun _ k => XS.aload X22.here hx rfl (hb hby at_161) rfl rfl k) ?_
        show own_E _ _ _ _ _ _ _ (T22.setTop (mkF m 163 #[.val (.int p0), .val (.long p1), .second, .val (.int p2), .val (.long p3), .second, .val (.int p4), .val (.int b2), .val (.long n2), .second, .val (.ref ax), .val (.int ((XT.ushr p4 (2 : Int32)) &&& (3 : Int32))), .val .null, .unset] [.null, (.ref ax)]))
        obtain ⟨v34, T34, L34, X34, hQ34, st34⟩ := own_callV X22 hx hZ (rm := ({ frames := 0, cells := 0, slots := 0, locals := 0 } : Room)) (W := 0) (b := ax) (argsL := [.null]) (rest := []) (y := (⟨"com/example/vestnik/vestnik/model/MessageId", "equals", "(Ljava/lang/Object;)Z"⟩ : MethodName)) hown (hw _ (List.mem_of_getElem? (i := 13) rfl)) (hw _ (List.mem_of_getElem? (i := 14) rfl)) (hw _ (List.mem_of_getElem? (i := 16) rfl)) (hw _ (List.mem_of_getElem? (i := 15) rfl)) (hw _ (List.mem_of_getElem? (i := 17) rfl)) (hw _ (List.mem_of_getElem? (i := 2) rfl)) (by decide) (rmEN l Z a0 hw ax T22.heap n0 Z22) e22 A22 (by decide) (by decide) (by decide) (by decide) (g := (mkF m 163 #[.val (.int p0), .val (.long p1), .second, .val (.int p2), .val (.long p3), .second, .val (.int p4), .val (.int b2), .val (.long n2), .second, .val (.ref ax), .val (.int ((XT.ushr p4 (2 : Int32)) &&& (3 : Int32))), .val .null, .unset] [.null, (.ref ax)])) rfl (by rw [hml]; rfl) (lenOf pd_4 rfl) rfl (Nat.le_of_ble_eq_true rfl) (hb hby at_163)
        obtain ⟨rfl, N34, e34⟩ := hQ34
        refine own_go st34 ?_
        show own_E _ _ _ _ _ _ _ (T34.setTop (mkF m 166 #[.val (.int p0), .val (.long p1), .second, .val (.int p2), .val (.long p3), .second, .val (.int p4), .val (.int b2), .val (.long n2), .second, .val (.ref ax), .val (.int ((XT.ushr p4 (2 : Int32)) &&& (3 : Int32))), .val .null, .unset] [(.int (0 : Int32))]))
        have M34 := Fr.app M22 N34
        have e34_ := e34
        refine own_go (fun _ k => XS.ifNo X34.here hx rfl (hb hby at_166) rfl (by decide) k) ?_
        show own_E _ _ _ _ _ _ _ (T34.setTop (mkF m 169 #[.val (.int p0), .val (.long p1), .second, .val (.int p2), .val (.long p3), .second, .val (.int p4), .val (.int b2), .val (.long n2), .second, .val (.ref ax), .val (.int ((XT.ushr p4 (2 : Int32)) &&& (3 : Int32))), .val .null, .unset] []))
        refine own_go (fun _ k => XT.iconstV X34.here hx rfl (1 : Int32) (hb hby at_169) (by decide) k) ?_
        show own_E _ _ _ _ _ _ _ (T34.setTop (mkF m 170 #[.val (.int p0), .val (.long p1), .second, .val (.int p2), .val (.long p3), .second, .val (.int p4), .val (.int b2), .val (.long n2), .second, .val (.ref ax), .val (.int ((XT.ushr p4 (2 : Int32)) &&& (3 : Int32))), .val .null, .unset] [(.int (1 : Int32))]))
        refine own_go (fun _ k => XS.goto X34.here hx rfl (pc0 := 170) (pc' := 174) rfl (hb hby at_170) (by decide) (by decide) k) ?_
        show own_E _ _ _ _ _ _ _ (T34.setTop (mkF m 174 #[.val (.int p0), .val (.long p1), .second, .val (.int p2), .val (.long p3), .second, .val (.int p4), .val (.int b2), .val (.long n2), .second, .val (.ref ax), .val (.int ((XT.ushr p4 (2 : Int32)) &&& (3 : Int32))), .val .null, .unset] [(.int (1 : Int32))]))
        exact own_ret X34 hx Bd.returns Bd.notSynchronized rfl (Or.inl ⟨rfl, by simp, _, rfl⟩) (hb hby at_174) (by rw [e34]; exact ⟨rfl, M34⟩) (by decide) (by decide)
      ·
        refine own_go (fun _ k => XS.icmpYes X22.here hx rfl (pc0 := 129) (pc' := 138) rfl (hb hby at_129) rfl (feq k1).2 (by decide) (by decide) k) ?_
        show own_E _ _ _ _ _ _ _ (T22.setTop (mkF m 138 #[.val (.int p0), .val (.long p1), .second, .val (.int p2), .val (.long p3), .second, .val (.int p4), .val (.int b2), .val (.long n2), .second, .val (.ref ax), .val (.int ((XT.ushr p4 (2 : Int32)) &&& (3 : Int32))), .unset, .unset] []))
        refine own_go (fun _ k => XS.iload X22.here hx rfl (hb hby at_138) rfl k) ?_
        show own_E _ _ _ _ _ _ _ (T22.setTop (mkF m 140 #[.val (.int p0), .val (.long p1), .second, .val (.int p2), .val (.long p3), .second, .val (.int p4), .val (.int b2), .val (.long n2), .second, .val (.ref ax), .val (.int ((XT.ushr p4 (2 : Int32)) &&& (3 : Int32))), .unset, .unset] [(.int ((XT.ushr p4 (2 : Int32)) &&& (3 : Int32)))]))
        refine own_go (fun _ k => XT.iconstV X22.here hx rfl (2 : Int32) (hb hby at_140) (by decide) k) ?_
        show own_E _ _ _ _ _ _ _ (T22.setTop (mkF m 141 #[.val (.int p0), .val (.long p1), .second, .val (.int p2), .val (.long p3), .second, .val (.int p4), .val (.int b2), .val (.long n2), .second, .val (.ref ax), .val (.int ((XT.ushr p4 (2 : Int32)) &&& (3 : Int32))), .unset, .unset] [(.int (2 : Int32)), (.int ((XT.ushr p4 (2 : Int32)) &&& (3 : Int32)))]))
        by_cases k2 : ((XT.ushr p4 (2 : Int32)) &&& (3 : Int32)) = 2
        ·
          refine own_go (fun _ k => XS.icmpNo X22.here hx rfl (hb hby at_141) rfl (teq k2).2 k) ?_
          show own_E _ _ _ _ _ _ _ (T22.setTop (mkF m 144 #[.val (.int p0), .val (.long p1), .second, .val (.int p2), .val (.long p3), .second, .val (.int p4), .val (.int b2), .val (.long n2), .second, .val (.ref ax), .val (.int ((XT.ushr p4 (2 : Int32)) &&& (3 : Int32))), .unset, .unset] []))
          refine own_go (fun _ k => XS.iloadN X22.here hx rfl (hb hby at_144) rfl k) ?_
          show own_E _ _ _ _ _ _ _ (T22.setTop (mkF m 145 #[.val (.int p0), .val (.long p1), .second, .val (.int p2), .val (.long p3), .second, .val (.int p4), .val (.int b2), .val (.long n2), .second, .val (.ref ax), .val (.int ((XT.ushr p4 (2 : Int32)) &&& (3 : Int32))), .unset, .unset] [(.int p0)]))
          obtain ⟨v35, T35, L35, X35, hQ35, st35⟩ := own_callS X22 hx hZ (rm := ({ frames := 3, cells := 1, slots := 1, locals := 40 } : Room)) (W := 0) (argsL := [(.int p0)]) (rest := []) (y := (⟨"java/lang/Integer", "valueOf", "(I)Ljava/lang/Integer;"⟩ : MethodName)) hown (hw _ (List.mem_of_getElem? (i := 20) rfl)) (hw _ (List.mem_of_getElem? (i := 21) rfl)) (hw _ (List.mem_of_getElem? (i := 22) rfl)) (hw _ (List.mem_of_getElem? (i := 23) rfl)) (by decide) (rm4 l Z a0 hw p0 ai ci T22.heap n0 Z22 O22 SI BI SH) e22 (by decide) (by decide) (by decide) (by decide) (g := (mkF m 145 #[.val (.int p0), .val (.long p1), .second, .val (.int p2), .val (.long p3), .second, .val (.int p4), .val (.int b2), .val (.long n2), .second, .val (.ref ax), .val (.int ((XT.ushr p4 (2 : Int32)) &&& (3 : Int32))), .unset, .unset] [(.int p0)])) rfl (by rw [hml]; rfl) (lenOf pd_5 rfl) rfl (Nat.le_of_ble_eq_true rfl) (hb hby at_145)
          obtain ⟨N35, K35, r35, rfl, A35⟩ := hQ35
          refine own_go st35 ?_
          show own_E _ _ _ _ _ _ _ (T35.setTop (mkF m 148 #[.val (.int p0), .val (.long p1), .second, .val (.int p2), .val (.long p3), .second, .val (.int p4), .val (.int b2), .val (.long n2), .second, .val (.ref ax), .val (.int ((XT.ushr p4 (2 : Int32)) &&& (3 : Int32))), .unset, .unset] [(.ref r35)]))
          have M35 := Fr.app M22 N35
          have e35 : T35.heap = T35.heap := rfl
          have f35_1 := A22.keep K35
          have f35_2 := F22.keep K35 nin0
          have f35_3 := G22.keep K35 nin0
          have O35 := O22.keep K35 all0
          have Z35 := Nat.le_trans Z22 K35.1
          refine own_go (fun _ k => XS.astore X35.here hx rfl (hb hby at_148) rfl rfl (l' := #[.val (.int p0), .val (.long p1), .second, .val (.int p2), .val (.long p3), .second, .val (.int p4), .val (.int b2), .val (.long n2), .second, .val (.ref ax), .val (.int ((XT.ushr p4 (2 : Int32)) &&& (3 : Int32))), .val (.ref r35), .unset]) rfl k) ?_
          show own_E _ _ _ _ _ _ _ (T35.setTop (mkF m 150 #[.val (.int p0), .val (.long p1), .second, .val (.int p2), .val (.long p3), .second, .val (.int p4), .val (.int b2), .val (.long n2), .second, .val (.ref ax), .val (.int ((XT.ushr p4 (2 : Int32)) &&& (3 : Int32))), .val (.ref r35), .unset] []))
          refine own_go (fun _ k => XS.goto X35.here hx rfl (pc0 := 150) (pc' := 159) rfl (hb hby at_150) (by decide) (by decide) k) ?_
          show own_E _ _ _ _ _ _ _ (T35.setTop (mkF m 159 #[.val (.int p0), .val (.long p1), .second, .val (.int p2), .val (.long p3), .second, .val (.int p4), .val (.int b2), .val (.long n2), .second, .val (.ref ax), .val (.int ((XT.ushr p4 (2 : Int32)) &&& (3 : Int32))), .val (.ref r35), .unset] []))
          refine own_go (fun _ k => XS.aload X35.here hx rfl (hb hby at_159) rfl rfl k) ?_
          show own_E _ _ _ _ _ _ _ (T35.setTop (mkF m 161 #[.val (.int p0), .val (.long p1), .second, .val (.int p2), .val (.long p3), .second, .val (.int p4), .val (.int b2), .val (.long n2), .second, .val (.ref ax), .val (.int ((XT.ushr p4 (2 : Int32)) &&& (3 : Int32))), .val (.ref r35), .unset] [(.ref ax)]))
          refine own_go (fun _ k => XS.aload X35.here hx rfl (hb hby at_161) rfl rfl k) ?_
          show own_E _ _ _ _ _ _ _ (T35.setTop (mkF m 163 #[.val (.int p0), .val (.long p1), .second, .val (.int p2), .val (.long p3), .second, .val (.int p4), .val (.int b2), .val (.long n2), .second, .val (.ref ax), .val (.int ((XT.ushr p4 (2 : Int32)) &&& (3 : Int32))), .val (.ref r35), .unset] [(.ref r35), (.ref ax)]))
          obtain ⟨v36, T36, L36, X36, hQ36, st36⟩ := own_callV X35 hx hZ (rm := ({ frames := 0, cells := 0, slots := 0, locals := 0 } : Room)) (W := 0) (b := ax) (argsL := [(.ref r35)]) (rest := []) (y := (⟨"com/example/vestnik/vestnik/model/MessageId", "equals", "(Ljava/lang/Object;)Z"⟩ : MethodName)) hown (hw _ (List.mem_of_getElem? (i := 13) rfl)) (hw _ (List.mem_of_getElem? (i := 14) rfl)) (hw _ (List.mem_of_getElem? (i := 16) rfl)) (hw _ (List.mem_of_getElem? (i := 15) rfl)) (hw _ (List.mem_of_getElem? (i := 17) rfl)) (hw _ (List.mem_of_getElem? (i := 2) rfl)) (by decide) (rmEO l Z a0 hw ax r35 "java/lang/Integer" T35.heap n0 Z35 A35 (own_no (hw _ (List.mem_of_getElem? (i := 27) rfl)) (hw _ (List.mem_of_getElem? (i := 28) rfl)) (hw _ (List.mem_of_getElem? (i := 29) rfl)) (hw _ (List.mem_of_getElem? (i := 1) rfl)) (by decide) (by decide) (by decide))) e35 f35_1 (by decide) (by decide) (by decide) (by decide) (g := (mkF m 163 #[.val (.int p0), .val (.long p1), .second, .val (.int p2), .val (.long p3), .second, .val (.int p4), .val (.int b2), .val (.long n2), .second, .val (.ref ax), .val (.int ((XT.ushr p4 (2 : Int32)) &&& (3 : Int32))), .val (.ref r35), .unset] [(.ref r35), (.ref ax)])) rfl (by rw [hml]; rfl) (lenOf pd_4 rfl) rfl (Nat.le_of_ble_eq_true rfl) (hb hby at_163)
          obtain ⟨rfl, N36, e36⟩ := hQ36
          refine own_go st36 ?_
          show own_E _ _ _ _ _ _ _ (T36.setTop (mkF m 166 #[.val (.int p0), .val (.long p1), .second, .val (.int p2), .val (.long p3), .second, .val (.int p4), .val (.int b2), .val (.long n2), .second, .val (.ref ax), .val (.int ((XT.ushr p4 (2 : Int32)) &&& (3 : Int32))), .val (.ref r35), .unset] [(.int (0 : Int32))]))
          have M36 := Fr.app M35 N36
          have e36_ := e36
          refine own_go (fun _ k => XS.ifNo X36.here hx rfl (hb hby at_166) rfl (by decide) k) ?_
          show own_E _ _ _ _ _ _ _ (T36.setTop (mkF m 169 #[.val (.int p0), .val (.long p1), .second, .val (.int p2), .val (.long p3), .second, .val (.int p4), .val (.int b2), .val (.long n2), .second, .val (.ref ax), .val (.int ((XT.ushr p4 (2 : Int32)) &&& (3 : Int32))), .val (.ref r35), .unset] []))
          refine own_go (fun _ k => XT.iconstV X36.here hx rfl (1 : Int32) (hb hby at_169) (by decide) k) ?_
          show own_E _ _ _ _ _ _ _ (T36.setTop (mkF m 170 #[.val (.int p0), .val (.long p1), .second, .val (.int p2), .val (.long p3), .second, .val (.int p4), .val (.int b2), .val (.long n2), .second, .val (.ref ax), .val (.int ((XT.ushr p4 (2 : Int32)) &&& (3 : Int32))), .val (.ref r35), .unset] [(.int (1 : Int32))]))
          refine own_go (fun _ k => XS.goto X36.here hx rfl (pc0 := 170) (pc' := 174) rfl (hb hby at_170) (by decide) (by decide) k) ?_
          show own_E _ _ _ _ _ _ _ (T36.setTop (mkF m 174 #[.val (.int p0), .val (.long p1), .second, .val (.int p2), .val (.long p3), .second, .val (.int p4), .val (.int b2), .val (.long n2), .second, .val (.ref ax), .val (.int ((XT.ushr p4 (2 : Int32)) &&& (3 : Int32))), .val (.ref r35), .unset] [(.int (1 : Int32))]))
          exact own_ret X36 hx Bd.returns Bd.notSynchronized rfl (Or.inl ⟨rfl, by simp, _, rfl⟩) (hb hby at_174) (by rw [e36]; exact ⟨rfl, M36⟩) (by decide) (by decide)
        ·
          refine own_go (fun _ k => XS.icmpYes X22.here hx rfl (pc0 := 141) (pc' := 153) rfl (hb hby at_141) rfl (feq k2).2 (by decide) (by decide) k) ?_
          show own_E _ _ _ _ _ _ _ (T22.setTop (mkF m 153 #[.val (.int p0), .val (.long p1), .second, .val (.int p2), .val (.long p3), .second, .val (.int p4), .val (.int b2), .val (.long n2), .second, .val (.ref ax), .val (.int ((XT.ushr p4 (2 : Int32)) &&& (3 : Int32))), .unset, .unset] []))
          refine own_go (fun _ k => XT.lloadN X22.here hx rfl (hb hby at_153) rfl k) ?_
          show own_E _ _ _ _ _ _ _ (T22.setTop (mkF m 154 #[.val (.int p0), .val (.long p1), .second, .val (.int p2), .val (.long p3), .second, .val (.int p4), .val (.int b2), .val (.long n2), .second, .val (.ref ax), .val (.int ((XT.ushr p4 (2 : Int32)) &&& (3 : Int32))), .unset, .unset] [(.long p1)]))
          obtain ⟨v37, T37, L37, X37, hQ37, st37⟩ := own_callS X22 hx hZ (rm := ({ frames := 3, cells := 1, slots := 1, locals := 40 } : Room)) (W := 0) (argsL := [(.long p1)]) (rest := []) (y := (⟨"java/lang/Long", "valueOf", "(J)Ljava/lang/Long;"⟩ : MethodName)) hown (hw _ (List.mem_of_getElem? (i := 30) rfl)) (hw _ (List.mem_of_getElem? (i := 31) rfl)) (hw _ (List.mem_of_getElem? (i := 32) rfl)) (hw _ (List.mem_of_getElem? (i := 33) rfl)) (by decide) (rm5 l Z a0 hw p1 ar cl T22.heap n0 Z22 O22 SL BL) e22 (by decide) (by decide) (by decide) (by decide) (g := (mkF m 154 #[.val (.int p0), .val (.long p1), .second, .val (.int p2), .val (.long p3), .second, .val (.int p4), .val (.int b2), .val (.long n2), .second, .val (.ref ax), .val (.int ((XT.ushr p4 (2 : Int32)) &&& (3 : Int32))), .unset, .unset] [(.long p1)])) rfl (by rw [hml]; rfl) (lenOf pd_6 rfl) rfl (Nat.le_of_ble_eq_true rfl) (hb hby at_154)
          obtain ⟨N37, K37, r37, rfl, A37⟩ := hQ37
          refine own_go st37 ?_
          show own_E _ _ _ _ _ _ _ (T37.setTop (mkF m 157 #[.val (.int p0), .val (.long p1), .second, .val (.int p2), .val (.long p3), .second, .val (.int p4), .val (.int b2), .val (.long n2), .second, .val (.ref ax), .val (.int ((XT.ushr p4 (2 : Int32)) &&& (3 : Int32))), .unset, .unset] [(.ref r37)]))
          have M37 := Fr.app M22 N37
          have e37 : T37.heap = T37.heap := rfl
          have f37_1 := A22.keep K37
          have f37_2 := F22.keep K37 nin0
          have f37_3 := G22.keep K37 nin0
          have O37 := O22.keep K37 all0
          have Z37 := Nat.le_trans Z22 K37.1
          refine own_go (fun _ k => XS.astore X37.here hx rfl (hb hby at_157) rfl rfl (l' := #[.val (.int p0), .val (.long p1), .second, .val (.int p2), .val (.long p3), .second, .val (.int p4), .val (.int b2), .val (.long n2), .second, .val (.ref ax), .val (.int ((XT.ushr p4 (2 : Int32)) &&& (3 : Int32))), .val (.ref r37), .unset]) rfl k) ?_
          show own_E _ _ _ _ _ _ _ (T37.setTop (mkF m 159 #[.val (.int p0), .val (.long p1), .second, .val (.int p2), .val (.long p3), .second, .val (.int p4), .val (.int b2), .val (.long n2), .second, .val (.ref ax), .val (.int ((XT.ushr p4 (2 : Int32)) &&& (3 : Int32))), .val (.ref r37), .unset] []))
          refine own_go (fun _ k => XS.aload X37.here hx rfl (hb hby at_159) rfl rfl k) ?_
          show own_E _ _ _ _ _ _ _ (T37.setTop (mkF m 161 #[.val (.int p0), .val (.long p1), .second, .val (.int p2), .val (.long p3), .second, .val (.int p4), .val (.int b2), .val (.long n2), .second, .val (.ref ax), .val (.int ((XT.ushr p4 (2 : Int32)) &&& (3 : Int32))), .val (.ref r37), .unset] [(.ref ax)]))
          refine own_go (fun _ k => XS.aload X37.here hx rfl (hb hby at_161) rfl rfl k) ?_
          show own_E _ _ _ _ _ _ _ (T37.setTop (mkF m 163 #[.val (.int p0), .val (.long p1), .second, .val (.int p2), .val (.long p3), .second, .val (.int p4), .val (.int b2), .val (.long n2), .second, .val (.ref ax), .val (.int ((XT.ushr p4 (2 : Int32)) &&& (3 : Int32))), .val (.ref r37), .unset] [(.ref r37), (.ref ax)]))
          obtain ⟨v38, T38, L38, X38, hQ38, st38⟩ := own_callV X37 hx hZ (rm := ({ frames := 0, cells := 0, slots := 0, locals := 0 } : Room)) (W := 0) (b := ax) (argsL := [(.ref r37)]) (rest := []) (y := (⟨"com/example/vestnik/vestnik/model/MessageId", "equals", "(Ljava/lang/Object;)Z"⟩ : MethodName)) hown (hw _ (List.mem_of_getElem? (i := 13) rfl)) (hw _ (List.mem_of_getElem? (i := 14) rfl)) (hw _ (List.mem_of_getElem? (i := 16) rfl)) (hw _ (List.mem_of_getElem? (i := 15) rfl)) (hw _ (List.mem_of_getElem? (i := 17) rfl)) (hw _ (List.mem_of_getElem? (i := 2) rfl)) (by decide) (rmEO l Z a0 hw ax r37 "java/lang/Long" T37.heap n0 Z37 A37 (own_no (hw _ (List.mem_of_getElem? (i := 51) rfl)) (hw _ (List.mem_of_getElem? (i := 28) rfl)) (hw _ (List.mem_of_getElem? (i := 29) rfl)) (hw _ (List.mem_of_getElem? (i := 1) rfl)) (by decide) (by decide) (by decide))) e37 f37_1 (by decide) (by decide) (by decide) (by decide) (g := (mkF m 163 #[.val (.int p0), .val (.long p1), .second, .val (.int p2), .val (.long p3), .second, .val (.int p4), .val (.int b2), .val (.long n2), .second, .val (.ref ax), .val (.int ((XT.ushr p4 (2 : Int32)) &&& (3 : Int32))), .val (.ref r37), .unset] [(.ref r37), (.ref ax)])) rfl (by rw [hml]; rfl) (lenOf pd_4 rfl) rfl (Nat.le_of_ble_eq_true rfl) (hb hby at_163)
          obtain ⟨rfl, N38, e38⟩ := hQ38
          refine own_go st38 ?_
          show own_E _ _ _ _ _ _ _ (T38.setTop (mkF m 166 #[.val (.int p0), .val (.long p1), .second, .val (.int p2), .val (.long p3), .second, .val (.int p4), .val (.int b2), .val (.long n2), .second, .val (.ref ax), .val (.int ((XT.ushr p4 (2 : Int32)) &&& (3 : Int32))), .val (.ref r37), .unset] [(.int (0 : Int32))]))
          have M38 := Fr.app M37 N38
          have e38_ := e38
          refine own_go (fun _ k => XS.ifNo X38.here hx rfl (hb hby at_166) rfl (by decide) k) ?_
          show own_E _ _ _ _ _ _ _ (T38.setTop (mkF m 169 #[.val (.int p0), .val (.long p1), .second, .val (.int p2), .val (.long p3), .second, .val (.int p4), .val (.int b2), .val (.long n2), .second, .val (.ref ax), .val (.int ((XT.ushr p4 (2 : Int32)) &&& (3 : Int32))), .val (.ref r37), .unset] []))
          refine own_go (fun _ k => XT.iconstV X38.here hx rfl (1 : Int32) (hb hby at_169) (by decide) k) ?_
          show own_E _ _ _ _ _ _ _ (T38.setTop (mkF m 170 #[.val (.int p0), .val (.long p1), .second, .val (.int p2), .val (.long p3), .second, .val (.int p4), .val (.int b2), .val (.long n2), .second, .val (.ref ax), .val (.int ((XT.ushr p4 (2 : Int32)) &&& (3 : Int32))), .val (.ref r37), .unset] [(.int (1 : Int32))]))
          refine own_go (fun _ k => XS.goto X38.here hx rfl (pc0 := 170) (pc' := 174) rfl (hb hby at_170) (by decide) (by decide) k) ?_
          show own_E _ _ _ _ _ _ _ (T38.setTop (mkF m 174 #[.val (.int p0), .val (.long p1), .second, .val (.int p2), .val (.long p3), .second, .val (.int p4), .val (.int b2), .val (.long n2), .second, .val (.ref ax), .val (.int ((XT.ushr p4 (2 : Int32)) &&& (3 : Int32))), .val (.ref r37), .unset] [(.int (1 : Int32))]))
          exact own_ret X38 hx Bd.returns Bd.notSynchronized rfl (Or.inl ⟨rfl, by simp, _, rfl⟩) (hb hby at_174) (by rw [e38]; exact ⟨rfl, M38⟩) (by decide) (by decide)
  refine own_go (fun _ k => XS.iload X0.here hx rfl (hb hby at_0) rfl k) ?_
  show own_E _ _ _ _ _ _ _ (s₁.setTop (mkF m 2 #[.val (.int p0), .val (.long p1), .second, .val (.int p2), .val (.long p3), .second, .val (.int p4), .unset, .unset, .unset, .unset, .unset, .unset, .unset] [(.int p4)]))
  refine own_go (fun _ k => XT.iconstV X0.here hx rfl (1 : Int32) (hb hby at_2) (by decide) k) ?_
  show own_E _ _ _ _ _ _ _ (s₁.setTop (mkF m 3 #[.val (.int p0), .val (.long p1), .second, .val (.int p2), .val (.long p3), .second, .val (.int p4), .unset, .unset, .unset, .unset, .unset, .unset, .unset] [(.int (1 : Int32)), (.int p4)]))
  refine own_go (fun _ k => XS.iand X0.here hx rfl (hb hby at_3) rfl k) ?_
  show own_E _ _ _ _ _ _ _ (s₁.setTop (mkF m 4 #[.val (.int p0), .val (.long p1), .second, .val (.int p2), .val (.long p3), .second, .val (.int p4), .unset, .unset, .unset, .unset, .unset, .unset, .unset] [(.int (p4 &&& (1 : Int32)))]))
  by_cases s1 : (p4 &&& (1 : Int32)) = 0
  ·
    refine own_go (fun _ k => XS.ifYes X0.here hx rfl (pc0 := 4) (pc' := 11) rfl (hb hby at_4) rfl (XT.i0_eq_t s1) (by decide) (by decide) k) ?_
    show own_E _ _ _ _ _ _ _ (s₁.setTop (mkF m 11 #[.val (.int p0), .val (.long p1), .second, .val (.int p2), .val (.long p3), .second, .val (.int p4), .unset, .unset, .unset, .unset, .unset, .unset, .unset] []))
    refine own_go (fun _ k => XS.iloadN X0.here hx rfl (hb hby at_11) rfl k) ?_
    show own_E _ _ _ _ _ _ _ (s₁.setTop (mkF m 12 #[.val (.int p0), .val (.long p1), .second, .val (.int p2), .val (.long p3), .second, .val (.int p4), .unset, .unset, .unset, .unset, .unset, .unset, .unset] [(.int p2)]))
    refine own_go (fun _ k => XS.istore X0.here hx rfl (hb hby at_12) rfl (l' := #[.val (.int p0), .val (.long p1), .second, .val (.int p2), .val (.long p3), .second, .val (.int p4), .val (.int p2), .unset, .unset, .unset, .unset, .unset, .unset]) rfl k) ?_
    show own_E _ _ _ _ _ _ _ (s₁.setTop (mkF m 14 #[.val (.int p0), .val (.long p1), .second, .val (.int p2), .val (.long p3), .second, .val (.int p4), .val (.int p2), .unset, .unset, .unset, .unset, .unset, .unset] []))
    refine own_go (fun _ k => XS.iload X0.here hx rfl (hb hby at_14) rfl k) ?_
    show own_E _ _ _ _ _ _ _ (s₁.setTop (mkF m 16 #[.val (.int p0), .val (.long p1), .second, .val (.int p2), .val (.long p3), .second, .val (.int p4), .val (.int p2), .unset, .unset, .unset, .unset, .unset, .unset] [(.int p4)]))
    refine own_go (fun _ k => XT.iconstV X0.here hx rfl (2 : Int32) (hb hby at_16) (by decide) k) ?_
    show own_E _ _ _ _ _ _ _ (s₁.setTop (mkF m 17 #[.val (.int p0), .val (.long p1), .second, .val (.int p2), .val (.long p3), .second, .val (.int p4), .val (.int p2), .unset, .unset, .unset, .unset, .unset, .unset] [(.int (2 : Int32)), (.int p4)]))
    refine own_go (fun _ k => XS.iand X0.here hx rfl (hb hby at_17) rfl k) ?_
    show own_E _ _ _ _ _ _ _ (s₁.setTop (mkF m 18 #[.val (.int p0), .val (.long p1), .second, .val (.int p2), .val (.long p3), .second, .val (.int p4), .val (.int p2), .unset, .unset, .unset, .unset, .unset, .unset] [(.int (p4 &&& (2 : Int32)))]))
    by_cases s2 : (p4 &&& (2 : Int32)) = 0
    ·
      refine own_go (fun _ k => XS.ifYes X0.here hx rfl (pc0 := 18) (pc' := 25) rfl (hb hby at_18) rfl (XT.i0_eq_t s2) (by decide) (by decide) k) ?_
      show own_E _ _ _ _ _ _ _ (s₁.setTop (mkF m 25 #[.val (.int p0), .val (.long p1), .second, .val (.int p2), .val (.long p3), .second, .val (.int p4), .val (.int p2), .unset, .unset, .unset, .unset, .unset, .unset] []))
      refine own_go (fun _ k => XT.lload X0.here hx rfl (hb hby at_25) rfl k) ?_
      show own_E _ _ _ _ _ _ _ (s₁.setTop (mkF m 27 #[.val (.int p0), .val (.long p1), .second, .val (.int p2), .val (.long p3), .second, .val (.int p4), .val (.int p2), .unset, .unset, .unset, .unset, .unset, .unset] [(.long p3)]))
      refine own_go (fun _ k => XT.lstore X0.here hx rfl (hb hby at_27) rfl (l' := #[.val (.int p0), .val (.long p1), .second, .val (.int p2), .val (.long p3), .second, .val (.int p4), .val (.int p2), .val (.long p3), .second, .unset, .unset, .unset, .unset]) rfl k) ?_
      show own_E _ _ _ _ _ _ _ (s₁.setTop (mkF m 29 #[.val (.int p0), .val (.long p1), .second, .val (.int p2), .val (.long p3), .second, .val (.int p4), .val (.int p2), .val (.long p3), .second, .unset, .unset, .unset, .unset] []))
      exact rest _ _
    ·
      refine own_go (fun _ k => XS.ifNo X0.here hx rfl (hb hby at_18) rfl (XT.i0_eq_f s2) k) ?_
      show own_E _ _ _ _ _ _ _ (s₁.setTop (mkF m 21 #[.val (.int p0), .val (.long p1), .second, .val (.int p2), .val (.long p3), .second, .val (.int p4), .val (.int p2), .unset, .unset, .unset, .unset, .unset, .unset] []))
      refine own_go (fun _ k => XT.lloadN X0.here hx rfl (hb hby at_21) rfl k) ?_
      show own_E _ _ _ _ _ _ _ (s₁.setTop (mkF m 22 #[.val (.int p0), .val (.long p1), .second, .val (.int p2), .val (.long p3), .second, .val (.int p4), .val (.int p2), .unset, .unset, .unset, .unset, .unset, .unset] [(.long p1)]))
      refine own_go (fun _ k => XS.goto X0.here hx rfl (pc0 := 22) (pc' := 27) rfl (hb hby at_22) (by decide) (by decide) k) ?_
      show own_E _ _ _ _ _ _ _ (s₁.setTop (mkF m 27 #[.val (.int p0), .val (.long p1), .second, .val (.int p2), .val (.long p3), .second, .val (.int p4), .val (.int p2), .unset, .unset, .unset, .unset, .unset, .unset] [(.long p1)]))
      refine own_go (fun _ k => XT.lstore X0.here hx rfl (hb hby at_27) rfl (l' := #[.val (.int p0), .val (.long p1), .second, .val (.int p2), .val (.long p3), .second, .val (.int p4), .val (.int p2), .val (.long p1), .second, .unset, .unset, .unset, .unset]) rfl k) ?_
      show own_E _ _ _ _ _ _ _ (s₁.setTop (mkF m 29 #[.val (.int p0), .val (.long p1), .second, .val (.int p2), .val (.long p3), .second, .val (.int p4), .val (.int p2), .val (.long p1), .second, .unset, .unset, .unset, .unset] []))
      exact rest _ _
  ·
    refine own_go (fun _ k => XS.ifNo X0.here hx rfl (hb hby at_4) rfl (XT.i0_eq_f s1) k) ?_
    show own_E _ _ _ _ _ _ _ (s₁.setTop (mkF m 7 #[.val (.int p0), .val (.long p1), .second, .val (.int p2), .val (.long p3), .second, .val (.int p4), .unset, .unset, .unset, .unset, .unset, .unset, .unset] []))
    refine own_go (fun _ k => XS.iloadN X0.here hx rfl (hb hby at_7) rfl k) ?_
    show own_E _ _ _ _ _ _ _ (s₁.setTop (mkF m 8 #[.val (.int p0), .val (.long p1), .second, .val (.int p2), .val (.long p3), .second, .val (.int p4), .unset, .unset, .unset, .unset, .unset, .unset, .unset] [(.int p0)]))
    refine own_go (fun _ k => XS.goto X0.here hx rfl (pc0 := 8) (pc' := 12) rfl (hb hby at_8) (by decide) (by decide) k) ?_
    show own_E _ _ _ _ _ _ _ (s₁.setTop (mkF m 12 #[.val (.int p0), .val (.long p1), .second, .val (.int p2), .val (.long p3), .second, .val (.int p4), .unset, .unset, .unset, .unset, .unset, .unset, .unset] [(.int p0)]))
    refine own_go (fun _ k => XS.istore X0.here hx rfl (hb hby at_12) rfl (l' := #[.val (.int p0), .val (.long p1), .second, .val (.int p2), .val (.long p3), .second, .val (.int p4), .val (.int p0), .unset, .unset, .unset, .unset, .unset, .unset]) rfl k) ?_
    show own_E _ _ _ _ _ _ _ (s₁.setTop (mkF m 14 #[.val (.int p0), .val (.long p1), .second, .val (.int p2), .val (.long p3), .second, .val (.int p4), .val (.int p0), .unset, .unset, .unset, .unset, .unset, .unset] []))
    refine own_go (fun _ k => XS.iload X0.here hx rfl (hb hby at_14) rfl k) ?_
    show own_E _ _ _ _ _ _ _ (s₁.setTop (mkF m 16 #[.val (.int p0), .val (.long p1), .second, .val (.int p2), .val (.long p3), .second, .val (.int p4), .val (.int p0), .unset, .unset, .unset, .unset, .unset, .unset] [(.int p4)]))
    refine own_go (fun _ k => XT.iconstV X0.here hx rfl (2 : Int32) (hb hby at_16) (by decide) k) ?_
    show own_E _ _ _ _ _ _ _ (s₁.setTop (mkF m 17 #[.val (.int p0), .val (.long p1), .second, .val (.int p2), .val (.long p3), .second, .val (.int p4), .val (.int p0), .unset, .unset, .unset, .unset, .unset, .unset] [(.int (2 : Int32)), (.int p4)]))
    refine own_go (fun _ k => XS.iand X0.here hx rfl (hb hby at_17) rfl k) ?_
    show own_E _ _ _ _ _ _ _ (s₁.setTop (mkF m 18 #[.val (.int p0), .val (.long p1), .second, .val (.int p2), .val (.long p3), .second, .val (.int p4), .val (.int p0), .unset, .unset, .unset, .unset, .unset, .unset] [(.int (p4 &&& (2 : Int32)))]))
    by_cases s2 : (p4 &&& (2 : Int32)) = 0
    ·
      refine own_go (fun _ k => XS.ifYes X0.here hx rfl (pc0 := 18) (pc' := 25) rfl (hb hby at_18) rfl (XT.i0_eq_t s2) (by decide) (by decide) k) ?_
      show own_E _ _ _ _ _ _ _ (s₁.setTop (mkF m 25 #[.val (.int p0), .val (.long p1), .second, .val (.int p2), .val (.long p3), .second, .val (.int p4), .val (.int p0), .unset, .unset, .unset, .unset, .unset, .unset] []))
      refine own_go (fun _ k => XT.lload X0.here hx rfl (hb hby at_25) rfl k) ?_
      show own_E _ _ _ _ _ _ _ (s₁.setTop (mkF m 27 #[.val (.int p0), .val (.long p1), .second, .val (.int p2), .val (.long p3), .second, .val (.int p4), .val (.int p0), .unset, .unset, .unset, .unset, .unset, .unset] [(.long p3)]))
      refine own_go (fun _ k => XT.lstore X0.here hx rfl (hb hby at_27) rfl (l' := #[.val (.int p0), .val (.long p1), .second, .val (.int p2), .val (.long p3), .second, .val (.int p4), .val (.int p0), .val (.long p3), .second, .unset, .unset, .unset, .unset]) rfl k) ?_
      show own_E _ _ _ _ _ _ _ (s₁.setTop (mkF m 29 #[.val (.int p0), .val (.long p1), .second, .val (.int p2), .val (.long p3), .second, .val (.int p4), .val (.int p0), .val (.long p3), .second, .unset, .unset, .unset, .unset] []))
      exact rest _ _
    ·
      refine own_go (fun _ k => XS.ifNo X0.here hx rfl (hb hby at_18) rfl (XT.i0_eq_f s2) k) ?_
      show own_E _ _ _ _ _ _ _ (s₁.setTop (mkF m 21 #[.val (.int p0), .val (.long p1), .second, .val (.int p2), .val (.long p3), .second, .val (.int p4), .val (.int p0), .unset, .unset, .unset, .unset, .unset, .unset] []))
      refine own_go (fun _ k => XT.lloadN X0.here hx rfl (hb hby at_21) rfl k) ?_
      show own_E _ _ _ _ _ _ _ (s₁.setTop (mkF m 22 #[.val (.int p0), .val (.long p1), .second, .val (.int p2), .val (.long p3), .second, .val (.int p4), .val (.int p0), .unset, .unset, .unset, .unset, .unset, .unset] [(.long p1)]))
      refine own_go (fun _ k => XS.goto X0.here hx rfl (pc0 := 22) (pc' := 27) rfl (hb hby at_22) (by decide) (by decide) k) ?_
      show own_E _ _ _ _ _ _ _ (s₁.setTop (mkF m 27 #[.val (.int p0), .val (.long p1), .second, .val (.int p2), .val (.long p3), .second, .val (.int p4), .val (.int p0), .unset, .unset, .unset, .unset, .unset, .unset] [(.long p1)]))
      refine own_go (fun _ k => XT.lstore X0.here hx rfl (hb hby at_27) rfl (l' := #[.val (.int p0), .val (.long p1), .second, .val (.int p2), .val (.long p3), .second, .val (.int p4), .val (.int p0), .val (.long p1), .second, .unset, .unset, .unset, .unset]) rfl k) ?_
      show own_E _ _ _ _ _ _ _ (s₁.setTop (mkF m 29 #[.val (.int p0), .val (.long p1), .second, .val (.int p2), .val (.long p3), .second, .val (.int p4), .val (.int p0), .val (.long p1), .second, .unset, .unset, .unset, .unset] []))
      exact rest _ _
set_option maxRecDepth 65536 in
set_option maxHeartbeats 40000000 in
theorem comes_1 {Post : Tables → Env → Array Value → State → Outcome → State → Prop} (hpost : ∀ tb e args s v u, (limb_1_1.after args s (.returned v) u = true ∧ limb_1_2.after args s (.returned v) u = true ∧ True) → FrameEnd s (.returned v) u (Jvm.fieldLocs frame_1_writes args s ++ Jvm.arrayLocs frame_1_arrays args s ++ Jvm.staticLocs frame_1_statics s) 16 128 → Post tb e args s (.returned v) u) :
    ArmFor flags0 classFile x code maxLocals ret World_1 tables_1 room_1 Calls_1 rest_1 Pre_1 Post := by
  intro l hfl _ _ p e ha hc hk s m args below hf hA hF happ hP
  obtain ⟨hcalls, hrest, hpre⟩ := hP
  obtain ⟨-, -, -, hnamed, -, -, -, hat⟩ := (Spec.applies_iff hf).mp happ
  obtain ⟨hg, hn⟩ := and_e (Cond.before_iff.mp (show (Jvm.Cond.and given_1 narrow_1).before args s = true from hpre))
  obtain ⟨hcount, hg⟩ := and_e hg
  obtain ⟨w0, w1, w2, w3, w4, rfl⟩ : ∃ w0 w1 w2 w3 w4 : Value, args = #[w0, w1, w2, w3, w4] := by
    have hs : args.size = 5 := by simpa [Cond.value, given_1] using hcount
    obtain ⟨L⟩ := args
    match L, hs with
    | [w0, w1, w2, w3, w4], _ => exact ⟨w0, w1, w2, w3, w4, rfl⟩
  have hw := fun d (hd : d ∈ tables_1) => atoms_spec (ws := Jvm.Cond.code x code maxLocals ret :: tables_1) hat d (List.mem_cons_of_mem _ hd)
  have hfit : Fit s := fun {y c} hc i hi => by
    obtain ⟨ha, rfl⟩ := Array.getElem?_eq_some_iff.mp hc
    have q := List.all_eq_true.mp ((Array.all_eq_true_iff_forall_mem.mp hF) _ (Array.getElem_mem ha)) i (List.mem_range.mpr hi)
    simpa [Array.getElem?_eq_getElem hi] using q
  obtain ⟨hg0, hg⟩ := and_e hg
  obtain ⟨i0, q0⟩ := is_v hg0
  obtain rfl : w0 = (.int i0) := Option.some.inj q0
  obtain ⟨hg1, hg⟩ := and_e hg
  obtain ⟨i1, q1⟩ := isL_v hg1
  obtain rfl : w1 = (.long i1) := Option.some.inj q1
  obtain ⟨hg2, hg⟩ := and_e hg
  obtain ⟨i2, q2⟩ := is_v hg2
  obtain rfl : w2 = (.int i2) := Option.some.inj q2
  obtain ⟨hg3, hg⟩ := and_e hg
  obtain ⟨i3, q3⟩ := isL_v hg3
  obtain rfl : w3 = (.long i3) := Option.some.inj q3
  have hg4 := hg
  obtain ⟨i4, q4⟩ := is_v hg4
  obtain rfl : w4 = (.int i4) := Option.some.inj q4
  obtain ⟨hsets, -⟩ := atoms_of jdkStatics_1 (show (jdkStatics_1.foldr Jvm.Cond.and restOwn_1).before _ s = true from hrest)
  obtain ⟨ai, ev_ai⟩ := arr_v (Cond.before_iff.mp (hsets _ (List.mem_of_getElem? (i := 4) rfl)))
  have S_ai := Sta.start ev_ai (Or.inr ⟨(hw _ (List.mem_of_getElem? (i := 25) rfl)), (hsets _ (List.mem_of_getElem? (i := 2) rfl))⟩)
  obtain ⟨ci, A_ai⟩ := Arr.start ev_ai (Cond.before_iff.mp (hsets _ (List.mem_of_getElem? (i := 4) rfl)))
  have N_ai := own_lenS ev_ai A_ai.1 (Cond.before_iff.mp (hsets _ (List.mem_of_getElem? (i := 6) rfl)))
  have B_ai : Bxs s ai ci "java/lang/Integer" "I" (256 : Int32) own_valI := Bxs.start (fun _ => ev_ai) A_ai N_ai.1 N_ai.2 (by decide) (Cond.before_iff.mp (hsets _ (List.mem_of_getElem? (i := 7) rfl))) (fun X j hj h => eqv_i (own_sub (idx_at hj) (Term.int_eval 128)) h)
  obtain ⟨ar, ev_ar⟩ := arr_v (Cond.before_iff.mp (hsets _ (List.mem_of_getElem? (i := 10) rfl)))
  have S_ar := Sta.start ev_ar (Or.inl (hsets _ (List.mem_of_getElem? (i := 9) rfl)))
  obtain ⟨cl, A_ar⟩ := Arr.start ev_ar (Cond.before_iff.mp (hsets _ (List.mem_of_getElem? (i := 10) rfl)))
  have N_ar := own_lenS ev_ar A_ar.1 (Cond.before_iff.mp (hsets _ (List.mem_of_getElem? (i := 12) rfl)))
  have B_ar : Bxs s ar cl "java/lang/Long" "J" (256 : Int32) own_valJ := Bxs.start (fun _ => ev_ar) A_ar N_ar.1 N_ar.2 (by decide) (Cond.before_iff.mp (hsets _ (List.mem_of_getElem? (i := 13) rfl))) (fun X j hj h => eqv_l (i2l_at (own_sub (idx_at hj) (Term.int_eval 128))) h)
  have SH := Sta.start (eqv_i (Term.int_eval 127) (Cond.before_iff.mp (hsets _ (List.mem_of_getElem? (i := 3) rfl)))) (Or.inl (hsets _ (List.mem_of_getElem? (i := 1) rfl)))
  obtain ⟨n, o, h1, h2, h3, _, L, rfl, ⟨rfl, N⟩, hq⟩ := rm0 l s _ hw tables_1 i0 i1 i2 i3 i4 ar cl ai ci s.heap s.heap.size (Nat.le_refl _) (Old.start s) S_ar B_ar S_ai B_ai SH p e ha hc hk s m _ below hf ((Spec.applies_iff_loose hf).mp happ).1 ⟨rfl, State.Warmed39.refl s, rfl⟩ trivial
  refine ⟨n, _, h1, h2, h3, hpost _ _ _ _ _ _ ⟨Cond.after_iff.mpr rfl, Cond.after_iff.mpr (eq_i res_at (Term.int_eval (1)) rfl), trivial⟩ ⟨hq.1, hq.2.1, (hq.2.2.sift fun y hy => Or.inr (N y hy)).mono (by decide) (by decide)⟩⟩
theorem main_1_1 : Claimed_1_1 := comes_1 fun _ _ _ _ _ _ h hF => ⟨h.1, hF⟩
theorem main_1_2 : Claimed_1_2 := comes_1 fun _ _ _ _ _ _ h hF => ⟨h.2.1, hF⟩
end Jvm.Pilot.@@N@@
namespace Jvm.Pilot.@@N@@
open Jvm Jvm.ClassFile Sem Op Lib Jvm.Free Jvm.Stand Jvm.Pilot.@@N@@.Jvm.D
/-! MADE BY PROGRAM (witnessworld.py) out of the Statement's table words and the real class files: 19 classes; the members and pool entries that the words name. The judged class is class 1, her method 1. -/
namespace start1
open Jvm.ClassFile
def u (s : String) : CpInfo := .utf8 (stringToUtf16 s)
/-- a pool by its gaps: so many unusable entries, then the entry; so many at the end -/
def gap : Nat → List CpInfo → List CpInfo
  | 0, r => r
  | n + 1, r => .unusable :: gap n r
def poolList (es : List (Nat × CpInfo)) (last : Nat) : List CpInfo := es.foldr (fun e r => gap e.1 (e.2 :: r)) (gap last [])
def pool (es : List (Nat × CpInfo)) (last : Nat) : Array CpInfo := ⟨poolList es last⟩
def fileOf (pool : Array CpInfo) (this : Nat) (attrs : Array Attribute := #[]) (ms : Array MethodInfo := #[]) (fl : Nat := 33) (sup : Nat := 0) (ifs : Array Nat := #[]) (fds : Array FieldInfo := #[]) : ClassFile where
  minorVersion := 0
  majorVersion := 65
  constantPool := pool
  accessFlags := fl
  thisClass := this
  superClass := sup
  interfaces := ifs
  fields := fds
  methods := ms
  attributes := attrs
def plain (name : String) (sup : Option ClassId) : Class where
  name := name
  kind := .ordinary
  loader := none
  accessFlags := 33
  super := sup
  interfaces := #[]
  cf := none
  fields := #[]
  methods := #[]
  instanceTypes := #[]
  staticTypes := #[]
  resolved := #[]
  callSites := []
  init := .initialized
  statics := none
  mirror := none

def pool0 : Array CpInfo := pool [(5, u "<init>"), (0, u "()V"), (1, .class_ 10), (1, u "java/lang/Object")] 113

def k0c0 : Code := { maxStack := 0, maxLocals := 1, code := object_method_1_code, exceptionTable := #[], attributes := #[] }
def k0m0 : Method := { name := "<init>", desc := "()V", sig := { parameters := [], returnType := none }, accessFlags := 1, code := some k0c0 }
/-- java/lang/Object -/
def k0 : Class := { plain "java/lang/Object" none with
  accessFlags := 33
  interfaces := #[]
  cf := some (fileOf pool0 8 #[] #[{ accessFlags := 1, nameIndex := 5, descriptorIndex := 6, attributes := #[] }] 33 0 #[] #[])
  fields := #[]
  methods := #[k0m0]
  instanceTypes := #[]
  staticTypes := #[]
  resolved := Array.replicate 124 none
  statics := none }

def pool1 : Array CpInfo := pool [(2, .class_ 4), (1, u "java/lang/Object"), (0, u "<init>"), (0, u "()V"), (0, .class_ 8), (0, u "com/example/vestnik/vestnik/model/MessageId"), (0, .methodref 7 10), (0, .nameAndType 5 11), (0, u "(IJ)V"), (0, .methodref 7 13), (0, .nameAndType 14 15), (0, u "equals"), (0, u "(Ljava/lang/Object;)Z"), (0, .methodref 17 18), (0, .class_ 19), (0, .nameAndType 20 21), (0, u "java/lang/Integer"), (0, u "valueOf"), (0, u "(I)Ljava/lang/Integer;"), (0, .methodref 23 24), (0, .class_ 25), (0, .nameAndType 20 26), (0, u "java/lang/Long"), (0, u "(J)Ljava/lang/Long;"), (0, .class_ 28), (0, u "com/example/vestnik/vestnik/model/MessageIdEqualsPinLaw"), (2, u "law"), (0, u "(IJIJI)Z")] 3

def k1m0 : Method := { name := "<init>", desc := "()V", sig := { parameters := [], returnType := none }, accessFlags := 1, code := none }
def k1c1 : Code := { maxStack := 5, maxLocals := 14, code := code, exceptionTable := #[], attributes := #[] }
def k1m1 : Method := { name := "law", desc := "(IJIJI)Z", sig := { parameters := [.int, .long, .int, .long, .int], returnType := some .boolean }, accessFlags := 9, code := some k1c1 }
/-- com/example/vestnik/vestnik/model/MessageIdEqualsPinLaw -/
def k1 : Class := { plain "com/example/vestnik/vestnik/model/MessageIdEqualsPinLaw" (some 0) with
  accessFlags := 49
  interfaces := #[]
  cf := some (fileOf pool1 27 #[] #[{ accessFlags := 1, nameIndex := 5, descriptorIndex := 6, attributes := #[] }, { accessFlags := 9, nameIndex := 31, descriptorIndex := 32, attributes := #[] }] 49 2 #[] #[])
  fields := #[]
  methods := #[k1m0, k1m1]
  instanceTypes := #[]
  staticTypes := #[]
  resolved := Array.replicate 36 none
  statics := none }

def pool2 : Array CpInfo := pool [(1, .methodref 2 3), (0, .class_ 4), (0, .nameAndType 5 6), (0, u "java/lang/Object"), (0, u "<init>"), (0, u "()V"), (0, .fieldref 8 9), (0, .class_ 10), (0, .nameAndType 11 12), (0, u "com/example/vestnik/vestnik/model/MessageId"), (0, u "broker"), (0, u "I"), (0, .fieldref 8 14), (0, .nameAndType 15 16), (0, u "sequence"), (0, u "J"), (10, u "(IJ)V"), (4, u "equals"), (0, u "(Ljava/lang/Object;)Z")] 20

def k2c0 : Code := { maxStack := 3, maxLocals := 4, code := prog_20_method_1_code, exceptionTable := #[], attributes := #[] }
def k2m0 : Method := { name := "<init>", desc := "(IJ)V", sig := { parameters := [.int, .long], returnType := none }, accessFlags := 1, code := some k2c0 }
def k2c1 : Code := { maxStack := 4, maxLocals := 3, code := prog_20_method_4_code, exceptionTable := #[], attributes := #[] }
def k2m1 : Method := { name := "equals", desc := "(Ljava/lang/Object;)Z", sig := { parameters := [(.object "java/lang/Object")], returnType := some .boolean }, accessFlags := 1, code := some k2c1 }
/-- com/example/vestnik/vestnik/model/MessageId -/
def k2 : Class := { plain "com/example/vestnik/vestnik/model/MessageId" (some 0) with
  accessFlags := 33
  interfaces := #[]
  cf := some (fileOf pool2 8 #[] #[{ accessFlags := 1, nameIndex := 5, descriptorIndex := 27, attributes := #[] }, { accessFlags := 1, nameIndex := 32, descriptorIndex := 33, attributes := #[] }] 33 2 #[] #[{ accessFlags := 18, nameIndex := 11, descriptorIndex := 12, attributes := #[] }, { accessFlags := 18, nameIndex := 15, descriptorIndex := 16, attributes := #[] }])
  fields := #[{ name := "broker", type := .int, accessFlags := 18, slot := 0, constantValue := 0 }, { name := "sequence", type := .long, accessFlags := 18, slot := 1, constantValue := 0 }]
  methods := #[k2m0, k2m1]
  instanceTypes := #[.int, .long]
  staticTypes := #[]
  resolved := Array.replicate 54 none
  statics := none }

def pool3 : Array CpInfo := pool [(1, .class_ 2), (0, u "java/io/Serializable"), (0, .class_ 4), (0, u "java/lang/Object")] 2

/-- java/io/Serializable -/
def k3 : Class := { plain "java/io/Serializable" (some 0) with
  accessFlags := 1537
  interfaces := #[]
  cf := some (fileOf pool3 1 #[] #[] 1537 3 #[] #[])
  fields := #[]
  methods := #[]
  instanceTypes := #[]
  staticTypes := #[]
  resolved := Array.replicate 7 none
  statics := none }

def pool4 : Array CpInfo := pool [(1, .methodref 2 3), (0, .class_ 4), (0, .nameAndType 5 6), (0, u "java/lang/Object"), (0, u "<init>"), (0, u "()V"), (1, .class_ 10), (1, u "java/lang/Number"), (2, .class_ 14), (0, u "java/io/Serializable"), (0, u "serialVersionUID"), (0, u "J")] 20

def k4c0 : Code := { maxStack := 1, maxLocals := 1, code := jdk_18_method_1_code, exceptionTable := #[], attributes := #[] }
def k4m0 : Method := { name := "<init>", desc := "()V", sig := { parameters := [], returnType := none }, accessFlags := 1, code := some k4c0 }
/-- java/lang/Number -/
def k4 : Class := { plain "java/lang/Number" (some 0) with
  accessFlags := 1057
  interfaces := #[3]
  cf := some (fileOf pool4 8 #[] #[{ accessFlags := 1, nameIndex := 5, descriptorIndex := 6, attributes := #[] }] 1057 2 #[13] #[{ accessFlags := 26, nameIndex := 15, descriptorIndex := 16, attributes := #[] }])
  fields := #[{ name := "serialVersionUID", type := .long, accessFlags := 26, slot := 0, constantValue := 0 }]
  methods := #[k4m0]
  instanceTypes := #[]
  staticTypes := #[.long]
  resolved := Array.replicate 37 none
  statics := none }

def pool5 : Array CpInfo := pool [(1, .class_ 2), (0, u "java/lang/Comparable"), (0, .class_ 4), (0, u "java/lang/Object")] 7

/-- java/lang/Comparable -/
def k5 : Class := { plain "java/lang/Comparable" (some 0) with
  accessFlags := 1537
  interfaces := #[]
  cf := some (fileOf pool5 1 #[] #[] 1537 3 #[] #[])
  fields := #[]
  methods := #[]
  instanceTypes := #[]
  staticTypes := #[]
  resolved := Array.replicate 12 none
  statics := none }

def pool6 : Array CpInfo := pool [(1, .class_ 2), (0, u "java/lang/constant/Constable"), (0, .class_ 4), (0, u "java/lang/Object")] 6

/-- java/lang/constant/Constable -/
def k6 : Class := { plain "java/lang/constant/Constable" (some 0) with
  accessFlags := 1537
  interfaces := #[]
  cf := some (fileOf pool6 1 #[] #[] 1537 3 #[] #[])
  fields := #[]
  methods := #[]
  instanceTypes := #[]
  staticTypes := #[]
  resolved := Array.replicate 11 none
  statics := none }

def pool7 : Array CpInfo := pool [(1, .class_ 2), (0, u "java/lang/constant/ConstantDesc"), (0, .class_ 4), (0, u "java/lang/Object")] 32

/-- java/lang/constant/ConstantDesc -/
def k7 : Class := { plain "java/lang/constant/ConstantDesc" (some 0) with
  accessFlags := 1537
  interfaces := #[]
  cf := some (fileOf pool7 1 #[] #[] 1537 3 #[] #[])
  fields := #[]
  methods := #[]
  instanceTypes := #[]
  staticTypes := #[]
  resolved := Array.replicate 37 none
  statics := none }

def pool8 : Array CpInfo := pool [(1, .class_ 2), (0, u "java/lang/Integer"), (16, u "digits"), (0, u "[C"), (46, u "<init>"), (17, u "DigitOnes"), (0, u "[B"), (2, u "DigitTens"), (10, .nameAndType 67 101), (0, u "()V"), (85, u "valueOf"), (0, u "(I)Ljava/lang/Integer;"), (0, .class_ 190), (0, u "java/lang/Integer$IntegerCache"), (0, .fieldref 189 192), (0, .nameAndType 193 194), (0, u "high"), (0, u "I"), (0, .fieldref 189 196), (0, .nameAndType 197 198), (0, u "cache"), (0, u "[Ljava/lang/Integer;"), (0, .methodref 1 200), (0, .nameAndType 67 201), (0, u "(I)V"), (0, .methodref 203 100), (0, .class_ 204), (0, u "java/lang/Number"), (0, .fieldref 1 206), (0, .nameAndType 207 194), (0, u "value"), (94, u "TYPE"), (0, u "Ljava/lang/Class;"), (0, .class_ 305), (0, u "java/lang/Comparable"), (0, .class_ 307), (0, u "java/lang/constant/Constable"), (0, .class_ 309), (0, u "java/lang/constant/ConstantDesc"), (0, u "MIN_VALUE"), (1, u "MAX_VALUE"), (3, u "SIZE"), (1, u "BYTES"), (1, u "serialVersionUID"), (0, u "J")] 131

def k8c0 : Code := { maxStack := 3, maxLocals := 1, code := jdk_33_method_22_code, exceptionTable := #[], attributes := #[] }
def k8m0 : Method := { name := "valueOf", desc := "(I)Ljava/lang/Integer;", sig := { parameters := [.int], returnType := some (.object "java/lang/Integer") }, accessFlags := 9, code := some k8c0 }
def k8c1 : Code := { maxStack := 2, maxLocals := 2, code := jdk_33_method_23_code, exceptionTable := #[], attributes := #[] }
def k8m1 : Method := { name := "<init>", desc := "(I)V", sig := { parameters := [.int], returnType := none }, accessFlags := 1, code := some k8c1 }
/-- java/lang/Integer -/
def k8 : Class := { plain "java/lang/Integer" (some 4) with
  accessFlags := 49
  interfaces := #[5, 6, 7]
  cf := some (fileOf pool8 1 #[.nestMembers #[189]] #[{ accessFlags := 9, nameIndex := 187, descriptorIndex := 188, attributes := #[] }, { accessFlags := 1, nameIndex := 67, descriptorIndex := 201, attributes := #[] }] 49 203 #[304, 306, 308] #[{ accessFlags := 25, nameIndex := 310, descriptorIndex := 194, attributes := #[] }, { accessFlags := 25, nameIndex := 312, descriptorIndex := 194, attributes := #[] }, { accessFlags := 25, nameIndex := 302, descriptorIndex := 303, attributes := #[] }, { accessFlags := 24, nameIndex := 19, descriptorIndex := 20, attributes := #[] }, { accessFlags := 24, nameIndex := 89, descriptorIndex := 86, attributes := #[] }, { accessFlags := 24, nameIndex := 85, descriptorIndex := 86, attributes := #[] }, { accessFlags := 18, nameIndex := 207, descriptorIndex := 194, attributes := #[] }, { accessFlags := 25, nameIndex := 316, descriptorIndex := 194, attributes := #[] }, { accessFlags := 25, nameIndex := 318, descriptorIndex := 194, attributes := #[] }, { accessFlags := 26, nameIndex := 320, descriptorIndex := 321, attributes := #[] }])
  fields := #[{ name := "MIN_VALUE", type := .int, accessFlags := 25, slot := 0, constantValue := 0 }, { name := "MAX_VALUE", type := .int, accessFlags := 25, slot := 1, constantValue := 0 }, { name := "TYPE", type := (.object "java/lang/Class"), accessFlags := 25, slot := 2, constantValue := 0 }, { name := "digits", type := (.array .char), accessFlags := 24, slot := 3, constantValue := 0 }, { name := "DigitTens", type := (.array .byte), accessFlags := 24, slot := 4, constantValue := 0 }, { name := "DigitOnes", type := (.array .byte), accessFlags := 24, slot := 5, constantValue := 0 }, { name := "value", type := .int, accessFlags := 18, slot := 0, constantValue := 0 }, { name := "SIZE", type := .int, accessFlags := 25, slot := 6, constantValue := 0 }, { name := "BYTES", type := .int, accessFlags := 25, slot := 7, constantValue := 0 }, { name := "serialVersionUID", type := .long, accessFlags := 26, slot := 8, constantValue := 0 }]
  methods := #[k8m0, k8m1]
  instanceTypes := #[.int]
  staticTypes := #[.int, .int, (.object "java/lang/Class"), (.array .char), (.array .byte), (.array .byte), .int, .int, .long]
  resolved := Array.replicate 453 none
  statics := none }

def pool9 : Array CpInfo := pool [(2, .class_ 4), (1, u "java/lang/Object"), (0, u "<init>"), (0, u "()V"), (0, .class_ 8), (0, u "java/lang/Integer"), (7, .class_ 18), (1, u "java/lang/Integer$IntegerCache"), (0, u "$assertionsDisabled"), (0, u "Z"), (26, u "high"), (0, u "I"), (8, u "archivedCache"), (0, u "[Ljava/lang/Integer;"), (12, u "cache"), (0, u "low")] 27

def k9m0 : Method := { name := "<init>", desc := "()V", sig := { parameters := [], returnType := none }, accessFlags := 2, code := none }
/-- java/lang/Integer$IntegerCache -/
def k9 : Class := { plain "java/lang/Integer$IntegerCache" (some 0) with
  accessFlags := 48
  interfaces := #[]
  cf := some (fileOf pool9 16 #[.nestHost 7] #[{ accessFlags := 2, nameIndex := 5, descriptorIndex := 6, attributes := #[] }] 48 2 #[] #[{ accessFlags := 24, nameIndex := 72, descriptorIndex := 48, attributes := #[] }, { accessFlags := 24, nameIndex := 47, descriptorIndex := 48, attributes := #[] }, { accessFlags := 24, nameIndex := 71, descriptorIndex := 58, attributes := #[] }, { accessFlags := 8, nameIndex := 57, descriptorIndex := 58, attributes := #[] }, { accessFlags := 4120, nameIndex := 19, descriptorIndex := 20, attributes := #[] }])
  fields := #[{ name := "low", type := .int, accessFlags := 24, slot := 0, constantValue := 0 }, { name := "high", type := .int, accessFlags := 24, slot := 1, constantValue := 0 }, { name := "cache", type := (.array (.object "java/lang/Integer")), accessFlags := 24, slot := 2, constantValue := 0 }, { name := "archivedCache", type := (.array (.object "java/lang/Integer")), accessFlags := 8, slot := 3, constantValue := 0 }, { name := "$assertionsDisabled", type := .boolean, accessFlags := 4120, slot := 4, constantValue := 0 }]
  methods := #[k9m0]
  instanceTypes := #[]
  staticTypes := #[.int, .int, (.array (.object "java/lang/Integer")), (.array (.object "java/lang/Integer")), .boolean]
  resolved := Array.replicate 100 none
  statics := some 0 }

def pool10 : Array CpInfo := pool [(1, .class_ 2), (0, u "java/lang/Long"), (55, .nameAndType 59 60), (0, u "<init>"), (0, u "()V"), (24, u "valueOf"), (143, u "(J)Ljava/lang/Long;"), (0, .long 18446744073709551488), (1, .long 127), (1, .fieldref 235 236), (0, .class_ 237), (0, .nameAndType 238 239), (0, u "java/lang/Long$LongCache"), (0, u "cache"), (0, u "[Ljava/lang/Long;"), (0, .methodref 1 241), (0, .nameAndType 59 242), (0, u "(J)V"), (27, .methodref 271 58), (0, .class_ 272), (0, u "java/lang/Number"), (0, .fieldref 1 274), (0, .nameAndType 275 276), (0, u "value"), (0, u "J"), (84, u "TYPE"), (0, u "Ljava/lang/Class;"), (0, .class_ 364), (0, u "java/lang/Comparable"), (0, .class_ 366), (0, u "java/lang/constant/Constable"), (0, .class_ 368), (0, u "java/lang/constant/ConstantDesc"), (0, u "MIN_VALUE"), (1, u "MAX_VALUE"), (4, u "SIZE"), (0, u "I"), (1, u "BYTES"), (1, u "serialVersionUID")] 142

def k10c0 : Code := { maxStack := 4, maxLocals := 3, code := jdk_35_method_24_code, exceptionTable := #[], attributes := #[] }
def k10m0 : Method := { name := "valueOf", desc := "(J)Ljava/lang/Long;", sig := { parameters := [.long], returnType := some (.object "java/lang/Long") }, accessFlags := 9, code := some k10c0 }
def k10c1 : Code := { maxStack := 3, maxLocals := 3, code := jdk_35_method_26_code, exceptionTable := #[], attributes := #[] }
def k10m1 : Method := { name := "<init>", desc := "(J)V", sig := { parameters := [.long], returnType := none }, accessFlags := 1, code := some k10c1 }
/-- java/lang/Long -/
def k10 : Class := { plain "java/lang/Long" (some 4) with
  accessFlags := 49
  interfaces := #[5, 6, 7]
  cf := some (fileOf pool10 1 #[.nestMembers #[235]] #[{ accessFlags := 9, nameIndex := 85, descriptorIndex := 229, attributes := #[] }, { accessFlags := 1, nameIndex := 59, descriptorIndex := 242, attributes := #[] }] 49 271 #[363, 365, 367] #[{ accessFlags := 25, nameIndex := 369, descriptorIndex := 276, attributes := #[] }, { accessFlags := 25, nameIndex := 371, descriptorIndex := 276, attributes := #[] }, { accessFlags := 25, nameIndex := 361, descriptorIndex := 362, attributes := #[] }, { accessFlags := 18, nameIndex := 275, descriptorIndex := 276, attributes := #[] }, { accessFlags := 25, nameIndex := 376, descriptorIndex := 377, attributes := #[] }, { accessFlags := 25, nameIndex := 379, descriptorIndex := 377, attributes := #[] }, { accessFlags := 26, nameIndex := 381, descriptorIndex := 276, attributes := #[] }])
  fields := #[{ name := "MIN_VALUE", type := .long, accessFlags := 25, slot := 0, constantValue := 0 }, { name := "MAX_VALUE", type := .long, accessFlags := 25, slot := 1, constantValue := 0 }, { name := "TYPE", type := (.object "java/lang/Class"), accessFlags := 25, slot := 2, constantValue := 0 }, { name := "value", type := .long, accessFlags := 18, slot := 0, constantValue := 0 }, { name := "SIZE", type := .int, accessFlags := 25, slot := 3, constantValue := 0 }, { name := "BYTES", type := .int, accessFlags := 25, slot := 4, constantValue := 0 }, { name := "serialVersionUID", type := .long, accessFlags := 26, slot := 5, constantValue := 0 }]
  methods := #[k10m0, k10m1]
  instanceTypes := #[.long]
  staticTypes := #[.long, .long, (.object "java/lang/Class"), .int, .int, .long]
  resolved := Array.replicate 524 none
  statics := none }

def pool11 : Array CpInfo := pool [(2, .class_ 4), (1, u "java/lang/Object"), (0, u "<init>"), (0, u "()V"), (0, .class_ 8), (0, u "java/lang/Long"), (7, .class_ 18), (1, u "java/lang/Long$LongCache"), (0, u "$assertionsDisabled"), (0, u "Z"), (8, u "archivedCache"), (0, u "[Ljava/lang/Long;"), (7, u "cache")] 24

def k11m0 : Method := { name := "<init>", desc := "()V", sig := { parameters := [], returnType := none }, accessFlags := 2, code := none }
/-- java/lang/Long$LongCache -/
def k11 : Class := { plain "java/lang/Long$LongCache" (some 0) with
  accessFlags := 48
  interfaces := #[]
  cf := some (fileOf pool11 16 #[.nestHost 7] #[{ accessFlags := 2, nameIndex := 5, descriptorIndex := 6, attributes := #[] }] 48 2 #[] #[{ accessFlags := 24, nameIndex := 38, descriptorIndex := 30, attributes := #[] }, { accessFlags := 8, nameIndex := 29, descriptorIndex := 30, attributes := #[] }, { accessFlags := 4120, nameIndex := 19, descriptorIndex := 20, attributes := #[] }])
  fields := #[{ name := "cache", type := (.array (.object "java/lang/Long")), accessFlags := 24, slot := 0, constantValue := 0 }, { name := "archivedCache", type := (.array (.object "java/lang/Long")), accessFlags := 8, slot := 1, constantValue := 0 }, { name := "$assertionsDisabled", type := .boolean, accessFlags := 4120, slot := 2, constantValue := 0 }]
  methods := #[k11m0]
  instanceTypes := #[]
  staticTypes := #[(.array (.object "java/lang/Long")), (.array (.object "java/lang/Long")), .boolean]
  resolved := Array.replicate 63 none
  statics := some 1 }

def pool12 : Array CpInfo := pool [(1, u "java/lang/Cloneable"), (0, .class_ 1), (0, u "java/lang/Object"), (0, .class_ 3)] 3

/-- java/lang/Cloneable -/
def k12 : Class := { plain "java/lang/Cloneable" (some 0) with
  accessFlags := 1537
  interfaces := #[]
  cf := some (fileOf pool12 2 #[] #[] 1537 4 #[] #[])
  fields := #[]
  methods := #[]
  instanceTypes := #[]
  staticTypes := #[]
  resolved := Array.replicate 8 none
  statics := none }

/-- the primitive byte -/
def k13 : Class := { plain "byte" none with kind := .primitive 'B', accessFlags := 0x411 }
/-- [B -/
def k14 : Class := { plain "[B" (some 0) with kind := .array 13 .byte, interfaces := #[12, 3], accessFlags := 1041 }

/-- the primitive int -/
def k15 : Class := { plain "int" none with kind := .primitive 'I', accessFlags := 0x411 }
/-- [I -/
def k16 : Class := { plain "[I" (some 0) with kind := .array 15 .int, interfaces := #[12, 3], accessFlags := 1041 }

/-- [Ljava/lang/Integer; -/
def k17 : Class := { plain "[Ljava/lang/Integer;" (some 0) with kind := .array 8 (.object "java/lang/Integer"), interfaces := #[12, 3], accessFlags := 1041 }

/-- [Ljava/lang/Long; -/
def k18 : Class := { plain "[Ljava/lang/Long;" (some 0) with kind := .array 10 (.object "java/lang/Long"), interfaces := #[12, 3], accessFlags := 1041 }

def heap : Heap := #[{ cls := 9, slots := #[.int 0, .int 127, .ref 3, .null, .int 0], vm := .statics 9 },
  { cls := 11, slots := #[.ref 2, .null, .int 0], vm := .statics 11 },
  { cls := 18, slots := #[.ref 4, .ref 5, .ref 6, .ref 7, .ref 8, .ref 9, .ref 10, .ref 11, .ref 12, .ref 13, .ref 14, .ref 15, .ref 16, .ref 17, .ref 18, .ref 19, .ref 20, .ref 21, .ref 22, .ref 23, .ref 24, .ref 25, .ref 26, .ref 27, .ref 28, .ref 29, .ref 30, .ref 31, .ref 32, .ref 33, .ref 34, .ref 35, .ref 36, .ref 37, .ref 38, .ref 39, .ref 40, .ref 41, .ref 42, .ref 43, .ref 44, .ref 45, .ref 46, .ref 47, .ref 48, .ref 49, .ref 50, .ref 51, .ref 52, .ref 53, .ref 54, .ref 55, .ref 56, .ref 57, .ref 58, .ref 59, .ref 60, .ref 61, .ref 62, .ref 63, .ref 64, .ref 65, .ref 66, .ref 67, .ref 68, .ref 69, .ref 70, .ref 71, .ref 72, .ref 73, .ref 74, .ref 75, .ref 76, .ref 77, .ref 78, .ref 79, .ref 80, .ref 81, .ref 82, .ref 83, .ref 84, .ref 85, .ref 86, .ref 87, .ref 88, .ref 89, .ref 90, .ref 91, .ref 92, .ref 93, .ref 94, .ref 95, .ref 96, .ref 97, .ref 98, .ref 99, .ref 100, .ref 101, .ref 102, .ref 103, .ref 104, .ref 105, .ref 106, .ref 107, .ref 108, .ref 109, .ref 110, .ref 111, .ref 112, .ref 113, .ref 114, .ref 115, .ref 116, .ref 117, .ref 118, .ref 119, .ref 120, .ref 121, .ref 122, .ref 123, .ref 124, .ref 125, .ref 126, .ref 127, .ref 128, .ref 129, .ref 130, .ref 131, .ref 132, .ref 133, .ref 134, .ref 135, .ref 136, .ref 137, .ref 138, .ref 139, .ref 140, .ref 141, .ref 142, .ref 143, .ref 144, .ref 145, .ref 146, .ref 147, .ref 148, .ref 149, .ref 150, .ref 151, .ref 152, .ref 153, .ref 154, .ref 155, .ref 156, .ref 157, .ref 158, .ref 159, .ref 160, .ref 161, .ref 162, .ref 163, .ref 164, .ref 165, .ref 166, .ref 167, .ref 168, .ref 169, .ref 170, .ref 171, .ref 172, .ref 173, .ref 174, .ref 175, .ref 176, .ref 177, .ref 178, .ref 179, .ref 180, .ref 181, .ref 182, .ref 183, .ref 184, .ref 185, .ref 186, .ref 187, .ref 188, .ref 189, .ref 190, .ref 191, .ref 192, .ref 193, .ref 194, .ref 195, .ref 196, .ref 197, .ref 198, .ref 199, .ref 200, .ref 201, .ref 202, .ref 203, .ref 204, .ref 205, .ref 206, .ref 207, .ref 208, .ref 209, .ref 210, .ref 211, .ref 212, .ref 213, .ref 214, .ref 215, .ref 216, .ref 217, .ref 218, .ref 219, .ref 220, .ref 221, .ref 222, .ref 223, .ref 224, .ref 225, .ref 226, .ref 227, .ref 228, .ref 229, .ref 230, .ref 231, .ref 232, .ref 233, .ref 234, .ref 235, .ref 236, .ref 237, .ref 238, .ref 239, .ref 240, .ref 241, .ref 242, .ref 243, .ref 244, .ref 245, .ref 246, .ref 247, .ref 248, .ref 249, .ref 250, .ref 251, .ref 252, .ref 253, .ref 254, .ref 255, .ref 256, .ref 257, .ref 258, .ref 259], vm := .none },
  { cls := 17, slots := #[.ref 260, .ref 261, .ref 262, .ref 263, .ref 264, .ref 265, .ref 266, .ref 267, .ref 268, .ref 269, .ref 270, .ref 271, .ref 272, .ref 273, .ref 274, .ref 275, .ref 276, .ref 277, .ref 278, .ref 279, .ref 280, .ref 281, .ref 282, .ref 283, .ref 284, .ref 285, .ref 286, .ref 287, .ref 288, .ref 289, .ref 290, .ref 291, .ref 292, .ref 293, .ref 294, .ref 295, .ref 296, .ref 297, .ref 298, .ref 299, .ref 300, .ref 301, .ref 302, .ref 303, .ref 304, .ref 305, .ref 306, .ref 307, .ref 308, .ref 309, .ref 310, .ref 311, .ref 312, .ref 313, .ref 314, .ref 315, .ref 316, .ref 317, .ref 318, .ref 319, .ref 320, .ref 321, .ref 322, .ref 323, .ref 324, .ref 325, .ref 326, .ref 327, .ref 328, .ref 329, .ref 330, .ref 331, .ref 332, .ref 333, .ref 334, .ref 335, .ref 336, .ref 337, .ref 338, .ref 339, .ref 340, .ref 341, .ref 342, .ref 343, .ref 344, .ref 345, .ref 346, .ref 347, .ref 348, .ref 349, .ref 350, .ref 351, .ref 352, .ref 353, .ref 354, .ref 355, .ref 356, .ref 357, .ref 358, .ref 359, .ref 360, .ref 361, .ref 362, .ref 363, .ref 364, .ref 365, .ref 366, .ref 367, .ref 368, .ref 369, .ref 370, .ref 371, .ref 372, .ref 373, .ref 374, .ref 375, .ref 376, .ref 377, .ref 378, .ref 379, .ref 380, .ref 381, .ref 382, .ref 383, .ref 384, .ref 385, .ref 386, .ref 387, .ref 388, .ref 389, .ref 390, .ref 391, .ref 392, .ref 393, .ref 394, .ref 395, .ref 396, .ref 397, .ref 398, .ref 399, .ref 400, .ref 401, .ref 402, .ref 403, .ref 404, .ref 405, .ref 406, .ref 407, .ref 408, .ref 409, .ref 410, .ref 411, .ref 412, .ref 413, .ref 414, .ref 415, .ref 416, .ref 417, .ref 418, .ref 419, .ref 420, .ref 421, .ref 422, .ref 423, .ref 424, .ref 425, .ref 426, .ref 427, .ref 428, .ref 429, .ref 430, .ref 431, .ref 432, .ref 433, .ref 434, .ref 435, .ref 436, .ref 437, .ref 438, .ref 439, .ref 440, .ref 441, .ref 442, .ref 443, .ref 444, .ref 445, .ref 446, .ref 447, .ref 448, .ref 449, .ref 450, .ref 451, .ref 452, .ref 453, .ref 454, .ref 455, .ref 456, .ref 457, .ref 458, .ref 459, .ref 460, .ref 461, .ref 462, .ref 463, .ref 464, .ref 465, .ref 466, .ref 467, .ref 468, .ref 469, .ref 470, .ref 471, .ref 472, .ref 473, .ref 474, .ref 475, .ref 476, .ref 477, .ref 478, .ref 479, .ref 480, .ref 481, .ref 482, .ref 483, .ref 484, .ref 485, .ref 486, .ref 487, .ref 488, .ref 489, .ref 490, .ref 491, .ref 492, .ref 493, .ref 494, .ref 495, .ref 496, .ref 497, .ref 498, .ref 499, .ref 500, .ref 501, .ref 502, .ref 503, .ref 504, .ref 505, .ref 506, .ref 507, .ref 508, .ref 509, .ref 510, .ref 511, .ref 512, .ref 513, .ref 514, .ref 515], vm := .none },
  { cls := 10, slots := #[.long (-128)], vm := .none },
  { cls := 10, slots := #[.long (-127)], vm := .none },
  { cls := 10, slots := #[.long (-126)], vm := .none },
  { cls := 10, slots := #[.long (-125)], vm := .none },
  { cls := 10, slots := #[.long (-124)], vm := .none },
  { cls := 10, slots := #[.long (-123)], vm := .none },
  { cls := 10, slots := #[.long (-122)], vm := .none },
  { cls := 10, slots := #[.long (-121)], vm := .none },
  { cls := 10, slots := #[.long (-120)], vm := .none },
  { cls := 10, slots := #[.long (-119)], vm := .none },
  { cls := 10, slots := #[.long (-118)], vm := .none },
  { cls := 10, slots := #[.long (-117)], vm := .none },
  { cls := 10, slots := #[.long (-116)], vm := .none },
  { cls := 10, slots := #[.long (-115)], vm := .none },
  { cls := 10, slots := #[.long (-114)], vm := .none },
  { cls := 10, slots := #[.long (-113)], vm := .none },
  { cls := 10, slots := #[.long (-112)], vm := .none },
  { cls := 10, slots := #[.long (-111)], vm := .none },
  { cls := 10, slots := #[.long (-110)], vm := .none },
  { cls := 10, slots := #[.long (-109)], vm := .none },
  { cls := 10, slots := #[.long (-108)], vm := .none },
  { cls := 10, slots := #[.long (-107)], vm := .none },
  { cls := 10, slots := #[.long (-106)], vm := .none },
  { cls := 10, slots := #[.long (-105)], vm := .none },
  { cls := 10, slots := #[.long (-104)], vm := .none },
  { cls := 10, slots := #[.long (-103)], vm := .none },
  { cls := 10, slots := #[.long (-102)], vm := .none },
  { cls := 10, slots := #[.long (-101)], vm := .none },
  { cls := 10, slots := #[.long (-100)], vm := .none },
  { cls := 10, slots := #[.long (-99)], vm := .none },
  { cls := 10, slots := #[.long (-98)], vm := .none },
  { cls := 10, slots := #[.long (-97)], vm := .none },
  { cls := 10, slots := #[.long (-96)], vm := .none },
  { cls := 10, slots := #[.long (-95)], vm := .none },
  { cls := 10, slots := #[.long (-94)], vm := .none },
  { cls := 10, slots := #[.long (-93)], vm := .none },
  { cls := 10, slots := #[.long (-92)], vm := .none },
  { cls := 10, slots := #[.long (-91)], vm := .none },
  { cls := 10, slots := #[.long (-90)], vm := .none },
  { cls := 10, slots := #[.long (-89)], vm := .none },
  { cls := 10, slots := #[.long (-88)], vm := .none },
  { cls := 10, slots := #[.long (-87)], vm := .none },
  { cls := 10, slots := #[.long (-86)], vm := .none },
  { cls := 10, slots := #[.long (-85)], vm := .none },
  { cls := 10, slots := #[.long (-84)], vm := .none },
  { cls := 10, slots := #[.long (-83)], vm := .none },
  { cls := 10, slots := #[.long (-82)], vm := .none },
  { cls := 10, slots := #[.long (-81)], vm := .none },
  { cls := 10, slots := #[.long (-80)], vm := .none },
  { cls := 10, slots := #[.long (-79)], vm := .none },
  { cls := 10, slots := #[.long (-78)], vm := .none },
  { cls := 10, slots := #[.long (-77)], vm := .none },
  { cls := 10, slots := #[.long (-76)], vm := .none },
  { cls := 10, slots := #[.long (-75)], vm := .none },
  { cls := 10, slots := #[.long (-74)], vm := .none },
  { cls := 10, slots := #[.long (-73)], vm := .none },
  { cls := 10, slots := #[.long (-72)], vm := .none },
  { cls := 10, slots := #[.long (-71)], vm := .none },
  { cls := 10, slots := #[.long (-70)], vm := .none },
  { cls := 10, slots := #[.long (-69)], vm := .none },
  { cls := 10, slots := #[.long (-68)], vm := .none },
  { cls := 10, slots := #[.long (-67)], vm := .none },
  { cls := 10, slots := #[.long (-66)], vm := .none },
  { cls := 10, slots := #[.long (-65)], vm := .none },
  { cls := 10, slots := #[.long (-64)], vm := .none },
  { cls := 10, slots := #[.long (-63)], vm := .none },
  { cls := 10, slots := #[.long (-62)], vm := .none },
  { cls := 10, slots := #[.long (-61)], vm := .none },
  { cls := 10, slots := #[.long (-60)], vm := .none },
  { cls := 10, slots := #[.long (-59)], vm := .none },
  { cls := 10, slots := #[.long (-58)], vm := .none },
  { cls := 10, slots := #[.long (-57)], vm := .none },
  { cls := 10, slots := #[.long (-56)], vm := .none },
  { cls := 10, slots := #[.long (-55)], vm := .none },
  { cls := 10, slots := #[.long (-54)], vm := .none },
  { cls := 10, slots := #[.long (-53)], vm := .none },
  { cls := 10, slots := #[.long (-52)], vm := .none },
  { cls := 10, slots := #[.long (-51)], vm := .none },
  { cls := 10, slots := #[.long (-50)], vm := .none },
  { cls := 10, slots := #[.long (-49)], vm := .none },
  { cls := 10, slots := #[.long (-48)], vm := .none },
  { cls := 10, slots := #[.long (-47)], vm := .none },
  { cls := 10, slots := #[.long (-46)], vm := .none },
  { cls := 10, slots := #[.long (-45)], vm := .none },
  { cls := 10, slots := #[.long (-44)], vm := .none },
  { cls := 10, slots := #[.long (-43)], vm := .none },
  { cls := 10, slots := #[.long (-42)], vm := .none },
  { cls := 10, slots := #[.long (-41)], vm := .none },
  { cls := 10, slots := #[.long (-40)], vm := .none },
  { cls := 10, slots := #[.long (-39)], vm := .none },
  { cls := 10, slots := #[.long (-38)], vm := .none },
  { cls := 10, slots := #[.long (-37)], vm := .none },
  { cls := 10, slots := #[.long (-36)], vm := .none },
  { cls := 10, slots := #[.long (-35)], vm := .none },
  { cls := 10, slots := #[.long (-34)], vm := .none },
  { cls := 10, slots := #[.long (-33)], vm := .none },
  { cls := 10, slots := #[.long (-32)], vm := .none },
  { cls := 10, slots := #[.long (-31)], vm := .none },
  { cls := 10, slots := #[.long (-30)], vm := .none },
  { cls := 10, slots := #[.long (-29)], vm := .none },
  { cls := 10, slots := #[.long (-28)], vm := .none },
  { cls := 10, slots := #[.long (-27)], vm := .none },
  { cls := 10, slots := #[.long (-26)], vm := .none },
  { cls := 10, slots := #[.long (-25)], vm := .none },
  { cls := 10, slots := #[.long (-24)], vm := .none },
  { cls := 10, slots := #[.long (-23)], vm := .none },
  { cls := 10, slots := #[.long (-22)], vm := .none },
  { cls := 10, slots := #[.long (-21)], vm := .none },
  { cls := 10, slots := #[.long (-20)], vm := .none },
  { cls := 10, slots := #[.long (-19)], vm := .none },
  { cls := 10, slots := #[.long (-18)], vm := .none },
  { cls := 10, slots := #[.long (-17)], vm := .none },
  { cls := 10, slots := #[.long (-16)], vm := .none },
  { cls := 10, slots := #[.long (-15)], vm := .none },
  { cls := 10, slots := #[.long (-14)], vm := .none },
  { cls := 10, slots := #[.long (-13)], vm := .none },
  { cls := 10, slots := #[.long (-12)], vm := .none },
  { cls := 10, slots := #[.long (-11)], vm := .none },
  { cls := 10, slots := #[.long (-10)], vm := .none },
  { cls := 10, slots := #[.long (-9)], vm := .none },
  { cls := 10, slots := #[.long (-8)], vm := .none },
  { cls := 10, slots := #[.long (-7)], vm := .none },
  { cls := 10, slots := #[.long (-6)], vm := .none },
  { cls := 10, slots := #[.long (-5)], vm := .none },
  { cls := 10, slots := #[.long (-4)], vm := .none },
  { cls := 10, slots := #[.long (-3)], vm := .none },
  { cls := 10, slots := #[.long (-2)], vm := .none },
  { cls := 10, slots := #[.long (-1)], vm := .none },
  { cls := 10, slots := #[.long 0], vm := .none },
  { cls := 10, slots := #[.long 1], vm := .none },
  { cls := 10, slots := #[.long 2], vm := .none },
  { cls := 10, slots := #[.long 3], vm := .none },
  { cls := 10, slots := #[.long 4], vm := .none },
  { cls := 10, slots := #[.long 5], vm := .none },
  { cls := 10, slots := #[.long 6], vm := .none },
  { cls := 10, slots := #[.long 7], vm := .none },
  { cls := 10, slots := #[.long 8], vm := .none },
  { cls := 10, slots := #[.long 9], vm := .none },
  { cls := 10, slots := #[.long 10], vm := .none },
  { cls := 10, slots := #[.long 11], vm := .none },
  { cls := 10, slots := #[.long 12], vm := .none },
  { cls := 10, slots := #[.long 13], vm := .none },
  { cls := 10, slots := #[.long 14], vm := .none },
  { cls := 10, slots := #[.long 15], vm := .none },
  { cls := 10, slots := #[.long 16], vm := .none },
  { cls := 10, slots := #[.long 17], vm := .none },
  { cls := 10, slots := #[.long 18], vm := .none },
  { cls := 10, slots := #[.long 19], vm := .none },
  { cls := 10, slots := #[.long 20], vm := .none },
  { cls := 10, slots := #[.long 21], vm := .none },
  { cls := 10, slots := #[.long 22], vm := .none },
  { cls := 10, slots := #[.long 23], vm := .none },
  { cls := 10, slots := #[.long 24], vm := .none },
  { cls := 10, slots := #[.long 25], vm := .none },
  { cls := 10, slots := #[.long 26], vm := .none },
  { cls := 10, slots := #[.long 27], vm := .none },
  { cls := 10, slots := #[.long 28], vm := .none },
  { cls := 10, slots := #[.long 29], vm := .none },
  { cls := 10, slots := #[.long 30], vm := .none },
  { cls := 10, slots := #[.long 31], vm := .none },
  { cls := 10, slots := #[.long 32], vm := .none },
  { cls := 10, slots := #[.long 33], vm := .none },
  { cls := 10, slots := #[.long 34], vm := .none },
  { cls := 10, slots := #[.long 35], vm := .none },
  { cls := 10, slots := #[.long 36], vm := .none },
  { cls := 10, slots := #[.long 37], vm := .none },
  { cls := 10, slots := #[.long 38], vm := .none },
  { cls := 10, slots := #[.long 39], vm := .none },
  { cls := 10, slots := #[.long 40], vm := .none },
  { cls := 10, slots := #[.long 41], vm := .none },
  { cls := 10, slots := #[.long 42], vm := .none },
  { cls := 10, slots := #[.long 43], vm := .none },
  { cls := 10, slots := #[.long 44], vm := .none },
  { cls := 10, slots := #[.long 45], vm := .none },
  { cls := 10, slots := #[.long 46], vm := .none },
  { cls := 10, slots := #[.long 47], vm := .none },
  { cls := 10, slots := #[.long 48], vm := .none },
  { cls := 10, slots := #[.long 49], vm := .none },
  { cls := 10, slots := #[.long 50], vm := .none },
  { cls := 10, slots := #[.long 51], vm := .none },
  { cls := 10, slots := #[.long 52], vm := .none },
  { cls := 10, slots := #[.long 53], vm := .none },
  { cls := 10, slots := #[.long 54], vm := .none },
  { cls := 10, slots := #[.long 55], vm := .none },
  { cls := 10, slots := #[.long 56], vm := .none },
  { cls := 10, slots := #[.long 57], vm := .none },
  { cls := 10, slots := #[.long 58], vm := .none },
  { cls := 10, slots := #[.long 59], vm := .none },
  { cls := 10, slots := #[.long 60], vm := .none },
  { cls := 10, slots := #[.long 61], vm := .none },
  { cls := 10, slots := #[.long 62], vm := .none },
  { cls := 10, slots := #[.long 63], vm := .none },
  { cls := 10, slots := #[.long 64], vm := .none },
  { cls := 10, slots := #[.long 65], vm := .none },
  { cls := 10, slots := #[.long 66], vm := .none },
  { cls := 10, slots := #[.long 67], vm := .none },
  { cls := 10, slots := #[.long 68], vm := .none },
  { cls := 10, slots := #[.long 69], vm := .none },
  { cls := 10, slots := #[.long 70], vm := .none },
  { cls := 10, slots := #[.long 71], vm := .none },
  { cls := 10, slots := #[.long 72], vm := .none },
  { cls := 10, slots := #[.long 73], vm := .none },
  { cls := 10, slots := #[.long 74], vm := .none },
  { cls := 10, slots := #[.long 75], vm := .none },
  { cls := 10, slots := #[.long 76], vm := .none },
  { cls := 10, slots := #[.long 77], vm := .none },
  { cls := 10, slots := #[.long 78], vm := .none },
  { cls := 10, slots := #[.long 79], vm := .none },
  { cls := 10, slots := #[.long 80], vm := .none },
  { cls := 10, slots := #[.long 81], vm := .none },
  { cls := 10, slots := #[.long 82], vm := .none },
  { cls := 10, slots := #[.long 83], vm := .none },
  { cls := 10, slots := #[.long 84], vm := .none },
  { cls := 10, slots := #[.long 85], vm := .none },
  { cls := 10, slots := #[.long 86], vm := .none },
  { cls := 10, slots := #[.long 87], vm := .none },
  { cls := 10, slots := #[.long 88], vm := .none },
  { cls := 10, slots := #[.long 89], vm := .none },
  { cls := 10, slots := #[.long 90], vm := .none },
  { cls := 10, slots := #[.long 91], vm := .none },
  { cls := 10, slots := #[.long 92], vm := .none },
  { cls := 10, slots := #[.long 93], vm := .none },
  { cls := 10, slots := #[.long 94], vm := .none },
  { cls := 10, slots := #[.long 95], vm := .none },
  { cls := 10, slots := #[.long 96], vm := .none },
  { cls := 10, slots := #[.long 97], vm := .none },
  { cls := 10, slots := #[.long 98], vm := .none },
  { cls := 10, slots := #[.long 99], vm := .none },
  { cls := 10, slots := #[.long 100], vm := .none },
  { cls := 10, slots := #[.long 101], vm := .none },
  { cls := 10, slots := #[.long 102], vm := .none },
  { cls := 10, slots := #[.long 103], vm := .none },
  { cls := 10, slots := #[.long 104], vm := .none },
  { cls := 10, slots := #[.long 105], vm := .none },
  { cls := 10, slots := #[.long 106], vm := .none },
  { cls := 10, slots := #[.long 107], vm := .none },
  { cls := 10, slots := #[.long 108], vm := .none },
  { cls := 10, slots := #[.long 109], vm := .none },
  { cls := 10, slots := #[.long 110], vm := .none },
  { cls := 10, slots := #[.long 111], vm := .none },
  { cls := 10, slots := #[.long 112], vm := .none },
  { cls := 10, slots := #[.long 113], vm := .none },
  { cls := 10, slots := #[.long 114], vm := .none },
  { cls := 10, slots := #[.long 115], vm := .none },
  { cls := 10, slots := #[.long 116], vm := .none },
  { cls := 10, slots := #[.long 117], vm := .none },
  { cls := 10, slots := #[.long 118], vm := .none },
  { cls := 10, slots := #[.long 119], vm := .none },
  { cls := 10, slots := #[.long 120], vm := .none },
  { cls := 10, slots := #[.long 121], vm := .none },
  { cls := 10, slots := #[.long 122], vm := .none },
  { cls := 10, slots := #[.long 123], vm := .none },
  { cls := 10, slots := #[.long 124], vm := .none },
  { cls := 10, slots := #[.long 125], vm := .none },
  { cls := 10, slots := #[.long 126], vm := .none },
  { cls := 10, slots := #[.long 127], vm := .none },
  { cls := 8, slots := #[.int (-128)], vm := .none },
  { cls := 8, slots := #[.int (-127)], vm := .none },
  { cls := 8, slots := #[.int (-126)], vm := .none },
  { cls := 8, slots := #[.int (-125)], vm := .none },
  { cls := 8, slots := #[.int (-124)], vm := .none },
  { cls := 8, slots := #[.int (-123)], vm := .none },
  { cls := 8, slots := #[.int (-122)], vm := .none },
  { cls := 8, slots := #[.int (-121)], vm := .none },
  { cls := 8, slots := #[.int (-120)], vm := .none },
  { cls := 8, slots := #[.int (-119)], vm := .none },
  { cls := 8, slots := #[.int (-118)], vm := .none },
  { cls := 8, slots := #[.int (-117)], vm := .none },
  { cls := 8, slots := #[.int (-116)], vm := .none },
  { cls := 8, slots := #[.int (-115)], vm := .none },
  { cls := 8, slots := #[.int (-114)], vm := .none },
  { cls := 8, slots := #[.int (-113)], vm := .none },
  { cls := 8, slots := #[.int (-112)], vm := .none },
  { cls := 8, slots := #[.int (-111)], vm := .none },
  { cls := 8, slots := #[.int (-110)], vm := .none },
  { cls := 8, slots := #[.int (-109)], vm := .none },
  { cls := 8, slots := #[.int (-108)], vm := .none },
  { cls := 8, slots := #[.int (-107)], vm := .none },
  { cls := 8, slots := #[.int (-106)], vm := .none },
  { cls := 8, slots := #[.int (-105)], vm := .none },
  { cls := 8, slots := #[.int (-104)], vm := .none },
  { cls := 8, slots := #[.int (-103)], vm := .none },
  { cls := 8, slots := #[.int (-102)], vm := .none },
  { cls := 8, slots := #[.int (-101)], vm := .none },
  { cls := 8, slots := #[.int (-100)], vm := .none },
  { cls := 8, slots := #[.int (-99)], vm := .none },
  { cls := 8, slots := #[.int (-98)], vm := .none },
  { cls := 8, slots := #[.int (-97)], vm := .none },
  { cls := 8, slots := #[.int (-96)], vm := .none },
  { cls := 8, slots := #[.int (-95)], vm := .none },
  { cls := 8, slots := #[.int (-94)], vm := .none },
  { cls := 8, slots := #[.int (-93)], vm := .none },
  { cls := 8, slots := #[.int (-92)], vm := .none },
  { cls := 8, slots := #[.int (-91)], vm := .none },
  { cls := 8, slots := #[.int (-90)], vm := .none },
  { cls := 8, slots := #[.int (-89)], vm := .none },
  { cls := 8, slots := #[.int (-88)], vm := .none },
  { cls := 8, slots := #[.int (-87)], vm := .none },
  { cls := 8, slots := #[.int (-86)], vm := .none },
  { cls := 8, slots := #[.int (-85)], vm := .none },
  { cls := 8, slots := #[.int (-84)], vm := .none },
  { cls := 8, slots := #[.int (-83)], vm := .none },
  { cls := 8, slots := #[.int (-82)], vm := .none },
  { cls := 8, slots := #[.int (-81)], vm := .none },
  { cls := 8, slots := #[.int (-80)], vm := .none },
  { cls := 8, slots := #[.int (-79)], vm := .none },
  { cls := 8, slots := #[.int (-78)], vm := .none },
  { cls := 8, slots := #[.int (-77)], vm := .none },
  { cls := 8, slots := #[.int (-76)], vm := .none },
  { cls := 8, slots := #[.int (-75)], vm := .none },
  { cls := 8, slots := #[.int (-74)], vm := .none },
  { cls := 8, slots := #[.int (-73)], vm := .none },
  { cls := 8, slots := #[.int (-72)], vm := .none },
  { cls := 8, slots := #[.int (-71)], vm := .none },
  { cls := 8, slots := #[.int (-70)], vm := .none },
  { cls := 8, slots := #[.int (-69)], vm := .none },
  { cls := 8, slots := #[.int (-68)], vm := .none },
  { cls := 8, slots := #[.int (-67)], vm := .none },
  { cls := 8, slots := #[.int (-66)], vm := .none },
  { cls := 8, slots := #[.int (-65)], vm := .none },
  { cls := 8, slots := #[.int (-64)], vm := .none },
  { cls := 8, slots := #[.int (-63)], vm := .none },
  { cls := 8, slots := #[.int (-62)], vm := .none },
  { cls := 8, slots := #[.int (-61)], vm := .none },
  { cls := 8, slots := #[.int (-60)], vm := .none },
  { cls := 8, slots := #[.int (-59)], vm := .none },
  { cls := 8, slots := #[.int (-58)], vm := .none },
  { cls := 8, slots := #[.int (-57)], vm := .none },
  { cls := 8, slots := #[.int (-56)], vm := .none },
  { cls := 8, slots := #[.int (-55)], vm := .none },
  { cls := 8, slots := #[.int (-54)], vm := .none },
  { cls := 8, slots := #[.int (-53)], vm := .none },
  { cls := 8, slots := #[.int (-52)], vm := .none },
  { cls := 8, slots := #[.int (-51)], vm := .none },
  { cls := 8, slots := #[.int (-50)], vm := .none },
  { cls := 8, slots := #[.int (-49)], vm := .none },
  { cls := 8, slots := #[.int (-48)], vm := .none },
  { cls := 8, slots := #[.int (-47)], vm := .none },
  { cls := 8, slots := #[.int (-46)], vm := .none },
  { cls := 8, slots := #[.int (-45)], vm := .none },
  { cls := 8, slots := #[.int (-44)], vm := .none },
  { cls := 8, slots := #[.int (-43)], vm := .none },
  { cls := 8, slots := #[.int (-42)], vm := .none },
  { cls := 8, slots := #[.int (-41)], vm := .none },
  { cls := 8, slots := #[.int (-40)], vm := .none },
  { cls := 8, slots := #[.int (-39)], vm := .none },
  { cls := 8, slots := #[.int (-38)], vm := .none },
  { cls := 8, slots := #[.int (-37)], vm := .none },
  { cls := 8, slots := #[.int (-36)], vm := .none },
  { cls := 8, slots := #[.int (-35)], vm := .none },
  { cls := 8, slots := #[.int (-34)], vm := .none },
  { cls := 8, slots := #[.int (-33)], vm := .none },
  { cls := 8, slots := #[.int (-32)], vm := .none },
  { cls := 8, slots := #[.int (-31)], vm := .none },
  { cls := 8, slots := #[.int (-30)], vm := .none },
  { cls := 8, slots := #[.int (-29)], vm := .none },
  { cls := 8, slots := #[.int (-28)], vm := .none },
  { cls := 8, slots := #[.int (-27)], vm := .none },
  { cls := 8, slots := #[.int (-26)], vm := .none },
  { cls := 8, slots := #[.int (-25)], vm := .none },
  { cls := 8, slots := #[.int (-24)], vm := .none },
  { cls := 8, slots := #[.int (-23)], vm := .none },
  { cls := 8, slots := #[.int (-22)], vm := .none },
  { cls := 8, slots := #[.int (-21)], vm := .none },
  { cls := 8, slots := #[.int (-20)], vm := .none },
  { cls := 8, slots := #[.int (-19)], vm := .none },
  { cls := 8, slots := #[.int (-18)], vm := .none },
  { cls := 8, slots := #[.int (-17)], vm := .none },
  { cls := 8, slots := #[.int (-16)], vm := .none },
  { cls := 8, slots := #[.int (-15)], vm := .none },
  { cls := 8, slots := #[.int (-14)], vm := .none },
  { cls := 8, slots := #[.int (-13)], vm := .none },
  { cls := 8, slots := #[.int (-12)], vm := .none },
  { cls := 8, slots := #[.int (-11)], vm := .none },
  { cls := 8, slots := #[.int (-10)], vm := .none },
  { cls := 8, slots := #[.int (-9)], vm := .none },
  { cls := 8, slots := #[.int (-8)], vm := .none },
  { cls := 8, slots := #[.int (-7)], vm := .none },
  { cls := 8, slots := #[.int (-6)], vm := .none },
  { cls := 8, slots := #[.int (-5)], vm := .none },
  { cls := 8, slots := #[.int (-4)], vm := .none },
  { cls := 8, slots := #[.int (-3)], vm := .none },
  { cls := 8, slots := #[.int (-2)], vm := .none },
  { cls := 8, slots := #[.int (-1)], vm := .none },
  { cls := 8, slots := #[.int 0], vm := .none },
  { cls := 8, slots := #[.int 1], vm := .none },
  { cls := 8, slots := #[.int 2], vm := .none },
  { cls := 8, slots := #[.int 3], vm := .none },
  { cls := 8, slots := #[.int 4], vm := .none },
  { cls := 8, slots := #[.int 5], vm := .none },
  { cls := 8, slots := #[.int 6], vm := .none },
  { cls := 8, slots := #[.int 7], vm := .none },
  { cls := 8, slots := #[.int 8], vm := .none },
  { cls := 8, slots := #[.int 9], vm := .none },
  { cls := 8, slots := #[.int 10], vm := .none },
  { cls := 8, slots := #[.int 11], vm := .none },
  { cls := 8, slots := #[.int 12], vm := .none },
  { cls := 8, slots := #[.int 13], vm := .none },
  { cls := 8, slots := #[.int 14], vm := .none },
  { cls := 8, slots := #[.int 15], vm := .none },
  { cls := 8, slots := #[.int 16], vm := .none },
  { cls := 8, slots := #[.int 17], vm := .none },
  { cls := 8, slots := #[.int 18], vm := .none },
  { cls := 8, slots := #[.int 19], vm := .none },
  { cls := 8, slots := #[.int 20], vm := .none },
  { cls := 8, slots := #[.int 21], vm := .none },
  { cls := 8, slots := #[.int 22], vm := .none },
  { cls := 8, slots := #[.int 23], vm := .none },
  { cls := 8, slots := #[.int 24], vm := .none },
  { cls := 8, slots := #[.int 25], vm := .none },
  { cls := 8, slots := #[.int 26], vm := .none },
  { cls := 8, slots := #[.int 27], vm := .none },
  { cls := 8, slots := #[.int 28], vm := .none },
  { cls := 8, slots := #[.int 29], vm := .none },
  { cls := 8, slots := #[.int 30], vm := .none },
  { cls := 8, slots := #[.int 31], vm := .none },
  { cls := 8, slots := #[.int 32], vm := .none },
  { cls := 8, slots := #[.int 33], vm := .none },
  { cls := 8, slots := #[.int 34], vm := .none },
  { cls := 8, slots := #[.int 35], vm := .none },
  { cls := 8, slots := #[.int 36], vm := .none },
  { cls := 8, slots := #[.int 37], vm := .none },
  { cls := 8, slots := #[.int 38], vm := .none },
  { cls := 8, slots := #[.int 39], vm := .none },
  { cls := 8, slots := #[.int 40], vm := .none },
  { cls := 8, slots := #[.int 41], vm := .none },
  { cls := 8, slots := #[.int 42], vm := .none },
  { cls := 8, slots := #[.int 43], vm := .none },
  { cls := 8, slots := #[.int 44], vm := .none },
  { cls := 8, slots := #[.int 45], vm := .none },
  { cls := 8, slots := #[.int 46], vm := .none },
  { cls := 8, slots := #[.int 47], vm := .none },
  { cls := 8, slots := #[.int 48], vm := .none },
  { cls := 8, slots := #[.int 49], vm := .none },
  { cls := 8, slots := #[.int 50], vm := .none },
  { cls := 8, slots := #[.int 51], vm := .none },
  { cls := 8, slots := #[.int 52], vm := .none },
  { cls := 8, slots := #[.int 53], vm := .none },
  { cls := 8, slots := #[.int 54], vm := .none },
  { cls := 8, slots := #[.int 55], vm := .none },
  { cls := 8, slots := #[.int 56], vm := .none },
  { cls := 8, slots := #[.int 57], vm := .none },
  { cls := 8, slots := #[.int 58], vm := .none },
  { cls := 8, slots := #[.int 59], vm := .none },
  { cls := 8, slots := #[.int 60], vm := .none },
  { cls := 8, slots := #[.int 61], vm := .none },
  { cls := 8, slots := #[.int 62], vm := .none },
  { cls := 8, slots := #[.int 63], vm := .none },
  { cls := 8, slots := #[.int 64], vm := .none },
  { cls := 8, slots := #[.int 65], vm := .none },
  { cls := 8, slots := #[.int 66], vm := .none },
  { cls := 8, slots := #[.int 67], vm := .none },
  { cls := 8, slots := #[.int 68], vm := .none },
  { cls := 8, slots := #[.int 69], vm := .none },
  { cls := 8, slots := #[.int 70], vm := .none },
  { cls := 8, slots := #[.int 71], vm := .none },
  { cls := 8, slots := #[.int 72], vm := .none },
  { cls := 8, slots := #[.int 73], vm := .none },
  { cls := 8, slots := #[.int 74], vm := .none },
  { cls := 8, slots := #[.int 75], vm := .none },
  { cls := 8, slots := #[.int 76], vm := .none },
  { cls := 8, slots := #[.int 77], vm := .none },
  { cls := 8, slots := #[.int 78], vm := .none },
  { cls := 8, slots := #[.int 79], vm := .none },
  { cls := 8, slots := #[.int 80], vm := .none },
  { cls := 8, slots := #[.int 81], vm := .none },
  { cls := 8, slots := #[.int 82], vm := .none },
  { cls := 8, slots := #[.int 83], vm := .none },
  { cls := 8, slots := #[.int 84], vm := .none },
  { cls := 8, slots := #[.int 85], vm := .none },
  { cls := 8, slots := #[.int 86], vm := .none },
  { cls := 8, slots := #[.int 87], vm := .none },
  { cls := 8, slots := #[.int 88], vm := .none },
  { cls := 8, slots := #[.int 89], vm := .none },
  { cls := 8, slots := #[.int 90], vm := .none },
  { cls := 8, slots := #[.int 91], vm := .none },
  { cls := 8, slots := #[.int 92], vm := .none },
  { cls := 8, slots := #[.int 93], vm := .none },
  { cls := 8, slots := #[.int 94], vm := .none },
  { cls := 8, slots := #[.int 95], vm := .none },
  { cls := 8, slots := #[.int 96], vm := .none },
  { cls := 8, slots := #[.int 97], vm := .none },
  { cls := 8, slots := #[.int 98], vm := .none },
  { cls := 8, slots := #[.int 99], vm := .none },
  { cls := 8, slots := #[.int 100], vm := .none },
  { cls := 8, slots := #[.int 101], vm := .none },
  { cls := 8, slots := #[.int 102], vm := .none },
  { cls := 8, slots := #[.int 103], vm := .none },
  { cls := 8, slots := #[.int 104], vm := .none },
  { cls := 8, slots := #[.int 105], vm := .none },
  { cls := 8, slots := #[.int 106], vm := .none },
  { cls := 8, slots := #[.int 107], vm := .none },
  { cls := 8, slots := #[.int 108], vm := .none },
  { cls := 8, slots := #[.int 109], vm := .none },
  { cls := 8, slots := #[.int 110], vm := .none },
  { cls := 8, slots := #[.int 111], vm := .none },
  { cls := 8, slots := #[.int 112], vm := .none },
  { cls := 8, slots := #[.int 113], vm := .none },
  { cls := 8, slots := #[.int 114], vm := .none },
  { cls := 8, slots := #[.int 115], vm := .none },
  { cls := 8, slots := #[.int 116], vm := .none },
  { cls := 8, slots := #[.int 117], vm := .none },
  { cls := 8, slots := #[.int 118], vm := .none },
  { cls := 8, slots := #[.int 119], vm := .none },
  { cls := 8, slots := #[.int 120], vm := .none },
  { cls := 8, slots := #[.int 121], vm := .none },
  { cls := 8, slots := #[.int 122], vm := .none },
  { cls := 8, slots := #[.int 123], vm := .none },
  { cls := 8, slots := #[.int 124], vm := .none },
  { cls := 8, slots := #[.int 125], vm := .none },
  { cls := 8, slots := #[.int 126], vm := .none },
  { cls := 8, slots := #[.int 127], vm := .none }]
def classes : Array Class := #[k0, k1, k2, k3, k4, k5, k6, k7, k8, k9, k10, k11, k12, k13, k14, k15, k16, k17, k18]
def interned : List (Array UInt16 × Addr) := []
def slotsUsed : Nat := 1032
def theMethod : MethodId := ⟨1, 1⟩
def args0 : Array Value := #[.int 5, .long 6, .int 5, .long 6, .int 0]
def aboutOver (below : List Frame) : State where
  vm := { classes := classes, interned := interned.toArray }
  heap := heap
  slotsUsed := slotsUsed
  threads := #[{ frames := .invoking theMethod args0 :: below }]
def below0 : List Frame := [.native { method := ⟨0, 0⟩, args := #[] }]
def about1 : State := aboutOver below0
def p0 : Program := .bare "" "" ""
def e0 : Env := launch0.env 0 0 0
theorem w_frames : about1.frames = Frame.invoking theMethod args0 :: below0 := rfl
set_option maxRecDepth 65536 in
theorem w_args : argsFit about1.vm theMethod args0 = true := by decide +kernel
set_option maxRecDepth 65536 in
theorem w_heap : heapFits about1 = true := by decide +kernel
set_option maxRecDepth 65536 in
theorem w_runnable : about1.curStatus? = some .runnable := by decide +kernel
set_option maxRecDepth 65536 in
theorem w_alone : about1.alone = true := by decide +kernel
set_option maxRecDepth 65536 in
theorem w_named : about1.methodNamed? x = some theMethod := by decide +kernel
set_option maxRecDepth 65536 in
theorem w_hears : about1.hears theMethod below0 = true := by decide +kernel
set_option maxRecDepth 65536 in
theorem w_ripe : about1.ripe theMethod args0 below0 = true := by decide +kernel
theorem w_running : about1.status = .running := rfl
set_option maxRecDepth 65536 in
theorem w_room : about1.hasRoom e0.platform room_1 = true :=
  launch0.hasRoom_least _ room_1 (by decide +kernel) (by decide +kernel) (by decide +kernel) (by decide +kernel) (by decide +kernel) (by decide +kernel)
theorem allAtoms_all (ts : List Jvm.Cond) (a : Array Jvm.Value) (st : Jvm.State) : (allAtoms ts).before a st = ts.all (fun c => c.before a st) := by
  induction ts with
  | nil => rfl
  | cons c t ih =>
    show (Jvm.Cond.and c (allAtoms t)).before a st = _
    rw [Jvm.Cond.before_and, ih, List.all_cons]
def words1 : List Jvm.Cond := Jvm.Cond.code x code maxLocals ret :: tables_1
/-- a 'code' word, met by the world's own term for the bytes: nothing is compared byte by byte -/
theorem code_word {y : MethodName} {bytes : ByteArray} {mx : Nat} {rt : Option FieldType} {a : Array Value} {s : State} {m : MethodId} {meth : Method} {c : Code} (h1 : s.methodNamed? y = some m) (h2 : s.vm.method? m = some meth) (h3 : meth.code = some c) (h4 : c.code = bytes)
    (h5 : (c.maxLocals == mx && c.exceptionTable.isEmpty && decide (c.maxStack ≤ mostOperands) && decide (meth.sig.returnType = rt) && !meth.locks && decide (parseMethodDescriptor y.desc = some meth.sig)) = true) : (Jvm.Cond.code y bytes mx rt).before a s = true := by
  simp only [Bool.and_eq_true, beq_iff_eq, Bool.not_eq_true', decide_eq_true_eq] at h5
  obtain ⟨⟨⟨⟨⟨g1, g2⟩, g3⟩, g4⟩, g5⟩, g6⟩ := h5
  simp [Cond.before, Cond.holds, Cond.value, h1, h2, h3, h4, g1, g2, g3, g4, g5, g6]
def isCode : Jvm.Cond → Bool
  | .code _ _ _ _ => true
  | _ => false
theorem all_split {L : List Jvm.Cond} {P : Jvm.Cond → Bool} (h1 : L.all (fun c => isCode c || P c) = true) (h2 : ∀ c ∈ L.filter isCode, P c = true) : L.all P = true := by
  refine List.all_eq_true.mpr fun c hc => ?_
  have h := List.all_eq_true.mp h1 c hc
  rcases Bool.eq_false_or_eq_true (isCode c) with hi | hi
  · exact h2 c (List.mem_filter.mpr ⟨hc, hi⟩)
  · simpa [hi] using h
set_option maxRecDepth 65536 in
theorem w_c0 : (Jvm.Cond.code x code maxLocals ret).before args0 about1 = true := code_word (m := ⟨1, 1⟩) (meth := k1m1) (c := k1c1) (by decide +kernel) rfl rfl rfl (by decide +kernel)
set_option maxRecDepth 65536 in
theorem w_c1 : (Jvm.Cond.code ({ cls := "com/example/vestnik/vestnik/model/MessageId", name := "<init>", desc := "(IJ)V" } : Jvm.MethodName) prog_20_method_1_code (4 : Nat) (Option.none : Option Jvm.ClassFile.FieldType)).before args0 about1 = true := code_word (m := ⟨2, 0⟩) (meth := k2m0) (c := k2c0) (by decide +kernel) rfl rfl rfl (by decide +kernel)
set_option maxRecDepth 65536 in
theorem w_c2 : (Jvm.Cond.code ({ cls := "java/lang/Object", name := "<init>", desc := "()V" } : Jvm.MethodName) object_method_1_code (1 : Nat) (Option.none : Option Jvm.ClassFile.FieldType)).before args0 about1 = true := code_word (m := ⟨0, 0⟩) (meth := k0m0) (c := k0c0) (by decide +kernel) rfl rfl rfl (by decide +kernel)
set_option maxRecDepth 65536 in
theorem w_c3 : (Jvm.Cond.code ({ cls := "com/example/vestnik/vestnik/model/MessageId", name := "equals", desc := "(Ljava/lang/Object;)Z" } : Jvm.MethodName) prog_20_method_4_code (3 : Nat) (Option.some Jvm.ClassFile.FieldType.boolean)).before args0 about1 = true := code_word (m := ⟨2, 1⟩) (meth := k2m1) (c := k2c1) (by decide +kernel) rfl rfl rfl (by decide +kernel)
set_option maxRecDepth 65536 in
theorem w_c4 : (Jvm.Cond.code ({ cls := "java/lang/Integer", name := "valueOf", desc := "(I)Ljava/lang/Integer;" } : Jvm.MethodName) jdk_33_method_22_code (1 : Nat) (Option.some (Jvm.ClassFile.FieldType.object "java/lang/Integer"))).before args0 about1 = true := code_word (m := ⟨8, 0⟩) (meth := k8m0) (c := k8c0) (by decide +kernel) rfl rfl rfl (by decide +kernel)
set_option maxRecDepth 65536 in
theorem w_c5 : (Jvm.Cond.code ({ cls := "java/lang/Long", name := "valueOf", desc := "(J)Ljava/lang/Long;" } : Jvm.MethodName) jdk_35_method_24_code (3 : Nat) (Option.some (Jvm.ClassFile.FieldType.object "java/lang/Long"))).before args0 about1 = true := code_word (m := ⟨10, 0⟩) (meth := k10m0) (c := k10c0) (by decide +kernel) rfl rfl rfl (by decide +kernel)
set_option maxRecDepth 65536 in
theorem w_c6 : (Jvm.Cond.code ({ cls := "java/lang/Long", name := "<init>", desc := "(J)V" } : Jvm.MethodName) jdk_35_method_26_code (3 : Nat) (Option.none : Option Jvm.ClassFile.FieldType)).before args0 about1 = true := code_word (m := ⟨10, 1⟩) (meth := k10m1) (c := k10c1) (by decide +kernel) rfl rfl rfl (by decide +kernel)
set_option maxRecDepth 65536 in
theorem w_c7 : (Jvm.Cond.code ({ cls := "java/lang/Number", name := "<init>", desc := "()V" } : Jvm.MethodName) jdk_18_method_1_code (1 : Nat) (Option.none : Option Jvm.ClassFile.FieldType)).before args0 about1 = true := code_word (m := ⟨4, 0⟩) (meth := k4m0) (c := k4c0) (by decide +kernel) rfl rfl rfl (by decide +kernel)
set_option maxRecDepth 65536 in
theorem w_c8 : (Jvm.Cond.code ({ cls := "java/lang/Integer", name := "<init>", desc := "(I)V" } : Jvm.MethodName) jdk_33_method_23_code (2 : Nat) (Option.none : Option Jvm.ClassFile.FieldType)).before args0 about1 = true := code_word (m := ⟨8, 1⟩) (meth := k8m1) (c := k8c1) (by decide +kernel) rfl rfl rfl (by decide +kernel)
def codes1 : List Jvm.Cond := [Jvm.Cond.code x code maxLocals ret, Jvm.Cond.code ({ cls := "com/example/vestnik/vestnik/model/MessageId", name := "<init>", desc := "(IJ)V" } : Jvm.MethodName) prog_20_method_1_code (4 : Nat) (Option.none : Option Jvm.ClassFile.FieldType), Jvm.Cond.code ({ cls := "java/lang/Object", name := "<init>", desc := "()V" } : Jvm.MethodName) object_method_1_code (1 : Nat) (Option.none : Option Jvm.ClassFile.FieldType), Jvm.Cond.code ({ cls := "com/example/vestnik/vestnik/model/MessageId", name := "equals", desc := "(Ljava/lang/Object;)Z" } : Jvm.MethodName) prog_20_method_4_code (3 : Nat) (Option.some Jvm.ClassFile.FieldType.boolean), Jvm.Cond.code ({ cls := "java/lang/Integer", name := "valueOf", desc := "(I)Ljava/lang/Integer;" } : Jvm.MethodName) jdk_33_method_22_code (1 : Nat) (Option.some (Jvm.ClassFile.FieldType.object "java/lang/Integer")), Jvm.Cond.code ({ cls := "java/lang/Long", name := "valueOf", desc := "(J)Ljava/lang/Long;" } : Jvm.MethodName) jdk_35_method_24_code (3 : Nat) (Option.some (Jvm.ClassFile.FieldType.object "java/lang/Long")), Jvm.Cond.code ({ cls := "java/lang/Long", name := "<init>", desc := "(J)V" } : Jvm.MethodName) jdk_35_method_26_code (3 : Nat) (Option.none : Option Jvm.ClassFile.FieldType), Jvm.Cond.code ({ cls := "java/lang/Number", name := "<init>", desc := "()V" } : Jvm.MethodName) jdk_18_method_1_code (1 : Nat) (Option.none : Option Jvm.ClassFile.FieldType), Jvm.Cond.code ({ cls := "java/lang/Integer", name := "<init>", desc := "(I)V" } : Jvm.MethodName) jdk_33_method_23_code (2 : Nat) (Option.none : Option Jvm.ClassFile.FieldType)]
set_option maxRecDepth 65536 in
theorem codes_eq : words1.filter isCode = codes1 := rfl
theorem w_codes : ∀ c ∈ words1.filter isCode, c.before args0 about1 = true := by
  rw [codes_eq]
  intro c hc
  simp only [codes1, List.mem_cons, List.not_mem_nil, or_false] at hc
  rcases hc with rfl | rfl | rfl | rfl | rfl | rfl | rfl | rfl | rfl
  · exact w_c0
  · exact w_c1
  · exact w_c2
  · exact w_c3
  · exact w_c4
  · exact w_c5
  · exact w_c6
  · exact w_c7
  · exact w_c8
set_option maxRecDepth 65536 in
theorem w_t1 : (words1.take 24).all (fun c => isCode c || c.before args0 about1) = true := by decide +kernel
set_option maxRecDepth 65536 in
theorem w_t2 : ((words1.drop 24).take 24).all (fun c => isCode c || c.before args0 about1) = true := by decide +kernel
set_option maxRecDepth 65536 in
theorem w_t3 : ((words1.drop 24).drop 24).all (fun c => isCode c || c.before args0 about1) = true := by decide +kernel
theorem w_tables : (allAtoms (Jvm.Cond.code x code maxLocals ret :: tables_1)).before args0 about1 = true := by
  rw [allAtoms_all]
  show words1.all (fun c => c.before args0 about1) = true
  refine all_split ?_ w_codes
  rw [← List.take_append_drop 24 words1, List.all_append, w_t1, ← List.take_append_drop 24 (words1.drop 24), List.all_append, w_t2, w_t3]
  rfl
set_option maxRecDepth 65536 in
theorem w_rest : rest_1_c.before args0 about1 = true := by decide +kernel
set_option maxRecDepth 65536 in
theorem w_case : (Jvm.Cond.and given_1 narrow_1).before args0 about1 = true := by decide +kernel
theorem w_applies : (headSpec (Jvm.Cond.code x code maxLocals ret :: tables_1) room_1).applies x e0.platform about1 = true :=
  (Spec.applies_iff w_frames).mpr ⟨w_running, w_runnable, w_alone, w_named, w_hears, w_ripe, w_room, w_tables⟩
theorem atStart : AtStart classFile x code maxLocals ret World_1 tables_1 room_1 Calls_1 rest_1 Pre_1 launch0 p0 e0 about1 theMethod args0 below0 :=
  ⟨lists_1, trivial, launch0.admits_env _ _ _, launch0.least_env, fairChoices_fair.cas, fairChoices_fair.clock, w_frames, w_args, w_heap, w_applies, trivial, w_rest, w_case⟩
end start1
theorem witness_1 : WitnessClaimed_1 := ⟨start1.p0, start1.e0, start1.about1, start1.theMethod, start1.args0, start1.below0, start1.atStart⟩
end Jvm.Pilot.@@N@@
