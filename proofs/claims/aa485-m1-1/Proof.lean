import JvmDerived
import JvmDerived.Pilot.@@N@@Statement
import JvmDerived.Pilot.@@N@@Code
set_option linter.unusedVariables false
set_option linter.unusedSimpArgs false
namespace Jvm.Pilot.@@N@@
open Jvm Jvm.ClassFile Sem Op Lib Jvm.Free Jvm.Stand Jvm.LawKit Jvm.RoadKit Bundle Jvm.Pilot.@@N@@.Jvm.D
section Own
variable {p : Program} {l : Launch} {e : Env} {R : Room} {s : State} {m : MethodId} {args : Array Value} {below : List Frame} {meth : Method} {c : Code} {T : State} {locs : List Loc} {cells slots : Nat} {Z : State} {a0 : Array Value} {h : Heap}
/-- the walk ends from A: it returns, Q holds, the frame is kept -/
def own_E (p : Program) (e : Env) (below : List Frame) (s : State) (Q : Option Value → Heap → List Loc → Prop) (K N : Nat) (A : State) : Prop :=
  ∃ t o, Steps p.tables e below A t ∧ t.status = .running ∧ Ended t below o ∧ ∃ v L, o = .returned v ∧ Q v t.heap L ∧ FrameEnd s o t L K N
variable {Q : Option Value → Heap → List Loc → Prop} {K N : Nat} {A A' : State}
theorem own_go (h : ∀ t, Steps p.tables e below A' t → Steps p.tables e below A t) (k : own_E p e below s Q K N A') : own_E p e below s Q K N A := by
  obtain ⟨t, o, h1, h2⟩ := k
  exact ⟨t, o, h _ h1, h2⟩
theorem own_ret (X : Stand p l e R s m args below meth c T locs cells slots) (hx : p.tables.exec = Jvm.exec) {pc : Nat} {Ls : Array Slot} {w : Value} {t : FieldType} {i : Instr} {rest : List Value} (hret : meth.sig.returnType = some t) (hlk : meth.locks = false) (hn : narrow t w = w)
    (hi : (i = .ireturn ∧ (t = .int ∨ t = .boolean ∨ t = .byte ∨ t = .char ∨ t = .short) ∧ ∃ z, w = .int z) ∨ (i = .lreturn ∧ t = .long ∧ ∃ z, w = .long z) ∨ (i = .dreturn ∧ t = .double ∧ ∃ z, w = .double z) ∨ (i = .freturn ∧ t = .float ∧ ∃ z, w = .float z) ∨ (i = .areturn ∧ t.isReference = true ∧ w.isRef = true))
    (hd : decode c.code pc = .ok (i, 1)) (hQ : Q (some w) T.heap locs) (hK : cells ≤ K) (hN : slots ≤ N) : own_E p e below s Q K N (T.setTop (mkF m pc Ls (w :: rest))) := by
  obtain ⟨fs, hr, hrun, hended, hW, hsame⟩ := X.leave (v := some w) (fun h => by rw [hret] at h; cases h) hlk
  exact ⟨_, _, retOut X hx hret hn hi hd hr, hrun, hended, _, _, rfl, hQ, ⟨_, rfl⟩, hW, hsame.mono hK hN⟩
theorem own_ret0 (X : Stand p l e R s m args below meth c T locs cells slots) (hx : p.tables.exec = Jvm.exec) {pc : Nat} {Ls : Array Slot} (hret : meth.sig.returnType = none) (hlk : meth.locks = false)
    (hd : decode c.code pc = .ok (.return_, 1)) (hQ : Q none T.heap locs) (hK : cells ≤ K) (hN : slots ≤ N) : own_E p e below s Q K N (T.setTop (mkF m pc Ls [])) := by
  obtain ⟨fs, hr, hrun, hended, hW, hsame⟩ := X.leave (v := none) (fun _ => rfl) hlk
  exact ⟨_, _, X.returnOut hx hret hd hr, hrun, hended, _, _, rfl, hQ, ⟨_, rfl⟩, hW, hsame.mono hK hN⟩
/-- what a callee is asked: its contract -/
abbrev own_M (l : Launch) (y : MethodName) (bytes : ByteArray) (maxL : Nat) (ret : Option FieldType) (rm : Room) (Z : State) (as' : Array Value) (h : Heap) (Q : Option Value → Heap → List Loc → Prop) : Prop :=
  MetFree l y (head1 [Jvm.Cond.code y bytes maxL ret] rm) (fun a U => a = as' ∧ Z.Warmed39 U.vm ∧ U.heap = h) (fun _ _ _ _ _ => True) (fun _ U o U' => ∃ v L, o = .returned v ∧ Q v U'.heap L ∧ FrameEnd U o U' L rm.cells rm.slots)
theorem own_callS (X : Stand p l e R s m args below meth c T locs cells slots) (hx : p.tables.exec = Jvm.exec) (hZ : Z.Warmed39 s.vm) {own : String} {index : Nat} {y : MethodName} {bytes : ByteArray} {maxL : Nat} {ret : Option FieldType} {rm : Room} {W : Nat} {argsL rest : List Value}
    (hown : s.vm.findClass own = some m.cls) (w1 : (Jvm.Cond.methodLink own index y).before a0 Z = true) (w2 : (Jvm.Cond.static y).before a0 Z = true) (w3 : (Jvm.Cond.initialized y.cls).before a0 Z = true) (w4 : (Jvm.Cond.code y bytes maxL ret).before a0 Z = true)
    (hy : y.cls ≠ "java/lang/invoke/MethodHandle" ∧ y.cls ≠ "java/lang/invoke/VarHandle") (hM : own_M l y bytes maxL ret rm Z argsL.toArray h Q) (eT : T.heap = h)
    (hf : rm.frames + 1 ≤ R.frames) (hl : W + (maxL + 11) + rm.locals ≤ R.locals) (hc : cells + rm.cells ≤ R.cells) (hs : slots + rm.slots ≤ R.slots)
    {g : JFrame} (hg : g.method = m) (hsize : g.locals.size = c.maxLocals) (hlen : ∀ sig, parseMethodDescriptor y.desc = some sig → argsL.length = sig.parameters.length)
    (hstack : g.stack = argsL.reverse ++ rest) (hW : 2 * g.monitorRoom + (rest.map fun v => v.category).sum ≤ W) (hdg : decode c.code g.pc = .ok (.invokestatic index, 3)) :
    ∃ v T' L, Stand p l e R s m args below meth c T' (locs ++ L) (cells + rm.cells) (slots + rm.slots) ∧ Q v T'.heap L ∧ ∀ target, Steps p.tables e below (T'.setTop { g with pc := g.pc + 3, stack := v.toList ++ rest }) target → Steps p.tables e below (T.setTop g) target := by
  obtain ⟨v, _, ⟨T', L', k', n'⟩, -, X', ⟨L, hQ, e1, e2, e3⟩, st⟩ := Jvm.LawKit.callS X hx (y := y) hown (mvT hZ w1) (mvT hZ w2) (mvT hZ w3) (mvT hZ w4) hy (backOf (W := W) hM hZ w4 w3 hf hl) hg hsize hlen hstack hW hdg (fun _ _ => ⟨rfl, eT, hc, hs⟩)
  dsimp only [Pt.U, Pt.locs, Pt.cells, Pt.slots] at X' e1 e2 e3 st hQ
  subst e1 e2 e3
  exact ⟨v, T', L, X', hQ, st⟩
theorem own_callV (X : Stand p l e R s m args below meth c T locs cells slots) (hx : p.tables.exec = Jvm.exec) (hZ : Z.Warmed39 s.vm) {own C : String} {index : Nat} {y : MethodName} {bytes : ByteArray} {maxL : Nat} {ret : Option FieldType} {rm : Room} {W : Nat} {b : Addr} {argsL rest : List Value}
    (hown : s.vm.findClass own = some m.cls) (w1 : (Jvm.Cond.methodLink own index y).before a0 Z = true) (w2 : (Jvm.Cond.declares y).before a0 Z = true) (w3 : (Jvm.Cond.selects C y y).before a0 Z = true) (w4 : (Jvm.Cond.instanceMethod y).before a0 Z = true) (w5 : (Jvm.Cond.code y bytes maxL ret).before a0 Z = true) (w6 : (Jvm.Cond.initialized y.cls).before a0 Z = true)
    (hy : y.cls ≠ "java/lang/invoke/MethodHandle" ∧ y.cls ≠ "java/lang/invoke/VarHandle") (hM : own_M l y bytes maxL ret rm Z (.ref b :: argsL).toArray h Q) (eT : T.heap = h) (E : Exa Z h b C)
    (hf : rm.frames + 1 ≤ R.frames) (hl : W + (maxL + 11) + rm.locals ≤ R.locals) (hc : cells + rm.cells ≤ R.cells) (hs : slots + rm.slots ≤ R.slots)
    {g : JFrame} (hg : g.method = m) (hsize : g.locals.size = c.maxLocals) (hlen : ∀ sig, parseMethodDescriptor y.desc = some sig → argsL.length = sig.parameters.length)
    (hstack : g.stack = argsL.reverse ++ .ref b :: rest) (hW : 2 * g.monitorRoom + (rest.map fun v => v.category).sum ≤ W) (hdg : decode c.code g.pc = .ok (.invokevirtual index, 3)) :
    ∃ v T' L, Stand p l e R s m args below meth c T' (locs ++ L) (cells + rm.cells) (slots + rm.slots) ∧ Q v T'.heap L ∧ ∀ target, Steps p.tables e below (T'.setTop { g with pc := g.pc + 3, stack := v.toList ++ rest }) target → Steps p.tables e below (T.setTop g) target := by
  obtain ⟨cq, kq, q1, -, q3⟩ := isOf hZ eT E
  obtain ⟨v, _, ⟨T', L', k', n'⟩, -, X', ⟨L, hQ, e1, e2, e3⟩, st⟩ := X.virtualBack hx (y := y) (z := y) hown (mvT hZ w1) (mvT hZ w2) (notFace_of_selects (args := #[]) (mvT hZ w3)) (mvT hZ w3) (mvT hZ w4) hy (backOf (W := W) hM hZ w5 w6 hf hl) q1 q3 hg hsize (Steps.refl _) hlen hstack hW hdg (fun _ _ => ⟨rfl, eT, hc, hs⟩)
  dsimp only [Pt.U, Pt.locs, Pt.cells, Pt.slots] at X' e1 e2 e3 st hQ
  subst e1 e2 e3
  exact ⟨v, T', L, X', hQ, fun _ k => st.trans k⟩
theorem own_callI (X : Stand p l e R s m args below meth c T locs cells slots) (hx : p.tables.exec = Jvm.exec) (hZ : Z.Warmed39 s.vm) {own : String} {index : Nat} {y : MethodName} {bytes : ByteArray} {maxL : Nat} {rm : Room} {W : Nat} {b : Addr} {argsL rest : List Value}
    (hown : s.vm.findClass own = some m.cls) (hy1 : y.name = "<init>") (w1 : (Jvm.Cond.methodLink own index y).before a0 Z = true) (w2 : (Jvm.Cond.instanceMethod y).before a0 Z = true) (w3 : (Jvm.Cond.initialized y.cls).before a0 Z = true) (w4 : (Jvm.Cond.code y bytes maxL none).before a0 Z = true)
    (hy : y.cls ≠ "java/lang/invoke/MethodHandle" ∧ y.cls ≠ "java/lang/invoke/VarHandle") (hM : own_M l y bytes maxL none rm Z (.ref b :: argsL).toArray h Q) (eT : T.heap = h)
    (hf : rm.frames + 1 ≤ R.frames) (hl : W + (maxL + 11) + rm.locals ≤ R.locals) (hc : cells + rm.cells ≤ R.cells) (hs : slots + rm.slots ≤ R.slots)
    {g : JFrame} (hg : g.method = m) (hsize : g.locals.size = c.maxLocals) (hlen : ∀ sig, parseMethodDescriptor y.desc = some sig → argsL.length = sig.parameters.length)
    (hstack : g.stack = argsL.reverse ++ .ref b :: rest) (hW : 2 * g.monitorRoom + (rest.map fun v => v.category).sum ≤ W) (hdg : decode c.code g.pc = .ok (.invokespecial index, 3)) :
    ∃ v T' L, Stand p l e R s m args below meth c T' (locs ++ L) (cells + rm.cells) (slots + rm.slots) ∧ Q v T'.heap L ∧ ∀ target, Steps p.tables e below (T'.setTop { g with pc := g.pc + 3, stack := v.toList ++ rest }) target → Steps p.tables e below (T.setTop g) target := by
  obtain ⟨v, _, ⟨T', L', k', n'⟩, -, X', ⟨L, hQ, e1, e2, e3⟩, st⟩ := X.specialBack hx (y := y) hy1 hown (mvT hZ w1) (mvT hZ w2) (mvT hZ w4) hy (backOf (W := W) hM hZ w4 w3 hf hl) hg hsize (Steps.refl _) hlen hstack hW hdg (fun _ _ => ⟨rfl, eT, hc, hs⟩)
  dsimp only [Pt.U, Pt.locs, Pt.cells, Pt.slots] at X' e1 e2 e3 st hQ
  subst e1 e2 e3
  exact ⟨v, T', L, X', hQ, fun _ k => st.trans k⟩
theorem own_callVU (X : Stand p l e R s m args below meth c T locs cells slots) (hx : p.tables.exec = Jvm.exec) (hZ : Z.Warmed39 s.vm) {own C owner : String} {index : Nat} {y z : MethodName} {bytes : ByteArray} {maxL : Nat} {ret : Option FieldType} {rm : Room} {W : Nat} {b : Addr} {argsL rest : List Value}
    (hown : s.vm.findClass own = some m.cls) (w1 : (Jvm.Cond.methodLink own index y).before a0 Z = true) (w2 : (Jvm.Cond.sameMethod y.cls owner y.name y.desc).before a0 Z = true) (w2' : (Jvm.Cond.declares ⟨owner, y.name, y.desc⟩).before a0 Z = true) (w3 : (Jvm.Cond.selects C y z).before a0 Z = true) (w4 : (Jvm.Cond.instanceMethod z).before a0 Z = true) (w5 : (Jvm.Cond.code z bytes maxL ret).before a0 Z = true) (w6 : (Jvm.Cond.initialized z.cls).before a0 Z = true)
    (hy : owner ≠ "java/lang/invoke/MethodHandle" ∧ owner ≠ "java/lang/invoke/VarHandle") (hM : own_M l z bytes maxL ret rm Z (.ref b :: argsL).toArray h Q) (eT : T.heap = h) (E : Exa Z h b C)
    (hf : rm.frames + 1 ≤ R.frames) (hl : W + (maxL + 11) + rm.locals ≤ R.locals) (hc : cells + rm.cells ≤ R.cells) (hs : slots + rm.slots ≤ R.slots)
    {g : JFrame} (hg : g.method = m) (hsize : g.locals.size = c.maxLocals) (hlen : ∀ sig, parseMethodDescriptor y.desc = some sig → argsL.length = sig.parameters.length)
    (hstack : g.stack = argsL.reverse ++ .ref b :: rest) (hW : 2 * g.monitorRoom + (rest.map fun v => v.category).sum ≤ W) (hdg : decode c.code g.pc = .ok (.invokevirtual index, 3)) :
    ∃ v T' L, Stand p l e R s m args below meth c T' (locs ++ L) (cells + rm.cells) (slots + rm.slots) ∧ Q v T'.heap L ∧ ∀ target, Steps p.tables e below (T'.setTop { g with pc := g.pc + 3, stack := v.toList ++ rest }) target → Steps p.tables e below (T.setTop g) target := by
  obtain ⟨cq, kq, q1, -, q3⟩ := isOf hZ eT E
  obtain ⟨v, _, ⟨T', L', k', n'⟩, -, X', ⟨L, hQ, e1, e2, e3⟩, st⟩ := X.virtualBackUp hx (x := y) (y := z) hown (mvT hZ w1) (mvT hZ w2) (mvT hZ w2') hy (mvT hZ w3) (mvT hZ w4) (backOf (W := W) hM hZ w5 w6 hf hl) q1 q3 hg hsize (Steps.refl _) hlen hstack hW hdg (fun _ _ => ⟨rfl, eT, hc, hs⟩)
  dsimp only [Pt.U, Pt.locs, Pt.cells, Pt.slots] at X' e1 e2 e3 st hQ
  subst e1 e2 e3
  exact ⟨v, T', L, X', hQ, fun _ k => st.trans k⟩
theorem own_aaload (X : Stand p l e R s m args below meth c T locs cells slots) (hx : p.tables.exec = Jvm.exec) (hZ : Z.Warmed39 s.vm) (eT : T.heap = h) {a : Addr} {cl : Cell} {ty : FieldType} (F : Arr Z h a cl ty) (hty : ty.isReference = true) {j : Int32} {v : Value} (hin : ¬ (j < 0 ∨ cl.slots.size ≤ j.toNatClampNeg)) (hv : cl.slots[j.toNatClampNeg]? = some v)
    {g : JFrame} (hg : g.method = m) {rest : List Value} (hs : g.stack = .int j :: .ref a :: rest) (hd : decode c.code g.pc = .ok (.aaload, 1)) : ∀ target, Steps p.tables e below (T.setTop { g with pc := g.pc + 1, stack := v :: rest }) target → Steps p.tables e below (T.setTop g) target :=
  X.aaload hx (by rw [eT]; exact F.1) (State.isArrayOf_alike hZ.alike F.2.1) hty F.2.2 hin hv hg hs hd
theorem own_laload (X : Stand p l e R s m args below meth c T locs cells slots) (hx : p.tables.exec = Jvm.exec) (hZ : Z.Warmed39 s.vm) (eT : T.heap = h) {a : Addr} {cl : Cell} (F : Arr Z h a cl .long) {j : Int32} {v : Value} (hin : ¬ (j < 0 ∨ cl.slots.size ≤ j.toNatClampNeg)) (hv : cl.slots[j.toNatClampNeg]? = some v)
    {g : JFrame} (hg : g.method = m) {rest : List Value} (hs : g.stack = .int j :: .ref a :: rest) (hd : decode c.code g.pc = .ok (.laload, 1)) : ∀ target, Steps p.tables e below (T.setTop { g with pc := g.pc + 1, stack := v :: rest }) target → Steps p.tables e below (T.setTop g) target :=
  X.laload hx (by rw [eT]; exact F.1) (State.isArrayOf_alike hZ.alike F.2.1) F.2.2 hin hv hg hs hd
theorem own_baload (X : Stand p l e R s m args below meth c T locs cells slots) (hx : p.tables.exec = Jvm.exec) (hZ : Z.Warmed39 s.vm) (eT : T.heap = h) {a : Addr} {cl : Cell} (F : Arr Z h a cl .byte) {j : Int32} {v : Value} (hin : ¬ (j < 0 ∨ cl.slots.size ≤ j.toNatClampNeg)) (hv : cl.slots[j.toNatClampNeg]? = some v)
    {g : JFrame} (hg : g.method = m) {rest : List Value} (hs : g.stack = .int j :: .ref a :: rest) (hd : decode c.code g.pc = .ok (.baload, 1)) : ∀ target, Steps p.tables e below (T.setTop { g with pc := g.pc + 1, stack := v :: rest }) target → Steps p.tables e below (T.setTop g) target :=
  X.baloadBytes hx (by rw [eT]; exact F.1) (State.isArrayOf_alike hZ.alike F.2.1) F.2.2 hin hv hg hs hd
theorem own_zaload (X : Stand p l e R s m args below meth c T locs cells slots) (hx : p.tables.exec = Jvm.exec) (hZ : Z.Warmed39 s.vm) (eT : T.heap = h) {a : Addr} {cl : Cell} (F : Arr Z h a cl .boolean) {j : Int32} {v : Value} (hin : ¬ (j < 0 ∨ cl.slots.size ≤ j.toNatClampNeg)) (hv : cl.slots[j.toNatClampNeg]? = some v)
    {g : JFrame} (hg : g.method = m) {rest : List Value} (hs : g.stack = .int j :: .ref a :: rest) (hd : decode c.code g.pc = .ok (.baload, 1)) : ∀ target, Steps p.tables e below (T.setTop { g with pc := g.pc + 1, stack := v :: rest }) target → Steps p.tables e below (T.setTop g) target :=
  X.baloadBooleans hx (by rw [eT]; exact F.1) (State.isArrayOf_alike hZ.alike F.2.1) F.2.2 hin hv hg hs hd
theorem own_alen (X : Stand p l e R s m args below meth c T locs cells slots) (hx : p.tables.exec = Jvm.exec) (hZ : Z.Warmed39 s.vm) (eT : T.heap = h) {a : Addr} {cl : Cell} {ty : FieldType} (F : Arr Z h a cl ty) {n : Int32} (hn : cl.slots.size.toInt32 = n)
    {g : JFrame} (hg : g.method = m) {rest : List Value} (hs : g.stack = .ref a :: rest) (hd : decode c.code g.pc = .ok (.arraylength, 1)) : ∀ target, Steps p.tables e below (T.setTop { g with pc := g.pc + 1, stack := .int n :: rest }) target → Steps p.tables e below (T.setTop g) target :=
  fun t k => X.arraylength hx (by rw [eT]; exact F.1) (State.isArrayOf_alike hZ.alike F.2.1) hg hs hd t (by rw [hn]; exact k)
theorem own_elemS {t u : Term} {a w : Addr} {cl : Cell} {k : Int32} (ev : t.eval args s none [] s = some (.ref a)) (hc : s.heap[a]? = some cl) (evu : u.eval args s none [] s = some (.ref w)) (he : (Jvm.Cond.eq (.elem t (.int k)) u).value args s none s [] = some true) :
    ¬ (k < 0 ∨ cl.slots.size ≤ k.toNatClampNeg) ∧ cl.slots[k.toNatClampNeg]? = some (.ref w) := by
  obtain ⟨x, y, h1, h2, h3, h4⟩ := cmp_v (Or.inl he)
  cases evu.symm.trans h2
  have h5 := gotT (eq_R h1 h2 h4.2 rfl) he
  subst h5
  exact elem_in h1 ev (Term.int_eval k) hc
theorem own_lenS {t : Term} {a : Addr} {cl : Cell} {n : Int32} (ev : t.eval args s none [] s = some (.ref a)) (hc : s.heap[a]? = some cl) (he : (Jvm.Cond.eq (.length t) (.int n)).value args s none s [] = some true) : cl.slots.size < 2 ^ 31 ∧ cl.slots.size.toInt32 = n := by
  obtain ⟨x, y, h1, h2, h3, h4⟩ := cmp_v (Or.inl he)
  cases (Term.int_eval n).symm.trans h2
  obtain ⟨z, rfl⟩ := h4
  have h5 : z = n := by simpa [Jvm.Cond.value, h1, h2] using he
  subst h5
  obtain ⟨a', c', q1, q2, q3⟩ := Term.length_spec h1
  cases ev.symm.trans q1
  have q4 := (State.arrayAt?_spec q2).1
  cases hc.symm.trans q4
  refine ⟨?_, (Value.int.inj q3).symm⟩
  by_cases hl : cl.slots.size < 2 ^ 31
  · exact hl
  · simp [Term.eval, ev, q2, hl] at h1
/-- from a sheet's words to facts at the start -/
theorem own_const {C n d k0 : String} (hx : (Jvm.Cond.exactly (.static C n d) k0).value args s none s [] = some true) (hi : (Jvm.Cond.initialized C).before args s = true) (hl : (Jvm.Cond.laysStatic C n d).before args s = true) :
    ∃ a, (Term.static C n d).eval args s none [] s = some (.ref a) ∧ Sta s s.heap C n d (.ref a) ∧ Exa s s.heap a k0 := by
  obtain ⟨a, ev⟩ := exa_v hx
  exact ⟨a, ev, Sta.start ev (Or.inr ⟨hi, hl⟩), Exa.start ev hx⟩
theorem own_fldI {t : Term} {a : Addr} {O n d : String} {k : Int32} (ev : t.eval args s none [] s = some (.ref a)) (he : (Jvm.Cond.eq (.field t O n d) (.int k)).value args s none s [] = some true) : Fld s s.heap a O n d (.int k) := by
  obtain ⟨x, y, h1, h2, h3, h4⟩ := cmp_v (Or.inl he)
  have h5 := h1
  rw [fld_at ev] at h5
  have h6 : y = .int k := (Option.some.inj ((Term.int_eval k).symm.trans h2)).symm
  subst h6
  obtain ⟨z, rfl⟩ := h4
  have h7 : z = k := by simpa [Jvm.Cond.value, h1, h2] using he
  subst h7
  exact Fld.start h5
end Own
section Own2
variable {p : Program} {l : Launch} {e : Env} {R : Room} {s : State} {m : MethodId} {args : Array Value} {below : List Frame} {meth : Method} {c : Code} {T : State} {locs : List Loc} {cells slots : Nat} {Z : State} {a0 : Array Value} {h : Heap}
variable {a : Addr} {k : ClassId} {ty : FieldType} {z : Int32} {vs : List Value} {dv : Value}
/-- a fresh array of n places, each said -/
theorem own_arvNew {n : Nat} (A : Arr Z h a (newA k ty z) ty) (q : ¬ z < 0) : Arv Z h a k ty z (List.replicate n (defaultValue ty)) (defaultValue ty) := (Arv.new A q).pad (pad_rep [] _ n)
theorem own_stR (X : Stand p l e R s m args below meth c T locs cells slots) (hx : p.tables.exec = Jvm.exec) (hZ : Z.Warmed39 s.vm) (eT : T.heap = h) {C : String} {y : Addr} (F : Arv Z h a k (.object C) z vs dv) (O : Ovr Z k C) (I : Ins Z h y C true) {j : Int32} (i : Nat) (hj : j.toNatClampNeg = i) (hi : i < vs.length) (hin : ¬ j < 0 ∧ j < z)
    {g : JFrame} (hg : g.method = m) {rest : List Value} (hs : g.stack = .ref y :: .int j :: .ref a :: rest) (hd : decode c.code g.pc = .ok (.aastore, 1)) :
    ∃ T' h', Stand p l e R s m args below meth c T' (locs ++ [⟨a, j.toNatClampNeg⟩]) cells slots ∧ T'.heap = h' ∧ Wr h h' a j.toNatClampNeg (.ref y) ∧ Arv Z h' a k (.object C) z (vs.set i (.ref y)) dv ∧ ∀ target, Steps p.tables e below (T'.setTop { g with pc := g.pc + 1, stack := rest }) target → Steps p.tables e below (T.setTop g) target := by
  obtain ⟨cl, A, q1, S, q3, H, G⟩ := F
  obtain ⟨T', h', X', e', W, st⟩ := stR X hx hZ eT A (inb_of S hin) rfl (Sto.ofV A q1 O I) hg hs hd
  exact ⟨T', h', X', e', W, Arv.set A q1 S q3 H G rfl W i hj hi, st⟩
theorem own_stZ (X : Stand p l e R s m args below meth c T locs cells slots) (hx : p.tables.exec = Jvm.exec) (hZ : Z.Warmed39 s.vm) (eT : T.heap = h) {x : Int32} (F : Arv Z h a k .boolean z vs dv) {j : Int32} (i : Nat) (hj : j.toNatClampNeg = i) (hi : i < vs.length) (hin : ¬ j < 0 ∧ j < z)
    {g : JFrame} (hg : g.method = m) {rest : List Value} (hs : g.stack = .int x :: .int j :: .ref a :: rest) (hd : decode c.code g.pc = .ok (.bastore, 1)) :
    ∃ T' h', Stand p l e R s m args below meth c T' (locs ++ [⟨a, j.toNatClampNeg⟩]) cells slots ∧ T'.heap = h' ∧ Wr h h' a j.toNatClampNeg (.int (nar .boolean x)) ∧ Arv Z h' a k .boolean z (vs.set i (.int (nar .boolean x))) dv ∧ ∀ target, Steps p.tables e below (T'.setTop { g with pc := g.pc + 1, stack := rest }) target → Steps p.tables e below (T.setTop g) target := by
  obtain ⟨cl, A, q1, S, q3, H, G⟩ := F
  obtain ⟨T', h', X', e', W, st⟩ := stZ X hx hZ eT A (inb_of S hin) hg hs hd
  exact ⟨T', h', X', e', W, Arv.set A q1 S q3 H G (fits_nar_bool x) W i hj hi, st⟩
theorem own_stB (X : Stand p l e R s m args below meth c T locs cells slots) (hx : p.tables.exec = Jvm.exec) (hZ : Z.Warmed39 s.vm) (eT : T.heap = h) {x : Int32} (F : Arv Z h a k .byte z vs dv) {j : Int32} (i : Nat) (hj : j.toNatClampNeg = i) (hi : i < vs.length) (hin : ¬ j < 0 ∧ j < z)
    {g : JFrame} (hg : g.method = m) {rest : List Value} (hs : g.stack = .int x :: .int j :: .ref a :: rest) (hd : decode c.code g.pc = .ok (.bastore, 1)) :
    ∃ T' h', Stand p l e R s m args below meth c T' (locs ++ [⟨a, j.toNatClampNeg⟩]) cells slots ∧ T'.heap = h' ∧ Wr h h' a j.toNatClampNeg (.int (nar .byte x)) ∧ Arv Z h' a k .byte z (vs.set i (.int (nar .byte x))) dv ∧ ∀ target, Steps p.tables e below (T'.setTop { g with pc := g.pc + 1, stack := rest }) target → Steps p.tables e below (T.setTop g) target := by
  obtain ⟨cl, A, q1, S, q3, H, G⟩ := F
  obtain ⟨T', h', X', e', W, st⟩ := stB X hx hZ eT A (inb_of S hin) hg hs hd
  exact ⟨T', h', X', e', W, Arv.set A q1 S q3 H G (fits_nar_byte x) W i hj hi, st⟩
theorem own_stJ (X : Stand p l e R s m args below meth c T locs cells slots) (hx : p.tables.exec = Jvm.exec) (hZ : Z.Warmed39 s.vm) (eT : T.heap = h) {x : Int64} (F : Arv Z h a k .long z vs dv) {j : Int32} (i : Nat) (hj : j.toNatClampNeg = i) (hi : i < vs.length) (hin : ¬ j < 0 ∧ j < z)
    {g : JFrame} (hg : g.method = m) {rest : List Value} (hs : g.stack = .long x :: .int j :: .ref a :: rest) (hd : decode c.code g.pc = .ok (.lastore, 1)) :
    ∃ T' h', Stand p l e R s m args below meth c T' (locs ++ [⟨a, j.toNatClampNeg⟩]) cells slots ∧ T'.heap = h' ∧ Wr h h' a j.toNatClampNeg (.long x) ∧ Arv Z h' a k .long z (vs.set i (.long x)) dv ∧ ∀ target, Steps p.tables e below (T'.setTop { g with pc := g.pc + 1, stack := rest }) target → Steps p.tables e below (T.setTop g) target := by
  obtain ⟨cl, A, q1, S, q3, H, G⟩ := F
  obtain ⟨T', h', X', e', W, st⟩ := stJ X hx hZ eT A (inb_of S hin) hg hs hd
  exact ⟨T', h', X', e', W, Arv.set A q1 S q3 H G rfl W i hj hi, st⟩
theorem own_stC (X : Stand p l e R s m args below meth c T locs cells slots) (hx : p.tables.exec = Jvm.exec) (hZ : Z.Warmed39 s.vm) (eT : T.heap = h) {x : Int32} (F : Arv Z h a k .char z vs dv) {j : Int32} (i : Nat) (hj : j.toNatClampNeg = i) (hi : i < vs.length) (hin : ¬ j < 0 ∧ j < z)
    {g : JFrame} (hg : g.method = m) {rest : List Value} (hs : g.stack = .int x :: .int j :: .ref a :: rest) (hd : decode c.code g.pc = .ok (.castore, 1)) :
    ∃ T' h', Stand p l e R s m args below meth c T' (locs ++ [⟨a, j.toNatClampNeg⟩]) cells slots ∧ T'.heap = h' ∧ Wr h h' a j.toNatClampNeg (.int (nar .char x)) ∧ Arv Z h' a k .char z (vs.set i (.int (nar .char x))) dv ∧ ∀ target, Steps p.tables e below (T'.setTop { g with pc := g.pc + 1, stack := rest }) target → Steps p.tables e below (T.setTop g) target := by
  obtain ⟨cl, A, q1, S, q3, H, G⟩ := F
  obtain ⟨T', h', X', e', W, st⟩ := stC X hx hZ eT A (inb_of S hin) hg hs hd
  exact ⟨T', h', X', e', W, Arv.set A q1 S q3 H G (fits_nar_char x) W i hj hi, st⟩
theorem own_caload (X : Stand p l e R s m args below meth c T locs cells slots) (hx : p.tables.exec = Jvm.exec) (hZ : Z.Warmed39 s.vm) (eT : T.heap = h) {cl : Cell} (F : Arr Z h a cl .char) {j : Int32} {v : Value} (hin : ¬ (j < 0 ∨ cl.slots.size ≤ j.toNatClampNeg)) (hv : cl.slots[j.toNatClampNeg]? = some v)
    {g : JFrame} (hg : g.method = m) {rest : List Value} (hs : g.stack = .int j :: .ref a :: rest) (hd : decode c.code g.pc = .ok (.caload, 1)) : ∀ target, Steps p.tables e below (T.setTop { g with pc := g.pc + 1, stack := v :: rest }) target → Steps p.tables e below (T.setTop g) target :=
  X.caload hx (by rw [eT]; exact F.1) (State.isArrayOf_alike hZ.alike F.2.1) F.2.2 hin hv hg hs hd
/-- a place of an array that is said -/
theorem own_at (F : Arv Z h a k ty z vs dv) {j : Int32} (hin : ¬ j < 0 ∧ j < z) : ∃ cl, Arr Z h a cl ty ∧ ¬ (j < 0 ∨ cl.slots.size ≤ j.toNatClampNeg) ∧ cl.slots[j.toNatClampNeg]? = some (vs.getD j.toNatClampNeg dv) := by
  obtain ⟨cl, A, q1, S, q3, H, G⟩ := F
  exact ⟨cl, A, inb_of S hin, H.at (inb_of S hin) rfl⟩
theorem own_len (F : Arv Z h a k ty z vs dv) : ∃ cl, Arr Z h a cl ty ∧ cl.slots.size.toInt32 = z := by
  obtain ⟨cl, A, q1, S, q3, H, G⟩ := F
  exact ⟨cl, A, len_of S q3⟩
theorem own_re {vs' : List Value} (F : Arv Z h a k ty z vs dv) (q : ∀ i, i < z.toNatClampNeg → vs'.getD i dv = vs.getD i dv) : Arv Z h a k ty z vs' dv := by
  obtain ⟨cl, A, q1, S, q3, H, G⟩ := F
  exact ⟨cl, A, q1, S, q3, fun i hi => by rw [q i (S ▸ hi)]; exact H i hi, fun i hi => by rw [q i (S ▸ hi)]; exact G i hi⟩
theorem own_no {n : Nat} {C S O k0 : String} (w : (Jvm.Cond.superclass C S).before a0 Z = true) (w2 : (Jvm.Cond.superclass S O).before a0 Z = true) (w3 : (Jvm.Cond.noSuperclass O).before a0 Z = true) (wi : (Jvm.Cond.instantiable k0 n).before a0 Z = true) (n1 : C ≠ k0) (n2 : S ≠ k0) (n3 : O ≠ k0) :
    ∃ c t, Z.vm.findClass C = some c ∧ Z.vm.findClass k0 = some t ∧ Z.vm.assignable c t = false := by
  obtain ⟨t, kt, g1, g2, g3, g4, -⟩ := Cond.instantiable_spec wi
  have hO : NS Z O k0 := by
    obtain ⟨c, kc, h1, h2, h3, -, -⟩ := Cond.noSuperclass_spec w3
    refine ⟨c, t, h1, g1, fun fuel => ?_⟩
    cases fuel with
    | zero => rfl
    | succ f => simp [Vm.isSubclassAux, ids_ne h1 g1 n3, h2, h3]
  obtain ⟨c, t', h0, g0, n4⟩ := NS.step w (NS.step w2 hO n2) n1
  cases g1.symm.trans g0
  obtain ⟨p, kk, kp, h1, h2, h3, h4, h5, -, h7⟩ := Cond.superclass_spec h0 w
  refine ⟨c, t, h0, g0, ?_⟩
  show Z.vm.assignableAux (255 + 1) c t = false
  simp only [Bool.or_eq_false_iff] at g4
  simp [Vm.assignableAux, ids_ne h0 g0 n1, h2, g2, h5, g3, g4.1, Vm.isSubclass, n4]
theorem own_clone (X : Stand p l e R s m args below meth c T locs cells slots) (hx : p.tables.exec = Jvm.exec) (hZ : Z.Warmed39 s.vm) {own ad : String} {index : Nat} (hown : s.vm.findClass own = some m.cls)
    (w1 : (Jvm.Cond.methodLink own index ⟨ad, "clone", "()Ljava/lang/Object;"⟩).before a0 Z = true) (w2 : (Jvm.Cond.sameMethod ad "java/lang/Object" "clone" "()Ljava/lang/Object;").before a0 Z = true) (w3 : (Jvm.Cond.native ⟨"java/lang/Object", "clone", "()Ljava/lang/Object;"⟩).before a0 Z = true)
    (w4 : (Jvm.Cond.instanceMethod ⟨"java/lang/Object", "clone", "()Ljava/lang/Object;"⟩).before a0 Z = true) (w5 : (Jvm.Cond.selects ad ⟨ad, "clone", "()Ljava/lang/Object;"⟩ ⟨"java/lang/Object", "clone", "()Ljava/lang/Object;"⟩).before a0 Z = true) (w6 : (Jvm.Cond.castable ad "java/lang/Cloneable").before a0 Z = true)
    (eT : T.heap = h) (F : Arv Z h a k ty z vs dv) (E : Exa Z h a ad) {g : JFrame} (hg : g.method = m) (hsize : g.locals.size = c.maxLocals) {rest : List Value} (hst : g.stack = .ref a :: rest) (hd : decode c.code g.pc = .ok (.invokevirtual index, 3))
    (hf : 1 ≤ R.frames) {W cap : Nat} (hW : 2 * g.monitorRoom + (rest.map fun v => v.category).sum ≤ W) (hl : W + 14 ≤ R.locals) (hcap : z.toNatClampNeg ≤ cap) (hc : cells + 1 ≤ R.cells) (hsl : slots + cap ≤ R.slots) :
    ∃ T' h', Stand p l e R s m args below meth c T' locs (cells + 1) (slots + cap) ∧ T'.heap = h' ∧ Ext h h' ∧ Arv Z h' h.size k ty z vs dv ∧ Exa Z h' h.size ad ∧
      ∀ target, Steps p.tables e below (T'.setTop { g with pc := g.pc + 3, stack := .ref h.size :: rest }) target → Steps p.tables e below (T.setTop g) target := by
  obtain ⟨cl, A, q1, S, q3, H, G⟩ := F
  obtain ⟨T', h', X', e', E', A', B', st⟩ := cloneA X hx hZ hown w1 w2 w3 w4 w5 w6 eT A E (fitC_of A (fun i hi v hv => by rw [H i hi] at hv; cases hv; exact G i hi)) hg hsize hst hd hf hW hl (by rw [S]; exact hcap) hc hsl
  exact ⟨T', h', X', e', E', ⟨cloneOf cl, A', q1, S, q3, H, G⟩, B', st⟩
end Own2
theorem own_six (x : Int32) : (x &&& 2147483647) % 6 = 0 ∨ (x &&& 2147483647) % 6 = 1 ∨ (x &&& 2147483647) % 6 = 2 ∨ (x &&& 2147483647) % 6 = 3 ∨ (x &&& 2147483647) % 6 = 4 ∨ (x &&& 2147483647) % 6 = 5 := by
  have h1 := c_and x 2147483647 (by decide)
  have h2 := (c_iremV (x &&& 2147483647) 6).1 h1.1 (by decide)
  have h3 : (6 : Int32).toInt = 6 := by decide
  rw [h3] at h2
  simp only [← Int32.toInt_inj]
  have e0 : (0 : Int32).toInt = 0 := by decide
  have e1 : (1 : Int32).toInt = 1 := by decide
  have e2 : (2 : Int32).toInt = 2 := by decide
  have e4 : (3 : Int32).toInt = 3 := by decide
  have e5 : (4 : Int32).toInt = 4 := by decide
  have e6 : (5 : Int32).toInt = 5 := by decide
  rw [e0, e1, e2, e4, e5, e6]
  omega
theorem pd_0 : parseMethodDescriptor "()Z" = some ⟨[], some .boolean⟩ := by decide +kernel
theorem d1_0 : decode prog_74_method_4_code 0 = .ok (.aload_n 0, 1) := by decide +kernel
theorem d1_1 : decode prog_74_method_4_code 1 = .ok (.getstatic 13, 3) := by decide +kernel
theorem d1_4 : decode prog_74_method_4_code 4 = .ok (.if_acmp .eq 17, 3) := by decide +kernel
theorem d1_7 : decode prog_74_method_4_code 7 = .ok (.aload_n 0, 1) := by decide +kernel
theorem d1_8 : decode prog_74_method_4_code 8 = .ok (.getstatic 16, 3) := by decide +kernel
theorem d1_11 : decode prog_74_method_4_code 11 = .ok (.if_acmp .eq 10, 3) := by decide +kernel
theorem d1_14 : decode prog_74_method_4_code 14 = .ok (.aload_n 0, 1) := by decide +kernel
theorem d1_15 : decode prog_74_method_4_code 15 = .ok (.getstatic 19, 3) := by decide +kernel
theorem d1_18 : decode prog_74_method_4_code 18 = .ok (.if_acmp .ne 7, 3) := by decide +kernel
theorem d1_21 : decode prog_74_method_4_code 21 = .ok (.iconst 1, 1) := by decide +kernel
theorem d1_22 : decode prog_74_method_4_code 22 = .ok (.goto 4, 3) := by decide +kernel
theorem d1_25 : decode prog_74_method_4_code 25 = .ok (.iconst 0, 1) := by decide +kernel
theorem d1_26 : decode prog_74_method_4_code 26 = .ok (.ireturn, 1) := by decide +kernel
def Qrm1 (a : Addr) (w3 : Addr) (w4 : Addr) (w5 : Addr) (Z : State) (h0 : Heap) (n0 : Nat) (v : Option Value) (h : Heap) (L : List Loc) : Prop := v = some (.int (if a = w3 ∨ a = w4 ∨ a = w5 then (1 : Int32) else 0)) ∧ Fr n0 L ∧ h = h0
set_option maxRecDepth 65536 in
set_option maxHeartbeats 40000000 in
theorem rm1 (l : Launch) (Z : State) (a0 : Array Value) (hw : ∀ d ∈ tables_1, d.before a0 Z = true) (a : Addr) (w3 : Addr) (w4 : Addr) (w5 : Addr) (h0 : Heap) (n0 : Nat) (Z0 : n0 ≤ h0.size) (S3 : Sta Z h0 "com/example/sundiald/sundiald/RunState" "SUCCEEDED" "Lcom/example/sundiald/sundiald/RunState;" (.ref w3)) (S4 : Sta Z h0 "com/example/sundiald/sundiald/RunState" "FAILED" "Lcom/example/sundiald/sundiald/RunState;" (.ref w4)) (S5 : Sta Z h0 "com/example/sundiald/sundiald/RunState" "SKIPPED" "Lcom/example/sundiald/sundiald/RunState;" (.ref w5)) :
    MetFree l (⟨"com/example/sundiald/sundiald/RunState", "ended", "()Z"⟩ : MethodName) (head1 (Jvm.Cond.code (⟨"com/example/sundiald/sundiald/RunState", "ended", "()Z"⟩ : MethodName) prog_74_method_4_code 1 (some .boolean) :: []) ({ frames := 0, cells := 0, slots := 0, locals := 0 } : Room)) (fun ar_ U => ar_ = #[(.ref a)] ∧ Z.Warmed39 U.vm ∧ U.heap = h0) (fun _ _ _ _ _ => True) (fun _ U o U' => ∃ v L, o = .returned v ∧ Qrm1 a w3 w4 w5 Z h0 n0 v U'.heap L ∧ FrameEnd U o U' L ({ frames := 0, cells := 0, slots := 0, locals := 0 } : Room).cells ({ frames := 0, cells := 0, slots := 0, locals := 0 } : Room).slots) := by
  refine MetFree.of_bodySF (plainFor_of_name (by first | (simp [plainName, overriddenIn]; done) | decide +kernel)) hisR ?_
  intro p e s m args below meth c s₁ Bd hml0 hP hK
  obtain ⟨rfl, hZ, hh⟩ := hP
  have hx := Bd.exec
  have hby := Bd.bytes
  have hml : c.maxLocals = 1 := hml0
  have hown : s.vm.findClass "com/example/sundiald/sundiald/RunState" = some m.cls := findClass_of_methodNamed Bd.named
  have hnm := (name_of_methodNamed Bd.named Bd.method).1
  have X0 : Stand p l e ({ frames := 0, cells := 0, slots := 0, locals := 0 } : Room) s m #[(.ref a)] below meth c s₁ [] 0 0 := Stand.of_body Bd
  have e0 : s₁.heap = h0 := by rw [← hh, Bd.state]; rfl
  have N0 := Fr.nil n0
  show own_E p e below s (Qrm1 a w3 w4 w5 Z h0 n0) ({ frames := 0, cells := 0, slots := 0, locals := 0 } : Room).cells ({ frames := 0, cells := 0, slots := 0, locals := 0 } : Room).slots (s₁.setTop (entryFrame m #[(.ref a)] 1))
  refine own_go (fun t k => castTop (show _ = (mkF m 0 #[.val (.ref a)] []) from by first | (simp [entryFrame, mkF, argsToLocals, Value.category]; done) | rfl) k) ?_
  show own_E _ _ _ _ _ _ _ (s₁.setTop (mkF m 0 #[.val (.ref a)] []))
  refine own_go (fun _ k => XS.aloadN X0.here hx rfl (hb hby d1_0) rfl rfl k) ?_
  show own_E _ _ _ _ _ _ _ (s₁.setTop (mkF m 1 #[.val (.ref a)] [(.ref a)]))
  obtain ⟨T1, X1, e1, st1⟩ := getS2 X0 hx hZ hown (host := "") (Or.inl (hw _ (List.mem_of_getElem? (i := 23) rfl))) Via.refl e0 S3 (g := (mkF m 1 #[.val (.ref a)] [(.ref a)])) rfl (hb hby d1_1)
  refine own_go st1 ?_
  show own_E _ _ _ _ _ _ _ (T1.setTop (mkF m 4 #[.val (.ref a)] [(.ref w3), (.ref a)]))
  by_cases q3 : a = w3
  ·
    refine own_go (fun _ k => Jvm.RoadKit.acmp (g := (mkF m 4 #[.val (.ref a)] [(.ref w3), (.ref a)])) X1 hx rfl rfl rfl (pc0 := 4) (pc' := 21) (same := true) rfl (hb hby d1_4) rfl (decide_eq_true (congrArg Value.ref q3)) (by decide) (by decide) k) ?_
    show own_E _ _ _ _ _ _ _ (T1.setTop (mkF m 21 #[.val (.ref a)] []))
    refine own_go (fun _ k => XT.iconstV X1.here hx rfl (1 : Int32) (hb hby d1_21) (by decide) k) ?_
    show own_E _ _ _ _ _ _ _ (T1.setTop (mkF m 22 #[.val (.ref a)] [(.int (1 : Int32))]))
    refine own_go (fun _ k => XS.goto X1.here hx rfl (pc0 := 22) (pc' := 26) rfl (hb hby d1_22) (by decide) (by decide) k) ?_
    show own_E _ _ _ _ _ _ _ (T1.setTop (mkF m 26 #[.val (.ref a)] [(.int (1 : Int32))]))
    exact own_ret X1 hx Bd.returns Bd.notSynchronized rfl (Or.inl ⟨rfl, by simp, _, rfl⟩) (hb hby d1_26) (by rw [e1]; exact ⟨by rw [if_pos (by simp [q3])], N0, rfl⟩) (by decide) (by decide)
  ·
    refine own_go (fun _ k => Jvm.RoadKit.acmp (g := (mkF m 4 #[.val (.ref a)] [(.ref w3), (.ref a)])) X1 hx rfl rfl rfl (pc0 := 4) (pc' := 7) (same := false) rfl (hb hby d1_4) rfl (decide_eq_false (fun z => q3 (Value.ref.inj z))) (by decide) (by decide) k) ?_
    show own_E _ _ _ _ _ _ _ (T1.setTop (mkF m 7 #[.val (.ref a)] []))
    refine own_go (fun _ k => XS.aloadN X1.here hx rfl (hb hby d1_7) rfl rfl k) ?_
    show own_E _ _ _ _ _ _ _ (T1.setTop (mkF m 8 #[.val (.ref a)] [(.ref a)]))
    obtain ⟨T2, X2, e2, st2⟩ := getS2 X1 hx hZ hown (host := "") (Or.inl (hw _ (List.mem_of_getElem? (i := 24) rfl))) Via.refl e1 S4 (g := (mkF m 8 #[.val (.ref a)] [(.ref a)])) rfl (hb hby d1_8)
    refine own_go st2 ?_
    show own_E _ _ _ _ _ _ _ (T2.setTop (mkF m 11 #[.val (.ref a)] [(.ref w4), (.ref a)]))
    by_cases q4 : a = w4
    ·
      refine own_go (fun _ k => Jvm.RoadKit.acmp (g := (mkF m 11 #[.val (.ref a)] [(.ref w4), (.ref a)])) X2 hx rfl rfl rfl (pc0 := 11) (pc' := 21) (same := true) rfl (hb hby d1_11) rfl (decide_eq_true (congrArg Value.ref q4)) (by decide) (by decide) k) ?_
      show own_E _ _ _ _ _ _ _ (T2.setTop (mkF m 21 #[.val (.ref a)] []))
      refine own_go (fun _ k => XT.iconstV X2.here hx rfl (1 : Int32) (hb hby d1_21) (by decide) k) ?_
      show own_E _ _ _ _ _ _ _ (T2.setTop (mkF m 22 #[.val (.ref a)] [(.int (1 : Int32))]))
      refine own_go (fun _ k => XS.goto X2.here hx rfl (pc0 := 22) (pc' := 26) rfl (hb hby d1_22) (by decide) (by decide) k) ?_
      show own_E _ _ _ _ _ _ _ (T2.setTop (mkF m 26 #[.val (.ref a)] [(.int (1 : Int32))]))
      exact own_ret X2 hx Bd.returns Bd.notSynchronized rfl (Or.inl ⟨rfl, by simp, _, rfl⟩) (hb hby d1_26) (by rw [e2]; exact ⟨by rw [if_pos (by simp [q4])], N0, rfl⟩) (by decide) (by decide)
    ·
      refine own_go (fun _ k => Jvm.RoadKit.acmp (g := (mkF m 11 #[.val (.ref a)] [(.ref w4), (.ref a)])) X2 hx rfl rfl rfl (pc0 := 11) (pc' := 14) (same := false) rfl (hb hby d1_11) rfl (decide_eq_false (fun z => q4 (Value.ref.inj z))) (by decide) (by decide) k) ?_
      show own_E _ _ _ _ _ _ _ (T2.setTop (mkF m 14 #[.val (.ref a)] []))
      refine own_go (fun _ k => XS.aloadN X2.here hx rfl (hb hby d1_14) rfl rfl k) ?_
      show own_E _ _ _ _ _ _ _ (T2.setTop (mkF m 15 #[.val (.ref a)] [(.ref a)]))
      obtain ⟨T3, X3, e3, st3⟩ := getS2 X2 hx hZ hown (host := "") (Or.inl (hw _ (List.mem_of_getElem? (i := 25) rfl))) Via.refl e2 S5 (g := (mkF m 15 #[.val (.ref a)] [(.ref a)])) rfl (hb hby d1_15)
      refine own_go st3 ?_
      show own_E _ _ _ _ _ _ _ (T3.setTop (mkF m 18 #[.val (.ref a)] [(.ref w5), (.ref a)]))
      by_cases q5 : a = w5
      ·
        refine own_go (fun _ k => Jvm.RoadKit.acmp (g := (mkF m 18 #[.val (.ref a)] [(.ref w5), (.ref a)])) X3 hx rfl rfl rfl (pc0 := 18) (pc' := 21) (same := true) rfl (hb hby d1_18) rfl (decide_eq_true (congrArg Value.ref q5)) (by decide) (by decide) k) ?_
        show own_E _ _ _ _ _ _ _ (T3.setTop (mkF m 21 #[.val (.ref a)] []))
        refine own_go (fun _ k => XT.iconstV X3.here hx rfl (1 : Int32) (hb hby d1_21) (by decide) k) ?_
        show own_E _ _ _ _ _ _ _ (T3.setTop (mkF m 22 #[.val (.ref a)] [(.int (1 : Int32))]))
        refine own_go (fun _ k => XS.goto X3.here hx rfl (pc0 := 22) (pc' := 26) rfl (hb hby d1_22) (by decide) (by decide) k) ?_
        show own_E _ _ _ _ _ _ _ (T3.setTop (mkF m 26 #[.val (.ref a)] [(.int (1 : Int32))]))
        exact own_ret X3 hx Bd.returns Bd.notSynchronized rfl (Or.inl ⟨rfl, by simp, _, rfl⟩) (hb hby d1_26) (by rw [e3]; exact ⟨by rw [if_pos (by simp [q5])], N0, rfl⟩) (by decide) (by decide)
      ·
        refine own_go (fun _ k => Jvm.RoadKit.acmp (g := (mkF m 18 #[.val (.ref a)] [(.ref w5), (.ref a)])) X3 hx rfl rfl rfl (pc0 := 18) (pc' := 25) (same := false) rfl (hb hby d1_18) rfl (decide_eq_false (fun z => q5 (Value.ref.inj z))) (by decide) (by decide) k) ?_
        show own_E _ _ _ _ _ _ _ (T3.setTop (mkF m 25 #[.val (.ref a)] []))
        refine own_go (fun _ k => XT.iconstV X3.here hx rfl (0 : Int32) (hb hby d1_25) (by decide) k) ?_
        show own_E _ _ _ _ _ _ _ (T3.setTop (mkF m 26 #[.val (.ref a)] [(.int (0 : Int32))]))
        exact own_ret X3 hx Bd.returns Bd.notSynchronized rfl (Or.inl ⟨rfl, by simp, _, rfl⟩) (hb hby d1_26) (by rw [e3]; exact ⟨by rw [if_neg (by simp [q3, q4, q5])], N0, rfl⟩) (by decide) (by decide)
def Qrm0 (p0 : Int32) (w0 : Addr) (w1 : Addr) (w2 : Addr) (w3 : Addr) (w4 : Addr) (w5 : Addr) (Z : State) (h0 : Heap) (n0 : Nat) (v : Option Value) (h : Heap) (L : List Loc) : Prop := v = some (.int 1) ∧ Fr n0 L
set_option maxRecDepth 65536 in
set_option maxHeartbeats 40000000 in
theorem rm0 (l : Launch) (Z : State) (a0 : Array Value) (hw : ∀ d ∈ tables_1, d.before a0 Z = true) (ws : List Jvm.Cond) (p0 : Int32) (w0 : Addr) (w1 : Addr) (w2 : Addr) (w3 : Addr) (w4 : Addr) (w5 : Addr) (h0 : Heap) (n0 : Nat) (Z0 : n0 ≤ h0.size) (O0 : Old Z n0 h0) (S0 : Sta Z Z.heap "com/example/sundiald/sundiald/RunState" "PENDING" "Lcom/example/sundiald/sundiald/RunState;" (.ref w0)) (S1 : Sta Z Z.heap "com/example/sundiald/sundiald/RunState" "RUNNING" "Lcom/example/sundiald/sundiald/RunState;" (.ref w1)) (S2 : Sta Z Z.heap "com/example/sundiald/sundiald/RunState" "RETRY_WAIT" "Lcom/example/sundiald/sundiald/RunState;" (.ref w2)) (S3 : Sta Z Z.heap "com/example/sundiald/sundiald/RunState" "SUCCEEDED" "Lcom/example/sundiald/sundiald/RunState;" (.ref w3)) (S4 : Sta Z Z.heap "com/example/sundiald/sundiald/RunState" "FAILED" "Lcom/example/sundiald/sundiald/RunState;" (.ref w4)) (S5 : Sta Z Z.heap "com/example/sundiald/sundiald/RunState" "SKIPPED" "Lcom/example/sundiald/sundiald/RunState;" (.ref w5)) (E0 : Exa Z Z.heap w0 "com/example/sundiald/sundiald/RunState") (E1 : Exa Z Z.heap w1 "com/example/sundiald/sundiald/RunState") (E2 : Exa Z Z.heap w2 "com/example/sundiald/sundiald/RunState") (E3 : Exa Z Z.heap w3 "com/example/sundiald/sundiald/RunState") (E4 : Exa Z Z.heap w4 "com/example/sundiald/sundiald/RunState") (E5 : Exa Z Z.heap w5 "com/example/sundiald/sundiald/RunState") (ne0_3 : w0 ≠ w3) (ne0_4 : w0 ≠ w4) (ne0_5 : w0 ≠ w5) (ne1_3 : w1 ≠ w3) (ne1_4 : w1 ≠ w4) (ne1_5 : w1 ≠ w5) (ne2_3 : w2 ≠ w3) (ne2_4 : w2 ≠ w4) (ne2_5 : w2 ≠ w5) :
    MetFree l x (head1 (Jvm.Cond.code x code maxLocals ret :: ws) room_1) (fun ar_ U => ar_ = #[(.int p0)] ∧ Z.Warmed39 U.vm ∧ U.heap = h0) (fun _ _ _ _ _ => True) (fun _ U o U' => ∃ v L, o = .returned v ∧ Qrm0 p0 w0 w1 w2 w3 w4 w5 Z h0 n0 v U'.heap L ∧ FrameEnd U o U' L room_1.cells room_1.slots) := by
  refine MetFree.of_bodySF (plainFor_of_name (by first | (simp [plainName, overriddenIn]; done) | decide +kernel)) hisR ?_
  intro p e s m args below meth c s₁ Bd hml0 hP hK
  obtain ⟨rfl, hZ, hh⟩ := hP
  have hx := Bd.exec
  have hby := Bd.bytes
  have hml : c.maxLocals = 4 := hml0
  have hown : s.vm.findClass "com/example/sundiald/sundiald/RunStateEndedPinLaw" = some m.cls := findClass_of_methodNamed Bd.named
  have hnm := (name_of_methodNamed Bd.named Bd.method).1
  have X0 : Stand p l e room_1 s m #[(.int p0)] below meth c s₁ [] 0 0 := Stand.of_body Bd
  have e0 : s₁.heap = h0 := by rw [← hh, Bd.state]; rfl
  have N0 := Fr.nil n0
  show own_E p e below s (Qrm0 p0 w0 w1 w2 w3 w4 w5 Z h0 n0) room_1.cells room_1.slots (s₁.setTop (entryFrame m #[(.int p0)] maxLocals))
  refine own_go (fun t k => castTop (show _ = (mkF m 0 #[.val (.int p0), .unset, .unset, .unset] []) from by first | (simp [entryFrame, mkF, argsToLocals, Value.category, maxLocals]; done) | rfl) k) ?_
  show own_E _ _ _ _ _ _ _ (s₁.setTop (mkF m 0 #[.val (.int p0), .unset, .unset, .unset] []))
  refine own_go (fun _ k => XT.bipushV X0.here hx rfl (6 : Int32) (hb hby at_0) (by decide) k) ?_
  show own_E _ _ _ _ _ _ _ (s₁.setTop (mkF m 2 #[.val (.int p0), .unset, .unset, .unset] [(.int (6 : Int32))]))
  obtain ⟨T11, h11, k11, X11, e11, E11, A11, V11, st11⟩ := newR X0 hx hZ hown (hw _ (List.mem_of_getElem? (i := 0) rfl)) (hw _ (List.mem_of_getElem? (i := 1) rfl)) e0 (g := (mkF m 2 #[.val (.int p0), .unset, .unset, .unset] [(.int (6 : Int32))])) rfl (hb hby at_2) rfl (by decide) (cap := 6) (by decide) (by decide) (by decide) (by decide)
  obtain ⟨aa, g11⟩ : ∃ z, z = h0.size := ⟨_, rfl⟩
  rw [← g11] at A11 st11
  have ne11_1 : w0 ≠ aa := by rw [g11]; exact Nat.ne_of_lt (E0.ext O0.2).lt
  have ne11_2 : w1 ≠ aa := by rw [g11]; exact Nat.ne_of_lt (E1.ext O0.2).lt
  have ne11_3 : w2 ≠ aa := by rw [g11]; exact Nat.ne_of_lt (E2.ext O0.2).lt
  have ne11_4 : w3 ≠ aa := by rw [g11]; exact Nat.ne_of_lt (E3.ext O0.2).lt
  have ne11_5 : w4 ≠ aa := by rw [g11]; exact Nat.ne_of_lt (E4.ext O0.2).lt
  have ne11_6 : w5 ≠ aa := by rw [g11]; exact Nat.ne_of_lt (E5.ext O0.2).lt
  have w11 : n0 ≤ aa := by rw [g11]; exact Z0
  have v11 : Arv Z h11 aa k11 (.object "com/example/sundiald/sundiald/RunState") (6 : Int32) [.null, .null, .null, .null, .null, .null] .null := own_arvNew (n := 6) A11 (by decide)
  have O11 := O0.ext E11
  have Z11 := Nat.le_trans Z0 E11.1
  refine own_go st11 ?_
  show own_E _ _ _ _ _ _ _ (T11.setTop (mkF m 5 #[.val (.int p0), .unset, .unset, .unset] [(.ref aa)]))
  refine own_go (fun _ k => XS.dup X11.here hx rfl (hb hby at_5) rfl rfl k) ?_
  show own_E _ _ _ _ _ _ _ (T11.setTop (mkF m 6 #[.val (.int p0), .unset, .unset, .unset] [(.ref aa), (.ref aa)]))
  refine own_go (fun _ k => XT.iconstV X11.here hx rfl (0 : Int32) (hb hby at_6) (by decide) k) ?_
  show own_E _ _ _ _ _ _ _ (T11.setTop (mkF m 7 #[.val (.int p0), .unset, .unset, .unset] [(.int (0 : Int32)), (.ref aa), (.ref aa)]))
  obtain ⟨T12, X12, e12, st12⟩ := getS2 X11 hx hZ hown (host := "") (Or.inl (hw _ (List.mem_of_getElem? (i := 2) rfl))) Via.refl e11 (S0.ext O11.2) (g := (mkF m 7 #[.val (.int p0), .unset, .unset, .unset] [(.int (0 : Int32)), (.ref aa), (.ref aa)])) rfl (hb hby at_7)
  refine own_go st12 ?_
  show own_E _ _ _ _ _ _ _ (T12.setTop (mkF m 10 #[.val (.int p0), .unset, .unset, .unset] [(.ref w0), (.int (0 : Int32)), (.ref aa), (.ref aa)]))
  obtain ⟨T13, h13, X13, e13, W13, v13, st13⟩ := own_stR X12 hx hZ e12 v11 V11 (Ins.self (E0.ext O11.2)) (j := (0 : Int32)) 0 (by decide) (by simp) (by decide) (g := (mkF m 10 #[.val (.int p0), .unset, .unset, .unset] [(.ref w0), (.int (0 : Int32)), (.ref aa), (.ref aa)])) rfl rfl (hb hby at_10)
  replace v13 : Arv Z h13 aa k11 (.object "com/example/sundiald/sundiald/RunState") (6 : Int32) [(.ref w0), .null, .null, .null, .null, .null] .null := v13
  have O13 := O11.wr W13 w11
  have Z13 : n0 ≤ h13.size := by rw [W13.size]; exact Z11
  have N13 := Fr.snoc X13 N0 w11
  refine own_go st13 ?_
  show own_E _ _ _ _ _ _ _ (T13.setTop (mkF m 11 #[.val (.int p0), .unset, .unset, .unset] [(.ref aa)]))
  refine own_go (fun _ k => XS.dup X13.here hx rfl (hb hby at_11) rfl rfl k) ?_
  show own_E _ _ _ _ _ _ _ (T13.setTop (mkF m 12 #[.val (.int p0), .unset, .unset, .unset] [(.ref aa), (.ref aa)]))
  refine own_go (fun _ k => XT.iconstV X13.here hx rfl (1 : Int32) (hb hby at_12) (by decide) k) ?_
  show own_E _ _ _ _ _ _ _ (T13.setTop (mkF m 13 #[.val (.int p0), .unset, .unset, .unset] [(.int (1 : Int32)), (.ref aa), (.ref aa)]))
  obtain ⟨T14, X14, e14, st14⟩ := getS2 X13 hx hZ hown (host := "") (Or.inl (hw _ (List.mem_of_getElem? (i := 6) rfl))) Via.refl e13 (S1.ext O13.2) (g := (mkF m 13 #[.val (.int p0), .unset, .unset, .unset] [(.int (1 : Int32)), (.ref aa), (.ref aa)])) rfl (hb hby at_13)
  refine own_go st14 ?_
  show own_E _ _ _ _ _ _ _ (T14.setTop (mkF m 16 #[.val (.int p0), .unset, .unset, .unset] [(.ref w1), (.int (1 : Int32)), (.ref aa), (.ref aa)]))
  obtain ⟨T15, h15, X15, e15, W15, v15, st15⟩ := own_stR X14 hx hZ e14 v13 V11 (Ins.self (E1.ext O13.2)) (j := (1 : Int32)) 1 (by decide) (by simp) (by decide) (g := (mkF m 16 #[.val (.int p0), .unset, .unset, .unset] [(.ref w1), (.int (1 : Int32)), (.ref aa), (.ref aa)])) rfl rfl (hb hby at_16)
  replace v15 : Arv Z h15 aa k11 (.object "com/example/sundiald/sundiald/RunState") (6 : Int32) [(.ref w0), (.ref w1), .null, .null, .null, .null] .null := v15
  have O15 := O13.wr W15 w11
  have Z15 : n0 ≤ h15.size := by rw [W15.size]; exact Z13
  have N15 := Fr.snoc X15 N13 w11
  refine own_go st15 ?_
  show own_E _ _ _ _ _ _ _ (T15.setTop (mkF m 17 #[.val (.int p0), .unset, .unset, .unset] [(.ref aa)]))
  refine own_go (fun _ k => XS.dup X15.here hx rfl (hb hby at_17) rfl rfl k) ?_
  show own_E _ _ _ _ _ _ _ (T15.setTop (mkF m 18 #[.val (.int p0), .unset, .unset, .unset] [(.ref aa), (.ref aa)]))
  refine own_go (fun _ k => XT.iconstV X15.here hx rfl (2 : Int32) (hb hby at_18) (by decide) k) ?_
  show own_E _ _ _ _ _ _ _ (T15.setTop (mkF m 19 #[.val (.int p0), .unset, .unset, .unset] [(.int (2 : Int32)), (.ref aa), (.ref aa)]))
  obtain ⟨T16, X16, e16, st16⟩ := getS2 X15 hx hZ hown (host := "") (Or.inl (hw _ (List.mem_of_getElem? (i := 8) rfl))) Via.refl e15 (S2.ext O15.2) (g := (mkF m 19 #[.val (.int p0), .unset, .unset, .unset] [(.int (2 : Int32)), (.ref aa), (.ref aa)])) rfl (hb hby at_19)
  refine own_go st16 ?_
  show own_E _ _ _ _ _ _ _ (T16.setTop (mkF m 22 #[.val (.int p0), .unset, .unset, .unset] [(.ref w2), (.int (2 : Int32)), (.ref aa), (.ref aa)]))
  obtain ⟨T17, h17, X17, e17, W17, v17, st17⟩ := own_stR X16 hx hZ e16 v15 V11 (Ins.self (E2.ext O15.2)) (j := (2 : Int32)) 2 (by decide) (by simp) (by decide) (g := (mkF m 22 #[.val (.int p0), .unset, .unset, .unset] [(.ref w2), (.int (2 : Int32)), (.ref aa), (.ref aa)])) rfl rfl (hb hby at_22)
  replace v17 : Arv Z h17 aa k11 (.object "com/example/sundiald/sundiald/RunState") (6 : Int32) [(.ref w0), (.ref w1), (.ref w2), .null, .null, .null] .null := v17
  have O17 := O15.wr W17 w11
  have Z17 : n0 ≤ h17.size := by rw [W17.size]; exact Z15
  have N17 := Fr.snoc X17 N15 w11
  refine own_go st17 ?_
  show own_E _ _ _ _ _ _ _ (T17.setTop (mkF m 23 #[.val (.int p0), .unset, .unset, .unset] [(.ref aa)]))
  refine own_go (fun _ k => XS.dup X17.here hx rfl (hb hby at_23) rfl rfl k) ?_
  show own_E _ _ _ _ _ _ _ (T17.setTop (mkF m 24 #[.val (.int p0), .unset, .unset, .unset] [(.ref aa), (.ref aa)]))
  refine own_go (fun _ k => XT.iconstV X17.here hx rfl (3 : Int32) (hb hby at_24) (by decide) k) ?_
  show own_E _ _ _ _ _ _ _ (T17.setTop (mkF m 25 #[.val (.int p0), .unset, .unset, .unset] [(.int (3 : Int32)), (.ref aa), (.ref aa)]))
  obtain ⟨T18, X18, e18, st18⟩ := getS2 X17 hx hZ hown (host := "") (Or.inl (hw _ (List.mem_of_getElem? (i := 10) rfl))) Via.refl e17 (S3.ext O17.2) (g := (mkF m 25 #[.val (.int p0), .unset, .unset, .unset] [(.int (3 : Int32)), (.ref aa), (.ref aa)])) rfl (hb hby at_25)
  refine own_go st18 ?_
  show own_E _ _ _ _ _ _ _ (T18.setTop (mkF m 28 #[.val (.int p0), .unset, .unset, .unset] [(.ref w3), (.int (3 : Int32)), (.ref aa), (.ref aa)]))
  obtain ⟨T19, h19, X19, e19, W19, v19, st19⟩ := own_stR X18 hx hZ e18 v17 V11 (Ins.self (E3.ext O17.2)) (j := (3 : Int32)) 3 (by decide) (by simp) (by decide) (g := (mkF m 28 #[.val (.int p0), .unset, .unset, .unset] [(.ref w3), (.int (3 : Int32)), (.ref aa), (.ref aa)])) rfl rfl (hb hby at_28)
  replace v19 : Arv Z h19 aa k11 (.object "com/example/sundiald/sundiald/RunState") (6 : Int32) [(.ref w0), (.ref w1), (.ref w2), (.ref w3), .null, .null] .null := v19
  have O19 := O17.wr W19 w11
  have Z19 : n0 ≤ h19.size := by rw [W19.size]; exact Z17
  have N19 := Fr.snoc X19 N17 w11
  refine own_go st19 ?_
  show own_E _ _ _ _ _ _ _ (T19.setTop (mkF m 29 #[.val (.int p0), .unset, .unset, .unset] [(.ref aa)]))
  refine own_go (fun _ k => XS.dup X19.here hx rfl (hb hby at_29) rfl rfl k) ?_
  show own_E _ _ _ _ _ _ _ (T19.setTop (mkF m 30 #[.val (.int p0), .unset, .unset, .unset] [(.ref aa), (.ref aa)]))
  refine own_go (fun _ k => XT.iconstV X19.here hx rfl (4 : Int32) (hb hby at_30) (by decide) k) ?_
  show own_E _ _ _ _ _ _ _ (T19.setTop (mkF m 31 #[.val (.int p0), .unset, .unset, .unset] [(.int (4 : Int32)), (.ref aa), (.ref aa)]))
  obtain ⟨T20, X20, e20, st20⟩ := getS2 X19 hx hZ hown (host := "") (Or.inl (hw _ (List.mem_of_getElem? (i := 12) rfl))) Via.refl e19 (S4.ext O19.2) (g := (mkF m 31 #[.val (.int p0), .unset, .unset, .unset] [(.int (4 : Int32)), (.ref aa), (.ref aa)])) rfl (hb hby at_31)
  refine own_go st20 ?_
  show own_E _ _ _ _ _ _ _ (T20.setTop (mkF m 34 #[.val (.int p0), .unset, .unset, .unset] [(.ref w4), (.int (4 : Int32)), (.ref aa), (.ref aa)]))
  obtain ⟨T21, h21, X21, e21, W21, v21, st21⟩ := own_stR X20 hx hZ e20 v19 V11 (Ins.self (E4.ext O19.2)) (j := (4 : Int32)) 4 (by decide) (by simp) (by decide) (g := (mkF m 34 #[.val (.int p0), .unset, .unset, .unset] [(.ref w4), (.int (4 : Int32)), (.ref aa), (.ref aa)])) rfl rfl (hb hby at_34)
  replace v21 : Arv Z h21 aa k11 (.object "com/example/sundiald/sundiald/RunState") (6 : Int32) [(.ref w0), (.ref w1), (.ref w2), (.ref w3), (.ref w4), .null] .null := v21
  have O21 := O19.wr W21 w11
  have Z21 : n0 ≤ h21.size := by rw [W21.size]; exact Z19
  have N21 := Fr.snoc X21 N19 w11
  refine own_go st21 ?_
  show own_E _ _ _ _ _ _ _ (T21.setTop (mkF m 35 #[.val (.int p0), .unset, .unset, .unset] [(.ref aa)]))
  refine own_go (fun _ k => XS.dup X21.here hx rfl (hb hby at_35) rfl rfl k) ?_
  show own_E _ _ _ _ _ _ _ (T21.setTop (mkF m 36 #[.val (.int p0), .unset, .unset, .unset] [(.ref aa), (.ref aa)]))
  refine own_go (fun _ k => XT.iconstV X21.here hx rfl (5 : Int32) (hb hby at_36) (by decide) k) ?_
  show own_E _ _ _ _ _ _ _ (T21.setTop (mkF m 37 #[.val (.int p0), .unset, .unset, .unset] [(.int (5 : Int32)), (.ref aa), (.ref aa)]))
  obtain ⟨T22, X22, e22, st22⟩ := getS2 X21 hx hZ hown (host := "") (Or.inl (hw _ (List.mem_of_getElem? (i := 14) rfl))) Via.refl e21 (S5.ext O21.2) (g := (mkF m 37 #[.val (.int p0), .unset, .unset, .unset] [(.int (5 : Int32)), (.ref aa), (.ref aa)])) rfl (hb hby at_37)
  refine own_go st22 ?_
  show own_E _ _ _ _ _ _ _ (T22.setTop (mkF m 40 #[.val (.int p0), .unset, .unset, .unset] [(.ref w5), (.int (5 : Int32)), (.ref aa), (.ref aa)]))
  obtain ⟨T23, h23, X23, e23, W23, v23, st23⟩ := own_stR X22 hx hZ e22 v21 V11 (Ins.self (E5.ext O21.2)) (j := (5 : Int32)) 5 (by decide) (by simp) (by decide) (g := (mkF m 40 #[.val (.int p0), .unset, .unset, .unset] [(.ref w5), (.int (5 : Int32)), (.ref aa), (.ref aa)])) rfl rfl (hb hby at_40)
  replace v23 : Arv Z h23 aa k11 (.object "com/example/sundiald/sundiald/RunState") (6 : Int32) [(.ref w0), (.ref w1), (.ref w2), (.ref w3), (.ref w4), (.ref w5)] .null := v23
  have O23 := O21.wr W23 w11
  have Z23 : n0 ≤ h23.size := by rw [W23.size]; exact Z21
  have N23 := Fr.snoc X23 N21 w11
  refine own_go st23 ?_
  show own_E _ _ _ _ _ _ _ (T23.setTop (mkF m 41 #[.val (.int p0), .unset, .unset, .unset] [(.ref aa)]))
  refine own_go (fun _ k => XS.astoreN X23.here hx rfl (hb hby at_41) rfl rfl (l' := #[.val (.int p0), .val (.ref aa), .unset, .unset]) rfl k) ?_
  show own_E _ _ _ _ _ _ _ (T23.setTop (mkF m 42 #[.val (.int p0), .val (.ref aa), .unset, .unset] []))
  refine own_go (fun _ k => XT.bipushV X23.here hx rfl (6 : Int32) (hb hby at_42) (by decide) k) ?_
  show own_E _ _ _ _ _ _ _ (T23.setTop (mkF m 44 #[.val (.int p0), .val (.ref aa), .unset, .unset] [(.int (6 : Int32))]))
  obtain ⟨T24, h24, k24, X24, e24, E24, A24, B24, st24⟩ := newPE X23 hx hZ (hw _ (List.mem_of_getElem? (i := 16) rfl)) e23 (g := (mkF m 44 #[.val (.int p0), .val (.ref aa), .unset, .unset] [(.int (6 : Int32))])) rfl (hb hby at_44) rfl (by decide) (cap := 6) (by decide) (by decide) (by decide) (by decide) (ad := "[Z") (by decide)
  obtain ⟨ab, g24⟩ : ∃ z, z = h23.size := ⟨_, rfl⟩
  rw [← g24] at A24 B24 st24
  have ne24_1 : w0 ≠ ab := by rw [g24]; exact Nat.ne_of_lt (E0.ext O23.2).lt
  have ne24_2 : w1 ≠ ab := by rw [g24]; exact Nat.ne_of_lt (E1.ext O23.2).lt
  have ne24_3 : w2 ≠ ab := by rw [g24]; exact Nat.ne_of_lt (E2.ext O23.2).lt
  have ne24_4 : w3 ≠ ab := by rw [g24]; exact Nat.ne_of_lt (E3.ext O23.2).lt
  have ne24_5 : w4 ≠ ab := by rw [g24]; exact Nat.ne_of_lt (E4.ext O23.2).lt
  have ne24_6 : w5 ≠ ab := by rw [g24]; exact Nat.ne_of_lt (E5.ext O23.2).lt
  have ne24_7 : aa ≠ ab := by rw [g24]; exact Nat.ne_of_lt v23.lt
  have w24 : n0 ≤ ab := by rw [g24]; exact Z23
  have v24 : Arv Z h24 ab k24 .boolean (6 : Int32) [(.int 0), (.int 0), (.int 0), (.int 0), (.int 0), (.int 0)] (.int 0) := own_arvNew (n := 6) A24 (by decide)
  have f24_20 := v23.ext E24
  have O24 := O23.ext E24
  have Z24 := Nat.le_trans Z23 E24.1
  refine own_go st24 ?_
  show own_E _ _ _ _ _ _ _ (T24.setTop (mkF m 46 #[.val (.int p0), .val (.ref aa), .unset, .unset] [(.ref ab)]))
  refine own_go (fun _ k => XS.dup X24.here hx rfl (hb hby at_46) rfl rfl k) ?_
  show own_E _ _ _ _ _ _ _ (T24.setTop (mkF m 47 #[.val (.int p0), .val (.ref aa), .unset, .unset] [(.ref ab), (.ref ab)]))
  refine own_go (fun _ k => XT.iconstV X24.here hx rfl (0 : Int32) (hb hby at_47) (by decide) k) ?_
  show own_E _ _ _ _ _ _ _ (T24.setTop (mkF m 48 #[.val (.int p0), .val (.ref aa), .unset, .unset] [(.int (0 : Int32)), (.ref ab), (.ref ab)]))
  refine own_go (fun _ k => XT.iconstV X24.here hx rfl (0 : Int32) (hb hby at_48) (by decide) k) ?_
  show own_E _ _ _ _ _ _ _ (T24.setTop (mkF m 49 #[.val (.int p0), .val (.ref aa), .unset, .unset] [(.int (0 : Int32)), (.int (0 : Int32)), (.ref ab), (.ref ab)]))
  obtain ⟨T25, h25, X25, e25, W25, v25, st25⟩ := own_stZ X24 hx hZ e24 v24 (j := (0 : Int32)) 0 (by decide) (by simp) (by decide) (g := (mkF m 49 #[.val (.int p0), .val (.ref aa), .unset, .unset] [(.int (0 : Int32)), (.int (0 : Int32)), (.ref ab), (.ref ab)])) rfl rfl (hb hby at_49)
  replace v25 : Arv Z h25 ab k24 .boolean (6 : Int32) [(.int 0), (.int 0), (.int 0), (.int 0), (.int 0), (.int 0)] (.int 0) := v25
  have f25_20 := f24_20.other W25 ne24_7
  have f25_29 := B24.wr W25
  have O25 := O24.wr W25 w24
  have Z25 : n0 ≤ h25.size := by rw [W25.size]; exact Z24
  have N25 := Fr.snoc X25 N23 w24
  refine own_go st25 ?_
  show own_E _ _ _ _ _ _ _ (T25.setTop (mkF m 50 #[.val (.int p0), .val (.ref aa), .unset, .unset] [(.ref ab)]))
  refine own_go (fun _ k => XS.dup X25.here hx rfl (hb hby at_50) rfl rfl k) ?_
  show own_E _ _ _ _ _ _ _ (T25.setTop (mkF m 51 #[.val (.int p0), .val (.ref aa), .unset, .unset] [(.ref ab), (.ref ab)]))
  refine own_go (fun _ k => XT.iconstV X25.here hx rfl (1 : Int32) (hb hby at_51) (by decide) k) ?_
  show own_E _ _ _ _ _ _ _ (T25.setTop (mkF m 52 #[.val (.int p0), .val (.ref aa), .unset, .unset] [(.int (1 : Int32)), (.ref ab), (.ref ab)]))
  refine own_go (fun _ k => XT.iconstV X25.here hx rfl (0 : Int32) (hb hby at_52) (by decide) k) ?_
  show own_E _ _ _ _ _ _ _ (T25.setTop (mkF m 53 #[.val (.int p0), .val (.ref aa), .unset, .unset] [(.int (0 : Int32)), (.int (1 : Int32)), (.ref ab), (.ref ab)]))
  obtain ⟨T26, h26, X26, e26, W26, v26, st26⟩ := own_stZ X25 hx hZ e25 v25 (j := (1 : Int32)) 1 (by decide) (by simp) (by decide) (g := (mkF m 53 #[.val (.int p0), .val (.ref aa), .unset, .unset] [(.int (0 : Int32)), (.int (1 : Int32)), (.ref ab), (.ref ab)])) rfl rfl (hb hby at_53)
  replace v26 : Arv Z h26 ab k24 .boolean (6 : Int32) [(.int 0), (.int 0), (.int 0), (.int 0), (.int 0), (.int 0)] (.int 0) := v26
  have f26_20 := f25_20.other W26 ne24_7
  have f26_29 := f25_29.wr W26
  have O26 := O25.wr W26 w24
  have Z26 : n0 ≤ h26.size := by rw [W26.size]; exact Z25
  have N26 := Fr.snoc X26 N25 w24
  refine own_go st26 ?_
  show own_E _ _ _ _ _ _ _ (T26.setTop (mkF m 54 #[.val (.int p0), .val (.ref aa), .unset, .unset] [(.ref ab)]))
  refine own_go (fun _ k => XS.dup X26.here hx rfl (hb hby at_54) rfl rfl k) ?_
  show own_E _ _ _ _ _ _ _ (T26.setTop (mkF m 55 #[.val (.int p0), .val (.ref aa), .unset, .unset] [(.ref ab), (.ref ab)]))
  refine own_go (fun _ k => XT.iconstV X26.here hx rfl (2 : Int32) (hb hby at_55) (by decide) k) ?_
  show own_E _ _ _ _ _ _ _ (T26.setTop (mkF m 56 #[.val (.int p0), .val (.ref aa), .unset, .unset] [(.int (2 : Int32)), (.ref ab), (.ref ab)]))
  refine own_go (fun _ k => XT.iconstV X26.here hx rfl (0 : Int32) (hb hby at_56) (by decide) k) ?_
  show own_E _ _ _ _ _ _ _ (T26.setTop (mkF m 57 #[.val (.int p0), .val (.ref aa), .unset, .unset] [(.int (0 : Int32)), (.int (2 : Int32)), (.ref ab), (.ref ab)]))
  obtain ⟨T27, h27, X27, e27, W27, v27, st27⟩ := own_stZ X26 hx hZ e26 v26 (j := (2 : Int32)) 2 (by decide) (by simp) (by decide) (g := (mkF m 57 #[.val (.int p0), .val (.ref aa), .unset, .unset] [(.int (0 : Int32)), (.int (2 : Int32)), (.ref ab), (.ref ab)])) rfl rfl (hb hby at_57)
  replace v27 : Arv Z h27 ab k24 .boolean (6 : Int32) [(.int 0), (.int 0), (.int 0), (.int 0), (.int 0), (.int 0)] (.int 0) := v27
  have f27_20 := f26_20.other W27 ne24_7
  have f27_29 := f26_29.wr W27
  have O27 := O26.wr W27 w24
  have Z27 : n0 ≤ h27.size := by rw [W27.size]; exact Z26
  have N27 := Fr.snoc X27 N26 w24
  refine own_go st27 ?_
  show own_E _ _ _ _ _ _ _ (T27.setTop (mkF m 58 #[.val (.int p0), .val (.ref aa), .unset, .unset] [(.ref ab)]))
  refine own_go (fun _ k => XS.dup X27.here hx rfl (hb hby at_58) rfl rfl k) ?_
  show own_E _ _ _ _ _ _ _ (T27.setTop (mkF m 59 #[.val (.int p0), .val (.ref aa), .unset, .unset] [(.ref ab), (.ref ab)]))
  refine own_go (fun _ k => XT.iconstV X27.here hx rfl (3 : Int32) (hb hby at_59) (by decide) k) ?_
  show own_E _ _ _ _ _ _ _ (T27.setTop (mkF m 60 #[.val (.int p0), .val (.ref aa), .unset, .unset] [(.int (3 : Int32)), (.ref ab), (.ref ab)]))
  refine own_go (fun _ k => XT.iconstV X27.here hx rfl (1 : Int32) (hb hby at_60) (by decide) k) ?_
  show own_E _ _ _ _ _ _ _ (T27.setTop (mkF m 61 #[.val (.int p0), .val (.ref aa), .unset, .unset] [(.int (1 : Int32)), (.int (3 : Int32)), (.ref ab), (.ref ab)]))
  obtain ⟨T28, h28, X28, e28, W28, v28, st28⟩ := own_stZ X27 hx hZ e27 v27 (j := (3 : Int32)) 3 (by decide) (by simp) (by decide) (g := (mkF m 61 #[.val (.int p0), .val (.ref aa), .unset, .unset] [(.int (1 : Int32)), (.int (3 : Int32)), (.ref ab), (.ref ab)])) rfl rfl (hb hby at_61)
  replace v28 : Arv Z h28 ab k24 .boolean (6 : Int32) [(.int 0), (.int 0), (.int 0), (.int 1), (.int 0), (.int 0)] (.int 0) := v28
  have f28_20 := f27_20.other W28 ne24_7
  have f28_29 := f27_29.wr W28
  have O28 := O27.wr W28 w24
  have Z28 : n0 ≤ h28.size := by rw [W28.size]; exact Z27
  have N28 := Fr.snoc X28 N27 w24
  refine own_go st28 ?_
  show own_E _ _ _ _ _ _ _ (T28.setTop (mkF m 62 #[.val (.int p0), .val (.ref aa), .unset, .unset] [(.ref ab)]))
  refine own_go (fun _ k => XS.dup X28.here hx rfl (hb hby at_62) rfl rfl k) ?_
  show own_E _ _ _ _ _ _ _ (T28.setTop (mkF m 63 #[.val (.int p0), .val (.ref aa), .unset, .unset] [(.ref ab), (.ref ab)]))
  refine own_go (fun _ k => XT.iconstV X28.here hx rfl (4 : Int32) (hb hby at_63) (by decide) k) ?_
  show own_E _ _ _ _ _ _ _ (T28.setTop (mkF m 64 #[.val (.int p0), .val (.ref aa), .unset, .unset] [(.int (4 : Int32)), (.ref ab), (.ref ab)]))
  refine own_go (fun _ k => XT.iconstV X28.here hx rfl (1 : Int32) (hb hby at_64) (by decide) k) ?_
  show own_E _ _ _ _ _ _ _ (T28.setTop (mkF m 65 #[.val (.int p0), .val (.ref aa), .unset, .unset] [(.int (1 : Int32)), (.int (4 : Int32)), (.ref ab), (.ref ab)]))
  obtain ⟨T29, h29, X29, e29, W29, v29, st29⟩ := own_stZ X28 hx hZ e28 v28 (j := (4 : Int32)) 4 (by decide) (by simp) (by decide) (g := (mkF m 65 #[.val (.int p0), .val (.ref aa), .unset, .unset] [(.int (1 : Int32)), (.int (4 : Int32)), (.ref ab), (.ref ab)])) rfl rfl (hb hby at_65)
  replace v29 : Arv Z h29 ab k24 .boolean (6 : Int32) [(.int 0), (.int 0), (.int 0), (.int 1), (.int 1), (.int 0)] (.int 0) := v29
  have f29_20 := f28_20.other W29 ne24_7
  have f29_29 := f28_29.wr W29
  have O29 := O28.wr W29 w24
  have Z29 : n0 ≤ h29.size := by rw [W29.size]; exact Z28
  have N29 := Fr.snoc X29 N28 w24
  refine own_go st29 ?_
  show own_E _ _ _ _ _ _ _ (T29.setTop (mkF m 66 #[.val (.int p0), .val (.ref aa), .unset, .unset] [(.ref ab)]))
  refine own_go (fun _ k => XS.dup X29.here hx rfl (hb hby at_66) rfl rfl k) ?_
  show own_E _ _ _ _ _ _ _ (T29.setTop (mkF m 67 #[.val (.int p0), .val (.ref aa), .unset, .unset] [(.ref ab), (.ref ab)]))
  refine own_go (fun _ k => XT.iconstV X29.here hx rfl (5 : Int32) (hb hby at_67) (by decide) k) ?_
  show own_E _ _ _ _ _ _ _ (T29.setTop (mkF m 68 #[.val (.int p0), .val (.ref aa), .unset, .unset] [(.int (5 : Int32)), (.ref ab), (.ref ab)]))
  refine own_go (fun _ k => XT.iconstV X29.here hx rfl (1 : Int32) (hb hby at_68) (by decide) k) ?_
  show own_E _ _ _ _ _ _ _ (T29.setTop (mkF m 69 #[.val (.int p0), .val (.ref aa), .unset, .unset] [(.int (1 : Int32)), (.int (5 : Int32)), (.ref ab), (.ref ab)]))
  obtain ⟨T30, h30, X30, e30, W30, v30, st30⟩ := own_stZ X29 hx hZ e29 v29 (j := (5 : Int32)) 5 (by decide) (by simp) (by decide) (g := (mkF m 69 #[.val (.int p0), .val (.ref aa), .unset, .unset] [(.int (1 : Int32)), (.int (5 : Int32)), (.ref ab), (.ref ab)])) rfl rfl (hb hby at_69)
  replace v30 : Arv Z h30 ab k24 .boolean (6 : Int32) [(.int 0), (.int 0), (.int 0), (.int 1), (.int 1), (.int 1)] (.int 0) := v30
  have f30_20 := f29_20.other W30 ne24_7
  have f30_29 := f29_29.wr W30
  have O30 := O29.wr W30 w24
  have Z30 : n0 ≤ h30.size := by rw [W30.size]; exact Z29
  have N30 := Fr.snoc X30 N29 w24
  refine own_go st30 ?_
  show own_E _ _ _ _ _ _ _ (T30.setTop (mkF m 70 #[.val (.int p0), .val (.ref aa), .unset, .unset] [(.ref ab)]))
  refine own_go (fun _ k => XS.astoreN X30.here hx rfl (hb hby at_70) rfl rfl (l' := #[.val (.int p0), .val (.ref aa), .val (.ref ab), .unset]) rfl k) ?_
  show own_E _ _ _ _ _ _ _ (T30.setTop (mkF m 71 #[.val (.int p0), .val (.ref aa), .val (.ref ab), .unset] []))
  refine own_go (fun _ k => XS.iloadN X30.here hx rfl (hb hby at_71) rfl k) ?_
  show own_E _ _ _ _ _ _ _ (T30.setTop (mkF m 72 #[.val (.int p0), .val (.ref aa), .val (.ref ab), .unset] [(.int p0)]))
  refine own_go (fun _ k => X30.ldcI hx hown (mvT hZ (hw _ (List.mem_of_getElem? (i := 17) rfl))) rfl (hb hby at_72) k) ?_
  show own_E _ _ _ _ _ _ _ (T30.setTop (mkF m 74 #[.val (.int p0), .val (.ref aa), .val (.ref ab), .unset] [(.int (2147483647 : Int32)), (.int p0)]))
  refine own_go (fun _ k => XS.iand X30.here hx rfl (hb hby at_74) rfl k) ?_
  show own_E _ _ _ _ _ _ _ (T30.setTop (mkF m 75 #[.val (.int p0), .val (.ref aa), .val (.ref ab), .unset] [(.int (p0 &&& (2147483647 : Int32)))]))
  refine own_go (fun _ k => XT.bipushV X30.here hx rfl (6 : Int32) (hb hby at_75) (by decide) k) ?_
  show own_E _ _ _ _ _ _ _ (T30.setTop (mkF m 77 #[.val (.int p0), .val (.ref aa), .val (.ref ab), .unset] [(.int (6 : Int32)), (.int (p0 &&& (2147483647 : Int32)))]))
  refine own_go (fun _ k => iremM X30 hx rfl (hb hby at_77) rfl (by decide) k) ?_
  show own_E _ _ _ _ _ _ _ (T30.setTop (mkF m 78 #[.val (.int p0), .val (.ref aa), .val (.ref ab), .unset] [(.int ((p0 &&& (2147483647 : Int32)) % (6 : Int32)))]))
  obtain ⟨r, hr⟩ : ∃ r, r = ((p0 &&& (2147483647 : Int32)) % (6 : Int32)) := ⟨_, rfl⟩
  rw [← hr]
  have hr6 : r = 0 ∨ r = 1 ∨ r = 2 ∨ r = 3 ∨ r = 4 ∨ r = 5 := by rw [hr]; exact own_six p0
  clear hr
  rcases hr6 with rfl | rfl | rfl | rfl | rfl | rfl
  ·
    show own_E _ _ _ _ _ _ _ (T30.setTop (mkF m 78 #[.val (.int p0), .val (.ref aa), .val (.ref ab), .unset] [(.int (0 : Int32))]))
    refine own_go (fun _ k => XS.istoreN X30.here hx rfl (hb hby at_78) rfl (l' := #[.val (.int p0), .val (.ref aa), .val (.ref ab), .val (.int (0 : Int32))]) rfl k) ?_
    show own_E _ _ _ _ _ _ _ (T30.setTop (mkF m 79 #[.val (.int p0), .val (.ref aa), .val (.ref ab), .val (.int (0 : Int32))] []))
    refine own_go (fun _ k => XS.aloadN X30.here hx rfl (hb hby at_79) rfl rfl k) ?_
    show own_E _ _ _ _ _ _ _ (T30.setTop (mkF m 80 #[.val (.int p0), .val (.ref aa), .val (.ref ab), .val (.int (0 : Int32))] [(.ref aa)]))
    refine own_go (fun _ k => XS.iloadN X30.here hx rfl (hb hby at_80) rfl k) ?_
    show own_E _ _ _ _ _ _ _ (T30.setTop (mkF m 81 #[.val (.int p0), .val (.ref aa), .val (.ref ab), .val (.int (0 : Int32))] [(.int (0 : Int32)), (.ref aa)]))
    obtain ⟨c31, a31, i31, u31⟩ := own_at f30_20 (j := (0 : Int32)) (by decide)
    refine own_go (own_aaload X30 hx hZ e30 a31 rfl (j := (0 : Int32)) (v := (.ref w0)) i31 u31 (g := (mkF m 81 #[.val (.int p0), .val (.ref aa), .val (.ref ab), .val (.int (0 : Int32))] [(.int (0 : Int32)), (.ref aa)])) rfl rfl (hb hby at_81)) ?_
    show own_E _ _ _ _ _ _ _ (T30.setTop (mkF m 82 #[.val (.int p0), .val (.ref aa), .val (.ref ab), .val (.int (0 : Int32))] [(.ref w0)]))
    obtain ⟨v32, T32, L32, X32, hQ32, st32⟩ := own_callV X30 hx hZ (rm := ({ frames := 0, cells := 0, slots := 0, locals := 0 } : Room)) (W := 0) (b := w0) (argsL := []) (rest := []) (y := (⟨"com/example/sundiald/sundiald/RunState", "ended", "()Z"⟩ : MethodName)) hown (hw _ (List.mem_of_getElem? (i := 18) rfl)) (hw _ (List.mem_of_getElem? (i := 19) rfl)) (hw _ (List.mem_of_getElem? (i := 21) rfl)) (hw _ (List.mem_of_getElem? (i := 20) rfl)) (hw _ (List.mem_of_getElem? (i := 22) rfl)) (hw _ (List.mem_of_getElem? (i := 3) rfl)) (by decide) (rm1 l Z a0 hw w0 w3 w4 w5 h30 n0 Z30 (S3.ext O30.2) (S4.ext O30.2) (S5.ext O30.2)) e30 (E0.ext O30.2) (by decide) (by decide) (by decide) (by decide) (g := (mkF m 82 #[.val (.int p0), .val (.ref aa), .val (.ref ab), .val (.int (0 : Int32))] [(.ref w0)])) rfl (by rw [hml]; rfl) (lenOf pd_0 rfl) rfl (Nat.le_of_ble_eq_true rfl) (hb hby at_82)
    obtain ⟨rfl, N32, e32⟩ := hQ32
    refine own_go st32 ?_
    rw [if_neg (by simp [ne0_3, ne0_4, ne0_5])]
    show own_E _ _ _ _ _ _ _ (T32.setTop (mkF m 85 #[.val (.int p0), .val (.ref aa), .val (.ref ab), .val (.int (0 : Int32))] [(.int (0 : Int32))]))
    refine own_go (fun _ k => XS.aloadN X32.here hx rfl (hb hby at_85) rfl rfl k) ?_
    show own_E _ _ _ _ _ _ _ (T32.setTop (mkF m 86 #[.val (.int p0), .val (.ref aa), .val (.ref ab), .val (.int (0 : Int32))] [(.ref ab), (.int (0 : Int32))]))
    refine own_go (fun _ k => XS.iloadN X32.here hx rfl (hb hby at_86) rfl k) ?_
    show own_E _ _ _ _ _ _ _ (T32.setTop (mkF m 87 #[.val (.int p0), .val (.ref aa), .val (.ref ab), .val (.int (0 : Int32))] [(.int (0 : Int32)), (.ref ab), (.int (0 : Int32))]))
    obtain ⟨c33, a33, i33, u33⟩ := own_at v30 (j := (0 : Int32)) (by decide)
    refine own_go (own_zaload X32 hx hZ e32 a33 (j := (0 : Int32)) (v := (.int (0 : Int32))) i33 u33 (g := (mkF m 87 #[.val (.int p0), .val (.ref aa), .val (.ref ab), .val (.int (0 : Int32))] [(.int (0 : Int32)), (.ref ab), (.int (0 : Int32))])) rfl rfl (hb hby at_87)) ?_
    show own_E _ _ _ _ _ _ _ (T32.setTop (mkF m 88 #[.val (.int p0), .val (.ref aa), .val (.ref ab), .val (.int (0 : Int32))] [(.int (0 : Int32)), (.int (0 : Int32))]))
    refine own_go (fun _ k => XS.icmpNo X32.here hx rfl (hb hby at_88) rfl (by decide) k) ?_
    show own_E _ _ _ _ _ _ _ (T32.setTop (mkF m 91 #[.val (.int p0), .val (.ref aa), .val (.ref ab), .val (.int (0 : Int32))] []))
    refine own_go (fun _ k => XT.iconstV X32.here hx rfl (1 : Int32) (hb hby at_91) (by decide) k) ?_
    show own_E _ _ _ _ _ _ _ (T32.setTop (mkF m 92 #[.val (.int p0), .val (.ref aa), .val (.ref ab), .val (.int (0 : Int32))] [(.int (1 : Int32))]))
    refine own_go (fun _ k => XS.goto X32.here hx rfl (pc0 := 92) (pc' := 96) rfl (hb hby at_92) (by decide) (by decide) k) ?_
    show own_E _ _ _ _ _ _ _ (T32.setTop (mkF m 96 #[.val (.int p0), .val (.ref aa), .val (.ref ab), .val (.int (0 : Int32))] [(.int (1 : Int32))]))
    exact own_ret X32 hx Bd.returns Bd.notSynchronized rfl (Or.inl ⟨rfl, by simp, _, rfl⟩) (hb hby at_96) (by rw [e32]; exact ⟨rfl, Fr.app N30 N32⟩) (by decide) (by decide)
  ·
    show own_E _ _ _ _ _ _ _ (T30.setTop (mkF m 78 #[.val (.int p0), .val (.ref aa), .val (.ref ab), .unset] [(.int (1 : Int32))]))
    refine own_go (fun _ k => XS.istoreN X30.here hx rfl (hb hby at_78) rfl (l' := #[.val (.int p0), .val (.ref aa), .val (.ref ab), .val (.int (1 : Int32))]) rfl k) ?_
    show own_E _ _ _ _ _ _ _ (T30.setTop (mkF m 79 #[.val (.int p0), .val (.ref aa), .val (.ref ab), .val (.int (1 : Int32))] []))
    refine own_go (fun _ k => XS.aloadN X30.here hx rfl (hb hby at_79) rfl rfl k) ?_
    show own_E _ _ _ _ _ _ _ (T30.setTop (mkF m 80 #[.val (.int p0), .val (.ref aa), .val (.ref ab), .val (.int (1 : Int32))] [(.ref aa)]))
    refine own_go (fun _ k => XS.iloadN X30.here hx rfl (hb hby at_80) rfl k) ?_
    show own_E _ _ _ _ _ _ _ (T30.setTop (mkF m 81 #[.val (.int p0), .val (.ref aa), .val (.ref ab), .val (.int (1 : Int32))] [(.int (1 : Int32)), (.ref aa)]))
    obtain ⟨c34, a34, i34, u34⟩ := own_at f30_20 (j := (1 : Int32)) (by decide)
    refine own_go (own_aaload X30 hx hZ e30 a34 rfl (j := (1 : Int32)) (v := (.ref w1)) i34 u34 (g := (mkF m 81 #[.val (.int p0), .val (.ref aa), .val (.ref ab), .val (.int (1 : Int32))] [(.int (1 : Int32)), (.ref aa)])) rfl rfl (hb hby at_81)) ?_
    show own_E _ _ _ _ _ _ _ (T30.setTop (mkF m 82 #[.val (.int p0), .val (.ref aa), .val (.ref ab), .val (.int (1 : Int32))] [(.ref w1)]))
    obtain ⟨v35, T35, L35, X35, hQ35, st35⟩ := own_callV X30 hx hZ (rm := ({ frames := 0, cells := 0, slots := 0, locals := 0 } : Room)) (W := 0) (b := w1) (argsL := []) (rest := []) (y := (⟨"com/example/sundiald/sundiald/RunState", "ended", "()Z"⟩ : MethodName)) hown (hw _ (List.mem_of_getElem? (i := 18) rfl)) (hw _ (List.mem_of_getElem? (i := 19) rfl)) (hw _ (List.mem_of_getElem? (i := 21) rfl)) (hw _ (List.mem_of_getElem? (i := 20) rfl)) (hw _ (List.mem_of_getElem? (i := 22) rfl)) (hw _ (List.mem_of_getElem? (i := 3) rfl)) (by decide) (rm1 l Z a0 hw w1 w3 w4 w5 h30 n0 Z30 (S3.ext O30.2) (S4.ext O30.2) (S5.ext O30.2)) e30 (E1.ext O30.2) (by decide) (by decide) (by decide) (by decide) (g := (mkF m 82 #[.val (.int p0), .val (.ref aa), .val (.ref ab), .val (.int (1 : Int32))] [(.ref w1)])) rfl (by rw [hml]; rfl) (lenOf pd_0 rfl) rfl (Nat.le_of_ble_eq_true rfl) (hb hby at_82)
    obtain ⟨rfl, N35, e35⟩ := hQ35
    refine own_go st35 ?_
    rw [if_neg (by simp [ne1_3, ne1_4, ne1_5])]
    show own_E _ _ _ _ _ _ _ (T35.setTop (mkF m 85 #[.val (.int p0), .val (.ref aa), .val (.ref ab), .val (.int (1 : Int32))] [(.int (0 : Int32))]))
    refine own_go (fun _ k => XS.aloadN X35.here hx rfl (hb hby at_85) rfl rfl k) ?_
    show own_E _ _ _ _ _ _ _ (T35.setTop (mkF m 86 #[.val (.int p0), .val (.ref aa), .val (.ref ab), .val (.int (1 : Int32))] [(.ref ab), (.int (0 : Int32))]))
    refine own_go (fun _ k => XS.iloadN X35.here hx rfl (hb hby at_86) rfl k) ?_
    show own_E _ _ _ _ _ _ _ (T35.setTop (mkF m 87 #[.val (.int p0), .val (.ref aa), .val (.ref ab), .val (.int (1 : Int32))] [(.int (1 : Int32)), (.ref ab), (.int (0 : Int32))]))
    obtain ⟨c36, a36, i36, u36⟩ := own_at v30 (j := (1 : Int32)) (by decide)
    refine own_go (own_zaload X35 hx hZ e35 a36 (j := (1 : Int32)) (v := (.int (0 : Int32))) i36 u36 (g := (mkF m 87 #[.val (.int p0), .val (.ref aa), .val (.ref ab), .val (.int (1 : Int32))] [(.int (1 : Int32)), (.ref ab), (.int (0 : Int32))])) rfl rfl (hb hby at_87)) ?_
    show own_E _ _ _ _ _ _ _ (T35.setTop (mkF m 88 #[.val (.int p0), .val (.ref aa), .val (.ref ab), .val (.int (1 : Int32))] [(.int (0 : Int32)), (.int (0 : Int32))]))
    refine own_go (fun _ k => XS.icmpNo X35.here hx rfl (hb hby at_88) rfl (by decide) k) ?_
    show own_E _ _ _ _ _ _ _ (T35.setTop (mkF m 91 #[.val (.int p0), .val (.ref aa), .val (.ref ab), .val (.int (1 : Int32))] []))
    refine own_go (fun _ k => XT.iconstV X35.here hx rfl (1 : Int32) (hb hby at_91) (by decide) k) ?_
    show own_E _ _ _ _ _ _ _ (T35.setTop (mkF m 92 #[.val (.int p0), .val (.ref aa), .val (.ref ab), .val (.int (1 : Int32))] [(.int (1 : Int32))]))
    refine own_go (fun _ k => XS.goto X35.here hx rfl (pc0 := 92) (pc' := 96) rfl (hb hby at_92) (by decide) (by decide) k) ?_
    show own_E _ _ _ _ _ _ _ (T35.setTop (mkF m 96 #[.val (.int p0), .val (.ref aa), .val (.ref ab), .val (.int (1 : Int32))] [(.int (1 : Int32))]))
    exact own_ret X35 hx Bd.returns Bd.notSynchronized rfl (Or.inl ⟨rfl, by simp, _, rfl⟩) (hb hby at_96) (by rw [e35]; exact ⟨rfl, Fr.app N30 N35⟩) (by decide) (by decide)
  ·
    show own_E _ _ _ _ _ _ _ (T30.setTop (mkF m 78 #[.val (.int p0), .val (.ref aa), .val (.ref ab), .unset] [(.int (2 : Int32))]))
    refine own_go (fun _ k => XS.istoreN X30.here hx rfl (hb hby at_78) rfl (l' := #[.val (.int p0), .val (.ref aa), .val (.ref ab), .val (.int (2 : Int32))]) rfl k) ?_
    show own_E _ _ _ _ _ _ _ (T30.setTop (mkF m 79 #[.val (.int p0), .val (.ref aa), .val (.ref ab), .val (.int (2 : Int32))] []))
    refine own_go (fun _ k => XS.aloadN X30.here hx rfl (hb hby at_79) rfl rfl k) ?_
    show own_E _ _ _ _ _ _ _ (T30.setTop (mkF m 80 #[.val (.int p0), .val (.ref aa), .val (.ref ab), .val (.int (2 : Int32))] [(.ref aa)]))
    refine own_go (fun _ k => XS.iloadN X30.here hx rfl (hb hby at_80) rfl k) ?_
    show own_E _ _ _ _ _ _ _ (T30.setTop (mkF m 81 #[.val (.int p0), .val (.ref aa), .val (.ref ab), .val (.int (2 : Int32))] [(.int (2 : Int32)), (.ref aa)]))
    obtain ⟨c37, a37, i37, u37⟩ := own_at f30_20 (j := (2 : Int32)) (by decide)
    refine own_go (own_aaload X30 hx hZ e30 a37 rfl (j := (2 : Int32)) (v := (.ref w2)) i37 u37 (g := (mkF m 81 #[.val (.int p0), .val (.ref aa), .val (.ref ab), .val (.int (2 : Int32))] [(.int (2 : Int32)), (.ref aa)])) rfl rfl (hb hby at_81)) ?_
    show own_E _ _ _ _ _ _ _ (T30.setTop (mkF m 82 #[.val (.int p0), .val (.ref aa), .val (.ref ab), .val (.int (2 : Int32))] [(.ref w2)]))
    obtain ⟨v38, T38, L38, X38, hQ38, st38⟩ := own_callV X30 hx hZ (rm := ({ frames := 0, cells := 0, slots := 0, locals := 0 } : Room)) (W := 0) (b := w2) (argsL := []) (rest := []) (y := (⟨"com/example/sundiald/sundiald/RunState", "ended", "()Z"⟩ : MethodName)) hown (hw _ (List.mem_of_getElem? (i := 18) rfl)) (hw _ (List.mem_of_getElem? (i := 19) rfl)) (hw _ (List.mem_of_getElem? (i := 21) rfl)) (hw _ (List.mem_of_getElem? (i := 20) rfl)) (hw _ (List.mem_of_getElem? (i := 22) rfl)) (hw _ (List.mem_of_getElem? (i := 3) rfl)) (by decide) (rm1 l Z a0 hw w2 w3 w4 w5 h30 n0 Z30 (S3.ext O30.2) (S4.ext O30.2) (S5.ext O30.2)) e30 (E2.ext O30.2) (by decide) (by decide) (by decide) (by decide) (g := (mkF m 82 #[.val (.int p0), .val (.ref aa), .val (.ref ab), .val (.int (2 : Int32))] [(.ref w2)])) rfl (by rw [hml]; rfl) (lenOf pd_0 rfl) rfl (Nat.le_of_ble_eq_true rfl) (hb hby at_82)
    obtain ⟨rfl, N38, e38⟩ := hQ38
    refine own_go st38 ?_
    rw [if_neg (by simp [ne2_3, ne2_4, ne2_5])]
    show own_E _ _ _ _ _ _ _ (T38.setTop (mkF m 85 #[.val (.int p0), .val (.ref aa), .val (.ref ab), .val (.int (2 : Int32))] [(.int (0 : Int32))]))
    refine own_go (fun _ k => XS.aloadN X38.here hx rfl (hb hby at_85) rfl rfl k) ?_
    show own_E _ _ _ _ _ _ _ (T38.setTop (mkF m 86 #[.val (.int p0), .val (.ref aa), .val (.ref ab), .val (.int (2 : Int32))] [(.ref ab), (.int (0 : Int32))]))
    refine own_go (fun _ k => XS.iloadN X38.here hx rfl (hb hby at_86) rfl k) ?_
    show own_E _ _ _ _ _ _ _ (T38.setTop (mkF m 87 #[.val (.int p0), .val (.ref aa), .val (.ref ab), .val (.int (2 : Int32))] [(.int (2 : Int32)), (.ref ab), (.int (0 : Int32))]))
    obtain ⟨c39, a39, i39, u39⟩ := own_at v30 (j := (2 : Int32)) (by decide)
    refine own_go (own_zaload X38 hx hZ e38 a39 (j := (2 : Int32)) (v := (.int (0 : Int32))) i39 u39 (g := (mkF m 87 #[.val (.int p0), .val (.ref aa), .val (.ref ab), .val (.int (2 : Int32))] [(.int (2 : Int32)), (.ref ab), (.int (0 : Int32))])) rfl rfl (hb hby at_87)) ?_
    show own_E _ _ _ _ _ _ _ (T38.setTop (mkF m 88 #[.val (.int p0), .val (.ref aa), .val (.ref ab), .val (.int (2 : Int32))] [(.int (0 : Int32)), (.int (0 : Int32))]))
    refine own_go (fun _ k => XS.icmpNo X38.here hx rfl (hb hby at_88) rfl (by decide) k) ?_
    show own_E _ _ _ _ _ _ _ (T38.setTop (mkF m 91 #[.val (.int p0), .val (.ref aa), .val (.ref ab), .val (.int (2 : Int32))] []))
    refine own_go (fun _ k => XT.iconstV X38.here hx rfl (1 : Int32) (hb hby at_91) (by decide) k) ?_
    show own_E _ _ _ _ _ _ _ (T38.setTop (mkF m 92 #[.val (.int p0), .val (.ref aa), .val (.ref ab), .val (.int (2 : Int32))] [(.int (1 : Int32))]))
    refine own_go (fun _ k => XS.goto X38.here hx rfl (pc0 := 92) (pc' := 96) rfl (hb hby at_92) (by decide) (by decide) k) ?_
    show own_E _ _ _ _ _ _ _ (T38.setTop (mkF m 96 #[.val (.int p0), .val (.ref aa), .val (.ref ab), .val (.int (2 : Int32))] [(.int (1 : Int32))]))
    exact own_ret X38 hx Bd.returns Bd.notSynchronized rfl (Or.inl ⟨rfl, by simp, _, rfl⟩) (hb hby at_96) (by rw [e38]; exact ⟨rfl, Fr.app N30 N38⟩) (by decide) (by decide)
  ·
    show own_E _ _ _ _ _ _ _ (T30.setTop (mkF m 78 #[.val (.int p0), .val (.ref aa), .val (.ref ab), .unset] [(.int (3 : Int32))]))
    refine own_go (fun _ k => XS.istoreN X30.here hx rfl (hb hby at_78) rfl (l' := #[.val (.int p0), .val (.ref aa), .val (.ref ab), .val (.int (3 : Int32))]) rfl k) ?_
    show own_E _ _ _ _ _ _ _ (T30.setTop (mkF m 79 #[.val (.int p0), .val (.ref aa), .val (.ref ab), .val (.int (3 : Int32))] []))
    refine own_go (fun _ k => XS.aloadN X30.here hx rfl (hb hby at_79) rfl rfl k) ?_
    show own_E _ _ _ _ _ _ _ (T30.setTop (mkF m 80 #[.val (.int p0), .val (.ref aa), .val (.ref ab), .val (.int (3 : Int32))] [(.ref aa)]))
    refine own_go (fun _ k => XS.iloadN X30.here hx rfl (hb hby at_80) rfl k) ?_
    show own_E _ _ _ _ _ _ _ (T30.setTop (mkF m 81 #[.val (.int p0), .val (.ref aa), .val (.ref ab), .val (.int (3 : Int32))] [(.int (3 : Int32)), (.ref aa)]))
    obtain ⟨c40, a40, i40, u40⟩ := own_at f30_20 (j := (3 : Int32)) (by decide)
    refine own_go (own_aaload X30 hx hZ e30 a40 rfl (j := (3 : Int32)) (v := (.ref w3)) i40 u40 (g := (mkF m 81 #[.val (.int p0), .val (.ref aa), .val (.ref ab), .val (.int (3 : Int32))] [(.int (3 : Int32)), (.ref aa)])) rfl rfl (hb hby at_81)) ?_
    show own_E _ _ _ _ _ _ _ (T30.setTop (mkF m 82 #[.val (.int p0), .val (.ref aa), .val (.ref ab), .val (.int (3 : Int32))] [(.ref w3)]))
    obtain ⟨v41, T41, L41, X41, hQ41, st41⟩ := own_callV X30 hx hZ (rm := ({ frames := 0, cells := 0, slots := 0, locals := 0 } : Room)) (W := 0) (b := w3) (argsL := []) (rest := []) (y := (⟨"com/example/sundiald/sundiald/RunState", "ended", "()Z"⟩ : MethodName)) hown (hw _ (List.mem_of_getElem? (i := 18) rfl)) (hw _ (List.mem_of_getElem? (i := 19) rfl)) (hw _ (List.mem_of_getElem? (i := 21) rfl)) (hw _ (List.mem_of_getElem? (i := 20) rfl)) (hw _ (List.mem_of_getElem? (i := 22) rfl)) (hw _ (List.mem_of_getElem? (i := 3) rfl)) (by decide) (rm1 l Z a0 hw w3 w3 w4 w5 h30 n0 Z30 (S3.ext O30.2) (S4.ext O30.2) (S5.ext O30.2)) e30 (E3.ext O30.2) (by decide) (by decide) (by decide) (by decide) (g := (mkF m 82 #[.val (.int p0), .val (.ref aa), .val (.ref ab), .val (.int (3 : Int32))] [(.ref w3)])) rfl (by rw [hml]; rfl) (lenOf pd_0 rfl) rfl (Nat.le_of_ble_eq_true rfl) (hb hby at_82)
    obtain ⟨rfl, N41, e41⟩ := hQ41
    refine own_go st41 ?_
    rw [if_pos (by simp)]
    show own_E _ _ _ _ _ _ _ (T41.setTop (mkF m 85 #[.val (.int p0), .val (.ref aa), .val (.ref ab), .val (.int (3 : Int32))] [(.int (1 : Int32))]))
    refine own_go (fun _ k => XS.aloadN X41.here hx rfl (hb hby at_85) rfl rfl k) ?_
    show own_E _ _ _ _ _ _ _ (T41.setTop (mkF m 86 #[.val (.int p0), .val (.ref aa), .val (.ref ab), .val (.int (3 : Int32))] [(.ref ab), (.int (1 : Int32))]))
    refine own_go (fun _ k => XS.iloadN X41.here hx rfl (hb hby at_86) rfl k) ?_
    show own_E _ _ _ _ _ _ _ (T41.setTop (mkF m 87 #[.val (.int p0), .val (.ref aa), .val (.ref ab), .val (.int (3 : Int32))] [(.int (3 : Int32)), (.ref ab), (.int (1 : Int32))]))
    obtain ⟨c42, a42, i42, u42⟩ := own_at v30 (j := (3 : Int32)) (by decide)
    refine own_go (own_zaload X41 hx hZ e41 a42 (j := (3 : Int32)) (v := (.int (1 : Int32))) i42 u42 (g := (mkF m 87 #[.val (.int p0), .val (.ref aa), .val (.ref ab), .val (.int (3 : Int32))] [(.int (3 : Int32)), (.ref ab), (.int (1 : Int32))])) rfl rfl (hb hby at_87)) ?_
    show own_E _ _ _ _ _ _ _ (T41.setTop (mkF m 88 #[.val (.int p0), .val (.ref aa), .val (.ref ab), .val (.int (3 : Int32))] [(.int (1 : Int32)), (.int (1 : Int32))]))
    refine own_go (fun _ k => XS.icmpNo X41.here hx rfl (hb hby at_88) rfl (by decide) k) ?_
    show own_E _ _ _ _ _ _ _ (T41.setTop (mkF m 91 #[.val (.int p0), .val (.ref aa), .val (.ref ab), .val (.int (3 : Int32))] []))
    refine own_go (fun _ k => XT.iconstV X41.here hx rfl (1 : Int32) (hb hby at_91) (by decide) k) ?_
    show own_E _ _ _ _ _ _ _ (T41.setTop (mkF m 92 #[.val (.int p0), .val (.ref aa), .val (.ref ab), .val (.int (3 : Int32))] [(.int (1 : Int32))]))
    refine own_go (fun _ k => XS.goto X41.here hx rfl (pc0 := 92) (pc' := 96) rfl (hb hby at_92) (by decide) (by decide) k) ?_
    show own_E _ _ _ _ _ _ _ (T41.setTop (mkF m 96 #[.val (.int p0), .val (.ref aa), .val (.ref ab), .val (.int (3 : Int32))] [(.int (1 : Int32))]))
    exact own_ret X41 hx Bd.returns Bd.notSynchronized rfl (Or.inl ⟨rfl, by simp, _, rfl⟩) (hb hby at_96) (by rw [e41]; exact ⟨rfl, Fr.app N30 N41⟩) (by decide) (by decide)
  ·
    show own_E _ _ _ _ _ _ _ (T30.setTop (mkF m 78 #[.val (.int p0), .val (.ref aa), .val (.ref ab), .unset] [(.int (4 : Int32))]))
    refine own_go (fun _ k => XS.istoreN X30.here hx rfl (hb hby at_78) rfl (l' := #[.val (.int p0), .val (.ref aa), .val (.ref ab), .val (.int (4 : Int32))]) rfl k) ?_
    show own_E _ _ _ _ _ _ _ (T30.setTop (mkF m 79 #[.val (.int p0), .val (.ref aa), .val (.ref ab), .val (.int (4 : Int32))] []))
    refine own_go (fun _ k => XS.aloadN X30.here hx rfl (hb hby at_79) rfl rfl k) ?_
    show own_E _ _ _ _ _ _ _ (T30.setTop (mkF m 80 #[.val (.int p0), .val (.ref aa), .val (.ref ab), .val (.int (4 : Int32))] [(.ref aa)]))
    refine own_go (fun _ k => XS.iloadN X30.here hx rfl (hb hby at_80) rfl k) ?_
    show own_E _ _ _ _ _ _ _ (T30.setTop (mkF m 81 #[.val (.int p0), .val (.ref aa), .val (.ref ab), .val (.int (4 : Int32))] [(.int (4 : Int32)), (.ref aa)]))
    obtain ⟨c43, a43, i43, u43⟩ := own_at f30_20 (j := (4 : Int32)) (by decide)
    refine own_go (own_aaload X30 hx hZ e30 a43 rfl (j := (4 : Int32)) (v := (.ref w4)) i43 u43 (g := (mkF m 81 #[.val (.int p0), .val (.ref aa), .val (.ref ab), .val (.int (4 : Int32))] [(.int (4 : Int32)), (.ref aa)])) rfl rfl (hb hby at_81)) ?_
    show own_E _ _ _ _ _ _ _ (T30.setTop (mkF m 82 #[.val (.int p0), .val (.ref aa), .val (.ref ab), .val (.int (4 : Int32))] [(.ref w4)]))
    obtain ⟨v44, T44, L44, X44, hQ44, st44⟩ := own_callV X30 hx hZ (rm := ({ frames := 0, cells := 0, slots := 0, locals := 0 } : Room)) (W := 0) (b := w4) (argsL := []) (rest := []) (y := (⟨"com/example/sundiald/sundiald/RunState", "ended", "()Z"⟩ : MethodName)) hown (hw _ (List.mem_of_getElem? (i := 18) rfl)) (hw _ (List.mem_of_getElem? (i := 19) rfl)) (hw _ (List.mem_of_getElem? (i := 21) rfl)) (hw _ (List.mem_of_getElem? (i := 20) rfl)) (hw _ (List.mem_of_getElem? (i := 22) rfl)) (hw _ (List.mem_of_getElem? (i := 3) rfl)) (by decide) (rm1 l Z a0 hw w4 w3 w4 w5 h30 n0 Z30 (S3.ext O30.2) (S4.ext O30.2) (S5.ext O30.2)) e30 (E4.ext O30.2) (by decide) (by decide) (by decide) (by decide) (g := (mkF m 82 #[.val (.int p0), .val (.ref aa), .val (.ref ab), .val (.int (4 : Int32))] [(.ref w4)])) rfl (by rw [hml]; rfl) (lenOf pd_0 rfl) rfl (Nat.le_of_ble_eq_true rfl) (hb hby at_82)
    obtain ⟨rfl, N44, e44⟩ := hQ44
    refine own_go st44 ?_
    rw [if_pos (by simp)]
    show own_E _ _ _ _ _ _ _ (T44.setTop (mkF m 85 #[.val (.int p0), .val (.ref aa), .val (.ref ab), .val (.int (4 : Int32))] [(.int (1 : Int32))]))
    refine own_go (fun _ k => XS.aloadN X44.here hx rfl (hb hby at_85) rfl rfl k) ?_
    show own_E _ _ _ _ _ _ _ (T44.setTop (mkF m 86 #[.val (.int p0), .val (.ref aa), .val (.ref ab), .val (.int (4 : Int32))] [(.ref ab), (.int (1 : Int32))]))
    refine own_go (fun _ k => XS.iloadN X44.here hx rfl (hb hby at_86) rfl k) ?_
    show own_E _ _ _ _ _ _ _ (T44.setTop (mkF m 87 #[.val (.int p0), .val (.ref aa), .val (.ref ab), .val (.int (4 : Int32))] [(.int (4 : Int32)), (.ref ab), (.int (1 : Int32))]))
    obtain ⟨c45, a45, i45, u45⟩ := own_at v30 (j := (4 : Int32)) (by decide)
    refine own_go (own_zaload X44 hx hZ e44 a45 (j := (4 : Int32)) (v := (.int (1 : Int32))) i45 u45 (g := (mkF m 87 #[.val (.int p0), .val (.ref aa), .val (.ref ab), .val (.int (4 : Int32))] [(.int (4 : Int32)), (.ref ab), (.int (1 : Int32))])) rfl rfl (hb hby at_87)) ?_
    show own_E _ _ _ _ _ _ _ (T44.setTop (mkF m 88 #[.val (.int p0), .val (.ref aa), .val (.ref ab), .val (.int (4 : Int32))] [(.int (1 : Int32)), (.int (1 : Int32))]))
    refine own_go (fun _ k => XS.icmpNo X44.here hx rfl (hb hby at_88) rfl (by decide) k) ?_
    show own_E _ _ _ _ _ _ _ (T44.setTop (mkF m 91 #[.val (.int p0), .val (.ref aa), .val (.ref ab), .val (.int (4 : Int32))] []))
    refine own_go (fun _ k => XT.iconstV X44.here hx rfl (1 : Int32) (hb hby at_91) (by decide) k) ?_
    show own_E _ _ _ _ _ _ _ (T44.setTop (mkF m 92 #[.val (.int p0), .val (.ref aa), .val (.ref ab), .val (.int (4 : Int32))] [(.int (1 : Int32))]))
    refine own_go (fun _ k => XS.goto X44.here hx rfl (pc0 := 92) (pc' := 96) rfl (hb hby at_92) (by decide) (by decide) k) ?_
    show own_E _ _ _ _ _ _ _ (T44.setTop (mkF m 96 #[.val (.int p0), .val (.ref aa), .val (.ref ab), .val (.int (4 : Int32))] [(.int (1 : Int32))]))
    exact own_ret X44 hx Bd.returns Bd.notSynchronized rfl (Or.inl ⟨rfl, by simp, _, rfl⟩) (hb hby at_96) (by rw [e44]; exact ⟨rfl, Fr.app N30 N44⟩) (by decide) (by decide)
  ·
    show own_E _ _ _ _ _ _ _ (T30.setTop (mkF m 78 #[.val (.int p0), .val (.ref aa), .val (.ref ab), .unset] [(.int (5 : Int32))]))
    refine own_go (fun _ k => XS.istoreN X30.here hx rfl (hb hby at_78) rfl (l' := #[.val (.int p0), .val (.ref aa), .val (.ref ab), .val (.int (5 : Int32))]) rfl k) ?_
    show own_E _ _ _ _ _ _ _ (T30.setTop (mkF m 79 #[.val (.int p0), .val (.ref aa), .val (.ref ab), .val (.int (5 : Int32))] []))
    refine own_go (fun _ k => XS.aloadN X30.here hx rfl (hb hby at_79) rfl rfl k) ?_
    show own_E _ _ _ _ _ _ _ (T30.setTop (mkF m 80 #[.val (.int p0), .val (.ref aa), .val (.ref ab), .val (.int (5 : Int32))] [(.ref aa)]))
    refine own_go (fun _ k => XS.iloadN X30.here hx rfl (hb hby at_80) rfl k) ?_
    show own_E _ _ _ _ _ _ _ (T30.setTop (mkF m 81 #[.val (.int p0), .val (.ref aa), .val (.ref ab), .val (.int (5 : Int32))] [(.int (5 : Int32)), (.ref aa)]))
    obtain ⟨c46, a46, i46, u46⟩ := own_at f30_20 (j := (5 : Int32)) (by decide)
    refine own_go (own_aaload X30 hx hZ e30 a46 rfl (j := (5 : Int32)) (v := (.ref w5)) i46 u46 (g := (mkF m 81 #[.val (.int p0), .val (.ref aa), .val (.ref ab), .val (.int (5 : Int32))] [(.int (5 : Int32)), (.ref aa)])) rfl rfl (hb hby at_81)) ?_
    show own_E _ _ _ _ _ _ _ (T30.setTop (mkF m 82 #[.val (.int p0), .val (.ref aa), .val (.ref ab), .val (.int (5 : Int32))] [(.ref w5)]))
    obtain ⟨v47, T47, L47, X47, hQ47, st47⟩ := own_callV X30 hx hZ (rm := ({ frames := 0, cells := 0, slots := 0, locals := 0 } : Room)) (W := 0) (b := w5) (argsL := []) (rest := []) (y := (⟨"com/example/sundiald/sundiald/RunState", "ended", "()Z"⟩ : MethodName)) hown (hw _ (List.mem_of_getElem? (i := 18) rfl)) (hw _ (List.mem_of_getElem? (i := 19) rfl)) (hw _ (List.mem_of_getElem? (i := 21) rfl)) (hw _ (List.mem_of_getElem? (i := 20) rfl)) (hw _ (List.mem_of_getElem? (i := 22) rfl)) (hw _ (List.mem_of_getElem? (i := 3) rfl)) (by decide) (rm1 l Z a0 hw w5 w3 w4 w5 h30 n0 Z30 (S3.ext O30.2) (S4.ext O30.2) (S5.ext O30.2)) e30 (E5.ext O30.2) (by decide) (by decide) (by decide) (by decide) (g := (mkF m 82 #[.val (.int p0), .val (.ref aa), .val (.ref ab), .val (.int (5 : Int32))] [(.ref w5)])) rfl (by rw [hml]; rfl) (lenOf pd_0 rfl) rfl (Nat.le_of_ble_eq_true rfl) (hb hby at_82)
    obtain ⟨rfl, N47, e47⟩ := hQ47
    refine own_go st47 ?_
    rw [if_pos (by simp)]
    show own_E _ _ _ _ _ _ _ (T47.setTop (mkF m 85 #[.val (.int p0), .val (.ref aa), .val (.ref ab), .val (.int (5 : Int32))] [(.int (1 : Int32))]))
    refine own_go (fun _ k => XS.aloadN X47.here hx rfl (hb hby at_85) rfl rfl k) ?_
    show own_E _ _ _ _ _ _ _ (T47.setTop (mkF m 86 #[.val (.int p0), .val (.ref aa), .val (.ref ab), .val (.int (5 : Int32))] [(.ref ab), (.int (1 : Int32))]))
    refine own_go (fun _ k => XS.iloadN X47.here hx rfl (hb hby at_86) rfl k) ?_
    show own_E _ _ _ _ _ _ _ (T47.setTop (mkF m 87 #[.val (.int p0), .val (.ref aa), .val (.ref ab), .val (.int (5 : Int32))] [(.int (5 : Int32)), (.ref ab), (.int (1 : Int32))]))
    obtain ⟨c48, a48, i48, u48⟩ := own_at v30 (j := (5 : Int32)) (by decide)
    refine own_go (own_zaload X47 hx hZ e47 a48 (j := (5 : Int32)) (v := (.int (1 : Int32))) i48 u48 (g := (mkF m 87 #[.val (.int p0), .val (.ref aa), .val (.ref ab), .val (.int (5 : Int32))] [(.int (5 : Int32)), (.ref ab), (.int (1 : Int32))])) rfl rfl (hb hby at_87)) ?_
    show own_E _ _ _ _ _ _ _ (T47.setTop (mkF m 88 #[.val (.int p0), .val (.ref aa), .val (.ref ab), .val (.int (5 : Int32))] [(.int (1 : Int32)), (.int (1 : Int32))]))
    refine own_go (fun _ k => XS.icmpNo X47.here hx rfl (hb hby at_88) rfl (by decide) k) ?_
    show own_E _ _ _ _ _ _ _ (T47.setTop (mkF m 91 #[.val (.int p0), .val (.ref aa), .val (.ref ab), .val (.int (5 : Int32))] []))
    refine own_go (fun _ k => XT.iconstV X47.here hx rfl (1 : Int32) (hb hby at_91) (by decide) k) ?_
    show own_E _ _ _ _ _ _ _ (T47.setTop (mkF m 92 #[.val (.int p0), .val (.ref aa), .val (.ref ab), .val (.int (5 : Int32))] [(.int (1 : Int32))]))
    refine own_go (fun _ k => XS.goto X47.here hx rfl (pc0 := 92) (pc' := 96) rfl (hb hby at_92) (by decide) (by decide) k) ?_
    show own_E _ _ _ _ _ _ _ (T47.setTop (mkF m 96 #[.val (.int p0), .val (.ref aa), .val (.ref ab), .val (.int (5 : Int32))] [(.int (1 : Int32))]))
    exact own_ret X47 hx Bd.returns Bd.notSynchronized rfl (Or.inl ⟨rfl, by simp, _, rfl⟩) (hb hby at_96) (by rw [e47]; exact ⟨rfl, Fr.app N30 N47⟩) (by decide) (by decide)
set_option maxRecDepth 65536 in
set_option maxHeartbeats 40000000 in
theorem comes_1 {Post : Tables → Env → Array Value → State → Outcome → State → Prop} (hpost : ∀ tb e args s v u, (limb_1_1.after args s (.returned v) u = true ∧ limb_1_2.after args s (.returned v) u = true ∧ True) → FrameEnd s (.returned v) u (Jvm.fieldLocs frame_1_writes args s ++ Jvm.arrayLocs frame_1_arrays args s ++ Jvm.staticLocs frame_1_statics s) 16 128 → Post tb e args s (.returned v) u) :
    ArmFor flags0 classFile x code maxLocals ret World_1 tables_1 room_1 Calls_1 rest_1 Pre_1 Post := by
  intro l hfl _ _ p e ha hc hk s m args below hf hA hF happ hP
  obtain ⟨hcalls, hrest, hpre⟩ := hP
  obtain ⟨-, -, -, hnamed, -, -, -, hat⟩ := (Spec.applies_iff hf).mp happ
  obtain ⟨hg, hn⟩ := and_e (Cond.before_iff.mp (show (Jvm.Cond.and given_1 narrow_1).before args s = true from hpre))
  obtain ⟨hcount, hg⟩ := and_e hg
  obtain ⟨w0, rfl⟩ : ∃ w0 : Value, args = #[w0] := by
    have hs : args.size = 1 := by simpa [Cond.value, given_1] using hcount
    obtain ⟨L⟩ := args
    match L, hs with
    | [w0], _ => exact ⟨w0, rfl⟩
  have hw := fun d (hd : d ∈ tables_1) => atoms_spec (ws := Jvm.Cond.code x code maxLocals ret :: tables_1) hat d (List.mem_cons_of_mem _ hd)
  have hfit : Fit s := fun {y c} hc i hi => by
    obtain ⟨ha, rfl⟩ := Array.getElem?_eq_some_iff.mp hc
    have q := List.all_eq_true.mp ((Array.all_eq_true_iff_forall_mem.mp hF) _ (Array.getElem_mem ha)) i (List.mem_range.mpr hi)
    simpa [Array.getElem?_eq_getElem hi] using q
  have hg0 := hg
  obtain ⟨i0, q0⟩ := is_v hg0
  obtain rfl : w0 = (.int i0) := Option.some.inj q0
  obtain ⟨x_PENDING, hn⟩ := and_e hn
  obtain ⟨x_RUNNING, hn⟩ := and_e hn
  obtain ⟨x_RETRY_WAIT, hn⟩ := and_e hn
  obtain ⟨x_SUCCEEDED, hn⟩ := and_e hn
  obtain ⟨x_FAILED, hn⟩ := and_e hn
  obtain ⟨x_SKIPPED, hn⟩ := and_e hn
  obtain ⟨x_oPENDING, hn⟩ := and_e hn
  obtain ⟨x_oSUCCEEDED, hn⟩ := and_e hn
  obtain ⟨x_oFAILED, hn⟩ := and_e hn
  obtain ⟨x_oSKIPPED, hn⟩ := and_e hn
  obtain ⟨x_oRETRY_WAIT, hn⟩ := and_e hn
  have x_oRUNNING := hn
  obtain ⟨w0, ev0, S0, E0⟩ := own_const x_PENDING (hw _ (List.mem_of_getElem? (i := 3) rfl)) (hw _ (List.mem_of_getElem? (i := 4) rfl))
  have F0 := own_fldI ev0 x_oPENDING
  obtain ⟨w1, ev1, S1, E1⟩ := own_const x_RUNNING (hw _ (List.mem_of_getElem? (i := 3) rfl)) (hw _ (List.mem_of_getElem? (i := 7) rfl))
  have F1 := own_fldI ev1 x_oRUNNING
  obtain ⟨w2, ev2, S2, E2⟩ := own_const x_RETRY_WAIT (hw _ (List.mem_of_getElem? (i := 3) rfl)) (hw _ (List.mem_of_getElem? (i := 9) rfl))
  have F2 := own_fldI ev2 x_oRETRY_WAIT
  obtain ⟨w3, ev3, S3, E3⟩ := own_const x_SUCCEEDED (hw _ (List.mem_of_getElem? (i := 3) rfl)) (hw _ (List.mem_of_getElem? (i := 11) rfl))
  have F3 := own_fldI ev3 x_oSUCCEEDED
  obtain ⟨w4, ev4, S4, E4⟩ := own_const x_FAILED (hw _ (List.mem_of_getElem? (i := 3) rfl)) (hw _ (List.mem_of_getElem? (i := 13) rfl))
  have F4 := own_fldI ev4 x_oFAILED
  obtain ⟨w5, ev5, S5, E5⟩ := own_const x_SKIPPED (hw _ (List.mem_of_getElem? (i := 3) rfl)) (hw _ (List.mem_of_getElem? (i := 15) rfl))
  have F5 := own_fldI ev5 x_oSKIPPED
  obtain ⟨n, o, h1, h2, h3, _, L, rfl, ⟨rfl, N⟩, hq⟩ := rm0 l s _ hw tables_1 i0 w0 w1 w2 w3 w4 w5 s.heap s.heap.size (Nat.le_refl _) (Old.start s) S0 S1 S2 S3 S4 S5 E0 E1 E2 E3 E4 E5 (F0.ne F3 (by decide)) (F0.ne F4 (by decide)) (F0.ne F5 (by decide)) (F1.ne F3 (by decide)) (F1.ne F4 (by decide)) (F1.ne F5 (by decide)) (F2.ne F3 (by decide)) (F2.ne F4 (by decide)) (F2.ne F5 (by decide)) p e ha hc hk s m _ below hf ((Spec.applies_iff_loose hf).mp happ).1 ⟨rfl, State.Warmed39.refl s, rfl⟩ trivial
  refine ⟨n, _, h1, h2, h3, hpost _ _ _ _ _ _ ⟨Cond.after_iff.mpr rfl, Cond.after_iff.mpr (eq_i res_at (Term.int_eval (1)) rfl), trivial⟩ ⟨hq.1, hq.2.1, (hq.2.2.sift fun y hy => Or.inr (N y hy)).mono (by decide) (by decide)⟩⟩
theorem main_1_1 : Claimed_1_1 := comes_1 fun _ _ _ _ _ _ h hF => ⟨h.1, hF⟩
theorem main_1_2 : Claimed_1_2 := comes_1 fun _ _ _ _ _ _ h hF => ⟨h.2.1, hF⟩
end Jvm.Pilot.@@N@@
namespace Jvm.Pilot.@@N@@
open Jvm Jvm.ClassFile Sem Op Lib Jvm.Free Jvm.Stand Jvm.Pilot.@@N@@.Jvm.D
/-! MADE BY PROGRAM (witnessworld.py) out of the Statement's table words and the real class files: 16 classes; the members and pool entries that the words name. The judged class is class 1, her method 1. -/
namespace start1
open Jvm.ClassFile
def u (s : String) : CpInfo := .utf8 (stringToUtf16 s)
/-- a pool by its gaps: so many unusable entries, then the entry; so many at the end -/
def gap : Nat → List CpInfo → List CpInfo
  | 0, r => r
  | n + 1, r => .unusable :: gap n r
def poolList (es : List (Nat × CpInfo)) (last : Nat) : List CpInfo := es.foldr (fun e r => gap e.1 (e.2 :: r)) (gap last [])
def pool (es : List (Nat × CpInfo)) (last : Nat) : Array CpInfo := ⟨poolList es last⟩
def fileOf (pool : Array CpInfo) (this : Nat) (attrs : Array Attribute := #[]) (ms : Array MethodInfo := #[]) (fl : Nat := 33) (sup : Nat := 0) (ifs : Array Nat := #[]) (fds : Array FieldInfo := #[]) : ClassFile where
  minorVersion := 0
  majorVersion := 65
  constantPool := pool
  accessFlags := fl
  thisClass := this
  superClass := sup
  interfaces := ifs
  fields := fds
  methods := ms
  attributes := attrs
def plain (name : String) (sup : Option ClassId) : Class where
  name := name
  kind := .ordinary
  loader := none
  accessFlags := 33
  super := sup
  interfaces := #[]
  cf := none
  fields := #[]
  methods := #[]
  instanceTypes := #[]
  staticTypes := #[]
  resolved := #[]
  callSites := []
  init := .initialized
  statics := none
  mirror := none

def pool0 : Array CpInfo := pool [(5, u "<init>"), (0, u "()V"), (1, .class_ 10), (1, u "java/lang/Object")] 113

def k0m0 : Method := { name := "<init>", desc := "()V", sig := { parameters := [], returnType := none }, accessFlags := 1, code := none }
/-- java/lang/Object -/
def k0 : Class := { plain "java/lang/Object" none with
  accessFlags := 33
  interfaces := #[]
  cf := some (fileOf pool0 8 #[] #[{ accessFlags := 1, nameIndex := 5, descriptorIndex := 6, attributes := #[] }] 33 0 #[] #[])
  fields := #[]
  methods := #[k0m0]
  instanceTypes := #[]
  staticTypes := #[]
  resolved := Array.replicate 124 none
  statics := none }

def pool1 : Array CpInfo := pool [(2, .class_ 4), (1, u "java/lang/Object"), (0, u "<init>"), (0, u "()V"), (0, .class_ 8), (0, u "com/example/sundiald/sundiald/RunState"), (0, .fieldref 7 10), (0, .nameAndType 11 12), (0, u "PENDING"), (0, u "Lcom/example/sundiald/sundiald/RunState;"), (0, .fieldref 7 14), (0, .nameAndType 15 12), (0, u "RUNNING"), (0, .fieldref 7 17), (0, .nameAndType 18 12), (0, u "RETRY_WAIT"), (0, .fieldref 7 20), (0, .nameAndType 21 12), (0, u "SUCCEEDED"), (0, .fieldref 7 23), (0, .nameAndType 24 12), (0, u "FAILED"), (0, .fieldref 7 26), (0, .nameAndType 27 12), (0, u "SKIPPED"), (0, .integer 2147483647), (0, .methodref 7 30), (0, .nameAndType 31 32), (0, u "ended"), (0, u "()Z"), (0, .class_ 34), (0, u "com/example/sundiald/sundiald/RunStateEndedPinLaw"), (2, u "law"), (0, u "(I)Z")] 7

def k1m0 : Method := { name := "<init>", desc := "()V", sig := { parameters := [], returnType := none }, accessFlags := 2, code := none }
def k1c1 : Code := { maxStack := 4, maxLocals := 4, code := code, exceptionTable := #[], attributes := #[] }
def k1m1 : Method := { name := "law", desc := "(I)Z", sig := { parameters := [.int], returnType := some .boolean }, accessFlags := 9, code := some k1c1 }
/-- com/example/sundiald/sundiald/RunStateEndedPinLaw -/
def k1 : Class := { plain "com/example/sundiald/sundiald/RunStateEndedPinLaw" (some 0) with
  accessFlags := 49
  interfaces := #[]
  cf := some (fileOf pool1 33 #[] #[{ accessFlags := 2, nameIndex := 5, descriptorIndex := 6, attributes := #[] }, { accessFlags := 9, nameIndex := 37, descriptorIndex := 38, attributes := #[] }] 49 2 #[] #[])
  fields := #[]
  methods := #[k1m0, k1m1]
  instanceTypes := #[]
  staticTypes := #[]
  resolved := Array.replicate 46 none
  statics := none }

def pool2 : Array CpInfo := pool [(1, .class_ 2), (0, u "java/lang/constant/Constable"), (0, .class_ 4), (0, u "java/lang/Object")] 6

/-- java/lang/constant/Constable -/
def k2 : Class := { plain "java/lang/constant/Constable" (some 0) with
  accessFlags := 1537
  interfaces := #[]
  cf := some (fileOf pool2 1 #[] #[] 1537 3 #[] #[])
  fields := #[]
  methods := #[]
  instanceTypes := #[]
  staticTypes := #[]
  resolved := Array.replicate 11 none
  statics := none }

def pool3 : Array CpInfo := pool [(1, .class_ 2), (0, u "java/lang/Comparable"), (0, .class_ 4), (0, u "java/lang/Object")] 7

/-- java/lang/Comparable -/
def k3 : Class := { plain "java/lang/Comparable" (some 0) with
  accessFlags := 1537
  interfaces := #[]
  cf := some (fileOf pool3 1 #[] #[] 1537 3 #[] #[])
  fields := #[]
  methods := #[]
  instanceTypes := #[]
  staticTypes := #[]
  resolved := Array.replicate 12 none
  statics := none }

def pool4 : Array CpInfo := pool [(1, .class_ 2), (0, u "java/io/Serializable"), (0, .class_ 4), (0, u "java/lang/Object")] 2

/-- java/io/Serializable -/
def k4 : Class := { plain "java/io/Serializable" (some 0) with
  accessFlags := 1537
  interfaces := #[]
  cf := some (fileOf pool4 1 #[] #[] 1537 3 #[] #[])
  fields := #[]
  methods := #[]
  instanceTypes := #[]
  staticTypes := #[]
  resolved := Array.replicate 7 none
  statics := none }

def pool5 : Array CpInfo := pool [(2, .class_ 4), (1, u "java/lang/Enum"), (0, u "name"), (0, u "Ljava/lang/String;"), (2, u "ordinal"), (0, u "I"), (1, .class_ 14), (1, u "java/lang/Object"), (4, u "hash"), (86, .class_ 108), (1, u "java/lang/Enum$EnumDesc"), (2, .class_ 112), (0, u "java/lang/constant/Constable"), (0, .class_ 114), (0, u "java/lang/Comparable"), (0, .class_ 116), (0, u "java/io/Serializable")] 87

/-- java/lang/Enum -/
def k5 : Class := { plain "java/lang/Enum" (some 0) with
  accessFlags := 1057
  interfaces := #[2, 3, 4]
  cf := some (fileOf pool5 2 #[.nestMembers #[106]] #[] 1057 12 #[111, 113, 115] #[{ accessFlags := 18, nameIndex := 5, descriptorIndex := 6, attributes := #[] }, { accessFlags := 18, nameIndex := 9, descriptorIndex := 10, attributes := #[] }, { accessFlags := 2, nameIndex := 19, descriptorIndex := 10, attributes := #[] }])
  fields := #[{ name := "name", type := (.object "java/lang/String"), accessFlags := 18, slot := 0, constantValue := 0 }, { name := "ordinal", type := .int, accessFlags := 18, slot := 1, constantValue := 0 }, { name := "hash", type := .int, accessFlags := 2, slot := 2, constantValue := 0 }]
  methods := #[]
  instanceTypes := #[(.object "java/lang/String"), .int, .int]
  staticTypes := #[]
  resolved := Array.replicate 204 none
  statics := none }

def pool6 : Array CpInfo := pool [(2, .class_ 4), (1, u "com/example/sundiald/sundiald/Worded"), (78, .class_ 84), (0, u "java/lang/Object")] 44

/-- com/example/sundiald/sundiald/Worded -/
def k6 : Class := { plain "com/example/sundiald/sundiald/Worded" (some 0) with
  accessFlags := 1536
  interfaces := #[]
  cf := some (fileOf pool6 2 #[] #[] 1536 83 #[] #[])
  fields := #[]
  methods := #[]
  instanceTypes := #[]
  staticTypes := #[]
  resolved := Array.replicate 129 none
  statics := none }

def pool7 : Array CpInfo := pool [(1, .class_ 2), (0, u "com/example/sundiald/sundiald/RunState"), (2, u "PENDING"), (0, u "Lcom/example/sundiald/sundiald/RunState;"), (2, u "RUNNING"), (2, u "RETRY_WAIT"), (0, .fieldref 1 14), (0, .nameAndType 15 6), (0, u "SUCCEEDED"), (0, .fieldref 1 17), (0, .nameAndType 18 6), (0, u "FAILED"), (0, .fieldref 1 20), (0, .nameAndType 21 6), (0, u "SKIPPED"), (2, u "$VALUES"), (0, u "[Lcom/example/sundiald/sundiald/RunState;"), (6, .class_ 34), (1, u "java/lang/Enum"), (17, .class_ 53), (0, u "com/example/sundiald/sundiald/Worded"), (7, u "ended"), (0, u "()Z")] 5

def k7c0 : Code := { maxStack := 2, maxLocals := 1, code := prog_74_method_4_code, exceptionTable := #[], attributes := #[] }
def k7m0 : Method := { name := "ended", desc := "()Z", sig := { parameters := [], returnType := some .boolean }, accessFlags := 0, code := some k7c0 }
/-- com/example/sundiald/sundiald/RunState -/
def k7 : Class := { plain "com/example/sundiald/sundiald/RunState" (some 5) with
  accessFlags := 16432
  interfaces := #[6]
  cf := some (fileOf pool7 1 #[] #[{ accessFlags := 0, nameIndex := 61, descriptorIndex := 62, attributes := #[] }] 16432 32 #[52] #[{ accessFlags := 16409, nameIndex := 5, descriptorIndex := 6, attributes := #[] }, { accessFlags := 16409, nameIndex := 9, descriptorIndex := 6, attributes := #[] }, { accessFlags := 16409, nameIndex := 12, descriptorIndex := 6, attributes := #[] }, { accessFlags := 16409, nameIndex := 15, descriptorIndex := 6, attributes := #[] }, { accessFlags := 16409, nameIndex := 18, descriptorIndex := 6, attributes := #[] }, { accessFlags := 16409, nameIndex := 21, descriptorIndex := 6, attributes := #[] }, { accessFlags := 4122, nameIndex := 24, descriptorIndex := 25, attributes := #[] }])
  fields := #[{ name := "PENDING", type := (.object "com/example/sundiald/sundiald/RunState"), accessFlags := 16409, slot := 0, constantValue := 0 }, { name := "RUNNING", type := (.object "com/example/sundiald/sundiald/RunState"), accessFlags := 16409, slot := 1, constantValue := 0 }, { name := "RETRY_WAIT", type := (.object "com/example/sundiald/sundiald/RunState"), accessFlags := 16409, slot := 2, constantValue := 0 }, { name := "SUCCEEDED", type := (.object "com/example/sundiald/sundiald/RunState"), accessFlags := 16409, slot := 3, constantValue := 0 }, { name := "FAILED", type := (.object "com/example/sundiald/sundiald/RunState"), accessFlags := 16409, slot := 4, constantValue := 0 }, { name := "SKIPPED", type := (.object "com/example/sundiald/sundiald/RunState"), accessFlags := 16409, slot := 5, constantValue := 0 }, { name := "$VALUES", type := (.array (.object "com/example/sundiald/sundiald/RunState")), accessFlags := 4122, slot := 6, constantValue := 0 }]
  methods := #[k7m0]
  instanceTypes := #[(.object "java/lang/String"), .int, .int]
  staticTypes := #[(.object "com/example/sundiald/sundiald/RunState"), (.object "com/example/sundiald/sundiald/RunState"), (.object "com/example/sundiald/sundiald/RunState"), (.object "com/example/sundiald/sundiald/RunState"), (.object "com/example/sundiald/sundiald/RunState"), (.object "com/example/sundiald/sundiald/RunState"), (.array (.object "com/example/sundiald/sundiald/RunState"))]
  resolved := Array.replicate 68 none
  statics := some 0 }

def pool8 : Array CpInfo := pool [(1, u "java/lang/Cloneable"), (0, .class_ 1), (0, u "java/lang/Object"), (0, .class_ 3)] 3

/-- java/lang/Cloneable -/
def k8 : Class := { plain "java/lang/Cloneable" (some 0) with
  accessFlags := 1537
  interfaces := #[]
  cf := some (fileOf pool8 2 #[] #[] 1537 4 #[] #[])
  fields := #[]
  methods := #[]
  instanceTypes := #[]
  staticTypes := #[]
  resolved := Array.replicate 8 none
  statics := none }

/-- the primitive boolean -/
def k9 : Class := { plain "boolean" none with kind := .primitive 'Z', accessFlags := 0x411 }
/-- [Z -/
def k10 : Class := { plain "[Z" (some 0) with kind := .array 9 .boolean, interfaces := #[8, 4], accessFlags := 1041 }

/-- the primitive byte -/
def k11 : Class := { plain "byte" none with kind := .primitive 'B', accessFlags := 0x411 }
/-- [B -/
def k12 : Class := { plain "[B" (some 0) with kind := .array 11 .byte, interfaces := #[8, 4], accessFlags := 1041 }

/-- the primitive int -/
def k13 : Class := { plain "int" none with kind := .primitive 'I', accessFlags := 0x411 }
/-- [I -/
def k14 : Class := { plain "[I" (some 0) with kind := .array 13 .int, interfaces := #[8, 4], accessFlags := 1041 }

/-- [Lcom/example/sundiald/sundiald/RunState; -/
def k15 : Class := { plain "[Lcom/example/sundiald/sundiald/RunState;" (some 0) with kind := .array 7 (.object "com/example/sundiald/sundiald/RunState"), interfaces := #[8, 4], accessFlags := 1041 }

def heap : Heap := #[{ cls := 7, slots := #[.ref 1, .ref 2, .ref 3, .ref 4, .ref 5, .ref 6, .null], vm := .statics 7 },
  { cls := 7, slots := #[.null, .int 0, .int 0], vm := .none },
  { cls := 7, slots := #[.null, .int 1, .int 0], vm := .none },
  { cls := 7, slots := #[.null, .int 2, .int 0], vm := .none },
  { cls := 7, slots := #[.null, .int 3, .int 0], vm := .none },
  { cls := 7, slots := #[.null, .int 4, .int 0], vm := .none },
  { cls := 7, slots := #[.null, .int 5, .int 0], vm := .none }]
def classes : Array Class := #[k0, k1, k2, k3, k4, k5, k6, k7, k8, k9, k10, k11, k12, k13, k14, k15]
def interned : List (Array UInt16 × Addr) := []
def slotsUsed : Nat := 25
def theMethod : MethodId := ⟨1, 1⟩
def args0 : Array Value := #[.int 5]
def aboutOver (below : List Frame) : State where
  vm := { classes := classes, interned := interned.toArray }
  heap := heap
  slotsUsed := slotsUsed
  threads := #[{ frames := .invoking theMethod args0 :: below }]
def below0 : List Frame := [.native { method := ⟨0, 0⟩, args := #[] }]
def about1 : State := aboutOver below0
def p0 : Program := .bare "" "" ""
def e0 : Env := launch0.env 0 0 0
theorem w_frames : about1.frames = Frame.invoking theMethod args0 :: below0 := rfl
set_option maxRecDepth 65536 in
theorem w_args : argsFit about1.vm theMethod args0 = true := by decide +kernel
set_option maxRecDepth 65536 in
theorem w_heap : heapFits about1 = true := by decide +kernel
set_option maxRecDepth 65536 in
theorem w_runnable : about1.curStatus? = some .runnable := by decide +kernel
set_option maxRecDepth 65536 in
theorem w_alone : about1.alone = true := by decide +kernel
set_option maxRecDepth 65536 in
theorem w_named : about1.methodNamed? x = some theMethod := by decide +kernel
set_option maxRecDepth 65536 in
theorem w_hears : about1.hears theMethod below0 = true := by decide +kernel
set_option maxRecDepth 65536 in
theorem w_ripe : about1.ripe theMethod args0 below0 = true := by decide +kernel
theorem w_running : about1.status = .running := rfl
set_option maxRecDepth 65536 in
theorem w_room : about1.hasRoom e0.platform room_1 = true :=
  launch0.hasRoom_least _ room_1 (by decide +kernel) (by decide +kernel) (by decide +kernel) (by decide +kernel) (by decide +kernel) (by decide +kernel)
theorem allAtoms_all (ts : List Jvm.Cond) (a : Array Jvm.Value) (st : Jvm.State) : (allAtoms ts).before a st = ts.all (fun c => c.before a st) := by
  induction ts with
  | nil => rfl
  | cons c t ih =>
    show (Jvm.Cond.and c (allAtoms t)).before a st = _
    rw [Jvm.Cond.before_and, ih, List.all_cons]
def words1 : List Jvm.Cond := Jvm.Cond.code x code maxLocals ret :: tables_1
/-- a 'code' word, met by the world's own term for the bytes: nothing is compared byte by byte -/
theorem code_word {y : MethodName} {bytes : ByteArray} {mx : Nat} {rt : Option FieldType} {a : Array Value} {s : State} {m : MethodId} {meth : Method} {c : Code} (h1 : s.methodNamed? y = some m) (h2 : s.vm.method? m = some meth) (h3 : meth.code = some c) (h4 : c.code = bytes)
    (h5 : (c.maxLocals == mx && c.exceptionTable.isEmpty && decide (c.maxStack ≤ mostOperands) && decide (meth.sig.returnType = rt) && !meth.locks && decide (parseMethodDescriptor y.desc = some meth.sig)) = true) : (Jvm.Cond.code y bytes mx rt).before a s = true := by
  simp only [Bool.and_eq_true, beq_iff_eq, Bool.not_eq_true', decide_eq_true_eq] at h5
  obtain ⟨⟨⟨⟨⟨g1, g2⟩, g3⟩, g4⟩, g5⟩, g6⟩ := h5
  simp [Cond.before, Cond.holds, Cond.value, h1, h2, h3, h4, g1, g2, g3, g4, g5, g6]
def isCode : Jvm.Cond → Bool
  | .code _ _ _ _ => true
  | _ => false
theorem all_split {L : List Jvm.Cond} {P : Jvm.Cond → Bool} (h1 : L.all (fun c => isCode c || P c) = true) (h2 : ∀ c ∈ L.filter isCode, P c = true) : L.all P = true := by
  refine List.all_eq_true.mpr fun c hc => ?_
  have h := List.all_eq_true.mp h1 c hc
  rcases Bool.eq_false_or_eq_true (isCode c) with hi | hi
  · exact h2 c (List.mem_filter.mpr ⟨hc, hi⟩)
  · simpa [hi] using h
set_option maxRecDepth 65536 in
theorem w_c0 : (Jvm.Cond.code x code maxLocals ret).before args0 about1 = true := code_word (m := ⟨1, 1⟩) (meth := k1m1) (c := k1c1) (by decide +kernel) rfl rfl rfl (by decide +kernel)
set_option maxRecDepth 65536 in
theorem w_c1 : (Jvm.Cond.code ({ cls := "com/example/sundiald/sundiald/RunState", name := "ended", desc := "()Z" } : Jvm.MethodName) prog_74_method_4_code (1 : Nat) (Option.some Jvm.ClassFile.FieldType.boolean)).before args0 about1 = true := code_word (m := ⟨7, 0⟩) (meth := k7m0) (c := k7c0) (by decide +kernel) rfl rfl rfl (by decide +kernel)
def codes1 : List Jvm.Cond := [Jvm.Cond.code x code maxLocals ret, Jvm.Cond.code ({ cls := "com/example/sundiald/sundiald/RunState", name := "ended", desc := "()Z" } : Jvm.MethodName) prog_74_method_4_code (1 : Nat) (Option.some Jvm.ClassFile.FieldType.boolean)]
set_option maxRecDepth 65536 in
theorem codes_eq : words1.filter isCode = codes1 := rfl
theorem w_codes : ∀ c ∈ words1.filter isCode, c.before args0 about1 = true := by
  rw [codes_eq]
  intro c hc
  simp only [codes1, List.mem_cons, List.not_mem_nil, or_false] at hc
  rcases hc with rfl | rfl
  · exact w_c0
  · exact w_c1
set_option maxRecDepth 65536 in
theorem w_t1 : (words1.take 24).all (fun c => isCode c || c.before args0 about1) = true := by decide +kernel
set_option maxRecDepth 65536 in
theorem w_t2 : (words1.drop 24).all (fun c => isCode c || c.before args0 about1) = true := by decide +kernel
theorem w_tables : (allAtoms (Jvm.Cond.code x code maxLocals ret :: tables_1)).before args0 about1 = true := by
  rw [allAtoms_all]
  show words1.all (fun c => c.before args0 about1) = true
  refine all_split ?_ w_codes
  rw [← List.take_append_drop 24 words1, List.all_append, w_t1, w_t2]
  rfl
set_option maxRecDepth 65536 in
theorem w_case : (Jvm.Cond.and given_1 narrow_1).before args0 about1 = true := by decide +kernel
theorem w_applies : (headSpec (Jvm.Cond.code x code maxLocals ret :: tables_1) room_1).applies x e0.platform about1 = true :=
  (Spec.applies_iff w_frames).mpr ⟨w_running, w_runnable, w_alone, w_named, w_hears, w_ripe, w_room, w_tables⟩
theorem atStart : AtStart classFile x code maxLocals ret World_1 tables_1 room_1 Calls_1 rest_1 Pre_1 launch0 p0 e0 about1 theMethod args0 below0 :=
  ⟨lists_1, trivial, launch0.admits_env _ _ _, launch0.least_env, fairChoices_fair.cas, fairChoices_fair.clock, w_frames, w_args, w_heap, w_applies, trivial, trivial, w_case⟩
end start1
theorem witness_1 : WitnessClaimed_1 := ⟨start1.p0, start1.e0, start1.about1, start1.theMethod, start1.args0, start1.below0, start1.atStart⟩
end Jvm.Pilot.@@N@@
