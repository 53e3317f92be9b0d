import JvmDerived
import JvmDerived.Pilot.@@N@@Statement
import JvmDerived.Pilot.@@N@@Code
set_option linter.unusedVariables false
set_option linter.unusedSimpArgs false
namespace Jvm.Pilot.@@N@@
open Jvm Jvm.ClassFile Sem Op Lib Jvm.Free Jvm.Stand Jvm.LawKit Jvm.RoadKit Bundle Jvm.Pilot.@@N@@.Jvm.D
section Own
variable {p : Program} {l : Launch} {e : Env} {R : Room} {s : State} {m : MethodId} {args : Array Value} {below : List Frame} {meth : Method} {c : Code} {T : State} {locs : List Loc} {cells slots : Nat} {Z : State} {a0 : Array Value} {h : Heap}
/-- the walk ends from A: it returns, Q holds, the frame is kept -/
def own_E (p : Program) (e : Env) (below : List Frame) (s : State) (Q : Option Value → Heap → List Loc → Prop) (K N : Nat) (A : State) : Prop :=
  ∃ t o, Steps p.tables e below A t ∧ t.status = .running ∧ Ended t below o ∧ ∃ v L, o = .returned v ∧ Q v t.heap L ∧ FrameEnd s o t L K N
variable {Q : Option Value → Heap → List Loc → Prop} {K N : Nat} {A A' : State}
theorem own_go (h : ∀ t, Steps p.tables e below A' t → Steps p.tables e below A t) (k : own_E p e below s Q K N A') : own_E p e below s Q K N A := by
  obtain ⟨t, o, h1, h2⟩ := k
  exact ⟨t, o, h _ h1, h2⟩
theorem own_ret (X : Stand p l e R s m args below meth c T locs cells slots) (hx : p.tables.exec = Jvm.exec) {pc : Nat} {Ls : Array Slot} {w : Value} {t : FieldType} {i : Instr} {rest : List Value} (hret : meth.sig.returnType = some t) (hlk : meth.locks = false) (hn : narrow t w = w)
    (hi : (i = .ireturn ∧ (t = .int ∨ t = .boolean ∨ t = .byte ∨ t = .char ∨ t = .short) ∧ ∃ z, w = .int z) ∨ (i = .lreturn ∧ t = .long ∧ ∃ z, w = .long z) ∨ (i = .dreturn ∧ t = .double ∧ ∃ z, w = .double z) ∨ (i = .freturn ∧ t = .float ∧ ∃ z, w = .float z) ∨ (i = .areturn ∧ t.isReference = true ∧ w.isRef = true))
    (hd : decode c.code pc = .ok (i, 1)) (hQ : Q (some w) T.heap locs) (hK : cells ≤ K) (hN : slots ≤ N) : own_E p e below s Q K N (T.setTop (mkF m pc Ls (w :: rest))) := by
  obtain ⟨fs, hr, hrun, hended, hW, hsame⟩ := X.leave (v := some w) (fun h => by rw [hret] at h; cases h) hlk
  exact ⟨_, _, retOut X hx hret hn hi hd hr, hrun, hended, _, _, rfl, hQ, ⟨_, rfl⟩, hW, hsame.mono hK hN⟩
theorem own_ret0 (X : Stand p l e R s m args below meth c T locs cells slots) (hx : p.tables.exec = Jvm.exec) {pc : Nat} {Ls : Array Slot} (hret : meth.sig.returnType = none) (hlk : meth.locks = false)
    (hd : decode c.code pc = .ok (.return_, 1)) (hQ : Q none T.heap locs) (hK : cells ≤ K) (hN : slots ≤ N) : own_E p e below s Q K N (T.setTop (mkF m pc Ls [])) := by
  obtain ⟨fs, hr, hrun, hended, hW, hsame⟩ := X.leave (v := none) (fun _ => rfl) hlk
  exact ⟨_, _, X.returnOut hx hret hd hr, hrun, hended, _, _, rfl, hQ, ⟨_, rfl⟩, hW, hsame.mono hK hN⟩
/-- what a callee is asked: its contract -/
abbrev own_M (l : Launch) (y : MethodName) (bytes : ByteArray) (maxL : Nat) (ret : Option FieldType) (rm : Room) (Z : State) (as' : Array Value) (h : Heap) (Q : Option Value → Heap → List Loc → Prop) : Prop :=
  MetFree l y (head1 [Jvm.Cond.code y bytes maxL ret] rm) (fun a U => a = as' ∧ Z.Warmed39 U.vm ∧ U.heap = h) (fun _ _ _ _ _ => True) (fun _ U o U' => ∃ v L, o = .returned v ∧ Q v U'.heap L ∧ FrameEnd U o U' L rm.cells rm.slots)
theorem own_callS (X : Stand p l e R s m args below meth c T locs cells slots) (hx : p.tables.exec = Jvm.exec) (hZ : Z.Warmed39 s.vm) {own : String} {index : Nat} {y : MethodName} {bytes : ByteArray} {maxL : Nat} {ret : Option FieldType} {rm : Room} {W : Nat} {argsL rest : List Value}
    (hown : s.vm.findClass own = some m.cls) (w1 : (Jvm.Cond.methodLink own index y).before a0 Z = true) (w2 : (Jvm.Cond.static y).before a0 Z = true) (w3 : (Jvm.Cond.initialized y.cls).before a0 Z = true) (w4 : (Jvm.Cond.code y bytes maxL ret).before a0 Z = true)
    (hy : y.cls ≠ "java/lang/invoke/MethodHandle" ∧ y.cls ≠ "java/lang/invoke/VarHandle") (hM : own_M l y bytes maxL ret rm Z argsL.toArray h Q) (eT : T.heap = h)
    (hf : rm.frames + 1 ≤ R.frames) (hl : W + (maxL + 11) + rm.locals ≤ R.locals) (hc : cells + rm.cells ≤ R.cells) (hs : slots + rm.slots ≤ R.slots)
    {g : JFrame} (hg : g.method = m) (hsize : g.locals.size = c.maxLocals) (hlen : ∀ sig, parseMethodDescriptor y.desc = some sig → argsL.length = sig.parameters.length)
    (hstack : g.stack = argsL.reverse ++ rest) (hW : 2 * g.monitorRoom + (rest.map fun v => v.category).sum ≤ W) (hdg : decode c.code g.pc = .ok (.invokestatic index, 3)) :
    ∃ v T' L, Stand p l e R s m args below meth c T' (locs ++ L) (cells + rm.cells) (slots + rm.slots) ∧ Q v T'.heap L ∧ ∀ target, Steps p.tables e below (T'.setTop { g with pc := g.pc + 3, stack := v.toList ++ rest }) target → Steps p.tables e below (T.setTop g) target := by
  obtain ⟨v, _, ⟨T', L', k', n'⟩, -, X', ⟨L, hQ, e1, e2, e3⟩, st⟩ := Jvm.LawKit.callS X hx (y := y) hown (mvT hZ w1) (mvT hZ w2) (mvT hZ w3) (mvT hZ w4) hy (backOf (W := W) hM hZ w4 w3 hf hl) hg hsize hlen hstack hW hdg (fun _ _ => ⟨rfl, eT, hc, hs⟩)
  dsimp only [Pt.U, Pt.locs, Pt.cells, Pt.slots] at X' e1 e2 e3 st hQ
  subst e1 e2 e3
  exact ⟨v, T', L, X', hQ, st⟩
theorem own_callV (X : Stand p l e R s m args below meth c T locs cells slots) (hx : p.tables.exec = Jvm.exec) (hZ : Z.Warmed39 s.vm) {own C : String} {index : Nat} {y : MethodName} {bytes : ByteArray} {maxL : Nat} {ret : Option FieldType} {rm : Room} {W : Nat} {b : Addr} {argsL rest : List Value}
    (hown : s.vm.findClass own = some m.cls) (w1 : (Jvm.Cond.methodLink own index y).before a0 Z = true) (w2 : (Jvm.Cond.declares y).before a0 Z = true) (w3 : (Jvm.Cond.selects C y y).before a0 Z = true) (w4 : (Jvm.Cond.instanceMethod y).before a0 Z = true) (w5 : (Jvm.Cond.code y bytes maxL ret).before a0 Z = true) (w6 : (Jvm.Cond.initialized y.cls).before a0 Z = true)
    (hy : y.cls ≠ "java/lang/invoke/MethodHandle" ∧ y.cls ≠ "java/lang/invoke/VarHandle") (hM : own_M l y bytes maxL ret rm Z (.ref b :: argsL).toArray h Q) (eT : T.heap = h) (E : Exa Z h b C)
    (hf : rm.frames + 1 ≤ R.frames) (hl : W + (maxL + 11) + rm.locals ≤ R.locals) (hc : cells + rm.cells ≤ R.cells) (hs : slots + rm.slots ≤ R.slots)
    {g : JFrame} (hg : g.method = m) (hsize : g.locals.size = c.maxLocals) (hlen : ∀ sig, parseMethodDescriptor y.desc = some sig → argsL.length = sig.parameters.length)
    (hstack : g.stack = argsL.reverse ++ .ref b :: rest) (hW : 2 * g.monitorRoom + (rest.map fun v => v.category).sum ≤ W) (hdg : decode c.code g.pc = .ok (.invokevirtual index, 3)) :
    ∃ v T' L, Stand p l e R s m args below meth c T' (locs ++ L) (cells + rm.cells) (slots + rm.slots) ∧ Q v T'.heap L ∧ ∀ target, Steps p.tables e below (T'.setTop { g with pc := g.pc + 3, stack := v.toList ++ rest }) target → Steps p.tables e below (T.setTop g) target := by
  obtain ⟨cq, kq, q1, -, q3⟩ := isOf hZ eT E
  obtain ⟨v, _, ⟨T', L', k', n'⟩, -, X', ⟨L, hQ, e1, e2, e3⟩, st⟩ := X.virtualBack hx (y := y) (z := y) hown (mvT hZ w1) (mvT hZ w2) (notFace_of_selects (args := #[]) (mvT hZ w3)) (mvT hZ w3) (mvT hZ w4) hy (backOf (W := W) hM hZ w5 w6 hf hl) q1 q3 hg hsize (Steps.refl _) hlen hstack hW hdg (fun _ _ => ⟨rfl, eT, hc, hs⟩)
  dsimp only [Pt.U, Pt.locs, Pt.cells, Pt.slots] at X' e1 e2 e3 st hQ
  subst e1 e2 e3
  exact ⟨v, T', L, X', hQ, fun _ k => st.trans k⟩
theorem own_callI (X : Stand p l e R s m args below meth c T locs cells slots) (hx : p.tables.exec = Jvm.exec) (hZ : Z.Warmed39 s.vm) {own : String} {index : Nat} {y : MethodName} {bytes : ByteArray} {maxL : Nat} {rm : Room} {W : Nat} {b : Addr} {argsL rest : List Value}
    (hown : s.vm.findClass own = some m.cls) (hy1 : y.name = "<init>") (w1 : (Jvm.Cond.methodLink own index y).before a0 Z = true) (w2 : (Jvm.Cond.instanceMethod y).before a0 Z = true) (w3 : (Jvm.Cond.initialized y.cls).before a0 Z = true) (w4 : (Jvm.Cond.code y bytes maxL none).before a0 Z = true)
    (hy : y.cls ≠ "java/lang/invoke/MethodHandle" ∧ y.cls ≠ "java/lang/invoke/VarHandle") (hM : own_M l y bytes maxL none rm Z (.ref b :: argsL).toArray h Q) (eT : T.heap = h)
    (hf : rm.frames + 1 ≤ R.frames) (hl : W + (maxL + 11) + rm.locals ≤ R.locals) (hc : cells + rm.cells ≤ R.cells) (hs : slots + rm.slots ≤ R.slots)
    {g : JFrame} (hg : g.method = m) (hsize : g.locals.size = c.maxLocals) (hlen : ∀ sig, parseMethodDescriptor y.desc = some sig → argsL.length = sig.parameters.length)
    (hstack : g.stack = argsL.reverse ++ .ref b :: rest) (hW : 2 * g.monitorRoom + (rest.map fun v => v.category).sum ≤ W) (hdg : decode c.code g.pc = .ok (.invokespecial index, 3)) :
    ∃ v T' L, Stand p l e R s m args below meth c T' (locs ++ L) (cells + rm.cells) (slots + rm.slots) ∧ Q v T'.heap L ∧ ∀ target, Steps p.tables e below (T'.setTop { g with pc := g.pc + 3, stack := v.toList ++ rest }) target → Steps p.tables e below (T.setTop g) target := by
  obtain ⟨v, _, ⟨T', L', k', n'⟩, -, X', ⟨L, hQ, e1, e2, e3⟩, st⟩ := X.specialBack hx (y := y) hy1 hown (mvT hZ w1) (mvT hZ w2) (mvT hZ w4) hy (backOf (W := W) hM hZ w4 w3 hf hl) hg hsize (Steps.refl _) hlen hstack hW hdg (fun _ _ => ⟨rfl, eT, hc, hs⟩)
  dsimp only [Pt.U, Pt.locs, Pt.cells, Pt.slots] at X' e1 e2 e3 st hQ
  subst e1 e2 e3
  exact ⟨v, T', L, X', hQ, fun _ k => st.trans k⟩
theorem own_callVU (X : Stand p l e R s m args below meth c T locs cells slots) (hx : p.tables.exec = Jvm.exec) (hZ : Z.Warmed39 s.vm) {own C owner : String} {index : Nat} {y z : MethodName} {bytes : ByteArray} {maxL : Nat} {ret : Option FieldType} {rm : Room} {W : Nat} {b : Addr} {argsL rest : List Value}
    (hown : s.vm.findClass own = some m.cls) (w1 : (Jvm.Cond.methodLink own index y).before a0 Z = true) (w2 : (Jvm.Cond.sameMethod y.cls owner y.name y.desc).before a0 Z = true) (w2' : (Jvm.Cond.declares ⟨owner, y.name, y.desc⟩).before a0 Z = true) (w3 : (Jvm.Cond.selects C y z).before a0 Z = true) (w4 : (Jvm.Cond.instanceMethod z).before a0 Z = true) (w5 : (Jvm.Cond.code z bytes maxL ret).before a0 Z = true) (w6 : (Jvm.Cond.initialized z.cls).before a0 Z = true)
    (hy : owner ≠ "java/lang/invoke/MethodHandle" ∧ owner ≠ "java/lang/invoke/VarHandle") (hM : own_M l z bytes maxL ret rm Z (.ref b :: argsL).toArray h Q) (eT : T.heap = h) (E : Exa Z h b C)
    (hf : rm.frames + 1 ≤ R.frames) (hl : W + (maxL + 11) + rm.locals ≤ R.locals) (hc : cells + rm.cells ≤ R.cells) (hs : slots + rm.slots ≤ R.slots)
    {g : JFrame} (hg : g.method = m) (hsize : g.locals.size = c.maxLocals) (hlen : ∀ sig, parseMethodDescriptor y.desc = some sig → argsL.length = sig.parameters.length)
    (hstack : g.stack = argsL.reverse ++ .ref b :: rest) (hW : 2 * g.monitorRoom + (rest.map fun v => v.category).sum ≤ W) (hdg : decode c.code g.pc = .ok (.invokevirtual index, 3)) :
    ∃ v T' L, Stand p l e R s m args below meth c T' (locs ++ L) (cells + rm.cells) (slots + rm.slots) ∧ Q v T'.heap L ∧ ∀ target, Steps p.tables e below (T'.setTop { g with pc := g.pc + 3, stack := v.toList ++ rest }) target → Steps p.tables e below (T.setTop g) target := by
  obtain ⟨cq, kq, q1, -, q3⟩ := isOf hZ eT E
  obtain ⟨v, _, ⟨T', L', k', n'⟩, -, X', ⟨L, hQ, e1, e2, e3⟩, st⟩ := X.virtualBackUp hx (x := y) (y := z) hown (mvT hZ w1) (mvT hZ w2) (mvT hZ w2') hy (mvT hZ w3) (mvT hZ w4) (backOf (W := W) hM hZ w5 w6 hf hl) q1 q3 hg hsize (Steps.refl _) hlen hstack hW hdg (fun _ _ => ⟨rfl, eT, hc, hs⟩)
  dsimp only [Pt.U, Pt.locs, Pt.cells, Pt.slots] at X' e1 e2 e3 st hQ
  subst e1 e2 e3
  exact ⟨v, T', L, X', hQ, fun _ k => st.trans k⟩
theorem own_aaload (X : Stand p l e R s m args below meth c T locs cells slots) (hx : p.tables.exec = Jvm.exec) (hZ : Z.Warmed39 s.vm) (eT : T.heap = h) {a : Addr} {cl : Cell} {ty : FieldType} (F : Arr Z h a cl ty) (hty : ty.isReference = true) {j : Int32} {v : Value} (hin : ¬ (j < 0 ∨ cl.slots.size ≤ j.toNatClampNeg)) (hv : cl.slots[j.toNatClampNeg]? = some v)
    {g : JFrame} (hg : g.method = m) {rest : List Value} (hs : g.stack = .int j :: .ref a :: rest) (hd : decode c.code g.pc = .ok (.aaload, 1)) : ∀ target, Steps p.tables e below (T.setTop { g with pc := g.pc + 1, stack := v :: rest }) target → Steps p.tables e below (T.setTop g) target :=
  X.aaload hx (by rw [eT]; exact F.1) (State.isArrayOf_alike hZ.alike F.2.1) hty F.2.2 hin hv hg hs hd
theorem own_laload (X : Stand p l e R s m args below meth c T locs cells slots) (hx : p.tables.exec = Jvm.exec) (hZ : Z.Warmed39 s.vm) (eT : T.heap = h) {a : Addr} {cl : Cell} (F : Arr Z h a cl .long) {j : Int32} {v : Value} (hin : ¬ (j < 0 ∨ cl.slots.size ≤ j.toNatClampNeg)) (hv : cl.slots[j.toNatClampNeg]? = some v)
    {g : JFrame} (hg : g.method = m) {rest : List Value} (hs : g.stack = .int j :: .ref a :: rest) (hd : decode c.code g.pc = .ok (.laload, 1)) : ∀ target, Steps p.tables e below (T.setTop { g with pc := g.pc + 1, stack := v :: rest }) target → Steps p.tables e below (T.setTop g) target :=
  X.laload hx (by rw [eT]; exact F.1) (State.isArrayOf_alike hZ.alike F.2.1) F.2.2 hin hv hg hs hd
theorem own_baload (X : Stand p l e R s m args below meth c T locs cells slots) (hx : p.tables.exec = Jvm.exec) (hZ : Z.Warmed39 s.vm) (eT : T.heap = h) {a : Addr} {cl : Cell} (F : Arr Z h a cl .byte) {j : Int32} {v : Value} (hin : ¬ (j < 0 ∨ cl.slots.size ≤ j.toNatClampNeg)) (hv : cl.slots[j.toNatClampNeg]? = some v)
    {g : JFrame} (hg : g.method = m) {rest : List Value} (hs : g.stack = .int j :: .ref a :: rest) (hd : decode c.code g.pc = .ok (.baload, 1)) : ∀ target, Steps p.tables e below (T.setTop { g with pc := g.pc + 1, stack := v :: rest }) target → Steps p.tables e below (T.setTop g) target :=
  X.baloadBytes hx (by rw [eT]; exact F.1) (State.isArrayOf_alike hZ.alike F.2.1) F.2.2 hin hv hg hs hd
theorem own_zaload (X : Stand p l e R s m args below meth c T locs cells slots) (hx : p.tables.exec = Jvm.exec) (hZ : Z.Warmed39 s.vm) (eT : T.heap = h) {a : Addr} {cl : Cell} (F : Arr Z h a cl .boolean) {j : Int32} {v : Value} (hin : ¬ (j < 0 ∨ cl.slots.size ≤ j.toNatClampNeg)) (hv : cl.slots[j.toNatClampNeg]? = some v)
    {g : JFrame} (hg : g.method = m) {rest : List Value} (hs : g.stack = .int j :: .ref a :: rest) (hd : decode c.code g.pc = .ok (.baload, 1)) : ∀ target, Steps p.tables e below (T.setTop { g with pc := g.pc + 1, stack := v :: rest }) target → Steps p.tables e below (T.setTop g) target :=
  X.baloadBooleans hx (by rw [eT]; exact F.1) (State.isArrayOf_alike hZ.alike F.2.1) F.2.2 hin hv hg hs hd
theorem own_alen (X : Stand p l e R s m args below meth c T locs cells slots) (hx : p.tables.exec = Jvm.exec) (hZ : Z.Warmed39 s.vm) (eT : T.heap = h) {a : Addr} {cl : Cell} {ty : FieldType} (F : Arr Z h a cl ty) {n : Int32} (hn : cl.slots.size.toInt32 = n)
    {g : JFrame} (hg : g.method = m) {rest : List Value} (hs : g.stack = .ref a :: rest) (hd : decode c.code g.pc = .ok (.arraylength, 1)) : ∀ target, Steps p.tables e below (T.setTop { g with pc := g.pc + 1, stack := .int n :: rest }) target → Steps p.tables e below (T.setTop g) target :=
  fun t k => X.arraylength hx (by rw [eT]; exact F.1) (State.isArrayOf_alike hZ.alike F.2.1) hg hs hd t (by rw [hn]; exact k)
theorem own_elemS {t u : Term} {a w : Addr} {cl : Cell} {k : Int32} (ev : t.eval args s none [] s = some (.ref a)) (hc : s.heap[a]? = some cl) (evu : u.eval args s none [] s = some (.ref w)) (he : (Jvm.Cond.eq (.elem t (.int k)) u).value args s none s [] = some true) :
    ¬ (k < 0 ∨ cl.slots.size ≤ k.toNatClampNeg) ∧ cl.slots[k.toNatClampNeg]? = some (.ref w) := by
  obtain ⟨x, y, h1, h2, h3, h4⟩ := cmp_v (Or.inl he)
  cases evu.symm.trans h2
  have h5 := gotT (eq_R h1 h2 h4.2 rfl) he
  subst h5
  exact elem_in h1 ev (Term.int_eval k) hc
theorem own_lenS {t : Term} {a : Addr} {cl : Cell} {n : Int32} (ev : t.eval args s none [] s = some (.ref a)) (hc : s.heap[a]? = some cl) (he : (Jvm.Cond.eq (.length t) (.int n)).value args s none s [] = some true) : cl.slots.size < 2 ^ 31 ∧ cl.slots.size.toInt32 = n := by
  obtain ⟨x, y, h1, h2, h3, h4⟩ := cmp_v (Or.inl he)
  cases (Term.int_eval n).symm.trans h2
  obtain ⟨z, rfl⟩ := h4
  have h5 : z = n := by simpa [Jvm.Cond.value, h1, h2] using he
  subst h5
  obtain ⟨a', c', q1, q2, q3⟩ := Term.length_spec h1
  cases ev.symm.trans q1
  have q4 := (State.arrayAt?_spec q2).1
  cases hc.symm.trans q4
  refine ⟨?_, (Value.int.inj q3).symm⟩
  by_cases hl : cl.slots.size < 2 ^ 31
  · exact hl
  · simp [Term.eval, ev, q2, hl] at h1
/-- from a sheet's words to facts at the start -/
theorem own_const {C n d k0 : String} (hx : (Jvm.Cond.exactly (.static C n d) k0).value args s none s [] = some true) (hi : (Jvm.Cond.initialized C).before args s = true) (hl : (Jvm.Cond.laysStatic C n d).before args s = true) :
    ∃ a, (Term.static C n d).eval args s none [] s = some (.ref a) ∧ Sta s s.heap C n d (.ref a) ∧ Exa s s.heap a k0 := by
  obtain ⟨a, ev⟩ := exa_v hx
  exact ⟨a, ev, Sta.start ev (Or.inr ⟨hi, hl⟩), Exa.start ev hx⟩
theorem own_fldI {t : Term} {a : Addr} {O n d : String} {k : Int32} (ev : t.eval args s none [] s = some (.ref a)) (he : (Jvm.Cond.eq (.field t O n d) (.int k)).value args s none s [] = some true) : Fld s s.heap a O n d (.int k) := by
  obtain ⟨x, y, h1, h2, h3, h4⟩ := cmp_v (Or.inl he)
  have h5 := h1
  rw [fld_at ev] at h5
  have h6 : y = .int k := (Option.some.inj ((Term.int_eval k).symm.trans h2)).symm
  subst h6
  obtain ⟨z, rfl⟩ := h4
  have h7 : z = k := by simpa [Jvm.Cond.value, h1, h2] using he
  subst h7
  exact Fld.start h5
end Own
section Own2
variable {p : Program} {l : Launch} {e : Env} {R : Room} {s : State} {m : MethodId} {args : Array Value} {below : List Frame} {meth : Method} {c : Code} {T : State} {locs : List Loc} {cells slots : Nat} {Z : State} {a0 : Array Value} {h : Heap}
variable {a : Addr} {k : ClassId} {ty : FieldType} {z : Int32} {vs : List Value} {dv : Value}
/-- a fresh array of n places, each said -/
theorem own_arvNew {n : Nat} (A : Arr Z h a (newA k ty z) ty) (q : ¬ z < 0) : Arv Z h a k ty z (List.replicate n (defaultValue ty)) (defaultValue ty) := (Arv.new A q).pad (pad_rep [] _ n)
theorem own_stR (X : Stand p l e R s m args below meth c T locs cells slots) (hx : p.tables.exec = Jvm.exec) (hZ : Z.Warmed39 s.vm) (eT : T.heap = h) {C : String} {y : Addr} (F : Arv Z h a k (.object C) z vs dv) (O : Ovr Z k C) (I : Ins Z h y C true) {j : Int32} (i : Nat) (hj : j.toNatClampNeg = i) (hi : i < vs.length) (hin : ¬ j < 0 ∧ j < z)
    {g : JFrame} (hg : g.method = m) {rest : List Value} (hs : g.stack = .ref y :: .int j :: .ref a :: rest) (hd : decode c.code g.pc = .ok (.aastore, 1)) :
    ∃ T' h', Stand p l e R s m args below meth c T' (locs ++ [⟨a, j.toNatClampNeg⟩]) cells slots ∧ T'.heap = h' ∧ Wr h h' a j.toNatClampNeg (.ref y) ∧ Arv Z h' a k (.object C) z (vs.set i (.ref y)) dv ∧ ∀ target, Steps p.tables e below (T'.setTop { g with pc := g.pc + 1, stack := rest }) target → Steps p.tables e below (T.setTop g) target := by
  obtain ⟨cl, A, q1, S, q3, H, G⟩ := F
  obtain ⟨T', h', X', e', W, st⟩ := stR X hx hZ eT A (inb_of S hin) rfl (Sto.ofV A q1 O I) hg hs hd
  exact ⟨T', h', X', e', W, Arv.set A q1 S q3 H G rfl W i hj hi, st⟩
theorem own_stZ (X : Stand p l e R s m args below meth c T locs cells slots) (hx : p.tables.exec = Jvm.exec) (hZ : Z.Warmed39 s.vm) (eT : T.heap = h) {x : Int32} (F : Arv Z h a k .boolean z vs dv) {j : Int32} (i : Nat) (hj : j.toNatClampNeg = i) (hi : i < vs.length) (hin : ¬ j < 0 ∧ j < z)
    {g : JFrame} (hg : g.method = m) {rest : List Value} (hs : g.stack = .int x :: .int j :: .ref a :: rest) (hd : decode c.code g.pc = .ok (.bastore, 1)) :
    ∃ T' h', Stand p l e R s m args below meth c T' (locs ++ [⟨a, j.toNatClampNeg⟩]) cells slots ∧ T'.heap = h' ∧ Wr h h' a j.toNatClampNeg (.int (nar .boolean x)) ∧ Arv Z h' a k .boolean z (vs.set i (.int (nar .boolean x))) dv ∧ ∀ target, Steps p.tables e below (T'.setTop { g with pc := g.pc + 1, stack := rest }) target → Steps p.tables e below (T.setTop g) target := by
  obtain ⟨cl, A, q1, S, q3, H, G⟩ := F
  obtain ⟨T', h', X', e', W, st⟩ := stZ X hx hZ eT A (inb_of S hin) hg hs hd
  exact ⟨T', h', X', e', W, Arv.set A q1 S q3 H G (fits_nar_bool x) W i hj hi, st⟩
theorem own_stB (X : Stand p l e R s m args below meth c T locs cells slots) (hx : p.tables.exec = Jvm.exec) (hZ : Z.Warmed39 s.vm) (eT : T.heap = h) {x : Int32} (F : Arv Z h a k .byte z vs dv) {j : Int32} (i : Nat) (hj : j.toNatClampNeg = i) (hi : i < vs.length) (hin : ¬ j < 0 ∧ j < z)
    {g : JFrame} (hg : g.method = m) {rest : List Value} (hs : g.stack = .int x :: .int j :: .ref a :: rest) (hd : decode c.code g.pc = .ok (.bastore, 1)) :
    ∃ T' h', Stand p l e R s m args below meth c T' (locs ++ [⟨a, j.toNatClampNeg⟩]) cells slots ∧ T'.heap = h' ∧ Wr h h' a j.toNatClampNeg (.int (nar .byte x)) ∧ Arv Z h' a k .byte z (vs.set i (.int (nar .byte x))) dv ∧ ∀ target, Steps p.tables e below (T'.setTop { g with pc := g.pc + 1, stack := rest }) target → Steps p.tables e below (T.setTop g) target := by
  obtain ⟨cl, A, q1, S, q3, H, G⟩ := F
  obtain ⟨T', h', X', e', W, st⟩ := stB X hx hZ eT A (inb_of S hin) hg hs hd
  exact ⟨T', h', X', e', W, Arv.set A q1 S q3 H G (fits_nar_byte x) W i hj hi, st⟩
theorem own_stJ (X : Stand p l e R s m args below meth c T locs cells slots) (hx : p.tables.exec = Jvm.exec) (hZ : Z.Warmed39 s.vm) (eT : T.heap = h) {x : Int64} (F : Arv Z h a k .long z vs dv) {j : Int32} (i : Nat) (hj : j.toNatClampNeg = i) (hi : i < vs.length) (hin : ¬ j < 0 ∧ j < z)
    {g : JFrame} (hg : g.method = m) {rest : List Value} (hs : g.stack = .long x :: .int j :: .ref a :: rest) (hd : decode c.code g.pc = .ok (.lastore, 1)) :
    ∃ T' h', Stand p l e R s m args below meth c T' (locs ++ [⟨a, j.toNatClampNeg⟩]) cells slots ∧ T'.heap = h' ∧ Wr h h' a j.toNatClampNeg (.long x) ∧ Arv Z h' a k .long z (vs.set i (.long x)) dv ∧ ∀ target, Steps p.tables e below (T'.setTop { g with pc := g.pc + 1, stack := rest }) target → Steps p.tables e below (T.setTop g) target := by
  obtain ⟨cl, A, q1, S, q3, H, G⟩ := F
  obtain ⟨T', h', X', e', W, st⟩ := stJ X hx hZ eT A (inb_of S hin) hg hs hd
  exact ⟨T', h', X', e', W, Arv.set A q1 S q3 H G rfl W i hj hi, st⟩
theorem own_stC (X : Stand p l e R s m args below meth c T locs cells slots) (hx : p.tables.exec = Jvm.exec) (hZ : Z.Warmed39 s.vm) (eT : T.heap = h) {x : Int32} (F : Arv Z h a k .char z vs dv) {j : Int32} (i : Nat) (hj : j.toNatClampNeg = i) (hi : i < vs.length) (hin : ¬ j < 0 ∧ j < z)
    {g : JFrame} (hg : g.method = m) {rest : List Value} (hs : g.stack = .int x :: .int j :: .ref a :: rest) (hd : decode c.code g.pc = .ok (.castore, 1)) :
    ∃ T' h', Stand p l e R s m args below meth c T' (locs ++ [⟨a, j.toNatClampNeg⟩]) cells slots ∧ T'.heap = h' ∧ Wr h h' a j.toNatClampNeg (.int (nar .char x)) ∧ Arv Z h' a k .char z (vs.set i (.int (nar .char x))) dv ∧ ∀ target, Steps p.tables e below (T'.setTop { g with pc := g.pc + 1, stack := rest }) target → Steps p.tables e below (T.setTop g) target := by
  obtain ⟨cl, A, q1, S, q3, H, G⟩ := F
  obtain ⟨T', h', X', e', W, st⟩ := stC X hx hZ eT A (inb_of S hin) hg hs hd
  exact ⟨T', h', X', e', W, Arv.set A q1 S q3 H G (fits_nar_char x) W i hj hi, st⟩
theorem own_caload (X : Stand p l e R s m args below meth c T locs cells slots) (hx : p.tables.exec = Jvm.exec) (hZ : Z.Warmed39 s.vm) (eT : T.heap = h) {cl : Cell} (F : Arr Z h a cl .char) {j : Int32} {v : Value} (hin : ¬ (j < 0 ∨ cl.slots.size ≤ j.toNatClampNeg)) (hv : cl.slots[j.toNatClampNeg]? = some v)
    {g : JFrame} (hg : g.method = m) {rest : List Value} (hs : g.stack = .int j :: .ref a :: rest) (hd : decode c.code g.pc = .ok (.caload, 1)) : ∀ target, Steps p.tables e below (T.setTop { g with pc := g.pc + 1, stack := v :: rest }) target → Steps p.tables e below (T.setTop g) target :=
  X.caload hx (by rw [eT]; exact F.1) (State.isArrayOf_alike hZ.alike F.2.1) F.2.2 hin hv hg hs hd
/-- a place of an array that is said -/
theorem own_at (F : Arv Z h a k ty z vs dv) {j : Int32} (hin : ¬ j < 0 ∧ j < z) : ∃ cl, Arr Z h a cl ty ∧ ¬ (j < 0 ∨ cl.slots.size ≤ j.toNatClampNeg) ∧ cl.slots[j.toNatClampNeg]? = some (vs.getD j.toNatClampNeg dv) := by
  obtain ⟨cl, A, q1, S, q3, H, G⟩ := F
  exact ⟨cl, A, inb_of S hin, H.at (inb_of S hin) rfl⟩
theorem own_len (F : Arv Z h a k ty z vs dv) : ∃ cl, Arr Z h a cl ty ∧ cl.slots.size.toInt32 = z := by
  obtain ⟨cl, A, q1, S, q3, H, G⟩ := F
  exact ⟨cl, A, len_of S q3⟩
theorem own_re {vs' : List Value} (F : Arv Z h a k ty z vs dv) (q : ∀ i, i < z.toNatClampNeg → vs'.getD i dv = vs.getD i dv) : Arv Z h a k ty z vs' dv := by
  obtain ⟨cl, A, q1, S, q3, H, G⟩ := F
  exact ⟨cl, A, q1, S, q3, fun i hi => by rw [q i (S ▸ hi)]; exact H i hi, fun i hi => by rw [q i (S ▸ hi)]; exact G i hi⟩
theorem own_no {n : Nat} {C S O k0 : String} (w : (Jvm.Cond.superclass C S).before a0 Z = true) (w2 : (Jvm.Cond.superclass S O).before a0 Z = true) (w3 : (Jvm.Cond.noSuperclass O).before a0 Z = true) (wi : (Jvm.Cond.instantiable k0 n).before a0 Z = true) (n1 : C ≠ k0) (n2 : S ≠ k0) (n3 : O ≠ k0) :
    ∃ c t, Z.vm.findClass C = some c ∧ Z.vm.findClass k0 = some t ∧ Z.vm.assignable c t = false := by
  obtain ⟨t, kt, g1, g2, g3, g4, -⟩ := Cond.instantiable_spec wi
  have hO : NS Z O k0 := by
    obtain ⟨c, kc, h1, h2, h3, -, -⟩ := Cond.noSuperclass_spec w3
    refine ⟨c, t, h1, g1, fun fuel => ?_⟩
    cases fuel with
    | zero => rfl
    | succ f => simp [Vm.isSubclassAux, ids_ne h1 g1 n3, h2, h3]
  obtain ⟨c, t', h0, g0, n4⟩ := NS.step w (NS.step w2 hO n2) n1
  cases g1.symm.trans g0
  obtain ⟨p, kk, kp, h1, h2, h3, h4, h5, -, h7⟩ := Cond.superclass_spec h0 w
  refine ⟨c, t, h0, g0, ?_⟩
  show Z.vm.assignableAux (255 + 1) c t = false
  simp only [Bool.or_eq_false_iff] at g4
  simp [Vm.assignableAux, ids_ne h0 g0 n1, h2, g2, h5, g3, g4.1, Vm.isSubclass, n4]
theorem own_clone (X : Stand p l e R s m args below meth c T locs cells slots) (hx : p.tables.exec = Jvm.exec) (hZ : Z.Warmed39 s.vm) {own ad : String} {index : Nat} (hown : s.vm.findClass own = some m.cls)
    (w1 : (Jvm.Cond.methodLink own index ⟨ad, "clone", "()Ljava/lang/Object;"⟩).before a0 Z = true) (w2 : (Jvm.Cond.sameMethod ad "java/lang/Object" "clone" "()Ljava/lang/Object;").before a0 Z = true) (w3 : (Jvm.Cond.native ⟨"java/lang/Object", "clone", "()Ljava/lang/Object;"⟩).before a0 Z = true)
    (w4 : (Jvm.Cond.instanceMethod ⟨"java/lang/Object", "clone", "()Ljava/lang/Object;"⟩).before a0 Z = true) (w5 : (Jvm.Cond.selects ad ⟨ad, "clone", "()Ljava/lang/Object;"⟩ ⟨"java/lang/Object", "clone", "()Ljava/lang/Object;"⟩).before a0 Z = true) (w6 : (Jvm.Cond.castable ad "java/lang/Cloneable").before a0 Z = true)
    (eT : T.heap = h) (F : Arv Z h a k ty z vs dv) (E : Exa Z h a ad) {g : JFrame} (hg : g.method = m) (hsize : g.locals.size = c.maxLocals) {rest : List Value} (hst : g.stack = .ref a :: rest) (hd : decode c.code g.pc = .ok (.invokevirtual index, 3))
    (hf : 1 ≤ R.frames) {W cap : Nat} (hW : 2 * g.monitorRoom + (rest.map fun v => v.category).sum ≤ W) (hl : W + 14 ≤ R.locals) (hcap : z.toNatClampNeg ≤ cap) (hc : cells + 1 ≤ R.cells) (hsl : slots + cap ≤ R.slots) :
    ∃ T' h', Stand p l e R s m args below meth c T' locs (cells + 1) (slots + cap) ∧ T'.heap = h' ∧ Ext h h' ∧ Arv Z h' h.size k ty z vs dv ∧ Exa Z h' h.size ad ∧
      ∀ target, Steps p.tables e below (T'.setTop { g with pc := g.pc + 3, stack := .ref h.size :: rest }) target → Steps p.tables e below (T.setTop g) target := by
  obtain ⟨cl, A, q1, S, q3, H, G⟩ := F
  obtain ⟨T', h', X', e', E', A', B', st⟩ := cloneA X hx hZ hown w1 w2 w3 w4 w5 w6 eT A E (fitC_of A (fun i hi v hv => by rw [H i hi] at hv; cases hv; exact G i hi)) hg hsize hst hd hf hW hl (by rw [S]; exact hcap) hc hsl
  exact ⟨T', h', X', e', E', ⟨cloneOf cl, A', q1, S, q3, H, G⟩, B', st⟩
end Own2
theorem own_six (x : Int32) : (x &&& 2147483647) % 6 = 0 ∨ (x &&& 2147483647) % 6 = 1 ∨ (x &&& 2147483647) % 6 = 2 ∨ (x &&& 2147483647) % 6 = 3 ∨ (x &&& 2147483647) % 6 = 4 ∨ (x &&& 2147483647) % 6 = 5 := by
  have h1 := c_and x 2147483647 (by decide)
  have h2 := (c_iremV (x &&& 2147483647) 6).1 h1.1 (by decide)
  have h3 : (6 : Int32).toInt = 6 := by decide
  rw [h3] at h2
  simp only [← Int32.toInt_inj]
  have e0 : (0 : Int32).toInt = 0 := by decide
  have e1 : (1 : Int32).toInt = 1 := by decide
  have e2 : (2 : Int32).toInt = 2 := by decide
  have e4 : (3 : Int32).toInt = 3 := by decide
  have e5 : (4 : Int32).toInt = 4 := by decide
  have e6 : (5 : Int32).toInt = 5 := by decide
  rw [e0, e1, e2, e4, e5, e6]
  omega
theorem pd_0 : parseMethodDescriptor "()Z" = some ⟨[], some .boolean⟩ := by decide +kernel
theorem d1_0 : decode prog_8_method_4_code 0 = .ok (.aload_n 0, 1) := by decide +kernel
theorem d1_1 : decode prog_8_method_4_code 1 = .ok (.getstatic 16, 3) := by decide +kernel
theorem d1_4 : decode prog_8_method_4_code 4 = .ok (.if_acmp .eq 14, 3) := by decide +kernel
theorem d1_7 : decode prog_8_method_4_code 7 = .ok (.aload_n 0, 1) := by decide +kernel
theorem d1_8 : decode prog_8_method_4_code 8 = .ok (.getstatic 19, 3) := by decide +kernel
theorem d1_11 : decode prog_8_method_4_code 11 = .ok (.if_acmp .eq 7, 3) := by decide +kernel
theorem d1_14 : decode prog_8_method_4_code 14 = .ok (.iconst 1, 1) := by decide +kernel
theorem d1_15 : decode prog_8_method_4_code 15 = .ok (.goto 4, 3) := by decide +kernel
theorem d1_18 : decode prog_8_method_4_code 18 = .ok (.iconst 0, 1) := by decide +kernel
theorem d1_19 : decode prog_8_method_4_code 19 = .ok (.ireturn, 1) := by decide +kernel
def Qrm1 (a : Addr) (w4 : Addr) (w5 : Addr) (Z : State) (h0 : Heap) (n0 : Nat) (v : Option Value) (h : Heap) (L : List Loc) : Prop := v = some (.int (if a = w4 ∨ a = w5 then (0 : Int32) else 1)) ∧ Fr n0 L ∧ h = h0
set_option maxRecDepth 65536 in
set_option maxHeartbeats 40000000 in
theorem rm1 (l : Launch) (Z : State) (a0 : Array Value) (hw : ∀ d ∈ tables_1, d.before a0 Z = true) (a : Addr) (w4 : Addr) (w5 : Addr) (h0 : Heap) (n0 : Nat) (Z0 : n0 ≤ h0.size) (S4 : Sta Z h0 "com/example/sundiald/sundiald/AttemptOutcome" "LOST" "Lcom/example/sundiald/sundiald/AttemptOutcome;" (.ref w4)) (S5 : Sta Z h0 "com/example/sundiald/sundiald/AttemptOutcome" "DENIED" "Lcom/example/sundiald/sundiald/AttemptOutcome;" (.ref w5)) :
    MetFree l (⟨"com/example/sundiald/sundiald/AttemptOutcome", "callEnded", "()Z"⟩ : MethodName) (head1 (Jvm.Cond.code (⟨"com/example/sundiald/sundiald/AttemptOutcome", "callEnded", "()Z"⟩ : MethodName) prog_8_method_4_code 1 (some .boolean) :: []) ({ frames := 0, cells := 0, slots := 0, locals := 0 } : Room)) (fun ar_ U => ar_ = #[(.ref a)] ∧ Z.Warmed39 U.vm ∧ U.heap = h0) (fun _ _ _ _ _ => True) (fun _ U o U' => ∃ v L, o = .returned v ∧ Qrm1 a w4 w5 Z h0 n0 v U'.heap L ∧ FrameEnd U o U' L ({ frames := 0, cells := 0, slots := 0, locals := 0 } : Room).cells ({ frames := 0, cells := 0, slots := 0, locals := 0 } : Room).slots) := by
  refine MetFree.of_bodySF (plainFor_of_name (by first | (simp [plainName, overriddenIn]; done) | decide +kernel)) hisR ?_
  intro p e s m args below meth c s₁ Bd hml0 hP hK
  obtain ⟨rfl, hZ, hh⟩ := hP
  have hx := Bd.exec
  have hby := Bd.bytes
  have hml : c.maxLocals = 1 := hml0
  have hown : s.vm.findClass "com/example/sundiald/sundiald/AttemptOutcome" = some m.cls := findClass_of_methodNamed Bd.named
  have hnm := (name_of_methodNamed Bd.named Bd.method).1
  have X0 : Stand p l e ({ frames := 0, cells := 0, slots := 0, locals := 0 } : Room) s m #[(.ref a)] below meth c s₁ [] 0 0 := Stand.of_body Bd
  have e0 : s₁.heap = h0 := by rw [← hh, Bd.state]; rfl
  have N0 := Fr.nil n0
  show own_E p e below s (Qrm1 a w4 w5 Z h0 n0) ({ frames := 0, cells := 0, slots := 0, locals := 0 } : Room).cells ({ frames := 0, cells := 0, slots := 0, locals := 0 } : Room).slots (s₁.setTop (entryFrame m #[(.ref a)] 1))
  refine own_go (fun t k => castTop (show _ = (mkF m 0 #[.val (.ref a)] []) from by first | (simp [entryFrame, mkF, argsToLocals, Value.category]; done) | rfl) k) ?_
  show own_E _ _ _ _ _ _ _ (s₁.setTop (mkF m 0 #[.val (.ref a)] []))
  refine own_go (fun _ k => XS.aloadN X0.here hx rfl (hb hby d1_0) rfl rfl k) ?_
  show own_E _ _ _ _ _ _ _ (s₁.setTop (mkF m 1 #[.val (.ref a)] [(.ref a)]))
  obtain ⟨T1, X1, e1, st1⟩ := getS2 X0 hx hZ hown (host := "") (Or.inl (hw _ (List.mem_of_getElem? (i := 9) rfl))) Via.refl e0 S4 (g := (mkF m 1 #[.val (.ref a)] [(.ref a)])) rfl (hb hby d1_1)
  refine own_go st1 ?_
  show own_E _ _ _ _ _ _ _ (T1.setTop (mkF m 4 #[.val (.ref a)] [(.ref w4), (.ref a)]))
  by_cases q4 : a = w4
  ·
    refine own_go (fun _ k => Jvm.RoadKit.acmp (g := (mkF m 4 #[.val (.ref a)] [(.ref w4), (.ref a)])) X1 hx rfl rfl rfl (pc0 := 4) (pc' := 18) (same := true) rfl (hb hby d1_4) rfl (decide_eq_true (congrArg Value.ref q4)) (by decide) (by decide) k) ?_
    show own_E _ _ _ _ _ _ _ (T1.setTop (mkF m 18 #[.val (.ref a)] []))
    refine own_go (fun _ k => XT.iconstV X1.here hx rfl (0 : Int32) (hb hby d1_18) (by decide) k) ?_
    show own_E _ _ _ _ _ _ _ (T1.setTop (mkF m 19 #[.val (.ref a)] [(.int (0 : Int32))]))
    exact own_ret X1 hx Bd.returns Bd.notSynchronized rfl (Or.inl ⟨rfl, by simp, _, rfl⟩) (hb hby d1_19) (by rw [e1]; exact ⟨by rw [if_pos (Or.inl q4)], N0, rfl⟩) (by decide) (by decide)
  ·
    refine own_go (fun _ k => Jvm.RoadKit.acmp (g := (mkF m 4 #[.val (.ref a)] [(.ref w4), (.ref a)])) X1 hx rfl rfl rfl (pc0 := 4) (pc' := 7) (same := false) rfl (hb hby d1_4) rfl (decide_eq_false (fun z => q4 (Value.ref.inj z))) (by decide) (by decide) k) ?_
    show own_E _ _ _ _ _ _ _ (T1.setTop (mkF m 7 #[.val (.ref a)] []))
    refine own_go (fun _ k => XS.aloadN X1.here hx rfl (hb hby d1_7) rfl rfl k) ?_
    show own_E _ _ _ _ _ _ _ (T1.setTop (mkF m 8 #[.val (.ref a)] [(.ref a)]))
    obtain ⟨T2, X2, e2, st2⟩ := getS2 X1 hx hZ hown (host := "") (Or.inl (hw _ (List.mem_of_getElem? (i := 11) rfl))) Via.refl e1 S5 (g := (mkF m 8 #[.val (.ref a)] [(.ref a)])) rfl (hb hby d1_8)
    refine own_go st2 ?_
    show own_E _ _ _ _ _ _ _ (T2.setTop (mkF m 11 #[.val (.ref a)] [(.ref w5), (.ref a)]))
    by_cases q5 : a = w5
    ·
      refine own_go (fun _ k => Jvm.RoadKit.acmp (g := (mkF m 11 #[.val (.ref a)] [(.ref w5), (.ref a)])) X2 hx rfl rfl rfl (pc0 := 11) (pc' := 18) (same := true) rfl (hb hby d1_11) rfl (decide_eq_true (congrArg Value.ref q5)) (by decide) (by decide) k) ?_
      show own_E _ _ _ _ _ _ _ (T2.setTop (mkF m 18 #[.val (.ref a)] []))
      refine own_go (fun _ k => XT.iconstV X2.here hx rfl (0 : Int32) (hb hby d1_18) (by decide) k) ?_
      show own_E _ _ _ _ _ _ _ (T2.setTop (mkF m 19 #[.val (.ref a)] [(.int (0 : Int32))]))
      exact own_ret X2 hx Bd.returns Bd.notSynchronized rfl (Or.inl ⟨rfl, by simp, _, rfl⟩) (hb hby d1_19) (by rw [e2]; exact ⟨by rw [if_pos (Or.inr q5)], N0, rfl⟩) (by decide) (by decide)
    ·
      refine own_go (fun _ k => Jvm.RoadKit.acmp (g := (mkF m 11 #[.val (.ref a)] [(.ref w5), (.ref a)])) X2 hx rfl rfl rfl (pc0 := 11) (pc' := 14) (same := false) rfl (hb hby d1_11) rfl (decide_eq_false (fun z => q5 (Value.ref.inj z))) (by decide) (by decide) k) ?_
      show own_E _ _ _ _ _ _ _ (T2.setTop (mkF m 14 #[.val (.ref a)] []))
      refine own_go (fun _ k => XT.iconstV X2.here hx rfl (1 : Int32) (hb hby d1_14) (by decide) k) ?_
      show own_E _ _ _ _ _ _ _ (T2.setTop (mkF m 15 #[.val (.ref a)] [(.int (1 : Int32))]))
      refine own_go (fun _ k => XS.goto X2.here hx rfl (pc0 := 15) (pc' := 19) rfl (hb hby d1_15) (by decide) (by decide) k) ?_
      show own_E _ _ _ _ _ _ _ (T2.setTop (mkF m 19 #[.val (.ref a)] [(.int (1 : Int32))]))
      exact own_ret X2 hx Bd.returns Bd.notSynchronized rfl (Or.inl ⟨rfl, by simp, _, rfl⟩) (hb hby d1_19) (by rw [e2]; exact ⟨by rw [if_neg (fun z => z.elim q4 q5)], N0, rfl⟩) (by decide) (by decide)
def Qrm0 (p0 : Int32) (w0 : Addr) (w1 : Addr) (w2 : Addr) (w3 : Addr) (w4 : Addr) (w5 : Addr) (Z : State) (h0 : Heap) (n0 : Nat) (v : Option Value) (h : Heap) (L : List Loc) : Prop := v = some (.int 1) ∧ Fr n0 L
set_option maxRecDepth 65536 in
set_option maxHeartbeats 40000000 in
theorem rm0 (l : Launch) (Z : State) (a0 : Array Value) (hw : ∀ d ∈ tables_1, d.before a0 Z = true) (ws : List Jvm.Cond) (p0 : Int32) (w0 : Addr) (w1 : Addr) (w2 : Addr) (w3 : Addr) (w4 : Addr) (w5 : Addr) (h0 : Heap) (n0 : Nat) (Z0 : n0 ≤ h0.size) (S0 : Sta Z h0 "com/example/sundiald/sundiald/AttemptOutcome" "SUCCEEDED" "Lcom/example/sundiald/sundiald/AttemptOutcome;" (.ref w0)) (S1 : Sta Z h0 "com/example/sundiald/sundiald/AttemptOutcome" "HTTP_ERROR" "Lcom/example/sundiald/sundiald/AttemptOutcome;" (.ref w1)) (S2 : Sta Z h0 "com/example/sundiald/sundiald/AttemptOutcome" "TIMEOUT" "Lcom/example/sundiald/sundiald/AttemptOutcome;" (.ref w2)) (S3 : Sta Z h0 "com/example/sundiald/sundiald/AttemptOutcome" "CONNECT_ERROR" "Lcom/example/sundiald/sundiald/AttemptOutcome;" (.ref w3)) (S4 : Sta Z h0 "com/example/sundiald/sundiald/AttemptOutcome" "LOST" "Lcom/example/sundiald/sundiald/AttemptOutcome;" (.ref w4)) (S5 : Sta Z h0 "com/example/sundiald/sundiald/AttemptOutcome" "DENIED" "Lcom/example/sundiald/sundiald/AttemptOutcome;" (.ref w5)) (E0 : Exa Z h0 w0 "com/example/sundiald/sundiald/AttemptOutcome") (E1 : Exa Z h0 w1 "com/example/sundiald/sundiald/AttemptOutcome") (E2 : Exa Z h0 w2 "com/example/sundiald/sundiald/AttemptOutcome") (E3 : Exa Z h0 w3 "com/example/sundiald/sundiald/AttemptOutcome") (E4 : Exa Z h0 w4 "com/example/sundiald/sundiald/AttemptOutcome") (E5 : Exa Z h0 w5 "com/example/sundiald/sundiald/AttemptOutcome") (ne0_4 : w0 ≠ w4) (ne0_5 : w0 ≠ w5) (ne1_4 : w1 ≠ w4) (ne1_5 : w1 ≠ w5) (ne2_4 : w2 ≠ w4) (ne2_5 : w2 ≠ w5) (ne3_4 : w3 ≠ w4) (ne3_5 : w3 ≠ w5) :
    MetFree l x (head1 (Jvm.Cond.code x code maxLocals ret :: ws) room_1) (fun ar_ U => ar_ = #[(.int p0)] ∧ Z.Warmed39 U.vm ∧ U.heap = h0) (fun _ _ _ _ _ => True) (fun _ U o U' => ∃ v L, o = .returned v ∧ Qrm0 p0 w0 w1 w2 w3 w4 w5 Z h0 n0 v U'.heap L ∧ FrameEnd U o U' L room_1.cells room_1.slots) := by
  refine MetFree.of_bodySF (plainFor_of_name (by first | (simp [plainName, overriddenIn]; done) | decide +kernel)) hisR ?_
  intro p e s m args below meth c s₁ Bd hml0 hP hK
  obtain ⟨rfl, hZ, hh⟩ := hP
  have hx := Bd.exec
  have hby := Bd.bytes
  have hml : c.maxLocals = 4 := hml0
  have hown : s.vm.findClass "com/example/sundiald/sundiald/AttemptOutcomeCallEndedPinLaw" = some m.cls := findClass_of_methodNamed Bd.named
  have hnm := (name_of_methodNamed Bd.named Bd.method).1
  have X0 : Stand p l e room_1 s m #[(.int p0)] below meth c s₁ [] 0 0 := Stand.of_body Bd
  have e0 : s₁.heap = h0 := by rw [← hh, Bd.state]; rfl
  have N0 := Fr.nil n0
  show own_E p e below s (Qrm0 p0 w0 w1 w2 w3 w4 w5 Z h0 n0) room_1.cells room_1.slots (s₁.setTop (entryFrame m #[(.int p0)] maxLocals))
  refine own_go (fun t k => castTop (show _ = (mkF m 0 #[.val (.int p0), .unset, .unset, .unset] []) from by first | (simp [entryFrame, mkF, argsToLocals, Value.category, maxLocals]; done) | rfl) k) ?_
  show own_E _ _ _ _ _ _ _ (s₁.setTop (mkF m 0 #[.val (.int p0), .unset, .unset, .unset] []))
  refine own_go (fun _ k => XS.iloadN X0.here hx rfl (hb hby at_0) rfl k) ?_
  show own_E _ _ _ _ _ _ _ (s₁.setTop (mkF m 1 #[.val (.int p0), .unset, .unset, .unset] [(.int p0)]))
  refine own_go (fun _ k => X0.ldcI hx hown (mvT hZ (hw _ (List.mem_of_getElem? (i := 0) rfl))) rfl (hb hby at_1) k) ?_
  show own_E _ _ _ _ _ _ _ (s₁.setTop (mkF m 3 #[.val (.int p0), .unset, .unset, .unset] [(.int (2147483647 : Int32)), (.int p0)]))
  refine own_go (fun _ k => XS.iand X0.here hx rfl (hb hby at_3) rfl k) ?_
  show own_E _ _ _ _ _ _ _ (s₁.setTop (mkF m 4 #[.val (.int p0), .unset, .unset, .unset] [(.int (p0 &&& (2147483647 : Int32)))]))
  refine own_go (fun _ k => XT.bipushV X0.here hx rfl (6 : Int32) (hb hby at_4) (by decide) k) ?_
  show own_E _ _ _ _ _ _ _ (s₁.setTop (mkF m 6 #[.val (.int p0), .unset, .unset, .unset] [(.int (6 : Int32)), (.int (p0 &&& (2147483647 : Int32)))]))
  refine own_go (fun _ k => iremM X0 hx rfl (hb hby at_6) rfl (by decide) k) ?_
  show own_E _ _ _ _ _ _ _ (s₁.setTop (mkF m 7 #[.val (.int p0), .unset, .unset, .unset] [(.int ((p0 &&& (2147483647 : Int32)) % (6 : Int32)))]))
  obtain ⟨r, hr⟩ : ∃ r, r = ((p0 &&& (2147483647 : Int32)) % (6 : Int32)) := ⟨_, rfl⟩
  rw [← hr]
  have hr6 : r = 0 ∨ r = 1 ∨ r = 2 ∨ r = 3 ∨ r = 4 ∨ r = 5 := by rw [hr]; exact own_six p0
  clear hr
  rcases hr6 with rfl | rfl | rfl | rfl | rfl | rfl
  ·
    show own_E _ _ _ _ _ _ _ (s₁.setTop (mkF m 7 #[.val (.int p0), .unset, .unset, .unset] [(.int (0 : Int32))]))
    refine own_go (fun _ k => XS.istoreN X0.here hx rfl (hb hby at_7) rfl (l' := #[.val (.int p0), .val (.int (0 : Int32)), .unset, .unset]) rfl k) ?_
    show own_E _ _ _ _ _ _ _ (s₁.setTop (mkF m 8 #[.val (.int p0), .val (.int (0 : Int32)), .unset, .unset] []))
    refine own_go (fun _ k => XS.iloadN X0.here hx rfl (hb hby at_8) rfl k) ?_
    show own_E _ _ _ _ _ _ _ (s₁.setTop (mkF m 9 #[.val (.int p0), .val (.int (0 : Int32)), .unset, .unset] [(.int (0 : Int32))]))
    refine own_go (fun _ k => XS.ifNo X0.here hx rfl (hb hby at_9) rfl (by decide) k) ?_
    show own_E _ _ _ _ _ _ _ (s₁.setTop (mkF m 12 #[.val (.int p0), .val (.int (0 : Int32)), .unset, .unset] []))
    obtain ⟨T1, X1, e1, st1⟩ := getS2 X0 hx hZ hown (host := "") (Or.inl (hw _ (List.mem_of_getElem? (i := 1) rfl))) Via.refl e0 S0 (g := (mkF m 12 #[.val (.int p0), .val (.int (0 : Int32)), .unset, .unset] [])) rfl (hb hby at_12)
    refine own_go st1 ?_
    show own_E _ _ _ _ _ _ _ (T1.setTop (mkF m 15 #[.val (.int p0), .val (.int (0 : Int32)), .unset, .unset] [(.ref w0)]))
    refine own_go (fun _ k => XS.astoreN X1.here hx rfl (hb hby at_15) rfl rfl (l' := #[.val (.int p0), .val (.int (0 : Int32)), .val (.ref w0), .unset]) rfl k) ?_
    show own_E _ _ _ _ _ _ _ (T1.setTop (mkF m 16 #[.val (.int p0), .val (.int (0 : Int32)), .val (.ref w0), .unset] []))
    refine own_go (fun _ k => XT.iconstV X1.here hx rfl (1 : Int32) (hb hby at_16) (by decide) k) ?_
    show own_E _ _ _ _ _ _ _ (T1.setTop (mkF m 17 #[.val (.int p0), .val (.int (0 : Int32)), .val (.ref w0), .unset] [(.int (1 : Int32))]))
    refine own_go (fun _ k => XS.istoreN X1.here hx rfl (hb hby at_17) rfl (l' := #[.val (.int p0), .val (.int (0 : Int32)), .val (.ref w0), .val (.int (1 : Int32))]) rfl k) ?_
    show own_E _ _ _ _ _ _ _ (T1.setTop (mkF m 18 #[.val (.int p0), .val (.int (0 : Int32)), .val (.ref w0), .val (.int (1 : Int32))] []))
    refine own_go (fun _ k => XS.goto X1.here hx rfl (pc0 := 18) (pc' := 83) rfl (hb hby at_18) (by decide) (by decide) k) ?_
    show own_E _ _ _ _ _ _ _ (T1.setTop (mkF m 83 #[.val (.int p0), .val (.int (0 : Int32)), .val (.ref w0), .val (.int (1 : Int32))] []))
    refine own_go (fun _ k => XS.aloadN X1.here hx rfl (hb hby at_83) rfl rfl k) ?_
    show own_E _ _ _ _ _ _ _ (T1.setTop (mkF m 84 #[.val (.int p0), .val (.int (0 : Int32)), .val (.ref w0), .val (.int (1 : Int32))] [(.ref w0)]))
    obtain ⟨v2, T2, L2, X2, hQ2, st2⟩ := own_callV X1 hx hZ (rm := ({ frames := 0, cells := 0, slots := 0, locals := 0 } : Room)) (W := 0) (b := w0) (argsL := []) (rest := []) (y := (⟨"com/example/sundiald/sundiald/AttemptOutcome", "callEnded", "()Z"⟩ : MethodName)) hown (hw _ (List.mem_of_getElem? (i := 4) rfl)) (hw _ (List.mem_of_getElem? (i := 5) rfl)) (hw _ (List.mem_of_getElem? (i := 7) rfl)) (hw _ (List.mem_of_getElem? (i := 6) rfl)) (hw _ (List.mem_of_getElem? (i := 8) rfl)) (hw _ (List.mem_of_getElem? (i := 2) rfl)) (by decide) (rm1 l Z a0 hw w0 w4 w5 h0 n0 Z0 S4 S5) e1 E0 (by decide) (by decide) (by decide) (by decide) (g := (mkF m 84 #[.val (.int p0), .val (.int (0 : Int32)), .val (.ref w0), .val (.int (1 : Int32))] [(.ref w0)])) rfl (by rw [hml]; rfl) (lenOf pd_0 rfl) rfl (Nat.le_of_ble_eq_true rfl) (hb hby at_84)
    obtain ⟨rfl, N2, e2⟩ := hQ2
    refine own_go st2 ?_
    rw [if_neg (fun z => z.elim ne0_4 ne0_5)]
    show own_E _ _ _ _ _ _ _ (T2.setTop (mkF m 87 #[.val (.int p0), .val (.int (0 : Int32)), .val (.ref w0), .val (.int (1 : Int32))] [(.int (1 : Int32))]))
    refine own_go (fun _ k => XS.iloadN X2.here hx rfl (hb hby at_87) rfl k) ?_
    show own_E _ _ _ _ _ _ _ (T2.setTop (mkF m 88 #[.val (.int p0), .val (.int (0 : Int32)), .val (.ref w0), .val (.int (1 : Int32))] [(.int (1 : Int32)), (.int (1 : Int32))]))
    refine own_go (fun _ k => XS.icmpNo X2.here hx rfl (hb hby at_88) rfl (by decide) k) ?_
    show own_E _ _ _ _ _ _ _ (T2.setTop (mkF m 91 #[.val (.int p0), .val (.int (0 : Int32)), .val (.ref w0), .val (.int (1 : Int32))] []))
    refine own_go (fun _ k => XT.iconstV X2.here hx rfl (1 : Int32) (hb hby at_91) (by decide) k) ?_
    show own_E _ _ _ _ _ _ _ (T2.setTop (mkF m 92 #[.val (.int p0), .val (.int (0 : Int32)), .val (.ref w0), .val (.int (1 : Int32))] [(.int (1 : Int32))]))
    refine own_go (fun _ k => XS.goto X2.here hx rfl (pc0 := 92) (pc' := 96) rfl (hb hby at_92) (by decide) (by decide) k) ?_
    show own_E _ _ _ _ _ _ _ (T2.setTop (mkF m 96 #[.val (.int p0), .val (.int (0 : Int32)), .val (.ref w0), .val (.int (1 : Int32))] [(.int (1 : Int32))]))
    exact own_ret X2 hx Bd.returns Bd.notSynchronized rfl (Or.inl ⟨rfl, by simp, _, rfl⟩) (hb hby at_96) (by rw [e2]; exact ⟨rfl, Fr.app N0 N2⟩) (by decide) (by decide)
  ·
    show own_E _ _ _ _ _ _ _ (s₁.setTop (mkF m 7 #[.val (.int p0), .unset, .unset, .unset] [(.int (1 : Int32))]))
    refine own_go (fun _ k => XS.istoreN X0.here hx rfl (hb hby at_7) rfl (l' := #[.val (.int p0), .val (.int (1 : Int32)), .unset, .unset]) rfl k) ?_
    show own_E _ _ _ _ _ _ _ (s₁.setTop (mkF m 8 #[.val (.int p0), .val (.int (1 : Int32)), .unset, .unset] []))
    refine own_go (fun _ k => XS.iloadN X0.here hx rfl (hb hby at_8) rfl k) ?_
    show own_E _ _ _ _ _ _ _ (s₁.setTop (mkF m 9 #[.val (.int p0), .val (.int (1 : Int32)), .unset, .unset] [(.int (1 : Int32))]))
    refine own_go (fun _ k => XS.ifYes X0.here hx rfl (pc0 := 9) (pc' := 21) rfl (hb hby at_9) rfl (by decide) (by decide) (by decide) k) ?_
    show own_E _ _ _ _ _ _ _ (s₁.setTop (mkF m 21 #[.val (.int p0), .val (.int (1 : Int32)), .unset, .unset] []))
    refine own_go (fun _ k => XS.iloadN X0.here hx rfl (hb hby at_21) rfl k) ?_
    show own_E _ _ _ _ _ _ _ (s₁.setTop (mkF m 22 #[.val (.int p0), .val (.int (1 : Int32)), .unset, .unset] [(.int (1 : Int32))]))
    refine own_go (fun _ k => XT.iconstV X0.here hx rfl (1 : Int32) (hb hby at_22) (by decide) k) ?_
    show own_E _ _ _ _ _ _ _ (s₁.setTop (mkF m 23 #[.val (.int p0), .val (.int (1 : Int32)), .unset, .unset] [(.int (1 : Int32)), (.int (1 : Int32))]))
    refine own_go (fun _ k => XS.icmpNo X0.here hx rfl (hb hby at_23) rfl (by decide) k) ?_
    show own_E _ _ _ _ _ _ _ (s₁.setTop (mkF m 26 #[.val (.int p0), .val (.int (1 : Int32)), .unset, .unset] []))
    obtain ⟨T3, X3, e3, st3⟩ := getS2 X0 hx hZ hown (host := "") (Or.inl (hw _ (List.mem_of_getElem? (i := 17) rfl))) Via.refl e0 S1 (g := (mkF m 26 #[.val (.int p0), .val (.int (1 : Int32)), .unset, .unset] [])) rfl (hb hby at_26)
    refine own_go st3 ?_
    show own_E _ _ _ _ _ _ _ (T3.setTop (mkF m 29 #[.val (.int p0), .val (.int (1 : Int32)), .unset, .unset] [(.ref w1)]))
    refine own_go (fun _ k => XS.astoreN X3.here hx rfl (hb hby at_29) rfl rfl (l' := #[.val (.int p0), .val (.int (1 : Int32)), .val (.ref w1), .unset]) rfl k) ?_
    show own_E _ _ _ _ _ _ _ (T3.setTop (mkF m 30 #[.val (.int p0), .val (.int (1 : Int32)), .val (.ref w1), .unset] []))
    refine own_go (fun _ k => XT.iconstV X3.here hx rfl (1 : Int32) (hb hby at_30) (by decide) k) ?_
    show own_E _ _ _ _ _ _ _ (T3.setTop (mkF m 31 #[.val (.int p0), .val (.int (1 : Int32)), .val (.ref w1), .unset] [(.int (1 : Int32))]))
    refine own_go (fun _ k => XS.istoreN X3.here hx rfl (hb hby at_31) rfl (l' := #[.val (.int p0), .val (.int (1 : Int32)), .val (.ref w1), .val (.int (1 : Int32))]) rfl k) ?_
    show own_E _ _ _ _ _ _ _ (T3.setTop (mkF m 32 #[.val (.int p0), .val (.int (1 : Int32)), .val (.ref w1), .val (.int (1 : Int32))] []))
    refine own_go (fun _ k => XS.goto X3.here hx rfl (pc0 := 32) (pc' := 83) rfl (hb hby at_32) (by decide) (by decide) k) ?_
    show own_E _ _ _ _ _ _ _ (T3.setTop (mkF m 83 #[.val (.int p0), .val (.int (1 : Int32)), .val (.ref w1), .val (.int (1 : Int32))] []))
    refine own_go (fun _ k => XS.aloadN X3.here hx rfl (hb hby at_83) rfl rfl k) ?_
    show own_E _ _ _ _ _ _ _ (T3.setTop (mkF m 84 #[.val (.int p0), .val (.int (1 : Int32)), .val (.ref w1), .val (.int (1 : Int32))] [(.ref w1)]))
    obtain ⟨v4, T4, L4, X4, hQ4, st4⟩ := own_callV X3 hx hZ (rm := ({ frames := 0, cells := 0, slots := 0, locals := 0 } : Room)) (W := 0) (b := w1) (argsL := []) (rest := []) (y := (⟨"com/example/sundiald/sundiald/AttemptOutcome", "callEnded", "()Z"⟩ : MethodName)) hown (hw _ (List.mem_of_getElem? (i := 4) rfl)) (hw _ (List.mem_of_getElem? (i := 5) rfl)) (hw _ (List.mem_of_getElem? (i := 7) rfl)) (hw _ (List.mem_of_getElem? (i := 6) rfl)) (hw _ (List.mem_of_getElem? (i := 8) rfl)) (hw _ (List.mem_of_getElem? (i := 2) rfl)) (by decide) (rm1 l Z a0 hw w1 w4 w5 h0 n0 Z0 S4 S5) e3 E1 (by decide) (by decide) (by decide) (by decide) (g := (mkF m 84 #[.val (.int p0), .val (.int (1 : Int32)), .val (.ref w1), .val (.int (1 : Int32))] [(.ref w1)])) rfl (by rw [hml]; rfl) (lenOf pd_0 rfl) rfl (Nat.le_of_ble_eq_true rfl) (hb hby at_84)
    obtain ⟨rfl, N4, e4⟩ := hQ4
    refine own_go st4 ?_
    rw [if_neg (fun z => z.elim ne1_4 ne1_5)]
    show own_E _ _ _ _ _ _ _ (T4.setTop (mkF m 87 #[.val (.int p0), .val (.int (1 : Int32)), .val (.ref w1), .val (.int (1 : Int32))] [(.int (1 : Int32))]))
    refine own_go (fun _ k => XS.iloadN X4.here hx rfl (hb hby at_87) rfl k) ?_
    show own_E _ _ _ _ _ _ _ (T4.setTop (mkF m 88 #[.val (.int p0), .val (.int (1 : Int32)), .val (.ref w1), .val (.int (1 : Int32))] [(.int (1 : Int32)), (.int (1 : Int32))]))
    refine own_go (fun _ k => XS.icmpNo X4.here hx rfl (hb hby at_88) rfl (by decide) k) ?_
    show own_E _ _ _ _ _ _ _ (T4.setTop (mkF m 91 #[.val (.int p0), .val (.int (1 : Int32)), .val (.ref w1), .val (.int (1 : Int32))] []))
    refine own_go (fun _ k => XT.iconstV X4.here hx rfl (1 : Int32) (hb hby at_91) (by decide) k) ?_
    show own_E _ _ _ _ _ _ _ (T4.setTop (mkF m 92 #[.val (.int p0), .val (.int (1 : Int32)), .val (.ref w1), .val (.int (1 : Int32))] [(.int (1 : Int32))]))
    refine own_go (fun _ k => XS.goto X4.here hx rfl (pc0 := 92) (pc' := 96) rfl (hb hby at_92) (by decide) (by decide) k) ?_
    show own_E _ _ _ _ _ _ _ (T4.setTop (mkF m 96 #[.val (.int p0), .val (.int (1 : Int32)), .val (.ref w1), .val (.int (1 : Int32))] [(.int (1 : Int32))]))
    exact own_ret X4 hx Bd.returns Bd.notSynchronized rfl (Or.inl ⟨rfl, by simp, _, rfl⟩) (hb hby at_96) (by rw [e4]; exact ⟨rfl, Fr.app N0 N4⟩) (by decide) (by decide)
  ·
    show own_E _ _ _ _ _ _ _ (s₁.setTop (mkF m 7 #[.val (.int p0), .unset, .unset, .unset] [(.int (2 : Int32))]))
    refine own_go (fun _ k => XS.istoreN X0.here hx rfl (hb hby at_7) rfl (l' := #[.val (.int p0), .val (.int (2 : Int32)), .unset, .unset]) rfl k) ?_
    show own_E _ _ _ _ _ _ _ (s₁.setTop (mkF m 8 #[.val (.int p0), .val (.int (2 : Int32)), .unset, .unset] []))
    refine own_go (fun _ k => XS.iloadN X0.here hx rfl (hb hby at_8) rfl k) ?_
    show own_E _ _ _ _ _ _ _ (s₁.setTop (mkF m 9 #[.val (.int p0), .val (.int (2 : Int32)), .unset, .unset] [(.int (2 : Int32))]))
    refine own_go (fun _ k => XS.ifYes X0.here hx rfl (pc0 := 9) (pc' := 21) rfl (hb hby at_9) rfl (by decide) (by decide) (by decide) k) ?_
    show own_E _ _ _ _ _ _ _ (s₁.setTop (mkF m 21 #[.val (.int p0), .val (.int (2 : Int32)), .unset, .unset] []))
    refine own_go (fun _ k => XS.iloadN X0.here hx rfl (hb hby at_21) rfl k) ?_
    show own_E _ _ _ _ _ _ _ (s₁.setTop (mkF m 22 #[.val (.int p0), .val (.int (2 : Int32)), .unset, .unset] [(.int (2 : Int32))]))
    refine own_go (fun _ k => XT.iconstV X0.here hx rfl (1 : Int32) (hb hby at_22) (by decide) k) ?_
    show own_E _ _ _ _ _ _ _ (s₁.setTop (mkF m 23 #[.val (.int p0), .val (.int (2 : Int32)), .unset, .unset] [(.int (1 : Int32)), (.int (2 : Int32))]))
    refine own_go (fun _ k => XS.icmpYes X0.here hx rfl (pc0 := 23) (pc' := 35) rfl (hb hby at_23) rfl (by decide) (by decide) (by decide) k) ?_
    show own_E _ _ _ _ _ _ _ (s₁.setTop (mkF m 35 #[.val (.int p0), .val (.int (2 : Int32)), .unset, .unset] []))
    refine own_go (fun _ k => XS.iloadN X0.here hx rfl (hb hby at_35) rfl k) ?_
    show own_E _ _ _ _ _ _ _ (s₁.setTop (mkF m 36 #[.val (.int p0), .val (.int (2 : Int32)), .unset, .unset] [(.int (2 : Int32))]))
    refine own_go (fun _ k => XT.iconstV X0.here hx rfl (2 : Int32) (hb hby at_36) (by decide) k) ?_
    show own_E _ _ _ _ _ _ _ (s₁.setTop (mkF m 37 #[.val (.int p0), .val (.int (2 : Int32)), .unset, .unset] [(.int (2 : Int32)), (.int (2 : Int32))]))
    refine own_go (fun _ k => XS.icmpNo X0.here hx rfl (hb hby at_37) rfl (by decide) k) ?_
    show own_E _ _ _ _ _ _ _ (s₁.setTop (mkF m 40 #[.val (.int p0), .val (.int (2 : Int32)), .unset, .unset] []))
    obtain ⟨T5, X5, e5, st5⟩ := getS2 X0 hx hZ hown (host := "") (Or.inl (hw _ (List.mem_of_getElem? (i := 15) rfl))) Via.refl e0 S2 (g := (mkF m 40 #[.val (.int p0), .val (.int (2 : Int32)), .unset, .unset] [])) rfl (hb hby at_40)
    refine own_go st5 ?_
    show own_E _ _ _ _ _ _ _ (T5.setTop (mkF m 43 #[.val (.int p0), .val (.int (2 : Int32)), .unset, .unset] [(.ref w2)]))
    refine own_go (fun _ k => XS.astoreN X5.here hx rfl (hb hby at_43) rfl rfl (l' := #[.val (.int p0), .val (.int (2 : Int32)), .val (.ref w2), .unset]) rfl k) ?_
    show own_E _ _ _ _ _ _ _ (T5.setTop (mkF m 44 #[.val (.int p0), .val (.int (2 : Int32)), .val (.ref w2), .unset] []))
    refine own_go (fun _ k => XT.iconstV X5.here hx rfl (1 : Int32) (hb hby at_44) (by decide) k) ?_
    show own_E _ _ _ _ _ _ _ (T5.setTop (mkF m 45 #[.val (.int p0), .val (.int (2 : Int32)), .val (.ref w2), .unset] [(.int (1 : Int32))]))
    refine own_go (fun _ k => XS.istoreN X5.here hx rfl (hb hby at_45) rfl (l' := #[.val (.int p0), .val (.int (2 : Int32)), .val (.ref w2), .val (.int (1 : Int32))]) rfl k) ?_
    show own_E _ _ _ _ _ _ _ (T5.setTop (mkF m 46 #[.val (.int p0), .val (.int (2 : Int32)), .val (.ref w2), .val (.int (1 : Int32))] []))
    refine own_go (fun _ k => XS.goto X5.here hx rfl (pc0 := 46) (pc' := 83) rfl (hb hby at_46) (by decide) (by decide) k) ?_
    show own_E _ _ _ _ _ _ _ (T5.setTop (mkF m 83 #[.val (.int p0), .val (.int (2 : Int32)), .val (.ref w2), .val (.int (1 : Int32))] []))
    refine own_go (fun _ k => XS.aloadN X5.here hx rfl (hb hby at_83) rfl rfl k) ?_
    show own_E _ _ _ _ _ _ _ (T5.setTop (mkF m 84 #[.val (.int p0), .val (.int (2 : Int32)), .val (.ref w2), .val (.int (1 : Int32))] [(.ref w2)]))
    obtain ⟨v6, T6, L6, X6, hQ6, st6⟩ := own_callV X5 hx hZ (rm := ({ frames := 0, cells := 0, slots := 0, locals := 0 } : Room)) (W := 0) (b := w2) (argsL := []) (rest := []) (y := (⟨"com/example/sundiald/sundiald/AttemptOutcome", "callEnded", "()Z"⟩ : MethodName)) hown (hw _ (List.mem_of_getElem? (i := 4) rfl)) (hw _ (List.mem_of_getElem? (i := 5) rfl)) (hw _ (List.mem_of_getElem? (i := 7) rfl)) (hw _ (List.mem_of_getElem? (i := 6) rfl)) (hw _ (List.mem_of_getElem? (i := 8) rfl)) (hw _ (List.mem_of_getElem? (i := 2) rfl)) (by decide) (rm1 l Z a0 hw w2 w4 w5 h0 n0 Z0 S4 S5) e5 E2 (by decide) (by decide) (by decide) (by decide) (g := (mkF m 84 #[.val (.int p0), .val (.int (2 : Int32)), .val (.ref w2), .val (.int (1 : Int32))] [(.ref w2)])) rfl (by rw [hml]; rfl) (lenOf pd_0 rfl) rfl (Nat.le_of_ble_eq_true rfl) (hb hby at_84)
    obtain ⟨rfl, N6, e6⟩ := hQ6
    refine own_go st6 ?_
    rw [if_neg (fun z => z.elim ne2_4 ne2_5)]
    show own_E _ _ _ _ _ _ _ (T6.setTop (mkF m 87 #[.val (.int p0), .val (.int (2 : Int32)), .val (.ref w2), .val (.int (1 : Int32))] [(.int (1 : Int32))]))
    refine own_go (fun _ k => XS.iloadN X6.here hx rfl (hb hby at_87) rfl k) ?_
    show own_E _ _ _ _ _ _ _ (T6.setTop (mkF m 88 #[.val (.int p0), .val (.int (2 : Int32)), .val (.ref w2), .val (.int (1 : Int32))] [(.int (1 : Int32)), (.int (1 : Int32))]))
    refine own_go (fun _ k => XS.icmpNo X6.here hx rfl (hb hby at_88) rfl (by decide) k) ?_
    show own_E _ _ _ _ _ _ _ (T6.setTop (mkF m 91 #[.val (.int p0), .val (.int (2 : Int32)), .val (.ref w2), .val (.int (1 : Int32))] []))
    refine own_go (fun _ k => XT.iconstV X6.here hx rfl (1 : Int32) (hb hby at_91) (by decide) k) ?_
    show own_E _ _ _ _ _ _ _ (T6.setTop (mkF m 92 #[.val (.int p0), .val (.int (2 : Int32)), .val (.ref w2), .val (.int (1 : Int32))] [(.int (1 : Int32))]))
    refine own_go (fun _ k => XS.goto X6.here hx rfl (pc0 := 92) (pc' := 96) rfl (hb hby at_92) (by decide) (by decide) k) ?_
    show own_E _ _ _ _ _ _ _ (T6.setTop (mkF m 96 #[.val (.int p0), .val (.int (2 : Int32)), .val (.ref w2), .val (.int (1 : Int32))] [(.int (1 : Int32))]))
    exact own_ret X6 hx Bd.returns Bd.notSynchronized rfl (Or.inl ⟨rfl, by simp, _, rfl⟩) (hb hby at_96) (by rw [e6]; exact ⟨rfl, Fr.app N0 N6⟩) (by decide) (by decide)
  ·
    show own_E _ _ _ _ _ _ _ (s₁.setTop (mkF m 7 #[.val (.int p0), .unset, .unset, .unset] [(.int (3 : Int32))]))
    refine own_go (fun _ k => XS.istoreN X0.here hx rfl (hb hby at_7) rfl (l' := #[.val (.int p0), .val (.int (3 : Int32)), .unset, .unset]) rfl k) ?_
    show own_E _ _ _ _ _ _ _ (s₁.setTop (mkF m 8 #[.val (.int p0), .val (.int (3 : Int32)), .unset, .unset] []))
    refine own_go (fun _ k => XS.iloadN X0.here hx rfl (hb hby at_8) rfl k) ?_
    show own_E _ _ _ _ _ _ _ (s₁.setTop (mkF m 9 #[.val (.int p0), .val (.int (3 : Int32)), .unset, .unset] [(.int (3 : Int32))]))
    refine own_go (fun _ k => XS.ifYes X0.here hx rfl (pc0 := 9) (pc' := 21) rfl (hb hby at_9) rfl (by decide) (by decide) (by decide) k) ?_
    show own_E _ _ _ _ _ _ _ (s₁.setTop (mkF m 21 #[.val (.int p0), .val (.int (3 : Int32)), .unset, .unset] []))
    refine own_go (fun _ k => XS.iloadN X0.here hx rfl (hb hby at_21) rfl k) ?_
    show own_E _ _ _ _ _ _ _ (s₁.setTop (mkF m 22 #[.val (.int p0), .val (.int (3 : Int32)), .unset, .unset] [(.int (3 : Int32))]))
    refine own_go (fun _ k => XT.iconstV X0.here hx rfl (1 : Int32) (hb hby at_22) (by decide) k) ?_
    show own_E _ _ _ _ _ _ _ (s₁.setTop (mkF m 23 #[.val (.int p0), .val (.int (3 : Int32)), .unset, .unset] [(.int (1 : Int32)), (.int (3 : Int32))]))
    refine own_go (fun _ k => XS.icmpYes X0.here hx rfl (pc0 := 23) (pc' := 35) rfl (hb hby at_23) rfl (by decide) (by decide) (by decide) k) ?_
    show own_E _ _ _ _ _ _ _ (s₁.setTop (mkF m 35 #[.val (.int p0), .val (.int (3 : Int32)), .unset, .unset] []))
    refine own_go (fun _ k => XS.iloadN X0.here hx rfl (hb hby at_35) rfl k) ?_
    show own_E _ _ _ _ _ _ _ (s₁.setTop (mkF m 36 #[.val (.int p0), .val (.int (3 : Int32)), .unset, .unset] [(.int (3 : Int32))]))
    refine own_go (fun _ k => XT.iconstV X0.here hx rfl (2 : Int32) (hb hby at_36) (by decide) k) ?_
    show own_E _ _ _ _ _ _ _ (s₁.setTop (mkF m 37 #[.val (.int p0), .val (.int (3 : Int32)), .unset, .unset] [(.int (2 : Int32)), (.int (3 : Int32))]))
    refine own_go (fun _ k => XS.icmpYes X0.here hx rfl (pc0 := 37) (pc' := 49) rfl (hb hby at_37) rfl (by decide) (by decide) (by decide) k) ?_
    show own_E _ _ _ _ _ _ _ (s₁.setTop (mkF m 49 #[.val (.int p0), .val (.int (3 : Int32)), .unset, .unset] []))
    refine own_go (fun _ k => XS.iloadN X0.here hx rfl (hb hby at_49) rfl k) ?_
    show own_E _ _ _ _ _ _ _ (s₁.setTop (mkF m 50 #[.val (.int p0), .val (.int (3 : Int32)), .unset, .unset] [(.int (3 : Int32))]))
    refine own_go (fun _ k => XT.iconstV X0.here hx rfl (3 : Int32) (hb hby at_50) (by decide) k) ?_
    show own_E _ _ _ _ _ _ _ (s₁.setTop (mkF m 51 #[.val (.int p0), .val (.int (3 : Int32)), .unset, .unset] [(.int (3 : Int32)), (.int (3 : Int32))]))
    refine own_go (fun _ k => XS.icmpNo X0.here hx rfl (hb hby at_51) rfl (by decide) k) ?_
    show own_E _ _ _ _ _ _ _ (s₁.setTop (mkF m 54 #[.val (.int p0), .val (.int (3 : Int32)), .unset, .unset] []))
    obtain ⟨T7, X7, e7, st7⟩ := getS2 X0 hx hZ hown (host := "") (Or.inl (hw _ (List.mem_of_getElem? (i := 13) rfl))) Via.refl e0 S3 (g := (mkF m 54 #[.val (.int p0), .val (.int (3 : Int32)), .unset, .unset] [])) rfl (hb hby at_54)
    refine own_go st7 ?_
    show own_E _ _ _ _ _ _ _ (T7.setTop (mkF m 57 #[.val (.int p0), .val (.int (3 : Int32)), .unset, .unset] [(.ref w3)]))
    refine own_go (fun _ k => XS.astoreN X7.here hx rfl (hb hby at_57) rfl rfl (l' := #[.val (.int p0), .val (.int (3 : Int32)), .val (.ref w3), .unset]) rfl k) ?_
    show own_E _ _ _ _ _ _ _ (T7.setTop (mkF m 58 #[.val (.int p0), .val (.int (3 : Int32)), .val (.ref w3), .unset] []))
    refine own_go (fun _ k => XT.iconstV X7.here hx rfl (1 : Int32) (hb hby at_58) (by decide) k) ?_
    show own_E _ _ _ _ _ _ _ (T7.setTop (mkF m 59 #[.val (.int p0), .val (.int (3 : Int32)), .val (.ref w3), .unset] [(.int (1 : Int32))]))
    refine own_go (fun _ k => XS.istoreN X7.here hx rfl (hb hby at_59) rfl (l' := #[.val (.int p0), .val (.int (3 : Int32)), .val (.ref w3), .val (.int (1 : Int32))]) rfl k) ?_
    show own_E _ _ _ _ _ _ _ (T7.setTop (mkF m 60 #[.val (.int p0), .val (.int (3 : Int32)), .val (.ref w3), .val (.int (1 : Int32))] []))
    refine own_go (fun _ k => XS.goto X7.here hx rfl (pc0 := 60) (pc' := 83) rfl (hb hby at_60) (by decide) (by decide) k) ?_
    show own_E _ _ _ _ _ _ _ (T7.setTop (mkF m 83 #[.val (.int p0), .val (.int (3 : Int32)), .val (.ref w3), .val (.int (1 : Int32))] []))
    refine own_go (fun _ k => XS.aloadN X7.here hx rfl (hb hby at_83) rfl rfl k) ?_
    show own_E _ _ _ _ _ _ _ (T7.setTop (mkF m 84 #[.val (.int p0), .val (.int (3 : Int32)), .val (.ref w3), .val (.int (1 : Int32))] [(.ref w3)]))
    obtain ⟨v8, T8, L8, X8, hQ8, st8⟩ := own_callV X7 hx hZ (rm := ({ frames := 0, cells := 0, slots := 0, locals := 0 } : Room)) (W := 0) (b := w3) (argsL := []) (rest := []) (y := (⟨"com/example/sundiald/sundiald/AttemptOutcome", "callEnded", "()Z"⟩ : MethodName)) hown (hw _ (List.mem_of_getElem? (i := 4) rfl)) (hw _ (List.mem_of_getElem? (i := 5) rfl)) (hw _ (List.mem_of_getElem? (i := 7) rfl)) (hw _ (List.mem_of_getElem? (i := 6) rfl)) (hw _ (List.mem_of_getElem? (i := 8) rfl)) (hw _ (List.mem_of_getElem? (i := 2) rfl)) (by decide) (rm1 l Z a0 hw w3 w4 w5 h0 n0 Z0 S4 S5) e7 E3 (by decide) (by decide) (by decide) (by decide) (g := (mkF m 84 #[.val (.int p0), .val (.int (3 : Int32)), .val (.ref w3), .val (.int (1 : Int32))] [(.ref w3)])) rfl (by rw [hml]; rfl) (lenOf pd_0 rfl) rfl (Nat.le_of_ble_eq_true rfl) (hb hby at_84)
    obtain ⟨rfl, N8, e8⟩ := hQ8
    refine own_go st8 ?_
    rw [if_neg (fun z => z.elim ne3_4 ne3_5)]
    show own_E _ _ _ _ _ _ _ (T8.setTop (mkF m 87 #[.val (.int p0), .val (.int (3 : Int32)), .val (.ref w3), .val (.int (1 : Int32))] [(.int (1 : Int32))]))
    refine own_go (fun _ k => XS.iloadN X8.here hx rfl (hb hby at_87) rfl k) ?_
    show own_E _ _ _ _ _ _ _ (T8.setTop (mkF m 88 #[.val (.int p0), .val (.int (3 : Int32)), .val (.ref w3), .val (.int (1 : Int32))] [(.int (1 : Int32)), (.int (1 : Int32))]))
    refine own_go (fun _ k => XS.icmpNo X8.here hx rfl (hb hby at_88) rfl (by decide) k) ?_
    show own_E _ _ _ _ _ _ _ (T8.setTop (mkF m 91 #[.val (.int p0), .val (.int (3 : Int32)), .val (.ref w3), .val (.int (1 : Int32))] []))
    refine own_go (fun _ k => XT.iconstV X8.here hx rfl (1 : Int32) (hb hby at_91) (by decide) k) ?_
    show own_E _ _ _ _ _ _ _ (T8.setTop (mkF m 92 #[.val (.int p0), .val (.int (3 : Int32)), .val (.ref w3), .val (.int (1 : Int32))] [(.int (1 : Int32))]))
    refine own_go (fun _ k => XS.goto X8.here hx rfl (pc0 := 92) (pc' := 96) rfl (hb hby at_92) (by decide) (by decide) k) ?_
    show own_E _ _ _ _ _ _ _ (T8.setTop (mkF m 96 #[.val (.int p0), .val (.int (3 : Int32)), .val (.ref w3), .val (.int (1 : Int32))] [(.int (1 : Int32))]))
    exact own_ret X8 hx Bd.returns Bd.notSynchronized rfl (Or.inl ⟨rfl, by simp, _, rfl⟩) (hb hby at_96) (by rw [e8]; exact ⟨rfl, Fr.app N0 N8⟩) (by decide) (by decide)
  ·
    show own_E _ _ _ _ _ _ _ (s₁.setTop (mkF m 7 #[.val (.int p0), .unset, .unset, .unset] [(.int (4 : Int32))]))
    refine own_go (fun _ k => XS.istoreN X0.here hx rfl (hb hby at_7) rfl (l' := #[.val (.int p0), .val (.int (4 : Int32)), .unset, .unset]) rfl k) ?_
    show own_E _ _ _ _ _ _ _ (s₁.setTop (mkF m 8 #[.val (.int p0), .val (.int (4 : Int32)), .unset, .unset] []))
    refine own_go (fun _ k => XS.iloadN X0.here hx rfl (hb hby at_8) rfl k) ?_
    show own_E _ _ _ _ _ _ _ (s₁.setTop (mkF m 9 #[.val (.int p0), .val (.int (4 : Int32)), .unset, .unset] [(.int (4 : Int32))]))
    refine own_go (fun _ k => XS.ifYes X0.here hx rfl (pc0 := 9) (pc' := 21) rfl (hb hby at_9) rfl (by decide) (by decide) (by decide) k) ?_
    show own_E _ _ _ _ _ _ _ (s₁.setTop (mkF m 21 #[.val (.int p0), .val (.int (4 : Int32)), .unset, .unset] []))
    refine own_go (fun _ k => XS.iloadN X0.here hx rfl (hb hby at_21) rfl k) ?_
    show own_E _ _ _ _ _ _ _ (s₁.setTop (mkF m 22 #[.val (.int p0), .val (.int (4 : Int32)), .unset, .unset] [(.int (4 : Int32))]))
    refine own_go (fun _ k => XT.iconstV X0.here hx rfl (1 : Int32) (hb hby at_22) (by decide) k) ?_
    show own_E _ _ _ _ _ _ _ (s₁.setTop (mkF m 23 #[.val (.int p0), .val (.int (4 : Int32)), .unset, .unset] [(.int (1 : Int32)), (.int (4 : Int32))]))
    refine own_go (fun _ k => XS.icmpYes X0.here hx rfl (pc0 := 23) (pc' := 35) rfl (hb hby at_23) rfl (by decide) (by decide) (by decide) k) ?_
    show own_E _ _ _ _ _ _ _ (s₁.setTop (mkF m 35 #[.val (.int p0), .val (.int (4 : Int32)), .unset, .unset] []))
    refine own_go (fun _ k => XS.iloadN X0.here hx rfl (hb hby at_35) rfl k) ?_
    show own_E _ _ _ _ _ _ _ (s₁.setTop (mkF m 36 #[.val (.int p0), .val (.int (4 : Int32)), .unset, .unset] [(.int (4 : Int32))]))
    refine own_go (fun _ k => XT.iconstV X0.here hx rfl (2 : Int32) (hb hby at_36) (by decide) k) ?_
    show own_E _ _ _ _ _ _ _ (s₁.setTop (mkF m 37 #[.val (.int p0), .val (.int (4 : Int32)), .unset, .unset] [(.int (2 : Int32)), (.int (4 : Int32))]))
    refine own_go (fun _ k => XS.icmpYes X0.here hx rfl (pc0 := 37) (pc' := 49) rfl (hb hby at_37) rfl (by decide) (by decide) (by decide) k) ?_
    show own_E _ _ _ _ _ _ _ (s₁.setTop (mkF m 49 #[.val (.int p0), .val (.int (4 : Int32)), .unset, .unset] []))
    refine own_go (fun _ k => XS.iloadN X0.here hx rfl (hb hby at_49) rfl k) ?_
    show own_E _ _ _ _ _ _ _ (s₁.setTop (mkF m 50 #[.val (.int p0), .val (.int (4 : Int32)), .unset, .unset] [(.int (4 : Int32))]))
    refine own_go (fun _ k => XT.iconstV X0.here hx rfl (3 : Int32) (hb hby at_50) (by decide) k) ?_
    show own_E _ _ _ _ _ _ _ (s₁.setTop (mkF m 51 #[.val (.int p0), .val (.int (4 : Int32)), .unset, .unset] [(.int (3 : Int32)), (.int (4 : Int32))]))
    refine own_go (fun _ k => XS.icmpYes X0.here hx rfl (pc0 := 51) (pc' := 63) rfl (hb hby at_51) rfl (by decide) (by decide) (by decide) k) ?_
    show own_E _ _ _ _ _ _ _ (s₁.setTop (mkF m 63 #[.val (.int p0), .val (.int (4 : Int32)), .unset, .unset] []))
    refine own_go (fun _ k => XS.iloadN X0.here hx rfl (hb hby at_63) rfl k) ?_
    show own_E _ _ _ _ _ _ _ (s₁.setTop (mkF m 64 #[.val (.int p0), .val (.int (4 : Int32)), .unset, .unset] [(.int (4 : Int32))]))
    refine own_go (fun _ k => XT.iconstV X0.here hx rfl (4 : Int32) (hb hby at_64) (by decide) k) ?_
    show own_E _ _ _ _ _ _ _ (s₁.setTop (mkF m 65 #[.val (.int p0), .val (.int (4 : Int32)), .unset, .unset] [(.int (4 : Int32)), (.int (4 : Int32))]))
    refine own_go (fun _ k => XS.icmpNo X0.here hx rfl (hb hby at_65) rfl (by decide) k) ?_
    show own_E _ _ _ _ _ _ _ (s₁.setTop (mkF m 68 #[.val (.int p0), .val (.int (4 : Int32)), .unset, .unset] []))
    obtain ⟨T9, X9, e9, st9⟩ := getS2 X0 hx hZ hown (host := "") (Or.inl (hw _ (List.mem_of_getElem? (i := 20) rfl))) Via.refl e0 S4 (g := (mkF m 68 #[.val (.int p0), .val (.int (4 : Int32)), .unset, .unset] [])) rfl (hb hby at_68)
    refine own_go st9 ?_
    show own_E _ _ _ _ _ _ _ (T9.setTop (mkF m 71 #[.val (.int p0), .val (.int (4 : Int32)), .unset, .unset] [(.ref w4)]))
    refine own_go (fun _ k => XS.astoreN X9.here hx rfl (hb hby at_71) rfl rfl (l' := #[.val (.int p0), .val (.int (4 : Int32)), .val (.ref w4), .unset]) rfl k) ?_
    show own_E _ _ _ _ _ _ _ (T9.setTop (mkF m 72 #[.val (.int p0), .val (.int (4 : Int32)), .val (.ref w4), .unset] []))
    refine own_go (fun _ k => XT.iconstV X9.here hx rfl (0 : Int32) (hb hby at_72) (by decide) k) ?_
    show own_E _ _ _ _ _ _ _ (T9.setTop (mkF m 73 #[.val (.int p0), .val (.int (4 : Int32)), .val (.ref w4), .unset] [(.int (0 : Int32))]))
    refine own_go (fun _ k => XS.istoreN X9.here hx rfl (hb hby at_73) rfl (l' := #[.val (.int p0), .val (.int (4 : Int32)), .val (.ref w4), .val (.int (0 : Int32))]) rfl k) ?_
    show own_E _ _ _ _ _ _ _ (T9.setTop (mkF m 74 #[.val (.int p0), .val (.int (4 : Int32)), .val (.ref w4), .val (.int (0 : Int32))] []))
    refine own_go (fun _ k => XS.goto X9.here hx rfl (pc0 := 74) (pc' := 83) rfl (hb hby at_74) (by decide) (by decide) k) ?_
    show own_E _ _ _ _ _ _ _ (T9.setTop (mkF m 83 #[.val (.int p0), .val (.int (4 : Int32)), .val (.ref w4), .val (.int (0 : Int32))] []))
    refine own_go (fun _ k => XS.aloadN X9.here hx rfl (hb hby at_83) rfl rfl k) ?_
    show own_E _ _ _ _ _ _ _ (T9.setTop (mkF m 84 #[.val (.int p0), .val (.int (4 : Int32)), .val (.ref w4), .val (.int (0 : Int32))] [(.ref w4)]))
    obtain ⟨v10, T10, L10, X10, hQ10, st10⟩ := own_callV X9 hx hZ (rm := ({ frames := 0, cells := 0, slots := 0, locals := 0 } : Room)) (W := 0) (b := w4) (argsL := []) (rest := []) (y := (⟨"com/example/sundiald/sundiald/AttemptOutcome", "callEnded", "()Z"⟩ : MethodName)) hown (hw _ (List.mem_of_getElem? (i := 4) rfl)) (hw _ (List.mem_of_getElem? (i := 5) rfl)) (hw _ (List.mem_of_getElem? (i := 7) rfl)) (hw _ (List.mem_of_getElem? (i := 6) rfl)) (hw _ (List.mem_of_getElem? (i := 8) rfl)) (hw _ (List.mem_of_getElem? (i := 2) rfl)) (by decide) (rm1 l Z a0 hw w4 w4 w5 h0 n0 Z0 S4 S5) e9 E4 (by decide) (by decide) (by decide) (by decide) (g := (mkF m 84 #[.val (.int p0), .val (.int (4 : Int32)), .val (.ref w4), .val (.int (0 : Int32))] [(.ref w4)])) rfl (by rw [hml]; rfl) (lenOf pd_0 rfl) rfl (Nat.le_of_ble_eq_true rfl) (hb hby at_84)
    obtain ⟨rfl, N10, e10⟩ := hQ10
    refine own_go st10 ?_
    rw [if_pos (Or.inl rfl)]
    show own_E _ _ _ _ _ _ _ (T10.setTop (mkF m 87 #[.val (.int p0), .val (.int (4 : Int32)), .val (.ref w4), .val (.int (0 : Int32))] [(.int (0 : Int32))]))
    refine own_go (fun _ k => XS.iloadN X10.here hx rfl (hb hby at_87) rfl k) ?_
    show own_E _ _ _ _ _ _ _ (T10.setTop (mkF m 88 #[.val (.int p0), .val (.int (4 : Int32)), .val (.ref w4), .val (.int (0 : Int32))] [(.int (0 : Int32)), (.int (0 : Int32))]))
    refine own_go (fun _ k => XS.icmpNo X10.here hx rfl (hb hby at_88) rfl (by decide) k) ?_
    show own_E _ _ _ _ _ _ _ (T10.setTop (mkF m 91 #[.val (.int p0), .val (.int (4 : Int32)), .val (.ref w4), .val (.int (0 : Int32))] []))
    refine own_go (fun _ k => XT.iconstV X10.here hx rfl (1 : Int32) (hb hby at_91) (by decide) k) ?_
    show own_E _ _ _ _ _ _ _ (T10.setTop (mkF m 92 #[.val (.int p0), .val (.int (4 : Int32)), .val (.ref w4), .val (.int (0 : Int32))] [(.int (1 : Int32))]))
    refine own_go (fun _ k => XS.goto X10.here hx rfl (pc0 := 92) (pc' := 96) rfl (hb hby at_92) (by decide) (by decide) k) ?_
    show own_E _ _ _ _ _ _ _ (T10.setTop (mkF m 96 #[.val (.int p0), .val (.int (4 : Int32)), .val (.ref w4), .val (.int (0 : Int32))] [(.int (1 : Int32))]))
    exact own_ret X10 hx Bd.returns Bd.notSynchronized rfl (Or.inl ⟨rfl, by simp, _, rfl⟩) (hb hby at_96) (by rw [e10]; exact ⟨rfl, Fr.app N0 N10⟩) (by decide) (by decide)
  ·
    show own_E _ _ _ _ _ _ _ (s₁.setTop (mkF m 7 #[.val (.int p0), .unset, .unset, .unset] [(.int (5 : Int32))]))
    refine own_go (fun _ k => XS.istoreN X0.here hx rfl (hb hby at_7) rfl (l' := #[.val (.int p0), .val (.int (5 : Int32)), .unset, .unset]) rfl k) ?_
    show own_E _ _ _ _ _ _ _ (s₁.setTop (mkF m 8 #[.val (.int p0), .val (.int (5 : Int32)), .unset, .unset] []))
    refine own_go (fun _ k => XS.iloadN X0.here hx rfl (hb hby at_8) rfl k) ?_
    show own_E _ _ _ _ _ _ _ (s₁.setTop (mkF m 9 #[.val (.int p0), .val (.int (5 : Int32)), .unset, .unset] [(.int (5 : Int32))]))
    refine own_go (fun _ k => XS.ifYes X0.here hx rfl (pc0 := 9) (pc' := 21) rfl (hb hby at_9) rfl (by decide) (by decide) (by decide) k) ?_
    show own_E _ _ _ _ _ _ _ (s₁.setTop (mkF m 21 #[.val (.int p0), .val (.int (5 : Int32)), .unset, .unset] []))
    refine own_go (fun _ k => XS.iloadN X0.here hx rfl (hb hby at_21) rfl k) ?_
    show own_E _ _ _ _ _ _ _ (s₁.setTop (mkF m 22 #[.val (.int p0), .val (.int (5 : Int32)), .unset, .unset] [(.int (5 : Int32))]))
    refine own_go (fun _ k => XT.iconstV X0.here hx rfl (1 : Int32) (hb hby at_22) (by decide) k) ?_
    show own_E _ _ _ _ _ _ _ (s₁.setTop (mkF m 23 #[.val (.int p0), .val (.int (5 : Int32)), .unset, .unset] [(.int (1 : Int32)), (.int (5 : Int32))]))
    refine own_go (fun _ k => XS.icmpYes X0.here hx rfl (pc0 := 23) (pc' := 35) rfl (hb hby at_23) rfl (by decide) (by decide) (by decide) k) ?_
    show own_E _ _ _ _ _ _ _ (s₁.setTop (mkF m 35 #[.val (.int p0), .val (.int (5 : Int32)), .unset, .unset] []))
    refine own_go (fun _ k => XS.iloadN X0.here hx rfl (hb hby at_35) rfl k) ?_
    show own_E _ _ _ _ _ _ _ (s₁.setTop (mkF m 36 #[.val (.int p0), .val (.int (5 : Int32)), .unset, .unset] [(.int (5 : Int32))]))
    refine own_go (fun _ k => XT.iconstV X0.here hx rfl (2 : Int32) (hb hby at_36) (by decide) k) ?_
    show own_E _ _ _ _ _ _ _ (s₁.setTop (mkF m 37 #[.val (.int p0), .val (.int (5 : Int32)), .unset, .unset] [(.int (2 : Int32)), (.int (5 : Int32))]))
    refine own_go (fun _ k => XS.icmpYes X0.here hx rfl (pc0 := 37) (pc' := 49) rfl (hb hby at_37) rfl (by decide) (by decide) (by decide) k) ?_
    show own_E _ _ _ _ _ _ _ (s₁.setTop (mkF m 49 #[.val (.int p0), .val (.int (5 : Int32)), .unset, .unset] []))
    refine own_go (fun _ k => XS.iloadN X0.here hx rfl (hb hby at_49) rfl k) ?_
    show own_E _ _ _ _ _ _ _ (s₁.setTop (mkF m 50 #[.val (.int p0), .val (.int (5 : Int32)), .unset, .unset] [(.int (5 : Int32))]))
    refine own_go (fun _ k => XT.iconstV X0.here hx rfl (3 : Int32) (hb hby at_50) (by decide) k) ?_
    show own_E _ _ _ _ _ _ _ (s₁.setTop (mkF m 51 #[.val (.int p0), .val (.int (5 : Int32)), .unset, .unset] [(.int (3 : Int32)), (.int (5 : Int32))]))
    refine own_go (fun _ k => XS.icmpYes X0.here hx rfl (pc0 := 51) (pc' := 63) rfl (hb hby at_51) rfl (by decide) (by decide) (by decide) k) ?_
    show own_E _ _ _ _ _ _ _ (s₁.setTop (mkF m 63 #[.val (.int p0), .val (.int (5 : Int32)), .unset, .unset] []))
    refine own_go (fun _ k => XS.iloadN X0.here hx rfl (hb hby at_63) rfl k) ?_
    show own_E _ _ _ _ _ _ _ (s₁.setTop (mkF m 64 #[.val (.int p0), .val (.int (5 : Int32)), .unset, .unset] [(.int (5 : Int32))]))
    refine own_go (fun _ k => XT.iconstV X0.here hx rfl (4 : Int32) (hb hby at_64) (by decide) k) ?_
    show own_E _ _ _ _ _ _ _ (s₁.setTop (mkF m 65 #[.val (.int p0), .val (.int (5 : Int32)), .unset, .unset] [(.int (4 : Int32)), (.int (5 : Int32))]))
    refine own_go (fun _ k => XS.icmpYes X0.here hx rfl (pc0 := 65) (pc' := 77) rfl (hb hby at_65) rfl (by decide) (by decide) (by decide) k) ?_
    show own_E _ _ _ _ _ _ _ (s₁.setTop (mkF m 77 #[.val (.int p0), .val (.int (5 : Int32)), .unset, .unset] []))
    obtain ⟨T11, X11, e11, st11⟩ := getS2 X0 hx hZ hown (host := "") (Or.inl (hw _ (List.mem_of_getElem? (i := 19) rfl))) Via.refl e0 S5 (g := (mkF m 77 #[.val (.int p0), .val (.int (5 : Int32)), .unset, .unset] [])) rfl (hb hby at_77)
    refine own_go st11 ?_
    show own_E _ _ _ _ _ _ _ (T11.setTop (mkF m 80 #[.val (.int p0), .val (.int (5 : Int32)), .unset, .unset] [(.ref w5)]))
    refine own_go (fun _ k => XS.astoreN X11.here hx rfl (hb hby at_80) rfl rfl (l' := #[.val (.int p0), .val (.int (5 : Int32)), .val (.ref w5), .unset]) rfl k) ?_
    show own_E _ _ _ _ _ _ _ (T11.setTop (mkF m 81 #[.val (.int p0), .val (.int (5 : Int32)), .val (.ref w5), .unset] []))
    refine own_go (fun _ k => XT.iconstV X11.here hx rfl (0 : Int32) (hb hby at_81) (by decide) k) ?_
    show own_E _ _ _ _ _ _ _ (T11.setTop (mkF m 82 #[.val (.int p0), .val (.int (5 : Int32)), .val (.ref w5), .unset] [(.int (0 : Int32))]))
    refine own_go (fun _ k => XS.istoreN X11.here hx rfl (hb hby at_82) rfl (l' := #[.val (.int p0), .val (.int (5 : Int32)), .val (.ref w5), .val (.int (0 : Int32))]) rfl k) ?_
    show own_E _ _ _ _ _ _ _ (T11.setTop (mkF m 83 #[.val (.int p0), .val (.int (5 : Int32)), .val (.ref w5), .val (.int (0 : Int32))] []))
    refine own_go (fun _ k => XS.aloadN X11.here hx rfl (hb hby at_83) rfl rfl k) ?_
    show own_E _ _ _ _ _ _ _ (T11.setTop (mkF m 84 #[.val (.int p0), .val (.int (5 : Int32)), .val (.ref w5), .val (.int (0 : Int32))] [(.ref w5)]))
    obtain ⟨v12, T12, L12, X12, hQ12, st12⟩ := own_callV X11 hx hZ (rm := ({ frames := 0, cells := 0, slots := 0, locals := 0 } : Room)) (W := 0) (b := w5) (argsL := []) (rest := []) (y := (⟨"com/example/sundiald/sundiald/AttemptOutcome", "callEnded", "()Z"⟩ : MethodName)) hown (hw _ (List.mem_of_getElem? (i := 4) rfl)) (hw _ (List.mem_of_getElem? (i := 5) rfl)) (hw _ (List.mem_of_getElem? (i := 7) rfl)) (hw _ (List.mem_of_getElem? (i := 6) rfl)) (hw _ (List.mem_of_getElem? (i := 8) rfl)) (hw _ (List.mem_of_getElem? (i := 2) rfl)) (by decide) (rm1 l Z a0 hw w5 w4 w5 h0 n0 Z0 S4 S5) e11 E5 (by decide) (by decide) (by decide) (by decide) (g := (mkF m 84 #[.val (.int p0), .val (.int (5 : Int32)), .val (.ref w5), .val (.int (0 : Int32))] [(.ref w5)])) rfl (by rw [hml]; rfl) (lenOf pd_0 rfl) rfl (Nat.le_of_ble_eq_true rfl) (hb hby at_84)
    obtain ⟨rfl, N12, e12⟩ := hQ12
    refine own_go st12 ?_
    rw [if_pos (Or.inr rfl)]
    show own_E _ _ _ _ _ _ _ (T12.setTop (mkF m 87 #[.val (.int p0), .val (.int (5 : Int32)), .val (.ref w5), .val (.int (0 : Int32))] [(.int (0 : Int32))]))
    refine own_go (fun _ k => XS.iloadN X12.here hx rfl (hb hby at_87) rfl k) ?_
    show own_E _ _ _ _ _ _ _ (T12.setTop (mkF m 88 #[.val (.int p0), .val (.int (5 : Int32)), .val (.ref w5), .val (.int (0 : Int32))] [(.int (0 : Int32)), (.int (0 : Int32))]))
    refine own_go (fun _ k => XS.icmpNo X12.here hx rfl (hb hby at_88) rfl (by decide) k) ?_
    show own_E _ _ _ _ _ _ _ (T12.setTop (mkF m 91 #[.val (.int p0), .val (.int (5 : Int32)), .val (.ref w5), .val (.int (0 : Int32))] []))
    refine own_go (fun _ k => XT.iconstV X12.here hx rfl (1 : Int32) (hb hby at_91) (by decide) k) ?_
    show own_E _ _ _ _ _ _ _ (T12.setTop (mkF m 92 #[.val (.int p0), .val (.int (5 : Int32)), .val (.ref w5), .val (.int (0 : Int32))] [(.int (1 : Int32))]))
    refine own_go (fun _ k => XS.goto X12.here hx rfl (pc0 := 92) (pc' := 96) rfl (hb hby at_92) (by decide) (by decide) k) ?_
    show own_E _ _ _ _ _ _ _ (T12.setTop (mkF m 96 #[.val (.int p0), .val (.int (5 : Int32)), .val (.ref w5), .val (.int (0 : Int32))] [(.int (1 : Int32))]))
    exact own_ret X12 hx Bd.returns Bd.notSynchronized rfl (Or.inl ⟨rfl, by simp, _, rfl⟩) (hb hby at_96) (by rw [e12]; exact ⟨rfl, Fr.app N0 N12⟩) (by decide) (by decide)
set_option maxRecDepth 65536 in
set_option maxHeartbeats 40000000 in
theorem comes_1 {Post : Tables → Env → Array Value → State → Outcome → State → Prop} (hpost : ∀ tb e args s v u, (limb_1_1.after args s (.returned v) u = true ∧ limb_1_2.after args s (.returned v) u = true ∧ True) → FrameEnd s (.returned v) u (Jvm.fieldLocs frame_1_writes args s ++ Jvm.arrayLocs frame_1_arrays args s ++ Jvm.staticLocs frame_1_statics s) 0 0 → Post tb e args s (.returned v) u) :
    ArmFor flags0 classFile x code maxLocals ret World_1 tables_1 room_1 Calls_1 rest_1 Pre_1 Post := by
  intro l hfl _ _ p e ha hc hk s m args below hf hA hF happ hP
  obtain ⟨hcalls, hrest, hpre⟩ := hP
  obtain ⟨-, -, -, hnamed, -, -, -, hat⟩ := (Spec.applies_iff hf).mp happ
  obtain ⟨hg, hn⟩ := and_e (Cond.before_iff.mp (show (Jvm.Cond.and given_1 narrow_1).before args s = true from hpre))
  obtain ⟨hcount, hg⟩ := and_e hg
  obtain ⟨w0, rfl⟩ : ∃ w0 : Value, args = #[w0] := by
    have hs : args.size = 1 := by simpa [Cond.value, given_1] using hcount
    obtain ⟨L⟩ := args
    match L, hs with
    | [w0], _ => exact ⟨w0, rfl⟩
  have hw := fun d (hd : d ∈ tables_1) => atoms_spec (ws := Jvm.Cond.code x code maxLocals ret :: tables_1) hat d (List.mem_cons_of_mem _ hd)
  have hfit : Fit s := fun {y c} hc i hi => by
    obtain ⟨ha, rfl⟩ := Array.getElem?_eq_some_iff.mp hc
    have q := List.all_eq_true.mp ((Array.all_eq_true_iff_forall_mem.mp hF) _ (Array.getElem_mem ha)) i (List.mem_range.mpr hi)
    simpa [Array.getElem?_eq_getElem hi] using q
  have hg0 := hg
  obtain ⟨i0, q0⟩ := is_v hg0
  obtain rfl : w0 = (.int i0) := Option.some.inj q0
  obtain ⟨x_SUCCEEDED, hn⟩ := and_e hn
  obtain ⟨x_LOST, hn⟩ := and_e hn
  obtain ⟨x_oS, hn⟩ := and_e hn
  obtain ⟨x_oL, hn⟩ := and_e hn
  obtain ⟨x_DENIED, hn⟩ := and_e hn
  obtain ⟨x_oD, hn⟩ := and_e hn
  obtain ⟨x_CONNECT_ERROR, hn⟩ := and_e hn
  obtain ⟨x_oC, hn⟩ := and_e hn
  obtain ⟨x_TIMEOUT, hn⟩ := and_e hn
  obtain ⟨x_oT, hn⟩ := and_e hn
  obtain ⟨x_HTTP_ERROR, hn⟩ := and_e hn
  have x_oH := hn
  obtain ⟨w0, ev0, S0, E0⟩ := own_const x_SUCCEEDED (hw _ (List.mem_of_getElem? (i := 2) rfl)) (hw _ (List.mem_of_getElem? (i := 3) rfl))
  have F0 := own_fldI ev0 x_oS
  obtain ⟨w1, ev1, S1, E1⟩ := own_const x_HTTP_ERROR (hw _ (List.mem_of_getElem? (i := 2) rfl)) (hw _ (List.mem_of_getElem? (i := 18) rfl))
  have F1 := own_fldI ev1 x_oH
  obtain ⟨w2, ev2, S2, E2⟩ := own_const x_TIMEOUT (hw _ (List.mem_of_getElem? (i := 2) rfl)) (hw _ (List.mem_of_getElem? (i := 16) rfl))
  have F2 := own_fldI ev2 x_oT
  obtain ⟨w3, ev3, S3, E3⟩ := own_const x_CONNECT_ERROR (hw _ (List.mem_of_getElem? (i := 2) rfl)) (hw _ (List.mem_of_getElem? (i := 14) rfl))
  have F3 := own_fldI ev3 x_oC
  obtain ⟨w4, ev4, S4, E4⟩ := own_const x_LOST (hw _ (List.mem_of_getElem? (i := 2) rfl)) (hw _ (List.mem_of_getElem? (i := 10) rfl))
  have F4 := own_fldI ev4 x_oL
  obtain ⟨w5, ev5, S5, E5⟩ := own_const x_DENIED (hw _ (List.mem_of_getElem? (i := 2) rfl)) (hw _ (List.mem_of_getElem? (i := 12) rfl))
  have F5 := own_fldI ev5 x_oD
  obtain ⟨n, o, h1, h2, h3, _, L, rfl, ⟨rfl, N⟩, hq⟩ := rm0 l s _ hw tables_1 i0 w0 w1 w2 w3 w4 w5 s.heap s.heap.size (Nat.le_refl _) S0 S1 S2 S3 S4 S5 E0 E1 E2 E3 E4 E5 (F0.ne F4 (by decide)) (F0.ne F5 (by decide)) (F1.ne F4 (by decide)) (F1.ne F5 (by decide)) (F2.ne F4 (by decide)) (F2.ne F5 (by decide)) (F3.ne F4 (by decide)) (F3.ne F5 (by decide)) p e ha hc hk s m _ below hf ((Spec.applies_iff_loose hf).mp happ).1 ⟨rfl, State.Warmed39.refl s, rfl⟩ trivial
  refine ⟨n, _, h1, h2, h3, hpost _ _ _ _ _ _ ⟨Cond.after_iff.mpr rfl, Cond.after_iff.mpr (eq_i res_at (Term.int_eval (1)) rfl), trivial⟩ ⟨hq.1, hq.2.1, (hq.2.2.sift fun y hy => Or.inr (N y hy)).mono (by decide) (by decide)⟩⟩
theorem main_1_1 : Claimed_1_1 := comes_1 fun _ _ _ _ _ _ h hF => ⟨h.1, hF⟩
theorem main_1_2 : Claimed_1_2 := comes_1 fun _ _ _ _ _ _ h hF => ⟨h.2.1, hF⟩
end Jvm.Pilot.@@N@@
namespace Jvm.Pilot.@@N@@
open Jvm Jvm.ClassFile Sem Op Lib Jvm.Free Jvm.Stand Jvm.Pilot.@@N@@.Jvm.D
/-! MADE BY PROGRAM (witnessworld.py) out of the Statement's table words and the real class files: 13 classes; the members and pool entries that the words name. The judged class is class 1, her method 1. -/
namespace start1
open Jvm.ClassFile
def u (s : String) : CpInfo := .utf8 (stringToUtf16 s)
/-- a pool by its gaps: so many unusable entries, then the entry; so many at the end -/
def gap : Nat → List CpInfo → List CpInfo
  | 0, r => r
  | n + 1, r => .unusable :: gap n r
def poolList (es : List (Nat × CpInfo)) (last : Nat) : List CpInfo := es.foldr (fun e r => gap e.1 (e.2 :: r)) (gap last [])
def pool (es : List (Nat × CpInfo)) (last : Nat) : Array CpInfo := ⟨poolList es last⟩
def fileOf (pool : Array CpInfo) (this : Nat) (attrs : Array Attribute := #[]) (ms : Array MethodInfo := #[]) (fl : Nat := 33) (sup : Nat := 0) (ifs : Array Nat := #[]) (fds : Array FieldInfo := #[]) : ClassFile where
  minorVersion := 0
  majorVersion := 65
  constantPool := pool
  accessFlags := fl
  thisClass := this
  superClass := sup
  interfaces := ifs
  fields := fds
  methods := ms
  attributes := attrs
def plain (name : String) (sup : Option ClassId) : Class where
  name := name
  kind := .ordinary
  loader := none
  accessFlags := 33
  super := sup
  interfaces := #[]
  cf := none
  fields := #[]
  methods := #[]
  instanceTypes := #[]
  staticTypes := #[]
  resolved := #[]
  callSites := []
  init := .initialized
  statics := none
  mirror := none

def pool0 : Array CpInfo := pool [(5, u "<init>"), (0, u "()V"), (1, .class_ 10), (1, u "java/lang/Object")] 113

def k0m0 : Method := { name := "<init>", desc := "()V", sig := { parameters := [], returnType := none }, accessFlags := 1, code := none }
/-- java/lang/Object -/
def k0 : Class := { plain "java/lang/Object" none with
  accessFlags := 33
  interfaces := #[]
  cf := some (fileOf pool0 8 #[] #[{ accessFlags := 1, nameIndex := 5, descriptorIndex := 6, attributes := #[] }] 33 0 #[] #[])
  fields := #[]
  methods := #[k0m0]
  instanceTypes := #[]
  staticTypes := #[]
  resolved := Array.replicate 124 none
  statics := none }

def pool1 : Array CpInfo := pool [(2, .class_ 4), (1, u "java/lang/Object"), (0, u "<init>"), (0, u "()V"), (0, .integer 2147483647), (0, .fieldref 9 10), (0, .class_ 11), (0, .nameAndType 12 13), (0, u "com/example/sundiald/sundiald/AttemptOutcome"), (0, u "SUCCEEDED"), (0, u "Lcom/example/sundiald/sundiald/AttemptOutcome;"), (0, .fieldref 9 15), (0, .nameAndType 16 13), (0, u "HTTP_ERROR"), (0, .fieldref 9 18), (0, .nameAndType 19 13), (0, u "TIMEOUT"), (0, .fieldref 9 21), (0, .nameAndType 22 13), (0, u "CONNECT_ERROR"), (0, .fieldref 9 24), (0, .nameAndType 25 13), (0, u "LOST"), (0, .fieldref 9 27), (0, .nameAndType 28 13), (0, u "DENIED"), (0, .methodref 9 30), (0, .nameAndType 31 32), (0, u "callEnded"), (0, u "()Z"), (0, .class_ 34), (0, u "com/example/sundiald/sundiald/AttemptOutcomeCallEndedPinLaw"), (2, u "law"), (0, u "(I)Z")] 3

def k1m0 : Method := { name := "<init>", desc := "()V", sig := { parameters := [], returnType := none }, accessFlags := 1, code := none }
def k1c1 : Code := { maxStack := 2, maxLocals := 4, code := code, exceptionTable := #[], attributes := #[] }
def k1m1 : Method := { name := "law", desc := "(I)Z", sig := { parameters := [.int], returnType := some .boolean }, accessFlags := 9, code := some k1c1 }
/-- com/example/sundiald/sundiald/AttemptOutcomeCallEndedPinLaw -/
def k1 : Class := { plain "com/example/sundiald/sundiald/AttemptOutcomeCallEndedPinLaw" (some 0) with
  accessFlags := 49
  interfaces := #[]
  cf := some (fileOf pool1 33 #[] #[{ accessFlags := 1, nameIndex := 5, descriptorIndex := 6, attributes := #[] }, { accessFlags := 9, nameIndex := 37, descriptorIndex := 38, attributes := #[] }] 49 2 #[] #[])
  fields := #[]
  methods := #[k1m0, k1m1]
  instanceTypes := #[]
  staticTypes := #[]
  resolved := Array.replicate 42 none
  statics := none }

def pool2 : Array CpInfo := pool [(1, .class_ 2), (0, u "java/lang/constant/Constable"), (0, .class_ 4), (0, u "java/lang/Object")] 6

/-- java/lang/constant/Constable -/
def k2 : Class := { plain "java/lang/constant/Constable" (some 0) with
  accessFlags := 1537
  interfaces := #[]
  cf := some (fileOf pool2 1 #[] #[] 1537 3 #[] #[])
  fields := #[]
  methods := #[]
  instanceTypes := #[]
  staticTypes := #[]
  resolved := Array.replicate 11 none
  statics := none }

def pool3 : Array CpInfo := pool [(1, .class_ 2), (0, u "java/lang/Comparable"), (0, .class_ 4), (0, u "java/lang/Object")] 7

/-- java/lang/Comparable -/
def k3 : Class := { plain "java/lang/Comparable" (some 0) with
  accessFlags := 1537
  interfaces := #[]
  cf := some (fileOf pool3 1 #[] #[] 1537 3 #[] #[])
  fields := #[]
  methods := #[]
  instanceTypes := #[]
  staticTypes := #[]
  resolved := Array.replicate 12 none
  statics := none }

def pool4 : Array CpInfo := pool [(1, .class_ 2), (0, u "java/io/Serializable"), (0, .class_ 4), (0, u "java/lang/Object")] 2

/-- java/io/Serializable -/
def k4 : Class := { plain "java/io/Serializable" (some 0) with
  accessFlags := 1537
  interfaces := #[]
  cf := some (fileOf pool4 1 #[] #[] 1537 3 #[] #[])
  fields := #[]
  methods := #[]
  instanceTypes := #[]
  staticTypes := #[]
  resolved := Array.replicate 7 none
  statics := none }

def pool5 : Array CpInfo := pool [(2, .class_ 4), (1, u "java/lang/Enum"), (0, u "name"), (0, u "Ljava/lang/String;"), (2, u "ordinal"), (0, u "I"), (1, .class_ 14), (1, u "java/lang/Object"), (4, u "hash"), (86, .class_ 108), (1, u "java/lang/Enum$EnumDesc"), (2, .class_ 112), (0, u "java/lang/constant/Constable"), (0, .class_ 114), (0, u "java/lang/Comparable"), (0, .class_ 116), (0, u "java/io/Serializable")] 87

/-- java/lang/Enum -/
def k5 : Class := { plain "java/lang/Enum" (some 0) with
  accessFlags := 1057
  interfaces := #[2, 3, 4]
  cf := some (fileOf pool5 2 #[.nestMembers #[106]] #[] 1057 12 #[111, 113, 115] #[{ accessFlags := 18, nameIndex := 5, descriptorIndex := 6, attributes := #[] }, { accessFlags := 18, nameIndex := 9, descriptorIndex := 10, attributes := #[] }, { accessFlags := 2, nameIndex := 19, descriptorIndex := 10, attributes := #[] }])
  fields := #[{ name := "name", type := (.object "java/lang/String"), accessFlags := 18, slot := 0, constantValue := 0 }, { name := "ordinal", type := .int, accessFlags := 18, slot := 1, constantValue := 0 }, { name := "hash", type := .int, accessFlags := 2, slot := 2, constantValue := 0 }]
  methods := #[]
  instanceTypes := #[(.object "java/lang/String"), .int, .int]
  staticTypes := #[]
  resolved := Array.replicate 204 none
  statics := none }

def pool6 : Array CpInfo := pool [(2, .class_ 4), (1, u "com/example/sundiald/sundiald/Worded"), (78, .class_ 84), (0, u "java/lang/Object")] 44

/-- com/example/sundiald/sundiald/Worded -/
def k6 : Class := { plain "com/example/sundiald/sundiald/Worded" (some 0) with
  accessFlags := 1536
  interfaces := #[]
  cf := some (fileOf pool6 2 #[] #[] 1536 83 #[] #[])
  fields := #[]
  methods := #[]
  instanceTypes := #[]
  staticTypes := #[]
  resolved := Array.replicate 129 none
  statics := none }

def pool7 : Array CpInfo := pool [(1, .class_ 2), (0, u "com/example/sundiald/sundiald/AttemptOutcome"), (2, u "SUCCEEDED"), (0, u "Lcom/example/sundiald/sundiald/AttemptOutcome;"), (2, u "HTTP_ERROR"), (2, u "TIMEOUT"), (2, u "CONNECT_ERROR"), (0, .fieldref 1 17), (0, .nameAndType 18 6), (0, u "LOST"), (0, .fieldref 1 20), (0, .nameAndType 21 6), (0, u "DENIED"), (2, u "$VALUES"), (0, u "[Lcom/example/sundiald/sundiald/AttemptOutcome;"), (6, .class_ 34), (1, u "java/lang/Enum"), (17, .class_ 53), (0, u "com/example/sundiald/sundiald/Worded"), (7, u "callEnded"), (0, u "()Z")] 5

def k7c0 : Code := { maxStack := 2, maxLocals := 1, code := prog_8_method_4_code, exceptionTable := #[], attributes := #[] }
def k7m0 : Method := { name := "callEnded", desc := "()Z", sig := { parameters := [], returnType := some .boolean }, accessFlags := 0, code := some k7c0 }
/-- com/example/sundiald/sundiald/AttemptOutcome -/
def k7 : Class := { plain "com/example/sundiald/sundiald/AttemptOutcome" (some 5) with
  accessFlags := 16432
  interfaces := #[6]
  cf := some (fileOf pool7 1 #[] #[{ accessFlags := 0, nameIndex := 61, descriptorIndex := 62, attributes := #[] }] 16432 32 #[52] #[{ accessFlags := 16409, nameIndex := 5, descriptorIndex := 6, attributes := #[] }, { accessFlags := 16409, nameIndex := 9, descriptorIndex := 6, attributes := #[] }, { accessFlags := 16409, nameIndex := 12, descriptorIndex := 6, attributes := #[] }, { accessFlags := 16409, nameIndex := 15, descriptorIndex := 6, attributes := #[] }, { accessFlags := 16409, nameIndex := 18, descriptorIndex := 6, attributes := #[] }, { accessFlags := 16409, nameIndex := 21, descriptorIndex := 6, attributes := #[] }, { accessFlags := 4122, nameIndex := 24, descriptorIndex := 25, attributes := #[] }])
  fields := #[{ name := "SUCCEEDED", type := (.object "com/example/sundiald/sundiald/AttemptOutcome"), accessFlags := 16409, slot := 0, constantValue := 0 }, { name := "HTTP_ERROR", type := (.object "com/example/sundiald/sundiald/AttemptOutcome"), accessFlags := 16409, slot := 1, constantValue := 0 }, { name := "TIMEOUT", type := (.object "com/example/sundiald/sundiald/AttemptOutcome"), accessFlags := 16409, slot := 2, constantValue := 0 }, { name := "CONNECT_ERROR", type := (.object "com/example/sundiald/sundiald/AttemptOutcome"), accessFlags := 16409, slot := 3, constantValue := 0 }, { name := "LOST", type := (.object "com/example/sundiald/sundiald/AttemptOutcome"), accessFlags := 16409, slot := 4, constantValue := 0 }, { name := "DENIED", type := (.object "com/example/sundiald/sundiald/AttemptOutcome"), accessFlags := 16409, slot := 5, constantValue := 0 }, { name := "$VALUES", type := (.array (.object "com/example/sundiald/sundiald/AttemptOutcome")), accessFlags := 4122, slot := 6, constantValue := 0 }]
  methods := #[k7m0]
  instanceTypes := #[(.object "java/lang/String"), .int, .int]
  staticTypes := #[(.object "com/example/sundiald/sundiald/AttemptOutcome"), (.object "com/example/sundiald/sundiald/AttemptOutcome"), (.object "com/example/sundiald/sundiald/AttemptOutcome"), (.object "com/example/sundiald/sundiald/AttemptOutcome"), (.object "com/example/sundiald/sundiald/AttemptOutcome"), (.object "com/example/sundiald/sundiald/AttemptOutcome"), (.array (.object "com/example/sundiald/sundiald/AttemptOutcome"))]
  resolved := Array.replicate 68 none
  statics := some 0 }

def pool8 : Array CpInfo := pool [(1, u "java/lang/Cloneable"), (0, .class_ 1), (0, u "java/lang/Object"), (0, .class_ 3)] 3

/-- java/lang/Cloneable -/
def k8 : Class := { plain "java/lang/Cloneable" (some 0) with
  accessFlags := 1537
  interfaces := #[]
  cf := some (fileOf pool8 2 #[] #[] 1537 4 #[] #[])
  fields := #[]
  methods := #[]
  instanceTypes := #[]
  staticTypes := #[]
  resolved := Array.replicate 8 none
  statics := none }

/-- the primitive byte -/
def k9 : Class := { plain "byte" none with kind := .primitive 'B', accessFlags := 0x411 }
/-- [B -/
def k10 : Class := { plain "[B" (some 0) with kind := .array 9 .byte, interfaces := #[8, 4], accessFlags := 1041 }

/-- the primitive int -/
def k11 : Class := { plain "int" none with kind := .primitive 'I', accessFlags := 0x411 }
/-- [I -/
def k12 : Class := { plain "[I" (some 0) with kind := .array 11 .int, interfaces := #[8, 4], accessFlags := 1041 }

def heap : Heap := #[{ cls := 7, slots := #[.ref 1, .ref 2, .ref 3, .ref 4, .ref 5, .ref 6, .null], vm := .statics 7 },
  { cls := 7, slots := #[.null, .int 0, .int 0], vm := .none },
  { cls := 7, slots := #[.null, .int 1, .int 0], vm := .none },
  { cls := 7, slots := #[.null, .int 2, .int 0], vm := .none },
  { cls := 7, slots := #[.null, .int 3, .int 0], vm := .none },
  { cls := 7, slots := #[.null, .int 4, .int 0], vm := .none },
  { cls := 7, slots := #[.null, .int 5, .int 0], vm := .none }]
def classes : Array Class := #[k0, k1, k2, k3, k4, k5, k6, k7, k8, k9, k10, k11, k12]
def interned : List (Array UInt16 × Addr) := []
def slotsUsed : Nat := 25
def theMethod : MethodId := ⟨1, 1⟩
def args0 : Array Value := #[.int 5]
def aboutOver (below : List Frame) : State where
  vm := { classes := classes, interned := interned.toArray }
  heap := heap
  slotsUsed := slotsUsed
  threads := #[{ frames := .invoking theMethod args0 :: below }]
def below0 : List Frame := [.native { method := ⟨0, 0⟩, args := #[] }]
def about1 : State := aboutOver below0
def p0 : Program := .bare "" "" ""
def e0 : Env := launch0.env 0 0 0
theorem w_frames : about1.frames = Frame.invoking theMethod args0 :: below0 := rfl
set_option maxRecDepth 65536 in
theorem w_args : argsFit about1.vm theMethod args0 = true := by decide +kernel
set_option maxRecDepth 65536 in
theorem w_heap : heapFits about1 = true := by decide +kernel
set_option maxRecDepth 65536 in
theorem w_runnable : about1.curStatus? = some .runnable := by decide +kernel
set_option maxRecDepth 65536 in
theorem w_alone : about1.alone = true := by decide +kernel
set_option maxRecDepth 65536 in
theorem w_named : about1.methodNamed? x = some theMethod := by decide +kernel
set_option maxRecDepth 65536 in
theorem w_hears : about1.hears theMethod below0 = true := by decide +kernel
set_option maxRecDepth 65536 in
theorem w_ripe : about1.ripe theMethod args0 below0 = true := by decide +kernel
theorem w_running : about1.status = .running := rfl
set_option maxRecDepth 65536 in
theorem w_room : about1.hasRoom e0.platform room_1 = true :=
  launch0.hasRoom_least _ room_1 (by decide +kernel) (by decide +kernel) (by decide +kernel) (by decide +kernel) (by decide +kernel) (by decide +kernel)
theorem allAtoms_all (ts : List Jvm.Cond) (a : Array Jvm.Value) (st : Jvm.State) : (allAtoms ts).before a st = ts.all (fun c => c.before a st) := by
  induction ts with
  | nil => rfl
  | cons c t ih =>
    show (Jvm.Cond.and c (allAtoms t)).before a st = _
    rw [Jvm.Cond.before_and, ih, List.all_cons]
def words1 : List Jvm.Cond := Jvm.Cond.code x code maxLocals ret :: tables_1
/-- a 'code' word, met by the world's own term for the bytes: nothing is compared byte by byte -/
theorem code_word {y : MethodName} {bytes : ByteArray} {mx : Nat} {rt : Option FieldType} {a : Array Value} {s : State} {m : MethodId} {meth : Method} {c : Code} (h1 : s.methodNamed? y = some m) (h2 : s.vm.method? m = some meth) (h3 : meth.code = some c) (h4 : c.code = bytes)
    (h5 : (c.maxLocals == mx && c.exceptionTable.isEmpty && decide (c.maxStack ≤ mostOperands) && decide (meth.sig.returnType = rt) && !meth.locks && decide (parseMethodDescriptor y.desc = some meth.sig)) = true) : (Jvm.Cond.code y bytes mx rt).before a s = true := by
  simp only [Bool.and_eq_true, beq_iff_eq, Bool.not_eq_true', decide_eq_true_eq] at h5
  obtain ⟨⟨⟨⟨⟨g1, g2⟩, g3⟩, g4⟩, g5⟩, g6⟩ := h5
  simp [Cond.before, Cond.holds, Cond.value, h1, h2, h3, h4, g1, g2, g3, g4, g5, g6]
def isCode : Jvm.Cond → Bool
  | .code _ _ _ _ => true
  | _ => false
theorem all_split {L : List Jvm.Cond} {P : Jvm.Cond → Bool} (h1 : L.all (fun c => isCode c || P c) = true) (h2 : ∀ c ∈ L.filter isCode, P c = true) : L.all P = true := by
  refine List.all_eq_true.mpr fun c hc => ?_
  have h := List.all_eq_true.mp h1 c hc
  rcases Bool.eq_false_or_eq_true (isCode c) with hi | hi
  · exact h2 c (List.mem_filter.mpr ⟨hc, hi⟩)
  · simpa [hi] using h
set_option maxRecDepth 65536 in
theorem w_c0 : (Jvm.Cond.code x code maxLocals ret).before args0 about1 = true := code_word (m := ⟨1, 1⟩) (meth := k1m1) (c := k1c1) (by decide +kernel) rfl rfl rfl (by decide +kernel)
set_option maxRecDepth 65536 in
theorem w_c1 : (Jvm.Cond.code ({ cls := "com/example/sundiald/sundiald/AttemptOutcome", name := "callEnded", desc := "()Z" } : Jvm.MethodName) prog_8_method_4_code (1 : Nat) (Option.some Jvm.ClassFile.FieldType.boolean)).before args0 about1 = true := code_word (m := ⟨7, 0⟩) (meth := k7m0) (c := k7c0) (by decide +kernel) rfl rfl rfl (by decide +kernel)
def codes1 : List Jvm.Cond := [Jvm.Cond.code x code maxLocals ret, Jvm.Cond.code ({ cls := "com/example/sundiald/sundiald/AttemptOutcome", name := "callEnded", desc := "()Z" } : Jvm.MethodName) prog_8_method_4_code (1 : Nat) (Option.some Jvm.ClassFile.FieldType.boolean)]
set_option maxRecDepth 65536 in
theorem codes_eq : words1.filter isCode = codes1 := rfl
theorem w_codes : ∀ c ∈ words1.filter isCode, c.before args0 about1 = true := by
  rw [codes_eq]
  intro c hc
  simp only [codes1, List.mem_cons, List.not_mem_nil, or_false] at hc
  rcases hc with rfl | rfl
  · exact w_c0
  · exact w_c1
set_option maxRecDepth 65536 in
theorem w_t1 : words1.all (fun c => isCode c || c.before args0 about1) = true := by decide +kernel
theorem w_tables : (allAtoms (Jvm.Cond.code x code maxLocals ret :: tables_1)).before args0 about1 = true := by
  rw [allAtoms_all]
  show words1.all (fun c => c.before args0 about1) = true
  refine all_split ?_ w_codes
  rw [w_t1]
set_option maxRecDepth 65536 in
theorem w_case : (Jvm.Cond.and given_1 narrow_1).before args0 about1 = true := by decide +kernel
theorem w_applies : (headSpec (Jvm.Cond.code x code maxLocals ret :: tables_1) room_1).applies x e0.platform about1 = true :=
  (Spec.applies_iff w_frames).mpr ⟨w_running, w_runnable, w_alone, w_named, w_hears, w_ripe, w_room, w_tables⟩
theorem atStart : AtStart classFile x code maxLocals ret World_1 tables_1 room_1 Calls_1 rest_1 Pre_1 launch0 p0 e0 about1 theMethod args0 below0 :=
  ⟨lists_1, trivial, launch0.admits_env _ _ _, launch0.least_env, fairChoices_fair.cas, fairChoices_fair.clock, w_frames, w_args, w_heap, w_applies, trivial, trivial, w_case⟩
end start1
theorem witness_1 : WitnessClaimed_1 := ⟨start1.p0, start1.e0, start1.about1, start1.theMethod, start1.args0, start1.below0, start1.atStart⟩
end Jvm.Pilot.@@N@@
