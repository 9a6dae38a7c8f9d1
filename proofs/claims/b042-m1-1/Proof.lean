import JvmDerived
import JvmDerived.Pilot.@@N@@Statement
import JvmDerived.Pilot.@@N@@Code
set_option linter.unusedVariables false
set_option linter.unusedSimpArgs false
@@BLOCK:NumsL.lean.txt@@
@@BLOCK:Masks.lean.txt@@
namespace Jvm.Pilot.@@N@@
open Jvm Jvm.ClassFile Sem Op Lib Jvm.Free Jvm.Stand Jvm.LawKit Jvm.RoadKit Bundle Jvm.Pilot.@@N@@.Jvm.D
section OwnKit
/-- what is left of a walk: from the frame g in the state T it ends, and Q says what it leaves -/
def own_Go (p : Program) (e : Env) (below : List Frame) (s : State) (Q : Option Value → Heap → List Loc → Prop) (ce sl : Nat) (T : State) (g : JFrame) : Prop :=
  ∃ U o, Steps p.tables e below (T.setTop g) U ∧ U.status = .running ∧ Ended U below o ∧ ∃ v L, o = .returned v ∧ Q v U.heap L ∧ FrameEnd s o U L ce sl
/-- a body's contract: at these arguments and this heap it returns, and Q says what it leaves -/
def own_Ct (l : Launch) (Z : State) (y : MethodName) (bytes : ByteArray) (ml : Nat) (ret : Option FieldType) (rm : Room) (as : Array Value) (h0 : Heap) (Q : Option Value → Heap → List Loc → Prop) : Prop :=
  ∀ ws : List Jvm.Cond, MetFree l y (head1 (Jvm.Cond.code y bytes ml ret :: ws) rm) (fun a U => a = as ∧ Z.Warmed39 U.vm ∧ U.heap = h0) (fun _ _ _ _ _ => True) (fun _ U o U' => ∃ v L, o = .returned v ∧ Q v U'.heap L ∧ FrameEnd U o U' L rm.cells rm.slots)
/-- what holds throughout one body's walk -/
def own_Cx (p : Program) (s : State) (m : MethodId) (meth : Method) (c : Code) (Z : State) (bytes : ByteArray) (ml : Nat) (own nm : String) (ret : Option FieldType) : Prop :=
  p.tables.exec = Jvm.exec ∧ Z.Warmed39 s.vm ∧ c.code = bytes ∧ c.maxLocals = ml ∧ s.vm.findClass own = some m.cls ∧ meth.name = nm ∧ meth.sig.returnType = ret ∧ meth.locks = false
variable {p : Program} {l : Launch} {e : Env} {R : Room} {s : State} {m : MethodId} {args : Array Value} {below : List Frame} {meth : Method} {c : Code} {T T' : State} {locs : List Loc} {cells slots : Nat} {Z : State} {a0 : Array Value} {h h' : Heap} {Q QQ : Option Value → Heap → List Loc → Prop} {ce sl : Nat} {g g' : JFrame}
theorem own_st (h : ∀ t, Steps p.tables e below (T'.setTop g') t → Steps p.tables e below (T.setTop g) t) (k : own_Go p e below s Q ce sl T' g') : own_Go p e below s Q ce sl T g := by
  obtain ⟨U, o, h1, h2⟩ := k
  exact ⟨U, o, h _ h1, h2⟩
theorem own_enter {y : MethodName} {bytes : ByteArray} {ml : Nat} {ret : Option FieldType} {rm : Room} {as : Array Value} {h0 : Heap} (hp : plainFor y = true)
    (walk : ∀ {p e s m below meth c s₁}, Stand p l e rm s m as below meth c s₁ [] 0 0 → own_Cx p s m meth c Z bytes ml y.cls y.name ret → s₁.heap = h0 → own_Go p e below s Q rm.cells rm.slots s₁ (entryFrame m as ml)) : own_Ct l Z y bytes ml ret rm as h0 Q := by
  intro ws
  refine MetFree.of_bodySF hp hisR ?_
  intro p e s m args below meth c s₁ Bd hml0 hP hK
  obtain ⟨rfl, hZ, hh⟩ := hP
  have X0 : Stand p l e rm s m args below meth c s₁ [] 0 0 := Stand.of_body Bd
  have e0 : s₁.heap = h0 := by rw [← hh, Bd.state]; rfl
  exact walk X0 ⟨Bd.exec, hZ, Bd.bytes, hml0, findClass_of_methodNamed Bd.named, (name_of_methodNamed Bd.named Bd.method).1, Bd.returns, Bd.notSynchronized⟩ e0
theorem own_cast (q : g = g') (k : own_Go p e below s Q ce sl T g') : own_Go p e below s Q ce sl T g := q ▸ k
theorem own_ret (X : Stand p l e R s m args below meth c T locs cells slots) (hx : p.tables.exec = Jvm.exec) (hlk : meth.locks = false) {pc : Nat} {Ls : Array Slot} {w : Value} {t : FieldType} {i : Instr} {rest : List Value} (hret : meth.sig.returnType = some t) (hn : narrow t w = w)
    (hi : (i = .ireturn ∧ (t = .int ∨ t = .boolean ∨ t = .byte ∨ t = .char ∨ t = .short) ∧ ∃ z, w = .int z) ∨ (i = .lreturn ∧ t = .long ∧ ∃ z, w = .long z) ∨ (i = .dreturn ∧ t = .double ∧ ∃ z, w = .double z) ∨ (i = .freturn ∧ t = .float ∧ ∃ z, w = .float z) ∨ (i = .areturn ∧ t.isReference = true ∧ w.isRef = true))
    (hd : decode c.code pc = .ok (i, 1)) (hQ : Q (some w) T.heap locs) (hc : cells ≤ ce) (hs : slots ≤ sl) : own_Go p e below s Q ce sl T (mkF m pc Ls (w :: rest)) := by
  obtain ⟨fs, hr, hrun, hended, hW, hsame⟩ := X.leave (v := some w) (fun h => by rw [hret] at h; cases h) hlk
  exact ⟨_, _, retOut X hx hret hn hi hd hr, hrun, hended, _, _, rfl, hQ, ⟨_, rfl⟩, hW, hsame.mono hc hs⟩
theorem own_retI (X : Stand p l e R s m args below meth c T locs cells slots) (hx : p.tables.exec = Jvm.exec) (hlk : meth.locks = false) {pc : Nat} {Ls : Array Slot} {z : Int32} {t : FieldType} {rest : List Value} (hret : meth.sig.returnType = some t) (ht : t = .int ∨ t = .boolean ∨ t = .byte ∨ t = .char ∨ t = .short)
    (hn : narrow t (.int z) = .int z) (hd : decode c.code pc = .ok (.ireturn, 1)) (hQ : Q (some (.int z)) T.heap locs) (hc : cells ≤ ce) (hs : slots ≤ sl) : own_Go p e below s Q ce sl T (mkF m pc Ls (.int z :: rest)) :=
  own_ret X hx hlk hret hn (Or.inl ⟨rfl, ht, _, rfl⟩) hd hQ hc hs
theorem own_retJ (X : Stand p l e R s m args below meth c T locs cells slots) (hx : p.tables.exec = Jvm.exec) (hlk : meth.locks = false) {pc : Nat} {Ls : Array Slot} {z : Int64} {rest : List Value} (hret : meth.sig.returnType = some .long)
    (hd : decode c.code pc = .ok (.lreturn, 1)) (hQ : Q (some (.long z)) T.heap locs) (hc : cells ≤ ce) (hs : slots ≤ sl) : own_Go p e below s Q ce sl T (mkF m pc Ls (.long z :: rest)) :=
  own_ret X hx hlk hret rfl (Or.inr (Or.inl ⟨rfl, rfl, _, rfl⟩)) hd hQ hc hs
theorem own_retR (X : Stand p l e R s m args below meth c T locs cells slots) (hx : p.tables.exec = Jvm.exec) (hlk : meth.locks = false) {pc : Nat} {Ls : Array Slot} {w : Value} {t : FieldType} {rest : List Value} (hret : meth.sig.returnType = some t) (ht : t.isReference = true) (hw : w.isRef = true) (hn : narrow t w = w)
    (hd : decode c.code pc = .ok (.areturn, 1)) (hQ : Q (some w) T.heap locs) (hc : cells ≤ ce) (hs : slots ≤ sl) : own_Go p e below s Q ce sl T (mkF m pc Ls (w :: rest)) :=
  own_ret X hx hlk hret hn (Or.inr (Or.inr (Or.inr (Or.inr ⟨rfl, ht, hw⟩)))) hd hQ hc hs
theorem own_retV (X : Stand p l e R s m args below meth c T locs cells slots) (hx : p.tables.exec = Jvm.exec) (hlk : meth.locks = false) {pc : Nat} {Ls : Array Slot} (hret : meth.sig.returnType = none)
    (hd : decode c.code pc = .ok (.return_, 1)) (hQ : Q none T.heap locs) (hc : cells ≤ ce) (hs : slots ≤ sl) : own_Go p e below s Q ce sl T (mkF m pc Ls []) := by
  obtain ⟨fs, hr, hrun, hended, hW, hsame⟩ := X.leave (v := none) (fun _ => rfl) hlk
  exact ⟨_, _, X.returnOut hx hret hd hr, hrun, hended, _, _, rfl, hQ, ⟨_, rfl⟩, hW, hsame.mono hc hs⟩
/-! calls by contract -/
theorem own_callS (X : Stand p l e R s m args below meth c T locs cells slots) (hx : p.tables.exec = Jvm.exec) (hZ : Z.Warmed39 s.vm) {own : String} {index : Nat} {y : MethodName} {bytes : ByteArray} {ml : Nat} {ret : Option FieldType} {rm : Room} {argsL rest : List Value}
    (hown : s.vm.findClass own = some m.cls) (w1 : (Jvm.Cond.methodLink own index y).before a0 Z = true) (w2 : (Jvm.Cond.static y).before a0 Z = true) (w3 : (Jvm.Cond.initialized y.cls).before a0 Z = true) (w4 : (Jvm.Cond.code y bytes ml ret).before a0 Z = true)
    (hy : y.cls ≠ "java/lang/invoke/MethodHandle" ∧ y.cls ≠ "java/lang/invoke/VarHandle") (eT : T.heap = h) (hC : own_Ct l Z y bytes ml ret rm argsL.toArray h QQ) {W : Nat} (hf : rm.frames + 1 ≤ R.frames) (hl : W + (ml + 11) + rm.locals ≤ R.locals) (hc : cells + rm.cells ≤ R.cells) (hs : slots + rm.slots ≤ R.slots)
    {ps : List FieldType} {rr : Option FieldType} (hd0 : parseMethodDescriptor y.desc = some ⟨ps, rr⟩) (hlen : argsL.length = ps.length) {g : JFrame} (hg : g.method = m) (hsize : g.locals.size = c.maxLocals) (hstack : g.stack = argsL.reverse ++ rest) (hW : 2 * g.monitorRoom + (rest.map fun v => v.category).sum ≤ W) (hd : decode c.code g.pc = .ok (.invokestatic index, 3))
    (k : ∀ v T' L, Stand p l e R s m args below meth c T' (locs ++ L) (cells + rm.cells) (slots + rm.slots) → QQ v T'.heap L → own_Go p e below s Q ce sl T' { g with pc := g.pc + 3, stack := v.toList ++ rest }) : own_Go p e below s Q ce sl T g := by
  obtain ⟨v, _, ⟨T', L', c', n'⟩, -, X', ⟨Lc, hQ, l1, y1, z1⟩, st⟩ := Jvm.LawKit.callS X hx (y := y) hown (mvT hZ w1) (mvT hZ w2) (mvT hZ w3) (mvT hZ w4) hy (backOf (W := W) (hC []) hZ w4 w3 hf hl) hg hsize (lenOf hd0 hlen) hstack hW hd (fun _ _ => ⟨rfl, eT, hc, hs⟩)
  dsimp only [Pt.U, Pt.locs, Pt.cells, Pt.slots] at X' l1 y1 z1 st hQ
  subst l1 y1 z1
  exact own_st st (k _ _ _ X' hQ)
theorem own_callI (X : Stand p l e R s m args below meth c T locs cells slots) (hx : p.tables.exec = Jvm.exec) (hZ : Z.Warmed39 s.vm) {own : String} {index : Nat} {y : MethodName} {bytes : ByteArray} {ml : Nat} {rm : Room} {argsL rest : List Value} {a : Addr}
    (hy1 : y.name = "<init>") (hown : s.vm.findClass own = some m.cls) (w1 : (Jvm.Cond.methodLink own index y).before a0 Z = true) (w2 : (Jvm.Cond.instanceMethod y).before a0 Z = true) (w3 : (Jvm.Cond.initialized y.cls).before a0 Z = true) (w4 : (Jvm.Cond.code y bytes ml none).before a0 Z = true)
    (hy : y.cls ≠ "java/lang/invoke/MethodHandle" ∧ y.cls ≠ "java/lang/invoke/VarHandle") (eT : T.heap = h) (hC : own_Ct l Z y bytes ml none rm (.ref a :: argsL).toArray h QQ) {W : Nat} (hf : rm.frames + 1 ≤ R.frames) (hl : W + (ml + 11) + rm.locals ≤ R.locals) (hc : cells + rm.cells ≤ R.cells) (hs : slots + rm.slots ≤ R.slots)
    {ps : List FieldType} {rr : Option FieldType} (hd0 : parseMethodDescriptor y.desc = some ⟨ps, rr⟩) (hlen : argsL.length = ps.length) {g : JFrame} (hg : g.method = m) (hsize : g.locals.size = c.maxLocals) (hstack : g.stack = argsL.reverse ++ .ref a :: rest) (hW : 2 * g.monitorRoom + (rest.map fun v => v.category).sum ≤ W) (hd : decode c.code g.pc = .ok (.invokespecial index, 3))
    (k : ∀ v T' L, Stand p l e R s m args below meth c T' (locs ++ L) (cells + rm.cells) (slots + rm.slots) → QQ v T'.heap L → own_Go p e below s Q ce sl T' { g with pc := g.pc + 3, stack := v.toList ++ rest }) : own_Go p e below s Q ce sl T g := by
  obtain ⟨v, _, ⟨T', L', c', n'⟩, -, X', ⟨Lc, hQ, l1, y1, z1⟩, st⟩ := X.specialBack hx (y := y) hy1 hown (mvT hZ w1) (mvT hZ w2) (mvT hZ w4) hy (backOf (W := W) (hC []) hZ w4 w3 hf hl) hg hsize (Steps.refl _) (a := a) (lenOf hd0 hlen) hstack hW hd (fun _ _ => ⟨rfl, eT, hc, hs⟩)
  dsimp only [Pt.U, Pt.locs, Pt.cells, Pt.slots] at X' l1 y1 z1 st hQ
  subst l1 y1 z1
  exact own_st (fun _ r => st.trans r) (k _ _ _ X' hQ)
theorem own_callV (X : Stand p l e R s m args below meth c T locs cells slots) (hx : p.tables.exec = Jvm.exec) (hZ : Z.Warmed39 s.vm) {own C : String} {index : Nat} {y z : MethodName} {bytes : ByteArray} {ml : Nat} {ret : Option FieldType} {rm : Room} {argsL rest : List Value} {a : Addr}
    (hown : s.vm.findClass own = some m.cls) (w1 : (Jvm.Cond.methodLink own index y).before a0 Z = true) (w2 : (Jvm.Cond.declares y).before a0 Z = true) (hnf : NotFace s y) (w5 : (Jvm.Cond.selects C y z).before a0 Z = true) (w6 : (Jvm.Cond.instanceMethod z).before a0 Z = true) (w3 : (Jvm.Cond.initialized z.cls).before a0 Z = true) (w4 : (Jvm.Cond.code z bytes ml ret).before a0 Z = true)
    (hy : y.cls ≠ "java/lang/invoke/MethodHandle" ∧ y.cls ≠ "java/lang/invoke/VarHandle") (eT : T.heap = h) (E : Exa Z h a C) (hC : own_Ct l Z z bytes ml ret rm (.ref a :: argsL).toArray h QQ) {W : Nat} (hf : rm.frames + 1 ≤ R.frames) (hl : W + (ml + 11) + rm.locals ≤ R.locals) (hc : cells + rm.cells ≤ R.cells) (hs : slots + rm.slots ≤ R.slots)
    {ps : List FieldType} {rr : Option FieldType} (hd0 : parseMethodDescriptor y.desc = some ⟨ps, rr⟩) (hlen : argsL.length = ps.length) {g : JFrame} (hg : g.method = m) (hsize : g.locals.size = c.maxLocals) (hstack : g.stack = argsL.reverse ++ .ref a :: rest) (hW : 2 * g.monitorRoom + (rest.map fun v => v.category).sum ≤ W) (hd : decode c.code g.pc = .ok (.invokevirtual index, 3))
    (k : ∀ v T' L, Stand p l e R s m args below meth c T' (locs ++ L) (cells + rm.cells) (slots + rm.slots) → QQ v T'.heap L → own_Go p e below s Q ce sl T' { g with pc := g.pc + 3, stack := v.toList ++ rest }) : own_Go p e below s Q ce sl T g := by
  obtain ⟨cB, kB, q1, q2, q3⟩ := isOf hZ eT E
  obtain ⟨v, _, ⟨T', L', c', n'⟩, -, X', ⟨Lc, hQ, l1, y1, z1⟩, st⟩ := X.virtualBack hx (y := y) (z := z) hown (mvT hZ w1) (mvT hZ w2) hnf (mvT hZ w5) (mvT hZ w6) hy (backOf (W := W) (hC []) hZ w4 w3 hf hl) q1 q3 hg hsize (Steps.refl _) (lenOf hd0 hlen) hstack hW hd (fun _ _ => ⟨rfl, eT, hc, hs⟩)
  dsimp only [Pt.U, Pt.locs, Pt.cells, Pt.slots] at X' l1 y1 z1 st hQ
  subst l1 y1 z1
  exact own_st (fun _ r => st.trans r) (k _ _ _ X' hQ)
theorem own_callP (X : Stand p l e R s m args below meth c T locs cells slots) (hx : p.tables.exec = Jvm.exec) (hZ : Z.Warmed39 s.vm) {own C : String} {index : Nat} {y : MethodName} {bytes : ByteArray} {ml : Nat} {ret : Option FieldType} {rm : Room} {argsL rest : List Value} {a : Addr}
    (hown : s.vm.findClass own = some m.cls) (w1 : (Jvm.Cond.methodLink own index y).before a0 Z = true) (w6 : (Jvm.Cond.instanceMethod y).before a0 Z = true) (w5 : (Jvm.Cond.selects y.cls y y).before a0 Z = true) (w7 : (Jvm.Cond.privateMethod y).before a0 Z = true) (w3 : (Jvm.Cond.initialized y.cls).before a0 Z = true) (w4 : (Jvm.Cond.code y bytes ml ret).before a0 Z = true)
    (hy : y.cls ≠ "java/lang/invoke/MethodHandle" ∧ y.cls ≠ "java/lang/invoke/VarHandle") (eT : T.heap = h) (E : Exa Z h a C) (hC : own_Ct l Z y bytes ml ret rm (.ref a :: argsL).toArray h QQ) {W : Nat} (hf : rm.frames + 1 ≤ R.frames) (hl : W + (ml + 11) + rm.locals ≤ R.locals) (hc : cells + rm.cells ≤ R.cells) (hs : slots + rm.slots ≤ R.slots)
    {ps : List FieldType} {rr : Option FieldType} (hd0 : parseMethodDescriptor y.desc = some ⟨ps, rr⟩) (hlen : argsL.length = ps.length) {g : JFrame} (hg : g.method = m) (hsize : g.locals.size = c.maxLocals) (hstack : g.stack = argsL.reverse ++ .ref a :: rest) (hW : 2 * g.monitorRoom + (rest.map fun v => v.category).sum ≤ W) (hd : decode c.code g.pc = .ok (.invokevirtual index, 3))
    (k : ∀ v T' L, Stand p l e R s m args below meth c T' (locs ++ L) (cells + rm.cells) (slots + rm.slots) → QQ v T'.heap L → own_Go p e below s Q ce sl T' { g with pc := g.pc + 3, stack := v.toList ++ rest }) : own_Go p e below s Q ce sl T g := by
  obtain ⟨cq, q1, q2⟩ := E.cell
  obtain ⟨v, _, ⟨T', L', c', n'⟩, -, X', ⟨Lc, hQ, l1, y1, z1⟩, st⟩ := X.privateBack hx (y := y) hown (mvT hZ w1) (mvT hZ w6) (mvT hZ w5) (Cond.privateMethod_at (mvP hZ w7 (args := #[]))) (mvT hZ w4) hy (backOf (W := W) (hC []) hZ w4 w3 hf hl) hg hsize (Steps.refl _) (a := a) (by rw [eT]; exact q1) q2 (lenOf hd0 hlen) hstack hW hd (fun _ _ => ⟨rfl, eT, hc, hs⟩)
  dsimp only [Pt.U, Pt.locs, Pt.cells, Pt.slots] at X' l1 y1 z1 st hQ
  subst l1 y1 z1
  exact own_st (fun _ r => st.trans r) (k _ _ _ X' hQ)
theorem own_selfsel {y : MethodName} {n : Nat} (wi : (Jvm.Cond.instantiable y.cls n).before a0 Z = true) (w7 : (Jvm.Cond.privateMethod y).before a0 Z = true) (w6 : (Jvm.Cond.instanceMethod y).before a0 Z = true) (hy : y.cls ≠ "java/lang/invoke/MethodHandle" ∧ y.cls ≠ "java/lang/invoke/VarHandle") : (Jvm.Cond.selects y.cls y y).before a0 Z = true := by
  obtain ⟨c, k', h1, h2, -, h3, -⟩ := Cond.instantiable_spec wi
  exact Jvm.Stand.selects_self_of_private h1 h2 (by simp at h3; exact h3.1) (Cond.privateMethod_at w7) w6 hy
/-! arrays: n places, place i holds f i -/
def own_Av (Z : State) (h : Heap) (a : Addr) (ty : FieldType) (n : Nat) (f : Nat → Value) : Prop := ∃ c : Cell, Arr Z h a c ty ∧ c.slots.size = n ∧ ∀ i, i < n → c.slots[i]? = some (f i)
def own_up (f : Nat → Value) (i : Nat) (v : Value) : Nat → Value := fun j => if j = i then v else f j
variable {a b : Addr} {ty : FieldType} {n : Nat} {f f' : Nat → Value} {v : Value}
theorem own_Av.lt (F : own_Av Z h a ty n f) : a < h.size := by obtain ⟨c, A, -⟩ := F; exact A.lt
theorem own_Av.ext (F : own_Av Z h a ty n f) (E : Ext h h') : own_Av Z h' a ty n f := by obtain ⟨c, A, q⟩ := F; exact ⟨c, A.ext E, q⟩
theorem own_Av.other {i : Nat} (F : own_Av Z h b ty n f) (W : Wr h h' a i v) (q : b ≠ a) : own_Av Z h' b ty n f := by obtain ⟨c, A, r⟩ := F; exact ⟨c, A.other W q, r⟩
theorem own_Av.keep {ws : List Addr} (F : own_Av Z h a ty n f) (K : Keep h h' ws) (q : a ∉ ws) : own_Av Z h' a ty n f := by obtain ⟨c, A, r⟩ := F; exact ⟨c, ⟨K.2.1 _ _ A.1 q, A.2⟩, r⟩
theorem own_Av.cg (F : own_Av Z h a ty n f) (q : ∀ i, i < n → f i = f' i) : own_Av Z h a ty n f' := by obtain ⟨c, A, r, t⟩ := F; exact ⟨c, A, r, fun i hi => by rw [t i hi, q i hi]⟩
theorem own_Av.same {i : Nat} (F : own_Av Z h a ty n f) (W : Wr h h' a i v) (hi : i < n) : own_Av Z h' a ty n (own_up f i v) := by
  obtain ⟨c, A, r, t⟩ := F
  refine ⟨_, A.same W, by rw [sz_set]; exact r, fun j hj => ?_⟩
  subst r
  simp only [Cell.setSlot, own_up, Array.getElem?_setIfInBounds]
  by_cases q : i = j
  · subst q; simp [hi]
  · simp [q, Ne.symm q, t j hj]
theorem own_Av.new {k : ClassId} {z : Int32} (A : Arr Z h a (newA k ty z) ty) : own_Av Z h a ty z.toNatClampNeg (fun _ => defaultValue ty) := by
  refine ⟨_, A, sz_new _ _ _, fun i hi => ?_⟩
  simp [newA, hi]
theorem own_ne (F : a < b) : a ≠ b := Nat.ne_of_lt F
theorem own_inb {c : Cell} {j : Int32} {i : Nat} (r : c.slots.size = n) (hj : ¬ j < 0) (hi : j.toNatClampNeg = i) (hin : i < n) : ¬ (j < 0 ∨ c.slots.size ≤ j.toNatClampNeg) := by
  rintro (q | q)
  · exact hj q
  · omega
theorem own_len (X : Stand p l e R s m args below meth c T locs cells slots) (hx : p.tables.exec = Jvm.exec) (hZ : Z.Warmed39 s.vm) (eT : T.heap = h) (A : own_Av Z h a ty n f) {z : Int32} (hz : n.toInt32 = z) {g : JFrame} (hg : g.method = m) {rest : List Value} (hs : g.stack = .ref a :: rest) (hd : decode c.code g.pc = .ok (.arraylength, 1)) :
    ∀ t, Steps p.tables e below (T.setTop { g with pc := g.pc + 1, stack := .int z :: rest }) t → Steps p.tables e below (T.setTop g) t := by
  obtain ⟨c, A, r, -⟩ := A
  subst hz r
  exact X.arraylength hx (by rw [eT]; exact A.1) (State.isArrayOf_alike hZ.alike A.2.1) hg hs hd
theorem own_iaload (X : Stand p l e R s m args below meth c T locs cells slots) (hx : p.tables.exec = Jvm.exec) (hZ : Z.Warmed39 s.vm) (eT : T.heap = h) (A : own_Av Z h a .int n f) {j : Int32} (i : Nat) (hj : ¬ j < 0) (hi : j.toNatClampNeg = i) (hin : i < n) (hv : f i = v) {g : JFrame} (hg : g.method = m) {rest : List Value} (hs : g.stack = .int j :: .ref a :: rest) (hd : decode c.code g.pc = .ok (.iaload, 1)) :
    ∀ t, Steps p.tables e below (T.setTop { g with pc := g.pc + 1, stack := v :: rest }) t → Steps p.tables e below (T.setTop g) t := by
  obtain ⟨c, A, r, t⟩ := A
  exact X.iaload hx (by rw [eT]; exact A.1) (State.isArrayOf_alike hZ.alike A.2.1) A.2.2 (own_inb r hj hi hin) (by rw [hi, t i hin, hv]) hg hs hd
theorem own_laload (X : Stand p l e R s m args below meth c T locs cells slots) (hx : p.tables.exec = Jvm.exec) (hZ : Z.Warmed39 s.vm) (eT : T.heap = h) (A : own_Av Z h a .long n f) {j : Int32} (i : Nat) (hj : ¬ j < 0) (hi : j.toNatClampNeg = i) (hin : i < n) (hv : f i = v) {g : JFrame} (hg : g.method = m) {rest : List Value} (hs : g.stack = .int j :: .ref a :: rest) (hd : decode c.code g.pc = .ok (.laload, 1)) :
    ∀ t, Steps p.tables e below (T.setTop { g with pc := g.pc + 1, stack := v :: rest }) t → Steps p.tables e below (T.setTop g) t := by
  obtain ⟨c, A, r, t⟩ := A
  exact X.laload hx (by rw [eT]; exact A.1) (State.isArrayOf_alike hZ.alike A.2.1) A.2.2 (own_inb r hj hi hin) (by rw [hi, t i hin, hv]) hg hs hd
theorem own_aaload (X : Stand p l e R s m args below meth c T locs cells slots) (hx : p.tables.exec = Jvm.exec) (hZ : Z.Warmed39 s.vm) (eT : T.heap = h) (A : own_Av Z h a ty n f) (hty : ty.isReference = true) {j : Int32} (i : Nat) (hj : ¬ j < 0) (hi : j.toNatClampNeg = i) (hin : i < n) (hv : f i = v) {g : JFrame} (hg : g.method = m) {rest : List Value} (hs : g.stack = .int j :: .ref a :: rest) (hd : decode c.code g.pc = .ok (.aaload, 1)) :
    ∀ t, Steps p.tables e below (T.setTop { g with pc := g.pc + 1, stack := v :: rest }) t → Steps p.tables e below (T.setTop g) t := by
  obtain ⟨c, A, r, t⟩ := A
  exact X.aaload hx (by rw [eT]; exact A.1) (State.isArrayOf_alike hZ.alike A.2.1) hty A.2.2 (own_inb r hj hi hin) (by rw [hi, t i hin, hv]) hg hs hd
theorem own_baloadB (X : Stand p l e R s m args below meth c T locs cells slots) (hx : p.tables.exec = Jvm.exec) (hZ : Z.Warmed39 s.vm) (eT : T.heap = h) (A : own_Av Z h a .byte n f) {j : Int32} (i : Nat) (hj : ¬ j < 0) (hi : j.toNatClampNeg = i) (hin : i < n) (hv : f i = v) {g : JFrame} (hg : g.method = m) {rest : List Value} (hs : g.stack = .int j :: .ref a :: rest) (hd : decode c.code g.pc = .ok (.baload, 1)) :
    ∀ t, Steps p.tables e below (T.setTop { g with pc := g.pc + 1, stack := v :: rest }) t → Steps p.tables e below (T.setTop g) t := by
  obtain ⟨c, A, r, t⟩ := A
  exact X.baloadBytes hx (by rw [eT]; exact A.1) (State.isArrayOf_alike hZ.alike A.2.1) A.2.2 (own_inb r hj hi hin) (by rw [hi, t i hin, hv]) hg hs hd
theorem own_baloadZ (X : Stand p l e R s m args below meth c T locs cells slots) (hx : p.tables.exec = Jvm.exec) (hZ : Z.Warmed39 s.vm) (eT : T.heap = h) (A : own_Av Z h a .boolean n f) {j : Int32} (i : Nat) (hj : ¬ j < 0) (hi : j.toNatClampNeg = i) (hin : i < n) (hv : f i = v) {g : JFrame} (hg : g.method = m) {rest : List Value} (hs : g.stack = .int j :: .ref a :: rest) (hd : decode c.code g.pc = .ok (.baload, 1)) :
    ∀ t, Steps p.tables e below (T.setTop { g with pc := g.pc + 1, stack := v :: rest }) t → Steps p.tables e below (T.setTop g) t := by
  obtain ⟨c, A, r, t⟩ := A
  exact X.baloadBooleans hx (by rw [eT]; exact A.1) (State.isArrayOf_alike hZ.alike A.2.1) A.2.2 (own_inb r hj hi hin) (by rw [hi, t i hin, hv]) hg hs hd
theorem own_iastore (X : Stand p l e R s m args below meth c T locs cells slots) (hx : p.tables.exec = Jvm.exec) (hZ : Z.Warmed39 s.vm) (eT : T.heap = h) (A : own_Av Z h a .int n f) {j x : Int32} (i : Nat) (hj : ¬ j < 0) (hi : j.toNatClampNeg = i) (hin : i < n) {g : JFrame} (hg : g.method = m) {rest : List Value} (hs : g.stack = .int x :: .int j :: .ref a :: rest) (hd : decode c.code g.pc = .ok (.iastore, 1)) :
    ∃ T' h', Stand p l e R s m args below meth c T' (locs ++ [⟨a, i⟩]) cells slots ∧ T'.heap = h' ∧ Wr h h' a i (.int x) ∧ own_Av Z h' a .int n (own_up f i (.int x)) ∧ ∀ t, Steps p.tables e below (T'.setTop { g with pc := g.pc + 1, stack := rest }) t → Steps p.tables e below (T.setTop g) t := by
  have B := A
  obtain ⟨c, A, r, -⟩ := A
  obtain ⟨T', h', X', e', W, st⟩ := stI X hx hZ eT A (own_inb r hj hi hin) hg hs hd
  rw [hi] at X' W
  exact ⟨T', h', X', e', W, B.same W hin, st⟩
theorem own_lastore (X : Stand p l e R s m args below meth c T locs cells slots) (hx : p.tables.exec = Jvm.exec) (hZ : Z.Warmed39 s.vm) (eT : T.heap = h) (A : own_Av Z h a .long n f) {j : Int32} {x : Int64} (i : Nat) (hj : ¬ j < 0) (hi : j.toNatClampNeg = i) (hin : i < n) {g : JFrame} (hg : g.method = m) {rest : List Value} (hs : g.stack = .long x :: .int j :: .ref a :: rest) (hd : decode c.code g.pc = .ok (.lastore, 1)) :
    ∃ T' h', Stand p l e R s m args below meth c T' (locs ++ [⟨a, i⟩]) cells slots ∧ T'.heap = h' ∧ Wr h h' a i (.long x) ∧ own_Av Z h' a .long n (own_up f i (.long x)) ∧ ∀ t, Steps p.tables e below (T'.setTop { g with pc := g.pc + 1, stack := rest }) t → Steps p.tables e below (T.setTop g) t := by
  have B := A
  obtain ⟨c, A, r, -⟩ := A
  obtain ⟨T', h', X', e', W, st⟩ := stJ X hx hZ eT A (own_inb r hj hi hin) hg hs hd
  rw [hi] at X' W
  exact ⟨T', h', X', e', W, B.same W hin, st⟩
theorem own_bastoreB (X : Stand p l e R s m args below meth c T locs cells slots) (hx : p.tables.exec = Jvm.exec) (hZ : Z.Warmed39 s.vm) (eT : T.heap = h) (A : own_Av Z h a .byte n f) {j x : Int32} (i : Nat) (hj : ¬ j < 0) (hi : j.toNatClampNeg = i) (hin : i < n) {y : Int32} (hy : nar .byte x = y) {g : JFrame} (hg : g.method = m) {rest : List Value} (hs : g.stack = .int x :: .int j :: .ref a :: rest) (hd : decode c.code g.pc = .ok (.bastore, 1)) :
    ∃ T' h', Stand p l e R s m args below meth c T' (locs ++ [⟨a, i⟩]) cells slots ∧ T'.heap = h' ∧ Wr h h' a i (.int y) ∧ own_Av Z h' a .byte n (own_up f i (.int y)) ∧ ∀ t, Steps p.tables e below (T'.setTop { g with pc := g.pc + 1, stack := rest }) t → Steps p.tables e below (T.setTop g) t := by
  have B := A
  obtain ⟨c, A, r, -⟩ := A
  obtain ⟨T', h', X', e', W, st⟩ := stB X hx hZ eT A (own_inb r hj hi hin) hg hs hd
  rw [hi] at X' W
  rw [hy] at W
  exact ⟨T', h', X', e', W, B.same W hin, st⟩
theorem own_bastoreZ (X : Stand p l e R s m args below meth c T locs cells slots) (hx : p.tables.exec = Jvm.exec) (hZ : Z.Warmed39 s.vm) (eT : T.heap = h) (A : own_Av Z h a .boolean n f) {j x : Int32} (i : Nat) (hj : ¬ j < 0) (hi : j.toNatClampNeg = i) (hin : i < n) {y : Int32} (hy : nar .boolean x = y) {g : JFrame} (hg : g.method = m) {rest : List Value} (hs : g.stack = .int x :: .int j :: .ref a :: rest) (hd : decode c.code g.pc = .ok (.bastore, 1)) :
    ∃ T' h', Stand p l e R s m args below meth c T' (locs ++ [⟨a, i⟩]) cells slots ∧ T'.heap = h' ∧ Wr h h' a i (.int y) ∧ own_Av Z h' a .boolean n (own_up f i (.int y)) ∧ ∀ t, Steps p.tables e below (T'.setTop { g with pc := g.pc + 1, stack := rest }) t → Steps p.tables e below (T.setTop g) t := by
  have B := A
  obtain ⟨c, A, r, -⟩ := A
  obtain ⟨T', h', X', e', W, st⟩ := stZ X hx hZ eT A (own_inb r hj hi hin) hg hs hd
  rw [hi] at X' W
  rw [hy] at W
  exact ⟨T', h', X', e', W, B.same W hin, st⟩
theorem own_newP (X : Stand p l e R s m args below meth c T locs cells slots) (hx : p.tables.exec = Jvm.exec) (hZ : Z.Warmed39 s.vm) {aty : ArrayType} (w : (Jvm.Cond.arrayClass (newarray.typeOf aty)).before a0 Z = true) (eT : T.heap = h) {z : Int32} (n : Nat) (hn : ¬ z < 0) (hz : z.toNatClampNeg = n) {cap : Nat} (hcap : n ≤ cap) (hb : cap * 8 ≤ 536870912) (hc : cells + 1 ≤ R.cells) (hl : slots + cap ≤ R.slots) {g : JFrame} (hg : g.method = m) {rest : List Value} (hs : g.stack = .int z :: rest) (hd : decode c.code g.pc = .ok (.newarray aty, 2)) :
    ∃ T' h' b, Stand p l e R s m args below meth c T' locs (cells + 1) (slots + cap) ∧ T'.heap = h' ∧ b = h.size ∧ Ext h h' ∧ own_Av Z h' b (newarray.typeOf aty) n (fun _ => defaultValue (newarray.typeOf aty)) ∧ ∀ t, Steps p.tables e below (T'.setTop { g with pc := g.pc + 2, stack := .ref b :: rest }) t → Steps p.tables e below (T.setTop g) t := by
  obtain ⟨T', h', k, X', e', E, A, st⟩ := newP X hx hZ w eT hg hd hs hn (cap := cap) (by rw [hz]; exact hcap) hb hc hl
  exact ⟨T', h', _, X', e', rfl, E, hz ▸ own_Av.new A, st⟩
theorem own_newO (X : Stand p l e R s m args below meth c T locs cells slots) (hx : p.tables.exec = Jvm.exec) (hZ : Z.Warmed39 s.vm) {own C : String} {index n : Nat} (hown : s.vm.findClass own = some m.cls) (w : (Jvm.Cond.classLink own index C).before a0 Z = true) (wi : (Jvm.Cond.instantiable C n).before a0 Z = true) (wz : (Jvm.Cond.initialized C).before a0 Z = true) (eT : T.heap = h) (hc : cells + 1 ≤ R.cells) (hl : slots + n ≤ R.slots) {g : JFrame} (hg : g.method = m) (hd : decode c.code g.pc = .ok (.new index, 3)) :
    ∃ T' h' b, Stand p l e R s m args below meth c T' locs (cells + 1) (slots + n) ∧ T'.heap = h' ∧ b = h.size ∧ Ext h h' ∧ Exa Z h' b C ∧ (∀ {O nm d : String} {ty : FieldType}, Laid Z a0 C O nm d → parseFieldDescriptor d = some ty → Fld Z h' b O nm d (defaultValue ty)) ∧ ∀ t, Steps p.tables e below (T'.setTop { g with pc := g.pc + 3, stack := .ref b :: g.stack }) t → Steps p.tables e below (T.setTop g) t := by
  obtain ⟨T', h', X', e', E, A, D, -, st⟩ := newO X hx hZ hown w wi wz eT hg hd hc hl
  exact ⟨T', h', _, X', e', rfl, E, A, D, st⟩
theorem own_frs {k : Nat} {sl : Nat} (N : Fr k locs) (q : k ≤ a) : Fr k (locs ++ [⟨a, sl⟩]) := by
  intro y hy
  rcases List.mem_append.mp hy with hy | hy
  · exact N y hy
  · rw [List.mem_singleton.mp hy]; exact q
/-! arrays of ints and longs by a function on places -/
def own_upI (f : Nat → Int32) (i : Nat) (v : Int32) : Nat → Int32 := fun j => if j = i then v else f j
def own_upJ (f : Nat → Int64) (i : Nat) (v : Int64) : Nat → Int64 := fun j => if j = i then v else f j
theorem own_Av.fI {gg : Nat → Int32} {i : Nat} {x : Int32} (F : own_Av Z h a ty n (own_up (fun k => .int (gg k)) i (.int x))) : own_Av Z h a ty n (fun k => .int (own_upI gg i x k)) :=
  F.cg fun j _ => by unfold own_up own_upI; split <;> rfl
theorem own_Av.fJ {gg : Nat → Int64} {i : Nat} {x : Int64} (F : own_Av Z h a ty n (own_up (fun k => .long (gg k)) i (.long x))) : own_Av Z h a ty n (fun k => .long (own_upJ gg i x k)) :=
  F.cg fun j _ => by unfold own_up own_upJ; split <;> rfl
end OwnKit
section OwnNums
theorem own_and_pow (b : Int32) (i : Nat) (m : Int32) (hm : m.toBitVec = BitVec.twoPow 32 i) : (b &&& m = 0) ↔ b.toBitVec.getLsbD i = false := by
  rw [← Int32.toBitVec_inj, Int32.toBitVec_and, hm, BitVec.and_twoPow]
  by_cases hi : i < 32
  · cases h : b.toBitVec.getLsbD i
    · simp
    · simp only [if_true, Int32.toBitVec_zero]
      constructor
      · intro q
        have := congrArg (fun v => BitVec.getLsbD v i) q
        simp [hi] at this
      · intro q; cases q
  · simp [BitVec.getLsbD_of_ge _ _ (Nat.le_of_not_lt hi)]
theorem own_shr_bit (b s : Int32) (i : Nat) (hi : i < 32) (hs : (s.toBitVec.smod 32).toNat = i) : ((b >>> s) &&& 1 = 0) ↔ b.toBitVec.getLsbD i = false := by
  rw [own_and_pow (b >>> s) 0 1 (by decide), Int32.toBitVec_shiftRight]
  simp only [BitVec.sshiftRight', hs, BitVec.getLsbD_sshiftRight]
  simp [hi]
theorem own_nat {x : Int32} (h : ¬ x < 0) : x.toInt = (x.toNatClampNeg : Int) := by
  have : 0 ≤ x.toInt := by
    have h2 := h
    rw [Int32.lt_iff_toInt_lt] at h2
    simpa using h2
  rw [Int32.toNatClampNeg, Int.toNat_of_nonneg this]
theorem own_in {j z : Int32} {n : Nat} (hn : n < 2 ^ 31) (hz : n.toInt32 = z) (hj : ¬ j < 0) (h : j < z) : j.toNatClampNeg < n := by
  have h1 := own_nat hj
  rw [Int32.lt_iff_toInt_lt, ← hz, len_toInt hn] at h
  omega
theorem own_and3 (x : Int32) : x &&& 3 = 0 ∨ x &&& 3 = 1 ∨ x &&& 3 = 2 ∨ x &&& 3 = 3 := by
  have hm : (x &&& 3).toInt = x.toInt % 2 ^ 2 := Jvm.Kit.i32_mask x 3 (by decide) (by decide)
  simp only [← Int32.toInt_inj, hm]
  show x.toInt % 2 ^ 2 = 0 ∨ x.toInt % 2 ^ 2 = 1 ∨ x.toInt % 2 ^ 2 = 2 ∨ x.toInt % 2 ^ 2 = 3
  omega
theorem own_nar1 {P : Prop} [Decidable P] {v : Int32} (h : v = if P then 0 else 1) : nar .boolean v = v := by subst h; split <;> decide
end OwnNums
theorem d1_0 : decode prog_8_method_1_code 0 = .ok (.aload_n 0, 1) := by decide +kernel
theorem d1_1 : decode prog_8_method_1_code 1 = .ok (.invokespecial 1, 3) := by decide +kernel
theorem d1_4 : decode prog_8_method_1_code 4 = .ok (.aload_n 0, 1) := by decide +kernel
theorem d1_5 : decode prog_8_method_1_code 5 = .ok (.iload_n 1, 1) := by decide +kernel
theorem d1_6 : decode prog_8_method_1_code 6 = .ok (.putfield 7, 3) := by decide +kernel
theorem d1_9 : decode prog_8_method_1_code 9 = .ok (.aload_n 0, 1) := by decide +kernel
theorem d1_10 : decode prog_8_method_1_code 10 = .ok (.aload_n 2, 1) := by decide +kernel
theorem d1_11 : decode prog_8_method_1_code 11 = .ok (.putfield 13, 3) := by decide +kernel
theorem d1_14 : decode prog_8_method_1_code 14 = .ok (.return_, 1) := by decide +kernel
theorem d2_0 : decode jdk_30_method_1_code 0 = .ok (.aload_n 0, 1) := by decide +kernel
theorem d2_1 : decode jdk_30_method_1_code 1 = .ok (.invokespecial 1, 3) := by decide +kernel
theorem d2_4 : decode jdk_30_method_1_code 4 = .ok (.return_, 1) := by decide +kernel
theorem d4_0 : decode prog_8_method_2_code 0 = .ok (.aload_n 0, 1) := by decide +kernel
theorem d4_1 : decode prog_8_method_2_code 1 = .ok (.getfield 13, 3) := by decide +kernel
theorem d4_4 : decode prog_8_method_2_code 4 = .ok (.aload_n 1, 1) := by decide +kernel
theorem d4_5 : decode prog_8_method_2_code 5 = .ok (.aload_n 0, 1) := by decide +kernel
theorem d4_6 : decode prog_8_method_2_code 6 = .ok (.getfield 7, 3) := by decide +kernel
theorem d4_9 : decode prog_8_method_2_code 9 = .ok (.iaload, 1) := by decide +kernel
theorem d4_10 : decode prog_8_method_2_code 10 = .ok (.baload, 1) := by decide +kernel
theorem d4_11 : decode prog_8_method_2_code 11 = .ok (.ireturn, 1) := by decide +kernel
theorem pd0 : parseMethodDescriptor "()V" = some ⟨[], none⟩ := by decide +kernel
theorem pd1 : parseMethodDescriptor "(I[Z)V" = some ⟨[.int, (.array .boolean)], none⟩ := by decide +kernel
theorem pd2 : parseMethodDescriptor "([I)Z" = some ⟨[(.array .int)], some .boolean⟩ := by decide +kernel
def own_bit (b : Int32) (i : Nat) : Int32 := if i = 0 then (if b &&& 1 = 0 then 0 else 1) else if i = 1 then (if b &&& 2 = 0 then 0 else 1) else if i = 2 then (if b &&& 4 = 0 then 0 else 1) else (if b &&& 8 = 0 then 0 else 1)
def own_row (a b c : Int32) (i : Nat) : Int32 := if i = 0 then a else if i = 1 then b else c
theorem own_narb (b : Int32) (i : Nat) : narrow .boolean (.int (own_bit b i)) = .int (own_bit b i) := by
  unfold own_bit; split
  · split <;> rfl
  · split
    · split <;> rfl
    · split
      · split <;> rfl
      · split <;> rfl
theorem own_rem3 (x : Int32) : (x &&& 2147483647) % 3 = 0 ∨ (x &&& 2147483647) % 3 = 1 ∨ (x &&& 2147483647) % 3 = 2 := by
  have hm : (x &&& 2147483647).toInt = x.toInt % 2 ^ 31 := Jvm.Kit.i32_mask x 2147483647 (by decide) (by decide)
  have hr : ((x &&& 2147483647) % 3).toInt = (x &&& 2147483647).toInt % 3 := Jvm.Kit.i32_rem_nonneg (by rw [hm]; omega)
  simp only [← Int32.toInt_inj, hr, hm]
  show x.toInt % 2 ^ 31 % 3 = 0 ∨ x.toInt % 2 ^ 31 % 3 = 1 ∨ x.toInt % 2 ^ 31 % 3 = 2
  omega
theorem own_bit_at (b : Int32) {s : Int32} (h : s = 0 ∨ s = 1 ∨ s = 2 ∨ s = 3) : own_bit b s.toNatClampNeg = if (b >>> (s &&& 31)) &&& 1 = 0 then 0 else 1 := by
  rcases h with rfl | rfl | rfl | rfl
  · simp only [own_shr_bit b ((0 : Int32) &&& 31) 0 (by decide) (by decide), ← own_and_pow b 0 1 (by decide)]; rfl
  · simp only [own_shr_bit b ((1 : Int32) &&& 31) 1 (by decide) (by decide), ← own_and_pow b 1 2 (by decide)]; rfl
  · simp only [own_shr_bit b ((2 : Int32) &&& 31) 2 (by decide) (by decide), ← own_and_pow b 2 4 (by decide)]; rfl
  · simp only [own_shr_bit b ((3 : Int32) &&& 31) 3 (by decide) (by decide), ← own_and_pow b 3 8 (by decide)]; rfl
theorem own_r4 {a b c : Int32} {i : Nat} (ha : a = 0 ∨ a = 1 ∨ a = 2 ∨ a = 3) (hb : b = 0 ∨ b = 1 ∨ b = 2 ∨ b = 3) (hc : c = 0 ∨ c = 1 ∨ c = 2 ∨ c = 3) : ¬ (own_row a b c i < (0 : Int32)) ∧ (own_row a b c i).toNatClampNeg < 4 := by
  have q : ∀ x : Int32, (x = 0 ∨ x = 1 ∨ x = 2 ∨ x = 3) → ¬ (x < (0 : Int32)) ∧ x.toNatClampNeg < 4 := by
    intro x h; rcases h with rfl | rfl | rfl | rfl <;> decide
  unfold own_row
  split
  · exact q _ ha
  · split
    · exact q _ hb
    · exact q _ hc
theorem pn_2 : plainName "java/lang/Record" = true := by first | (simp [plainName, overriddenIn]; done) | decide +kernel
theorem ef_2 (m : MethodId) (x0 : Addr) : entryFrame m #[(.ref x0)] 1 = mkF m 0 #[.val (.ref x0)] [] := by first | (simp [entryFrame, mkF, argsToLocals, Value.category]; done) | rfl
set_option maxRecDepth 65536 in
set_option maxHeartbeats 40000000 in
theorem own_rm2 (l : Launch) (Z : State) (a0 : Array Value) (hw : ∀ d ∈ tables_1, d.before a0 Z = true) (a : Addr)  (h0 : Heap) (n0 : Nat) (Z0 : n0 ≤ h0.size) :
    own_Ct l Z (⟨"java/lang/Record", "<init>", "()V"⟩ : MethodName) jdk_30_method_1_code 1 none ({ frames := 1, cells := 0, slots := 0, locals := 12 } : Room) #[(.ref a)] h0 (fun v h L => v = none ∧ Fr n0 L ∧ h = h0) := by
  refine own_enter (plainFor_of_name pn_2) ?_
  intro p e s m below meth c s₁ X0 C e0
  obtain ⟨hx, hZ, hby, hml, hown, hnm, hret, hlk⟩ := C
  replace hown : s.vm.findClass "java/lang/Record" = some m.cls := hown
  replace hml : c.maxLocals = 1 := hml
  replace hret : meth.sig.returnType = none := hret
  have N0 := Fr.nil n0
  refine own_cast (ef_2 m a) ?_
  refine own_st (T' := s₁) (g' := (mkF m 1 #[.val (.ref a)] [(.ref a)])) (fun tq kq => XS.aloadN (g := (mkF m 0 #[.val (.ref a)] [])) X0.here hx rfl (hb hby d2_0) rfl rfl kq) ?_
  obtain ⟨T1, X1, e1, st1⟩ := initO X0 hx hZ hown (hw _ (List.mem_of_getElem? (i := 14) rfl)) (hw _ (List.mem_of_getElem? (i := 15) rfl)) (hw _ (List.mem_of_getElem? (i := 16) rfl)) e0 (g := (mkF m 1 #[.val (.ref a)] [(.ref a)])) rfl (by rw [hml]; rfl) rfl (hb hby d2_1) (by decide) (W := 0) (by show 2 * 0 + _ ≤ _; exact Nat.le_of_eq rfl) (by decide)
  refine own_st (g' := (mkF m 4 #[.val (.ref a)] [])) st1 ?_
  refine own_retV X1 hx hlk hret (hb hby d2_4) ?_ (by decide) (by decide)
  refine ⟨?_, N0, e1⟩
  rfl
theorem pn_1 : plainName "com/example/coverweave/coverweave/Constraint$ValueIn" = true := by first | (simp [plainName, overriddenIn]; done) | decide +kernel
theorem ef_1 (m : MethodId) (x0 : Addr) (x1 : Int32) (x2 : Addr) : entryFrame m #[(.ref x0), (.int x1), (.ref x2)] 3 = mkF m 0 #[.val (.ref x0), .val (.int x1), .val (.ref x2)] [] := by first | (simp [entryFrame, mkF, argsToLocals, Value.category]; done) | rfl
set_option maxRecDepth 65536 in
set_option maxHeartbeats 40000000 in
theorem own_rm1 (l : Launch) (Z : State) (a0 : Array Value) (hw : ∀ d ∈ tables_1, d.before a0 Z = true) (a : Addr) (k : Int32) (t : Addr)  (h0 : Heap) (n0 : Nat) (Z0 : n0 ≤ h0.size) (ga : n0 ≤ a) (E_a : Exa Z h0 a "com/example/coverweave/coverweave/Constraint$ValueIn") (F_parameter : Fld Z h0 a "com/example/coverweave/coverweave/Constraint$ValueIn" "parameter" "I" (.int (0 : Int32))) (F_holds : Fld Z h0 a "com/example/coverweave/coverweave/Constraint$ValueIn" "holds" "[Z" .null) :
    own_Ct l Z (⟨"com/example/coverweave/coverweave/Constraint$ValueIn", "<init>", "(I[Z)V"⟩ : MethodName) prog_8_method_1_code 3 none ({ frames := 2, cells := 0, slots := 0, locals := 24 } : Room) #[(.ref a), (.int k), (.ref t)] h0 (fun v h L => v = none ∧ Fr n0 L ∧ Keep h0 h [a] ∧ Exa Z h a "com/example/coverweave/coverweave/Constraint$ValueIn" ∧ Fld Z h a "com/example/coverweave/coverweave/Constraint$ValueIn" "parameter" "I" (.int k) ∧ Fld Z h a "com/example/coverweave/coverweave/Constraint$ValueIn" "holds" "[Z" (.ref t)) := by
  refine own_enter (plainFor_of_name pn_1) ?_
  intro p e s m below meth c s₁ X0 C e0
  obtain ⟨hx, hZ, hby, hml, hown, hnm, hret, hlk⟩ := C
  replace hown : s.vm.findClass "com/example/coverweave/coverweave/Constraint$ValueIn" = some m.cls := hown
  replace hml : c.maxLocals = 3 := hml
  replace hret : meth.sig.returnType = none := hret
  have N0 := Fr.nil n0
  refine own_cast (ef_1 m a k t) ?_
  refine own_st (T' := s₁) (g' := (mkF m 1 #[.val (.ref a), .val (.int k), .val (.ref t)] [(.ref a)])) (fun tq kq => XS.aloadN (g := (mkF m 0 #[.val (.ref a), .val (.int k), .val (.ref t)] [])) X0.here hx rfl (hb hby d1_0) rfl rfl kq) ?_
  refine own_callI X0 hx hZ (y := (⟨"java/lang/Record", "<init>", "()V"⟩ : MethodName)) (argsL := []) (a := a) rfl hown (hw _ (List.mem_of_getElem? (i := 9) rfl)) (hw _ (List.mem_of_getElem? (i := 10) rfl)) (hw _ (List.mem_of_getElem? (i := 12) rfl)) (hw _ (List.mem_of_getElem? (i := 13) rfl)) (by decide) e0 (own_rm2 l Z a0 hw a  h0 n0 (Nat.le_trans Z0 (Nat.le_refl _)) ) (W := 0) (by decide) (by decide) (by decide) (by decide) pd0 rfl (g := (mkF m 1 #[.val (.ref a), .val (.int k), .val (.ref t)] [(.ref a)])) rfl (by rw [hml]; rfl) (rest := []) rfl (by show 2 * 0 + _ ≤ _; exact Nat.le_of_eq rfl) (hb hby d1_1) (fun v9 T9 L9 X9 q9 => ?_)
  obtain ⟨rfl, N9q, e9⟩ := q9
  have N9 := Fr.app N0 N9q
  replace e9 := e9
  show own_Go _ _ _ _ _ _ _ T9 (mkF m 4 #[.val (.ref a), .val (.int k), .val (.ref t)] [])
  refine own_st (T' := T9) (g' := (mkF m 6 #[.val (.ref a), .val (.int k), .val (.ref t)] [(.int k), (.ref a)])) (fun tq kq => XS.aloadN (g := (mkF m 4 #[.val (.ref a), .val (.int k), .val (.ref t)] [])) X9.here hx rfl (hb hby d1_4) rfl rfl (XS.iloadN (g := (mkF m 5 #[.val (.ref a), .val (.int k), .val (.ref t)] [(.ref a)])) X9.here hx rfl (hb hby d1_5) rfl kq)) ?_
  obtain ⟨T10, h10, X10, e10, W10, st10⟩ := putF X9 hx hZ hown (host := "") (Or.inl (hw _ (List.mem_of_getElem? (i := 17) rfl))) Via.refl e9 F_parameter E_a (Or.inr ⟨(hw _ (List.mem_of_getElem? (i := 18) rfl)), rfl, hnm⟩) (hw _ (List.mem_of_getElem? (i := 4) rfl)) (ty := .int) (by decide) rfl rfl (g := (mkF m 6 #[.val (.ref a), .val (.int k), .val (.ref t)] [(.int k), (.ref a)])) rfl rfl (hb hby d1_6)
  refine own_st (g' := (mkF m 9 #[.val (.ref a), .val (.int k), .val (.ref t)] [])) st10 ?_
  have F10 := Fld.same W10 F_parameter
  have N10 := Fr.snoc X10 N9 ga
  refine own_st (T' := T10) (g' := (mkF m 11 #[.val (.ref a), .val (.int k), .val (.ref t)] [(.ref t), (.ref a)])) (fun tq kq => XS.aloadN (g := (mkF m 9 #[.val (.ref a), .val (.int k), .val (.ref t)] [])) X10.here hx rfl (hb hby d1_9) rfl rfl (XS.aloadN (g := (mkF m 10 #[.val (.ref a), .val (.int k), .val (.ref t)] [(.ref a)])) X10.here hx rfl (hb hby d1_10) rfl rfl kq)) ?_
  have Ea_11 := (Exa.wr W10 E_a)
  have Fa_holds_12 := (Fld.other W10 F_holds (Or.inr (slot_ne (C := "com/example/coverweave/coverweave/Constraint$ValueIn") (t := (.array .boolean)) (t' := .int) (Or.inr (hw _ (List.mem_of_getElem? (i := 20) rfl))) (Or.inr (hw _ (List.mem_of_getElem? (i := 18) rfl))) (by decide) (by decide) (by decide))))
  obtain ⟨T13, h13, X13, e13, W13, st13⟩ := putF X10 hx hZ hown (host := "") (Or.inl (hw _ (List.mem_of_getElem? (i := 19) rfl))) Via.refl e10 Fa_holds_12 Ea_11 (Or.inr ⟨(hw _ (List.mem_of_getElem? (i := 20) rfl)), rfl, hnm⟩) (hw _ (List.mem_of_getElem? (i := 4) rfl)) (ty := (.array .boolean)) (by decide) rfl rfl (g := (mkF m 11 #[.val (.ref a), .val (.int k), .val (.ref t)] [(.ref t), (.ref a)])) rfl rfl (hb hby d1_11)
  refine own_st (g' := (mkF m 14 #[.val (.ref a), .val (.int k), .val (.ref t)] [])) st13 ?_
  have F13 := Fld.same W13 Fa_holds_12
  have N13 := Fr.snoc X13 N10 ga
  refine own_retV X13 hx hlk hret (hb hby d1_14) ?_ (by decide) (by decide)
  have Fa_parameter_14 := (Fld.other W13 F10 (Or.inr (slot_ne (C := "com/example/coverweave/coverweave/Constraint$ValueIn") (t := .int) (t' := (.array .boolean)) (Or.inr (hw _ (List.mem_of_getElem? (i := 18) rfl))) (Or.inr (hw _ (List.mem_of_getElem? (i := 20) rfl))) (by decide) (by decide) (by decide))))
  have Ea_15 := (Exa.wr W13 Ea_11)
  rw [e13]
  exact ⟨rfl, N13, (Keep.wr (Keep.wr (Keep.refl _ _) W10 (Or.inl (List.mem_of_getElem? (i := 0) rfl))) W13 (Or.inl (List.mem_of_getElem? (i := 0) rfl))), Ea_15, Fa_parameter_14, F13⟩
theorem pn_4 : plainName "com/example/coverweave/coverweave/Constraint$ValueIn" = true := by first | (simp [plainName, overriddenIn]; done) | decide +kernel
theorem ef_4 (m : MethodId) (x0 : Addr) (x1 : Addr) : entryFrame m #[(.ref x0), (.ref x1)] 2 = mkF m 0 #[.val (.ref x0), .val (.ref x1)] [] := by first | (simp [entryFrame, mkF, argsToLocals, Value.category]; done) | rfl
set_option maxRecDepth 65536 in
set_option maxHeartbeats 40000000 in
theorem own_rm4 (l : Launch) (Z : State) (a0 : Array Value) (hw : ∀ d ∈ tables_1, d.before a0 Z = true) (a : Addr) (r : Addr) (k : Int32) (t : Addr) (B R : Nat → Int32) (h0 : Heap) (n0 : Nat) (Z0 : n0 ≤ h0.size) (F1 : Fld Z h0 a "com/example/coverweave/coverweave/Constraint$ValueIn" "parameter" "I" (.int k)) (F2 : Fld Z h0 a "com/example/coverweave/coverweave/Constraint$ValueIn" "holds" "[Z" (.ref t)) (hB : own_Av Z h0 t .boolean 4 (fun i => .int (B i))) (hR : own_Av Z h0 r .int 3 (fun i => .int (R i))) (hk : ¬ k < 0) (hk3 : k.toNatClampNeg < 3) (hr : ¬ R k.toNatClampNeg < 0) (hr4 : (R k.toNatClampNeg).toNatClampNeg < 4) (hn : ∀ i, narrow .boolean (.int (B i)) = .int (B i)) :
    own_Ct l Z (⟨"com/example/coverweave/coverweave/Constraint$ValueIn", "holds", "([I)Z"⟩ : MethodName) prog_8_method_2_code 2 (some .boolean) ({ frames := 0, cells := 0, slots := 0, locals := 0 } : Room) #[(.ref a), (.ref r)] h0 (fun v h L => v = some (.int (B (R k.toNatClampNeg).toNatClampNeg)) ∧ Fr n0 L ∧ h = h0) := by
  refine own_enter (plainFor_of_name pn_4) ?_
  intro p e s m below meth c s₁ X0 C e0
  obtain ⟨hx, hZ, hby, hml, hown, hnm, hret, hlk⟩ := C
  replace hown : s.vm.findClass "com/example/coverweave/coverweave/Constraint$ValueIn" = some m.cls := hown
  replace hml : c.maxLocals = 2 := hml
  replace hret : meth.sig.returnType = (some .boolean) := hret
  have N0 := Fr.nil n0
  refine own_cast (ef_4 m a r) ?_
  refine own_st (T' := s₁) (g' := (mkF m 1 #[.val (.ref a), .val (.ref r)] [(.ref a)])) (fun tq kq => XS.aloadN (g := (mkF m 0 #[.val (.ref a), .val (.ref r)] [])) X0.here hx rfl (hb hby d4_0) rfl rfl kq) ?_
  obtain ⟨T16, X16, e16, st16⟩ := getF X0 hx hZ hown (host := "") (Or.inl (hw _ (List.mem_of_getElem? (i := 19) rfl))) Via.refl e0 F2 (g := (mkF m 1 #[.val (.ref a), .val (.ref r)] [(.ref a)])) rfl rfl (hb hby d4_1)
  refine own_st (g' := (mkF m 4 #[.val (.ref a), .val (.ref r)] [(.ref t)])) st16 ?_
  refine own_st (T' := T16) (g' := (mkF m 6 #[.val (.ref a), .val (.ref r)] [(.ref a), (.ref r), (.ref t)])) (fun tq kq => XS.aloadN (g := (mkF m 4 #[.val (.ref a), .val (.ref r)] [(.ref t)])) X16.here hx rfl (hb hby d4_4) rfl rfl (XS.aloadN (g := (mkF m 5 #[.val (.ref a), .val (.ref r)] [(.ref r), (.ref t)])) X16.here hx rfl (hb hby d4_5) rfl rfl kq)) ?_
  obtain ⟨T17, X17, e17, st17⟩ := getF X16 hx hZ hown (host := "") (Or.inl (hw _ (List.mem_of_getElem? (i := 17) rfl))) Via.refl e16 F1 (g := (mkF m 6 #[.val (.ref a), .val (.ref r)] [(.ref a), (.ref r), (.ref t)])) rfl rfl (hb hby d4_6)
  refine own_st (g' := (mkF m 9 #[.val (.ref a), .val (.ref r)] [(.int k), (.ref r), (.ref t)])) st17 ?_
  refine own_st (T' := T17) (g' := (mkF m 11 #[.val (.ref a), .val (.ref r)] [(.int (B (R k.toNatClampNeg).toNatClampNeg))])) (fun tq kq => own_iaload X17 hx hZ e17 hR (k.toNatClampNeg) hk rfl hk3 (v := (.int (R k.toNatClampNeg))) rfl (g := (mkF m 9 #[.val (.ref a), .val (.ref r)] [(.int k), (.ref r), (.ref t)])) rfl rfl (hb hby d4_9) tq (own_baloadZ X17 hx hZ e17 hB ((R k.toNatClampNeg).toNatClampNeg) hr rfl hr4 (v := (.int (B (R k.toNatClampNeg).toNatClampNeg))) rfl (g := (mkF m 10 #[.val (.ref a), .val (.ref r)] [(.int (R k.toNatClampNeg)), (.ref t)])) rfl rfl (hb hby d4_10) tq kq)) ?_
  refine own_retI X17 hx hlk hret (by simp) (hn _) (hb hby d4_11) ?_ (by decide) (by decide)
  refine ⟨?_, N0, e17⟩
  rfl
theorem pn_0 : plainName "com/example/coverweave/coverweave/ValueInHoldsPinLaw" = true := by first | (simp [plainName, overriddenIn]; done) | decide +kernel
theorem ef_0 (m : MethodId) (x0 : Int32) (x1 : Int32) (x2 : Int32) (x3 : Int32) (x4 : Int32) : entryFrame m #[(.int x0), (.int x1), (.int x2), (.int x3), (.int x4)] maxLocals = mkF m 0 #[.val (.int x0), .val (.int x1), .val (.int x2), .val (.int x3), .val (.int x4), .unset, .unset, .unset, .unset, .unset, .unset, .unset, .unset, .unset, .unset] [] := by first | (simp [entryFrame, mkF, argsToLocals, Value.category, maxLocals]; done) | rfl
set_option maxRecDepth 65536 in
set_option maxHeartbeats 40000000 in
theorem own_rm0 (l : Launch) (Z : State) (a0 : Array Value) (hw : ∀ d ∈ tables_1, d.before a0 Z = true) (p0 : Int32) (p1 : Int32) (p2 : Int32) (p3 : Int32) (p4 : Int32)  (h0 : Heap) (n0 : Nat) (Z0 : n0 ≤ h0.size) :
    own_Ct l Z x code maxLocals ret room_1 #[(.int p0), (.int p1), (.int p2), (.int p3), (.int p4)] h0 (fun v h L => v = some (.int 1) ∧ Fr n0 L) := by
  refine own_enter (plainFor_of_name pn_0) ?_
  intro p e s m below meth c s₁ X0 C e0
  obtain ⟨hx, hZ, hby, hml, hown, hnm, hret, hlk⟩ := C
  replace hown : s.vm.findClass "com/example/coverweave/coverweave/ValueInHoldsPinLaw" = some m.cls := hown
  replace hml : c.maxLocals = 15 := hml
  replace hret : meth.sig.returnType = (some .boolean) := hret
  have N0 := Fr.nil n0
  refine own_cast (ef_0 m p0 p1 p2 p3 p4) ?_
  refine own_st (T' := s₁) (g' := (mkF m 8 #[.val (.int p0), .val (.int p1), .val (.int p2), .val (.int p3), .val (.int p4), .val (.int ((p0 &&& (2147483647 : Int32)) % (3 : Int32))), .unset, .unset, .unset, .unset, .unset, .unset, .unset, .unset, .unset] [])) (fun tq kq => XS.iloadN (g := (mkF m 0 #[.val (.int p0), .val (.int p1), .val (.int p2), .val (.int p3), .val (.int p4), .unset, .unset, .unset, .unset, .unset, .unset, .unset, .unset, .unset, .unset] [])) X0.here hx rfl (hb hby at_0) rfl (X0.ldcInt hx hown (mvT hZ (hw _ (List.mem_of_getElem? (i := 0) rfl))) (g := (mkF m 1 #[.val (.int p0), .val (.int p1), .val (.int p2), .val (.int p3), .val (.int p4), .unset, .unset, .unset, .unset, .unset, .unset, .unset, .unset, .unset, .unset] [(.int p0)])) rfl (hb hby at_1) tq (XS.iand (g := (mkF m 3 #[.val (.int p0), .val (.int p1), .val (.int p2), .val (.int p3), .val (.int p4), .unset, .unset, .unset, .unset, .unset, .unset, .unset, .unset, .unset, .unset] [(.int (2147483647 : Int32)), (.int p0)])) X0.here hx rfl (hb hby at_3) rfl (XS.iconst (g := (mkF m 4 #[.val (.int p0), .val (.int p1), .val (.int p2), .val (.int p3), .val (.int p4), .unset, .unset, .unset, .unset, .unset, .unset, .unset, .unset, .unset, .unset] [(.int (p0 &&& (2147483647 : Int32)))])) X0.here hx rfl (hb hby at_4) (iremM (g := (mkF m 5 #[.val (.int p0), .val (.int p1), .val (.int p2), .val (.int p3), .val (.int p4), .unset, .unset, .unset, .unset, .unset, .unset, .unset, .unset, .unset, .unset] [(.int (3 : Int32)), (.int (p0 &&& (2147483647 : Int32)))])) X0 hx rfl (hb hby at_5) rfl (by decide) (XS.istore (g := (mkF m 6 #[.val (.int p0), .val (.int p1), .val (.int p2), .val (.int p3), .val (.int p4), .unset, .unset, .unset, .unset, .unset, .unset, .unset, .unset, .unset, .unset] [(.int ((p0 &&& (2147483647 : Int32)) % (3 : Int32)))])) X0.here hx rfl (hb hby at_6) rfl (l' := #[.val (.int p0), .val (.int p1), .val (.int p2), .val (.int p3), .val (.int p4), .val (.int ((p0 &&& (2147483647 : Int32)) % (3 : Int32))), .unset, .unset, .unset, .unset, .unset, .unset, .unset, .unset, .unset]) rfl kq)))))) ?_
  generalize hu18 : ((p0 &&& (2147483647 : Int32)) % (3 : Int32)) = u18
  refine own_st (T' := s₁) (g' := (mkF m 9 #[.val (.int p0), .val (.int p1), .val (.int p2), .val (.int p3), .val (.int p4), .val (.int u18), .unset, .unset, .unset, .unset, .unset, .unset, .unset, .unset, .unset] [(.int (4 : Int32))])) (fun tq kq => XS.iconst (g := (mkF m 8 #[.val (.int p0), .val (.int p1), .val (.int p2), .val (.int p3), .val (.int p4), .val (.int u18), .unset, .unset, .unset, .unset, .unset, .unset, .unset, .unset, .unset] [])) X0.here hx rfl (hb hby at_8) kq) ?_
  obtain ⟨T19, h19, b19, X19, e19, g19, E19, A19, st19⟩ := own_newP X0 hx hZ (hw _ (List.mem_of_getElem? (i := 1) rfl)) e0 (4) (by decide) (by decide) (cap := 4) (by decide) (by decide) (by decide) (by decide) (g := (mkF m 9 #[.val (.int p0), .val (.int p1), .val (.int p2), .val (.int p3), .val (.int p4), .val (.int u18), .unset, .unset, .unset, .unset, .unset, .unset, .unset, .unset, .unset] [(.int (4 : Int32))])) rfl rfl (hb hby at_9)
  refine own_st (g' := (mkF m 11 #[.val (.int p0), .val (.int p1), .val (.int p2), .val (.int p3), .val (.int p4), .val (.int u18), .unset, .unset, .unset, .unset, .unset, .unset, .unset, .unset, .unset] [(.ref b19)])) st19 ?_
  refine own_st (T' := T19) (g' := (mkF m 19 #[.val (.int p0), .val (.int p1), .val (.int p2), .val (.int p3), .val (.int p4), .val (.int u18), .val (.ref b19), .unset, .unset, .unset, .unset, .unset, .unset, .unset, .unset] [(.int (p1 &&& (1 : Int32))), (.int (0 : Int32)), (.ref b19)])) (fun tq kq => XS.astore (g := (mkF m 11 #[.val (.int p0), .val (.int p1), .val (.int p2), .val (.int p3), .val (.int p4), .val (.int u18), .unset, .unset, .unset, .unset, .unset, .unset, .unset, .unset, .unset] [(.ref b19)])) X19.here hx rfl (hb hby at_11) rfl rfl (l' := #[.val (.int p0), .val (.int p1), .val (.int p2), .val (.int p3), .val (.int p4), .val (.int u18), .val (.ref b19), .unset, .unset, .unset, .unset, .unset, .unset, .unset, .unset]) rfl (XS.aload (g := (mkF m 13 #[.val (.int p0), .val (.int p1), .val (.int p2), .val (.int p3), .val (.int p4), .val (.int u18), .val (.ref b19), .unset, .unset, .unset, .unset, .unset, .unset, .unset, .unset] [])) X19.here hx rfl (hb hby at_13) rfl rfl (XS.iconst (g := (mkF m 15 #[.val (.int p0), .val (.int p1), .val (.int p2), .val (.int p3), .val (.int p4), .val (.int u18), .val (.ref b19), .unset, .unset, .unset, .unset, .unset, .unset, .unset, .unset] [(.ref b19)])) X19.here hx rfl (hb hby at_15) (XS.iloadN (g := (mkF m 16 #[.val (.int p0), .val (.int p1), .val (.int p2), .val (.int p3), .val (.int p4), .val (.int u18), .val (.ref b19), .unset, .unset, .unset, .unset, .unset, .unset, .unset, .unset] [(.int (0 : Int32)), (.ref b19)])) X19.here hx rfl (hb hby at_16) rfl (XS.iconst (g := (mkF m 17 #[.val (.int p0), .val (.int p1), .val (.int p2), .val (.int p3), .val (.int p4), .val (.int u18), .val (.ref b19), .unset, .unset, .unset, .unset, .unset, .unset, .unset, .unset] [(.int p1), (.int (0 : Int32)), (.ref b19)])) X19.here hx rfl (hb hby at_17) (XS.iand (g := (mkF m 18 #[.val (.int p0), .val (.int p1), .val (.int p2), .val (.int p3), .val (.int p4), .val (.int u18), .val (.ref b19), .unset, .unset, .unset, .unset, .unset, .unset, .unset, .unset] [(.int (1 : Int32)), (.int p1), (.int (0 : Int32)), (.ref b19)])) X19.here hx rfl (hb hby at_18) rfl kq)))))) ?_
  suffices J27_v20 : ∀ v20 : Int32, v20 = (if (p1 &&& (1 : Int32)) = (0 : Int32) then (0 : Int32) else (1 : Int32)) → own_Go p e below s (fun v h L => v = some (.int 1) ∧ Fr n0 L) room_1.cells room_1.slots T19 (mkF m 27 #[.val (.int p0), .val (.int p1), .val (.int p2), .val (.int p3), .val (.int p4), .val (.int u18), .val (.ref b19), .unset, .unset, .unset, .unset, .unset, .unset, .unset, .unset] [(.int v20), (.int (0 : Int32)), (.ref b19)]) by
    by_cases hc19_21 : (p1 &&& (1 : Int32)) = (0 : Int32)
    · refine own_st (T' := T19) (g' := (mkF m 27 #[.val (.int p0), .val (.int p1), .val (.int p2), .val (.int p3), .val (.int p4), .val (.int u18), .val (.ref b19), .unset, .unset, .unset, .unset, .unset, .unset, .unset, .unset] [(.int (0 : Int32)), (.int (0 : Int32)), (.ref b19)])) (fun tq kq => XS.ifYes (g := (mkF m 19 #[.val (.int p0), .val (.int p1), .val (.int p2), .val (.int p3), .val (.int p4), .val (.int u18), .val (.ref b19), .unset, .unset, .unset, .unset, .unset, .unset, .unset, .unset] [(.int (p1 &&& (1 : Int32))), (.int (0 : Int32)), (.ref b19)])) X19.here hx rfl (pc0 := 19) (pc' := 26) rfl (hb hby at_19) rfl ((if0 _ _).trans (teq hc19_21).1) (by decide) (by decide) (XS.iconst (g := (mkF m 26 #[.val (.int p0), .val (.int p1), .val (.int p2), .val (.int p3), .val (.int p4), .val (.int u18), .val (.ref b19), .unset, .unset, .unset, .unset, .unset, .unset, .unset, .unset] [(.int (0 : Int32)), (.ref b19)])) X19.here hx rfl (hb hby at_26) kq)) ?_
      exact J27_v20 _ ((if_pos hc19_21).symm)
    · refine own_st (T' := T19) (g' := (mkF m 27 #[.val (.int p0), .val (.int p1), .val (.int p2), .val (.int p3), .val (.int p4), .val (.int u18), .val (.ref b19), .unset, .unset, .unset, .unset, .unset, .unset, .unset, .unset] [(.int (1 : Int32)), (.int (0 : Int32)), (.ref b19)])) (fun tq kq => XS.ifNo (g := (mkF m 19 #[.val (.int p0), .val (.int p1), .val (.int p2), .val (.int p3), .val (.int p4), .val (.int u18), .val (.ref b19), .unset, .unset, .unset, .unset, .unset, .unset, .unset, .unset] [(.int (p1 &&& (1 : Int32))), (.int (0 : Int32)), (.ref b19)])) X19.here hx rfl (hb hby at_19) rfl ((if0 _ _).trans (feq hc19_21).1) (XS.iconst (g := (mkF m 22 #[.val (.int p0), .val (.int p1), .val (.int p2), .val (.int p3), .val (.int p4), .val (.int u18), .val (.ref b19), .unset, .unset, .unset, .unset, .unset, .unset, .unset, .unset] [(.int (0 : Int32)), (.ref b19)])) X19.here hx rfl (hb hby at_22) (XS.goto (g := (mkF m 23 #[.val (.int p0), .val (.int p1), .val (.int p2), .val (.int p3), .val (.int p4), .val (.int u18), .val (.ref b19), .unset, .unset, .unset, .unset, .unset, .unset, .unset, .unset] [(.int (1 : Int32)), (.int (0 : Int32)), (.ref b19)])) X19.here hx rfl (pc0 := 23) (pc' := 27) rfl (hb hby at_23) (by decide) (by decide) kq))) ?_
      exact J27_v20 _ ((if_neg hc19_21).symm)
  intro v20 hv20
  obtain ⟨T22, h22, X22, e22, W22, A22, st22⟩ := own_bastoreZ X19 hx hZ e19 A19 (0) (by decide) (by decide) (by decide) (y := v20) (own_nar1 hv20) (g := (mkF m 27 #[.val (.int p0), .val (.int p1), .val (.int p2), .val (.int p3), .val (.int p4), .val (.int u18), .val (.ref b19), .unset, .unset, .unset, .unset, .unset, .unset, .unset, .unset] [(.int v20), (.int (0 : Int32)), (.ref b19)])) rfl rfl (hb hby at_27)
  refine own_st (g' := (mkF m 28 #[.val (.int p0), .val (.int p1), .val (.int p2), .val (.int p3), .val (.int p4), .val (.int u18), .val (.ref b19), .unset, .unset, .unset, .unset, .unset, .unset, .unset, .unset] [])) st22 ?_
  have n0_b19 : n0 ≤ b19 := Nat.le_trans (Nat.le_trans Z0 (Nat.le_refl _)) (Nat.le_of_eq g19.symm)
  have N22 := Fr.snoc X22 N0 n0_b19
  refine own_st (T' := T22) (g' := (mkF m 34 #[.val (.int p0), .val (.int p1), .val (.int p2), .val (.int p3), .val (.int p4), .val (.int u18), .val (.ref b19), .unset, .unset, .unset, .unset, .unset, .unset, .unset, .unset] [(.int (p1 &&& (2 : Int32))), (.int (1 : Int32)), (.ref b19)])) (fun tq kq => XS.aload (g := (mkF m 28 #[.val (.int p0), .val (.int p1), .val (.int p2), .val (.int p3), .val (.int p4), .val (.int u18), .val (.ref b19), .unset, .unset, .unset, .unset, .unset, .unset, .unset, .unset] [])) X22.here hx rfl (hb hby at_28) rfl rfl (XS.iconst (g := (mkF m 30 #[.val (.int p0), .val (.int p1), .val (.int p2), .val (.int p3), .val (.int p4), .val (.int u18), .val (.ref b19), .unset, .unset, .unset, .unset, .unset, .unset, .unset, .unset] [(.ref b19)])) X22.here hx rfl (hb hby at_30) (XS.iloadN (g := (mkF m 31 #[.val (.int p0), .val (.int p1), .val (.int p2), .val (.int p3), .val (.int p4), .val (.int u18), .val (.ref b19), .unset, .unset, .unset, .unset, .unset, .unset, .unset, .unset] [(.int (1 : Int32)), (.ref b19)])) X22.here hx rfl (hb hby at_31) rfl (XS.iconst (g := (mkF m 32 #[.val (.int p0), .val (.int p1), .val (.int p2), .val (.int p3), .val (.int p4), .val (.int u18), .val (.ref b19), .unset, .unset, .unset, .unset, .unset, .unset, .unset, .unset] [(.int p1), (.int (1 : Int32)), (.ref b19)])) X22.here hx rfl (hb hby at_32) (XS.iand (g := (mkF m 33 #[.val (.int p0), .val (.int p1), .val (.int p2), .val (.int p3), .val (.int p4), .val (.int u18), .val (.ref b19), .unset, .unset, .unset, .unset, .unset, .unset, .unset, .unset] [(.int (2 : Int32)), (.int p1), (.int (1 : Int32)), (.ref b19)])) X22.here hx rfl (hb hby at_33) rfl kq))))) ?_
  suffices J42_v23 : ∀ v23 : Int32, v23 = (if (p1 &&& (2 : Int32)) = (0 : Int32) then (0 : Int32) else (1 : Int32)) → own_Go p e below s (fun v h L => v = some (.int 1) ∧ Fr n0 L) room_1.cells room_1.slots T22 (mkF m 42 #[.val (.int p0), .val (.int p1), .val (.int p2), .val (.int p3), .val (.int p4), .val (.int u18), .val (.ref b19), .unset, .unset, .unset, .unset, .unset, .unset, .unset, .unset] [(.int v23), (.int (1 : Int32)), (.ref b19)]) by
    by_cases hc34_24 : (p1 &&& (2 : Int32)) = (0 : Int32)
    · refine own_st (T' := T22) (g' := (mkF m 42 #[.val (.int p0), .val (.int p1), .val (.int p2), .val (.int p3), .val (.int p4), .val (.int u18), .val (.ref b19), .unset, .unset, .unset, .unset, .unset, .unset, .unset, .unset] [(.int (0 : Int32)), (.int (1 : Int32)), (.ref b19)])) (fun tq kq => XS.ifYes (g := (mkF m 34 #[.val (.int p0), .val (.int p1), .val (.int p2), .val (.int p3), .val (.int p4), .val (.int u18), .val (.ref b19), .unset, .unset, .unset, .unset, .unset, .unset, .unset, .unset] [(.int (p1 &&& (2 : Int32))), (.int (1 : Int32)), (.ref b19)])) X22.here hx rfl (pc0 := 34) (pc' := 41) rfl (hb hby at_34) rfl ((if0 _ _).trans (teq hc34_24).1) (by decide) (by decide) (XS.iconst (g := (mkF m 41 #[.val (.int p0), .val (.int p1), .val (.int p2), .val (.int p3), .val (.int p4), .val (.int u18), .val (.ref b19), .unset, .unset, .unset, .unset, .unset, .unset, .unset, .unset] [(.int (1 : Int32)), (.ref b19)])) X22.here hx rfl (hb hby at_41) kq)) ?_
      exact J42_v23 _ ((if_pos hc34_24).symm)
    · refine own_st (T' := T22) (g' := (mkF m 42 #[.val (.int p0), .val (.int p1), .val (.int p2), .val (.int p3), .val (.int p4), .val (.int u18), .val (.ref b19), .unset, .unset, .unset, .unset, .unset, .unset, .unset, .unset] [(.int (1 : Int32)), (.int (1 : Int32)), (.ref b19)])) (fun tq kq => XS.ifNo (g := (mkF m 34 #[.val (.int p0), .val (.int p1), .val (.int p2), .val (.int p3), .val (.int p4), .val (.int u18), .val (.ref b19), .unset, .unset, .unset, .unset, .unset, .unset, .unset, .unset] [(.int (p1 &&& (2 : Int32))), (.int (1 : Int32)), (.ref b19)])) X22.here hx rfl (hb hby at_34) rfl ((if0 _ _).trans (feq hc34_24).1) (XS.iconst (g := (mkF m 37 #[.val (.int p0), .val (.int p1), .val (.int p2), .val (.int p3), .val (.int p4), .val (.int u18), .val (.ref b19), .unset, .unset, .unset, .unset, .unset, .unset, .unset, .unset] [(.int (1 : Int32)), (.ref b19)])) X22.here hx rfl (hb hby at_37) (XS.goto (g := (mkF m 38 #[.val (.int p0), .val (.int p1), .val (.int p2), .val (.int p3), .val (.int p4), .val (.int u18), .val (.ref b19), .unset, .unset, .unset, .unset, .unset, .unset, .unset, .unset] [(.int (1 : Int32)), (.int (1 : Int32)), (.ref b19)])) X22.here hx rfl (pc0 := 38) (pc' := 42) rfl (hb hby at_38) (by decide) (by decide) kq))) ?_
      exact J42_v23 _ ((if_neg hc34_24).symm)
  intro v23 hv23
  obtain ⟨T25, h25, X25, e25, W25, A25, st25⟩ := own_bastoreZ X22 hx hZ e22 A22 (1) (by decide) (by decide) (by decide) (y := v23) (own_nar1 hv23) (g := (mkF m 42 #[.val (.int p0), .val (.int p1), .val (.int p2), .val (.int p3), .val (.int p4), .val (.int u18), .val (.ref b19), .unset, .unset, .unset, .unset, .unset, .unset, .unset, .unset] [(.int v23), (.int (1 : Int32)), (.ref b19)])) rfl rfl (hb hby at_42)
  refine own_st (g' := (mkF m 43 #[.val (.int p0), .val (.int p1), .val (.int p2), .val (.int p3), .val (.int p4), .val (.int u18), .val (.ref b19), .unset, .unset, .unset, .unset, .unset, .unset, .unset, .unset] [])) st25 ?_
  have N25 := Fr.snoc X25 N22 n0_b19
  refine own_st (T' := T25) (g' := (mkF m 49 #[.val (.int p0), .val (.int p1), .val (.int p2), .val (.int p3), .val (.int p4), .val (.int u18), .val (.ref b19), .unset, .unset, .unset, .unset, .unset, .unset, .unset, .unset] [(.int (p1 &&& (4 : Int32))), (.int (2 : Int32)), (.ref b19)])) (fun tq kq => XS.aload (g := (mkF m 43 #[.val (.int p0), .val (.int p1), .val (.int p2), .val (.int p3), .val (.int p4), .val (.int u18), .val (.ref b19), .unset, .unset, .unset, .unset, .unset, .unset, .unset, .unset] [])) X25.here hx rfl (hb hby at_43) rfl rfl (XS.iconst (g := (mkF m 45 #[.val (.int p0), .val (.int p1), .val (.int p2), .val (.int p3), .val (.int p4), .val (.int u18), .val (.ref b19), .unset, .unset, .unset, .unset, .unset, .unset, .unset, .unset] [(.ref b19)])) X25.here hx rfl (hb hby at_45) (XS.iloadN (g := (mkF m 46 #[.val (.int p0), .val (.int p1), .val (.int p2), .val (.int p3), .val (.int p4), .val (.int u18), .val (.ref b19), .unset, .unset, .unset, .unset, .unset, .unset, .unset, .unset] [(.int (2 : Int32)), (.ref b19)])) X25.here hx rfl (hb hby at_46) rfl (XS.iconst (g := (mkF m 47 #[.val (.int p0), .val (.int p1), .val (.int p2), .val (.int p3), .val (.int p4), .val (.int u18), .val (.ref b19), .unset, .unset, .unset, .unset, .unset, .unset, .unset, .unset] [(.int p1), (.int (2 : Int32)), (.ref b19)])) X25.here hx rfl (hb hby at_47) (XS.iand (g := (mkF m 48 #[.val (.int p0), .val (.int p1), .val (.int p2), .val (.int p3), .val (.int p4), .val (.int u18), .val (.ref b19), .unset, .unset, .unset, .unset, .unset, .unset, .unset, .unset] [(.int (4 : Int32)), (.int p1), (.int (2 : Int32)), (.ref b19)])) X25.here hx rfl (hb hby at_48) rfl kq))))) ?_
  suffices J57_v26 : ∀ v26 : Int32, v26 = (if (p1 &&& (4 : Int32)) = (0 : Int32) then (0 : Int32) else (1 : Int32)) → own_Go p e below s (fun v h L => v = some (.int 1) ∧ Fr n0 L) room_1.cells room_1.slots T25 (mkF m 57 #[.val (.int p0), .val (.int p1), .val (.int p2), .val (.int p3), .val (.int p4), .val (.int u18), .val (.ref b19), .unset, .unset, .unset, .unset, .unset, .unset, .unset, .unset] [(.int v26), (.int (2 : Int32)), (.ref b19)]) by
    by_cases hc49_27 : (p1 &&& (4 : Int32)) = (0 : Int32)
    · refine own_st (T' := T25) (g' := (mkF m 57 #[.val (.int p0), .val (.int p1), .val (.int p2), .val (.int p3), .val (.int p4), .val (.int u18), .val (.ref b19), .unset, .unset, .unset, .unset, .unset, .unset, .unset, .unset] [(.int (0 : Int32)), (.int (2 : Int32)), (.ref b19)])) (fun tq kq => XS.ifYes (g := (mkF m 49 #[.val (.int p0), .val (.int p1), .val (.int p2), .val (.int p3), .val (.int p4), .val (.int u18), .val (.ref b19), .unset, .unset, .unset, .unset, .unset, .unset, .unset, .unset] [(.int (p1 &&& (4 : Int32))), (.int (2 : Int32)), (.ref b19)])) X25.here hx rfl (pc0 := 49) (pc' := 56) rfl (hb hby at_49) rfl ((if0 _ _).trans (teq hc49_27).1) (by decide) (by decide) (XS.iconst (g := (mkF m 56 #[.val (.int p0), .val (.int p1), .val (.int p2), .val (.int p3), .val (.int p4), .val (.int u18), .val (.ref b19), .unset, .unset, .unset, .unset, .unset, .unset, .unset, .unset] [(.int (2 : Int32)), (.ref b19)])) X25.here hx rfl (hb hby at_56) kq)) ?_
      exact J57_v26 _ ((if_pos hc49_27).symm)
    · refine own_st (T' := T25) (g' := (mkF m 57 #[.val (.int p0), .val (.int p1), .val (.int p2), .val (.int p3), .val (.int p4), .val (.int u18), .val (.ref b19), .unset, .unset, .unset, .unset, .unset, .unset, .unset, .unset] [(.int (1 : Int32)), (.int (2 : Int32)), (.ref b19)])) (fun tq kq => XS.ifNo (g := (mkF m 49 #[.val (.int p0), .val (.int p1), .val (.int p2), .val (.int p3), .val (.int p4), .val (.int u18), .val (.ref b19), .unset, .unset, .unset, .unset, .unset, .unset, .unset, .unset] [(.int (p1 &&& (4 : Int32))), (.int (2 : Int32)), (.ref b19)])) X25.here hx rfl (hb hby at_49) rfl ((if0 _ _).trans (feq hc49_27).1) (XS.iconst (g := (mkF m 52 #[.val (.int p0), .val (.int p1), .val (.int p2), .val (.int p3), .val (.int p4), .val (.int u18), .val (.ref b19), .unset, .unset, .unset, .unset, .unset, .unset, .unset, .unset] [(.int (2 : Int32)), (.ref b19)])) X25.here hx rfl (hb hby at_52) (XS.goto (g := (mkF m 53 #[.val (.int p0), .val (.int p1), .val (.int p2), .val (.int p3), .val (.int p4), .val (.int u18), .val (.ref b19), .unset, .unset, .unset, .unset, .unset, .unset, .unset, .unset] [(.int (1 : Int32)), (.int (2 : Int32)), (.ref b19)])) X25.here hx rfl (pc0 := 53) (pc' := 57) rfl (hb hby at_53) (by decide) (by decide) kq))) ?_
      exact J57_v26 _ ((if_neg hc49_27).symm)
  intro v26 hv26
  obtain ⟨T28, h28, X28, e28, W28, A28, st28⟩ := own_bastoreZ X25 hx hZ e25 A25 (2) (by decide) (by decide) (by decide) (y := v26) (own_nar1 hv26) (g := (mkF m 57 #[.val (.int p0), .val (.int p1), .val (.int p2), .val (.int p3), .val (.int p4), .val (.int u18), .val (.ref b19), .unset, .unset, .unset, .unset, .unset, .unset, .unset, .unset] [(.int v26), (.int (2 : Int32)), (.ref b19)])) rfl rfl (hb hby at_57)
  refine own_st (g' := (mkF m 58 #[.val (.int p0), .val (.int p1), .val (.int p2), .val (.int p3), .val (.int p4), .val (.int u18), .val (.ref b19), .unset, .unset, .unset, .unset, .unset, .unset, .unset, .unset] [])) st28 ?_
  have N28 := Fr.snoc X28 N25 n0_b19
  refine own_st (T' := T28) (g' := (mkF m 65 #[.val (.int p0), .val (.int p1), .val (.int p2), .val (.int p3), .val (.int p4), .val (.int u18), .val (.ref b19), .unset, .unset, .unset, .unset, .unset, .unset, .unset, .unset] [(.int (p1 &&& (8 : Int32))), (.int (3 : Int32)), (.ref b19)])) (fun tq kq => XS.aload (g := (mkF m 58 #[.val (.int p0), .val (.int p1), .val (.int p2), .val (.int p3), .val (.int p4), .val (.int u18), .val (.ref b19), .unset, .unset, .unset, .unset, .unset, .unset, .unset, .unset] [])) X28.here hx rfl (hb hby at_58) rfl rfl (XS.iconst (g := (mkF m 60 #[.val (.int p0), .val (.int p1), .val (.int p2), .val (.int p3), .val (.int p4), .val (.int u18), .val (.ref b19), .unset, .unset, .unset, .unset, .unset, .unset, .unset, .unset] [(.ref b19)])) X28.here hx rfl (hb hby at_60) (XS.iloadN (g := (mkF m 61 #[.val (.int p0), .val (.int p1), .val (.int p2), .val (.int p3), .val (.int p4), .val (.int u18), .val (.ref b19), .unset, .unset, .unset, .unset, .unset, .unset, .unset, .unset] [(.int (3 : Int32)), (.ref b19)])) X28.here hx rfl (hb hby at_61) rfl (XS.bipush (g := (mkF m 62 #[.val (.int p0), .val (.int p1), .val (.int p2), .val (.int p3), .val (.int p4), .val (.int u18), .val (.ref b19), .unset, .unset, .unset, .unset, .unset, .unset, .unset, .unset] [(.int p1), (.int (3 : Int32)), (.ref b19)])) X28.here hx rfl (hb hby at_62) (XS.iand (g := (mkF m 64 #[.val (.int p0), .val (.int p1), .val (.int p2), .val (.int p3), .val (.int p4), .val (.int u18), .val (.ref b19), .unset, .unset, .unset, .unset, .unset, .unset, .unset, .unset] [(.int (8 : Int32)), (.int p1), (.int (3 : Int32)), (.ref b19)])) X28.here hx rfl (hb hby at_64) rfl kq))))) ?_
  suffices J73_v29 : ∀ v29 : Int32, v29 = (if (p1 &&& (8 : Int32)) = (0 : Int32) then (0 : Int32) else (1 : Int32)) → own_Go p e below s (fun v h L => v = some (.int 1) ∧ Fr n0 L) room_1.cells room_1.slots T28 (mkF m 73 #[.val (.int p0), .val (.int p1), .val (.int p2), .val (.int p3), .val (.int p4), .val (.int u18), .val (.ref b19), .unset, .unset, .unset, .unset, .unset, .unset, .unset, .unset] [(.int v29), (.int (3 : Int32)), (.ref b19)]) by
    by_cases hc65_30 : (p1 &&& (8 : Int32)) = (0 : Int32)
    · refine own_st (T' := T28) (g' := (mkF m 73 #[.val (.int p0), .val (.int p1), .val (.int p2), .val (.int p3), .val (.int p4), .val (.int u18), .val (.ref b19), .unset, .unset, .unset, .unset, .unset, .unset, .unset, .unset] [(.int (0 : Int32)), (.int (3 : Int32)), (.ref b19)])) (fun tq kq => XS.ifYes (g := (mkF m 65 #[.val (.int p0), .val (.int p1), .val (.int p2), .val (.int p3), .val (.int p4), .val (.int u18), .val (.ref b19), .unset, .unset, .unset, .unset, .unset, .unset, .unset, .unset] [(.int (p1 &&& (8 : Int32))), (.int (3 : Int32)), (.ref b19)])) X28.here hx rfl (pc0 := 65) (pc' := 72) rfl (hb hby at_65) rfl ((if0 _ _).trans (teq hc65_30).1) (by decide) (by decide) (XS.iconst (g := (mkF m 72 #[.val (.int p0), .val (.int p1), .val (.int p2), .val (.int p3), .val (.int p4), .val (.int u18), .val (.ref b19), .unset, .unset, .unset, .unset, .unset, .unset, .unset, .unset] [(.int (3 : Int32)), (.ref b19)])) X28.here hx rfl (hb hby at_72) kq)) ?_
      exact J73_v29 _ ((if_pos hc65_30).symm)
    · refine own_st (T' := T28) (g' := (mkF m 73 #[.val (.int p0), .val (.int p1), .val (.int p2), .val (.int p3), .val (.int p4), .val (.int u18), .val (.ref b19), .unset, .unset, .unset, .unset, .unset, .unset, .unset, .unset] [(.int (1 : Int32)), (.int (3 : Int32)), (.ref b19)])) (fun tq kq => XS.ifNo (g := (mkF m 65 #[.val (.int p0), .val (.int p1), .val (.int p2), .val (.int p3), .val (.int p4), .val (.int u18), .val (.ref b19), .unset, .unset, .unset, .unset, .unset, .unset, .unset, .unset] [(.int (p1 &&& (8 : Int32))), (.int (3 : Int32)), (.ref b19)])) X28.here hx rfl (hb hby at_65) rfl ((if0 _ _).trans (feq hc65_30).1) (XS.iconst (g := (mkF m 68 #[.val (.int p0), .val (.int p1), .val (.int p2), .val (.int p3), .val (.int p4), .val (.int u18), .val (.ref b19), .unset, .unset, .unset, .unset, .unset, .unset, .unset, .unset] [(.int (3 : Int32)), (.ref b19)])) X28.here hx rfl (hb hby at_68) (XS.goto (g := (mkF m 69 #[.val (.int p0), .val (.int p1), .val (.int p2), .val (.int p3), .val (.int p4), .val (.int u18), .val (.ref b19), .unset, .unset, .unset, .unset, .unset, .unset, .unset, .unset] [(.int (1 : Int32)), (.int (3 : Int32)), (.ref b19)])) X28.here hx rfl (pc0 := 69) (pc' := 73) rfl (hb hby at_69) (by decide) (by decide) kq))) ?_
      exact J73_v29 _ ((if_neg hc65_30).symm)
  intro v29 hv29
  obtain ⟨T31, h31, X31, e31, W31, A31, st31⟩ := own_bastoreZ X28 hx hZ e28 A28 (3) (by decide) (by decide) (by decide) (y := v29) (own_nar1 hv29) (g := (mkF m 73 #[.val (.int p0), .val (.int p1), .val (.int p2), .val (.int p3), .val (.int p4), .val (.int u18), .val (.ref b19), .unset, .unset, .unset, .unset, .unset, .unset, .unset, .unset] [(.int v29), (.int (3 : Int32)), (.ref b19)])) rfl rfl (hb hby at_73)
  refine own_st (g' := (mkF m 74 #[.val (.int p0), .val (.int p1), .val (.int p2), .val (.int p3), .val (.int p4), .val (.int u18), .val (.ref b19), .unset, .unset, .unset, .unset, .unset, .unset, .unset, .unset] [])) st31 ?_
  have N31 := Fr.snoc X31 N28 n0_b19
  refine own_st (T' := T31) (g' := (mkF m 79 #[.val (.int p0), .val (.int p1), .val (.int p2), .val (.int p3), .val (.int p4), .val (.int u18), .val (.ref b19), .val (.int (p2 &&& (3 : Int32))), .unset, .unset, .unset, .unset, .unset, .unset, .unset] [])) (fun tq kq => XS.iloadN (g := (mkF m 74 #[.val (.int p0), .val (.int p1), .val (.int p2), .val (.int p3), .val (.int p4), .val (.int u18), .val (.ref b19), .unset, .unset, .unset, .unset, .unset, .unset, .unset, .unset] [])) X31.here hx rfl (hb hby at_74) rfl (XS.iconst (g := (mkF m 75 #[.val (.int p0), .val (.int p1), .val (.int p2), .val (.int p3), .val (.int p4), .val (.int u18), .val (.ref b19), .unset, .unset, .unset, .unset, .unset, .unset, .unset, .unset] [(.int p2)])) X31.here hx rfl (hb hby at_75) (XS.iand (g := (mkF m 76 #[.val (.int p0), .val (.int p1), .val (.int p2), .val (.int p3), .val (.int p4), .val (.int u18), .val (.ref b19), .unset, .unset, .unset, .unset, .unset, .unset, .unset, .unset] [(.int (3 : Int32)), (.int p2)])) X31.here hx rfl (hb hby at_76) rfl (XS.istore (g := (mkF m 77 #[.val (.int p0), .val (.int p1), .val (.int p2), .val (.int p3), .val (.int p4), .val (.int u18), .val (.ref b19), .unset, .unset, .unset, .unset, .unset, .unset, .unset, .unset] [(.int (p2 &&& (3 : Int32)))])) X31.here hx rfl (hb hby at_77) rfl (l' := #[.val (.int p0), .val (.int p1), .val (.int p2), .val (.int p3), .val (.int p4), .val (.int u18), .val (.ref b19), .val (.int (p2 &&& (3 : Int32))), .unset, .unset, .unset, .unset, .unset, .unset, .unset]) rfl kq)))) ?_
  generalize hu32 : (p2 &&& (3 : Int32)) = u32
  refine own_st (T' := T31) (g' := (mkF m 84 #[.val (.int p0), .val (.int p1), .val (.int p2), .val (.int p3), .val (.int p4), .val (.int u18), .val (.ref b19), .val (.int u32), .val (.int (p3 &&& (3 : Int32))), .unset, .unset, .unset, .unset, .unset, .unset] [])) (fun tq kq => XS.iloadN (g := (mkF m 79 #[.val (.int p0), .val (.int p1), .val (.int p2), .val (.int p3), .val (.int p4), .val (.int u18), .val (.ref b19), .val (.int u32), .unset, .unset, .unset, .unset, .unset, .unset, .unset] [])) X31.here hx rfl (hb hby at_79) rfl (XS.iconst (g := (mkF m 80 #[.val (.int p0), .val (.int p1), .val (.int p2), .val (.int p3), .val (.int p4), .val (.int u18), .val (.ref b19), .val (.int u32), .unset, .unset, .unset, .unset, .unset, .unset, .unset] [(.int p3)])) X31.here hx rfl (hb hby at_80) (XS.iand (g := (mkF m 81 #[.val (.int p0), .val (.int p1), .val (.int p2), .val (.int p3), .val (.int p4), .val (.int u18), .val (.ref b19), .val (.int u32), .unset, .unset, .unset, .unset, .unset, .unset, .unset] [(.int (3 : Int32)), (.int p3)])) X31.here hx rfl (hb hby at_81) rfl (XS.istore (g := (mkF m 82 #[.val (.int p0), .val (.int p1), .val (.int p2), .val (.int p3), .val (.int p4), .val (.int u18), .val (.ref b19), .val (.int u32), .unset, .unset, .unset, .unset, .unset, .unset, .unset] [(.int (p3 &&& (3 : Int32)))])) X31.here hx rfl (hb hby at_82) rfl (l' := #[.val (.int p0), .val (.int p1), .val (.int p2), .val (.int p3), .val (.int p4), .val (.int u18), .val (.ref b19), .val (.int u32), .val (.int (p3 &&& (3 : Int32))), .unset, .unset, .unset, .unset, .unset, .unset]) rfl kq)))) ?_
  generalize hu33 : (p3 &&& (3 : Int32)) = u33
  refine own_st (T' := T31) (g' := (mkF m 90 #[.val (.int p0), .val (.int p1), .val (.int p2), .val (.int p3), .val (.int p4), .val (.int u18), .val (.ref b19), .val (.int u32), .val (.int u33), .val (.int (p4 &&& (3 : Int32))), .unset, .unset, .unset, .unset, .unset] [])) (fun tq kq => XS.iload (g := (mkF m 84 #[.val (.int p0), .val (.int p1), .val (.int p2), .val (.int p3), .val (.int p4), .val (.int u18), .val (.ref b19), .val (.int u32), .val (.int u33), .unset, .unset, .unset, .unset, .unset, .unset] [])) X31.here hx rfl (hb hby at_84) rfl (XS.iconst (g := (mkF m 86 #[.val (.int p0), .val (.int p1), .val (.int p2), .val (.int p3), .val (.int p4), .val (.int u18), .val (.ref b19), .val (.int u32), .val (.int u33), .unset, .unset, .unset, .unset, .unset, .unset] [(.int p4)])) X31.here hx rfl (hb hby at_86) (XS.iand (g := (mkF m 87 #[.val (.int p0), .val (.int p1), .val (.int p2), .val (.int p3), .val (.int p4), .val (.int u18), .val (.ref b19), .val (.int u32), .val (.int u33), .unset, .unset, .unset, .unset, .unset, .unset] [(.int (3 : Int32)), (.int p4)])) X31.here hx rfl (hb hby at_87) rfl (XS.istore (g := (mkF m 88 #[.val (.int p0), .val (.int p1), .val (.int p2), .val (.int p3), .val (.int p4), .val (.int u18), .val (.ref b19), .val (.int u32), .val (.int u33), .unset, .unset, .unset, .unset, .unset, .unset] [(.int (p4 &&& (3 : Int32)))])) X31.here hx rfl (hb hby at_88) rfl (l' := #[.val (.int p0), .val (.int p1), .val (.int p2), .val (.int p3), .val (.int p4), .val (.int u18), .val (.ref b19), .val (.int u32), .val (.int u33), .val (.int (p4 &&& (3 : Int32))), .unset, .unset, .unset, .unset, .unset]) rfl kq)))) ?_
  generalize hu34 : (p4 &&& (3 : Int32)) = u34
  refine own_st (T' := T31) (g' := (mkF m 91 #[.val (.int p0), .val (.int p1), .val (.int p2), .val (.int p3), .val (.int p4), .val (.int u18), .val (.ref b19), .val (.int u32), .val (.int u33), .val (.int u34), .unset, .unset, .unset, .unset, .unset] [(.int (3 : Int32))])) (fun tq kq => XS.iconst (g := (mkF m 90 #[.val (.int p0), .val (.int p1), .val (.int p2), .val (.int p3), .val (.int p4), .val (.int u18), .val (.ref b19), .val (.int u32), .val (.int u33), .val (.int u34), .unset, .unset, .unset, .unset, .unset] [])) X31.here hx rfl (hb hby at_90) kq) ?_
  obtain ⟨T35, h35, b35, X35, e35, g35, E35, A35, st35⟩ := own_newP X31 hx hZ (hw _ (List.mem_of_getElem? (i := 2) rfl)) e31 (3) (by decide) (by decide) (cap := 3) (by decide) (by decide) (by decide) (by decide) (g := (mkF m 91 #[.val (.int p0), .val (.int p1), .val (.int p2), .val (.int p3), .val (.int p4), .val (.int u18), .val (.ref b19), .val (.int u32), .val (.int u33), .val (.int u34), .unset, .unset, .unset, .unset, .unset] [(.int (3 : Int32))])) rfl rfl (hb hby at_91)
  refine own_st (g' := (mkF m 93 #[.val (.int p0), .val (.int p1), .val (.int p2), .val (.int p3), .val (.int p4), .val (.int u18), .val (.ref b19), .val (.int u32), .val (.int u33), .val (.int u34), .unset, .unset, .unset, .unset, .unset] [(.ref b35)])) st35 ?_
  refine own_st (T' := T35) (g' := (mkF m 95 #[.val (.int p0), .val (.int p1), .val (.int p2), .val (.int p3), .val (.int p4), .val (.int u18), .val (.ref b19), .val (.int u32), .val (.int u33), .val (.int u34), .val (.ref b35), .unset, .unset, .unset, .unset] [])) (fun tq kq => XS.astore (g := (mkF m 93 #[.val (.int p0), .val (.int p1), .val (.int p2), .val (.int p3), .val (.int p4), .val (.int u18), .val (.ref b19), .val (.int u32), .val (.int u33), .val (.int u34), .unset, .unset, .unset, .unset, .unset] [(.ref b35)])) X35.here hx rfl (hb hby at_93) rfl rfl (l' := #[.val (.int p0), .val (.int p1), .val (.int p2), .val (.int p3), .val (.int p4), .val (.int u18), .val (.ref b19), .val (.int u32), .val (.int u33), .val (.int u34), .val (.ref b35), .unset, .unset, .unset, .unset]) rfl kq) ?_
  refine own_st (T' := T35) (g' := (mkF m 100 #[.val (.int p0), .val (.int p1), .val (.int p2), .val (.int p3), .val (.int p4), .val (.int u18), .val (.ref b19), .val (.int u32), .val (.int u33), .val (.int u34), .val (.ref b35), .unset, .unset, .unset, .unset] [(.int u32), (.int (0 : Int32)), (.ref b35)])) (fun tq kq => XS.aload (g := (mkF m 95 #[.val (.int p0), .val (.int p1), .val (.int p2), .val (.int p3), .val (.int p4), .val (.int u18), .val (.ref b19), .val (.int u32), .val (.int u33), .val (.int u34), .val (.ref b35), .unset, .unset, .unset, .unset] [])) X35.here hx rfl (hb hby at_95) rfl rfl (XS.iconst (g := (mkF m 97 #[.val (.int p0), .val (.int p1), .val (.int p2), .val (.int p3), .val (.int p4), .val (.int u18), .val (.ref b19), .val (.int u32), .val (.int u33), .val (.int u34), .val (.ref b35), .unset, .unset, .unset, .unset] [(.ref b35)])) X35.here hx rfl (hb hby at_97) (XS.iload (g := (mkF m 98 #[.val (.int p0), .val (.int p1), .val (.int p2), .val (.int p3), .val (.int p4), .val (.int u18), .val (.ref b19), .val (.int u32), .val (.int u33), .val (.int u34), .val (.ref b35), .unset, .unset, .unset, .unset] [(.int (0 : Int32)), (.ref b35)])) X35.here hx rfl (hb hby at_98) rfl kq))) ?_
  obtain ⟨T36, h36, X36, e36, W36, A36, st36⟩ := own_iastore X35 hx hZ e35 A35 (0) (by decide) (by decide) (by decide) (g := (mkF m 100 #[.val (.int p0), .val (.int p1), .val (.int p2), .val (.int p3), .val (.int p4), .val (.int u18), .val (.ref b19), .val (.int u32), .val (.int u33), .val (.int u34), .val (.ref b35), .unset, .unset, .unset, .unset] [(.int u32), (.int (0 : Int32)), (.ref b35)])) rfl rfl (hb hby at_100)
  refine own_st (g' := (mkF m 101 #[.val (.int p0), .val (.int p1), .val (.int p2), .val (.int p3), .val (.int p4), .val (.int u18), .val (.ref b19), .val (.int u32), .val (.int u33), .val (.int u34), .val (.ref b35), .unset, .unset, .unset, .unset] [])) st36 ?_
  have n0_b35 : n0 ≤ b35 := Nat.le_trans (Nat.le_trans Z0 (Nat.le_trans (Nat.le_trans (Nat.le_trans (Nat.le_trans E19.1 (Nat.le_of_eq W22.size.symm)) (Nat.le_of_eq W25.size.symm)) (Nat.le_of_eq W28.size.symm)) (Nat.le_of_eq W31.size.symm))) (Nat.le_of_eq g35.symm)
  have N36 := Fr.snoc X36 N31 n0_b35
  refine own_st (T' := T36) (g' := (mkF m 106 #[.val (.int p0), .val (.int p1), .val (.int p2), .val (.int p3), .val (.int p4), .val (.int u18), .val (.ref b19), .val (.int u32), .val (.int u33), .val (.int u34), .val (.ref b35), .unset, .unset, .unset, .unset] [(.int u33), (.int (1 : Int32)), (.ref b35)])) (fun tq kq => XS.aload (g := (mkF m 101 #[.val (.int p0), .val (.int p1), .val (.int p2), .val (.int p3), .val (.int p4), .val (.int u18), .val (.ref b19), .val (.int u32), .val (.int u33), .val (.int u34), .val (.ref b35), .unset, .unset, .unset, .unset] [])) X36.here hx rfl (hb hby at_101) rfl rfl (XS.iconst (g := (mkF m 103 #[.val (.int p0), .val (.int p1), .val (.int p2), .val (.int p3), .val (.int p4), .val (.int u18), .val (.ref b19), .val (.int u32), .val (.int u33), .val (.int u34), .val (.ref b35), .unset, .unset, .unset, .unset] [(.ref b35)])) X36.here hx rfl (hb hby at_103) (XS.iload (g := (mkF m 104 #[.val (.int p0), .val (.int p1), .val (.int p2), .val (.int p3), .val (.int p4), .val (.int u18), .val (.ref b19), .val (.int u32), .val (.int u33), .val (.int u34), .val (.ref b35), .unset, .unset, .unset, .unset] [(.int (1 : Int32)), (.ref b35)])) X36.here hx rfl (hb hby at_104) rfl kq))) ?_
  obtain ⟨T37, h37, X37, e37, W37, A37, st37⟩ := own_iastore X36 hx hZ e36 A36 (1) (by decide) (by decide) (by decide) (g := (mkF m 106 #[.val (.int p0), .val (.int p1), .val (.int p2), .val (.int p3), .val (.int p4), .val (.int u18), .val (.ref b19), .val (.int u32), .val (.int u33), .val (.int u34), .val (.ref b35), .unset, .unset, .unset, .unset] [(.int u33), (.int (1 : Int32)), (.ref b35)])) rfl rfl (hb hby at_106)
  refine own_st (g' := (mkF m 107 #[.val (.int p0), .val (.int p1), .val (.int p2), .val (.int p3), .val (.int p4), .val (.int u18), .val (.ref b19), .val (.int u32), .val (.int u33), .val (.int u34), .val (.ref b35), .unset, .unset, .unset, .unset] [])) st37 ?_
  have N37 := Fr.snoc X37 N36 n0_b35
  refine own_st (T' := T37) (g' := (mkF m 112 #[.val (.int p0), .val (.int p1), .val (.int p2), .val (.int p3), .val (.int p4), .val (.int u18), .val (.ref b19), .val (.int u32), .val (.int u33), .val (.int u34), .val (.ref b35), .unset, .unset, .unset, .unset] [(.int u34), (.int (2 : Int32)), (.ref b35)])) (fun tq kq => XS.aload (g := (mkF m 107 #[.val (.int p0), .val (.int p1), .val (.int p2), .val (.int p3), .val (.int p4), .val (.int u18), .val (.ref b19), .val (.int u32), .val (.int u33), .val (.int u34), .val (.ref b35), .unset, .unset, .unset, .unset] [])) X37.here hx rfl (hb hby at_107) rfl rfl (XS.iconst (g := (mkF m 109 #[.val (.int p0), .val (.int p1), .val (.int p2), .val (.int p3), .val (.int p4), .val (.int u18), .val (.ref b19), .val (.int u32), .val (.int u33), .val (.int u34), .val (.ref b35), .unset, .unset, .unset, .unset] [(.ref b35)])) X37.here hx rfl (hb hby at_109) (XS.iload (g := (mkF m 110 #[.val (.int p0), .val (.int p1), .val (.int p2), .val (.int p3), .val (.int p4), .val (.int u18), .val (.ref b19), .val (.int u32), .val (.int u33), .val (.int u34), .val (.ref b35), .unset, .unset, .unset, .unset] [(.int (2 : Int32)), (.ref b35)])) X37.here hx rfl (hb hby at_110) rfl kq))) ?_
  obtain ⟨T38, h38, X38, e38, W38, A38, st38⟩ := own_iastore X37 hx hZ e37 A37 (2) (by decide) (by decide) (by decide) (g := (mkF m 112 #[.val (.int p0), .val (.int p1), .val (.int p2), .val (.int p3), .val (.int p4), .val (.int u18), .val (.ref b19), .val (.int u32), .val (.int u33), .val (.int u34), .val (.ref b35), .unset, .unset, .unset, .unset] [(.int u34), (.int (2 : Int32)), (.ref b35)])) rfl rfl (hb hby at_112)
  refine own_st (g' := (mkF m 113 #[.val (.int p0), .val (.int p1), .val (.int p2), .val (.int p3), .val (.int p4), .val (.int u18), .val (.ref b19), .val (.int u32), .val (.int u33), .val (.int u34), .val (.ref b35), .unset, .unset, .unset, .unset] [])) st38 ?_
  have N38 := Fr.snoc X38 N37 n0_b35
  obtain ⟨T39, h39, b39, X39, e39, g39, E39, C39, D39, st39⟩ := own_newO X38 hx hZ hown (hw _ (List.mem_of_getElem? (i := 3) rfl)) (hw _ (List.mem_of_getElem? (i := 4) rfl)) (hw _ (List.mem_of_getElem? (i := 5) rfl)) e38 (by decide) (by decide) (g := (mkF m 113 #[.val (.int p0), .val (.int p1), .val (.int p2), .val (.int p3), .val (.int p4), .val (.int u18), .val (.ref b19), .val (.int u32), .val (.int u33), .val (.int u34), .val (.ref b35), .unset, .unset, .unset, .unset] [])) rfl (hb hby at_113)
  refine own_st (g' := (mkF m 116 #[.val (.int p0), .val (.int p1), .val (.int p2), .val (.int p3), .val (.int p4), .val (.int u18), .val (.ref b19), .val (.int u32), .val (.int u33), .val (.int u34), .val (.ref b35), .unset, .unset, .unset, .unset] [(.ref b39)])) st39 ?_
  have F39_parameter : Fld Z h39 b39 "com/example/coverweave/coverweave/Constraint$ValueIn" "parameter" "I" (.int (0 : Int32)) := D39 (Or.inr (hw _ (List.mem_of_getElem? (i := 18) rfl))) (ty := .int) (by decide)
  have F39_holds : Fld Z h39 b39 "com/example/coverweave/coverweave/Constraint$ValueIn" "holds" "[Z" .null := D39 (Or.inr (hw _ (List.mem_of_getElem? (i := 20) rfl))) (ty := (.array .boolean)) (by decide)
  refine own_st (T' := T39) (g' := (mkF m 121 #[.val (.int p0), .val (.int p1), .val (.int p2), .val (.int p3), .val (.int p4), .val (.int u18), .val (.ref b19), .val (.int u32), .val (.int u33), .val (.int u34), .val (.ref b35), .unset, .unset, .unset, .unset] [(.ref b19), (.int u18), (.ref b39), (.ref b39)])) (fun tq kq => XS.dup (g := (mkF m 116 #[.val (.int p0), .val (.int p1), .val (.int p2), .val (.int p3), .val (.int p4), .val (.int u18), .val (.ref b19), .val (.int u32), .val (.int u33), .val (.int u34), .val (.ref b35), .unset, .unset, .unset, .unset] [(.ref b39)])) X39.here hx rfl (hb hby at_116) rfl rfl (XS.iload (g := (mkF m 117 #[.val (.int p0), .val (.int p1), .val (.int p2), .val (.int p3), .val (.int p4), .val (.int u18), .val (.ref b19), .val (.int u32), .val (.int u33), .val (.int u34), .val (.ref b35), .unset, .unset, .unset, .unset] [(.ref b39), (.ref b39)])) X39.here hx rfl (hb hby at_117) rfl (XS.aload (g := (mkF m 119 #[.val (.int p0), .val (.int p1), .val (.int p2), .val (.int p3), .val (.int p4), .val (.int u18), .val (.ref b19), .val (.int u32), .val (.int u33), .val (.int u34), .val (.ref b35), .unset, .unset, .unset, .unset] [(.int u18), (.ref b39), (.ref b39)])) X39.here hx rfl (hb hby at_119) rfl rfl kq))) ?_
  have n0_b39 : n0 ≤ b39 := Nat.le_trans (Nat.le_trans Z0 (Nat.le_trans (Nat.le_trans (Nat.le_trans (Nat.le_trans (Nat.le_trans (Nat.le_trans (Nat.le_trans (Nat.le_trans E19.1 (Nat.le_of_eq W22.size.symm)) (Nat.le_of_eq W25.size.symm)) (Nat.le_of_eq W28.size.symm)) (Nat.le_of_eq W31.size.symm)) E35.1) (Nat.le_of_eq W36.size.symm)) (Nat.le_of_eq W37.size.symm)) (Nat.le_of_eq W38.size.symm))) (Nat.le_of_eq g39.symm)
  refine own_callI X39 hx hZ (y := (⟨"com/example/coverweave/coverweave/Constraint$ValueIn", "<init>", "(I[Z)V"⟩ : MethodName)) (argsL := [(.int u18), (.ref b19)]) (a := b39) rfl hown (hw _ (List.mem_of_getElem? (i := 6) rfl)) (hw _ (List.mem_of_getElem? (i := 7) rfl)) (hw _ (List.mem_of_getElem? (i := 5) rfl)) (hw _ (List.mem_of_getElem? (i := 8) rfl)) (by decide) e39 (own_rm1 l Z a0 hw b39 u18 b19  h39 n0 (Nat.le_trans Z0 (Nat.le_trans (Nat.le_trans (Nat.le_trans (Nat.le_trans (Nat.le_trans (Nat.le_trans (Nat.le_trans (Nat.le_trans (Nat.le_trans E19.1 (Nat.le_of_eq W22.size.symm)) (Nat.le_of_eq W25.size.symm)) (Nat.le_of_eq W28.size.symm)) (Nat.le_of_eq W31.size.symm)) E35.1) (Nat.le_of_eq W36.size.symm)) (Nat.le_of_eq W37.size.symm)) (Nat.le_of_eq W38.size.symm)) E39.1)) n0_b39 C39 F39_parameter F39_holds ) (W := 1) (by decide) (by decide) (by decide) (by decide) pd1 rfl (g := (mkF m 121 #[.val (.int p0), .val (.int p1), .val (.int p2), .val (.int p3), .val (.int p4), .val (.int u18), .val (.ref b19), .val (.int u32), .val (.int u33), .val (.int u34), .val (.ref b35), .unset, .unset, .unset, .unset] [(.ref b19), (.int u18), (.ref b39), (.ref b39)])) rfl (by rw [hml]; rfl) (rest := [(.ref b39)]) rfl (by show 2 * 0 + _ ≤ _; exact Nat.le_of_eq rfl) (hb hby at_121) (fun v40 T40 L40 X40 q40 => ?_)
  obtain ⟨h40, e40⟩ : ∃ z, T40.heap = z := ⟨_, rfl⟩
  rw [e40] at q40
  obtain ⟨rfl, N40q, K40, E40, F40_parameter, F40_holds⟩ := q40
  have N40 := Fr.app N38 N40q
  show own_Go _ _ _ _ _ _ _ T40 (mkF m 124 #[.val (.int p0), .val (.int p1), .val (.int p2), .val (.int p3), .val (.int p4), .val (.int u18), .val (.ref b19), .val (.int u32), .val (.int u33), .val (.int u34), .val (.ref b35), .unset, .unset, .unset, .unset] [(.ref b39)])
  refine own_st (T' := T40) (g' := (mkF m 130 #[.val (.int p0), .val (.int p1), .val (.int p2), .val (.int p3), .val (.int p4), .val (.int u18), .val (.ref b19), .val (.int u32), .val (.int u33), .val (.int u34), .val (.ref b35), .val (.ref b39), .unset, .unset, .unset] [(.ref b35), (.ref b39)])) (fun tq kq => XS.astore (g := (mkF m 124 #[.val (.int p0), .val (.int p1), .val (.int p2), .val (.int p3), .val (.int p4), .val (.int u18), .val (.ref b19), .val (.int u32), .val (.int u33), .val (.int u34), .val (.ref b35), .unset, .unset, .unset, .unset] [(.ref b39)])) X40.here hx rfl (hb hby at_124) rfl rfl (l' := #[.val (.int p0), .val (.int p1), .val (.int p2), .val (.int p3), .val (.int p4), .val (.int u18), .val (.ref b19), .val (.int u32), .val (.int u33), .val (.int u34), .val (.ref b35), .val (.ref b39), .unset, .unset, .unset]) rfl (XS.aload (g := (mkF m 126 #[.val (.int p0), .val (.int p1), .val (.int p2), .val (.int p3), .val (.int p4), .val (.int u18), .val (.ref b19), .val (.int u32), .val (.int u33), .val (.int u34), .val (.ref b35), .val (.ref b39), .unset, .unset, .unset] [])) X40.here hx rfl (hb hby at_126) rfl rfl (XS.aload (g := (mkF m 128 #[.val (.int p0), .val (.int p1), .val (.int p2), .val (.int p3), .val (.int p4), .val (.int u18), .val (.ref b19), .val (.int u32), .val (.int u33), .val (.int u34), .val (.ref b35), .val (.ref b39), .unset, .unset, .unset] [(.ref b39)])) X40.here hx rfl (hb hby at_128) rfl rfl kq))) ?_
  have ne_b19_b35 : b19 ≠ b35 := (own_ne (Nat.lt_of_lt_of_eq (Nat.lt_of_lt_of_le A19.lt (Nat.le_trans (Nat.le_trans (Nat.le_trans (Nat.le_of_eq W22.size.symm) (Nat.le_of_eq W25.size.symm)) (Nat.le_of_eq W28.size.symm)) (Nat.le_of_eq W31.size.symm))) g35.symm))
  have ne_b19_b39 : b19 ≠ b39 := (own_ne (Nat.lt_of_lt_of_eq (Nat.lt_of_lt_of_le A19.lt (Nat.le_trans (Nat.le_trans (Nat.le_trans (Nat.le_trans (Nat.le_trans (Nat.le_trans (Nat.le_trans (Nat.le_of_eq W22.size.symm) (Nat.le_of_eq W25.size.symm)) (Nat.le_of_eq W28.size.symm)) (Nat.le_of_eq W31.size.symm)) E35.1) (Nat.le_of_eq W36.size.symm)) (Nat.le_of_eq W37.size.symm)) (Nat.le_of_eq W38.size.symm))) g39.symm))
  have Ab19_41 := (own_Av.keep (((((A31.ext E35).other W36 ne_b19_b35).other W37 ne_b19_b35).other W38 ne_b19_b35).ext E39) K40 (ninS ne_b19_b39 nin0))
  have ne_b35_b39 : b35 ≠ b39 := (own_ne (Nat.lt_of_lt_of_eq (Nat.lt_of_lt_of_le A35.lt (Nat.le_trans (Nat.le_trans (Nat.le_of_eq W36.size.symm) (Nat.le_of_eq W37.size.symm)) (Nat.le_of_eq W38.size.symm))) g39.symm))
  have Ab35_42 := (own_Av.keep (A38.ext E39) K40 (ninS ne_b35_b39 nin0))
  have B43 : own_Av Z h40 b19 .boolean 4 (fun i => .int (own_bit p1 i)) := own_Av.cg Ab19_41 (by intro i hi; rcases i with _ | _ | _ | _ | i <;> first | (exact congrArg Value.int hv20) | (exact congrArg Value.int hv23) | (exact congrArg Value.int hv26) | (exact congrArg Value.int hv29) | (exact absurd hi (by omega)))
  have R43 : own_Av Z h40 b35 .int 3 (fun i => .int (own_row u32 u33 u34 i)) := own_Av.cg Ab35_42 (by intro i hi; rcases i with _ | _ | _ | i <;> first | rfl | (exact absurd hi (by omega)))
  have k43 : ¬ (u18 < (0 : Int32)) ∧ u18.toNatClampNeg < 3 := by rcases (hu18 ▸ own_rem3 p0 : u18 = 0 ∨ u18 = 1 ∨ u18 = 2) with h | h | h <;> rw [h] <;> decide
  have r43 : ¬ (own_row u32 u33 u34 u18.toNatClampNeg < (0 : Int32)) ∧ (own_row u32 u33 u34 u18.toNatClampNeg).toNatClampNeg < 4 := own_r4 (hu32 ▸ own_and3 _) (hu33 ▸ own_and3 _) (hu34 ▸ own_and3 _)
  refine own_callV X40 hx hZ (y := (⟨"com/example/coverweave/coverweave/Constraint$ValueIn", "holds", "([I)Z"⟩ : MethodName)) (z := (⟨"com/example/coverweave/coverweave/Constraint$ValueIn", "holds", "([I)Z"⟩ : MethodName)) (argsL := [(.ref b35)]) (a := b39) hown (hw _ (List.mem_of_getElem? (i := 21) rfl)) (hw _ (List.mem_of_getElem? (i := 22) rfl)) (notFace_of_selects (args := #[]) (mvT hZ (hw _ (List.mem_of_getElem? (i := 24) rfl)))) (hw _ (List.mem_of_getElem? (i := 24) rfl)) (hw _ (List.mem_of_getElem? (i := 23) rfl)) (hw _ (List.mem_of_getElem? (i := 5) rfl)) (hw _ (List.mem_of_getElem? (i := 25) rfl)) (by decide) e40 E40 (own_rm4 l Z a0 hw b39 b35 u18 b19 (own_bit p1) (own_row u32 u33 u34) h40 n0 (Nat.le_trans Z0 (Nat.le_trans (Nat.le_trans (Nat.le_trans (Nat.le_trans (Nat.le_trans (Nat.le_trans (Nat.le_trans (Nat.le_trans (Nat.le_trans (Nat.le_trans E19.1 (Nat.le_of_eq W22.size.symm)) (Nat.le_of_eq W25.size.symm)) (Nat.le_of_eq W28.size.symm)) (Nat.le_of_eq W31.size.symm)) E35.1) (Nat.le_of_eq W36.size.symm)) (Nat.le_of_eq W37.size.symm)) (Nat.le_of_eq W38.size.symm)) E39.1) K40.1)) F40_parameter F40_holds B43 R43 k43.1 k43.2 r43.1 r43.2 (own_narb p1)) (W := 0) (by decide) (by decide) (by decide) (by decide) pd2 rfl (g := (mkF m 130 #[.val (.int p0), .val (.int p1), .val (.int p2), .val (.int p3), .val (.int p4), .val (.int u18), .val (.ref b19), .val (.int u32), .val (.int u33), .val (.int u34), .val (.ref b35), .val (.ref b39), .unset, .unset, .unset] [(.ref b35), (.ref b39)])) rfl (by rw [hml]; rfl) (rest := []) rfl (by show 2 * 0 + _ ≤ _; exact Nat.le_of_eq rfl) (hb hby at_130) (fun v44 T44 L44 X44 q44 => ?_)
  obtain ⟨rfl, N44q, e44⟩ := q44
  have N44 := Fr.app N40 N44q
  replace e44 := e44
  show own_Go _ _ _ _ _ _ _ T44 (mkF m 133 #[.val (.int p0), .val (.int p1), .val (.int p2), .val (.int p3), .val (.int p4), .val (.int u18), .val (.ref b19), .val (.int u32), .val (.int u33), .val (.int u34), .val (.ref b35), .val (.ref b39), .unset, .unset, .unset] [(.int (own_bit p1 (own_row u32 u33 u34 u18.toNatClampNeg).toNatClampNeg))])
  refine own_st (T' := T44) (g' := (mkF m 135 #[.val (.int p0), .val (.int p1), .val (.int p2), .val (.int p3), .val (.int p4), .val (.int u18), .val (.ref b19), .val (.int u32), .val (.int u33), .val (.int u34), .val (.ref b35), .val (.ref b39), .val (.int (own_bit p1 (own_row u32 u33 u34 u18.toNatClampNeg).toNatClampNeg)), .unset, .unset] [])) (fun tq kq => XS.istore (g := (mkF m 133 #[.val (.int p0), .val (.int p1), .val (.int p2), .val (.int p3), .val (.int p4), .val (.int u18), .val (.ref b19), .val (.int u32), .val (.int u33), .val (.int u34), .val (.ref b35), .val (.ref b39), .unset, .unset, .unset] [(.int (own_bit p1 (own_row u32 u33 u34 u18.toNatClampNeg).toNatClampNeg))])) X44.here hx rfl (hb hby at_133) rfl (l' := #[.val (.int p0), .val (.int p1), .val (.int p2), .val (.int p3), .val (.int p4), .val (.int u18), .val (.ref b19), .val (.int u32), .val (.int u33), .val (.int u34), .val (.ref b35), .val (.ref b39), .val (.int (own_bit p1 (own_row u32 u33 u34 u18.toNatClampNeg).toNatClampNeg)), .unset, .unset]) rfl kq) ?_
  generalize hu45 : (own_bit p1 (own_row u32 u33 u34 u18.toNatClampNeg).toNatClampNeg) = u45
  refine own_st (T' := T44) (g' := (mkF m 137 #[.val (.int p0), .val (.int p1), .val (.int p2), .val (.int p3), .val (.int p4), .val (.int u18), .val (.ref b19), .val (.int u32), .val (.int u33), .val (.int u34), .val (.ref b35), .val (.ref b39), .val (.int u45), .unset, .unset] [(.int u18)])) (fun tq kq => XS.iload (g := (mkF m 135 #[.val (.int p0), .val (.int p1), .val (.int p2), .val (.int p3), .val (.int p4), .val (.int u18), .val (.ref b19), .val (.int u32), .val (.int u33), .val (.int u34), .val (.ref b35), .val (.ref b39), .val (.int u45), .unset, .unset] [])) X44.here hx rfl (hb hby at_135) rfl kq) ?_
  by_cases hc137_46 : u18 = (0 : Int32)
  · refine own_st (T' := T44) (g' := (mkF m 170 #[.val (.int p0), .val (.int p1), .val (.int p2), .val (.int p3), .val (.int p4), .val (.int u18), .val (.ref b19), .val (.int u32), .val (.int u33), .val (.int u34), .val (.ref b35), .val (.ref b39), .val (.int u45), .val (.int u32), .unset] [(.int ((p1 >>> (u32 &&& 31)) &&& (1 : Int32)))])) (fun tq kq => XS.ifNo (g := (mkF m 137 #[.val (.int p0), .val (.int p1), .val (.int p2), .val (.int p3), .val (.int p4), .val (.int u18), .val (.ref b19), .val (.int u32), .val (.int u33), .val (.int u34), .val (.ref b35), .val (.ref b39), .val (.int u45), .unset, .unset] [(.int u18)])) X44.here hx rfl (hb hby at_137) rfl ((if0 _ _).trans (teq hc137_46).2) (XS.iload (g := (mkF m 140 #[.val (.int p0), .val (.int p1), .val (.int p2), .val (.int p3), .val (.int p4), .val (.int u18), .val (.ref b19), .val (.int u32), .val (.int u33), .val (.int u34), .val (.ref b35), .val (.ref b39), .val (.int u45), .unset, .unset] [])) X44.here hx rfl (hb hby at_140) rfl (XS.istore (g := (mkF m 142 #[.val (.int p0), .val (.int p1), .val (.int p2), .val (.int p3), .val (.int p4), .val (.int u18), .val (.ref b19), .val (.int u32), .val (.int u33), .val (.int u34), .val (.ref b35), .val (.ref b39), .val (.int u45), .unset, .unset] [(.int u32)])) X44.here hx rfl (hb hby at_142) rfl (l' := #[.val (.int p0), .val (.int p1), .val (.int p2), .val (.int p3), .val (.int p4), .val (.int u18), .val (.ref b19), .val (.int u32), .val (.int u33), .val (.int u34), .val (.ref b35), .val (.ref b39), .val (.int u45), .val (.int u32), .unset]) rfl (XS.goto (g := (mkF m 144 #[.val (.int p0), .val (.int p1), .val (.int p2), .val (.int p3), .val (.int p4), .val (.int u18), .val (.ref b19), .val (.int u32), .val (.int u33), .val (.int u34), .val (.ref b35), .val (.ref b39), .val (.int u45), .val (.int u32), .unset] [])) X44.here hx rfl (pc0 := 144) (pc' := 164) rfl (hb hby at_144) (by decide) (by decide) (XS.iloadN (g := (mkF m 164 #[.val (.int p0), .val (.int p1), .val (.int p2), .val (.int p3), .val (.int p4), .val (.int u18), .val (.ref b19), .val (.int u32), .val (.int u33), .val (.int u34), .val (.ref b35), .val (.ref b39), .val (.int u45), .val (.int u32), .unset] [])) X44.here hx rfl (hb hby at_164) rfl (XS.iload (g := (mkF m 165 #[.val (.int p0), .val (.int p1), .val (.int p2), .val (.int p3), .val (.int p4), .val (.int u18), .val (.ref b19), .val (.int u32), .val (.int u33), .val (.int u34), .val (.ref b35), .val (.ref b39), .val (.int u45), .val (.int u32), .unset] [(.int p1)])) X44.here hx rfl (hb hby at_165) rfl (XS.ishr (g := (mkF m 167 #[.val (.int p0), .val (.int p1), .val (.int p2), .val (.int p3), .val (.int p4), .val (.int u18), .val (.ref b19), .val (.int u32), .val (.int u33), .val (.int u34), .val (.ref b35), .val (.ref b39), .val (.int u45), .val (.int u32), .unset] [(.int u32), (.int p1)])) X44.here hx rfl (hb hby at_167) rfl (XS.iconst (g := (mkF m 168 #[.val (.int p0), .val (.int p1), .val (.int p2), .val (.int p3), .val (.int p4), .val (.int u18), .val (.ref b19), .val (.int u32), .val (.int u33), .val (.int u34), .val (.ref b35), .val (.ref b39), .val (.int u45), .val (.int u32), .unset] [(.int (p1 >>> (u32 &&& 31)))])) X44.here hx rfl (hb hby at_168) (XS.iand (g := (mkF m 169 #[.val (.int p0), .val (.int p1), .val (.int p2), .val (.int p3), .val (.int p4), .val (.int u18), .val (.ref b19), .val (.int u32), .val (.int u33), .val (.int u34), .val (.ref b35), .val (.ref b39), .val (.int u45), .val (.int u32), .unset] [(.int (1 : Int32)), (.int (p1 >>> (u32 &&& 31)))])) X44.here hx rfl (hb hby at_169) rfl kq))))))))) ?_
    suffices J178_v47 : ∀ v47 : Int32, v47 = (if ((p1 >>> (u32 &&& 31)) &&& (1 : Int32)) = (0 : Int32) then (0 : Int32) else (1 : Int32)) → own_Go p e below s (fun v h L => v = some (.int 1) ∧ Fr n0 L) room_1.cells room_1.slots T44 (mkF m 178 #[.val (.int p0), .val (.int p1), .val (.int p2), .val (.int p3), .val (.int p4), .val (.int u18), .val (.ref b19), .val (.int u32), .val (.int u33), .val (.int u34), .val (.ref b35), .val (.ref b39), .val (.int u45), .val (.int u32), .unset] [(.int v47)]) by
      by_cases hc170_48 : ((p1 >>> (u32 &&& 31)) &&& (1 : Int32)) = (0 : Int32)
      · refine own_st (T' := T44) (g' := (mkF m 178 #[.val (.int p0), .val (.int p1), .val (.int p2), .val (.int p3), .val (.int p4), .val (.int u18), .val (.ref b19), .val (.int u32), .val (.int u33), .val (.int u34), .val (.ref b35), .val (.ref b39), .val (.int u45), .val (.int u32), .unset] [(.int (0 : Int32))])) (fun tq kq => XS.ifYes (g := (mkF m 170 #[.val (.int p0), .val (.int p1), .val (.int p2), .val (.int p3), .val (.int p4), .val (.int u18), .val (.ref b19), .val (.int u32), .val (.int u33), .val (.int u34), .val (.ref b35), .val (.ref b39), .val (.int u45), .val (.int u32), .unset] [(.int ((p1 >>> (u32 &&& 31)) &&& (1 : Int32)))])) X44.here hx rfl (pc0 := 170) (pc' := 177) rfl (hb hby at_170) rfl ((if0 _ _).trans (teq hc170_48).1) (by decide) (by decide) (XS.iconst (g := (mkF m 177 #[.val (.int p0), .val (.int p1), .val (.int p2), .val (.int p3), .val (.int p4), .val (.int u18), .val (.ref b19), .val (.int u32), .val (.int u33), .val (.int u34), .val (.ref b35), .val (.ref b39), .val (.int u45), .val (.int u32), .unset] [])) X44.here hx rfl (hb hby at_177) kq)) ?_
        exact J178_v47 _ ((if_pos hc170_48).symm)
      · refine own_st (T' := T44) (g' := (mkF m 178 #[.val (.int p0), .val (.int p1), .val (.int p2), .val (.int p3), .val (.int p4), .val (.int u18), .val (.ref b19), .val (.int u32), .val (.int u33), .val (.int u34), .val (.ref b35), .val (.ref b39), .val (.int u45), .val (.int u32), .unset] [(.int (1 : Int32))])) (fun tq kq => XS.ifNo (g := (mkF m 170 #[.val (.int p0), .val (.int p1), .val (.int p2), .val (.int p3), .val (.int p4), .val (.int u18), .val (.ref b19), .val (.int u32), .val (.int u33), .val (.int u34), .val (.ref b35), .val (.ref b39), .val (.int u45), .val (.int u32), .unset] [(.int ((p1 >>> (u32 &&& 31)) &&& (1 : Int32)))])) X44.here hx rfl (hb hby at_170) rfl ((if0 _ _).trans (feq hc170_48).1) (XS.iconst (g := (mkF m 173 #[.val (.int p0), .val (.int p1), .val (.int p2), .val (.int p3), .val (.int p4), .val (.int u18), .val (.ref b19), .val (.int u32), .val (.int u33), .val (.int u34), .val (.ref b35), .val (.ref b39), .val (.int u45), .val (.int u32), .unset] [])) X44.here hx rfl (hb hby at_173) (XS.goto (g := (mkF m 174 #[.val (.int p0), .val (.int p1), .val (.int p2), .val (.int p3), .val (.int p4), .val (.int u18), .val (.ref b19), .val (.int u32), .val (.int u33), .val (.int u34), .val (.ref b35), .val (.ref b39), .val (.int u45), .val (.int u32), .unset] [(.int (1 : Int32))])) X44.here hx rfl (pc0 := 174) (pc' := 178) rfl (hb hby at_174) (by decide) (by decide) kq))) ?_
        exact J178_v47 _ ((if_neg hc170_48).symm)
    intro v47 hv47
    refine own_st (T' := T44) (g' := (mkF m 184 #[.val (.int p0), .val (.int p1), .val (.int p2), .val (.int p3), .val (.int p4), .val (.int u18), .val (.ref b19), .val (.int u32), .val (.int u33), .val (.int u34), .val (.ref b35), .val (.ref b39), .val (.int u45), .val (.int u32), .val (.int v47)] [(.int v47), (.int u45)])) (fun tq kq => XS.istore (g := (mkF m 178 #[.val (.int p0), .val (.int p1), .val (.int p2), .val (.int p3), .val (.int p4), .val (.int u18), .val (.ref b19), .val (.int u32), .val (.int u33), .val (.int u34), .val (.ref b35), .val (.ref b39), .val (.int u45), .val (.int u32), .unset] [(.int v47)])) X44.here hx rfl (hb hby at_178) rfl (l' := #[.val (.int p0), .val (.int p1), .val (.int p2), .val (.int p3), .val (.int p4), .val (.int u18), .val (.ref b19), .val (.int u32), .val (.int u33), .val (.int u34), .val (.ref b35), .val (.ref b39), .val (.int u45), .val (.int u32), .val (.int v47)]) rfl (XS.iload (g := (mkF m 180 #[.val (.int p0), .val (.int p1), .val (.int p2), .val (.int p3), .val (.int p4), .val (.int u18), .val (.ref b19), .val (.int u32), .val (.int u33), .val (.int u34), .val (.ref b35), .val (.ref b39), .val (.int u45), .val (.int u32), .val (.int v47)] [])) X44.here hx rfl (hb hby at_180) rfl (XS.iload (g := (mkF m 182 #[.val (.int p0), .val (.int p1), .val (.int p2), .val (.int p3), .val (.int p4), .val (.int u18), .val (.ref b19), .val (.int u32), .val (.int u33), .val (.int u34), .val (.ref b35), .val (.ref b39), .val (.int u45), .val (.int u32), .val (.int v47)] [(.int u45)])) X44.here hx rfl (hb hby at_182) rfl kq))) ?_
    have hb49 : u45 = v47 := by rw [← hu45, hv47, ← own_bit_at p1 (hu32 ▸ own_and3 _)]; rcases (hu18 ▸ own_rem3 p0 : u18 = 0 ∨ u18 = 1 ∨ u18 = 2) with h | h | h <;> simp_all [own_row]
    refine own_st (T' := T44) (g' := (mkF m 192 #[.val (.int p0), .val (.int p1), .val (.int p2), .val (.int p3), .val (.int p4), .val (.int u18), .val (.ref b19), .val (.int u32), .val (.int u33), .val (.int u34), .val (.ref b35), .val (.ref b39), .val (.int u45), .val (.int u32), .val (.int v47)] [(.int (1 : Int32))])) (fun tq kq => XS.icmpNo (g := (mkF m 184 #[.val (.int p0), .val (.int p1), .val (.int p2), .val (.int p3), .val (.int p4), .val (.int u18), .val (.ref b19), .val (.int u32), .val (.int u33), .val (.int u34), .val (.ref b35), .val (.ref b39), .val (.int u45), .val (.int u32), .val (.int v47)] [(.int v47), (.int u45)])) X44.here hx rfl (hb hby at_184) rfl (teq hb49).2 (XS.iconst (g := (mkF m 187 #[.val (.int p0), .val (.int p1), .val (.int p2), .val (.int p3), .val (.int p4), .val (.int u18), .val (.ref b19), .val (.int u32), .val (.int u33), .val (.int u34), .val (.ref b35), .val (.ref b39), .val (.int u45), .val (.int u32), .val (.int v47)] [])) X44.here hx rfl (hb hby at_187) (XS.goto (g := (mkF m 188 #[.val (.int p0), .val (.int p1), .val (.int p2), .val (.int p3), .val (.int p4), .val (.int u18), .val (.ref b19), .val (.int u32), .val (.int u33), .val (.int u34), .val (.ref b35), .val (.ref b39), .val (.int u45), .val (.int u32), .val (.int v47)] [(.int (1 : Int32))])) X44.here hx rfl (pc0 := 188) (pc' := 192) rfl (hb hby at_188) (by decide) (by decide) kq))) ?_
    refine own_retI X44 hx hlk hret (by simp) rfl (hb hby at_192) ?_ (by decide) (by decide)
    exact ⟨rfl, N44⟩
  · refine own_st (T' := T44) (g' := (mkF m 150 #[.val (.int p0), .val (.int p1), .val (.int p2), .val (.int p3), .val (.int p4), .val (.int u18), .val (.ref b19), .val (.int u32), .val (.int u33), .val (.int u34), .val (.ref b35), .val (.ref b39), .val (.int u45), .unset, .unset] [(.int (1 : Int32)), (.int u18)])) (fun tq kq => XS.ifYes (g := (mkF m 137 #[.val (.int p0), .val (.int p1), .val (.int p2), .val (.int p3), .val (.int p4), .val (.int u18), .val (.ref b19), .val (.int u32), .val (.int u33), .val (.int u34), .val (.ref b35), .val (.ref b39), .val (.int u45), .unset, .unset] [(.int u18)])) X44.here hx rfl (pc0 := 137) (pc' := 147) rfl (hb hby at_137) rfl ((if0 _ _).trans (feq hc137_46).2) (by decide) (by decide) (XS.iload (g := (mkF m 147 #[.val (.int p0), .val (.int p1), .val (.int p2), .val (.int p3), .val (.int p4), .val (.int u18), .val (.ref b19), .val (.int u32), .val (.int u33), .val (.int u34), .val (.ref b35), .val (.ref b39), .val (.int u45), .unset, .unset] [])) X44.here hx rfl (hb hby at_147) rfl (XS.iconst (g := (mkF m 149 #[.val (.int p0), .val (.int p1), .val (.int p2), .val (.int p3), .val (.int p4), .val (.int u18), .val (.ref b19), .val (.int u32), .val (.int u33), .val (.int u34), .val (.ref b35), .val (.ref b39), .val (.int u45), .unset, .unset] [(.int u18)])) X44.here hx rfl (hb hby at_149) kq))) ?_
    by_cases hc150_50 : u18 = (1 : Int32)
    · refine own_st (T' := T44) (g' := (mkF m 170 #[.val (.int p0), .val (.int p1), .val (.int p2), .val (.int p3), .val (.int p4), .val (.int u18), .val (.ref b19), .val (.int u32), .val (.int u33), .val (.int u34), .val (.ref b35), .val (.ref b39), .val (.int u45), .val (.int u33), .unset] [(.int ((p1 >>> (u33 &&& 31)) &&& (1 : Int32)))])) (fun tq kq => XS.icmpNo (g := (mkF m 150 #[.val (.int p0), .val (.int p1), .val (.int p2), .val (.int p3), .val (.int p4), .val (.int u18), .val (.ref b19), .val (.int u32), .val (.int u33), .val (.int u34), .val (.ref b35), .val (.ref b39), .val (.int u45), .unset, .unset] [(.int (1 : Int32)), (.int u18)])) X44.here hx rfl (hb hby at_150) rfl (teq hc150_50).2 (XS.iload (g := (mkF m 153 #[.val (.int p0), .val (.int p1), .val (.int p2), .val (.int p3), .val (.int p4), .val (.int u18), .val (.ref b19), .val (.int u32), .val (.int u33), .val (.int u34), .val (.ref b35), .val (.ref b39), .val (.int u45), .unset, .unset] [])) X44.here hx rfl (hb hby at_153) rfl (XS.istore (g := (mkF m 155 #[.val (.int p0), .val (.int p1), .val (.int p2), .val (.int p3), .val (.int p4), .val (.int u18), .val (.ref b19), .val (.int u32), .val (.int u33), .val (.int u34), .val (.ref b35), .val (.ref b39), .val (.int u45), .unset, .unset] [(.int u33)])) X44.here hx rfl (hb hby at_155) rfl (l' := #[.val (.int p0), .val (.int p1), .val (.int p2), .val (.int p3), .val (.int p4), .val (.int u18), .val (.ref b19), .val (.int u32), .val (.int u33), .val (.int u34), .val (.ref b35), .val (.ref b39), .val (.int u45), .val (.int u33), .unset]) rfl (XS.goto (g := (mkF m 157 #[.val (.int p0), .val (.int p1), .val (.int p2), .val (.int p3), .val (.int p4), .val (.int u18), .val (.ref b19), .val (.int u32), .val (.int u33), .val (.int u34), .val (.ref b35), .val (.ref b39), .val (.int u45), .val (.int u33), .unset] [])) X44.here hx rfl (pc0 := 157) (pc' := 164) rfl (hb hby at_157) (by decide) (by decide) (XS.iloadN (g := (mkF m 164 #[.val (.int p0), .val (.int p1), .val (.int p2), .val (.int p3), .val (.int p4), .val (.int u18), .val (.ref b19), .val (.int u32), .val (.int u33), .val (.int u34), .val (.ref b35), .val (.ref b39), .val (.int u45), .val (.int u33), .unset] [])) X44.here hx rfl (hb hby at_164) rfl (XS.iload (g := (mkF m 165 #[.val (.int p0), .val (.int p1), .val (.int p2), .val (.int p3), .val (.int p4), .val (.int u18), .val (.ref b19), .val (.int u32), .val (.int u33), .val (.int u34), .val (.ref b35), .val (.ref b39), .val (.int u45), .val (.int u33), .unset] [(.int p1)])) X44.here hx rfl (hb hby at_165) rfl (XS.ishr (g := (mkF m 167 #[.val (.int p0), .val (.int p1), .val (.int p2), .val (.int p3), .val (.int p4), .val (.int u18), .val (.ref b19), .val (.int u32), .val (.int u33), .val (.int u34), .val (.ref b35), .val (.ref b39), .val (.int u45), .val (.int u33), .unset] [(.int u33), (.int p1)])) X44.here hx rfl (hb hby at_167) rfl (XS.iconst (g := (mkF m 168 #[.val (.int p0), .val (.int p1), .val (.int p2), .val (.int p3), .val (.int p4), .val (.int u18), .val (.ref b19), .val (.int u32), .val (.int u33), .val (.int u34), .val (.ref b35), .val (.ref b39), .val (.int u45), .val (.int u33), .unset] [(.int (p1 >>> (u33 &&& 31)))])) X44.here hx rfl (hb hby at_168) (XS.iand (g := (mkF m 169 #[.val (.int p0), .val (.int p1), .val (.int p2), .val (.int p3), .val (.int p4), .val (.int u18), .val (.ref b19), .val (.int u32), .val (.int u33), .val (.int u34), .val (.ref b35), .val (.ref b39), .val (.int u45), .val (.int u33), .unset] [(.int (1 : Int32)), (.int (p1 >>> (u33 &&& 31)))])) X44.here hx rfl (hb hby at_169) rfl kq))))))))) ?_
      suffices J178_v51 : ∀ v51 : Int32, v51 = (if ((p1 >>> (u33 &&& 31)) &&& (1 : Int32)) = (0 : Int32) then (0 : Int32) else (1 : Int32)) → own_Go p e below s (fun v h L => v = some (.int 1) ∧ Fr n0 L) room_1.cells room_1.slots T44 (mkF m 178 #[.val (.int p0), .val (.int p1), .val (.int p2), .val (.int p3), .val (.int p4), .val (.int u18), .val (.ref b19), .val (.int u32), .val (.int u33), .val (.int u34), .val (.ref b35), .val (.ref b39), .val (.int u45), .val (.int u33), .unset] [(.int v51)]) by
        by_cases hc170_52 : ((p1 >>> (u33 &&& 31)) &&& (1 : Int32)) = (0 : Int32)
        · refine own_st (T' := T44) (g' := (mkF m 178 #[.val (.int p0), .val (.int p1), .val (.int p2), .val (.int p3), .val (.int p4), .val (.int u18), .val (.ref b19), .val (.int u32), .val (.int u33), .val (.int u34), .val (.ref b35), .val (.ref b39), .val (.int u45), .val (.int u33), .unset] [(.int (0 : Int32))])) (fun tq kq => XS.ifYes (g := (mkF m 170 #[.val (.int p0), .val (.int p1), .val (.int p2), .val (.int p3), .val (.int p4), .val (.int u18), .val (.ref b19), .val (.int u32), .val (.int u33), .val (.int u34), .val (.ref b35), .val (.ref b39), .val (.int u45), .val (.int u33), .unset] [(.int ((p1 >>> (u33 &&& 31)) &&& (1 : Int32)))])) X44.here hx rfl (pc0 := 170) (pc' := 177) rfl (hb hby at_170) rfl ((if0 _ _).trans (teq hc170_52).1) (by decide) (by decide) (XS.iconst (g := (mkF m 177 #[.val (.int p0), .val (.int p1), .val (.int p2), .val (.int p3), .val (.int p4), .val (.int u18), .val (.ref b19), .val (.int u32), .val (.int u33), .val (.int u34), .val (.ref b35), .val (.ref b39), .val (.int u45), .val (.int u33), .unset] [])) X44.here hx rfl (hb hby at_177) kq)) ?_
          exact J178_v51 _ ((if_pos hc170_52).symm)
        · refine own_st (T' := T44) (g' := (mkF m 178 #[.val (.int p0), .val (.int p1), .val (.int p2), .val (.int p3), .val (.int p4), .val (.int u18), .val (.ref b19), .val (.int u32), .val (.int u33), .val (.int u34), .val (.ref b35), .val (.ref b39), .val (.int u45), .val (.int u33), .unset] [(.int (1 : Int32))])) (fun tq kq => XS.ifNo (g := (mkF m 170 #[.val (.int p0), .val (.int p1), .val (.int p2), .val (.int p3), .val (.int p4), .val (.int u18), .val (.ref b19), .val (.int u32), .val (.int u33), .val (.int u34), .val (.ref b35), .val (.ref b39), .val (.int u45), .val (.int u33), .unset] [(.int ((p1 >>> (u33 &&& 31)) &&& (1 : Int32)))])) X44.here hx rfl (hb hby at_170) rfl ((if0 _ _).trans (feq hc170_52).1) (XS.iconst (g := (mkF m 173 #[.val (.int p0), .val (.int p1), .val (.int p2), .val (.int p3), .val (.int p4), .val (.int u18), .val (.ref b19), .val (.int u32), .val (.int u33), .val (.int u34), .val (.ref b35), .val (.ref b39), .val (.int u45), .val (.int u33), .unset] [])) X44.here hx rfl (hb hby at_173) (XS.goto (g := (mkF m 174 #[.val (.int p0), .val (.int p1), .val (.int p2), .val (.int p3), .val (.int p4), .val (.int u18), .val (.ref b19), .val (.int u32), .val (.int u33), .val (.int u34), .val (.ref b35), .val (.ref b39), .val (.int u45), .val (.int u33), .unset] [(.int (1 : Int32))])) X44.here hx rfl (pc0 := 174) (pc' := 178) rfl (hb hby at_174) (by decide) (by decide) kq))) ?_
          exact J178_v51 _ ((if_neg hc170_52).symm)
      intro v51 hv51
      refine own_st (T' := T44) (g' := (mkF m 184 #[.val (.int p0), .val (.int p1), .val (.int p2), .val (.int p3), .val (.int p4), .val (.int u18), .val (.ref b19), .val (.int u32), .val (.int u33), .val (.int u34), .val (.ref b35), .val (.ref b39), .val (.int u45), .val (.int u33), .val (.int v51)] [(.int v51), (.int u45)])) (fun tq kq => XS.istore (g := (mkF m 178 #[.val (.int p0), .val (.int p1), .val (.int p2), .val (.int p3), .val (.int p4), .val (.int u18), .val (.ref b19), .val (.int u32), .val (.int u33), .val (.int u34), .val (.ref b35), .val (.ref b39), .val (.int u45), .val (.int u33), .unset] [(.int v51)])) X44.here hx rfl (hb hby at_178) rfl (l' := #[.val (.int p0), .val (.int p1), .val (.int p2), .val (.int p3), .val (.int p4), .val (.int u18), .val (.ref b19), .val (.int u32), .val (.int u33), .val (.int u34), .val (.ref b35), .val (.ref b39), .val (.int u45), .val (.int u33), .val (.int v51)]) rfl (XS.iload (g := (mkF m 180 #[.val (.int p0), .val (.int p1), .val (.int p2), .val (.int p3), .val (.int p4), .val (.int u18), .val (.ref b19), .val (.int u32), .val (.int u33), .val (.int u34), .val (.ref b35), .val (.ref b39), .val (.int u45), .val (.int u33), .val (.int v51)] [])) X44.here hx rfl (hb hby at_180) rfl (XS.iload (g := (mkF m 182 #[.val (.int p0), .val (.int p1), .val (.int p2), .val (.int p3), .val (.int p4), .val (.int u18), .val (.ref b19), .val (.int u32), .val (.int u33), .val (.int u34), .val (.ref b35), .val (.ref b39), .val (.int u45), .val (.int u33), .val (.int v51)] [(.int u45)])) X44.here hx rfl (hb hby at_182) rfl kq))) ?_
      have hb53 : u45 = v51 := by rw [← hu45, hv51, ← own_bit_at p1 (hu33 ▸ own_and3 _)]; rcases (hu18 ▸ own_rem3 p0 : u18 = 0 ∨ u18 = 1 ∨ u18 = 2) with h | h | h <;> simp_all [own_row]
      refine own_st (T' := T44) (g' := (mkF m 192 #[.val (.int p0), .val (.int p1), .val (.int p2), .val (.int p3), .val (.int p4), .val (.int u18), .val (.ref b19), .val (.int u32), .val (.int u33), .val (.int u34), .val (.ref b35), .val (.ref b39), .val (.int u45), .val (.int u33), .val (.int v51)] [(.int (1 : Int32))])) (fun tq kq => XS.icmpNo (g := (mkF m 184 #[.val (.int p0), .val (.int p1), .val (.int p2), .val (.int p3), .val (.int p4), .val (.int u18), .val (.ref b19), .val (.int u32), .val (.int u33), .val (.int u34), .val (.ref b35), .val (.ref b39), .val (.int u45), .val (.int u33), .val (.int v51)] [(.int v51), (.int u45)])) X44.here hx rfl (hb hby at_184) rfl (teq hb53).2 (XS.iconst (g := (mkF m 187 #[.val (.int p0), .val (.int p1), .val (.int p2), .val (.int p3), .val (.int p4), .val (.int u18), .val (.ref b19), .val (.int u32), .val (.int u33), .val (.int u34), .val (.ref b35), .val (.ref b39), .val (.int u45), .val (.int u33), .val (.int v51)] [])) X44.here hx rfl (hb hby at_187) (XS.goto (g := (mkF m 188 #[.val (.int p0), .val (.int p1), .val (.int p2), .val (.int p3), .val (.int p4), .val (.int u18), .val (.ref b19), .val (.int u32), .val (.int u33), .val (.int u34), .val (.ref b35), .val (.ref b39), .val (.int u45), .val (.int u33), .val (.int v51)] [(.int (1 : Int32))])) X44.here hx rfl (pc0 := 188) (pc' := 192) rfl (hb hby at_188) (by decide) (by decide) kq))) ?_
      refine own_retI X44 hx hlk hret (by simp) rfl (hb hby at_192) ?_ (by decide) (by decide)
      exact ⟨rfl, N44⟩
    · refine own_st (T' := T44) (g' := (mkF m 170 #[.val (.int p0), .val (.int p1), .val (.int p2), .val (.int p3), .val (.int p4), .val (.int u18), .val (.ref b19), .val (.int u32), .val (.int u33), .val (.int u34), .val (.ref b35), .val (.ref b39), .val (.int u45), .val (.int u34), .unset] [(.int ((p1 >>> (u34 &&& 31)) &&& (1 : Int32)))])) (fun tq kq => XS.icmpYes (g := (mkF m 150 #[.val (.int p0), .val (.int p1), .val (.int p2), .val (.int p3), .val (.int p4), .val (.int u18), .val (.ref b19), .val (.int u32), .val (.int u33), .val (.int u34), .val (.ref b35), .val (.ref b39), .val (.int u45), .unset, .unset] [(.int (1 : Int32)), (.int u18)])) X44.here hx rfl (pc0 := 150) (pc' := 160) rfl (hb hby at_150) rfl (feq hc150_50).2 (by decide) (by decide) (XS.iload (g := (mkF m 160 #[.val (.int p0), .val (.int p1), .val (.int p2), .val (.int p3), .val (.int p4), .val (.int u18), .val (.ref b19), .val (.int u32), .val (.int u33), .val (.int u34), .val (.ref b35), .val (.ref b39), .val (.int u45), .unset, .unset] [])) X44.here hx rfl (hb hby at_160) rfl (XS.istore (g := (mkF m 162 #[.val (.int p0), .val (.int p1), .val (.int p2), .val (.int p3), .val (.int p4), .val (.int u18), .val (.ref b19), .val (.int u32), .val (.int u33), .val (.int u34), .val (.ref b35), .val (.ref b39), .val (.int u45), .unset, .unset] [(.int u34)])) X44.here hx rfl (hb hby at_162) rfl (l' := #[.val (.int p0), .val (.int p1), .val (.int p2), .val (.int p3), .val (.int p4), .val (.int u18), .val (.ref b19), .val (.int u32), .val (.int u33), .val (.int u34), .val (.ref b35), .val (.ref b39), .val (.int u45), .val (.int u34), .unset]) rfl (XS.iloadN (g := (mkF m 164 #[.val (.int p0), .val (.int p1), .val (.int p2), .val (.int p3), .val (.int p4), .val (.int u18), .val (.ref b19), .val (.int u32), .val (.int u33), .val (.int u34), .val (.ref b35), .val (.ref b39), .val (.int u45), .val (.int u34), .unset] [])) X44.here hx rfl (hb hby at_164) rfl (XS.iload (g := (mkF m 165 #[.val (.int p0), .val (.int p1), .val (.int p2), .val (.int p3), .val (.int p4), .val (.int u18), .val (.ref b19), .val (.int u32), .val (.int u33), .val (.int u34), .val (.ref b35), .val (.ref b39), .val (.int u45), .val (.int u34), .unset] [(.int p1)])) X44.here hx rfl (hb hby at_165) rfl (XS.ishr (g := (mkF m 167 #[.val (.int p0), .val (.int p1), .val (.int p2), .val (.int p3), .val (.int p4), .val (.int u18), .val (.ref b19), .val (.int u32), .val (.int u33), .val (.int u34), .val (.ref b35), .val (.ref b39), .val (.int u45), .val (.int u34), .unset] [(.int u34), (.int p1)])) X44.here hx rfl (hb hby at_167) rfl (XS.iconst (g := (mkF m 168 #[.val (.int p0), .val (.int p1), .val (.int p2), .val (.int p3), .val (.int p4), .val (.int u18), .val (.ref b19), .val (.int u32), .val (.int u33), .val (.int u34), .val (.ref b35), .val (.ref b39), .val (.int u45), .val (.int u34), .unset] [(.int (p1 >>> (u34 &&& 31)))])) X44.here hx rfl (hb hby at_168) (XS.iand (g := (mkF m 169 #[.val (.int p0), .val (.int p1), .val (.int p2), .val (.int p3), .val (.int p4), .val (.int u18), .val (.ref b19), .val (.int u32), .val (.int u33), .val (.int u34), .val (.ref b35), .val (.ref b39), .val (.int u45), .val (.int u34), .unset] [(.int (1 : Int32)), (.int (p1 >>> (u34 &&& 31)))])) X44.here hx rfl (hb hby at_169) rfl kq)))))))) ?_
      suffices J178_v54 : ∀ v54 : Int32, v54 = (if ((p1 >>> (u34 &&& 31)) &&& (1 : Int32)) = (0 : Int32) then (0 : Int32) else (1 : Int32)) → own_Go p e below s (fun v h L => v = some (.int 1) ∧ Fr n0 L) room_1.cells room_1.slots T44 (mkF m 178 #[.val (.int p0), .val (.int p1), .val (.int p2), .val (.int p3), .val (.int p4), .val (.int u18), .val (.ref b19), .val (.int u32), .val (.int u33), .val (.int u34), .val (.ref b35), .val (.ref b39), .val (.int u45), .val (.int u34), .unset] [(.int v54)]) by
        by_cases hc170_55 : ((p1 >>> (u34 &&& 31)) &&& (1 : Int32)) = (0 : Int32)
        · refine own_st (T' := T44) (g' := (mkF m 178 #[.val (.int p0), .val (.int p1), .val (.int p2), .val (.int p3), .val (.int p4), .val (.int u18), .val (.ref b19), .val (.int u32), .val (.int u33), .val (.int u34), .val (.ref b35), .val (.ref b39), .val (.int u45), .val (.int u34), .unset] [(.int (0 : Int32))])) (fun tq kq => XS.ifYes (g := (mkF m 170 #[.val (.int p0), .val (.int p1), .val (.int p2), .val (.int p3), .val (.int p4), .val (.int u18), .val (.ref b19), .val (.int u32), .val (.int u33), .val (.int u34), .val (.ref b35), .val (.ref b39), .val (.int u45), .val (.int u34), .unset] [(.int ((p1 >>> (u34 &&& 31)) &&& (1 : Int32)))])) X44.here hx rfl (pc0 := 170) (pc' := 177) rfl (hb hby at_170) rfl ((if0 _ _).trans (teq hc170_55).1) (by decide) (by decide) (XS.iconst (g := (mkF m 177 #[.val (.int p0), .val (.int p1), .val (.int p2), .val (.int p3), .val (.int p4), .val (.int u18), .val (.ref b19), .val (.int u32), .val (.int u33), .val (.int u34), .val (.ref b35), .val (.ref b39), .val (.int u45), .val (.int u34), .unset] [])) X44.here hx rfl (hb hby at_177) kq)) ?_
          exact J178_v54 _ ((if_pos hc170_55).symm)
        · refine own_st (T' := T44) (g' := (mkF m 178 #[.val (.int p0), .val (.int p1), .val (.int p2), .val (.int p3), .val (.int p4), .val (.int u18), .val (.ref b19), .val (.int u32), .val (.int u33), .val (.int u34), .val (.ref b35), .val (.ref b39), .val (.int u45), .val (.int u34), .unset] [(.int (1 : Int32))])) (fun tq kq => XS.ifNo (g := (mkF m 170 #[.val (.int p0), .val (.int p1), .val (.int p2), .val (.int p3), .val (.int p4), .val (.int u18), .val (.ref b19), .val (.int u32), .val (.int u33), .val (.int u34), .val (.ref b35), .val (.ref b39), .val (.int u45), .val (.int u34), .unset] [(.int ((p1 >>> (u34 &&& 31)) &&& (1 : Int32)))])) X44.here hx rfl (hb hby at_170) rfl ((if0 _ _).trans (feq hc170_55).1) (XS.iconst (g := (mkF m 173 #[.val (.int p0), .val (.int p1), .val (.int p2), .val (.int p3), .val (.int p4), .val (.int u18), .val (.ref b19), .val (.int u32), .val (.int u33), .val (.int u34), .val (.ref b35), .val (.ref b39), .val (.int u45), .val (.int u34), .unset] [])) X44.here hx rfl (hb hby at_173) (XS.goto (g := (mkF m 174 #[.val (.int p0), .val (.int p1), .val (.int p2), .val (.int p3), .val (.int p4), .val (.int u18), .val (.ref b19), .val (.int u32), .val (.int u33), .val (.int u34), .val (.ref b35), .val (.ref b39), .val (.int u45), .val (.int u34), .unset] [(.int (1 : Int32))])) X44.here hx rfl (pc0 := 174) (pc' := 178) rfl (hb hby at_174) (by decide) (by decide) kq))) ?_
          exact J178_v54 _ ((if_neg hc170_55).symm)
      intro v54 hv54
      refine own_st (T' := T44) (g' := (mkF m 184 #[.val (.int p0), .val (.int p1), .val (.int p2), .val (.int p3), .val (.int p4), .val (.int u18), .val (.ref b19), .val (.int u32), .val (.int u33), .val (.int u34), .val (.ref b35), .val (.ref b39), .val (.int u45), .val (.int u34), .val (.int v54)] [(.int v54), (.int u45)])) (fun tq kq => XS.istore (g := (mkF m 178 #[.val (.int p0), .val (.int p1), .val (.int p2), .val (.int p3), .val (.int p4), .val (.int u18), .val (.ref b19), .val (.int u32), .val (.int u33), .val (.int u34), .val (.ref b35), .val (.ref b39), .val (.int u45), .val (.int u34), .unset] [(.int v54)])) X44.here hx rfl (hb hby at_178) rfl (l' := #[.val (.int p0), .val (.int p1), .val (.int p2), .val (.int p3), .val (.int p4), .val (.int u18), .val (.ref b19), .val (.int u32), .val (.int u33), .val (.int u34), .val (.ref b35), .val (.ref b39), .val (.int u45), .val (.int u34), .val (.int v54)]) rfl (XS.iload (g := (mkF m 180 #[.val (.int p0), .val (.int p1), .val (.int p2), .val (.int p3), .val (.int p4), .val (.int u18), .val (.ref b19), .val (.int u32), .val (.int u33), .val (.int u34), .val (.ref b35), .val (.ref b39), .val (.int u45), .val (.int u34), .val (.int v54)] [])) X44.here hx rfl (hb hby at_180) rfl (XS.iload (g := (mkF m 182 #[.val (.int p0), .val (.int p1), .val (.int p2), .val (.int p3), .val (.int p4), .val (.int u18), .val (.ref b19), .val (.int u32), .val (.int u33), .val (.int u34), .val (.ref b35), .val (.ref b39), .val (.int u45), .val (.int u34), .val (.int v54)] [(.int u45)])) X44.here hx rfl (hb hby at_182) rfl kq))) ?_
      have hb56 : u45 = v54 := by rw [← hu45, hv54, ← own_bit_at p1 (hu34 ▸ own_and3 _)]; rcases (hu18 ▸ own_rem3 p0 : u18 = 0 ∨ u18 = 1 ∨ u18 = 2) with h | h | h <;> simp_all [own_row]
      refine own_st (T' := T44) (g' := (mkF m 192 #[.val (.int p0), .val (.int p1), .val (.int p2), .val (.int p3), .val (.int p4), .val (.int u18), .val (.ref b19), .val (.int u32), .val (.int u33), .val (.int u34), .val (.ref b35), .val (.ref b39), .val (.int u45), .val (.int u34), .val (.int v54)] [(.int (1 : Int32))])) (fun tq kq => XS.icmpNo (g := (mkF m 184 #[.val (.int p0), .val (.int p1), .val (.int p2), .val (.int p3), .val (.int p4), .val (.int u18), .val (.ref b19), .val (.int u32), .val (.int u33), .val (.int u34), .val (.ref b35), .val (.ref b39), .val (.int u45), .val (.int u34), .val (.int v54)] [(.int v54), (.int u45)])) X44.here hx rfl (hb hby at_184) rfl (teq hb56).2 (XS.iconst (g := (mkF m 187 #[.val (.int p0), .val (.int p1), .val (.int p2), .val (.int p3), .val (.int p4), .val (.int u18), .val (.ref b19), .val (.int u32), .val (.int u33), .val (.int u34), .val (.ref b35), .val (.ref b39), .val (.int u45), .val (.int u34), .val (.int v54)] [])) X44.here hx rfl (hb hby at_187) (XS.goto (g := (mkF m 188 #[.val (.int p0), .val (.int p1), .val (.int p2), .val (.int p3), .val (.int p4), .val (.int u18), .val (.ref b19), .val (.int u32), .val (.int u33), .val (.int u34), .val (.ref b35), .val (.ref b39), .val (.int u45), .val (.int u34), .val (.int v54)] [(.int (1 : Int32))])) X44.here hx rfl (pc0 := 188) (pc' := 192) rfl (hb hby at_188) (by decide) (by decide) kq))) ?_
      refine own_retI X44 hx hlk hret (by simp) rfl (hb hby at_192) ?_ (by decide) (by decide)
      exact ⟨rfl, N44⟩
set_option maxRecDepth 65536 in
set_option maxHeartbeats 40000000 in
theorem own_comes {Post : Tables → Env → Array Value → State → Outcome → State → Prop} (hpost : ∀ tb e args s v u, (limb_1_1.after args s (.returned v) u = true ∧ limb_1_2.after args s (.returned v) u = true ∧ True) → FrameEnd s (.returned v) u (Jvm.fieldLocs frame_1_writes args s ++ Jvm.arrayLocs frame_1_arrays args s ++ Jvm.staticLocs frame_1_statics s) 16 128 → Post tb e args s (.returned v) u) :
    ArmFor flags0 classFile x code maxLocals ret World_1 tables_1 room_1 Calls_1 rest_1 Pre_1 Post := by
  intro l hfl _ _ p e ha hc hk s m args below hf hA hF happ hP
  obtain ⟨hcalls, hrest, hpre⟩ := hP
  obtain ⟨-, -, -, hnamed, -, -, -, hat⟩ := (Spec.applies_iff hf).mp happ
  obtain ⟨hg, hn⟩ := and_e (Cond.before_iff.mp (show (Jvm.Cond.and given_1 narrow_1).before args s = true from hpre))
  obtain ⟨g0, r0⟩ := and_e hg
  obtain ⟨k0, r1⟩ := and_e r0
  obtain ⟨k1, r2⟩ := and_e r1
  obtain ⟨k2, r3⟩ := and_e r2
  obtain ⟨k3, r4⟩ := and_e r3
  obtain ⟨w0, w1, w2, w3, w4, rfl⟩ : ∃ w0 w1 w2 w3 w4 : Value, args = #[w0, w1, w2, w3, w4] := by
    have hs : args.size = 5 := by simpa [Cond.value, given_1] using g0
    obtain ⟨L⟩ := args
    match L, hs with
    | [w0, w1, w2, w3, w4], _ => exact ⟨w0, w1, w2, w3, w4, rfl⟩
  have hw := fun d (hd : d ∈ tables_1) => atoms_spec (ws := Jvm.Cond.code x code maxLocals ret :: tables_1) hat d (List.mem_cons_of_mem _ hd)
  have hfit : Fit s := fun {y c} hc i hi => by
    obtain ⟨ha, rfl⟩ := Array.getElem?_eq_some_iff.mp hc
    have q := List.all_eq_true.mp ((Array.all_eq_true_iff_forall_mem.mp hF) _ (Array.getElem_mem ha)) i (List.mem_range.mpr hi)
    simpa [Array.getElem?_eq_getElem hi] using q
  obtain ⟨p0, i0⟩ := is_v k0
  obtain rfl : w0 = (.int p0) := Option.some.inj i0
  obtain ⟨p1, i1⟩ := is_v k1
  obtain rfl : w1 = (.int p1) := Option.some.inj i1
  obtain ⟨p2, i2⟩ := is_v k2
  obtain rfl : w2 = (.int p2) := Option.some.inj i2
  obtain ⟨p3, i3⟩ := is_v k3
  obtain rfl : w3 = (.int p3) := Option.some.inj i3
  obtain ⟨p4, i4⟩ := is_v r4
  obtain rfl : w4 = (.int p4) := Option.some.inj i4
  obtain ⟨n, o, h1, h2, h3, _, L, rfl, ⟨rfl, N⟩, hq⟩ := own_rm0 l s _ hw p0 p1 p2 p3 p4  s.heap s.heap.size (Nat.le_refl _)  tables_1 p e ha hc hk s m _ below hf ((Spec.applies_iff_loose hf).mp happ).1 ⟨rfl, State.Warmed39.refl s, rfl⟩ trivial
  refine ⟨n, _, h1, h2, h3, hpost _ _ _ _ _ _ ⟨Cond.after_iff.mpr rfl, Cond.after_iff.mpr (eq_i res_at (Term.int_eval (1)) rfl), trivial⟩ ⟨hq.1, hq.2.1, (hq.2.2.sift fun y hy => Or.inr (N y hy)).mono (by decide) (by decide)⟩⟩
theorem main_1_1 : Claimed_1_1 := own_comes fun _ _ _ _ _ _ h hF => ⟨h.1, hF⟩
theorem main_1_2 : Claimed_1_2 := own_comes fun _ _ _ _ _ _ h hF => ⟨h.2.1, hF⟩
end Jvm.Pilot.@@N@@
namespace Jvm.Pilot.@@N@@
open Jvm Jvm.ClassFile Sem Op Lib Jvm.Free Jvm.Stand Jvm.Pilot.@@N@@.Jvm.D
/-! MADE BY PROGRAM (witnessworld.py) out of the Statement's table words and the real class files: 13 classes; the members and pool entries that the words name. The judged class is class 1, her method 1. -/
namespace start1
open Jvm.ClassFile
def u (s : String) : CpInfo := .utf8 (stringToUtf16 s)
/-- a pool by its gaps: so many unusable entries, then the entry; so many at the end -/
def gap : Nat → List CpInfo → List CpInfo
  | 0, r => r
  | n + 1, r => .unusable :: gap n r
def poolList (es : List (Nat × CpInfo)) (last : Nat) : List CpInfo := es.foldr (fun e r => gap e.1 (e.2 :: r)) (gap last [])
def pool (es : List (Nat × CpInfo)) (last : Nat) : Array CpInfo := ⟨poolList es last⟩
def fileOf (pool : Array CpInfo) (this : Nat) (attrs : Array Attribute := #[]) (ms : Array MethodInfo := #[]) (fl : Nat := 33) (sup : Nat := 0) (ifs : Array Nat := #[]) (fds : Array FieldInfo := #[]) : ClassFile where
  minorVersion := 0
  majorVersion := 65
  constantPool := pool
  accessFlags := fl
  thisClass := this
  superClass := sup
  interfaces := ifs
  fields := fds
  methods := ms
  attributes := attrs
def plain (name : String) (sup : Option ClassId) : Class where
  name := name
  kind := .ordinary
  loader := none
  accessFlags := 33
  super := sup
  interfaces := #[]
  cf := none
  fields := #[]
  methods := #[]
  instanceTypes := #[]
  staticTypes := #[]
  resolved := #[]
  callSites := []
  init := .initialized
  statics := none
  mirror := none

def pool0 : Array CpInfo := pool [(5, u "<init>"), (0, u "()V"), (1, .class_ 10), (1, u "java/lang/Object")] 113

def k0c0 : Code := { maxStack := 0, maxLocals := 1, code := object_method_1_code, exceptionTable := #[], attributes := #[] }
def k0m0 : Method := { name := "<init>", desc := "()V", sig := { parameters := [], returnType := none }, accessFlags := 1, code := some k0c0 }
/-- java/lang/Object -/
def k0 : Class := { plain "java/lang/Object" none with
  accessFlags := 33
  interfaces := #[]
  cf := some (fileOf pool0 8 #[] #[{ accessFlags := 1, nameIndex := 5, descriptorIndex := 6, attributes := #[] }] 33 0 #[] #[])
  fields := #[]
  methods := #[k0m0]
  instanceTypes := #[]
  staticTypes := #[]
  resolved := Array.replicate 124 none
  statics := none }

def pool1 : Array CpInfo := pool [(2, .class_ 4), (1, u "java/lang/Object"), (0, u "<init>"), (0, u "()V"), (0, .integer 2147483647), (0, .class_ 9), (0, u "com/example/coverweave/coverweave/Constraint$ValueIn"), (0, .methodref 8 11), (0, .nameAndType 5 12), (0, u "(I[Z)V"), (0, .methodref 8 14), (0, .nameAndType 15 16), (0, u "holds"), (0, u "([I)Z"), (0, .class_ 18), (0, u "com/example/coverweave/coverweave/ValueInHoldsPinLaw"), (2, u "law"), (0, u "(IIIII)Z")] 11

def k1m0 : Method := { name := "<init>", desc := "()V", sig := { parameters := [], returnType := none }, accessFlags := 1, code := none }
def k1c1 : Code := { maxStack := 4, maxLocals := 15, code := code, exceptionTable := #[], attributes := #[] }
def k1m1 : Method := { name := "law", desc := "(IIIII)Z", sig := { parameters := [.int, .int, .int, .int, .int], returnType := some .boolean }, accessFlags := 9, code := some k1c1 }
/-- com/example/coverweave/coverweave/ValueInHoldsPinLaw -/
def k1 : Class := { plain "com/example/coverweave/coverweave/ValueInHoldsPinLaw" (some 0) with
  accessFlags := 49
  interfaces := #[]
  cf := some (fileOf pool1 17 #[] #[{ accessFlags := 1, nameIndex := 5, descriptorIndex := 6, attributes := #[] }, { accessFlags := 9, nameIndex := 21, descriptorIndex := 22, attributes := #[] }] 49 2 #[] #[])
  fields := #[]
  methods := #[k1m0, k1m1]
  instanceTypes := #[]
  staticTypes := #[]
  resolved := Array.replicate 34 none
  statics := none }

def pool2 : Array CpInfo := pool [(1, .methodref 2 3), (0, .class_ 4), (0, .nameAndType 5 6), (0, u "java/lang/Object"), (0, u "<init>"), (0, u "()V"), (0, .class_ 8), (0, u "java/lang/Record")] 13

def k2c0 : Code := { maxStack := 1, maxLocals := 1, code := jdk_30_method_1_code, exceptionTable := #[], attributes := #[] }
def k2m0 : Method := { name := "<init>", desc := "()V", sig := { parameters := [], returnType := none }, accessFlags := 4, code := some k2c0 }
/-- java/lang/Record -/
def k2 : Class := { plain "java/lang/Record" (some 0) with
  accessFlags := 1057
  interfaces := #[]
  cf := some (fileOf pool2 7 #[] #[{ accessFlags := 4, nameIndex := 5, descriptorIndex := 6, attributes := #[] }] 1057 2 #[] #[])
  fields := #[]
  methods := #[k2m0]
  instanceTypes := #[]
  staticTypes := #[]
  resolved := Array.replicate 22 none
  statics := none }

def pool3 : Array CpInfo := pool [(1, .class_ 2), (0, u "com/example/coverweave/coverweave/Constraint"), (0, .class_ 4), (0, u "java/lang/Object"), (7, .class_ 13), (0, u "com/example/coverweave/coverweave/Constraint$Any"), (0, .class_ 15), (0, u "com/example/coverweave/coverweave/Constraint$All"), (0, .class_ 17), (0, u "com/example/coverweave/coverweave/Constraint$Not"), (0, .class_ 19), (0, u "com/example/coverweave/coverweave/Constraint$PairIn"), (0, .class_ 21), (0, u "com/example/coverweave/coverweave/Constraint$ValueIn")] 7

/-- com/example/coverweave/coverweave/Constraint -/
def k3 : Class := { plain "com/example/coverweave/coverweave/Constraint" (some 0) with
  accessFlags := 1536
  interfaces := #[]
  cf := some (fileOf pool3 1 #[.nestMembers #[12, 14, 16, 18, 20]] #[] 1536 3 #[] #[])
  fields := #[]
  methods := #[]
  instanceTypes := #[]
  staticTypes := #[]
  resolved := Array.replicate 29 none
  statics := none }

def pool4 : Array CpInfo := pool [(1, .methodref 2 3), (0, .class_ 4), (0, .nameAndType 5 6), (0, u "java/lang/Record"), (0, u "<init>"), (0, u "()V"), (0, .fieldref 8 9), (0, .class_ 10), (0, .nameAndType 11 12), (0, u "com/example/coverweave/coverweave/Constraint$ValueIn"), (0, u "parameter"), (0, u "I"), (0, .fieldref 8 14), (0, .nameAndType 15 16), (0, u "holds"), (0, u "[Z"), (18, .class_ 36), (0, u "com/example/coverweave/coverweave/Constraint"), (0, u "(I[Z)V"), (3, u "([I)Z")] 29

def k4c0 : Code := { maxStack := 2, maxLocals := 3, code := prog_8_method_1_code, exceptionTable := #[], attributes := #[] }
def k4m0 : Method := { name := "<init>", desc := "(I[Z)V", sig := { parameters := [.int, (.array .boolean)], returnType := none }, accessFlags := 1, code := some k4c0 }
def k4c1 : Code := { maxStack := 3, maxLocals := 2, code := prog_8_method_2_code, exceptionTable := #[], attributes := #[] }
def k4m1 : Method := { name := "holds", desc := "([I)Z", sig := { parameters := [(.array .int)], returnType := some .boolean }, accessFlags := 1, code := some k4c1 }
/-- com/example/coverweave/coverweave/Constraint$ValueIn -/
def k4 : Class := { plain "com/example/coverweave/coverweave/Constraint$ValueIn" (some 2) with
  accessFlags := 49
  interfaces := #[3]
  cf := some (fileOf pool4 8 #[.nestHost 35] #[{ accessFlags := 1, nameIndex := 5, descriptorIndex := 37, attributes := #[] }, { accessFlags := 1, nameIndex := 15, descriptorIndex := 41, attributes := #[] }] 49 2 #[35] #[{ accessFlags := 18, nameIndex := 11, descriptorIndex := 12, attributes := #[] }, { accessFlags := 18, nameIndex := 15, descriptorIndex := 16, attributes := #[] }])
  fields := #[{ name := "parameter", type := .int, accessFlags := 18, slot := 0, constantValue := 0 }, { name := "holds", type := (.array .boolean), accessFlags := 18, slot := 1, constantValue := 0 }]
  methods := #[k4m0, k4m1]
  instanceTypes := #[.int, (.array .boolean)]
  staticTypes := #[]
  resolved := Array.replicate 71 none
  statics := none }

def pool5 : Array CpInfo := pool [(1, u "java/lang/Cloneable"), (0, .class_ 1), (0, u "java/lang/Object"), (0, .class_ 3)] 3

/-- java/lang/Cloneable -/
def k5 : Class := { plain "java/lang/Cloneable" (some 0) with
  accessFlags := 1537
  interfaces := #[]
  cf := some (fileOf pool5 2 #[] #[] 1537 4 #[] #[])
  fields := #[]
  methods := #[]
  instanceTypes := #[]
  staticTypes := #[]
  resolved := Array.replicate 8 none
  statics := none }

def pool6 : Array CpInfo := pool [(1, u "java/io/Serializable"), (0, .class_ 1), (0, u "java/lang/Object"), (0, .class_ 3)] 3

/-- java/io/Serializable -/
def k6 : Class := { plain "java/io/Serializable" (some 0) with
  accessFlags := 1537
  interfaces := #[]
  cf := some (fileOf pool6 2 #[] #[] 1537 4 #[] #[])
  fields := #[]
  methods := #[]
  instanceTypes := #[]
  staticTypes := #[]
  resolved := Array.replicate 8 none
  statics := none }

/-- the primitive boolean -/
def k7 : Class := { plain "boolean" none with kind := .primitive 'Z', accessFlags := 0x411 }
/-- [Z -/
def k8 : Class := { plain "[Z" (some 0) with kind := .array 7 .boolean, interfaces := #[5, 6], accessFlags := 1041 }

/-- the primitive byte -/
def k9 : Class := { plain "byte" none with kind := .primitive 'B', accessFlags := 0x411 }
/-- [B -/
def k10 : Class := { plain "[B" (some 0) with kind := .array 9 .byte, interfaces := #[5, 6], accessFlags := 1041 }

/-- the primitive int -/
def k11 : Class := { plain "int" none with kind := .primitive 'I', accessFlags := 0x411 }
/-- [I -/
def k12 : Class := { plain "[I" (some 0) with kind := .array 11 .int, interfaces := #[5, 6], accessFlags := 1041 }

def heap : Heap := #[]
def classes : Array Class := #[k0, k1, k2, k3, k4, k5, k6, k7, k8, k9, k10, k11, k12]
def interned : List (Array UInt16 × Addr) := []
def slotsUsed : Nat := 0
def theMethod : MethodId := ⟨1, 1⟩
def args0 : Array Value := #[.int 2, .int 31, .int 5, .int 7, .int 2]
def aboutOver (below : List Frame) : State where
  vm := { classes := classes, interned := interned.toArray }
  heap := heap
  slotsUsed := slotsUsed
  threads := #[{ frames := .invoking theMethod args0 :: below }]
def below0 : List Frame := [.native { method := ⟨0, 0⟩, args := #[] }]
def about1 : State := aboutOver below0
def p0 : Program := .bare "" "" ""
def e0 : Env := launch0.env 0 0 0
theorem w_frames : about1.frames = Frame.invoking theMethod args0 :: below0 := rfl
set_option maxRecDepth 65536 in
theorem w_args : argsFit about1.vm theMethod args0 = true := by decide +kernel
set_option maxRecDepth 65536 in
theorem w_heap : heapFits about1 = true := by decide +kernel
set_option maxRecDepth 65536 in
theorem w_runnable : about1.curStatus? = some .runnable := by decide +kernel
set_option maxRecDepth 65536 in
theorem w_alone : about1.alone = true := by decide +kernel
set_option maxRecDepth 65536 in
theorem w_named : about1.methodNamed? x = some theMethod := by decide +kernel
set_option maxRecDepth 65536 in
theorem w_hears : about1.hears theMethod below0 = true := by decide +kernel
set_option maxRecDepth 65536 in
theorem w_ripe : about1.ripe theMethod args0 below0 = true := by decide +kernel
theorem w_running : about1.status = .running := rfl
set_option maxRecDepth 65536 in
theorem w_room : about1.hasRoom e0.platform room_1 = true :=
  launch0.hasRoom_least _ room_1 (by decide +kernel) (by decide +kernel) (by decide +kernel) (by decide +kernel) (by decide +kernel) (by decide +kernel)
theorem allAtoms_all (ts : List Jvm.Cond) (a : Array Jvm.Value) (st : Jvm.State) : (allAtoms ts).before a st = ts.all (fun c => c.before a st) := by
  induction ts with
  | nil => rfl
  | cons c t ih =>
    show (Jvm.Cond.and c (allAtoms t)).before a st = _
    rw [Jvm.Cond.before_and, ih, List.all_cons]
def words1 : List Jvm.Cond := Jvm.Cond.code x code maxLocals ret :: tables_1
/-- a 'code' word, met by the world's own term for the bytes: nothing is compared byte by byte -/
theorem code_word {y : MethodName} {bytes : ByteArray} {mx : Nat} {rt : Option FieldType} {a : Array Value} {s : State} {m : MethodId} {meth : Method} {c : Code} (h1 : s.methodNamed? y = some m) (h2 : s.vm.method? m = some meth) (h3 : meth.code = some c) (h4 : c.code = bytes)
    (h5 : (c.maxLocals == mx && c.exceptionTable.isEmpty && decide (c.maxStack ≤ mostOperands) && decide (meth.sig.returnType = rt) && !meth.locks && decide (parseMethodDescriptor y.desc = some meth.sig)) = true) : (Jvm.Cond.code y bytes mx rt).before a s = true := by
  simp only [Bool.and_eq_true, beq_iff_eq, Bool.not_eq_true', decide_eq_true_eq] at h5
  obtain ⟨⟨⟨⟨⟨g1, g2⟩, g3⟩, g4⟩, g5⟩, g6⟩ := h5
  simp [Cond.before, Cond.holds, Cond.value, h1, h2, h3, h4, g1, g2, g3, g4, g5, g6]
def isCode : Jvm.Cond → Bool
  | .code _ _ _ _ => true
  | _ => false
theorem all_split {L : List Jvm.Cond} {P : Jvm.Cond → Bool} (h1 : L.all (fun c => isCode c || P c) = true) (h2 : ∀ c ∈ L.filter isCode, P c = true) : L.all P = true := by
  refine List.all_eq_true.mpr fun c hc => ?_
  have h := List.all_eq_true.mp h1 c hc
  rcases Bool.eq_false_or_eq_true (isCode c) with hi | hi
  · exact h2 c (List.mem_filter.mpr ⟨hc, hi⟩)
  · simpa [hi] using h
set_option maxRecDepth 65536 in
theorem w_c0 : (Jvm.Cond.code x code maxLocals ret).before args0 about1 = true := code_word (m := ⟨1, 1⟩) (meth := k1m1) (c := k1c1) (by decide +kernel) rfl rfl rfl (by decide +kernel)
set_option maxRecDepth 65536 in
theorem w_c1 : (Jvm.Cond.code ({ cls := "com/example/coverweave/coverweave/Constraint$ValueIn", name := "<init>", desc := "(I[Z)V" } : Jvm.MethodName) prog_8_method_1_code (3 : Nat) (Option.none : Option Jvm.ClassFile.FieldType)).before args0 about1 = true := code_word (m := ⟨4, 0⟩) (meth := k4m0) (c := k4c0) (by decide +kernel) rfl rfl rfl (by decide +kernel)
set_option maxRecDepth 65536 in
theorem w_c2 : (Jvm.Cond.code ({ cls := "java/lang/Record", name := "<init>", desc := "()V" } : Jvm.MethodName) jdk_30_method_1_code (1 : Nat) (Option.none : Option Jvm.ClassFile.FieldType)).before args0 about1 = true := code_word (m := ⟨2, 0⟩) (meth := k2m0) (c := k2c0) (by decide +kernel) rfl rfl rfl (by decide +kernel)
set_option maxRecDepth 65536 in
theorem w_c3 : (Jvm.Cond.code ({ cls := "java/lang/Object", name := "<init>", desc := "()V" } : Jvm.MethodName) object_method_1_code (1 : Nat) (Option.none : Option Jvm.ClassFile.FieldType)).before args0 about1 = true := code_word (m := ⟨0, 0⟩) (meth := k0m0) (c := k0c0) (by decide +kernel) rfl rfl rfl (by decide +kernel)
set_option maxRecDepth 65536 in
theorem w_c4 : (Jvm.Cond.code ({ cls := "com/example/coverweave/coverweave/Constraint$ValueIn", name := "holds", desc := "([I)Z" } : Jvm.MethodName) prog_8_method_2_code (2 : Nat) (Option.some Jvm.ClassFile.FieldType.boolean)).before args0 about1 = true := code_word (m := ⟨4, 1⟩) (meth := k4m1) (c := k4c1) (by decide +kernel) rfl rfl rfl (by decide +kernel)
def codes1 : List Jvm.Cond := [Jvm.Cond.code x code maxLocals ret, Jvm.Cond.code ({ cls := "com/example/coverweave/coverweave/Constraint$ValueIn", name := "<init>", desc := "(I[Z)V" } : Jvm.MethodName) prog_8_method_1_code (3 : Nat) (Option.none : Option Jvm.ClassFile.FieldType), Jvm.Cond.code ({ cls := "java/lang/Record", name := "<init>", desc := "()V" } : Jvm.MethodName) jdk_30_method_1_code (1 : Nat) (Option.none : Option Jvm.ClassFile.FieldType), Jvm.Cond.code ({ cls := "java/lang/Object", name := "<init>", desc := "()V" } : Jvm.MethodName) object_method_1_code (1 : Nat) (Option.none : Option Jvm.ClassFile.FieldType), Jvm.Cond.code ({ cls := "com/example/coverweave/coverweave/Constraint$ValueIn", name := "holds", desc := "([I)Z" } : Jvm.MethodName) prog_8_method_2_code (2 : Nat) (Option.some Jvm.ClassFile.FieldType.boolean)]
set_option maxRecDepth 65536 in
theorem codes_eq : words1.filter isCode = codes1 := rfl
theorem w_codes : ∀ c ∈ words1.filter isCode, c.before args0 about1 = true := by
  rw [codes_eq]
  intro c hc
  simp only [codes1, List.mem_cons, List.not_mem_nil, or_false] at hc
  rcases hc with rfl | rfl | rfl | rfl | rfl
  · exact w_c0
  · exact w_c1
  · exact w_c2
  · exact w_c3
  · exact w_c4
set_option maxRecDepth 65536 in
theorem w_t1 : (words1.take 24).all (fun c => isCode c || c.before args0 about1) = true := by decide +kernel
set_option maxRecDepth 65536 in
theorem w_t2 : (words1.drop 24).all (fun c => isCode c || c.before args0 about1) = true := by decide +kernel
theorem w_tables : (allAtoms (Jvm.Cond.code x code maxLocals ret :: tables_1)).before args0 about1 = true := by
  rw [allAtoms_all]
  show words1.all (fun c => c.before args0 about1) = true
  refine all_split ?_ w_codes
  rw [← List.take_append_drop 24 words1, List.all_append, w_t1, w_t2]
  rfl
set_option maxRecDepth 65536 in
theorem w_case : (Jvm.Cond.and given_1 narrow_1).before args0 about1 = true := by decide +kernel
theorem w_applies : (headSpec (Jvm.Cond.code x code maxLocals ret :: tables_1) room_1).applies x e0.platform about1 = true :=
  (Spec.applies_iff w_frames).mpr ⟨w_running, w_runnable, w_alone, w_named, w_hears, w_ripe, w_room, w_tables⟩
theorem atStart : AtStart classFile x code maxLocals ret World_1 tables_1 room_1 Calls_1 rest_1 Pre_1 launch0 p0 e0 about1 theMethod args0 below0 :=
  ⟨lists_1, trivial, launch0.admits_env _ _ _, launch0.least_env, fairChoices_fair.cas, fairChoices_fair.clock, w_frames, w_args, w_heap, w_applies, trivial, trivial, w_case⟩
end start1
theorem witness_1 : WitnessClaimed_1 := ⟨start1.p0, start1.e0, start1.about1, start1.theMethod, start1.args0, start1.below0, start1.atStart⟩
end Jvm.Pilot.@@N@@
