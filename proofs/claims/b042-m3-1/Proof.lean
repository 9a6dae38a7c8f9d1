import JvmDerived
import JvmDerived.Pilot.@@N@@Statement
import JvmDerived.Pilot.@@N@@Code
set_option linter.unusedVariables false
set_option linter.unusedSimpArgs false
@@BLOCK:NumsL.lean.txt@@
@@BLOCK:Masks.lean.txt@@
namespace Jvm.Pilot.@@N@@
open Jvm Jvm.ClassFile Sem Op Lib Jvm.Free Jvm.Stand Jvm.LawKit Jvm.RoadKit Bundle Jvm.Pilot.@@N@@.Jvm.D
section OwnKit
/-- what is left of a walk: from the frame g in the state T it ends, and Q says what it leaves -/
def own_Go (p : Program) (e : Env) (below : List Frame) (s : State) (Q : Option Value → Heap → List Loc → Prop) (ce sl : Nat) (T : State) (g : JFrame) : Prop :=
  ∃ U o, Steps p.tables e below (T.setTop g) U ∧ U.status = .running ∧ Ended U below o ∧ ∃ v L, o = .returned v ∧ Q v U.heap L ∧ FrameEnd s o U L ce sl
/-- a body's contract: at these arguments and this heap it returns, and Q says what it leaves -/
def own_Ct (l : Launch) (Z : State) (y : MethodName) (bytes : ByteArray) (ml : Nat) (ret : Option FieldType) (rm : Room) (as : Array Value) (h0 : Heap) (Q : Option Value → Heap → List Loc → Prop) : Prop :=
  ∀ ws : List Jvm.Cond, MetFree l y (head1 (Jvm.Cond.code y bytes ml ret :: ws) rm) (fun a U => a = as ∧ Z.Warmed39 U.vm ∧ U.heap = h0) (fun _ _ _ _ _ => True) (fun _ U o U' => ∃ v L, o = .returned v ∧ Q v U'.heap L ∧ FrameEnd U o U' L rm.cells rm.slots)
/-- what holds throughout one body's walk -/
def own_Cx (p : Program) (s : State) (m : MethodId) (meth : Method) (c : Code) (Z : State) (bytes : ByteArray) (ml : Nat) (own nm : String) (ret : Option FieldType) : Prop :=
  p.tables.exec = Jvm.exec ∧ Z.Warmed39 s.vm ∧ c.code = bytes ∧ c.maxLocals = ml ∧ s.vm.findClass own = some m.cls ∧ meth.name = nm ∧ meth.sig.returnType = ret ∧ meth.locks = false
variable {p : Program} {l : Launch} {e : Env} {R : Room} {s : State} {m : MethodId} {args : Array Value} {below : List Frame} {meth : Method} {c : Code} {T T' : State} {locs : List Loc} {cells slots : Nat} {Z : State} {a0 : Array Value} {h h' : Heap} {Q QQ : Option Value → Heap → List Loc → Prop} {ce sl : Nat} {g g' : JFrame}
theorem own_st (h : ∀ t, Steps p.tables e below (T'.setTop g') t → Steps p.tables e below (T.setTop g) t) (k : own_Go p e below s Q ce sl T' g') : own_Go p e below s Q ce sl T g := by
  obtain ⟨U, o, h1, h2⟩ := k
  exact ⟨U, o, h _ h1, h2⟩
theorem own_enter {y : MethodName} {bytes : ByteArray} {ml : Nat} {ret : Option FieldType} {rm : Room} {as : Array Value} {h0 : Heap} (hp : plainFor y = true)
    (walk : ∀ {p e s m below meth c s₁}, Stand p l e rm s m as below meth c s₁ [] 0 0 → own_Cx p s m meth c Z bytes ml y.cls y.name ret → s₁.heap = h0 → own_Go p e below s Q rm.cells rm.slots s₁ (entryFrame m as ml)) : own_Ct l Z y bytes ml ret rm as h0 Q := by
  intro ws
  refine MetFree.of_bodySF hp hisR ?_
  intro p e s m args below meth c s₁ Bd hml0 hP hK
  obtain ⟨rfl, hZ, hh⟩ := hP
  have X0 : Stand p l e rm s m args below meth c s₁ [] 0 0 := Stand.of_body Bd
  have e0 : s₁.heap = h0 := by rw [← hh, Bd.state]; rfl
  exact walk X0 ⟨Bd.exec, hZ, Bd.bytes, hml0, findClass_of_methodNamed Bd.named, (name_of_methodNamed Bd.named Bd.method).1, Bd.returns, Bd.notSynchronized⟩ e0
theorem own_cast (q : g = g') (k : own_Go p e below s Q ce sl T g') : own_Go p e below s Q ce sl T g := q ▸ k
theorem own_ret (X : Stand p l e R s m args below meth c T locs cells slots) (hx : p.tables.exec = Jvm.exec) (hlk : meth.locks = false) {pc : Nat} {Ls : Array Slot} {w : Value} {t : FieldType} {i : Instr} {rest : List Value} (hret : meth.sig.returnType = some t) (hn : narrow t w = w)
    (hi : (i = .ireturn ∧ (t = .int ∨ t = .boolean ∨ t = .byte ∨ t = .char ∨ t = .short) ∧ ∃ z, w = .int z) ∨ (i = .lreturn ∧ t = .long ∧ ∃ z, w = .long z) ∨ (i = .dreturn ∧ t = .double ∧ ∃ z, w = .double z) ∨ (i = .freturn ∧ t = .float ∧ ∃ z, w = .float z) ∨ (i = .areturn ∧ t.isReference = true ∧ w.isRef = true))
    (hd : decode c.code pc = .ok (i, 1)) (hQ : Q (some w) T.heap locs) (hc : cells ≤ ce) (hs : slots ≤ sl) : own_Go p e below s Q ce sl T (mkF m pc Ls (w :: rest)) := by
  obtain ⟨fs, hr, hrun, hended, hW, hsame⟩ := X.leave (v := some w) (fun h => by rw [hret] at h; cases h) hlk
  exact ⟨_, _, retOut X hx hret hn hi hd hr, hrun, hended, _, _, rfl, hQ, ⟨_, rfl⟩, hW, hsame.mono hc hs⟩
theorem own_retI (X : Stand p l e R s m args below meth c T locs cells slots) (hx : p.tables.exec = Jvm.exec) (hlk : meth.locks = false) {pc : Nat} {Ls : Array Slot} {z : Int32} {t : FieldType} {rest : List Value} (hret : meth.sig.returnType = some t) (ht : t = .int ∨ t = .boolean ∨ t = .byte ∨ t = .char ∨ t = .short)
    (hn : narrow t (.int z) = .int z) (hd : decode c.code pc = .ok (.ireturn, 1)) (hQ : Q (some (.int z)) T.heap locs) (hc : cells ≤ ce) (hs : slots ≤ sl) : own_Go p e below s Q ce sl T (mkF m pc Ls (.int z :: rest)) :=
  own_ret X hx hlk hret hn (Or.inl ⟨rfl, ht, _, rfl⟩) hd hQ hc hs
theorem own_retJ (X : Stand p l e R s m args below meth c T locs cells slots) (hx : p.tables.exec = Jvm.exec) (hlk : meth.locks = false) {pc : Nat} {Ls : Array Slot} {z : Int64} {rest : List Value} (hret : meth.sig.returnType = some .long)
    (hd : decode c.code pc = .ok (.lreturn, 1)) (hQ : Q (some (.long z)) T.heap locs) (hc : cells ≤ ce) (hs : slots ≤ sl) : own_Go p e below s Q ce sl T (mkF m pc Ls (.long z :: rest)) :=
  own_ret X hx hlk hret rfl (Or.inr (Or.inl ⟨rfl, rfl, _, rfl⟩)) hd hQ hc hs
theorem own_retR (X : Stand p l e R s m args below meth c T locs cells slots) (hx : p.tables.exec = Jvm.exec) (hlk : meth.locks = false) {pc : Nat} {Ls : Array Slot} {w : Value} {t : FieldType} {rest : List Value} (hret : meth.sig.returnType = some t) (ht : t.isReference = true) (hw : w.isRef = true) (hn : narrow t w = w)
    (hd : decode c.code pc = .ok (.areturn, 1)) (hQ : Q (some w) T.heap locs) (hc : cells ≤ ce) (hs : slots ≤ sl) : own_Go p e below s Q ce sl T (mkF m pc Ls (w :: rest)) :=
  own_ret X hx hlk hret hn (Or.inr (Or.inr (Or.inr (Or.inr ⟨rfl, ht, hw⟩)))) hd hQ hc hs
theorem own_retV (X : Stand p l e R s m args below meth c T locs cells slots) (hx : p.tables.exec = Jvm.exec) (hlk : meth.locks = false) {pc : Nat} {Ls : Array Slot} (hret : meth.sig.returnType = none)
    (hd : decode c.code pc = .ok (.return_, 1)) (hQ : Q none T.heap locs) (hc : cells ≤ ce) (hs : slots ≤ sl) : own_Go p e below s Q ce sl T (mkF m pc Ls []) := by
  obtain ⟨fs, hr, hrun, hended, hW, hsame⟩ := X.leave (v := none) (fun _ => rfl) hlk
  exact ⟨_, _, X.returnOut hx hret hd hr, hrun, hended, _, _, rfl, hQ, ⟨_, rfl⟩, hW, hsame.mono hc hs⟩
/-! calls by contract -/
theorem own_callS (X : Stand p l e R s m args below meth c T locs cells slots) (hx : p.tables.exec = Jvm.exec) (hZ : Z.Warmed39 s.vm) {own : String} {index : Nat} {y : MethodName} {bytes : ByteArray} {ml : Nat} {ret : Option FieldType} {rm : Room} {argsL rest : List Value}
    (hown : s.vm.findClass own = some m.cls) (w1 : (Jvm.Cond.methodLink own index y).before a0 Z = true) (w2 : (Jvm.Cond.static y).before a0 Z = true) (w3 : (Jvm.Cond.initialized y.cls).before a0 Z = true) (w4 : (Jvm.Cond.code y bytes ml ret).before a0 Z = true)
    (hy : y.cls ≠ "java/lang/invoke/MethodHandle" ∧ y.cls ≠ "java/lang/invoke/VarHandle") (eT : T.heap = h) (hC : own_Ct l Z y bytes ml ret rm argsL.toArray h QQ) {W : Nat} (hf : rm.frames + 1 ≤ R.frames) (hl : W + (ml + 11) + rm.locals ≤ R.locals) (hc : cells + rm.cells ≤ R.cells) (hs : slots + rm.slots ≤ R.slots)
    {ps : List FieldType} {rr : Option FieldType} (hd0 : parseMethodDescriptor y.desc = some ⟨ps, rr⟩) (hlen : argsL.length = ps.length) {g : JFrame} (hg : g.method = m) (hsize : g.locals.size = c.maxLocals) (hstack : g.stack = argsL.reverse ++ rest) (hW : 2 * g.monitorRoom + (rest.map fun v => v.category).sum ≤ W) (hd : decode c.code g.pc = .ok (.invokestatic index, 3))
    (k : ∀ v T' L, Stand p l e R s m args below meth c T' (locs ++ L) (cells + rm.cells) (slots + rm.slots) → QQ v T'.heap L → own_Go p e below s Q ce sl T' { g with pc := g.pc + 3, stack := v.toList ++ rest }) : own_Go p e below s Q ce sl T g := by
  obtain ⟨v, _, ⟨T', L', c', n'⟩, -, X', ⟨Lc, hQ, l1, y1, z1⟩, st⟩ := Jvm.LawKit.callS X hx (y := y) hown (mvT hZ w1) (mvT hZ w2) (mvT hZ w3) (mvT hZ w4) hy (backOf (W := W) (hC []) hZ w4 w3 hf hl) hg hsize (lenOf hd0 hlen) hstack hW hd (fun _ _ => ⟨rfl, eT, hc, hs⟩)
  dsimp only [Pt.U, Pt.locs, Pt.cells, Pt.slots] at X' l1 y1 z1 st hQ
  subst l1 y1 z1
  exact own_st st (k _ _ _ X' hQ)
theorem own_callI (X : Stand p l e R s m args below meth c T locs cells slots) (hx : p.tables.exec = Jvm.exec) (hZ : Z.Warmed39 s.vm) {own : String} {index : Nat} {y : MethodName} {bytes : ByteArray} {ml : Nat} {rm : Room} {argsL rest : List Value} {a : Addr}
    (hy1 : y.name = "<init>") (hown : s.vm.findClass own = some m.cls) (w1 : (Jvm.Cond.methodLink own index y).before a0 Z = true) (w2 : (Jvm.Cond.instanceMethod y).before a0 Z = true) (w3 : (Jvm.Cond.initialized y.cls).before a0 Z = true) (w4 : (Jvm.Cond.code y bytes ml none).before a0 Z = true)
    (hy : y.cls ≠ "java/lang/invoke/MethodHandle" ∧ y.cls ≠ "java/lang/invoke/VarHandle") (eT : T.heap = h) (hC : own_Ct l Z y bytes ml none rm (.ref a :: argsL).toArray h QQ) {W : Nat} (hf : rm.frames + 1 ≤ R.frames) (hl : W + (ml + 11) + rm.locals ≤ R.locals) (hc : cells + rm.cells ≤ R.cells) (hs : slots + rm.slots ≤ R.slots)
    {ps : List FieldType} {rr : Option FieldType} (hd0 : parseMethodDescriptor y.desc = some ⟨ps, rr⟩) (hlen : argsL.length = ps.length) {g : JFrame} (hg : g.method = m) (hsize : g.locals.size = c.maxLocals) (hstack : g.stack = argsL.reverse ++ .ref a :: rest) (hW : 2 * g.monitorRoom + (rest.map fun v => v.category).sum ≤ W) (hd : decode c.code g.pc = .ok (.invokespecial index, 3))
    (k : ∀ v T' L, Stand p l e R s m args below meth c T' (locs ++ L) (cells + rm.cells) (slots + rm.slots) → QQ v T'.heap L → own_Go p e below s Q ce sl T' { g with pc := g.pc + 3, stack := v.toList ++ rest }) : own_Go p e below s Q ce sl T g := by
  obtain ⟨v, _, ⟨T', L', c', n'⟩, -, X', ⟨Lc, hQ, l1, y1, z1⟩, st⟩ := X.specialBack hx (y := y) hy1 hown (mvT hZ w1) (mvT hZ w2) (mvT hZ w4) hy (backOf (W := W) (hC []) hZ w4 w3 hf hl) hg hsize (Steps.refl _) (a := a) (lenOf hd0 hlen) hstack hW hd (fun _ _ => ⟨rfl, eT, hc, hs⟩)
  dsimp only [Pt.U, Pt.locs, Pt.cells, Pt.slots] at X' l1 y1 z1 st hQ
  subst l1 y1 z1
  exact own_st (fun _ r => st.trans r) (k _ _ _ X' hQ)
theorem own_callV (X : Stand p l e R s m args below meth c T locs cells slots) (hx : p.tables.exec = Jvm.exec) (hZ : Z.Warmed39 s.vm) {own C : String} {index : Nat} {y z : MethodName} {bytes : ByteArray} {ml : Nat} {ret : Option FieldType} {rm : Room} {argsL rest : List Value} {a : Addr}
    (hown : s.vm.findClass own = some m.cls) (w1 : (Jvm.Cond.methodLink own index y).before a0 Z = true) (w2 : (Jvm.Cond.declares y).before a0 Z = true) (hnf : NotFace s y) (w5 : (Jvm.Cond.selects C y z).before a0 Z = true) (w6 : (Jvm.Cond.instanceMethod z).before a0 Z = true) (w3 : (Jvm.Cond.initialized z.cls).before a0 Z = true) (w4 : (Jvm.Cond.code z bytes ml ret).before a0 Z = true)
    (hy : y.cls ≠ "java/lang/invoke/MethodHandle" ∧ y.cls ≠ "java/lang/invoke/VarHandle") (eT : T.heap = h) (E : Exa Z h a C) (hC : own_Ct l Z z bytes ml ret rm (.ref a :: argsL).toArray h QQ) {W : Nat} (hf : rm.frames + 1 ≤ R.frames) (hl : W + (ml + 11) + rm.locals ≤ R.locals) (hc : cells + rm.cells ≤ R.cells) (hs : slots + rm.slots ≤ R.slots)
    {ps : List FieldType} {rr : Option FieldType} (hd0 : parseMethodDescriptor y.desc = some ⟨ps, rr⟩) (hlen : argsL.length = ps.length) {g : JFrame} (hg : g.method = m) (hsize : g.locals.size = c.maxLocals) (hstack : g.stack = argsL.reverse ++ .ref a :: rest) (hW : 2 * g.monitorRoom + (rest.map fun v => v.category).sum ≤ W) (hd : decode c.code g.pc = .ok (.invokevirtual index, 3))
    (k : ∀ v T' L, Stand p l e R s m args below meth c T' (locs ++ L) (cells + rm.cells) (slots + rm.slots) → QQ v T'.heap L → own_Go p e below s Q ce sl T' { g with pc := g.pc + 3, stack := v.toList ++ rest }) : own_Go p e below s Q ce sl T g := by
  obtain ⟨cB, kB, q1, q2, q3⟩ := isOf hZ eT E
  obtain ⟨v, _, ⟨T', L', c', n'⟩, -, X', ⟨Lc, hQ, l1, y1, z1⟩, st⟩ := X.virtualBack hx (y := y) (z := z) hown (mvT hZ w1) (mvT hZ w2) hnf (mvT hZ w5) (mvT hZ w6) hy (backOf (W := W) (hC []) hZ w4 w3 hf hl) q1 q3 hg hsize (Steps.refl _) (lenOf hd0 hlen) hstack hW hd (fun _ _ => ⟨rfl, eT, hc, hs⟩)
  dsimp only [Pt.U, Pt.locs, Pt.cells, Pt.slots] at X' l1 y1 z1 st hQ
  subst l1 y1 z1
  exact own_st (fun _ r => st.trans r) (k _ _ _ X' hQ)
theorem own_callP (X : Stand p l e R s m args below meth c T locs cells slots) (hx : p.tables.exec = Jvm.exec) (hZ : Z.Warmed39 s.vm) {own C : String} {index : Nat} {y : MethodName} {bytes : ByteArray} {ml : Nat} {ret : Option FieldType} {rm : Room} {argsL rest : List Value} {a : Addr}
    (hown : s.vm.findClass own = some m.cls) (w1 : (Jvm.Cond.methodLink own index y).before a0 Z = true) (w6 : (Jvm.Cond.instanceMethod y).before a0 Z = true) (w5 : (Jvm.Cond.selects y.cls y y).before a0 Z = true) (w7 : (Jvm.Cond.privateMethod y).before a0 Z = true) (w3 : (Jvm.Cond.initialized y.cls).before a0 Z = true) (w4 : (Jvm.Cond.code y bytes ml ret).before a0 Z = true)
    (hy : y.cls ≠ "java/lang/invoke/MethodHandle" ∧ y.cls ≠ "java/lang/invoke/VarHandle") (eT : T.heap = h) (E : Exa Z h a C) (hC : own_Ct l Z y bytes ml ret rm (.ref a :: argsL).toArray h QQ) {W : Nat} (hf : rm.frames + 1 ≤ R.frames) (hl : W + (ml + 11) + rm.locals ≤ R.locals) (hc : cells + rm.cells ≤ R.cells) (hs : slots + rm.slots ≤ R.slots)
    {ps : List FieldType} {rr : Option FieldType} (hd0 : parseMethodDescriptor y.desc = some ⟨ps, rr⟩) (hlen : argsL.length = ps.length) {g : JFrame} (hg : g.method = m) (hsize : g.locals.size = c.maxLocals) (hstack : g.stack = argsL.reverse ++ .ref a :: rest) (hW : 2 * g.monitorRoom + (rest.map fun v => v.category).sum ≤ W) (hd : decode c.code g.pc = .ok (.invokevirtual index, 3))
    (k : ∀ v T' L, Stand p l e R s m args below meth c T' (locs ++ L) (cells + rm.cells) (slots + rm.slots) → QQ v T'.heap L → own_Go p e below s Q ce sl T' { g with pc := g.pc + 3, stack := v.toList ++ rest }) : own_Go p e below s Q ce sl T g := by
  obtain ⟨cq, q1, q2⟩ := E.cell
  obtain ⟨v, _, ⟨T', L', c', n'⟩, -, X', ⟨Lc, hQ, l1, y1, z1⟩, st⟩ := X.privateBack hx (y := y) hown (mvT hZ w1) (mvT hZ w6) (mvT hZ w5) (Cond.privateMethod_at (mvP hZ w7 (args := #[]))) (mvT hZ w4) hy (backOf (W := W) (hC []) hZ w4 w3 hf hl) hg hsize (Steps.refl _) (a := a) (by rw [eT]; exact q1) q2 (lenOf hd0 hlen) hstack hW hd (fun _ _ => ⟨rfl, eT, hc, hs⟩)
  dsimp only [Pt.U, Pt.locs, Pt.cells, Pt.slots] at X' l1 y1 z1 st hQ
  subst l1 y1 z1
  exact own_st (fun _ r => st.trans r) (k _ _ _ X' hQ)
theorem own_selfsel {y : MethodName} {n : Nat} (wi : (Jvm.Cond.instantiable y.cls n).before a0 Z = true) (w7 : (Jvm.Cond.privateMethod y).before a0 Z = true) (w6 : (Jvm.Cond.instanceMethod y).before a0 Z = true) (hy : y.cls ≠ "java/lang/invoke/MethodHandle" ∧ y.cls ≠ "java/lang/invoke/VarHandle") : (Jvm.Cond.selects y.cls y y).before a0 Z = true := by
  obtain ⟨c, k', h1, h2, -, h3, -⟩ := Cond.instantiable_spec wi
  exact Jvm.Stand.selects_self_of_private h1 h2 (by simp at h3; exact h3.1) (Cond.privateMethod_at w7) w6 hy
/-! arrays: n places, place i holds f i -/
def own_Av (Z : State) (h : Heap) (a : Addr) (ty : FieldType) (n : Nat) (f : Nat → Value) : Prop := ∃ c : Cell, Arr Z h a c ty ∧ c.slots.size = n ∧ ∀ i, i < n → c.slots[i]? = some (f i)
def own_up (f : Nat → Value) (i : Nat) (v : Value) : Nat → Value := fun j => if j = i then v else f j
variable {a b : Addr} {ty : FieldType} {n : Nat} {f f' : Nat → Value} {v : Value}
theorem own_Av.lt (F : own_Av Z h a ty n f) : a < h.size := by obtain ⟨c, A, -⟩ := F; exact A.lt
theorem own_Av.ext (F : own_Av Z h a ty n f) (E : Ext h h') : own_Av Z h' a ty n f := by obtain ⟨c, A, q⟩ := F; exact ⟨c, A.ext E, q⟩
theorem own_Av.other {i : Nat} (F : own_Av Z h b ty n f) (W : Wr h h' a i v) (q : b ≠ a) : own_Av Z h' b ty n f := by obtain ⟨c, A, r⟩ := F; exact ⟨c, A.other W q, r⟩
theorem own_Av.keep {ws : List Addr} (F : own_Av Z h a ty n f) (K : Keep h h' ws) (q : a ∉ ws) : own_Av Z h' a ty n f := by obtain ⟨c, A, r⟩ := F; exact ⟨c, ⟨K.2.1 _ _ A.1 q, A.2⟩, r⟩
theorem own_Av.cg (F : own_Av Z h a ty n f) (q : ∀ i, i < n → f i = f' i) : own_Av Z h a ty n f' := by obtain ⟨c, A, r, t⟩ := F; exact ⟨c, A, r, fun i hi => by rw [t i hi, q i hi]⟩
theorem own_Av.same {i : Nat} (F : own_Av Z h a ty n f) (W : Wr h h' a i v) (hi : i < n) : own_Av Z h' a ty n (own_up f i v) := by
  obtain ⟨c, A, r, t⟩ := F
  refine ⟨_, A.same W, by rw [sz_set]; exact r, fun j hj => ?_⟩
  subst r
  simp only [Cell.setSlot, own_up, Array.getElem?_setIfInBounds]
  by_cases q : i = j
  · subst q; simp [hi]
  · simp [q, Ne.symm q, t j hj]
theorem own_Av.new {k : ClassId} {z : Int32} (A : Arr Z h a (newA k ty z) ty) : own_Av Z h a ty z.toNatClampNeg (fun _ => defaultValue ty) := by
  refine ⟨_, A, sz_new _ _ _, fun i hi => ?_⟩
  simp [newA, hi]
theorem own_ne (F : a < b) : a ≠ b := Nat.ne_of_lt F
theorem own_inb {c : Cell} {j : Int32} {i : Nat} (r : c.slots.size = n) (hj : ¬ j < 0) (hi : j.toNatClampNeg = i) (hin : i < n) : ¬ (j < 0 ∨ c.slots.size ≤ j.toNatClampNeg) := by
  rintro (q | q)
  · exact hj q
  · omega
theorem own_len (X : Stand p l e R s m args below meth c T locs cells slots) (hx : p.tables.exec = Jvm.exec) (hZ : Z.Warmed39 s.vm) (eT : T.heap = h) (A : own_Av Z h a ty n f) {z : Int32} (hz : n.toInt32 = z) {g : JFrame} (hg : g.method = m) {rest : List Value} (hs : g.stack = .ref a :: rest) (hd : decode c.code g.pc = .ok (.arraylength, 1)) :
    ∀ t, Steps p.tables e below (T.setTop { g with pc := g.pc + 1, stack := .int z :: rest }) t → Steps p.tables e below (T.setTop g) t := by
  obtain ⟨c, A, r, -⟩ := A
  subst hz r
  exact X.arraylength hx (by rw [eT]; exact A.1) (State.isArrayOf_alike hZ.alike A.2.1) hg hs hd
theorem own_iaload (X : Stand p l e R s m args below meth c T locs cells slots) (hx : p.tables.exec = Jvm.exec) (hZ : Z.Warmed39 s.vm) (eT : T.heap = h) (A : own_Av Z h a .int n f) {j : Int32} (i : Nat) (hj : ¬ j < 0) (hi : j.toNatClampNeg = i) (hin : i < n) (hv : f i = v) {g : JFrame} (hg : g.method = m) {rest : List Value} (hs : g.stack = .int j :: .ref a :: rest) (hd : decode c.code g.pc = .ok (.iaload, 1)) :
    ∀ t, Steps p.tables e below (T.setTop { g with pc := g.pc + 1, stack := v :: rest }) t → Steps p.tables e below (T.setTop g) t := by
  obtain ⟨c, A, r, t⟩ := A
  exact X.iaload hx (by rw [eT]; exact A.1) (State.isArrayOf_alike hZ.alike A.2.1) A.2.2 (own_inb r hj hi hin) (by rw [hi, t i hin, hv]) hg hs hd
theorem own_laload (X : Stand p l e R s m args below meth c T locs cells slots) (hx : p.tables.exec = Jvm.exec) (hZ : Z.Warmed39 s.vm) (eT : T.heap = h) (A : own_Av Z h a .long n f) {j : Int32} (i : Nat) (hj : ¬ j < 0) (hi : j.toNatClampNeg = i) (hin : i < n) (hv : f i = v) {g : JFrame} (hg : g.method = m) {rest : List Value} (hs : g.stack = .int j :: .ref a :: rest) (hd : decode c.code g.pc = .ok (.laload, 1)) :
    ∀ t, Steps p.tables e below (T.setTop { g with pc := g.pc + 1, stack := v :: rest }) t → Steps p.tables e below (T.setTop g) t := by
  obtain ⟨c, A, r, t⟩ := A
  exact X.laload hx (by rw [eT]; exact A.1) (State.isArrayOf_alike hZ.alike A.2.1) A.2.2 (own_inb r hj hi hin) (by rw [hi, t i hin, hv]) hg hs hd
theorem own_aaload (X : Stand p l e R s m args below meth c T locs cells slots) (hx : p.tables.exec = Jvm.exec) (hZ : Z.Warmed39 s.vm) (eT : T.heap = h) (A : own_Av Z h a ty n f) (hty : ty.isReference = true) {j : Int32} (i : Nat) (hj : ¬ j < 0) (hi : j.toNatClampNeg = i) (hin : i < n) (hv : f i = v) {g : JFrame} (hg : g.method = m) {rest : List Value} (hs : g.stack = .int j :: .ref a :: rest) (hd : decode c.code g.pc = .ok (.aaload, 1)) :
    ∀ t, Steps p.tables e below (T.setTop { g with pc := g.pc + 1, stack := v :: rest }) t → Steps p.tables e below (T.setTop g) t := by
  obtain ⟨c, A, r, t⟩ := A
  exact X.aaload hx (by rw [eT]; exact A.1) (State.isArrayOf_alike hZ.alike A.2.1) hty A.2.2 (own_inb r hj hi hin) (by rw [hi, t i hin, hv]) hg hs hd
theorem own_baloadB (X : Stand p l e R s m args below meth c T locs cells slots) (hx : p.tables.exec = Jvm.exec) (hZ : Z.Warmed39 s.vm) (eT : T.heap = h) (A : own_Av Z h a .byte n f) {j : Int32} (i : Nat) (hj : ¬ j < 0) (hi : j.toNatClampNeg = i) (hin : i < n) (hv : f i = v) {g : JFrame} (hg : g.method = m) {rest : List Value} (hs : g.stack = .int j :: .ref a :: rest) (hd : decode c.code g.pc = .ok (.baload, 1)) :
    ∀ t, Steps p.tables e below (T.setTop { g with pc := g.pc + 1, stack := v :: rest }) t → Steps p.tables e below (T.setTop g) t := by
  obtain ⟨c, A, r, t⟩ := A
  exact X.baloadBytes hx (by rw [eT]; exact A.1) (State.isArrayOf_alike hZ.alike A.2.1) A.2.2 (own_inb r hj hi hin) (by rw [hi, t i hin, hv]) hg hs hd
theorem own_baloadZ (X : Stand p l e R s m args below meth c T locs cells slots) (hx : p.tables.exec = Jvm.exec) (hZ : Z.Warmed39 s.vm) (eT : T.heap = h) (A : own_Av Z h a .boolean n f) {j : Int32} (i : Nat) (hj : ¬ j < 0) (hi : j.toNatClampNeg = i) (hin : i < n) (hv : f i = v) {g : JFrame} (hg : g.method = m) {rest : List Value} (hs : g.stack = .int j :: .ref a :: rest) (hd : decode c.code g.pc = .ok (.baload, 1)) :
    ∀ t, Steps p.tables e below (T.setTop { g with pc := g.pc + 1, stack := v :: rest }) t → Steps p.tables e below (T.setTop g) t := by
  obtain ⟨c, A, r, t⟩ := A
  exact X.baloadBooleans hx (by rw [eT]; exact A.1) (State.isArrayOf_alike hZ.alike A.2.1) A.2.2 (own_inb r hj hi hin) (by rw [hi, t i hin, hv]) hg hs hd
theorem own_iastore (X : Stand p l e R s m args below meth c T locs cells slots) (hx : p.tables.exec = Jvm.exec) (hZ : Z.Warmed39 s.vm) (eT : T.heap = h) (A : own_Av Z h a .int n f) {j x : Int32} (i : Nat) (hj : ¬ j < 0) (hi : j.toNatClampNeg = i) (hin : i < n) {g : JFrame} (hg : g.method = m) {rest : List Value} (hs : g.stack = .int x :: .int j :: .ref a :: rest) (hd : decode c.code g.pc = .ok (.iastore, 1)) :
    ∃ T' h', Stand p l e R s m args below meth c T' (locs ++ [⟨a, i⟩]) cells slots ∧ T'.heap = h' ∧ Wr h h' a i (.int x) ∧ own_Av Z h' a .int n (own_up f i (.int x)) ∧ ∀ t, Steps p.tables e below (T'.setTop { g with pc := g.pc + 1, stack := rest }) t → Steps p.tables e below (T.setTop g) t := by
  have B := A
  obtain ⟨c, A, r, -⟩ := A
  obtain ⟨T', h', X', e', W, st⟩ := stI X hx hZ eT A (own_inb r hj hi hin) hg hs hd
  rw [hi] at X' W
  exact ⟨T', h', X', e', W, B.same W hin, st⟩
theorem own_lastore (X : Stand p l e R s m args below meth c T locs cells slots) (hx : p.tables.exec = Jvm.exec) (hZ : Z.Warmed39 s.vm) (eT : T.heap = h) (A : own_Av Z h a .long n f) {j : Int32} {x : Int64} (i : Nat) (hj : ¬ j < 0) (hi : j.toNatClampNeg = i) (hin : i < n) {g : JFrame} (hg : g.method = m) {rest : List Value} (hs : g.stack = .long x :: .int j :: .ref a :: rest) (hd : decode c.code g.pc = .ok (.lastore, 1)) :
    ∃ T' h', Stand p l e R s m args below meth c T' (locs ++ [⟨a, i⟩]) cells slots ∧ T'.heap = h' ∧ Wr h h' a i (.long x) ∧ own_Av Z h' a .long n (own_up f i (.long x)) ∧ ∀ t, Steps p.tables e below (T'.setTop { g with pc := g.pc + 1, stack := rest }) t → Steps p.tables e below (T.setTop g) t := by
  have B := A
  obtain ⟨c, A, r, -⟩ := A
  obtain ⟨T', h', X', e', W, st⟩ := stJ X hx hZ eT A (own_inb r hj hi hin) hg hs hd
  rw [hi] at X' W
  exact ⟨T', h', X', e', W, B.same W hin, st⟩
theorem own_bastoreB (X : Stand p l e R s m args below meth c T locs cells slots) (hx : p.tables.exec = Jvm.exec) (hZ : Z.Warmed39 s.vm) (eT : T.heap = h) (A : own_Av Z h a .byte n f) {j x : Int32} (i : Nat) (hj : ¬ j < 0) (hi : j.toNatClampNeg = i) (hin : i < n) {y : Int32} (hy : nar .byte x = y) {g : JFrame} (hg : g.method = m) {rest : List Value} (hs : g.stack = .int x :: .int j :: .ref a :: rest) (hd : decode c.code g.pc = .ok (.bastore, 1)) :
    ∃ T' h', Stand p l e R s m args below meth c T' (locs ++ [⟨a, i⟩]) cells slots ∧ T'.heap = h' ∧ Wr h h' a i (.int y) ∧ own_Av Z h' a .byte n (own_up f i (.int y)) ∧ ∀ t, Steps p.tables e below (T'.setTop { g with pc := g.pc + 1, stack := rest }) t → Steps p.tables e below (T.setTop g) t := by
  have B := A
  obtain ⟨c, A, r, -⟩ := A
  obtain ⟨T', h', X', e', W, st⟩ := stB X hx hZ eT A (own_inb r hj hi hin) hg hs hd
  rw [hi] at X' W
  rw [hy] at W
  exact ⟨T', h', X', e', W, B.same W hin, st⟩
theorem own_bastoreZ (X : Stand p l e R s m args below meth c T locs cells slots) (hx : p.tables.exec = Jvm.exec) (hZ : Z.Warmed39 s.vm) (eT : T.heap = h) (A : own_Av Z h a .boolean n f) {j x : Int32} (i : Nat) (hj : ¬ j < 0) (hi : j.toNatClampNeg = i) (hin : i < n) {y : Int32} (hy : nar .boolean x = y) {g : JFrame} (hg : g.method = m) {rest : List Value} (hs : g.stack = .int x :: .int j :: .ref a :: rest) (hd : decode c.code g.pc = .ok (.bastore, 1)) :
    ∃ T' h', Stand p l e R s m args below meth c T' (locs ++ [⟨a, i⟩]) cells slots ∧ T'.heap = h' ∧ Wr h h' a i (.int y) ∧ own_Av Z h' a .boolean n (own_up f i (.int y)) ∧ ∀ t, Steps p.tables e below (T'.setTop { g with pc := g.pc + 1, stack := rest }) t → Steps p.tables e below (T.setTop g) t := by
  have B := A
  obtain ⟨c, A, r, -⟩ := A
  obtain ⟨T', h', X', e', W, st⟩ := stZ X hx hZ eT A (own_inb r hj hi hin) hg hs hd
  rw [hi] at X' W
  rw [hy] at W
  exact ⟨T', h', X', e', W, B.same W hin, st⟩
theorem own_newP (X : Stand p l e R s m args below meth c T locs cells slots) (hx : p.tables.exec = Jvm.exec) (hZ : Z.Warmed39 s.vm) {aty : ArrayType} (w : (Jvm.Cond.arrayClass (newarray.typeOf aty)).before a0 Z = true) (eT : T.heap = h) {z : Int32} (n : Nat) (hn : ¬ z < 0) (hz : z.toNatClampNeg = n) {cap : Nat} (hcap : n ≤ cap) (hb : cap * 8 ≤ 536870912) (hc : cells + 1 ≤ R.cells) (hl : slots + cap ≤ R.slots) {g : JFrame} (hg : g.method = m) {rest : List Value} (hs : g.stack = .int z :: rest) (hd : decode c.code g.pc = .ok (.newarray aty, 2)) :
    ∃ T' h' b, Stand p l e R s m args below meth c T' locs (cells + 1) (slots + cap) ∧ T'.heap = h' ∧ b = h.size ∧ Ext h h' ∧ own_Av Z h' b (newarray.typeOf aty) n (fun _ => defaultValue (newarray.typeOf aty)) ∧ ∀ t, Steps p.tables e below (T'.setTop { g with pc := g.pc + 2, stack := .ref b :: rest }) t → Steps p.tables e below (T.setTop g) t := by
  obtain ⟨T', h', k, X', e', E, A, st⟩ := newP X hx hZ w eT hg hd hs hn (cap := cap) (by rw [hz]; exact hcap) hb hc hl
  exact ⟨T', h', _, X', e', rfl, E, hz ▸ own_Av.new A, st⟩
theorem own_newO (X : Stand p l e R s m args below meth c T locs cells slots) (hx : p.tables.exec = Jvm.exec) (hZ : Z.Warmed39 s.vm) {own C : String} {index n : Nat} (hown : s.vm.findClass own = some m.cls) (w : (Jvm.Cond.classLink own index C).before a0 Z = true) (wi : (Jvm.Cond.instantiable C n).before a0 Z = true) (wz : (Jvm.Cond.initialized C).before a0 Z = true) (eT : T.heap = h) (hc : cells + 1 ≤ R.cells) (hl : slots + n ≤ R.slots) {g : JFrame} (hg : g.method = m) (hd : decode c.code g.pc = .ok (.new index, 3)) :
    ∃ T' h' b, Stand p l e R s m args below meth c T' locs (cells + 1) (slots + n) ∧ T'.heap = h' ∧ b = h.size ∧ Ext h h' ∧ Exa Z h' b C ∧ (∀ {O nm d : String} {ty : FieldType}, Laid Z a0 C O nm d → parseFieldDescriptor d = some ty → Fld Z h' b O nm d (defaultValue ty)) ∧ ∀ t, Steps p.tables e below (T'.setTop { g with pc := g.pc + 3, stack := .ref b :: g.stack }) t → Steps p.tables e below (T.setTop g) t := by
  obtain ⟨T', h', X', e', E, A, D, -, st⟩ := newO X hx hZ hown w wi wz eT hg hd hc hl
  exact ⟨T', h', _, X', e', rfl, E, A, D, st⟩
theorem own_frs {k : Nat} {sl : Nat} (N : Fr k locs) (q : k ≤ a) : Fr k (locs ++ [⟨a, sl⟩]) := by
  intro y hy
  rcases List.mem_append.mp hy with hy | hy
  · exact N y hy
  · rw [List.mem_singleton.mp hy]; exact q
/-! arrays of ints and longs by a function on places -/
def own_upI (f : Nat → Int32) (i : Nat) (v : Int32) : Nat → Int32 := fun j => if j = i then v else f j
def own_upJ (f : Nat → Int64) (i : Nat) (v : Int64) : Nat → Int64 := fun j => if j = i then v else f j
theorem own_Av.fI {gg : Nat → Int32} {i : Nat} {x : Int32} (F : own_Av Z h a ty n (own_up (fun k => .int (gg k)) i (.int x))) : own_Av Z h a ty n (fun k => .int (own_upI gg i x k)) :=
  F.cg fun j _ => by unfold own_up own_upI; split <;> rfl
theorem own_Av.fJ {gg : Nat → Int64} {i : Nat} {x : Int64} (F : own_Av Z h a ty n (own_up (fun k => .long (gg k)) i (.long x))) : own_Av Z h a ty n (fun k => .long (own_upJ gg i x k)) :=
  F.cg fun j _ => by unfold own_up own_upJ; split <;> rfl
end OwnKit
section OwnNums
theorem own_and_pow (b : Int32) (i : Nat) (m : Int32) (hm : m.toBitVec = BitVec.twoPow 32 i) : (b &&& m = 0) ↔ b.toBitVec.getLsbD i = false := by
  rw [← Int32.toBitVec_inj, Int32.toBitVec_and, hm, BitVec.and_twoPow]
  by_cases hi : i < 32
  · cases h : b.toBitVec.getLsbD i
    · simp
    · simp only [if_true, Int32.toBitVec_zero]
      constructor
      · intro q
        have := congrArg (fun v => BitVec.getLsbD v i) q
        simp [hi] at this
      · intro q; cases q
  · simp [BitVec.getLsbD_of_ge _ _ (Nat.le_of_not_lt hi)]
theorem own_shr_bit (b s : Int32) (i : Nat) (hi : i < 32) (hs : (s.toBitVec.smod 32).toNat = i) : ((b >>> s) &&& 1 = 0) ↔ b.toBitVec.getLsbD i = false := by
  rw [own_and_pow (b >>> s) 0 1 (by decide), Int32.toBitVec_shiftRight]
  simp only [BitVec.sshiftRight', hs, BitVec.getLsbD_sshiftRight]
  simp [hi]
theorem own_nat {x : Int32} (h : ¬ x < 0) : x.toInt = (x.toNatClampNeg : Int) := by
  have : 0 ≤ x.toInt := by
    have h2 := h
    rw [Int32.lt_iff_toInt_lt] at h2
    simpa using h2
  rw [Int32.toNatClampNeg, Int.toNat_of_nonneg this]
theorem own_in {j z : Int32} {n : Nat} (hn : n < 2 ^ 31) (hz : n.toInt32 = z) (hj : ¬ j < 0) (h : j < z) : j.toNatClampNeg < n := by
  have h1 := own_nat hj
  rw [Int32.lt_iff_toInt_lt, ← hz, len_toInt hn] at h
  omega
theorem own_and3 (x : Int32) : x &&& 3 = 0 ∨ x &&& 3 = 1 ∨ x &&& 3 = 2 ∨ x &&& 3 = 3 := by
  have hm : (x &&& 3).toInt = x.toInt % 2 ^ 2 := Jvm.Kit.i32_mask x 3 (by decide) (by decide)
  simp only [← Int32.toInt_inj, hm]
  show x.toInt % 2 ^ 2 = 0 ∨ x.toInt % 2 ^ 2 = 1 ∨ x.toInt % 2 ^ 2 = 2 ∨ x.toInt % 2 ^ 2 = 3
  omega
theorem own_nar1 {P : Prop} [Decidable P] {v : Int32} (h : v = if P then 0 else 1) : nar .boolean v = v := by subst h; split <;> decide
end OwnNums
theorem d1_0 : decode prog_15_method_4_code 0 = .ok (.iload_n 0, 1) := by decide +kernel
theorem d1_1 : decode prog_15_method_4_code 1 = .ok (.invokestatic 52, 3) := by decide +kernel
theorem d1_4 : decode prog_15_method_4_code 4 = .ok (.iload_n 0, 1) := by decide +kernel
theorem d1_5 : decode prog_15_method_4_code 5 = .ok (.iload_n 1, 1) := by decide +kernel
theorem d1_6 : decode prog_15_method_4_code 6 = .ok (.invokestatic 56, 3) := by decide +kernel
theorem d1_9 : decode prog_15_method_4_code 9 = .ok (.iload_n 1, 1) := by decide +kernel
theorem d1_10 : decode prog_15_method_4_code 10 = .ok (.iload_n 0, 1) := by decide +kernel
theorem d1_11 : decode prog_15_method_4_code 11 = .ok (.iload_n 1, 1) := by decide +kernel
theorem d1_12 : decode prog_15_method_4_code 12 = .ok (.isub, 1) := by decide +kernel
theorem d1_13 : decode prog_15_method_4_code 13 = .ok (.invokestatic 60, 3) := by decide +kernel
theorem d1_16 : decode prog_15_method_4_code 16 = .ok (.i2l, 1) := by decide +kernel
theorem d1_17 : decode prog_15_method_4_code 17 = .ok (.lstore_n 2, 1) := by decide +kernel
theorem d1_18 : decode prog_15_method_4_code 18 = .ok (.iload_n 0, 1) := by decide +kernel
theorem d1_19 : decode prog_15_method_4_code 19 = .ok (.iconst 2, 1) := by decide +kernel
theorem d1_20 : decode prog_15_method_4_code 20 = .ok (.idiv, 1) := by decide +kernel
theorem d1_21 : decode prog_15_method_4_code 21 = .ok (.i2l, 1) := by decide +kernel
theorem d1_22 : decode prog_15_method_4_code 22 = .ok (.iload_n 0, 1) := by decide +kernel
theorem d1_23 : decode prog_15_method_4_code 23 = .ok (.i2l, 1) := by decide +kernel
theorem d1_24 : decode prog_15_method_4_code 24 = .ok (.ldc2_w 67, 3) := by decide +kernel
theorem d1_27 : decode prog_15_method_4_code 27 = .ok (.lload_n 2, 1) := by decide +kernel
theorem d1_28 : decode prog_15_method_4_code 28 = .ok (.lmul, 1) := by decide +kernel
theorem d1_29 : decode prog_15_method_4_code 29 = .ok (.lsub, 1) := by decide +kernel
theorem d1_30 : decode prog_15_method_4_code 30 = .ok (.lmul, 1) := by decide +kernel
theorem d1_31 : decode prog_15_method_4_code 31 = .ok (.lstore 4, 2) := by decide +kernel
theorem d1_33 : decode prog_15_method_4_code 33 = .ok (.new 73, 3) := by decide +kernel
theorem d1_36 : decode prog_15_method_4_code 36 = .ok (.dup, 1) := by decide +kernel
theorem d1_37 : decode prog_15_method_4_code 37 = .ok (.ldc2_w 67, 3) := by decide +kernel
theorem d1_40 : decode prog_15_method_4_code 40 = .ok (.lload_n 2, 1) := by decide +kernel
theorem d1_41 : decode prog_15_method_4_code 41 = .ok (.lmul, 1) := by decide +kernel
theorem d1_42 : decode prog_15_method_4_code 42 = .ok (.lload 4, 2) := by decide +kernel
theorem d1_44 : decode prog_15_method_4_code 44 = .ok (.ladd, 1) := by decide +kernel
theorem d1_45 : decode prog_15_method_4_code 45 = .ok (.lload_n 2, 1) := by decide +kernel
theorem d1_46 : decode prog_15_method_4_code 46 = .ok (.lload_n 2, 1) := by decide +kernel
theorem d1_47 : decode prog_15_method_4_code 47 = .ok (.lmul, 1) := by decide +kernel
theorem d1_48 : decode prog_15_method_4_code 48 = .ok (.lload_n 2, 1) := by decide +kernel
theorem d1_49 : decode prog_15_method_4_code 49 = .ok (.ldc2_w 67, 3) := by decide +kernel
theorem d1_52 : decode prog_15_method_4_code 52 = .ok (.lload_n 2, 1) := by decide +kernel
theorem d1_53 : decode prog_15_method_4_code 53 = .ok (.ldc2_w 67, 3) := by decide +kernel
theorem d1_56 : decode prog_15_method_4_code 56 = .ok (.ldiv, 1) := by decide +kernel
theorem d1_57 : decode prog_15_method_4_code 57 = .ok (.lmul, 1) := by decide +kernel
theorem d1_58 : decode prog_15_method_4_code 58 = .ok (.lsub, 1) := by decide +kernel
theorem d1_59 : decode prog_15_method_4_code 59 = .ok (.ladd, 1) := by decide +kernel
theorem d1_60 : decode prog_15_method_4_code 60 = .ok (.lload 4, 2) := by decide +kernel
theorem d1_62 : decode prog_15_method_4_code 62 = .ok (.ladd, 1) := by decide +kernel
theorem d1_63 : decode prog_15_method_4_code 63 = .ok (.invokespecial 75, 3) := by decide +kernel
theorem d1_66 : decode prog_15_method_4_code 66 = .ok (.areturn, 1) := by decide +kernel
theorem d2_0 : decode prog_15_method_6_code 0 = .ok (.iload_n 0, 1) := by decide +kernel
theorem d2_1 : decode prog_15_method_6_code 1 = .ok (.iconst 1, 1) := by decide +kernel
theorem d2_2 : decode prog_15_method_6_code 2 = .ok (.if_icmp .ge 20, 3) := by decide +kernel
theorem d2_22 : decode prog_15_method_6_code 22 = .ok (.return_, 1) := by decide +kernel
theorem d3_0 : decode prog_15_method_7_code 0 = .ok (.iload_n 1, 1) := by decide +kernel
theorem d3_1 : decode prog_15_method_7_code 1 = .ok (.ifCond .lt 8, 3) := by decide +kernel
theorem d3_4 : decode prog_15_method_7_code 4 = .ok (.iload_n 1, 1) := by decide +kernel
theorem d3_5 : decode prog_15_method_7_code 5 = .ok (.iload_n 0, 1) := by decide +kernel
theorem d3_6 : decode prog_15_method_7_code 6 = .ok (.if_icmp .le 25, 3) := by decide +kernel
theorem d3_31 : decode prog_15_method_7_code 31 = .ok (.return_, 1) := by decide +kernel
theorem d4_0 : decode jdk_29_method_69_code 0 = .ok (.iload_n 0, 1) := by decide +kernel
theorem d4_1 : decode jdk_29_method_69_code 1 = .ok (.iload_n 1, 1) := by decide +kernel
theorem d4_2 : decode jdk_29_method_69_code 2 = .ok (.if_icmp .gt 7, 3) := by decide +kernel
theorem d4_5 : decode jdk_29_method_69_code 5 = .ok (.iload_n 0, 1) := by decide +kernel
theorem d4_6 : decode jdk_29_method_69_code 6 = .ok (.goto 4, 3) := by decide +kernel
theorem d4_9 : decode jdk_29_method_69_code 9 = .ok (.iload_n 1, 1) := by decide +kernel
theorem d4_10 : decode jdk_29_method_69_code 10 = .ok (.ireturn, 1) := by decide +kernel
theorem d5_0 : decode prog_16_method_1_code 0 = .ok (.aload_n 0, 1) := by decide +kernel
theorem d5_1 : decode prog_16_method_1_code 1 = .ok (.invokespecial 1, 3) := by decide +kernel
theorem d5_4 : decode prog_16_method_1_code 4 = .ok (.aload_n 0, 1) := by decide +kernel
theorem d5_5 : decode prog_16_method_1_code 5 = .ok (.lload_n 1, 1) := by decide +kernel
theorem d5_6 : decode prog_16_method_1_code 6 = .ok (.putfield 7, 3) := by decide +kernel
theorem d5_9 : decode prog_16_method_1_code 9 = .ok (.aload_n 0, 1) := by decide +kernel
theorem d5_10 : decode prog_16_method_1_code 10 = .ok (.lload_n 3, 1) := by decide +kernel
theorem d5_11 : decode prog_16_method_1_code 11 = .ok (.putfield 13, 3) := by decide +kernel
theorem d5_14 : decode prog_16_method_1_code 14 = .ok (.return_, 1) := by decide +kernel
theorem d6_0 : decode jdk_30_method_1_code 0 = .ok (.aload_n 0, 1) := by decide +kernel
theorem d6_1 : decode jdk_30_method_1_code 1 = .ok (.invokespecial 1, 3) := by decide +kernel
theorem d6_4 : decode jdk_30_method_1_code 4 = .ok (.return_, 1) := by decide +kernel
theorem d8_0 : decode jdk_29_method_61_code 0 = .ok (.lload_n 0, 1) := by decide +kernel
theorem d8_1 : decode jdk_29_method_61_code 1 = .ok (.lconst 0, 1) := by decide +kernel
theorem d8_2 : decode jdk_29_method_61_code 2 = .ok (.lcmp, 1) := by decide +kernel
theorem d8_3 : decode jdk_29_method_61_code 3 = .ok (.ifCond .ge 8, 3) := by decide +kernel
theorem d8_6 : decode jdk_29_method_61_code 6 = .ok (.lload_n 0, 1) := by decide +kernel
theorem d8_7 : decode jdk_29_method_61_code 7 = .ok (.lneg, 1) := by decide +kernel
theorem d8_8 : decode jdk_29_method_61_code 8 = .ok (.goto 4, 3) := by decide +kernel
theorem d8_11 : decode jdk_29_method_61_code 11 = .ok (.lload_n 0, 1) := by decide +kernel
theorem d8_12 : decode jdk_29_method_61_code 12 = .ok (.lreturn, 1) := by decide +kernel
theorem d9_0 : decode prog_16_method_6_code 0 = .ok (.aload_n 0, 1) := by decide +kernel
theorem d9_1 : decode prog_16_method_6_code 1 = .ok (.getfield 7, 3) := by decide +kernel
theorem d9_4 : decode prog_16_method_6_code 4 = .ok (.lreturn, 1) := by decide +kernel
theorem d10_0 : decode prog_16_method_7_code 0 = .ok (.aload_n 0, 1) := by decide +kernel
theorem d10_1 : decode prog_16_method_7_code 1 = .ok (.getfield 13, 3) := by decide +kernel
theorem d10_4 : decode prog_16_method_7_code 4 = .ok (.lreturn, 1) := by decide +kernel
theorem pd0 : parseMethodDescriptor "()V" = some ⟨[], none⟩ := by decide +kernel
theorem pd1 : parseMethodDescriptor "(I)V" = some ⟨[.int], none⟩ := by decide +kernel
theorem pd2 : parseMethodDescriptor "(II)V" = some ⟨[.int, .int], none⟩ := by decide +kernel
theorem pd3 : parseMethodDescriptor "(II)I" = some ⟨[.int, .int], some .int⟩ := by decide +kernel
theorem pd4 : parseMethodDescriptor "(JJ)V" = some ⟨[.long, .long], none⟩ := by decide +kernel
theorem pd5 : parseMethodDescriptor "(II)Lcom/example/coverweave/coverweave/Dissimilarity$Range;" = some ⟨[.int, .int], some (.object "com/example/coverweave/coverweave/Dissimilarity$Range")⟩ := by decide +kernel
theorem pd6 : parseMethodDescriptor "(J)J" = some ⟨[.long], some .long⟩ := by decide +kernel
theorem pd7 : parseMethodDescriptor "()J" = some ⟨[], some .long⟩ := by decide +kernel
def own_minI (x y : Int32) : Int32 := if y < x then y else x
def own_maxI (x y : Int32) : Int32 := if x < y then y else x
def own_minJ (x y : Int64) : Int64 := if y < x then y else x
def own_maxJ (x y : Int64) : Int64 := if x < y then y else x
def own_absJ (x : Int64) : Int64 := if x < 0 then -x else x
theorem ef_4 (m : MethodId) (x0 : Int32) (x1 : Int32) : entryFrame m #[(.int x0), (.int x1)] 2 = mkF m 0 #[.val (.int x0), .val (.int x1)] [] := by first | (simp [entryFrame, mkF, argsToLocals, Value.category]; done) | rfl
set_option maxRecDepth 65536 in
set_option maxHeartbeats 40000000 in
theorem own_rm4 (l : Launch) (Z : State) (a0 : Array Value) (hw : ∀ d ∈ tables_1, d.before a0 Z = true) (y0 : Int32) (y1 : Int32)  (h0 : Heap) (n0 : Nat) (Z0 : n0 ≤ h0.size) :
    own_Ct l Z (⟨"java/lang/Math", "min", "(II)I"⟩ : MethodName) jdk_29_method_69_code 2 (some .int) ({ frames := 0, cells := 0, slots := 0, locals := 0 } : Room) #[(.int y0), (.int y1)] h0 (fun v h L => v = some (.int (own_minI y0 y1)) ∧ Fr n0 L ∧ h = h0) := by
  refine own_enter (Jvm.Free.JP.mathPlain rfl (by decide +kernel)) ?_
  intro p e s m below meth c s₁ X0 C e0
  obtain ⟨hx, hZ, hby, hml, hown, hnm, hret, hlk⟩ := C
  replace hown : s.vm.findClass "java/lang/Math" = some m.cls := hown
  replace hml : c.maxLocals = 2 := hml
  replace hret : meth.sig.returnType = (some .int) := hret
  have N0 := Fr.nil n0
  refine own_cast (ef_4 m y0 y1) ?_
  refine own_st (T' := s₁) (g' := (mkF m 2 #[.val (.int y0), .val (.int y1)] [(.int y1), (.int y0)])) (fun t k => XS.iloadN (g := (mkF m 0 #[.val (.int y0), .val (.int y1)] [])) X0.here hx rfl (hb hby d4_0) rfl (XS.iloadN (g := (mkF m 1 #[.val (.int y0), .val (.int y1)] [(.int y0)])) X0.here hx rfl (hb hby d4_1) rfl k)) ?_
  by_cases hc2_1 : y1 < y0
  · refine own_st (T' := s₁) (g' := (mkF m 10 #[.val (.int y0), .val (.int y1)] [(.int y1)])) (fun t k => XS.icmpYes (g := (mkF m 2 #[.val (.int y0), .val (.int y1)] [(.int y1), (.int y0)])) X0.here hx rfl (pc0 := 2) (pc' := 9) rfl (hb hby d4_2) rfl (tlt hc2_1).2.2.1 (by decide) (by decide) (XS.iloadN (g := (mkF m 9 #[.val (.int y0), .val (.int y1)] [])) X0.here hx rfl (hb hby d4_9) rfl k)) ?_
    refine own_retI X0 hx hlk hret (by simp) rfl (hb hby d4_10) ?_ (by decide) (by decide)
    refine ⟨?_, N0, e0⟩
    simp [own_minI, *]
  · refine own_st (T' := s₁) (g' := (mkF m 10 #[.val (.int y0), .val (.int y1)] [(.int y0)])) (fun t k => XS.icmpNo (g := (mkF m 2 #[.val (.int y0), .val (.int y1)] [(.int y1), (.int y0)])) X0.here hx rfl (hb hby d4_2) rfl (flt hc2_1).2.2.1 (XS.iloadN (g := (mkF m 5 #[.val (.int y0), .val (.int y1)] [])) X0.here hx rfl (hb hby d4_5) rfl (XS.goto (g := (mkF m 6 #[.val (.int y0), .val (.int y1)] [(.int y0)])) X0.here hx rfl (pc0 := 6) (pc' := 10) rfl (hb hby d4_6) (by decide) (by decide) k))) ?_
    refine own_retI X0 hx hlk hret (by simp) rfl (hb hby d4_10) ?_ (by decide) (by decide)
    refine ⟨?_, N0, e0⟩
    simp [own_minI, *]
theorem ef_8 (m : MethodId) (x0 : Int64) : entryFrame m #[(.long x0)] 2 = mkF m 0 #[.val (.long x0), .second] [] := by first | (simp [entryFrame, mkF, argsToLocals, Value.category]; done) | rfl
set_option maxRecDepth 65536 in
set_option maxHeartbeats 40000000 in
theorem own_rm8 (l : Launch) (Z : State) (a0 : Array Value) (hw : ∀ d ∈ tables_1, d.before a0 Z = true) (y0 : Int64)  (h0 : Heap) (n0 : Nat) (Z0 : n0 ≤ h0.size) :
    own_Ct l Z (⟨"java/lang/Math", "abs", "(J)J"⟩ : MethodName) jdk_29_method_61_code 2 (some .long) ({ frames := 0, cells := 0, slots := 0, locals := 0 } : Room) #[(.long y0)] h0 (fun v h L => v = some (.long (own_absJ y0)) ∧ Fr n0 L ∧ h = h0) := by
  refine own_enter (Jvm.Free.JP.mathPlain rfl (by decide +kernel)) ?_
  intro p e s m below meth c s₁ X0 C e0
  obtain ⟨hx, hZ, hby, hml, hown, hnm, hret, hlk⟩ := C
  replace hown : s.vm.findClass "java/lang/Math" = some m.cls := hown
  replace hml : c.maxLocals = 2 := hml
  replace hret : meth.sig.returnType = (some .long) := hret
  have N0 := Fr.nil n0
  refine own_cast (ef_8 m y0) ?_
  refine own_st (T' := s₁) (g' := (mkF m 3 #[.val (.long y0), .second] [(.int (lcmpW y0 (0 : Int64)))])) (fun t k => XS.lloadN (g := (mkF m 0 #[.val (.long y0), .second] [])) X0.here hx rfl (hb hby d8_0) rfl (XS.lconst (g := (mkF m 1 #[.val (.long y0), .second] [(.long y0)])) X0.here hx rfl (hb hby d8_1) (XS.lcmp (g := (mkF m 2 #[.val (.long y0), .second] [(.long (0 : Int64)), (.long y0)])) X0.here hx rfl (hb hby d8_2) rfl k))) ?_
  by_cases hc3_2 : y0 < (0 : Int64)
  · refine own_st (T' := s₁) (g' := (mkF m 12 #[.val (.long y0), .second] [(.long (-y0))])) (fun t k => XS.ifNo (g := (mkF m 3 #[.val (.long y0), .second] [(.int (lcmpW y0 (0 : Int64)))])) X0.here hx rfl (hb hby d8_3) rfl ((if0 _ _).trans (tlt ((lw_lt _ _).mpr hc3_2)).2.1) (XS.lloadN (g := (mkF m 6 #[.val (.long y0), .second] [])) X0.here hx rfl (hb hby d8_6) rfl (XS.lneg (g := (mkF m 7 #[.val (.long y0), .second] [(.long y0)])) X0.here hx rfl (hb hby d8_7) rfl (XS.goto (g := (mkF m 8 #[.val (.long y0), .second] [(.long (-y0))])) X0.here hx rfl (pc0 := 8) (pc' := 12) rfl (hb hby d8_8) (by decide) (by decide) k)))) ?_
    refine own_retJ X0 hx hlk hret (hb hby d8_12) ?_ (by decide) (by decide)
    refine ⟨?_, N0, e0⟩
    simp [own_absJ, *]
  · refine own_st (T' := s₁) (g' := (mkF m 12 #[.val (.long y0), .second] [(.long y0)])) (fun t k => XS.ifYes (g := (mkF m 3 #[.val (.long y0), .second] [(.int (lcmpW y0 (0 : Int64)))])) X0.here hx rfl (pc0 := 3) (pc' := 11) rfl (hb hby d8_3) rfl ((if0 _ _).trans (flt (mt (lw_lt _ _).mp hc3_2)).2.1) (by decide) (by decide) (XS.lloadN (g := (mkF m 11 #[.val (.long y0), .second] [])) X0.here hx rfl (hb hby d8_11) rfl k)) ?_
    refine own_retJ X0 hx hlk hret (hb hby d8_12) ?_ (by decide) (by decide)
    refine ⟨?_, N0, e0⟩
    simp [own_absJ, *]
theorem own_rng (x : Int32) : -2147483648 ≤ x.toInt ∧ x.toInt ≤ 2147483647 := by
  have h1 := Int32.le_toInt x
  have h2 := Int32.toInt_lt x
  omega
def own_wv (y0 y1 : Int32) : Int64 := (own_minI y1 (y0 - y1)).toInt64
def own_lo (y0 y1 : Int32) : Int64 := (y0 / 2).toInt64 * (y0.toInt64 - 2 * own_wv y0 y1)
def own_bmin (y0 y1 : Int32) : Int64 := 2 * own_wv y0 y1 + own_lo y0 y1
def own_bmax (y0 y1 : Int32) : Int64 := own_wv y0 y1 * own_wv y0 y1 + (own_wv y0 y1 - 2 * (own_wv y0 y1 / 2)) + own_lo y0 y1
theorem own_i {v W : Int32} (hL : ¬ v < 1) (h0 : ¬ W < 0) (h1 : ¬ v < W) : 1 ≤ v.toInt ∧ 0 ≤ W.toInt ∧ W.toInt ≤ v.toInt ∧ v.toInt ≤ 2147483647 := by
  rw [Int32.lt_iff_toInt_lt] at hL h0 h1
  have r := own_rng v
  have e1 : (1 : Int32).toInt = 1 := rfl
  have e0 : (0 : Int32).toInt = 0 := rfl
  omega
theorem own_wv_i {v W : Int32} (hL : ¬ v < 1) (h0 : ¬ W < 0) (h1 : ¬ v < W) : (own_wv v W).toInt = min W.toInt (v.toInt - W.toInt) := by
  have r := own_i hL h0 h1
  have e : (v - W).toInt = v.toInt - W.toInt := Jvm.Kit.i32_sub (by omega) (by omega)
  unfold own_wv own_minI
  rw [Jvm.Kit.i64_of_i32]
  simp only [Int32.lt_iff_toInt_lt]
  split
  · omega
  · omega
theorem own_2 (x : Int64) (a : 0 ≤ x.toInt) (b : x.toInt ≤ 2147483647) : (2 * x).toInt = 2 * x.toInt := by
  have e2 : (2 : Int64).toInt = 2 := rfl
  rw [Jvm.Kit.i64_mul (by rw [e2]; omega) (by rw [e2]; omega), e2]
theorem own_d_i {v W : Int32} (hL : ¬ v < 1) (h0 : ¬ W < 0) (h1 : ¬ v < W) : (v.toInt64 - 2 * own_wv v W).toInt = v.toInt - 2 * min W.toInt (v.toInt - W.toInt) := by
  have r := own_i hL h0 h1
  have e := own_wv_i hL h0 h1
  have e2 := own_2 (own_wv v W) (by omega) (by omega)
  rw [Jvm.Kit.i64_sub (by rw [Jvm.Kit.i64_of_i32]; omega) (by rw [Jvm.Kit.i64_of_i32]; omega), Jvm.Kit.i64_of_i32]
  omega
theorem own_A1 {v W : Int32} (hL : ¬ v < 1) (h0 : ¬ W < 0) (h1 : ¬ v < W) : own_absJ (v.toInt64 - 2 * W.toInt64) = v.toInt64 - 2 * own_wv v W := by
  have r := own_i hL h0 h1
  have e2 := own_2 W.toInt64 (by rw [Jvm.Kit.i64_of_i32]; omega) (by rw [Jvm.Kit.i64_of_i32]; omega)
  rw [Jvm.Kit.i64_of_i32] at e2
  have e3 : (v.toInt64 - 2 * W.toInt64).toInt = v.toInt - 2 * W.toInt := by
    rw [Jvm.Kit.i64_sub (by rw [Jvm.Kit.i64_of_i32]; omega) (by rw [Jvm.Kit.i64_of_i32]; omega), Jvm.Kit.i64_of_i32, e2]
  rw [← Int64.toInt_inj, own_d_i hL h0 h1]
  unfold own_absJ
  have z : (0 : Int64).toInt = 0 := rfl
  split
  · rename_i q
    rw [Int64.lt_iff_toInt_lt, e3, z] at q
    rw [Jvm.Kit.i64_neg (by rw [e3]; omega), e3]
    omega
  · rename_i q
    rw [Int64.lt_iff_toInt_lt, e3, z] at q
    rw [e3]
    omega
theorem own_A2 {v W : Int32} (hL : ¬ v < 1) (h0 : ¬ W < 0) (h1 : ¬ v < W) : (v.toInt64 - (v.toInt64 - 2 * own_wv v W)) / 2 = own_wv v W := by
  have r := own_i hL h0 h1
  have e := own_wv_i hL h0 h1
  have d := own_d_i hL h0 h1
  have e3 : (v.toInt64 - (v.toInt64 - 2 * own_wv v W)).toInt = 2 * min W.toInt (v.toInt - W.toInt) := by
    rw [Jvm.Kit.i64_sub (by rw [Jvm.Kit.i64_of_i32, d]; omega) (by rw [Jvm.Kit.i64_of_i32, d]; omega), Jvm.Kit.i64_of_i32, d]
    omega
  rw [← Int64.toInt_inj, Jvm.Kit.i64_div (by rintro ⟨-, q⟩; exact absurd q (by decide)), e3, e]
  show (2 * min W.toInt (v.toInt - W.toInt)).tdiv 2 = _
  rw [Int.tdiv_eq_ediv_of_nonneg (by omega)]
  omega
theorem own_A3 {v W : Int32} (hL : ¬ v < 1) (h0 : ¬ W < 0) (h1 : ¬ v < W) : v.toInt64 / 2 = (v / 2).toInt64 := by
  have r := own_i hL h0 h1
  rw [← Int64.toInt_inj, Jvm.Kit.i64_div (by rintro ⟨-, q⟩; exact absurd q (by decide)), Jvm.Kit.i64_of_i32, Jvm.Kit.i64_of_i32, Jvm.Kit.i32_div (by rintro ⟨-, q⟩; exact absurd q (by decide))]
  rfl
theorem own_half {v W : Int32} (hL : ¬ v < 1) (h0 : ¬ W < 0) (h1 : ¬ v < W) : own_wv v W = own_wv v W / 2 + own_wv v W / 2 ∨ own_wv v W = own_wv v W / 2 + own_wv v W / 2 + 1 := by
  have r := own_i hL h0 h1
  have e := own_wv_i hL h0 h1
  have q : (own_wv v W / 2).toInt = (own_wv v W).toInt / 2 := by
    rw [Jvm.Kit.i64_div (by rintro ⟨-, q⟩; exact absurd q (by decide))]
    show (own_wv v W).toInt.tdiv 2 = _
    rw [Int.tdiv_eq_ediv_of_nonneg (by omega)]
  have q2 : (own_wv v W / 2 + own_wv v W / 2).toInt = (own_wv v W).toInt / 2 + (own_wv v W).toInt / 2 := by
    rw [Jvm.Kit.i64_add (by omega) (by omega), q]
  have q3 : (own_wv v W / 2 + own_wv v W / 2 + 1).toInt = (own_wv v W).toInt / 2 + (own_wv v W).toInt / 2 + 1 := by
    have o : (1 : Int64).toInt = 1 := rfl
    rw [Jvm.Kit.i64_add (by omega) (by omega), q2, o]
  simp only [← Int64.toInt_inj, q2, q3]
  omega
theorem own_ring0 (q X : Int64) : (q + q) * (q + q) + (q + q - 2 * q) + X = X + 2 * (q + q - q) * (q + q - q) + 2 * q * q := by grind
theorem own_ring1 (q X : Int64) : (q + q + 1) * (q + q + 1) + (q + q + 1 - 2 * q) + X = X + 2 * (q + q + 1 - q) * (q + q + 1 - q) + 2 * q * q := by grind
theorem own_max {v W : Int32} (hL : ¬ v < 1) (h0 : ¬ W < 0) (h1 : ¬ v < W) : own_bmax v W = own_lo v W + 2 * (own_wv v W - own_wv v W / 2) * (own_wv v W - own_wv v W / 2) + 2 * (own_wv v W / 2) * (own_wv v W / 2) := by
  have h := own_half hL h0 h1
  unfold own_bmax
  generalize own_lo v W = X
  generalize own_wv v W / 2 = q at h ⊢
  generalize own_wv v W = w at h ⊢
  rcases h with rfl | rfl
  · exact own_ring0 q X
  · exact own_ring1 q X
theorem own_v1 {p0 u v : Int32} (hu : p0 &&& 2147483647 = u) (hv : v = if u = 0 then 1 else u) : ¬ v < 1 := by
  have hm : (p0 &&& 2147483647).toInt = p0.toInt % 2 ^ 31 := Jvm.Kit.i32_mask p0 2147483647 (by decide) (by decide)
  rw [hu] at hm
  subst hv
  split
  · decide
  · rename_i q
    rw [← Int32.toInt_inj] at q
    rw [Int32.lt_iff_toInt_lt]
    have e0 : (0 : Int32).toInt = 0 := rfl
    have e1 : (1 : Int32).toInt = 1 := rfl
    omega
theorem own_B {v : Int32} (hL : ¬ v < 1) : (v.toInt64 + 1).toInt = v.toInt + 1 ∧ 1 ≤ v.toInt := by
  rw [Int32.lt_iff_toInt_lt] at hL
  have r := own_rng v
  have e1 : (1 : Int32).toInt = 1 := rfl
  have o : (1 : Int64).toInt = 1 := rfl
  rw [Jvm.Kit.i64_add (by rw [Jvm.Kit.i64_of_i32]; omega) (by rw [Jvm.Kit.i64_of_i32]; omega), Jvm.Kit.i64_of_i32, o]
  omega
theorem own_B0 {v : Int32} (hL : ¬ v < 1) : v.toInt64 + 1 ≠ 0 := by
  have h := own_B hL
  rw [Ne, ← Int64.toInt_inj, h.1]
  have z : (0 : Int64).toInt = 0 := rfl
  omega
theorem own_W {v W p1 : Int32} (hL : ¬ v < 1) (hW : ((p1.toInt64 &&& 4294967295) - ((p1.toInt64 &&& 4294967295) / (v.toInt64 + 1)) * (v.toInt64 + 1)).toInt32 = W) : ¬ W < 0 ∧ ¬ v < W := by
  have h := own_B hL
  have r := own_rng v
  have hm : (p1.toInt64 &&& 4294967295).toInt = p1.toInt64.toInt % 2 ^ 32 := Jvm.Kit.i64_mask _ 4294967295 (by decide) (by decide)
  have hr := Jvm.Kit.i64_rem_nonneg (x := p1.toInt64 &&& 4294967295) (y := v.toInt64 + 1) (by rw [hm]; omega)
  rw [h.1] at hr
  have b1 := Int.emod_nonneg (p1.toInt64 &&& 4294967295).toInt (b := v.toInt + 1) (by omega)
  have b2 := Int.emod_lt_of_pos (p1.toInt64 &&& 4294967295).toInt (b := v.toInt + 1) (by omega)
  have e := Jvm.Kit.i32_of_i64 (x := (p1.toInt64 &&& 4294967295) - ((p1.toInt64 &&& 4294967295) / (v.toInt64 + 1)) * (v.toInt64 + 1)) (by rw [hr]; omega) (by rw [hr]; omega)
  rw [hW, hr] at e
  have e0 : (0 : Int32).toInt = 0 := rfl
  rw [Int32.lt_iff_toInt_lt, Int32.lt_iff_toInt_lt]
  omega
theorem own_finmin {v W : Int32} {n half d ww em : Int64} (hL : ¬ v < 1) (h0 : ¬ W < 0) (h1 : ¬ v < W) (h2 : v.toInt64 = n) (h3 : n / 2 = half) (h4 : own_absJ (n - 2 * W.toInt64) = d) (h5 : (n - d) / 2 = ww) (h6 : 2 * ww + half * d = em) : own_bmin v W = em := by
  subst h2 h3 h4
  rw [own_A1 hL h0 h1] at h5 h6
  rw [own_A2 hL h0 h1] at h5
  rw [own_A3 hL h0 h1, ← h5] at h6
  exact h6
theorem own_finmax {v W : Int32} {n half d ww lo hi em : Int64} (hL : ¬ v < 1) (h0 : ¬ W < 0) (h1 : ¬ v < W) (h2 : v.toInt64 = n) (h3 : n / 2 = half) (h4 : own_absJ (n - 2 * W.toInt64) = d) (h5 : (n - d) / 2 = ww) (h7 : ww / 2 = lo) (h8 : ww - lo = hi) (h6 : half * d + 2 * hi * hi + 2 * lo * lo = em) : own_bmax v W = em := by
  subst h2 h3 h4
  rw [own_A1 hL h0 h1] at h5 h6
  rw [own_A2 hL h0 h1] at h5
  subst h5 h7 h8
  rw [own_A3 hL h0 h1] at h6
  rw [own_max hL h0 h1]
  exact h6
theorem pn_6 : plainName "java/lang/Record" = true := by first | (simp [plainName, overriddenIn]; done) | decide +kernel
theorem ef_6 (m : MethodId) (x0 : Addr) : entryFrame m #[(.ref x0)] 1 = mkF m 0 #[.val (.ref x0)] [] := by first | (simp [entryFrame, mkF, argsToLocals, Value.category]; done) | rfl
set_option maxRecDepth 65536 in
set_option maxHeartbeats 40000000 in
theorem own_rm6 (l : Launch) (Z : State) (a0 : Array Value) (hw : ∀ d ∈ tables_1, d.before a0 Z = true) (a : Addr)  (h0 : Heap) (n0 : Nat) (Z0 : n0 ≤ h0.size) :
    own_Ct l Z (⟨"java/lang/Record", "<init>", "()V"⟩ : MethodName) jdk_30_method_1_code 1 none ({ frames := 1, cells := 0, slots := 0, locals := 12 } : Room) #[(.ref a)] h0 (fun v h L => v = none ∧ Fr n0 L ∧ h = h0) := by
  refine own_enter (plainFor_of_name pn_6) ?_
  intro p e s m below meth c s₁ X0 C e0
  obtain ⟨hx, hZ, hby, hml, hown, hnm, hret, hlk⟩ := C
  replace hown : s.vm.findClass "java/lang/Record" = some m.cls := hown
  replace hml : c.maxLocals = 1 := hml
  replace hret : meth.sig.returnType = none := hret
  have N0 := Fr.nil n0
  refine own_cast (ef_6 m a) ?_
  refine own_st (T' := s₁) (g' := (mkF m 1 #[.val (.ref a)] [(.ref a)])) (fun t k => XS.aloadN (g := (mkF m 0 #[.val (.ref a)] [])) X0.here hx rfl (hb hby d6_0) rfl rfl k) ?_
  obtain ⟨T3, X3, e3, st3⟩ := initO X0 hx hZ hown (hw _ (List.mem_of_getElem? (i := 28) rfl)) (hw _ (List.mem_of_getElem? (i := 29) rfl)) (hw _ (List.mem_of_getElem? (i := 30) rfl)) e0 (g := (mkF m 1 #[.val (.ref a)] [(.ref a)])) rfl (by rw [hml]; rfl) rfl (hb hby d6_1) (by decide) (W := 0) (by show 2 * 0 + _ ≤ _; exact Nat.le_of_eq rfl) (by decide)
  refine own_st (g' := (mkF m 4 #[.val (.ref a)] [])) st3 ?_
  refine own_retV X3 hx hlk hret (hb hby d6_4) ?_ (by decide) (by decide)
  refine ⟨?_, N0, e3⟩
  rfl
theorem pn_5 : plainName "com/example/coverweave/coverweave/Dissimilarity$Range" = true := by first | (simp [plainName, overriddenIn]; done) | decide +kernel
theorem ef_5 (m : MethodId) (x0 : Addr) (x1 : Int64) (x2 : Int64) : entryFrame m #[(.ref x0), (.long x1), (.long x2)] 5 = mkF m 0 #[.val (.ref x0), .val (.long x1), .second, .val (.long x2), .second] [] := by first | (simp [entryFrame, mkF, argsToLocals, Value.category]; done) | rfl
set_option maxRecDepth 65536 in
set_option maxHeartbeats 40000000 in
theorem own_rm5 (l : Launch) (Z : State) (a0 : Array Value) (hw : ∀ d ∈ tables_1, d.before a0 Z = true) (a : Addr) (k1 : Int64) (k2 : Int64)  (h0 : Heap) (n0 : Nat) (Z0 : n0 ≤ h0.size) (ga : n0 ≤ a) (E_a : Exa Z h0 a "com/example/coverweave/coverweave/Dissimilarity$Range") (F_min : Fld Z h0 a "com/example/coverweave/coverweave/Dissimilarity$Range" "min" "J" (.long (0 : Int64))) (F_max : Fld Z h0 a "com/example/coverweave/coverweave/Dissimilarity$Range" "max" "J" (.long (0 : Int64))) :
    own_Ct l Z (⟨"com/example/coverweave/coverweave/Dissimilarity$Range", "<init>", "(JJ)V"⟩ : MethodName) prog_16_method_1_code 5 none ({ frames := 2, cells := 0, slots := 0, locals := 24 } : Room) #[(.ref a), (.long k1), (.long k2)] h0 (fun v h L => v = none ∧ Fr n0 L ∧ Keep h0 h [a] ∧ Exa Z h a "com/example/coverweave/coverweave/Dissimilarity$Range" ∧ Fld Z h a "com/example/coverweave/coverweave/Dissimilarity$Range" "min" "J" (.long k1) ∧ Fld Z h a "com/example/coverweave/coverweave/Dissimilarity$Range" "max" "J" (.long k2)) := by
  refine own_enter (plainFor_of_name pn_5) ?_
  intro p e s m below meth c s₁ X0 C e0
  obtain ⟨hx, hZ, hby, hml, hown, hnm, hret, hlk⟩ := C
  replace hown : s.vm.findClass "com/example/coverweave/coverweave/Dissimilarity$Range" = some m.cls := hown
  replace hml : c.maxLocals = 5 := hml
  replace hret : meth.sig.returnType = none := hret
  have N0 := Fr.nil n0
  refine own_cast (ef_5 m a k1 k2) ?_
  refine own_st (T' := s₁) (g' := (mkF m 1 #[.val (.ref a), .val (.long k1), .second, .val (.long k2), .second] [(.ref a)])) (fun t k => XS.aloadN (g := (mkF m 0 #[.val (.ref a), .val (.long k1), .second, .val (.long k2), .second] [])) X0.here hx rfl (hb hby d5_0) rfl rfl k) ?_
  refine own_callI X0 hx hZ (y := (⟨"java/lang/Record", "<init>", "()V"⟩ : MethodName)) (argsL := []) (a := a) rfl hown (hw _ (List.mem_of_getElem? (i := 23) rfl)) (hw _ (List.mem_of_getElem? (i := 24) rfl)) (hw _ (List.mem_of_getElem? (i := 26) rfl)) (hw _ (List.mem_of_getElem? (i := 27) rfl)) (by decide) e0 (own_rm6 l Z a0 hw a  h0 n0 (Nat.le_trans Z0 (Nat.le_refl _)) ) (W := 0) (by decide) (by decide) (by decide) (by decide) pd0 rfl (g := (mkF m 1 #[.val (.ref a), .val (.long k1), .second, .val (.long k2), .second] [(.ref a)])) rfl (by rw [hml]; rfl) (rest := []) rfl (by show 2 * 0 + _ ≤ _; exact Nat.le_of_eq rfl) (hb hby d5_1) (fun v11 T11 L11 X11 q11 => ?_)
  obtain ⟨rfl, N11q, e11⟩ := q11
  have N11 := Fr.app N0 N11q
  replace e11 := e11
  show own_Go _ _ _ _ _ _ _ T11 (mkF m 4 #[.val (.ref a), .val (.long k1), .second, .val (.long k2), .second] [])
  refine own_st (T' := T11) (g' := (mkF m 6 #[.val (.ref a), .val (.long k1), .second, .val (.long k2), .second] [(.long k1), (.ref a)])) (fun t k => XS.aloadN (g := (mkF m 4 #[.val (.ref a), .val (.long k1), .second, .val (.long k2), .second] [])) X11.here hx rfl (hb hby d5_4) rfl rfl (XS.lloadN (g := (mkF m 5 #[.val (.ref a), .val (.long k1), .second, .val (.long k2), .second] [(.ref a)])) X11.here hx rfl (hb hby d5_5) rfl k)) ?_
  obtain ⟨T12, h12, X12, e12, W12, st12⟩ := putF X11 hx hZ hown (host := "") (Or.inl (hw _ (List.mem_of_getElem? (i := 31) rfl))) Via.refl e11 F_min E_a (Or.inr ⟨(hw _ (List.mem_of_getElem? (i := 32) rfl)), rfl, hnm⟩) (hw _ (List.mem_of_getElem? (i := 18) rfl)) (ty := .long) (by decide) rfl rfl (g := (mkF m 6 #[.val (.ref a), .val (.long k1), .second, .val (.long k2), .second] [(.long k1), (.ref a)])) rfl rfl (hb hby d5_6)
  refine own_st (g' := (mkF m 9 #[.val (.ref a), .val (.long k1), .second, .val (.long k2), .second] [])) st12 ?_
  have F12 := Fld.same W12 F_min
  have N12 := Fr.snoc X12 N11 ga
  refine own_st (T' := T12) (g' := (mkF m 11 #[.val (.ref a), .val (.long k1), .second, .val (.long k2), .second] [(.long k2), (.ref a)])) (fun t k => XS.aloadN (g := (mkF m 9 #[.val (.ref a), .val (.long k1), .second, .val (.long k2), .second] [])) X12.here hx rfl (hb hby d5_9) rfl rfl (XS.lloadN (g := (mkF m 10 #[.val (.ref a), .val (.long k1), .second, .val (.long k2), .second] [(.ref a)])) X12.here hx rfl (hb hby d5_10) rfl k)) ?_
  have Ea_13 := (Exa.wr W12 E_a)
  have Fa_max_14 := (Fld.other W12 F_max (Or.inr (slot_ne (C := "com/example/coverweave/coverweave/Dissimilarity$Range") (t := .long) (t' := .long) (Or.inr (hw _ (List.mem_of_getElem? (i := 34) rfl))) (Or.inr (hw _ (List.mem_of_getElem? (i := 32) rfl))) (by decide) (by decide) (by decide))))
  obtain ⟨T15, h15, X15, e15, W15, st15⟩ := putF X12 hx hZ hown (host := "") (Or.inl (hw _ (List.mem_of_getElem? (i := 33) rfl))) Via.refl e12 Fa_max_14 Ea_13 (Or.inr ⟨(hw _ (List.mem_of_getElem? (i := 34) rfl)), rfl, hnm⟩) (hw _ (List.mem_of_getElem? (i := 18) rfl)) (ty := .long) (by decide) rfl rfl (g := (mkF m 11 #[.val (.ref a), .val (.long k1), .second, .val (.long k2), .second] [(.long k2), (.ref a)])) rfl rfl (hb hby d5_11)
  refine own_st (g' := (mkF m 14 #[.val (.ref a), .val (.long k1), .second, .val (.long k2), .second] [])) st15 ?_
  have F15 := Fld.same W15 Fa_max_14
  have N15 := Fr.snoc X15 N12 ga
  refine own_retV X15 hx hlk hret (hb hby d5_14) ?_ (by decide) (by decide)
  have Fa_min_16 := (Fld.other W15 F12 (Or.inr (slot_ne (C := "com/example/coverweave/coverweave/Dissimilarity$Range") (t := .long) (t' := .long) (Or.inr (hw _ (List.mem_of_getElem? (i := 32) rfl))) (Or.inr (hw _ (List.mem_of_getElem? (i := 34) rfl))) (by decide) (by decide) (by decide))))
  have Ea_17 := (Exa.wr W15 Ea_13)
  rw [e15]
  exact ⟨rfl, N15, (Keep.wr (Keep.wr (Keep.refl _ _) W12 (Or.inl (List.mem_of_getElem? (i := 0) rfl))) W15 (Or.inl (List.mem_of_getElem? (i := 0) rfl))), Ea_17, Fa_min_16, F15⟩
theorem pn_9 : plainName "com/example/coverweave/coverweave/Dissimilarity$Range" = true := by first | (simp [plainName, overriddenIn]; done) | decide +kernel
theorem ef_9 (m : MethodId) (x0 : Addr) : entryFrame m #[(.ref x0)] 1 = mkF m 0 #[.val (.ref x0)] [] := by first | (simp [entryFrame, mkF, argsToLocals, Value.category]; done) | rfl
set_option maxRecDepth 65536 in
set_option maxHeartbeats 40000000 in
theorem own_rm9 (l : Launch) (Z : State) (a0 : Array Value) (hw : ∀ d ∈ tables_1, d.before a0 Z = true) (a : Addr) (k : Int64) (h0 : Heap) (n0 : Nat) (Z0 : n0 ≤ h0.size) (F1 : Fld Z h0 a "com/example/coverweave/coverweave/Dissimilarity$Range" "min" "J" (.long k)) :
    own_Ct l Z (⟨"com/example/coverweave/coverweave/Dissimilarity$Range", "min", "()J"⟩ : MethodName) prog_16_method_6_code 1 (some .long) ({ frames := 0, cells := 0, slots := 0, locals := 0 } : Room) #[(.ref a)] h0 (fun v h L => v = some (.long k) ∧ Fr n0 L ∧ h = h0) := by
  refine own_enter (plainFor_of_name pn_9) ?_
  intro p e s m below meth c s₁ X0 C e0
  obtain ⟨hx, hZ, hby, hml, hown, hnm, hret, hlk⟩ := C
  replace hown : s.vm.findClass "com/example/coverweave/coverweave/Dissimilarity$Range" = some m.cls := hown
  replace hml : c.maxLocals = 1 := hml
  replace hret : meth.sig.returnType = (some .long) := hret
  have N0 := Fr.nil n0
  refine own_cast (ef_9 m a) ?_
  refine own_st (T' := s₁) (g' := (mkF m 1 #[.val (.ref a)] [(.ref a)])) (fun t k => XS.aloadN (g := (mkF m 0 #[.val (.ref a)] [])) X0.here hx rfl (hb hby d9_0) rfl rfl k) ?_
  obtain ⟨T18, X18, e18, st18⟩ := getF X0 hx hZ hown (host := "") (Or.inl (hw _ (List.mem_of_getElem? (i := 31) rfl))) Via.refl e0 F1 (g := (mkF m 1 #[.val (.ref a)] [(.ref a)])) rfl rfl (hb hby d9_1)
  refine own_st (g' := (mkF m 4 #[.val (.ref a)] [(.long k)])) st18 ?_
  refine own_retJ X18 hx hlk hret (hb hby d9_4) ?_ (by decide) (by decide)
  refine ⟨?_, N0, e18⟩
  rfl
theorem pn_10 : plainName "com/example/coverweave/coverweave/Dissimilarity$Range" = true := by first | (simp [plainName, overriddenIn]; done) | decide +kernel
theorem ef_10 (m : MethodId) (x0 : Addr) : entryFrame m #[(.ref x0)] 1 = mkF m 0 #[.val (.ref x0)] [] := by first | (simp [entryFrame, mkF, argsToLocals, Value.category]; done) | rfl
set_option maxRecDepth 65536 in
set_option maxHeartbeats 40000000 in
theorem own_rm10 (l : Launch) (Z : State) (a0 : Array Value) (hw : ∀ d ∈ tables_1, d.before a0 Z = true) (a : Addr) (k : Int64) (h0 : Heap) (n0 : Nat) (Z0 : n0 ≤ h0.size) (F1 : Fld Z h0 a "com/example/coverweave/coverweave/Dissimilarity$Range" "max" "J" (.long k)) :
    own_Ct l Z (⟨"com/example/coverweave/coverweave/Dissimilarity$Range", "max", "()J"⟩ : MethodName) prog_16_method_7_code 1 (some .long) ({ frames := 0, cells := 0, slots := 0, locals := 0 } : Room) #[(.ref a)] h0 (fun v h L => v = some (.long k) ∧ Fr n0 L ∧ h = h0) := by
  refine own_enter (plainFor_of_name pn_10) ?_
  intro p e s m below meth c s₁ X0 C e0
  obtain ⟨hx, hZ, hby, hml, hown, hnm, hret, hlk⟩ := C
  replace hown : s.vm.findClass "com/example/coverweave/coverweave/Dissimilarity$Range" = some m.cls := hown
  replace hml : c.maxLocals = 1 := hml
  replace hret : meth.sig.returnType = (some .long) := hret
  have N0 := Fr.nil n0
  refine own_cast (ef_10 m a) ?_
  refine own_st (T' := s₁) (g' := (mkF m 1 #[.val (.ref a)] [(.ref a)])) (fun t k => XS.aloadN (g := (mkF m 0 #[.val (.ref a)] [])) X0.here hx rfl (hb hby d10_0) rfl rfl k) ?_
  obtain ⟨T19, X19, e19, st19⟩ := getF X0 hx hZ hown (host := "") (Or.inl (hw _ (List.mem_of_getElem? (i := 33) rfl))) Via.refl e0 F1 (g := (mkF m 1 #[.val (.ref a)] [(.ref a)])) rfl rfl (hb hby d10_1)
  refine own_st (g' := (mkF m 4 #[.val (.ref a)] [(.long k)])) st19 ?_
  refine own_retJ X19 hx hlk hret (hb hby d10_4) ?_ (by decide) (by decide)
  refine ⟨?_, N0, e19⟩
  rfl
theorem pn_2 : plainName "com/example/coverweave/coverweave/Dissimilarity" = true := by first | (simp [plainName, overriddenIn]; done) | decide +kernel
theorem ef_2 (m : MethodId) (x0 : Int32) : entryFrame m #[(.int x0)] 1 = mkF m 0 #[.val (.int x0)] [] := by first | (simp [entryFrame, mkF, argsToLocals, Value.category]; done) | rfl
set_option maxRecDepth 65536 in
set_option maxHeartbeats 40000000 in
theorem own_rm2 (l : Launch) (Z : State) (a0 : Array Value) (hw : ∀ d ∈ tables_1, d.before a0 Z = true) (y0 : Int32)  (h0 : Heap) (n0 : Nat) (Z0 : n0 ≤ h0.size) (hL : ¬ (y0 < (1 : Int32))) :
    own_Ct l Z (⟨"com/example/coverweave/coverweave/Dissimilarity", "checkLength", "(I)V"⟩ : MethodName) prog_15_method_6_code 1 none ({ frames := 0, cells := 0, slots := 0, locals := 0 } : Room) #[(.int y0)] h0 (fun v h L => v = none ∧ Fr n0 L ∧ h = h0) := by
  refine own_enter (plainFor_of_name pn_2) ?_
  intro p e s m below meth c s₁ X0 C e0
  obtain ⟨hx, hZ, hby, hml, hown, hnm, hret, hlk⟩ := C
  replace hown : s.vm.findClass "com/example/coverweave/coverweave/Dissimilarity" = some m.cls := hown
  replace hml : c.maxLocals = 1 := hml
  replace hret : meth.sig.returnType = none := hret
  have N0 := Fr.nil n0
  refine own_cast (ef_2 m y0) ?_
  refine own_st (T' := s₁) (g' := (mkF m 22 #[.val (.int y0)] [])) (fun t k => XS.iloadN (g := (mkF m 0 #[.val (.int y0)] [])) X0.here hx rfl (hb hby d2_0) rfl (XS.iconst (g := (mkF m 1 #[.val (.int y0)] [(.int y0)])) X0.here hx rfl (hb hby d2_1) (XS.icmpYes (g := (mkF m 2 #[.val (.int y0)] [(.int (1 : Int32)), (.int y0)])) X0.here hx rfl (pc0 := 2) (pc' := 22) rfl (hb hby d2_2) rfl (flt hL).2.1 (by decide) (by decide) k))) ?_
  refine own_retV X0 hx hlk hret (hb hby d2_22) ?_ (by decide) (by decide)
  refine ⟨?_, N0, e0⟩
  rfl
theorem pn_3 : plainName "com/example/coverweave/coverweave/Dissimilarity" = true := by first | (simp [plainName, overriddenIn]; done) | decide +kernel
theorem ef_3 (m : MethodId) (x0 : Int32) (x1 : Int32) : entryFrame m #[(.int x0), (.int x1)] 2 = mkF m 0 #[.val (.int x0), .val (.int x1)] [] := by first | (simp [entryFrame, mkF, argsToLocals, Value.category]; done) | rfl
set_option maxRecDepth 65536 in
set_option maxHeartbeats 40000000 in
theorem own_rm3 (l : Launch) (Z : State) (a0 : Array Value) (hw : ∀ d ∈ tables_1, d.before a0 Z = true) (y0 : Int32) (y1 : Int32)  (h0 : Heap) (n0 : Nat) (Z0 : n0 ≤ h0.size) (hW0 : ¬ (y1 < (0 : Int32))) (hW1 : ¬ (y0 < y1)) :
    own_Ct l Z (⟨"com/example/coverweave/coverweave/Dissimilarity", "checkWeight", "(II)V"⟩ : MethodName) prog_15_method_7_code 2 none ({ frames := 0, cells := 0, slots := 0, locals := 0 } : Room) #[(.int y0), (.int y1)] h0 (fun v h L => v = none ∧ Fr n0 L ∧ h = h0) := by
  refine own_enter (plainFor_of_name pn_3) ?_
  intro p e s m below meth c s₁ X0 C e0
  obtain ⟨hx, hZ, hby, hml, hown, hnm, hret, hlk⟩ := C
  replace hown : s.vm.findClass "com/example/coverweave/coverweave/Dissimilarity" = some m.cls := hown
  replace hml : c.maxLocals = 2 := hml
  replace hret : meth.sig.returnType = none := hret
  have N0 := Fr.nil n0
  refine own_cast (ef_3 m y0 y1) ?_
  refine own_st (T' := s₁) (g' := (mkF m 31 #[.val (.int y0), .val (.int y1)] [])) (fun t k => XS.iloadN (g := (mkF m 0 #[.val (.int y0), .val (.int y1)] [])) X0.here hx rfl (hb hby d3_0) rfl (XS.ifNo (g := (mkF m 1 #[.val (.int y0), .val (.int y1)] [(.int y1)])) X0.here hx rfl (hb hby d3_1) rfl ((if0 _ _).trans (flt hW0).1) (XS.iloadN (g := (mkF m 4 #[.val (.int y0), .val (.int y1)] [])) X0.here hx rfl (hb hby d3_4) rfl (XS.iloadN (g := (mkF m 5 #[.val (.int y0), .val (.int y1)] [(.int y1)])) X0.here hx rfl (hb hby d3_5) rfl (XS.icmpYes (g := (mkF m 6 #[.val (.int y0), .val (.int y1)] [(.int y0), (.int y1)])) X0.here hx rfl (pc0 := 6) (pc' := 31) rfl (hb hby d3_6) rfl (flt hW1).2.2.2 (by decide) (by decide) k))))) ?_
  refine own_retV X0 hx hlk hret (hb hby d3_31) ?_ (by decide) (by decide)
  refine ⟨?_, N0, e0⟩
  rfl
theorem pn_1 : plainName "com/example/coverweave/coverweave/Dissimilarity" = true := by first | (simp [plainName, overriddenIn]; done) | decide +kernel
theorem ef_1 (m : MethodId) (x0 : Int32) (x1 : Int32) : entryFrame m #[(.int x0), (.int x1)] 6 = mkF m 0 #[.val (.int x0), .val (.int x1), .unset, .unset, .unset, .unset] [] := by first | (simp [entryFrame, mkF, argsToLocals, Value.category]; done) | rfl
set_option maxRecDepth 65536 in
set_option maxHeartbeats 40000000 in
theorem own_rm1 (l : Launch) (Z : State) (a0 : Array Value) (hw : ∀ d ∈ tables_1, d.before a0 Z = true) (y0 : Int32) (y1 : Int32)  (h0 : Heap) (n0 : Nat) (Z0 : n0 ≤ h0.size) (hL : ¬ (y0 < (1 : Int32))) (hW0 : ¬ (y1 < (0 : Int32))) (hW1 : ¬ (y0 < y1)) :
    own_Ct l Z (⟨"com/example/coverweave/coverweave/Dissimilarity", "inverseBounds", "(II)Lcom/example/coverweave/coverweave/Dissimilarity$Range;"⟩ : MethodName) prog_15_method_4_code 6 (some (.object "com/example/coverweave/coverweave/Dissimilarity$Range")) ({ frames := 3, cells := 1, slots := 2, locals := 41 } : Room) #[(.int y0), (.int y1)] h0 (fun v h L => ∃ b : Addr, v = some (.ref b) ∧ Fr n0 L ∧ Keep h0 h [] ∧ n0 ≤ b ∧ h0.size ≤ b ∧ Exa Z h b "com/example/coverweave/coverweave/Dissimilarity$Range" ∧ Fld Z h b "com/example/coverweave/coverweave/Dissimilarity$Range" "min" "J" (.long (own_bmin y0 y1)) ∧ Fld Z h b "com/example/coverweave/coverweave/Dissimilarity$Range" "max" "J" (.long (own_bmax y0 y1))) := by
  refine own_enter (plainFor_of_name pn_1) ?_
  intro p e s m below meth c s₁ X0 C e0
  obtain ⟨hx, hZ, hby, hml, hown, hnm, hret, hlk⟩ := C
  replace hown : s.vm.findClass "com/example/coverweave/coverweave/Dissimilarity" = some m.cls := hown
  replace hml : c.maxLocals = 6 := hml
  replace hret : meth.sig.returnType = (some (.object "com/example/coverweave/coverweave/Dissimilarity$Range")) := hret
  have N0 := Fr.nil n0
  refine own_cast (ef_1 m y0 y1) ?_
  refine own_st (T' := s₁) (g' := (mkF m 1 #[.val (.int y0), .val (.int y1), .unset, .unset, .unset, .unset] [(.int y0)])) (fun t k => XS.iloadN (g := (mkF m 0 #[.val (.int y0), .val (.int y1), .unset, .unset, .unset, .unset] [])) X0.here hx rfl (hb hby d1_0) rfl k) ?_
  refine own_callS X0 hx hZ (y := (⟨"com/example/coverweave/coverweave/Dissimilarity", "checkLength", "(I)V"⟩ : MethodName)) (argsL := [(.int y0)]) hown (hw _ (List.mem_of_getElem? (i := 6) rfl)) (hw _ (List.mem_of_getElem? (i := 7) rfl)) (hw _ (List.mem_of_getElem? (i := 4) rfl)) (hw _ (List.mem_of_getElem? (i := 8) rfl)) (by decide) e0 (own_rm2 l Z a0 hw y0  h0 n0 (Nat.le_trans Z0 (Nat.le_refl _)) hL) (W := 0) (by decide) (by decide) (by decide) (by decide) pd1 rfl (g := (mkF m 1 #[.val (.int y0), .val (.int y1), .unset, .unset, .unset, .unset] [(.int y0)])) rfl (by rw [hml]; rfl) (rest := []) rfl (by show 2 * 0 + _ ≤ _; exact Nat.le_of_eq rfl) (hb hby d1_1) (fun v20 T20 L20 X20 q20 => ?_)
  obtain ⟨rfl, N20q, e20⟩ := q20
  have N20 := Fr.app N0 N20q
  replace e20 := e20
  show own_Go _ _ _ _ _ _ _ T20 (mkF m 4 #[.val (.int y0), .val (.int y1), .unset, .unset, .unset, .unset] [])
  refine own_st (T' := T20) (g' := (mkF m 6 #[.val (.int y0), .val (.int y1), .unset, .unset, .unset, .unset] [(.int y1), (.int y0)])) (fun t k => XS.iloadN (g := (mkF m 4 #[.val (.int y0), .val (.int y1), .unset, .unset, .unset, .unset] [])) X20.here hx rfl (hb hby d1_4) rfl (XS.iloadN (g := (mkF m 5 #[.val (.int y0), .val (.int y1), .unset, .unset, .unset, .unset] [(.int y0)])) X20.here hx rfl (hb hby d1_5) rfl k)) ?_
  refine own_callS X20 hx hZ (y := (⟨"com/example/coverweave/coverweave/Dissimilarity", "checkWeight", "(II)V"⟩ : MethodName)) (argsL := [(.int y0), (.int y1)]) hown (hw _ (List.mem_of_getElem? (i := 9) rfl)) (hw _ (List.mem_of_getElem? (i := 10) rfl)) (hw _ (List.mem_of_getElem? (i := 4) rfl)) (hw _ (List.mem_of_getElem? (i := 11) rfl)) (by decide) e20 (own_rm3 l Z a0 hw y0 y1  h0 n0 (Nat.le_trans Z0 (Nat.le_refl _)) hW0 hW1) (W := 0) (by decide) (by decide) (by decide) (by decide) pd2 rfl (g := (mkF m 6 #[.val (.int y0), .val (.int y1), .unset, .unset, .unset, .unset] [(.int y1), (.int y0)])) rfl (by rw [hml]; rfl) (rest := []) rfl (by show 2 * 0 + _ ≤ _; exact Nat.le_of_eq rfl) (hb hby d1_6) (fun v21 T21 L21 X21 q21 => ?_)
  obtain ⟨rfl, N21q, e21⟩ := q21
  have N21 := Fr.app N20 N21q
  replace e21 := e21
  show own_Go _ _ _ _ _ _ _ T21 (mkF m 9 #[.val (.int y0), .val (.int y1), .unset, .unset, .unset, .unset] [])
  refine own_st (T' := T21) (g' := (mkF m 13 #[.val (.int y0), .val (.int y1), .unset, .unset, .unset, .unset] [(.int (y0 - y1)), (.int y1)])) (fun t k => XS.iloadN (g := (mkF m 9 #[.val (.int y0), .val (.int y1), .unset, .unset, .unset, .unset] [])) X21.here hx rfl (hb hby d1_9) rfl (XS.iloadN (g := (mkF m 10 #[.val (.int y0), .val (.int y1), .unset, .unset, .unset, .unset] [(.int y1)])) X21.here hx rfl (hb hby d1_10) rfl (XS.iloadN (g := (mkF m 11 #[.val (.int y0), .val (.int y1), .unset, .unset, .unset, .unset] [(.int y0), (.int y1)])) X21.here hx rfl (hb hby d1_11) rfl (XS.isub (g := (mkF m 12 #[.val (.int y0), .val (.int y1), .unset, .unset, .unset, .unset] [(.int y1), (.int y0), (.int y1)])) X21.here hx rfl (hb hby d1_12) rfl k)))) ?_
  refine own_callS X21 hx hZ (y := (⟨"java/lang/Math", "min", "(II)I"⟩ : MethodName)) (argsL := [(.int y1), (.int (y0 - y1))]) hown (hw _ (List.mem_of_getElem? (i := 12) rfl)) (hw _ (List.mem_of_getElem? (i := 13) rfl)) (hw _ (List.mem_of_getElem? (i := 14) rfl)) (hw _ (List.mem_of_getElem? (i := 15) rfl)) (by decide) e21 (own_rm4 l Z a0 hw y1 (y0 - y1)  h0 n0 (Nat.le_trans Z0 (Nat.le_refl _)) ) (W := 0) (by decide) (by decide) (by decide) (by decide) pd3 rfl (g := (mkF m 13 #[.val (.int y0), .val (.int y1), .unset, .unset, .unset, .unset] [(.int (y0 - y1)), (.int y1)])) rfl (by rw [hml]; rfl) (rest := []) rfl (by show 2 * 0 + _ ≤ _; exact Nat.le_of_eq rfl) (hb hby d1_13) (fun v22 T22 L22 X22 q22 => ?_)
  obtain ⟨rfl, N22q, e22⟩ := q22
  have N22 := Fr.app N21 N22q
  replace e22 := e22
  show own_Go _ _ _ _ _ _ _ T22 (mkF m 16 #[.val (.int y0), .val (.int y1), .unset, .unset, .unset, .unset] [(.int (own_minI y1 (y0 - y1)))])
  refine own_st (T' := T22) (g' := (mkF m 28 #[.val (.int y0), .val (.int y1), .val (.long ((own_minI y1 (y0 - y1)).toInt64)), .second, .unset, .unset] [(.long ((own_minI y1 (y0 - y1)).toInt64)), (.long (2 : Int64)), (.long (y0.toInt64)), (.long ((y0 / (2 : Int32)).toInt64))])) (fun t k => XS.i2l (g := (mkF m 16 #[.val (.int y0), .val (.int y1), .unset, .unset, .unset, .unset] [(.int (own_minI y1 (y0 - y1)))])) X22.here hx rfl (hb hby d1_16) rfl (XS.lstoreN (g := (mkF m 17 #[.val (.int y0), .val (.int y1), .unset, .unset, .unset, .unset] [(.long ((own_minI y1 (y0 - y1)).toInt64))])) X22.here hx rfl (hb hby d1_17) rfl (l' := #[.val (.int y0), .val (.int y1), .val (.long ((own_minI y1 (y0 - y1)).toInt64)), .second, .unset, .unset]) rfl (XS.iloadN (g := (mkF m 18 #[.val (.int y0), .val (.int y1), .val (.long ((own_minI y1 (y0 - y1)).toInt64)), .second, .unset, .unset] [])) X22.here hx rfl (hb hby d1_18) rfl (XS.iconst (g := (mkF m 19 #[.val (.int y0), .val (.int y1), .val (.long ((own_minI y1 (y0 - y1)).toInt64)), .second, .unset, .unset] [(.int y0)])) X22.here hx rfl (hb hby d1_19) (XS.idiv (g := (mkF m 20 #[.val (.int y0), .val (.int y1), .val (.long ((own_minI y1 (y0 - y1)).toInt64)), .second, .unset, .unset] [(.int (2 : Int32)), (.int y0)])) X22.here hx rfl (hb hby d1_20) rfl (by decide) (XS.i2l (g := (mkF m 21 #[.val (.int y0), .val (.int y1), .val (.long ((own_minI y1 (y0 - y1)).toInt64)), .second, .unset, .unset] [(.int (y0 / (2 : Int32)))])) X22.here hx rfl (hb hby d1_21) rfl (XS.iloadN (g := (mkF m 22 #[.val (.int y0), .val (.int y1), .val (.long ((own_minI y1 (y0 - y1)).toInt64)), .second, .unset, .unset] [(.long ((y0 / (2 : Int32)).toInt64))])) X22.here hx rfl (hb hby d1_22) rfl (XS.i2l (g := (mkF m 23 #[.val (.int y0), .val (.int y1), .val (.long ((own_minI y1 (y0 - y1)).toInt64)), .second, .unset, .unset] [(.int y0), (.long ((y0 / (2 : Int32)).toInt64))])) X22.here hx rfl (hb hby d1_23) rfl (X22.ldc2Long hx hown (mvT hZ (hw _ (List.mem_of_getElem? (i := 16) rfl))) (g := (mkF m 24 #[.val (.int y0), .val (.int y1), .val (.long ((own_minI y1 (y0 - y1)).toInt64)), .second, .unset, .unset] [(.long (y0.toInt64)), (.long ((y0 / (2 : Int32)).toInt64))])) rfl (hb hby d1_24) t (XS.lloadN (g := (mkF m 27 #[.val (.int y0), .val (.int y1), .val (.long ((own_minI y1 (y0 - y1)).toInt64)), .second, .unset, .unset] [(.long (2 : Int64)), (.long (y0.toInt64)), (.long ((y0 / (2 : Int32)).toInt64))])) X22.here hx rfl (hb hby d1_27) rfl k)))))))))) ?_
  refine own_st (T' := T22) (g' := (mkF m 33 #[.val (.int y0), .val (.int y1), .val (.long ((own_minI y1 (y0 - y1)).toInt64)), .second, .val (.long (((y0 / (2 : Int32)).toInt64) * ((y0.toInt64) - ((2 : Int64) * ((own_minI y1 (y0 - y1)).toInt64))))), .second] [])) (fun t k => XS.lmul (g := (mkF m 28 #[.val (.int y0), .val (.int y1), .val (.long ((own_minI y1 (y0 - y1)).toInt64)), .second, .unset, .unset] [(.long ((own_minI y1 (y0 - y1)).toInt64)), (.long (2 : Int64)), (.long (y0.toInt64)), (.long ((y0 / (2 : Int32)).toInt64))])) X22.here hx rfl (hb hby d1_28) rfl (XS.lsub (g := (mkF m 29 #[.val (.int y0), .val (.int y1), .val (.long ((own_minI y1 (y0 - y1)).toInt64)), .second, .unset, .unset] [(.long ((2 : Int64) * ((own_minI y1 (y0 - y1)).toInt64))), (.long (y0.toInt64)), (.long ((y0 / (2 : Int32)).toInt64))])) X22.here hx rfl (hb hby d1_29) rfl (XS.lmul (g := (mkF m 30 #[.val (.int y0), .val (.int y1), .val (.long ((own_minI y1 (y0 - y1)).toInt64)), .second, .unset, .unset] [(.long ((y0.toInt64) - ((2 : Int64) * ((own_minI y1 (y0 - y1)).toInt64)))), (.long ((y0 / (2 : Int32)).toInt64))])) X22.here hx rfl (hb hby d1_30) rfl (XS.lstore (g := (mkF m 31 #[.val (.int y0), .val (.int y1), .val (.long ((own_minI y1 (y0 - y1)).toInt64)), .second, .unset, .unset] [(.long (((y0 / (2 : Int32)).toInt64) * ((y0.toInt64) - ((2 : Int64) * ((own_minI y1 (y0 - y1)).toInt64)))))])) X22.here hx rfl (hb hby d1_31) rfl (l' := #[.val (.int y0), .val (.int y1), .val (.long ((own_minI y1 (y0 - y1)).toInt64)), .second, .val (.long (((y0 / (2 : Int32)).toInt64) * ((y0.toInt64) - ((2 : Int64) * ((own_minI y1 (y0 - y1)).toInt64))))), .second]) rfl k)))) ?_
  obtain ⟨T23, h23, b23, X23, e23, g23, E23, C23, D23, st23⟩ := own_newO X22 hx hZ hown (hw _ (List.mem_of_getElem? (i := 17) rfl)) (hw _ (List.mem_of_getElem? (i := 18) rfl)) (hw _ (List.mem_of_getElem? (i := 19) rfl)) e22 (by decide) (by decide) (g := (mkF m 33 #[.val (.int y0), .val (.int y1), .val (.long ((own_minI y1 (y0 - y1)).toInt64)), .second, .val (.long (((y0 / (2 : Int32)).toInt64) * ((y0.toInt64) - ((2 : Int64) * ((own_minI y1 (y0 - y1)).toInt64))))), .second] [])) rfl (hb hby d1_33)
  refine own_st (g' := (mkF m 36 #[.val (.int y0), .val (.int y1), .val (.long ((own_minI y1 (y0 - y1)).toInt64)), .second, .val (.long (((y0 / (2 : Int32)).toInt64) * ((y0.toInt64) - ((2 : Int64) * ((own_minI y1 (y0 - y1)).toInt64))))), .second] [(.ref b23)])) st23 ?_
  have F23_min : Fld Z h23 b23 "com/example/coverweave/coverweave/Dissimilarity$Range" "min" "J" (.long (0 : Int64)) := D23 (Or.inr (hw _ (List.mem_of_getElem? (i := 32) rfl))) (ty := .long) (by decide)
  have F23_max : Fld Z h23 b23 "com/example/coverweave/coverweave/Dissimilarity$Range" "max" "J" (.long (0 : Int64)) := D23 (Or.inr (hw _ (List.mem_of_getElem? (i := 34) rfl))) (ty := .long) (by decide)
  refine own_st (T' := T23) (g' := (mkF m 49 #[.val (.int y0), .val (.int y1), .val (.long ((own_minI y1 (y0 - y1)).toInt64)), .second, .val (.long (((y0 / (2 : Int32)).toInt64) * ((y0.toInt64) - ((2 : Int64) * ((own_minI y1 (y0 - y1)).toInt64))))), .second] [(.long ((own_minI y1 (y0 - y1)).toInt64)), (.long (((own_minI y1 (y0 - y1)).toInt64) * ((own_minI y1 (y0 - y1)).toInt64))), (.long (((2 : Int64) * ((own_minI y1 (y0 - y1)).toInt64)) + (((y0 / (2 : Int32)).toInt64) * ((y0.toInt64) - ((2 : Int64) * ((own_minI y1 (y0 - y1)).toInt64)))))), (.ref b23), (.ref b23)])) (fun t k => XS.dup (g := (mkF m 36 #[.val (.int y0), .val (.int y1), .val (.long ((own_minI y1 (y0 - y1)).toInt64)), .second, .val (.long (((y0 / (2 : Int32)).toInt64) * ((y0.toInt64) - ((2 : Int64) * ((own_minI y1 (y0 - y1)).toInt64))))), .second] [(.ref b23)])) X23.here hx rfl (hb hby d1_36) rfl rfl (X23.ldc2Long hx hown (mvT hZ (hw _ (List.mem_of_getElem? (i := 16) rfl))) (g := (mkF m 37 #[.val (.int y0), .val (.int y1), .val (.long ((own_minI y1 (y0 - y1)).toInt64)), .second, .val (.long (((y0 / (2 : Int32)).toInt64) * ((y0.toInt64) - ((2 : Int64) * ((own_minI y1 (y0 - y1)).toInt64))))), .second] [(.ref b23), (.ref b23)])) rfl (hb hby d1_37) t (XS.lloadN (g := (mkF m 40 #[.val (.int y0), .val (.int y1), .val (.long ((own_minI y1 (y0 - y1)).toInt64)), .second, .val (.long (((y0 / (2 : Int32)).toInt64) * ((y0.toInt64) - ((2 : Int64) * ((own_minI y1 (y0 - y1)).toInt64))))), .second] [(.long (2 : Int64)), (.ref b23), (.ref b23)])) X23.here hx rfl (hb hby d1_40) rfl (XS.lmul (g := (mkF m 41 #[.val (.int y0), .val (.int y1), .val (.long ((own_minI y1 (y0 - y1)).toInt64)), .second, .val (.long (((y0 / (2 : Int32)).toInt64) * ((y0.toInt64) - ((2 : Int64) * ((own_minI y1 (y0 - y1)).toInt64))))), .second] [(.long ((own_minI y1 (y0 - y1)).toInt64)), (.long (2 : Int64)), (.ref b23), (.ref b23)])) X23.here hx rfl (hb hby d1_41) rfl (XS.lload (g := (mkF m 42 #[.val (.int y0), .val (.int y1), .val (.long ((own_minI y1 (y0 - y1)).toInt64)), .second, .val (.long (((y0 / (2 : Int32)).toInt64) * ((y0.toInt64) - ((2 : Int64) * ((own_minI y1 (y0 - y1)).toInt64))))), .second] [(.long ((2 : Int64) * ((own_minI y1 (y0 - y1)).toInt64))), (.ref b23), (.ref b23)])) X23.here hx rfl (hb hby d1_42) rfl (XS.ladd (g := (mkF m 44 #[.val (.int y0), .val (.int y1), .val (.long ((own_minI y1 (y0 - y1)).toInt64)), .second, .val (.long (((y0 / (2 : Int32)).toInt64) * ((y0.toInt64) - ((2 : Int64) * ((own_minI y1 (y0 - y1)).toInt64))))), .second] [(.long (((y0 / (2 : Int32)).toInt64) * ((y0.toInt64) - ((2 : Int64) * ((own_minI y1 (y0 - y1)).toInt64))))), (.long ((2 : Int64) * ((own_minI y1 (y0 - y1)).toInt64))), (.ref b23), (.ref b23)])) X23.here hx rfl (hb hby d1_44) rfl (XS.lloadN (g := (mkF m 45 #[.val (.int y0), .val (.int y1), .val (.long ((own_minI y1 (y0 - y1)).toInt64)), .second, .val (.long (((y0 / (2 : Int32)).toInt64) * ((y0.toInt64) - ((2 : Int64) * ((own_minI y1 (y0 - y1)).toInt64))))), .second] [(.long (((2 : Int64) * ((own_minI y1 (y0 - y1)).toInt64)) + (((y0 / (2 : Int32)).toInt64) * ((y0.toInt64) - ((2 : Int64) * ((own_minI y1 (y0 - y1)).toInt64)))))), (.ref b23), (.ref b23)])) X23.here hx rfl (hb hby d1_45) rfl (XS.lloadN (g := (mkF m 46 #[.val (.int y0), .val (.int y1), .val (.long ((own_minI y1 (y0 - y1)).toInt64)), .second, .val (.long (((y0 / (2 : Int32)).toInt64) * ((y0.toInt64) - ((2 : Int64) * ((own_minI y1 (y0 - y1)).toInt64))))), .second] [(.long ((own_minI y1 (y0 - y1)).toInt64)), (.long (((2 : Int64) * ((own_minI y1 (y0 - y1)).toInt64)) + (((y0 / (2 : Int32)).toInt64) * ((y0.toInt64) - ((2 : Int64) * ((own_minI y1 (y0 - y1)).toInt64)))))), (.ref b23), (.ref b23)])) X23.here hx rfl (hb hby d1_46) rfl (XS.lmul (g := (mkF m 47 #[.val (.int y0), .val (.int y1), .val (.long ((own_minI y1 (y0 - y1)).toInt64)), .second, .val (.long (((y0 / (2 : Int32)).toInt64) * ((y0.toInt64) - ((2 : Int64) * ((own_minI y1 (y0 - y1)).toInt64))))), .second] [(.long ((own_minI y1 (y0 - y1)).toInt64)), (.long ((own_minI y1 (y0 - y1)).toInt64)), (.long (((2 : Int64) * ((own_minI y1 (y0 - y1)).toInt64)) + (((y0 / (2 : Int32)).toInt64) * ((y0.toInt64) - ((2 : Int64) * ((own_minI y1 (y0 - y1)).toInt64)))))), (.ref b23), (.ref b23)])) X23.here hx rfl (hb hby d1_47) rfl (XS.lloadN (g := (mkF m 48 #[.val (.int y0), .val (.int y1), .val (.long ((own_minI y1 (y0 - y1)).toInt64)), .second, .val (.long (((y0 / (2 : Int32)).toInt64) * ((y0.toInt64) - ((2 : Int64) * ((own_minI y1 (y0 - y1)).toInt64))))), .second] [(.long (((own_minI y1 (y0 - y1)).toInt64) * ((own_minI y1 (y0 - y1)).toInt64))), (.long (((2 : Int64) * ((own_minI y1 (y0 - y1)).toInt64)) + (((y0 / (2 : Int32)).toInt64) * ((y0.toInt64) - ((2 : Int64) * ((own_minI y1 (y0 - y1)).toInt64)))))), (.ref b23), (.ref b23)])) X23.here hx rfl (hb hby d1_48) rfl k)))))))))) ?_
  refine own_st (T' := T23) (g' := (mkF m 63 #[.val (.int y0), .val (.int y1), .val (.long ((own_minI y1 (y0 - y1)).toInt64)), .second, .val (.long (((y0 / (2 : Int32)).toInt64) * ((y0.toInt64) - ((2 : Int64) * ((own_minI y1 (y0 - y1)).toInt64))))), .second] [(.long (((((own_minI y1 (y0 - y1)).toInt64) * ((own_minI y1 (y0 - y1)).toInt64)) + (((own_minI y1 (y0 - y1)).toInt64) - ((2 : Int64) * (((own_minI y1 (y0 - y1)).toInt64) / (2 : Int64))))) + (((y0 / (2 : Int32)).toInt64) * ((y0.toInt64) - ((2 : Int64) * ((own_minI y1 (y0 - y1)).toInt64)))))), (.long (((2 : Int64) * ((own_minI y1 (y0 - y1)).toInt64)) + (((y0 / (2 : Int32)).toInt64) * ((y0.toInt64) - ((2 : Int64) * ((own_minI y1 (y0 - y1)).toInt64)))))), (.ref b23), (.ref b23)])) (fun t k => X23.ldc2Long hx hown (mvT hZ (hw _ (List.mem_of_getElem? (i := 16) rfl))) (g := (mkF m 49 #[.val (.int y0), .val (.int y1), .val (.long ((own_minI y1 (y0 - y1)).toInt64)), .second, .val (.long (((y0 / (2 : Int32)).toInt64) * ((y0.toInt64) - ((2 : Int64) * ((own_minI y1 (y0 - y1)).toInt64))))), .second] [(.long ((own_minI y1 (y0 - y1)).toInt64)), (.long (((own_minI y1 (y0 - y1)).toInt64) * ((own_minI y1 (y0 - y1)).toInt64))), (.long (((2 : Int64) * ((own_minI y1 (y0 - y1)).toInt64)) + (((y0 / (2 : Int32)).toInt64) * ((y0.toInt64) - ((2 : Int64) * ((own_minI y1 (y0 - y1)).toInt64)))))), (.ref b23), (.ref b23)])) rfl (hb hby d1_49) t (XS.lloadN (g := (mkF m 52 #[.val (.int y0), .val (.int y1), .val (.long ((own_minI y1 (y0 - y1)).toInt64)), .second, .val (.long (((y0 / (2 : Int32)).toInt64) * ((y0.toInt64) - ((2 : Int64) * ((own_minI y1 (y0 - y1)).toInt64))))), .second] [(.long (2 : Int64)), (.long ((own_minI y1 (y0 - y1)).toInt64)), (.long (((own_minI y1 (y0 - y1)).toInt64) * ((own_minI y1 (y0 - y1)).toInt64))), (.long (((2 : Int64) * ((own_minI y1 (y0 - y1)).toInt64)) + (((y0 / (2 : Int32)).toInt64) * ((y0.toInt64) - ((2 : Int64) * ((own_minI y1 (y0 - y1)).toInt64)))))), (.ref b23), (.ref b23)])) X23.here hx rfl (hb hby d1_52) rfl (X23.ldc2Long hx hown (mvT hZ (hw _ (List.mem_of_getElem? (i := 16) rfl))) (g := (mkF m 53 #[.val (.int y0), .val (.int y1), .val (.long ((own_minI y1 (y0 - y1)).toInt64)), .second, .val (.long (((y0 / (2 : Int32)).toInt64) * ((y0.toInt64) - ((2 : Int64) * ((own_minI y1 (y0 - y1)).toInt64))))), .second] [(.long ((own_minI y1 (y0 - y1)).toInt64)), (.long (2 : Int64)), (.long ((own_minI y1 (y0 - y1)).toInt64)), (.long (((own_minI y1 (y0 - y1)).toInt64) * ((own_minI y1 (y0 - y1)).toInt64))), (.long (((2 : Int64) * ((own_minI y1 (y0 - y1)).toInt64)) + (((y0 / (2 : Int32)).toInt64) * ((y0.toInt64) - ((2 : Int64) * ((own_minI y1 (y0 - y1)).toInt64)))))), (.ref b23), (.ref b23)])) rfl (hb hby d1_53) t (XS.ldiv (g := (mkF m 56 #[.val (.int y0), .val (.int y1), .val (.long ((own_minI y1 (y0 - y1)).toInt64)), .second, .val (.long (((y0 / (2 : Int32)).toInt64) * ((y0.toInt64) - ((2 : Int64) * ((own_minI y1 (y0 - y1)).toInt64))))), .second] [(.long (2 : Int64)), (.long ((own_minI y1 (y0 - y1)).toInt64)), (.long (2 : Int64)), (.long ((own_minI y1 (y0 - y1)).toInt64)), (.long (((own_minI y1 (y0 - y1)).toInt64) * ((own_minI y1 (y0 - y1)).toInt64))), (.long (((2 : Int64) * ((own_minI y1 (y0 - y1)).toInt64)) + (((y0 / (2 : Int32)).toInt64) * ((y0.toInt64) - ((2 : Int64) * ((own_minI y1 (y0 - y1)).toInt64)))))), (.ref b23), (.ref b23)])) X23.here hx rfl (hb hby d1_56) rfl (by decide) (XS.lmul (g := (mkF m 57 #[.val (.int y0), .val (.int y1), .val (.long ((own_minI y1 (y0 - y1)).toInt64)), .second, .val (.long (((y0 / (2 : Int32)).toInt64) * ((y0.toInt64) - ((2 : Int64) * ((own_minI y1 (y0 - y1)).toInt64))))), .second] [(.long (((own_minI y1 (y0 - y1)).toInt64) / (2 : Int64))), (.long (2 : Int64)), (.long ((own_minI y1 (y0 - y1)).toInt64)), (.long (((own_minI y1 (y0 - y1)).toInt64) * ((own_minI y1 (y0 - y1)).toInt64))), (.long (((2 : Int64) * ((own_minI y1 (y0 - y1)).toInt64)) + (((y0 / (2 : Int32)).toInt64) * ((y0.toInt64) - ((2 : Int64) * ((own_minI y1 (y0 - y1)).toInt64)))))), (.ref b23), (.ref b23)])) X23.here hx rfl (hb hby d1_57) rfl (XS.lsub (g := (mkF m 58 #[.val (.int y0), .val (.int y1), .val (.long ((own_minI y1 (y0 - y1)).toInt64)), .second, .val (.long (((y0 / (2 : Int32)).toInt64) * ((y0.toInt64) - ((2 : Int64) * ((own_minI y1 (y0 - y1)).toInt64))))), .second] [(.long ((2 : Int64) * (((own_minI y1 (y0 - y1)).toInt64) / (2 : Int64)))), (.long ((own_minI y1 (y0 - y1)).toInt64)), (.long (((own_minI y1 (y0 - y1)).toInt64) * ((own_minI y1 (y0 - y1)).toInt64))), (.long (((2 : Int64) * ((own_minI y1 (y0 - y1)).toInt64)) + (((y0 / (2 : Int32)).toInt64) * ((y0.toInt64) - ((2 : Int64) * ((own_minI y1 (y0 - y1)).toInt64)))))), (.ref b23), (.ref b23)])) X23.here hx rfl (hb hby d1_58) rfl (XS.ladd (g := (mkF m 59 #[.val (.int y0), .val (.int y1), .val (.long ((own_minI y1 (y0 - y1)).toInt64)), .second, .val (.long (((y0 / (2 : Int32)).toInt64) * ((y0.toInt64) - ((2 : Int64) * ((own_minI y1 (y0 - y1)).toInt64))))), .second] [(.long (((own_minI y1 (y0 - y1)).toInt64) - ((2 : Int64) * (((own_minI y1 (y0 - y1)).toInt64) / (2 : Int64))))), (.long (((own_minI y1 (y0 - y1)).toInt64) * ((own_minI y1 (y0 - y1)).toInt64))), (.long (((2 : Int64) * ((own_minI y1 (y0 - y1)).toInt64)) + (((y0 / (2 : Int32)).toInt64) * ((y0.toInt64) - ((2 : Int64) * ((own_minI y1 (y0 - y1)).toInt64)))))), (.ref b23), (.ref b23)])) X23.here hx rfl (hb hby d1_59) rfl (XS.lload (g := (mkF m 60 #[.val (.int y0), .val (.int y1), .val (.long ((own_minI y1 (y0 - y1)).toInt64)), .second, .val (.long (((y0 / (2 : Int32)).toInt64) * ((y0.toInt64) - ((2 : Int64) * ((own_minI y1 (y0 - y1)).toInt64))))), .second] [(.long ((((own_minI y1 (y0 - y1)).toInt64) * ((own_minI y1 (y0 - y1)).toInt64)) + (((own_minI y1 (y0 - y1)).toInt64) - ((2 : Int64) * (((own_minI y1 (y0 - y1)).toInt64) / (2 : Int64)))))), (.long (((2 : Int64) * ((own_minI y1 (y0 - y1)).toInt64)) + (((y0 / (2 : Int32)).toInt64) * ((y0.toInt64) - ((2 : Int64) * ((own_minI y1 (y0 - y1)).toInt64)))))), (.ref b23), (.ref b23)])) X23.here hx rfl (hb hby d1_60) rfl (XS.ladd (g := (mkF m 62 #[.val (.int y0), .val (.int y1), .val (.long ((own_minI y1 (y0 - y1)).toInt64)), .second, .val (.long (((y0 / (2 : Int32)).toInt64) * ((y0.toInt64) - ((2 : Int64) * ((own_minI y1 (y0 - y1)).toInt64))))), .second] [(.long (((y0 / (2 : Int32)).toInt64) * ((y0.toInt64) - ((2 : Int64) * ((own_minI y1 (y0 - y1)).toInt64))))), (.long ((((own_minI y1 (y0 - y1)).toInt64) * ((own_minI y1 (y0 - y1)).toInt64)) + (((own_minI y1 (y0 - y1)).toInt64) - ((2 : Int64) * (((own_minI y1 (y0 - y1)).toInt64) / (2 : Int64)))))), (.long (((2 : Int64) * ((own_minI y1 (y0 - y1)).toInt64)) + (((y0 / (2 : Int32)).toInt64) * ((y0.toInt64) - ((2 : Int64) * ((own_minI y1 (y0 - y1)).toInt64)))))), (.ref b23), (.ref b23)])) X23.here hx rfl (hb hby d1_62) rfl k))))))))) ?_
  have n0_b23 : n0 ≤ b23 := Nat.le_trans (Nat.le_trans Z0 (Nat.le_refl _)) (Nat.le_of_eq g23.symm)
  refine own_callI X23 hx hZ (y := (⟨"com/example/coverweave/coverweave/Dissimilarity$Range", "<init>", "(JJ)V"⟩ : MethodName)) (argsL := [(.long (((2 : Int64) * ((own_minI y1 (y0 - y1)).toInt64)) + (((y0 / (2 : Int32)).toInt64) * ((y0.toInt64) - ((2 : Int64) * ((own_minI y1 (y0 - y1)).toInt64)))))), (.long (((((own_minI y1 (y0 - y1)).toInt64) * ((own_minI y1 (y0 - y1)).toInt64)) + (((own_minI y1 (y0 - y1)).toInt64) - ((2 : Int64) * (((own_minI y1 (y0 - y1)).toInt64) / (2 : Int64))))) + (((y0 / (2 : Int32)).toInt64) * ((y0.toInt64) - ((2 : Int64) * ((own_minI y1 (y0 - y1)).toInt64))))))]) (a := b23) rfl hown (hw _ (List.mem_of_getElem? (i := 20) rfl)) (hw _ (List.mem_of_getElem? (i := 21) rfl)) (hw _ (List.mem_of_getElem? (i := 19) rfl)) (hw _ (List.mem_of_getElem? (i := 22) rfl)) (by decide) e23 (own_rm5 l Z a0 hw b23 (((2 : Int64) * ((own_minI y1 (y0 - y1)).toInt64)) + (((y0 / (2 : Int32)).toInt64) * ((y0.toInt64) - ((2 : Int64) * ((own_minI y1 (y0 - y1)).toInt64))))) (((((own_minI y1 (y0 - y1)).toInt64) * ((own_minI y1 (y0 - y1)).toInt64)) + (((own_minI y1 (y0 - y1)).toInt64) - ((2 : Int64) * (((own_minI y1 (y0 - y1)).toInt64) / (2 : Int64))))) + (((y0 / (2 : Int32)).toInt64) * ((y0.toInt64) - ((2 : Int64) * ((own_minI y1 (y0 - y1)).toInt64)))))  h23 n0 (Nat.le_trans Z0 E23.1) n0_b23 C23 F23_min F23_max ) (W := 1) (by decide) (by decide) (by decide) (by decide) pd4 rfl (g := (mkF m 63 #[.val (.int y0), .val (.int y1), .val (.long ((own_minI y1 (y0 - y1)).toInt64)), .second, .val (.long (((y0 / (2 : Int32)).toInt64) * ((y0.toInt64) - ((2 : Int64) * ((own_minI y1 (y0 - y1)).toInt64))))), .second] [(.long (((((own_minI y1 (y0 - y1)).toInt64) * ((own_minI y1 (y0 - y1)).toInt64)) + (((own_minI y1 (y0 - y1)).toInt64) - ((2 : Int64) * (((own_minI y1 (y0 - y1)).toInt64) / (2 : Int64))))) + (((y0 / (2 : Int32)).toInt64) * ((y0.toInt64) - ((2 : Int64) * ((own_minI y1 (y0 - y1)).toInt64)))))), (.long (((2 : Int64) * ((own_minI y1 (y0 - y1)).toInt64)) + (((y0 / (2 : Int32)).toInt64) * ((y0.toInt64) - ((2 : Int64) * ((own_minI y1 (y0 - y1)).toInt64)))))), (.ref b23), (.ref b23)])) rfl (by rw [hml]; rfl) (rest := [(.ref b23)]) rfl (by show 2 * 0 + _ ≤ _; exact Nat.le_of_eq rfl) (hb hby d1_63) (fun v24 T24 L24 X24 q24 => ?_)
  obtain ⟨h24, e24⟩ : ∃ z, T24.heap = z := ⟨_, rfl⟩
  rw [e24] at q24
  obtain ⟨rfl, N24q, K24, E24, F24_min, F24_max⟩ := q24
  have N24 := Fr.app N22 N24q
  show own_Go _ _ _ _ _ _ _ T24 (mkF m 66 #[.val (.int y0), .val (.int y1), .val (.long ((own_minI y1 (y0 - y1)).toInt64)), .second, .val (.long (((y0 / (2 : Int32)).toInt64) * ((y0.toInt64) - ((2 : Int64) * ((own_minI y1 (y0 - y1)).toInt64))))), .second] [(.ref b23)])
  refine own_retR X24 hx hlk hret rfl rfl rfl (hb hby d1_66) ?_ (by decide) (by decide)
  rw [e24]
  exact ⟨b23, rfl, N24, (Keep.trans (Keep.ext (Keep.refl _ _) E23) K24 (allS (Or.inr (Nat.le_trans (Nat.le_refl _) (Nat.le_of_eq g23.symm))) all0)), n0_b23, (Nat.le_trans (Nat.le_refl _) (Nat.le_of_eq g23.symm)), E24, F24_min, F24_max⟩
theorem pn_0 : plainName "com/example/coverweave/coverweave/DissimilarityInverseBoundsPinLaw" = true := by first | (simp [plainName, overriddenIn]; done) | decide +kernel
theorem ef_0 (m : MethodId) (x0 : Int32) (x1 : Int32) : entryFrame m #[(.int x0), (.int x1)] maxLocals = mkF m 0 #[.val (.int x0), .val (.int x1), .unset, .unset, .unset, .unset, .unset, .unset, .unset, .unset, .unset, .unset, .unset, .unset, .unset, .unset, .unset, .unset, .unset, .unset, .unset] [] := by first | (simp [entryFrame, mkF, argsToLocals, Value.category, maxLocals]; done) | rfl
set_option maxRecDepth 65536 in
set_option maxHeartbeats 40000000 in
theorem own_rm0 (l : Launch) (Z : State) (a0 : Array Value) (hw : ∀ d ∈ tables_1, d.before a0 Z = true) (p0 : Int32) (p1 : Int32)  (h0 : Heap) (n0 : Nat) (Z0 : n0 ≤ h0.size) :
    own_Ct l Z x code maxLocals ret room_1 #[(.int p0), (.int p1)] h0 (fun v h L => v = some (.int 1) ∧ Fr n0 L) := by
  refine own_enter (plainFor_of_name pn_0) ?_
  intro p e s m below meth c s₁ X0 C e0
  obtain ⟨hx, hZ, hby, hml, hown, hnm, hret, hlk⟩ := C
  replace hown : s.vm.findClass "com/example/coverweave/coverweave/DissimilarityInverseBoundsPinLaw" = some m.cls := hown
  replace hml : c.maxLocals = 21 := hml
  replace hret : meth.sig.returnType = (some .boolean) := hret
  have N0 := Fr.nil n0
  refine own_cast (ef_0 m p0 p1) ?_
  refine own_st (T' := s₁) (g' := (mkF m 5 #[.val (.int p0), .val (.int p1), .val (.int (p0 &&& (2147483647 : Int32))), .unset, .unset, .unset, .unset, .unset, .unset, .unset, .unset, .unset, .unset, .unset, .unset, .unset, .unset, .unset, .unset, .unset, .unset] [])) (fun t k => XS.iloadN (g := (mkF m 0 #[.val (.int p0), .val (.int p1), .unset, .unset, .unset, .unset, .unset, .unset, .unset, .unset, .unset, .unset, .unset, .unset, .unset, .unset, .unset, .unset, .unset, .unset, .unset] [])) X0.here hx rfl (hb hby at_0) rfl (X0.ldcInt hx hown (mvT hZ (hw _ (List.mem_of_getElem? (i := 0) rfl))) (g := (mkF m 1 #[.val (.int p0), .val (.int p1), .unset, .unset, .unset, .unset, .unset, .unset, .unset, .unset, .unset, .unset, .unset, .unset, .unset, .unset, .unset, .unset, .unset, .unset, .unset] [(.int p0)])) rfl (hb hby at_1) t (XS.iand (g := (mkF m 3 #[.val (.int p0), .val (.int p1), .unset, .unset, .unset, .unset, .unset, .unset, .unset, .unset, .unset, .unset, .unset, .unset, .unset, .unset, .unset, .unset, .unset, .unset, .unset] [(.int (2147483647 : Int32)), (.int p0)])) X0.here hx rfl (hb hby at_3) rfl (XS.istoreN (g := (mkF m 4 #[.val (.int p0), .val (.int p1), .unset, .unset, .unset, .unset, .unset, .unset, .unset, .unset, .unset, .unset, .unset, .unset, .unset, .unset, .unset, .unset, .unset, .unset, .unset] [(.int (p0 &&& (2147483647 : Int32)))])) X0.here hx rfl (hb hby at_4) rfl (l' := #[.val (.int p0), .val (.int p1), .val (.int (p0 &&& (2147483647 : Int32))), .unset, .unset, .unset, .unset, .unset, .unset, .unset, .unset, .unset, .unset, .unset, .unset, .unset, .unset, .unset, .unset, .unset, .unset]) rfl k)))) ?_
  generalize hu25 : (p0 &&& (2147483647 : Int32)) = u25
  refine own_st (T' := s₁) (g' := (mkF m 6 #[.val (.int p0), .val (.int p1), .val (.int u25), .unset, .unset, .unset, .unset, .unset, .unset, .unset, .unset, .unset, .unset, .unset, .unset, .unset, .unset, .unset, .unset, .unset, .unset] [(.int u25)])) (fun t k => XS.iloadN (g := (mkF m 5 #[.val (.int p0), .val (.int p1), .val (.int u25), .unset, .unset, .unset, .unset, .unset, .unset, .unset, .unset, .unset, .unset, .unset, .unset, .unset, .unset, .unset, .unset, .unset, .unset] [])) X0.here hx rfl (hb hby at_5) rfl k) ?_
  suffices J11_v26 : ∀ v26 : Int32, v26 = (if u25 = (0 : Int32) then (1 : Int32) else u25) → own_Go p e below s (fun v h L => v = some (.int 1) ∧ Fr n0 L) room_1.cells room_1.slots s₁ (mkF m 11 #[.val (.int p0), .val (.int p1), .val (.int v26), .unset, .unset, .unset, .unset, .unset, .unset, .unset, .unset, .unset, .unset, .unset, .unset, .unset, .unset, .unset, .unset, .unset, .unset] []) by
    by_cases hc6_27 : u25 = (0 : Int32)
    · refine own_st (T' := s₁) (g' := (mkF m 11 #[.val (.int p0), .val (.int p1), .val (.int (1 : Int32)), .unset, .unset, .unset, .unset, .unset, .unset, .unset, .unset, .unset, .unset, .unset, .unset, .unset, .unset, .unset, .unset, .unset, .unset] [])) (fun t k => XS.ifNo (g := (mkF m 6 #[.val (.int p0), .val (.int p1), .val (.int u25), .unset, .unset, .unset, .unset, .unset, .unset, .unset, .unset, .unset, .unset, .unset, .unset, .unset, .unset, .unset, .unset, .unset, .unset] [(.int u25)])) X0.here hx rfl (hb hby at_6) rfl ((if0 _ _).trans (teq hc6_27).2) (XS.iconst (g := (mkF m 9 #[.val (.int p0), .val (.int p1), .val (.int u25), .unset, .unset, .unset, .unset, .unset, .unset, .unset, .unset, .unset, .unset, .unset, .unset, .unset, .unset, .unset, .unset, .unset, .unset] [])) X0.here hx rfl (hb hby at_9) (XS.istoreN (g := (mkF m 10 #[.val (.int p0), .val (.int p1), .val (.int u25), .unset, .unset, .unset, .unset, .unset, .unset, .unset, .unset, .unset, .unset, .unset, .unset, .unset, .unset, .unset, .unset, .unset, .unset] [(.int (1 : Int32))])) X0.here hx rfl (hb hby at_10) rfl (l' := #[.val (.int p0), .val (.int p1), .val (.int (1 : Int32)), .unset, .unset, .unset, .unset, .unset, .unset, .unset, .unset, .unset, .unset, .unset, .unset, .unset, .unset, .unset, .unset, .unset, .unset]) rfl k))) ?_
      exact J11_v26 _ ((if_pos hc6_27).symm)
    · refine own_st (T' := s₁) (g' := (mkF m 11 #[.val (.int p0), .val (.int p1), .val (.int u25), .unset, .unset, .unset, .unset, .unset, .unset, .unset, .unset, .unset, .unset, .unset, .unset, .unset, .unset, .unset, .unset, .unset, .unset] [])) (fun t k => XS.ifYes (g := (mkF m 6 #[.val (.int p0), .val (.int p1), .val (.int u25), .unset, .unset, .unset, .unset, .unset, .unset, .unset, .unset, .unset, .unset, .unset, .unset, .unset, .unset, .unset, .unset, .unset, .unset] [(.int u25)])) X0.here hx rfl (pc0 := 6) (pc' := 11) rfl (hb hby at_6) rfl ((if0 _ _).trans (feq hc6_27).2) (by decide) (by decide) k) ?_
      exact J11_v26 _ ((if_neg hc6_27).symm)
  intro v26 hv26
  have hL : ¬ (v26 < (1 : Int32)) := own_v1 hu25 hv26
  refine own_st (T' := s₁) (g' := (mkF m 23 #[.val (.int p0), .val (.int p1), .val (.int v26), .unset, .unset, .unset, .unset, .unset, .unset, .unset, .unset, .unset, .unset, .unset, .unset, .unset, .unset, .unset, .unset, .unset, .unset] [(.int ((((p1.toInt64) &&& (4294967295 : Int64)) - (((p1.toInt64) &&& (4294967295 : Int64)) / ((v26.toInt64) + (1 : Int64))) * ((v26.toInt64) + (1 : Int64))).toInt32))])) (fun t k => XS.iloadN (g := (mkF m 11 #[.val (.int p0), .val (.int p1), .val (.int v26), .unset, .unset, .unset, .unset, .unset, .unset, .unset, .unset, .unset, .unset, .unset, .unset, .unset, .unset, .unset, .unset, .unset, .unset] [])) X0.here hx rfl (hb hby at_11) rfl (XS.i2l (g := (mkF m 12 #[.val (.int p0), .val (.int p1), .val (.int v26), .unset, .unset, .unset, .unset, .unset, .unset, .unset, .unset, .unset, .unset, .unset, .unset, .unset, .unset, .unset, .unset, .unset, .unset] [(.int p1)])) X0.here hx rfl (hb hby at_12) rfl (X0.ldc2Long hx hown (mvT hZ (hw _ (List.mem_of_getElem? (i := 1) rfl))) (g := (mkF m 13 #[.val (.int p0), .val (.int p1), .val (.int v26), .unset, .unset, .unset, .unset, .unset, .unset, .unset, .unset, .unset, .unset, .unset, .unset, .unset, .unset, .unset, .unset, .unset, .unset] [(.long (p1.toInt64))])) rfl (hb hby at_13) t (XS.land (g := (mkF m 16 #[.val (.int p0), .val (.int p1), .val (.int v26), .unset, .unset, .unset, .unset, .unset, .unset, .unset, .unset, .unset, .unset, .unset, .unset, .unset, .unset, .unset, .unset, .unset, .unset] [(.long (4294967295 : Int64)), (.long (p1.toInt64))])) X0.here hx rfl (hb hby at_16) rfl (XS.iloadN (g := (mkF m 17 #[.val (.int p0), .val (.int p1), .val (.int v26), .unset, .unset, .unset, .unset, .unset, .unset, .unset, .unset, .unset, .unset, .unset, .unset, .unset, .unset, .unset, .unset, .unset, .unset] [(.long ((p1.toInt64) &&& (4294967295 : Int64)))])) X0.here hx rfl (hb hby at_17) rfl (XS.i2l (g := (mkF m 18 #[.val (.int p0), .val (.int p1), .val (.int v26), .unset, .unset, .unset, .unset, .unset, .unset, .unset, .unset, .unset, .unset, .unset, .unset, .unset, .unset, .unset, .unset, .unset, .unset] [(.int v26), (.long ((p1.toInt64) &&& (4294967295 : Int64)))])) X0.here hx rfl (hb hby at_18) rfl (XS.lconst (g := (mkF m 19 #[.val (.int p0), .val (.int p1), .val (.int v26), .unset, .unset, .unset, .unset, .unset, .unset, .unset, .unset, .unset, .unset, .unset, .unset, .unset, .unset, .unset, .unset, .unset, .unset] [(.long (v26.toInt64)), (.long ((p1.toInt64) &&& (4294967295 : Int64)))])) X0.here hx rfl (hb hby at_19) (XS.ladd (g := (mkF m 20 #[.val (.int p0), .val (.int p1), .val (.int v26), .unset, .unset, .unset, .unset, .unset, .unset, .unset, .unset, .unset, .unset, .unset, .unset, .unset, .unset, .unset, .unset, .unset, .unset] [(.long (1 : Int64)), (.long (v26.toInt64)), (.long ((p1.toInt64) &&& (4294967295 : Int64)))])) X0.here hx rfl (hb hby at_20) rfl (XS.lrem (g := (mkF m 21 #[.val (.int p0), .val (.int p1), .val (.int v26), .unset, .unset, .unset, .unset, .unset, .unset, .unset, .unset, .unset, .unset, .unset, .unset, .unset, .unset, .unset, .unset, .unset, .unset] [(.long ((v26.toInt64) + (1 : Int64))), (.long ((p1.toInt64) &&& (4294967295 : Int64)))])) X0.here hx rfl (hb hby at_21) rfl (own_B0 hL) (XS.l2i (g := (mkF m 22 #[.val (.int p0), .val (.int p1), .val (.int v26), .unset, .unset, .unset, .unset, .unset, .unset, .unset, .unset, .unset, .unset, .unset, .unset, .unset, .unset, .unset, .unset, .unset, .unset] [(.long (((p1.toInt64) &&& (4294967295 : Int64)) - (((p1.toInt64) &&& (4294967295 : Int64)) / ((v26.toInt64) + (1 : Int64))) * ((v26.toInt64) + (1 : Int64))))])) X0.here hx rfl (hb hby at_22) rfl k)))))))))) ?_
  refine own_st (T' := s₁) (g' := (mkF m 24 #[.val (.int p0), .val (.int p1), .val (.int v26), .val (.int ((((p1.toInt64) &&& (4294967295 : Int64)) - (((p1.toInt64) &&& (4294967295 : Int64)) / ((v26.toInt64) + (1 : Int64))) * ((v26.toInt64) + (1 : Int64))).toInt32)), .unset, .unset, .unset, .unset, .unset, .unset, .unset, .unset, .unset, .unset, .unset, .unset, .unset, .unset, .unset, .unset, .unset] [])) (fun t k => XS.istoreN (g := (mkF m 23 #[.val (.int p0), .val (.int p1), .val (.int v26), .unset, .unset, .unset, .unset, .unset, .unset, .unset, .unset, .unset, .unset, .unset, .unset, .unset, .unset, .unset, .unset, .unset, .unset] [(.int ((((p1.toInt64) &&& (4294967295 : Int64)) - (((p1.toInt64) &&& (4294967295 : Int64)) / ((v26.toInt64) + (1 : Int64))) * ((v26.toInt64) + (1 : Int64))).toInt32))])) X0.here hx rfl (hb hby at_23) rfl (l' := #[.val (.int p0), .val (.int p1), .val (.int v26), .val (.int ((((p1.toInt64) &&& (4294967295 : Int64)) - (((p1.toInt64) &&& (4294967295 : Int64)) / ((v26.toInt64) + (1 : Int64))) * ((v26.toInt64) + (1 : Int64))).toInt32)), .unset, .unset, .unset, .unset, .unset, .unset, .unset, .unset, .unset, .unset, .unset, .unset, .unset, .unset, .unset, .unset, .unset]) rfl k) ?_
  generalize hu28 : ((((p1.toInt64) &&& (4294967295 : Int64)) - (((p1.toInt64) &&& (4294967295 : Int64)) / ((v26.toInt64) + (1 : Int64))) * ((v26.toInt64) + (1 : Int64))).toInt32) = u28
  have hW0 : ¬ (u28 < (0 : Int32)) := (own_W hL hu28).1
  have hW1 : ¬ (v26 < u28) := (own_W hL hu28).2
  refine own_st (T' := s₁) (g' := (mkF m 26 #[.val (.int p0), .val (.int p1), .val (.int v26), .val (.int u28), .unset, .unset, .unset, .unset, .unset, .unset, .unset, .unset, .unset, .unset, .unset, .unset, .unset, .unset, .unset, .unset, .unset] [(.int u28), (.int v26)])) (fun t k => XS.iloadN (g := (mkF m 24 #[.val (.int p0), .val (.int p1), .val (.int v26), .val (.int u28), .unset, .unset, .unset, .unset, .unset, .unset, .unset, .unset, .unset, .unset, .unset, .unset, .unset, .unset, .unset, .unset, .unset] [])) X0.here hx rfl (hb hby at_24) rfl (XS.iloadN (g := (mkF m 25 #[.val (.int p0), .val (.int p1), .val (.int v26), .val (.int u28), .unset, .unset, .unset, .unset, .unset, .unset, .unset, .unset, .unset, .unset, .unset, .unset, .unset, .unset, .unset, .unset, .unset] [(.int v26)])) X0.here hx rfl (hb hby at_25) rfl k)) ?_
  refine own_callS X0 hx hZ (y := (⟨"com/example/coverweave/coverweave/Dissimilarity", "inverseBounds", "(II)Lcom/example/coverweave/coverweave/Dissimilarity$Range;"⟩ : MethodName)) (argsL := [(.int v26), (.int u28)]) hown (hw _ (List.mem_of_getElem? (i := 2) rfl)) (hw _ (List.mem_of_getElem? (i := 3) rfl)) (hw _ (List.mem_of_getElem? (i := 4) rfl)) (hw _ (List.mem_of_getElem? (i := 5) rfl)) (by decide) e0 (own_rm1 l Z a0 hw v26 u28 h0 n0 (Nat.le_trans Z0 (Nat.le_refl _)) hL hW0 hW1) (W := 0) (by decide) (by decide) (by decide) (by decide) pd5 rfl (g := (mkF m 26 #[.val (.int p0), .val (.int p1), .val (.int v26), .val (.int u28), .unset, .unset, .unset, .unset, .unset, .unset, .unset, .unset, .unset, .unset, .unset, .unset, .unset, .unset, .unset, .unset, .unset] [(.int u28), (.int v26)])) rfl (by rw [hml]; rfl) (rest := []) rfl (by show 2 * 0 + _ ≤ _; exact Nat.le_of_eq rfl) (hb hby at_26) (fun v29 T29 L29 X29 q29 => ?_)
  obtain ⟨h29, e29⟩ : ∃ z, T29.heap = z := ⟨_, rfl⟩
  rw [e29] at q29
  obtain ⟨b29, rfl, N29q, K29, nb29, lb29, E29, F29a, F29b⟩ := q29
  have N29 := Fr.app N0 N29q
  show own_Go _ _ _ _ _ _ _ T29 (mkF m 29 #[.val (.int p0), .val (.int p1), .val (.int v26), .val (.int u28), .unset, .unset, .unset, .unset, .unset, .unset, .unset, .unset, .unset, .unset, .unset, .unset, .unset, .unset, .unset, .unset, .unset] [(.ref b29)])
  refine own_st (T' := T29) (g' := (mkF m 35 #[.val (.int p0), .val (.int p1), .val (.int v26), .val (.int u28), .val (.ref b29), .val (.long (v26.toInt64)), .second, .unset, .unset, .unset, .unset, .unset, .unset, .unset, .unset, .unset, .unset, .unset, .unset, .unset, .unset] [])) (fun t k => XS.astore (g := (mkF m 29 #[.val (.int p0), .val (.int p1), .val (.int v26), .val (.int u28), .unset, .unset, .unset, .unset, .unset, .unset, .unset, .unset, .unset, .unset, .unset, .unset, .unset, .unset, .unset, .unset, .unset] [(.ref b29)])) X29.here hx rfl (hb hby at_29) rfl rfl (l' := #[.val (.int p0), .val (.int p1), .val (.int v26), .val (.int u28), .val (.ref b29), .unset, .unset, .unset, .unset, .unset, .unset, .unset, .unset, .unset, .unset, .unset, .unset, .unset, .unset, .unset, .unset]) rfl (XS.iloadN (g := (mkF m 31 #[.val (.int p0), .val (.int p1), .val (.int v26), .val (.int u28), .val (.ref b29), .unset, .unset, .unset, .unset, .unset, .unset, .unset, .unset, .unset, .unset, .unset, .unset, .unset, .unset, .unset, .unset] [])) X29.here hx rfl (hb hby at_31) rfl (XS.i2l (g := (mkF m 32 #[.val (.int p0), .val (.int p1), .val (.int v26), .val (.int u28), .val (.ref b29), .unset, .unset, .unset, .unset, .unset, .unset, .unset, .unset, .unset, .unset, .unset, .unset, .unset, .unset, .unset, .unset] [(.int v26)])) X29.here hx rfl (hb hby at_32) rfl (XS.lstore (g := (mkF m 33 #[.val (.int p0), .val (.int p1), .val (.int v26), .val (.int u28), .val (.ref b29), .unset, .unset, .unset, .unset, .unset, .unset, .unset, .unset, .unset, .unset, .unset, .unset, .unset, .unset, .unset, .unset] [(.long (v26.toInt64))])) X29.here hx rfl (hb hby at_33) rfl (l' := #[.val (.int p0), .val (.int p1), .val (.int v26), .val (.int u28), .val (.ref b29), .val (.long (v26.toInt64)), .second, .unset, .unset, .unset, .unset, .unset, .unset, .unset, .unset, .unset, .unset, .unset, .unset, .unset, .unset]) rfl k)))) ?_
  generalize hu30 : (v26.toInt64) = u30
  refine own_st (T' := T29) (g' := (mkF m 43 #[.val (.int p0), .val (.int p1), .val (.int v26), .val (.int u28), .val (.ref b29), .val (.long u30), .second, .val (.long (u30 / (2 : Int64))), .second, .unset, .unset, .unset, .unset, .unset, .unset, .unset, .unset, .unset, .unset, .unset, .unset] [])) (fun t k => XS.lload (g := (mkF m 35 #[.val (.int p0), .val (.int p1), .val (.int v26), .val (.int u28), .val (.ref b29), .val (.long u30), .second, .unset, .unset, .unset, .unset, .unset, .unset, .unset, .unset, .unset, .unset, .unset, .unset, .unset, .unset] [])) X29.here hx rfl (hb hby at_35) rfl (X29.ldc2Long hx hown (mvT hZ (hw _ (List.mem_of_getElem? (i := 35) rfl))) (g := (mkF m 37 #[.val (.int p0), .val (.int p1), .val (.int v26), .val (.int u28), .val (.ref b29), .val (.long u30), .second, .unset, .unset, .unset, .unset, .unset, .unset, .unset, .unset, .unset, .unset, .unset, .unset, .unset, .unset] [(.long u30)])) rfl (hb hby at_37) t (XS.ldiv (g := (mkF m 40 #[.val (.int p0), .val (.int p1), .val (.int v26), .val (.int u28), .val (.ref b29), .val (.long u30), .second, .unset, .unset, .unset, .unset, .unset, .unset, .unset, .unset, .unset, .unset, .unset, .unset, .unset, .unset] [(.long (2 : Int64)), (.long u30)])) X29.here hx rfl (hb hby at_40) rfl (by decide) (XS.lstore (g := (mkF m 41 #[.val (.int p0), .val (.int p1), .val (.int v26), .val (.int u28), .val (.ref b29), .val (.long u30), .second, .unset, .unset, .unset, .unset, .unset, .unset, .unset, .unset, .unset, .unset, .unset, .unset, .unset, .unset] [(.long (u30 / (2 : Int64)))])) X29.here hx rfl (hb hby at_41) rfl (l' := #[.val (.int p0), .val (.int p1), .val (.int v26), .val (.int u28), .val (.ref b29), .val (.long u30), .second, .val (.long (u30 / (2 : Int64))), .second, .unset, .unset, .unset, .unset, .unset, .unset, .unset, .unset, .unset, .unset, .unset, .unset]) rfl k)))) ?_
  generalize hu31 : (u30 / (2 : Int64)) = u31
  refine own_st (T' := T29) (g' := (mkF m 52 #[.val (.int p0), .val (.int p1), .val (.int v26), .val (.int u28), .val (.ref b29), .val (.long u30), .second, .val (.long u31), .second, .unset, .unset, .unset, .unset, .unset, .unset, .unset, .unset, .unset, .unset, .unset, .unset] [(.long (u30 - ((2 : Int64) * (u28.toInt64))))])) (fun t k => XS.lload (g := (mkF m 43 #[.val (.int p0), .val (.int p1), .val (.int v26), .val (.int u28), .val (.ref b29), .val (.long u30), .second, .val (.long u31), .second, .unset, .unset, .unset, .unset, .unset, .unset, .unset, .unset, .unset, .unset, .unset, .unset] [])) X29.here hx rfl (hb hby at_43) rfl (X29.ldc2Long hx hown (mvT hZ (hw _ (List.mem_of_getElem? (i := 35) rfl))) (g := (mkF m 45 #[.val (.int p0), .val (.int p1), .val (.int v26), .val (.int u28), .val (.ref b29), .val (.long u30), .second, .val (.long u31), .second, .unset, .unset, .unset, .unset, .unset, .unset, .unset, .unset, .unset, .unset, .unset, .unset] [(.long u30)])) rfl (hb hby at_45) t (XS.iloadN (g := (mkF m 48 #[.val (.int p0), .val (.int p1), .val (.int v26), .val (.int u28), .val (.ref b29), .val (.long u30), .second, .val (.long u31), .second, .unset, .unset, .unset, .unset, .unset, .unset, .unset, .unset, .unset, .unset, .unset, .unset] [(.long (2 : Int64)), (.long u30)])) X29.here hx rfl (hb hby at_48) rfl (XS.i2l (g := (mkF m 49 #[.val (.int p0), .val (.int p1), .val (.int v26), .val (.int u28), .val (.ref b29), .val (.long u30), .second, .val (.long u31), .second, .unset, .unset, .unset, .unset, .unset, .unset, .unset, .unset, .unset, .unset, .unset, .unset] [(.int u28), (.long (2 : Int64)), (.long u30)])) X29.here hx rfl (hb hby at_49) rfl (XS.lmul (g := (mkF m 50 #[.val (.int p0), .val (.int p1), .val (.int v26), .val (.int u28), .val (.ref b29), .val (.long u30), .second, .val (.long u31), .second, .unset, .unset, .unset, .unset, .unset, .unset, .unset, .unset, .unset, .unset, .unset, .unset] [(.long (u28.toInt64)), (.long (2 : Int64)), (.long u30)])) X29.here hx rfl (hb hby at_50) rfl (XS.lsub (g := (mkF m 51 #[.val (.int p0), .val (.int p1), .val (.int v26), .val (.int u28), .val (.ref b29), .val (.long u30), .second, .val (.long u31), .second, .unset, .unset, .unset, .unset, .unset, .unset, .unset, .unset, .unset, .unset, .unset, .unset] [(.long ((2 : Int64) * (u28.toInt64))), (.long u30)])) X29.here hx rfl (hb hby at_51) rfl k)))))) ?_
  refine own_callS X29 hx hZ (y := (⟨"java/lang/Math", "abs", "(J)J"⟩ : MethodName)) (argsL := [(.long (u30 - ((2 : Int64) * (u28.toInt64))))]) hown (hw _ (List.mem_of_getElem? (i := 36) rfl)) (hw _ (List.mem_of_getElem? (i := 37) rfl)) (hw _ (List.mem_of_getElem? (i := 14) rfl)) (hw _ (List.mem_of_getElem? (i := 38) rfl)) (by decide) e29 (own_rm8 l Z a0 hw (u30 - ((2 : Int64) * (u28.toInt64)))  h29 n0 (Nat.le_trans Z0 K29.1) ) (W := 0) (by decide) (by decide) (by decide) (by decide) pd6 rfl (g := (mkF m 52 #[.val (.int p0), .val (.int p1), .val (.int v26), .val (.int u28), .val (.ref b29), .val (.long u30), .second, .val (.long u31), .second, .unset, .unset, .unset, .unset, .unset, .unset, .unset, .unset, .unset, .unset, .unset, .unset] [(.long (u30 - ((2 : Int64) * (u28.toInt64))))])) rfl (by rw [hml]; rfl) (rest := []) rfl (by show 2 * 0 + _ ≤ _; exact Nat.le_of_eq rfl) (hb hby at_52) (fun v32 T32 L32 X32 q32 => ?_)
  obtain ⟨rfl, N32q, e32⟩ := q32
  have N32 := Fr.app N29 N32q
  replace e32 := e32
  show own_Go _ _ _ _ _ _ _ T32 (mkF m 55 #[.val (.int p0), .val (.int p1), .val (.int v26), .val (.int u28), .val (.ref b29), .val (.long u30), .second, .val (.long u31), .second, .unset, .unset, .unset, .unset, .unset, .unset, .unset, .unset, .unset, .unset, .unset, .unset] [(.long (own_absJ (u30 - ((2 : Int64) * (u28.toInt64)))))])
  refine own_st (T' := T32) (g' := (mkF m 57 #[.val (.int p0), .val (.int p1), .val (.int v26), .val (.int u28), .val (.ref b29), .val (.long u30), .second, .val (.long u31), .second, .val (.long (own_absJ (u30 - ((2 : Int64) * (u28.toInt64))))), .second, .unset, .unset, .unset, .unset, .unset, .unset, .unset, .unset, .unset, .unset] [])) (fun t k => XS.lstore (g := (mkF m 55 #[.val (.int p0), .val (.int p1), .val (.int v26), .val (.int u28), .val (.ref b29), .val (.long u30), .second, .val (.long u31), .second, .unset, .unset, .unset, .unset, .unset, .unset, .unset, .unset, .unset, .unset, .unset, .unset] [(.long (own_absJ (u30 - ((2 : Int64) * (u28.toInt64)))))])) X32.here hx rfl (hb hby at_55) rfl (l' := #[.val (.int p0), .val (.int p1), .val (.int v26), .val (.int u28), .val (.ref b29), .val (.long u30), .second, .val (.long u31), .second, .val (.long (own_absJ (u30 - ((2 : Int64) * (u28.toInt64))))), .second, .unset, .unset, .unset, .unset, .unset, .unset, .unset, .unset, .unset, .unset]) rfl k) ?_
  generalize hu33 : (own_absJ (u30 - ((2 : Int64) * (u28.toInt64)))) = u33
  refine own_st (T' := T32) (g' := (mkF m 68 #[.val (.int p0), .val (.int p1), .val (.int v26), .val (.int u28), .val (.ref b29), .val (.long u30), .second, .val (.long u31), .second, .val (.long u33), .second, .val (.long ((u30 - u33) / (2 : Int64))), .second, .unset, .unset, .unset, .unset, .unset, .unset, .unset, .unset] [])) (fun t k => XS.lload (g := (mkF m 57 #[.val (.int p0), .val (.int p1), .val (.int v26), .val (.int u28), .val (.ref b29), .val (.long u30), .second, .val (.long u31), .second, .val (.long u33), .second, .unset, .unset, .unset, .unset, .unset, .unset, .unset, .unset, .unset, .unset] [])) X32.here hx rfl (hb hby at_57) rfl (XS.lload (g := (mkF m 59 #[.val (.int p0), .val (.int p1), .val (.int v26), .val (.int u28), .val (.ref b29), .val (.long u30), .second, .val (.long u31), .second, .val (.long u33), .second, .unset, .unset, .unset, .unset, .unset, .unset, .unset, .unset, .unset, .unset] [(.long u30)])) X32.here hx rfl (hb hby at_59) rfl (XS.lsub (g := (mkF m 61 #[.val (.int p0), .val (.int p1), .val (.int v26), .val (.int u28), .val (.ref b29), .val (.long u30), .second, .val (.long u31), .second, .val (.long u33), .second, .unset, .unset, .unset, .unset, .unset, .unset, .unset, .unset, .unset, .unset] [(.long u33), (.long u30)])) X32.here hx rfl (hb hby at_61) rfl (X32.ldc2Long hx hown (mvT hZ (hw _ (List.mem_of_getElem? (i := 35) rfl))) (g := (mkF m 62 #[.val (.int p0), .val (.int p1), .val (.int v26), .val (.int u28), .val (.ref b29), .val (.long u30), .second, .val (.long u31), .second, .val (.long u33), .second, .unset, .unset, .unset, .unset, .unset, .unset, .unset, .unset, .unset, .unset] [(.long (u30 - u33))])) rfl (hb hby at_62) t (XS.ldiv (g := (mkF m 65 #[.val (.int p0), .val (.int p1), .val (.int v26), .val (.int u28), .val (.ref b29), .val (.long u30), .second, .val (.long u31), .second, .val (.long u33), .second, .unset, .unset, .unset, .unset, .unset, .unset, .unset, .unset, .unset, .unset] [(.long (2 : Int64)), (.long (u30 - u33))])) X32.here hx rfl (hb hby at_65) rfl (by decide) (XS.lstore (g := (mkF m 66 #[.val (.int p0), .val (.int p1), .val (.int v26), .val (.int u28), .val (.ref b29), .val (.long u30), .second, .val (.long u31), .second, .val (.long u33), .second, .unset, .unset, .unset, .unset, .unset, .unset, .unset, .unset, .unset, .unset] [(.long ((u30 - u33) / (2 : Int64)))])) X32.here hx rfl (hb hby at_66) rfl (l' := #[.val (.int p0), .val (.int p1), .val (.int v26), .val (.int u28), .val (.ref b29), .val (.long u30), .second, .val (.long u31), .second, .val (.long u33), .second, .val (.long ((u30 - u33) / (2 : Int64))), .second, .unset, .unset, .unset, .unset, .unset, .unset, .unset, .unset]) rfl k)))))) ?_
  generalize hu34 : ((u30 - u33) / (2 : Int64)) = u34
  refine own_st (T' := T32) (g' := (mkF m 76 #[.val (.int p0), .val (.int p1), .val (.int v26), .val (.int u28), .val (.ref b29), .val (.long u30), .second, .val (.long u31), .second, .val (.long u33), .second, .val (.long u34), .second, .val (.long (u34 / (2 : Int64))), .second, .unset, .unset, .unset, .unset, .unset, .unset] [])) (fun t k => XS.lload (g := (mkF m 68 #[.val (.int p0), .val (.int p1), .val (.int v26), .val (.int u28), .val (.ref b29), .val (.long u30), .second, .val (.long u31), .second, .val (.long u33), .second, .val (.long u34), .second, .unset, .unset, .unset, .unset, .unset, .unset, .unset, .unset] [])) X32.here hx rfl (hb hby at_68) rfl (X32.ldc2Long hx hown (mvT hZ (hw _ (List.mem_of_getElem? (i := 35) rfl))) (g := (mkF m 70 #[.val (.int p0), .val (.int p1), .val (.int v26), .val (.int u28), .val (.ref b29), .val (.long u30), .second, .val (.long u31), .second, .val (.long u33), .second, .val (.long u34), .second, .unset, .unset, .unset, .unset, .unset, .unset, .unset, .unset] [(.long u34)])) rfl (hb hby at_70) t (XS.ldiv (g := (mkF m 73 #[.val (.int p0), .val (.int p1), .val (.int v26), .val (.int u28), .val (.ref b29), .val (.long u30), .second, .val (.long u31), .second, .val (.long u33), .second, .val (.long u34), .second, .unset, .unset, .unset, .unset, .unset, .unset, .unset, .unset] [(.long (2 : Int64)), (.long u34)])) X32.here hx rfl (hb hby at_73) rfl (by decide) (XS.lstore (g := (mkF m 74 #[.val (.int p0), .val (.int p1), .val (.int v26), .val (.int u28), .val (.ref b29), .val (.long u30), .second, .val (.long u31), .second, .val (.long u33), .second, .val (.long u34), .second, .unset, .unset, .unset, .unset, .unset, .unset, .unset, .unset] [(.long (u34 / (2 : Int64)))])) X32.here hx rfl (hb hby at_74) rfl (l' := #[.val (.int p0), .val (.int p1), .val (.int v26), .val (.int u28), .val (.ref b29), .val (.long u30), .second, .val (.long u31), .second, .val (.long u33), .second, .val (.long u34), .second, .val (.long (u34 / (2 : Int64))), .second, .unset, .unset, .unset, .unset, .unset, .unset]) rfl k)))) ?_
  generalize hu35 : (u34 / (2 : Int64)) = u35
  refine own_st (T' := T32) (g' := (mkF m 83 #[.val (.int p0), .val (.int p1), .val (.int v26), .val (.int u28), .val (.ref b29), .val (.long u30), .second, .val (.long u31), .second, .val (.long u33), .second, .val (.long u34), .second, .val (.long u35), .second, .val (.long (u34 - u35)), .second, .unset, .unset, .unset, .unset] [])) (fun t k => XS.lload (g := (mkF m 76 #[.val (.int p0), .val (.int p1), .val (.int v26), .val (.int u28), .val (.ref b29), .val (.long u30), .second, .val (.long u31), .second, .val (.long u33), .second, .val (.long u34), .second, .val (.long u35), .second, .unset, .unset, .unset, .unset, .unset, .unset] [])) X32.here hx rfl (hb hby at_76) rfl (XS.lload (g := (mkF m 78 #[.val (.int p0), .val (.int p1), .val (.int v26), .val (.int u28), .val (.ref b29), .val (.long u30), .second, .val (.long u31), .second, .val (.long u33), .second, .val (.long u34), .second, .val (.long u35), .second, .unset, .unset, .unset, .unset, .unset, .unset] [(.long u34)])) X32.here hx rfl (hb hby at_78) rfl (XS.lsub (g := (mkF m 80 #[.val (.int p0), .val (.int p1), .val (.int v26), .val (.int u28), .val (.ref b29), .val (.long u30), .second, .val (.long u31), .second, .val (.long u33), .second, .val (.long u34), .second, .val (.long u35), .second, .unset, .unset, .unset, .unset, .unset, .unset] [(.long u35), (.long u34)])) X32.here hx rfl (hb hby at_80) rfl (XS.lstore (g := (mkF m 81 #[.val (.int p0), .val (.int p1), .val (.int v26), .val (.int u28), .val (.ref b29), .val (.long u30), .second, .val (.long u31), .second, .val (.long u33), .second, .val (.long u34), .second, .val (.long u35), .second, .unset, .unset, .unset, .unset, .unset, .unset] [(.long (u34 - u35))])) X32.here hx rfl (hb hby at_81) rfl (l' := #[.val (.int p0), .val (.int p1), .val (.int v26), .val (.int u28), .val (.ref b29), .val (.long u30), .second, .val (.long u31), .second, .val (.long u33), .second, .val (.long u34), .second, .val (.long u35), .second, .val (.long (u34 - u35)), .second, .unset, .unset, .unset, .unset]) rfl k)))) ?_
  generalize hu36 : (u34 - u35) = u36
  refine own_st (T' := T32) (g' := (mkF m 97 #[.val (.int p0), .val (.int p1), .val (.int v26), .val (.int u28), .val (.ref b29), .val (.long u30), .second, .val (.long u31), .second, .val (.long u33), .second, .val (.long u34), .second, .val (.long u35), .second, .val (.long u36), .second, .val (.long (((2 : Int64) * u34) + (u31 * u33))), .second, .unset, .unset] [])) (fun t k => X32.ldc2Long hx hown (mvT hZ (hw _ (List.mem_of_getElem? (i := 35) rfl))) (g := (mkF m 83 #[.val (.int p0), .val (.int p1), .val (.int v26), .val (.int u28), .val (.ref b29), .val (.long u30), .second, .val (.long u31), .second, .val (.long u33), .second, .val (.long u34), .second, .val (.long u35), .second, .val (.long u36), .second, .unset, .unset, .unset, .unset] [])) rfl (hb hby at_83) t (XS.lload (g := (mkF m 86 #[.val (.int p0), .val (.int p1), .val (.int v26), .val (.int u28), .val (.ref b29), .val (.long u30), .second, .val (.long u31), .second, .val (.long u33), .second, .val (.long u34), .second, .val (.long u35), .second, .val (.long u36), .second, .unset, .unset, .unset, .unset] [(.long (2 : Int64))])) X32.here hx rfl (hb hby at_86) rfl (XS.lmul (g := (mkF m 88 #[.val (.int p0), .val (.int p1), .val (.int v26), .val (.int u28), .val (.ref b29), .val (.long u30), .second, .val (.long u31), .second, .val (.long u33), .second, .val (.long u34), .second, .val (.long u35), .second, .val (.long u36), .second, .unset, .unset, .unset, .unset] [(.long u34), (.long (2 : Int64))])) X32.here hx rfl (hb hby at_88) rfl (XS.lload (g := (mkF m 89 #[.val (.int p0), .val (.int p1), .val (.int v26), .val (.int u28), .val (.ref b29), .val (.long u30), .second, .val (.long u31), .second, .val (.long u33), .second, .val (.long u34), .second, .val (.long u35), .second, .val (.long u36), .second, .unset, .unset, .unset, .unset] [(.long ((2 : Int64) * u34))])) X32.here hx rfl (hb hby at_89) rfl (XS.lload (g := (mkF m 91 #[.val (.int p0), .val (.int p1), .val (.int v26), .val (.int u28), .val (.ref b29), .val (.long u30), .second, .val (.long u31), .second, .val (.long u33), .second, .val (.long u34), .second, .val (.long u35), .second, .val (.long u36), .second, .unset, .unset, .unset, .unset] [(.long u31), (.long ((2 : Int64) * u34))])) X32.here hx rfl (hb hby at_91) rfl (XS.lmul (g := (mkF m 93 #[.val (.int p0), .val (.int p1), .val (.int v26), .val (.int u28), .val (.ref b29), .val (.long u30), .second, .val (.long u31), .second, .val (.long u33), .second, .val (.long u34), .second, .val (.long u35), .second, .val (.long u36), .second, .unset, .unset, .unset, .unset] [(.long u33), (.long u31), (.long ((2 : Int64) * u34))])) X32.here hx rfl (hb hby at_93) rfl (XS.ladd (g := (mkF m 94 #[.val (.int p0), .val (.int p1), .val (.int v26), .val (.int u28), .val (.ref b29), .val (.long u30), .second, .val (.long u31), .second, .val (.long u33), .second, .val (.long u34), .second, .val (.long u35), .second, .val (.long u36), .second, .unset, .unset, .unset, .unset] [(.long (u31 * u33)), (.long ((2 : Int64) * u34))])) X32.here hx rfl (hb hby at_94) rfl (XS.lstore (g := (mkF m 95 #[.val (.int p0), .val (.int p1), .val (.int v26), .val (.int u28), .val (.ref b29), .val (.long u30), .second, .val (.long u31), .second, .val (.long u33), .second, .val (.long u34), .second, .val (.long u35), .second, .val (.long u36), .second, .unset, .unset, .unset, .unset] [(.long (((2 : Int64) * u34) + (u31 * u33)))])) X32.here hx rfl (hb hby at_95) rfl (l' := #[.val (.int p0), .val (.int p1), .val (.int v26), .val (.int u28), .val (.ref b29), .val (.long u30), .second, .val (.long u31), .second, .val (.long u33), .second, .val (.long u34), .second, .val (.long u35), .second, .val (.long u36), .second, .val (.long (((2 : Int64) * u34) + (u31 * u33))), .second, .unset, .unset]) rfl k)))))))) ?_
  generalize hu37 : (((2 : Int64) * u34) + (u31 * u33)) = u37
  refine own_st (T' := T32) (g' := (mkF m 115 #[.val (.int p0), .val (.int p1), .val (.int v26), .val (.int u28), .val (.ref b29), .val (.long u30), .second, .val (.long u31), .second, .val (.long u33), .second, .val (.long u34), .second, .val (.long u35), .second, .val (.long u36), .second, .val (.long u37), .second, .unset, .unset] [(.long (2 : Int64)), (.long ((u31 * u33) + (((2 : Int64) * u36) * u36)))])) (fun t k => XS.lload (g := (mkF m 97 #[.val (.int p0), .val (.int p1), .val (.int v26), .val (.int u28), .val (.ref b29), .val (.long u30), .second, .val (.long u31), .second, .val (.long u33), .second, .val (.long u34), .second, .val (.long u35), .second, .val (.long u36), .second, .val (.long u37), .second, .unset, .unset] [])) X32.here hx rfl (hb hby at_97) rfl (XS.lload (g := (mkF m 99 #[.val (.int p0), .val (.int p1), .val (.int v26), .val (.int u28), .val (.ref b29), .val (.long u30), .second, .val (.long u31), .second, .val (.long u33), .second, .val (.long u34), .second, .val (.long u35), .second, .val (.long u36), .second, .val (.long u37), .second, .unset, .unset] [(.long u31)])) X32.here hx rfl (hb hby at_99) rfl (XS.lmul (g := (mkF m 101 #[.val (.int p0), .val (.int p1), .val (.int v26), .val (.int u28), .val (.ref b29), .val (.long u30), .second, .val (.long u31), .second, .val (.long u33), .second, .val (.long u34), .second, .val (.long u35), .second, .val (.long u36), .second, .val (.long u37), .second, .unset, .unset] [(.long u33), (.long u31)])) X32.here hx rfl (hb hby at_101) rfl (X32.ldc2Long hx hown (mvT hZ (hw _ (List.mem_of_getElem? (i := 35) rfl))) (g := (mkF m 102 #[.val (.int p0), .val (.int p1), .val (.int v26), .val (.int u28), .val (.ref b29), .val (.long u30), .second, .val (.long u31), .second, .val (.long u33), .second, .val (.long u34), .second, .val (.long u35), .second, .val (.long u36), .second, .val (.long u37), .second, .unset, .unset] [(.long (u31 * u33))])) rfl (hb hby at_102) t (XS.lload (g := (mkF m 105 #[.val (.int p0), .val (.int p1), .val (.int v26), .val (.int u28), .val (.ref b29), .val (.long u30), .second, .val (.long u31), .second, .val (.long u33), .second, .val (.long u34), .second, .val (.long u35), .second, .val (.long u36), .second, .val (.long u37), .second, .unset, .unset] [(.long (2 : Int64)), (.long (u31 * u33))])) X32.here hx rfl (hb hby at_105) rfl (XS.lmul (g := (mkF m 107 #[.val (.int p0), .val (.int p1), .val (.int v26), .val (.int u28), .val (.ref b29), .val (.long u30), .second, .val (.long u31), .second, .val (.long u33), .second, .val (.long u34), .second, .val (.long u35), .second, .val (.long u36), .second, .val (.long u37), .second, .unset, .unset] [(.long u36), (.long (2 : Int64)), (.long (u31 * u33))])) X32.here hx rfl (hb hby at_107) rfl (XS.lload (g := (mkF m 108 #[.val (.int p0), .val (.int p1), .val (.int v26), .val (.int u28), .val (.ref b29), .val (.long u30), .second, .val (.long u31), .second, .val (.long u33), .second, .val (.long u34), .second, .val (.long u35), .second, .val (.long u36), .second, .val (.long u37), .second, .unset, .unset] [(.long ((2 : Int64) * u36)), (.long (u31 * u33))])) X32.here hx rfl (hb hby at_108) rfl (XS.lmul (g := (mkF m 110 #[.val (.int p0), .val (.int p1), .val (.int v26), .val (.int u28), .val (.ref b29), .val (.long u30), .second, .val (.long u31), .second, .val (.long u33), .second, .val (.long u34), .second, .val (.long u35), .second, .val (.long u36), .second, .val (.long u37), .second, .unset, .unset] [(.long u36), (.long ((2 : Int64) * u36)), (.long (u31 * u33))])) X32.here hx rfl (hb hby at_110) rfl (XS.ladd (g := (mkF m 111 #[.val (.int p0), .val (.int p1), .val (.int v26), .val (.int u28), .val (.ref b29), .val (.long u30), .second, .val (.long u31), .second, .val (.long u33), .second, .val (.long u34), .second, .val (.long u35), .second, .val (.long u36), .second, .val (.long u37), .second, .unset, .unset] [(.long (((2 : Int64) * u36) * u36)), (.long (u31 * u33))])) X32.here hx rfl (hb hby at_111) rfl (X32.ldc2Long hx hown (mvT hZ (hw _ (List.mem_of_getElem? (i := 35) rfl))) (g := (mkF m 112 #[.val (.int p0), .val (.int p1), .val (.int v26), .val (.int u28), .val (.ref b29), .val (.long u30), .second, .val (.long u31), .second, .val (.long u33), .second, .val (.long u34), .second, .val (.long u35), .second, .val (.long u36), .second, .val (.long u37), .second, .unset, .unset] [(.long ((u31 * u33) + (((2 : Int64) * u36) * u36)))])) rfl (hb hby at_112) t k)))))))))) ?_
  refine own_st (T' := T32) (g' := (mkF m 124 #[.val (.int p0), .val (.int p1), .val (.int v26), .val (.int u28), .val (.ref b29), .val (.long u30), .second, .val (.long u31), .second, .val (.long u33), .second, .val (.long u34), .second, .val (.long u35), .second, .val (.long u36), .second, .val (.long u37), .second, .val (.long (((u31 * u33) + (((2 : Int64) * u36) * u36)) + (((2 : Int64) * u35) * u35))), .second] [])) (fun t k => XS.lload (g := (mkF m 115 #[.val (.int p0), .val (.int p1), .val (.int v26), .val (.int u28), .val (.ref b29), .val (.long u30), .second, .val (.long u31), .second, .val (.long u33), .second, .val (.long u34), .second, .val (.long u35), .second, .val (.long u36), .second, .val (.long u37), .second, .unset, .unset] [(.long (2 : Int64)), (.long ((u31 * u33) + (((2 : Int64) * u36) * u36)))])) X32.here hx rfl (hb hby at_115) rfl (XS.lmul (g := (mkF m 117 #[.val (.int p0), .val (.int p1), .val (.int v26), .val (.int u28), .val (.ref b29), .val (.long u30), .second, .val (.long u31), .second, .val (.long u33), .second, .val (.long u34), .second, .val (.long u35), .second, .val (.long u36), .second, .val (.long u37), .second, .unset, .unset] [(.long u35), (.long (2 : Int64)), (.long ((u31 * u33) + (((2 : Int64) * u36) * u36)))])) X32.here hx rfl (hb hby at_117) rfl (XS.lload (g := (mkF m 118 #[.val (.int p0), .val (.int p1), .val (.int v26), .val (.int u28), .val (.ref b29), .val (.long u30), .second, .val (.long u31), .second, .val (.long u33), .second, .val (.long u34), .second, .val (.long u35), .second, .val (.long u36), .second, .val (.long u37), .second, .unset, .unset] [(.long ((2 : Int64) * u35)), (.long ((u31 * u33) + (((2 : Int64) * u36) * u36)))])) X32.here hx rfl (hb hby at_118) rfl (XS.lmul (g := (mkF m 120 #[.val (.int p0), .val (.int p1), .val (.int v26), .val (.int u28), .val (.ref b29), .val (.long u30), .second, .val (.long u31), .second, .val (.long u33), .second, .val (.long u34), .second, .val (.long u35), .second, .val (.long u36), .second, .val (.long u37), .second, .unset, .unset] [(.long u35), (.long ((2 : Int64) * u35)), (.long ((u31 * u33) + (((2 : Int64) * u36) * u36)))])) X32.here hx rfl (hb hby at_120) rfl (XS.ladd (g := (mkF m 121 #[.val (.int p0), .val (.int p1), .val (.int v26), .val (.int u28), .val (.ref b29), .val (.long u30), .second, .val (.long u31), .second, .val (.long u33), .second, .val (.long u34), .second, .val (.long u35), .second, .val (.long u36), .second, .val (.long u37), .second, .unset, .unset] [(.long (((2 : Int64) * u35) * u35)), (.long ((u31 * u33) + (((2 : Int64) * u36) * u36)))])) X32.here hx rfl (hb hby at_121) rfl (XS.lstore (g := (mkF m 122 #[.val (.int p0), .val (.int p1), .val (.int v26), .val (.int u28), .val (.ref b29), .val (.long u30), .second, .val (.long u31), .second, .val (.long u33), .second, .val (.long u34), .second, .val (.long u35), .second, .val (.long u36), .second, .val (.long u37), .second, .unset, .unset] [(.long (((u31 * u33) + (((2 : Int64) * u36) * u36)) + (((2 : Int64) * u35) * u35)))])) X32.here hx rfl (hb hby at_122) rfl (l' := #[.val (.int p0), .val (.int p1), .val (.int v26), .val (.int u28), .val (.ref b29), .val (.long u30), .second, .val (.long u31), .second, .val (.long u33), .second, .val (.long u34), .second, .val (.long u35), .second, .val (.long u36), .second, .val (.long u37), .second, .val (.long (((u31 * u33) + (((2 : Int64) * u36) * u36)) + (((2 : Int64) * u35) * u35))), .second]) rfl k)))))) ?_
  generalize hu38 : (((u31 * u33) + (((2 : Int64) * u36) * u36)) + (((2 : Int64) * u35) * u35)) = u38
  refine own_st (T' := T32) (g' := (mkF m 126 #[.val (.int p0), .val (.int p1), .val (.int v26), .val (.int u28), .val (.ref b29), .val (.long u30), .second, .val (.long u31), .second, .val (.long u33), .second, .val (.long u34), .second, .val (.long u35), .second, .val (.long u36), .second, .val (.long u37), .second, .val (.long u38), .second] [(.ref b29)])) (fun t k => XS.aload (g := (mkF m 124 #[.val (.int p0), .val (.int p1), .val (.int v26), .val (.int u28), .val (.ref b29), .val (.long u30), .second, .val (.long u31), .second, .val (.long u33), .second, .val (.long u34), .second, .val (.long u35), .second, .val (.long u36), .second, .val (.long u37), .second, .val (.long u38), .second] [])) X32.here hx rfl (hb hby at_124) rfl rfl k) ?_
  refine own_callV X32 hx hZ (y := (⟨"com/example/coverweave/coverweave/Dissimilarity$Range", "min", "()J"⟩ : MethodName)) (z := (⟨"com/example/coverweave/coverweave/Dissimilarity$Range", "min", "()J"⟩ : MethodName)) (argsL := []) (a := b29) hown (hw _ (List.mem_of_getElem? (i := 39) rfl)) (hw _ (List.mem_of_getElem? (i := 40) rfl)) (notFace_of_selects (args := #[]) (mvT hZ (hw _ (List.mem_of_getElem? (i := 42) rfl)))) (hw _ (List.mem_of_getElem? (i := 42) rfl)) (hw _ (List.mem_of_getElem? (i := 41) rfl)) (hw _ (List.mem_of_getElem? (i := 19) rfl)) (hw _ (List.mem_of_getElem? (i := 43) rfl)) (by decide) e32 E29 (own_rm9 l Z a0 hw b29 (own_bmin v26 u28) h29 n0 (Nat.le_trans Z0 K29.1) F29a) (W := 0) (by decide) (by decide) (by decide) (by decide) pd7 rfl (g := (mkF m 126 #[.val (.int p0), .val (.int p1), .val (.int v26), .val (.int u28), .val (.ref b29), .val (.long u30), .second, .val (.long u31), .second, .val (.long u33), .second, .val (.long u34), .second, .val (.long u35), .second, .val (.long u36), .second, .val (.long u37), .second, .val (.long u38), .second] [(.ref b29)])) rfl (by rw [hml]; rfl) (rest := []) rfl (by show 2 * 0 + _ ≤ _; exact Nat.le_of_eq rfl) (hb hby at_126) (fun v39 T39 L39 X39 q39 => ?_)
  obtain ⟨rfl, N39q, e39⟩ := q39
  have N39 := Fr.app N32 N39q
  replace e39 := e39
  show own_Go _ _ _ _ _ _ _ T39 (mkF m 129 #[.val (.int p0), .val (.int p1), .val (.int v26), .val (.int u28), .val (.ref b29), .val (.long u30), .second, .val (.long u31), .second, .val (.long u33), .second, .val (.long u34), .second, .val (.long u35), .second, .val (.long u36), .second, .val (.long u37), .second, .val (.long u38), .second] [(.long (own_bmin v26 u28))])
  refine own_st (T' := T39) (g' := (mkF m 132 #[.val (.int p0), .val (.int p1), .val (.int v26), .val (.int u28), .val (.ref b29), .val (.long u30), .second, .val (.long u31), .second, .val (.long u33), .second, .val (.long u34), .second, .val (.long u35), .second, .val (.long u36), .second, .val (.long u37), .second, .val (.long u38), .second] [(.int (lcmpW (own_bmin v26 u28) u37))])) (fun t k => XS.lload (g := (mkF m 129 #[.val (.int p0), .val (.int p1), .val (.int v26), .val (.int u28), .val (.ref b29), .val (.long u30), .second, .val (.long u31), .second, .val (.long u33), .second, .val (.long u34), .second, .val (.long u35), .second, .val (.long u36), .second, .val (.long u37), .second, .val (.long u38), .second] [(.long (own_bmin v26 u28))])) X39.here hx rfl (hb hby at_129) rfl (XS.lcmp (g := (mkF m 131 #[.val (.int p0), .val (.int p1), .val (.int v26), .val (.int u28), .val (.ref b29), .val (.long u30), .second, .val (.long u31), .second, .val (.long u33), .second, .val (.long u34), .second, .val (.long u35), .second, .val (.long u36), .second, .val (.long u37), .second, .val (.long u38), .second] [(.long u37), (.long (own_bmin v26 u28))])) X39.here hx rfl (hb hby at_131) rfl k)) ?_
  have hb40 : (own_bmin v26 u28) = u37 := by exact own_finmin hL hW0 hW1 hu30 hu31 hu33 hu34 hu37
  refine own_st (T' := T39) (g' := (mkF m 137 #[.val (.int p0), .val (.int p1), .val (.int v26), .val (.int u28), .val (.ref b29), .val (.long u30), .second, .val (.long u31), .second, .val (.long u33), .second, .val (.long u34), .second, .val (.long u35), .second, .val (.long u36), .second, .val (.long u37), .second, .val (.long u38), .second] [(.ref b29)])) (fun t k => XS.ifNo (g := (mkF m 132 #[.val (.int p0), .val (.int p1), .val (.int v26), .val (.int u28), .val (.ref b29), .val (.long u30), .second, .val (.long u31), .second, .val (.long u33), .second, .val (.long u34), .second, .val (.long u35), .second, .val (.long u36), .second, .val (.long u37), .second, .val (.long u38), .second] [(.int (lcmpW (own_bmin v26 u28) u37))])) X39.here hx rfl (hb hby at_132) rfl ((if0 _ _).trans (teq ((lw_eq _ _).mpr hb40)).2) (XS.aload (g := (mkF m 135 #[.val (.int p0), .val (.int p1), .val (.int v26), .val (.int u28), .val (.ref b29), .val (.long u30), .second, .val (.long u31), .second, .val (.long u33), .second, .val (.long u34), .second, .val (.long u35), .second, .val (.long u36), .second, .val (.long u37), .second, .val (.long u38), .second] [])) X39.here hx rfl (hb hby at_135) rfl rfl k)) ?_
  refine own_callV X39 hx hZ (y := (⟨"com/example/coverweave/coverweave/Dissimilarity$Range", "max", "()J"⟩ : MethodName)) (z := (⟨"com/example/coverweave/coverweave/Dissimilarity$Range", "max", "()J"⟩ : MethodName)) (argsL := []) (a := b29) hown (hw _ (List.mem_of_getElem? (i := 44) rfl)) (hw _ (List.mem_of_getElem? (i := 45) rfl)) (notFace_of_selects (args := #[]) (mvT hZ (hw _ (List.mem_of_getElem? (i := 47) rfl)))) (hw _ (List.mem_of_getElem? (i := 47) rfl)) (hw _ (List.mem_of_getElem? (i := 46) rfl)) (hw _ (List.mem_of_getElem? (i := 19) rfl)) (hw _ (List.mem_of_getElem? (i := 48) rfl)) (by decide) e39 E29 (own_rm10 l Z a0 hw b29 (own_bmax v26 u28) h29 n0 (Nat.le_trans Z0 K29.1) F29b) (W := 0) (by decide) (by decide) (by decide) (by decide) pd7 rfl (g := (mkF m 137 #[.val (.int p0), .val (.int p1), .val (.int v26), .val (.int u28), .val (.ref b29), .val (.long u30), .second, .val (.long u31), .second, .val (.long u33), .second, .val (.long u34), .second, .val (.long u35), .second, .val (.long u36), .second, .val (.long u37), .second, .val (.long u38), .second] [(.ref b29)])) rfl (by rw [hml]; rfl) (rest := []) rfl (by show 2 * 0 + _ ≤ _; exact Nat.le_of_eq rfl) (hb hby at_137) (fun v41 T41 L41 X41 q41 => ?_)
  obtain ⟨rfl, N41q, e41⟩ := q41
  have N41 := Fr.app N39 N41q
  replace e41 := e41
  show own_Go _ _ _ _ _ _ _ T41 (mkF m 140 #[.val (.int p0), .val (.int p1), .val (.int v26), .val (.int u28), .val (.ref b29), .val (.long u30), .second, .val (.long u31), .second, .val (.long u33), .second, .val (.long u34), .second, .val (.long u35), .second, .val (.long u36), .second, .val (.long u37), .second, .val (.long u38), .second] [(.long (own_bmax v26 u28))])
  refine own_st (T' := T41) (g' := (mkF m 143 #[.val (.int p0), .val (.int p1), .val (.int v26), .val (.int u28), .val (.ref b29), .val (.long u30), .second, .val (.long u31), .second, .val (.long u33), .second, .val (.long u34), .second, .val (.long u35), .second, .val (.long u36), .second, .val (.long u37), .second, .val (.long u38), .second] [(.int (lcmpW (own_bmax v26 u28) u38))])) (fun t k => XS.lload (g := (mkF m 140 #[.val (.int p0), .val (.int p1), .val (.int v26), .val (.int u28), .val (.ref b29), .val (.long u30), .second, .val (.long u31), .second, .val (.long u33), .second, .val (.long u34), .second, .val (.long u35), .second, .val (.long u36), .second, .val (.long u37), .second, .val (.long u38), .second] [(.long (own_bmax v26 u28))])) X41.here hx rfl (hb hby at_140) rfl (XS.lcmp (g := (mkF m 142 #[.val (.int p0), .val (.int p1), .val (.int v26), .val (.int u28), .val (.ref b29), .val (.long u30), .second, .val (.long u31), .second, .val (.long u33), .second, .val (.long u34), .second, .val (.long u35), .second, .val (.long u36), .second, .val (.long u37), .second, .val (.long u38), .second] [(.long u38), (.long (own_bmax v26 u28))])) X41.here hx rfl (hb hby at_142) rfl k)) ?_
  have hb42 : (own_bmax v26 u28) = u38 := by exact own_finmax hL hW0 hW1 hu30 hu31 hu33 hu34 hu35 hu36 hu38
  refine own_st (T' := T41) (g' := (mkF m 151 #[.val (.int p0), .val (.int p1), .val (.int v26), .val (.int u28), .val (.ref b29), .val (.long u30), .second, .val (.long u31), .second, .val (.long u33), .second, .val (.long u34), .second, .val (.long u35), .second, .val (.long u36), .second, .val (.long u37), .second, .val (.long u38), .second] [(.int (1 : Int32))])) (fun t k => XS.ifNo (g := (mkF m 143 #[.val (.int p0), .val (.int p1), .val (.int v26), .val (.int u28), .val (.ref b29), .val (.long u30), .second, .val (.long u31), .second, .val (.long u33), .second, .val (.long u34), .second, .val (.long u35), .second, .val (.long u36), .second, .val (.long u37), .second, .val (.long u38), .second] [(.int (lcmpW (own_bmax v26 u28) u38))])) X41.here hx rfl (hb hby at_143) rfl ((if0 _ _).trans (teq ((lw_eq _ _).mpr hb42)).2) (XS.iconst (g := (mkF m 146 #[.val (.int p0), .val (.int p1), .val (.int v26), .val (.int u28), .val (.ref b29), .val (.long u30), .second, .val (.long u31), .second, .val (.long u33), .second, .val (.long u34), .second, .val (.long u35), .second, .val (.long u36), .second, .val (.long u37), .second, .val (.long u38), .second] [])) X41.here hx rfl (hb hby at_146) (XS.goto (g := (mkF m 147 #[.val (.int p0), .val (.int p1), .val (.int v26), .val (.int u28), .val (.ref b29), .val (.long u30), .second, .val (.long u31), .second, .val (.long u33), .second, .val (.long u34), .second, .val (.long u35), .second, .val (.long u36), .second, .val (.long u37), .second, .val (.long u38), .second] [(.int (1 : Int32))])) X41.here hx rfl (pc0 := 147) (pc' := 151) rfl (hb hby at_147) (by decide) (by decide) k))) ?_
  refine own_retI X41 hx hlk hret (by simp) rfl (hb hby at_151) ?_ (by decide) (by decide)
  exact ⟨rfl, N41⟩
set_option maxRecDepth 65536 in
set_option maxHeartbeats 40000000 in
theorem own_comes {Post : Tables → Env → Array Value → State → Outcome → State → Prop} (hpost : ∀ tb e args s v u, (limb_1_1.after args s (.returned v) u = true ∧ limb_1_2.after args s (.returned v) u = true ∧ True) → FrameEnd s (.returned v) u (Jvm.fieldLocs frame_1_writes args s ++ Jvm.arrayLocs frame_1_arrays args s ++ Jvm.staticLocs frame_1_statics s) 16 128 → Post tb e args s (.returned v) u) :
    ArmFor flags0 classFile x code maxLocals ret World_1 tables_1 room_1 Calls_1 rest_1 Pre_1 Post := by
  intro l hfl _ _ p e ha hc hk s m args below hf hA hF happ hP
  obtain ⟨hcalls, hrest, hpre⟩ := hP
  obtain ⟨-, -, -, hnamed, -, -, -, hat⟩ := (Spec.applies_iff hf).mp happ
  obtain ⟨hg, hn⟩ := and_e (Cond.before_iff.mp (show (Jvm.Cond.and given_1 narrow_1).before args s = true from hpre))
  obtain ⟨g0, r0⟩ := and_e hg
  obtain ⟨k0, r1⟩ := and_e r0
  obtain ⟨w0, w1, rfl⟩ : ∃ w0 w1 : Value, args = #[w0, w1] := by
    have hs : args.size = 2 := by simpa [Cond.value, given_1] using g0
    obtain ⟨L⟩ := args
    match L, hs with
    | [w0, w1], _ => exact ⟨w0, w1, rfl⟩
  have hw := fun d (hd : d ∈ tables_1) => atoms_spec (ws := Jvm.Cond.code x code maxLocals ret :: tables_1) hat d (List.mem_cons_of_mem _ hd)
  have hfit : Fit s := fun {y c} hc i hi => by
    obtain ⟨ha, rfl⟩ := Array.getElem?_eq_some_iff.mp hc
    have q := List.all_eq_true.mp ((Array.all_eq_true_iff_forall_mem.mp hF) _ (Array.getElem_mem ha)) i (List.mem_range.mpr hi)
    simpa [Array.getElem?_eq_getElem hi] using q
  obtain ⟨p0, i0⟩ := is_v k0
  obtain rfl : w0 = (.int p0) := Option.some.inj i0
  obtain ⟨p1, i1⟩ := is_v r1
  obtain rfl : w1 = (.int p1) := Option.some.inj i1
  obtain ⟨n, o, h1, h2, h3, _, L, rfl, ⟨rfl, N⟩, hq⟩ := own_rm0 l s _ hw p0 p1  s.heap s.heap.size (Nat.le_refl _)  tables_1 p e ha hc hk s m _ below hf ((Spec.applies_iff_loose hf).mp happ).1 ⟨rfl, State.Warmed39.refl s, rfl⟩ trivial
  refine ⟨n, _, h1, h2, h3, hpost _ _ _ _ _ _ ⟨Cond.after_iff.mpr rfl, Cond.after_iff.mpr (eq_i res_at (Term.int_eval (1)) rfl), trivial⟩ ⟨hq.1, hq.2.1, (hq.2.2.sift fun y hy => Or.inr (N y hy)).mono (by decide) (by decide)⟩⟩
theorem main_1_1 : Claimed_1_1 := own_comes fun _ _ _ _ _ _ h hF => ⟨h.1, hF⟩
theorem main_1_2 : Claimed_1_2 := own_comes fun _ _ _ _ _ _ h hF => ⟨h.2.1, hF⟩
end Jvm.Pilot.@@N@@
namespace Jvm.Pilot.@@N@@
open Jvm Jvm.ClassFile Sem Op Lib Jvm.Free Jvm.Stand Jvm.Pilot.@@N@@.Jvm.D
/-! MADE BY PROGRAM (witnessworld.py) out of the Statement's table words and the real class files: 10 classes; the members and pool entries that the words name. The judged class is class 1, her method 1. -/
namespace start1
open Jvm.ClassFile
def u (s : String) : CpInfo := .utf8 (stringToUtf16 s)
/-- a pool by its gaps: so many unusable entries, then the entry; so many at the end -/
def gap : Nat → List CpInfo → List CpInfo
  | 0, r => r
  | n + 1, r => .unusable :: gap n r
def poolList (es : List (Nat × CpInfo)) (last : Nat) : List CpInfo := es.foldr (fun e r => gap e.1 (e.2 :: r)) (gap last [])
def pool (es : List (Nat × CpInfo)) (last : Nat) : Array CpInfo := ⟨poolList es last⟩
def fileOf (pool : Array CpInfo) (this : Nat) (attrs : Array Attribute := #[]) (ms : Array MethodInfo := #[]) (fl : Nat := 33) (sup : Nat := 0) (ifs : Array Nat := #[]) (fds : Array FieldInfo := #[]) : ClassFile where
  minorVersion := 0
  majorVersion := 65
  constantPool := pool
  accessFlags := fl
  thisClass := this
  superClass := sup
  interfaces := ifs
  fields := fds
  methods := ms
  attributes := attrs
def plain (name : String) (sup : Option ClassId) : Class where
  name := name
  kind := .ordinary
  loader := none
  accessFlags := 33
  super := sup
  interfaces := #[]
  cf := none
  fields := #[]
  methods := #[]
  instanceTypes := #[]
  staticTypes := #[]
  resolved := #[]
  callSites := []
  init := .initialized
  statics := none
  mirror := none

def pool0 : Array CpInfo := pool [(5, u "<init>"), (0, u "()V"), (1, .class_ 10), (1, u "java/lang/Object")] 113

def k0c0 : Code := { maxStack := 0, maxLocals := 1, code := object_method_1_code, exceptionTable := #[], attributes := #[] }
def k0m0 : Method := { name := "<init>", desc := "()V", sig := { parameters := [], returnType := none }, accessFlags := 1, code := some k0c0 }
/-- java/lang/Object -/
def k0 : Class := { plain "java/lang/Object" none with
  accessFlags := 33
  interfaces := #[]
  cf := some (fileOf pool0 8 #[] #[{ accessFlags := 1, nameIndex := 5, descriptorIndex := 6, attributes := #[] }] 33 0 #[] #[])
  fields := #[]
  methods := #[k0m0]
  instanceTypes := #[]
  staticTypes := #[]
  resolved := Array.replicate 124 none
  statics := none }

def pool1 : Array CpInfo := pool [(2, .class_ 4), (1, u "java/lang/Object"), (0, u "<init>"), (0, u "()V"), (0, .integer 2147483647), (0, .long 4294967295), (1, .methodref 11 12), (0, .class_ 13), (0, .nameAndType 14 15), (0, u "com/example/coverweave/coverweave/Dissimilarity"), (0, u "inverseBounds"), (0, u "(II)Lcom/example/coverweave/coverweave/Dissimilarity$Range;"), (0, .long 2), (1, .methodref 19 20), (0, .class_ 21), (0, .nameAndType 22 23), (0, u "java/lang/Math"), (0, u "abs"), (0, u "(J)J"), (0, .methodref 25 26), (0, .class_ 27), (0, .nameAndType 28 29), (0, u "com/example/coverweave/coverweave/Dissimilarity$Range"), (0, u "min"), (0, u "()J"), (0, .methodref 25 31), (0, .nameAndType 32 29), (0, u "max"), (0, .class_ 34), (0, u "com/example/coverweave/coverweave/DissimilarityInverseBoundsPinLaw"), (2, u "law"), (0, u "(II)Z")] 8

def k1m0 : Method := { name := "<init>", desc := "()V", sig := { parameters := [], returnType := none }, accessFlags := 2, code := none }
def k1c1 : Code := { maxStack := 6, maxLocals := 21, code := code, exceptionTable := #[], attributes := #[] }
def k1m1 : Method := { name := "law", desc := "(II)Z", sig := { parameters := [.int, .int], returnType := some .boolean }, accessFlags := 9, code := some k1c1 }
/-- com/example/coverweave/coverweave/DissimilarityInverseBoundsPinLaw -/
def k1 : Class := { plain "com/example/coverweave/coverweave/DissimilarityInverseBoundsPinLaw" (some 0) with
  accessFlags := 49
  interfaces := #[]
  cf := some (fileOf pool1 33 #[] #[{ accessFlags := 2, nameIndex := 5, descriptorIndex := 6, attributes := #[] }, { accessFlags := 9, nameIndex := 37, descriptorIndex := 38, attributes := #[] }] 49 2 #[] #[])
  fields := #[]
  methods := #[k1m0, k1m1]
  instanceTypes := #[]
  staticTypes := #[]
  resolved := Array.replicate 47 none
  statics := none }

def pool2 : Array CpInfo := pool [(2, .class_ 4), (1, u "java/lang/Object"), (0, u "<init>"), (0, u "()V"), (3, .class_ 12), (1, u "com/example/coverweave/coverweave/Dissimilarity"), (34, .class_ 49), (1, u "java/lang/Math"), (2, .methodref 10 53), (0, .nameAndType 54 55), (0, u "checkLength"), (0, u "(I)V"), (0, .methodref 10 57), (0, .nameAndType 58 59), (0, u "checkWeight"), (0, u "(II)V"), (0, .methodref 47 61), (0, .nameAndType 62 63), (0, u "min"), (0, u "(II)I"), (3, .long 2), (5, .class_ 74), (0, u "com/example/coverweave/coverweave/Dissimilarity$Range"), (0, .methodref 73 76), (0, .nameAndType 5 77), (0, u "(JJ)V"), (41, u "inverseBounds"), (0, u "(II)Lcom/example/coverweave/coverweave/Dissimilarity$Range;")] 27

def k2m0 : Method := { name := "<init>", desc := "()V", sig := { parameters := [], returnType := none }, accessFlags := 2, code := none }
def k2c1 : Code := { maxStack := 14, maxLocals := 6, code := prog_15_method_4_code, exceptionTable := #[], attributes := #[] }
def k2m1 : Method := { name := "inverseBounds", desc := "(II)Lcom/example/coverweave/coverweave/Dissimilarity$Range;", sig := { parameters := [.int, .int], returnType := some (.object "com/example/coverweave/coverweave/Dissimilarity$Range") }, accessFlags := 9, code := some k2c1 }
def k2c2 : Code := { maxStack := 5, maxLocals := 1, code := prog_15_method_6_code, exceptionTable := #[], attributes := #[] }
def k2m2 : Method := { name := "checkLength", desc := "(I)V", sig := { parameters := [.int], returnType := none }, accessFlags := 10, code := some k2c2 }
def k2c3 : Code := { maxStack := 6, maxLocals := 2, code := prog_15_method_7_code, exceptionTable := #[], attributes := #[] }
def k2m3 : Method := { name := "checkWeight", desc := "(II)V", sig := { parameters := [.int, .int], returnType := none }, accessFlags := 10, code := some k2c3 }
/-- com/example/coverweave/coverweave/Dissimilarity -/
def k2 : Class := { plain "com/example/coverweave/coverweave/Dissimilarity" (some 0) with
  accessFlags := 49
  interfaces := #[]
  cf := some (fileOf pool2 10 #[.nestMembers #[73]] #[{ accessFlags := 2, nameIndex := 5, descriptorIndex := 6, attributes := #[] }, { accessFlags := 9, nameIndex := 119, descriptorIndex := 120, attributes := #[] }, { accessFlags := 10, nameIndex := 54, descriptorIndex := 55, attributes := #[] }, { accessFlags := 10, nameIndex := 58, descriptorIndex := 59, attributes := #[] }] 49 2 #[] #[])
  fields := #[]
  methods := #[k2m0, k2m1, k2m2, k2m3]
  instanceTypes := #[]
  staticTypes := #[]
  resolved := Array.replicate 148 none
  statics := none }

def pool3 : Array CpInfo := pool [(1, .class_ 2), (0, u "java/lang/Math"), (1, .class_ 6), (1, u "java/lang/Object"), (0, u "<init>"), (0, u "()V"), (89, .class_ 100), (1, u "java/lang/Math$RandomNumberGeneratorHolder"), (23, u "abs"), (0, u "(J)J"), (46, u "negativeZeroFloatBits"), (0, u "J"), (2, u "negativeZeroDoubleBits"), (24, u "min"), (43, u "$assertionsDisabled"), (0, u "Z"), (88, u "(II)I"), (2, u "twoToTheDoubleScaleDown"), (0, u "D"), (4, u "twoToTheDoubleScaleUp"), (9, u "E"), (3, u "PI"), (2, u "TAU"), (2, u "DEGREES_TO_RADIANS"), (0, u "RADIANS_TO_DEGREES")] 94

def k3m0 : Method := { name := "<init>", desc := "()V", sig := { parameters := [], returnType := none }, accessFlags := 2, code := none }
def k3c1 : Code := { maxStack := 4, maxLocals := 2, code := jdk_29_method_61_code, exceptionTable := #[], attributes := #[] }
def k3m1 : Method := { name := "abs", desc := "(J)J", sig := { parameters := [.long], returnType := some .long }, accessFlags := 9, code := some k3c1 }
def k3c2 : Code := { maxStack := 2, maxLocals := 2, code := jdk_29_method_69_code, exceptionTable := #[], attributes := #[] }
def k3m2 : Method := { name := "min", desc := "(II)I", sig := { parameters := [.int, .int], returnType := some .int }, accessFlags := 9, code := some k3c2 }
/-- java/lang/Math -/
def k3 : Class := { plain "java/lang/Math" (some 0) with
  accessFlags := 49
  interfaces := #[]
  cf := some (fileOf pool3 1 #[.nestMembers #[98]] #[{ accessFlags := 2, nameIndex := 7, descriptorIndex := 8, attributes := #[] }, { accessFlags := 9, nameIndex := 124, descriptorIndex := 125, attributes := #[] }, { accessFlags := 9, nameIndex := 201, descriptorIndex := 335, attributes := #[] }] 49 4 #[] #[{ accessFlags := 25, nameIndex := 354, descriptorIndex := 339, attributes := #[] }, { accessFlags := 25, nameIndex := 358, descriptorIndex := 339, attributes := #[] }, { accessFlags := 25, nameIndex := 361, descriptorIndex := 339, attributes := #[] }, { accessFlags := 26, nameIndex := 364, descriptorIndex := 339, attributes := #[] }, { accessFlags := 26, nameIndex := 365, descriptorIndex := 339, attributes := #[] }, { accessFlags := 26, nameIndex := 172, descriptorIndex := 173, attributes := #[] }, { accessFlags := 26, nameIndex := 176, descriptorIndex := 173, attributes := #[] }, { accessFlags := 8, nameIndex := 344, descriptorIndex := 339, attributes := #[] }, { accessFlags := 8, nameIndex := 338, descriptorIndex := 339, attributes := #[] }, { accessFlags := 4120, nameIndex := 245, descriptorIndex := 246, attributes := #[] }])
  fields := #[{ name := "E", type := .double, accessFlags := 25, slot := 0, constantValue := 0 }, { name := "PI", type := .double, accessFlags := 25, slot := 1, constantValue := 0 }, { name := "TAU", type := .double, accessFlags := 25, slot := 2, constantValue := 0 }, { name := "DEGREES_TO_RADIANS", type := .double, accessFlags := 26, slot := 3, constantValue := 0 }, { name := "RADIANS_TO_DEGREES", type := .double, accessFlags := 26, slot := 4, constantValue := 0 }, { name := "negativeZeroFloatBits", type := .long, accessFlags := 26, slot := 5, constantValue := 0 }, { name := "negativeZeroDoubleBits", type := .long, accessFlags := 26, slot := 6, constantValue := 0 }, { name := "twoToTheDoubleScaleUp", type := .double, accessFlags := 8, slot := 7, constantValue := 0 }, { name := "twoToTheDoubleScaleDown", type := .double, accessFlags := 8, slot := 8, constantValue := 0 }, { name := "$assertionsDisabled", type := .boolean, accessFlags := 4120, slot := 9, constantValue := 0 }]
  methods := #[k3m0, k3m1, k3m2]
  instanceTypes := #[]
  staticTypes := #[.double, .double, .double, .double, .double, .long, .long, .double, .double, .boolean]
  resolved := Array.replicate 460 none
  statics := none }

def pool4 : Array CpInfo := pool [(1, .methodref 2 3), (0, .class_ 4), (0, .nameAndType 5 6), (0, u "java/lang/Object"), (0, u "<init>"), (0, u "()V"), (0, .class_ 8), (0, u "java/lang/Record")] 13

def k4c0 : Code := { maxStack := 1, maxLocals := 1, code := jdk_30_method_1_code, exceptionTable := #[], attributes := #[] }
def k4m0 : Method := { name := "<init>", desc := "()V", sig := { parameters := [], returnType := none }, accessFlags := 4, code := some k4c0 }
/-- java/lang/Record -/
def k4 : Class := { plain "java/lang/Record" (some 0) with
  accessFlags := 1057
  interfaces := #[]
  cf := some (fileOf pool4 7 #[] #[{ accessFlags := 4, nameIndex := 5, descriptorIndex := 6, attributes := #[] }] 1057 2 #[] #[])
  fields := #[]
  methods := #[k4m0]
  instanceTypes := #[]
  staticTypes := #[]
  resolved := Array.replicate 22 none
  statics := none }

def pool5 : Array CpInfo := pool [(1, .methodref 2 3), (0, .class_ 4), (0, .nameAndType 5 6), (0, u "java/lang/Record"), (0, u "<init>"), (0, u "()V"), (0, .fieldref 8 9), (0, .class_ 10), (0, .nameAndType 11 12), (0, u "com/example/coverweave/coverweave/Dissimilarity$Range"), (0, u "min"), (0, u "J"), (0, .fieldref 8 14), (0, .nameAndType 15 12), (0, u "max"), (30, u "(JJ)V"), (11, u "()J"), (3, .class_ 63), (0, u "com/example/coverweave/coverweave/Dissimilarity")] 20

def k5c0 : Code := { maxStack := 3, maxLocals := 5, code := prog_16_method_1_code, exceptionTable := #[], attributes := #[] }
def k5m0 : Method := { name := "<init>", desc := "(JJ)V", sig := { parameters := [.long, .long], returnType := none }, accessFlags := 1, code := some k5c0 }
def k5c1 : Code := { maxStack := 2, maxLocals := 1, code := prog_16_method_6_code, exceptionTable := #[], attributes := #[] }
def k5m1 : Method := { name := "min", desc := "()J", sig := { parameters := [], returnType := some .long }, accessFlags := 1, code := some k5c1 }
def k5c2 : Code := { maxStack := 2, maxLocals := 1, code := prog_16_method_7_code, exceptionTable := #[], attributes := #[] }
def k5m2 : Method := { name := "max", desc := "()J", sig := { parameters := [], returnType := some .long }, accessFlags := 1, code := some k5c2 }
/-- com/example/coverweave/coverweave/Dissimilarity$Range -/
def k5 : Class := { plain "com/example/coverweave/coverweave/Dissimilarity$Range" (some 4) with
  accessFlags := 49
  interfaces := #[]
  cf := some (fileOf pool5 8 #[.nestHost 62] #[{ accessFlags := 1, nameIndex := 5, descriptorIndex := 46, attributes := #[] }, { accessFlags := 1, nameIndex := 11, descriptorIndex := 58, attributes := #[] }, { accessFlags := 1, nameIndex := 15, descriptorIndex := 58, attributes := #[] }] 49 2 #[] #[{ accessFlags := 18, nameIndex := 11, descriptorIndex := 12, attributes := #[] }, { accessFlags := 18, nameIndex := 15, descriptorIndex := 12, attributes := #[] }])
  fields := #[{ name := "min", type := .long, accessFlags := 18, slot := 0, constantValue := 0 }, { name := "max", type := .long, accessFlags := 18, slot := 1, constantValue := 0 }]
  methods := #[k5m0, k5m1, k5m2]
  instanceTypes := #[.long, .long]
  staticTypes := #[]
  resolved := Array.replicate 84 none
  statics := none }

def pool6 : Array CpInfo := pool [(1, u "java/lang/Cloneable"), (0, .class_ 1), (0, u "java/lang/Object"), (0, .class_ 3)] 3

/-- java/lang/Cloneable -/
def k6 : Class := { plain "java/lang/Cloneable" (some 0) with
  accessFlags := 1537
  interfaces := #[]
  cf := some (fileOf pool6 2 #[] #[] 1537 4 #[] #[])
  fields := #[]
  methods := #[]
  instanceTypes := #[]
  staticTypes := #[]
  resolved := Array.replicate 8 none
  statics := none }

def pool7 : Array CpInfo := pool [(1, u "java/io/Serializable"), (0, .class_ 1), (0, u "java/lang/Object"), (0, .class_ 3)] 3

/-- java/io/Serializable -/
def k7 : Class := { plain "java/io/Serializable" (some 0) with
  accessFlags := 1537
  interfaces := #[]
  cf := some (fileOf pool7 2 #[] #[] 1537 4 #[] #[])
  fields := #[]
  methods := #[]
  instanceTypes := #[]
  staticTypes := #[]
  resolved := Array.replicate 8 none
  statics := none }

/-- the primitive byte -/
def k8 : Class := { plain "byte" none with kind := .primitive 'B', accessFlags := 0x411 }
/-- [B -/
def k9 : Class := { plain "[B" (some 0) with kind := .array 8 .byte, interfaces := #[6, 7], accessFlags := 1041 }

def heap : Heap := #[]
def classes : Array Class := #[k0, k1, k2, k3, k4, k5, k6, k7, k8, k9]
def interned : List (Array UInt16 × Addr) := []
def slotsUsed : Nat := 0
def theMethod : MethodId := ⟨1, 1⟩
def args0 : Array Value := #[.int 5, .int 3]
def aboutOver (below : List Frame) : State where
  vm := { classes := classes, interned := interned.toArray }
  heap := heap
  slotsUsed := slotsUsed
  threads := #[{ frames := .invoking theMethod args0 :: below }]
def below0 : List Frame := [.native { method := ⟨0, 0⟩, args := #[] }]
def about1 : State := aboutOver below0
def p0 : Program := .bare "" "" ""
def e0 : Env := launch0.env 0 0 0
theorem w_frames : about1.frames = Frame.invoking theMethod args0 :: below0 := rfl
set_option maxRecDepth 65536 in
theorem w_args : argsFit about1.vm theMethod args0 = true := by decide +kernel
set_option maxRecDepth 65536 in
theorem w_heap : heapFits about1 = true := by decide +kernel
set_option maxRecDepth 65536 in
theorem w_runnable : about1.curStatus? = some .runnable := by decide +kernel
set_option maxRecDepth 65536 in
theorem w_alone : about1.alone = true := by decide +kernel
set_option maxRecDepth 65536 in
theorem w_named : about1.methodNamed? x = some theMethod := by decide +kernel
set_option maxRecDepth 65536 in
theorem w_hears : about1.hears theMethod below0 = true := by decide +kernel
set_option maxRecDepth 65536 in
theorem w_ripe : about1.ripe theMethod args0 below0 = true := by decide +kernel
theorem w_running : about1.status = .running := rfl
set_option maxRecDepth 65536 in
theorem w_room : about1.hasRoom e0.platform room_1 = true :=
  launch0.hasRoom_least _ room_1 (by decide +kernel) (by decide +kernel) (by decide +kernel) (by decide +kernel) (by decide +kernel) (by decide +kernel)
theorem allAtoms_all (ts : List Jvm.Cond) (a : Array Jvm.Value) (st : Jvm.State) : (allAtoms ts).before a st = ts.all (fun c => c.before a st) := by
  induction ts with
  | nil => rfl
  | cons c t ih =>
    show (Jvm.Cond.and c (allAtoms t)).before a st = _
    rw [Jvm.Cond.before_and, ih, List.all_cons]
def words1 : List Jvm.Cond := Jvm.Cond.code x code maxLocals ret :: tables_1
/-- a 'code' word, met by the world's own term for the bytes: nothing is compared byte by byte -/
theorem code_word {y : MethodName} {bytes : ByteArray} {mx : Nat} {rt : Option FieldType} {a : Array Value} {s : State} {m : MethodId} {meth : Method} {c : Code} (h1 : s.methodNamed? y = some m) (h2 : s.vm.method? m = some meth) (h3 : meth.code = some c) (h4 : c.code = bytes)
    (h5 : (c.maxLocals == mx && c.exceptionTable.isEmpty && decide (c.maxStack ≤ mostOperands) && decide (meth.sig.returnType = rt) && !meth.locks && decide (parseMethodDescriptor y.desc = some meth.sig)) = true) : (Jvm.Cond.code y bytes mx rt).before a s = true := by
  simp only [Bool.and_eq_true, beq_iff_eq, Bool.not_eq_true', decide_eq_true_eq] at h5
  obtain ⟨⟨⟨⟨⟨g1, g2⟩, g3⟩, g4⟩, g5⟩, g6⟩ := h5
  simp [Cond.before, Cond.holds, Cond.value, h1, h2, h3, h4, g1, g2, g3, g4, g5, g6]
def isCode : Jvm.Cond → Bool
  | .code _ _ _ _ => true
  | _ => false
theorem all_split {L : List Jvm.Cond} {P : Jvm.Cond → Bool} (h1 : L.all (fun c => isCode c || P c) = true) (h2 : ∀ c ∈ L.filter isCode, P c = true) : L.all P = true := by
  refine List.all_eq_true.mpr fun c hc => ?_
  have h := List.all_eq_true.mp h1 c hc
  rcases Bool.eq_false_or_eq_true (isCode c) with hi | hi
  · exact h2 c (List.mem_filter.mpr ⟨hc, hi⟩)
  · simpa [hi] using h
set_option maxRecDepth 65536 in
theorem w_c0 : (Jvm.Cond.code x code maxLocals ret).before args0 about1 = true := code_word (m := ⟨1, 1⟩) (meth := k1m1) (c := k1c1) (by decide +kernel) rfl rfl rfl (by decide +kernel)
set_option maxRecDepth 65536 in
theorem w_c1 : (Jvm.Cond.code ({ cls := "com/example/coverweave/coverweave/Dissimilarity", name := "inverseBounds", desc := "(II)Lcom/example/coverweave/coverweave/Dissimilarity$Range;" } : Jvm.MethodName) prog_15_method_4_code (6 : Nat) (Option.some (Jvm.ClassFile.FieldType.object "com/example/coverweave/coverweave/Dissimilarity$Range"))).before args0 about1 = true := code_word (m := ⟨2, 1⟩) (meth := k2m1) (c := k2c1) (by decide +kernel) rfl rfl rfl (by decide +kernel)
set_option maxRecDepth 65536 in
theorem w_c2 : (Jvm.Cond.code ({ cls := "com/example/coverweave/coverweave/Dissimilarity", name := "checkLength", desc := "(I)V" } : Jvm.MethodName) prog_15_method_6_code (1 : Nat) (Option.none : Option Jvm.ClassFile.FieldType)).before args0 about1 = true := code_word (m := ⟨2, 2⟩) (meth := k2m2) (c := k2c2) (by decide +kernel) rfl rfl rfl (by decide +kernel)
set_option maxRecDepth 65536 in
theorem w_c3 : (Jvm.Cond.code ({ cls := "com/example/coverweave/coverweave/Dissimilarity", name := "checkWeight", desc := "(II)V" } : Jvm.MethodName) prog_15_method_7_code (2 : Nat) (Option.none : Option Jvm.ClassFile.FieldType)).before args0 about1 = true := code_word (m := ⟨2, 3⟩) (meth := k2m3) (c := k2c3) (by decide +kernel) rfl rfl rfl (by decide +kernel)
set_option maxRecDepth 65536 in
theorem w_c4 : (Jvm.Cond.code ({ cls := "java/lang/Math", name := "min", desc := "(II)I" } : Jvm.MethodName) jdk_29_method_69_code (2 : Nat) (Option.some Jvm.ClassFile.FieldType.int)).before args0 about1 = true := code_word (m := ⟨3, 2⟩) (meth := k3m2) (c := k3c2) (by decide +kernel) rfl rfl rfl (by decide +kernel)
set_option maxRecDepth 65536 in
theorem w_c5 : (Jvm.Cond.code ({ cls := "com/example/coverweave/coverweave/Dissimilarity$Range", name := "<init>", desc := "(JJ)V" } : Jvm.MethodName) prog_16_method_1_code (5 : Nat) (Option.none : Option Jvm.ClassFile.FieldType)).before args0 about1 = true := code_word (m := ⟨5, 0⟩) (meth := k5m0) (c := k5c0) (by decide +kernel) rfl rfl rfl (by decide +kernel)
set_option maxRecDepth 65536 in
theorem w_c6 : (Jvm.Cond.code ({ cls := "java/lang/Record", name := "<init>", desc := "()V" } : Jvm.MethodName) jdk_30_method_1_code (1 : Nat) (Option.none : Option Jvm.ClassFile.FieldType)).before args0 about1 = true := code_word (m := ⟨4, 0⟩) (meth := k4m0) (c := k4c0) (by decide +kernel) rfl rfl rfl (by decide +kernel)
set_option maxRecDepth 65536 in
theorem w_c7 : (Jvm.Cond.code ({ cls := "java/lang/Object", name := "<init>", desc := "()V" } : Jvm.MethodName) object_method_1_code (1 : Nat) (Option.none : Option Jvm.ClassFile.FieldType)).before args0 about1 = true := code_word (m := ⟨0, 0⟩) (meth := k0m0) (c := k0c0) (by decide +kernel) rfl rfl rfl (by decide +kernel)
set_option maxRecDepth 65536 in
theorem w_c8 : (Jvm.Cond.code ({ cls := "java/lang/Math", name := "abs", desc := "(J)J" } : Jvm.MethodName) jdk_29_method_61_code (2 : Nat) (Option.some Jvm.ClassFile.FieldType.long)).before args0 about1 = true := code_word (m := ⟨3, 1⟩) (meth := k3m1) (c := k3c1) (by decide +kernel) rfl rfl rfl (by decide +kernel)
set_option maxRecDepth 65536 in
theorem w_c9 : (Jvm.Cond.code ({ cls := "com/example/coverweave/coverweave/Dissimilarity$Range", name := "min", desc := "()J" } : Jvm.MethodName) prog_16_method_6_code (1 : Nat) (Option.some Jvm.ClassFile.FieldType.long)).before args0 about1 = true := code_word (m := ⟨5, 1⟩) (meth := k5m1) (c := k5c1) (by decide +kernel) rfl rfl rfl (by decide +kernel)
set_option maxRecDepth 65536 in
theorem w_c10 : (Jvm.Cond.code ({ cls := "com/example/coverweave/coverweave/Dissimilarity$Range", name := "max", desc := "()J" } : Jvm.MethodName) prog_16_method_7_code (1 : Nat) (Option.some Jvm.ClassFile.FieldType.long)).before args0 about1 = true := code_word (m := ⟨5, 2⟩) (meth := k5m2) (c := k5c2) (by decide +kernel) rfl rfl rfl (by decide +kernel)
def codes1 : List Jvm.Cond := [Jvm.Cond.code x code maxLocals ret, Jvm.Cond.code ({ cls := "com/example/coverweave/coverweave/Dissimilarity", name := "inverseBounds", desc := "(II)Lcom/example/coverweave/coverweave/Dissimilarity$Range;" } : Jvm.MethodName) prog_15_method_4_code (6 : Nat) (Option.some (Jvm.ClassFile.FieldType.object "com/example/coverweave/coverweave/Dissimilarity$Range")), Jvm.Cond.code ({ cls := "com/example/coverweave/coverweave/Dissimilarity", name := "checkLength", desc := "(I)V" } : Jvm.MethodName) prog_15_method_6_code (1 : Nat) (Option.none : Option Jvm.ClassFile.FieldType), Jvm.Cond.code ({ cls := "com/example/coverweave/coverweave/Dissimilarity", name := "checkWeight", desc := "(II)V" } : Jvm.MethodName) prog_15_method_7_code (2 : Nat) (Option.none : Option Jvm.ClassFile.FieldType), Jvm.Cond.code ({ cls := "java/lang/Math", name := "min", desc := "(II)I" } : Jvm.MethodName) jdk_29_method_69_code (2 : Nat) (Option.some Jvm.ClassFile.FieldType.int), Jvm.Cond.code ({ cls := "com/example/coverweave/coverweave/Dissimilarity$Range", name := "<init>", desc := "(JJ)V" } : Jvm.MethodName) prog_16_method_1_code (5 : Nat) (Option.none : Option Jvm.ClassFile.FieldType), Jvm.Cond.code ({ cls := "java/lang/Record", name := "<init>", desc := "()V" } : Jvm.MethodName) jdk_30_method_1_code (1 : Nat) (Option.none : Option Jvm.ClassFile.FieldType), Jvm.Cond.code ({ cls := "java/lang/Object", name := "<init>", desc := "()V" } : Jvm.MethodName) object_method_1_code (1 : Nat) (Option.none : Option Jvm.ClassFile.FieldType), Jvm.Cond.code ({ cls := "java/lang/Math", name := "abs", desc := "(J)J" } : Jvm.MethodName) jdk_29_method_61_code (2 : Nat) (Option.some Jvm.ClassFile.FieldType.long), Jvm.Cond.code ({ cls := "com/example/coverweave/coverweave/Dissimilarity$Range", name := "min", desc := "()J" } : Jvm.MethodName) prog_16_method_6_code (1 : Nat) (Option.some Jvm.ClassFile.FieldType.long), Jvm.Cond.code ({ cls := "com/example/coverweave/coverweave/Dissimilarity$Range", name := "max", desc := "()J" } : Jvm.MethodName) prog_16_method_7_code (1 : Nat) (Option.some Jvm.ClassFile.FieldType.long)]
set_option maxRecDepth 65536 in
theorem codes_eq : words1.filter isCode = codes1 := rfl
theorem w_codes : ∀ c ∈ words1.filter isCode, c.before args0 about1 = true := by
  rw [codes_eq]
  intro c hc
  simp only [codes1, List.mem_cons, List.not_mem_nil, or_false] at hc
  rcases hc with rfl | rfl | rfl | rfl | rfl | rfl | rfl | rfl | rfl | rfl | rfl
  · exact w_c0
  · exact w_c1
  · exact w_c2
  · exact w_c3
  · exact w_c4
  · exact w_c5
  · exact w_c6
  · exact w_c7
  · exact w_c8
  · exact w_c9
  · exact w_c10
set_option maxRecDepth 65536 in
theorem w_t1 : (words1.take 24).all (fun c => isCode c || c.before args0 about1) = true := by decide +kernel
set_option maxRecDepth 65536 in
theorem w_t2 : ((words1.drop 24).take 24).all (fun c => isCode c || c.before args0 about1) = true := by decide +kernel
set_option maxRecDepth 65536 in
theorem w_t3 : ((words1.drop 24).drop 24).all (fun c => isCode c || c.before args0 about1) = true := by decide +kernel
theorem w_tables : (allAtoms (Jvm.Cond.code x code maxLocals ret :: tables_1)).before args0 about1 = true := by
  rw [allAtoms_all]
  show words1.all (fun c => c.before args0 about1) = true
  refine all_split ?_ w_codes
  rw [← List.take_append_drop 24 words1, List.all_append, w_t1, ← List.take_append_drop 24 (words1.drop 24), List.all_append, w_t2, w_t3]
  rfl
set_option maxRecDepth 65536 in
theorem w_case : (Jvm.Cond.and given_1 narrow_1).before args0 about1 = true := by decide +kernel
theorem w_applies : (headSpec (Jvm.Cond.code x code maxLocals ret :: tables_1) room_1).applies x e0.platform about1 = true :=
  (Spec.applies_iff w_frames).mpr ⟨w_running, w_runnable, w_alone, w_named, w_hears, w_ripe, w_room, w_tables⟩
theorem atStart : AtStart classFile x code maxLocals ret World_1 tables_1 room_1 Calls_1 rest_1 Pre_1 launch0 p0 e0 about1 theMethod args0 below0 :=
  ⟨lists_1, trivial, launch0.admits_env _ _ _, launch0.least_env, fairChoices_fair.cas, fairChoices_fair.clock, w_frames, w_args, w_heap, w_applies, trivial, trivial, w_case⟩
end start1
theorem witness_1 : WitnessClaimed_1 := ⟨start1.p0, start1.e0, start1.about1, start1.theMethod, start1.args0, start1.below0, start1.atStart⟩
end Jvm.Pilot.@@N@@
