import JvmDerived
import JvmDerived.Pilot.@@N@@Statement
import JvmDerived.Pilot.@@N@@Code
set_option linter.unusedVariables false
set_option linter.unusedSimpArgs false
@@BLOCK:NumsL.lean.txt@@
@@BLOCK:Masks.lean.txt@@
namespace Jvm.Pilot.@@N@@
open Jvm Jvm.ClassFile Sem Op Lib Jvm.Free Jvm.Stand Jvm.LawKit Jvm.RoadKit Bundle Jvm.Pilot.@@N@@.Jvm.D
section OwnKit
/-- what is left of a walk: from the frame g in the state T it ends, and Q says what it leaves -/
def own_Go (p : Program) (e : Env) (below : List Frame) (s : State) (Q : Option Value → Heap → List Loc → Prop) (ce sl : Nat) (T : State) (g : JFrame) : Prop :=
  ∃ U o, Steps p.tables e below (T.setTop g) U ∧ U.status = .running ∧ Ended U below o ∧ ∃ v L, o = .returned v ∧ Q v U.heap L ∧ FrameEnd s o U L ce sl
/-- a body's contract: at these arguments and this heap it returns, and Q says what it leaves -/
def own_Ct (l : Launch) (Z : State) (y : MethodName) (bytes : ByteArray) (ml : Nat) (ret : Option FieldType) (rm : Room) (as : Array Value) (h0 : Heap) (Q : Option Value → Heap → List Loc → Prop) : Prop :=
  ∀ ws : List Jvm.Cond, MetFree l y (head1 (Jvm.Cond.code y bytes ml ret :: ws) rm) (fun a U => a = as ∧ Z.Warmed39 U.vm ∧ U.heap = h0) (fun _ _ _ _ _ => True) (fun _ U o U' => ∃ v L, o = .returned v ∧ Q v U'.heap L ∧ FrameEnd U o U' L rm.cells rm.slots)
/-- what holds throughout one body's walk -/
def own_Cx (p : Program) (s : State) (m : MethodId) (meth : Method) (c : Code) (Z : State) (bytes : ByteArray) (ml : Nat) (own nm : String) (ret : Option FieldType) : Prop :=
  p.tables.exec = Jvm.exec ∧ Z.Warmed39 s.vm ∧ c.code = bytes ∧ c.maxLocals = ml ∧ s.vm.findClass own = some m.cls ∧ meth.name = nm ∧ meth.sig.returnType = ret ∧ meth.locks = false
variable {p : Program} {l : Launch} {e : Env} {R : Room} {s : State} {m : MethodId} {args : Array Value} {below : List Frame} {meth : Method} {c : Code} {T T' : State} {locs : List Loc} {cells slots : Nat} {Z : State} {a0 : Array Value} {h h' : Heap} {Q QQ : Option Value → Heap → List Loc → Prop} {ce sl : Nat} {g g' : JFrame}
theorem own_st (h : ∀ t, Steps p.tables e below (T'.setTop g') t → Steps p.tables e below (T.setTop g) t) (k : own_Go p e below s Q ce sl T' g') : own_Go p e below s Q ce sl T g := by
  obtain ⟨U, o, h1, h2⟩ := k
  exact ⟨U, o, h _ h1, h2⟩
theorem own_enter {y : MethodName} {bytes : ByteArray} {ml : Nat} {ret : Option FieldType} {rm : Room} {as : Array Value} {h0 : Heap} (hp : plainFor y = true)
    (walk : ∀ {p e s m below meth c s₁}, Stand p l e rm s m as below meth c s₁ [] 0 0 → own_Cx p s m meth c Z bytes ml y.cls y.name ret → s₁.heap = h0 → own_Go p e below s Q rm.cells rm.slots s₁ (entryFrame m as ml)) : own_Ct l Z y bytes ml ret rm as h0 Q := by
  intro ws
  refine MetFree.of_bodySF hp hisR ?_
  intro p e s m args below meth c s₁ Bd hml0 hP hK
  obtain ⟨rfl, hZ, hh⟩ := hP
  have X0 : Stand p l e rm s m args below meth c s₁ [] 0 0 := Stand.of_body Bd
  have e0 : s₁.heap = h0 := by rw [← hh, Bd.state]; rfl
  exact walk X0 ⟨Bd.exec, hZ, Bd.bytes, hml0, findClass_of_methodNamed Bd.named, (name_of_methodNamed Bd.named Bd.method).1, Bd.returns, Bd.notSynchronized⟩ e0
theorem own_cast (q : g = g') (k : own_Go p e below s Q ce sl T g') : own_Go p e below s Q ce sl T g := q ▸ k
theorem own_ret (X : Stand p l e R s m args below meth c T locs cells slots) (hx : p.tables.exec = Jvm.exec) (hlk : meth.locks = false) {pc : Nat} {Ls : Array Slot} {w : Value} {t : FieldType} {i : Instr} {rest : List Value} (hret : meth.sig.returnType = some t) (hn : narrow t w = w)
    (hi : (i = .ireturn ∧ (t = .int ∨ t = .boolean ∨ t = .byte ∨ t = .char ∨ t = .short) ∧ ∃ z, w = .int z) ∨ (i = .lreturn ∧ t = .long ∧ ∃ z, w = .long z) ∨ (i = .dreturn ∧ t = .double ∧ ∃ z, w = .double z) ∨ (i = .freturn ∧ t = .float ∧ ∃ z, w = .float z) ∨ (i = .areturn ∧ t.isReference = true ∧ w.isRef = true))
    (hd : decode c.code pc = .ok (i, 1)) (hQ : Q (some w) T.heap locs) (hc : cells ≤ ce) (hs : slots ≤ sl) : own_Go p e below s Q ce sl T (mkF m pc Ls (w :: rest)) := by
  obtain ⟨fs, hr, hrun, hended, hW, hsame⟩ := X.leave (v := some w) (fun h => by rw [hret] at h; cases h) hlk
  exact ⟨_, _, retOut X hx hret hn hi hd hr, hrun, hended, _, _, rfl, hQ, ⟨_, rfl⟩, hW, hsame.mono hc hs⟩
theorem own_retI (X : Stand p l e R s m args below meth c T locs cells slots) (hx : p.tables.exec = Jvm.exec) (hlk : meth.locks = false) {pc : Nat} {Ls : Array Slot} {z : Int32} {t : FieldType} {rest : List Value} (hret : meth.sig.returnType = some t) (ht : t = .int ∨ t = .boolean ∨ t = .byte ∨ t = .char ∨ t = .short)
    (hn : narrow t (.int z) = .int z) (hd : decode c.code pc = .ok (.ireturn, 1)) (hQ : Q (some (.int z)) T.heap locs) (hc : cells ≤ ce) (hs : slots ≤ sl) : own_Go p e below s Q ce sl T (mkF m pc Ls (.int z :: rest)) :=
  own_ret X hx hlk hret hn (Or.inl ⟨rfl, ht, _, rfl⟩) hd hQ hc hs
theorem own_retJ (X : Stand p l e R s m args below meth c T locs cells slots) (hx : p.tables.exec = Jvm.exec) (hlk : meth.locks = false) {pc : Nat} {Ls : Array Slot} {z : Int64} {rest : List Value} (hret : meth.sig.returnType = some .long)
    (hd : decode c.code pc = .ok (.lreturn, 1)) (hQ : Q (some (.long z)) T.heap locs) (hc : cells ≤ ce) (hs : slots ≤ sl) : own_Go p e below s Q ce sl T (mkF m pc Ls (.long z :: rest)) :=
  own_ret X hx hlk hret rfl (Or.inr (Or.inl ⟨rfl, rfl, _, rfl⟩)) hd hQ hc hs
theorem own_retR (X : Stand p l e R s m args below meth c T locs cells slots) (hx : p.tables.exec = Jvm.exec) (hlk : meth.locks = false) {pc : Nat} {Ls : Array Slot} {w : Value} {t : FieldType} {rest : List Value} (hret : meth.sig.returnType = some t) (ht : t.isReference = true) (hw : w.isRef = true) (hn : narrow t w = w)
    (hd : decode c.code pc = .ok (.areturn, 1)) (hQ : Q (some w) T.heap locs) (hc : cells ≤ ce) (hs : slots ≤ sl) : own_Go p e below s Q ce sl T (mkF m pc Ls (w :: rest)) :=
  own_ret X hx hlk hret hn (Or.inr (Or.inr (Or.inr (Or.inr ⟨rfl, ht, hw⟩)))) hd hQ hc hs
theorem own_retV (X : Stand p l e R s m args below meth c T locs cells slots) (hx : p.tables.exec = Jvm.exec) (hlk : meth.locks = false) {pc : Nat} {Ls : Array Slot} (hret : meth.sig.returnType = none)
    (hd : decode c.code pc = .ok (.return_, 1)) (hQ : Q none T.heap locs) (hc : cells ≤ ce) (hs : slots ≤ sl) : own_Go p e below s Q ce sl T (mkF m pc Ls []) := by
  obtain ⟨fs, hr, hrun, hended, hW, hsame⟩ := X.leave (v := none) (fun _ => rfl) hlk
  exact ⟨_, _, X.returnOut hx hret hd hr, hrun, hended, _, _, rfl, hQ, ⟨_, rfl⟩, hW, hsame.mono hc hs⟩
/-! calls by contract -/
theorem own_callS (X : Stand p l e R s m args below meth c T locs cells slots) (hx : p.tables.exec = Jvm.exec) (hZ : Z.Warmed39 s.vm) {own : String} {index : Nat} {y : MethodName} {bytes : ByteArray} {ml : Nat} {ret : Option FieldType} {rm : Room} {argsL rest : List Value}
    (hown : s.vm.findClass own = some m.cls) (w1 : (Jvm.Cond.methodLink own index y).before a0 Z = true) (w2 : (Jvm.Cond.static y).before a0 Z = true) (w3 : (Jvm.Cond.initialized y.cls).before a0 Z = true) (w4 : (Jvm.Cond.code y bytes ml ret).before a0 Z = true)
    (hy : y.cls ≠ "java/lang/invoke/MethodHandle" ∧ y.cls ≠ "java/lang/invoke/VarHandle") (eT : T.heap = h) (hC : own_Ct l Z y bytes ml ret rm argsL.toArray h QQ) {W : Nat} (hf : rm.frames + 1 ≤ R.frames) (hl : W + (ml + 11) + rm.locals ≤ R.locals) (hc : cells + rm.cells ≤ R.cells) (hs : slots + rm.slots ≤ R.slots)
    {ps : List FieldType} {rr : Option FieldType} (hd0 : parseMethodDescriptor y.desc = some ⟨ps, rr⟩) (hlen : argsL.length = ps.length) {g : JFrame} (hg : g.method = m) (hsize : g.locals.size = c.maxLocals) (hstack : g.stack = argsL.reverse ++ rest) (hW : 2 * g.monitorRoom + (rest.map fun v => v.category).sum ≤ W) (hd : decode c.code g.pc = .ok (.invokestatic index, 3))
    (k : ∀ v T' L, Stand p l e R s m args below meth c T' (locs ++ L) (cells + rm.cells) (slots + rm.slots) → QQ v T'.heap L → own_Go p e below s Q ce sl T' { g with pc := g.pc + 3, stack := v.toList ++ rest }) : own_Go p e below s Q ce sl T g := by
  obtain ⟨v, _, ⟨T', L', c', n'⟩, -, X', ⟨Lc, hQ, l1, y1, z1⟩, st⟩ := Jvm.LawKit.callS X hx (y := y) hown (mvT hZ w1) (mvT hZ w2) (mvT hZ w3) (mvT hZ w4) hy (backOf (W := W) (hC []) hZ w4 w3 hf hl) hg hsize (lenOf hd0 hlen) hstack hW hd (fun _ _ => ⟨rfl, eT, hc, hs⟩)
  dsimp only [Pt.U, Pt.locs, Pt.cells, Pt.slots] at X' l1 y1 z1 st hQ
  subst l1 y1 z1
  exact own_st st (k _ _ _ X' hQ)
theorem own_callI (X : Stand p l e R s m args below meth c T locs cells slots) (hx : p.tables.exec = Jvm.exec) (hZ : Z.Warmed39 s.vm) {own : String} {index : Nat} {y : MethodName} {bytes : ByteArray} {ml : Nat} {rm : Room} {argsL rest : List Value} {a : Addr}
    (hy1 : y.name = "<init>") (hown : s.vm.findClass own = some m.cls) (w1 : (Jvm.Cond.methodLink own index y).before a0 Z = true) (w2 : (Jvm.Cond.instanceMethod y).before a0 Z = true) (w3 : (Jvm.Cond.initialized y.cls).before a0 Z = true) (w4 : (Jvm.Cond.code y bytes ml none).before a0 Z = true)
    (hy : y.cls ≠ "java/lang/invoke/MethodHandle" ∧ y.cls ≠ "java/lang/invoke/VarHandle") (eT : T.heap = h) (hC : own_Ct l Z y bytes ml none rm (.ref a :: argsL).toArray h QQ) {W : Nat} (hf : rm.frames + 1 ≤ R.frames) (hl : W + (ml + 11) + rm.locals ≤ R.locals) (hc : cells + rm.cells ≤ R.cells) (hs : slots + rm.slots ≤ R.slots)
    {ps : List FieldType} {rr : Option FieldType} (hd0 : parseMethodDescriptor y.desc = some ⟨ps, rr⟩) (hlen : argsL.length = ps.length) {g : JFrame} (hg : g.method = m) (hsize : g.locals.size = c.maxLocals) (hstack : g.stack = argsL.reverse ++ .ref a :: rest) (hW : 2 * g.monitorRoom + (rest.map fun v => v.category).sum ≤ W) (hd : decode c.code g.pc = .ok (.invokespecial index, 3))
    (k : ∀ v T' L, Stand p l e R s m args below meth c T' (locs ++ L) (cells + rm.cells) (slots + rm.slots) → QQ v T'.heap L → own_Go p e below s Q ce sl T' { g with pc := g.pc + 3, stack := v.toList ++ rest }) : own_Go p e below s Q ce sl T g := by
  obtain ⟨v, _, ⟨T', L', c', n'⟩, -, X', ⟨Lc, hQ, l1, y1, z1⟩, st⟩ := X.specialBack hx (y := y) hy1 hown (mvT hZ w1) (mvT hZ w2) (mvT hZ w4) hy (backOf (W := W) (hC []) hZ w4 w3 hf hl) hg hsize (Steps.refl _) (a := a) (lenOf hd0 hlen) hstack hW hd (fun _ _ => ⟨rfl, eT, hc, hs⟩)
  dsimp only [Pt.U, Pt.locs, Pt.cells, Pt.slots] at X' l1 y1 z1 st hQ
  subst l1 y1 z1
  exact own_st (fun _ r => st.trans r) (k _ _ _ X' hQ)
theorem own_callV (X : Stand p l e R s m args below meth c T locs cells slots) (hx : p.tables.exec = Jvm.exec) (hZ : Z.Warmed39 s.vm) {own C : String} {index : Nat} {y z : MethodName} {bytes : ByteArray} {ml : Nat} {ret : Option FieldType} {rm : Room} {argsL rest : List Value} {a : Addr}
    (hown : s.vm.findClass own = some m.cls) (w1 : (Jvm.Cond.methodLink own index y).before a0 Z = true) (w2 : (Jvm.Cond.declares y).before a0 Z = true) (hnf : NotFace s y) (w5 : (Jvm.Cond.selects C y z).before a0 Z = true) (w6 : (Jvm.Cond.instanceMethod z).before a0 Z = true) (w3 : (Jvm.Cond.initialized z.cls).before a0 Z = true) (w4 : (Jvm.Cond.code z bytes ml ret).before a0 Z = true)
    (hy : y.cls ≠ "java/lang/invoke/MethodHandle" ∧ y.cls ≠ "java/lang/invoke/VarHandle") (eT : T.heap = h) (E : Exa Z h a C) (hC : own_Ct l Z z bytes ml ret rm (.ref a :: argsL).toArray h QQ) {W : Nat} (hf : rm.frames + 1 ≤ R.frames) (hl : W + (ml + 11) + rm.locals ≤ R.locals) (hc : cells + rm.cells ≤ R.cells) (hs : slots + rm.slots ≤ R.slots)
    {ps : List FieldType} {rr : Option FieldType} (hd0 : parseMethodDescriptor y.desc = some ⟨ps, rr⟩) (hlen : argsL.length = ps.length) {g : JFrame} (hg : g.method = m) (hsize : g.locals.size = c.maxLocals) (hstack : g.stack = argsL.reverse ++ .ref a :: rest) (hW : 2 * g.monitorRoom + (rest.map fun v => v.category).sum ≤ W) (hd : decode c.code g.pc = .ok (.invokevirtual index, 3))
    (k : ∀ v T' L, Stand p l e R s m args below meth c T' (locs ++ L) (cells + rm.cells) (slots + rm.slots) → QQ v T'.heap L → own_Go p e below s Q ce sl T' { g with pc := g.pc + 3, stack := v.toList ++ rest }) : own_Go p e below s Q ce sl T g := by
  obtain ⟨cB, kB, q1, q2, q3⟩ := isOf hZ eT E
  obtain ⟨v, _, ⟨T', L', c', n'⟩, -, X', ⟨Lc, hQ, l1, y1, z1⟩, st⟩ := X.virtualBack hx (y := y) (z := z) hown (mvT hZ w1) (mvT hZ w2) hnf (mvT hZ w5) (mvT hZ w6) hy (backOf (W := W) (hC []) hZ w4 w3 hf hl) q1 q3 hg hsize (Steps.refl _) (lenOf hd0 hlen) hstack hW hd (fun _ _ => ⟨rfl, eT, hc, hs⟩)
  dsimp only [Pt.U, Pt.locs, Pt.cells, Pt.slots] at X' l1 y1 z1 st hQ
  subst l1 y1 z1
  exact own_st (fun _ r => st.trans r) (k _ _ _ X' hQ)
theorem own_callP (X : Stand p l e R s m args below meth c T locs cells slots) (hx : p.tables.exec = Jvm.exec) (hZ : Z.Warmed39 s.vm) {own C : String} {index : Nat} {y : MethodName} {bytes : ByteArray} {ml : Nat} {ret : Option FieldType} {rm : Room} {argsL rest : List Value} {a : Addr}
    (hown : s.vm.findClass own = some m.cls) (w1 : (Jvm.Cond.methodLink own index y).before a0 Z = true) (w6 : (Jvm.Cond.instanceMethod y).before a0 Z = true) (w5 : (Jvm.Cond.selects y.cls y y).before a0 Z = true) (w7 : (Jvm.Cond.privateMethod y).before a0 Z = true) (w3 : (Jvm.Cond.initialized y.cls).before a0 Z = true) (w4 : (Jvm.Cond.code y bytes ml ret).before a0 Z = true)
    (hy : y.cls ≠ "java/lang/invoke/MethodHandle" ∧ y.cls ≠ "java/lang/invoke/VarHandle") (eT : T.heap = h) (E : Exa Z h a C) (hC : own_Ct l Z y bytes ml ret rm (.ref a :: argsL).toArray h QQ) {W : Nat} (hf : rm.frames + 1 ≤ R.frames) (hl : W + (ml + 11) + rm.locals ≤ R.locals) (hc : cells + rm.cells ≤ R.cells) (hs : slots + rm.slots ≤ R.slots)
    {ps : List FieldType} {rr : Option FieldType} (hd0 : parseMethodDescriptor y.desc = some ⟨ps, rr⟩) (hlen : argsL.length = ps.length) {g : JFrame} (hg : g.method = m) (hsize : g.locals.size = c.maxLocals) (hstack : g.stack = argsL.reverse ++ .ref a :: rest) (hW : 2 * g.monitorRoom + (rest.map fun v => v.category).sum ≤ W) (hd : decode c.code g.pc = .ok (.invokevirtual index, 3))
    (k : ∀ v T' L, Stand p l e R s m args below meth c T' (locs ++ L) (cells + rm.cells) (slots + rm.slots) → QQ v T'.heap L → own_Go p e below s Q ce sl T' { g with pc := g.pc + 3, stack := v.toList ++ rest }) : own_Go p e below s Q ce sl T g := by
  obtain ⟨cq, q1, q2⟩ := E.cell
  obtain ⟨v, _, ⟨T', L', c', n'⟩, -, X', ⟨Lc, hQ, l1, y1, z1⟩, st⟩ := X.privateBack hx (y := y) hown (mvT hZ w1) (mvT hZ w6) (mvT hZ w5) (Cond.privateMethod_at (mvP hZ w7 (args := #[]))) (mvT hZ w4) hy (backOf (W := W) (hC []) hZ w4 w3 hf hl) hg hsize (Steps.refl _) (a := a) (by rw [eT]; exact q1) q2 (lenOf hd0 hlen) hstack hW hd (fun _ _ => ⟨rfl, eT, hc, hs⟩)
  dsimp only [Pt.U, Pt.locs, Pt.cells, Pt.slots] at X' l1 y1 z1 st hQ
  subst l1 y1 z1
  exact own_st (fun _ r => st.trans r) (k _ _ _ X' hQ)
theorem own_selfsel {y : MethodName} {n : Nat} (wi : (Jvm.Cond.instantiable y.cls n).before a0 Z = true) (w7 : (Jvm.Cond.privateMethod y).before a0 Z = true) (w6 : (Jvm.Cond.instanceMethod y).before a0 Z = true) (hy : y.cls ≠ "java/lang/invoke/MethodHandle" ∧ y.cls ≠ "java/lang/invoke/VarHandle") : (Jvm.Cond.selects y.cls y y).before a0 Z = true := by
  obtain ⟨c, k', h1, h2, -, h3, -⟩ := Cond.instantiable_spec wi
  exact Jvm.Stand.selects_self_of_private h1 h2 (by simp at h3; exact h3.1) (Cond.privateMethod_at w7) w6 hy
/-! arrays: n places, place i holds f i -/
def own_Av (Z : State) (h : Heap) (a : Addr) (ty : FieldType) (n : Nat) (f : Nat → Value) : Prop := ∃ c : Cell, Arr Z h a c ty ∧ c.slots.size = n ∧ ∀ i, i < n → c.slots[i]? = some (f i)
def own_up (f : Nat → Value) (i : Nat) (v : Value) : Nat → Value := fun j => if j = i then v else f j
variable {a b : Addr} {ty : FieldType} {n : Nat} {f f' : Nat → Value} {v : Value}
theorem own_Av.lt (F : own_Av Z h a ty n f) : a < h.size := by obtain ⟨c, A, -⟩ := F; exact A.lt
theorem own_Av.ext (F : own_Av Z h a ty n f) (E : Ext h h') : own_Av Z h' a ty n f := by obtain ⟨c, A, q⟩ := F; exact ⟨c, A.ext E, q⟩
theorem own_Av.other {i : Nat} (F : own_Av Z h b ty n f) (W : Wr h h' a i v) (q : b ≠ a) : own_Av Z h' b ty n f := by obtain ⟨c, A, r⟩ := F; exact ⟨c, A.other W q, r⟩
theorem own_Av.keep {ws : List Addr} (F : own_Av Z h a ty n f) (K : Keep h h' ws) (q : a ∉ ws) : own_Av Z h' a ty n f := by obtain ⟨c, A, r⟩ := F; exact ⟨c, ⟨K.2.1 _ _ A.1 q, A.2⟩, r⟩
theorem own_Av.cg (F : own_Av Z h a ty n f) (q : ∀ i, i < n → f i = f' i) : own_Av Z h a ty n f' := by obtain ⟨c, A, r, t⟩ := F; exact ⟨c, A, r, fun i hi => by rw [t i hi, q i hi]⟩
theorem own_Av.same {i : Nat} (F : own_Av Z h a ty n f) (W : Wr h h' a i v) (hi : i < n) : own_Av Z h' a ty n (own_up f i v) := by
  obtain ⟨c, A, r, t⟩ := F
  refine ⟨_, A.same W, by rw [sz_set]; exact r, fun j hj => ?_⟩
  subst r
  simp only [Cell.setSlot, own_up, Array.getElem?_setIfInBounds]
  by_cases q : i = j
  · subst q; simp [hi]
  · simp [q, Ne.symm q, t j hj]
theorem own_Av.new {k : ClassId} {z : Int32} (A : Arr Z h a (newA k ty z) ty) : own_Av Z h a ty z.toNatClampNeg (fun _ => defaultValue ty) := by
  refine ⟨_, A, sz_new _ _ _, fun i hi => ?_⟩
  simp [newA, hi]
theorem own_ne (F : a < b) : a ≠ b := Nat.ne_of_lt F
theorem own_inb {c : Cell} {j : Int32} {i : Nat} (r : c.slots.size = n) (hj : ¬ j < 0) (hi : j.toNatClampNeg = i) (hin : i < n) : ¬ (j < 0 ∨ c.slots.size ≤ j.toNatClampNeg) := by
  rintro (q | q)
  · exact hj q
  · omega
theorem own_len (X : Stand p l e R s m args below meth c T locs cells slots) (hx : p.tables.exec = Jvm.exec) (hZ : Z.Warmed39 s.vm) (eT : T.heap = h) (A : own_Av Z h a ty n f) {z : Int32} (hz : n.toInt32 = z) {g : JFrame} (hg : g.method = m) {rest : List Value} (hs : g.stack = .ref a :: rest) (hd : decode c.code g.pc = .ok (.arraylength, 1)) :
    ∀ t, Steps p.tables e below (T.setTop { g with pc := g.pc + 1, stack := .int z :: rest }) t → Steps p.tables e below (T.setTop g) t := by
  obtain ⟨c, A, r, -⟩ := A
  subst hz r
  exact X.arraylength hx (by rw [eT]; exact A.1) (State.isArrayOf_alike hZ.alike A.2.1) hg hs hd
theorem own_iaload (X : Stand p l e R s m args below meth c T locs cells slots) (hx : p.tables.exec = Jvm.exec) (hZ : Z.Warmed39 s.vm) (eT : T.heap = h) (A : own_Av Z h a .int n f) {j : Int32} (i : Nat) (hj : ¬ j < 0) (hi : j.toNatClampNeg = i) (hin : i < n) (hv : f i = v) {g : JFrame} (hg : g.method = m) {rest : List Value} (hs : g.stack = .int j :: .ref a :: rest) (hd : decode c.code g.pc = .ok (.iaload, 1)) :
    ∀ t, Steps p.tables e below (T.setTop { g with pc := g.pc + 1, stack := v :: rest }) t → Steps p.tables e below (T.setTop g) t := by
  obtain ⟨c, A, r, t⟩ := A
  exact X.iaload hx (by rw [eT]; exact A.1) (State.isArrayOf_alike hZ.alike A.2.1) A.2.2 (own_inb r hj hi hin) (by rw [hi, t i hin, hv]) hg hs hd
theorem own_laload (X : Stand p l e R s m args below meth c T locs cells slots) (hx : p.tables.exec = Jvm.exec) (hZ : Z.Warmed39 s.vm) (eT : T.heap = h) (A : own_Av Z h a .long n f) {j : Int32} (i : Nat) (hj : ¬ j < 0) (hi : j.toNatClampNeg = i) (hin : i < n) (hv : f i = v) {g : JFrame} (hg : g.method = m) {rest : List Value} (hs : g.stack = .int j :: .ref a :: rest) (hd : decode c.code g.pc = .ok (.laload, 1)) :
    ∀ t, Steps p.tables e below (T.setTop { g with pc := g.pc + 1, stack := v :: rest }) t → Steps p.tables e below (T.setTop g) t := by
  obtain ⟨c, A, r, t⟩ := A
  exact X.laload hx (by rw [eT]; exact A.1) (State.isArrayOf_alike hZ.alike A.2.1) A.2.2 (own_inb r hj hi hin) (by rw [hi, t i hin, hv]) hg hs hd
theorem own_aaload (X : Stand p l e R s m args below meth c T locs cells slots) (hx : p.tables.exec = Jvm.exec) (hZ : Z.Warmed39 s.vm) (eT : T.heap = h) (A : own_Av Z h a ty n f) (hty : ty.isReference = true) {j : Int32} (i : Nat) (hj : ¬ j < 0) (hi : j.toNatClampNeg = i) (hin : i < n) (hv : f i = v) {g : JFrame} (hg : g.method = m) {rest : List Value} (hs : g.stack = .int j :: .ref a :: rest) (hd : decode c.code g.pc = .ok (.aaload, 1)) :
    ∀ t, Steps p.tables e below (T.setTop { g with pc := g.pc + 1, stack := v :: rest }) t → Steps p.tables e below (T.setTop g) t := by
  obtain ⟨c, A, r, t⟩ := A
  exact X.aaload hx (by rw [eT]; exact A.1) (State.isArrayOf_alike hZ.alike A.2.1) hty A.2.2 (own_inb r hj hi hin) (by rw [hi, t i hin, hv]) hg hs hd
theorem own_baloadB (X : Stand p l e R s m args below meth c T locs cells slots) (hx : p.tables.exec = Jvm.exec) (hZ : Z.Warmed39 s.vm) (eT : T.heap = h) (A : own_Av Z h a .byte n f) {j : Int32} (i : Nat) (hj : ¬ j < 0) (hi : j.toNatClampNeg = i) (hin : i < n) (hv : f i = v) {g : JFrame} (hg : g.method = m) {rest : List Value} (hs : g.stack = .int j :: .ref a :: rest) (hd : decode c.code g.pc = .ok (.baload, 1)) :
    ∀ t, Steps p.tables e below (T.setTop { g with pc := g.pc + 1, stack := v :: rest }) t → Steps p.tables e below (T.setTop g) t := by
  obtain ⟨c, A, r, t⟩ := A
  exact X.baloadBytes hx (by rw [eT]; exact A.1) (State.isArrayOf_alike hZ.alike A.2.1) A.2.2 (own_inb r hj hi hin) (by rw [hi, t i hin, hv]) hg hs hd
theorem own_baloadZ (X : Stand p l e R s m args below meth c T locs cells slots) (hx : p.tables.exec = Jvm.exec) (hZ : Z.Warmed39 s.vm) (eT : T.heap = h) (A : own_Av Z h a .boolean n f) {j : Int32} (i : Nat) (hj : ¬ j < 0) (hi : j.toNatClampNeg = i) (hin : i < n) (hv : f i = v) {g : JFrame} (hg : g.method = m) {rest : List Value} (hs : g.stack = .int j :: .ref a :: rest) (hd : decode c.code g.pc = .ok (.baload, 1)) :
    ∀ t, Steps p.tables e below (T.setTop { g with pc := g.pc + 1, stack := v :: rest }) t → Steps p.tables e below (T.setTop g) t := by
  obtain ⟨c, A, r, t⟩ := A
  exact X.baloadBooleans hx (by rw [eT]; exact A.1) (State.isArrayOf_alike hZ.alike A.2.1) A.2.2 (own_inb r hj hi hin) (by rw [hi, t i hin, hv]) hg hs hd
theorem own_iastore (X : Stand p l e R s m args below meth c T locs cells slots) (hx : p.tables.exec = Jvm.exec) (hZ : Z.Warmed39 s.vm) (eT : T.heap = h) (A : own_Av Z h a .int n f) {j x : Int32} (i : Nat) (hj : ¬ j < 0) (hi : j.toNatClampNeg = i) (hin : i < n) {g : JFrame} (hg : g.method = m) {rest : List Value} (hs : g.stack = .int x :: .int j :: .ref a :: rest) (hd : decode c.code g.pc = .ok (.iastore, 1)) :
    ∃ T' h', Stand p l e R s m args below meth c T' (locs ++ [⟨a, i⟩]) cells slots ∧ T'.heap = h' ∧ Wr h h' a i (.int x) ∧ own_Av Z h' a .int n (own_up f i (.int x)) ∧ ∀ t, Steps p.tables e below (T'.setTop { g with pc := g.pc + 1, stack := rest }) t → Steps p.tables e below (T.setTop g) t := by
  have B := A
  obtain ⟨c, A, r, -⟩ := A
  obtain ⟨T', h', X', e', W, st⟩ := stI X hx hZ eT A (own_inb r hj hi hin) hg hs hd
  rw [hi] at X' W
  exact ⟨T', h', X', e', W, B.same W hin, st⟩
theorem own_lastore (X : Stand p l e R s m args below meth c T locs cells slots) (hx : p.tables.exec = Jvm.exec) (hZ : Z.Warmed39 s.vm) (eT : T.heap = h) (A : own_Av Z h a .long n f) {j : Int32} {x : Int64} (i : Nat) (hj : ¬ j < 0) (hi : j.toNatClampNeg = i) (hin : i < n) {g : JFrame} (hg : g.method = m) {rest : List Value} (hs : g.stack = .long x :: .int j :: .ref a :: rest) (hd : decode c.code g.pc = .ok (.lastore, 1)) :
    ∃ T' h', Stand p l e R s m args below meth c T' (locs ++ [⟨a, i⟩]) cells slots ∧ T'.heap = h' ∧ Wr h h' a i (.long x) ∧ own_Av Z h' a .long n (own_up f i (.long x)) ∧ ∀ t, Steps p.tables e below (T'.setTop { g with pc := g.pc + 1, stack := rest }) t → Steps p.tables e below (T.setTop g) t := by
  have B := A
  obtain ⟨c, A, r, -⟩ := A
  obtain ⟨T', h', X', e', W, st⟩ := stJ X hx hZ eT A (own_inb r hj hi hin) hg hs hd
  rw [hi] at X' W
  exact ⟨T', h', X', e', W, B.same W hin, st⟩
theorem own_bastoreB (X : Stand p l e R s m args below meth c T locs cells slots) (hx : p.tables.exec = Jvm.exec) (hZ : Z.Warmed39 s.vm) (eT : T.heap = h) (A : own_Av Z h a .byte n f) {j x : Int32} (i : Nat) (hj : ¬ j < 0) (hi : j.toNatClampNeg = i) (hin : i < n) {y : Int32} (hy : nar .byte x = y) {g : JFrame} (hg : g.method = m) {rest : List Value} (hs : g.stack = .int x :: .int j :: .ref a :: rest) (hd : decode c.code g.pc = .ok (.bastore, 1)) :
    ∃ T' h', Stand p l e R s m args below meth c T' (locs ++ [⟨a, i⟩]) cells slots ∧ T'.heap = h' ∧ Wr h h' a i (.int y) ∧ own_Av Z h' a .byte n (own_up f i (.int y)) ∧ ∀ t, Steps p.tables e below (T'.setTop { g with pc := g.pc + 1, stack := rest }) t → Steps p.tables e below (T.setTop g) t := by
  have B := A
  obtain ⟨c, A, r, -⟩ := A
  obtain ⟨T', h', X', e', W, st⟩ := stB X hx hZ eT A (own_inb r hj hi hin) hg hs hd
  rw [hi] at X' W
  rw [hy] at W
  exact ⟨T', h', X', e', W, B.same W hin, st⟩
theorem own_bastoreZ (X : Stand p l e R s m args below meth c T locs cells slots) (hx : p.tables.exec = Jvm.exec) (hZ : Z.Warmed39 s.vm) (eT : T.heap = h) (A : own_Av Z h a .boolean n f) {j x : Int32} (i : Nat) (hj : ¬ j < 0) (hi : j.toNatClampNeg = i) (hin : i < n) {y : Int32} (hy : nar .boolean x = y) {g : JFrame} (hg : g.method = m) {rest : List Value} (hs : g.stack = .int x :: .int j :: .ref a :: rest) (hd : decode c.code g.pc = .ok (.bastore, 1)) :
    ∃ T' h', Stand p l e R s m args below meth c T' (locs ++ [⟨a, i⟩]) cells slots ∧ T'.heap = h' ∧ Wr h h' a i (.int y) ∧ own_Av Z h' a .boolean n (own_up f i (.int y)) ∧ ∀ t, Steps p.tables e below (T'.setTop { g with pc := g.pc + 1, stack := rest }) t → Steps p.tables e below (T.setTop g) t := by
  have B := A
  obtain ⟨c, A, r, -⟩ := A
  obtain ⟨T', h', X', e', W, st⟩ := stZ X hx hZ eT A (own_inb r hj hi hin) hg hs hd
  rw [hi] at X' W
  rw [hy] at W
  exact ⟨T', h', X', e', W, B.same W hin, st⟩
theorem own_newP (X : Stand p l e R s m args below meth c T locs cells slots) (hx : p.tables.exec = Jvm.exec) (hZ : Z.Warmed39 s.vm) {aty : ArrayType} (w : (Jvm.Cond.arrayClass (newarray.typeOf aty)).before a0 Z = true) (eT : T.heap = h) {z : Int32} (n : Nat) (hn : ¬ z < 0) (hz : z.toNatClampNeg = n) {cap : Nat} (hcap : n ≤ cap) (hb : cap * 8 ≤ 536870912) (hc : cells + 1 ≤ R.cells) (hl : slots + cap ≤ R.slots) {g : JFrame} (hg : g.method = m) {rest : List Value} (hs : g.stack = .int z :: rest) (hd : decode c.code g.pc = .ok (.newarray aty, 2)) :
    ∃ T' h' b, Stand p l e R s m args below meth c T' locs (cells + 1) (slots + cap) ∧ T'.heap = h' ∧ b = h.size ∧ Ext h h' ∧ own_Av Z h' b (newarray.typeOf aty) n (fun _ => defaultValue (newarray.typeOf aty)) ∧ ∀ t, Steps p.tables e below (T'.setTop { g with pc := g.pc + 2, stack := .ref b :: rest }) t → Steps p.tables e below (T.setTop g) t := by
  obtain ⟨T', h', k, X', e', E, A, st⟩ := newP X hx hZ w eT hg hd hs hn (cap := cap) (by rw [hz]; exact hcap) hb hc hl
  exact ⟨T', h', _, X', e', rfl, E, hz ▸ own_Av.new A, st⟩
theorem own_newO (X : Stand p l e R s m args below meth c T locs cells slots) (hx : p.tables.exec = Jvm.exec) (hZ : Z.Warmed39 s.vm) {own C : String} {index n : Nat} (hown : s.vm.findClass own = some m.cls) (w : (Jvm.Cond.classLink own index C).before a0 Z = true) (wi : (Jvm.Cond.instantiable C n).before a0 Z = true) (wz : (Jvm.Cond.initialized C).before a0 Z = true) (eT : T.heap = h) (hc : cells + 1 ≤ R.cells) (hl : slots + n ≤ R.slots) {g : JFrame} (hg : g.method = m) (hd : decode c.code g.pc = .ok (.new index, 3)) :
    ∃ T' h' b, Stand p l e R s m args below meth c T' locs (cells + 1) (slots + n) ∧ T'.heap = h' ∧ b = h.size ∧ Ext h h' ∧ Exa Z h' b C ∧ (∀ {O nm d : String} {ty : FieldType}, Laid Z a0 C O nm d → parseFieldDescriptor d = some ty → Fld Z h' b O nm d (defaultValue ty)) ∧ ∀ t, Steps p.tables e below (T'.setTop { g with pc := g.pc + 3, stack := .ref b :: g.stack }) t → Steps p.tables e below (T.setTop g) t := by
  obtain ⟨T', h', X', e', E, A, D, -, st⟩ := newO X hx hZ hown w wi wz eT hg hd hc hl
  exact ⟨T', h', _, X', e', rfl, E, A, D, st⟩
theorem own_frs {k : Nat} {sl : Nat} (N : Fr k locs) (q : k ≤ a) : Fr k (locs ++ [⟨a, sl⟩]) := by
  intro y hy
  rcases List.mem_append.mp hy with hy | hy
  · exact N y hy
  · rw [List.mem_singleton.mp hy]; exact q
/-! arrays of ints and longs by a function on places -/
def own_upI (f : Nat → Int32) (i : Nat) (v : Int32) : Nat → Int32 := fun j => if j = i then v else f j
def own_upJ (f : Nat → Int64) (i : Nat) (v : Int64) : Nat → Int64 := fun j => if j = i then v else f j
theorem own_Av.fI {gg : Nat → Int32} {i : Nat} {x : Int32} (F : own_Av Z h a ty n (own_up (fun k => .int (gg k)) i (.int x))) : own_Av Z h a ty n (fun k => .int (own_upI gg i x k)) :=
  F.cg fun j _ => by unfold own_up own_upI; split <;> rfl
theorem own_Av.fJ {gg : Nat → Int64} {i : Nat} {x : Int64} (F : own_Av Z h a ty n (own_up (fun k => .long (gg k)) i (.long x))) : own_Av Z h a ty n (fun k => .long (own_upJ gg i x k)) :=
  F.cg fun j _ => by unfold own_up own_upJ; split <;> rfl
end OwnKit
section OwnNums
theorem own_and_pow (b : Int32) (i : Nat) (m : Int32) (hm : m.toBitVec = BitVec.twoPow 32 i) : (b &&& m = 0) ↔ b.toBitVec.getLsbD i = false := by
  rw [← Int32.toBitVec_inj, Int32.toBitVec_and, hm, BitVec.and_twoPow]
  by_cases hi : i < 32
  · cases h : b.toBitVec.getLsbD i
    · simp
    · simp only [if_true, Int32.toBitVec_zero]
      constructor
      · intro q
        have := congrArg (fun v => BitVec.getLsbD v i) q
        simp [hi] at this
      · intro q; cases q
  · simp [BitVec.getLsbD_of_ge _ _ (Nat.le_of_not_lt hi)]
theorem own_shr_bit (b s : Int32) (i : Nat) (hi : i < 32) (hs : (s.toBitVec.smod 32).toNat = i) : ((b >>> s) &&& 1 = 0) ↔ b.toBitVec.getLsbD i = false := by
  rw [own_and_pow (b >>> s) 0 1 (by decide), Int32.toBitVec_shiftRight]
  simp only [BitVec.sshiftRight', hs, BitVec.getLsbD_sshiftRight]
  simp [hi]
theorem own_nat {x : Int32} (h : ¬ x < 0) : x.toInt = (x.toNatClampNeg : Int) := by
  have : 0 ≤ x.toInt := by
    have h2 := h
    rw [Int32.lt_iff_toInt_lt] at h2
    simpa using h2
  rw [Int32.toNatClampNeg, Int.toNat_of_nonneg this]
theorem own_in {j z : Int32} {n : Nat} (hn : n < 2 ^ 31) (hz : n.toInt32 = z) (hj : ¬ j < 0) (h : j < z) : j.toNatClampNeg < n := by
  have h1 := own_nat hj
  rw [Int32.lt_iff_toInt_lt, ← hz, len_toInt hn] at h
  omega
theorem own_and3 (x : Int32) : x &&& 3 = 0 ∨ x &&& 3 = 1 ∨ x &&& 3 = 2 ∨ x &&& 3 = 3 := by
  have hm : (x &&& 3).toInt = x.toInt % 2 ^ 2 := Jvm.Kit.i32_mask x 3 (by decide) (by decide)
  simp only [← Int32.toInt_inj, hm]
  show x.toInt % 2 ^ 2 = 0 ∨ x.toInt % 2 ^ 2 = 1 ∨ x.toInt % 2 ^ 2 = 2 ∨ x.toInt % 2 ^ 2 = 3
  omega
theorem own_nar1 {P : Prop} [Decidable P] {v : Int32} (h : v = if P then 0 else 1) : nar .boolean v = v := by subst h; split <;> decide
end OwnNums
theorem d1_0 : decode jdk_29_method_69_code 0 = .ok (.iload_n 0, 1) := by decide +kernel
theorem d1_1 : decode jdk_29_method_69_code 1 = .ok (.iload_n 1, 1) := by decide +kernel
theorem d1_2 : decode jdk_29_method_69_code 2 = .ok (.if_icmp .gt 7, 3) := by decide +kernel
theorem d1_5 : decode jdk_29_method_69_code 5 = .ok (.iload_n 0, 1) := by decide +kernel
theorem d1_6 : decode jdk_29_method_69_code 6 = .ok (.goto 4, 3) := by decide +kernel
theorem d1_9 : decode jdk_29_method_69_code 9 = .ok (.iload_n 1, 1) := by decide +kernel
theorem d1_10 : decode jdk_29_method_69_code 10 = .ok (.ireturn, 1) := by decide +kernel
theorem d2_0 : decode jdk_29_method_65_code 0 = .ok (.iload_n 0, 1) := by decide +kernel
theorem d2_1 : decode jdk_29_method_65_code 1 = .ok (.iload_n 1, 1) := by decide +kernel
theorem d2_2 : decode jdk_29_method_65_code 2 = .ok (.if_icmp .lt 7, 3) := by decide +kernel
theorem d2_5 : decode jdk_29_method_65_code 5 = .ok (.iload_n 0, 1) := by decide +kernel
theorem d2_6 : decode jdk_29_method_65_code 6 = .ok (.goto 4, 3) := by decide +kernel
theorem d2_9 : decode jdk_29_method_65_code 9 = .ok (.iload_n 1, 1) := by decide +kernel
theorem d2_10 : decode jdk_29_method_65_code 10 = .ok (.ireturn, 1) := by decide +kernel
theorem d3_0 : decode prog_108_method_1_code 0 = .ok (.aload_n 0, 1) := by decide +kernel
theorem d3_1 : decode prog_108_method_1_code 1 = .ok (.invokespecial 1, 3) := by decide +kernel
theorem d3_4 : decode prog_108_method_1_code 4 = .ok (.iload_n 2, 1) := by decide +kernel
theorem d3_5 : decode prog_108_method_1_code 5 = .ok (.iload_n 1, 1) := by decide +kernel
theorem d3_6 : decode prog_108_method_1_code 6 = .ok (.if_icmp .ge 18, 3) := by decide +kernel
theorem d3_24 : decode prog_108_method_1_code 24 = .ok (.aload_n 0, 1) := by decide +kernel
theorem d3_25 : decode prog_108_method_1_code 25 = .ok (.iload_n 1, 1) := by decide +kernel
theorem d3_26 : decode prog_108_method_1_code 26 = .ok (.putfield 16, 3) := by decide +kernel
theorem d3_29 : decode prog_108_method_1_code 29 = .ok (.aload_n 0, 1) := by decide +kernel
theorem d3_30 : decode prog_108_method_1_code 30 = .ok (.iload_n 2, 1) := by decide +kernel
theorem d3_31 : decode prog_108_method_1_code 31 = .ok (.putfield 22, 3) := by decide +kernel
theorem d3_34 : decode prog_108_method_1_code 34 = .ok (.return_, 1) := by decide +kernel
theorem d4_0 : decode jdk_30_method_1_code 0 = .ok (.aload_n 0, 1) := by decide +kernel
theorem d4_1 : decode jdk_30_method_1_code 1 = .ok (.invokespecial 1, 3) := by decide +kernel
theorem d4_4 : decode jdk_30_method_1_code 4 = .ok (.return_, 1) := by decide +kernel
theorem d6_0 : decode jdk_29_method_70_code 0 = .ok (.lload_n 0, 1) := by decide +kernel
theorem d6_1 : decode jdk_29_method_70_code 1 = .ok (.lload_n 2, 1) := by decide +kernel
theorem d6_2 : decode jdk_29_method_70_code 2 = .ok (.lcmp, 1) := by decide +kernel
theorem d6_3 : decode jdk_29_method_70_code 3 = .ok (.ifCond .gt 7, 3) := by decide +kernel
theorem d6_6 : decode jdk_29_method_70_code 6 = .ok (.lload_n 0, 1) := by decide +kernel
theorem d6_7 : decode jdk_29_method_70_code 7 = .ok (.goto 4, 3) := by decide +kernel
theorem d6_10 : decode jdk_29_method_70_code 10 = .ok (.lload_n 2, 1) := by decide +kernel
theorem d6_11 : decode jdk_29_method_70_code 11 = .ok (.lreturn, 1) := by decide +kernel
theorem d7_0 : decode jdk_29_method_66_code 0 = .ok (.lload_n 0, 1) := by decide +kernel
theorem d7_1 : decode jdk_29_method_66_code 1 = .ok (.lload_n 2, 1) := by decide +kernel
theorem d7_2 : decode jdk_29_method_66_code 2 = .ok (.lcmp, 1) := by decide +kernel
theorem d7_3 : decode jdk_29_method_66_code 3 = .ok (.ifCond .lt 7, 3) := by decide +kernel
theorem d7_6 : decode jdk_29_method_66_code 6 = .ok (.lload_n 0, 1) := by decide +kernel
theorem d7_7 : decode jdk_29_method_66_code 7 = .ok (.goto 4, 3) := by decide +kernel
theorem d7_10 : decode jdk_29_method_66_code 10 = .ok (.lload_n 2, 1) := by decide +kernel
theorem d7_11 : decode jdk_29_method_66_code 11 = .ok (.lreturn, 1) := by decide +kernel
theorem d8_0 : decode prog_108_method_2_code 0 = .ok (.aload_n 0, 1) := by decide +kernel
theorem d8_1 : decode prog_108_method_2_code 1 = .ok (.getfield 16, 3) := by decide +kernel
theorem d8_4 : decode prog_108_method_2_code 4 = .ok (.i2l, 1) := by decide +kernel
theorem d8_5 : decode prog_108_method_2_code 5 = .ok (.lload_n 1, 1) := by decide +kernel
theorem d8_6 : decode prog_108_method_2_code 6 = .ok (.lcmp, 1) := by decide +kernel
theorem d8_7 : decode prog_108_method_2_code 7 = .ok (.ifCond .gt 17, 3) := by decide +kernel
theorem d8_10 : decode prog_108_method_2_code 10 = .ok (.lload_n 1, 1) := by decide +kernel
theorem d8_11 : decode prog_108_method_2_code 11 = .ok (.aload_n 0, 1) := by decide +kernel
theorem d8_12 : decode prog_108_method_2_code 12 = .ok (.getfield 22, 3) := by decide +kernel
theorem d8_15 : decode prog_108_method_2_code 15 = .ok (.i2l, 1) := by decide +kernel
theorem d8_16 : decode prog_108_method_2_code 16 = .ok (.lcmp, 1) := by decide +kernel
theorem d8_17 : decode prog_108_method_2_code 17 = .ok (.ifCond .gt 7, 3) := by decide +kernel
theorem d8_20 : decode prog_108_method_2_code 20 = .ok (.iconst 1, 1) := by decide +kernel
theorem d8_21 : decode prog_108_method_2_code 21 = .ok (.goto 4, 3) := by decide +kernel
theorem d8_24 : decode prog_108_method_2_code 24 = .ok (.iconst 0, 1) := by decide +kernel
theorem d8_25 : decode prog_108_method_2_code 25 = .ok (.ireturn, 1) := by decide +kernel
theorem pd0 : parseMethodDescriptor "()V" = some ⟨[], none⟩ := by decide +kernel
theorem pd1 : parseMethodDescriptor "(II)I" = some ⟨[.int, .int], some .int⟩ := by decide +kernel
theorem pd2 : parseMethodDescriptor "(II)V" = some ⟨[.int, .int], none⟩ := by decide +kernel
theorem pd3 : parseMethodDescriptor "(JJ)J" = some ⟨[.long, .long], some .long⟩ := by decide +kernel
theorem pd4 : parseMethodDescriptor "(J)Z" = some ⟨[.long], some .boolean⟩ := by decide +kernel
def own_minI (x y : Int32) : Int32 := if y < x then y else x
def own_maxI (x y : Int32) : Int32 := if x < y then y else x
def own_minJ (x y : Int64) : Int64 := if y < x then y else x
def own_maxJ (x y : Int64) : Int64 := if x < y then y else x
def own_absJ (x : Int64) : Int64 := if x < 0 then -x else x
theorem ef_1 (m : MethodId) (x0 : Int32) (x1 : Int32) : entryFrame m #[(.int x0), (.int x1)] 2 = mkF m 0 #[.val (.int x0), .val (.int x1)] [] := by first | (simp [entryFrame, mkF, argsToLocals, Value.category]; done) | rfl
set_option maxRecDepth 65536 in
set_option maxHeartbeats 40000000 in
theorem own_rm1 (l : Launch) (Z : State) (a0 : Array Value) (hw : ∀ d ∈ tables_1, d.before a0 Z = true) (y0 : Int32) (y1 : Int32)  (h0 : Heap) (n0 : Nat) (Z0 : n0 ≤ h0.size) :
    own_Ct l Z (⟨"java/lang/Math", "min", "(II)I"⟩ : MethodName) jdk_29_method_69_code 2 (some .int) ({ frames := 0, cells := 0, slots := 0, locals := 0 } : Room) #[(.int y0), (.int y1)] h0 (fun v h L => v = some (.int (own_minI y0 y1)) ∧ Fr n0 L ∧ h = h0) := by
  refine own_enter (Jvm.Free.JP.mathPlain rfl (by decide +kernel)) ?_
  intro p e s m below meth c s₁ X0 C e0
  obtain ⟨hx, hZ, hby, hml, hown, hnm, hret, hlk⟩ := C
  replace hown : s.vm.findClass "java/lang/Math" = some m.cls := hown
  replace hml : c.maxLocals = 2 := hml
  replace hret : meth.sig.returnType = (some .int) := hret
  have N0 := Fr.nil n0
  refine own_cast (ef_1 m y0 y1) ?_
  refine own_st (T' := s₁) (g' := (mkF m 2 #[.val (.int y0), .val (.int y1)] [(.int y1), (.int y0)])) (fun t k => XS.iloadN (g := (mkF m 0 #[.val (.int y0), .val (.int y1)] [])) X0.here hx rfl (hb hby d1_0) rfl (XS.iloadN (g := (mkF m 1 #[.val (.int y0), .val (.int y1)] [(.int y0)])) X0.here hx rfl (hb hby d1_1) rfl k)) ?_
  by_cases hc2_1 : y1 < y0
  · refine own_st (T' := s₁) (g' := (mkF m 10 #[.val (.int y0), .val (.int y1)] [(.int y1)])) (fun t k => XS.icmpYes (g := (mkF m 2 #[.val (.int y0), .val (.int y1)] [(.int y1), (.int y0)])) X0.here hx rfl (pc0 := 2) (pc' := 9) rfl (hb hby d1_2) rfl (tlt hc2_1).2.2.1 (by decide) (by decide) (XS.iloadN (g := (mkF m 9 #[.val (.int y0), .val (.int y1)] [])) X0.here hx rfl (hb hby d1_9) rfl k)) ?_
    refine own_retI X0 hx hlk hret (by simp) rfl (hb hby d1_10) ?_ (by decide) (by decide)
    refine ⟨?_, N0, e0⟩
    simp [own_minI, *]
  · refine own_st (T' := s₁) (g' := (mkF m 10 #[.val (.int y0), .val (.int y1)] [(.int y0)])) (fun t k => XS.icmpNo (g := (mkF m 2 #[.val (.int y0), .val (.int y1)] [(.int y1), (.int y0)])) X0.here hx rfl (hb hby d1_2) rfl (flt hc2_1).2.2.1 (XS.iloadN (g := (mkF m 5 #[.val (.int y0), .val (.int y1)] [])) X0.here hx rfl (hb hby d1_5) rfl (XS.goto (g := (mkF m 6 #[.val (.int y0), .val (.int y1)] [(.int y0)])) X0.here hx rfl (pc0 := 6) (pc' := 10) rfl (hb hby d1_6) (by decide) (by decide) k))) ?_
    refine own_retI X0 hx hlk hret (by simp) rfl (hb hby d1_10) ?_ (by decide) (by decide)
    refine ⟨?_, N0, e0⟩
    simp [own_minI, *]
theorem ef_2 (m : MethodId) (x0 : Int32) (x1 : Int32) : entryFrame m #[(.int x0), (.int x1)] 2 = mkF m 0 #[.val (.int x0), .val (.int x1)] [] := by first | (simp [entryFrame, mkF, argsToLocals, Value.category]; done) | rfl
set_option maxRecDepth 65536 in
set_option maxHeartbeats 40000000 in
theorem own_rm2 (l : Launch) (Z : State) (a0 : Array Value) (hw : ∀ d ∈ tables_1, d.before a0 Z = true) (y0 : Int32) (y1 : Int32)  (h0 : Heap) (n0 : Nat) (Z0 : n0 ≤ h0.size) :
    own_Ct l Z (⟨"java/lang/Math", "max", "(II)I"⟩ : MethodName) jdk_29_method_65_code 2 (some .int) ({ frames := 0, cells := 0, slots := 0, locals := 0 } : Room) #[(.int y0), (.int y1)] h0 (fun v h L => v = some (.int (own_maxI y0 y1)) ∧ Fr n0 L ∧ h = h0) := by
  refine own_enter (Jvm.Free.JP.mathPlain rfl (by decide +kernel)) ?_
  intro p e s m below meth c s₁ X0 C e0
  obtain ⟨hx, hZ, hby, hml, hown, hnm, hret, hlk⟩ := C
  replace hown : s.vm.findClass "java/lang/Math" = some m.cls := hown
  replace hml : c.maxLocals = 2 := hml
  replace hret : meth.sig.returnType = (some .int) := hret
  have N0 := Fr.nil n0
  refine own_cast (ef_2 m y0 y1) ?_
  refine own_st (T' := s₁) (g' := (mkF m 2 #[.val (.int y0), .val (.int y1)] [(.int y1), (.int y0)])) (fun t k => XS.iloadN (g := (mkF m 0 #[.val (.int y0), .val (.int y1)] [])) X0.here hx rfl (hb hby d2_0) rfl (XS.iloadN (g := (mkF m 1 #[.val (.int y0), .val (.int y1)] [(.int y0)])) X0.here hx rfl (hb hby d2_1) rfl k)) ?_
  by_cases hc2_2 : y0 < y1
  · refine own_st (T' := s₁) (g' := (mkF m 10 #[.val (.int y0), .val (.int y1)] [(.int y1)])) (fun t k => XS.icmpYes (g := (mkF m 2 #[.val (.int y0), .val (.int y1)] [(.int y1), (.int y0)])) X0.here hx rfl (pc0 := 2) (pc' := 9) rfl (hb hby d2_2) rfl (tlt hc2_2).1 (by decide) (by decide) (XS.iloadN (g := (mkF m 9 #[.val (.int y0), .val (.int y1)] [])) X0.here hx rfl (hb hby d2_9) rfl k)) ?_
    refine own_retI X0 hx hlk hret (by simp) rfl (hb hby d2_10) ?_ (by decide) (by decide)
    refine ⟨?_, N0, e0⟩
    simp [own_maxI, *]
  · refine own_st (T' := s₁) (g' := (mkF m 10 #[.val (.int y0), .val (.int y1)] [(.int y0)])) (fun t k => XS.icmpNo (g := (mkF m 2 #[.val (.int y0), .val (.int y1)] [(.int y1), (.int y0)])) X0.here hx rfl (hb hby d2_2) rfl (flt hc2_2).1 (XS.iloadN (g := (mkF m 5 #[.val (.int y0), .val (.int y1)] [])) X0.here hx rfl (hb hby d2_5) rfl (XS.goto (g := (mkF m 6 #[.val (.int y0), .val (.int y1)] [(.int y0)])) X0.here hx rfl (pc0 := 6) (pc' := 10) rfl (hb hby d2_6) (by decide) (by decide) k))) ?_
    refine own_retI X0 hx hlk hret (by simp) rfl (hb hby d2_10) ?_ (by decide) (by decide)
    refine ⟨?_, N0, e0⟩
    simp [own_maxI, *]
theorem ef_6 (m : MethodId) (x0 : Int64) (x1 : Int64) : entryFrame m #[(.long x0), (.long x1)] 4 = mkF m 0 #[.val (.long x0), .second, .val (.long x1), .second] [] := by first | (simp [entryFrame, mkF, argsToLocals, Value.category]; done) | rfl
set_option maxRecDepth 65536 in
set_option maxHeartbeats 40000000 in
theorem own_rm6 (l : Launch) (Z : State) (a0 : Array Value) (hw : ∀ d ∈ tables_1, d.before a0 Z = true) (y0 : Int64) (y1 : Int64)  (h0 : Heap) (n0 : Nat) (Z0 : n0 ≤ h0.size) :
    own_Ct l Z (⟨"java/lang/Math", "min", "(JJ)J"⟩ : MethodName) jdk_29_method_70_code 4 (some .long) ({ frames := 0, cells := 0, slots := 0, locals := 0 } : Room) #[(.long y0), (.long y1)] h0 (fun v h L => v = some (.long (own_minJ y0 y1)) ∧ Fr n0 L ∧ h = h0) := by
  refine own_enter (Jvm.Free.JP.mathPlain rfl (by decide +kernel)) ?_
  intro p e s m below meth c s₁ X0 C e0
  obtain ⟨hx, hZ, hby, hml, hown, hnm, hret, hlk⟩ := C
  replace hown : s.vm.findClass "java/lang/Math" = some m.cls := hown
  replace hml : c.maxLocals = 4 := hml
  replace hret : meth.sig.returnType = (some .long) := hret
  have N0 := Fr.nil n0
  refine own_cast (ef_6 m y0 y1) ?_
  refine own_st (T' := s₁) (g' := (mkF m 3 #[.val (.long y0), .second, .val (.long y1), .second] [(.int (lcmpW y0 y1))])) (fun t k => XS.lloadN (g := (mkF m 0 #[.val (.long y0), .second, .val (.long y1), .second] [])) X0.here hx rfl (hb hby d6_0) rfl (XS.lloadN (g := (mkF m 1 #[.val (.long y0), .second, .val (.long y1), .second] [(.long y0)])) X0.here hx rfl (hb hby d6_1) rfl (XS.lcmp (g := (mkF m 2 #[.val (.long y0), .second, .val (.long y1), .second] [(.long y1), (.long y0)])) X0.here hx rfl (hb hby d6_2) rfl k))) ?_
  by_cases hc3_3 : y1 < y0
  · refine own_st (T' := s₁) (g' := (mkF m 11 #[.val (.long y0), .second, .val (.long y1), .second] [(.long y1)])) (fun t k => XS.ifYes (g := (mkF m 3 #[.val (.long y0), .second, .val (.long y1), .second] [(.int (lcmpW y0 y1))])) X0.here hx rfl (pc0 := 3) (pc' := 10) rfl (hb hby d6_3) rfl ((if0 _ _).trans (tlt ((lw_gt _ _).mpr hc3_3)).2.2.1) (by decide) (by decide) (XS.lloadN (g := (mkF m 10 #[.val (.long y0), .second, .val (.long y1), .second] [])) X0.here hx rfl (hb hby d6_10) rfl k)) ?_
    refine own_retJ X0 hx hlk hret (hb hby d6_11) ?_ (by decide) (by decide)
    refine ⟨?_, N0, e0⟩
    simp [own_minJ, *]
  · refine own_st (T' := s₁) (g' := (mkF m 11 #[.val (.long y0), .second, .val (.long y1), .second] [(.long y0)])) (fun t k => XS.ifNo (g := (mkF m 3 #[.val (.long y0), .second, .val (.long y1), .second] [(.int (lcmpW y0 y1))])) X0.here hx rfl (hb hby d6_3) rfl ((if0 _ _).trans (flt (mt (lw_gt _ _).mp hc3_3)).2.2.1) (XS.lloadN (g := (mkF m 6 #[.val (.long y0), .second, .val (.long y1), .second] [])) X0.here hx rfl (hb hby d6_6) rfl (XS.goto (g := (mkF m 7 #[.val (.long y0), .second, .val (.long y1), .second] [(.long y0)])) X0.here hx rfl (pc0 := 7) (pc' := 11) rfl (hb hby d6_7) (by decide) (by decide) k))) ?_
    refine own_retJ X0 hx hlk hret (hb hby d6_11) ?_ (by decide) (by decide)
    refine ⟨?_, N0, e0⟩
    simp [own_minJ, *]
theorem ef_7 (m : MethodId) (x0 : Int64) (x1 : Int64) : entryFrame m #[(.long x0), (.long x1)] 4 = mkF m 0 #[.val (.long x0), .second, .val (.long x1), .second] [] := by first | (simp [entryFrame, mkF, argsToLocals, Value.category]; done) | rfl
set_option maxRecDepth 65536 in
set_option maxHeartbeats 40000000 in
theorem own_rm7 (l : Launch) (Z : State) (a0 : Array Value) (hw : ∀ d ∈ tables_1, d.before a0 Z = true) (y0 : Int64) (y1 : Int64)  (h0 : Heap) (n0 : Nat) (Z0 : n0 ≤ h0.size) :
    own_Ct l Z (⟨"java/lang/Math", "max", "(JJ)J"⟩ : MethodName) jdk_29_method_66_code 4 (some .long) ({ frames := 0, cells := 0, slots := 0, locals := 0 } : Room) #[(.long y0), (.long y1)] h0 (fun v h L => v = some (.long (own_maxJ y0 y1)) ∧ Fr n0 L ∧ h = h0) := by
  refine own_enter (Jvm.Free.JP.mathPlain rfl (by decide +kernel)) ?_
  intro p e s m below meth c s₁ X0 C e0
  obtain ⟨hx, hZ, hby, hml, hown, hnm, hret, hlk⟩ := C
  replace hown : s.vm.findClass "java/lang/Math" = some m.cls := hown
  replace hml : c.maxLocals = 4 := hml
  replace hret : meth.sig.returnType = (some .long) := hret
  have N0 := Fr.nil n0
  refine own_cast (ef_7 m y0 y1) ?_
  refine own_st (T' := s₁) (g' := (mkF m 3 #[.val (.long y0), .second, .val (.long y1), .second] [(.int (lcmpW y0 y1))])) (fun t k => XS.lloadN (g := (mkF m 0 #[.val (.long y0), .second, .val (.long y1), .second] [])) X0.here hx rfl (hb hby d7_0) rfl (XS.lloadN (g := (mkF m 1 #[.val (.long y0), .second, .val (.long y1), .second] [(.long y0)])) X0.here hx rfl (hb hby d7_1) rfl (XS.lcmp (g := (mkF m 2 #[.val (.long y0), .second, .val (.long y1), .second] [(.long y1), (.long y0)])) X0.here hx rfl (hb hby d7_2) rfl k))) ?_
  by_cases hc3_4 : y0 < y1
  · refine own_st (T' := s₁) (g' := (mkF m 11 #[.val (.long y0), .second, .val (.long y1), .second] [(.long y1)])) (fun t k => XS.ifYes (g := (mkF m 3 #[.val (.long y0), .second, .val (.long y1), .second] [(.int (lcmpW y0 y1))])) X0.here hx rfl (pc0 := 3) (pc' := 10) rfl (hb hby d7_3) rfl ((if0 _ _).trans (tlt ((lw_lt _ _).mpr hc3_4)).1) (by decide) (by decide) (XS.lloadN (g := (mkF m 10 #[.val (.long y0), .second, .val (.long y1), .second] [])) X0.here hx rfl (hb hby d7_10) rfl k)) ?_
    refine own_retJ X0 hx hlk hret (hb hby d7_11) ?_ (by decide) (by decide)
    refine ⟨?_, N0, e0⟩
    simp [own_maxJ, *]
  · refine own_st (T' := s₁) (g' := (mkF m 11 #[.val (.long y0), .second, .val (.long y1), .second] [(.long y0)])) (fun t k => XS.ifNo (g := (mkF m 3 #[.val (.long y0), .second, .val (.long y1), .second] [(.int (lcmpW y0 y1))])) X0.here hx rfl (hb hby d7_3) rfl ((if0 _ _).trans (flt (mt (lw_lt _ _).mp hc3_4)).1) (XS.lloadN (g := (mkF m 6 #[.val (.long y0), .second, .val (.long y1), .second] [])) X0.here hx rfl (hb hby d7_6) rfl (XS.goto (g := (mkF m 7 #[.val (.long y0), .second, .val (.long y1), .second] [(.long y0)])) X0.here hx rfl (pc0 := 7) (pc' := 11) rfl (hb hby d7_7) (by decide) (by decide) k))) ?_
    refine own_retJ X0 hx hlk hret (hb hby d7_11) ?_ (by decide) (by decide)
    refine ⟨?_, N0, e0⟩
    simp [own_maxJ, *]
def own_ct (lo hi : Int32) (c : Int64) : Int32 := if c < lo.toInt64 then 0 else if hi.toInt64 < c then 0 else 1
theorem own_le (a b : Int32) : ¬ own_maxI a b < own_minI a b := by
  unfold own_maxI own_minI
  simp only [Int32.lt_iff_toInt_lt]
  split <;> split <;> omega
theorem own_cl {lo hi : Int32} (h : ¬ hi < lo) (c : Int64) : own_ct lo hi c = if own_maxJ lo.toInt64 (own_minJ hi.toInt64 c) = c then 1 else 0 := by
  unfold own_ct own_maxJ own_minJ
  simp only [Int32.lt_iff_toInt_lt, Int64.lt_iff_toInt_lt, ← Int64.toInt_inj] at *
  have h1 := Jvm.Kit.i64_of_i32 lo
  have h2 := Jvm.Kit.i64_of_i32 hi
  by_cases q1 : c.toInt < lo.toInt64.toInt <;> by_cases q2 : hi.toInt64.toInt < c.toInt <;> simp only [q1, q2, if_true, if_false] <;> split <;> split <;> first | rfl | (exfalso; omega) | skip
  all_goals (split <;> first | rfl | (exfalso; omega))
theorem own_rng (x : Int32) : -2147483648 ≤ x.toInt ∧ x.toInt ≤ 2147483647 := by
  have h1 := Int32.le_toInt x
  have h2 := Int32.toInt_lt x
  omega
theorem own_c1 {lo hi : Int32} (h : ¬ hi < lo) : own_ct lo hi lo.toInt64 = 1 := by
  unfold own_ct
  simp only [Int32.lt_iff_toInt_lt, Int64.lt_iff_toInt_lt, Jvm.Kit.i64_of_i32] at *
  rw [if_neg (by omega), if_neg (by omega)]
theorem own_c2 {lo hi : Int32} (h : ¬ hi < lo) : own_ct lo hi hi.toInt64 = 1 := by
  unfold own_ct
  simp only [Int32.lt_iff_toInt_lt, Int64.lt_iff_toInt_lt, Jvm.Kit.i64_of_i32] at *
  rw [if_neg (by omega), if_neg (by omega)]
theorem own_c3 {lo hi : Int32} (h : ¬ hi < lo) : own_ct lo hi (lo.toInt64 - 1) = 0 := by
  unfold own_ct
  have r := own_rng lo
  have e : (lo.toInt64 - 1).toInt = lo.toInt - 1 := by
    have := Jvm.Kit.i64_sub (x := lo.toInt64) (y := 1) (by rw [Jvm.Kit.i64_of_i32]; show -2 ^ 63 ≤ lo.toInt - 1; omega) (by rw [Jvm.Kit.i64_of_i32]; show lo.toInt - 1 < 2 ^ 63; omega)
    rw [this, Jvm.Kit.i64_of_i32]; rfl
  simp only [Int32.lt_iff_toInt_lt, Int64.lt_iff_toInt_lt, Jvm.Kit.i64_of_i32, e] at *
  rw [if_pos (by omega)]
theorem own_c4 {lo hi : Int32} (h : ¬ hi < lo) : own_ct lo hi (hi.toInt64 + 1) = 0 := by
  unfold own_ct
  have r := own_rng hi
  have e : (hi.toInt64 + 1).toInt = hi.toInt + 1 := by
    have := Jvm.Kit.i64_add (x := hi.toInt64) (y := 1) (by rw [Jvm.Kit.i64_of_i32]; show -2 ^ 63 ≤ hi.toInt + 1; omega) (by rw [Jvm.Kit.i64_of_i32]; show hi.toInt + 1 < 2 ^ 63; omega)
    rw [this, Jvm.Kit.i64_of_i32]; rfl
  simp only [Int32.lt_iff_toInt_lt, Int64.lt_iff_toInt_lt, Jvm.Kit.i64_of_i32, e] at *
  split
  · rfl
  · rw [if_pos (by omega)]
theorem own_c5 {lo hi : Int32} (h : ¬ hi < lo) : own_ct lo hi (lo.toInt64 + (hi.toInt64 - lo.toInt64) / 2) = 1 := by
  unfold own_ct
  have r := own_rng hi
  have r2 := own_rng lo
  simp only [Int32.lt_iff_toInt_lt] at h
  have e1 : (hi.toInt64 - lo.toInt64).toInt = hi.toInt - lo.toInt := by
    have := Jvm.Kit.i64_sub (x := hi.toInt64) (y := lo.toInt64) (by rw [Jvm.Kit.i64_of_i32, Jvm.Kit.i64_of_i32]; omega) (by rw [Jvm.Kit.i64_of_i32, Jvm.Kit.i64_of_i32]; omega)
    rw [this, Jvm.Kit.i64_of_i32, Jvm.Kit.i64_of_i32]
  have e2 : ((hi.toInt64 - lo.toInt64) / 2).toInt = (hi.toInt - lo.toInt) / 2 := by
    rw [Jvm.Kit.i64_div (by rintro ⟨-, q⟩; exact absurd q (by decide)), e1]
    show (hi.toInt - lo.toInt).tdiv 2 = _
    rw [Int.tdiv_eq_ediv_of_nonneg (by omega)]
  have e3 : (lo.toInt64 + (hi.toInt64 - lo.toInt64) / 2).toInt = lo.toInt + (hi.toInt - lo.toInt) / 2 := by
    have := Jvm.Kit.i64_add (x := lo.toInt64) (y := (hi.toInt64 - lo.toInt64) / 2) (by rw [Jvm.Kit.i64_of_i32, e2]; omega) (by rw [Jvm.Kit.i64_of_i32, e2]; omega)
    rw [this, Jvm.Kit.i64_of_i32, e2]
  simp only [Int64.lt_iff_toInt_lt, Jvm.Kit.i64_of_i32, e3]
  rw [if_neg (by omega), if_neg (by omega)]
theorem pn_4 : plainName "java/lang/Record" = true := by first | (simp [plainName, overriddenIn]; done) | decide +kernel
theorem ef_4 (m : MethodId) (x0 : Addr) : entryFrame m #[(.ref x0)] 1 = mkF m 0 #[.val (.ref x0)] [] := by first | (simp [entryFrame, mkF, argsToLocals, Value.category]; done) | rfl
set_option maxRecDepth 65536 in
set_option maxHeartbeats 40000000 in
theorem own_rm4 (l : Launch) (Z : State) (a0 : Array Value) (hw : ∀ d ∈ tables_1, d.before a0 Z = true) (a : Addr)  (h0 : Heap) (n0 : Nat) (Z0 : n0 ≤ h0.size) :
    own_Ct l Z (⟨"java/lang/Record", "<init>", "()V"⟩ : MethodName) jdk_30_method_1_code 1 none ({ frames := 1, cells := 0, slots := 0, locals := 12 } : Room) #[(.ref a)] h0 (fun v h L => v = none ∧ Fr n0 L ∧ h = h0) := by
  refine own_enter (plainFor_of_name pn_4) ?_
  intro p e s m below meth c s₁ X0 C e0
  obtain ⟨hx, hZ, hby, hml, hown, hnm, hret, hlk⟩ := C
  replace hown : s.vm.findClass "java/lang/Record" = some m.cls := hown
  replace hml : c.maxLocals = 1 := hml
  replace hret : meth.sig.returnType = none := hret
  have N0 := Fr.nil n0
  refine own_cast (ef_4 m a) ?_
  refine own_st (T' := s₁) (g' := (mkF m 1 #[.val (.ref a)] [(.ref a)])) (fun t k => XS.aloadN (g := (mkF m 0 #[.val (.ref a)] [])) X0.here hx rfl (hb hby d4_0) rfl rfl k) ?_
  obtain ⟨T5, X5, e5, st5⟩ := initO X0 hx hZ hown (hw _ (List.mem_of_getElem? (i := 18) rfl)) (hw _ (List.mem_of_getElem? (i := 19) rfl)) (hw _ (List.mem_of_getElem? (i := 20) rfl)) e0 (g := (mkF m 1 #[.val (.ref a)] [(.ref a)])) rfl (by rw [hml]; rfl) rfl (hb hby d4_1) (by decide) (W := 0) (by show 2 * 0 + _ ≤ _; exact Nat.le_of_eq rfl) (by decide)
  refine own_st (g' := (mkF m 4 #[.val (.ref a)] [])) st5 ?_
  refine own_retV X5 hx hlk hret (hb hby d4_4) ?_ (by decide) (by decide)
  refine ⟨?_, N0, e5⟩
  rfl
theorem pn_3 : plainName "com/example/planscribe/planscribe/model/CountRange" = true := by first | (simp [plainName, overriddenIn]; done) | decide +kernel
theorem ef_3 (m : MethodId) (x0 : Addr) (x1 : Int32) (x2 : Int32) : entryFrame m #[(.ref x0), (.int x1), (.int x2)] 3 = mkF m 0 #[.val (.ref x0), .val (.int x1), .val (.int x2)] [] := by first | (simp [entryFrame, mkF, argsToLocals, Value.category]; done) | rfl
set_option maxRecDepth 65536 in
set_option maxHeartbeats 40000000 in
theorem own_rm3 (l : Launch) (Z : State) (a0 : Array Value) (hw : ∀ d ∈ tables_1, d.before a0 Z = true) (a : Addr) (k1 : Int32) (k2 : Int32)  (h0 : Heap) (n0 : Nat) (Z0 : n0 ≤ h0.size) (ga : n0 ≤ a) (E_a : Exa Z h0 a "com/example/planscribe/planscribe/model/CountRange") (F_least : Fld Z h0 a "com/example/planscribe/planscribe/model/CountRange" "least" "I" (.int (0 : Int32))) (F_most : Fld Z h0 a "com/example/planscribe/planscribe/model/CountRange" "most" "I" (.int (0 : Int32))) (hlt : ¬ (k2 < k1)) :
    own_Ct l Z (⟨"com/example/planscribe/planscribe/model/CountRange", "<init>", "(II)V"⟩ : MethodName) prog_108_method_1_code 3 none ({ frames := 2, cells := 0, slots := 0, locals := 24 } : Room) #[(.ref a), (.int k1), (.int k2)] h0 (fun v h L => v = none ∧ Fr n0 L ∧ Keep h0 h [a] ∧ Exa Z h a "com/example/planscribe/planscribe/model/CountRange" ∧ Fld Z h a "com/example/planscribe/planscribe/model/CountRange" "least" "I" (.int k1) ∧ Fld Z h a "com/example/planscribe/planscribe/model/CountRange" "most" "I" (.int k2)) := by
  refine own_enter (plainFor_of_name pn_3) ?_
  intro p e s m below meth c s₁ X0 C e0
  obtain ⟨hx, hZ, hby, hml, hown, hnm, hret, hlk⟩ := C
  replace hown : s.vm.findClass "com/example/planscribe/planscribe/model/CountRange" = some m.cls := hown
  replace hml : c.maxLocals = 3 := hml
  replace hret : meth.sig.returnType = none := hret
  have N0 := Fr.nil n0
  refine own_cast (ef_3 m a k1 k2) ?_
  refine own_st (T' := s₁) (g' := (mkF m 1 #[.val (.ref a), .val (.int k1), .val (.int k2)] [(.ref a)])) (fun t k => XS.aloadN (g := (mkF m 0 #[.val (.ref a), .val (.int k1), .val (.int k2)] [])) X0.here hx rfl (hb hby d3_0) rfl rfl k) ?_
  refine own_callI X0 hx hZ (y := (⟨"java/lang/Record", "<init>", "()V"⟩ : MethodName)) (argsL := []) (a := a) rfl hown (hw _ (List.mem_of_getElem? (i := 13) rfl)) (hw _ (List.mem_of_getElem? (i := 14) rfl)) (hw _ (List.mem_of_getElem? (i := 16) rfl)) (hw _ (List.mem_of_getElem? (i := 17) rfl)) (by decide) e0 (own_rm4 l Z a0 hw a  h0 n0 (Nat.le_trans Z0 (Nat.le_refl _)) ) (W := 0) (by decide) (by decide) (by decide) (by decide) pd0 rfl (g := (mkF m 1 #[.val (.ref a), .val (.int k1), .val (.int k2)] [(.ref a)])) rfl (by rw [hml]; rfl) (rest := []) rfl (by show 2 * 0 + _ ≤ _; exact Nat.le_of_eq rfl) (hb hby d3_1) (fun v13 T13 L13 X13 q13 => ?_)
  obtain ⟨rfl, N13q, e13⟩ := q13
  have N13 := Fr.app N0 N13q
  replace e13 := e13
  show own_Go _ _ _ _ _ _ _ T13 (mkF m 4 #[.val (.ref a), .val (.int k1), .val (.int k2)] [])
  refine own_st (T' := T13) (g' := (mkF m 26 #[.val (.ref a), .val (.int k1), .val (.int k2)] [(.int k1), (.ref a)])) (fun t k => XS.iloadN (g := (mkF m 4 #[.val (.ref a), .val (.int k1), .val (.int k2)] [])) X13.here hx rfl (hb hby d3_4) rfl (XS.iloadN (g := (mkF m 5 #[.val (.ref a), .val (.int k1), .val (.int k2)] [(.int k2)])) X13.here hx rfl (hb hby d3_5) rfl (XS.icmpYes (g := (mkF m 6 #[.val (.ref a), .val (.int k1), .val (.int k2)] [(.int k1), (.int k2)])) X13.here hx rfl (pc0 := 6) (pc' := 24) rfl (hb hby d3_6) rfl (flt hlt).2.1 (by decide) (by decide) (XS.aloadN (g := (mkF m 24 #[.val (.ref a), .val (.int k1), .val (.int k2)] [])) X13.here hx rfl (hb hby d3_24) rfl rfl (XS.iloadN (g := (mkF m 25 #[.val (.ref a), .val (.int k1), .val (.int k2)] [(.ref a)])) X13.here hx rfl (hb hby d3_25) rfl k))))) ?_
  obtain ⟨T14, h14, X14, e14, W14, st14⟩ := putF X13 hx hZ hown (host := "") (Or.inl (hw _ (List.mem_of_getElem? (i := 21) rfl))) Via.refl e13 F_least E_a (Or.inr ⟨(hw _ (List.mem_of_getElem? (i := 22) rfl)), rfl, hnm⟩) (hw _ (List.mem_of_getElem? (i := 8) rfl)) (ty := .int) (by decide) rfl rfl (g := (mkF m 26 #[.val (.ref a), .val (.int k1), .val (.int k2)] [(.int k1), (.ref a)])) rfl rfl (hb hby d3_26)
  refine own_st (g' := (mkF m 29 #[.val (.ref a), .val (.int k1), .val (.int k2)] [])) st14 ?_
  have F14 := Fld.same W14 F_least
  have N14 := Fr.snoc X14 N13 ga
  refine own_st (T' := T14) (g' := (mkF m 31 #[.val (.ref a), .val (.int k1), .val (.int k2)] [(.int k2), (.ref a)])) (fun t k => XS.aloadN (g := (mkF m 29 #[.val (.ref a), .val (.int k1), .val (.int k2)] [])) X14.here hx rfl (hb hby d3_29) rfl rfl (XS.iloadN (g := (mkF m 30 #[.val (.ref a), .val (.int k1), .val (.int k2)] [(.ref a)])) X14.here hx rfl (hb hby d3_30) rfl k)) ?_
  have Ea_15 := (Exa.wr W14 E_a)
  have Fa_most_16 := (Fld.other W14 F_most (Or.inr (slot_ne (C := "com/example/planscribe/planscribe/model/CountRange") (t := .int) (t' := .int) (Or.inr (hw _ (List.mem_of_getElem? (i := 24) rfl))) (Or.inr (hw _ (List.mem_of_getElem? (i := 22) rfl))) (by decide) (by decide) (by decide))))
  obtain ⟨T17, h17, X17, e17, W17, st17⟩ := putF X14 hx hZ hown (host := "") (Or.inl (hw _ (List.mem_of_getElem? (i := 23) rfl))) Via.refl e14 Fa_most_16 Ea_15 (Or.inr ⟨(hw _ (List.mem_of_getElem? (i := 24) rfl)), rfl, hnm⟩) (hw _ (List.mem_of_getElem? (i := 8) rfl)) (ty := .int) (by decide) rfl rfl (g := (mkF m 31 #[.val (.ref a), .val (.int k1), .val (.int k2)] [(.int k2), (.ref a)])) rfl rfl (hb hby d3_31)
  refine own_st (g' := (mkF m 34 #[.val (.ref a), .val (.int k1), .val (.int k2)] [])) st17 ?_
  have F17 := Fld.same W17 Fa_most_16
  have N17 := Fr.snoc X17 N14 ga
  refine own_retV X17 hx hlk hret (hb hby d3_34) ?_ (by decide) (by decide)
  have Fa_least_18 := (Fld.other W17 F14 (Or.inr (slot_ne (C := "com/example/planscribe/planscribe/model/CountRange") (t := .int) (t' := .int) (Or.inr (hw _ (List.mem_of_getElem? (i := 22) rfl))) (Or.inr (hw _ (List.mem_of_getElem? (i := 24) rfl))) (by decide) (by decide) (by decide))))
  have Ea_19 := (Exa.wr W17 Ea_15)
  rw [e17]
  exact ⟨rfl, N17, (Keep.wr (Keep.wr (Keep.refl _ _) W14 (Or.inl (List.mem_of_getElem? (i := 0) rfl))) W17 (Or.inl (List.mem_of_getElem? (i := 0) rfl))), Ea_19, Fa_least_18, F17⟩
theorem pn_8 : plainName "com/example/planscribe/planscribe/model/CountRange" = true := by first | (simp [plainName, overriddenIn]; done) | decide +kernel
theorem ef_8 (m : MethodId) (x0 : Addr) (x1 : Int64) : entryFrame m #[(.ref x0), (.long x1)] 3 = mkF m 0 #[.val (.ref x0), .val (.long x1), .second] [] := by first | (simp [entryFrame, mkF, argsToLocals, Value.category]; done) | rfl
set_option maxRecDepth 65536 in
set_option maxHeartbeats 40000000 in
theorem own_rm8 (l : Launch) (Z : State) (a0 : Array Value) (hw : ∀ d ∈ tables_1, d.before a0 Z = true) (a : Addr) (y0 : Int64) (k1 k2 : Int32) (h0 : Heap) (n0 : Nat) (Z0 : n0 ≤ h0.size) (F1 : Fld Z h0 a "com/example/planscribe/planscribe/model/CountRange" "least" "I" (.int k1)) (F2 : Fld Z h0 a "com/example/planscribe/planscribe/model/CountRange" "most" "I" (.int k2)) :
    own_Ct l Z (⟨"com/example/planscribe/planscribe/model/CountRange", "contains", "(J)Z"⟩ : MethodName) prog_108_method_2_code 3 (some .boolean) ({ frames := 0, cells := 0, slots := 0, locals := 0 } : Room) #[(.ref a), (.long y0)] h0 (fun v h L => v = some (.int (own_ct k1 k2 y0)) ∧ Fr n0 L ∧ h = h0) := by
  refine own_enter (plainFor_of_name pn_8) ?_
  intro p e s m below meth c s₁ X0 C e0
  obtain ⟨hx, hZ, hby, hml, hown, hnm, hret, hlk⟩ := C
  replace hown : s.vm.findClass "com/example/planscribe/planscribe/model/CountRange" = some m.cls := hown
  replace hml : c.maxLocals = 3 := hml
  replace hret : meth.sig.returnType = (some .boolean) := hret
  have N0 := Fr.nil n0
  refine own_cast (ef_8 m a y0) ?_
  refine own_st (T' := s₁) (g' := (mkF m 1 #[.val (.ref a), .val (.long y0), .second] [(.ref a)])) (fun t k => XS.aloadN (g := (mkF m 0 #[.val (.ref a), .val (.long y0), .second] [])) X0.here hx rfl (hb hby d8_0) rfl rfl k) ?_
  obtain ⟨T20, X20, e20, st20⟩ := getF X0 hx hZ hown (host := "") (Or.inl (hw _ (List.mem_of_getElem? (i := 21) rfl))) Via.refl e0 F1 (g := (mkF m 1 #[.val (.ref a), .val (.long y0), .second] [(.ref a)])) rfl rfl (hb hby d8_1)
  refine own_st (g' := (mkF m 4 #[.val (.ref a), .val (.long y0), .second] [(.int k1)])) st20 ?_
  refine own_st (T' := T20) (g' := (mkF m 7 #[.val (.ref a), .val (.long y0), .second] [(.int (lcmpW (k1.toInt64) y0))])) (fun t k => XS.i2l (g := (mkF m 4 #[.val (.ref a), .val (.long y0), .second] [(.int k1)])) X20.here hx rfl (hb hby d8_4) rfl (XS.lloadN (g := (mkF m 5 #[.val (.ref a), .val (.long y0), .second] [(.long (k1.toInt64))])) X20.here hx rfl (hb hby d8_5) rfl (XS.lcmp (g := (mkF m 6 #[.val (.ref a), .val (.long y0), .second] [(.long y0), (.long (k1.toInt64))])) X20.here hx rfl (hb hby d8_6) rfl k))) ?_
  by_cases hc7_21 : y0 < (k1.toInt64)
  · refine own_st (T' := T20) (g' := (mkF m 25 #[.val (.ref a), .val (.long y0), .second] [(.int (0 : Int32))])) (fun t k => XS.ifYes (g := (mkF m 7 #[.val (.ref a), .val (.long y0), .second] [(.int (lcmpW (k1.toInt64) y0))])) X20.here hx rfl (pc0 := 7) (pc' := 24) rfl (hb hby d8_7) rfl ((if0 _ _).trans (tlt ((lw_gt _ _).mpr hc7_21)).2.2.1) (by decide) (by decide) (XS.iconst (g := (mkF m 24 #[.val (.ref a), .val (.long y0), .second] [])) X20.here hx rfl (hb hby d8_24) k)) ?_
    refine own_retI X20 hx hlk hret (by simp) rfl (hb hby d8_25) ?_ (by decide) (by decide)
    refine ⟨?_, N0, e20⟩
    simp [own_ct, *]
  · refine own_st (T' := T20) (g' := (mkF m 12 #[.val (.ref a), .val (.long y0), .second] [(.ref a), (.long y0)])) (fun t k => XS.ifNo (g := (mkF m 7 #[.val (.ref a), .val (.long y0), .second] [(.int (lcmpW (k1.toInt64) y0))])) X20.here hx rfl (hb hby d8_7) rfl ((if0 _ _).trans (flt (mt (lw_gt _ _).mp hc7_21)).2.2.1) (XS.lloadN (g := (mkF m 10 #[.val (.ref a), .val (.long y0), .second] [])) X20.here hx rfl (hb hby d8_10) rfl (XS.aloadN (g := (mkF m 11 #[.val (.ref a), .val (.long y0), .second] [(.long y0)])) X20.here hx rfl (hb hby d8_11) rfl rfl k))) ?_
    obtain ⟨T22, X22, e22, st22⟩ := getF X20 hx hZ hown (host := "") (Or.inl (hw _ (List.mem_of_getElem? (i := 23) rfl))) Via.refl e20 F2 (g := (mkF m 12 #[.val (.ref a), .val (.long y0), .second] [(.ref a), (.long y0)])) rfl rfl (hb hby d8_12)
    refine own_st (g' := (mkF m 15 #[.val (.ref a), .val (.long y0), .second] [(.int k2), (.long y0)])) st22 ?_
    refine own_st (T' := T22) (g' := (mkF m 17 #[.val (.ref a), .val (.long y0), .second] [(.int (lcmpW y0 (k2.toInt64)))])) (fun t k => XS.i2l (g := (mkF m 15 #[.val (.ref a), .val (.long y0), .second] [(.int k2), (.long y0)])) X22.here hx rfl (hb hby d8_15) rfl (XS.lcmp (g := (mkF m 16 #[.val (.ref a), .val (.long y0), .second] [(.long (k2.toInt64)), (.long y0)])) X22.here hx rfl (hb hby d8_16) rfl k)) ?_
    by_cases hc17_23 : (k2.toInt64) < y0
    · refine own_st (T' := T22) (g' := (mkF m 25 #[.val (.ref a), .val (.long y0), .second] [(.int (0 : Int32))])) (fun t k => XS.ifYes (g := (mkF m 17 #[.val (.ref a), .val (.long y0), .second] [(.int (lcmpW y0 (k2.toInt64)))])) X22.here hx rfl (pc0 := 17) (pc' := 24) rfl (hb hby d8_17) rfl ((if0 _ _).trans (tlt ((lw_gt _ _).mpr hc17_23)).2.2.1) (by decide) (by decide) (XS.iconst (g := (mkF m 24 #[.val (.ref a), .val (.long y0), .second] [])) X22.here hx rfl (hb hby d8_24) k)) ?_
      refine own_retI X22 hx hlk hret (by simp) rfl (hb hby d8_25) ?_ (by decide) (by decide)
      refine ⟨?_, N0, e22⟩
      simp [own_ct, *]
    · refine own_st (T' := T22) (g' := (mkF m 25 #[.val (.ref a), .val (.long y0), .second] [(.int (1 : Int32))])) (fun t k => XS.ifNo (g := (mkF m 17 #[.val (.ref a), .val (.long y0), .second] [(.int (lcmpW y0 (k2.toInt64)))])) X22.here hx rfl (hb hby d8_17) rfl ((if0 _ _).trans (flt (mt (lw_gt _ _).mp hc17_23)).2.2.1) (XS.iconst (g := (mkF m 20 #[.val (.ref a), .val (.long y0), .second] [])) X22.here hx rfl (hb hby d8_20) (XS.goto (g := (mkF m 21 #[.val (.ref a), .val (.long y0), .second] [(.int (1 : Int32))])) X22.here hx rfl (pc0 := 21) (pc' := 25) rfl (hb hby d8_21) (by decide) (by decide) k))) ?_
      refine own_retI X22 hx hlk hret (by simp) rfl (hb hby d8_25) ?_ (by decide) (by decide)
      refine ⟨?_, N0, e22⟩
      simp [own_ct, *]
theorem pn_0 : plainName "com/example/planscribe/planscribe/model/CountRangeContainsPinLaw" = true := by first | (simp [plainName, overriddenIn]; done) | decide +kernel
theorem ef_0 (m : MethodId) (x0 : Int32) (x1 : Int32) (x2 : Int64) : entryFrame m #[(.int x0), (.int x1), (.long x2)] maxLocals = mkF m 0 #[.val (.int x0), .val (.int x1), .val (.long x2), .second, .unset, .unset, .unset, .unset, .unset, .unset, .unset, .unset, .unset, .unset, .unset, .unset] [] := by first | (simp [entryFrame, mkF, argsToLocals, Value.category, maxLocals]; done) | rfl
set_option maxRecDepth 65536 in
set_option maxHeartbeats 40000000 in
theorem own_rm0 (l : Launch) (Z : State) (a0 : Array Value) (hw : ∀ d ∈ tables_1, d.before a0 Z = true) (p0 : Int32) (p1 : Int32) (p2 : Int64)  (h0 : Heap) (n0 : Nat) (Z0 : n0 ≤ h0.size) :
    own_Ct l Z x code maxLocals ret room_1 #[(.int p0), (.int p1), (.long p2)] h0 (fun v h L => v = some (.int 1) ∧ Fr n0 L) := by
  refine own_enter (plainFor_of_name pn_0) ?_
  intro p e s m below meth c s₁ X0 C e0
  obtain ⟨hx, hZ, hby, hml, hown, hnm, hret, hlk⟩ := C
  replace hown : s.vm.findClass "com/example/planscribe/planscribe/model/CountRangeContainsPinLaw" = some m.cls := hown
  replace hml : c.maxLocals = 16 := hml
  replace hret : meth.sig.returnType = (some .boolean) := hret
  have N0 := Fr.nil n0
  refine own_cast (ef_0 m p0 p1 p2) ?_
  refine own_st (T' := s₁) (g' := (mkF m 2 #[.val (.int p0), .val (.int p1), .val (.long p2), .second, .unset, .unset, .unset, .unset, .unset, .unset, .unset, .unset, .unset, .unset, .unset, .unset] [(.int p1), (.int p0)])) (fun t k => XS.iloadN (g := (mkF m 0 #[.val (.int p0), .val (.int p1), .val (.long p2), .second, .unset, .unset, .unset, .unset, .unset, .unset, .unset, .unset, .unset, .unset, .unset, .unset] [])) X0.here hx rfl (hb hby at_0) rfl (XS.iloadN (g := (mkF m 1 #[.val (.int p0), .val (.int p1), .val (.long p2), .second, .unset, .unset, .unset, .unset, .unset, .unset, .unset, .unset, .unset, .unset, .unset, .unset] [(.int p0)])) X0.here hx rfl (hb hby at_1) rfl k)) ?_
  refine own_callS X0 hx hZ (y := (⟨"java/lang/Math", "min", "(II)I"⟩ : MethodName)) (argsL := [(.int p0), (.int p1)]) hown (hw _ (List.mem_of_getElem? (i := 0) rfl)) (hw _ (List.mem_of_getElem? (i := 1) rfl)) (hw _ (List.mem_of_getElem? (i := 2) rfl)) (hw _ (List.mem_of_getElem? (i := 3) rfl)) (by decide) e0 (own_rm1 l Z a0 hw p0 p1  h0 n0 (Nat.le_trans Z0 (Nat.le_refl _)) ) (W := 0) (by decide) (by decide) (by decide) (by decide) pd1 rfl (g := (mkF m 2 #[.val (.int p0), .val (.int p1), .val (.long p2), .second, .unset, .unset, .unset, .unset, .unset, .unset, .unset, .unset, .unset, .unset, .unset, .unset] [(.int p1), (.int p0)])) rfl (by rw [hml]; rfl) (rest := []) rfl (by show 2 * 0 + _ ≤ _; exact Nat.le_of_eq rfl) (hb hby at_2) (fun v24 T24 L24 X24 q24 => ?_)
  obtain ⟨rfl, N24q, e24⟩ := q24
  have N24 := Fr.app N0 N24q
  replace e24 := e24
  show own_Go _ _ _ _ _ _ _ T24 (mkF m 5 #[.val (.int p0), .val (.int p1), .val (.long p2), .second, .unset, .unset, .unset, .unset, .unset, .unset, .unset, .unset, .unset, .unset, .unset, .unset] [(.int (own_minI p0 p1))])
  refine own_st (T' := T24) (g' := (mkF m 7 #[.val (.int p0), .val (.int p1), .val (.long p2), .second, .val (.int (own_minI p0 p1)), .unset, .unset, .unset, .unset, .unset, .unset, .unset, .unset, .unset, .unset, .unset] [])) (fun t k => XS.istore (g := (mkF m 5 #[.val (.int p0), .val (.int p1), .val (.long p2), .second, .unset, .unset, .unset, .unset, .unset, .unset, .unset, .unset, .unset, .unset, .unset, .unset] [(.int (own_minI p0 p1))])) X24.here hx rfl (hb hby at_5) rfl (l' := #[.val (.int p0), .val (.int p1), .val (.long p2), .second, .val (.int (own_minI p0 p1)), .unset, .unset, .unset, .unset, .unset, .unset, .unset, .unset, .unset, .unset, .unset]) rfl k) ?_
  generalize hu25 : (own_minI p0 p1) = u25
  refine own_st (T' := T24) (g' := (mkF m 9 #[.val (.int p0), .val (.int p1), .val (.long p2), .second, .val (.int u25), .unset, .unset, .unset, .unset, .unset, .unset, .unset, .unset, .unset, .unset, .unset] [(.int p1), (.int p0)])) (fun t k => XS.iloadN (g := (mkF m 7 #[.val (.int p0), .val (.int p1), .val (.long p2), .second, .val (.int u25), .unset, .unset, .unset, .unset, .unset, .unset, .unset, .unset, .unset, .unset, .unset] [])) X24.here hx rfl (hb hby at_7) rfl (XS.iloadN (g := (mkF m 8 #[.val (.int p0), .val (.int p1), .val (.long p2), .second, .val (.int u25), .unset, .unset, .unset, .unset, .unset, .unset, .unset, .unset, .unset, .unset, .unset] [(.int p0)])) X24.here hx rfl (hb hby at_8) rfl k)) ?_
  refine own_callS X24 hx hZ (y := (⟨"java/lang/Math", "max", "(II)I"⟩ : MethodName)) (argsL := [(.int p0), (.int p1)]) hown (hw _ (List.mem_of_getElem? (i := 4) rfl)) (hw _ (List.mem_of_getElem? (i := 5) rfl)) (hw _ (List.mem_of_getElem? (i := 2) rfl)) (hw _ (List.mem_of_getElem? (i := 6) rfl)) (by decide) e24 (own_rm2 l Z a0 hw p0 p1  h0 n0 (Nat.le_trans Z0 (Nat.le_refl _)) ) (W := 0) (by decide) (by decide) (by decide) (by decide) pd1 rfl (g := (mkF m 9 #[.val (.int p0), .val (.int p1), .val (.long p2), .second, .val (.int u25), .unset, .unset, .unset, .unset, .unset, .unset, .unset, .unset, .unset, .unset, .unset] [(.int p1), (.int p0)])) rfl (by rw [hml]; rfl) (rest := []) rfl (by show 2 * 0 + _ ≤ _; exact Nat.le_of_eq rfl) (hb hby at_9) (fun v26 T26 L26 X26 q26 => ?_)
  obtain ⟨rfl, N26q, e26⟩ := q26
  have N26 := Fr.app N24 N26q
  replace e26 := e26
  show own_Go _ _ _ _ _ _ _ T26 (mkF m 12 #[.val (.int p0), .val (.int p1), .val (.long p2), .second, .val (.int u25), .unset, .unset, .unset, .unset, .unset, .unset, .unset, .unset, .unset, .unset, .unset] [(.int (own_maxI p0 p1))])
  refine own_st (T' := T26) (g' := (mkF m 14 #[.val (.int p0), .val (.int p1), .val (.long p2), .second, .val (.int u25), .val (.int (own_maxI p0 p1)), .unset, .unset, .unset, .unset, .unset, .unset, .unset, .unset, .unset, .unset] [])) (fun t k => XS.istore (g := (mkF m 12 #[.val (.int p0), .val (.int p1), .val (.long p2), .second, .val (.int u25), .unset, .unset, .unset, .unset, .unset, .unset, .unset, .unset, .unset, .unset, .unset] [(.int (own_maxI p0 p1))])) X26.here hx rfl (hb hby at_12) rfl (l' := #[.val (.int p0), .val (.int p1), .val (.long p2), .second, .val (.int u25), .val (.int (own_maxI p0 p1)), .unset, .unset, .unset, .unset, .unset, .unset, .unset, .unset, .unset, .unset]) rfl k) ?_
  generalize hu27 : (own_maxI p0 p1) = u27
  have hle : ¬ (u27 < u25) := by rw [← hu25, ← hu27]; exact own_le _ _
  obtain ⟨T28, h28, b28, X28, e28, g28, E28, C28, D28, st28⟩ := own_newO X26 hx hZ hown (hw _ (List.mem_of_getElem? (i := 7) rfl)) (hw _ (List.mem_of_getElem? (i := 8) rfl)) (hw _ (List.mem_of_getElem? (i := 9) rfl)) e26 (by decide) (by decide) (g := (mkF m 14 #[.val (.int p0), .val (.int p1), .val (.long p2), .second, .val (.int u25), .val (.int u27), .unset, .unset, .unset, .unset, .unset, .unset, .unset, .unset, .unset, .unset] [])) rfl (hb hby at_14)
  refine own_st (g' := (mkF m 17 #[.val (.int p0), .val (.int p1), .val (.long p2), .second, .val (.int u25), .val (.int u27), .unset, .unset, .unset, .unset, .unset, .unset, .unset, .unset, .unset, .unset] [(.ref b28)])) st28 ?_
  have F28_least : Fld Z h28 b28 "com/example/planscribe/planscribe/model/CountRange" "least" "I" (.int (0 : Int32)) := D28 (Or.inr (hw _ (List.mem_of_getElem? (i := 22) rfl))) (ty := .int) (by decide)
  have F28_most : Fld Z h28 b28 "com/example/planscribe/planscribe/model/CountRange" "most" "I" (.int (0 : Int32)) := D28 (Or.inr (hw _ (List.mem_of_getElem? (i := 24) rfl))) (ty := .int) (by decide)
  refine own_st (T' := T28) (g' := (mkF m 22 #[.val (.int p0), .val (.int p1), .val (.long p2), .second, .val (.int u25), .val (.int u27), .unset, .unset, .unset, .unset, .unset, .unset, .unset, .unset, .unset, .unset] [(.int u27), (.int u25), (.ref b28), (.ref b28)])) (fun t k => XS.dup (g := (mkF m 17 #[.val (.int p0), .val (.int p1), .val (.long p2), .second, .val (.int u25), .val (.int u27), .unset, .unset, .unset, .unset, .unset, .unset, .unset, .unset, .unset, .unset] [(.ref b28)])) X28.here hx rfl (hb hby at_17) rfl rfl (XS.iload (g := (mkF m 18 #[.val (.int p0), .val (.int p1), .val (.long p2), .second, .val (.int u25), .val (.int u27), .unset, .unset, .unset, .unset, .unset, .unset, .unset, .unset, .unset, .unset] [(.ref b28), (.ref b28)])) X28.here hx rfl (hb hby at_18) rfl (XS.iload (g := (mkF m 20 #[.val (.int p0), .val (.int p1), .val (.long p2), .second, .val (.int u25), .val (.int u27), .unset, .unset, .unset, .unset, .unset, .unset, .unset, .unset, .unset, .unset] [(.int u25), (.ref b28), (.ref b28)])) X28.here hx rfl (hb hby at_20) rfl k))) ?_
  have n0_b28 : n0 ≤ b28 := Nat.le_trans (Nat.le_trans Z0 (Nat.le_refl _)) (Nat.le_of_eq g28.symm)
  refine own_callI X28 hx hZ (y := (⟨"com/example/planscribe/planscribe/model/CountRange", "<init>", "(II)V"⟩ : MethodName)) (argsL := [(.int u25), (.int u27)]) (a := b28) rfl hown (hw _ (List.mem_of_getElem? (i := 10) rfl)) (hw _ (List.mem_of_getElem? (i := 11) rfl)) (hw _ (List.mem_of_getElem? (i := 9) rfl)) (hw _ (List.mem_of_getElem? (i := 12) rfl)) (by decide) e28 (own_rm3 l Z a0 hw b28 u25 u27  h28 n0 (Nat.le_trans Z0 E28.1) n0_b28 C28 F28_least F28_most hle) (W := 1) (by decide) (by decide) (by decide) (by decide) pd2 rfl (g := (mkF m 22 #[.val (.int p0), .val (.int p1), .val (.long p2), .second, .val (.int u25), .val (.int u27), .unset, .unset, .unset, .unset, .unset, .unset, .unset, .unset, .unset, .unset] [(.int u27), (.int u25), (.ref b28), (.ref b28)])) rfl (by rw [hml]; rfl) (rest := [(.ref b28)]) rfl (by show 2 * 0 + _ ≤ _; exact Nat.le_of_eq rfl) (hb hby at_22) (fun v29 T29 L29 X29 q29 => ?_)
  obtain ⟨h29, e29⟩ : ∃ z, T29.heap = z := ⟨_, rfl⟩
  rw [e29] at q29
  obtain ⟨rfl, N29q, K29, E29, F29_least, F29_most⟩ := q29
  have N29 := Fr.app N26 N29q
  show own_Go _ _ _ _ _ _ _ T29 (mkF m 25 #[.val (.int p0), .val (.int p1), .val (.long p2), .second, .val (.int u25), .val (.int u27), .unset, .unset, .unset, .unset, .unset, .unset, .unset, .unset, .unset, .unset] [(.ref b28)])
  refine own_st (T' := T29) (g' := (mkF m 32 #[.val (.int p0), .val (.int p1), .val (.long p2), .second, .val (.int u25), .val (.int u27), .val (.ref b28), .val (.long (u25.toInt64)), .second, .unset, .unset, .unset, .unset, .unset, .unset, .unset] [])) (fun t k => XS.astore (g := (mkF m 25 #[.val (.int p0), .val (.int p1), .val (.long p2), .second, .val (.int u25), .val (.int u27), .unset, .unset, .unset, .unset, .unset, .unset, .unset, .unset, .unset, .unset] [(.ref b28)])) X29.here hx rfl (hb hby at_25) rfl rfl (l' := #[.val (.int p0), .val (.int p1), .val (.long p2), .second, .val (.int u25), .val (.int u27), .val (.ref b28), .unset, .unset, .unset, .unset, .unset, .unset, .unset, .unset, .unset]) rfl (XS.iload (g := (mkF m 27 #[.val (.int p0), .val (.int p1), .val (.long p2), .second, .val (.int u25), .val (.int u27), .val (.ref b28), .unset, .unset, .unset, .unset, .unset, .unset, .unset, .unset, .unset] [])) X29.here hx rfl (hb hby at_27) rfl (XS.i2l (g := (mkF m 29 #[.val (.int p0), .val (.int p1), .val (.long p2), .second, .val (.int u25), .val (.int u27), .val (.ref b28), .unset, .unset, .unset, .unset, .unset, .unset, .unset, .unset, .unset] [(.int u25)])) X29.here hx rfl (hb hby at_29) rfl (XS.lstore (g := (mkF m 30 #[.val (.int p0), .val (.int p1), .val (.long p2), .second, .val (.int u25), .val (.int u27), .val (.ref b28), .unset, .unset, .unset, .unset, .unset, .unset, .unset, .unset, .unset] [(.long (u25.toInt64))])) X29.here hx rfl (hb hby at_30) rfl (l' := #[.val (.int p0), .val (.int p1), .val (.long p2), .second, .val (.int u25), .val (.int u27), .val (.ref b28), .val (.long (u25.toInt64)), .second, .unset, .unset, .unset, .unset, .unset, .unset, .unset]) rfl k)))) ?_
  generalize hu30 : (u25.toInt64) = u30
  refine own_st (T' := T29) (g' := (mkF m 37 #[.val (.int p0), .val (.int p1), .val (.long p2), .second, .val (.int u25), .val (.int u27), .val (.ref b28), .val (.long u30), .second, .val (.long (u27.toInt64)), .second, .unset, .unset, .unset, .unset, .unset] [])) (fun t k => XS.iload (g := (mkF m 32 #[.val (.int p0), .val (.int p1), .val (.long p2), .second, .val (.int u25), .val (.int u27), .val (.ref b28), .val (.long u30), .second, .unset, .unset, .unset, .unset, .unset, .unset, .unset] [])) X29.here hx rfl (hb hby at_32) rfl (XS.i2l (g := (mkF m 34 #[.val (.int p0), .val (.int p1), .val (.long p2), .second, .val (.int u25), .val (.int u27), .val (.ref b28), .val (.long u30), .second, .unset, .unset, .unset, .unset, .unset, .unset, .unset] [(.int u27)])) X29.here hx rfl (hb hby at_34) rfl (XS.lstore (g := (mkF m 35 #[.val (.int p0), .val (.int p1), .val (.long p2), .second, .val (.int u25), .val (.int u27), .val (.ref b28), .val (.long u30), .second, .unset, .unset, .unset, .unset, .unset, .unset, .unset] [(.long (u27.toInt64))])) X29.here hx rfl (hb hby at_35) rfl (l' := #[.val (.int p0), .val (.int p1), .val (.long p2), .second, .val (.int u25), .val (.int u27), .val (.ref b28), .val (.long u30), .second, .val (.long (u27.toInt64)), .second, .unset, .unset, .unset, .unset, .unset]) rfl k))) ?_
  generalize hu31 : (u27.toInt64) = u31
  refine own_st (T' := T29) (g' := (mkF m 42 #[.val (.int p0), .val (.int p1), .val (.long p2), .second, .val (.int u25), .val (.int u27), .val (.ref b28), .val (.long u30), .second, .val (.long u31), .second, .unset, .unset, .unset, .unset, .unset] [(.long p2), (.long u31), (.long u30)])) (fun t k => XS.lload (g := (mkF m 37 #[.val (.int p0), .val (.int p1), .val (.long p2), .second, .val (.int u25), .val (.int u27), .val (.ref b28), .val (.long u30), .second, .val (.long u31), .second, .unset, .unset, .unset, .unset, .unset] [])) X29.here hx rfl (hb hby at_37) rfl (XS.lload (g := (mkF m 39 #[.val (.int p0), .val (.int p1), .val (.long p2), .second, .val (.int u25), .val (.int u27), .val (.ref b28), .val (.long u30), .second, .val (.long u31), .second, .unset, .unset, .unset, .unset, .unset] [(.long u30)])) X29.here hx rfl (hb hby at_39) rfl (XS.lloadN (g := (mkF m 41 #[.val (.int p0), .val (.int p1), .val (.long p2), .second, .val (.int u25), .val (.int u27), .val (.ref b28), .val (.long u30), .second, .val (.long u31), .second, .unset, .unset, .unset, .unset, .unset] [(.long u31), (.long u30)])) X29.here hx rfl (hb hby at_41) rfl k))) ?_
  refine own_callS X29 hx hZ (y := (⟨"java/lang/Math", "min", "(JJ)J"⟩ : MethodName)) (argsL := [(.long u31), (.long p2)]) hown (hw _ (List.mem_of_getElem? (i := 25) rfl)) (hw _ (List.mem_of_getElem? (i := 26) rfl)) (hw _ (List.mem_of_getElem? (i := 2) rfl)) (hw _ (List.mem_of_getElem? (i := 27) rfl)) (by decide) e29 (own_rm6 l Z a0 hw u31 p2  h29 n0 (Nat.le_trans Z0 (Nat.le_trans E28.1 K29.1)) ) (W := 2) (by decide) (by decide) (by decide) (by decide) pd3 rfl (g := (mkF m 42 #[.val (.int p0), .val (.int p1), .val (.long p2), .second, .val (.int u25), .val (.int u27), .val (.ref b28), .val (.long u30), .second, .val (.long u31), .second, .unset, .unset, .unset, .unset, .unset] [(.long p2), (.long u31), (.long u30)])) rfl (by rw [hml]; rfl) (rest := [(.long u30)]) rfl (by show 2 * 0 + _ ≤ _; exact Nat.le_of_eq rfl) (hb hby at_42) (fun v32 T32 L32 X32 q32 => ?_)
  obtain ⟨rfl, N32q, e32⟩ := q32
  have N32 := Fr.app N29 N32q
  replace e32 := e32
  show own_Go _ _ _ _ _ _ _ T32 (mkF m 45 #[.val (.int p0), .val (.int p1), .val (.long p2), .second, .val (.int u25), .val (.int u27), .val (.ref b28), .val (.long u30), .second, .val (.long u31), .second, .unset, .unset, .unset, .unset, .unset] [(.long (own_minJ u31 p2)), (.long u30)])
  refine own_callS X32 hx hZ (y := (⟨"java/lang/Math", "max", "(JJ)J"⟩ : MethodName)) (argsL := [(.long u30), (.long (own_minJ u31 p2))]) hown (hw _ (List.mem_of_getElem? (i := 28) rfl)) (hw _ (List.mem_of_getElem? (i := 29) rfl)) (hw _ (List.mem_of_getElem? (i := 2) rfl)) (hw _ (List.mem_of_getElem? (i := 30) rfl)) (by decide) e32 (own_rm7 l Z a0 hw u30 (own_minJ u31 p2)  h29 n0 (Nat.le_trans Z0 (Nat.le_trans E28.1 K29.1)) ) (W := 0) (by decide) (by decide) (by decide) (by decide) pd3 rfl (g := (mkF m 45 #[.val (.int p0), .val (.int p1), .val (.long p2), .second, .val (.int u25), .val (.int u27), .val (.ref b28), .val (.long u30), .second, .val (.long u31), .second, .unset, .unset, .unset, .unset, .unset] [(.long (own_minJ u31 p2)), (.long u30)])) rfl (by rw [hml]; rfl) (rest := []) rfl (by show 2 * 0 + _ ≤ _; exact Nat.le_of_eq rfl) (hb hby at_45) (fun v33 T33 L33 X33 q33 => ?_)
  obtain ⟨rfl, N33q, e33⟩ := q33
  have N33 := Fr.app N32 N33q
  replace e33 := e33
  show own_Go _ _ _ _ _ _ _ T33 (mkF m 48 #[.val (.int p0), .val (.int p1), .val (.long p2), .second, .val (.int u25), .val (.int u27), .val (.ref b28), .val (.long u30), .second, .val (.long u31), .second, .unset, .unset, .unset, .unset, .unset] [(.long (own_maxJ u30 (own_minJ u31 p2)))])
  refine own_st (T' := T33) (g' := (mkF m 50 #[.val (.int p0), .val (.int p1), .val (.long p2), .second, .val (.int u25), .val (.int u27), .val (.ref b28), .val (.long u30), .second, .val (.long u31), .second, .val (.long (own_maxJ u30 (own_minJ u31 p2))), .second, .unset, .unset, .unset] [])) (fun t k => XS.lstore (g := (mkF m 48 #[.val (.int p0), .val (.int p1), .val (.long p2), .second, .val (.int u25), .val (.int u27), .val (.ref b28), .val (.long u30), .second, .val (.long u31), .second, .unset, .unset, .unset, .unset, .unset] [(.long (own_maxJ u30 (own_minJ u31 p2)))])) X33.here hx rfl (hb hby at_48) rfl (l' := #[.val (.int p0), .val (.int p1), .val (.long p2), .second, .val (.int u25), .val (.int u27), .val (.ref b28), .val (.long u30), .second, .val (.long u31), .second, .val (.long (own_maxJ u30 (own_minJ u31 p2))), .second, .unset, .unset, .unset]) rfl k) ?_
  generalize hu34 : (own_maxJ u30 (own_minJ u31 p2)) = u34
  refine own_st (T' := T33) (g' := (mkF m 53 #[.val (.int p0), .val (.int p1), .val (.long p2), .second, .val (.int u25), .val (.int u27), .val (.ref b28), .val (.long u30), .second, .val (.long u31), .second, .val (.long u34), .second, .unset, .unset, .unset] [(.long p2), (.ref b28)])) (fun t k => XS.aload (g := (mkF m 50 #[.val (.int p0), .val (.int p1), .val (.long p2), .second, .val (.int u25), .val (.int u27), .val (.ref b28), .val (.long u30), .second, .val (.long u31), .second, .val (.long u34), .second, .unset, .unset, .unset] [])) X33.here hx rfl (hb hby at_50) rfl rfl (XS.lloadN (g := (mkF m 52 #[.val (.int p0), .val (.int p1), .val (.long p2), .second, .val (.int u25), .val (.int u27), .val (.ref b28), .val (.long u30), .second, .val (.long u31), .second, .val (.long u34), .second, .unset, .unset, .unset] [(.ref b28)])) X33.here hx rfl (hb hby at_52) rfl k)) ?_
  refine own_callV X33 hx hZ (y := (⟨"com/example/planscribe/planscribe/model/CountRange", "contains", "(J)Z"⟩ : MethodName)) (z := (⟨"com/example/planscribe/planscribe/model/CountRange", "contains", "(J)Z"⟩ : MethodName)) (argsL := [(.long p2)]) (a := b28) hown (hw _ (List.mem_of_getElem? (i := 31) rfl)) (hw _ (List.mem_of_getElem? (i := 32) rfl)) (notFace_of_selects (args := #[]) (mvT hZ (hw _ (List.mem_of_getElem? (i := 34) rfl)))) (hw _ (List.mem_of_getElem? (i := 34) rfl)) (hw _ (List.mem_of_getElem? (i := 33) rfl)) (hw _ (List.mem_of_getElem? (i := 9) rfl)) (hw _ (List.mem_of_getElem? (i := 35) rfl)) (by decide) e33 E29 (own_rm8 l Z a0 hw b28 p2 u25 u27 h29 n0 (Nat.le_trans Z0 (Nat.le_trans E28.1 K29.1)) F29_least F29_most) (W := 0) (by decide) (by decide) (by decide) (by decide) pd4 rfl (g := (mkF m 53 #[.val (.int p0), .val (.int p1), .val (.long p2), .second, .val (.int u25), .val (.int u27), .val (.ref b28), .val (.long u30), .second, .val (.long u31), .second, .val (.long u34), .second, .unset, .unset, .unset] [(.long p2), (.ref b28)])) rfl (by rw [hml]; rfl) (rest := []) rfl (by show 2 * 0 + _ ≤ _; exact Nat.le_of_eq rfl) (hb hby at_53) (fun v35 T35 L35 X35 q35 => ?_)
  obtain ⟨rfl, N35q, e35⟩ := q35
  have N35 := Fr.app N33 N35q
  replace e35 := e35
  show own_Go _ _ _ _ _ _ _ T35 (mkF m 56 #[.val (.int p0), .val (.int p1), .val (.long p2), .second, .val (.int u25), .val (.int u27), .val (.ref b28), .val (.long u30), .second, .val (.long u31), .second, .val (.long u34), .second, .unset, .unset, .unset] [(.int (own_ct u25 u27 p2))])
  refine own_st (T' := T35) (g' := (mkF m 60 #[.val (.int p0), .val (.int p1), .val (.long p2), .second, .val (.int u25), .val (.int u27), .val (.ref b28), .val (.long u30), .second, .val (.long u31), .second, .val (.long u34), .second, .unset, .unset, .unset] [(.int (lcmpW u34 p2)), (.int (own_ct u25 u27 p2))])) (fun t k => XS.lload (g := (mkF m 56 #[.val (.int p0), .val (.int p1), .val (.long p2), .second, .val (.int u25), .val (.int u27), .val (.ref b28), .val (.long u30), .second, .val (.long u31), .second, .val (.long u34), .second, .unset, .unset, .unset] [(.int (own_ct u25 u27 p2))])) X35.here hx rfl (hb hby at_56) rfl (XS.lloadN (g := (mkF m 58 #[.val (.int p0), .val (.int p1), .val (.long p2), .second, .val (.int u25), .val (.int u27), .val (.ref b28), .val (.long u30), .second, .val (.long u31), .second, .val (.long u34), .second, .unset, .unset, .unset] [(.long u34), (.int (own_ct u25 u27 p2))])) X35.here hx rfl (hb hby at_58) rfl (XS.lcmp (g := (mkF m 59 #[.val (.int p0), .val (.int p1), .val (.long p2), .second, .val (.int u25), .val (.int u27), .val (.ref b28), .val (.long u30), .second, .val (.long u31), .second, .val (.long u34), .second, .unset, .unset, .unset] [(.long p2), (.long u34), (.int (own_ct u25 u27 p2))])) X35.here hx rfl (hb hby at_59) rfl k))) ?_
  suffices J68_v36 : ∀ v36 : Int32, v36 = (if u34 = p2 then (1 : Int32) else (0 : Int32)) → own_Go p e below s (fun v h L => v = some (.int 1) ∧ Fr n0 L) room_1.cells room_1.slots T35 (mkF m 68 #[.val (.int p0), .val (.int p1), .val (.long p2), .second, .val (.int u25), .val (.int u27), .val (.ref b28), .val (.long u30), .second, .val (.long u31), .second, .val (.long u34), .second, .unset, .unset, .unset] [(.int v36), (.int (own_ct u25 u27 p2))]) by
    by_cases hc60_37 : u34 = p2
    · refine own_st (T' := T35) (g' := (mkF m 68 #[.val (.int p0), .val (.int p1), .val (.long p2), .second, .val (.int u25), .val (.int u27), .val (.ref b28), .val (.long u30), .second, .val (.long u31), .second, .val (.long u34), .second, .unset, .unset, .unset] [(.int (1 : Int32)), (.int (own_ct u25 u27 p2))])) (fun t k => XS.ifNo (g := (mkF m 60 #[.val (.int p0), .val (.int p1), .val (.long p2), .second, .val (.int u25), .val (.int u27), .val (.ref b28), .val (.long u30), .second, .val (.long u31), .second, .val (.long u34), .second, .unset, .unset, .unset] [(.int (lcmpW u34 p2)), (.int (own_ct u25 u27 p2))])) X35.here hx rfl (hb hby at_60) rfl ((if0 _ _).trans (teq ((lw_eq _ _).mpr hc60_37)).2) (XS.iconst (g := (mkF m 63 #[.val (.int p0), .val (.int p1), .val (.long p2), .second, .val (.int u25), .val (.int u27), .val (.ref b28), .val (.long u30), .second, .val (.long u31), .second, .val (.long u34), .second, .unset, .unset, .unset] [(.int (own_ct u25 u27 p2))])) X35.here hx rfl (hb hby at_63) (XS.goto (g := (mkF m 64 #[.val (.int p0), .val (.int p1), .val (.long p2), .second, .val (.int u25), .val (.int u27), .val (.ref b28), .val (.long u30), .second, .val (.long u31), .second, .val (.long u34), .second, .unset, .unset, .unset] [(.int (1 : Int32)), (.int (own_ct u25 u27 p2))])) X35.here hx rfl (pc0 := 64) (pc' := 68) rfl (hb hby at_64) (by decide) (by decide) k))) ?_
      exact J68_v36 _ ((if_pos hc60_37).symm)
    · refine own_st (T' := T35) (g' := (mkF m 68 #[.val (.int p0), .val (.int p1), .val (.long p2), .second, .val (.int u25), .val (.int u27), .val (.ref b28), .val (.long u30), .second, .val (.long u31), .second, .val (.long u34), .second, .unset, .unset, .unset] [(.int (0 : Int32)), (.int (own_ct u25 u27 p2))])) (fun t k => XS.ifYes (g := (mkF m 60 #[.val (.int p0), .val (.int p1), .val (.long p2), .second, .val (.int u25), .val (.int u27), .val (.ref b28), .val (.long u30), .second, .val (.long u31), .second, .val (.long u34), .second, .unset, .unset, .unset] [(.int (lcmpW u34 p2)), (.int (own_ct u25 u27 p2))])) X35.here hx rfl (pc0 := 60) (pc' := 67) rfl (hb hby at_60) rfl ((if0 _ _).trans (feq (mt (lw_eq _ _).mp hc60_37)).2) (by decide) (by decide) (XS.iconst (g := (mkF m 67 #[.val (.int p0), .val (.int p1), .val (.long p2), .second, .val (.int u25), .val (.int u27), .val (.ref b28), .val (.long u30), .second, .val (.long u31), .second, .val (.long u34), .second, .unset, .unset, .unset] [(.int (own_ct u25 u27 p2))])) X35.here hx rfl (hb hby at_67) k)) ?_
      exact J68_v36 _ ((if_neg hc60_37).symm)
  intro v36 hv36
  have hb38 : (own_ct u25 u27 p2) = v36 := by rw [own_cl hle, hu30, hu31, hu34, hv36]
  refine own_st (T' := T35) (g' := (mkF m 87 #[.val (.int p0), .val (.int p1), .val (.long p2), .second, .val (.int u25), .val (.int u27), .val (.ref b28), .val (.long u30), .second, .val (.long u31), .second, .val (.long u34), .second, .val (.int (1 : Int32)), .unset, .unset] [(.long u30), (.ref b28)])) (fun t k => XS.icmpNo (g := (mkF m 68 #[.val (.int p0), .val (.int p1), .val (.long p2), .second, .val (.int u25), .val (.int u27), .val (.ref b28), .val (.long u30), .second, .val (.long u31), .second, .val (.long u34), .second, .unset, .unset, .unset] [(.int v36), (.int (own_ct u25 u27 p2))])) X35.here hx rfl (hb hby at_68) rfl (teq hb38).2 (XS.iconst (g := (mkF m 71 #[.val (.int p0), .val (.int p1), .val (.long p2), .second, .val (.int u25), .val (.int u27), .val (.ref b28), .val (.long u30), .second, .val (.long u31), .second, .val (.long u34), .second, .unset, .unset, .unset] [])) X35.here hx rfl (hb hby at_71) (XS.goto (g := (mkF m 72 #[.val (.int p0), .val (.int p1), .val (.long p2), .second, .val (.int u25), .val (.int u27), .val (.ref b28), .val (.long u30), .second, .val (.long u31), .second, .val (.long u34), .second, .unset, .unset, .unset] [(.int (1 : Int32))])) X35.here hx rfl (pc0 := 72) (pc' := 76) rfl (hb hby at_72) (by decide) (by decide) (XS.istore (g := (mkF m 76 #[.val (.int p0), .val (.int p1), .val (.long p2), .second, .val (.int u25), .val (.int u27), .val (.ref b28), .val (.long u30), .second, .val (.long u31), .second, .val (.long u34), .second, .unset, .unset, .unset] [(.int (1 : Int32))])) X35.here hx rfl (hb hby at_76) rfl (l' := #[.val (.int p0), .val (.int p1), .val (.long p2), .second, .val (.int u25), .val (.int u27), .val (.ref b28), .val (.long u30), .second, .val (.long u31), .second, .val (.long u34), .second, .val (.int (1 : Int32)), .unset, .unset]) rfl (XS.iload (g := (mkF m 78 #[.val (.int p0), .val (.int p1), .val (.long p2), .second, .val (.int u25), .val (.int u27), .val (.ref b28), .val (.long u30), .second, .val (.long u31), .second, .val (.long u34), .second, .val (.int (1 : Int32)), .unset, .unset] [])) X35.here hx rfl (hb hby at_78) rfl (XS.ifNo (g := (mkF m 80 #[.val (.int p0), .val (.int p1), .val (.long p2), .second, .val (.int u25), .val (.int u27), .val (.ref b28), .val (.long u30), .second, .val (.long u31), .second, .val (.long u34), .second, .val (.int (1 : Int32)), .unset, .unset] [(.int (1 : Int32))])) X35.here hx rfl (hb hby at_80) rfl ((if0 _ _).trans (feq (by decide : ¬ ((1 : Int32) = (0 : Int32)))).1) (XS.aload (g := (mkF m 83 #[.val (.int p0), .val (.int p1), .val (.long p2), .second, .val (.int u25), .val (.int u27), .val (.ref b28), .val (.long u30), .second, .val (.long u31), .second, .val (.long u34), .second, .val (.int (1 : Int32)), .unset, .unset] [])) X35.here hx rfl (hb hby at_83) rfl rfl (XS.lload (g := (mkF m 85 #[.val (.int p0), .val (.int p1), .val (.long p2), .second, .val (.int u25), .val (.int u27), .val (.ref b28), .val (.long u30), .second, .val (.long u31), .second, .val (.long u34), .second, .val (.int (1 : Int32)), .unset, .unset] [(.ref b28)])) X35.here hx rfl (hb hby at_85) rfl k)))))))) ?_
  refine own_callV X35 hx hZ (y := (⟨"com/example/planscribe/planscribe/model/CountRange", "contains", "(J)Z"⟩ : MethodName)) (z := (⟨"com/example/planscribe/planscribe/model/CountRange", "contains", "(J)Z"⟩ : MethodName)) (argsL := [(.long u30)]) (a := b28) hown (hw _ (List.mem_of_getElem? (i := 31) rfl)) (hw _ (List.mem_of_getElem? (i := 32) rfl)) (notFace_of_selects (args := #[]) (mvT hZ (hw _ (List.mem_of_getElem? (i := 34) rfl)))) (hw _ (List.mem_of_getElem? (i := 34) rfl)) (hw _ (List.mem_of_getElem? (i := 33) rfl)) (hw _ (List.mem_of_getElem? (i := 9) rfl)) (hw _ (List.mem_of_getElem? (i := 35) rfl)) (by decide) e35 E29 (own_rm8 l Z a0 hw b28 u30 u25 u27 h29 n0 (Nat.le_trans Z0 (Nat.le_trans E28.1 K29.1)) F29_least F29_most) (W := 0) (by decide) (by decide) (by decide) (by decide) pd4 rfl (g := (mkF m 87 #[.val (.int p0), .val (.int p1), .val (.long p2), .second, .val (.int u25), .val (.int u27), .val (.ref b28), .val (.long u30), .second, .val (.long u31), .second, .val (.long u34), .second, .val (.int (1 : Int32)), .unset, .unset] [(.long u30), (.ref b28)])) rfl (by rw [hml]; rfl) (rest := []) rfl (by show 2 * 0 + _ ≤ _; exact Nat.le_of_eq rfl) (hb hby at_87) (fun v39 T39 L39 X39 q39 => ?_)
  obtain ⟨rfl, N39q, e39⟩ := q39
  have N39 := Fr.app N35 N39q
  replace e39 := e39
  show own_Go _ _ _ _ _ _ _ T39 (mkF m 90 #[.val (.int p0), .val (.int p1), .val (.long p2), .second, .val (.int u25), .val (.int u27), .val (.ref b28), .val (.long u30), .second, .val (.long u31), .second, .val (.long u34), .second, .val (.int (1 : Int32)), .unset, .unset] [(.int (own_ct u25 u27 u30))])
  have hb40 : ¬ ((own_ct u25 u27 u30) = (0 : Int32)) := by rw [← hu30, own_c1 hle]; decide
  refine own_st (T' := T39) (g' := (mkF m 109 #[.val (.int p0), .val (.int p1), .val (.long p2), .second, .val (.int u25), .val (.int u27), .val (.ref b28), .val (.long u30), .second, .val (.long u31), .second, .val (.long u34), .second, .val (.int (1 : Int32)), .unset, .unset] [(.long u31), (.ref b28)])) (fun t k => XS.ifNo (g := (mkF m 90 #[.val (.int p0), .val (.int p1), .val (.long p2), .second, .val (.int u25), .val (.int u27), .val (.ref b28), .val (.long u30), .second, .val (.long u31), .second, .val (.long u34), .second, .val (.int (1 : Int32)), .unset, .unset] [(.int (own_ct u25 u27 u30))])) X39.here hx rfl (hb hby at_90) rfl ((if0 _ _).trans (feq hb40).1) (XS.iconst (g := (mkF m 93 #[.val (.int p0), .val (.int p1), .val (.long p2), .second, .val (.int u25), .val (.int u27), .val (.ref b28), .val (.long u30), .second, .val (.long u31), .second, .val (.long u34), .second, .val (.int (1 : Int32)), .unset, .unset] [])) X39.here hx rfl (hb hby at_93) (XS.goto (g := (mkF m 94 #[.val (.int p0), .val (.int p1), .val (.long p2), .second, .val (.int u25), .val (.int u27), .val (.ref b28), .val (.long u30), .second, .val (.long u31), .second, .val (.long u34), .second, .val (.int (1 : Int32)), .unset, .unset] [(.int (1 : Int32))])) X39.here hx rfl (pc0 := 94) (pc' := 98) rfl (hb hby at_94) (by decide) (by decide) (XS.istore (g := (mkF m 98 #[.val (.int p0), .val (.int p1), .val (.long p2), .second, .val (.int u25), .val (.int u27), .val (.ref b28), .val (.long u30), .second, .val (.long u31), .second, .val (.long u34), .second, .val (.int (1 : Int32)), .unset, .unset] [(.int (1 : Int32))])) X39.here hx rfl (hb hby at_98) rfl (l' := #[.val (.int p0), .val (.int p1), .val (.long p2), .second, .val (.int u25), .val (.int u27), .val (.ref b28), .val (.long u30), .second, .val (.long u31), .second, .val (.long u34), .second, .val (.int (1 : Int32)), .unset, .unset]) rfl (XS.iload (g := (mkF m 100 #[.val (.int p0), .val (.int p1), .val (.long p2), .second, .val (.int u25), .val (.int u27), .val (.ref b28), .val (.long u30), .second, .val (.long u31), .second, .val (.long u34), .second, .val (.int (1 : Int32)), .unset, .unset] [])) X39.here hx rfl (hb hby at_100) rfl (XS.ifNo (g := (mkF m 102 #[.val (.int p0), .val (.int p1), .val (.long p2), .second, .val (.int u25), .val (.int u27), .val (.ref b28), .val (.long u30), .second, .val (.long u31), .second, .val (.long u34), .second, .val (.int (1 : Int32)), .unset, .unset] [(.int (1 : Int32))])) X39.here hx rfl (hb hby at_102) rfl ((if0 _ _).trans (feq (by decide : ¬ ((1 : Int32) = (0 : Int32)))).1) (XS.aload (g := (mkF m 105 #[.val (.int p0), .val (.int p1), .val (.long p2), .second, .val (.int u25), .val (.int u27), .val (.ref b28), .val (.long u30), .second, .val (.long u31), .second, .val (.long u34), .second, .val (.int (1 : Int32)), .unset, .unset] [])) X39.here hx rfl (hb hby at_105) rfl rfl (XS.lload (g := (mkF m 107 #[.val (.int p0), .val (.int p1), .val (.long p2), .second, .val (.int u25), .val (.int u27), .val (.ref b28), .val (.long u30), .second, .val (.long u31), .second, .val (.long u34), .second, .val (.int (1 : Int32)), .unset, .unset] [(.ref b28)])) X39.here hx rfl (hb hby at_107) rfl k)))))))) ?_
  refine own_callV X39 hx hZ (y := (⟨"com/example/planscribe/planscribe/model/CountRange", "contains", "(J)Z"⟩ : MethodName)) (z := (⟨"com/example/planscribe/planscribe/model/CountRange", "contains", "(J)Z"⟩ : MethodName)) (argsL := [(.long u31)]) (a := b28) hown (hw _ (List.mem_of_getElem? (i := 31) rfl)) (hw _ (List.mem_of_getElem? (i := 32) rfl)) (notFace_of_selects (args := #[]) (mvT hZ (hw _ (List.mem_of_getElem? (i := 34) rfl)))) (hw _ (List.mem_of_getElem? (i := 34) rfl)) (hw _ (List.mem_of_getElem? (i := 33) rfl)) (hw _ (List.mem_of_getElem? (i := 9) rfl)) (hw _ (List.mem_of_getElem? (i := 35) rfl)) (by decide) e39 E29 (own_rm8 l Z a0 hw b28 u31 u25 u27 h29 n0 (Nat.le_trans Z0 (Nat.le_trans E28.1 K29.1)) F29_least F29_most) (W := 0) (by decide) (by decide) (by decide) (by decide) pd4 rfl (g := (mkF m 109 #[.val (.int p0), .val (.int p1), .val (.long p2), .second, .val (.int u25), .val (.int u27), .val (.ref b28), .val (.long u30), .second, .val (.long u31), .second, .val (.long u34), .second, .val (.int (1 : Int32)), .unset, .unset] [(.long u31), (.ref b28)])) rfl (by rw [hml]; rfl) (rest := []) rfl (by show 2 * 0 + _ ≤ _; exact Nat.le_of_eq rfl) (hb hby at_109) (fun v41 T41 L41 X41 q41 => ?_)
  obtain ⟨rfl, N41q, e41⟩ := q41
  have N41 := Fr.app N39 N41q
  replace e41 := e41
  show own_Go _ _ _ _ _ _ _ T41 (mkF m 112 #[.val (.int p0), .val (.int p1), .val (.long p2), .second, .val (.int u25), .val (.int u27), .val (.ref b28), .val (.long u30), .second, .val (.long u31), .second, .val (.long u34), .second, .val (.int (1 : Int32)), .unset, .unset] [(.int (own_ct u25 u27 u31))])
  have hb42 : ¬ ((own_ct u25 u27 u31) = (0 : Int32)) := by rw [← hu31, own_c2 hle]; decide
  refine own_st (T' := T41) (g' := (mkF m 133 #[.val (.int p0), .val (.int p1), .val (.long p2), .second, .val (.int u25), .val (.int u27), .val (.ref b28), .val (.long u30), .second, .val (.long u31), .second, .val (.long u34), .second, .val (.int (1 : Int32)), .unset, .unset] [(.long (u30 - (1 : Int64))), (.ref b28)])) (fun t k => XS.ifNo (g := (mkF m 112 #[.val (.int p0), .val (.int p1), .val (.long p2), .second, .val (.int u25), .val (.int u27), .val (.ref b28), .val (.long u30), .second, .val (.long u31), .second, .val (.long u34), .second, .val (.int (1 : Int32)), .unset, .unset] [(.int (own_ct u25 u27 u31))])) X41.here hx rfl (hb hby at_112) rfl ((if0 _ _).trans (feq hb42).1) (XS.iconst (g := (mkF m 115 #[.val (.int p0), .val (.int p1), .val (.long p2), .second, .val (.int u25), .val (.int u27), .val (.ref b28), .val (.long u30), .second, .val (.long u31), .second, .val (.long u34), .second, .val (.int (1 : Int32)), .unset, .unset] [])) X41.here hx rfl (hb hby at_115) (XS.goto (g := (mkF m 116 #[.val (.int p0), .val (.int p1), .val (.long p2), .second, .val (.int u25), .val (.int u27), .val (.ref b28), .val (.long u30), .second, .val (.long u31), .second, .val (.long u34), .second, .val (.int (1 : Int32)), .unset, .unset] [(.int (1 : Int32))])) X41.here hx rfl (pc0 := 116) (pc' := 120) rfl (hb hby at_116) (by decide) (by decide) (XS.istore (g := (mkF m 120 #[.val (.int p0), .val (.int p1), .val (.long p2), .second, .val (.int u25), .val (.int u27), .val (.ref b28), .val (.long u30), .second, .val (.long u31), .second, .val (.long u34), .second, .val (.int (1 : Int32)), .unset, .unset] [(.int (1 : Int32))])) X41.here hx rfl (hb hby at_120) rfl (l' := #[.val (.int p0), .val (.int p1), .val (.long p2), .second, .val (.int u25), .val (.int u27), .val (.ref b28), .val (.long u30), .second, .val (.long u31), .second, .val (.long u34), .second, .val (.int (1 : Int32)), .unset, .unset]) rfl (XS.iload (g := (mkF m 122 #[.val (.int p0), .val (.int p1), .val (.long p2), .second, .val (.int u25), .val (.int u27), .val (.ref b28), .val (.long u30), .second, .val (.long u31), .second, .val (.long u34), .second, .val (.int (1 : Int32)), .unset, .unset] [])) X41.here hx rfl (hb hby at_122) rfl (XS.ifNo (g := (mkF m 124 #[.val (.int p0), .val (.int p1), .val (.long p2), .second, .val (.int u25), .val (.int u27), .val (.ref b28), .val (.long u30), .second, .val (.long u31), .second, .val (.long u34), .second, .val (.int (1 : Int32)), .unset, .unset] [(.int (1 : Int32))])) X41.here hx rfl (hb hby at_124) rfl ((if0 _ _).trans (feq (by decide : ¬ ((1 : Int32) = (0 : Int32)))).1) (XS.aload (g := (mkF m 127 #[.val (.int p0), .val (.int p1), .val (.long p2), .second, .val (.int u25), .val (.int u27), .val (.ref b28), .val (.long u30), .second, .val (.long u31), .second, .val (.long u34), .second, .val (.int (1 : Int32)), .unset, .unset] [])) X41.here hx rfl (hb hby at_127) rfl rfl (XS.lload (g := (mkF m 129 #[.val (.int p0), .val (.int p1), .val (.long p2), .second, .val (.int u25), .val (.int u27), .val (.ref b28), .val (.long u30), .second, .val (.long u31), .second, .val (.long u34), .second, .val (.int (1 : Int32)), .unset, .unset] [(.ref b28)])) X41.here hx rfl (hb hby at_129) rfl (XS.lconst (g := (mkF m 131 #[.val (.int p0), .val (.int p1), .val (.long p2), .second, .val (.int u25), .val (.int u27), .val (.ref b28), .val (.long u30), .second, .val (.long u31), .second, .val (.long u34), .second, .val (.int (1 : Int32)), .unset, .unset] [(.long u30), (.ref b28)])) X41.here hx rfl (hb hby at_131) (XS.lsub (g := (mkF m 132 #[.val (.int p0), .val (.int p1), .val (.long p2), .second, .val (.int u25), .val (.int u27), .val (.ref b28), .val (.long u30), .second, .val (.long u31), .second, .val (.long u34), .second, .val (.int (1 : Int32)), .unset, .unset] [(.long (1 : Int64)), (.long u30), (.ref b28)])) X41.here hx rfl (hb hby at_132) rfl k)))))))))) ?_
  refine own_callV X41 hx hZ (y := (⟨"com/example/planscribe/planscribe/model/CountRange", "contains", "(J)Z"⟩ : MethodName)) (z := (⟨"com/example/planscribe/planscribe/model/CountRange", "contains", "(J)Z"⟩ : MethodName)) (argsL := [(.long (u30 - (1 : Int64)))]) (a := b28) hown (hw _ (List.mem_of_getElem? (i := 31) rfl)) (hw _ (List.mem_of_getElem? (i := 32) rfl)) (notFace_of_selects (args := #[]) (mvT hZ (hw _ (List.mem_of_getElem? (i := 34) rfl)))) (hw _ (List.mem_of_getElem? (i := 34) rfl)) (hw _ (List.mem_of_getElem? (i := 33) rfl)) (hw _ (List.mem_of_getElem? (i := 9) rfl)) (hw _ (List.mem_of_getElem? (i := 35) rfl)) (by decide) e41 E29 (own_rm8 l Z a0 hw b28 (u30 - (1 : Int64)) u25 u27 h29 n0 (Nat.le_trans Z0 (Nat.le_trans E28.1 K29.1)) F29_least F29_most) (W := 0) (by decide) (by decide) (by decide) (by decide) pd4 rfl (g := (mkF m 133 #[.val (.int p0), .val (.int p1), .val (.long p2), .second, .val (.int u25), .val (.int u27), .val (.ref b28), .val (.long u30), .second, .val (.long u31), .second, .val (.long u34), .second, .val (.int (1 : Int32)), .unset, .unset] [(.long (u30 - (1 : Int64))), (.ref b28)])) rfl (by rw [hml]; rfl) (rest := []) rfl (by show 2 * 0 + _ ≤ _; exact Nat.le_of_eq rfl) (hb hby at_133) (fun v43 T43 L43 X43 q43 => ?_)
  obtain ⟨rfl, N43q, e43⟩ := q43
  have N43 := Fr.app N41 N43q
  replace e43 := e43
  show own_Go _ _ _ _ _ _ _ T43 (mkF m 136 #[.val (.int p0), .val (.int p1), .val (.long p2), .second, .val (.int u25), .val (.int u27), .val (.ref b28), .val (.long u30), .second, .val (.long u31), .second, .val (.long u34), .second, .val (.int (1 : Int32)), .unset, .unset] [(.int (own_ct u25 u27 (u30 - (1 : Int64))))])
  have hb44 : (own_ct u25 u27 (u30 - (1 : Int64))) = (0 : Int32) := by rw [← hu30, own_c3 hle]
  refine own_st (T' := T43) (g' := (mkF m 157 #[.val (.int p0), .val (.int p1), .val (.long p2), .second, .val (.int u25), .val (.int u27), .val (.ref b28), .val (.long u30), .second, .val (.long u31), .second, .val (.long u34), .second, .val (.int (1 : Int32)), .unset, .unset] [(.long (u31 + (1 : Int64))), (.ref b28)])) (fun t k => XS.ifNo (g := (mkF m 136 #[.val (.int p0), .val (.int p1), .val (.long p2), .second, .val (.int u25), .val (.int u27), .val (.ref b28), .val (.long u30), .second, .val (.long u31), .second, .val (.long u34), .second, .val (.int (1 : Int32)), .unset, .unset] [(.int (own_ct u25 u27 (u30 - (1 : Int64))))])) X43.here hx rfl (hb hby at_136) rfl ((if0 _ _).trans (teq hb44).2) (XS.iconst (g := (mkF m 139 #[.val (.int p0), .val (.int p1), .val (.long p2), .second, .val (.int u25), .val (.int u27), .val (.ref b28), .val (.long u30), .second, .val (.long u31), .second, .val (.long u34), .second, .val (.int (1 : Int32)), .unset, .unset] [])) X43.here hx rfl (hb hby at_139) (XS.goto (g := (mkF m 140 #[.val (.int p0), .val (.int p1), .val (.long p2), .second, .val (.int u25), .val (.int u27), .val (.ref b28), .val (.long u30), .second, .val (.long u31), .second, .val (.long u34), .second, .val (.int (1 : Int32)), .unset, .unset] [(.int (1 : Int32))])) X43.here hx rfl (pc0 := 140) (pc' := 144) rfl (hb hby at_140) (by decide) (by decide) (XS.istore (g := (mkF m 144 #[.val (.int p0), .val (.int p1), .val (.long p2), .second, .val (.int u25), .val (.int u27), .val (.ref b28), .val (.long u30), .second, .val (.long u31), .second, .val (.long u34), .second, .val (.int (1 : Int32)), .unset, .unset] [(.int (1 : Int32))])) X43.here hx rfl (hb hby at_144) rfl (l' := #[.val (.int p0), .val (.int p1), .val (.long p2), .second, .val (.int u25), .val (.int u27), .val (.ref b28), .val (.long u30), .second, .val (.long u31), .second, .val (.long u34), .second, .val (.int (1 : Int32)), .unset, .unset]) rfl (XS.iload (g := (mkF m 146 #[.val (.int p0), .val (.int p1), .val (.long p2), .second, .val (.int u25), .val (.int u27), .val (.ref b28), .val (.long u30), .second, .val (.long u31), .second, .val (.long u34), .second, .val (.int (1 : Int32)), .unset, .unset] [])) X43.here hx rfl (hb hby at_146) rfl (XS.ifNo (g := (mkF m 148 #[.val (.int p0), .val (.int p1), .val (.long p2), .second, .val (.int u25), .val (.int u27), .val (.ref b28), .val (.long u30), .second, .val (.long u31), .second, .val (.long u34), .second, .val (.int (1 : Int32)), .unset, .unset] [(.int (1 : Int32))])) X43.here hx rfl (hb hby at_148) rfl ((if0 _ _).trans (feq (by decide : ¬ ((1 : Int32) = (0 : Int32)))).1) (XS.aload (g := (mkF m 151 #[.val (.int p0), .val (.int p1), .val (.long p2), .second, .val (.int u25), .val (.int u27), .val (.ref b28), .val (.long u30), .second, .val (.long u31), .second, .val (.long u34), .second, .val (.int (1 : Int32)), .unset, .unset] [])) X43.here hx rfl (hb hby at_151) rfl rfl (XS.lload (g := (mkF m 153 #[.val (.int p0), .val (.int p1), .val (.long p2), .second, .val (.int u25), .val (.int u27), .val (.ref b28), .val (.long u30), .second, .val (.long u31), .second, .val (.long u34), .second, .val (.int (1 : Int32)), .unset, .unset] [(.ref b28)])) X43.here hx rfl (hb hby at_153) rfl (XS.lconst (g := (mkF m 155 #[.val (.int p0), .val (.int p1), .val (.long p2), .second, .val (.int u25), .val (.int u27), .val (.ref b28), .val (.long u30), .second, .val (.long u31), .second, .val (.long u34), .second, .val (.int (1 : Int32)), .unset, .unset] [(.long u31), (.ref b28)])) X43.here hx rfl (hb hby at_155) (XS.ladd (g := (mkF m 156 #[.val (.int p0), .val (.int p1), .val (.long p2), .second, .val (.int u25), .val (.int u27), .val (.ref b28), .val (.long u30), .second, .val (.long u31), .second, .val (.long u34), .second, .val (.int (1 : Int32)), .unset, .unset] [(.long (1 : Int64)), (.long u31), (.ref b28)])) X43.here hx rfl (hb hby at_156) rfl k)))))))))) ?_
  refine own_callV X43 hx hZ (y := (⟨"com/example/planscribe/planscribe/model/CountRange", "contains", "(J)Z"⟩ : MethodName)) (z := (⟨"com/example/planscribe/planscribe/model/CountRange", "contains", "(J)Z"⟩ : MethodName)) (argsL := [(.long (u31 + (1 : Int64)))]) (a := b28) hown (hw _ (List.mem_of_getElem? (i := 31) rfl)) (hw _ (List.mem_of_getElem? (i := 32) rfl)) (notFace_of_selects (args := #[]) (mvT hZ (hw _ (List.mem_of_getElem? (i := 34) rfl)))) (hw _ (List.mem_of_getElem? (i := 34) rfl)) (hw _ (List.mem_of_getElem? (i := 33) rfl)) (hw _ (List.mem_of_getElem? (i := 9) rfl)) (hw _ (List.mem_of_getElem? (i := 35) rfl)) (by decide) e43 E29 (own_rm8 l Z a0 hw b28 (u31 + (1 : Int64)) u25 u27 h29 n0 (Nat.le_trans Z0 (Nat.le_trans E28.1 K29.1)) F29_least F29_most) (W := 0) (by decide) (by decide) (by decide) (by decide) pd4 rfl (g := (mkF m 157 #[.val (.int p0), .val (.int p1), .val (.long p2), .second, .val (.int u25), .val (.int u27), .val (.ref b28), .val (.long u30), .second, .val (.long u31), .second, .val (.long u34), .second, .val (.int (1 : Int32)), .unset, .unset] [(.long (u31 + (1 : Int64))), (.ref b28)])) rfl (by rw [hml]; rfl) (rest := []) rfl (by show 2 * 0 + _ ≤ _; exact Nat.le_of_eq rfl) (hb hby at_157) (fun v45 T45 L45 X45 q45 => ?_)
  obtain ⟨rfl, N45q, e45⟩ := q45
  have N45 := Fr.app N43 N45q
  replace e45 := e45
  show own_Go _ _ _ _ _ _ _ T45 (mkF m 160 #[.val (.int p0), .val (.int p1), .val (.long p2), .second, .val (.int u25), .val (.int u27), .val (.ref b28), .val (.long u30), .second, .val (.long u31), .second, .val (.long u34), .second, .val (.int (1 : Int32)), .unset, .unset] [(.int (own_ct u25 u27 (u31 + (1 : Int64))))])
  have hb46 : (own_ct u25 u27 (u31 + (1 : Int64))) = (0 : Int32) := by rw [← hu31, own_c4 hle]
  refine own_st (T' := T45) (g' := (mkF m 181 #[.val (.int p0), .val (.int p1), .val (.long p2), .second, .val (.int u25), .val (.int u27), .val (.ref b28), .val (.long u30), .second, .val (.long u31), .second, .val (.long u34), .second, .val (.int (1 : Int32)), .unset, .unset] [(.long ((u31 - u30) / (2 : Int64))), (.long u30)])) (fun t k => XS.ifNo (g := (mkF m 160 #[.val (.int p0), .val (.int p1), .val (.long p2), .second, .val (.int u25), .val (.int u27), .val (.ref b28), .val (.long u30), .second, .val (.long u31), .second, .val (.long u34), .second, .val (.int (1 : Int32)), .unset, .unset] [(.int (own_ct u25 u27 (u31 + (1 : Int64))))])) X45.here hx rfl (hb hby at_160) rfl ((if0 _ _).trans (teq hb46).2) (XS.iconst (g := (mkF m 163 #[.val (.int p0), .val (.int p1), .val (.long p2), .second, .val (.int u25), .val (.int u27), .val (.ref b28), .val (.long u30), .second, .val (.long u31), .second, .val (.long u34), .second, .val (.int (1 : Int32)), .unset, .unset] [])) X45.here hx rfl (hb hby at_163) (XS.goto (g := (mkF m 164 #[.val (.int p0), .val (.int p1), .val (.long p2), .second, .val (.int u25), .val (.int u27), .val (.ref b28), .val (.long u30), .second, .val (.long u31), .second, .val (.long u34), .second, .val (.int (1 : Int32)), .unset, .unset] [(.int (1 : Int32))])) X45.here hx rfl (pc0 := 164) (pc' := 168) rfl (hb hby at_164) (by decide) (by decide) (XS.istore (g := (mkF m 168 #[.val (.int p0), .val (.int p1), .val (.long p2), .second, .val (.int u25), .val (.int u27), .val (.ref b28), .val (.long u30), .second, .val (.long u31), .second, .val (.long u34), .second, .val (.int (1 : Int32)), .unset, .unset] [(.int (1 : Int32))])) X45.here hx rfl (hb hby at_168) rfl (l' := #[.val (.int p0), .val (.int p1), .val (.long p2), .second, .val (.int u25), .val (.int u27), .val (.ref b28), .val (.long u30), .second, .val (.long u31), .second, .val (.long u34), .second, .val (.int (1 : Int32)), .unset, .unset]) rfl (XS.lload (g := (mkF m 170 #[.val (.int p0), .val (.int p1), .val (.long p2), .second, .val (.int u25), .val (.int u27), .val (.ref b28), .val (.long u30), .second, .val (.long u31), .second, .val (.long u34), .second, .val (.int (1 : Int32)), .unset, .unset] [])) X45.here hx rfl (hb hby at_170) rfl (XS.lload (g := (mkF m 172 #[.val (.int p0), .val (.int p1), .val (.long p2), .second, .val (.int u25), .val (.int u27), .val (.ref b28), .val (.long u30), .second, .val (.long u31), .second, .val (.long u34), .second, .val (.int (1 : Int32)), .unset, .unset] [(.long u30)])) X45.here hx rfl (hb hby at_172) rfl (XS.lload (g := (mkF m 174 #[.val (.int p0), .val (.int p1), .val (.long p2), .second, .val (.int u25), .val (.int u27), .val (.ref b28), .val (.long u30), .second, .val (.long u31), .second, .val (.long u34), .second, .val (.int (1 : Int32)), .unset, .unset] [(.long u31), (.long u30)])) X45.here hx rfl (hb hby at_174) rfl (XS.lsub (g := (mkF m 176 #[.val (.int p0), .val (.int p1), .val (.long p2), .second, .val (.int u25), .val (.int u27), .val (.ref b28), .val (.long u30), .second, .val (.long u31), .second, .val (.long u34), .second, .val (.int (1 : Int32)), .unset, .unset] [(.long u30), (.long u31), (.long u30)])) X45.here hx rfl (hb hby at_176) rfl (X45.ldc2Long hx hown (mvT hZ (hw _ (List.mem_of_getElem? (i := 36) rfl))) (g := (mkF m 177 #[.val (.int p0), .val (.int p1), .val (.long p2), .second, .val (.int u25), .val (.int u27), .val (.ref b28), .val (.long u30), .second, .val (.long u31), .second, .val (.long u34), .second, .val (.int (1 : Int32)), .unset, .unset] [(.long (u31 - u30)), (.long u30)])) rfl (hb hby at_177) t (XS.ldiv (g := (mkF m 180 #[.val (.int p0), .val (.int p1), .val (.long p2), .second, .val (.int u25), .val (.int u27), .val (.ref b28), .val (.long u30), .second, .val (.long u31), .second, .val (.long u34), .second, .val (.int (1 : Int32)), .unset, .unset] [(.long (2 : Int64)), (.long (u31 - u30)), (.long u30)])) X45.here hx rfl (hb hby at_180) rfl (by decide) k)))))))))) ?_
  refine own_st (T' := T45) (g' := (mkF m 184 #[.val (.int p0), .val (.int p1), .val (.long p2), .second, .val (.int u25), .val (.int u27), .val (.ref b28), .val (.long u30), .second, .val (.long u31), .second, .val (.long u34), .second, .val (.int (1 : Int32)), .val (.long (u30 + ((u31 - u30) / (2 : Int64)))), .second] [])) (fun t k => XS.ladd (g := (mkF m 181 #[.val (.int p0), .val (.int p1), .val (.long p2), .second, .val (.int u25), .val (.int u27), .val (.ref b28), .val (.long u30), .second, .val (.long u31), .second, .val (.long u34), .second, .val (.int (1 : Int32)), .unset, .unset] [(.long ((u31 - u30) / (2 : Int64))), (.long u30)])) X45.here hx rfl (hb hby at_181) rfl (XS.lstore (g := (mkF m 182 #[.val (.int p0), .val (.int p1), .val (.long p2), .second, .val (.int u25), .val (.int u27), .val (.ref b28), .val (.long u30), .second, .val (.long u31), .second, .val (.long u34), .second, .val (.int (1 : Int32)), .unset, .unset] [(.long (u30 + ((u31 - u30) / (2 : Int64))))])) X45.here hx rfl (hb hby at_182) rfl (l' := #[.val (.int p0), .val (.int p1), .val (.long p2), .second, .val (.int u25), .val (.int u27), .val (.ref b28), .val (.long u30), .second, .val (.long u31), .second, .val (.long u34), .second, .val (.int (1 : Int32)), .val (.long (u30 + ((u31 - u30) / (2 : Int64)))), .second]) rfl k)) ?_
  generalize hu47 : (u30 + ((u31 - u30) / (2 : Int64))) = u47
  refine own_st (T' := T45) (g' := (mkF m 193 #[.val (.int p0), .val (.int p1), .val (.long p2), .second, .val (.int u25), .val (.int u27), .val (.ref b28), .val (.long u30), .second, .val (.long u31), .second, .val (.long u34), .second, .val (.int (1 : Int32)), .val (.long u47), .second] [(.long u47), (.ref b28)])) (fun t k => XS.iload (g := (mkF m 184 #[.val (.int p0), .val (.int p1), .val (.long p2), .second, .val (.int u25), .val (.int u27), .val (.ref b28), .val (.long u30), .second, .val (.long u31), .second, .val (.long u34), .second, .val (.int (1 : Int32)), .val (.long u47), .second] [])) X45.here hx rfl (hb hby at_184) rfl (XS.ifNo (g := (mkF m 186 #[.val (.int p0), .val (.int p1), .val (.long p2), .second, .val (.int u25), .val (.int u27), .val (.ref b28), .val (.long u30), .second, .val (.long u31), .second, .val (.long u34), .second, .val (.int (1 : Int32)), .val (.long u47), .second] [(.int (1 : Int32))])) X45.here hx rfl (hb hby at_186) rfl ((if0 _ _).trans (feq (by decide : ¬ ((1 : Int32) = (0 : Int32)))).1) (XS.aload (g := (mkF m 189 #[.val (.int p0), .val (.int p1), .val (.long p2), .second, .val (.int u25), .val (.int u27), .val (.ref b28), .val (.long u30), .second, .val (.long u31), .second, .val (.long u34), .second, .val (.int (1 : Int32)), .val (.long u47), .second] [])) X45.here hx rfl (hb hby at_189) rfl rfl (XS.lload (g := (mkF m 191 #[.val (.int p0), .val (.int p1), .val (.long p2), .second, .val (.int u25), .val (.int u27), .val (.ref b28), .val (.long u30), .second, .val (.long u31), .second, .val (.long u34), .second, .val (.int (1 : Int32)), .val (.long u47), .second] [(.ref b28)])) X45.here hx rfl (hb hby at_191) rfl k)))) ?_
  refine own_callV X45 hx hZ (y := (⟨"com/example/planscribe/planscribe/model/CountRange", "contains", "(J)Z"⟩ : MethodName)) (z := (⟨"com/example/planscribe/planscribe/model/CountRange", "contains", "(J)Z"⟩ : MethodName)) (argsL := [(.long u47)]) (a := b28) hown (hw _ (List.mem_of_getElem? (i := 31) rfl)) (hw _ (List.mem_of_getElem? (i := 32) rfl)) (notFace_of_selects (args := #[]) (mvT hZ (hw _ (List.mem_of_getElem? (i := 34) rfl)))) (hw _ (List.mem_of_getElem? (i := 34) rfl)) (hw _ (List.mem_of_getElem? (i := 33) rfl)) (hw _ (List.mem_of_getElem? (i := 9) rfl)) (hw _ (List.mem_of_getElem? (i := 35) rfl)) (by decide) e45 E29 (own_rm8 l Z a0 hw b28 u47 u25 u27 h29 n0 (Nat.le_trans Z0 (Nat.le_trans E28.1 K29.1)) F29_least F29_most) (W := 0) (by decide) (by decide) (by decide) (by decide) pd4 rfl (g := (mkF m 193 #[.val (.int p0), .val (.int p1), .val (.long p2), .second, .val (.int u25), .val (.int u27), .val (.ref b28), .val (.long u30), .second, .val (.long u31), .second, .val (.long u34), .second, .val (.int (1 : Int32)), .val (.long u47), .second] [(.long u47), (.ref b28)])) rfl (by rw [hml]; rfl) (rest := []) rfl (by show 2 * 0 + _ ≤ _; exact Nat.le_of_eq rfl) (hb hby at_193) (fun v48 T48 L48 X48 q48 => ?_)
  obtain ⟨rfl, N48q, e48⟩ := q48
  have N48 := Fr.app N45 N48q
  replace e48 := e48
  show own_Go _ _ _ _ _ _ _ T48 (mkF m 196 #[.val (.int p0), .val (.int p1), .val (.long p2), .second, .val (.int u25), .val (.int u27), .val (.ref b28), .val (.long u30), .second, .val (.long u31), .second, .val (.long u34), .second, .val (.int (1 : Int32)), .val (.long u47), .second] [(.int (own_ct u25 u27 u47))])
  have hb49 : ¬ ((own_ct u25 u27 u47) = (0 : Int32)) := by rw [← hu47, ← hu30, ← hu31, own_c5 hle]; decide
  refine own_st (T' := T48) (g' := (mkF m 208 #[.val (.int p0), .val (.int p1), .val (.long p2), .second, .val (.int u25), .val (.int u27), .val (.ref b28), .val (.long u30), .second, .val (.long u31), .second, .val (.long u34), .second, .val (.int (1 : Int32)), .val (.long u47), .second] [(.int (1 : Int32))])) (fun t k => XS.ifNo (g := (mkF m 196 #[.val (.int p0), .val (.int p1), .val (.long p2), .second, .val (.int u25), .val (.int u27), .val (.ref b28), .val (.long u30), .second, .val (.long u31), .second, .val (.long u34), .second, .val (.int (1 : Int32)), .val (.long u47), .second] [(.int (own_ct u25 u27 u47))])) X48.here hx rfl (hb hby at_196) rfl ((if0 _ _).trans (feq hb49).1) (XS.iconst (g := (mkF m 199 #[.val (.int p0), .val (.int p1), .val (.long p2), .second, .val (.int u25), .val (.int u27), .val (.ref b28), .val (.long u30), .second, .val (.long u31), .second, .val (.long u34), .second, .val (.int (1 : Int32)), .val (.long u47), .second] [])) X48.here hx rfl (hb hby at_199) (XS.goto (g := (mkF m 200 #[.val (.int p0), .val (.int p1), .val (.long p2), .second, .val (.int u25), .val (.int u27), .val (.ref b28), .val (.long u30), .second, .val (.long u31), .second, .val (.long u34), .second, .val (.int (1 : Int32)), .val (.long u47), .second] [(.int (1 : Int32))])) X48.here hx rfl (pc0 := 200) (pc' := 204) rfl (hb hby at_200) (by decide) (by decide) (XS.istore (g := (mkF m 204 #[.val (.int p0), .val (.int p1), .val (.long p2), .second, .val (.int u25), .val (.int u27), .val (.ref b28), .val (.long u30), .second, .val (.long u31), .second, .val (.long u34), .second, .val (.int (1 : Int32)), .val (.long u47), .second] [(.int (1 : Int32))])) X48.here hx rfl (hb hby at_204) rfl (l' := #[.val (.int p0), .val (.int p1), .val (.long p2), .second, .val (.int u25), .val (.int u27), .val (.ref b28), .val (.long u30), .second, .val (.long u31), .second, .val (.long u34), .second, .val (.int (1 : Int32)), .val (.long u47), .second]) rfl (XS.iload (g := (mkF m 206 #[.val (.int p0), .val (.int p1), .val (.long p2), .second, .val (.int u25), .val (.int u27), .val (.ref b28), .val (.long u30), .second, .val (.long u31), .second, .val (.long u34), .second, .val (.int (1 : Int32)), .val (.long u47), .second] [])) X48.here hx rfl (hb hby at_206) rfl k))))) ?_
  refine own_retI X48 hx hlk hret (by simp) rfl (hb hby at_208) ?_ (by decide) (by decide)
  exact ⟨rfl, N48⟩
set_option maxRecDepth 65536 in
set_option maxHeartbeats 40000000 in
theorem own_comes {Post : Tables → Env → Array Value → State → Outcome → State → Prop} (hpost : ∀ tb e args s v u, (limb_1_1.after args s (.returned v) u = true ∧ limb_1_2.after args s (.returned v) u = true ∧ True) → FrameEnd s (.returned v) u (Jvm.fieldLocs frame_1_writes args s ++ Jvm.arrayLocs frame_1_arrays args s ++ Jvm.staticLocs frame_1_statics s) 16 128 → Post tb e args s (.returned v) u) :
    ArmFor flags0 classFile x code maxLocals ret World_1 tables_1 room_1 Calls_1 rest_1 Pre_1 Post := by
  intro l hfl _ _ p e ha hc hk s m args below hf hA hF happ hP
  obtain ⟨hcalls, hrest, hpre⟩ := hP
  obtain ⟨-, -, -, hnamed, -, -, -, hat⟩ := (Spec.applies_iff hf).mp happ
  obtain ⟨hg, hn⟩ := and_e (Cond.before_iff.mp (show (Jvm.Cond.and given_1 narrow_1).before args s = true from hpre))
  obtain ⟨g0, r0⟩ := and_e hg
  obtain ⟨k0, r1⟩ := and_e r0
  obtain ⟨k1, r2⟩ := and_e r1
  obtain ⟨w0, w1, w2, rfl⟩ : ∃ w0 w1 w2 : Value, args = #[w0, w1, w2] := by
    have hs : args.size = 3 := by simpa [Cond.value, given_1] using g0
    obtain ⟨L⟩ := args
    match L, hs with
    | [w0, w1, w2], _ => exact ⟨w0, w1, w2, rfl⟩
  have hw := fun d (hd : d ∈ tables_1) => atoms_spec (ws := Jvm.Cond.code x code maxLocals ret :: tables_1) hat d (List.mem_cons_of_mem _ hd)
  have hfit : Fit s := fun {y c} hc i hi => by
    obtain ⟨ha, rfl⟩ := Array.getElem?_eq_some_iff.mp hc
    have q := List.all_eq_true.mp ((Array.all_eq_true_iff_forall_mem.mp hF) _ (Array.getElem_mem ha)) i (List.mem_range.mpr hi)
    simpa [Array.getElem?_eq_getElem hi] using q
  obtain ⟨p0, i0⟩ := is_v k0
  obtain rfl : w0 = (.int p0) := Option.some.inj i0
  obtain ⟨p1, i1⟩ := is_v k1
  obtain rfl : w1 = (.int p1) := Option.some.inj i1
  obtain ⟨p2, i2⟩ := isL_v r2
  obtain rfl : w2 = (.long p2) := Option.some.inj i2
  obtain ⟨n, o, h1, h2, h3, _, L, rfl, ⟨rfl, N⟩, hq⟩ := own_rm0 l s _ hw p0 p1 p2  s.heap s.heap.size (Nat.le_refl _)  tables_1 p e ha hc hk s m _ below hf ((Spec.applies_iff_loose hf).mp happ).1 ⟨rfl, State.Warmed39.refl s, rfl⟩ trivial
  refine ⟨n, _, h1, h2, h3, hpost _ _ _ _ _ _ ⟨Cond.after_iff.mpr rfl, Cond.after_iff.mpr (eq_i res_at (Term.int_eval (1)) rfl), trivial⟩ ⟨hq.1, hq.2.1, (hq.2.2.sift fun y hy => Or.inr (N y hy)).mono (by decide) (by decide)⟩⟩
theorem main_1_1 : Claimed_1_1 := own_comes fun _ _ _ _ _ _ h hF => ⟨h.1, hF⟩
theorem main_1_2 : Claimed_1_2 := own_comes fun _ _ _ _ _ _ h hF => ⟨h.2.1, hF⟩
end Jvm.Pilot.@@N@@
namespace Jvm.Pilot.@@N@@
open Jvm Jvm.ClassFile Sem Op Lib Jvm.Free Jvm.Stand Jvm.Pilot.@@N@@.Jvm.D
/-! MADE BY PROGRAM (witnessworld.py) out of the Statement's table words and the real class files: 9 classes; the members and pool entries that the words name. The judged class is class 1, her method 1. -/
namespace start1
open Jvm.ClassFile
def u (s : String) : CpInfo := .utf8 (stringToUtf16 s)
/-- a pool by its gaps: so many unusable entries, then the entry; so many at the end -/
def gap : Nat → List CpInfo → List CpInfo
  | 0, r => r
  | n + 1, r => .unusable :: gap n r
def poolList (es : List (Nat × CpInfo)) (last : Nat) : List CpInfo := es.foldr (fun e r => gap e.1 (e.2 :: r)) (gap last [])
def pool (es : List (Nat × CpInfo)) (last : Nat) : Array CpInfo := ⟨poolList es last⟩
def fileOf (pool : Array CpInfo) (this : Nat) (attrs : Array Attribute := #[]) (ms : Array MethodInfo := #[]) (fl : Nat := 33) (sup : Nat := 0) (ifs : Array Nat := #[]) (fds : Array FieldInfo := #[]) : ClassFile where
  minorVersion := 0
  majorVersion := 65
  constantPool := pool
  accessFlags := fl
  thisClass := this
  superClass := sup
  interfaces := ifs
  fields := fds
  methods := ms
  attributes := attrs
def plain (name : String) (sup : Option ClassId) : Class where
  name := name
  kind := .ordinary
  loader := none
  accessFlags := 33
  super := sup
  interfaces := #[]
  cf := none
  fields := #[]
  methods := #[]
  instanceTypes := #[]
  staticTypes := #[]
  resolved := #[]
  callSites := []
  init := .initialized
  statics := none
  mirror := none

def pool0 : Array CpInfo := pool [(5, u "<init>"), (0, u "()V"), (1, .class_ 10), (1, u "java/lang/Object")] 113

def k0c0 : Code := { maxStack := 0, maxLocals := 1, code := object_method_1_code, exceptionTable := #[], attributes := #[] }
def k0m0 : Method := { name := "<init>", desc := "()V", sig := { parameters := [], returnType := none }, accessFlags := 1, code := some k0c0 }
/-- java/lang/Object -/
def k0 : Class := { plain "java/lang/Object" none with
  accessFlags := 33
  interfaces := #[]
  cf := some (fileOf pool0 8 #[] #[{ accessFlags := 1, nameIndex := 5, descriptorIndex := 6, attributes := #[] }] 33 0 #[] #[])
  fields := #[]
  methods := #[k0m0]
  instanceTypes := #[]
  staticTypes := #[]
  resolved := Array.replicate 124 none
  statics := none }

def pool1 : Array CpInfo := pool [(2, .class_ 4), (1, u "java/lang/Object"), (0, u "<init>"), (0, u "()V"), (0, .methodref 8 9), (0, .class_ 10), (0, .nameAndType 11 12), (0, u "java/lang/Math"), (0, u "min"), (0, u "(II)I"), (0, .methodref 8 14), (0, .nameAndType 15 12), (0, u "max"), (0, .class_ 17), (0, u "com/example/planscribe/planscribe/model/CountRange"), (0, .methodref 16 19), (0, .nameAndType 5 20), (0, u "(II)V"), (0, .methodref 8 22), (0, .nameAndType 11 23), (0, u "(JJ)J"), (0, .methodref 8 25), (0, .nameAndType 15 23), (0, .methodref 16 27), (0, .nameAndType 28 29), (0, u "contains"), (0, u "(J)Z"), (0, .long 2), (1, .class_ 33), (0, u "com/example/planscribe/planscribe/model/CountRangeContainsPinLaw"), (2, u "law"), (0, u "(IIJ)Z")] 3

def k1m0 : Method := { name := "<init>", desc := "()V", sig := { parameters := [], returnType := none }, accessFlags := 2, code := none }
def k1c1 : Code := { maxStack := 6, maxLocals := 16, code := code, exceptionTable := #[], attributes := #[] }
def k1m1 : Method := { name := "law", desc := "(IIJ)Z", sig := { parameters := [.int, .int, .long], returnType := some .boolean }, accessFlags := 9, code := some k1c1 }
/-- com/example/planscribe/planscribe/model/CountRangeContainsPinLaw -/
def k1 : Class := { plain "com/example/planscribe/planscribe/model/CountRangeContainsPinLaw" (some 0) with
  accessFlags := 49
  interfaces := #[]
  cf := some (fileOf pool1 32 #[] #[{ accessFlags := 2, nameIndex := 5, descriptorIndex := 6, attributes := #[] }, { accessFlags := 9, nameIndex := 36, descriptorIndex := 37, attributes := #[] }] 49 2 #[] #[])
  fields := #[]
  methods := #[k1m0, k1m1]
  instanceTypes := #[]
  staticTypes := #[]
  resolved := Array.replicate 41 none
  statics := none }

def pool2 : Array CpInfo := pool [(1, .class_ 2), (0, u "java/lang/Math"), (1, .class_ 6), (1, u "java/lang/Object"), (0, u "<init>"), (0, u "()V"), (89, .class_ 100), (1, u "java/lang/Math$RandomNumberGeneratorHolder"), (20, u "(JJ)J"), (50, u "negativeZeroFloatBits"), (0, u "J"), (2, u "negativeZeroDoubleBits"), (21, u "max"), (2, u "min"), (43, u "$assertionsDisabled"), (0, u "Z"), (88, u "(II)I"), (2, u "twoToTheDoubleScaleDown"), (0, u "D"), (4, u "twoToTheDoubleScaleUp"), (9, u "E"), (3, u "PI"), (2, u "TAU"), (2, u "DEGREES_TO_RADIANS"), (0, u "RADIANS_TO_DEGREES")] 94

def k2m0 : Method := { name := "<init>", desc := "()V", sig := { parameters := [], returnType := none }, accessFlags := 2, code := none }
def k2c1 : Code := { maxStack := 2, maxLocals := 2, code := jdk_29_method_65_code, exceptionTable := #[], attributes := #[] }
def k2m1 : Method := { name := "max", desc := "(II)I", sig := { parameters := [.int, .int], returnType := some .int }, accessFlags := 9, code := some k2c1 }
def k2c2 : Code := { maxStack := 4, maxLocals := 4, code := jdk_29_method_66_code, exceptionTable := #[], attributes := #[] }
def k2m2 : Method := { name := "max", desc := "(JJ)J", sig := { parameters := [.long, .long], returnType := some .long }, accessFlags := 9, code := some k2c2 }
def k2c3 : Code := { maxStack := 2, maxLocals := 2, code := jdk_29_method_69_code, exceptionTable := #[], attributes := #[] }
def k2m3 : Method := { name := "min", desc := "(II)I", sig := { parameters := [.int, .int], returnType := some .int }, accessFlags := 9, code := some k2c3 }
def k2c4 : Code := { maxStack := 4, maxLocals := 4, code := jdk_29_method_70_code, exceptionTable := #[], attributes := #[] }
def k2m4 : Method := { name := "min", desc := "(JJ)J", sig := { parameters := [.long, .long], returnType := some .long }, accessFlags := 9, code := some k2c4 }
/-- java/lang/Math -/
def k2 : Class := { plain "java/lang/Math" (some 0) with
  accessFlags := 49
  interfaces := #[]
  cf := some (fileOf pool2 1 #[.nestMembers #[98]] #[{ accessFlags := 2, nameIndex := 7, descriptorIndex := 8, attributes := #[] }, { accessFlags := 9, nameIndex := 198, descriptorIndex := 335, attributes := #[] }, { accessFlags := 9, nameIndex := 198, descriptorIndex := 121, attributes := #[] }, { accessFlags := 9, nameIndex := 201, descriptorIndex := 335, attributes := #[] }, { accessFlags := 9, nameIndex := 201, descriptorIndex := 121, attributes := #[] }] 49 4 #[] #[{ accessFlags := 25, nameIndex := 354, descriptorIndex := 339, attributes := #[] }, { accessFlags := 25, nameIndex := 358, descriptorIndex := 339, attributes := #[] }, { accessFlags := 25, nameIndex := 361, descriptorIndex := 339, attributes := #[] }, { accessFlags := 26, nameIndex := 364, descriptorIndex := 339, attributes := #[] }, { accessFlags := 26, nameIndex := 365, descriptorIndex := 339, attributes := #[] }, { accessFlags := 26, nameIndex := 172, descriptorIndex := 173, attributes := #[] }, { accessFlags := 26, nameIndex := 176, descriptorIndex := 173, attributes := #[] }, { accessFlags := 8, nameIndex := 344, descriptorIndex := 339, attributes := #[] }, { accessFlags := 8, nameIndex := 338, descriptorIndex := 339, attributes := #[] }, { accessFlags := 4120, nameIndex := 245, descriptorIndex := 246, attributes := #[] }])
  fields := #[{ name := "E", type := .double, accessFlags := 25, slot := 0, constantValue := 0 }, { name := "PI", type := .double, accessFlags := 25, slot := 1, constantValue := 0 }, { name := "TAU", type := .double, accessFlags := 25, slot := 2, constantValue := 0 }, { name := "DEGREES_TO_RADIANS", type := .double, accessFlags := 26, slot := 3, constantValue := 0 }, { name := "RADIANS_TO_DEGREES", type := .double, accessFlags := 26, slot := 4, constantValue := 0 }, { name := "negativeZeroFloatBits", type := .long, accessFlags := 26, slot := 5, constantValue := 0 }, { name := "negativeZeroDoubleBits", type := .long, accessFlags := 26, slot := 6, constantValue := 0 }, { name := "twoToTheDoubleScaleUp", type := .double, accessFlags := 8, slot := 7, constantValue := 0 }, { name := "twoToTheDoubleScaleDown", type := .double, accessFlags := 8, slot := 8, constantValue := 0 }, { name := "$assertionsDisabled", type := .boolean, accessFlags := 4120, slot := 9, constantValue := 0 }]
  methods := #[k2m0, k2m1, k2m2, k2m3, k2m4]
  instanceTypes := #[]
  staticTypes := #[.double, .double, .double, .double, .double, .long, .long, .double, .double, .boolean]
  resolved := Array.replicate 460 none
  statics := none }

def pool3 : Array CpInfo := pool [(1, .methodref 2 3), (0, .class_ 4), (0, .nameAndType 5 6), (0, u "java/lang/Object"), (0, u "<init>"), (0, u "()V"), (0, .class_ 8), (0, u "java/lang/Record")] 13

def k3c0 : Code := { maxStack := 1, maxLocals := 1, code := jdk_30_method_1_code, exceptionTable := #[], attributes := #[] }
def k3m0 : Method := { name := "<init>", desc := "()V", sig := { parameters := [], returnType := none }, accessFlags := 4, code := some k3c0 }
/-- java/lang/Record -/
def k3 : Class := { plain "java/lang/Record" (some 0) with
  accessFlags := 1057
  interfaces := #[]
  cf := some (fileOf pool3 7 #[] #[{ accessFlags := 4, nameIndex := 5, descriptorIndex := 6, attributes := #[] }] 1057 2 #[] #[])
  fields := #[]
  methods := #[k3m0]
  instanceTypes := #[]
  staticTypes := #[]
  resolved := Array.replicate 22 none
  statics := none }

def pool4 : Array CpInfo := pool [(1, .methodref 2 3), (0, .class_ 4), (0, .nameAndType 5 6), (0, u "java/lang/Record"), (0, u "<init>"), (0, u "()V"), (9, .fieldref 17 18), (0, .class_ 19), (0, .nameAndType 20 21), (0, u "com/example/planscribe/planscribe/model/CountRange"), (0, u "least"), (0, u "I"), (0, .fieldref 17 23), (0, .nameAndType 24 21), (0, u "most"), (18, u "contains"), (0, u "(J)Z"), (22, u "(II)V")] 40

def k4c0 : Code := { maxStack := 4, maxLocals := 3, code := prog_108_method_1_code, exceptionTable := #[], attributes := #[] }
def k4m0 : Method := { name := "<init>", desc := "(II)V", sig := { parameters := [.int, .int], returnType := none }, accessFlags := 1, code := some k4c0 }
def k4c1 : Code := { maxStack := 4, maxLocals := 3, code := prog_108_method_2_code, exceptionTable := #[], attributes := #[] }
def k4m1 : Method := { name := "contains", desc := "(J)Z", sig := { parameters := [.long], returnType := some .boolean }, accessFlags := 1, code := some k4c1 }
/-- com/example/planscribe/planscribe/model/CountRange -/
def k4 : Class := { plain "com/example/planscribe/planscribe/model/CountRange" (some 3) with
  accessFlags := 49
  interfaces := #[]
  cf := some (fileOf pool4 17 #[] #[{ accessFlags := 1, nameIndex := 5, descriptorIndex := 67, attributes := #[] }, { accessFlags := 1, nameIndex := 43, descriptorIndex := 44, attributes := #[] }] 49 2 #[] #[{ accessFlags := 18, nameIndex := 20, descriptorIndex := 21, attributes := #[] }, { accessFlags := 18, nameIndex := 24, descriptorIndex := 21, attributes := #[] }])
  fields := #[{ name := "least", type := .int, accessFlags := 18, slot := 0, constantValue := 0 }, { name := "most", type := .int, accessFlags := 18, slot := 1, constantValue := 0 }]
  methods := #[k4m0, k4m1]
  instanceTypes := #[.int, .int]
  staticTypes := #[]
  resolved := Array.replicate 108 none
  statics := none }

def pool5 : Array CpInfo := pool [(1, u "java/lang/Cloneable"), (0, .class_ 1), (0, u "java/lang/Object"), (0, .class_ 3)] 3

/-- java/lang/Cloneable -/
def k5 : Class := { plain "java/lang/Cloneable" (some 0) with
  accessFlags := 1537
  interfaces := #[]
  cf := some (fileOf pool5 2 #[] #[] 1537 4 #[] #[])
  fields := #[]
  methods := #[]
  instanceTypes := #[]
  staticTypes := #[]
  resolved := Array.replicate 8 none
  statics := none }

def pool6 : Array CpInfo := pool [(1, u "java/io/Serializable"), (0, .class_ 1), (0, u "java/lang/Object"), (0, .class_ 3)] 3

/-- java/io/Serializable -/
def k6 : Class := { plain "java/io/Serializable" (some 0) with
  accessFlags := 1537
  interfaces := #[]
  cf := some (fileOf pool6 2 #[] #[] 1537 4 #[] #[])
  fields := #[]
  methods := #[]
  instanceTypes := #[]
  staticTypes := #[]
  resolved := Array.replicate 8 none
  statics := none }

/-- the primitive byte -/
def k7 : Class := { plain "byte" none with kind := .primitive 'B', accessFlags := 0x411 }
/-- [B -/
def k8 : Class := { plain "[B" (some 0) with kind := .array 7 .byte, interfaces := #[5, 6], accessFlags := 1041 }

def heap : Heap := #[]
def classes : Array Class := #[k0, k1, k2, k3, k4, k5, k6, k7, k8]
def interned : List (Array UInt16 × Addr) := []
def slotsUsed : Nat := 0
def theMethod : MethodId := ⟨1, 1⟩
def args0 : Array Value := #[.int 2, .int 31, .long 5]
def aboutOver (below : List Frame) : State where
  vm := { classes := classes, interned := interned.toArray }
  heap := heap
  slotsUsed := slotsUsed
  threads := #[{ frames := .invoking theMethod args0 :: below }]
def below0 : List Frame := [.native { method := ⟨0, 0⟩, args := #[] }]
def about1 : State := aboutOver below0
def p0 : Program := .bare "" "" ""
def e0 : Env := launch0.env 0 0 0
theorem w_frames : about1.frames = Frame.invoking theMethod args0 :: below0 := rfl
set_option maxRecDepth 65536 in
theorem w_args : argsFit about1.vm theMethod args0 = true := by decide +kernel
set_option maxRecDepth 65536 in
theorem w_heap : heapFits about1 = true := by decide +kernel
set_option maxRecDepth 65536 in
theorem w_runnable : about1.curStatus? = some .runnable := by decide +kernel
set_option maxRecDepth 65536 in
theorem w_alone : about1.alone = true := by decide +kernel
set_option maxRecDepth 65536 in
theorem w_named : about1.methodNamed? x = some theMethod := by decide +kernel
set_option maxRecDepth 65536 in
theorem w_hears : about1.hears theMethod below0 = true := by decide +kernel
set_option maxRecDepth 65536 in
theorem w_ripe : about1.ripe theMethod args0 below0 = true := by decide +kernel
theorem w_running : about1.status = .running := rfl
set_option maxRecDepth 65536 in
theorem w_room : about1.hasRoom e0.platform room_1 = true :=
  launch0.hasRoom_least _ room_1 (by decide +kernel) (by decide +kernel) (by decide +kernel) (by decide +kernel) (by decide +kernel) (by decide +kernel)
theorem allAtoms_all (ts : List Jvm.Cond) (a : Array Jvm.Value) (st : Jvm.State) : (allAtoms ts).before a st = ts.all (fun c => c.before a st) := by
  induction ts with
  | nil => rfl
  | cons c t ih =>
    show (Jvm.Cond.and c (allAtoms t)).before a st = _
    rw [Jvm.Cond.before_and, ih, List.all_cons]
def words1 : List Jvm.Cond := Jvm.Cond.code x code maxLocals ret :: tables_1
/-- a 'code' word, met by the world's own term for the bytes: nothing is compared byte by byte -/
theorem code_word {y : MethodName} {bytes : ByteArray} {mx : Nat} {rt : Option FieldType} {a : Array Value} {s : State} {m : MethodId} {meth : Method} {c : Code} (h1 : s.methodNamed? y = some m) (h2 : s.vm.method? m = some meth) (h3 : meth.code = some c) (h4 : c.code = bytes)
    (h5 : (c.maxLocals == mx && c.exceptionTable.isEmpty && decide (c.maxStack ≤ mostOperands) && decide (meth.sig.returnType = rt) && !meth.locks && decide (parseMethodDescriptor y.desc = some meth.sig)) = true) : (Jvm.Cond.code y bytes mx rt).before a s = true := by
  simp only [Bool.and_eq_true, beq_iff_eq, Bool.not_eq_true', decide_eq_true_eq] at h5
  obtain ⟨⟨⟨⟨⟨g1, g2⟩, g3⟩, g4⟩, g5⟩, g6⟩ := h5
  simp [Cond.before, Cond.holds, Cond.value, h1, h2, h3, h4, g1, g2, g3, g4, g5, g6]
def isCode : Jvm.Cond → Bool
  | .code _ _ _ _ => true
  | _ => false
theorem all_split {L : List Jvm.Cond} {P : Jvm.Cond → Bool} (h1 : L.all (fun c => isCode c || P c) = true) (h2 : ∀ c ∈ L.filter isCode, P c = true) : L.all P = true := by
  refine List.all_eq_true.mpr fun c hc => ?_
  have h := List.all_eq_true.mp h1 c hc
  rcases Bool.eq_false_or_eq_true (isCode c) with hi | hi
  · exact h2 c (List.mem_filter.mpr ⟨hc, hi⟩)
  · simpa [hi] using h
set_option maxRecDepth 65536 in
theorem w_c0 : (Jvm.Cond.code x code maxLocals ret).before args0 about1 = true := code_word (m := ⟨1, 1⟩) (meth := k1m1) (c := k1c1) (by decide +kernel) rfl rfl rfl (by decide +kernel)
set_option maxRecDepth 65536 in
theorem w_c1 : (Jvm.Cond.code ({ cls := "java/lang/Math", name := "min", desc := "(II)I" } : Jvm.MethodName) jdk_29_method_69_code (2 : Nat) (Option.some Jvm.ClassFile.FieldType.int)).before args0 about1 = true := code_word (m := ⟨2, 3⟩) (meth := k2m3) (c := k2c3) (by decide +kernel) rfl rfl rfl (by decide +kernel)
set_option maxRecDepth 65536 in
theorem w_c2 : (Jvm.Cond.code ({ cls := "java/lang/Math", name := "max", desc := "(II)I" } : Jvm.MethodName) jdk_29_method_65_code (2 : Nat) (Option.some Jvm.ClassFile.FieldType.int)).before args0 about1 = true := code_word (m := ⟨2, 1⟩) (meth := k2m1) (c := k2c1) (by decide +kernel) rfl rfl rfl (by decide +kernel)
set_option maxRecDepth 65536 in
theorem w_c3 : (Jvm.Cond.code ({ cls := "com/example/planscribe/planscribe/model/CountRange", name := "<init>", desc := "(II)V" } : Jvm.MethodName) prog_108_method_1_code (3 : Nat) (Option.none : Option Jvm.ClassFile.FieldType)).before args0 about1 = true := code_word (m := ⟨4, 0⟩) (meth := k4m0) (c := k4c0) (by decide +kernel) rfl rfl rfl (by decide +kernel)
set_option maxRecDepth 65536 in
theorem w_c4 : (Jvm.Cond.code ({ cls := "java/lang/Record", name := "<init>", desc := "()V" } : Jvm.MethodName) jdk_30_method_1_code (1 : Nat) (Option.none : Option Jvm.ClassFile.FieldType)).before args0 about1 = true := code_word (m := ⟨3, 0⟩) (meth := k3m0) (c := k3c0) (by decide +kernel) rfl rfl rfl (by decide +kernel)
set_option maxRecDepth 65536 in
theorem w_c5 : (Jvm.Cond.code ({ cls := "java/lang/Object", name := "<init>", desc := "()V" } : Jvm.MethodName) object_method_1_code (1 : Nat) (Option.none : Option Jvm.ClassFile.FieldType)).before args0 about1 = true := code_word (m := ⟨0, 0⟩) (meth := k0m0) (c := k0c0) (by decide +kernel) rfl rfl rfl (by decide +kernel)
set_option maxRecDepth 65536 in
theorem w_c6 : (Jvm.Cond.code ({ cls := "java/lang/Math", name := "min", desc := "(JJ)J" } : Jvm.MethodName) jdk_29_method_70_code (4 : Nat) (Option.some Jvm.ClassFile.FieldType.long)).before args0 about1 = true := code_word (m := ⟨2, 4⟩) (meth := k2m4) (c := k2c4) (by decide +kernel) rfl rfl rfl (by decide +kernel)
set_option maxRecDepth 65536 in
theorem w_c7 : (Jvm.Cond.code ({ cls := "java/lang/Math", name := "max", desc := "(JJ)J" } : Jvm.MethodName) jdk_29_method_66_code (4 : Nat) (Option.some Jvm.ClassFile.FieldType.long)).before args0 about1 = true := code_word (m := ⟨2, 2⟩) (meth := k2m2) (c := k2c2) (by decide +kernel) rfl rfl rfl (by decide +kernel)
set_option maxRecDepth 65536 in
theorem w_c8 : (Jvm.Cond.code ({ cls := "com/example/planscribe/planscribe/model/CountRange", name := "contains", desc := "(J)Z" } : Jvm.MethodName) prog_108_method_2_code (3 : Nat) (Option.some Jvm.ClassFile.FieldType.boolean)).before args0 about1 = true := code_word (m := ⟨4, 1⟩) (meth := k4m1) (c := k4c1) (by decide +kernel) rfl rfl rfl (by decide +kernel)
def codes1 : List Jvm.Cond := [Jvm.Cond.code x code maxLocals ret, Jvm.Cond.code ({ cls := "java/lang/Math", name := "min", desc := "(II)I" } : Jvm.MethodName) jdk_29_method_69_code (2 : Nat) (Option.some Jvm.ClassFile.FieldType.int), Jvm.Cond.code ({ cls := "java/lang/Math", name := "max", desc := "(II)I" } : Jvm.MethodName) jdk_29_method_65_code (2 : Nat) (Option.some Jvm.ClassFile.FieldType.int), Jvm.Cond.code ({ cls := "com/example/planscribe/planscribe/model/CountRange", name := "<init>", desc := "(II)V" } : Jvm.MethodName) prog_108_method_1_code (3 : Nat) (Option.none : Option Jvm.ClassFile.FieldType), Jvm.Cond.code ({ cls := "java/lang/Record", name := "<init>", desc := "()V" } : Jvm.MethodName) jdk_30_method_1_code (1 : Nat) (Option.none : Option Jvm.ClassFile.FieldType), Jvm.Cond.code ({ cls := "java/lang/Object", name := "<init>", desc := "()V" } : Jvm.MethodName) object_method_1_code (1 : Nat) (Option.none : Option Jvm.ClassFile.FieldType), Jvm.Cond.code ({ cls := "java/lang/Math", name := "min", desc := "(JJ)J" } : Jvm.MethodName) jdk_29_method_70_code (4 : Nat) (Option.some Jvm.ClassFile.FieldType.long), Jvm.Cond.code ({ cls := "java/lang/Math", name := "max", desc := "(JJ)J" } : Jvm.MethodName) jdk_29_method_66_code (4 : Nat) (Option.some Jvm.ClassFile.FieldType.long), Jvm.Cond.code ({ cls := "com/example/planscribe/planscribe/model/CountRange", name := "contains", desc := "(J)Z" } : Jvm.MethodName) prog_108_method_2_code (3 : Nat) (Option.some Jvm.ClassFile.FieldType.boolean)]
set_option maxRecDepth 65536 in
theorem codes_eq : words1.filter isCode = codes1 := rfl
theorem w_codes : ∀ c ∈ words1.filter isCode, c.before args0 about1 = true := by
  rw [codes_eq]
  intro c hc
  simp only [codes1, List.mem_cons, List.not_mem_nil, or_false] at hc
  rcases hc with rfl | rfl | rfl | rfl | rfl | rfl | rfl | rfl | rfl
  · exact w_c0
  · exact w_c1
  · exact w_c2
  · exact w_c3
  · exact w_c4
  · exact w_c5
  · exact w_c6
  · exact w_c7
  · exact w_c8
set_option maxRecDepth 65536 in
theorem w_t1 : (words1.take 24).all (fun c => isCode c || c.before args0 about1) = true := by decide +kernel
set_option maxRecDepth 65536 in
theorem w_t2 : (words1.drop 24).all (fun c => isCode c || c.before args0 about1) = true := by decide +kernel
theorem w_tables : (allAtoms (Jvm.Cond.code x code maxLocals ret :: tables_1)).before args0 about1 = true := by
  rw [allAtoms_all]
  show words1.all (fun c => c.before args0 about1) = true
  refine all_split ?_ w_codes
  rw [← List.take_append_drop 24 words1, List.all_append, w_t1, w_t2]
  rfl
set_option maxRecDepth 65536 in
theorem w_case : (Jvm.Cond.and given_1 narrow_1).before args0 about1 = true := by decide +kernel
theorem w_applies : (headSpec (Jvm.Cond.code x code maxLocals ret :: tables_1) room_1).applies x e0.platform about1 = true :=
  (Spec.applies_iff w_frames).mpr ⟨w_running, w_runnable, w_alone, w_named, w_hears, w_ripe, w_room, w_tables⟩
theorem atStart : AtStart classFile x code maxLocals ret World_1 tables_1 room_1 Calls_1 rest_1 Pre_1 launch0 p0 e0 about1 theMethod args0 below0 :=
  ⟨lists_1, trivial, launch0.admits_env _ _ _, launch0.least_env, fairChoices_fair.cas, fairChoices_fair.clock, w_frames, w_args, w_heap, w_applies, trivial, trivial, w_case⟩
end start1
theorem witness_1 : WitnessClaimed_1 := ⟨start1.p0, start1.e0, start1.about1, start1.theMethod, start1.args0, start1.below0, start1.atStart⟩
end Jvm.Pilot.@@N@@
