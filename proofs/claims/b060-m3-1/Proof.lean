import JvmDerived
import JvmDerived.Pilot.@@N@@Statement
import JvmDerived.Pilot.@@N@@Code
set_option linter.unusedVariables false
set_option linter.unusedSimpArgs false
@@BLOCK:NumsL.lean.txt@@
@@BLOCK:Masks.lean.txt@@
namespace Jvm.Pilot.@@N@@
open Jvm Jvm.ClassFile Sem Op Lib Jvm.Free Jvm.Stand Jvm.LawKit Jvm.RoadKit Bundle Jvm.Pilot.@@N@@.Jvm.D
section OwnKit
/-- what is left of a walk: from the frame g in the state T it ends, and Q says what it leaves -/
def own_GoF (p : Program) (e : Env) (below : List Frame) (F : Outcome → State → List Loc → Prop) (Q : Option Value → Heap → List Loc → Prop) (T : State) (g : JFrame) : Prop :=
  ∃ U o, Steps p.tables e below (T.setTop g) U ∧ U.status = .running ∧ Ended U below o ∧ ∃ v L, o = .returned v ∧ Q v U.heap L ∧ F o U L
abbrev own_Go (p : Program) (e : Env) (below : List Frame) (s : State) (Q : Option Value → Heap → List Loc → Prop) (ce sl : Nat) (T : State) (g : JFrame) : Prop := own_GoF p e below (fun o U L => FrameEnd s o U L ce sl) Q T g
/-- the same where a String constant may have been interned on the way -/
abbrev own_GoW (p : Program) (e : Env) (below : List Frame) (s : State) (Q : Option Value → Heap → List Loc → Prop) (ce sl : Nat) (T : State) (g : JFrame) : Prop := own_GoF p e below (fun o U L => ReturnedEndW s o U L ce sl) Q T g
/-- a body's contract: at these arguments and this heap it returns, and Q says what it leaves -/
def own_Ct (l : Launch) (Z : State) (y : MethodName) (bytes : ByteArray) (ml : Nat) (ret : Option FieldType) (rm : Room) (as : Array Value) (h0 : Heap) (Q : Option Value → Heap → List Loc → Prop) : Prop :=
  ∀ ws : List Jvm.Cond, MetFree l y (head1 (Jvm.Cond.code y bytes ml ret :: ws) rm) (fun a U => a = as ∧ Z.Warmed39 U.vm ∧ U.heap = h0) (fun _ _ _ _ _ => True) (fun _ U o U' => ∃ v L, o = .returned v ∧ Q v U'.heap L ∧ FrameEnd U o U' L rm.cells rm.slots)
/-- what holds throughout one body's walk -/
def own_Cx (p : Program) (s : State) (m : MethodId) (meth : Method) (c : Code) (Z : State) (bytes : ByteArray) (ml : Nat) (own nm : String) (ret : Option FieldType) : Prop :=
  p.tables.exec = Jvm.exec ∧ Z.Warmed39 s.vm ∧ c.code = bytes ∧ c.maxLocals = ml ∧ s.vm.findClass own = some m.cls ∧ meth.name = nm ∧ meth.sig.returnType = ret ∧ meth.locks = false
variable {F : Outcome → State → List Loc → Prop} {p : Program} {l : Launch} {e : Env} {R : Room} {s : State} {m : MethodId} {args : Array Value} {below : List Frame} {meth : Method} {c : Code} {T T' : State} {locs : List Loc} {cells slots : Nat} {Z : State} {a0 : Array Value} {h h' : Heap} {Q QQ : Option Value → Heap → List Loc → Prop} {ce sl : Nat} {g g' : JFrame}
theorem own_st (h : ∀ t, Steps p.tables e below (T'.setTop g') t → Steps p.tables e below (T.setTop g) t) (k : own_GoF p e below F Q T' g') : own_GoF p e below F Q T g := by
  obtain ⟨U, o, h1, h2⟩ := k
  exact ⟨U, o, h _ h1, h2⟩
theorem own_enter {y : MethodName} {bytes : ByteArray} {ml : Nat} {ret : Option FieldType} {rm : Room} {as : Array Value} {h0 : Heap} (hp : plainFor y = true)
    (walk : ∀ {p e s m below meth c s₁}, Stand p l e rm s m as below meth c s₁ [] 0 0 → own_Cx p s m meth c Z bytes ml y.cls y.name ret → s₁.heap = h0 → own_Go p e below s Q rm.cells rm.slots s₁ (entryFrame m as ml)) : own_Ct l Z y bytes ml ret rm as h0 Q := by
  intro ws
  refine MetFree.of_bodySF hp hisR ?_
  intro p e s m args below meth c s₁ Bd hml0 hP hK
  obtain ⟨rfl, hZ, hh⟩ := hP
  have X0 : Stand p l e rm s m args below meth c s₁ [] 0 0 := Stand.of_body Bd
  have e0 : s₁.heap = h0 := by rw [← hh, Bd.state]; rfl
  exact walk X0 ⟨Bd.exec, hZ, Bd.bytes, hml0, findClass_of_methodNamed Bd.named, (name_of_methodNamed Bd.named Bd.method).1, Bd.returns, Bd.notSynchronized⟩ e0
theorem own_cast (q : g = g') (k : own_GoF p e below F Q T g') : own_GoF p e below F Q T g := q ▸ k
theorem own_ret (X : Stand p l e R s m args below meth c T locs cells slots) (hx : p.tables.exec = Jvm.exec) (hlk : meth.locks = false) {pc : Nat} {Ls : Array Slot} {w : Value} {t : FieldType} {i : Instr} {rest : List Value} (hret : meth.sig.returnType = some t) (hn : narrow t w = w)
    (hi : (i = .ireturn ∧ (t = .int ∨ t = .boolean ∨ t = .byte ∨ t = .char ∨ t = .short) ∧ ∃ z, w = .int z) ∨ (i = .lreturn ∧ t = .long ∧ ∃ z, w = .long z) ∨ (i = .dreturn ∧ t = .double ∧ ∃ z, w = .double z) ∨ (i = .freturn ∧ t = .float ∧ ∃ z, w = .float z) ∨ (i = .areturn ∧ t.isReference = true ∧ w.isRef = true))
    (hd : decode c.code pc = .ok (i, 1)) (hQ : Q (some w) T.heap locs) (hc : cells ≤ ce) (hs : slots ≤ sl) : own_Go p e below s Q ce sl T (mkF m pc Ls (w :: rest)) := by
  obtain ⟨fs, hr, hrun, hended, hW, hsame⟩ := X.leave (v := some w) (fun h => by rw [hret] at h; cases h) hlk
  exact ⟨_, _, retOut X hx hret hn hi hd hr, hrun, hended, _, _, rfl, hQ, ⟨_, rfl⟩, hW, hsame.mono hc hs⟩
theorem own_retI (X : Stand p l e R s m args below meth c T locs cells slots) (hx : p.tables.exec = Jvm.exec) (hlk : meth.locks = false) {pc : Nat} {Ls : Array Slot} {z : Int32} {t : FieldType} {rest : List Value} (hret : meth.sig.returnType = some t) (ht : t = .int ∨ t = .boolean ∨ t = .byte ∨ t = .char ∨ t = .short)
    (hn : narrow t (.int z) = .int z) (hd : decode c.code pc = .ok (.ireturn, 1)) (hQ : Q (some (.int z)) T.heap locs) (hc : cells ≤ ce) (hs : slots ≤ sl) : own_Go p e below s Q ce sl T (mkF m pc Ls (.int z :: rest)) :=
  own_ret X hx hlk hret hn (Or.inl ⟨rfl, ht, _, rfl⟩) hd hQ hc hs
theorem own_retJ (X : Stand p l e R s m args below meth c T locs cells slots) (hx : p.tables.exec = Jvm.exec) (hlk : meth.locks = false) {pc : Nat} {Ls : Array Slot} {z : Int64} {rest : List Value} (hret : meth.sig.returnType = some .long)
    (hd : decode c.code pc = .ok (.lreturn, 1)) (hQ : Q (some (.long z)) T.heap locs) (hc : cells ≤ ce) (hs : slots ≤ sl) : own_Go p e below s Q ce sl T (mkF m pc Ls (.long z :: rest)) :=
  own_ret X hx hlk hret rfl (Or.inr (Or.inl ⟨rfl, rfl, _, rfl⟩)) hd hQ hc hs
theorem own_retR (X : Stand p l e R s m args below meth c T locs cells slots) (hx : p.tables.exec = Jvm.exec) (hlk : meth.locks = false) {pc : Nat} {Ls : Array Slot} {w : Value} {t : FieldType} {rest : List Value} (hret : meth.sig.returnType = some t) (ht : t.isReference = true) (hw : w.isRef = true) (hn : narrow t w = w)
    (hd : decode c.code pc = .ok (.areturn, 1)) (hQ : Q (some w) T.heap locs) (hc : cells ≤ ce) (hs : slots ≤ sl) : own_Go p e below s Q ce sl T (mkF m pc Ls (w :: rest)) :=
  own_ret X hx hlk hret hn (Or.inr (Or.inr (Or.inr (Or.inr ⟨rfl, ht, hw⟩)))) hd hQ hc hs
theorem own_retV (X : Stand p l e R s m args below meth c T locs cells slots) (hx : p.tables.exec = Jvm.exec) (hlk : meth.locks = false) {pc : Nat} {Ls : Array Slot} (hret : meth.sig.returnType = none)
    (hd : decode c.code pc = .ok (.return_, 1)) (hQ : Q none T.heap locs) (hc : cells ≤ ce) (hs : slots ≤ sl) : own_Go p e below s Q ce sl T (mkF m pc Ls []) := by
  obtain ⟨fs, hr, hrun, hended, hW, hsame⟩ := X.leave (v := none) (fun _ => rfl) hlk
  exact ⟨_, _, X.returnOut hx hret hd hr, hrun, hended, _, _, rfl, hQ, ⟨_, rfl⟩, hW, hsame.mono hc hs⟩
/-! calls by contract -/
theorem own_callS (X : Stand p l e R s m args below meth c T locs cells slots) (hx : p.tables.exec = Jvm.exec) (hZ : Z.Warmed39 s.vm) {own : String} {index : Nat} {y : MethodName} {bytes : ByteArray} {ml : Nat} {ret : Option FieldType} {rm : Room} {argsL rest : List Value}
    (hown : s.vm.findClass own = some m.cls) (w1 : (Jvm.Cond.methodLink own index y).before a0 Z = true) (w2 : (Jvm.Cond.static y).before a0 Z = true) (w3 : (Jvm.Cond.initialized y.cls).before a0 Z = true) (w4 : (Jvm.Cond.code y bytes ml ret).before a0 Z = true)
    (hy : y.cls ≠ "java/lang/invoke/MethodHandle" ∧ y.cls ≠ "java/lang/invoke/VarHandle") (eT : T.heap = h) (hC : own_Ct l Z y bytes ml ret rm argsL.toArray h QQ) {W : Nat} (hf : rm.frames + 1 ≤ R.frames) (hl : W + (ml + 11) + rm.locals ≤ R.locals) (hc : cells + rm.cells ≤ R.cells) (hs : slots + rm.slots ≤ R.slots)
    {ps : List FieldType} {rr : Option FieldType} (hd0 : parseMethodDescriptor y.desc = some ⟨ps, rr⟩) (hlen : argsL.length = ps.length) {g : JFrame} (hg : g.method = m) (hsize : g.locals.size = c.maxLocals) (hstack : g.stack = argsL.reverse ++ rest) (hW : 2 * g.monitorRoom + (rest.map fun v => v.category).sum ≤ W) (hd : decode c.code g.pc = .ok (.invokestatic index, 3))
    (k : ∀ v T' L, Stand p l e R s m args below meth c T' (locs ++ L) (cells + rm.cells) (slots + rm.slots) → QQ v T'.heap L → own_GoF p e below F Q T' { g with pc := g.pc + 3, stack := v.toList ++ rest }) : own_GoF p e below F Q T g := by
  obtain ⟨v, _, ⟨T', L', c', n'⟩, -, X', ⟨Lc, hQ, l1, y1, z1⟩, st⟩ := Jvm.LawKit.callS X hx (y := y) hown (mvT hZ w1) (mvT hZ w2) (mvT hZ w3) (mvT hZ w4) hy (backOf (W := W) (hC []) hZ w4 w3 hf hl) hg hsize (lenOf hd0 hlen) hstack hW hd (fun _ _ => ⟨rfl, eT, hc, hs⟩)
  dsimp only [Pt.U, Pt.locs, Pt.cells, Pt.slots] at X' l1 y1 z1 st hQ
  subst l1 y1 z1
  exact own_st st (k _ _ _ X' hQ)
theorem own_callI (X : Stand p l e R s m args below meth c T locs cells slots) (hx : p.tables.exec = Jvm.exec) (hZ : Z.Warmed39 s.vm) {own : String} {index : Nat} {y : MethodName} {bytes : ByteArray} {ml : Nat} {rm : Room} {argsL rest : List Value} {a : Addr}
    (hy1 : y.name = "<init>") (hown : s.vm.findClass own = some m.cls) (w1 : (Jvm.Cond.methodLink own index y).before a0 Z = true) (w2 : (Jvm.Cond.instanceMethod y).before a0 Z = true) (w3 : (Jvm.Cond.initialized y.cls).before a0 Z = true) (w4 : (Jvm.Cond.code y bytes ml none).before a0 Z = true)
    (hy : y.cls ≠ "java/lang/invoke/MethodHandle" ∧ y.cls ≠ "java/lang/invoke/VarHandle") (eT : T.heap = h) (hC : own_Ct l Z y bytes ml none rm (.ref a :: argsL).toArray h QQ) {W : Nat} (hf : rm.frames + 1 ≤ R.frames) (hl : W + (ml + 11) + rm.locals ≤ R.locals) (hc : cells + rm.cells ≤ R.cells) (hs : slots + rm.slots ≤ R.slots)
    {ps : List FieldType} {rr : Option FieldType} (hd0 : parseMethodDescriptor y.desc = some ⟨ps, rr⟩) (hlen : argsL.length = ps.length) {g : JFrame} (hg : g.method = m) (hsize : g.locals.size = c.maxLocals) (hstack : g.stack = argsL.reverse ++ .ref a :: rest) (hW : 2 * g.monitorRoom + (rest.map fun v => v.category).sum ≤ W) (hd : decode c.code g.pc = .ok (.invokespecial index, 3))
    (k : ∀ v T' L, Stand p l e R s m args below meth c T' (locs ++ L) (cells + rm.cells) (slots + rm.slots) → QQ v T'.heap L → own_GoF p e below F Q T' { g with pc := g.pc + 3, stack := v.toList ++ rest }) : own_GoF p e below F Q T g := by
  obtain ⟨v, _, ⟨T', L', c', n'⟩, -, X', ⟨Lc, hQ, l1, y1, z1⟩, st⟩ := X.specialBack hx (y := y) hy1 hown (mvT hZ w1) (mvT hZ w2) (mvT hZ w4) hy (backOf (W := W) (hC []) hZ w4 w3 hf hl) hg hsize (Steps.refl _) (a := a) (lenOf hd0 hlen) hstack hW hd (fun _ _ => ⟨rfl, eT, hc, hs⟩)
  dsimp only [Pt.U, Pt.locs, Pt.cells, Pt.slots] at X' l1 y1 z1 st hQ
  subst l1 y1 z1
  exact own_st (fun _ r => st.trans r) (k _ _ _ X' hQ)
theorem own_callV (X : Stand p l e R s m args below meth c T locs cells slots) (hx : p.tables.exec = Jvm.exec) (hZ : Z.Warmed39 s.vm) {own C : String} {index : Nat} {y z : MethodName} {bytes : ByteArray} {ml : Nat} {ret : Option FieldType} {rm : Room} {argsL rest : List Value} {a : Addr}
    (hown : s.vm.findClass own = some m.cls) (w1 : (Jvm.Cond.methodLink own index y).before a0 Z = true) (w2 : (Jvm.Cond.declares y).before a0 Z = true) (hnf : NotFace s y) (w5 : (Jvm.Cond.selects C y z).before a0 Z = true) (w6 : (Jvm.Cond.instanceMethod z).before a0 Z = true) (w3 : (Jvm.Cond.initialized z.cls).before a0 Z = true) (w4 : (Jvm.Cond.code z bytes ml ret).before a0 Z = true)
    (hy : y.cls ≠ "java/lang/invoke/MethodHandle" ∧ y.cls ≠ "java/lang/invoke/VarHandle") (eT : T.heap = h) (E : Exa Z h a C) (hC : own_Ct l Z z bytes ml ret rm (.ref a :: argsL).toArray h QQ) {W : Nat} (hf : rm.frames + 1 ≤ R.frames) (hl : W + (ml + 11) + rm.locals ≤ R.locals) (hc : cells + rm.cells ≤ R.cells) (hs : slots + rm.slots ≤ R.slots)
    {ps : List FieldType} {rr : Option FieldType} (hd0 : parseMethodDescriptor y.desc = some ⟨ps, rr⟩) (hlen : argsL.length = ps.length) {g : JFrame} (hg : g.method = m) (hsize : g.locals.size = c.maxLocals) (hstack : g.stack = argsL.reverse ++ .ref a :: rest) (hW : 2 * g.monitorRoom + (rest.map fun v => v.category).sum ≤ W) (hd : decode c.code g.pc = .ok (.invokevirtual index, 3))
    (k : ∀ v T' L, Stand p l e R s m args below meth c T' (locs ++ L) (cells + rm.cells) (slots + rm.slots) → QQ v T'.heap L → own_GoF p e below F Q T' { g with pc := g.pc + 3, stack := v.toList ++ rest }) : own_GoF p e below F Q T g := by
  obtain ⟨cB, kB, q1, q2, q3⟩ := isOf hZ eT E
  obtain ⟨v, _, ⟨T', L', c', n'⟩, -, X', ⟨Lc, hQ, l1, y1, z1⟩, st⟩ := X.virtualBack hx (y := y) (z := z) hown (mvT hZ w1) (mvT hZ w2) hnf (mvT hZ w5) (mvT hZ w6) hy (backOf (W := W) (hC []) hZ w4 w3 hf hl) q1 q3 hg hsize (Steps.refl _) (lenOf hd0 hlen) hstack hW hd (fun _ _ => ⟨rfl, eT, hc, hs⟩)
  dsimp only [Pt.U, Pt.locs, Pt.cells, Pt.slots] at X' l1 y1 z1 st hQ
  subst l1 y1 z1
  exact own_st (fun _ r => st.trans r) (k _ _ _ X' hQ)
theorem own_callP (X : Stand p l e R s m args below meth c T locs cells slots) (hx : p.tables.exec = Jvm.exec) (hZ : Z.Warmed39 s.vm) {own C : String} {index : Nat} {y : MethodName} {bytes : ByteArray} {ml : Nat} {ret : Option FieldType} {rm : Room} {argsL rest : List Value} {a : Addr}
    (hown : s.vm.findClass own = some m.cls) (w1 : (Jvm.Cond.methodLink own index y).before a0 Z = true) (w6 : (Jvm.Cond.instanceMethod y).before a0 Z = true) (w5 : (Jvm.Cond.selects y.cls y y).before a0 Z = true) (w7 : (Jvm.Cond.privateMethod y).before a0 Z = true) (w3 : (Jvm.Cond.initialized y.cls).before a0 Z = true) (w4 : (Jvm.Cond.code y bytes ml ret).before a0 Z = true)
    (hy : y.cls ≠ "java/lang/invoke/MethodHandle" ∧ y.cls ≠ "java/lang/invoke/VarHandle") (eT : T.heap = h) (E : Exa Z h a C) (hC : own_Ct l Z y bytes ml ret rm (.ref a :: argsL).toArray h QQ) {W : Nat} (hf : rm.frames + 1 ≤ R.frames) (hl : W + (ml + 11) + rm.locals ≤ R.locals) (hc : cells + rm.cells ≤ R.cells) (hs : slots + rm.slots ≤ R.slots)
    {ps : List FieldType} {rr : Option FieldType} (hd0 : parseMethodDescriptor y.desc = some ⟨ps, rr⟩) (hlen : argsL.length = ps.length) {g : JFrame} (hg : g.method = m) (hsize : g.locals.size = c.maxLocals) (hstack : g.stack = argsL.reverse ++ .ref a :: rest) (hW : 2 * g.monitorRoom + (rest.map fun v => v.category).sum ≤ W) (hd : decode c.code g.pc = .ok (.invokevirtual index, 3))
    (k : ∀ v T' L, Stand p l e R s m args below meth c T' (locs ++ L) (cells + rm.cells) (slots + rm.slots) → QQ v T'.heap L → own_GoF p e below F Q T' { g with pc := g.pc + 3, stack := v.toList ++ rest }) : own_GoF p e below F Q T g := by
  obtain ⟨cq, q1, q2⟩ := E.cell
  obtain ⟨v, _, ⟨T', L', c', n'⟩, -, X', ⟨Lc, hQ, l1, y1, z1⟩, st⟩ := X.privateBack hx (y := y) hown (mvT hZ w1) (mvT hZ w6) (mvT hZ w5) (Cond.privateMethod_at (mvP hZ w7 (args := #[]))) (mvT hZ w4) hy (backOf (W := W) (hC []) hZ w4 w3 hf hl) hg hsize (Steps.refl _) (a := a) (by rw [eT]; exact q1) q2 (lenOf hd0 hlen) hstack hW hd (fun _ _ => ⟨rfl, eT, hc, hs⟩)
  dsimp only [Pt.U, Pt.locs, Pt.cells, Pt.slots] at X' l1 y1 z1 st hQ
  subst l1 y1 z1
  exact own_st (fun _ r => st.trans r) (k _ _ _ X' hQ)
theorem own_selfsel {y : MethodName} {n : Nat} (wi : (Jvm.Cond.instantiable y.cls n).before a0 Z = true) (w7 : (Jvm.Cond.privateMethod y).before a0 Z = true) (w6 : (Jvm.Cond.instanceMethod y).before a0 Z = true) (hy : y.cls ≠ "java/lang/invoke/MethodHandle" ∧ y.cls ≠ "java/lang/invoke/VarHandle") : (Jvm.Cond.selects y.cls y y).before a0 Z = true := by
  obtain ⟨c, k', h1, h2, -, h3, -⟩ := Cond.instantiable_spec wi
  exact Jvm.Stand.selects_self_of_private h1 h2 (by simp at h3; exact h3.1) (Cond.privateMethod_at w7) w6 hy
/-! arrays: n places, place i holds f i -/
def own_Av (Z : State) (h : Heap) (a : Addr) (ty : FieldType) (n : Nat) (f : Nat → Value) : Prop := ∃ c : Cell, Arr Z h a c ty ∧ c.slots.size = n ∧ ∀ i, i < n → c.slots[i]? = some (f i)
def own_up (f : Nat → Value) (i : Nat) (v : Value) : Nat → Value := fun j => if j = i then v else f j
variable {a b : Addr} {ty : FieldType} {n : Nat} {f f' : Nat → Value} {v : Value}
theorem own_Av.lt (F : own_Av Z h a ty n f) : a < h.size := by obtain ⟨c, A, -⟩ := F; exact A.lt
theorem own_Av.ext (F : own_Av Z h a ty n f) (E : Ext h h') : own_Av Z h' a ty n f := by obtain ⟨c, A, q⟩ := F; exact ⟨c, A.ext E, q⟩
theorem own_Av.other {i : Nat} (F : own_Av Z h b ty n f) (W : Wr h h' a i v) (q : b ≠ a) : own_Av Z h' b ty n f := by obtain ⟨c, A, r⟩ := F; exact ⟨c, A.other W q, r⟩
theorem own_Av.keep {ws : List Addr} (F : own_Av Z h a ty n f) (K : Keep h h' ws) (q : a ∉ ws) : own_Av Z h' a ty n f := by obtain ⟨c, A, r⟩ := F; exact ⟨c, ⟨K.2.1 _ _ A.1 q, A.2⟩, r⟩
theorem own_Av.cg (F : own_Av Z h a ty n f) (q : ∀ i, i < n → f i = f' i) : own_Av Z h a ty n f' := by obtain ⟨c, A, r, t⟩ := F; exact ⟨c, A, r, fun i hi => by rw [t i hi, q i hi]⟩
theorem own_Av.same {i : Nat} (F : own_Av Z h a ty n f) (W : Wr h h' a i v) (hi : i < n) : own_Av Z h' a ty n (own_up f i v) := by
  obtain ⟨c, A, r, t⟩ := F
  refine ⟨_, A.same W, by rw [sz_set]; exact r, fun j hj => ?_⟩
  subst r
  simp only [Cell.setSlot, own_up, Array.getElem?_setIfInBounds]
  by_cases q : i = j
  · subst q; simp [hi]
  · simp [q, Ne.symm q, t j hj]
theorem own_Av.new {k : ClassId} {z : Int32} (A : Arr Z h a (newA k ty z) ty) : own_Av Z h a ty z.toNatClampNeg (fun _ => defaultValue ty) := by
  refine ⟨_, A, sz_new _ _ _, fun i hi => ?_⟩
  simp [newA, hi]
theorem own_ne (F : a < b) : a ≠ b := Nat.ne_of_lt F
theorem own_inb {c : Cell} {j : Int32} {i : Nat} (r : c.slots.size = n) (hj : ¬ j < 0) (hi : j.toNatClampNeg = i) (hin : i < n) : ¬ (j < 0 ∨ c.slots.size ≤ j.toNatClampNeg) := by
  rintro (q | q)
  · exact hj q
  · omega
theorem own_len (X : Stand p l e R s m args below meth c T locs cells slots) (hx : p.tables.exec = Jvm.exec) (hZ : Z.Warmed39 s.vm) (eT : T.heap = h) (A : own_Av Z h a ty n f) {z : Int32} (hz : n.toInt32 = z) {g : JFrame} (hg : g.method = m) {rest : List Value} (hs : g.stack = .ref a :: rest) (hd : decode c.code g.pc = .ok (.arraylength, 1)) :
    ∀ t, Steps p.tables e below (T.setTop { g with pc := g.pc + 1, stack := .int z :: rest }) t → Steps p.tables e below (T.setTop g) t := by
  obtain ⟨c, A, r, -⟩ := A
  subst hz r
  exact X.arraylength hx (by rw [eT]; exact A.1) (State.isArrayOf_alike hZ.alike A.2.1) hg hs hd
theorem own_iaload (X : Stand p l e R s m args below meth c T locs cells slots) (hx : p.tables.exec = Jvm.exec) (hZ : Z.Warmed39 s.vm) (eT : T.heap = h) (A : own_Av Z h a .int n f) {j : Int32} (i : Nat) (hj : ¬ j < 0) (hi : j.toNatClampNeg = i) (hin : i < n) (hv : f i = v) {g : JFrame} (hg : g.method = m) {rest : List Value} (hs : g.stack = .int j :: .ref a :: rest) (hd : decode c.code g.pc = .ok (.iaload, 1)) :
    ∀ t, Steps p.tables e below (T.setTop { g with pc := g.pc + 1, stack := v :: rest }) t → Steps p.tables e below (T.setTop g) t := by
  obtain ⟨c, A, r, t⟩ := A
  exact X.iaload hx (by rw [eT]; exact A.1) (State.isArrayOf_alike hZ.alike A.2.1) A.2.2 (own_inb r hj hi hin) (by rw [hi, t i hin, hv]) hg hs hd
theorem own_laload (X : Stand p l e R s m args below meth c T locs cells slots) (hx : p.tables.exec = Jvm.exec) (hZ : Z.Warmed39 s.vm) (eT : T.heap = h) (A : own_Av Z h a .long n f) {j : Int32} (i : Nat) (hj : ¬ j < 0) (hi : j.toNatClampNeg = i) (hin : i < n) (hv : f i = v) {g : JFrame} (hg : g.method = m) {rest : List Value} (hs : g.stack = .int j :: .ref a :: rest) (hd : decode c.code g.pc = .ok (.laload, 1)) :
    ∀ t, Steps p.tables e below (T.setTop { g with pc := g.pc + 1, stack := v :: rest }) t → Steps p.tables e below (T.setTop g) t := by
  obtain ⟨c, A, r, t⟩ := A
  exact X.laload hx (by rw [eT]; exact A.1) (State.isArrayOf_alike hZ.alike A.2.1) A.2.2 (own_inb r hj hi hin) (by rw [hi, t i hin, hv]) hg hs hd
theorem own_aaload (X : Stand p l e R s m args below meth c T locs cells slots) (hx : p.tables.exec = Jvm.exec) (hZ : Z.Warmed39 s.vm) (eT : T.heap = h) (A : own_Av Z h a ty n f) (hty : ty.isReference = true) {j : Int32} (i : Nat) (hj : ¬ j < 0) (hi : j.toNatClampNeg = i) (hin : i < n) (hv : f i = v) {g : JFrame} (hg : g.method = m) {rest : List Value} (hs : g.stack = .int j :: .ref a :: rest) (hd : decode c.code g.pc = .ok (.aaload, 1)) :
    ∀ t, Steps p.tables e below (T.setTop { g with pc := g.pc + 1, stack := v :: rest }) t → Steps p.tables e below (T.setTop g) t := by
  obtain ⟨c, A, r, t⟩ := A
  exact X.aaload hx (by rw [eT]; exact A.1) (State.isArrayOf_alike hZ.alike A.2.1) hty A.2.2 (own_inb r hj hi hin) (by rw [hi, t i hin, hv]) hg hs hd
theorem own_baloadB (X : Stand p l e R s m args below meth c T locs cells slots) (hx : p.tables.exec = Jvm.exec) (hZ : Z.Warmed39 s.vm) (eT : T.heap = h) (A : own_Av Z h a .byte n f) {j : Int32} (i : Nat) (hj : ¬ j < 0) (hi : j.toNatClampNeg = i) (hin : i < n) (hv : f i = v) {g : JFrame} (hg : g.method = m) {rest : List Value} (hs : g.stack = .int j :: .ref a :: rest) (hd : decode c.code g.pc = .ok (.baload, 1)) :
    ∀ t, Steps p.tables e below (T.setTop { g with pc := g.pc + 1, stack := v :: rest }) t → Steps p.tables e below (T.setTop g) t := by
  obtain ⟨c, A, r, t⟩ := A
  exact X.baloadBytes hx (by rw [eT]; exact A.1) (State.isArrayOf_alike hZ.alike A.2.1) A.2.2 (own_inb r hj hi hin) (by rw [hi, t i hin, hv]) hg hs hd
theorem own_baloadZ (X : Stand p l e R s m args below meth c T locs cells slots) (hx : p.tables.exec = Jvm.exec) (hZ : Z.Warmed39 s.vm) (eT : T.heap = h) (A : own_Av Z h a .boolean n f) {j : Int32} (i : Nat) (hj : ¬ j < 0) (hi : j.toNatClampNeg = i) (hin : i < n) (hv : f i = v) {g : JFrame} (hg : g.method = m) {rest : List Value} (hs : g.stack = .int j :: .ref a :: rest) (hd : decode c.code g.pc = .ok (.baload, 1)) :
    ∀ t, Steps p.tables e below (T.setTop { g with pc := g.pc + 1, stack := v :: rest }) t → Steps p.tables e below (T.setTop g) t := by
  obtain ⟨c, A, r, t⟩ := A
  exact X.baloadBooleans hx (by rw [eT]; exact A.1) (State.isArrayOf_alike hZ.alike A.2.1) A.2.2 (own_inb r hj hi hin) (by rw [hi, t i hin, hv]) hg hs hd
theorem own_iastore (X : Stand p l e R s m args below meth c T locs cells slots) (hx : p.tables.exec = Jvm.exec) (hZ : Z.Warmed39 s.vm) (eT : T.heap = h) (A : own_Av Z h a .int n f) {j x : Int32} (i : Nat) (hj : ¬ j < 0) (hi : j.toNatClampNeg = i) (hin : i < n) {g : JFrame} (hg : g.method = m) {rest : List Value} (hs : g.stack = .int x :: .int j :: .ref a :: rest) (hd : decode c.code g.pc = .ok (.iastore, 1)) :
    ∃ T' h', Stand p l e R s m args below meth c T' (locs ++ [⟨a, i⟩]) cells slots ∧ T'.heap = h' ∧ Wr h h' a i (.int x) ∧ own_Av Z h' a .int n (own_up f i (.int x)) ∧ ∀ t, Steps p.tables e below (T'.setTop { g with pc := g.pc + 1, stack := rest }) t → Steps p.tables e below (T.setTop g) t := by
  have B := A
  obtain ⟨c, A, r, -⟩ := A
  obtain ⟨T', h', X', e', W, st⟩ := stI X hx hZ eT A (own_inb r hj hi hin) hg hs hd
  rw [hi] at X' W
  exact ⟨T', h', X', e', W, B.same W hin, st⟩
theorem own_lastore (X : Stand p l e R s m args below meth c T locs cells slots) (hx : p.tables.exec = Jvm.exec) (hZ : Z.Warmed39 s.vm) (eT : T.heap = h) (A : own_Av Z h a .long n f) {j : Int32} {x : Int64} (i : Nat) (hj : ¬ j < 0) (hi : j.toNatClampNeg = i) (hin : i < n) {g : JFrame} (hg : g.method = m) {rest : List Value} (hs : g.stack = .long x :: .int j :: .ref a :: rest) (hd : decode c.code g.pc = .ok (.lastore, 1)) :
    ∃ T' h', Stand p l e R s m args below meth c T' (locs ++ [⟨a, i⟩]) cells slots ∧ T'.heap = h' ∧ Wr h h' a i (.long x) ∧ own_Av Z h' a .long n (own_up f i (.long x)) ∧ ∀ t, Steps p.tables e below (T'.setTop { g with pc := g.pc + 1, stack := rest }) t → Steps p.tables e below (T.setTop g) t := by
  have B := A
  obtain ⟨c, A, r, -⟩ := A
  obtain ⟨T', h', X', e', W, st⟩ := stJ X hx hZ eT A (own_inb r hj hi hin) hg hs hd
  rw [hi] at X' W
  exact ⟨T', h', X', e', W, B.same W hin, st⟩
theorem own_bastoreB (X : Stand p l e R s m args below meth c T locs cells slots) (hx : p.tables.exec = Jvm.exec) (hZ : Z.Warmed39 s.vm) (eT : T.heap = h) (A : own_Av Z h a .byte n f) {j x : Int32} (i : Nat) (hj : ¬ j < 0) (hi : j.toNatClampNeg = i) (hin : i < n) {y : Int32} (hy : nar .byte x = y) {g : JFrame} (hg : g.method = m) {rest : List Value} (hs : g.stack = .int x :: .int j :: .ref a :: rest) (hd : decode c.code g.pc = .ok (.bastore, 1)) :
    ∃ T' h', Stand p l e R s m args below meth c T' (locs ++ [⟨a, i⟩]) cells slots ∧ T'.heap = h' ∧ Wr h h' a i (.int y) ∧ own_Av Z h' a .byte n (own_up f i (.int y)) ∧ ∀ t, Steps p.tables e below (T'.setTop { g with pc := g.pc + 1, stack := rest }) t → Steps p.tables e below (T.setTop g) t := by
  have B := A
  obtain ⟨c, A, r, -⟩ := A
  obtain ⟨T', h', X', e', W, st⟩ := stB X hx hZ eT A (own_inb r hj hi hin) hg hs hd
  rw [hi] at X' W
  rw [hy] at W
  exact ⟨T', h', X', e', W, B.same W hin, st⟩
theorem own_bastoreZ (X : Stand p l e R s m args below meth c T locs cells slots) (hx : p.tables.exec = Jvm.exec) (hZ : Z.Warmed39 s.vm) (eT : T.heap = h) (A : own_Av Z h a .boolean n f) {j x : Int32} (i : Nat) (hj : ¬ j < 0) (hi : j.toNatClampNeg = i) (hin : i < n) {y : Int32} (hy : nar .boolean x = y) {g : JFrame} (hg : g.method = m) {rest : List Value} (hs : g.stack = .int x :: .int j :: .ref a :: rest) (hd : decode c.code g.pc = .ok (.bastore, 1)) :
    ∃ T' h', Stand p l e R s m args below meth c T' (locs ++ [⟨a, i⟩]) cells slots ∧ T'.heap = h' ∧ Wr h h' a i (.int y) ∧ own_Av Z h' a .boolean n (own_up f i (.int y)) ∧ ∀ t, Steps p.tables e below (T'.setTop { g with pc := g.pc + 1, stack := rest }) t → Steps p.tables e below (T.setTop g) t := by
  have B := A
  obtain ⟨c, A, r, -⟩ := A
  obtain ⟨T', h', X', e', W, st⟩ := stZ X hx hZ eT A (own_inb r hj hi hin) hg hs hd
  rw [hi] at X' W
  rw [hy] at W
  exact ⟨T', h', X', e', W, B.same W hin, st⟩
theorem own_newP (X : Stand p l e R s m args below meth c T locs cells slots) (hx : p.tables.exec = Jvm.exec) (hZ : Z.Warmed39 s.vm) {aty : ArrayType} (w : (Jvm.Cond.arrayClass (newarray.typeOf aty)).before a0 Z = true) (eT : T.heap = h) {z : Int32} (n : Nat) (hn : ¬ z < 0) (hz : z.toNatClampNeg = n) {cap : Nat} (hcap : n ≤ cap) (hb : cap * 8 ≤ 536870912) (hc : cells + 1 ≤ R.cells) (hl : slots + cap ≤ R.slots) {g : JFrame} (hg : g.method = m) {rest : List Value} (hs : g.stack = .int z :: rest) (hd : decode c.code g.pc = .ok (.newarray aty, 2)) :
    ∃ T' h' b, Stand p l e R s m args below meth c T' locs (cells + 1) (slots + cap) ∧ T'.heap = h' ∧ b = h.size ∧ Ext h h' ∧ own_Av Z h' b (newarray.typeOf aty) n (fun _ => defaultValue (newarray.typeOf aty)) ∧ ∀ t, Steps p.tables e below (T'.setTop { g with pc := g.pc + 2, stack := .ref b :: rest }) t → Steps p.tables e below (T.setTop g) t := by
  obtain ⟨T', h', k, X', e', E, A, st⟩ := newP X hx hZ w eT hg hd hs hn (cap := cap) (by rw [hz]; exact hcap) hb hc hl
  exact ⟨T', h', _, X', e', rfl, E, hz ▸ own_Av.new A, st⟩
theorem own_newO (X : Stand p l e R s m args below meth c T locs cells slots) (hx : p.tables.exec = Jvm.exec) (hZ : Z.Warmed39 s.vm) {own C : String} {index n : Nat} (hown : s.vm.findClass own = some m.cls) (w : (Jvm.Cond.classLink own index C).before a0 Z = true) (wi : (Jvm.Cond.instantiable C n).before a0 Z = true) (wz : (Jvm.Cond.initialized C).before a0 Z = true) (eT : T.heap = h) (hc : cells + 1 ≤ R.cells) (hl : slots + n ≤ R.slots) {g : JFrame} (hg : g.method = m) (hd : decode c.code g.pc = .ok (.new index, 3)) :
    ∃ T' h' b, Stand p l e R s m args below meth c T' locs (cells + 1) (slots + n) ∧ T'.heap = h' ∧ b = h.size ∧ Ext h h' ∧ Exa Z h' b C ∧ (∀ {O nm d : String} {ty : FieldType}, Laid Z a0 C O nm d → parseFieldDescriptor d = some ty → Fld Z h' b O nm d (defaultValue ty)) ∧ ∀ t, Steps p.tables e below (T'.setTop { g with pc := g.pc + 3, stack := .ref b :: g.stack }) t → Steps p.tables e below (T.setTop g) t := by
  obtain ⟨T', h', X', e', E, A, D, -, st⟩ := newO X hx hZ hown w wi wz eT hg hd hc hl
  exact ⟨T', h', _, X', e', rfl, E, A, D, st⟩
theorem own_stakeep {ws : List Addr} {C n d : String} {v : Value} (F : Sta Z h C n d v) (K : Keep h h' ws) (q : ∀ a ∈ ws, ∀ cell : Cell, h[a]? = some cell → cell.vm.isStatics = false) : Sta Z h' C n d v := by
  obtain ⟨cf, i, k, f, st, cell, h1, h2, h3, h4, h5, h6, h7⟩ := F
  refine ⟨cf, i, k, f, st, cell, h1, h2, h3, h4, K.2.1 _ _ h5 (fun hm => ?_), h6, h7⟩
  have := q st hm cell h5
  rw [h6] at this; cases this
theorem own_frs {k : Nat} {sl : Nat} (N : Fr k locs) (q : k ≤ a) : Fr k (locs ++ [⟨a, sl⟩]) := by
  intro y hy
  rcases List.mem_append.mp hy with hy | hy
  · exact N y hy
  · rw [List.mem_singleton.mp hy]; exact q
/-! arrays of ints and longs by a function on places -/
def own_upI (f : Nat → Int32) (i : Nat) (v : Int32) : Nat → Int32 := fun j => if j = i then v else f j
def own_upJ (f : Nat → Int64) (i : Nat) (v : Int64) : Nat → Int64 := fun j => if j = i then v else f j
theorem own_Av.fI {gg : Nat → Int32} {i : Nat} {x : Int32} (F : own_Av Z h a ty n (own_up (fun k => .int (gg k)) i (.int x))) : own_Av Z h a ty n (fun k => .int (own_upI gg i x k)) :=
  F.cg fun j _ => by unfold own_up own_upI; split <;> rfl
theorem own_Av.fJ {gg : Nat → Int64} {i : Nat} {x : Int64} (F : own_Av Z h a ty n (own_up (fun k => .long (gg k)) i (.long x))) : own_Av Z h a ty n (fun k => .long (own_upJ gg i x k)) :=
  F.cg fun j _ => by unfold own_up own_upJ; split <;> rfl
end OwnKit
section OwnNums
theorem own_and_pow (b : Int32) (i : Nat) (m : Int32) (hm : m.toBitVec = BitVec.twoPow 32 i) : (b &&& m = 0) ↔ b.toBitVec.getLsbD i = false := by
  rw [← Int32.toBitVec_inj, Int32.toBitVec_and, hm, BitVec.and_twoPow]
  by_cases hi : i < 32
  · cases h : b.toBitVec.getLsbD i
    · simp
    · simp only [if_true, Int32.toBitVec_zero]
      constructor
      · intro q
        have := congrArg (fun v => BitVec.getLsbD v i) q
        simp [hi] at this
      · intro q; cases q
  · simp [BitVec.getLsbD_of_ge _ _ (Nat.le_of_not_lt hi)]
theorem own_shr_bit (b s : Int32) (i : Nat) (hi : i < 32) (hs : (s.toBitVec.smod 32).toNat = i) : ((b >>> s) &&& 1 = 0) ↔ b.toBitVec.getLsbD i = false := by
  rw [own_and_pow (b >>> s) 0 1 (by decide), Int32.toBitVec_shiftRight]
  simp only [BitVec.sshiftRight', hs, BitVec.getLsbD_sshiftRight]
  simp [hi]
theorem own_nat {x : Int32} (h : ¬ x < 0) : x.toInt = (x.toNatClampNeg : Int) := by
  have : 0 ≤ x.toInt := by
    have h2 := h
    rw [Int32.lt_iff_toInt_lt] at h2
    simpa using h2
  rw [Int32.toNatClampNeg, Int.toNat_of_nonneg this]
theorem own_in {j z : Int32} {n : Nat} (hn : n < 2 ^ 31) (hz : n.toInt32 = z) (hj : ¬ j < 0) (h : j < z) : j.toNatClampNeg < n := by
  have h1 := own_nat hj
  rw [Int32.lt_iff_toInt_lt, ← hz, len_toInt hn] at h
  omega
theorem own_and3 (x : Int32) : x &&& 3 = 0 ∨ x &&& 3 = 1 ∨ x &&& 3 = 2 ∨ x &&& 3 = 3 := by
  have hm : (x &&& 3).toInt = x.toInt % 2 ^ 2 := Jvm.Kit.i32_mask x 3 (by decide) (by decide)
  simp only [← Int32.toInt_inj, hm]
  show x.toInt % 2 ^ 2 = 0 ∨ x.toInt % 2 ^ 2 = 1 ∨ x.toInt % 2 ^ 2 = 2 ∨ x.toInt % 2 ^ 2 = 3
  omega
theorem own_nar1 {P : Prop} [Decidable P] {v : Int32} (h : v = if P then 0 else 1) : nar .boolean v = v := by subst h; split <;> decide
end OwnNums
theorem d1_0 : decode prog_230_method_1_code 0 = .ok (.aload_n 0, 1) := by decide +kernel
theorem d1_1 : decode prog_230_method_1_code 1 = .ok (.invokespecial 1, 3) := by decide +kernel
theorem d1_4 : decode prog_230_method_1_code 4 = .ok (.aload_n 0, 1) := by decide +kernel
theorem d1_5 : decode prog_230_method_1_code 5 = .ok (.dload_n 1, 1) := by decide +kernel
theorem d1_6 : decode prog_230_method_1_code 6 = .ok (.putfield 7, 3) := by decide +kernel
theorem d1_9 : decode prog_230_method_1_code 9 = .ok (.aload_n 0, 1) := by decide +kernel
theorem d1_10 : decode prog_230_method_1_code 10 = .ok (.iload_n 3, 1) := by decide +kernel
theorem d1_11 : decode prog_230_method_1_code 11 = .ok (.putfield 13, 3) := by decide +kernel
theorem d1_14 : decode prog_230_method_1_code 14 = .ok (.aload_n 0, 1) := by decide +kernel
theorem d1_15 : decode prog_230_method_1_code 15 = .ok (.dload 4, 2) := by decide +kernel
theorem d1_17 : decode prog_230_method_1_code 17 = .ok (.putfield 17, 3) := by decide +kernel
theorem d1_20 : decode prog_230_method_1_code 20 = .ok (.aload_n 0, 1) := by decide +kernel
theorem d1_21 : decode prog_230_method_1_code 21 = .ok (.dload 6, 2) := by decide +kernel
theorem d1_23 : decode prog_230_method_1_code 23 = .ok (.putfield 20, 3) := by decide +kernel
theorem d1_26 : decode prog_230_method_1_code 26 = .ok (.return_, 1) := by decide +kernel
theorem d3_0 : decode prog_230_method_4_code 0 = .ok (.aload_n 0, 1) := by decide +kernel
theorem d3_1 : decode prog_230_method_4_code 1 = .ok (.getfield 17, 3) := by decide +kernel
theorem d3_4 : decode prog_230_method_4_code 4 = .ok (.lload_n 1, 1) := by decide +kernel
theorem d3_5 : decode prog_230_method_4_code 5 = .ok (.l2d, 1) := by decide +kernel
theorem d3_6 : decode prog_230_method_4_code 6 = .ok (.aload_n 0, 1) := by decide +kernel
theorem d3_7 : decode prog_230_method_4_code 7 = .ok (.getfield 7, 3) := by decide +kernel
theorem d3_10 : decode prog_230_method_4_code 10 = .ok (.dmul, 1) := by decide +kernel
theorem d3_11 : decode prog_230_method_4_code 11 = .ok (.dadd, 1) := by decide +kernel
theorem d3_12 : decode prog_230_method_4_code 12 = .ok (.aload_n 0, 1) := by decide +kernel
theorem d3_13 : decode prog_230_method_4_code 13 = .ok (.getfield 20, 3) := by decide +kernel
theorem d3_16 : decode prog_230_method_4_code 16 = .ok (.dsub, 1) := by decide +kernel
theorem d3_17 : decode prog_230_method_4_code 17 = .ok (.dreturn, 1) := by decide +kernel
theorem pd0 : parseMethodDescriptor "(DIDD)V" = some ⟨[.double, .int, .double, .double], none⟩ := by decide +kernel
theorem pd1 : parseMethodDescriptor "(J)D" = some ⟨[.long], some .double⟩ := by decide +kernel
theorem own_retD {p : Program} {l : Launch} {e : Env} {R : Room} {s : State} {m : MethodId} {args : Array Value} {below : List Frame} {meth : Method} {c : Code} {T : State} {locs : List Loc} {cells slots : Nat} {Q : Option Value → Heap → List Loc → Prop} {ce sl : Nat} (X : Stand p l e R s m args below meth c T locs cells slots) (hx : p.tables.exec = Jvm.exec) (hlk : meth.locks = false) {pc : Nat} {Ls : Array Slot} {z : UInt64} {rest : List Value} (hret : meth.sig.returnType = some .double)
    (hd : decode c.code pc = .ok (.dreturn, 1)) (hQ : Q (some (.double z)) T.heap locs) (hc : cells ≤ ce) (hs : slots ≤ sl) : own_Go p e below s Q ce sl T (mkF m pc Ls (.double z :: rest)) :=
  own_ret X hx hlk hret rfl (Or.inr (Or.inr (Or.inl ⟨rfl, rfl, _, rfl⟩))) hd hQ hc hs
theorem own_cv {x y : UInt64} {o : CmpOp} (h : FP.dcmp x y = some .eq) : Jvm.Op.cmpValue (FP.dcmp x y) o = 0 := by rw [h]; rfl
theorem own_nn {i : Int} {x : UInt64} (h : FP.Core.DInt i x) : Jvm.Free.Fl.NoNaN64 x := by
  rw [Jvm.Free.Fl.noNaN64_no]
  cases q : FP.Core.dIsNaN x
  · rfl
  · have := (FP.Core.dIsNaN_iff x).mp q
    unfold FP.Core.DInt at h
    rw [this] at h
    exact h.elim
theorem own_kb (r : Int64) : -1048576 ≤ ((r <<< ((43 : Int32) &&& 0x3f).toInt64) >>> ((43 : Int32) &&& 0x3f).toInt64).toInt ∧ ((r <<< ((43 : Int32) &&& 0x3f).toInt64) >>> ((43 : Int32) &&& 0x3f).toInt64).toInt < 1048576 := by
  generalize (r <<< ((43 : Int32) &&& 0x3f).toInt64) = y
  have e : (y >>> ((43 : Int32) &&& 0x3f).toInt64).toInt = y.toInt / 2 ^ 43 := by
    rw [← Int64.toInt_toBitVec, Int64.toBitVec_shiftRight]
    rw [show (((43 : Int32) &&& 0x3f).toInt64).toBitVec.smod 64 = (43#64) by decide]
    rw [BitVec.sshiftRight_eq', BitVec.toInt_sshiftRight, Int.shiftRight_eq_div_pow]
    rfl
  have h1 := y.minValue_le_toInt
  have h2 := y.toInt_le
  rw [e]
  simp only [show Int64.minValue.toInt = -9223372036854775808 by decide, show Int64.maxValue.toInt = 9223372036854775807 by decide] at h1 h2
  omega
theorem own_pb {k : Int64} {n : Int32} (h1 : -1048576 ≤ k.toInt) (h2 : k.toInt < 1048576) : -2251799813685248 ≤ k.toInt * n.toInt ∧ k.toInt * n.toInt ≤ 2251799813685248 := by
  have a1 : -2147483648 ≤ n.toInt := n.minValue_le_toInt
  have a2 : n.toInt ≤ 2147483647 := n.toInt_le
  have q : (k.toInt * n.toInt).natAbs ≤ 1048576 * 2147483648 := by
    rw [Int.natAbs_mul]; exact Nat.mul_le_mul (by omega) (by omega)
  omega
theorem own_ib (n : Int32) : -2147483648 ≤ n.toInt ∧ n.toInt ≤ 2147483647 := ⟨n.minValue_le_toInt, n.toInt_le⟩
theorem own_ex (k : Int64) (n p s : Int32) (h1 : -1048576 ≤ k.toInt) (h2 : k.toInt < 1048576) : ((p.toInt64 + k * n.toInt64) - s.toInt64).toInt = p.toInt + k.toInt * n.toInt - s.toInt := by
  have := own_pb (n := n) h1 h2
  have := own_ib p; have := own_ib s
  have hm : (k * n.toInt64).toInt = k.toInt * n.toInt := by
    rw [Int64.toInt_mul, Int32.toInt_toInt64]; exact Int.bmod_eq_of_le (by omega) (by omega)
  have ha : (p.toInt64 + k * n.toInt64).toInt = p.toInt + k.toInt * n.toInt := by
    rw [Int64.toInt_add, hm, Int32.toInt_toInt64]; exact Int.bmod_eq_of_le (by omega) (by omega)
  rw [Int64.toInt_sub, ha, Int32.toInt_toInt64]; exact Int.bmod_eq_of_le (by omega) (by omega)
theorem own_d1 (k : Int64) (n : Int32) (h1 : -1048576 ≤ k.toInt) (h2 : k.toInt < 1048576) : FP.Core.DInt (k.toInt * n.toInt) (FP.dmul (FP.l2d k) (FP.i2d n)) := by
  have := own_pb (n := n) h1 h2
  exact FP.Core.dmul_int (FP.Core.l2d_int (by omega)) (FP.Core.i2d_int n) (by omega)
theorem own_d2 (k : Int64) (n p : Int32) (h1 : -1048576 ≤ k.toInt) (h2 : k.toInt < 1048576) : FP.Core.DInt (p.toInt + k.toInt * n.toInt) (FP.dadd (FP.i2d p) (FP.dmul (FP.l2d k) (FP.i2d n))) := by
  have := own_pb (n := n) h1 h2; have := own_ib p
  exact FP.Core.dadd_int (FP.Core.i2d_int p) (own_d1 k n h1 h2) (by omega)
theorem own_d3 (k : Int64) (n p s : Int32) (h1 : -1048576 ≤ k.toInt) (h2 : k.toInt < 1048576) : FP.Core.DInt (p.toInt + k.toInt * n.toInt - s.toInt) (FP.dsub (FP.dadd (FP.i2d p) (FP.dmul (FP.l2d k) (FP.i2d n))) (FP.i2d s)) := by
  have := own_pb (n := n) h1 h2; have := own_ib p; have := own_ib s
  exact FP.Core.dsub_int (own_d2 k n p h1 h2) (FP.Core.i2d_int s) (by omega)
theorem own_cmp (k : Int64) (n p s : Int32) (h1 : -1048576 ≤ k.toInt) (h2 : k.toInt < 1048576) : FP.dcmp (FP.dsub (FP.dadd (FP.i2d p) (FP.dmul (FP.l2d k) (FP.i2d n))) (FP.i2d s)) (FP.l2d ((p.toInt64 + k * n.toInt64) - s.toInt64)) = some .eq := by
  have := own_pb (n := n) h1 h2; have := own_ib p; have := own_ib s
  have e := own_ex k n p s h1 h2
  rw [show FP.dcmp _ _ = _ from FP.Core.dcmp_int (own_d3 k n p s h1 h2) (FP.Core.l2d_int (a := (p.toInt64 + k * n.toInt64) - s.toInt64) (by rw [e]; omega)), e, FP.Core.compare_self_int]
theorem own_o1 : Jvm.Free.Fl.NoNaN64 (FP.dmul (FP.l2d 1) FP.dconst1) := Jvm.Free.Fl.noNaN64_no.mpr (by decide +kernel)
theorem own_o2 : Jvm.Free.Fl.NoNaN64 (FP.dadd 4845873199050653696 (FP.dmul (FP.l2d 1) FP.dconst1)) := Jvm.Free.Fl.noNaN64_no.mpr (by decide +kernel)
theorem own_o3 : Jvm.Free.Fl.NoNaN64 (FP.dsub (FP.dadd 4845873199050653696 (FP.dmul (FP.l2d 1) FP.dconst1)) 4845873199050653696) := Jvm.Free.Fl.noNaN64_no.mpr (by decide +kernel)
theorem own_ocmp : FP.dcmp (FP.dsub (FP.dadd 4845873199050653696 (FP.dmul (FP.l2d 1) FP.dconst1)) 4845873199050653696) FP.dconst0 = some .eq := by decide +kernel

theorem pn_1 : plainName "com/example/forewarn/forewarn/predict/Period" = true := by first | (simp [plainName, overriddenIn]; done) | decide +kernel
theorem ef_1 (m : MethodId) (x0 : Addr) (x1 : UInt64) (x2 : Int32) (x3 : UInt64) (x4 : UInt64) : entryFrame m #[(.ref x0), (.double x1), (.int x2), (.double x3), (.double x4)] 8 = mkF m 0 #[.val (.ref x0), .val (.double x1), .second, .val (.int x2), .val (.double x3), .second, .val (.double x4), .second] [] := by first | (simp [entryFrame, mkF, argsToLocals, Value.category]; done) | rfl
set_option maxRecDepth 65536 in
set_option maxHeartbeats 40000000 in
theorem own_rm1 (l : Launch) (Z : State) (a0 : Array Value) (hw : ∀ d ∈ tables_1, d.before a0 Z = true) (a : Addr) (y0 : UInt64) (y1 : Int32) (y2 : UInt64) (y3 : UInt64)  (h0 : Heap) (n0 : Nat) (Z0 : n0 ≤ h0.size) (ga : n0 ≤ a) (E_a : Exa Z h0 a "com/example/forewarn/forewarn/predict/Period") (F_length : Fld Z h0 a "com/example/forewarn/forewarn/predict/Period" "length" "D" (.double 0)) (F_failures : Fld Z h0 a "com/example/forewarn/forewarn/predict/Period" "failures" "I" (.int (0 : Int32))) (F_last : Fld Z h0 a "com/example/forewarn/forewarn/predict/Period" "last" "D" (.double 0)) (F_span : Fld Z h0 a "com/example/forewarn/forewarn/predict/Period" "span" "D" (.double 0)) :
    own_Ct l Z (⟨"com/example/forewarn/forewarn/predict/Period", "<init>", "(DIDD)V"⟩ : MethodName) prog_230_method_1_code 8 none ({ frames := 1, cells := 0, slots := 0, locals := 12 } : Room) #[(.ref a), (.double y0), (.int y1), (.double y2), (.double y3)] h0 (fun v h L => v = none ∧ Fr n0 L ∧ Keep h0 h [a] ∧ Exa Z h a "com/example/forewarn/forewarn/predict/Period" ∧ Fld Z h a "com/example/forewarn/forewarn/predict/Period" "length" "D" (.double y0) ∧ Fld Z h a "com/example/forewarn/forewarn/predict/Period" "failures" "I" (.int y1) ∧ Fld Z h a "com/example/forewarn/forewarn/predict/Period" "last" "D" (.double y2) ∧ Fld Z h a "com/example/forewarn/forewarn/predict/Period" "span" "D" (.double y3)) := by
  refine own_enter (plainFor_of_name pn_1) ?_
  intro p e s m below meth c s₁ X0 C e0
  obtain ⟨hx, hZ, hby, hml, hown, hnm, hret, hlk⟩ := C
  replace hown : s.vm.findClass "com/example/forewarn/forewarn/predict/Period" = some m.cls := hown
  replace hml : c.maxLocals = 8 := hml
  replace hret : meth.sig.returnType = none := hret
  have N0 := Fr.nil n0
  refine own_cast (ef_1 m a y0 y1 y2 y3) ?_
  refine own_st (T' := s₁) (g' := (mkF m 1 #[.val (.ref a), .val (.double y0), .second, .val (.int y1), .val (.double y2), .second, .val (.double y3), .second] [(.ref a)])) (fun tq kq => XS.aloadN (g := (mkF m 0 #[.val (.ref a), .val (.double y0), .second, .val (.int y1), .val (.double y2), .second, .val (.double y3), .second] [])) X0.here hx rfl (hb hby d1_0) rfl rfl kq) ?_
  obtain ⟨T16, X16, e16, st16⟩ := initO X0 hx hZ hown (hw _ (List.mem_of_getElem? (i := 6) rfl)) (hw _ (List.mem_of_getElem? (i := 7) rfl)) (hw _ (List.mem_of_getElem? (i := 8) rfl)) e0 (g := (mkF m 1 #[.val (.ref a), .val (.double y0), .second, .val (.int y1), .val (.double y2), .second, .val (.double y3), .second] [(.ref a)])) rfl (by rw [hml]; rfl) rfl (hb hby d1_1) (by decide) (W := 0) (by show 2 * 0 + _ ≤ _; exact Nat.le_of_eq rfl) (by decide)
  refine own_st (g' := (mkF m 4 #[.val (.ref a), .val (.double y0), .second, .val (.int y1), .val (.double y2), .second, .val (.double y3), .second] [])) st16 ?_
  refine own_st (T' := T16) (g' := (mkF m 6 #[.val (.ref a), .val (.double y0), .second, .val (.int y1), .val (.double y2), .second, .val (.double y3), .second] [(.double y0), (.ref a)])) (fun tq kq => XS.aloadN (g := (mkF m 4 #[.val (.ref a), .val (.double y0), .second, .val (.int y1), .val (.double y2), .second, .val (.double y3), .second] [])) X16.here hx rfl (hb hby d1_4) rfl rfl (XS.dloadN (g := (mkF m 5 #[.val (.ref a), .val (.double y0), .second, .val (.int y1), .val (.double y2), .second, .val (.double y3), .second] [(.ref a)])) X16.here hx rfl (hb hby d1_5) rfl kq)) ?_
  obtain ⟨T17, h17, X17, e17, W17, st17⟩ := putF X16 hx hZ hown (host := "") (Or.inl (hw _ (List.mem_of_getElem? (i := 9) rfl))) Via.refl e16 F_length E_a (Or.inr ⟨(hw _ (List.mem_of_getElem? (i := 10) rfl)), rfl, hnm⟩) (hw _ (List.mem_of_getElem? (i := 1) rfl)) (ty := .double) (by decide) rfl rfl (g := (mkF m 6 #[.val (.ref a), .val (.double y0), .second, .val (.int y1), .val (.double y2), .second, .val (.double y3), .second] [(.double y0), (.ref a)])) rfl rfl (hb hby d1_6)
  refine own_st (g' := (mkF m 9 #[.val (.ref a), .val (.double y0), .second, .val (.int y1), .val (.double y2), .second, .val (.double y3), .second] [])) st17 ?_
  have F17 := Fld.same W17 F_length
  have N17 := Fr.snoc X17 N0 ga
  refine own_st (T' := T17) (g' := (mkF m 11 #[.val (.ref a), .val (.double y0), .second, .val (.int y1), .val (.double y2), .second, .val (.double y3), .second] [(.int y1), (.ref a)])) (fun tq kq => XS.aloadN (g := (mkF m 9 #[.val (.ref a), .val (.double y0), .second, .val (.int y1), .val (.double y2), .second, .val (.double y3), .second] [])) X17.here hx rfl (hb hby d1_9) rfl rfl (XS.iloadN (g := (mkF m 10 #[.val (.ref a), .val (.double y0), .second, .val (.int y1), .val (.double y2), .second, .val (.double y3), .second] [(.ref a)])) X17.here hx rfl (hb hby d1_10) rfl kq)) ?_
  have Ea_18 := (Exa.wr W17 E_a)
  have Fa_failures_19 := (Fld.other W17 F_failures (Or.inr (slot_ne (C := "com/example/forewarn/forewarn/predict/Period") (t := .int) (t' := .double) (Or.inr (hw _ (List.mem_of_getElem? (i := 12) rfl))) (Or.inr (hw _ (List.mem_of_getElem? (i := 10) rfl))) (by decide) (by decide) (by decide))))
  obtain ⟨T20, h20, X20, e20, W20, st20⟩ := putF X17 hx hZ hown (host := "") (Or.inl (hw _ (List.mem_of_getElem? (i := 11) rfl))) Via.refl e17 Fa_failures_19 Ea_18 (Or.inr ⟨(hw _ (List.mem_of_getElem? (i := 12) rfl)), rfl, hnm⟩) (hw _ (List.mem_of_getElem? (i := 1) rfl)) (ty := .int) (by decide) rfl rfl (g := (mkF m 11 #[.val (.ref a), .val (.double y0), .second, .val (.int y1), .val (.double y2), .second, .val (.double y3), .second] [(.int y1), (.ref a)])) rfl rfl (hb hby d1_11)
  refine own_st (g' := (mkF m 14 #[.val (.ref a), .val (.double y0), .second, .val (.int y1), .val (.double y2), .second, .val (.double y3), .second] [])) st20 ?_
  have F20 := Fld.same W20 Fa_failures_19
  have N20 := Fr.snoc X20 N17 ga
  refine own_st (T' := T20) (g' := (mkF m 17 #[.val (.ref a), .val (.double y0), .second, .val (.int y1), .val (.double y2), .second, .val (.double y3), .second] [(.double y2), (.ref a)])) (fun tq kq => XS.aloadN (g := (mkF m 14 #[.val (.ref a), .val (.double y0), .second, .val (.int y1), .val (.double y2), .second, .val (.double y3), .second] [])) X20.here hx rfl (hb hby d1_14) rfl rfl (XS.dload (g := (mkF m 15 #[.val (.ref a), .val (.double y0), .second, .val (.int y1), .val (.double y2), .second, .val (.double y3), .second] [(.ref a)])) X20.here hx rfl (hb hby d1_15) rfl kq)) ?_
  have Ea_21 := (Exa.wr W20 Ea_18)
  have Fa_last_22 := (Fld.other W20 (Fld.other W17 F_last (Or.inr (slot_ne (C := "com/example/forewarn/forewarn/predict/Period") (t := .double) (t' := .double) (Or.inr (hw _ (List.mem_of_getElem? (i := 14) rfl))) (Or.inr (hw _ (List.mem_of_getElem? (i := 10) rfl))) (by decide) (by decide) (by decide)))) (Or.inr (slot_ne (C := "com/example/forewarn/forewarn/predict/Period") (t := .double) (t' := .int) (Or.inr (hw _ (List.mem_of_getElem? (i := 14) rfl))) (Or.inr (hw _ (List.mem_of_getElem? (i := 12) rfl))) (by decide) (by decide) (by decide))))
  obtain ⟨T23, h23, X23, e23, W23, st23⟩ := putF X20 hx hZ hown (host := "") (Or.inl (hw _ (List.mem_of_getElem? (i := 13) rfl))) Via.refl e20 Fa_last_22 Ea_21 (Or.inr ⟨(hw _ (List.mem_of_getElem? (i := 14) rfl)), rfl, hnm⟩) (hw _ (List.mem_of_getElem? (i := 1) rfl)) (ty := .double) (by decide) rfl rfl (g := (mkF m 17 #[.val (.ref a), .val (.double y0), .second, .val (.int y1), .val (.double y2), .second, .val (.double y3), .second] [(.double y2), (.ref a)])) rfl rfl (hb hby d1_17)
  refine own_st (g' := (mkF m 20 #[.val (.ref a), .val (.double y0), .second, .val (.int y1), .val (.double y2), .second, .val (.double y3), .second] [])) st23 ?_
  have F23 := Fld.same W23 Fa_last_22
  have N23 := Fr.snoc X23 N20 ga
  refine own_st (T' := T23) (g' := (mkF m 23 #[.val (.ref a), .val (.double y0), .second, .val (.int y1), .val (.double y2), .second, .val (.double y3), .second] [(.double y3), (.ref a)])) (fun tq kq => XS.aloadN (g := (mkF m 20 #[.val (.ref a), .val (.double y0), .second, .val (.int y1), .val (.double y2), .second, .val (.double y3), .second] [])) X23.here hx rfl (hb hby d1_20) rfl rfl (XS.dload (g := (mkF m 21 #[.val (.ref a), .val (.double y0), .second, .val (.int y1), .val (.double y2), .second, .val (.double y3), .second] [(.ref a)])) X23.here hx rfl (hb hby d1_21) rfl kq)) ?_
  have Ea_24 := (Exa.wr W23 Ea_21)
  have Fa_span_25 := (Fld.other W23 (Fld.other W20 (Fld.other W17 F_span (Or.inr (slot_ne (C := "com/example/forewarn/forewarn/predict/Period") (t := .double) (t' := .double) (Or.inr (hw _ (List.mem_of_getElem? (i := 16) rfl))) (Or.inr (hw _ (List.mem_of_getElem? (i := 10) rfl))) (by decide) (by decide) (by decide)))) (Or.inr (slot_ne (C := "com/example/forewarn/forewarn/predict/Period") (t := .double) (t' := .int) (Or.inr (hw _ (List.mem_of_getElem? (i := 16) rfl))) (Or.inr (hw _ (List.mem_of_getElem? (i := 12) rfl))) (by decide) (by decide) (by decide)))) (Or.inr (slot_ne (C := "com/example/forewarn/forewarn/predict/Period") (t := .double) (t' := .double) (Or.inr (hw _ (List.mem_of_getElem? (i := 16) rfl))) (Or.inr (hw _ (List.mem_of_getElem? (i := 14) rfl))) (by decide) (by decide) (by decide))))
  obtain ⟨T26, h26, X26, e26, W26, st26⟩ := putF X23 hx hZ hown (host := "") (Or.inl (hw _ (List.mem_of_getElem? (i := 15) rfl))) Via.refl e23 Fa_span_25 Ea_24 (Or.inr ⟨(hw _ (List.mem_of_getElem? (i := 16) rfl)), rfl, hnm⟩) (hw _ (List.mem_of_getElem? (i := 1) rfl)) (ty := .double) (by decide) rfl rfl (g := (mkF m 23 #[.val (.ref a), .val (.double y0), .second, .val (.int y1), .val (.double y2), .second, .val (.double y3), .second] [(.double y3), (.ref a)])) rfl rfl (hb hby d1_23)
  refine own_st (g' := (mkF m 26 #[.val (.ref a), .val (.double y0), .second, .val (.int y1), .val (.double y2), .second, .val (.double y3), .second] [])) st26 ?_
  have F26 := Fld.same W26 Fa_span_25
  have N26 := Fr.snoc X26 N23 ga
  refine own_retV X26 hx hlk hret (hb hby d1_26) ?_ (by decide) (by decide)
  have Fa_length_27 := (Fld.other W26 (Fld.other W23 (Fld.other W20 F17 (Or.inr (slot_ne (C := "com/example/forewarn/forewarn/predict/Period") (t := .double) (t' := .int) (Or.inr (hw _ (List.mem_of_getElem? (i := 10) rfl))) (Or.inr (hw _ (List.mem_of_getElem? (i := 12) rfl))) (by decide) (by decide) (by decide)))) (Or.inr (slot_ne (C := "com/example/forewarn/forewarn/predict/Period") (t := .double) (t' := .double) (Or.inr (hw _ (List.mem_of_getElem? (i := 10) rfl))) (Or.inr (hw _ (List.mem_of_getElem? (i := 14) rfl))) (by decide) (by decide) (by decide)))) (Or.inr (slot_ne (C := "com/example/forewarn/forewarn/predict/Period") (t := .double) (t' := .double) (Or.inr (hw _ (List.mem_of_getElem? (i := 10) rfl))) (Or.inr (hw _ (List.mem_of_getElem? (i := 16) rfl))) (by decide) (by decide) (by decide))))
  have Fa_failures_28 := (Fld.other W26 (Fld.other W23 F20 (Or.inr (slot_ne (C := "com/example/forewarn/forewarn/predict/Period") (t := .int) (t' := .double) (Or.inr (hw _ (List.mem_of_getElem? (i := 12) rfl))) (Or.inr (hw _ (List.mem_of_getElem? (i := 14) rfl))) (by decide) (by decide) (by decide)))) (Or.inr (slot_ne (C := "com/example/forewarn/forewarn/predict/Period") (t := .int) (t' := .double) (Or.inr (hw _ (List.mem_of_getElem? (i := 12) rfl))) (Or.inr (hw _ (List.mem_of_getElem? (i := 16) rfl))) (by decide) (by decide) (by decide))))
  have Fa_last_29 := (Fld.other W26 F23 (Or.inr (slot_ne (C := "com/example/forewarn/forewarn/predict/Period") (t := .double) (t' := .double) (Or.inr (hw _ (List.mem_of_getElem? (i := 14) rfl))) (Or.inr (hw _ (List.mem_of_getElem? (i := 16) rfl))) (by decide) (by decide) (by decide))))
  have Ea_30 := (Exa.wr W26 Ea_24)
  rw [e26]
  exact ⟨rfl, N26, (Keep.wr (Keep.wr (Keep.wr (Keep.wr (Keep.refl _ _) W17 (Or.inl (List.mem_of_getElem? (i := 0) rfl))) W20 (Or.inl (List.mem_of_getElem? (i := 0) rfl))) W23 (Or.inl (List.mem_of_getElem? (i := 0) rfl))) W26 (Or.inl (List.mem_of_getElem? (i := 0) rfl))), Ea_30, Fa_length_27, Fa_failures_28, Fa_last_29, F26⟩
theorem pn_3 : plainName "com/example/forewarn/forewarn/predict/Period" = true := by first | (simp [plainName, overriddenIn]; done) | decide +kernel
theorem ef_3 (m : MethodId) (x0 : Addr) (x1 : Int64) : entryFrame m #[(.ref x0), (.long x1)] 3 = mkF m 0 #[.val (.ref x0), .val (.long x1), .second] [] := by first | (simp [entryFrame, mkF, argsToLocals, Value.category]; done) | rfl
set_option maxRecDepth 65536 in
set_option maxHeartbeats 40000000 in
theorem own_rm3 (l : Launch) (Z : State) (a0 : Array Value) (hw : ∀ d ∈ tables_1, d.before a0 Z = true) (a : Addr) (k : Int64) (xl xp xs : UInt64) (h0 : Heap) (n0 : Nat) (Z0 : n0 ≤ h0.size) (F_length : Fld Z h0 a "com/example/forewarn/forewarn/predict/Period" "length" "D" (.double xl)) (F_last : Fld Z h0 a "com/example/forewarn/forewarn/predict/Period" "last" "D" (.double xp)) (F_span : Fld Z h0 a "com/example/forewarn/forewarn/predict/Period" "span" "D" (.double xs)) (hn1 : Jvm.Free.Fl.NoNaN64 (FP.dmul (FP.l2d k) xl)) (hn2 : Jvm.Free.Fl.NoNaN64 (FP.dadd xp (FP.dmul (FP.l2d k) xl))) (hn3 : Jvm.Free.Fl.NoNaN64 (FP.dsub (FP.dadd xp (FP.dmul (FP.l2d k) xl)) xs)) :
    own_Ct l Z (⟨"com/example/forewarn/forewarn/predict/Period", "instant", "(J)D"⟩ : MethodName) prog_230_method_4_code 3 (some .double) ({ frames := 0, cells := 0, slots := 0, locals := 0 } : Room) #[(.ref a), (.long k)] h0 (fun v h L => v = some (.double (FP.dsub (FP.dadd xp (FP.dmul (FP.l2d k) xl)) xs)) ∧ Fr n0 L ∧ h = h0) := by
  refine own_enter (plainFor_of_name pn_3) ?_
  intro p e s m below meth c s₁ X0 C e0
  obtain ⟨hx, hZ, hby, hml, hown, hnm, hret, hlk⟩ := C
  replace hown : s.vm.findClass "com/example/forewarn/forewarn/predict/Period" = some m.cls := hown
  replace hml : c.maxLocals = 3 := hml
  replace hret : meth.sig.returnType = (some .double) := hret
  have N0 := Fr.nil n0
  refine own_cast (ef_3 m a k) ?_
  refine own_st (T' := s₁) (g' := (mkF m 1 #[.val (.ref a), .val (.long k), .second] [(.ref a)])) (fun tq kq => XS.aloadN (g := (mkF m 0 #[.val (.ref a), .val (.long k), .second] [])) X0.here hx rfl (hb hby d3_0) rfl rfl kq) ?_
  obtain ⟨T31, X31, e31, st31⟩ := getF X0 hx hZ hown (host := "") (Or.inl (hw _ (List.mem_of_getElem? (i := 13) rfl))) Via.refl e0 F_last (g := (mkF m 1 #[.val (.ref a), .val (.long k), .second] [(.ref a)])) rfl rfl (hb hby d3_1)
  refine own_st (g' := (mkF m 4 #[.val (.ref a), .val (.long k), .second] [(.double xp)])) st31 ?_
  refine own_st (T' := T31) (g' := (mkF m 7 #[.val (.ref a), .val (.long k), .second] [(.ref a), (.double (FP.l2d k)), (.double xp)])) (fun tq kq => XS.lloadN (g := (mkF m 4 #[.val (.ref a), .val (.long k), .second] [(.double xp)])) X31.here hx rfl (hb hby d3_4) rfl (XS.l2dS (g := (mkF m 5 #[.val (.ref a), .val (.long k), .second] [(.long k), (.double xp)])) X31.here hx rfl (hb hby d3_5) rfl rfl (XS.aloadN (g := (mkF m 6 #[.val (.ref a), .val (.long k), .second] [(.double (FP.l2d k)), (.double xp)])) X31.here hx rfl (hb hby d3_6) rfl rfl kq))) ?_
  obtain ⟨T32, X32, e32, st32⟩ := getF X31 hx hZ hown (host := "") (Or.inl (hw _ (List.mem_of_getElem? (i := 9) rfl))) Via.refl e31 F_length (g := (mkF m 7 #[.val (.ref a), .val (.long k), .second] [(.ref a), (.double (FP.l2d k)), (.double xp)])) rfl rfl (hb hby d3_7)
  refine own_st (g' := (mkF m 10 #[.val (.ref a), .val (.long k), .second] [(.double xl), (.double (FP.l2d k)), (.double xp)])) st32 ?_
  refine own_st (T' := T32) (g' := (mkF m 13 #[.val (.ref a), .val (.long k), .second] [(.ref a), (.double (FP.dadd xp (FP.dmul (FP.l2d k) xl)))])) (fun tq kq => XS.dmulS (g := (mkF m 10 #[.val (.ref a), .val (.long k), .second] [(.double xl), (.double (FP.l2d k)), (.double xp)])) X32.here hx rfl (hb hby d3_10) rfl hn1 rfl (XS.daddS (g := (mkF m 11 #[.val (.ref a), .val (.long k), .second] [(.double (FP.dmul (FP.l2d k) xl)), (.double xp)])) X32.here hx rfl (hb hby d3_11) rfl hn2 rfl (XS.aloadN (g := (mkF m 12 #[.val (.ref a), .val (.long k), .second] [(.double (FP.dadd xp (FP.dmul (FP.l2d k) xl)))])) X32.here hx rfl (hb hby d3_12) rfl rfl kq))) ?_
  obtain ⟨T33, X33, e33, st33⟩ := getF X32 hx hZ hown (host := "") (Or.inl (hw _ (List.mem_of_getElem? (i := 15) rfl))) Via.refl e32 F_span (g := (mkF m 13 #[.val (.ref a), .val (.long k), .second] [(.ref a), (.double (FP.dadd xp (FP.dmul (FP.l2d k) xl)))])) rfl rfl (hb hby d3_13)
  refine own_st (g' := (mkF m 16 #[.val (.ref a), .val (.long k), .second] [(.double xs), (.double (FP.dadd xp (FP.dmul (FP.l2d k) xl)))])) st33 ?_
  refine own_st (T' := T33) (g' := (mkF m 17 #[.val (.ref a), .val (.long k), .second] [(.double (FP.dsub (FP.dadd xp (FP.dmul (FP.l2d k) xl)) xs))])) (fun tq kq => XS.dsubS (g := (mkF m 16 #[.val (.ref a), .val (.long k), .second] [(.double xs), (.double (FP.dadd xp (FP.dmul (FP.l2d k) xl)))])) X33.here hx rfl (hb hby d3_16) rfl hn3 rfl kq) ?_
  refine own_retD X33 hx hlk hret (hb hby d3_17) ?_ (by decide) (by decide)
  refine ⟨?_, N0, e33⟩
  rfl
theorem pn_0 : plainName "com/example/forewarn/forewarn/predict/PeriodInstantPinLaw" = true := by first | (simp [plainName, overriddenIn]; done) | decide +kernel
theorem ef_0 (m : MethodId) (x0 : Int32) (x1 : Int32) (x2 : Int32) (x3 : Int32) (x4 : Int64) : entryFrame m #[(.int x0), (.int x1), (.int x2), (.int x3), (.long x4)] maxLocals = mkF m 0 #[.val (.int x0), .val (.int x1), .val (.int x2), .val (.int x3), .val (.long x4), .second, .unset, .unset, .unset, .unset, .unset, .unset, .unset, .unset, .unset, .unset] [] := by first | (simp [entryFrame, mkF, argsToLocals, Value.category, maxLocals]; done) | rfl
set_option maxRecDepth 65536 in
set_option maxHeartbeats 40000000 in
theorem own_rm0 (l : Launch) (Z : State) (a0 : Array Value) (hw : ∀ d ∈ tables_1, d.before a0 Z = true) (p0 : Int32) (p1 : Int32) (p2 : Int32) (p3 : Int32) (p4 : Int64)  (h0 : Heap) (n0 : Nat) (Z0 : n0 ≤ h0.size) :
    own_Ct l Z x code maxLocals ret room_1 #[(.int p0), (.int p1), (.int p2), (.int p3), (.long p4)] h0 (fun v h L => v = some (.int 1) ∧ Fr n0 L) := by
  refine own_enter (plainFor_of_name pn_0) ?_
  intro p e s m below meth c s₁ X0 C e0
  obtain ⟨hx, hZ, hby, hml, hown, hnm, hret, hlk⟩ := C
  replace hown : s.vm.findClass "com/example/forewarn/forewarn/predict/PeriodInstantPinLaw" = some m.cls := hown
  replace hml : c.maxLocals = 16 := hml
  replace hret : meth.sig.returnType = (some .boolean) := hret
  have N0 := Fr.nil n0
  refine own_cast (ef_0 m p0 p1 p2 p3 p4) ?_
  refine own_st (T' := s₁) (g' := (mkF m 10 #[.val (.int p0), .val (.int p1), .val (.int p2), .val (.int p3), .val (.long p4), .second, .val (.long ((p4 <<< ((43 : Int32) &&& 0x3f).toInt64) >>> ((43 : Int32) &&& 0x3f).toInt64)), .second, .unset, .unset, .unset, .unset, .unset, .unset, .unset, .unset] [])) (fun tq kq => XS.lload (g := (mkF m 0 #[.val (.int p0), .val (.int p1), .val (.int p2), .val (.int p3), .val (.long p4), .second, .unset, .unset, .unset, .unset, .unset, .unset, .unset, .unset, .unset, .unset] [])) X0.here hx rfl (hb hby at_0) rfl (XS.bipush (g := (mkF m 2 #[.val (.int p0), .val (.int p1), .val (.int p2), .val (.int p3), .val (.long p4), .second, .unset, .unset, .unset, .unset, .unset, .unset, .unset, .unset, .unset, .unset] [(.long p4)])) X0.here hx rfl (hb hby at_2) (XS.lshl (g := (mkF m 4 #[.val (.int p0), .val (.int p1), .val (.int p2), .val (.int p3), .val (.long p4), .second, .unset, .unset, .unset, .unset, .unset, .unset, .unset, .unset, .unset, .unset] [(.int (43 : Int32)), (.long p4)])) X0.here hx rfl (hb hby at_4) rfl (XS.bipush (g := (mkF m 5 #[.val (.int p0), .val (.int p1), .val (.int p2), .val (.int p3), .val (.long p4), .second, .unset, .unset, .unset, .unset, .unset, .unset, .unset, .unset, .unset, .unset] [(.long (p4 <<< ((43 : Int32) &&& 0x3f).toInt64))])) X0.here hx rfl (hb hby at_5) (XS.lshr (g := (mkF m 7 #[.val (.int p0), .val (.int p1), .val (.int p2), .val (.int p3), .val (.long p4), .second, .unset, .unset, .unset, .unset, .unset, .unset, .unset, .unset, .unset, .unset] [(.int (43 : Int32)), (.long (p4 <<< ((43 : Int32) &&& 0x3f).toInt64))])) X0.here hx rfl (hb hby at_7) rfl (XS.lstore (g := (mkF m 8 #[.val (.int p0), .val (.int p1), .val (.int p2), .val (.int p3), .val (.long p4), .second, .unset, .unset, .unset, .unset, .unset, .unset, .unset, .unset, .unset, .unset] [(.long ((p4 <<< ((43 : Int32) &&& 0x3f).toInt64) >>> ((43 : Int32) &&& 0x3f).toInt64))])) X0.here hx rfl (hb hby at_8) rfl (l' := #[.val (.int p0), .val (.int p1), .val (.int p2), .val (.int p3), .val (.long p4), .second, .val (.long ((p4 <<< ((43 : Int32) &&& 0x3f).toInt64) >>> ((43 : Int32) &&& 0x3f).toInt64)), .second, .unset, .unset, .unset, .unset, .unset, .unset, .unset, .unset]) rfl kq)))))) ?_
  generalize hu34 : ((p4 <<< ((43 : Int32) &&& 0x3f).toInt64) >>> ((43 : Int32) &&& 0x3f).toInt64) = u34
  have hk := own_kb p4
  rw [hu34] at hk
  obtain ⟨T35, h35, b35, X35, e35, g35, E35, C35, D35, st35⟩ := own_newO X0 hx hZ hown (hw _ (List.mem_of_getElem? (i := 0) rfl)) (hw _ (List.mem_of_getElem? (i := 1) rfl)) (hw _ (List.mem_of_getElem? (i := 2) rfl)) e0 (by decide) (by decide) (g := (mkF m 10 #[.val (.int p0), .val (.int p1), .val (.int p2), .val (.int p3), .val (.long p4), .second, .val (.long u34), .second, .unset, .unset, .unset, .unset, .unset, .unset, .unset, .unset] [])) rfl (hb hby at_10)
  refine own_st (g' := (mkF m 13 #[.val (.int p0), .val (.int p1), .val (.int p2), .val (.int p3), .val (.long p4), .second, .val (.long u34), .second, .unset, .unset, .unset, .unset, .unset, .unset, .unset, .unset] [(.ref b35)])) st35 ?_
  have F35_length : Fld Z h35 b35 "com/example/forewarn/forewarn/predict/Period" "length" "D" (.double 0) := D35 (Or.inr (hw _ (List.mem_of_getElem? (i := 10) rfl))) (ty := .double) (by decide)
  have F35_failures : Fld Z h35 b35 "com/example/forewarn/forewarn/predict/Period" "failures" "I" (.int (0 : Int32)) := D35 (Or.inr (hw _ (List.mem_of_getElem? (i := 12) rfl))) (ty := .int) (by decide)
  have F35_last : Fld Z h35 b35 "com/example/forewarn/forewarn/predict/Period" "last" "D" (.double 0) := D35 (Or.inr (hw _ (List.mem_of_getElem? (i := 14) rfl))) (ty := .double) (by decide)
  have F35_span : Fld Z h35 b35 "com/example/forewarn/forewarn/predict/Period" "span" "D" (.double 0) := D35 (Or.inr (hw _ (List.mem_of_getElem? (i := 16) rfl))) (ty := .double) (by decide)
  refine own_st (T' := T35) (g' := (mkF m 21 #[.val (.int p0), .val (.int p1), .val (.int p2), .val (.int p3), .val (.long p4), .second, .val (.long u34), .second, .unset, .unset, .unset, .unset, .unset, .unset, .unset, .unset] [(.double (FP.i2d p3)), (.double (FP.i2d p2)), (.int p1), (.double (FP.i2d p0)), (.ref b35), (.ref b35)])) (fun tq kq => XS.dup (g := (mkF m 13 #[.val (.int p0), .val (.int p1), .val (.int p2), .val (.int p3), .val (.long p4), .second, .val (.long u34), .second, .unset, .unset, .unset, .unset, .unset, .unset, .unset, .unset] [(.ref b35)])) X35.here hx rfl (hb hby at_13) rfl rfl (XS.iloadN (g := (mkF m 14 #[.val (.int p0), .val (.int p1), .val (.int p2), .val (.int p3), .val (.long p4), .second, .val (.long u34), .second, .unset, .unset, .unset, .unset, .unset, .unset, .unset, .unset] [(.ref b35), (.ref b35)])) X35.here hx rfl (hb hby at_14) rfl (XS.i2dS (g := (mkF m 15 #[.val (.int p0), .val (.int p1), .val (.int p2), .val (.int p3), .val (.long p4), .second, .val (.long u34), .second, .unset, .unset, .unset, .unset, .unset, .unset, .unset, .unset] [(.int p0), (.ref b35), (.ref b35)])) X35.here hx rfl (hb hby at_15) rfl rfl (XS.iloadN (g := (mkF m 16 #[.val (.int p0), .val (.int p1), .val (.int p2), .val (.int p3), .val (.long p4), .second, .val (.long u34), .second, .unset, .unset, .unset, .unset, .unset, .unset, .unset, .unset] [(.double (FP.i2d p0)), (.ref b35), (.ref b35)])) X35.here hx rfl (hb hby at_16) rfl (XS.iloadN (g := (mkF m 17 #[.val (.int p0), .val (.int p1), .val (.int p2), .val (.int p3), .val (.long p4), .second, .val (.long u34), .second, .unset, .unset, .unset, .unset, .unset, .unset, .unset, .unset] [(.int p1), (.double (FP.i2d p0)), (.ref b35), (.ref b35)])) X35.here hx rfl (hb hby at_17) rfl (XS.i2dS (g := (mkF m 18 #[.val (.int p0), .val (.int p1), .val (.int p2), .val (.int p3), .val (.long p4), .second, .val (.long u34), .second, .unset, .unset, .unset, .unset, .unset, .unset, .unset, .unset] [(.int p2), (.int p1), (.double (FP.i2d p0)), (.ref b35), (.ref b35)])) X35.here hx rfl (hb hby at_18) rfl rfl (XS.iloadN (g := (mkF m 19 #[.val (.int p0), .val (.int p1), .val (.int p2), .val (.int p3), .val (.long p4), .second, .val (.long u34), .second, .unset, .unset, .unset, .unset, .unset, .unset, .unset, .unset] [(.double (FP.i2d p2)), (.int p1), (.double (FP.i2d p0)), (.ref b35), (.ref b35)])) X35.here hx rfl (hb hby at_19) rfl (XS.i2dS (g := (mkF m 20 #[.val (.int p0), .val (.int p1), .val (.int p2), .val (.int p3), .val (.long p4), .second, .val (.long u34), .second, .unset, .unset, .unset, .unset, .unset, .unset, .unset, .unset] [(.int p3), (.double (FP.i2d p2)), (.int p1), (.double (FP.i2d p0)), (.ref b35), (.ref b35)])) X35.here hx rfl (hb hby at_20) rfl rfl kq)))))))) ?_
  have n0_b35 : n0 ≤ b35 := Nat.le_trans (Nat.le_trans Z0 (Nat.le_refl _)) (Nat.le_of_eq g35.symm)
  refine own_callI X35 hx hZ (y := (⟨"com/example/forewarn/forewarn/predict/Period", "<init>", "(DIDD)V"⟩ : MethodName)) (argsL := [(.double (FP.i2d p0)), (.int p1), (.double (FP.i2d p2)), (.double (FP.i2d p3))]) (a := b35) rfl hown (hw _ (List.mem_of_getElem? (i := 3) rfl)) (hw _ (List.mem_of_getElem? (i := 4) rfl)) (hw _ (List.mem_of_getElem? (i := 2) rfl)) (hw _ (List.mem_of_getElem? (i := 5) rfl)) (by decide) e35 (own_rm1 l Z a0 hw b35 (FP.i2d p0) p1 (FP.i2d p2) (FP.i2d p3)  h35 n0 (Nat.le_trans Z0 E35.1) n0_b35 C35 F35_length F35_failures F35_last F35_span ) (W := 1) (by decide) (by decide) (by decide) (by decide) pd0 rfl (g := (mkF m 21 #[.val (.int p0), .val (.int p1), .val (.int p2), .val (.int p3), .val (.long p4), .second, .val (.long u34), .second, .unset, .unset, .unset, .unset, .unset, .unset, .unset, .unset] [(.double (FP.i2d p3)), (.double (FP.i2d p2)), (.int p1), (.double (FP.i2d p0)), (.ref b35), (.ref b35)])) rfl (by rw [hml]; rfl) (rest := [(.ref b35)]) rfl (by show 2 * 0 + _ ≤ _; exact Nat.le_of_eq rfl) (hb hby at_21) (fun v36 T36 L36 X36 q36 => ?_)
  obtain ⟨h36, e36⟩ : ∃ z, T36.heap = z := ⟨_, rfl⟩
  rw [e36] at q36
  obtain ⟨rfl, N36q, K36, E36, F36_length, F36_failures, F36_last, F36_span⟩ := q36
  have N36 := Fr.app N0 N36q
  show own_GoF _ _ _ _ _ T36 (mkF m 24 #[.val (.int p0), .val (.int p1), .val (.int p2), .val (.int p3), .val (.long p4), .second, .val (.long u34), .second, .unset, .unset, .unset, .unset, .unset, .unset, .unset, .unset] [(.ref b35)])
  refine own_st (T' := T36) (g' := (mkF m 36 #[.val (.int p0), .val (.int p1), .val (.int p2), .val (.int p3), .val (.long p4), .second, .val (.long u34), .second, .val (.ref b35), .unset, .unset, .unset, .unset, .unset, .unset, .unset] [(.long (p3.toInt64)), (.long ((p2.toInt64) + (u34 * (p0.toInt64))))])) (fun tq kq => XS.astore (g := (mkF m 24 #[.val (.int p0), .val (.int p1), .val (.int p2), .val (.int p3), .val (.long p4), .second, .val (.long u34), .second, .unset, .unset, .unset, .unset, .unset, .unset, .unset, .unset] [(.ref b35)])) X36.here hx rfl (hb hby at_24) rfl rfl (l' := #[.val (.int p0), .val (.int p1), .val (.int p2), .val (.int p3), .val (.long p4), .second, .val (.long u34), .second, .val (.ref b35), .unset, .unset, .unset, .unset, .unset, .unset, .unset]) rfl (XS.iloadN (g := (mkF m 26 #[.val (.int p0), .val (.int p1), .val (.int p2), .val (.int p3), .val (.long p4), .second, .val (.long u34), .second, .val (.ref b35), .unset, .unset, .unset, .unset, .unset, .unset, .unset] [])) X36.here hx rfl (hb hby at_26) rfl (XS.i2l (g := (mkF m 27 #[.val (.int p0), .val (.int p1), .val (.int p2), .val (.int p3), .val (.long p4), .second, .val (.long u34), .second, .val (.ref b35), .unset, .unset, .unset, .unset, .unset, .unset, .unset] [(.int p2)])) X36.here hx rfl (hb hby at_27) rfl (XS.lload (g := (mkF m 28 #[.val (.int p0), .val (.int p1), .val (.int p2), .val (.int p3), .val (.long p4), .second, .val (.long u34), .second, .val (.ref b35), .unset, .unset, .unset, .unset, .unset, .unset, .unset] [(.long (p2.toInt64))])) X36.here hx rfl (hb hby at_28) rfl (XS.iloadN (g := (mkF m 30 #[.val (.int p0), .val (.int p1), .val (.int p2), .val (.int p3), .val (.long p4), .second, .val (.long u34), .second, .val (.ref b35), .unset, .unset, .unset, .unset, .unset, .unset, .unset] [(.long u34), (.long (p2.toInt64))])) X36.here hx rfl (hb hby at_30) rfl (XS.i2l (g := (mkF m 31 #[.val (.int p0), .val (.int p1), .val (.int p2), .val (.int p3), .val (.long p4), .second, .val (.long u34), .second, .val (.ref b35), .unset, .unset, .unset, .unset, .unset, .unset, .unset] [(.int p0), (.long u34), (.long (p2.toInt64))])) X36.here hx rfl (hb hby at_31) rfl (XS.lmul (g := (mkF m 32 #[.val (.int p0), .val (.int p1), .val (.int p2), .val (.int p3), .val (.long p4), .second, .val (.long u34), .second, .val (.ref b35), .unset, .unset, .unset, .unset, .unset, .unset, .unset] [(.long (p0.toInt64)), (.long u34), (.long (p2.toInt64))])) X36.here hx rfl (hb hby at_32) rfl (XS.ladd (g := (mkF m 33 #[.val (.int p0), .val (.int p1), .val (.int p2), .val (.int p3), .val (.long p4), .second, .val (.long u34), .second, .val (.ref b35), .unset, .unset, .unset, .unset, .unset, .unset, .unset] [(.long (u34 * (p0.toInt64))), (.long (p2.toInt64))])) X36.here hx rfl (hb hby at_33) rfl (XS.iloadN (g := (mkF m 34 #[.val (.int p0), .val (.int p1), .val (.int p2), .val (.int p3), .val (.long p4), .second, .val (.long u34), .second, .val (.ref b35), .unset, .unset, .unset, .unset, .unset, .unset, .unset] [(.long ((p2.toInt64) + (u34 * (p0.toInt64))))])) X36.here hx rfl (hb hby at_34) rfl (XS.i2l (g := (mkF m 35 #[.val (.int p0), .val (.int p1), .val (.int p2), .val (.int p3), .val (.long p4), .second, .val (.long u34), .second, .val (.ref b35), .unset, .unset, .unset, .unset, .unset, .unset, .unset] [(.int p3), (.long ((p2.toInt64) + (u34 * (p0.toInt64))))])) X36.here hx rfl (hb hby at_35) rfl kq)))))))))) ?_
  refine own_st (T' := T36) (g' := (mkF m 43 #[.val (.int p0), .val (.int p1), .val (.int p2), .val (.int p3), .val (.long p4), .second, .val (.long u34), .second, .val (.ref b35), .val (.long (((p2.toInt64) + (u34 * (p0.toInt64))) - (p3.toInt64))), .second, .unset, .unset, .unset, .unset, .unset] [(.long u34), (.ref b35)])) (fun tq kq => XS.lsub (g := (mkF m 36 #[.val (.int p0), .val (.int p1), .val (.int p2), .val (.int p3), .val (.long p4), .second, .val (.long u34), .second, .val (.ref b35), .unset, .unset, .unset, .unset, .unset, .unset, .unset] [(.long (p3.toInt64)), (.long ((p2.toInt64) + (u34 * (p0.toInt64))))])) X36.here hx rfl (hb hby at_36) rfl (XS.lstore (g := (mkF m 37 #[.val (.int p0), .val (.int p1), .val (.int p2), .val (.int p3), .val (.long p4), .second, .val (.long u34), .second, .val (.ref b35), .unset, .unset, .unset, .unset, .unset, .unset, .unset] [(.long (((p2.toInt64) + (u34 * (p0.toInt64))) - (p3.toInt64)))])) X36.here hx rfl (hb hby at_37) rfl (l' := #[.val (.int p0), .val (.int p1), .val (.int p2), .val (.int p3), .val (.long p4), .second, .val (.long u34), .second, .val (.ref b35), .val (.long (((p2.toInt64) + (u34 * (p0.toInt64))) - (p3.toInt64))), .second, .unset, .unset, .unset, .unset, .unset]) rfl (XS.aload (g := (mkF m 39 #[.val (.int p0), .val (.int p1), .val (.int p2), .val (.int p3), .val (.long p4), .second, .val (.long u34), .second, .val (.ref b35), .val (.long (((p2.toInt64) + (u34 * (p0.toInt64))) - (p3.toInt64))), .second, .unset, .unset, .unset, .unset, .unset] [])) X36.here hx rfl (hb hby at_39) rfl rfl (XS.lload (g := (mkF m 41 #[.val (.int p0), .val (.int p1), .val (.int p2), .val (.int p3), .val (.long p4), .second, .val (.long u34), .second, .val (.ref b35), .val (.long (((p2.toInt64) + (u34 * (p0.toInt64))) - (p3.toInt64))), .second, .unset, .unset, .unset, .unset, .unset] [(.ref b35)])) X36.here hx rfl (hb hby at_41) rfl kq)))) ?_
  refine own_callV X36 hx hZ (y := (⟨"com/example/forewarn/forewarn/predict/Period", "instant", "(J)D"⟩ : MethodName)) (z := (⟨"com/example/forewarn/forewarn/predict/Period", "instant", "(J)D"⟩ : MethodName)) (argsL := [(.long u34)]) (a := b35) hown (hw _ (List.mem_of_getElem? (i := 17) rfl)) (hw _ (List.mem_of_getElem? (i := 18) rfl)) (notFace_of_selects (args := #[]) (mvT hZ (hw _ (List.mem_of_getElem? (i := 20) rfl)))) (hw _ (List.mem_of_getElem? (i := 20) rfl)) (hw _ (List.mem_of_getElem? (i := 19) rfl)) (hw _ (List.mem_of_getElem? (i := 2) rfl)) (hw _ (List.mem_of_getElem? (i := 21) rfl)) (by decide) e36 E36 (own_rm3 l Z a0 hw b35 u34 (FP.i2d p0) (FP.i2d p2) (FP.i2d p3) h36 n0 (Nat.le_trans Z0 (Nat.le_trans E35.1 K36.1)) F36_length F36_last F36_span (own_nn (own_d1 _ _ hk.1 hk.2)) (own_nn (own_d2 _ _ _ hk.1 hk.2)) (own_nn (own_d3 _ _ _ _ hk.1 hk.2))) (W := 0) (by decide) (by decide) (by decide) (by decide) pd1 rfl (g := (mkF m 43 #[.val (.int p0), .val (.int p1), .val (.int p2), .val (.int p3), .val (.long p4), .second, .val (.long u34), .second, .val (.ref b35), .val (.long (((p2.toInt64) + (u34 * (p0.toInt64))) - (p3.toInt64))), .second, .unset, .unset, .unset, .unset, .unset] [(.long u34), (.ref b35)])) rfl (by rw [hml]; rfl) (rest := []) rfl (by show 2 * 0 + _ ≤ _; exact Nat.le_of_eq rfl) (hb hby at_43) (fun v37 T37 L37 X37 q37 => ?_)
  obtain ⟨rfl, N37q, e37⟩ := q37
  have N37 := Fr.app N36 N37q
  replace e37 := e37
  show own_GoF _ _ _ _ _ T37 (mkF m 46 #[.val (.int p0), .val (.int p1), .val (.int p2), .val (.int p3), .val (.long p4), .second, .val (.long u34), .second, .val (.ref b35), .val (.long (((p2.toInt64) + (u34 * (p0.toInt64))) - (p3.toInt64))), .second, .unset, .unset, .unset, .unset, .unset] [(.double (FP.dsub (FP.dadd (FP.i2d p2) (FP.dmul (FP.l2d u34) (FP.i2d p0))) (FP.i2d p3)))])
  refine own_st (T' := T37) (g' := (mkF m 65 #[.val (.int p0), .val (.int p1), .val (.int p2), .val (.int p3), .val (.long p4), .second, .val (.long u34), .second, .val (.ref b35), .val (.long (((p2.toInt64) + (u34 * (p0.toInt64))) - (p3.toInt64))), .second, .val (.int (1 : Int32)), .val (.double (4845873199050653696 : UInt64)), .second, .unset, .unset] [])) (fun tq kq => XS.lload (g := (mkF m 46 #[.val (.int p0), .val (.int p1), .val (.int p2), .val (.int p3), .val (.long p4), .second, .val (.long u34), .second, .val (.ref b35), .val (.long (((p2.toInt64) + (u34 * (p0.toInt64))) - (p3.toInt64))), .second, .unset, .unset, .unset, .unset, .unset] [(.double (FP.dsub (FP.dadd (FP.i2d p2) (FP.dmul (FP.l2d u34) (FP.i2d p0))) (FP.i2d p3)))])) X37.here hx rfl (hb hby at_46) rfl (XS.l2dS (g := (mkF m 48 #[.val (.int p0), .val (.int p1), .val (.int p2), .val (.int p3), .val (.long p4), .second, .val (.long u34), .second, .val (.ref b35), .val (.long (((p2.toInt64) + (u34 * (p0.toInt64))) - (p3.toInt64))), .second, .unset, .unset, .unset, .unset, .unset] [(.long (((p2.toInt64) + (u34 * (p0.toInt64))) - (p3.toInt64))), (.double (FP.dsub (FP.dadd (FP.i2d p2) (FP.dmul (FP.l2d u34) (FP.i2d p0))) (FP.i2d p3)))])) X37.here hx rfl (hb hby at_48) rfl rfl (XS.dcmpS (g := (mkF m 49 #[.val (.int p0), .val (.int p1), .val (.int p2), .val (.int p3), .val (.long p4), .second, .val (.long u34), .second, .val (.ref b35), .val (.long (((p2.toInt64) + (u34 * (p0.toInt64))) - (p3.toInt64))), .second, .unset, .unset, .unset, .unset, .unset] [(.double (FP.l2d (((p2.toInt64) + (u34 * (p0.toInt64))) - (p3.toInt64)))), (.double (FP.dsub (FP.dadd (FP.i2d p2) (FP.dmul (FP.l2d u34) (FP.i2d p0))) (FP.i2d p3)))])) X37.here hx rfl (hb hby at_49) rfl rfl (XS.ifNo (g := (mkF m 50 #[.val (.int p0), .val (.int p1), .val (.int p2), .val (.int p3), .val (.long p4), .second, .val (.long u34), .second, .val (.ref b35), .val (.long (((p2.toInt64) + (u34 * (p0.toInt64))) - (p3.toInt64))), .second, .unset, .unset, .unset, .unset, .unset] [(.int (Jvm.Op.cmpValue (FP.dcmp (FP.dsub (FP.dadd (FP.i2d p2) (FP.dmul (FP.l2d u34) (FP.i2d p0))) (FP.i2d p3)) (FP.l2d (((p2.toInt64) + (u34 * (p0.toInt64))) - (p3.toInt64)))) .l))])) X37.here hx rfl (hb hby at_50) rfl ((if0 _ _).trans (teq (own_cv (own_cmp _ _ _ _ hk.1 hk.2))).2) (XS.iconst (g := (mkF m 53 #[.val (.int p0), .val (.int p1), .val (.int p2), .val (.int p3), .val (.long p4), .second, .val (.long u34), .second, .val (.ref b35), .val (.long (((p2.toInt64) + (u34 * (p0.toInt64))) - (p3.toInt64))), .second, .unset, .unset, .unset, .unset, .unset] [])) X37.here hx rfl (hb hby at_53) (XS.goto (g := (mkF m 54 #[.val (.int p0), .val (.int p1), .val (.int p2), .val (.int p3), .val (.long p4), .second, .val (.long u34), .second, .val (.ref b35), .val (.long (((p2.toInt64) + (u34 * (p0.toInt64))) - (p3.toInt64))), .second, .unset, .unset, .unset, .unset, .unset] [(.int (1 : Int32))])) X37.here hx rfl (pc0 := 54) (pc' := 58) rfl (hb hby at_54) (by decide) (by decide) (XS.istore (g := (mkF m 58 #[.val (.int p0), .val (.int p1), .val (.int p2), .val (.int p3), .val (.long p4), .second, .val (.long u34), .second, .val (.ref b35), .val (.long (((p2.toInt64) + (u34 * (p0.toInt64))) - (p3.toInt64))), .second, .unset, .unset, .unset, .unset, .unset] [(.int (1 : Int32))])) X37.here hx rfl (hb hby at_58) rfl (l' := #[.val (.int p0), .val (.int p1), .val (.int p2), .val (.int p3), .val (.long p4), .second, .val (.long u34), .second, .val (.ref b35), .val (.long (((p2.toInt64) + (u34 * (p0.toInt64))) - (p3.toInt64))), .second, .val (.int (1 : Int32)), .unset, .unset, .unset, .unset]) rfl (X37.ldc2DoubleC hx hown (mvT hZ (hw _ (List.mem_of_getElem? (i := 22) rfl))) (g := (mkF m 60 #[.val (.int p0), .val (.int p1), .val (.int p2), .val (.int p3), .val (.long p4), .second, .val (.long u34), .second, .val (.ref b35), .val (.long (((p2.toInt64) + (u34 * (p0.toInt64))) - (p3.toInt64))), .second, .val (.int (1 : Int32)), .unset, .unset, .unset, .unset] [])) rfl (hb hby at_60) tq (XS.dstore (g := (mkF m 63 #[.val (.int p0), .val (.int p1), .val (.int p2), .val (.int p3), .val (.long p4), .second, .val (.long u34), .second, .val (.ref b35), .val (.long (((p2.toInt64) + (u34 * (p0.toInt64))) - (p3.toInt64))), .second, .val (.int (1 : Int32)), .unset, .unset, .unset, .unset] [(.double (4845873199050653696 : UInt64))])) X37.here hx rfl (hb hby at_63) rfl (l' := #[.val (.int p0), .val (.int p1), .val (.int p2), .val (.int p3), .val (.long p4), .second, .val (.long u34), .second, .val (.ref b35), .val (.long (((p2.toInt64) + (u34 * (p0.toInt64))) - (p3.toInt64))), .second, .val (.int (1 : Int32)), .val (.double (4845873199050653696 : UInt64)), .second, .unset, .unset]) rfl kq))))))))) ?_
  obtain ⟨T38, h38, b38, X38, e38, g38, E38, C38, D38, st38⟩ := own_newO X37 hx hZ hown (hw _ (List.mem_of_getElem? (i := 0) rfl)) (hw _ (List.mem_of_getElem? (i := 1) rfl)) (hw _ (List.mem_of_getElem? (i := 2) rfl)) e37 (by decide) (by decide) (g := (mkF m 65 #[.val (.int p0), .val (.int p1), .val (.int p2), .val (.int p3), .val (.long p4), .second, .val (.long u34), .second, .val (.ref b35), .val (.long (((p2.toInt64) + (u34 * (p0.toInt64))) - (p3.toInt64))), .second, .val (.int (1 : Int32)), .val (.double (4845873199050653696 : UInt64)), .second, .unset, .unset] [])) rfl (hb hby at_65)
  refine own_st (g' := (mkF m 68 #[.val (.int p0), .val (.int p1), .val (.int p2), .val (.int p3), .val (.long p4), .second, .val (.long u34), .second, .val (.ref b35), .val (.long (((p2.toInt64) + (u34 * (p0.toInt64))) - (p3.toInt64))), .second, .val (.int (1 : Int32)), .val (.double (4845873199050653696 : UInt64)), .second, .unset, .unset] [(.ref b38)])) st38 ?_
  have F38_length : Fld Z h38 b38 "com/example/forewarn/forewarn/predict/Period" "length" "D" (.double 0) := D38 (Or.inr (hw _ (List.mem_of_getElem? (i := 10) rfl))) (ty := .double) (by decide)
  have F38_failures : Fld Z h38 b38 "com/example/forewarn/forewarn/predict/Period" "failures" "I" (.int (0 : Int32)) := D38 (Or.inr (hw _ (List.mem_of_getElem? (i := 12) rfl))) (ty := .int) (by decide)
  have F38_last : Fld Z h38 b38 "com/example/forewarn/forewarn/predict/Period" "last" "D" (.double 0) := D38 (Or.inr (hw _ (List.mem_of_getElem? (i := 14) rfl))) (ty := .double) (by decide)
  have F38_span : Fld Z h38 b38 "com/example/forewarn/forewarn/predict/Period" "span" "D" (.double 0) := D38 (Or.inr (hw _ (List.mem_of_getElem? (i := 16) rfl))) (ty := .double) (by decide)
  refine own_st (T' := T38) (g' := (mkF m 75 #[.val (.int p0), .val (.int p1), .val (.int p2), .val (.int p3), .val (.long p4), .second, .val (.long u34), .second, .val (.ref b35), .val (.long (((p2.toInt64) + (u34 * (p0.toInt64))) - (p3.toInt64))), .second, .val (.int (1 : Int32)), .val (.double (4845873199050653696 : UInt64)), .second, .unset, .unset] [(.double (4845873199050653696 : UInt64)), (.double (4845873199050653696 : UInt64)), (.int (2 : Int32)), (.double FP.dconst1), (.ref b38), (.ref b38)])) (fun tq kq => XS.dup (g := (mkF m 68 #[.val (.int p0), .val (.int p1), .val (.int p2), .val (.int p3), .val (.long p4), .second, .val (.long u34), .second, .val (.ref b35), .val (.long (((p2.toInt64) + (u34 * (p0.toInt64))) - (p3.toInt64))), .second, .val (.int (1 : Int32)), .val (.double (4845873199050653696 : UInt64)), .second, .unset, .unset] [(.ref b38)])) X38.here hx rfl (hb hby at_68) rfl rfl (XS.dconst1 (g := (mkF m 69 #[.val (.int p0), .val (.int p1), .val (.int p2), .val (.int p3), .val (.long p4), .second, .val (.long u34), .second, .val (.ref b35), .val (.long (((p2.toInt64) + (u34 * (p0.toInt64))) - (p3.toInt64))), .second, .val (.int (1 : Int32)), .val (.double (4845873199050653696 : UInt64)), .second, .unset, .unset] [(.ref b38), (.ref b38)])) X38.here hx rfl (hb hby at_69) rfl (XS.iconst (g := (mkF m 70 #[.val (.int p0), .val (.int p1), .val (.int p2), .val (.int p3), .val (.long p4), .second, .val (.long u34), .second, .val (.ref b35), .val (.long (((p2.toInt64) + (u34 * (p0.toInt64))) - (p3.toInt64))), .second, .val (.int (1 : Int32)), .val (.double (4845873199050653696 : UInt64)), .second, .unset, .unset] [(.double FP.dconst1), (.ref b38), (.ref b38)])) X38.here hx rfl (hb hby at_70) (XS.dload (g := (mkF m 71 #[.val (.int p0), .val (.int p1), .val (.int p2), .val (.int p3), .val (.long p4), .second, .val (.long u34), .second, .val (.ref b35), .val (.long (((p2.toInt64) + (u34 * (p0.toInt64))) - (p3.toInt64))), .second, .val (.int (1 : Int32)), .val (.double (4845873199050653696 : UInt64)), .second, .unset, .unset] [(.int (2 : Int32)), (.double FP.dconst1), (.ref b38), (.ref b38)])) X38.here hx rfl (hb hby at_71) rfl (XS.dload (g := (mkF m 73 #[.val (.int p0), .val (.int p1), .val (.int p2), .val (.int p3), .val (.long p4), .second, .val (.long u34), .second, .val (.ref b35), .val (.long (((p2.toInt64) + (u34 * (p0.toInt64))) - (p3.toInt64))), .second, .val (.int (1 : Int32)), .val (.double (4845873199050653696 : UInt64)), .second, .unset, .unset] [(.double (4845873199050653696 : UInt64)), (.int (2 : Int32)), (.double FP.dconst1), (.ref b38), (.ref b38)])) X38.here hx rfl (hb hby at_73) rfl kq))))) ?_
  have n0_b38 : n0 ≤ b38 := Nat.le_trans (Nat.le_trans Z0 (Nat.le_trans E35.1 K36.1)) (Nat.le_of_eq g38.symm)
  refine own_callI X38 hx hZ (y := (⟨"com/example/forewarn/forewarn/predict/Period", "<init>", "(DIDD)V"⟩ : MethodName)) (argsL := [(.double FP.dconst1), (.int (2 : Int32)), (.double (4845873199050653696 : UInt64)), (.double (4845873199050653696 : UInt64))]) (a := b38) rfl hown (hw _ (List.mem_of_getElem? (i := 3) rfl)) (hw _ (List.mem_of_getElem? (i := 4) rfl)) (hw _ (List.mem_of_getElem? (i := 2) rfl)) (hw _ (List.mem_of_getElem? (i := 5) rfl)) (by decide) e38 (own_rm1 l Z a0 hw b38 FP.dconst1 (2 : Int32) (4845873199050653696 : UInt64) (4845873199050653696 : UInt64)  h38 n0 (Nat.le_trans Z0 (Nat.le_trans (Nat.le_trans E35.1 K36.1) E38.1)) n0_b38 C38 F38_length F38_failures F38_last F38_span ) (W := 1) (by decide) (by decide) (by decide) (by decide) pd0 rfl (g := (mkF m 75 #[.val (.int p0), .val (.int p1), .val (.int p2), .val (.int p3), .val (.long p4), .second, .val (.long u34), .second, .val (.ref b35), .val (.long (((p2.toInt64) + (u34 * (p0.toInt64))) - (p3.toInt64))), .second, .val (.int (1 : Int32)), .val (.double (4845873199050653696 : UInt64)), .second, .unset, .unset] [(.double (4845873199050653696 : UInt64)), (.double (4845873199050653696 : UInt64)), (.int (2 : Int32)), (.double FP.dconst1), (.ref b38), (.ref b38)])) rfl (by rw [hml]; rfl) (rest := [(.ref b38)]) rfl (by show 2 * 0 + _ ≤ _; exact Nat.le_of_eq rfl) (hb hby at_75) (fun v39 T39 L39 X39 q39 => ?_)
  obtain ⟨h39, e39⟩ : ∃ z, T39.heap = z := ⟨_, rfl⟩
  rw [e39] at q39
  obtain ⟨rfl, N39q, K39, E39, F39_length, F39_failures, F39_last, F39_span⟩ := q39
  have N39 := Fr.app N37 N39q
  show own_GoF _ _ _ _ _ T39 (mkF m 78 #[.val (.int p0), .val (.int p1), .val (.int p2), .val (.int p3), .val (.long p4), .second, .val (.long u34), .second, .val (.ref b35), .val (.long (((p2.toInt64) + (u34 * (p0.toInt64))) - (p3.toInt64))), .second, .val (.int (1 : Int32)), .val (.double (4845873199050653696 : UInt64)), .second, .unset, .unset] [(.ref b38)])
  refine own_st (T' := T39) (g' := (mkF m 83 #[.val (.int p0), .val (.int p1), .val (.int p2), .val (.int p3), .val (.long p4), .second, .val (.long u34), .second, .val (.ref b35), .val (.long (((p2.toInt64) + (u34 * (p0.toInt64))) - (p3.toInt64))), .second, .val (.int (1 : Int32)), .val (.double (4845873199050653696 : UInt64)), .second, .val (.ref b38), .unset] [(.long (1 : Int64)), (.ref b38)])) (fun tq kq => XS.astore (g := (mkF m 78 #[.val (.int p0), .val (.int p1), .val (.int p2), .val (.int p3), .val (.long p4), .second, .val (.long u34), .second, .val (.ref b35), .val (.long (((p2.toInt64) + (u34 * (p0.toInt64))) - (p3.toInt64))), .second, .val (.int (1 : Int32)), .val (.double (4845873199050653696 : UInt64)), .second, .unset, .unset] [(.ref b38)])) X39.here hx rfl (hb hby at_78) rfl rfl (l' := #[.val (.int p0), .val (.int p1), .val (.int p2), .val (.int p3), .val (.long p4), .second, .val (.long u34), .second, .val (.ref b35), .val (.long (((p2.toInt64) + (u34 * (p0.toInt64))) - (p3.toInt64))), .second, .val (.int (1 : Int32)), .val (.double (4845873199050653696 : UInt64)), .second, .val (.ref b38), .unset]) rfl (XS.aload (g := (mkF m 80 #[.val (.int p0), .val (.int p1), .val (.int p2), .val (.int p3), .val (.long p4), .second, .val (.long u34), .second, .val (.ref b35), .val (.long (((p2.toInt64) + (u34 * (p0.toInt64))) - (p3.toInt64))), .second, .val (.int (1 : Int32)), .val (.double (4845873199050653696 : UInt64)), .second, .val (.ref b38), .unset] [])) X39.here hx rfl (hb hby at_80) rfl rfl (XS.lconst (g := (mkF m 82 #[.val (.int p0), .val (.int p1), .val (.int p2), .val (.int p3), .val (.long p4), .second, .val (.long u34), .second, .val (.ref b35), .val (.long (((p2.toInt64) + (u34 * (p0.toInt64))) - (p3.toInt64))), .second, .val (.int (1 : Int32)), .val (.double (4845873199050653696 : UInt64)), .second, .val (.ref b38), .unset] [(.ref b38)])) X39.here hx rfl (hb hby at_82) kq))) ?_
  refine own_callV X39 hx hZ (y := (⟨"com/example/forewarn/forewarn/predict/Period", "instant", "(J)D"⟩ : MethodName)) (z := (⟨"com/example/forewarn/forewarn/predict/Period", "instant", "(J)D"⟩ : MethodName)) (argsL := [(.long (1 : Int64))]) (a := b38) hown (hw _ (List.mem_of_getElem? (i := 17) rfl)) (hw _ (List.mem_of_getElem? (i := 18) rfl)) (notFace_of_selects (args := #[]) (mvT hZ (hw _ (List.mem_of_getElem? (i := 20) rfl)))) (hw _ (List.mem_of_getElem? (i := 20) rfl)) (hw _ (List.mem_of_getElem? (i := 19) rfl)) (hw _ (List.mem_of_getElem? (i := 2) rfl)) (hw _ (List.mem_of_getElem? (i := 21) rfl)) (by decide) e39 E39 (own_rm3 l Z a0 hw b38 (1 : Int64) FP.dconst1 (4845873199050653696 : UInt64) (4845873199050653696 : UInt64) h39 n0 (Nat.le_trans Z0 (Nat.le_trans (Nat.le_trans (Nat.le_trans E35.1 K36.1) E38.1) K39.1)) F39_length F39_last F39_span own_o1 own_o2 own_o3) (W := 0) (by decide) (by decide) (by decide) (by decide) pd1 rfl (g := (mkF m 83 #[.val (.int p0), .val (.int p1), .val (.int p2), .val (.int p3), .val (.long p4), .second, .val (.long u34), .second, .val (.ref b35), .val (.long (((p2.toInt64) + (u34 * (p0.toInt64))) - (p3.toInt64))), .second, .val (.int (1 : Int32)), .val (.double (4845873199050653696 : UInt64)), .second, .val (.ref b38), .unset] [(.long (1 : Int64)), (.ref b38)])) rfl (by rw [hml]; rfl) (rest := []) rfl (by show 2 * 0 + _ ≤ _; exact Nat.le_of_eq rfl) (hb hby at_83) (fun v40 T40 L40 X40 q40 => ?_)
  obtain ⟨rfl, N40q, e40⟩ := q40
  have N40 := Fr.app N39 N40q
  replace e40 := e40
  show own_GoF _ _ _ _ _ T40 (mkF m 86 #[.val (.int p0), .val (.int p1), .val (.int p2), .val (.int p3), .val (.long p4), .second, .val (.long u34), .second, .val (.ref b35), .val (.long (((p2.toInt64) + (u34 * (p0.toInt64))) - (p3.toInt64))), .second, .val (.int (1 : Int32)), .val (.double (4845873199050653696 : UInt64)), .second, .val (.ref b38), .unset] [(.double (FP.dsub (FP.dadd (4845873199050653696 : UInt64) (FP.dmul (FP.l2d (1 : Int64)) FP.dconst1)) (4845873199050653696 : UInt64)))])
  refine own_st (T' := T40) (g' := (mkF m 108 #[.val (.int p0), .val (.int p1), .val (.int p2), .val (.int p3), .val (.long p4), .second, .val (.long u34), .second, .val (.ref b35), .val (.long (((p2.toInt64) + (u34 * (p0.toInt64))) - (p3.toInt64))), .second, .val (.int (1 : Int32)), .val (.double (4845873199050653696 : UInt64)), .second, .val (.ref b38), .val (.int (1 : Int32))] [])) (fun tq kq => XS.dconst0 (g := (mkF m 86 #[.val (.int p0), .val (.int p1), .val (.int p2), .val (.int p3), .val (.long p4), .second, .val (.long u34), .second, .val (.ref b35), .val (.long (((p2.toInt64) + (u34 * (p0.toInt64))) - (p3.toInt64))), .second, .val (.int (1 : Int32)), .val (.double (4845873199050653696 : UInt64)), .second, .val (.ref b38), .unset] [(.double (FP.dsub (FP.dadd (4845873199050653696 : UInt64) (FP.dmul (FP.l2d (1 : Int64)) FP.dconst1)) (4845873199050653696 : UInt64)))])) X40.here hx rfl (hb hby at_86) rfl (XS.dcmpS (g := (mkF m 87 #[.val (.int p0), .val (.int p1), .val (.int p2), .val (.int p3), .val (.long p4), .second, .val (.long u34), .second, .val (.ref b35), .val (.long (((p2.toInt64) + (u34 * (p0.toInt64))) - (p3.toInt64))), .second, .val (.int (1 : Int32)), .val (.double (4845873199050653696 : UInt64)), .second, .val (.ref b38), .unset] [(.double FP.dconst0), (.double (FP.dsub (FP.dadd (4845873199050653696 : UInt64) (FP.dmul (FP.l2d (1 : Int64)) FP.dconst1)) (4845873199050653696 : UInt64)))])) X40.here hx rfl (hb hby at_87) rfl rfl (XS.ifNo (g := (mkF m 88 #[.val (.int p0), .val (.int p1), .val (.int p2), .val (.int p3), .val (.long p4), .second, .val (.long u34), .second, .val (.ref b35), .val (.long (((p2.toInt64) + (u34 * (p0.toInt64))) - (p3.toInt64))), .second, .val (.int (1 : Int32)), .val (.double (4845873199050653696 : UInt64)), .second, .val (.ref b38), .unset] [(.int (Jvm.Op.cmpValue (FP.dcmp (FP.dsub (FP.dadd (4845873199050653696 : UInt64) (FP.dmul (FP.l2d (1 : Int64)) FP.dconst1)) (4845873199050653696 : UInt64)) FP.dconst0) .l))])) X40.here hx rfl (hb hby at_88) rfl ((if0 _ _).trans (teq (own_cv own_ocmp)).2) (XS.iconst (g := (mkF m 91 #[.val (.int p0), .val (.int p1), .val (.int p2), .val (.int p3), .val (.long p4), .second, .val (.long u34), .second, .val (.ref b35), .val (.long (((p2.toInt64) + (u34 * (p0.toInt64))) - (p3.toInt64))), .second, .val (.int (1 : Int32)), .val (.double (4845873199050653696 : UInt64)), .second, .val (.ref b38), .unset] [])) X40.here hx rfl (hb hby at_91) (XS.goto (g := (mkF m 92 #[.val (.int p0), .val (.int p1), .val (.int p2), .val (.int p3), .val (.long p4), .second, .val (.long u34), .second, .val (.ref b35), .val (.long (((p2.toInt64) + (u34 * (p0.toInt64))) - (p3.toInt64))), .second, .val (.int (1 : Int32)), .val (.double (4845873199050653696 : UInt64)), .second, .val (.ref b38), .unset] [(.int (1 : Int32))])) X40.here hx rfl (pc0 := 92) (pc' := 96) rfl (hb hby at_92) (by decide) (by decide) (XS.istore (g := (mkF m 96 #[.val (.int p0), .val (.int p1), .val (.int p2), .val (.int p3), .val (.long p4), .second, .val (.long u34), .second, .val (.ref b35), .val (.long (((p2.toInt64) + (u34 * (p0.toInt64))) - (p3.toInt64))), .second, .val (.int (1 : Int32)), .val (.double (4845873199050653696 : UInt64)), .second, .val (.ref b38), .unset] [(.int (1 : Int32))])) X40.here hx rfl (hb hby at_96) rfl (l' := #[.val (.int p0), .val (.int p1), .val (.int p2), .val (.int p3), .val (.long p4), .second, .val (.long u34), .second, .val (.ref b35), .val (.long (((p2.toInt64) + (u34 * (p0.toInt64))) - (p3.toInt64))), .second, .val (.int (1 : Int32)), .val (.double (4845873199050653696 : UInt64)), .second, .val (.ref b38), .val (.int (1 : Int32))]) rfl (XS.iload (g := (mkF m 98 #[.val (.int p0), .val (.int p1), .val (.int p2), .val (.int p3), .val (.long p4), .second, .val (.long u34), .second, .val (.ref b35), .val (.long (((p2.toInt64) + (u34 * (p0.toInt64))) - (p3.toInt64))), .second, .val (.int (1 : Int32)), .val (.double (4845873199050653696 : UInt64)), .second, .val (.ref b38), .val (.int (1 : Int32))] [])) X40.here hx rfl (hb hby at_98) rfl (XS.ifNo (g := (mkF m 100 #[.val (.int p0), .val (.int p1), .val (.int p2), .val (.int p3), .val (.long p4), .second, .val (.long u34), .second, .val (.ref b35), .val (.long (((p2.toInt64) + (u34 * (p0.toInt64))) - (p3.toInt64))), .second, .val (.int (1 : Int32)), .val (.double (4845873199050653696 : UInt64)), .second, .val (.ref b38), .val (.int (1 : Int32))] [(.int (1 : Int32))])) X40.here hx rfl (hb hby at_100) rfl ((if0 _ _).trans (feq (by decide : ¬ ((1 : Int32) = (0 : Int32)))).1) (XS.iload (g := (mkF m 103 #[.val (.int p0), .val (.int p1), .val (.int p2), .val (.int p3), .val (.long p4), .second, .val (.long u34), .second, .val (.ref b35), .val (.long (((p2.toInt64) + (u34 * (p0.toInt64))) - (p3.toInt64))), .second, .val (.int (1 : Int32)), .val (.double (4845873199050653696 : UInt64)), .second, .val (.ref b38), .val (.int (1 : Int32))] [])) X40.here hx rfl (hb hby at_103) rfl (XS.ifNo (g := (mkF m 105 #[.val (.int p0), .val (.int p1), .val (.int p2), .val (.int p3), .val (.long p4), .second, .val (.long u34), .second, .val (.ref b35), .val (.long (((p2.toInt64) + (u34 * (p0.toInt64))) - (p3.toInt64))), .second, .val (.int (1 : Int32)), .val (.double (4845873199050653696 : UInt64)), .second, .val (.ref b38), .val (.int (1 : Int32))] [(.int (1 : Int32))])) X40.here hx rfl (hb hby at_105) rfl ((if0 _ _).trans (feq (by decide : ¬ ((1 : Int32) = (0 : Int32)))).1) kq)))))))))) ?_
  refine own_st (T' := T40) (g' := (mkF m 113 #[.val (.int p0), .val (.int p1), .val (.int p2), .val (.int p3), .val (.long p4), .second, .val (.long u34), .second, .val (.ref b35), .val (.long (((p2.toInt64) + (u34 * (p0.toInt64))) - (p3.toInt64))), .second, .val (.int (1 : Int32)), .val (.double (4845873199050653696 : UInt64)), .second, .val (.ref b38), .val (.int (1 : Int32))] [(.int (1 : Int32))])) (fun tq kq => XS.iconst (g := (mkF m 108 #[.val (.int p0), .val (.int p1), .val (.int p2), .val (.int p3), .val (.long p4), .second, .val (.long u34), .second, .val (.ref b35), .val (.long (((p2.toInt64) + (u34 * (p0.toInt64))) - (p3.toInt64))), .second, .val (.int (1 : Int32)), .val (.double (4845873199050653696 : UInt64)), .second, .val (.ref b38), .val (.int (1 : Int32))] [])) X40.here hx rfl (hb hby at_108) (XS.goto (g := (mkF m 109 #[.val (.int p0), .val (.int p1), .val (.int p2), .val (.int p3), .val (.long p4), .second, .val (.long u34), .second, .val (.ref b35), .val (.long (((p2.toInt64) + (u34 * (p0.toInt64))) - (p3.toInt64))), .second, .val (.int (1 : Int32)), .val (.double (4845873199050653696 : UInt64)), .second, .val (.ref b38), .val (.int (1 : Int32))] [(.int (1 : Int32))])) X40.here hx rfl (pc0 := 109) (pc' := 113) rfl (hb hby at_109) (by decide) (by decide) kq)) ?_
  refine own_retI X40 hx hlk hret (by simp) rfl (hb hby at_113) ?_ (by decide) (by decide)
  exact ⟨rfl, N40⟩
set_option maxRecDepth 65536 in
set_option maxHeartbeats 40000000 in
theorem own_comes {Post : Tables → Env → Array Value → State → Outcome → State → Prop} (hpost : ∀ tb e args s v u, (limb_1_1.after args s (.returned v) u = true ∧ limb_1_2.after args s (.returned v) u = true ∧ True) → FrameEnd s (.returned v) u (Jvm.fieldLocs frame_1_writes args s ++ Jvm.arrayLocs frame_1_arrays args s ++ Jvm.staticLocs frame_1_statics s) 16 128 → Post tb e args s (.returned v) u) :
    ArmFor flags0 classFile x code maxLocals ret World_1 tables_1 room_1 Calls_1 rest_1 Pre_1 Post := by
  intro l hfl _ _ p e ha hc hk s m args below hf hA hF happ hP
  obtain ⟨hcalls, hrest, hpre⟩ := hP
  obtain ⟨-, -, -, hnamed, -, -, -, hat⟩ := (Spec.applies_iff hf).mp happ
  obtain ⟨hg, hn⟩ := and_e (Cond.before_iff.mp (show (Jvm.Cond.and given_1 narrow_1).before args s = true from hpre))
  obtain ⟨g0, r0⟩ := and_e hg
  obtain ⟨k0, r1⟩ := and_e r0
  obtain ⟨k1, r2⟩ := and_e r1
  obtain ⟨k2, r3⟩ := and_e r2
  obtain ⟨k3, r4⟩ := and_e r3
  obtain ⟨w0, w1, w2, w3, w4, rfl⟩ : ∃ w0 w1 w2 w3 w4 : Value, args = #[w0, w1, w2, w3, w4] := by
    have hs : args.size = 5 := by simpa [Cond.value, given_1] using g0
    obtain ⟨L⟩ := args
    match L, hs with
    | [w0, w1, w2, w3, w4], _ => exact ⟨w0, w1, w2, w3, w4, rfl⟩
  have hw := fun d (hd : d ∈ tables_1) => atoms_spec (ws := Jvm.Cond.code x code maxLocals ret :: tables_1) hat d (List.mem_cons_of_mem _ hd)
  have hfit : Fit s := fun {y c} hc i hi => by
    obtain ⟨ha, rfl⟩ := Array.getElem?_eq_some_iff.mp hc
    have q := List.all_eq_true.mp ((Array.all_eq_true_iff_forall_mem.mp hF) _ (Array.getElem_mem ha)) i (List.mem_range.mpr hi)
    simpa [Array.getElem?_eq_getElem hi] using q
  obtain ⟨p0, i0⟩ := is_v k0
  obtain rfl : w0 = (.int p0) := Option.some.inj i0
  obtain ⟨p1, i1⟩ := is_v k1
  obtain rfl : w1 = (.int p1) := Option.some.inj i1
  obtain ⟨p2, i2⟩ := is_v k2
  obtain rfl : w2 = (.int p2) := Option.some.inj i2
  obtain ⟨p3, i3⟩ := is_v k3
  obtain rfl : w3 = (.int p3) := Option.some.inj i3
  obtain ⟨p4, i4⟩ := isL_v r4
  obtain rfl : w4 = (.long p4) := Option.some.inj i4
  obtain ⟨n, o, h1, h2, h3, _, L, rfl, ⟨rfl, N⟩, hq⟩ := own_rm0 l s _ hw p0 p1 p2 p3 p4  s.heap s.heap.size (Nat.le_refl _)  tables_1 p e ha hc hk s m _ below hf ((Spec.applies_iff_loose hf).mp happ).1 ⟨rfl, State.Warmed39.refl s, rfl⟩ trivial
  refine ⟨n, _, h1, h2, h3, hpost _ _ _ _ _ _ ⟨Cond.after_iff.mpr rfl, Cond.after_iff.mpr (eq_i res_at (Term.int_eval (1)) rfl), trivial⟩ ⟨hq.1, hq.2.1, (hq.2.2.sift fun y hy => Or.inr (N y hy)).mono (by decide) (by decide)⟩⟩
theorem main_1_1 : Claimed_1_1 := own_comes fun _ _ _ _ _ _ h hF => ⟨h.1, hF⟩
theorem main_1_2 : Claimed_1_2 := own_comes fun _ _ _ _ _ _ h hF => ⟨h.2.1, hF⟩
end Jvm.Pilot.@@N@@
namespace Jvm.Pilot.@@N@@
open Jvm Jvm.ClassFile Sem Op Lib Jvm.Free Jvm.Stand Jvm.Pilot.@@N@@.Jvm.D
/-! MADE BY PROGRAM (witnessworld.py) out of the Statement's table words and the real class files: 7 classes; the members and pool entries that the words name. The judged class is class 1, her method 1. -/
namespace start1
open Jvm.ClassFile
def u (s : String) : CpInfo := .utf8 (stringToUtf16 s)
/-- a pool by its gaps: so many unusable entries, then the entry; so many at the end -/
def gap : Nat → List CpInfo → List CpInfo
  | 0, r => r
  | n + 1, r => .unusable :: gap n r
def poolList (es : List (Nat × CpInfo)) (last : Nat) : List CpInfo := es.foldr (fun e r => gap e.1 (e.2 :: r)) (gap last [])
def pool (es : List (Nat × CpInfo)) (last : Nat) : Array CpInfo := ⟨poolList es last⟩
def fileOf (pool : Array CpInfo) (this : Nat) (attrs : Array Attribute := #[]) (ms : Array MethodInfo := #[]) (fl : Nat := 33) (sup : Nat := 0) (ifs : Array Nat := #[]) (fds : Array FieldInfo := #[]) : ClassFile where
  minorVersion := 0
  majorVersion := 65
  constantPool := pool
  accessFlags := fl
  thisClass := this
  superClass := sup
  interfaces := ifs
  fields := fds
  methods := ms
  attributes := attrs
def plain (name : String) (sup : Option ClassId) : Class where
  name := name
  kind := .ordinary
  loader := none
  accessFlags := 33
  super := sup
  interfaces := #[]
  cf := none
  fields := #[]
  methods := #[]
  instanceTypes := #[]
  staticTypes := #[]
  resolved := #[]
  callSites := []
  init := .initialized
  statics := none
  mirror := none

def pool0 : Array CpInfo := pool [(5, u "<init>"), (0, u "()V"), (1, .class_ 10), (1, u "java/lang/Object")] 113

def k0c0 : Code := { maxStack := 0, maxLocals := 1, code := object_method_1_code, exceptionTable := #[], attributes := #[] }
def k0m0 : Method := { name := "<init>", desc := "()V", sig := { parameters := [], returnType := none }, accessFlags := 1, code := some k0c0 }
/-- java/lang/Object -/
def k0 : Class := { plain "java/lang/Object" none with
  accessFlags := 33
  interfaces := #[]
  cf := some (fileOf pool0 8 #[] #[{ accessFlags := 1, nameIndex := 5, descriptorIndex := 6, attributes := #[] }] 33 0 #[] #[])
  fields := #[]
  methods := #[k0m0]
  instanceTypes := #[]
  staticTypes := #[]
  resolved := Array.replicate 124 none
  statics := none }

def pool1 : Array CpInfo := pool [(2, .class_ 4), (1, u "java/lang/Object"), (0, u "<init>"), (0, u "()V"), (0, .class_ 8), (0, u "com/example/forewarn/forewarn/predict/Period"), (0, .methodref 7 10), (0, .nameAndType 5 11), (0, u "(DIDD)V"), (0, .methodref 7 13), (0, .nameAndType 14 15), (0, u "instant"), (0, u "(J)D"), (0, .double 4845873199050653696), (1, .class_ 19), (0, u "com/example/forewarn/forewarn/predict/PeriodInstantPinLaw"), (2, u "law"), (0, u "(IIIIJ)Z")] 3

def k1m0 : Method := { name := "<init>", desc := "()V", sig := { parameters := [], returnType := none }, accessFlags := 1, code := none }
def k1c1 : Code := { maxStack := 9, maxLocals := 16, code := code, exceptionTable := #[], attributes := #[] }
def k1m1 : Method := { name := "law", desc := "(IIIIJ)Z", sig := { parameters := [.int, .int, .int, .int, .long], returnType := some .boolean }, accessFlags := 9, code := some k1c1 }
/-- com/example/forewarn/forewarn/predict/PeriodInstantPinLaw -/
def k1 : Class := { plain "com/example/forewarn/forewarn/predict/PeriodInstantPinLaw" (some 0) with
  accessFlags := 49
  interfaces := #[]
  cf := some (fileOf pool1 18 #[] #[{ accessFlags := 1, nameIndex := 5, descriptorIndex := 6, attributes := #[] }, { accessFlags := 9, nameIndex := 22, descriptorIndex := 23, attributes := #[] }] 49 2 #[] #[])
  fields := #[]
  methods := #[k1m0, k1m1]
  instanceTypes := #[]
  staticTypes := #[]
  resolved := Array.replicate 27 none
  statics := none }

def pool2 : Array CpInfo := pool [(1, .methodref 2 3), (0, .class_ 4), (0, .nameAndType 5 6), (0, u "java/lang/Object"), (0, u "<init>"), (0, u "()V"), (0, .fieldref 8 9), (0, .class_ 10), (0, .nameAndType 11 12), (0, u "com/example/forewarn/forewarn/predict/Period"), (0, u "length"), (0, u "D"), (0, .fieldref 8 14), (0, .nameAndType 15 16), (0, u "failures"), (0, u "I"), (0, .fieldref 8 18), (0, .nameAndType 19 12), (0, u "last"), (0, .fieldref 8 21), (0, .nameAndType 22 12), (0, u "span"), (0, u "(DIDD)V"), (4, u "instant"), (0, u "(J)D")] 2

def k2c0 : Code := { maxStack := 3, maxLocals := 8, code := prog_230_method_1_code, exceptionTable := #[], attributes := #[] }
def k2m0 : Method := { name := "<init>", desc := "(DIDD)V", sig := { parameters := [.double, .int, .double, .double], returnType := none }, accessFlags := 0, code := some k2c0 }
def k2c1 : Code := { maxStack := 6, maxLocals := 3, code := prog_230_method_4_code, exceptionTable := #[], attributes := #[] }
def k2m1 : Method := { name := "instant", desc := "(J)D", sig := { parameters := [.long], returnType := some .double }, accessFlags := 1, code := some k2c1 }
/-- com/example/forewarn/forewarn/predict/Period -/
def k2 : Class := { plain "com/example/forewarn/forewarn/predict/Period" (some 0) with
  accessFlags := 49
  interfaces := #[]
  cf := some (fileOf pool2 8 #[] #[{ accessFlags := 0, nameIndex := 5, descriptorIndex := 23, attributes := #[] }, { accessFlags := 1, nameIndex := 28, descriptorIndex := 29, attributes := #[] }] 49 2 #[] #[{ accessFlags := 18, nameIndex := 11, descriptorIndex := 12, attributes := #[] }, { accessFlags := 18, nameIndex := 15, descriptorIndex := 16, attributes := #[] }, { accessFlags := 18, nameIndex := 19, descriptorIndex := 12, attributes := #[] }, { accessFlags := 18, nameIndex := 22, descriptorIndex := 12, attributes := #[] }])
  fields := #[{ name := "length", type := .double, accessFlags := 18, slot := 0, constantValue := 0 }, { name := "failures", type := .int, accessFlags := 18, slot := 1, constantValue := 0 }, { name := "last", type := .double, accessFlags := 18, slot := 2, constantValue := 0 }, { name := "span", type := .double, accessFlags := 18, slot := 3, constantValue := 0 }]
  methods := #[k2m0, k2m1]
  instanceTypes := #[.double, .int, .double, .double]
  staticTypes := #[]
  resolved := Array.replicate 32 none
  statics := none }

def pool3 : Array CpInfo := pool [(1, u "java/lang/Cloneable"), (0, .class_ 1), (0, u "java/lang/Object"), (0, .class_ 3)] 3

/-- java/lang/Cloneable -/
def k3 : Class := { plain "java/lang/Cloneable" (some 0) with
  accessFlags := 1537
  interfaces := #[]
  cf := some (fileOf pool3 2 #[] #[] 1537 4 #[] #[])
  fields := #[]
  methods := #[]
  instanceTypes := #[]
  staticTypes := #[]
  resolved := Array.replicate 8 none
  statics := none }

def pool4 : Array CpInfo := pool [(1, u "java/io/Serializable"), (0, .class_ 1), (0, u "java/lang/Object"), (0, .class_ 3)] 3

/-- java/io/Serializable -/
def k4 : Class := { plain "java/io/Serializable" (some 0) with
  accessFlags := 1537
  interfaces := #[]
  cf := some (fileOf pool4 2 #[] #[] 1537 4 #[] #[])
  fields := #[]
  methods := #[]
  instanceTypes := #[]
  staticTypes := #[]
  resolved := Array.replicate 8 none
  statics := none }

/-- the primitive byte -/
def k5 : Class := { plain "byte" none with kind := .primitive 'B', accessFlags := 0x411 }
/-- [B -/
def k6 : Class := { plain "[B" (some 0) with kind := .array 5 .byte, interfaces := #[3, 4], accessFlags := 1041 }

def heap : Heap := #[]
def classes : Array Class := #[k0, k1, k2, k3, k4, k5, k6]
def interned : List (Array UInt16 × Addr) := []
def slotsUsed : Nat := 0
def theMethod : MethodId := ⟨1, 1⟩
def args0 : Array Value := #[.int 7, .int 2, .int 100, .int 50, .long 3]
def aboutOver (below : List Frame) : State where
  vm := { classes := classes, interned := interned.toArray }
  heap := heap
  slotsUsed := slotsUsed
  threads := #[{ frames := .invoking theMethod args0 :: below }]
def below0 : List Frame := [.native { method := ⟨0, 0⟩, args := #[] }]
def about1 : State := aboutOver below0
def p0 : Program := .bare "" "" ""
def e0 : Env := launch0.env 0 0 0
theorem w_frames : about1.frames = Frame.invoking theMethod args0 :: below0 := rfl
set_option maxRecDepth 65536 in
theorem w_args : argsFit about1.vm theMethod args0 = true := by decide +kernel
set_option maxRecDepth 65536 in
theorem w_heap : heapFits about1 = true := by decide +kernel
set_option maxRecDepth 65536 in
theorem w_runnable : about1.curStatus? = some .runnable := by decide +kernel
set_option maxRecDepth 65536 in
theorem w_alone : about1.alone = true := by decide +kernel
set_option maxRecDepth 65536 in
theorem w_named : about1.methodNamed? x = some theMethod := by decide +kernel
set_option maxRecDepth 65536 in
theorem w_hears : about1.hears theMethod below0 = true := by decide +kernel
set_option maxRecDepth 65536 in
theorem w_ripe : about1.ripe theMethod args0 below0 = true := by decide +kernel
theorem w_running : about1.status = .running := rfl
set_option maxRecDepth 65536 in
theorem w_room : about1.hasRoom e0.platform room_1 = true :=
  launch0.hasRoom_least _ room_1 (by decide +kernel) (by decide +kernel) (by decide +kernel) (by decide +kernel) (by decide +kernel) (by decide +kernel)
theorem allAtoms_all (ts : List Jvm.Cond) (a : Array Jvm.Value) (st : Jvm.State) : (allAtoms ts).before a st = ts.all (fun c => c.before a st) := by
  induction ts with
  | nil => rfl
  | cons c t ih =>
    show (Jvm.Cond.and c (allAtoms t)).before a st = _
    rw [Jvm.Cond.before_and, ih, List.all_cons]
def words1 : List Jvm.Cond := Jvm.Cond.code x code maxLocals ret :: tables_1
/-- a 'code' word, met by the world's own term for the bytes: nothing is compared byte by byte -/
theorem code_word {y : MethodName} {bytes : ByteArray} {mx : Nat} {rt : Option FieldType} {a : Array Value} {s : State} {m : MethodId} {meth : Method} {c : Code} (h1 : s.methodNamed? y = some m) (h2 : s.vm.method? m = some meth) (h3 : meth.code = some c) (h4 : c.code = bytes)
    (h5 : (c.maxLocals == mx && c.exceptionTable.isEmpty && decide (c.maxStack ≤ mostOperands) && decide (meth.sig.returnType = rt) && !meth.locks && decide (parseMethodDescriptor y.desc = some meth.sig)) = true) : (Jvm.Cond.code y bytes mx rt).before a s = true := by
  simp only [Bool.and_eq_true, beq_iff_eq, Bool.not_eq_true', decide_eq_true_eq] at h5
  obtain ⟨⟨⟨⟨⟨g1, g2⟩, g3⟩, g4⟩, g5⟩, g6⟩ := h5
  simp [Cond.before, Cond.holds, Cond.value, h1, h2, h3, h4, g1, g2, g3, g4, g5, g6]
def isCode : Jvm.Cond → Bool
  | .code _ _ _ _ => true
  | _ => false
theorem all_split {L : List Jvm.Cond} {P : Jvm.Cond → Bool} (h1 : L.all (fun c => isCode c || P c) = true) (h2 : ∀ c ∈ L.filter isCode, P c = true) : L.all P = true := by
  refine List.all_eq_true.mpr fun c hc => ?_
  have h := List.all_eq_true.mp h1 c hc
  rcases Bool.eq_false_or_eq_true (isCode c) with hi | hi
  · exact h2 c (List.mem_filter.mpr ⟨hc, hi⟩)
  · simpa [hi] using h
set_option maxRecDepth 65536 in
theorem w_c0 : (Jvm.Cond.code x code maxLocals ret).before args0 about1 = true := code_word (m := ⟨1, 1⟩) (meth := k1m1) (c := k1c1) (by decide +kernel) rfl rfl rfl (by decide +kernel)
set_option maxRecDepth 65536 in
theorem w_c1 : (Jvm.Cond.code ({ cls := "com/example/forewarn/forewarn/predict/Period", name := "<init>", desc := "(DIDD)V" } : Jvm.MethodName) prog_230_method_1_code (8 : Nat) (Option.none : Option Jvm.ClassFile.FieldType)).before args0 about1 = true := code_word (m := ⟨2, 0⟩) (meth := k2m0) (c := k2c0) (by decide +kernel) rfl rfl rfl (by decide +kernel)
set_option maxRecDepth 65536 in
theorem w_c2 : (Jvm.Cond.code ({ cls := "java/lang/Object", name := "<init>", desc := "()V" } : Jvm.MethodName) object_method_1_code (1 : Nat) (Option.none : Option Jvm.ClassFile.FieldType)).before args0 about1 = true := code_word (m := ⟨0, 0⟩) (meth := k0m0) (c := k0c0) (by decide +kernel) rfl rfl rfl (by decide +kernel)
set_option maxRecDepth 65536 in
theorem w_c3 : (Jvm.Cond.code ({ cls := "com/example/forewarn/forewarn/predict/Period", name := "instant", desc := "(J)D" } : Jvm.MethodName) prog_230_method_4_code (3 : Nat) (Option.some Jvm.ClassFile.FieldType.double)).before args0 about1 = true := code_word (m := ⟨2, 1⟩) (meth := k2m1) (c := k2c1) (by decide +kernel) rfl rfl rfl (by decide +kernel)
def codes1 : List Jvm.Cond := [Jvm.Cond.code x code maxLocals ret, Jvm.Cond.code ({ cls := "com/example/forewarn/forewarn/predict/Period", name := "<init>", desc := "(DIDD)V" } : Jvm.MethodName) prog_230_method_1_code (8 : Nat) (Option.none : Option Jvm.ClassFile.FieldType), Jvm.Cond.code ({ cls := "java/lang/Object", name := "<init>", desc := "()V" } : Jvm.MethodName) object_method_1_code (1 : Nat) (Option.none : Option Jvm.ClassFile.FieldType), Jvm.Cond.code ({ cls := "com/example/forewarn/forewarn/predict/Period", name := "instant", desc := "(J)D" } : Jvm.MethodName) prog_230_method_4_code (3 : Nat) (Option.some Jvm.ClassFile.FieldType.double)]
set_option maxRecDepth 65536 in
theorem codes_eq : words1.filter isCode = codes1 := rfl
theorem w_codes : ∀ c ∈ words1.filter isCode, c.before args0 about1 = true := by
  rw [codes_eq]
  intro c hc
  simp only [codes1, List.mem_cons, List.not_mem_nil, or_false] at hc
  rcases hc with rfl | rfl | rfl | rfl
  · exact w_c0
  · exact w_c1
  · exact w_c2
  · exact w_c3
set_option maxRecDepth 65536 in
theorem w_t1 : words1.all (fun c => isCode c || c.before args0 about1) = true := by decide +kernel
theorem w_tables : (allAtoms (Jvm.Cond.code x code maxLocals ret :: tables_1)).before args0 about1 = true := by
  rw [allAtoms_all]
  show words1.all (fun c => c.before args0 about1) = true
  refine all_split ?_ w_codes
  rw [w_t1]
set_option maxRecDepth 65536 in
theorem w_case : (Jvm.Cond.and given_1 narrow_1).before args0 about1 = true := by decide +kernel
theorem w_applies : (headSpec (Jvm.Cond.code x code maxLocals ret :: tables_1) room_1).applies x e0.platform about1 = true :=
  (Spec.applies_iff w_frames).mpr ⟨w_running, w_runnable, w_alone, w_named, w_hears, w_ripe, w_room, w_tables⟩
theorem atStart : AtStart classFile x code maxLocals ret World_1 tables_1 room_1 Calls_1 rest_1 Pre_1 launch0 p0 e0 about1 theMethod args0 below0 :=
  ⟨lists_1, trivial, launch0.admits_env _ _ _, launch0.least_env, fairChoices_fair.cas, fairChoices_fair.clock, w_frames, w_args, w_heap, w_applies, trivial, trivial, w_case⟩
end start1
theorem witness_1 : WitnessClaimed_1 := ⟨start1.p0, start1.e0, start1.about1, start1.theMethod, start1.args0, start1.below0, start1.atStart⟩
end Jvm.Pilot.@@N@@
