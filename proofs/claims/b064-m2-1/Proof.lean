import JvmDerived
import JvmDerived.Pilot.@@N@@Statement
import JvmDerived.Pilot.@@N@@Code
set_option linter.unusedVariables false
set_option linter.unusedSimpArgs false
@@BLOCK:NumsL.lean.txt@@
@@BLOCK:Masks.lean.txt@@
namespace Jvm.Pilot.@@N@@
open Jvm Jvm.ClassFile Sem Op Lib Jvm.Free Jvm.Stand Jvm.LawKit Jvm.RoadKit Bundle Jvm.Pilot.@@N@@.Jvm.D
section OwnKit
/-- what is left of a walk: from the frame g in the state T it ends, and Q says what it leaves -/
def own_GoF (p : Program) (e : Env) (below : List Frame) (F : Outcome → State → List Loc → Prop) (Q : Option Value → Heap → List Loc → Prop) (T : State) (g : JFrame) : Prop :=
  ∃ U o, Steps p.tables e below (T.setTop g) U ∧ U.status = .running ∧ Ended U below o ∧ ∃ v L, o = .returned v ∧ Q v U.heap L ∧ F o U L
abbrev own_Go (p : Program) (e : Env) (below : List Frame) (s : State) (Q : Option Value → Heap → List Loc → Prop) (ce sl : Nat) (T : State) (g : JFrame) : Prop := own_GoF p e below (fun o U L => FrameEnd s o U L ce sl) Q T g
/-- the same where a String constant may have been interned on the way -/
abbrev own_GoW (p : Program) (e : Env) (below : List Frame) (s : State) (Q : Option Value → Heap → List Loc → Prop) (ce sl : Nat) (T : State) (g : JFrame) : Prop := own_GoF p e below (fun o U L => ReturnedEndW s o U L ce sl) Q T g
/-- a body's contract: at these arguments and this heap it returns, and Q says what it leaves -/
def own_Ct (l : Launch) (Z : State) (y : MethodName) (bytes : ByteArray) (ml : Nat) (ret : Option FieldType) (rm : Room) (as : Array Value) (h0 : Heap) (Q : Option Value → Heap → List Loc → Prop) : Prop :=
  ∀ ws : List Jvm.Cond, MetFree l y (head1 (Jvm.Cond.code y bytes ml ret :: ws) rm) (fun a U => a = as ∧ Z.Warmed39 U.vm ∧ U.heap = h0) (fun _ _ _ _ _ => True) (fun _ U o U' => ∃ v L, o = .returned v ∧ Q v U'.heap L ∧ FrameEnd U o U' L rm.cells rm.slots)
/-- what holds throughout one body's walk -/
def own_Cx (p : Program) (s : State) (m : MethodId) (meth : Method) (c : Code) (Z : State) (bytes : ByteArray) (ml : Nat) (own nm : String) (ret : Option FieldType) : Prop :=
  p.tables.exec = Jvm.exec ∧ Z.Warmed39 s.vm ∧ c.code = bytes ∧ c.maxLocals = ml ∧ s.vm.findClass own = some m.cls ∧ meth.name = nm ∧ meth.sig.returnType = ret ∧ meth.locks = false
variable {F : Outcome → State → List Loc → Prop} {p : Program} {l : Launch} {e : Env} {R : Room} {s : State} {m : MethodId} {args : Array Value} {below : List Frame} {meth : Method} {c : Code} {T T' : State} {locs : List Loc} {cells slots : Nat} {Z : State} {a0 : Array Value} {h h' : Heap} {Q QQ : Option Value → Heap → List Loc → Prop} {ce sl : Nat} {g g' : JFrame}
theorem own_st (h : ∀ t, Steps p.tables e below (T'.setTop g') t → Steps p.tables e below (T.setTop g) t) (k : own_GoF p e below F Q T' g') : own_GoF p e below F Q T g := by
  obtain ⟨U, o, h1, h2⟩ := k
  exact ⟨U, o, h _ h1, h2⟩
theorem own_enter {y : MethodName} {bytes : ByteArray} {ml : Nat} {ret : Option FieldType} {rm : Room} {as : Array Value} {h0 : Heap} (hp : plainFor y = true)
    (walk : ∀ {p e s m below meth c s₁}, Stand p l e rm s m as below meth c s₁ [] 0 0 → own_Cx p s m meth c Z bytes ml y.cls y.name ret → s₁.heap = h0 → own_Go p e below s Q rm.cells rm.slots s₁ (entryFrame m as ml)) : own_Ct l Z y bytes ml ret rm as h0 Q := by
  intro ws
  refine MetFree.of_bodySF hp hisR ?_
  intro p e s m args below meth c s₁ Bd hml0 hP hK
  obtain ⟨rfl, hZ, hh⟩ := hP
  have X0 : Stand p l e rm s m args below meth c s₁ [] 0 0 := Stand.of_body Bd
  have e0 : s₁.heap = h0 := by rw [← hh, Bd.state]; rfl
  exact walk X0 ⟨Bd.exec, hZ, Bd.bytes, hml0, findClass_of_methodNamed Bd.named, (name_of_methodNamed Bd.named Bd.method).1, Bd.returns, Bd.notSynchronized⟩ e0
theorem own_cast (q : g = g') (k : own_GoF p e below F Q T g') : own_GoF p e below F Q T g := q ▸ k
theorem own_ret (X : Stand p l e R s m args below meth c T locs cells slots) (hx : p.tables.exec = Jvm.exec) (hlk : meth.locks = false) {pc : Nat} {Ls : Array Slot} {w : Value} {t : FieldType} {i : Instr} {rest : List Value} (hret : meth.sig.returnType = some t) (hn : narrow t w = w)
    (hi : (i = .ireturn ∧ (t = .int ∨ t = .boolean ∨ t = .byte ∨ t = .char ∨ t = .short) ∧ ∃ z, w = .int z) ∨ (i = .lreturn ∧ t = .long ∧ ∃ z, w = .long z) ∨ (i = .dreturn ∧ t = .double ∧ ∃ z, w = .double z) ∨ (i = .freturn ∧ t = .float ∧ ∃ z, w = .float z) ∨ (i = .areturn ∧ t.isReference = true ∧ w.isRef = true))
    (hd : decode c.code pc = .ok (i, 1)) (hQ : Q (some w) T.heap locs) (hc : cells ≤ ce) (hs : slots ≤ sl) : own_Go p e below s Q ce sl T (mkF m pc Ls (w :: rest)) := by
  obtain ⟨fs, hr, hrun, hended, hW, hsame⟩ := X.leave (v := some w) (fun h => by rw [hret] at h; cases h) hlk
  exact ⟨_, _, retOut X hx hret hn hi hd hr, hrun, hended, _, _, rfl, hQ, ⟨_, rfl⟩, hW, hsame.mono hc hs⟩
theorem own_retI (X : Stand p l e R s m args below meth c T locs cells slots) (hx : p.tables.exec = Jvm.exec) (hlk : meth.locks = false) {pc : Nat} {Ls : Array Slot} {z : Int32} {t : FieldType} {rest : List Value} (hret : meth.sig.returnType = some t) (ht : t = .int ∨ t = .boolean ∨ t = .byte ∨ t = .char ∨ t = .short)
    (hn : narrow t (.int z) = .int z) (hd : decode c.code pc = .ok (.ireturn, 1)) (hQ : Q (some (.int z)) T.heap locs) (hc : cells ≤ ce) (hs : slots ≤ sl) : own_Go p e below s Q ce sl T (mkF m pc Ls (.int z :: rest)) :=
  own_ret X hx hlk hret hn (Or.inl ⟨rfl, ht, _, rfl⟩) hd hQ hc hs
theorem own_retJ (X : Stand p l e R s m args below meth c T locs cells slots) (hx : p.tables.exec = Jvm.exec) (hlk : meth.locks = false) {pc : Nat} {Ls : Array Slot} {z : Int64} {rest : List Value} (hret : meth.sig.returnType = some .long)
    (hd : decode c.code pc = .ok (.lreturn, 1)) (hQ : Q (some (.long z)) T.heap locs) (hc : cells ≤ ce) (hs : slots ≤ sl) : own_Go p e below s Q ce sl T (mkF m pc Ls (.long z :: rest)) :=
  own_ret X hx hlk hret rfl (Or.inr (Or.inl ⟨rfl, rfl, _, rfl⟩)) hd hQ hc hs
theorem own_retR (X : Stand p l e R s m args below meth c T locs cells slots) (hx : p.tables.exec = Jvm.exec) (hlk : meth.locks = false) {pc : Nat} {Ls : Array Slot} {w : Value} {t : FieldType} {rest : List Value} (hret : meth.sig.returnType = some t) (ht : t.isReference = true) (hw : w.isRef = true) (hn : narrow t w = w)
    (hd : decode c.code pc = .ok (.areturn, 1)) (hQ : Q (some w) T.heap locs) (hc : cells ≤ ce) (hs : slots ≤ sl) : own_Go p e below s Q ce sl T (mkF m pc Ls (w :: rest)) :=
  own_ret X hx hlk hret hn (Or.inr (Or.inr (Or.inr (Or.inr ⟨rfl, ht, hw⟩)))) hd hQ hc hs
theorem own_retV (X : Stand p l e R s m args below meth c T locs cells slots) (hx : p.tables.exec = Jvm.exec) (hlk : meth.locks = false) {pc : Nat} {Ls : Array Slot} (hret : meth.sig.returnType = none)
    (hd : decode c.code pc = .ok (.return_, 1)) (hQ : Q none T.heap locs) (hc : cells ≤ ce) (hs : slots ≤ sl) : own_Go p e below s Q ce sl T (mkF m pc Ls []) := by
  obtain ⟨fs, hr, hrun, hended, hW, hsame⟩ := X.leave (v := none) (fun _ => rfl) hlk
  exact ⟨_, _, X.returnOut hx hret hd hr, hrun, hended, _, _, rfl, hQ, ⟨_, rfl⟩, hW, hsame.mono hc hs⟩
/-! calls by contract -/
theorem own_callS (X : Stand p l e R s m args below meth c T locs cells slots) (hx : p.tables.exec = Jvm.exec) (hZ : Z.Warmed39 s.vm) {own : String} {index : Nat} {y : MethodName} {bytes : ByteArray} {ml : Nat} {ret : Option FieldType} {rm : Room} {argsL rest : List Value}
    (hown : s.vm.findClass own = some m.cls) (w1 : (Jvm.Cond.methodLink own index y).before a0 Z = true) (w2 : (Jvm.Cond.static y).before a0 Z = true) (w3 : (Jvm.Cond.initialized y.cls).before a0 Z = true) (w4 : (Jvm.Cond.code y bytes ml ret).before a0 Z = true)
    (hy : y.cls ≠ "java/lang/invoke/MethodHandle" ∧ y.cls ≠ "java/lang/invoke/VarHandle") (eT : T.heap = h) (hC : own_Ct l Z y bytes ml ret rm argsL.toArray h QQ) {W : Nat} (hf : rm.frames + 1 ≤ R.frames) (hl : W + (ml + 11) + rm.locals ≤ R.locals) (hc : cells + rm.cells ≤ R.cells) (hs : slots + rm.slots ≤ R.slots)
    {ps : List FieldType} {rr : Option FieldType} (hd0 : parseMethodDescriptor y.desc = some ⟨ps, rr⟩) (hlen : argsL.length = ps.length) {g : JFrame} (hg : g.method = m) (hsize : g.locals.size = c.maxLocals) (hstack : g.stack = argsL.reverse ++ rest) (hW : 2 * g.monitorRoom + (rest.map fun v => v.category).sum ≤ W) (hd : decode c.code g.pc = .ok (.invokestatic index, 3))
    (k : ∀ v T' L, Stand p l e R s m args below meth c T' (locs ++ L) (cells + rm.cells) (slots + rm.slots) → QQ v T'.heap L → own_GoF p e below F Q T' { g with pc := g.pc + 3, stack := v.toList ++ rest }) : own_GoF p e below F Q T g := by
  obtain ⟨v, _, ⟨T', L', c', n'⟩, -, X', ⟨Lc, hQ, l1, y1, z1⟩, st⟩ := Jvm.LawKit.callS X hx (y := y) hown (mvT hZ w1) (mvT hZ w2) (mvT hZ w3) (mvT hZ w4) hy (backOf (W := W) (hC []) hZ w4 w3 hf hl) hg hsize (lenOf hd0 hlen) hstack hW hd (fun _ _ => ⟨rfl, eT, hc, hs⟩)
  dsimp only [Pt.U, Pt.locs, Pt.cells, Pt.slots] at X' l1 y1 z1 st hQ
  subst l1 y1 z1
  exact own_st st (k _ _ _ X' hQ)
theorem own_callI (X : Stand p l e R s m args below meth c T locs cells slots) (hx : p.tables.exec = Jvm.exec) (hZ : Z.Warmed39 s.vm) {own : String} {index : Nat} {y : MethodName} {bytes : ByteArray} {ml : Nat} {rm : Room} {argsL rest : List Value} {a : Addr}
    (hy1 : y.name = "<init>") (hown : s.vm.findClass own = some m.cls) (w1 : (Jvm.Cond.methodLink own index y).before a0 Z = true) (w2 : (Jvm.Cond.instanceMethod y).before a0 Z = true) (w3 : (Jvm.Cond.initialized y.cls).before a0 Z = true) (w4 : (Jvm.Cond.code y bytes ml none).before a0 Z = true)
    (hy : y.cls ≠ "java/lang/invoke/MethodHandle" ∧ y.cls ≠ "java/lang/invoke/VarHandle") (eT : T.heap = h) (hC : own_Ct l Z y bytes ml none rm (.ref a :: argsL).toArray h QQ) {W : Nat} (hf : rm.frames + 1 ≤ R.frames) (hl : W + (ml + 11) + rm.locals ≤ R.locals) (hc : cells + rm.cells ≤ R.cells) (hs : slots + rm.slots ≤ R.slots)
    {ps : List FieldType} {rr : Option FieldType} (hd0 : parseMethodDescriptor y.desc = some ⟨ps, rr⟩) (hlen : argsL.length = ps.length) {g : JFrame} (hg : g.method = m) (hsize : g.locals.size = c.maxLocals) (hstack : g.stack = argsL.reverse ++ .ref a :: rest) (hW : 2 * g.monitorRoom + (rest.map fun v => v.category).sum ≤ W) (hd : decode c.code g.pc = .ok (.invokespecial index, 3))
    (k : ∀ v T' L, Stand p l e R s m args below meth c T' (locs ++ L) (cells + rm.cells) (slots + rm.slots) → QQ v T'.heap L → own_GoF p e below F Q T' { g with pc := g.pc + 3, stack := v.toList ++ rest }) : own_GoF p e below F Q T g := by
  obtain ⟨v, _, ⟨T', L', c', n'⟩, -, X', ⟨Lc, hQ, l1, y1, z1⟩, st⟩ := X.specialBack hx (y := y) hy1 hown (mvT hZ w1) (mvT hZ w2) (mvT hZ w4) hy (backOf (W := W) (hC []) hZ w4 w3 hf hl) hg hsize (Steps.refl _) (a := a) (lenOf hd0 hlen) hstack hW hd (fun _ _ => ⟨rfl, eT, hc, hs⟩)
  dsimp only [Pt.U, Pt.locs, Pt.cells, Pt.slots] at X' l1 y1 z1 st hQ
  subst l1 y1 z1
  exact own_st (fun _ r => st.trans r) (k _ _ _ X' hQ)
theorem own_callV (X : Stand p l e R s m args below meth c T locs cells slots) (hx : p.tables.exec = Jvm.exec) (hZ : Z.Warmed39 s.vm) {own C : String} {index : Nat} {y z : MethodName} {bytes : ByteArray} {ml : Nat} {ret : Option FieldType} {rm : Room} {argsL rest : List Value} {a : Addr}
    (hown : s.vm.findClass own = some m.cls) (w1 : (Jvm.Cond.methodLink own index y).before a0 Z = true) (w2 : (Jvm.Cond.declares y).before a0 Z = true) (hnf : NotFace s y) (w5 : (Jvm.Cond.selects C y z).before a0 Z = true) (w6 : (Jvm.Cond.instanceMethod z).before a0 Z = true) (w3 : (Jvm.Cond.initialized z.cls).before a0 Z = true) (w4 : (Jvm.Cond.code z bytes ml ret).before a0 Z = true)
    (hy : y.cls ≠ "java/lang/invoke/MethodHandle" ∧ y.cls ≠ "java/lang/invoke/VarHandle") (eT : T.heap = h) (E : Exa Z h a C) (hC : own_Ct l Z z bytes ml ret rm (.ref a :: argsL).toArray h QQ) {W : Nat} (hf : rm.frames + 1 ≤ R.frames) (hl : W + (ml + 11) + rm.locals ≤ R.locals) (hc : cells + rm.cells ≤ R.cells) (hs : slots + rm.slots ≤ R.slots)
    {ps : List FieldType} {rr : Option FieldType} (hd0 : parseMethodDescriptor y.desc = some ⟨ps, rr⟩) (hlen : argsL.length = ps.length) {g : JFrame} (hg : g.method = m) (hsize : g.locals.size = c.maxLocals) (hstack : g.stack = argsL.reverse ++ .ref a :: rest) (hW : 2 * g.monitorRoom + (rest.map fun v => v.category).sum ≤ W) (hd : decode c.code g.pc = .ok (.invokevirtual index, 3))
    (k : ∀ v T' L, Stand p l e R s m args below meth c T' (locs ++ L) (cells + rm.cells) (slots + rm.slots) → QQ v T'.heap L → own_GoF p e below F Q T' { g with pc := g.pc + 3, stack := v.toList ++ rest }) : own_GoF p e below F Q T g := by
  obtain ⟨cB, kB, q1, q2, q3⟩ := isOf hZ eT E
  obtain ⟨v, _, ⟨T', L', c', n'⟩, -, X', ⟨Lc, hQ, l1, y1, z1⟩, st⟩ := X.virtualBack hx (y := y) (z := z) hown (mvT hZ w1) (mvT hZ w2) hnf (mvT hZ w5) (mvT hZ w6) hy (backOf (W := W) (hC []) hZ w4 w3 hf hl) q1 q3 hg hsize (Steps.refl _) (lenOf hd0 hlen) hstack hW hd (fun _ _ => ⟨rfl, eT, hc, hs⟩)
  dsimp only [Pt.U, Pt.locs, Pt.cells, Pt.slots] at X' l1 y1 z1 st hQ
  subst l1 y1 z1
  exact own_st (fun _ r => st.trans r) (k _ _ _ X' hQ)
theorem own_callP (X : Stand p l e R s m args below meth c T locs cells slots) (hx : p.tables.exec = Jvm.exec) (hZ : Z.Warmed39 s.vm) {own C : String} {index : Nat} {y : MethodName} {bytes : ByteArray} {ml : Nat} {ret : Option FieldType} {rm : Room} {argsL rest : List Value} {a : Addr}
    (hown : s.vm.findClass own = some m.cls) (w1 : (Jvm.Cond.methodLink own index y).before a0 Z = true) (w6 : (Jvm.Cond.instanceMethod y).before a0 Z = true) (w5 : (Jvm.Cond.selects y.cls y y).before a0 Z = true) (w7 : (Jvm.Cond.privateMethod y).before a0 Z = true) (w3 : (Jvm.Cond.initialized y.cls).before a0 Z = true) (w4 : (Jvm.Cond.code y bytes ml ret).before a0 Z = true)
    (hy : y.cls ≠ "java/lang/invoke/MethodHandle" ∧ y.cls ≠ "java/lang/invoke/VarHandle") (eT : T.heap = h) (E : Exa Z h a C) (hC : own_Ct l Z y bytes ml ret rm (.ref a :: argsL).toArray h QQ) {W : Nat} (hf : rm.frames + 1 ≤ R.frames) (hl : W + (ml + 11) + rm.locals ≤ R.locals) (hc : cells + rm.cells ≤ R.cells) (hs : slots + rm.slots ≤ R.slots)
    {ps : List FieldType} {rr : Option FieldType} (hd0 : parseMethodDescriptor y.desc = some ⟨ps, rr⟩) (hlen : argsL.length = ps.length) {g : JFrame} (hg : g.method = m) (hsize : g.locals.size = c.maxLocals) (hstack : g.stack = argsL.reverse ++ .ref a :: rest) (hW : 2 * g.monitorRoom + (rest.map fun v => v.category).sum ≤ W) (hd : decode c.code g.pc = .ok (.invokevirtual index, 3))
    (k : ∀ v T' L, Stand p l e R s m args below meth c T' (locs ++ L) (cells + rm.cells) (slots + rm.slots) → QQ v T'.heap L → own_GoF p e below F Q T' { g with pc := g.pc + 3, stack := v.toList ++ rest }) : own_GoF p e below F Q T g := by
  obtain ⟨cq, q1, q2⟩ := E.cell
  obtain ⟨v, _, ⟨T', L', c', n'⟩, -, X', ⟨Lc, hQ, l1, y1, z1⟩, st⟩ := X.privateBack hx (y := y) hown (mvT hZ w1) (mvT hZ w6) (mvT hZ w5) (Cond.privateMethod_at (mvP hZ w7 (args := #[]))) (mvT hZ w4) hy (backOf (W := W) (hC []) hZ w4 w3 hf hl) hg hsize (Steps.refl _) (a := a) (by rw [eT]; exact q1) q2 (lenOf hd0 hlen) hstack hW hd (fun _ _ => ⟨rfl, eT, hc, hs⟩)
  dsimp only [Pt.U, Pt.locs, Pt.cells, Pt.slots] at X' l1 y1 z1 st hQ
  subst l1 y1 z1
  exact own_st (fun _ r => st.trans r) (k _ _ _ X' hQ)
theorem own_selfsel {y : MethodName} {n : Nat} (wi : (Jvm.Cond.instantiable y.cls n).before a0 Z = true) (w7 : (Jvm.Cond.privateMethod y).before a0 Z = true) (w6 : (Jvm.Cond.instanceMethod y).before a0 Z = true) (hy : y.cls ≠ "java/lang/invoke/MethodHandle" ∧ y.cls ≠ "java/lang/invoke/VarHandle") : (Jvm.Cond.selects y.cls y y).before a0 Z = true := by
  obtain ⟨c, k', h1, h2, -, h3, -⟩ := Cond.instantiable_spec wi
  exact Jvm.Stand.selects_self_of_private h1 h2 (by simp at h3; exact h3.1) (Cond.privateMethod_at w7) w6 hy
/-! arrays: n places, place i holds f i -/
def own_Av (Z : State) (h : Heap) (a : Addr) (ty : FieldType) (n : Nat) (f : Nat → Value) : Prop := ∃ c : Cell, Arr Z h a c ty ∧ c.slots.size = n ∧ ∀ i, i < n → c.slots[i]? = some (f i)
def own_up (f : Nat → Value) (i : Nat) (v : Value) : Nat → Value := fun j => if j = i then v else f j
variable {a b : Addr} {ty : FieldType} {n : Nat} {f f' : Nat → Value} {v : Value}
theorem own_Av.lt (F : own_Av Z h a ty n f) : a < h.size := by obtain ⟨c, A, -⟩ := F; exact A.lt
theorem own_Av.ext (F : own_Av Z h a ty n f) (E : Ext h h') : own_Av Z h' a ty n f := by obtain ⟨c, A, q⟩ := F; exact ⟨c, A.ext E, q⟩
theorem own_Av.other {i : Nat} (F : own_Av Z h b ty n f) (W : Wr h h' a i v) (q : b ≠ a) : own_Av Z h' b ty n f := by obtain ⟨c, A, r⟩ := F; exact ⟨c, A.other W q, r⟩
theorem own_Av.keep {ws : List Addr} (F : own_Av Z h a ty n f) (K : Keep h h' ws) (q : a ∉ ws) : own_Av Z h' a ty n f := by obtain ⟨c, A, r⟩ := F; exact ⟨c, ⟨K.2.1 _ _ A.1 q, A.2⟩, r⟩
theorem own_Av.cg (F : own_Av Z h a ty n f) (q : ∀ i, i < n → f i = f' i) : own_Av Z h a ty n f' := by obtain ⟨c, A, r, t⟩ := F; exact ⟨c, A, r, fun i hi => by rw [t i hi, q i hi]⟩
theorem own_Av.same {i : Nat} (F : own_Av Z h a ty n f) (W : Wr h h' a i v) (hi : i < n) : own_Av Z h' a ty n (own_up f i v) := by
  obtain ⟨c, A, r, t⟩ := F
  refine ⟨_, A.same W, by rw [sz_set]; exact r, fun j hj => ?_⟩
  subst r
  simp only [Cell.setSlot, own_up, Array.getElem?_setIfInBounds]
  by_cases q : i = j
  · subst q; simp [hi]
  · simp [q, Ne.symm q, t j hj]
theorem own_Av.new {k : ClassId} {z : Int32} (A : Arr Z h a (newA k ty z) ty) : own_Av Z h a ty z.toNatClampNeg (fun _ => defaultValue ty) := by
  refine ⟨_, A, sz_new _ _ _, fun i hi => ?_⟩
  simp [newA, hi]
theorem own_ne (F : a < b) : a ≠ b := Nat.ne_of_lt F
theorem own_inb {c : Cell} {j : Int32} {i : Nat} (r : c.slots.size = n) (hj : ¬ j < 0) (hi : j.toNatClampNeg = i) (hin : i < n) : ¬ (j < 0 ∨ c.slots.size ≤ j.toNatClampNeg) := by
  rintro (q | q)
  · exact hj q
  · omega
theorem own_len (X : Stand p l e R s m args below meth c T locs cells slots) (hx : p.tables.exec = Jvm.exec) (hZ : Z.Warmed39 s.vm) (eT : T.heap = h) (A : own_Av Z h a ty n f) {z : Int32} (hz : n.toInt32 = z) {g : JFrame} (hg : g.method = m) {rest : List Value} (hs : g.stack = .ref a :: rest) (hd : decode c.code g.pc = .ok (.arraylength, 1)) :
    ∀ t, Steps p.tables e below (T.setTop { g with pc := g.pc + 1, stack := .int z :: rest }) t → Steps p.tables e below (T.setTop g) t := by
  obtain ⟨c, A, r, -⟩ := A
  subst hz r
  exact X.arraylength hx (by rw [eT]; exact A.1) (State.isArrayOf_alike hZ.alike A.2.1) hg hs hd
theorem own_iaload (X : Stand p l e R s m args below meth c T locs cells slots) (hx : p.tables.exec = Jvm.exec) (hZ : Z.Warmed39 s.vm) (eT : T.heap = h) (A : own_Av Z h a .int n f) {j : Int32} (i : Nat) (hj : ¬ j < 0) (hi : j.toNatClampNeg = i) (hin : i < n) (hv : f i = v) {g : JFrame} (hg : g.method = m) {rest : List Value} (hs : g.stack = .int j :: .ref a :: rest) (hd : decode c.code g.pc = .ok (.iaload, 1)) :
    ∀ t, Steps p.tables e below (T.setTop { g with pc := g.pc + 1, stack := v :: rest }) t → Steps p.tables e below (T.setTop g) t := by
  obtain ⟨c, A, r, t⟩ := A
  exact X.iaload hx (by rw [eT]; exact A.1) (State.isArrayOf_alike hZ.alike A.2.1) A.2.2 (own_inb r hj hi hin) (by rw [hi, t i hin, hv]) hg hs hd
theorem own_laload (X : Stand p l e R s m args below meth c T locs cells slots) (hx : p.tables.exec = Jvm.exec) (hZ : Z.Warmed39 s.vm) (eT : T.heap = h) (A : own_Av Z h a .long n f) {j : Int32} (i : Nat) (hj : ¬ j < 0) (hi : j.toNatClampNeg = i) (hin : i < n) (hv : f i = v) {g : JFrame} (hg : g.method = m) {rest : List Value} (hs : g.stack = .int j :: .ref a :: rest) (hd : decode c.code g.pc = .ok (.laload, 1)) :
    ∀ t, Steps p.tables e below (T.setTop { g with pc := g.pc + 1, stack := v :: rest }) t → Steps p.tables e below (T.setTop g) t := by
  obtain ⟨c, A, r, t⟩ := A
  exact X.laload hx (by rw [eT]; exact A.1) (State.isArrayOf_alike hZ.alike A.2.1) A.2.2 (own_inb r hj hi hin) (by rw [hi, t i hin, hv]) hg hs hd
theorem own_aaload (X : Stand p l e R s m args below meth c T locs cells slots) (hx : p.tables.exec = Jvm.exec) (hZ : Z.Warmed39 s.vm) (eT : T.heap = h) (A : own_Av Z h a ty n f) (hty : ty.isReference = true) {j : Int32} (i : Nat) (hj : ¬ j < 0) (hi : j.toNatClampNeg = i) (hin : i < n) (hv : f i = v) {g : JFrame} (hg : g.method = m) {rest : List Value} (hs : g.stack = .int j :: .ref a :: rest) (hd : decode c.code g.pc = .ok (.aaload, 1)) :
    ∀ t, Steps p.tables e below (T.setTop { g with pc := g.pc + 1, stack := v :: rest }) t → Steps p.tables e below (T.setTop g) t := by
  obtain ⟨c, A, r, t⟩ := A
  exact X.aaload hx (by rw [eT]; exact A.1) (State.isArrayOf_alike hZ.alike A.2.1) hty A.2.2 (own_inb r hj hi hin) (by rw [hi, t i hin, hv]) hg hs hd
theorem own_baloadB (X : Stand p l e R s m args below meth c T locs cells slots) (hx : p.tables.exec = Jvm.exec) (hZ : Z.Warmed39 s.vm) (eT : T.heap = h) (A : own_Av Z h a .byte n f) {j : Int32} (i : Nat) (hj : ¬ j < 0) (hi : j.toNatClampNeg = i) (hin : i < n) (hv : f i = v) {g : JFrame} (hg : g.method = m) {rest : List Value} (hs : g.stack = .int j :: .ref a :: rest) (hd : decode c.code g.pc = .ok (.baload, 1)) :
    ∀ t, Steps p.tables e below (T.setTop { g with pc := g.pc + 1, stack := v :: rest }) t → Steps p.tables e below (T.setTop g) t := by
  obtain ⟨c, A, r, t⟩ := A
  exact X.baloadBytes hx (by rw [eT]; exact A.1) (State.isArrayOf_alike hZ.alike A.2.1) A.2.2 (own_inb r hj hi hin) (by rw [hi, t i hin, hv]) hg hs hd
theorem own_baloadZ (X : Stand p l e R s m args below meth c T locs cells slots) (hx : p.tables.exec = Jvm.exec) (hZ : Z.Warmed39 s.vm) (eT : T.heap = h) (A : own_Av Z h a .boolean n f) {j : Int32} (i : Nat) (hj : ¬ j < 0) (hi : j.toNatClampNeg = i) (hin : i < n) (hv : f i = v) {g : JFrame} (hg : g.method = m) {rest : List Value} (hs : g.stack = .int j :: .ref a :: rest) (hd : decode c.code g.pc = .ok (.baload, 1)) :
    ∀ t, Steps p.tables e below (T.setTop { g with pc := g.pc + 1, stack := v :: rest }) t → Steps p.tables e below (T.setTop g) t := by
  obtain ⟨c, A, r, t⟩ := A
  exact X.baloadBooleans hx (by rw [eT]; exact A.1) (State.isArrayOf_alike hZ.alike A.2.1) A.2.2 (own_inb r hj hi hin) (by rw [hi, t i hin, hv]) hg hs hd
theorem own_iastore (X : Stand p l e R s m args below meth c T locs cells slots) (hx : p.tables.exec = Jvm.exec) (hZ : Z.Warmed39 s.vm) (eT : T.heap = h) (A : own_Av Z h a .int n f) {j x : Int32} (i : Nat) (hj : ¬ j < 0) (hi : j.toNatClampNeg = i) (hin : i < n) {g : JFrame} (hg : g.method = m) {rest : List Value} (hs : g.stack = .int x :: .int j :: .ref a :: rest) (hd : decode c.code g.pc = .ok (.iastore, 1)) :
    ∃ T' h', Stand p l e R s m args below meth c T' (locs ++ [⟨a, i⟩]) cells slots ∧ T'.heap = h' ∧ Wr h h' a i (.int x) ∧ own_Av Z h' a .int n (own_up f i (.int x)) ∧ ∀ t, Steps p.tables e below (T'.setTop { g with pc := g.pc + 1, stack := rest }) t → Steps p.tables e below (T.setTop g) t := by
  have B := A
  obtain ⟨c, A, r, -⟩ := A
  obtain ⟨T', h', X', e', W, st⟩ := stI X hx hZ eT A (own_inb r hj hi hin) hg hs hd
  rw [hi] at X' W
  exact ⟨T', h', X', e', W, B.same W hin, st⟩
theorem own_lastore (X : Stand p l e R s m args below meth c T locs cells slots) (hx : p.tables.exec = Jvm.exec) (hZ : Z.Warmed39 s.vm) (eT : T.heap = h) (A : own_Av Z h a .long n f) {j : Int32} {x : Int64} (i : Nat) (hj : ¬ j < 0) (hi : j.toNatClampNeg = i) (hin : i < n) {g : JFrame} (hg : g.method = m) {rest : List Value} (hs : g.stack = .long x :: .int j :: .ref a :: rest) (hd : decode c.code g.pc = .ok (.lastore, 1)) :
    ∃ T' h', Stand p l e R s m args below meth c T' (locs ++ [⟨a, i⟩]) cells slots ∧ T'.heap = h' ∧ Wr h h' a i (.long x) ∧ own_Av Z h' a .long n (own_up f i (.long x)) ∧ ∀ t, Steps p.tables e below (T'.setTop { g with pc := g.pc + 1, stack := rest }) t → Steps p.tables e below (T.setTop g) t := by
  have B := A
  obtain ⟨c, A, r, -⟩ := A
  obtain ⟨T', h', X', e', W, st⟩ := stJ X hx hZ eT A (own_inb r hj hi hin) hg hs hd
  rw [hi] at X' W
  exact ⟨T', h', X', e', W, B.same W hin, st⟩
theorem own_bastoreB (X : Stand p l e R s m args below meth c T locs cells slots) (hx : p.tables.exec = Jvm.exec) (hZ : Z.Warmed39 s.vm) (eT : T.heap = h) (A : own_Av Z h a .byte n f) {j x : Int32} (i : Nat) (hj : ¬ j < 0) (hi : j.toNatClampNeg = i) (hin : i < n) {y : Int32} (hy : nar .byte x = y) {g : JFrame} (hg : g.method = m) {rest : List Value} (hs : g.stack = .int x :: .int j :: .ref a :: rest) (hd : decode c.code g.pc = .ok (.bastore, 1)) :
    ∃ T' h', Stand p l e R s m args below meth c T' (locs ++ [⟨a, i⟩]) cells slots ∧ T'.heap = h' ∧ Wr h h' a i (.int y) ∧ own_Av Z h' a .byte n (own_up f i (.int y)) ∧ ∀ t, Steps p.tables e below (T'.setTop { g with pc := g.pc + 1, stack := rest }) t → Steps p.tables e below (T.setTop g) t := by
  have B := A
  obtain ⟨c, A, r, -⟩ := A
  obtain ⟨T', h', X', e', W, st⟩ := stB X hx hZ eT A (own_inb r hj hi hin) hg hs hd
  rw [hi] at X' W
  rw [hy] at W
  exact ⟨T', h', X', e', W, B.same W hin, st⟩
theorem own_bastoreZ (X : Stand p l e R s m args below meth c T locs cells slots) (hx : p.tables.exec = Jvm.exec) (hZ : Z.Warmed39 s.vm) (eT : T.heap = h) (A : own_Av Z h a .boolean n f) {j x : Int32} (i : Nat) (hj : ¬ j < 0) (hi : j.toNatClampNeg = i) (hin : i < n) {y : Int32} (hy : nar .boolean x = y) {g : JFrame} (hg : g.method = m) {rest : List Value} (hs : g.stack = .int x :: .int j :: .ref a :: rest) (hd : decode c.code g.pc = .ok (.bastore, 1)) :
    ∃ T' h', Stand p l e R s m args below meth c T' (locs ++ [⟨a, i⟩]) cells slots ∧ T'.heap = h' ∧ Wr h h' a i (.int y) ∧ own_Av Z h' a .boolean n (own_up f i (.int y)) ∧ ∀ t, Steps p.tables e below (T'.setTop { g with pc := g.pc + 1, stack := rest }) t → Steps p.tables e below (T.setTop g) t := by
  have B := A
  obtain ⟨c, A, r, -⟩ := A
  obtain ⟨T', h', X', e', W, st⟩ := stZ X hx hZ eT A (own_inb r hj hi hin) hg hs hd
  rw [hi] at X' W
  rw [hy] at W
  exact ⟨T', h', X', e', W, B.same W hin, st⟩
theorem own_newP (X : Stand p l e R s m args below meth c T locs cells slots) (hx : p.tables.exec = Jvm.exec) (hZ : Z.Warmed39 s.vm) {aty : ArrayType} (w : (Jvm.Cond.arrayClass (newarray.typeOf aty)).before a0 Z = true) (eT : T.heap = h) {z : Int32} (n : Nat) (hn : ¬ z < 0) (hz : z.toNatClampNeg = n) {cap : Nat} (hcap : n ≤ cap) (hb : cap * 8 ≤ 536870912) (hc : cells + 1 ≤ R.cells) (hl : slots + cap ≤ R.slots) {g : JFrame} (hg : g.method = m) {rest : List Value} (hs : g.stack = .int z :: rest) (hd : decode c.code g.pc = .ok (.newarray aty, 2)) :
    ∃ T' h' b, Stand p l e R s m args below meth c T' locs (cells + 1) (slots + cap) ∧ T'.heap = h' ∧ b = h.size ∧ Ext h h' ∧ own_Av Z h' b (newarray.typeOf aty) n (fun _ => defaultValue (newarray.typeOf aty)) ∧ ∀ t, Steps p.tables e below (T'.setTop { g with pc := g.pc + 2, stack := .ref b :: rest }) t → Steps p.tables e below (T.setTop g) t := by
  obtain ⟨T', h', k, X', e', E, A, st⟩ := newP X hx hZ w eT hg hd hs hn (cap := cap) (by rw [hz]; exact hcap) hb hc hl
  exact ⟨T', h', _, X', e', rfl, E, hz ▸ own_Av.new A, st⟩
theorem own_newO (X : Stand p l e R s m args below meth c T locs cells slots) (hx : p.tables.exec = Jvm.exec) (hZ : Z.Warmed39 s.vm) {own C : String} {index n : Nat} (hown : s.vm.findClass own = some m.cls) (w : (Jvm.Cond.classLink own index C).before a0 Z = true) (wi : (Jvm.Cond.instantiable C n).before a0 Z = true) (wz : (Jvm.Cond.initialized C).before a0 Z = true) (eT : T.heap = h) (hc : cells + 1 ≤ R.cells) (hl : slots + n ≤ R.slots) {g : JFrame} (hg : g.method = m) (hd : decode c.code g.pc = .ok (.new index, 3)) :
    ∃ T' h' b, Stand p l e R s m args below meth c T' locs (cells + 1) (slots + n) ∧ T'.heap = h' ∧ b = h.size ∧ Ext h h' ∧ Exa Z h' b C ∧ (∀ {O nm d : String} {ty : FieldType}, Laid Z a0 C O nm d → parseFieldDescriptor d = some ty → Fld Z h' b O nm d (defaultValue ty)) ∧ ∀ t, Steps p.tables e below (T'.setTop { g with pc := g.pc + 3, stack := .ref b :: g.stack }) t → Steps p.tables e below (T.setTop g) t := by
  obtain ⟨T', h', X', e', E, A, D, -, st⟩ := newO X hx hZ hown w wi wz eT hg hd hc hl
  exact ⟨T', h', _, X', e', rfl, E, A, D, st⟩
theorem own_stakeep {ws : List Addr} {C n d : String} {v : Value} (F : Sta Z h C n d v) (K : Keep h h' ws) (q : ∀ a ∈ ws, ∀ cell : Cell, h[a]? = some cell → cell.vm.isStatics = false) : Sta Z h' C n d v := by
  obtain ⟨cf, i, k, f, st, cell, h1, h2, h3, h4, h5, h6, h7⟩ := F
  refine ⟨cf, i, k, f, st, cell, h1, h2, h3, h4, K.2.1 _ _ h5 (fun hm => ?_), h6, h7⟩
  have := q st hm cell h5
  rw [h6] at this; cases this
theorem own_frs {k : Nat} {sl : Nat} (N : Fr k locs) (q : k ≤ a) : Fr k (locs ++ [⟨a, sl⟩]) := by
  intro y hy
  rcases List.mem_append.mp hy with hy | hy
  · exact N y hy
  · rw [List.mem_singleton.mp hy]; exact q
/-! arrays of ints and longs by a function on places -/
def own_upI (f : Nat → Int32) (i : Nat) (v : Int32) : Nat → Int32 := fun j => if j = i then v else f j
def own_upJ (f : Nat → Int64) (i : Nat) (v : Int64) : Nat → Int64 := fun j => if j = i then v else f j
theorem own_Av.fI {gg : Nat → Int32} {i : Nat} {x : Int32} (F : own_Av Z h a ty n (own_up (fun k => .int (gg k)) i (.int x))) : own_Av Z h a ty n (fun k => .int (own_upI gg i x k)) :=
  F.cg fun j _ => by unfold own_up own_upI; split <;> rfl
theorem own_Av.fJ {gg : Nat → Int64} {i : Nat} {x : Int64} (F : own_Av Z h a ty n (own_up (fun k => .long (gg k)) i (.long x))) : own_Av Z h a ty n (fun k => .long (own_upJ gg i x k)) :=
  F.cg fun j _ => by unfold own_up own_upJ; split <;> rfl
end OwnKit
section OwnNums
theorem own_and_pow (b : Int32) (i : Nat) (m : Int32) (hm : m.toBitVec = BitVec.twoPow 32 i) : (b &&& m = 0) ↔ b.toBitVec.getLsbD i = false := by
  rw [← Int32.toBitVec_inj, Int32.toBitVec_and, hm, BitVec.and_twoPow]
  by_cases hi : i < 32
  · cases h : b.toBitVec.getLsbD i
    · simp
    · simp only [if_true, Int32.toBitVec_zero]
      constructor
      · intro q
        have := congrArg (fun v => BitVec.getLsbD v i) q
        simp [hi] at this
      · intro q; cases q
  · simp [BitVec.getLsbD_of_ge _ _ (Nat.le_of_not_lt hi)]
theorem own_shr_bit (b s : Int32) (i : Nat) (hi : i < 32) (hs : (s.toBitVec.smod 32).toNat = i) : ((b >>> s) &&& 1 = 0) ↔ b.toBitVec.getLsbD i = false := by
  rw [own_and_pow (b >>> s) 0 1 (by decide), Int32.toBitVec_shiftRight]
  simp only [BitVec.sshiftRight', hs, BitVec.getLsbD_sshiftRight]
  simp [hi]
theorem own_nat {x : Int32} (h : ¬ x < 0) : x.toInt = (x.toNatClampNeg : Int) := by
  have : 0 ≤ x.toInt := by
    have h2 := h
    rw [Int32.lt_iff_toInt_lt] at h2
    simpa using h2
  rw [Int32.toNatClampNeg, Int.toNat_of_nonneg this]
theorem own_in {j z : Int32} {n : Nat} (hn : n < 2 ^ 31) (hz : n.toInt32 = z) (hj : ¬ j < 0) (h : j < z) : j.toNatClampNeg < n := by
  have h1 := own_nat hj
  rw [Int32.lt_iff_toInt_lt, ← hz, len_toInt hn] at h
  omega
theorem own_and3 (x : Int32) : x &&& 3 = 0 ∨ x &&& 3 = 1 ∨ x &&& 3 = 2 ∨ x &&& 3 = 3 := by
  have hm : (x &&& 3).toInt = x.toInt % 2 ^ 2 := Jvm.Kit.i32_mask x 3 (by decide) (by decide)
  simp only [← Int32.toInt_inj, hm]
  show x.toInt % 2 ^ 2 = 0 ∨ x.toInt % 2 ^ 2 = 1 ∨ x.toInt % 2 ^ 2 = 2 ∨ x.toInt % 2 ^ 2 = 3
  omega
theorem own_nar1 {P : Prop} [Decidable P] {v : Int32} (h : v = if P then 0 else 1) : nar .boolean v = v := by subst h; split <;> decide
end OwnNums
theorem d1_0 : decode jdk_32_method_1_code 0 = .ok (.getstatic 1, 3) := by decide +kernel
theorem d1_3 : decode jdk_32_method_1_code 3 = .ok (.astore_n 0, 1) := by decide +kernel
theorem d1_4 : decode jdk_32_method_1_code 4 = .ok (.aload_n 0, 1) := by decide +kernel
theorem d1_5 : decode jdk_32_method_1_code 5 = .ok (.areturn, 1) := by decide +kernel
theorem d2_0 : decode prog_114_method_1_code 0 = .ok (.aload_n 0, 1) := by decide +kernel
theorem d2_1 : decode prog_114_method_1_code 1 = .ok (.invokespecial 1, 3) := by decide +kernel
theorem d2_4 : decode prog_114_method_1_code 4 = .ok (.aload_n 3, 1) := by decide +kernel
theorem d2_5 : decode prog_114_method_1_code 5 = .ok (.ldc 7, 2) := by decide +kernel
theorem d2_7 : decode prog_114_method_1_code 7 = .ok (.invokestatic 9, 3) := by decide +kernel
theorem d2_10 : decode prog_114_method_1_code 10 = .ok (.pop, 1) := by decide +kernel
theorem d2_11 : decode prog_114_method_1_code 11 = .ok (.aload 4, 2) := by decide +kernel
theorem d2_13 : decode prog_114_method_1_code 13 = .ok (.ldc 15, 2) := by decide +kernel
theorem d2_15 : decode prog_114_method_1_code 15 = .ok (.invokestatic 9, 3) := by decide +kernel
theorem d2_18 : decode prog_114_method_1_code 18 = .ok (.pop, 1) := by decide +kernel
theorem d2_19 : decode prog_114_method_1_code 19 = .ok (.getstatic 17, 3) := by decide +kernel
theorem d2_22 : decode prog_114_method_1_code 22 = .ok (.iload_n 1, 1) := by decide +kernel
theorem d2_23 : decode prog_114_method_1_code 23 = .ok (.i2l, 1) := by decide +kernel
theorem d2_24 : decode prog_114_method_1_code 24 = .ok (.invokevirtual 23, 3) := by decide +kernel
theorem d2_27 : decode prog_114_method_1_code 27 = .ok (.ifCond .eq 19, 3) := by decide +kernel
theorem d2_30 : decode prog_114_method_1_code 30 = .ok (.getstatic 17, 3) := by decide +kernel
theorem d2_33 : decode prog_114_method_1_code 33 = .ok (.iload_n 2, 1) := by decide +kernel
theorem d2_34 : decode prog_114_method_1_code 34 = .ok (.i2l, 1) := by decide +kernel
theorem d2_35 : decode prog_114_method_1_code 35 = .ok (.invokevirtual 23, 3) := by decide +kernel
theorem d2_38 : decode prog_114_method_1_code 38 = .ok (.ifCond .eq 8, 3) := by decide +kernel
theorem d2_41 : decode prog_114_method_1_code 41 = .ok (.iload_n 2, 1) := by decide +kernel
theorem d2_42 : decode prog_114_method_1_code 42 = .ok (.iload_n 1, 1) := by decide +kernel
theorem d2_43 : decode prog_114_method_1_code 43 = .ok (.if_icmp .ge 18, 3) := by decide +kernel
theorem d2_61 : decode prog_114_method_1_code 61 = .ok (.aload 4, 2) := by decide +kernel
theorem d2_63 : decode prog_114_method_1_code 63 = .ok (.invokevirtual 38, 3) := by decide +kernel
theorem d2_66 : decode prog_114_method_1_code 66 = .ok (.ifCond .eq 20, 3) := by decide +kernel
theorem d2_86 : decode prog_114_method_1_code 86 = .ok (.aload 4, 2) := by decide +kernel
theorem d2_88 : decode prog_114_method_1_code 88 = .ok (.invokevirtual 38, 3) := by decide +kernel
theorem d2_91 : decode prog_114_method_1_code 91 = .ok (.ifCond .eq 27, 3) := by decide +kernel
theorem d2_118 : decode prog_114_method_1_code 118 = .ok (.aload_n 0, 1) := by decide +kernel
theorem d2_119 : decode prog_114_method_1_code 119 = .ok (.iload_n 1, 1) := by decide +kernel
theorem d2_120 : decode prog_114_method_1_code 120 = .ok (.putfield 64, 3) := by decide +kernel
theorem d2_123 : decode prog_114_method_1_code 123 = .ok (.aload_n 0, 1) := by decide +kernel
theorem d2_124 : decode prog_114_method_1_code 124 = .ok (.iload_n 2, 1) := by decide +kernel
theorem d2_125 : decode prog_114_method_1_code 125 = .ok (.putfield 70, 3) := by decide +kernel
theorem d2_128 : decode prog_114_method_1_code 128 = .ok (.aload_n 0, 1) := by decide +kernel
theorem d2_129 : decode prog_114_method_1_code 129 = .ok (.aload_n 3, 1) := by decide +kernel
theorem d2_130 : decode prog_114_method_1_code 130 = .ok (.putfield 73, 3) := by decide +kernel
theorem d2_133 : decode prog_114_method_1_code 133 = .ok (.aload_n 0, 1) := by decide +kernel
theorem d2_134 : decode prog_114_method_1_code 134 = .ok (.aload 4, 2) := by decide +kernel
theorem d2_136 : decode prog_114_method_1_code 136 = .ok (.putfield 75, 3) := by decide +kernel
theorem d2_139 : decode prog_114_method_1_code 139 = .ok (.return_, 1) := by decide +kernel
theorem d3_0 : decode jdk_30_method_1_code 0 = .ok (.aload_n 0, 1) := by decide +kernel
theorem d3_1 : decode jdk_30_method_1_code 1 = .ok (.invokespecial 1, 3) := by decide +kernel
theorem d3_4 : decode jdk_30_method_1_code 4 = .ok (.return_, 1) := by decide +kernel
theorem d5_0 : decode jdk_31_method_11_code 0 = .ok (.aload_n 0, 1) := by decide +kernel
theorem d5_1 : decode jdk_31_method_11_code 1 = .ok (.ifnonnull 12, 3) := by decide +kernel
theorem d5_13 : decode jdk_31_method_11_code 13 = .ok (.aload_n 0, 1) := by decide +kernel
theorem d5_14 : decode jdk_31_method_11_code 14 = .ok (.areturn, 1) := by decide +kernel
theorem d6_0 : decode prog_108_method_2_code 0 = .ok (.aload_n 0, 1) := by decide +kernel
theorem d6_1 : decode prog_108_method_2_code 1 = .ok (.getfield 16, 3) := by decide +kernel
theorem d6_4 : decode prog_108_method_2_code 4 = .ok (.i2l, 1) := by decide +kernel
theorem d6_5 : decode prog_108_method_2_code 5 = .ok (.lload_n 1, 1) := by decide +kernel
theorem d6_6 : decode prog_108_method_2_code 6 = .ok (.lcmp, 1) := by decide +kernel
theorem d6_7 : decode prog_108_method_2_code 7 = .ok (.ifCond .gt 17, 3) := by decide +kernel
theorem d6_10 : decode prog_108_method_2_code 10 = .ok (.lload_n 1, 1) := by decide +kernel
theorem d6_11 : decode prog_108_method_2_code 11 = .ok (.aload_n 0, 1) := by decide +kernel
theorem d6_12 : decode prog_108_method_2_code 12 = .ok (.getfield 22, 3) := by decide +kernel
theorem d6_15 : decode prog_108_method_2_code 15 = .ok (.i2l, 1) := by decide +kernel
theorem d6_16 : decode prog_108_method_2_code 16 = .ok (.lcmp, 1) := by decide +kernel
theorem d6_17 : decode prog_108_method_2_code 17 = .ok (.ifCond .gt 7, 3) := by decide +kernel
theorem d6_20 : decode prog_108_method_2_code 20 = .ok (.iconst 1, 1) := by decide +kernel
theorem d6_21 : decode prog_108_method_2_code 21 = .ok (.goto 4, 3) := by decide +kernel
theorem d6_24 : decode prog_108_method_2_code 24 = .ok (.iconst 0, 1) := by decide +kernel
theorem d6_25 : decode prog_108_method_2_code 25 = .ok (.ireturn, 1) := by decide +kernel
theorem d7_0 : decode jdk_32_method_6_code 0 = .ok (.aload_n 0, 1) := by decide +kernel
theorem d7_1 : decode jdk_32_method_6_code 1 = .ok (.getfield 13, 3) := by decide +kernel
theorem d7_4 : decode jdk_32_method_6_code 4 = .ok (.ifnull 7, 3) := by decide +kernel
theorem d7_11 : decode jdk_32_method_6_code 11 = .ok (.iconst 0, 1) := by decide +kernel
theorem d7_12 : decode jdk_32_method_6_code 12 = .ok (.ireturn, 1) := by decide +kernel
theorem d8_0 : decode prog_114_method_2_code 0 = .ok (.aload_n 0, 1) := by decide +kernel
theorem d8_1 : decode prog_114_method_2_code 1 = .ok (.getfield 64, 3) := by decide +kernel
theorem d8_4 : decode prog_114_method_2_code 4 = .ok (.iload_n 1, 1) := by decide +kernel
theorem d8_5 : decode prog_114_method_2_code 5 = .ok (.if_icmp .gt 15, 3) := by decide +kernel
theorem d8_8 : decode prog_114_method_2_code 8 = .ok (.iload_n 1, 1) := by decide +kernel
theorem d8_9 : decode prog_114_method_2_code 9 = .ok (.aload_n 0, 1) := by decide +kernel
theorem d8_10 : decode prog_114_method_2_code 10 = .ok (.getfield 70, 3) := by decide +kernel
theorem d8_13 : decode prog_114_method_2_code 13 = .ok (.if_icmp .gt 7, 3) := by decide +kernel
theorem d8_16 : decode prog_114_method_2_code 16 = .ok (.iconst 1, 1) := by decide +kernel
theorem d8_17 : decode prog_114_method_2_code 17 = .ok (.goto 4, 3) := by decide +kernel
theorem d8_20 : decode prog_114_method_2_code 20 = .ok (.iconst 0, 1) := by decide +kernel
theorem d8_21 : decode prog_114_method_2_code 21 = .ok (.ireturn, 1) := by decide +kernel
theorem d9_0 : decode method_2_code 0 = .ok (.iload_n 1, 1) := by decide +kernel
theorem d9_1 : decode method_2_code 1 = .ok (.iload_n 0, 1) := by decide +kernel
theorem d9_2 : decode method_2_code 2 = .ok (.iload_n 2, 1) := by decide +kernel
theorem d9_3 : decode method_2_code 3 = .ok (.invokestatic 7, 3) := by decide +kernel
theorem d9_6 : decode method_2_code 6 = .ok (.invokestatic 13, 3) := by decide +kernel
theorem d9_9 : decode method_2_code 9 = .ok (.iload_n 0, 1) := by decide +kernel
theorem d9_10 : decode method_2_code 10 = .ok (.if_icmp .ne 7, 3) := by decide +kernel
theorem d9_13 : decode method_2_code 13 = .ok (.iconst 1, 1) := by decide +kernel
theorem d9_14 : decode method_2_code 14 = .ok (.goto 4, 3) := by decide +kernel
theorem d9_17 : decode method_2_code 17 = .ok (.iconst 0, 1) := by decide +kernel
theorem d9_18 : decode method_2_code 18 = .ok (.ireturn, 1) := by decide +kernel
theorem d10_0 : decode jdk_29_method_69_code 0 = .ok (.iload_n 0, 1) := by decide +kernel
theorem d10_1 : decode jdk_29_method_69_code 1 = .ok (.iload_n 1, 1) := by decide +kernel
theorem d10_2 : decode jdk_29_method_69_code 2 = .ok (.if_icmp .gt 7, 3) := by decide +kernel
theorem d10_5 : decode jdk_29_method_69_code 5 = .ok (.iload_n 0, 1) := by decide +kernel
theorem d10_6 : decode jdk_29_method_69_code 6 = .ok (.goto 4, 3) := by decide +kernel
theorem d10_9 : decode jdk_29_method_69_code 9 = .ok (.iload_n 1, 1) := by decide +kernel
theorem d10_10 : decode jdk_29_method_69_code 10 = .ok (.ireturn, 1) := by decide +kernel
theorem d11_0 : decode jdk_29_method_65_code 0 = .ok (.iload_n 0, 1) := by decide +kernel
theorem d11_1 : decode jdk_29_method_65_code 1 = .ok (.iload_n 1, 1) := by decide +kernel
theorem d11_2 : decode jdk_29_method_65_code 2 = .ok (.if_icmp .lt 7, 3) := by decide +kernel
theorem d11_5 : decode jdk_29_method_65_code 5 = .ok (.iload_n 0, 1) := by decide +kernel
theorem d11_6 : decode jdk_29_method_65_code 6 = .ok (.goto 4, 3) := by decide +kernel
theorem d11_9 : decode jdk_29_method_65_code 9 = .ok (.iload_n 1, 1) := by decide +kernel
theorem d11_10 : decode jdk_29_method_65_code 10 = .ok (.ireturn, 1) := by decide +kernel
theorem pd0 : parseMethodDescriptor "()V" = some ⟨[], none⟩ := by decide +kernel
theorem pd1 : parseMethodDescriptor "(Ljava/lang/Object;Ljava/lang/String;)Ljava/lang/Object;" = some ⟨[(.object "java/lang/Object"), (.object "java/lang/String")], some (.object "java/lang/Object")⟩ := by decide +kernel
theorem pd2 : parseMethodDescriptor "(J)Z" = some ⟨[.long], some .boolean⟩ := by decide +kernel
theorem pd3 : parseMethodDescriptor "()Z" = some ⟨[], some .boolean⟩ := by decide +kernel
theorem pd4 : parseMethodDescriptor "(II)I" = some ⟨[.int, .int], some .int⟩ := by decide +kernel
theorem pd5 : parseMethodDescriptor "()Ljava/util/Optional;" = some ⟨[], some (.object "java/util/Optional")⟩ := by decide +kernel
theorem pd6 : parseMethodDescriptor "(IILcom/example/planscribe/planscribe/model/Distribution$Divisor;Ljava/util/Optional;)V" = some ⟨[.int, .int, (.object "com/example/planscribe/planscribe/model/Distribution$Divisor"), (.object "java/util/Optional")], none⟩ := by decide +kernel
theorem pd7 : parseMethodDescriptor "(I)Z" = some ⟨[.int], some .boolean⟩ := by decide +kernel
theorem pd8 : parseMethodDescriptor "(III)Z" = some ⟨[.int, .int, .int], some .boolean⟩ := by decide +kernel
section OwnWide
variable {F : Outcome → State → List Loc → Prop} {p : Program} {l : Launch} {e : Env} {R : Room} {s : State} {m : MethodId} {args : Array Value} {below : List Frame} {meth : Method} {c : Code} {T T' : State} {locs : List Loc} {cells slots : Nat} {Z : State} {a0 : Array Value} {h h' : Heap} {Q QQ : Option Value → Heap → List Loc → Prop} {ce sl : Nat} {g g' : JFrame}
/-- a body's contract where a String constant may be interned -/
def own_CtS (l : Launch) (Z : State) (y : MethodName) (bytes : ByteArray) (ml : Nat) (ret : Option FieldType) (rm : Room) (as : Array Value) (h0 : Heap) (Q : Option Value → Heap → List Loc → Prop) : Prop :=
  ∀ ws : List Jvm.Cond, MetFree l y (head1 (Jvm.Cond.code y bytes ml ret :: ws) rm) (fun a U => a = as ∧ Z.Warmed39 U.vm ∧ U.heap = h0) (fun _ _ _ _ _ => True) (fun _ U o U' => ∃ v L, o = .returned v ∧ Q v U'.heap L ∧ ReturnedEndW U o U' L rm.cells rm.slots)
/-- the law's own contract: from the start itself -/
def own_CtL (l : Launch) (Z : State) (y : MethodName) (bytes : ByteArray) (ml : Nat) (ret : Option FieldType) (rm : Room) (as : Array Value) (h0 : Heap) (Q : Option Value → Heap → List Loc → Prop) : Prop :=
  ∀ ws : List Jvm.Cond, MetFree l y (head1 (Jvm.Cond.code y bytes ml ret :: ws) rm) (fun a U => a = as ∧ U = Z ∧ U.heap = h0) (fun _ _ _ _ _ => True) (fun _ U o U' => ∃ v L, o = .returned v ∧ Q v U'.heap L ∧ ReturnedEndW U o U' L rm.cells rm.slots)
theorem own_enterS {y : MethodName} {bytes : ByteArray} {ml : Nat} {ret : Option FieldType} {rm : Room} {as : Array Value} {h0 : Heap} (hp : plainFor y = true)
    (walk : ∀ {p e s m below meth c s₁}, Stand p l e rm s m as below meth c s₁ [] 0 0 → own_Cx p s m meth c Z bytes ml y.cls y.name ret → s₁.heap = h0 → own_GoW p e below s Q rm.cells rm.slots s₁ (entryFrame m as ml)) : own_CtS l Z y bytes ml ret rm as h0 Q := by
  intro ws
  refine MetFree.of_bodySF hp hisR ?_
  intro p e s m args below meth c s₁ Bd hml0 hP hK
  obtain ⟨rfl, hZ, hh⟩ := hP
  have X0 : Stand p l e rm s m args below meth c s₁ [] 0 0 := Stand.of_body Bd
  have e0 : s₁.heap = h0 := by rw [← hh, Bd.state]; rfl
  exact walk X0 ⟨Bd.exec, hZ, Bd.bytes, hml0, findClass_of_methodNamed Bd.named, (name_of_methodNamed Bd.named Bd.method).1, Bd.returns, Bd.notSynchronized⟩ e0
theorem own_enterL {y : MethodName} {bytes : ByteArray} {ml : Nat} {ret : Option FieldType} {rm : Room} {as : Array Value} {h0 : Heap} (hp : plainFor y = true)
    (walk : ∀ {p e m below meth c s₁}, Stand p l e rm Z m as below meth c s₁ [] 0 0 → own_Cx p Z m meth c Z bytes ml y.cls y.name ret → s₁.heap = h0 → Z.heap = h0 → own_GoW p e below Z Q rm.cells rm.slots s₁ (entryFrame m as ml)) : own_CtL l Z y bytes ml ret rm as h0 Q := by
  intro ws
  refine MetFree.of_bodySF hp hisR ?_
  intro p e s m args below meth c s₁ Bd hml0 hP hK
  obtain ⟨rfl, rfl, hh⟩ := hP
  have X0 : Stand p l e rm s m args below meth c s₁ [] 0 0 := Stand.of_body Bd
  have e0 : s₁.heap = h0 := by rw [← hh, Bd.state]; rfl
  exact walk X0 ⟨Bd.exec, State.Warmed39.refl s, Bd.bytes, hml0, findClass_of_methodNamed Bd.named, (name_of_methodNamed Bd.named Bd.method).1, Bd.returns, Bd.notSynchronized⟩ e0 hh
theorem own_retIW {vm₁ : Vm} {n : Nat} (X : Stand p l e R (s.setVm vm₁) m args below meth c T locs cells slots) (hS : s.Since vm₁ n) (hsz : n ≤ T.heap.size) (hx : p.tables.exec = Jvm.exec) (hlk : meth.locks = false) {pc : Nat} {Ls : Array Slot} {z : Int32} {t : FieldType} {rest : List Value} (hret : meth.sig.returnType = some t) (ht : t = .int ∨ t = .boolean ∨ t = .byte ∨ t = .char ∨ t = .short)
    (hn : narrow t (.int z) = .int z) (hd : decode c.code pc = .ok (.ireturn, 1)) (hQ : Q (some (.int z)) T.heap locs) (hc : cells ≤ ce) (hs : slots ≤ sl) : own_GoW p e below s Q ce sl T (mkF m pc Ls (.int z :: rest)) := by
  obtain ⟨fs, hr, hrun, hended, hE⟩ := X.leaveW hS hsz (v := some (.int z)) (fun h => by rw [hret] at h; cases h) hlk
  exact ⟨_, _, retOut X hx hret hn (Or.inl ⟨rfl, ht, _, rfl⟩) hd hr, hrun, hended, _, _, rfl, hQ, hE.1, hE.2.1, hE.2.2.1, hE.2.2.2.mono hc hs⟩
theorem own_retVW {vm₁ : Vm} {n : Nat} (X : Stand p l e R (s.setVm vm₁) m args below meth c T locs cells slots) (hS : s.Since vm₁ n) (hsz : n ≤ T.heap.size) (hx : p.tables.exec = Jvm.exec) (hlk : meth.locks = false) {pc : Nat} {Ls : Array Slot} (hret : meth.sig.returnType = none)
    (hd : decode c.code pc = .ok (.return_, 1)) (hQ : Q none T.heap locs) (hc : cells ≤ ce) (hs : slots ≤ sl) : own_GoW p e below s Q ce sl T (mkF m pc Ls []) := by
  obtain ⟨fs, hr, hrun, hended, hE⟩ := X.leaveW hS hsz (v := none) (fun _ => rfl) hlk
  exact ⟨_, _, X.returnOut hx hret hd hr, hrun, hended, _, _, rfl, hQ, hE.1, hE.2.1, hE.2.2.1, hE.2.2.2.mono hc hs⟩
theorem own_callIS (X : Stand p l e R s m args below meth c T locs cells slots) (hx : p.tables.exec = Jvm.exec) (hZ : Z.Warmed39 s.vm) {own : String} {index : Nat} {y : MethodName} {bytes : ByteArray} {ml : Nat} {rm : Room} {argsL rest : List Value} {a : Addr}
    (hy1 : y.name = "<init>") (hown : s.vm.findClass own = some m.cls) (w1 : (Jvm.Cond.methodLink own index y).before a0 Z = true) (w2 : (Jvm.Cond.instanceMethod y).before a0 Z = true) (w3 : (Jvm.Cond.initialized y.cls).before a0 Z = true) (w4 : (Jvm.Cond.code y bytes ml none).before a0 Z = true)
    (hy : y.cls ≠ "java/lang/invoke/MethodHandle" ∧ y.cls ≠ "java/lang/invoke/VarHandle") (eT : T.heap = h) (hC : own_CtS l Z y bytes ml none rm (.ref a :: argsL).toArray h QQ) {W : Nat} (hf : rm.frames + 1 ≤ R.frames) (hl : W + (ml + 11) + rm.locals ≤ R.locals) (hc : cells + rm.cells ≤ R.cells) (hs : slots + rm.slots ≤ R.slots)
    {ps : List FieldType} {rr : Option FieldType} (hd0 : parseMethodDescriptor y.desc = some ⟨ps, rr⟩) (hlen : argsL.length = ps.length) {g : JFrame} (hg : g.method = m) (hsize : g.locals.size = c.maxLocals) (hstack : g.stack = argsL.reverse ++ .ref a :: rest) (hW : 2 * g.monitorRoom + (rest.map fun v => v.category).sum ≤ W) (hd : decode c.code g.pc = .ok (.invokespecial index, 3))
    (k : ∀ v T' L, Stand p l e R (s.setVm T'.vm) m args below meth c T' (locs ++ L) (cells + rm.cells) (slots + rm.slots) → s.Since T'.vm T'.heap.size → Z.Warmed39 (s.setVm T'.vm).vm → (s.setVm T'.vm).vm.findClass own = some m.cls → QQ v T'.heap L → own_GoF p e below F Q T' { g with pc := g.pc + 3, stack := v.toList ++ rest }) : own_GoF p e below F Q T g := by
  obtain ⟨v, _, ⟨T', L', c', n'⟩, -, X', hS, -, ⟨Lc, hQ, l1, y1, z1⟩, st⟩ := X.specialBackS hx (y := y) hy1 hown (mvT hZ w1) (mvT hZ w2) (mvT hZ w4) hy (backOfS (W := W) (hC []) hZ w4 w3 hf hl) hg hsize (Steps.refl _) (a := a) (lenOf hd0 hlen) hstack hW hd (fun _ _ => ⟨rfl, eT, hc, hs⟩)
  dsimp only [Pt.U, Pt.locs, Pt.cells, Pt.slots] at X' l1 y1 z1 st hQ hS
  subst l1 y1 z1
  exact own_st (fun _ r => st.trans r) (k _ _ _ X' hS (State.Warmed39.trans (t := s) hZ hS.1) (by show T'.vm.findClass own = _; rw [hS.1.alike.findClass]; exact hown) hQ)
theorem own_since0 (s : State) (n : Nat) : s.Since s.vm n := State.WarmedH.since (State.WarmedH.refl s) n
end OwnWide
theorem own_wS {a0 : Array Value} {Z : State} (hw : ∀ d ∈ tables_1, d.before a0 Z = true) : ∀ a ∈ Bundle.stringAtoms, a.before a0 Z = true := by
  intro a ha
  simp only [Bundle.stringAtoms, List.mem_cons, List.not_mem_nil, or_false] at ha
  rcases ha with rfl | rfl | rfl | rfl | rfl | rfl | rfl
  · exact (hw _ (List.mem_of_getElem? (i := 24) rfl))
  · exact (hw _ (List.mem_of_getElem? (i := 25) rfl))
  · exact (hw _ (List.mem_of_getElem? (i := 26) rfl))
  · exact (hw _ (List.mem_of_getElem? (i := 27) rfl))
  · exact (hw _ (List.mem_of_getElem? (i := 28) rfl))
  · exact (hw _ (List.mem_of_getElem? (i := 29) rfl))
  · exact (hw _ (List.mem_of_getElem? (i := 30) rfl))
def own_minI (x y : Int32) : Int32 := if y < x then y else x
def own_maxI (x y : Int32) : Int32 := if x < y then y else x
def own_minJ (x y : Int64) : Int64 := if y < x then y else x
def own_maxJ (x y : Int64) : Int64 := if x < y then y else x
def own_absJ (x : Int64) : Int64 := if x < 0 then -x else x
theorem ef_10 (m : MethodId) (x0 : Int32) (x1 : Int32) : entryFrame m #[(.int x0), (.int x1)] 2 = mkF m 0 #[.val (.int x0), .val (.int x1)] [] := by first | (simp [entryFrame, mkF, argsToLocals, Value.category]; done) | rfl
set_option maxRecDepth 65536 in
set_option maxHeartbeats 40000000 in
theorem own_rm10 (l : Launch) (Z : State) (a0 : Array Value) (hw : ∀ d ∈ tables_1, d.before a0 Z = true) (y0 : Int32) (y1 : Int32)  (h0 : Heap) (n0 : Nat) (Z0 : n0 ≤ h0.size) :
    own_Ct l Z (⟨"java/lang/Math", "min", "(II)I"⟩ : MethodName) jdk_29_method_69_code 2 (some .int) ({ frames := 0, cells := 0, slots := 0, locals := 0 } : Room) #[(.int y0), (.int y1)] h0 (fun v h L => v = some (.int (own_minI y0 y1)) ∧ Fr n0 L ∧ h = h0) := by
  refine own_enter (Jvm.Free.JP.mathPlain rfl (by decide +kernel)) ?_
  intro p e s m below meth c s₁ X0 C e0
  obtain ⟨hx, hZ, hby, hml, hown, hnm, hret, hlk⟩ := C
  replace hown : s.vm.findClass "java/lang/Math" = some m.cls := hown
  replace hml : c.maxLocals = 2 := hml
  replace hret : meth.sig.returnType = (some .int) := hret
  have N0 := Fr.nil n0
  refine own_cast (ef_10 m y0 y1) ?_
  refine own_st (T' := s₁) (g' := (mkF m 2 #[.val (.int y0), .val (.int y1)] [(.int y1), (.int y0)])) (fun tq kq => XS.iloadN (g := (mkF m 0 #[.val (.int y0), .val (.int y1)] [])) X0.here hx rfl (hb hby d10_0) rfl (XS.iloadN (g := (mkF m 1 #[.val (.int y0), .val (.int y1)] [(.int y0)])) X0.here hx rfl (hb hby d10_1) rfl kq)) ?_
  by_cases hc2_1 : y1 < y0
  · refine own_st (T' := s₁) (g' := (mkF m 10 #[.val (.int y0), .val (.int y1)] [(.int y1)])) (fun tq kq => XS.icmpYes (g := (mkF m 2 #[.val (.int y0), .val (.int y1)] [(.int y1), (.int y0)])) X0.here hx rfl (pc0 := 2) (pc' := 9) rfl (hb hby d10_2) rfl (tlt hc2_1).2.2.1 (by decide) (by decide) (XS.iloadN (g := (mkF m 9 #[.val (.int y0), .val (.int y1)] [])) X0.here hx rfl (hb hby d10_9) rfl kq)) ?_
    refine own_retI X0 hx hlk hret (by simp) rfl (hb hby d10_10) ?_ (by decide) (by decide)
    refine ⟨?_, N0, e0⟩
    simp [own_minI, *]
  · refine own_st (T' := s₁) (g' := (mkF m 10 #[.val (.int y0), .val (.int y1)] [(.int y0)])) (fun tq kq => XS.icmpNo (g := (mkF m 2 #[.val (.int y0), .val (.int y1)] [(.int y1), (.int y0)])) X0.here hx rfl (hb hby d10_2) rfl (flt hc2_1).2.2.1 (XS.iloadN (g := (mkF m 5 #[.val (.int y0), .val (.int y1)] [])) X0.here hx rfl (hb hby d10_5) rfl (XS.goto (g := (mkF m 6 #[.val (.int y0), .val (.int y1)] [(.int y0)])) X0.here hx rfl (pc0 := 6) (pc' := 10) rfl (hb hby d10_6) (by decide) (by decide) kq))) ?_
    refine own_retI X0 hx hlk hret (by simp) rfl (hb hby d10_10) ?_ (by decide) (by decide)
    refine ⟨?_, N0, e0⟩
    simp [own_minI, *]
theorem ef_11 (m : MethodId) (x0 : Int32) (x1 : Int32) : entryFrame m #[(.int x0), (.int x1)] 2 = mkF m 0 #[.val (.int x0), .val (.int x1)] [] := by first | (simp [entryFrame, mkF, argsToLocals, Value.category]; done) | rfl
set_option maxRecDepth 65536 in
set_option maxHeartbeats 40000000 in
theorem own_rm11 (l : Launch) (Z : State) (a0 : Array Value) (hw : ∀ d ∈ tables_1, d.before a0 Z = true) (y0 : Int32) (y1 : Int32)  (h0 : Heap) (n0 : Nat) (Z0 : n0 ≤ h0.size) :
    own_Ct l Z (⟨"java/lang/Math", "max", "(II)I"⟩ : MethodName) jdk_29_method_65_code 2 (some .int) ({ frames := 0, cells := 0, slots := 0, locals := 0 } : Room) #[(.int y0), (.int y1)] h0 (fun v h L => v = some (.int (own_maxI y0 y1)) ∧ Fr n0 L ∧ h = h0) := by
  refine own_enter (Jvm.Free.JP.mathPlain rfl (by decide +kernel)) ?_
  intro p e s m below meth c s₁ X0 C e0
  obtain ⟨hx, hZ, hby, hml, hown, hnm, hret, hlk⟩ := C
  replace hown : s.vm.findClass "java/lang/Math" = some m.cls := hown
  replace hml : c.maxLocals = 2 := hml
  replace hret : meth.sig.returnType = (some .int) := hret
  have N0 := Fr.nil n0
  refine own_cast (ef_11 m y0 y1) ?_
  refine own_st (T' := s₁) (g' := (mkF m 2 #[.val (.int y0), .val (.int y1)] [(.int y1), (.int y0)])) (fun tq kq => XS.iloadN (g := (mkF m 0 #[.val (.int y0), .val (.int y1)] [])) X0.here hx rfl (hb hby d11_0) rfl (XS.iloadN (g := (mkF m 1 #[.val (.int y0), .val (.int y1)] [(.int y0)])) X0.here hx rfl (hb hby d11_1) rfl kq)) ?_
  by_cases hc2_2 : y0 < y1
  · refine own_st (T' := s₁) (g' := (mkF m 10 #[.val (.int y0), .val (.int y1)] [(.int y1)])) (fun tq kq => XS.icmpYes (g := (mkF m 2 #[.val (.int y0), .val (.int y1)] [(.int y1), (.int y0)])) X0.here hx rfl (pc0 := 2) (pc' := 9) rfl (hb hby d11_2) rfl (tlt hc2_2).1 (by decide) (by decide) (XS.iloadN (g := (mkF m 9 #[.val (.int y0), .val (.int y1)] [])) X0.here hx rfl (hb hby d11_9) rfl kq)) ?_
    refine own_retI X0 hx hlk hret (by simp) rfl (hb hby d11_10) ?_ (by decide) (by decide)
    refine ⟨?_, N0, e0⟩
    simp [own_maxI, *]
  · refine own_st (T' := s₁) (g' := (mkF m 10 #[.val (.int y0), .val (.int y1)] [(.int y0)])) (fun tq kq => XS.icmpNo (g := (mkF m 2 #[.val (.int y0), .val (.int y1)] [(.int y1), (.int y0)])) X0.here hx rfl (hb hby d11_2) rfl (flt hc2_2).1 (XS.iloadN (g := (mkF m 5 #[.val (.int y0), .val (.int y1)] [])) X0.here hx rfl (hb hby d11_5) rfl (XS.goto (g := (mkF m 6 #[.val (.int y0), .val (.int y1)] [(.int y0)])) X0.here hx rfl (pc0 := 6) (pc' := 10) rfl (hb hby d11_6) (by decide) (by decide) kq))) ?_
    refine own_retI X0 hx hlk hret (by simp) rfl (hb hby d11_10) ?_ (by decide) (by decide)
    refine ⟨?_, N0, e0⟩
    simp [own_maxI, *]
theorem own_fldeq {args : Array Value} {s : State} {t : Term} {C n d : String} {z : Int32} {a : Addr} (ht : t.eval args s none [] s = some (.ref a)) (h : (Jvm.Cond.eq (.field t C n d) (.int z)).value args s none s [] = some true) : s.fieldOf? a C n d = some (.int z) := by
  obtain ⟨x, y, h1, h2, -, -⟩ := cmp_v (Or.inl h)
  have h3 : y = .int z := by have := h2; simp only [Term.eval] at this; exact (Option.some.inj this).symm
  subst h3
  have h4 := h1
  rw [fld_at ht] at h4
  rw [h4]
  cases x <;> simp [Cond.value, h1, h2] at h ⊢
  exact h
def own_ct (lo hi : Int32) (c : Int64) : Int32 := if c < lo.toInt64 then 0 else if hi.toInt64 < c then 0 else 1
def own_ov (f m y : Int32) : Int32 := if y < f then 0 else if m < y then 0 else 1
def own_ir (y f m : Int32) : Int32 := if own_maxI f (own_minI y m) = y then 1 else 0
theorem own_ct1 {y : Int32} (h1 : 1 ≤ y.toInt) (h2 : y.toInt ≤ 100) : ¬ (own_ct 1 100 y.toInt64 = 0) := by
  unfold own_ct
  have e1 : (1 : Int32).toInt = 1 := rfl
  have e2 : (100 : Int32).toInt = 100 := rfl
  simp only [Int64.lt_iff_toInt_lt, Jvm.Kit.i64_of_i32, e1, e2]
  rw [if_neg (by omega), if_neg (by omega)]; decide
theorem own_f (x : Int32) : 1 ≤ ((1 : Int32) + (x &&& 2147483647) % 100).toInt ∧ ((1 : Int32) + (x &&& 2147483647) % 100).toInt ≤ 100 := by
  have hm : (x &&& 2147483647).toInt = x.toInt % 2 ^ 31 := Jvm.Kit.i32_mask x 2147483647 (by decide) (by decide)
  have hr : ((x &&& 2147483647) % 100).toInt = (x &&& 2147483647).toInt % 100 := Jvm.Kit.i32_rem_nonneg (by rw [hm]; omega)
  have e1 : (1 : Int32).toInt = 1 := rfl
  rw [Jvm.Kit.i32_add (by rw [e1, hr]; omega) (by rw [e1, hr]; omega), e1, hr]
  omega
theorem own_101 {f : Int32} (h : 1 ≤ f.toInt ∧ f.toInt ≤ 100) : ((101 : Int32) - f).toInt = 101 - f.toInt := by
  have e1 : (101 : Int32).toInt = 101 := rfl
  rw [Jvm.Kit.i32_sub (by rw [e1]; omega) (by rw [e1]; omega), e1]
theorem own_101n {f : Int32} (h : 1 ≤ f.toInt ∧ f.toInt ≤ 100) : (101 : Int32) - f ≠ 0 := by
  rw [Ne, ← Int32.toInt_inj, own_101 h]; have e0 : (0 : Int32).toInt = 0 := rfl; omega
theorem own_m {f x : Int32} (h : 1 ≤ f.toInt ∧ f.toInt ≤ 100) : f.toInt ≤ (f + (x &&& 2147483647) % ((101 : Int32) - f)).toInt ∧ (f + (x &&& 2147483647) % ((101 : Int32) - f)).toInt ≤ 100 := by
  have hm : (x &&& 2147483647).toInt = x.toInt % 2 ^ 31 := Jvm.Kit.i32_mask x 2147483647 (by decide) (by decide)
  have hr : ((x &&& 2147483647) % ((101 : Int32) - f)).toInt = (x &&& 2147483647).toInt % ((101 : Int32) - f).toInt := Jvm.Kit.i32_rem_nonneg (by rw [hm]; omega)
  rw [own_101 h] at hr
  have b1 := Int.emod_nonneg (x &&& 2147483647).toInt (b := 101 - f.toInt) (by omega)
  have b2 := Int.emod_lt_of_pos (x &&& 2147483647).toInt (b := 101 - f.toInt) (by omega)
  rw [Jvm.Kit.i32_add (by rw [hr]; omega) (by rw [hr]; omega), hr]
  omega
section
variable {f m : Int32}
theorem own_o1 (hf : 1 ≤ f.toInt ∧ f.toInt ≤ 100) (hm : f.toInt ≤ m.toInt ∧ m.toInt ≤ 100) : own_ov f m f = 1 := by
  unfold own_ov; simp only [Int32.lt_iff_toInt_lt]; rw [if_neg (by omega), if_neg (by omega)]
theorem own_o2 (hf : 1 ≤ f.toInt ∧ f.toInt ≤ 100) (hm : f.toInt ≤ m.toInt ∧ m.toInt ≤ 100) : own_ov f m m = 1 := by
  unfold own_ov; simp only [Int32.lt_iff_toInt_lt]; rw [if_neg (by omega), if_neg (by omega)]
theorem own_o3 (hf : 1 ≤ f.toInt ∧ f.toInt ≤ 100) (hm : f.toInt ≤ m.toInt ∧ m.toInt ≤ 100) : own_ov f m (f - 1) = 0 := by
  have e1 : (1 : Int32).toInt = 1 := rfl
  have e : (f - 1).toInt = f.toInt - 1 := by rw [Jvm.Kit.i32_sub (by rw [e1]; omega) (by rw [e1]; omega), e1]
  unfold own_ov; simp only [Int32.lt_iff_toInt_lt, e]; rw [if_pos (by omega)]
theorem own_o4 (hf : 1 ≤ f.toInt ∧ f.toInt ≤ 100) (hm : f.toInt ≤ m.toInt ∧ m.toInt ≤ 100) : own_ov f m (m + 1) = 0 := by
  have e1 : (1 : Int32).toInt = 1 := rfl
  have e : (m + 1).toInt = m.toInt + 1 := by rw [Jvm.Kit.i32_add (by rw [e1]; omega) (by rw [e1]; omega), e1]
  unfold own_ov; simp only [Int32.lt_iff_toInt_lt, e]; rw [if_neg (by omega), if_pos (by omega)]
theorem own_o5 (hf : 1 ≤ f.toInt ∧ f.toInt ≤ 100) (hm : f.toInt ≤ m.toInt ∧ m.toInt ≤ 100) (y : Int32) : own_ov f m y = own_ir y f m := by
  unfold own_ov own_ir own_maxI own_minI
  simp only [Int32.lt_iff_toInt_lt, ← Int32.toInt_inj]
  by_cases a : y.toInt < f.toInt <;> by_cases b : m.toInt < y.toInt <;> simp only [a, b, if_true, if_false] <;> split <;> split <;> first | rfl | (exfalso; omega) | skip
  all_goals (split <;> first | rfl | (exfalso; omega))
end
theorem pn_3 : plainName "java/lang/Record" = true := by first | (simp [plainName, overriddenIn]; done) | decide +kernel
theorem ef_3 (m : MethodId) (x0 : Addr) : entryFrame m #[(.ref x0)] 1 = mkF m 0 #[.val (.ref x0)] [] := by first | (simp [entryFrame, mkF, argsToLocals, Value.category]; done) | rfl
set_option maxRecDepth 65536 in
set_option maxHeartbeats 40000000 in
theorem own_rm3 (l : Launch) (Z : State) (a0 : Array Value) (hw : ∀ d ∈ tables_1, d.before a0 Z = true) (a : Addr)  (h0 : Heap) (n0 : Nat) (Z0 : n0 ≤ h0.size) :
    own_Ct l Z (⟨"java/lang/Record", "<init>", "()V"⟩ : MethodName) jdk_30_method_1_code 1 none ({ frames := 1, cells := 0, slots := 0, locals := 12 } : Room) #[(.ref a)] h0 (fun v h L => v = none ∧ Fr n0 L ∧ h = h0) := by
  refine own_enter (plainFor_of_name pn_3) ?_
  intro p e s m below meth c s₁ X0 C e0
  obtain ⟨hx, hZ, hby, hml, hown, hnm, hret, hlk⟩ := C
  replace hown : s.vm.findClass "java/lang/Record" = some m.cls := hown
  replace hml : c.maxLocals = 1 := hml
  replace hret : meth.sig.returnType = none := hret
  have N0 := Fr.nil n0
  refine own_cast (ef_3 m a) ?_
  refine own_st (T' := s₁) (g' := (mkF m 1 #[.val (.ref a)] [(.ref a)])) (fun tq kq => XS.aloadN (g := (mkF m 0 #[.val (.ref a)] [])) X0.here hx rfl (hb hby d3_0) rfl rfl kq) ?_
  obtain ⟨T3, X3, e3, st3⟩ := initO X0 hx hZ hown (hw _ (List.mem_of_getElem? (i := 20) rfl)) (hw _ (List.mem_of_getElem? (i := 21) rfl)) (hw _ (List.mem_of_getElem? (i := 22) rfl)) e0 (g := (mkF m 1 #[.val (.ref a)] [(.ref a)])) rfl (by rw [hml]; rfl) rfl (hb hby d3_1) (by decide) (W := 0) (by show 2 * 0 + _ ≤ _; exact Nat.le_of_eq rfl) (by decide)
  refine own_st (g' := (mkF m 4 #[.val (.ref a)] [])) st3 ?_
  refine own_retV X3 hx hlk hret (hb hby d3_4) ?_ (by decide) (by decide)
  refine ⟨?_, N0, e3⟩
  rfl
theorem pn_5 : plainName "java/util/Objects" = true := by first | (simp [plainName, overriddenIn]; done) | decide +kernel
theorem ef_5 (m : MethodId) (x0 : Addr) (x1 : Addr) : entryFrame m #[(.ref x0), (.ref x1)] 2 = mkF m 0 #[.val (.ref x0), .val (.ref x1)] [] := by first | (simp [entryFrame, mkF, argsToLocals, Value.category]; done) | rfl
set_option maxRecDepth 65536 in
set_option maxHeartbeats 40000000 in
theorem own_rm5 (l : Launch) (Z : State) (a0 : Array Value) (hw : ∀ d ∈ tables_1, d.before a0 Z = true) (a : Addr) (b : Addr)  (h0 : Heap) (n0 : Nat) (Z0 : n0 ≤ h0.size) :
    own_Ct l Z (⟨"java/util/Objects", "requireNonNull", "(Ljava/lang/Object;Ljava/lang/String;)Ljava/lang/Object;"⟩ : MethodName) jdk_31_method_11_code 2 (some (.object "java/lang/Object")) ({ frames := 0, cells := 0, slots := 0, locals := 0 } : Room) #[(.ref a), (.ref b)] h0 (fun v h L => v = some (.ref a) ∧ Fr n0 L ∧ h = h0) := by
  refine own_enter (plainFor_of_name pn_5) ?_
  intro p e s m below meth c s₁ X0 C e0
  obtain ⟨hx, hZ, hby, hml, hown, hnm, hret, hlk⟩ := C
  replace hown : s.vm.findClass "java/util/Objects" = some m.cls := hown
  replace hml : c.maxLocals = 2 := hml
  replace hret : meth.sig.returnType = (some (.object "java/lang/Object")) := hret
  have N0 := Fr.nil n0
  refine own_cast (ef_5 m a b) ?_
  refine own_st (T' := s₁) (g' := (mkF m 14 #[.val (.ref a), .val (.ref b)] [(.ref a)])) (fun tq kq => XS.aloadN (g := (mkF m 0 #[.val (.ref a), .val (.ref b)] [])) X0.here hx rfl (hb hby d5_0) rfl rfl (XS.ifnonnullYes (g := (mkF m 1 #[.val (.ref a), .val (.ref b)] [(.ref a)])) X0.here hx rfl (pc0 := 1) (pc' := 13) rfl (hb hby d5_1) rfl (by decide) (by decide) (XS.aloadN (g := (mkF m 13 #[.val (.ref a), .val (.ref b)] [])) X0.here hx rfl (hb hby d5_13) rfl rfl kq))) ?_
  refine own_retR X0 hx hlk hret rfl rfl rfl (hb hby d5_14) ?_ (by decide) (by decide)
  refine ⟨?_, N0, e0⟩
  rfl
theorem pn_6 : plainName "com/example/planscribe/planscribe/model/CountRange" = true := by first | (simp [plainName, overriddenIn]; done) | decide +kernel
theorem ef_6 (m : MethodId) (x0 : Addr) (x1 : Int64) : entryFrame m #[(.ref x0), (.long x1)] 3 = mkF m 0 #[.val (.ref x0), .val (.long x1), .second] [] := by first | (simp [entryFrame, mkF, argsToLocals, Value.category]; done) | rfl
set_option maxRecDepth 65536 in
set_option maxHeartbeats 40000000 in
theorem own_rm6 (l : Launch) (Z : State) (a0 : Array Value) (hw : ∀ d ∈ tables_1, d.before a0 Z = true) (a : Addr) (y0 : Int64) (k1 k2 : Int32) (h0 : Heap) (n0 : Nat) (Z0 : n0 ≤ h0.size) (F1 : Fld Z h0 a "com/example/planscribe/planscribe/model/CountRange" "least" "I" (.int k1)) (F2 : Fld Z h0 a "com/example/planscribe/planscribe/model/CountRange" "most" "I" (.int k2)) :
    own_Ct l Z (⟨"com/example/planscribe/planscribe/model/CountRange", "contains", "(J)Z"⟩ : MethodName) prog_108_method_2_code 3 (some .boolean) ({ frames := 0, cells := 0, slots := 0, locals := 0 } : Room) #[(.ref a), (.long y0)] h0 (fun v h L => v = some (.int (own_ct k1 k2 y0)) ∧ Fr n0 L ∧ h = h0) := by
  refine own_enter (plainFor_of_name pn_6) ?_
  intro p e s m below meth c s₁ X0 C e0
  obtain ⟨hx, hZ, hby, hml, hown, hnm, hret, hlk⟩ := C
  replace hown : s.vm.findClass "com/example/planscribe/planscribe/model/CountRange" = some m.cls := hown
  replace hml : c.maxLocals = 3 := hml
  replace hret : meth.sig.returnType = (some .boolean) := hret
  have N0 := Fr.nil n0
  refine own_cast (ef_6 m a y0) ?_
  refine own_st (T' := s₁) (g' := (mkF m 1 #[.val (.ref a), .val (.long y0), .second] [(.ref a)])) (fun tq kq => XS.aloadN (g := (mkF m 0 #[.val (.ref a), .val (.long y0), .second] [])) X0.here hx rfl (hb hby d6_0) rfl rfl kq) ?_
  obtain ⟨T4, X4, e4, st4⟩ := getF X0 hx hZ hown (host := "") (Or.inl (hw _ (List.mem_of_getElem? (i := 45) rfl))) Via.refl e0 F1 (g := (mkF m 1 #[.val (.ref a), .val (.long y0), .second] [(.ref a)])) rfl rfl (hb hby d6_1)
  refine own_st (g' := (mkF m 4 #[.val (.ref a), .val (.long y0), .second] [(.int k1)])) st4 ?_
  refine own_st (T' := T4) (g' := (mkF m 7 #[.val (.ref a), .val (.long y0), .second] [(.int (lcmpW (k1.toInt64) y0))])) (fun tq kq => XS.i2l (g := (mkF m 4 #[.val (.ref a), .val (.long y0), .second] [(.int k1)])) X4.here hx rfl (hb hby d6_4) rfl (XS.lloadN (g := (mkF m 5 #[.val (.ref a), .val (.long y0), .second] [(.long (k1.toInt64))])) X4.here hx rfl (hb hby d6_5) rfl (XS.lcmp (g := (mkF m 6 #[.val (.ref a), .val (.long y0), .second] [(.long y0), (.long (k1.toInt64))])) X4.here hx rfl (hb hby d6_6) rfl kq))) ?_
  by_cases hc7_5 : y0 < (k1.toInt64)
  · refine own_st (T' := T4) (g' := (mkF m 25 #[.val (.ref a), .val (.long y0), .second] [(.int (0 : Int32))])) (fun tq kq => XS.ifYes (g := (mkF m 7 #[.val (.ref a), .val (.long y0), .second] [(.int (lcmpW (k1.toInt64) y0))])) X4.here hx rfl (pc0 := 7) (pc' := 24) rfl (hb hby d6_7) rfl ((if0 _ _).trans (tlt ((lw_gt _ _).mpr hc7_5)).2.2.1) (by decide) (by decide) (XS.iconst (g := (mkF m 24 #[.val (.ref a), .val (.long y0), .second] [])) X4.here hx rfl (hb hby d6_24) kq)) ?_
    refine own_retI X4 hx hlk hret (by simp) rfl (hb hby d6_25) ?_ (by decide) (by decide)
    refine ⟨?_, N0, e4⟩
    simp [own_ct, *]
  · refine own_st (T' := T4) (g' := (mkF m 12 #[.val (.ref a), .val (.long y0), .second] [(.ref a), (.long y0)])) (fun tq kq => XS.ifNo (g := (mkF m 7 #[.val (.ref a), .val (.long y0), .second] [(.int (lcmpW (k1.toInt64) y0))])) X4.here hx rfl (hb hby d6_7) rfl ((if0 _ _).trans (flt (mt (lw_gt _ _).mp hc7_5)).2.2.1) (XS.lloadN (g := (mkF m 10 #[.val (.ref a), .val (.long y0), .second] [])) X4.here hx rfl (hb hby d6_10) rfl (XS.aloadN (g := (mkF m 11 #[.val (.ref a), .val (.long y0), .second] [(.long y0)])) X4.here hx rfl (hb hby d6_11) rfl rfl kq))) ?_
    obtain ⟨T6, X6, e6, st6⟩ := getF X4 hx hZ hown (host := "") (Or.inl (hw _ (List.mem_of_getElem? (i := 47) rfl))) Via.refl e4 F2 (g := (mkF m 12 #[.val (.ref a), .val (.long y0), .second] [(.ref a), (.long y0)])) rfl rfl (hb hby d6_12)
    refine own_st (g' := (mkF m 15 #[.val (.ref a), .val (.long y0), .second] [(.int k2), (.long y0)])) st6 ?_
    refine own_st (T' := T6) (g' := (mkF m 17 #[.val (.ref a), .val (.long y0), .second] [(.int (lcmpW y0 (k2.toInt64)))])) (fun tq kq => XS.i2l (g := (mkF m 15 #[.val (.ref a), .val (.long y0), .second] [(.int k2), (.long y0)])) X6.here hx rfl (hb hby d6_15) rfl (XS.lcmp (g := (mkF m 16 #[.val (.ref a), .val (.long y0), .second] [(.long (k2.toInt64)), (.long y0)])) X6.here hx rfl (hb hby d6_16) rfl kq)) ?_
    by_cases hc17_7 : (k2.toInt64) < y0
    · refine own_st (T' := T6) (g' := (mkF m 25 #[.val (.ref a), .val (.long y0), .second] [(.int (0 : Int32))])) (fun tq kq => XS.ifYes (g := (mkF m 17 #[.val (.ref a), .val (.long y0), .second] [(.int (lcmpW y0 (k2.toInt64)))])) X6.here hx rfl (pc0 := 17) (pc' := 24) rfl (hb hby d6_17) rfl ((if0 _ _).trans (tlt ((lw_gt _ _).mpr hc17_7)).2.2.1) (by decide) (by decide) (XS.iconst (g := (mkF m 24 #[.val (.ref a), .val (.long y0), .second] [])) X6.here hx rfl (hb hby d6_24) kq)) ?_
      refine own_retI X6 hx hlk hret (by simp) rfl (hb hby d6_25) ?_ (by decide) (by decide)
      refine ⟨?_, N0, e6⟩
      simp [own_ct, *]
    · refine own_st (T' := T6) (g' := (mkF m 25 #[.val (.ref a), .val (.long y0), .second] [(.int (1 : Int32))])) (fun tq kq => XS.ifNo (g := (mkF m 17 #[.val (.ref a), .val (.long y0), .second] [(.int (lcmpW y0 (k2.toInt64)))])) X6.here hx rfl (hb hby d6_17) rfl ((if0 _ _).trans (flt (mt (lw_gt _ _).mp hc17_7)).2.2.1) (XS.iconst (g := (mkF m 20 #[.val (.ref a), .val (.long y0), .second] [])) X6.here hx rfl (hb hby d6_20) (XS.goto (g := (mkF m 21 #[.val (.ref a), .val (.long y0), .second] [(.int (1 : Int32))])) X6.here hx rfl (pc0 := 21) (pc' := 25) rfl (hb hby d6_21) (by decide) (by decide) kq))) ?_
      refine own_retI X6 hx hlk hret (by simp) rfl (hb hby d6_25) ?_ (by decide) (by decide)
      refine ⟨?_, N0, e6⟩
      simp [own_ct, *]
theorem pn_7 : plainName "java/util/Optional" = true := by first | (simp [plainName, overriddenIn]; done) | decide +kernel
theorem ef_7 (m : MethodId) (x0 : Addr) : entryFrame m #[(.ref x0)] 1 = mkF m 0 #[.val (.ref x0)] [] := by first | (simp [entryFrame, mkF, argsToLocals, Value.category]; done) | rfl
set_option maxRecDepth 65536 in
set_option maxHeartbeats 40000000 in
theorem own_rm7 (l : Launch) (Z : State) (a0 : Array Value) (hw : ∀ d ∈ tables_1, d.before a0 Z = true) (a : Addr)  (h0 : Heap) (n0 : Nat) (Z0 : n0 ≤ h0.size) (F1 : Fld Z h0 a "java/util/Optional" "value" "Ljava/lang/Object;" .null) :
    own_Ct l Z (⟨"java/util/Optional", "isPresent", "()Z"⟩ : MethodName) jdk_32_method_6_code 1 (some .boolean) ({ frames := 0, cells := 0, slots := 0, locals := 0 } : Room) #[(.ref a)] h0 (fun v h L => v = some (.int (0 : Int32)) ∧ Fr n0 L ∧ h = h0) := by
  refine own_enter (plainFor_of_name pn_7) ?_
  intro p e s m below meth c s₁ X0 C e0
  obtain ⟨hx, hZ, hby, hml, hown, hnm, hret, hlk⟩ := C
  replace hown : s.vm.findClass "java/util/Optional" = some m.cls := hown
  replace hml : c.maxLocals = 1 := hml
  replace hret : meth.sig.returnType = (some .boolean) := hret
  have N0 := Fr.nil n0
  refine own_cast (ef_7 m a) ?_
  refine own_st (T' := s₁) (g' := (mkF m 1 #[.val (.ref a)] [(.ref a)])) (fun tq kq => XS.aloadN (g := (mkF m 0 #[.val (.ref a)] [])) X0.here hx rfl (hb hby d7_0) rfl rfl kq) ?_
  obtain ⟨T8, X8, e8, st8⟩ := getF X0 hx hZ hown (host := "") (Or.inl (hw _ (List.mem_of_getElem? (i := 54) rfl))) Via.refl e0 F1 (g := (mkF m 1 #[.val (.ref a)] [(.ref a)])) rfl rfl (hb hby d7_1)
  refine own_st (g' := (mkF m 4 #[.val (.ref a)] [.null])) st8 ?_
  refine own_st (T' := T8) (g' := (mkF m 12 #[.val (.ref a)] [(.int (0 : Int32))])) (fun tq kq => XS.ifnullYes (g := (mkF m 4 #[.val (.ref a)] [.null])) X8.here hx rfl (pc0 := 4) (pc' := 11) rfl (hb hby d7_4) rfl (by decide) (by decide) (XS.iconst (g := (mkF m 11 #[.val (.ref a)] [])) X8.here hx rfl (hb hby d7_11) kq)) ?_
  refine own_retI X8 hx hlk hret (by simp) rfl (hb hby d7_12) ?_ (by decide) (by decide)
  refine ⟨?_, N0, e8⟩
  rfl
theorem pn_1 : plainName "java/util/Optional" = true := by first | (simp [plainName, overriddenIn]; done) | decide +kernel
theorem ef_1 (m : MethodId)  : entryFrame m #[] 1 = mkF m 0 #[.unset] [] := by first | (simp [entryFrame, mkF, argsToLocals, Value.category]; done) | rfl
set_option maxRecDepth 65536 in
set_option maxHeartbeats 40000000 in
theorem own_rm1 (l : Launch) (Z : State) (a0 : Array Value) (hw : ∀ d ∈ tables_1, d.before a0 Z = true)  (oe : Addr) (h0 : Heap) (n0 : Nat) (Z0 : n0 ≤ h0.size) (S1 : Sta Z h0 "java/util/Optional" "EMPTY" "Ljava/util/Optional;" (.ref oe)) :
    own_Ct l Z (⟨"java/util/Optional", "empty", "()Ljava/util/Optional;"⟩ : MethodName) jdk_32_method_1_code 1 (some (.object "java/util/Optional")) ({ frames := 0, cells := 0, slots := 0, locals := 0 } : Room) #[] h0 (fun v h L => v = some (.ref oe) ∧ Fr n0 L ∧ h = h0) := by
  refine own_enter (plainFor_of_name pn_1) ?_
  intro p e s m below meth c s₁ X0 C e0
  obtain ⟨hx, hZ, hby, hml, hown, hnm, hret, hlk⟩ := C
  replace hown : s.vm.findClass "java/util/Optional" = some m.cls := hown
  replace hml : c.maxLocals = 1 := hml
  replace hret : meth.sig.returnType = (some (.object "java/util/Optional")) := hret
  have N0 := Fr.nil n0
  refine own_cast (ef_1 m ) ?_
  obtain ⟨T9, X9, e9, st9⟩ := getS2 X0 hx hZ hown (host := "") (Or.inl (hw _ (List.mem_of_getElem? (i := 11) rfl))) Via.refl e0 S1 (g := (mkF m 0 #[.unset] [])) rfl (hb hby d1_0)
  refine own_st (g' := (mkF m 3 #[.unset] [(.ref oe)])) st9 ?_
  refine own_st (T' := T9) (g' := (mkF m 5 #[.val (.ref oe)] [(.ref oe)])) (fun tq kq => XS.astoreN (g := (mkF m 3 #[.unset] [(.ref oe)])) X9.here hx rfl (hb hby d1_3) rfl rfl (l' := #[.val (.ref oe)]) rfl (XS.aloadN (g := (mkF m 4 #[.val (.ref oe)] [])) X9.here hx rfl (hb hby d1_4) rfl rfl kq)) ?_
  refine own_retR X9 hx hlk hret rfl rfl rfl (hb hby d1_5) ?_ (by decide) (by decide)
  refine ⟨?_, N0, e9⟩
  rfl
theorem pn_2 : plainName "com/example/planscribe/planscribe/model/Distribution$Installments" = true := by first | (simp [plainName, overriddenIn]; done) | decide +kernel
theorem ef_2 (m : MethodId) (x0 : Addr) (x1 : Int32) (x2 : Int32) (x3 : Addr) (x4 : Addr) : entryFrame m #[(.ref x0), (.int x1), (.int x2), (.ref x3), (.ref x4)] 5 = mkF m 0 #[.val (.ref x0), .val (.int x1), .val (.int x2), .val (.ref x3), .val (.ref x4)] [] := by first | (simp [entryFrame, mkF, argsToLocals, Value.category]; done) | rfl
set_option maxRecDepth 65536 in
set_option maxHeartbeats 40000000 in
theorem own_rm2 (l : Launch) (Z : State) (a0 : Array Value) (hw : ∀ d ∈ tables_1, d.before a0 Z = true) (a : Addr) (y1 : Int32) (y2 : Int32) (dv : Addr) (oe : Addr) (yr : Addr) (h0 : Heap) (n0 : Nat) (Z0 : n0 ≤ h0.size) (ga : n0 ≤ a) (E_a : Exa Z h0 a "com/example/planscribe/planscribe/model/Distribution$Installments") (F_fewestYears : Fld Z h0 a "com/example/planscribe/planscribe/model/Distribution$Installments" "fewestYears" "I" (.int (0 : Int32))) (F_mostYears : Fld Z h0 a "com/example/planscribe/planscribe/model/Distribution$Installments" "mostYears" "I" (.int (0 : Int32))) (F_divisor : Fld Z h0 a "com/example/planscribe/planscribe/model/Distribution$Installments" "divisor" "Lcom/example/planscribe/planscribe/model/Distribution$Divisor;" .null) (F_minimumAYear : Fld Z h0 a "com/example/planscribe/planscribe/model/Distribution$Installments" "minimumAYear" "Ljava/util/Optional;" .null) (Sy : Sta Z h0 "com/example/planscribe/planscribe/model/PaymentForm" "YEARS" "Lcom/example/planscribe/planscribe/model/CountRange;" (.ref yr)) (Ey : Exa Z h0 yr "com/example/planscribe/planscribe/model/CountRange") (Fl : Fld Z h0 yr "com/example/planscribe/planscribe/model/CountRange" "least" "I" (.int (1 : Int32))) (Fm : Fld Z h0 yr "com/example/planscribe/planscribe/model/CountRange" "most" "I" (.int (100 : Int32))) (Eo : Exa Z h0 oe "java/util/Optional") (Fo : Fld Z h0 oe "java/util/Optional" "value" "Ljava/lang/Object;" .null) (hf : 1 ≤ y1.toInt ∧ y1.toInt ≤ 100) (hm : y1.toInt ≤ y2.toInt ∧ y2.toInt ≤ 100) :
    own_CtS l Z (⟨"com/example/planscribe/planscribe/model/Distribution$Installments", "<init>", "(IILcom/example/planscribe/planscribe/model/Distribution$Divisor;Ljava/util/Optional;)V"⟩ : MethodName) prog_114_method_1_code 5 none ({ frames := 2, cells := 4, slots := 84, locals := 24 } : Room) #[(.ref a), (.int y1), (.int y2), (.ref dv), (.ref oe)] h0 (fun v h L => v = none ∧ Fr n0 L ∧ Keep h0 h [a] ∧ Exa Z h a "com/example/planscribe/planscribe/model/Distribution$Installments" ∧ Fld Z h a "com/example/planscribe/planscribe/model/Distribution$Installments" "fewestYears" "I" (.int y1) ∧ Fld Z h a "com/example/planscribe/planscribe/model/Distribution$Installments" "mostYears" "I" (.int y2) ∧ Fld Z h a "com/example/planscribe/planscribe/model/Distribution$Installments" "divisor" "Lcom/example/planscribe/planscribe/model/Distribution$Divisor;" (.ref dv) ∧ Fld Z h a "com/example/planscribe/planscribe/model/Distribution$Installments" "minimumAYear" "Ljava/util/Optional;" (.ref oe)) := by
  refine own_enterS (plainFor_of_name pn_2) ?_
  intro p e s m below meth c s₁ X0 C e0
  obtain ⟨hx, hZ, hby, hml, hown, hnm, hret, hlk⟩ := C
  replace hown : s.vm.findClass "com/example/planscribe/planscribe/model/Distribution$Installments" = some m.cls := hown
  replace hml : c.maxLocals = 5 := hml
  replace hret : meth.sig.returnType = none := hret
  have N0 := Fr.nil n0
  refine own_cast (ef_2 m a y1 y2 dv oe) ?_
  refine own_st (T' := s₁) (g' := (mkF m 1 #[.val (.ref a), .val (.int y1), .val (.int y2), .val (.ref dv), .val (.ref oe)] [(.ref a)])) (fun tq kq => XS.aloadN (g := (mkF m 0 #[.val (.ref a), .val (.int y1), .val (.int y2), .val (.ref dv), .val (.ref oe)] [])) X0.here hx rfl (hb hby d2_0) rfl rfl kq) ?_
  refine own_callI X0 hx hZ (y := (⟨"java/lang/Record", "<init>", "()V"⟩ : MethodName)) (argsL := []) (a := a) rfl hown (hw _ (List.mem_of_getElem? (i := 15) rfl)) (hw _ (List.mem_of_getElem? (i := 16) rfl)) (hw _ (List.mem_of_getElem? (i := 18) rfl)) (hw _ (List.mem_of_getElem? (i := 19) rfl)) (by decide) e0 (own_rm3 l Z a0 hw a  h0 n0 (Nat.le_trans Z0 (Nat.le_refl _)) ) (W := 0) (by decide) (by decide) (by decide) (by decide) pd0 rfl (g := (mkF m 1 #[.val (.ref a), .val (.int y1), .val (.int y2), .val (.ref dv), .val (.ref oe)] [(.ref a)])) rfl (by rw [hml]; rfl) (rest := []) rfl (by show 2 * 0 + _ ≤ _; exact Nat.le_of_eq rfl) (hb hby d2_1) (fun v44 T44 L44 X44 q44 => ?_)
  obtain ⟨rfl, N44q, e44⟩ := q44
  have N44 := Fr.app N0 N44q
  replace e44 := e44
  show own_GoF _ _ _ _ _ T44 (mkF m 4 #[.val (.ref a), .val (.int y1), .val (.int y2), .val (.ref dv), .val (.ref oe)] [])
  refine own_st (T' := T44) (g' := (mkF m 5 #[.val (.ref a), .val (.int y1), .val (.int y2), .val (.ref dv), .val (.ref oe)] [(.ref dv)])) (fun tq kq => XS.aloadN (g := (mkF m 4 #[.val (.ref a), .val (.int y1), .val (.int y2), .val (.ref dv), .val (.ref oe)] [])) X44.here hx rfl (hb hby d2_4) rfl rfl kq) ?_
  obtain ⟨a45, T45, h45, k45, X45, e45, E45, S45, hk45, hZ, hown, st45⟩ := ldcS (s := s) (vm0 := s.vm) X44 hx hZ hown (hw _ (List.mem_of_getElem? (i := 23) rfl)) (own_wS hw) e44 (own_since0 s 0) (Nat.zero_le _) (g := (mkF m 5 #[.val (.ref a), .val (.int y1), .val (.int y2), .val (.ref dv), .val (.ref oe)] [(.ref dv)])) rfl (hb hby d2_5) (n := 28) (by decide) (by decide) (by decide) (by decide)
  refine own_st (g' := (mkF m 7 #[.val (.ref a), .val (.int y1), .val (.int y2), .val (.ref dv), .val (.ref oe)] [(.ref a45), (.ref dv)])) st45 ?_
  refine own_callS X45 hx hZ (y := (⟨"java/util/Objects", "requireNonNull", "(Ljava/lang/Object;Ljava/lang/String;)Ljava/lang/Object;"⟩ : MethodName)) (argsL := [(.ref dv), (.ref a45)]) hown (hw _ (List.mem_of_getElem? (i := 31) rfl)) (hw _ (List.mem_of_getElem? (i := 32) rfl)) (hw _ (List.mem_of_getElem? (i := 33) rfl)) (hw _ (List.mem_of_getElem? (i := 34) rfl)) (by decide) e45 (own_rm5 l Z a0 hw dv a45  h45 n0 (Nat.le_trans Z0 E45.1) ) (W := 0) (by decide) (by decide) (by decide) (by decide) pd1 rfl (g := (mkF m 7 #[.val (.ref a), .val (.int y1), .val (.int y2), .val (.ref dv), .val (.ref oe)] [(.ref a45), (.ref dv)])) rfl (by rw [hml]; rfl) (rest := []) rfl (by show 2 * 0 + _ ≤ _; exact Nat.le_of_eq rfl) (hb hby d2_7) (fun v46 T46 L46 X46 q46 => ?_)
  obtain ⟨rfl, N46q, e46⟩ := q46
  have N46 := Fr.app N44 N46q
  replace e46 := e46
  show own_GoF _ _ _ _ _ T46 (mkF m 10 #[.val (.ref a), .val (.int y1), .val (.int y2), .val (.ref dv), .val (.ref oe)] [(.ref dv)])
  refine own_st (T' := T46) (g' := (mkF m 13 #[.val (.ref a), .val (.int y1), .val (.int y2), .val (.ref dv), .val (.ref oe)] [(.ref oe)])) (fun tq kq => XS.pop (g := (mkF m 10 #[.val (.ref a), .val (.int y1), .val (.int y2), .val (.ref dv), .val (.ref oe)] [(.ref dv)])) X46.here hx rfl (hb hby d2_10) rfl rfl (XS.aload (g := (mkF m 11 #[.val (.ref a), .val (.int y1), .val (.int y2), .val (.ref dv), .val (.ref oe)] [])) X46.here hx rfl (hb hby d2_11) rfl rfl kq)) ?_
  obtain ⟨a47, T47, h47, k47, X47, e47, E47, S47, hk47, hZ, hown, st47⟩ := ldcS (s := s) (vm0 := T45.vm) X46 hx hZ hown (hw _ (List.mem_of_getElem? (i := 35) rfl)) (own_wS hw) e46 S45 (Nat.le_trans hk45 (Nat.le_refl _)) (g := (mkF m 13 #[.val (.ref a), .val (.int y1), .val (.int y2), .val (.ref dv), .val (.ref oe)] [(.ref oe)])) rfl (hb hby d2_13) (n := 48) (by decide) (by decide) (by decide) (by decide)
  refine own_st (g' := (mkF m 15 #[.val (.ref a), .val (.int y1), .val (.int y2), .val (.ref dv), .val (.ref oe)] [(.ref a47), (.ref oe)])) st47 ?_
  refine own_callS X47 hx hZ (y := (⟨"java/util/Objects", "requireNonNull", "(Ljava/lang/Object;Ljava/lang/String;)Ljava/lang/Object;"⟩ : MethodName)) (argsL := [(.ref oe), (.ref a47)]) hown (hw _ (List.mem_of_getElem? (i := 31) rfl)) (hw _ (List.mem_of_getElem? (i := 32) rfl)) (hw _ (List.mem_of_getElem? (i := 33) rfl)) (hw _ (List.mem_of_getElem? (i := 34) rfl)) (by decide) e47 (own_rm5 l Z a0 hw oe a47  h47 n0 (Nat.le_trans Z0 (Nat.le_trans E45.1 E47.1)) ) (W := 0) (by decide) (by decide) (by decide) (by decide) pd1 rfl (g := (mkF m 15 #[.val (.ref a), .val (.int y1), .val (.int y2), .val (.ref dv), .val (.ref oe)] [(.ref a47), (.ref oe)])) rfl (by rw [hml]; rfl) (rest := []) rfl (by show 2 * 0 + _ ≤ _; exact Nat.le_of_eq rfl) (hb hby d2_15) (fun v48 T48 L48 X48 q48 => ?_)
  obtain ⟨rfl, N48q, e48⟩ := q48
  have N48 := Fr.app N46 N48q
  replace e48 := e48
  show own_GoF _ _ _ _ _ T48 (mkF m 18 #[.val (.ref a), .val (.int y1), .val (.int y2), .val (.ref dv), .val (.ref oe)] [(.ref oe)])
  refine own_st (T' := T48) (g' := (mkF m 19 #[.val (.ref a), .val (.int y1), .val (.int y2), .val (.ref dv), .val (.ref oe)] [])) (fun tq kq => XS.pop (g := (mkF m 18 #[.val (.ref a), .val (.int y1), .val (.int y2), .val (.ref dv), .val (.ref oe)] [(.ref oe)])) X48.here hx rfl (hb hby d2_18) rfl rfl kq) ?_
  have Scom_example_planscribe_planscribe_model_PaymentForm_49 := (Sta.ext E47 (Sta.ext E45 Sy))
  obtain ⟨T50, X50, e50, st50⟩ := getS2 X48 hx hZ hown (host := "") (Or.inl (hw _ (List.mem_of_getElem? (i := 36) rfl))) Via.refl e48 Scom_example_planscribe_planscribe_model_PaymentForm_49 (g := (mkF m 19 #[.val (.ref a), .val (.int y1), .val (.int y2), .val (.ref dv), .val (.ref oe)] [])) rfl (hb hby d2_19)
  refine own_st (g' := (mkF m 22 #[.val (.ref a), .val (.int y1), .val (.int y2), .val (.ref dv), .val (.ref oe)] [(.ref yr)])) st50 ?_
  refine own_st (T' := T50) (g' := (mkF m 24 #[.val (.ref a), .val (.int y1), .val (.int y2), .val (.ref dv), .val (.ref oe)] [(.long (y1.toInt64)), (.ref yr)])) (fun tq kq => XS.iloadN (g := (mkF m 22 #[.val (.ref a), .val (.int y1), .val (.int y2), .val (.ref dv), .val (.ref oe)] [(.ref yr)])) X50.here hx rfl (hb hby d2_22) rfl (XS.i2l (g := (mkF m 23 #[.val (.ref a), .val (.int y1), .val (.int y2), .val (.ref dv), .val (.ref oe)] [(.int y1), (.ref yr)])) X50.here hx rfl (hb hby d2_23) rfl kq)) ?_
  have Fyr_least_51 := (Fld.ext E47 (Fld.ext E45 Fl))
  have Fyr_most_52 := (Fld.ext E47 (Fld.ext E45 Fm))
  have Eyr_54 := (Exa.ext E47 (Exa.ext E45 Ey))
  refine own_callV X50 hx hZ (y := (⟨"com/example/planscribe/planscribe/model/CountRange", "contains", "(J)Z"⟩ : MethodName)) (z := (⟨"com/example/planscribe/planscribe/model/CountRange", "contains", "(J)Z"⟩ : MethodName)) (argsL := [(.long (y1.toInt64))]) (a := yr) hown (hw _ (List.mem_of_getElem? (i := 39) rfl)) (hw _ (List.mem_of_getElem? (i := 40) rfl)) (notFace_of_selects (args := #[]) (mvT hZ (hw _ (List.mem_of_getElem? (i := 42) rfl)))) (hw _ (List.mem_of_getElem? (i := 42) rfl)) (hw _ (List.mem_of_getElem? (i := 41) rfl)) (hw _ (List.mem_of_getElem? (i := 43) rfl)) (hw _ (List.mem_of_getElem? (i := 44) rfl)) (by decide) e50 Eyr_54 (own_rm6 l Z a0 hw yr (y1.toInt64) (1 : Int32) (100 : Int32) h47 n0 (Nat.le_trans Z0 (Nat.le_trans E45.1 E47.1)) Fyr_least_51 Fyr_most_52) (W := 0) (by decide) (by decide) (by decide) (by decide) pd2 rfl (g := (mkF m 24 #[.val (.ref a), .val (.int y1), .val (.int y2), .val (.ref dv), .val (.ref oe)] [(.long (y1.toInt64)), (.ref yr)])) rfl (by rw [hml]; rfl) (rest := []) rfl (by show 2 * 0 + _ ≤ _; exact Nat.le_of_eq rfl) (hb hby d2_24) (fun v53 T53 L53 X53 q53 => ?_)
  obtain ⟨rfl, N53q, e53⟩ := q53
  have N53 := Fr.app N48 N53q
  replace e53 := e53
  show own_GoF _ _ _ _ _ T53 (mkF m 27 #[.val (.ref a), .val (.int y1), .val (.int y2), .val (.ref dv), .val (.ref oe)] [(.int (own_ct (1 : Int32) (100 : Int32) (y1.toInt64)))])
  refine own_st (T' := T53) (g' := (mkF m 30 #[.val (.ref a), .val (.int y1), .val (.int y2), .val (.ref dv), .val (.ref oe)] [])) (fun tq kq => XS.ifNo (g := (mkF m 27 #[.val (.ref a), .val (.int y1), .val (.int y2), .val (.ref dv), .val (.ref oe)] [(.int (own_ct (1 : Int32) (100 : Int32) (y1.toInt64)))])) X53.here hx rfl (hb hby d2_27) rfl ((if0 _ _).trans (feq (own_ct1 hf.1 hf.2)).1) kq) ?_
  obtain ⟨T55, X55, e55, st55⟩ := getS2 X53 hx hZ hown (host := "") (Or.inl (hw _ (List.mem_of_getElem? (i := 36) rfl))) Via.refl e53 Scom_example_planscribe_planscribe_model_PaymentForm_49 (g := (mkF m 30 #[.val (.ref a), .val (.int y1), .val (.int y2), .val (.ref dv), .val (.ref oe)] [])) rfl (hb hby d2_30)
  refine own_st (g' := (mkF m 33 #[.val (.ref a), .val (.int y1), .val (.int y2), .val (.ref dv), .val (.ref oe)] [(.ref yr)])) st55 ?_
  refine own_st (T' := T55) (g' := (mkF m 35 #[.val (.ref a), .val (.int y1), .val (.int y2), .val (.ref dv), .val (.ref oe)] [(.long (y2.toInt64)), (.ref yr)])) (fun tq kq => XS.iloadN (g := (mkF m 33 #[.val (.ref a), .val (.int y1), .val (.int y2), .val (.ref dv), .val (.ref oe)] [(.ref yr)])) X55.here hx rfl (hb hby d2_33) rfl (XS.i2l (g := (mkF m 34 #[.val (.ref a), .val (.int y1), .val (.int y2), .val (.ref dv), .val (.ref oe)] [(.int y2), (.ref yr)])) X55.here hx rfl (hb hby d2_34) rfl kq)) ?_
  refine own_callV X55 hx hZ (y := (⟨"com/example/planscribe/planscribe/model/CountRange", "contains", "(J)Z"⟩ : MethodName)) (z := (⟨"com/example/planscribe/planscribe/model/CountRange", "contains", "(J)Z"⟩ : MethodName)) (argsL := [(.long (y2.toInt64))]) (a := yr) hown (hw _ (List.mem_of_getElem? (i := 39) rfl)) (hw _ (List.mem_of_getElem? (i := 40) rfl)) (notFace_of_selects (args := #[]) (mvT hZ (hw _ (List.mem_of_getElem? (i := 42) rfl)))) (hw _ (List.mem_of_getElem? (i := 42) rfl)) (hw _ (List.mem_of_getElem? (i := 41) rfl)) (hw _ (List.mem_of_getElem? (i := 43) rfl)) (hw _ (List.mem_of_getElem? (i := 44) rfl)) (by decide) e55 Eyr_54 (own_rm6 l Z a0 hw yr (y2.toInt64) (1 : Int32) (100 : Int32) h47 n0 (Nat.le_trans Z0 (Nat.le_trans E45.1 E47.1)) Fyr_least_51 Fyr_most_52) (W := 0) (by decide) (by decide) (by decide) (by decide) pd2 rfl (g := (mkF m 35 #[.val (.ref a), .val (.int y1), .val (.int y2), .val (.ref dv), .val (.ref oe)] [(.long (y2.toInt64)), (.ref yr)])) rfl (by rw [hml]; rfl) (rest := []) rfl (by show 2 * 0 + _ ≤ _; exact Nat.le_of_eq rfl) (hb hby d2_35) (fun v56 T56 L56 X56 q56 => ?_)
  obtain ⟨rfl, N56q, e56⟩ := q56
  have N56 := Fr.app N53 N56q
  replace e56 := e56
  show own_GoF _ _ _ _ _ T56 (mkF m 38 #[.val (.ref a), .val (.int y1), .val (.int y2), .val (.ref dv), .val (.ref oe)] [(.int (own_ct (1 : Int32) (100 : Int32) (y2.toInt64)))])
  refine own_st (T' := T56) (g' := (mkF m 43 #[.val (.ref a), .val (.int y1), .val (.int y2), .val (.ref dv), .val (.ref oe)] [(.int y1), (.int y2)])) (fun tq kq => XS.ifNo (g := (mkF m 38 #[.val (.ref a), .val (.int y1), .val (.int y2), .val (.ref dv), .val (.ref oe)] [(.int (own_ct (1 : Int32) (100 : Int32) (y2.toInt64)))])) X56.here hx rfl (hb hby d2_38) rfl ((if0 _ _).trans (feq (own_ct1 (by omega) hm.2)).1) (XS.iloadN (g := (mkF m 41 #[.val (.ref a), .val (.int y1), .val (.int y2), .val (.ref dv), .val (.ref oe)] [])) X56.here hx rfl (hb hby d2_41) rfl (XS.iloadN (g := (mkF m 42 #[.val (.ref a), .val (.int y1), .val (.int y2), .val (.ref dv), .val (.ref oe)] [(.int y2)])) X56.here hx rfl (hb hby d2_42) rfl kq))) ?_
  have hb57 : ¬ (y2 < y1) := by rw [Int32.lt_iff_toInt_lt]; omega
  refine own_st (T' := T56) (g' := (mkF m 63 #[.val (.ref a), .val (.int y1), .val (.int y2), .val (.ref dv), .val (.ref oe)] [(.ref oe)])) (fun tq kq => XS.icmpYes (g := (mkF m 43 #[.val (.ref a), .val (.int y1), .val (.int y2), .val (.ref dv), .val (.ref oe)] [(.int y1), (.int y2)])) X56.here hx rfl (pc0 := 43) (pc' := 61) rfl (hb hby d2_43) rfl (flt hb57).2.1 (by decide) (by decide) (XS.aload (g := (mkF m 61 #[.val (.ref a), .val (.int y1), .val (.int y2), .val (.ref dv), .val (.ref oe)] [])) X56.here hx rfl (hb hby d2_61) rfl rfl kq)) ?_
  have Foe_value_58 := (Fld.ext E47 (Fld.ext E45 Fo))
  have Eoe_60 := (Exa.ext E47 (Exa.ext E45 Eo))
  refine own_callV X56 hx hZ (y := (⟨"java/util/Optional", "isPresent", "()Z"⟩ : MethodName)) (z := (⟨"java/util/Optional", "isPresent", "()Z"⟩ : MethodName)) (argsL := []) (a := oe) hown (hw _ (List.mem_of_getElem? (i := 49) rfl)) (hw _ (List.mem_of_getElem? (i := 50) rfl)) (notFace_of_selects (args := #[]) (mvT hZ (hw _ (List.mem_of_getElem? (i := 52) rfl)))) (hw _ (List.mem_of_getElem? (i := 52) rfl)) (hw _ (List.mem_of_getElem? (i := 51) rfl)) (hw _ (List.mem_of_getElem? (i := 9) rfl)) (hw _ (List.mem_of_getElem? (i := 53) rfl)) (by decide) e56 Eoe_60 (own_rm7 l Z a0 hw oe  h47 n0 (Nat.le_trans Z0 (Nat.le_trans E45.1 E47.1)) Foe_value_58) (W := 0) (by decide) (by decide) (by decide) (by decide) pd3 rfl (g := (mkF m 63 #[.val (.ref a), .val (.int y1), .val (.int y2), .val (.ref dv), .val (.ref oe)] [(.ref oe)])) rfl (by rw [hml]; rfl) (rest := []) rfl (by show 2 * 0 + _ ≤ _; exact Nat.le_of_eq rfl) (hb hby d2_63) (fun v59 T59 L59 X59 q59 => ?_)
  obtain ⟨rfl, N59q, e59⟩ := q59
  have N59 := Fr.app N56 N59q
  replace e59 := e59
  show own_GoF _ _ _ _ _ T59 (mkF m 66 #[.val (.ref a), .val (.int y1), .val (.int y2), .val (.ref dv), .val (.ref oe)] [(.int (0 : Int32))])
  refine own_st (T' := T59) (g' := (mkF m 88 #[.val (.ref a), .val (.int y1), .val (.int y2), .val (.ref dv), .val (.ref oe)] [(.ref oe)])) (fun tq kq => XS.ifYes (g := (mkF m 66 #[.val (.ref a), .val (.int y1), .val (.int y2), .val (.ref dv), .val (.ref oe)] [(.int (0 : Int32))])) X59.here hx rfl (pc0 := 66) (pc' := 86) rfl (hb hby d2_66) rfl ((if0 _ _).trans (teq (by decide : (0 : Int32) = (0 : Int32))).1) (by decide) (by decide) (XS.aload (g := (mkF m 86 #[.val (.ref a), .val (.int y1), .val (.int y2), .val (.ref dv), .val (.ref oe)] [])) X59.here hx rfl (hb hby d2_86) rfl rfl kq)) ?_
  refine own_callV X59 hx hZ (y := (⟨"java/util/Optional", "isPresent", "()Z"⟩ : MethodName)) (z := (⟨"java/util/Optional", "isPresent", "()Z"⟩ : MethodName)) (argsL := []) (a := oe) hown (hw _ (List.mem_of_getElem? (i := 49) rfl)) (hw _ (List.mem_of_getElem? (i := 50) rfl)) (notFace_of_selects (args := #[]) (mvT hZ (hw _ (List.mem_of_getElem? (i := 52) rfl)))) (hw _ (List.mem_of_getElem? (i := 52) rfl)) (hw _ (List.mem_of_getElem? (i := 51) rfl)) (hw _ (List.mem_of_getElem? (i := 9) rfl)) (hw _ (List.mem_of_getElem? (i := 53) rfl)) (by decide) e59 Eoe_60 (own_rm7 l Z a0 hw oe  h47 n0 (Nat.le_trans Z0 (Nat.le_trans E45.1 E47.1)) Foe_value_58) (W := 0) (by decide) (by decide) (by decide) (by decide) pd3 rfl (g := (mkF m 88 #[.val (.ref a), .val (.int y1), .val (.int y2), .val (.ref dv), .val (.ref oe)] [(.ref oe)])) rfl (by rw [hml]; rfl) (rest := []) rfl (by show 2 * 0 + _ ≤ _; exact Nat.le_of_eq rfl) (hb hby d2_88) (fun v61 T61 L61 X61 q61 => ?_)
  obtain ⟨rfl, N61q, e61⟩ := q61
  have N61 := Fr.app N59 N61q
  replace e61 := e61
  show own_GoF _ _ _ _ _ T61 (mkF m 91 #[.val (.ref a), .val (.int y1), .val (.int y2), .val (.ref dv), .val (.ref oe)] [(.int (0 : Int32))])
  refine own_st (T' := T61) (g' := (mkF m 120 #[.val (.ref a), .val (.int y1), .val (.int y2), .val (.ref dv), .val (.ref oe)] [(.int y1), (.ref a)])) (fun tq kq => XS.ifYes (g := (mkF m 91 #[.val (.ref a), .val (.int y1), .val (.int y2), .val (.ref dv), .val (.ref oe)] [(.int (0 : Int32))])) X61.here hx rfl (pc0 := 91) (pc' := 118) rfl (hb hby d2_91) rfl ((if0 _ _).trans (teq (by decide : (0 : Int32) = (0 : Int32))).1) (by decide) (by decide) (XS.aloadN (g := (mkF m 118 #[.val (.ref a), .val (.int y1), .val (.int y2), .val (.ref dv), .val (.ref oe)] [])) X61.here hx rfl (hb hby d2_118) rfl rfl (XS.iloadN (g := (mkF m 119 #[.val (.ref a), .val (.int y1), .val (.int y2), .val (.ref dv), .val (.ref oe)] [(.ref a)])) X61.here hx rfl (hb hby d2_119) rfl kq))) ?_
  have Ea_62 := (Exa.ext E47 (Exa.ext E45 E_a))
  have Fa_fewestYears_63 := (Fld.ext E47 (Fld.ext E45 F_fewestYears))
  obtain ⟨T64, h64, X64, e64, W64, st64⟩ := putF X61 hx hZ hown (host := "") (Or.inl (hw _ (List.mem_of_getElem? (i := 56) rfl))) Via.refl e61 Fa_fewestYears_63 Ea_62 (Or.inr ⟨(hw _ (List.mem_of_getElem? (i := 57) rfl)), rfl, hnm⟩) (hw _ (List.mem_of_getElem? (i := 5) rfl)) (ty := .int) (by decide) rfl rfl (g := (mkF m 120 #[.val (.ref a), .val (.int y1), .val (.int y2), .val (.ref dv), .val (.ref oe)] [(.int y1), (.ref a)])) rfl rfl (hb hby d2_120)
  refine own_st (g' := (mkF m 123 #[.val (.ref a), .val (.int y1), .val (.int y2), .val (.ref dv), .val (.ref oe)] [])) st64 ?_
  have F64 := Fld.same W64 Fa_fewestYears_63
  have N64 := Fr.snoc X64 N61 ga
  refine own_st (T' := T64) (g' := (mkF m 125 #[.val (.ref a), .val (.int y1), .val (.int y2), .val (.ref dv), .val (.ref oe)] [(.int y2), (.ref a)])) (fun tq kq => XS.aloadN (g := (mkF m 123 #[.val (.ref a), .val (.int y1), .val (.int y2), .val (.ref dv), .val (.ref oe)] [])) X64.here hx rfl (hb hby d2_123) rfl rfl (XS.iloadN (g := (mkF m 124 #[.val (.ref a), .val (.int y1), .val (.int y2), .val (.ref dv), .val (.ref oe)] [(.ref a)])) X64.here hx rfl (hb hby d2_124) rfl kq)) ?_
  have Ea_65 := (Exa.wr W64 Ea_62)
  have Fa_mostYears_66 := (Fld.other W64 (Fld.ext E47 (Fld.ext E45 F_mostYears)) (Or.inr (slot_ne (C := "com/example/planscribe/planscribe/model/Distribution$Installments") (t := .int) (t' := .int) (Or.inr (hw _ (List.mem_of_getElem? (i := 59) rfl))) (Or.inr (hw _ (List.mem_of_getElem? (i := 57) rfl))) (by decide) (by decide) (by decide))))
  obtain ⟨T67, h67, X67, e67, W67, st67⟩ := putF X64 hx hZ hown (host := "") (Or.inl (hw _ (List.mem_of_getElem? (i := 58) rfl))) Via.refl e64 Fa_mostYears_66 Ea_65 (Or.inr ⟨(hw _ (List.mem_of_getElem? (i := 59) rfl)), rfl, hnm⟩) (hw _ (List.mem_of_getElem? (i := 5) rfl)) (ty := .int) (by decide) rfl rfl (g := (mkF m 125 #[.val (.ref a), .val (.int y1), .val (.int y2), .val (.ref dv), .val (.ref oe)] [(.int y2), (.ref a)])) rfl rfl (hb hby d2_125)
  refine own_st (g' := (mkF m 128 #[.val (.ref a), .val (.int y1), .val (.int y2), .val (.ref dv), .val (.ref oe)] [])) st67 ?_
  have F67 := Fld.same W67 Fa_mostYears_66
  have N67 := Fr.snoc X67 N64 ga
  refine own_st (T' := T67) (g' := (mkF m 130 #[.val (.ref a), .val (.int y1), .val (.int y2), .val (.ref dv), .val (.ref oe)] [(.ref dv), (.ref a)])) (fun tq kq => XS.aloadN (g := (mkF m 128 #[.val (.ref a), .val (.int y1), .val (.int y2), .val (.ref dv), .val (.ref oe)] [])) X67.here hx rfl (hb hby d2_128) rfl rfl (XS.aloadN (g := (mkF m 129 #[.val (.ref a), .val (.int y1), .val (.int y2), .val (.ref dv), .val (.ref oe)] [(.ref a)])) X67.here hx rfl (hb hby d2_129) rfl rfl kq)) ?_
  have Ea_68 := (Exa.wr W67 Ea_65)
  have Fa_divisor_69 := (Fld.other W67 (Fld.other W64 (Fld.ext E47 (Fld.ext E45 F_divisor)) (Or.inr (slot_ne (C := "com/example/planscribe/planscribe/model/Distribution$Installments") (t := (.object "com/example/planscribe/planscribe/model/Distribution$Divisor")) (t' := .int) (Or.inr (hw _ (List.mem_of_getElem? (i := 61) rfl))) (Or.inr (hw _ (List.mem_of_getElem? (i := 57) rfl))) (by decide) (by decide) (by decide)))) (Or.inr (slot_ne (C := "com/example/planscribe/planscribe/model/Distribution$Installments") (t := (.object "com/example/planscribe/planscribe/model/Distribution$Divisor")) (t' := .int) (Or.inr (hw _ (List.mem_of_getElem? (i := 61) rfl))) (Or.inr (hw _ (List.mem_of_getElem? (i := 59) rfl))) (by decide) (by decide) (by decide))))
  obtain ⟨T70, h70, X70, e70, W70, st70⟩ := putF X67 hx hZ hown (host := "") (Or.inl (hw _ (List.mem_of_getElem? (i := 60) rfl))) Via.refl e67 Fa_divisor_69 Ea_68 (Or.inr ⟨(hw _ (List.mem_of_getElem? (i := 61) rfl)), rfl, hnm⟩) (hw _ (List.mem_of_getElem? (i := 5) rfl)) (ty := (.object "com/example/planscribe/planscribe/model/Distribution$Divisor")) (by decide) rfl rfl (g := (mkF m 130 #[.val (.ref a), .val (.int y1), .val (.int y2), .val (.ref dv), .val (.ref oe)] [(.ref dv), (.ref a)])) rfl rfl (hb hby d2_130)
  refine own_st (g' := (mkF m 133 #[.val (.ref a), .val (.int y1), .val (.int y2), .val (.ref dv), .val (.ref oe)] [])) st70 ?_
  have F70 := Fld.same W70 Fa_divisor_69
  have N70 := Fr.snoc X70 N67 ga
  refine own_st (T' := T70) (g' := (mkF m 136 #[.val (.ref a), .val (.int y1), .val (.int y2), .val (.ref dv), .val (.ref oe)] [(.ref oe), (.ref a)])) (fun tq kq => XS.aloadN (g := (mkF m 133 #[.val (.ref a), .val (.int y1), .val (.int y2), .val (.ref dv), .val (.ref oe)] [])) X70.here hx rfl (hb hby d2_133) rfl rfl (XS.aload (g := (mkF m 134 #[.val (.ref a), .val (.int y1), .val (.int y2), .val (.ref dv), .val (.ref oe)] [(.ref a)])) X70.here hx rfl (hb hby d2_134) rfl rfl kq)) ?_
  have Ea_71 := (Exa.wr W70 Ea_68)
  have Fa_minimumAYear_72 := (Fld.other W70 (Fld.other W67 (Fld.other W64 (Fld.ext E47 (Fld.ext E45 F_minimumAYear)) (Or.inr (slot_ne (C := "com/example/planscribe/planscribe/model/Distribution$Installments") (t := (.object "java/util/Optional")) (t' := .int) (Or.inr (hw _ (List.mem_of_getElem? (i := 63) rfl))) (Or.inr (hw _ (List.mem_of_getElem? (i := 57) rfl))) (by decide) (by decide) (by decide)))) (Or.inr (slot_ne (C := "com/example/planscribe/planscribe/model/Distribution$Installments") (t := (.object "java/util/Optional")) (t' := .int) (Or.inr (hw _ (List.mem_of_getElem? (i := 63) rfl))) (Or.inr (hw _ (List.mem_of_getElem? (i := 59) rfl))) (by decide) (by decide) (by decide)))) (Or.inr (slot_ne (C := "com/example/planscribe/planscribe/model/Distribution$Installments") (t := (.object "java/util/Optional")) (t' := (.object "com/example/planscribe/planscribe/model/Distribution$Divisor")) (Or.inr (hw _ (List.mem_of_getElem? (i := 63) rfl))) (Or.inr (hw _ (List.mem_of_getElem? (i := 61) rfl))) (by decide) (by decide) (by decide))))
  obtain ⟨T73, h73, X73, e73, W73, st73⟩ := putF X70 hx hZ hown (host := "") (Or.inl (hw _ (List.mem_of_getElem? (i := 62) rfl))) Via.refl e70 Fa_minimumAYear_72 Ea_71 (Or.inr ⟨(hw _ (List.mem_of_getElem? (i := 63) rfl)), rfl, hnm⟩) (hw _ (List.mem_of_getElem? (i := 5) rfl)) (ty := (.object "java/util/Optional")) (by decide) rfl rfl (g := (mkF m 136 #[.val (.ref a), .val (.int y1), .val (.int y2), .val (.ref dv), .val (.ref oe)] [(.ref oe), (.ref a)])) rfl rfl (hb hby d2_136)
  refine own_st (g' := (mkF m 139 #[.val (.ref a), .val (.int y1), .val (.int y2), .val (.ref dv), .val (.ref oe)] [])) st73 ?_
  have F73 := Fld.same W73 Fa_minimumAYear_72
  have N73 := Fr.snoc X73 N70 ga
  refine own_retVW X73 S47 (by rw [e73]; exact (Nat.le_trans hk47 (Nat.le_trans (Nat.le_trans (Nat.le_trans (Nat.le_of_eq W64.size.symm) (Nat.le_of_eq W67.size.symm)) (Nat.le_of_eq W70.size.symm)) (Nat.le_of_eq W73.size.symm)))) hx hlk hret (hb hby d2_139) ?_ (by decide) (by decide)
  have Fa_fewestYears_74 := (Fld.other W73 (Fld.other W70 (Fld.other W67 F64 (Or.inr (slot_ne (C := "com/example/planscribe/planscribe/model/Distribution$Installments") (t := .int) (t' := .int) (Or.inr (hw _ (List.mem_of_getElem? (i := 57) rfl))) (Or.inr (hw _ (List.mem_of_getElem? (i := 59) rfl))) (by decide) (by decide) (by decide)))) (Or.inr (slot_ne (C := "com/example/planscribe/planscribe/model/Distribution$Installments") (t := .int) (t' := (.object "com/example/planscribe/planscribe/model/Distribution$Divisor")) (Or.inr (hw _ (List.mem_of_getElem? (i := 57) rfl))) (Or.inr (hw _ (List.mem_of_getElem? (i := 61) rfl))) (by decide) (by decide) (by decide)))) (Or.inr (slot_ne (C := "com/example/planscribe/planscribe/model/Distribution$Installments") (t := .int) (t' := (.object "java/util/Optional")) (Or.inr (hw _ (List.mem_of_getElem? (i := 57) rfl))) (Or.inr (hw _ (List.mem_of_getElem? (i := 63) rfl))) (by decide) (by decide) (by decide))))
  have Fa_mostYears_75 := (Fld.other W73 (Fld.other W70 F67 (Or.inr (slot_ne (C := "com/example/planscribe/planscribe/model/Distribution$Installments") (t := .int) (t' := (.object "com/example/planscribe/planscribe/model/Distribution$Divisor")) (Or.inr (hw _ (List.mem_of_getElem? (i := 59) rfl))) (Or.inr (hw _ (List.mem_of_getElem? (i := 61) rfl))) (by decide) (by decide) (by decide)))) (Or.inr (slot_ne (C := "com/example/planscribe/planscribe/model/Distribution$Installments") (t := .int) (t' := (.object "java/util/Optional")) (Or.inr (hw _ (List.mem_of_getElem? (i := 59) rfl))) (Or.inr (hw _ (List.mem_of_getElem? (i := 63) rfl))) (by decide) (by decide) (by decide))))
  have Fa_divisor_76 := (Fld.other W73 F70 (Or.inr (slot_ne (C := "com/example/planscribe/planscribe/model/Distribution$Installments") (t := (.object "com/example/planscribe/planscribe/model/Distribution$Divisor")) (t' := (.object "java/util/Optional")) (Or.inr (hw _ (List.mem_of_getElem? (i := 61) rfl))) (Or.inr (hw _ (List.mem_of_getElem? (i := 63) rfl))) (by decide) (by decide) (by decide))))
  have Ea_77 := (Exa.wr W73 Ea_71)
  rw [e73]
  exact ⟨rfl, N73, (Keep.wr (Keep.wr (Keep.wr (Keep.wr (Keep.ext (Keep.ext (Keep.refl _ _) E45) E47) W64 (Or.inl (List.mem_of_getElem? (i := 0) rfl))) W67 (Or.inl (List.mem_of_getElem? (i := 0) rfl))) W70 (Or.inl (List.mem_of_getElem? (i := 0) rfl))) W73 (Or.inl (List.mem_of_getElem? (i := 0) rfl))), Ea_77, Fa_fewestYears_74, Fa_mostYears_75, Fa_divisor_76, F73⟩
theorem pn_8 : plainName "com/example/planscribe/planscribe/model/Distribution$Installments" = true := by first | (simp [plainName, overriddenIn]; done) | decide +kernel
theorem ef_8 (m : MethodId) (x0 : Addr) (x1 : Int32) : entryFrame m #[(.ref x0), (.int x1)] 2 = mkF m 0 #[.val (.ref x0), .val (.int x1)] [] := by first | (simp [entryFrame, mkF, argsToLocals, Value.category]; done) | rfl
set_option maxRecDepth 65536 in
set_option maxHeartbeats 40000000 in
theorem own_rm8 (l : Launch) (Z : State) (a0 : Array Value) (hw : ∀ d ∈ tables_1, d.before a0 Z = true) (a : Addr) (y0 : Int32) (k1 k2 : Int32) (h0 : Heap) (n0 : Nat) (Z0 : n0 ≤ h0.size) (F1 : Fld Z h0 a "com/example/planscribe/planscribe/model/Distribution$Installments" "fewestYears" "I" (.int k1)) (F2 : Fld Z h0 a "com/example/planscribe/planscribe/model/Distribution$Installments" "mostYears" "I" (.int k2)) :
    own_Ct l Z (⟨"com/example/planscribe/planscribe/model/Distribution$Installments", "over", "(I)Z"⟩ : MethodName) prog_114_method_2_code 2 (some .boolean) ({ frames := 0, cells := 0, slots := 0, locals := 0 } : Room) #[(.ref a), (.int y0)] h0 (fun v h L => v = some (.int (own_ov k1 k2 y0)) ∧ Fr n0 L ∧ h = h0) := by
  refine own_enter (plainFor_of_name pn_8) ?_
  intro p e s m below meth c s₁ X0 C e0
  obtain ⟨hx, hZ, hby, hml, hown, hnm, hret, hlk⟩ := C
  replace hown : s.vm.findClass "com/example/planscribe/planscribe/model/Distribution$Installments" = some m.cls := hown
  replace hml : c.maxLocals = 2 := hml
  replace hret : meth.sig.returnType = (some .boolean) := hret
  have N0 := Fr.nil n0
  refine own_cast (ef_8 m a y0) ?_
  refine own_st (T' := s₁) (g' := (mkF m 1 #[.val (.ref a), .val (.int y0)] [(.ref a)])) (fun tq kq => XS.aloadN (g := (mkF m 0 #[.val (.ref a), .val (.int y0)] [])) X0.here hx rfl (hb hby d8_0) rfl rfl kq) ?_
  obtain ⟨T78, X78, e78, st78⟩ := getF X0 hx hZ hown (host := "") (Or.inl (hw _ (List.mem_of_getElem? (i := 56) rfl))) Via.refl e0 F1 (g := (mkF m 1 #[.val (.ref a), .val (.int y0)] [(.ref a)])) rfl rfl (hb hby d8_1)
  refine own_st (g' := (mkF m 4 #[.val (.ref a), .val (.int y0)] [(.int k1)])) st78 ?_
  refine own_st (T' := T78) (g' := (mkF m 5 #[.val (.ref a), .val (.int y0)] [(.int y0), (.int k1)])) (fun tq kq => XS.iloadN (g := (mkF m 4 #[.val (.ref a), .val (.int y0)] [(.int k1)])) X78.here hx rfl (hb hby d8_4) rfl kq) ?_
  by_cases hc5_79 : y0 < k1
  · refine own_st (T' := T78) (g' := (mkF m 21 #[.val (.ref a), .val (.int y0)] [(.int (0 : Int32))])) (fun tq kq => XS.icmpYes (g := (mkF m 5 #[.val (.ref a), .val (.int y0)] [(.int y0), (.int k1)])) X78.here hx rfl (pc0 := 5) (pc' := 20) rfl (hb hby d8_5) rfl (tlt hc5_79).2.2.1 (by decide) (by decide) (XS.iconst (g := (mkF m 20 #[.val (.ref a), .val (.int y0)] [])) X78.here hx rfl (hb hby d8_20) kq)) ?_
    refine own_retI X78 hx hlk hret (by simp) rfl (hb hby d8_21) ?_ (by decide) (by decide)
    refine ⟨?_, N0, e78⟩
    simp [own_ov, *]
  · refine own_st (T' := T78) (g' := (mkF m 10 #[.val (.ref a), .val (.int y0)] [(.ref a), (.int y0)])) (fun tq kq => XS.icmpNo (g := (mkF m 5 #[.val (.ref a), .val (.int y0)] [(.int y0), (.int k1)])) X78.here hx rfl (hb hby d8_5) rfl (flt hc5_79).2.2.1 (XS.iloadN (g := (mkF m 8 #[.val (.ref a), .val (.int y0)] [])) X78.here hx rfl (hb hby d8_8) rfl (XS.aloadN (g := (mkF m 9 #[.val (.ref a), .val (.int y0)] [(.int y0)])) X78.here hx rfl (hb hby d8_9) rfl rfl kq))) ?_
    obtain ⟨T80, X80, e80, st80⟩ := getF X78 hx hZ hown (host := "") (Or.inl (hw _ (List.mem_of_getElem? (i := 58) rfl))) Via.refl e78 F2 (g := (mkF m 10 #[.val (.ref a), .val (.int y0)] [(.ref a), (.int y0)])) rfl rfl (hb hby d8_10)
    refine own_st (g' := (mkF m 13 #[.val (.ref a), .val (.int y0)] [(.int k2), (.int y0)])) st80 ?_
    by_cases hc13_81 : k2 < y0
    · refine own_st (T' := T80) (g' := (mkF m 21 #[.val (.ref a), .val (.int y0)] [(.int (0 : Int32))])) (fun tq kq => XS.icmpYes (g := (mkF m 13 #[.val (.ref a), .val (.int y0)] [(.int k2), (.int y0)])) X80.here hx rfl (pc0 := 13) (pc' := 20) rfl (hb hby d8_13) rfl (tlt hc13_81).2.2.1 (by decide) (by decide) (XS.iconst (g := (mkF m 20 #[.val (.ref a), .val (.int y0)] [])) X80.here hx rfl (hb hby d8_20) kq)) ?_
      refine own_retI X80 hx hlk hret (by simp) rfl (hb hby d8_21) ?_ (by decide) (by decide)
      refine ⟨?_, N0, e80⟩
      simp [own_ov, *]
    · refine own_st (T' := T80) (g' := (mkF m 21 #[.val (.ref a), .val (.int y0)] [(.int (1 : Int32))])) (fun tq kq => XS.icmpNo (g := (mkF m 13 #[.val (.ref a), .val (.int y0)] [(.int k2), (.int y0)])) X80.here hx rfl (hb hby d8_13) rfl (flt hc13_81).2.2.1 (XS.iconst (g := (mkF m 16 #[.val (.ref a), .val (.int y0)] [])) X80.here hx rfl (hb hby d8_16) (XS.goto (g := (mkF m 17 #[.val (.ref a), .val (.int y0)] [(.int (1 : Int32))])) X80.here hx rfl (pc0 := 17) (pc' := 21) rfl (hb hby d8_17) (by decide) (by decide) kq))) ?_
      refine own_retI X80 hx hlk hret (by simp) rfl (hb hby d8_21) ?_ (by decide) (by decide)
      refine ⟨?_, N0, e80⟩
      simp [own_ov, *]
theorem pn_9 : plainName "com/example/planscribe/planscribe/model/InstallmentsOverPinLaw" = true := by first | (simp [plainName, overriddenIn]; done) | decide +kernel
theorem ef_9 (m : MethodId) (x0 : Int32) (x1 : Int32) (x2 : Int32) : entryFrame m #[(.int x0), (.int x1), (.int x2)] 3 = mkF m 0 #[.val (.int x0), .val (.int x1), .val (.int x2)] [] := by first | (simp [entryFrame, mkF, argsToLocals, Value.category]; done) | rfl
set_option maxRecDepth 65536 in
set_option maxHeartbeats 40000000 in
theorem own_rm9 (l : Launch) (Z : State) (a0 : Array Value) (hw : ∀ d ∈ tables_1, d.before a0 Z = true) (y0 : Int32) (y1 : Int32) (y2 : Int32)  (h0 : Heap) (n0 : Nat) (Z0 : n0 ≤ h0.size) :
    own_Ct l Z (⟨"com/example/planscribe/planscribe/model/InstallmentsOverPinLaw", "inRange", "(III)Z"⟩ : MethodName) method_2_code 3 (some .boolean) ({ frames := 1, cells := 0, slots := 0, locals := 14 } : Room) #[(.int y0), (.int y1), (.int y2)] h0 (fun v h L => v = some (.int (own_ir y0 y1 y2)) ∧ Fr n0 L ∧ h = h0) := by
  refine own_enter (plainFor_of_name pn_9) ?_
  intro p e s m below meth c s₁ X0 C e0
  obtain ⟨hx, hZ, hby, hml, hown, hnm, hret, hlk⟩ := C
  replace hown : s.vm.findClass "com/example/planscribe/planscribe/model/InstallmentsOverPinLaw" = some m.cls := hown
  replace hml : c.maxLocals = 3 := hml
  replace hret : meth.sig.returnType = (some .boolean) := hret
  have N0 := Fr.nil n0
  refine own_cast (ef_9 m y0 y1 y2) ?_
  refine own_st (T' := s₁) (g' := (mkF m 3 #[.val (.int y0), .val (.int y1), .val (.int y2)] [(.int y2), (.int y0), (.int y1)])) (fun tq kq => XS.iloadN (g := (mkF m 0 #[.val (.int y0), .val (.int y1), .val (.int y2)] [])) X0.here hx rfl (hb hby d9_0) rfl (XS.iloadN (g := (mkF m 1 #[.val (.int y0), .val (.int y1), .val (.int y2)] [(.int y1)])) X0.here hx rfl (hb hby d9_1) rfl (XS.iloadN (g := (mkF m 2 #[.val (.int y0), .val (.int y1), .val (.int y2)] [(.int y0), (.int y1)])) X0.here hx rfl (hb hby d9_2) rfl kq))) ?_
  refine own_callS X0 hx hZ (y := (⟨"java/lang/Math", "min", "(II)I"⟩ : MethodName)) (argsL := [(.int y0), (.int y2)]) hown (hw _ (List.mem_of_getElem? (i := 73) rfl)) (hw _ (List.mem_of_getElem? (i := 74) rfl)) (hw _ (List.mem_of_getElem? (i := 75) rfl)) (hw _ (List.mem_of_getElem? (i := 76) rfl)) (by decide) e0 (own_rm10 l Z a0 hw y0 y2  h0 n0 (Nat.le_trans Z0 (Nat.le_refl _)) ) (W := 1) (by decide) (by decide) (by decide) (by decide) pd4 rfl (g := (mkF m 3 #[.val (.int y0), .val (.int y1), .val (.int y2)] [(.int y2), (.int y0), (.int y1)])) rfl (by rw [hml]; rfl) (rest := [(.int y1)]) rfl (by show 2 * 0 + _ ≤ _; exact Nat.le_of_eq rfl) (hb hby d9_3) (fun v82 T82 L82 X82 q82 => ?_)
  obtain ⟨rfl, N82q, e82⟩ := q82
  have N82 := Fr.app N0 N82q
  replace e82 := e82
  show own_GoF _ _ _ _ _ T82 (mkF m 6 #[.val (.int y0), .val (.int y1), .val (.int y2)] [(.int (own_minI y0 y2)), (.int y1)])
  refine own_callS X82 hx hZ (y := (⟨"java/lang/Math", "max", "(II)I"⟩ : MethodName)) (argsL := [(.int y1), (.int (own_minI y0 y2))]) hown (hw _ (List.mem_of_getElem? (i := 77) rfl)) (hw _ (List.mem_of_getElem? (i := 78) rfl)) (hw _ (List.mem_of_getElem? (i := 75) rfl)) (hw _ (List.mem_of_getElem? (i := 79) rfl)) (by decide) e82 (own_rm11 l Z a0 hw y1 (own_minI y0 y2)  h0 n0 (Nat.le_trans Z0 (Nat.le_refl _)) ) (W := 0) (by decide) (by decide) (by decide) (by decide) pd4 rfl (g := (mkF m 6 #[.val (.int y0), .val (.int y1), .val (.int y2)] [(.int (own_minI y0 y2)), (.int y1)])) rfl (by rw [hml]; rfl) (rest := []) rfl (by show 2 * 0 + _ ≤ _; exact Nat.le_of_eq rfl) (hb hby d9_6) (fun v83 T83 L83 X83 q83 => ?_)
  obtain ⟨rfl, N83q, e83⟩ := q83
  have N83 := Fr.app N82 N83q
  replace e83 := e83
  show own_GoF _ _ _ _ _ T83 (mkF m 9 #[.val (.int y0), .val (.int y1), .val (.int y2)] [(.int (own_maxI y1 (own_minI y0 y2)))])
  refine own_st (T' := T83) (g' := (mkF m 10 #[.val (.int y0), .val (.int y1), .val (.int y2)] [(.int y0), (.int (own_maxI y1 (own_minI y0 y2)))])) (fun tq kq => XS.iloadN (g := (mkF m 9 #[.val (.int y0), .val (.int y1), .val (.int y2)] [(.int (own_maxI y1 (own_minI y0 y2)))])) X83.here hx rfl (hb hby d9_9) rfl kq) ?_
  by_cases hc10_84 : (own_maxI y1 (own_minI y0 y2)) = y0
  · refine own_st (T' := T83) (g' := (mkF m 18 #[.val (.int y0), .val (.int y1), .val (.int y2)] [(.int (1 : Int32))])) (fun tq kq => XS.icmpNo (g := (mkF m 10 #[.val (.int y0), .val (.int y1), .val (.int y2)] [(.int y0), (.int (own_maxI y1 (own_minI y0 y2)))])) X83.here hx rfl (hb hby d9_10) rfl (teq hc10_84).2 (XS.iconst (g := (mkF m 13 #[.val (.int y0), .val (.int y1), .val (.int y2)] [])) X83.here hx rfl (hb hby d9_13) (XS.goto (g := (mkF m 14 #[.val (.int y0), .val (.int y1), .val (.int y2)] [(.int (1 : Int32))])) X83.here hx rfl (pc0 := 14) (pc' := 18) rfl (hb hby d9_14) (by decide) (by decide) kq))) ?_
    refine own_retI X83 hx hlk hret (by simp) rfl (hb hby d9_18) ?_ (by decide) (by decide)
    refine ⟨?_, N83, e83⟩
    unfold own_ir; rw [if_pos hc10_84]
  · refine own_st (T' := T83) (g' := (mkF m 18 #[.val (.int y0), .val (.int y1), .val (.int y2)] [(.int (0 : Int32))])) (fun tq kq => XS.icmpYes (g := (mkF m 10 #[.val (.int y0), .val (.int y1), .val (.int y2)] [(.int y0), (.int (own_maxI y1 (own_minI y0 y2)))])) X83.here hx rfl (pc0 := 10) (pc' := 17) rfl (hb hby d9_10) rfl (feq hc10_84).2 (by decide) (by decide) (XS.iconst (g := (mkF m 17 #[.val (.int y0), .val (.int y1), .val (.int y2)] [])) X83.here hx rfl (hb hby d9_17) kq)) ?_
    refine own_retI X83 hx hlk hret (by simp) rfl (hb hby d9_18) ?_ (by decide) (by decide)
    refine ⟨?_, N83, e83⟩
    unfold own_ir; rw [if_neg hc10_84]
theorem pn_0 : plainName "com/example/planscribe/planscribe/model/InstallmentsOverPinLaw" = true := by first | (simp [plainName, overriddenIn]; done) | decide +kernel
theorem ef_0 (m : MethodId) (x0 : Int32) (x1 : Int32) (x2 : Int32) (x3 : Int32) (x4 : Int32) : entryFrame m #[(.int x0), (.int x1), (.int x2), (.int x3), (.int x4)] maxLocals = mkF m 0 #[.val (.int x0), .val (.int x1), .val (.int x2), .val (.int x3), .val (.int x4), .unset, .unset, .unset, .unset, .unset, .unset] [] := by first | (simp [entryFrame, mkF, argsToLocals, Value.category, maxLocals]; done) | rfl
set_option maxRecDepth 65536 in
set_option maxHeartbeats 40000000 in
theorem own_rm0 (l : Launch) (Z : State) (a0 : Array Value) (hw : ∀ d ∈ tables_1, d.before a0 Z = true) (p0 : Int32) (p1 : Int32) (p2 : Int32) (p3 : Int32) (p4 : Int32) (yr oe d1 d2 : Addr) (h0 : Heap) (n0 : Nat) (Z0 : n0 ≤ h0.size) (Sy : Sta Z h0 "com/example/planscribe/planscribe/model/PaymentForm" "YEARS" "Lcom/example/planscribe/planscribe/model/CountRange;" (.ref yr)) (Ey : Exa Z h0 yr "com/example/planscribe/planscribe/model/CountRange") (Fl : Fld Z h0 yr "com/example/planscribe/planscribe/model/CountRange" "least" "I" (.int (1 : Int32))) (Fm : Fld Z h0 yr "com/example/planscribe/planscribe/model/CountRange" "most" "I" (.int (100 : Int32))) (Eo : Exa Z h0 oe "java/util/Optional") (Fo : Fld Z h0 oe "java/util/Optional" "value" "Ljava/lang/Object;" .null) (So : Sta Z h0 "java/util/Optional" "EMPTY" "Ljava/util/Optional;" (.ref oe)) (S1 : Sta Z h0 "com/example/planscribe/planscribe/model/Distribution$Divisor" "YEARS_LEFT" "Lcom/example/planscribe/planscribe/model/Distribution$Divisor;" (.ref d1)) (S2 : Sta Z h0 "com/example/planscribe/planscribe/model/Distribution$Divisor" "INSTALLMENTS_LEFT" "Lcom/example/planscribe/planscribe/model/Distribution$Divisor;" (.ref d2)) :
    own_CtL l Z x code maxLocals ret room_1 #[(.int p0), (.int p1), (.int p2), (.int p3), (.int p4)] h0 (fun v h L => v = some (.int 1) ∧ Fr n0 L) := by
  refine own_enterL (plainFor_of_name pn_0) ?_
  intro p e m below meth c s₁ X0 C e0 hh0
  obtain ⟨hx, hZ, hby, hml, hown, hnm, hret, hlk⟩ := C
  replace hown : Z.vm.findClass "com/example/planscribe/planscribe/model/InstallmentsOverPinLaw" = some m.cls := hown
  replace hml : c.maxLocals = 11 := hml
  replace hret : meth.sig.returnType = (some .boolean) := hret
  have N0 := Fr.nil n0
  refine own_cast (ef_0 m p0 p1 p2 p3 p4) ?_
  refine own_st (T' := s₁) (g' := (mkF m 11 #[.val (.int p0), .val (.int p1), .val (.int p2), .val (.int p3), .val (.int p4), .val (.int ((1 : Int32) + ((p0 &&& (2147483647 : Int32)) % (100 : Int32)))), .unset, .unset, .unset, .unset, .unset] [])) (fun tq kq => XS.iconst (g := (mkF m 0 #[.val (.int p0), .val (.int p1), .val (.int p2), .val (.int p3), .val (.int p4), .unset, .unset, .unset, .unset, .unset, .unset] [])) X0.here hx rfl (hb hby at_0) (XS.iloadN (g := (mkF m 1 #[.val (.int p0), .val (.int p1), .val (.int p2), .val (.int p3), .val (.int p4), .unset, .unset, .unset, .unset, .unset, .unset] [(.int (1 : Int32))])) X0.here hx rfl (hb hby at_1) rfl (X0.ldcInt hx hown (mvT hZ (hw _ (List.mem_of_getElem? (i := 0) rfl))) (g := (mkF m 2 #[.val (.int p0), .val (.int p1), .val (.int p2), .val (.int p3), .val (.int p4), .unset, .unset, .unset, .unset, .unset, .unset] [(.int p0), (.int (1 : Int32))])) rfl (hb hby at_2) tq (XS.iand (g := (mkF m 4 #[.val (.int p0), .val (.int p1), .val (.int p2), .val (.int p3), .val (.int p4), .unset, .unset, .unset, .unset, .unset, .unset] [(.int (2147483647 : Int32)), (.int p0), (.int (1 : Int32))])) X0.here hx rfl (hb hby at_4) rfl (XS.bipush (g := (mkF m 5 #[.val (.int p0), .val (.int p1), .val (.int p2), .val (.int p3), .val (.int p4), .unset, .unset, .unset, .unset, .unset, .unset] [(.int (p0 &&& (2147483647 : Int32))), (.int (1 : Int32))])) X0.here hx rfl (hb hby at_5) (iremM (g := (mkF m 7 #[.val (.int p0), .val (.int p1), .val (.int p2), .val (.int p3), .val (.int p4), .unset, .unset, .unset, .unset, .unset, .unset] [(.int (100 : Int32)), (.int (p0 &&& (2147483647 : Int32))), (.int (1 : Int32))])) X0 hx rfl (hb hby at_7) rfl (by decide) (XS.iadd (g := (mkF m 8 #[.val (.int p0), .val (.int p1), .val (.int p2), .val (.int p3), .val (.int p4), .unset, .unset, .unset, .unset, .unset, .unset] [(.int ((p0 &&& (2147483647 : Int32)) % (100 : Int32))), (.int (1 : Int32))])) X0.here hx rfl (hb hby at_8) rfl (XS.istore (g := (mkF m 9 #[.val (.int p0), .val (.int p1), .val (.int p2), .val (.int p3), .val (.int p4), .unset, .unset, .unset, .unset, .unset, .unset] [(.int ((1 : Int32) + ((p0 &&& (2147483647 : Int32)) % (100 : Int32))))])) X0.here hx rfl (hb hby at_9) rfl (l' := #[.val (.int p0), .val (.int p1), .val (.int p2), .val (.int p3), .val (.int p4), .val (.int ((1 : Int32) + ((p0 &&& (2147483647 : Int32)) % (100 : Int32)))), .unset, .unset, .unset, .unset, .unset]) rfl kq)))))))) ?_
  generalize hu85 : ((1 : Int32) + ((p0 &&& (2147483647 : Int32)) % (100 : Int32))) = u85
  have hf : 1 ≤ u85.toInt ∧ u85.toInt ≤ 100 := by rw [← hu85]; exact own_f p0
  refine own_st (T' := s₁) (g' := (mkF m 26 #[.val (.int p0), .val (.int p1), .val (.int p2), .val (.int p3), .val (.int p4), .val (.int u85), .val (.int (u85 + ((p1 &&& (2147483647 : Int32)) % ((101 : Int32) - u85)))), .unset, .unset, .unset, .unset] [])) (fun tq kq => XS.iload (g := (mkF m 11 #[.val (.int p0), .val (.int p1), .val (.int p2), .val (.int p3), .val (.int p4), .val (.int u85), .unset, .unset, .unset, .unset, .unset] [])) X0.here hx rfl (hb hby at_11) rfl (XS.iloadN (g := (mkF m 13 #[.val (.int p0), .val (.int p1), .val (.int p2), .val (.int p3), .val (.int p4), .val (.int u85), .unset, .unset, .unset, .unset, .unset] [(.int u85)])) X0.here hx rfl (hb hby at_13) rfl (X0.ldcInt hx hown (mvT hZ (hw _ (List.mem_of_getElem? (i := 0) rfl))) (g := (mkF m 14 #[.val (.int p0), .val (.int p1), .val (.int p2), .val (.int p3), .val (.int p4), .val (.int u85), .unset, .unset, .unset, .unset, .unset] [(.int p1), (.int u85)])) rfl (hb hby at_14) tq (XS.iand (g := (mkF m 16 #[.val (.int p0), .val (.int p1), .val (.int p2), .val (.int p3), .val (.int p4), .val (.int u85), .unset, .unset, .unset, .unset, .unset] [(.int (2147483647 : Int32)), (.int p1), (.int u85)])) X0.here hx rfl (hb hby at_16) rfl (XS.bipush (g := (mkF m 17 #[.val (.int p0), .val (.int p1), .val (.int p2), .val (.int p3), .val (.int p4), .val (.int u85), .unset, .unset, .unset, .unset, .unset] [(.int (p1 &&& (2147483647 : Int32))), (.int u85)])) X0.here hx rfl (hb hby at_17) (XS.iload (g := (mkF m 19 #[.val (.int p0), .val (.int p1), .val (.int p2), .val (.int p3), .val (.int p4), .val (.int u85), .unset, .unset, .unset, .unset, .unset] [(.int (101 : Int32)), (.int (p1 &&& (2147483647 : Int32))), (.int u85)])) X0.here hx rfl (hb hby at_19) rfl (XS.isub (g := (mkF m 21 #[.val (.int p0), .val (.int p1), .val (.int p2), .val (.int p3), .val (.int p4), .val (.int u85), .unset, .unset, .unset, .unset, .unset] [(.int u85), (.int (101 : Int32)), (.int (p1 &&& (2147483647 : Int32))), (.int u85)])) X0.here hx rfl (hb hby at_21) rfl (iremM (g := (mkF m 22 #[.val (.int p0), .val (.int p1), .val (.int p2), .val (.int p3), .val (.int p4), .val (.int u85), .unset, .unset, .unset, .unset, .unset] [(.int ((101 : Int32) - u85)), (.int (p1 &&& (2147483647 : Int32))), (.int u85)])) X0 hx rfl (hb hby at_22) rfl (own_101n hf) (XS.iadd (g := (mkF m 23 #[.val (.int p0), .val (.int p1), .val (.int p2), .val (.int p3), .val (.int p4), .val (.int u85), .unset, .unset, .unset, .unset, .unset] [(.int ((p1 &&& (2147483647 : Int32)) % ((101 : Int32) - u85))), (.int u85)])) X0.here hx rfl (hb hby at_23) rfl (XS.istore (g := (mkF m 24 #[.val (.int p0), .val (.int p1), .val (.int p2), .val (.int p3), .val (.int p4), .val (.int u85), .unset, .unset, .unset, .unset, .unset] [(.int (u85 + ((p1 &&& (2147483647 : Int32)) % ((101 : Int32) - u85))))])) X0.here hx rfl (hb hby at_24) rfl (l' := #[.val (.int p0), .val (.int p1), .val (.int p2), .val (.int p3), .val (.int p4), .val (.int u85), .val (.int (u85 + ((p1 &&& (2147483647 : Int32)) % ((101 : Int32) - u85)))), .unset, .unset, .unset, .unset]) rfl kq)))))))))) ?_
  generalize hu86 : (u85 + ((p1 &&& (2147483647 : Int32)) % ((101 : Int32) - u85))) = u86
  have hm : u85.toInt ≤ u86.toInt ∧ u86.toInt ≤ 100 := by rw [← hu86]; exact own_m hf
  refine own_st (T' := s₁) (g' := (mkF m 29 #[.val (.int p0), .val (.int p1), .val (.int p2), .val (.int p3), .val (.int p4), .val (.int u85), .val (.int u86), .unset, .unset, .unset, .unset] [(.int (p2 &&& (1 : Int32)))])) (fun tq kq => XS.iloadN (g := (mkF m 26 #[.val (.int p0), .val (.int p1), .val (.int p2), .val (.int p3), .val (.int p4), .val (.int u85), .val (.int u86), .unset, .unset, .unset, .unset] [])) X0.here hx rfl (hb hby at_26) rfl (XS.iconst (g := (mkF m 27 #[.val (.int p0), .val (.int p1), .val (.int p2), .val (.int p3), .val (.int p4), .val (.int u85), .val (.int u86), .unset, .unset, .unset, .unset] [(.int p2)])) X0.here hx rfl (hb hby at_27) (XS.iand (g := (mkF m 28 #[.val (.int p0), .val (.int p1), .val (.int p2), .val (.int p3), .val (.int p4), .val (.int u85), .val (.int u86), .unset, .unset, .unset, .unset] [(.int (1 : Int32)), (.int p2)])) X0.here hx rfl (hb hby at_28) rfl kq))) ?_
  suffices J41_dv : ∀ (dv : Addr) (T87 : State) (L87 : List Loc), Stand p l e room_1 Z m #[(.int p0), (.int p1), (.int p2), (.int p3), (.int p4)] below meth c T87 L87 0 0 → T87.heap = h0 → Fr n0 L87 → True → own_GoW p e below Z (fun v h L => v = some (.int 1) ∧ Fr n0 L) room_1.cells room_1.slots T87 (mkF m 41 #[.val (.int p0), .val (.int p1), .val (.int p2), .val (.int p3), .val (.int p4), .val (.int u85), .val (.int u86), .unset, .unset, .unset, .unset] [(.ref dv)]) by
    by_cases hc29_88 : (p2 &&& (1 : Int32)) = (0 : Int32)
    · refine own_st (T' := s₁) (g' := (mkF m 38 #[.val (.int p0), .val (.int p1), .val (.int p2), .val (.int p3), .val (.int p4), .val (.int u85), .val (.int u86), .unset, .unset, .unset, .unset] [])) (fun tq kq => XS.ifYes (g := (mkF m 29 #[.val (.int p0), .val (.int p1), .val (.int p2), .val (.int p3), .val (.int p4), .val (.int u85), .val (.int u86), .unset, .unset, .unset, .unset] [(.int (p2 &&& (1 : Int32)))])) X0.here hx rfl (pc0 := 29) (pc' := 38) rfl (hb hby at_29) rfl ((if0 _ _).trans (teq hc29_88).1) (by decide) (by decide) kq) ?_
      obtain ⟨T89, X89, e89, st89⟩ := getS2 X0 hx hZ hown (host := "") (Or.inl (hw _ (List.mem_of_getElem? (i := 1) rfl))) Via.refl e0 S2 (g := (mkF m 38 #[.val (.int p0), .val (.int p1), .val (.int p2), .val (.int p3), .val (.int p4), .val (.int u85), .val (.int u86), .unset, .unset, .unset, .unset] [])) rfl (hb hby at_38)
      refine own_st (g' := (mkF m 41 #[.val (.int p0), .val (.int p1), .val (.int p2), .val (.int p3), .val (.int p4), .val (.int u85), .val (.int u86), .unset, .unset, .unset, .unset] [(.ref d2)])) st89 ?_
      exact J41_dv d2 _ _ X89 e89 N0 (trivial)
    · refine own_st (T' := s₁) (g' := (mkF m 32 #[.val (.int p0), .val (.int p1), .val (.int p2), .val (.int p3), .val (.int p4), .val (.int u85), .val (.int u86), .unset, .unset, .unset, .unset] [])) (fun tq kq => XS.ifNo (g := (mkF m 29 #[.val (.int p0), .val (.int p1), .val (.int p2), .val (.int p3), .val (.int p4), .val (.int u85), .val (.int u86), .unset, .unset, .unset, .unset] [(.int (p2 &&& (1 : Int32)))])) X0.here hx rfl (hb hby at_29) rfl ((if0 _ _).trans (feq hc29_88).1) kq) ?_
      obtain ⟨T90, X90, e90, st90⟩ := getS2 X0 hx hZ hown (host := "") (Or.inl (hw _ (List.mem_of_getElem? (i := 80) rfl))) Via.refl e0 S1 (g := (mkF m 32 #[.val (.int p0), .val (.int p1), .val (.int p2), .val (.int p3), .val (.int p4), .val (.int u85), .val (.int u86), .unset, .unset, .unset, .unset] [])) rfl (hb hby at_32)
      refine own_st (g' := (mkF m 35 #[.val (.int p0), .val (.int p1), .val (.int p2), .val (.int p3), .val (.int p4), .val (.int u85), .val (.int u86), .unset, .unset, .unset, .unset] [(.ref d1)])) st90 ?_
      refine own_st (T' := T90) (g' := (mkF m 41 #[.val (.int p0), .val (.int p1), .val (.int p2), .val (.int p3), .val (.int p4), .val (.int u85), .val (.int u86), .unset, .unset, .unset, .unset] [(.ref d1)])) (fun tq kq => XS.goto (g := (mkF m 35 #[.val (.int p0), .val (.int p1), .val (.int p2), .val (.int p3), .val (.int p4), .val (.int u85), .val (.int u86), .unset, .unset, .unset, .unset] [(.ref d1)])) X90.here hx rfl (pc0 := 35) (pc' := 41) rfl (hb hby at_35) (by decide) (by decide) kq) ?_
      exact J41_dv d1 _ _ X90 e90 N0 (trivial)
  intro dv T87 L87 X87 e87 N87 hdv
  refine own_st (T' := T87) (g' := (mkF m 43 #[.val (.int p0), .val (.int p1), .val (.int p2), .val (.int p3), .val (.int p4), .val (.int u85), .val (.int u86), .val (.ref dv), .unset, .unset, .unset] [])) (fun tq kq => XS.astore (g := (mkF m 41 #[.val (.int p0), .val (.int p1), .val (.int p2), .val (.int p3), .val (.int p4), .val (.int u85), .val (.int u86), .unset, .unset, .unset, .unset] [(.ref dv)])) X87.here hx rfl (hb hby at_41) rfl rfl (l' := #[.val (.int p0), .val (.int p1), .val (.int p2), .val (.int p3), .val (.int p4), .val (.int u85), .val (.int u86), .val (.ref dv), .unset, .unset, .unset]) rfl kq) ?_
  obtain ⟨T91, h91, b91, X91, e91, g91, E91, C91, D91, st91⟩ := own_newO X87 hx hZ hown (hw _ (List.mem_of_getElem? (i := 4) rfl)) (hw _ (List.mem_of_getElem? (i := 5) rfl)) (hw _ (List.mem_of_getElem? (i := 6) rfl)) e87 (by decide) (by decide) (g := (mkF m 43 #[.val (.int p0), .val (.int p1), .val (.int p2), .val (.int p3), .val (.int p4), .val (.int u85), .val (.int u86), .val (.ref dv), .unset, .unset, .unset] [])) rfl (hb hby at_43)
  refine own_st (g' := (mkF m 46 #[.val (.int p0), .val (.int p1), .val (.int p2), .val (.int p3), .val (.int p4), .val (.int u85), .val (.int u86), .val (.ref dv), .unset, .unset, .unset] [(.ref b91)])) st91 ?_
  have F91_fewestYears : Fld Z h91 b91 "com/example/planscribe/planscribe/model/Distribution$Installments" "fewestYears" "I" (.int (0 : Int32)) := D91 (Or.inr (hw _ (List.mem_of_getElem? (i := 57) rfl))) (ty := .int) (by decide)
  have F91_mostYears : Fld Z h91 b91 "com/example/planscribe/planscribe/model/Distribution$Installments" "mostYears" "I" (.int (0 : Int32)) := D91 (Or.inr (hw _ (List.mem_of_getElem? (i := 59) rfl))) (ty := .int) (by decide)
  have F91_divisor : Fld Z h91 b91 "com/example/planscribe/planscribe/model/Distribution$Installments" "divisor" "Lcom/example/planscribe/planscribe/model/Distribution$Divisor;" .null := D91 (Or.inr (hw _ (List.mem_of_getElem? (i := 61) rfl))) (ty := (.object "com/example/planscribe/planscribe/model/Distribution$Divisor")) (by decide)
  have F91_minimumAYear : Fld Z h91 b91 "com/example/planscribe/planscribe/model/Distribution$Installments" "minimumAYear" "Ljava/util/Optional;" .null := D91 (Or.inr (hw _ (List.mem_of_getElem? (i := 63) rfl))) (ty := (.object "java/util/Optional")) (by decide)
  refine own_st (T' := T91) (g' := (mkF m 53 #[.val (.int p0), .val (.int p1), .val (.int p2), .val (.int p3), .val (.int p4), .val (.int u85), .val (.int u86), .val (.ref dv), .unset, .unset, .unset] [(.ref dv), (.int u86), (.int u85), (.ref b91), (.ref b91)])) (fun tq kq => XS.dup (g := (mkF m 46 #[.val (.int p0), .val (.int p1), .val (.int p2), .val (.int p3), .val (.int p4), .val (.int u85), .val (.int u86), .val (.ref dv), .unset, .unset, .unset] [(.ref b91)])) X91.here hx rfl (hb hby at_46) rfl rfl (XS.iload (g := (mkF m 47 #[.val (.int p0), .val (.int p1), .val (.int p2), .val (.int p3), .val (.int p4), .val (.int u85), .val (.int u86), .val (.ref dv), .unset, .unset, .unset] [(.ref b91), (.ref b91)])) X91.here hx rfl (hb hby at_47) rfl (XS.iload (g := (mkF m 49 #[.val (.int p0), .val (.int p1), .val (.int p2), .val (.int p3), .val (.int p4), .val (.int u85), .val (.int u86), .val (.ref dv), .unset, .unset, .unset] [(.int u85), (.ref b91), (.ref b91)])) X91.here hx rfl (hb hby at_49) rfl (XS.aload (g := (mkF m 51 #[.val (.int p0), .val (.int p1), .val (.int p2), .val (.int p3), .val (.int p4), .val (.int u85), .val (.int u86), .val (.ref dv), .unset, .unset, .unset] [(.int u86), (.int u85), (.ref b91), (.ref b91)])) X91.here hx rfl (hb hby at_51) rfl rfl kq)))) ?_
  have Sjava_util_Optional_92 := (Sta.ext E91 So)
  refine own_callS X91 hx hZ (y := (⟨"java/util/Optional", "empty", "()Ljava/util/Optional;"⟩ : MethodName)) (argsL := []) hown (hw _ (List.mem_of_getElem? (i := 7) rfl)) (hw _ (List.mem_of_getElem? (i := 8) rfl)) (hw _ (List.mem_of_getElem? (i := 9) rfl)) (hw _ (List.mem_of_getElem? (i := 10) rfl)) (by decide) e91 (own_rm1 l Z a0 hw  oe h91 n0 (Nat.le_trans Z0 E91.1) Sjava_util_Optional_92) (W := 5) (by decide) (by decide) (by decide) (by decide) pd5 rfl (g := (mkF m 53 #[.val (.int p0), .val (.int p1), .val (.int p2), .val (.int p3), .val (.int p4), .val (.int u85), .val (.int u86), .val (.ref dv), .unset, .unset, .unset] [(.ref dv), (.int u86), (.int u85), (.ref b91), (.ref b91)])) rfl (by rw [hml]; rfl) (rest := [(.ref dv), (.int u86), (.int u85), (.ref b91), (.ref b91)]) rfl (by show 2 * 0 + _ ≤ _; exact Nat.le_of_eq rfl) (hb hby at_53) (fun v93 T93 L93 X93 q93 => ?_)
  obtain ⟨rfl, N93q, e93⟩ := q93
  have N93 := Fr.app N87 N93q
  replace e93 := e93
  show own_GoF _ _ _ _ _ T93 (mkF m 56 #[.val (.int p0), .val (.int p1), .val (.int p2), .val (.int p3), .val (.int p4), .val (.int u85), .val (.int u86), .val (.ref dv), .unset, .unset, .unset] [(.ref oe), (.ref dv), (.int u86), (.int u85), (.ref b91), (.ref b91)])
  have Scom_example_planscribe_planscribe_model_PaymentForm_94 := (Sta.ext E91 Sy)
  have Eyr_95 := (Exa.ext E91 Ey)
  have Fyr_least_96 := (Fld.ext E91 Fl)
  have Fyr_most_97 := (Fld.ext E91 Fm)
  have Eoe_98 := (Exa.ext E91 Eo)
  have Foe_value_99 := (Fld.ext E91 Fo)
  have n0_b91 : n0 ≤ b91 := Nat.le_trans (Nat.le_trans Z0 (Nat.le_refl _)) (Nat.le_of_eq g91.symm)
  refine own_callIS X93 hx hZ (y := (⟨"com/example/planscribe/planscribe/model/Distribution$Installments", "<init>", "(IILcom/example/planscribe/planscribe/model/Distribution$Divisor;Ljava/util/Optional;)V"⟩ : MethodName)) (argsL := [(.int u85), (.int u86), (.ref dv), (.ref oe)]) (a := b91) rfl hown (hw _ (List.mem_of_getElem? (i := 12) rfl)) (hw _ (List.mem_of_getElem? (i := 13) rfl)) (hw _ (List.mem_of_getElem? (i := 6) rfl)) (hw _ (List.mem_of_getElem? (i := 14) rfl)) (by decide) e93 (own_rm2 l Z a0 hw b91 u85 u86 dv oe yr h91 n0 (Nat.le_trans Z0 E91.1) n0_b91 C91 F91_fewestYears F91_mostYears F91_divisor F91_minimumAYear Scom_example_planscribe_planscribe_model_PaymentForm_94 Eyr_95 Fyr_least_96 Fyr_most_97 Eoe_98 Foe_value_99 hf hm) (W := 1) (by decide) (by decide) (by decide) (by decide) pd6 rfl (g := (mkF m 56 #[.val (.int p0), .val (.int p1), .val (.int p2), .val (.int p3), .val (.int p4), .val (.int u85), .val (.int u86), .val (.ref dv), .unset, .unset, .unset] [(.ref oe), (.ref dv), (.int u86), (.int u85), (.ref b91), (.ref b91)])) rfl (by rw [hml]; rfl) (rest := [(.ref b91)]) rfl (by show 2 * 0 + _ ≤ _; exact Nat.le_of_eq rfl) (hb hby at_56) (fun v100 T100 L100 X100 S100 hZ hown q100 => ?_)
  obtain ⟨h100, e100⟩ : ∃ z, T100.heap = z := ⟨_, rfl⟩
  rw [e100] at q100
  obtain ⟨rfl, N100q, K100, E100, F100_fewestYears, F100_mostYears, F100_divisor, F100_minimumAYear⟩ := q100
  have N100 := Fr.app N93 N100q
  show own_GoF _ _ _ _ _ T100 (mkF m 59 #[.val (.int p0), .val (.int p1), .val (.int p2), .val (.int p3), .val (.int p4), .val (.int u85), .val (.int u86), .val (.ref dv), .unset, .unset, .unset] [(.ref b91)])
  refine own_st (T' := T100) (g' := (mkF m 71 #[.val (.int p0), .val (.int p1), .val (.int p2), .val (.int p3), .val (.int p4), .val (.int u85), .val (.int u86), .val (.ref dv), .val (.ref b91), .val (.int ((p4 &&& (127 : Int32)) - (13 : Int32))), .unset] [])) (fun tq kq => XS.astore (g := (mkF m 59 #[.val (.int p0), .val (.int p1), .val (.int p2), .val (.int p3), .val (.int p4), .val (.int u85), .val (.int u86), .val (.ref dv), .unset, .unset, .unset] [(.ref b91)])) X100.here hx rfl (hb hby at_59) rfl rfl (l' := #[.val (.int p0), .val (.int p1), .val (.int p2), .val (.int p3), .val (.int p4), .val (.int u85), .val (.int u86), .val (.ref dv), .val (.ref b91), .unset, .unset]) rfl (XS.iload (g := (mkF m 61 #[.val (.int p0), .val (.int p1), .val (.int p2), .val (.int p3), .val (.int p4), .val (.int u85), .val (.int u86), .val (.ref dv), .val (.ref b91), .unset, .unset] [])) X100.here hx rfl (hb hby at_61) rfl (XS.bipush (g := (mkF m 63 #[.val (.int p0), .val (.int p1), .val (.int p2), .val (.int p3), .val (.int p4), .val (.int u85), .val (.int u86), .val (.ref dv), .val (.ref b91), .unset, .unset] [(.int p4)])) X100.here hx rfl (hb hby at_63) (XS.iand (g := (mkF m 65 #[.val (.int p0), .val (.int p1), .val (.int p2), .val (.int p3), .val (.int p4), .val (.int u85), .val (.int u86), .val (.ref dv), .val (.ref b91), .unset, .unset] [(.int (127 : Int32)), (.int p4)])) X100.here hx rfl (hb hby at_65) rfl (XS.bipush (g := (mkF m 66 #[.val (.int p0), .val (.int p1), .val (.int p2), .val (.int p3), .val (.int p4), .val (.int u85), .val (.int u86), .val (.ref dv), .val (.ref b91), .unset, .unset] [(.int (p4 &&& (127 : Int32)))])) X100.here hx rfl (hb hby at_66) (XS.isub (g := (mkF m 68 #[.val (.int p0), .val (.int p1), .val (.int p2), .val (.int p3), .val (.int p4), .val (.int u85), .val (.int u86), .val (.ref dv), .val (.ref b91), .unset, .unset] [(.int (13 : Int32)), (.int (p4 &&& (127 : Int32)))])) X100.here hx rfl (hb hby at_68) rfl (XS.istore (g := (mkF m 69 #[.val (.int p0), .val (.int p1), .val (.int p2), .val (.int p3), .val (.int p4), .val (.int u85), .val (.int u86), .val (.ref dv), .val (.ref b91), .unset, .unset] [(.int ((p4 &&& (127 : Int32)) - (13 : Int32)))])) X100.here hx rfl (hb hby at_69) rfl (l' := #[.val (.int p0), .val (.int p1), .val (.int p2), .val (.int p3), .val (.int p4), .val (.int u85), .val (.int u86), .val (.ref dv), .val (.ref b91), .val (.int ((p4 &&& (127 : Int32)) - (13 : Int32))), .unset]) rfl kq))))))) ?_
  generalize hu101 : ((p4 &&& (127 : Int32)) - (13 : Int32)) = u101
  refine own_st (T' := T100) (g' := (mkF m 75 #[.val (.int p0), .val (.int p1), .val (.int p2), .val (.int p3), .val (.int p4), .val (.int u85), .val (.int u86), .val (.ref dv), .val (.ref b91), .val (.int u101), .unset] [(.int u85), (.ref b91)])) (fun tq kq => XS.aload (g := (mkF m 71 #[.val (.int p0), .val (.int p1), .val (.int p2), .val (.int p3), .val (.int p4), .val (.int u85), .val (.int u86), .val (.ref dv), .val (.ref b91), .val (.int u101), .unset] [])) X100.here hx rfl (hb hby at_71) rfl rfl (XS.iload (g := (mkF m 73 #[.val (.int p0), .val (.int p1), .val (.int p2), .val (.int p3), .val (.int p4), .val (.int u85), .val (.int u86), .val (.ref dv), .val (.ref b91), .val (.int u101), .unset] [(.ref b91)])) X100.here hx rfl (hb hby at_73) rfl kq)) ?_
  refine own_callV X100 hx hZ (y := (⟨"com/example/planscribe/planscribe/model/Distribution$Installments", "over", "(I)Z"⟩ : MethodName)) (z := (⟨"com/example/planscribe/planscribe/model/Distribution$Installments", "over", "(I)Z"⟩ : MethodName)) (argsL := [(.int u85)]) (a := b91) hown (hw _ (List.mem_of_getElem? (i := 64) rfl)) (hw _ (List.mem_of_getElem? (i := 65) rfl)) (notFace_of_selects (args := #[]) (mvT hZ (hw _ (List.mem_of_getElem? (i := 67) rfl)))) (hw _ (List.mem_of_getElem? (i := 67) rfl)) (hw _ (List.mem_of_getElem? (i := 66) rfl)) (hw _ (List.mem_of_getElem? (i := 6) rfl)) (hw _ (List.mem_of_getElem? (i := 68) rfl)) (by decide) e100 E100 (own_rm8 l Z a0 hw b91 u85 u85 u86 h100 n0 (Nat.le_trans Z0 (Nat.le_trans E91.1 K100.1)) F100_fewestYears F100_mostYears) (W := 0) (by decide) (by decide) (by decide) (by decide) pd7 rfl (g := (mkF m 75 #[.val (.int p0), .val (.int p1), .val (.int p2), .val (.int p3), .val (.int p4), .val (.int u85), .val (.int u86), .val (.ref dv), .val (.ref b91), .val (.int u101), .unset] [(.int u85), (.ref b91)])) rfl (by rw [hml]; rfl) (rest := []) rfl (by show 2 * 0 + _ ≤ _; exact Nat.le_of_eq rfl) (hb hby at_75) (fun v102 T102 L102 X102 q102 => ?_)
  obtain ⟨rfl, N102q, e102⟩ := q102
  have N102 := Fr.app N100 N102q
  replace e102 := e102
  show own_GoF _ _ _ _ _ T102 (mkF m 78 #[.val (.int p0), .val (.int p1), .val (.int p2), .val (.int p3), .val (.int p4), .val (.int u85), .val (.int u86), .val (.ref dv), .val (.ref b91), .val (.int u101), .unset] [(.int (own_ov u85 u86 u85))])
  have hb103 : ¬ ((own_ov u85 u86 u85) = (0 : Int32)) := by rw [own_o1 hf hm]; decide
  refine own_st (T' := T102) (g' := (mkF m 85 #[.val (.int p0), .val (.int p1), .val (.int p2), .val (.int p3), .val (.int p4), .val (.int u85), .val (.int u86), .val (.ref dv), .val (.ref b91), .val (.int u101), .unset] [(.int u86), (.ref b91)])) (fun tq kq => XS.ifNo (g := (mkF m 78 #[.val (.int p0), .val (.int p1), .val (.int p2), .val (.int p3), .val (.int p4), .val (.int u85), .val (.int u86), .val (.ref dv), .val (.ref b91), .val (.int u101), .unset] [(.int (own_ov u85 u86 u85))])) X102.here hx rfl (hb hby at_78) rfl ((if0 _ _).trans (feq hb103).1) (XS.aload (g := (mkF m 81 #[.val (.int p0), .val (.int p1), .val (.int p2), .val (.int p3), .val (.int p4), .val (.int u85), .val (.int u86), .val (.ref dv), .val (.ref b91), .val (.int u101), .unset] [])) X102.here hx rfl (hb hby at_81) rfl rfl (XS.iload (g := (mkF m 83 #[.val (.int p0), .val (.int p1), .val (.int p2), .val (.int p3), .val (.int p4), .val (.int u85), .val (.int u86), .val (.ref dv), .val (.ref b91), .val (.int u101), .unset] [(.ref b91)])) X102.here hx rfl (hb hby at_83) rfl kq))) ?_
  refine own_callV X102 hx hZ (y := (⟨"com/example/planscribe/planscribe/model/Distribution$Installments", "over", "(I)Z"⟩ : MethodName)) (z := (⟨"com/example/planscribe/planscribe/model/Distribution$Installments", "over", "(I)Z"⟩ : MethodName)) (argsL := [(.int u86)]) (a := b91) hown (hw _ (List.mem_of_getElem? (i := 64) rfl)) (hw _ (List.mem_of_getElem? (i := 65) rfl)) (notFace_of_selects (args := #[]) (mvT hZ (hw _ (List.mem_of_getElem? (i := 67) rfl)))) (hw _ (List.mem_of_getElem? (i := 67) rfl)) (hw _ (List.mem_of_getElem? (i := 66) rfl)) (hw _ (List.mem_of_getElem? (i := 6) rfl)) (hw _ (List.mem_of_getElem? (i := 68) rfl)) (by decide) e102 E100 (own_rm8 l Z a0 hw b91 u86 u85 u86 h100 n0 (Nat.le_trans Z0 (Nat.le_trans E91.1 K100.1)) F100_fewestYears F100_mostYears) (W := 0) (by decide) (by decide) (by decide) (by decide) pd7 rfl (g := (mkF m 85 #[.val (.int p0), .val (.int p1), .val (.int p2), .val (.int p3), .val (.int p4), .val (.int u85), .val (.int u86), .val (.ref dv), .val (.ref b91), .val (.int u101), .unset] [(.int u86), (.ref b91)])) rfl (by rw [hml]; rfl) (rest := []) rfl (by show 2 * 0 + _ ≤ _; exact Nat.le_of_eq rfl) (hb hby at_85) (fun v104 T104 L104 X104 q104 => ?_)
  obtain ⟨rfl, N104q, e104⟩ := q104
  have N104 := Fr.app N102 N104q
  replace e104 := e104
  show own_GoF _ _ _ _ _ T104 (mkF m 88 #[.val (.int p0), .val (.int p1), .val (.int p2), .val (.int p3), .val (.int p4), .val (.int u85), .val (.int u86), .val (.ref dv), .val (.ref b91), .val (.int u101), .unset] [(.int (own_ov u85 u86 u86))])
  have hb105 : ¬ ((own_ov u85 u86 u86) = (0 : Int32)) := by rw [own_o2 hf hm]; decide
  refine own_st (T' := T104) (g' := (mkF m 97 #[.val (.int p0), .val (.int p1), .val (.int p2), .val (.int p3), .val (.int p4), .val (.int u85), .val (.int u86), .val (.ref dv), .val (.ref b91), .val (.int u101), .unset] [(.int (u85 - (1 : Int32))), (.ref b91)])) (fun tq kq => XS.ifNo (g := (mkF m 88 #[.val (.int p0), .val (.int p1), .val (.int p2), .val (.int p3), .val (.int p4), .val (.int u85), .val (.int u86), .val (.ref dv), .val (.ref b91), .val (.int u101), .unset] [(.int (own_ov u85 u86 u86))])) X104.here hx rfl (hb hby at_88) rfl ((if0 _ _).trans (feq hb105).1) (XS.aload (g := (mkF m 91 #[.val (.int p0), .val (.int p1), .val (.int p2), .val (.int p3), .val (.int p4), .val (.int u85), .val (.int u86), .val (.ref dv), .val (.ref b91), .val (.int u101), .unset] [])) X104.here hx rfl (hb hby at_91) rfl rfl (XS.iload (g := (mkF m 93 #[.val (.int p0), .val (.int p1), .val (.int p2), .val (.int p3), .val (.int p4), .val (.int u85), .val (.int u86), .val (.ref dv), .val (.ref b91), .val (.int u101), .unset] [(.ref b91)])) X104.here hx rfl (hb hby at_93) rfl (XS.iconst (g := (mkF m 95 #[.val (.int p0), .val (.int p1), .val (.int p2), .val (.int p3), .val (.int p4), .val (.int u85), .val (.int u86), .val (.ref dv), .val (.ref b91), .val (.int u101), .unset] [(.int u85), (.ref b91)])) X104.here hx rfl (hb hby at_95) (XS.isub (g := (mkF m 96 #[.val (.int p0), .val (.int p1), .val (.int p2), .val (.int p3), .val (.int p4), .val (.int u85), .val (.int u86), .val (.ref dv), .val (.ref b91), .val (.int u101), .unset] [(.int (1 : Int32)), (.int u85), (.ref b91)])) X104.here hx rfl (hb hby at_96) rfl kq))))) ?_
  refine own_callV X104 hx hZ (y := (⟨"com/example/planscribe/planscribe/model/Distribution$Installments", "over", "(I)Z"⟩ : MethodName)) (z := (⟨"com/example/planscribe/planscribe/model/Distribution$Installments", "over", "(I)Z"⟩ : MethodName)) (argsL := [(.int (u85 - (1 : Int32)))]) (a := b91) hown (hw _ (List.mem_of_getElem? (i := 64) rfl)) (hw _ (List.mem_of_getElem? (i := 65) rfl)) (notFace_of_selects (args := #[]) (mvT hZ (hw _ (List.mem_of_getElem? (i := 67) rfl)))) (hw _ (List.mem_of_getElem? (i := 67) rfl)) (hw _ (List.mem_of_getElem? (i := 66) rfl)) (hw _ (List.mem_of_getElem? (i := 6) rfl)) (hw _ (List.mem_of_getElem? (i := 68) rfl)) (by decide) e104 E100 (own_rm8 l Z a0 hw b91 (u85 - (1 : Int32)) u85 u86 h100 n0 (Nat.le_trans Z0 (Nat.le_trans E91.1 K100.1)) F100_fewestYears F100_mostYears) (W := 0) (by decide) (by decide) (by decide) (by decide) pd7 rfl (g := (mkF m 97 #[.val (.int p0), .val (.int p1), .val (.int p2), .val (.int p3), .val (.int p4), .val (.int u85), .val (.int u86), .val (.ref dv), .val (.ref b91), .val (.int u101), .unset] [(.int (u85 - (1 : Int32))), (.ref b91)])) rfl (by rw [hml]; rfl) (rest := []) rfl (by show 2 * 0 + _ ≤ _; exact Nat.le_of_eq rfl) (hb hby at_97) (fun v106 T106 L106 X106 q106 => ?_)
  obtain ⟨rfl, N106q, e106⟩ := q106
  have N106 := Fr.app N104 N106q
  replace e106 := e106
  show own_GoF _ _ _ _ _ T106 (mkF m 100 #[.val (.int p0), .val (.int p1), .val (.int p2), .val (.int p3), .val (.int p4), .val (.int u85), .val (.int u86), .val (.ref dv), .val (.ref b91), .val (.int u101), .unset] [(.int (own_ov u85 u86 (u85 - (1 : Int32))))])
  have hb107 : (own_ov u85 u86 (u85 - (1 : Int32))) = (0 : Int32) := by exact own_o3 hf hm
  refine own_st (T' := T106) (g' := (mkF m 109 #[.val (.int p0), .val (.int p1), .val (.int p2), .val (.int p3), .val (.int p4), .val (.int u85), .val (.int u86), .val (.ref dv), .val (.ref b91), .val (.int u101), .unset] [(.int (u86 + (1 : Int32))), (.ref b91)])) (fun tq kq => XS.ifNo (g := (mkF m 100 #[.val (.int p0), .val (.int p1), .val (.int p2), .val (.int p3), .val (.int p4), .val (.int u85), .val (.int u86), .val (.ref dv), .val (.ref b91), .val (.int u101), .unset] [(.int (own_ov u85 u86 (u85 - (1 : Int32))))])) X106.here hx rfl (hb hby at_100) rfl ((if0 _ _).trans (teq hb107).2) (XS.aload (g := (mkF m 103 #[.val (.int p0), .val (.int p1), .val (.int p2), .val (.int p3), .val (.int p4), .val (.int u85), .val (.int u86), .val (.ref dv), .val (.ref b91), .val (.int u101), .unset] [])) X106.here hx rfl (hb hby at_103) rfl rfl (XS.iload (g := (mkF m 105 #[.val (.int p0), .val (.int p1), .val (.int p2), .val (.int p3), .val (.int p4), .val (.int u85), .val (.int u86), .val (.ref dv), .val (.ref b91), .val (.int u101), .unset] [(.ref b91)])) X106.here hx rfl (hb hby at_105) rfl (XS.iconst (g := (mkF m 107 #[.val (.int p0), .val (.int p1), .val (.int p2), .val (.int p3), .val (.int p4), .val (.int u85), .val (.int u86), .val (.ref dv), .val (.ref b91), .val (.int u101), .unset] [(.int u86), (.ref b91)])) X106.here hx rfl (hb hby at_107) (XS.iadd (g := (mkF m 108 #[.val (.int p0), .val (.int p1), .val (.int p2), .val (.int p3), .val (.int p4), .val (.int u85), .val (.int u86), .val (.ref dv), .val (.ref b91), .val (.int u101), .unset] [(.int (1 : Int32)), (.int u86), (.ref b91)])) X106.here hx rfl (hb hby at_108) rfl kq))))) ?_
  refine own_callV X106 hx hZ (y := (⟨"com/example/planscribe/planscribe/model/Distribution$Installments", "over", "(I)Z"⟩ : MethodName)) (z := (⟨"com/example/planscribe/planscribe/model/Distribution$Installments", "over", "(I)Z"⟩ : MethodName)) (argsL := [(.int (u86 + (1 : Int32)))]) (a := b91) hown (hw _ (List.mem_of_getElem? (i := 64) rfl)) (hw _ (List.mem_of_getElem? (i := 65) rfl)) (notFace_of_selects (args := #[]) (mvT hZ (hw _ (List.mem_of_getElem? (i := 67) rfl)))) (hw _ (List.mem_of_getElem? (i := 67) rfl)) (hw _ (List.mem_of_getElem? (i := 66) rfl)) (hw _ (List.mem_of_getElem? (i := 6) rfl)) (hw _ (List.mem_of_getElem? (i := 68) rfl)) (by decide) e106 E100 (own_rm8 l Z a0 hw b91 (u86 + (1 : Int32)) u85 u86 h100 n0 (Nat.le_trans Z0 (Nat.le_trans E91.1 K100.1)) F100_fewestYears F100_mostYears) (W := 0) (by decide) (by decide) (by decide) (by decide) pd7 rfl (g := (mkF m 109 #[.val (.int p0), .val (.int p1), .val (.int p2), .val (.int p3), .val (.int p4), .val (.int u85), .val (.int u86), .val (.ref dv), .val (.ref b91), .val (.int u101), .unset] [(.int (u86 + (1 : Int32))), (.ref b91)])) rfl (by rw [hml]; rfl) (rest := []) rfl (by show 2 * 0 + _ ≤ _; exact Nat.le_of_eq rfl) (hb hby at_109) (fun v108 T108 L108 X108 q108 => ?_)
  obtain ⟨rfl, N108q, e108⟩ := q108
  have N108 := Fr.app N106 N108q
  replace e108 := e108
  show own_GoF _ _ _ _ _ T108 (mkF m 112 #[.val (.int p0), .val (.int p1), .val (.int p2), .val (.int p3), .val (.int p4), .val (.int u85), .val (.int u86), .val (.ref dv), .val (.ref b91), .val (.int u101), .unset] [(.int (own_ov u85 u86 (u86 + (1 : Int32))))])
  have hb109 : (own_ov u85 u86 (u86 + (1 : Int32))) = (0 : Int32) := by exact own_o4 hf hm
  refine own_st (T' := T108) (g' := (mkF m 130 #[.val (.int p0), .val (.int p1), .val (.int p2), .val (.int p3), .val (.int p4), .val (.int u85), .val (.int u86), .val (.ref dv), .val (.ref b91), .val (.int u101), .val (.int (1 : Int32))] [(.int p3), (.ref b91)])) (fun tq kq => XS.ifNo (g := (mkF m 112 #[.val (.int p0), .val (.int p1), .val (.int p2), .val (.int p3), .val (.int p4), .val (.int u85), .val (.int u86), .val (.ref dv), .val (.ref b91), .val (.int u101), .unset] [(.int (own_ov u85 u86 (u86 + (1 : Int32))))])) X108.here hx rfl (hb hby at_112) rfl ((if0 _ _).trans (teq hb109).2) (XS.iconst (g := (mkF m 115 #[.val (.int p0), .val (.int p1), .val (.int p2), .val (.int p3), .val (.int p4), .val (.int u85), .val (.int u86), .val (.ref dv), .val (.ref b91), .val (.int u101), .unset] [])) X108.here hx rfl (hb hby at_115) (XS.goto (g := (mkF m 116 #[.val (.int p0), .val (.int p1), .val (.int p2), .val (.int p3), .val (.int p4), .val (.int u85), .val (.int u86), .val (.ref dv), .val (.ref b91), .val (.int u101), .unset] [(.int (1 : Int32))])) X108.here hx rfl (pc0 := 116) (pc' := 120) rfl (hb hby at_116) (by decide) (by decide) (XS.istore (g := (mkF m 120 #[.val (.int p0), .val (.int p1), .val (.int p2), .val (.int p3), .val (.int p4), .val (.int u85), .val (.int u86), .val (.ref dv), .val (.ref b91), .val (.int u101), .unset] [(.int (1 : Int32))])) X108.here hx rfl (hb hby at_120) rfl (l' := #[.val (.int p0), .val (.int p1), .val (.int p2), .val (.int p3), .val (.int p4), .val (.int u85), .val (.int u86), .val (.ref dv), .val (.ref b91), .val (.int u101), .val (.int (1 : Int32))]) rfl (XS.iload (g := (mkF m 122 #[.val (.int p0), .val (.int p1), .val (.int p2), .val (.int p3), .val (.int p4), .val (.int u85), .val (.int u86), .val (.ref dv), .val (.ref b91), .val (.int u101), .val (.int (1 : Int32))] [])) X108.here hx rfl (hb hby at_122) rfl (XS.ifNo (g := (mkF m 124 #[.val (.int p0), .val (.int p1), .val (.int p2), .val (.int p3), .val (.int p4), .val (.int u85), .val (.int u86), .val (.ref dv), .val (.ref b91), .val (.int u101), .val (.int (1 : Int32))] [(.int (1 : Int32))])) X108.here hx rfl (hb hby at_124) rfl ((if0 _ _).trans (feq (by decide : ¬ ((1 : Int32) = (0 : Int32)))).1) (XS.aload (g := (mkF m 127 #[.val (.int p0), .val (.int p1), .val (.int p2), .val (.int p3), .val (.int p4), .val (.int u85), .val (.int u86), .val (.ref dv), .val (.ref b91), .val (.int u101), .val (.int (1 : Int32))] [])) X108.here hx rfl (hb hby at_127) rfl rfl (XS.iloadN (g := (mkF m 129 #[.val (.int p0), .val (.int p1), .val (.int p2), .val (.int p3), .val (.int p4), .val (.int u85), .val (.int u86), .val (.ref dv), .val (.ref b91), .val (.int u101), .val (.int (1 : Int32))] [(.ref b91)])) X108.here hx rfl (hb hby at_129) rfl kq)))))))) ?_
  refine own_callV X108 hx hZ (y := (⟨"com/example/planscribe/planscribe/model/Distribution$Installments", "over", "(I)Z"⟩ : MethodName)) (z := (⟨"com/example/planscribe/planscribe/model/Distribution$Installments", "over", "(I)Z"⟩ : MethodName)) (argsL := [(.int p3)]) (a := b91) hown (hw _ (List.mem_of_getElem? (i := 64) rfl)) (hw _ (List.mem_of_getElem? (i := 65) rfl)) (notFace_of_selects (args := #[]) (mvT hZ (hw _ (List.mem_of_getElem? (i := 67) rfl)))) (hw _ (List.mem_of_getElem? (i := 67) rfl)) (hw _ (List.mem_of_getElem? (i := 66) rfl)) (hw _ (List.mem_of_getElem? (i := 6) rfl)) (hw _ (List.mem_of_getElem? (i := 68) rfl)) (by decide) e108 E100 (own_rm8 l Z a0 hw b91 p3 u85 u86 h100 n0 (Nat.le_trans Z0 (Nat.le_trans E91.1 K100.1)) F100_fewestYears F100_mostYears) (W := 0) (by decide) (by decide) (by decide) (by decide) pd7 rfl (g := (mkF m 130 #[.val (.int p0), .val (.int p1), .val (.int p2), .val (.int p3), .val (.int p4), .val (.int u85), .val (.int u86), .val (.ref dv), .val (.ref b91), .val (.int u101), .val (.int (1 : Int32))] [(.int p3), (.ref b91)])) rfl (by rw [hml]; rfl) (rest := []) rfl (by show 2 * 0 + _ ≤ _; exact Nat.le_of_eq rfl) (hb hby at_130) (fun v110 T110 L110 X110 q110 => ?_)
  obtain ⟨rfl, N110q, e110⟩ := q110
  have N110 := Fr.app N108 N110q
  replace e110 := e110
  show own_GoF _ _ _ _ _ T110 (mkF m 133 #[.val (.int p0), .val (.int p1), .val (.int p2), .val (.int p3), .val (.int p4), .val (.int u85), .val (.int u86), .val (.ref dv), .val (.ref b91), .val (.int u101), .val (.int (1 : Int32))] [(.int (own_ov u85 u86 p3))])
  refine own_st (T' := T110) (g' := (mkF m 138 #[.val (.int p0), .val (.int p1), .val (.int p2), .val (.int p3), .val (.int p4), .val (.int u85), .val (.int u86), .val (.ref dv), .val (.ref b91), .val (.int u101), .val (.int (1 : Int32))] [(.int u86), (.int u85), (.int p3), (.int (own_ov u85 u86 p3))])) (fun tq kq => XS.iloadN (g := (mkF m 133 #[.val (.int p0), .val (.int p1), .val (.int p2), .val (.int p3), .val (.int p4), .val (.int u85), .val (.int u86), .val (.ref dv), .val (.ref b91), .val (.int u101), .val (.int (1 : Int32))] [(.int (own_ov u85 u86 p3))])) X110.here hx rfl (hb hby at_133) rfl (XS.iload (g := (mkF m 134 #[.val (.int p0), .val (.int p1), .val (.int p2), .val (.int p3), .val (.int p4), .val (.int u85), .val (.int u86), .val (.ref dv), .val (.ref b91), .val (.int u101), .val (.int (1 : Int32))] [(.int p3), (.int (own_ov u85 u86 p3))])) X110.here hx rfl (hb hby at_134) rfl (XS.iload (g := (mkF m 136 #[.val (.int p0), .val (.int p1), .val (.int p2), .val (.int p3), .val (.int p4), .val (.int u85), .val (.int u86), .val (.ref dv), .val (.ref b91), .val (.int u101), .val (.int (1 : Int32))] [(.int u85), (.int p3), (.int (own_ov u85 u86 p3))])) X110.here hx rfl (hb hby at_136) rfl kq))) ?_
  refine own_callS X110 hx hZ (y := (⟨"com/example/planscribe/planscribe/model/InstallmentsOverPinLaw", "inRange", "(III)Z"⟩ : MethodName)) (argsL := [(.int p3), (.int u85), (.int u86)]) hown (hw _ (List.mem_of_getElem? (i := 69) rfl)) (hw _ (List.mem_of_getElem? (i := 70) rfl)) (hw _ (List.mem_of_getElem? (i := 71) rfl)) (hw _ (List.mem_of_getElem? (i := 72) rfl)) (by decide) e110 (own_rm9 l Z a0 hw p3 u85 u86  h100 n0 (Nat.le_trans Z0 (Nat.le_trans E91.1 K100.1)) ) (W := 1) (by decide) (by decide) (by decide) (by decide) pd8 rfl (g := (mkF m 138 #[.val (.int p0), .val (.int p1), .val (.int p2), .val (.int p3), .val (.int p4), .val (.int u85), .val (.int u86), .val (.ref dv), .val (.ref b91), .val (.int u101), .val (.int (1 : Int32))] [(.int u86), (.int u85), (.int p3), (.int (own_ov u85 u86 p3))])) rfl (by rw [hml]; rfl) (rest := [(.int (own_ov u85 u86 p3))]) rfl (by show 2 * 0 + _ ≤ _; exact Nat.le_of_eq rfl) (hb hby at_138) (fun v111 T111 L111 X111 q111 => ?_)
  obtain ⟨rfl, N111q, e111⟩ := q111
  have N111 := Fr.app N110 N111q
  replace e111 := e111
  show own_GoF _ _ _ _ _ T111 (mkF m 141 #[.val (.int p0), .val (.int p1), .val (.int p2), .val (.int p3), .val (.int p4), .val (.int u85), .val (.int u86), .val (.ref dv), .val (.ref b91), .val (.int u101), .val (.int (1 : Int32))] [(.int (own_ir p3 u85 u86)), (.int (own_ov u85 u86 p3))])
  have hb112 : (own_ov u85 u86 p3) = (own_ir p3 u85 u86) := by exact own_o5 hf hm _
  refine own_st (T' := T111) (g' := (mkF m 160 #[.val (.int p0), .val (.int p1), .val (.int p2), .val (.int p3), .val (.int p4), .val (.int u85), .val (.int u86), .val (.ref dv), .val (.ref b91), .val (.int u101), .val (.int (1 : Int32))] [(.int u101), (.ref b91)])) (fun tq kq => XS.icmpNo (g := (mkF m 141 #[.val (.int p0), .val (.int p1), .val (.int p2), .val (.int p3), .val (.int p4), .val (.int u85), .val (.int u86), .val (.ref dv), .val (.ref b91), .val (.int u101), .val (.int (1 : Int32))] [(.int (own_ir p3 u85 u86)), (.int (own_ov u85 u86 p3))])) X111.here hx rfl (hb hby at_141) rfl (teq hb112).2 (XS.iconst (g := (mkF m 144 #[.val (.int p0), .val (.int p1), .val (.int p2), .val (.int p3), .val (.int p4), .val (.int u85), .val (.int u86), .val (.ref dv), .val (.ref b91), .val (.int u101), .val (.int (1 : Int32))] [])) X111.here hx rfl (hb hby at_144) (XS.goto (g := (mkF m 145 #[.val (.int p0), .val (.int p1), .val (.int p2), .val (.int p3), .val (.int p4), .val (.int u85), .val (.int u86), .val (.ref dv), .val (.ref b91), .val (.int u101), .val (.int (1 : Int32))] [(.int (1 : Int32))])) X111.here hx rfl (pc0 := 145) (pc' := 149) rfl (hb hby at_145) (by decide) (by decide) (XS.istore (g := (mkF m 149 #[.val (.int p0), .val (.int p1), .val (.int p2), .val (.int p3), .val (.int p4), .val (.int u85), .val (.int u86), .val (.ref dv), .val (.ref b91), .val (.int u101), .val (.int (1 : Int32))] [(.int (1 : Int32))])) X111.here hx rfl (hb hby at_149) rfl (l' := #[.val (.int p0), .val (.int p1), .val (.int p2), .val (.int p3), .val (.int p4), .val (.int u85), .val (.int u86), .val (.ref dv), .val (.ref b91), .val (.int u101), .val (.int (1 : Int32))]) rfl (XS.iload (g := (mkF m 151 #[.val (.int p0), .val (.int p1), .val (.int p2), .val (.int p3), .val (.int p4), .val (.int u85), .val (.int u86), .val (.ref dv), .val (.ref b91), .val (.int u101), .val (.int (1 : Int32))] [])) X111.here hx rfl (hb hby at_151) rfl (XS.ifNo (g := (mkF m 153 #[.val (.int p0), .val (.int p1), .val (.int p2), .val (.int p3), .val (.int p4), .val (.int u85), .val (.int u86), .val (.ref dv), .val (.ref b91), .val (.int u101), .val (.int (1 : Int32))] [(.int (1 : Int32))])) X111.here hx rfl (hb hby at_153) rfl ((if0 _ _).trans (feq (by decide : ¬ ((1 : Int32) = (0 : Int32)))).1) (XS.aload (g := (mkF m 156 #[.val (.int p0), .val (.int p1), .val (.int p2), .val (.int p3), .val (.int p4), .val (.int u85), .val (.int u86), .val (.ref dv), .val (.ref b91), .val (.int u101), .val (.int (1 : Int32))] [])) X111.here hx rfl (hb hby at_156) rfl rfl (XS.iload (g := (mkF m 158 #[.val (.int p0), .val (.int p1), .val (.int p2), .val (.int p3), .val (.int p4), .val (.int u85), .val (.int u86), .val (.ref dv), .val (.ref b91), .val (.int u101), .val (.int (1 : Int32))] [(.ref b91)])) X111.here hx rfl (hb hby at_158) rfl kq)))))))) ?_
  refine own_callV X111 hx hZ (y := (⟨"com/example/planscribe/planscribe/model/Distribution$Installments", "over", "(I)Z"⟩ : MethodName)) (z := (⟨"com/example/planscribe/planscribe/model/Distribution$Installments", "over", "(I)Z"⟩ : MethodName)) (argsL := [(.int u101)]) (a := b91) hown (hw _ (List.mem_of_getElem? (i := 64) rfl)) (hw _ (List.mem_of_getElem? (i := 65) rfl)) (notFace_of_selects (args := #[]) (mvT hZ (hw _ (List.mem_of_getElem? (i := 67) rfl)))) (hw _ (List.mem_of_getElem? (i := 67) rfl)) (hw _ (List.mem_of_getElem? (i := 66) rfl)) (hw _ (List.mem_of_getElem? (i := 6) rfl)) (hw _ (List.mem_of_getElem? (i := 68) rfl)) (by decide) e111 E100 (own_rm8 l Z a0 hw b91 u101 u85 u86 h100 n0 (Nat.le_trans Z0 (Nat.le_trans E91.1 K100.1)) F100_fewestYears F100_mostYears) (W := 0) (by decide) (by decide) (by decide) (by decide) pd7 rfl (g := (mkF m 160 #[.val (.int p0), .val (.int p1), .val (.int p2), .val (.int p3), .val (.int p4), .val (.int u85), .val (.int u86), .val (.ref dv), .val (.ref b91), .val (.int u101), .val (.int (1 : Int32))] [(.int u101), (.ref b91)])) rfl (by rw [hml]; rfl) (rest := []) rfl (by show 2 * 0 + _ ≤ _; exact Nat.le_of_eq rfl) (hb hby at_160) (fun v113 T113 L113 X113 q113 => ?_)
  obtain ⟨rfl, N113q, e113⟩ := q113
  have N113 := Fr.app N111 N113q
  replace e113 := e113
  show own_GoF _ _ _ _ _ T113 (mkF m 163 #[.val (.int p0), .val (.int p1), .val (.int p2), .val (.int p3), .val (.int p4), .val (.int u85), .val (.int u86), .val (.ref dv), .val (.ref b91), .val (.int u101), .val (.int (1 : Int32))] [(.int (own_ov u85 u86 u101))])
  refine own_st (T' := T113) (g' := (mkF m 169 #[.val (.int p0), .val (.int p1), .val (.int p2), .val (.int p3), .val (.int p4), .val (.int u85), .val (.int u86), .val (.ref dv), .val (.ref b91), .val (.int u101), .val (.int (1 : Int32))] [(.int u86), (.int u85), (.int u101), (.int (own_ov u85 u86 u101))])) (fun tq kq => XS.iload (g := (mkF m 163 #[.val (.int p0), .val (.int p1), .val (.int p2), .val (.int p3), .val (.int p4), .val (.int u85), .val (.int u86), .val (.ref dv), .val (.ref b91), .val (.int u101), .val (.int (1 : Int32))] [(.int (own_ov u85 u86 u101))])) X113.here hx rfl (hb hby at_163) rfl (XS.iload (g := (mkF m 165 #[.val (.int p0), .val (.int p1), .val (.int p2), .val (.int p3), .val (.int p4), .val (.int u85), .val (.int u86), .val (.ref dv), .val (.ref b91), .val (.int u101), .val (.int (1 : Int32))] [(.int u101), (.int (own_ov u85 u86 u101))])) X113.here hx rfl (hb hby at_165) rfl (XS.iload (g := (mkF m 167 #[.val (.int p0), .val (.int p1), .val (.int p2), .val (.int p3), .val (.int p4), .val (.int u85), .val (.int u86), .val (.ref dv), .val (.ref b91), .val (.int u101), .val (.int (1 : Int32))] [(.int u85), (.int u101), (.int (own_ov u85 u86 u101))])) X113.here hx rfl (hb hby at_167) rfl kq))) ?_
  refine own_callS X113 hx hZ (y := (⟨"com/example/planscribe/planscribe/model/InstallmentsOverPinLaw", "inRange", "(III)Z"⟩ : MethodName)) (argsL := [(.int u101), (.int u85), (.int u86)]) hown (hw _ (List.mem_of_getElem? (i := 69) rfl)) (hw _ (List.mem_of_getElem? (i := 70) rfl)) (hw _ (List.mem_of_getElem? (i := 71) rfl)) (hw _ (List.mem_of_getElem? (i := 72) rfl)) (by decide) e113 (own_rm9 l Z a0 hw u101 u85 u86  h100 n0 (Nat.le_trans Z0 (Nat.le_trans E91.1 K100.1)) ) (W := 1) (by decide) (by decide) (by decide) (by decide) pd8 rfl (g := (mkF m 169 #[.val (.int p0), .val (.int p1), .val (.int p2), .val (.int p3), .val (.int p4), .val (.int u85), .val (.int u86), .val (.ref dv), .val (.ref b91), .val (.int u101), .val (.int (1 : Int32))] [(.int u86), (.int u85), (.int u101), (.int (own_ov u85 u86 u101))])) rfl (by rw [hml]; rfl) (rest := [(.int (own_ov u85 u86 u101))]) rfl (by show 2 * 0 + _ ≤ _; exact Nat.le_of_eq rfl) (hb hby at_169) (fun v114 T114 L114 X114 q114 => ?_)
  obtain ⟨rfl, N114q, e114⟩ := q114
  have N114 := Fr.app N113 N114q
  replace e114 := e114
  show own_GoF _ _ _ _ _ T114 (mkF m 172 #[.val (.int p0), .val (.int p1), .val (.int p2), .val (.int p3), .val (.int p4), .val (.int u85), .val (.int u86), .val (.ref dv), .val (.ref b91), .val (.int u101), .val (.int (1 : Int32))] [(.int (own_ir u101 u85 u86)), (.int (own_ov u85 u86 u101))])
  have hb115 : (own_ov u85 u86 u101) = (own_ir u101 u85 u86) := by exact own_o5 hf hm _
  refine own_st (T' := T114) (g' := (mkF m 184 #[.val (.int p0), .val (.int p1), .val (.int p2), .val (.int p3), .val (.int p4), .val (.int u85), .val (.int u86), .val (.ref dv), .val (.ref b91), .val (.int u101), .val (.int (1 : Int32))] [(.int (1 : Int32))])) (fun tq kq => XS.icmpNo (g := (mkF m 172 #[.val (.int p0), .val (.int p1), .val (.int p2), .val (.int p3), .val (.int p4), .val (.int u85), .val (.int u86), .val (.ref dv), .val (.ref b91), .val (.int u101), .val (.int (1 : Int32))] [(.int (own_ir u101 u85 u86)), (.int (own_ov u85 u86 u101))])) X114.here hx rfl (hb hby at_172) rfl (teq hb115).2 (XS.iconst (g := (mkF m 175 #[.val (.int p0), .val (.int p1), .val (.int p2), .val (.int p3), .val (.int p4), .val (.int u85), .val (.int u86), .val (.ref dv), .val (.ref b91), .val (.int u101), .val (.int (1 : Int32))] [])) X114.here hx rfl (hb hby at_175) (XS.goto (g := (mkF m 176 #[.val (.int p0), .val (.int p1), .val (.int p2), .val (.int p3), .val (.int p4), .val (.int u85), .val (.int u86), .val (.ref dv), .val (.ref b91), .val (.int u101), .val (.int (1 : Int32))] [(.int (1 : Int32))])) X114.here hx rfl (pc0 := 176) (pc' := 180) rfl (hb hby at_176) (by decide) (by decide) (XS.istore (g := (mkF m 180 #[.val (.int p0), .val (.int p1), .val (.int p2), .val (.int p3), .val (.int p4), .val (.int u85), .val (.int u86), .val (.ref dv), .val (.ref b91), .val (.int u101), .val (.int (1 : Int32))] [(.int (1 : Int32))])) X114.here hx rfl (hb hby at_180) rfl (l' := #[.val (.int p0), .val (.int p1), .val (.int p2), .val (.int p3), .val (.int p4), .val (.int u85), .val (.int u86), .val (.ref dv), .val (.ref b91), .val (.int u101), .val (.int (1 : Int32))]) rfl (XS.iload (g := (mkF m 182 #[.val (.int p0), .val (.int p1), .val (.int p2), .val (.int p3), .val (.int p4), .val (.int u85), .val (.int u86), .val (.ref dv), .val (.ref b91), .val (.int u101), .val (.int (1 : Int32))] [])) X114.here hx rfl (hb hby at_182) rfl kq))))) ?_
  refine own_retIW X114 S100 (by rw [e114]; exact (Nat.le_trans (Nat.le_of_eq (congrArg _ e100)) (Nat.le_refl _))) hx hlk hret (by simp) rfl (hb hby at_184) ?_ (by decide) (by decide)
  exact ⟨rfl, N114⟩
set_option maxRecDepth 65536 in
set_option maxHeartbeats 40000000 in
theorem own_comes {Post : Tables → Env → Array Value → State → Outcome → State → Prop} (hpost : ∀ tb e args s v u, (limb_1_1.after args s (.returned v) u = true ∧ limb_1_2.after args s (.returned v) u = true ∧ True) → FramedW s (.returned v) u (Jvm.fieldLocs frame_1_writes args s ++ Jvm.arrayLocs frame_1_arrays args s ++ Jvm.staticLocs frame_1_statics s) 16 2176 → Post tb e args s (.returned v) u) :
    ArmFor flags0 classFile x code maxLocals ret World_1 tables_1 room_1 Calls_1 rest_1 Pre_1 Post := by
  intro l hfl _ _ p e ha hc hk s m args below hf hA hF happ hP
  obtain ⟨hcalls, hrest, hpre⟩ := hP
  obtain ⟨-, -, -, hnamed, -, -, -, hat⟩ := (Spec.applies_iff hf).mp happ
  obtain ⟨hg, hn⟩ := and_e (Cond.before_iff.mp (show (Jvm.Cond.and given_1 narrow_1).before args s = true from hpre))
  obtain ⟨g0, r0⟩ := and_e hg
  obtain ⟨k0, r1⟩ := and_e r0
  obtain ⟨k1, r2⟩ := and_e r1
  obtain ⟨k2, r3⟩ := and_e r2
  obtain ⟨k3, r4⟩ := and_e r3
  obtain ⟨w0, w1, w2, w3, w4, rfl⟩ : ∃ w0 w1 w2 w3 w4 : Value, args = #[w0, w1, w2, w3, w4] := by
    have hs : args.size = 5 := by simpa [Cond.value, given_1] using g0
    obtain ⟨L⟩ := args
    match L, hs with
    | [w0, w1, w2, w3, w4], _ => exact ⟨w0, w1, w2, w3, w4, rfl⟩
  have hw := fun d (hd : d ∈ tables_1) => atoms_spec (ws := Jvm.Cond.code x code maxLocals ret :: tables_1) hat d (List.mem_cons_of_mem _ hd)
  have hfit : Fit s := fun {y c} hc i hi => by
    obtain ⟨ha, rfl⟩ := Array.getElem?_eq_some_iff.mp hc
    have q := List.all_eq_true.mp ((Array.all_eq_true_iff_forall_mem.mp hF) _ (Array.getElem_mem ha)) i (List.mem_range.mpr hi)
    simpa [Array.getElem?_eq_getElem hi] using q
  obtain ⟨p0, i0⟩ := is_v k0
  obtain rfl : w0 = (.int p0) := Option.some.inj i0
  obtain ⟨p1, i1⟩ := is_v k1
  obtain rfl : w1 = (.int p1) := Option.some.inj i1
  obtain ⟨p2, i2⟩ := is_v k2
  obtain rfl : w2 = (.int p2) := Option.some.inj i2
  obtain ⟨p3, i3⟩ := is_v k3
  obtain rfl : w3 = (.int p3) := Option.some.inj i3
  obtain ⟨p4, i4⟩ := is_v r4
  obtain rfl : w4 = (.int p4) := Option.some.inj i4
  obtain ⟨n0, hn⟩ := and_e hn
  obtain ⟨n1, hn⟩ := and_e hn
  obtain ⟨n2, hn⟩ := and_e hn
  obtain ⟨n3, hn⟩ := and_e hn
  have n4 := hn
  obtain ⟨sa0, ev0⟩ := exa_v n0
  have Sa0 : Sta s s.heap "com/example/planscribe/planscribe/model/Distribution$Divisor" "INSTALLMENTS_LEFT" "Lcom/example/planscribe/planscribe/model/Distribution$Divisor;" (.ref sa0) := Sta.start ev0 (Or.inr ⟨(hw _ (List.mem_of_getElem? (i := 2) rfl)), (hw _ (List.mem_of_getElem? (i := 3) rfl))⟩)
  have Ex0 := Exa.start ev0 n0
  obtain ⟨sa1, ev1⟩ := exa_v n1
  have Sa1 : Sta s s.heap "com/example/planscribe/planscribe/model/PaymentForm" "YEARS" "Lcom/example/planscribe/planscribe/model/CountRange;" (.ref sa1) := Sta.start ev1 (Or.inr ⟨(hw _ (List.mem_of_getElem? (i := 37) rfl)), (hw _ (List.mem_of_getElem? (i := 38) rfl))⟩)
  have Ex1 := Exa.start ev1 n1
  obtain ⟨sa2, ev2⟩ := exa_v n4
  have Sa2 : Sta s s.heap "com/example/planscribe/planscribe/model/Distribution$Divisor" "YEARS_LEFT" "Lcom/example/planscribe/planscribe/model/Distribution$Divisor;" (.ref sa2) := Sta.start ev2 (Or.inr ⟨(hw _ (List.mem_of_getElem? (i := 2) rfl)), (hw _ (List.mem_of_getElem? (i := 81) rfl))⟩)
  have Ex2 := Exa.start ev2 n4
  have Fd1_least := Fld.start (own_fldeq ev1 n2)
  have Fd1_most := Fld.start (own_fldeq ev1 n3)
  have hst := (atoms_of jdkStatics_1 (args := #[Value.int p0, Value.int p1, Value.int p2, Value.int p3, Value.int p4]) (s := s) (own := restOwn_1) (by rw [← rest_1_c_eq]; exact hrest)).1
  have hw2 := Cond.before_iff.mp (hst _ (List.mem_of_getElem? (i := 2) rfl))
  have hw3 := Cond.before_iff.mp (hst _ (List.mem_of_getElem? (i := 3) rfl))
  obtain ⟨oe, eo⟩ := exa_v hw2
  have So := Sta.start eo (Or.inl (hst _ (List.mem_of_getElem? (i := 1) rfl)))
  have Eo := Exa.start eo hw2
  have h9 := null_v hw3
  rw [fld_at eo] at h9
  have Fo := Fld.start h9
  obtain ⟨n, o, h1, h2, h3, _, L, rfl, ⟨rfl, N⟩, hq⟩ := own_rm0 l s _ hw p0 p1 p2 p3 p4 sa1 oe sa2 sa0 s.heap s.heap.size (Nat.le_refl _) Sa1 Ex1 Fd1_least Fd1_most Eo Fo So Sa2 Sa0 tables_1 p e ha hc hk s m _ below hf ((Spec.applies_iff_loose hf).mp happ).1 ⟨rfl, rfl, rfl⟩ trivial
  refine ⟨n, _, h1, h2, h3, hpost _ _ _ _ _ _ ⟨Cond.after_iff.mpr rfl, Cond.after_iff.mpr (eq_i res_at (Term.int_eval (1)) rfl), trivial⟩ ⟨hq.1, hq.2.1, hq.2.2.1, (hq.2.2.2.sift fun y hy => Or.inr (N y hy)).mono (by decide) (by decide)⟩⟩
theorem main_1_1 : Claimed_1_1 := own_comes fun _ _ _ _ _ _ h hF => ⟨h.1, hF⟩
theorem main_1_2 : Claimed_1_2 := own_comes fun _ _ _ _ _ _ h hF => ⟨h.2.1, hF⟩
end Jvm.Pilot.@@N@@
namespace Jvm.Pilot.@@N@@
open Jvm Jvm.ClassFile Sem Op Lib Jvm.Free Jvm.Stand Jvm.Pilot.@@N@@.Jvm.D
/-! MADE BY PROGRAM (witnessworld.py) out of the Statement's table words and the real class files: 23 classes; the members and pool entries that the words name. The judged class is class 1, her method 2. -/
namespace start1
open Jvm.ClassFile
def u (s : String) : CpInfo := .utf8 (stringToUtf16 s)
/-- a pool by its gaps: so many unusable entries, then the entry; so many at the end -/
def gap : Nat → List CpInfo → List CpInfo
  | 0, r => r
  | n + 1, r => .unusable :: gap n r
def poolList (es : List (Nat × CpInfo)) (last : Nat) : List CpInfo := es.foldr (fun e r => gap e.1 (e.2 :: r)) (gap last [])
def pool (es : List (Nat × CpInfo)) (last : Nat) : Array CpInfo := ⟨poolList es last⟩
def fileOf (pool : Array CpInfo) (this : Nat) (attrs : Array Attribute := #[]) (ms : Array MethodInfo := #[]) (fl : Nat := 33) (sup : Nat := 0) (ifs : Array Nat := #[]) (fds : Array FieldInfo := #[]) : ClassFile where
  minorVersion := 0
  majorVersion := 65
  constantPool := pool
  accessFlags := fl
  thisClass := this
  superClass := sup
  interfaces := ifs
  fields := fds
  methods := ms
  attributes := attrs
def plain (name : String) (sup : Option ClassId) : Class where
  name := name
  kind := .ordinary
  loader := none
  accessFlags := 33
  super := sup
  interfaces := #[]
  cf := none
  fields := #[]
  methods := #[]
  instanceTypes := #[]
  staticTypes := #[]
  resolved := #[]
  callSites := []
  init := .initialized
  statics := none
  mirror := none

def pool0 : Array CpInfo := pool [(5, u "<init>"), (0, u "()V"), (1, .class_ 10), (1, u "java/lang/Object")] 113

def k0c0 : Code := { maxStack := 0, maxLocals := 1, code := object_method_1_code, exceptionTable := #[], attributes := #[] }
def k0m0 : Method := { name := "<init>", desc := "()V", sig := { parameters := [], returnType := none }, accessFlags := 1, code := some k0c0 }
/-- java/lang/Object -/
def k0 : Class := { plain "java/lang/Object" none with
  accessFlags := 33
  interfaces := #[]
  cf := some (fileOf pool0 8 #[] #[{ accessFlags := 1, nameIndex := 5, descriptorIndex := 6, attributes := #[] }] 33 0 #[] #[])
  fields := #[]
  methods := #[k0m0]
  instanceTypes := #[]
  staticTypes := #[]
  resolved := Array.replicate 124 none
  statics := none }

def pool1 : Array CpInfo := pool [(2, .class_ 4), (1, u "java/lang/Object"), (0, u "<init>"), (0, u "()V"), (0, .methodref 8 9), (0, .class_ 10), (0, .nameAndType 11 12), (0, u "java/lang/Math"), (0, u "min"), (0, u "(II)I"), (0, .methodref 8 14), (0, .nameAndType 15 12), (0, u "max"), (0, .integer 2147483647), (0, .fieldref 18 19), (0, .class_ 20), (0, .nameAndType 21 22), (0, u "com/example/planscribe/planscribe/model/Distribution$Divisor"), (0, u "YEARS_LEFT"), (0, u "Lcom/example/planscribe/planscribe/model/Distribution$Divisor;"), (0, .fieldref 18 24), (0, .nameAndType 25 22), (0, u "INSTALLMENTS_LEFT"), (0, .class_ 27), (0, u "com/example/planscribe/planscribe/model/Distribution$Installments"), (0, .methodref 29 30), (0, .class_ 31), (0, .nameAndType 32 33), (0, u "java/util/Optional"), (0, u "empty"), (0, u "()Ljava/util/Optional;"), (0, .methodref 26 35), (0, .nameAndType 5 36), (0, u "(IILcom/example/planscribe/planscribe/model/Distribution$Divisor;Ljava/util/Optional;)V"), (0, .methodref 26 38), (0, .nameAndType 39 40), (0, u "over"), (0, u "(I)Z"), (0, .methodref 42 43), (0, .class_ 44), (0, .nameAndType 45 46), (0, u "com/example/planscribe/planscribe/model/InstallmentsOverPinLaw"), (0, u "inRange"), (0, u "(III)Z"), (3, u "law"), (0, u "(IIIII)Z")] 7

def k1m0 : Method := { name := "<init>", desc := "()V", sig := { parameters := [], returnType := none }, accessFlags := 2, code := none }
def k1c1 : Code := { maxStack := 3, maxLocals := 3, code := method_2_code, exceptionTable := #[], attributes := #[] }
def k1m1 : Method := { name := "inRange", desc := "(III)Z", sig := { parameters := [.int, .int, .int], returnType := some .boolean }, accessFlags := 10, code := some k1c1 }
def k1c2 : Code := { maxStack := 6, maxLocals := 11, code := code, exceptionTable := #[], attributes := #[] }
def k1m2 : Method := { name := "law", desc := "(IIIII)Z", sig := { parameters := [.int, .int, .int, .int, .int], returnType := some .boolean }, accessFlags := 9, code := some k1c2 }
/-- com/example/planscribe/planscribe/model/InstallmentsOverPinLaw -/
def k1 : Class := { plain "com/example/planscribe/planscribe/model/InstallmentsOverPinLaw" (some 0) with
  accessFlags := 49
  interfaces := #[]
  cf := some (fileOf pool1 42 #[] #[{ accessFlags := 2, nameIndex := 5, descriptorIndex := 6, attributes := #[] }, { accessFlags := 10, nameIndex := 45, descriptorIndex := 46, attributes := #[] }, { accessFlags := 9, nameIndex := 50, descriptorIndex := 51, attributes := #[] }] 49 2 #[] #[])
  fields := #[]
  methods := #[k1m0, k1m1, k1m2]
  instanceTypes := #[]
  staticTypes := #[]
  resolved := Array.replicate 59 none
  statics := none }

def pool2 : Array CpInfo := pool [(1, .class_ 2), (0, u "java/lang/constant/Constable"), (0, .class_ 4), (0, u "java/lang/Object")] 6

/-- java/lang/constant/Constable -/
def k2 : Class := { plain "java/lang/constant/Constable" (some 0) with
  accessFlags := 1537
  interfaces := #[]
  cf := some (fileOf pool2 1 #[] #[] 1537 3 #[] #[])
  fields := #[]
  methods := #[]
  instanceTypes := #[]
  staticTypes := #[]
  resolved := Array.replicate 11 none
  statics := none }

def pool3 : Array CpInfo := pool [(1, .class_ 2), (0, u "java/lang/Comparable"), (0, .class_ 4), (0, u "java/lang/Object")] 7

/-- java/lang/Comparable -/
def k3 : Class := { plain "java/lang/Comparable" (some 0) with
  accessFlags := 1537
  interfaces := #[]
  cf := some (fileOf pool3 1 #[] #[] 1537 3 #[] #[])
  fields := #[]
  methods := #[]
  instanceTypes := #[]
  staticTypes := #[]
  resolved := Array.replicate 12 none
  statics := none }

def pool4 : Array CpInfo := pool [(1, .class_ 2), (0, u "java/io/Serializable"), (0, .class_ 4), (0, u "java/lang/Object")] 2

/-- java/io/Serializable -/
def k4 : Class := { plain "java/io/Serializable" (some 0) with
  accessFlags := 1537
  interfaces := #[]
  cf := some (fileOf pool4 1 #[] #[] 1537 3 #[] #[])
  fields := #[]
  methods := #[]
  instanceTypes := #[]
  staticTypes := #[]
  resolved := Array.replicate 7 none
  statics := none }

def pool5 : Array CpInfo := pool [(2, .class_ 4), (1, u "java/lang/Enum"), (0, u "name"), (0, u "Ljava/lang/String;"), (2, u "ordinal"), (0, u "I"), (1, .class_ 14), (1, u "java/lang/Object"), (4, u "hash"), (86, .class_ 108), (1, u "java/lang/Enum$EnumDesc"), (2, .class_ 112), (0, u "java/lang/constant/Constable"), (0, .class_ 114), (0, u "java/lang/Comparable"), (0, .class_ 116), (0, u "java/io/Serializable")] 87

/-- java/lang/Enum -/
def k5 : Class := { plain "java/lang/Enum" (some 0) with
  accessFlags := 1057
  interfaces := #[2, 3, 4]
  cf := some (fileOf pool5 2 #[.nestMembers #[106]] #[] 1057 12 #[111, 113, 115] #[{ accessFlags := 18, nameIndex := 5, descriptorIndex := 6, attributes := #[] }, { accessFlags := 18, nameIndex := 9, descriptorIndex := 10, attributes := #[] }, { accessFlags := 2, nameIndex := 19, descriptorIndex := 10, attributes := #[] }])
  fields := #[{ name := "name", type := (.object "java/lang/String"), accessFlags := 18, slot := 0, constantValue := 0 }, { name := "ordinal", type := .int, accessFlags := 18, slot := 1, constantValue := 0 }, { name := "hash", type := .int, accessFlags := 2, slot := 2, constantValue := 0 }]
  methods := #[]
  instanceTypes := #[(.object "java/lang/String"), .int, .int]
  staticTypes := #[]
  resolved := Array.replicate 204 none
  statics := none }

def pool6 : Array CpInfo := pool [(9, .class_ 10), (0, u "com/example/planscribe/planscribe/model/Keyword"), (22, .class_ 34), (0, u "java/lang/Object")] 143

/-- com/example/planscribe/planscribe/model/Keyword -/
def k6 : Class := { plain "com/example/planscribe/planscribe/model/Keyword" (some 0) with
  accessFlags := 1537
  interfaces := #[]
  cf := some (fileOf pool6 9 #[] #[] 1537 33 #[] #[])
  fields := #[]
  methods := #[]
  instanceTypes := #[]
  staticTypes := #[]
  resolved := Array.replicate 178 none
  statics := none }

def pool7 : Array CpInfo := pool [(1, .class_ 2), (0, u "com/example/planscribe/planscribe/model/Distribution$Divisor"), (2, u "INSTALLMENTS_LEFT"), (0, u "Lcom/example/planscribe/planscribe/model/Distribution$Divisor;"), (2, u "YEARS_LEFT"), (2, u "$VALUES"), (0, u "[Lcom/example/planscribe/planscribe/model/Distribution$Divisor;"), (6, .class_ 22), (1, u "java/lang/Enum"), (8, u "text"), (0, u "Ljava/lang/String;"), (13, .class_ 47), (0, u "com/example/planscribe/planscribe/model/Keyword"), (14, .class_ 63), (0, u "com/example/planscribe/planscribe/model/Distribution")] 2

/-- com/example/planscribe/planscribe/model/Distribution$Divisor -/
def k7 : Class := { plain "com/example/planscribe/planscribe/model/Distribution$Divisor" (some 5) with
  accessFlags := 16433
  interfaces := #[6]
  cf := some (fileOf pool7 1 #[.nestHost 62] #[] 16433 20 #[46] #[{ accessFlags := 16409, nameIndex := 5, descriptorIndex := 6, attributes := #[] }, { accessFlags := 16409, nameIndex := 9, descriptorIndex := 6, attributes := #[] }, { accessFlags := 18, nameIndex := 31, descriptorIndex := 32, attributes := #[] }, { accessFlags := 4122, nameIndex := 12, descriptorIndex := 13, attributes := #[] }])
  fields := #[{ name := "INSTALLMENTS_LEFT", type := (.object "com/example/planscribe/planscribe/model/Distribution$Divisor"), accessFlags := 16409, slot := 0, constantValue := 0 }, { name := "YEARS_LEFT", type := (.object "com/example/planscribe/planscribe/model/Distribution$Divisor"), accessFlags := 16409, slot := 1, constantValue := 0 }, { name := "text", type := (.object "java/lang/String"), accessFlags := 18, slot := 3, constantValue := 0 }, { name := "$VALUES", type := (.array (.object "com/example/planscribe/planscribe/model/Distribution$Divisor")), accessFlags := 4122, slot := 2, constantValue := 0 }]
  methods := #[]
  instanceTypes := #[(.object "java/lang/String"), .int, .int, (.object "java/lang/String")]
  staticTypes := #[(.object "com/example/planscribe/planscribe/model/Distribution$Divisor"), (.object "com/example/planscribe/planscribe/model/Distribution$Divisor"), (.array (.object "com/example/planscribe/planscribe/model/Distribution$Divisor"))]
  resolved := Array.replicate 66 none
  statics := some 0 }

def pool8 : Array CpInfo := pool [(1, .methodref 2 3), (0, .class_ 4), (0, .nameAndType 5 6), (0, u "java/lang/Object"), (0, u "<init>"), (0, u "()V"), (0, .class_ 8), (0, u "java/lang/Record")] 13

def k8c0 : Code := { maxStack := 1, maxLocals := 1, code := jdk_30_method_1_code, exceptionTable := #[], attributes := #[] }
def k8m0 : Method := { name := "<init>", desc := "()V", sig := { parameters := [], returnType := none }, accessFlags := 4, code := some k8c0 }
/-- java/lang/Record -/
def k8 : Class := { plain "java/lang/Record" (some 0) with
  accessFlags := 1057
  interfaces := #[]
  cf := some (fileOf pool8 7 #[] #[{ accessFlags := 4, nameIndex := 5, descriptorIndex := 6, attributes := #[] }] 1057 2 #[] #[])
  fields := #[]
  methods := #[k8m0]
  instanceTypes := #[]
  staticTypes := #[]
  resolved := Array.replicate 22 none
  statics := none }

def pool9 : Array CpInfo := pool [(1, .methodref 2 3), (0, .class_ 4), (0, .nameAndType 5 6), (0, u "java/lang/Record"), (0, u "<init>"), (0, u "()V"), (0, .string 8), (0, u "divisor"), (0, .methodref 10 11), (0, .class_ 12), (0, .nameAndType 13 14), (0, u "java/util/Objects"), (0, u "requireNonNull"), (0, u "(Ljava/lang/Object;Ljava/lang/String;)Ljava/lang/Object;"), (0, .string 16), (0, u "minimumAYear"), (0, .fieldref 18 19), (0, .class_ 20), (0, .nameAndType 21 22), (0, u "com/example/planscribe/planscribe/model/PaymentForm"), (0, u "YEARS"), (0, u "Lcom/example/planscribe/planscribe/model/CountRange;"), (0, .methodref 24 25), (0, .class_ 26), (0, .nameAndType 27 28), (0, u "com/example/planscribe/planscribe/model/CountRange"), (0, u "contains"), (0, u "(J)Z"), (9, .methodref 39 40), (0, .class_ 41), (0, .nameAndType 42 43), (0, u "java/util/Optional"), (0, u "isPresent"), (0, u "()Z"), (5, u "Lcom/example/planscribe/planscribe/model/Distribution$Divisor;"), (14, .fieldref 65 66), (0, .class_ 67), (0, .nameAndType 68 69), (0, u "com/example/planscribe/planscribe/model/Distribution$Installments"), (0, u "fewestYears"), (0, u "I"), (0, .fieldref 65 71), (0, .nameAndType 72 69), (0, u "mostYears"), (0, .fieldref 65 74), (0, .nameAndType 8 49), (0, .fieldref 65 76), (0, .nameAndType 16 77), (0, u "Ljava/util/Optional;"), (14, u "(IILcom/example/planscribe/planscribe/model/Distribution$Divisor;Ljava/util/Optional;)V"), (5, u "over"), (0, u "(I)Z"), (8, .class_ 109), (0, u "com/example/planscribe/planscribe/model/Distribution")] 31

def k9c0 : Code := { maxStack := 4, maxLocals := 5, code := prog_114_method_1_code, exceptionTable := #[], attributes := #[] }
def k9m0 : Method := { name := "<init>", desc := "(IILcom/example/planscribe/planscribe/model/Distribution$Divisor;Ljava/util/Optional;)V", sig := { parameters := [.int, .int, (.object "com/example/planscribe/planscribe/model/Distribution$Divisor"), (.object "java/util/Optional")], returnType := none }, accessFlags := 1, code := some k9c0 }
def k9c1 : Code := { maxStack := 2, maxLocals := 2, code := prog_114_method_2_code, exceptionTable := #[], attributes := #[] }
def k9m1 : Method := { name := "over", desc := "(I)Z", sig := { parameters := [.int], returnType := some .boolean }, accessFlags := 1, code := some k9c1 }
/-- com/example/planscribe/planscribe/model/Distribution$Installments -/
def k9 : Class := { plain "com/example/planscribe/planscribe/model/Distribution$Installments" (some 8) with
  accessFlags := 49
  interfaces := #[]
  cf := some (fileOf pool9 65 #[.nestHost 108] #[{ accessFlags := 1, nameIndex := 5, descriptorIndex := 92, attributes := #[] }, { accessFlags := 1, nameIndex := 98, descriptorIndex := 99, attributes := #[] }] 49 2 #[] #[{ accessFlags := 18, nameIndex := 68, descriptorIndex := 69, attributes := #[] }, { accessFlags := 18, nameIndex := 72, descriptorIndex := 69, attributes := #[] }, { accessFlags := 18, nameIndex := 8, descriptorIndex := 49, attributes := #[] }, { accessFlags := 18, nameIndex := 16, descriptorIndex := 77, attributes := #[] }])
  fields := #[{ name := "fewestYears", type := .int, accessFlags := 18, slot := 0, constantValue := 0 }, { name := "mostYears", type := .int, accessFlags := 18, slot := 1, constantValue := 0 }, { name := "divisor", type := (.object "com/example/planscribe/planscribe/model/Distribution$Divisor"), accessFlags := 18, slot := 2, constantValue := 0 }, { name := "minimumAYear", type := (.object "java/util/Optional"), accessFlags := 18, slot := 3, constantValue := 0 }]
  methods := #[k9m0, k9m1]
  instanceTypes := #[.int, .int, (.object "com/example/planscribe/planscribe/model/Distribution$Divisor"), (.object "java/util/Optional")]
  staticTypes := #[]
  resolved := Array.replicate 141 none
  statics := none }

def pool10 : Array CpInfo := pool [(1, .fieldref 2 3), (0, .class_ 4), (0, .nameAndType 5 6), (0, u "java/util/Optional"), (0, u "EMPTY"), (0, u "Ljava/util/Optional;"), (1, .class_ 10), (1, u "java/lang/Object"), (2, .fieldref 2 14), (0, .nameAndType 15 16), (0, u "value"), (0, u "Ljava/lang/Object;"), (29, u "()Z"), (8, u "empty"), (0, u "()Ljava/util/Optional;"), (11, u "isPresent")] 118

def k10c0 : Code := { maxStack := 1, maxLocals := 1, code := jdk_32_method_1_code, exceptionTable := #[], attributes := #[] }
def k10m0 : Method := { name := "empty", desc := "()Ljava/util/Optional;", sig := { parameters := [], returnType := some (.object "java/util/Optional") }, accessFlags := 9, code := some k10c0 }
def k10c1 : Code := { maxStack := 1, maxLocals := 1, code := jdk_32_method_6_code, exceptionTable := #[], attributes := #[] }
def k10m1 : Method := { name := "isPresent", desc := "()Z", sig := { parameters := [], returnType := some .boolean }, accessFlags := 1, code := some k10c1 }
/-- java/util/Optional -/
def k10 : Class := { plain "java/util/Optional" (some 0) with
  accessFlags := 49
  interfaces := #[]
  cf := some (fileOf pool10 2 #[] #[{ accessFlags := 9, nameIndex := 55, descriptorIndex := 56, attributes := #[] }, { accessFlags := 1, nameIndex := 68, descriptorIndex := 46, attributes := #[] }] 49 8 #[] #[{ accessFlags := 26, nameIndex := 5, descriptorIndex := 6, attributes := #[] }, { accessFlags := 18, nameIndex := 15, descriptorIndex := 16, attributes := #[] }])
  fields := #[{ name := "EMPTY", type := (.object "java/util/Optional"), accessFlags := 26, slot := 0, constantValue := 0 }, { name := "value", type := (.object "java/lang/Object"), accessFlags := 18, slot := 0, constantValue := 0 }]
  methods := #[k10m0, k10m1]
  instanceTypes := #[(.object "java/lang/Object")]
  staticTypes := #[(.object "java/util/Optional")]
  resolved := Array.replicate 187 none
  statics := some 1 }

def pool11 : Array CpInfo := pool [(2, .class_ 4), (1, u "java/lang/CharSequence"), (42, .class_ 48), (0, u "java/lang/CharSequence$1CodePointIterator"), (10, .class_ 60), (0, u "java/lang/CharSequence$1CharIterator"), (5, .class_ 67), (0, u "java/lang/Object")] 63

/-- java/lang/CharSequence -/
def k11 : Class := { plain "java/lang/CharSequence" (some 0) with
  accessFlags := 1537
  interfaces := #[]
  cf := some (fileOf pool11 2 #[.nestMembers #[47, 59]] #[] 1537 66 #[] #[])
  fields := #[]
  methods := #[]
  instanceTypes := #[]
  staticTypes := #[]
  resolved := Array.replicate 131 none
  statics := none }

def pool12 : Array CpInfo := pool [(1, .class_ 2), (0, u "java/lang/constant/ConstantDesc"), (0, .class_ 4), (0, u "java/lang/Object")] 32

/-- java/lang/constant/ConstantDesc -/
def k12 : Class := { plain "java/lang/constant/ConstantDesc" (some 0) with
  accessFlags := 1537
  interfaces := #[]
  cf := some (fileOf pool12 1 #[] #[] 1537 3 #[] #[])
  fields := #[]
  methods := #[]
  instanceTypes := #[]
  staticTypes := #[]
  resolved := Array.replicate 37 none
  statics := none }

def pool13 : Array CpInfo := pool [(2, .class_ 4), (1, u "java/lang/Object"), (0, u "<init>"), (0, u "()V"), (3, .class_ 12), (1, u "java/lang/String"), (0, u "value"), (0, u "[B"), (2, u "coder"), (0, u "B"), (2, u "hash"), (0, u "I"), (2, u "hashIsZero"), (0, u "Z"), (13, u "COMPACT_STRINGS"), (534, .class_ 576), (0, u "java/lang/CharSequence"), (22, u "CASE_INSENSITIVE_ORDER"), (0, u "Ljava/util/Comparator;"), (500, u "serialPersistentFields"), (0, u "[Ljava/io/ObjectStreamField;"), (0, .class_ 1104), (0, u "java/lang/String$CaseInsensitiveComparator"), (1, .class_ 1107), (0, u "java/io/Serializable"), (0, .class_ 1109), (0, u "java/lang/Comparable"), (0, .class_ 1111), (0, u "java/lang/constant/Constable"), (0, .class_ 1113), (0, u "java/lang/constant/ConstantDesc"), (2, u "serialVersionUID"), (0, u "J"), (3, u "REPL"), (0, u "C"), (2, u "LATIN1"), (1, u "UTF16")] 323

def k13m0 : Method := { name := "<init>", desc := "()V", sig := { parameters := [], returnType := none }, accessFlags := 1, code := none }
/-- java/lang/String -/
def k13 : Class := { plain "java/lang/String" (some 0) with
  accessFlags := 49
  interfaces := #[4, 3, 11, 2, 12]
  cf := some (fileOf pool13 10 #[.nestMembers #[1103]] #[{ accessFlags := 1, nameIndex := 5, descriptorIndex := 6, attributes := #[] }] 49 2 #[1106, 1108, 575, 1110, 1112] #[{ accessFlags := 18, nameIndex := 13, descriptorIndex := 14, attributes := #[] }, { accessFlags := 18, nameIndex := 17, descriptorIndex := 18, attributes := #[] }, { accessFlags := 2, nameIndex := 21, descriptorIndex := 22, attributes := #[] }, { accessFlags := 2, nameIndex := 25, descriptorIndex := 26, attributes := #[] }, { accessFlags := 26, nameIndex := 1116, descriptorIndex := 1117, attributes := #[] }, { accessFlags := 24, nameIndex := 40, descriptorIndex := 26, attributes := #[] }, { accessFlags := 26, nameIndex := 1101, descriptorIndex := 1102, attributes := #[] }, { accessFlags := 26, nameIndex := 1121, descriptorIndex := 1122, attributes := #[] }, { accessFlags := 25, nameIndex := 599, descriptorIndex := 600, attributes := #[] }, { accessFlags := 24, nameIndex := 1125, descriptorIndex := 18, attributes := #[] }, { accessFlags := 24, nameIndex := 1127, descriptorIndex := 18, attributes := #[] }])
  fields := #[{ name := "value", type := (.array .byte), accessFlags := 18, slot := 0, constantValue := 0 }, { name := "coder", type := .byte, accessFlags := 18, slot := 1, constantValue := 0 }, { name := "hash", type := .int, accessFlags := 2, slot := 2, constantValue := 0 }, { name := "hashIsZero", type := .boolean, accessFlags := 2, slot := 3, constantValue := 0 }, { name := "serialVersionUID", type := .long, accessFlags := 26, slot := 0, constantValue := 0 }, { name := "COMPACT_STRINGS", type := .boolean, accessFlags := 24, slot := 1, constantValue := 0 }, { name := "serialPersistentFields", type := (.array (.object "java/io/ObjectStreamField")), accessFlags := 26, slot := 2, constantValue := 0 }, { name := "REPL", type := .char, accessFlags := 26, slot := 3, constantValue := 0 }, { name := "CASE_INSENSITIVE_ORDER", type := (.object "java/util/Comparator"), accessFlags := 25, slot := 4, constantValue := 0 }, { name := "LATIN1", type := .byte, accessFlags := 24, slot := 5, constantValue := 0 }, { name := "UTF16", type := .byte, accessFlags := 24, slot := 6, constantValue := 0 }]
  methods := #[k13m0]
  instanceTypes := #[(.array .byte), .byte, .int, .boolean]
  staticTypes := #[.long, .boolean, (.array (.object "java/io/ObjectStreamField")), .char, (.object "java/util/Comparator"), .byte, .byte]
  resolved := Array.replicate 1451 none
  statics := none }

def pool14 : Array CpInfo := pool [(2, .class_ 4), (1, u "java/lang/Object"), (0, u "<init>"), (0, u "()V"), (35, .class_ 44), (1, u "java/util/Objects"), (0, u "requireNonNull"), (48, u "(Ljava/lang/Object;Ljava/lang/String;)Ljava/lang/Object;")] 89

def k14m0 : Method := { name := "<init>", desc := "()V", sig := { parameters := [], returnType := none }, accessFlags := 2, code := none }
def k14c1 : Code := { maxStack := 3, maxLocals := 2, code := jdk_31_method_11_code, exceptionTable := #[], attributes := #[] }
def k14m1 : Method := { name := "requireNonNull", desc := "(Ljava/lang/Object;Ljava/lang/String;)Ljava/lang/Object;", sig := { parameters := [(.object "java/lang/Object"), (.object "java/lang/String")], returnType := some (.object "java/lang/Object") }, accessFlags := 9, code := some k14c1 }
/-- java/util/Objects -/
def k14 : Class := { plain "java/util/Objects" (some 0) with
  accessFlags := 49
  interfaces := #[]
  cf := some (fileOf pool14 42 #[] #[{ accessFlags := 2, nameIndex := 5, descriptorIndex := 6, attributes := #[] }, { accessFlags := 9, nameIndex := 45, descriptorIndex := 94, attributes := #[] }] 49 2 #[] #[])
  fields := #[]
  methods := #[k14m0, k14m1]
  instanceTypes := #[]
  staticTypes := #[]
  resolved := Array.replicate 184 none
  statics := none }

def pool15 : Array CpInfo := pool [(2, .class_ 4), (1, u "java/lang/Record"), (3, u "method"), (13, .class_ 24), (1, u "com/example/planscribe/planscribe/model/PaymentForm"), (0, u "YEARS"), (0, u "Lcom/example/planscribe/planscribe/model/CountRange;"), (21, u "Lcom/example/planscribe/planscribe/model/PaymentMethod;"), (2, u "years"), (0, u "I")] 88

/-- com/example/planscribe/planscribe/model/PaymentForm -/
def k15 : Class := { plain "com/example/planscribe/planscribe/model/PaymentForm" (some 8) with
  accessFlags := 49
  interfaces := #[]
  cf := some (fileOf pool15 22 #[] #[] 49 2 #[] #[{ accessFlags := 18, nameIndex := 8, descriptorIndex := 48, attributes := #[] }, { accessFlags := 18, nameIndex := 51, descriptorIndex := 52, attributes := #[] }, { accessFlags := 25, nameIndex := 25, descriptorIndex := 26, attributes := #[] }])
  fields := #[{ name := "method", type := (.object "com/example/planscribe/planscribe/model/PaymentMethod"), accessFlags := 18, slot := 0, constantValue := 0 }, { name := "years", type := .int, accessFlags := 18, slot := 1, constantValue := 0 }, { name := "YEARS", type := (.object "com/example/planscribe/planscribe/model/CountRange"), accessFlags := 25, slot := 0, constantValue := 0 }]
  methods := #[]
  instanceTypes := #[(.object "com/example/planscribe/planscribe/model/PaymentMethod"), .int]
  staticTypes := #[(.object "com/example/planscribe/planscribe/model/CountRange")]
  resolved := Array.replicate 141 none
  statics := some 2 }

def pool16 : Array CpInfo := pool [(2, .class_ 4), (1, u "java/lang/Record"), (11, .fieldref 17 18), (0, .class_ 19), (0, .nameAndType 20 21), (0, u "com/example/planscribe/planscribe/model/CountRange"), (0, u "least"), (0, u "I"), (0, .fieldref 17 23), (0, .nameAndType 24 21), (0, u "most"), (18, u "contains"), (0, u "(J)Z")] 63

def k16c0 : Code := { maxStack := 4, maxLocals := 3, code := prog_108_method_2_code, exceptionTable := #[], attributes := #[] }
def k16m0 : Method := { name := "contains", desc := "(J)Z", sig := { parameters := [.long], returnType := some .boolean }, accessFlags := 1, code := some k16c0 }
/-- com/example/planscribe/planscribe/model/CountRange -/
def k16 : Class := { plain "com/example/planscribe/planscribe/model/CountRange" (some 8) with
  accessFlags := 49
  interfaces := #[]
  cf := some (fileOf pool16 17 #[] #[{ accessFlags := 1, nameIndex := 43, descriptorIndex := 44, attributes := #[] }] 49 2 #[] #[{ accessFlags := 18, nameIndex := 20, descriptorIndex := 21, attributes := #[] }, { accessFlags := 18, nameIndex := 24, descriptorIndex := 21, attributes := #[] }])
  fields := #[{ name := "least", type := .int, accessFlags := 18, slot := 0, constantValue := 0 }, { name := "most", type := .int, accessFlags := 18, slot := 1, constantValue := 0 }]
  methods := #[k16m0]
  instanceTypes := #[.int, .int]
  staticTypes := #[]
  resolved := Array.replicate 108 none
  statics := none }

def pool17 : Array CpInfo := pool [(1, .class_ 2), (0, u "java/lang/Math"), (1, .class_ 6), (1, u "java/lang/Object"), (0, u "<init>"), (0, u "()V"), (89, .class_ 100), (1, u "java/lang/Math$RandomNumberGeneratorHolder"), (71, u "negativeZeroFloatBits"), (0, u "J"), (2, u "negativeZeroDoubleBits"), (21, u "max"), (2, u "min"), (43, u "$assertionsDisabled"), (0, u "Z"), (88, u "(II)I"), (2, u "twoToTheDoubleScaleDown"), (0, u "D"), (4, u "twoToTheDoubleScaleUp"), (9, u "E"), (3, u "PI"), (2, u "TAU"), (2, u "DEGREES_TO_RADIANS"), (0, u "RADIANS_TO_DEGREES")] 94

def k17m0 : Method := { name := "<init>", desc := "()V", sig := { parameters := [], returnType := none }, accessFlags := 2, code := none }
def k17c1 : Code := { maxStack := 2, maxLocals := 2, code := jdk_29_method_65_code, exceptionTable := #[], attributes := #[] }
def k17m1 : Method := { name := "max", desc := "(II)I", sig := { parameters := [.int, .int], returnType := some .int }, accessFlags := 9, code := some k17c1 }
def k17c2 : Code := { maxStack := 2, maxLocals := 2, code := jdk_29_method_69_code, exceptionTable := #[], attributes := #[] }
def k17m2 : Method := { name := "min", desc := "(II)I", sig := { parameters := [.int, .int], returnType := some .int }, accessFlags := 9, code := some k17c2 }
/-- java/lang/Math -/
def k17 : Class := { plain "java/lang/Math" (some 0) with
  accessFlags := 49
  interfaces := #[]
  cf := some (fileOf pool17 1 #[.nestMembers #[98]] #[{ accessFlags := 2, nameIndex := 7, descriptorIndex := 8, attributes := #[] }, { accessFlags := 9, nameIndex := 198, descriptorIndex := 335, attributes := #[] }, { accessFlags := 9, nameIndex := 201, descriptorIndex := 335, attributes := #[] }] 49 4 #[] #[{ accessFlags := 25, nameIndex := 354, descriptorIndex := 339, attributes := #[] }, { accessFlags := 25, nameIndex := 358, descriptorIndex := 339, attributes := #[] }, { accessFlags := 25, nameIndex := 361, descriptorIndex := 339, attributes := #[] }, { accessFlags := 26, nameIndex := 364, descriptorIndex := 339, attributes := #[] }, { accessFlags := 26, nameIndex := 365, descriptorIndex := 339, attributes := #[] }, { accessFlags := 26, nameIndex := 172, descriptorIndex := 173, attributes := #[] }, { accessFlags := 26, nameIndex := 176, descriptorIndex := 173, attributes := #[] }, { accessFlags := 8, nameIndex := 344, descriptorIndex := 339, attributes := #[] }, { accessFlags := 8, nameIndex := 338, descriptorIndex := 339, attributes := #[] }, { accessFlags := 4120, nameIndex := 245, descriptorIndex := 246, attributes := #[] }])
  fields := #[{ name := "E", type := .double, accessFlags := 25, slot := 0, constantValue := 0 }, { name := "PI", type := .double, accessFlags := 25, slot := 1, constantValue := 0 }, { name := "TAU", type := .double, accessFlags := 25, slot := 2, constantValue := 0 }, { name := "DEGREES_TO_RADIANS", type := .double, accessFlags := 26, slot := 3, constantValue := 0 }, { name := "RADIANS_TO_DEGREES", type := .double, accessFlags := 26, slot := 4, constantValue := 0 }, { name := "negativeZeroFloatBits", type := .long, accessFlags := 26, slot := 5, constantValue := 0 }, { name := "negativeZeroDoubleBits", type := .long, accessFlags := 26, slot := 6, constantValue := 0 }, { name := "twoToTheDoubleScaleUp", type := .double, accessFlags := 8, slot := 7, constantValue := 0 }, { name := "twoToTheDoubleScaleDown", type := .double, accessFlags := 8, slot := 8, constantValue := 0 }, { name := "$assertionsDisabled", type := .boolean, accessFlags := 4120, slot := 9, constantValue := 0 }]
  methods := #[k17m0, k17m1, k17m2]
  instanceTypes := #[]
  staticTypes := #[.double, .double, .double, .double, .double, .long, .long, .double, .double, .boolean]
  resolved := Array.replicate 460 none
  statics := none }

def pool18 : Array CpInfo := pool [(1, u "java/lang/Cloneable"), (0, .class_ 1), (0, u "java/lang/Object"), (0, .class_ 3)] 3

/-- java/lang/Cloneable -/
def k18 : Class := { plain "java/lang/Cloneable" (some 0) with
  accessFlags := 1537
  interfaces := #[]
  cf := some (fileOf pool18 2 #[] #[] 1537 4 #[] #[])
  fields := #[]
  methods := #[]
  instanceTypes := #[]
  staticTypes := #[]
  resolved := Array.replicate 8 none
  statics := none }

/-- the primitive byte -/
def k19 : Class := { plain "byte" none with kind := .primitive 'B', accessFlags := 0x411 }
/-- [B -/
def k20 : Class := { plain "[B" (some 0) with kind := .array 19 .byte, interfaces := #[18, 4], accessFlags := 1041 }

/-- the primitive int -/
def k21 : Class := { plain "int" none with kind := .primitive 'I', accessFlags := 0x411 }
/-- [I -/
def k22 : Class := { plain "[I" (some 0) with kind := .array 21 .int, interfaces := #[18, 4], accessFlags := 1041 }

def heap : Heap := #[{ cls := 7, slots := #[.ref 3, .ref 4, .null], vm := .statics 7 },
  { cls := 10, slots := #[.ref 6], vm := .statics 10 },
  { cls := 15, slots := #[.ref 5], vm := .statics 15 },
  { cls := 7, slots := #[.null, .int 0, .int 0, .null], vm := .none },
  { cls := 7, slots := #[.null, .int 1, .int 0, .null], vm := .none },
  { cls := 16, slots := #[.int 1, .int 100], vm := .none },
  { cls := 10, slots := #[.null], vm := .none }]
def classes : Array Class := #[k0, k1, k2, k3, k4, k5, k6, k7, k8, k9, k10, k11, k12, k13, k14, k15, k16, k17, k18, k19, k20, k21, k22]
def interned : List (Array UInt16 × Addr) := []
def slotsUsed : Nat := 16
def theMethod : MethodId := ⟨1, 2⟩
def args0 : Array Value := #[.int 5, .int 3, .int 1, .int 2, .int 3]
def aboutOver (below : List Frame) : State where
  vm := { classes := classes, interned := interned.toArray }
  heap := heap
  slotsUsed := slotsUsed
  threads := #[{ frames := .invoking theMethod args0 :: below }]
def below0 : List Frame := [.native { method := ⟨0, 0⟩, args := #[] }]
def about1 : State := aboutOver below0
def p0 : Program := .bare "" "" ""
def e0 : Env := launch0.env 0 0 0
theorem w_frames : about1.frames = Frame.invoking theMethod args0 :: below0 := rfl
set_option maxRecDepth 65536 in
theorem w_args : argsFit about1.vm theMethod args0 = true := by decide +kernel
set_option maxRecDepth 65536 in
theorem w_heap : heapFits about1 = true := by decide +kernel
set_option maxRecDepth 65536 in
theorem w_runnable : about1.curStatus? = some .runnable := by decide +kernel
set_option maxRecDepth 65536 in
theorem w_alone : about1.alone = true := by decide +kernel
set_option maxRecDepth 65536 in
theorem w_named : about1.methodNamed? x = some theMethod := by decide +kernel
set_option maxRecDepth 65536 in
theorem w_hears : about1.hears theMethod below0 = true := by decide +kernel
set_option maxRecDepth 65536 in
theorem w_ripe : about1.ripe theMethod args0 below0 = true := by decide +kernel
theorem w_running : about1.status = .running := rfl
set_option maxRecDepth 65536 in
theorem w_room : about1.hasRoom e0.platform room_1 = true :=
  launch0.hasRoom_least _ room_1 (by decide +kernel) (by decide +kernel) (by decide +kernel) (by decide +kernel) (by decide +kernel) (by decide +kernel)
theorem allAtoms_all (ts : List Jvm.Cond) (a : Array Jvm.Value) (st : Jvm.State) : (allAtoms ts).before a st = ts.all (fun c => c.before a st) := by
  induction ts with
  | nil => rfl
  | cons c t ih =>
    show (Jvm.Cond.and c (allAtoms t)).before a st = _
    rw [Jvm.Cond.before_and, ih, List.all_cons]
def words1 : List Jvm.Cond := Jvm.Cond.code x code maxLocals ret :: tables_1
/-- a 'code' word, met by the world's own term for the bytes: nothing is compared byte by byte -/
theorem code_word {y : MethodName} {bytes : ByteArray} {mx : Nat} {rt : Option FieldType} {a : Array Value} {s : State} {m : MethodId} {meth : Method} {c : Code} (h1 : s.methodNamed? y = some m) (h2 : s.vm.method? m = some meth) (h3 : meth.code = some c) (h4 : c.code = bytes)
    (h5 : (c.maxLocals == mx && c.exceptionTable.isEmpty && decide (c.maxStack ≤ mostOperands) && decide (meth.sig.returnType = rt) && !meth.locks && decide (parseMethodDescriptor y.desc = some meth.sig)) = true) : (Jvm.Cond.code y bytes mx rt).before a s = true := by
  simp only [Bool.and_eq_true, beq_iff_eq, Bool.not_eq_true', decide_eq_true_eq] at h5
  obtain ⟨⟨⟨⟨⟨g1, g2⟩, g3⟩, g4⟩, g5⟩, g6⟩ := h5
  simp [Cond.before, Cond.holds, Cond.value, h1, h2, h3, h4, g1, g2, g3, g4, g5, g6]
def isCode : Jvm.Cond → Bool
  | .code _ _ _ _ => true
  | _ => false
theorem all_split {L : List Jvm.Cond} {P : Jvm.Cond → Bool} (h1 : L.all (fun c => isCode c || P c) = true) (h2 : ∀ c ∈ L.filter isCode, P c = true) : L.all P = true := by
  refine List.all_eq_true.mpr fun c hc => ?_
  have h := List.all_eq_true.mp h1 c hc
  rcases Bool.eq_false_or_eq_true (isCode c) with hi | hi
  · exact h2 c (List.mem_filter.mpr ⟨hc, hi⟩)
  · simpa [hi] using h
set_option maxRecDepth 65536 in
theorem w_c0 : (Jvm.Cond.code x code maxLocals ret).before args0 about1 = true := code_word (m := ⟨1, 2⟩) (meth := k1m2) (c := k1c2) (by decide +kernel) rfl rfl rfl (by decide +kernel)
set_option maxRecDepth 65536 in
theorem w_c1 : (Jvm.Cond.code ({ cls := "java/util/Optional", name := "empty", desc := "()Ljava/util/Optional;" } : Jvm.MethodName) jdk_32_method_1_code (1 : Nat) (Option.some (Jvm.ClassFile.FieldType.object "java/util/Optional"))).before args0 about1 = true := code_word (m := ⟨10, 0⟩) (meth := k10m0) (c := k10c0) (by decide +kernel) rfl rfl rfl (by decide +kernel)
set_option maxRecDepth 65536 in
theorem w_c2 : (Jvm.Cond.code ({ cls := "com/example/planscribe/planscribe/model/Distribution$Installments", name := "<init>", desc := "(IILcom/example/planscribe/planscribe/model/Distribution$Divisor;Ljava/util/Optional;)V" } : Jvm.MethodName) prog_114_method_1_code (5 : Nat) (Option.none : Option Jvm.ClassFile.FieldType)).before args0 about1 = true := code_word (m := ⟨9, 0⟩) (meth := k9m0) (c := k9c0) (by decide +kernel) rfl rfl rfl (by decide +kernel)
set_option maxRecDepth 65536 in
theorem w_c3 : (Jvm.Cond.code ({ cls := "java/lang/Record", name := "<init>", desc := "()V" } : Jvm.MethodName) jdk_30_method_1_code (1 : Nat) (Option.none : Option Jvm.ClassFile.FieldType)).before args0 about1 = true := code_word (m := ⟨8, 0⟩) (meth := k8m0) (c := k8c0) (by decide +kernel) rfl rfl rfl (by decide +kernel)
set_option maxRecDepth 65536 in
theorem w_c4 : (Jvm.Cond.code ({ cls := "java/lang/Object", name := "<init>", desc := "()V" } : Jvm.MethodName) object_method_1_code (1 : Nat) (Option.none : Option Jvm.ClassFile.FieldType)).before args0 about1 = true := code_word (m := ⟨0, 0⟩) (meth := k0m0) (c := k0c0) (by decide +kernel) rfl rfl rfl (by decide +kernel)
set_option maxRecDepth 65536 in
theorem w_c5 : (Jvm.Cond.code ({ cls := "java/util/Objects", name := "requireNonNull", desc := "(Ljava/lang/Object;Ljava/lang/String;)Ljava/lang/Object;" } : Jvm.MethodName) jdk_31_method_11_code (2 : Nat) (Option.some (Jvm.ClassFile.FieldType.object "java/lang/Object"))).before args0 about1 = true := code_word (m := ⟨14, 1⟩) (meth := k14m1) (c := k14c1) (by decide +kernel) rfl rfl rfl (by decide +kernel)
set_option maxRecDepth 65536 in
theorem w_c6 : (Jvm.Cond.code ({ cls := "com/example/planscribe/planscribe/model/CountRange", name := "contains", desc := "(J)Z" } : Jvm.MethodName) prog_108_method_2_code (3 : Nat) (Option.some Jvm.ClassFile.FieldType.boolean)).before args0 about1 = true := code_word (m := ⟨16, 0⟩) (meth := k16m0) (c := k16c0) (by decide +kernel) rfl rfl rfl (by decide +kernel)
set_option maxRecDepth 65536 in
theorem w_c7 : (Jvm.Cond.code ({ cls := "java/util/Optional", name := "isPresent", desc := "()Z" } : Jvm.MethodName) jdk_32_method_6_code (1 : Nat) (Option.some Jvm.ClassFile.FieldType.boolean)).before args0 about1 = true := code_word (m := ⟨10, 1⟩) (meth := k10m1) (c := k10c1) (by decide +kernel) rfl rfl rfl (by decide +kernel)
set_option maxRecDepth 65536 in
theorem w_c8 : (Jvm.Cond.code ({ cls := "com/example/planscribe/planscribe/model/Distribution$Installments", name := "over", desc := "(I)Z" } : Jvm.MethodName) prog_114_method_2_code (2 : Nat) (Option.some Jvm.ClassFile.FieldType.boolean)).before args0 about1 = true := code_word (m := ⟨9, 1⟩) (meth := k9m1) (c := k9c1) (by decide +kernel) rfl rfl rfl (by decide +kernel)
set_option maxRecDepth 65536 in
theorem w_c9 : (Jvm.Cond.code ({ cls := "com/example/planscribe/planscribe/model/InstallmentsOverPinLaw", name := "inRange", desc := "(III)Z" } : Jvm.MethodName) method_2_code (3 : Nat) (Option.some Jvm.ClassFile.FieldType.boolean)).before args0 about1 = true := code_word (m := ⟨1, 1⟩) (meth := k1m1) (c := k1c1) (by decide +kernel) rfl rfl rfl (by decide +kernel)
set_option maxRecDepth 65536 in
theorem w_c10 : (Jvm.Cond.code ({ cls := "java/lang/Math", name := "min", desc := "(II)I" } : Jvm.MethodName) jdk_29_method_69_code (2 : Nat) (Option.some Jvm.ClassFile.FieldType.int)).before args0 about1 = true := code_word (m := ⟨17, 2⟩) (meth := k17m2) (c := k17c2) (by decide +kernel) rfl rfl rfl (by decide +kernel)
set_option maxRecDepth 65536 in
theorem w_c11 : (Jvm.Cond.code ({ cls := "java/lang/Math", name := "max", desc := "(II)I" } : Jvm.MethodName) jdk_29_method_65_code (2 : Nat) (Option.some Jvm.ClassFile.FieldType.int)).before args0 about1 = true := code_word (m := ⟨17, 1⟩) (meth := k17m1) (c := k17c1) (by decide +kernel) rfl rfl rfl (by decide +kernel)
def codes1 : List Jvm.Cond := [Jvm.Cond.code x code maxLocals ret, Jvm.Cond.code ({ cls := "java/util/Optional", name := "empty", desc := "()Ljava/util/Optional;" } : Jvm.MethodName) jdk_32_method_1_code (1 : Nat) (Option.some (Jvm.ClassFile.FieldType.object "java/util/Optional")), Jvm.Cond.code ({ cls := "com/example/planscribe/planscribe/model/Distribution$Installments", name := "<init>", desc := "(IILcom/example/planscribe/planscribe/model/Distribution$Divisor;Ljava/util/Optional;)V" } : Jvm.MethodName) prog_114_method_1_code (5 : Nat) (Option.none : Option Jvm.ClassFile.FieldType), Jvm.Cond.code ({ cls := "java/lang/Record", name := "<init>", desc := "()V" } : Jvm.MethodName) jdk_30_method_1_code (1 : Nat) (Option.none : Option Jvm.ClassFile.FieldType), Jvm.Cond.code ({ cls := "java/lang/Object", name := "<init>", desc := "()V" } : Jvm.MethodName) object_method_1_code (1 : Nat) (Option.none : Option Jvm.ClassFile.FieldType), Jvm.Cond.code ({ cls := "java/util/Objects", name := "requireNonNull", desc := "(Ljava/lang/Object;Ljava/lang/String;)Ljava/lang/Object;" } : Jvm.MethodName) jdk_31_method_11_code (2 : Nat) (Option.some (Jvm.ClassFile.FieldType.object "java/lang/Object")), Jvm.Cond.code ({ cls := "com/example/planscribe/planscribe/model/CountRange", name := "contains", desc := "(J)Z" } : Jvm.MethodName) prog_108_method_2_code (3 : Nat) (Option.some Jvm.ClassFile.FieldType.boolean), Jvm.Cond.code ({ cls := "java/util/Optional", name := "isPresent", desc := "()Z" } : Jvm.MethodName) jdk_32_method_6_code (1 : Nat) (Option.some Jvm.ClassFile.FieldType.boolean), Jvm.Cond.code ({ cls := "com/example/planscribe/planscribe/model/Distribution$Installments", name := "over", desc := "(I)Z" } : Jvm.MethodName) prog_114_method_2_code (2 : Nat) (Option.some Jvm.ClassFile.FieldType.boolean), Jvm.Cond.code ({ cls := "com/example/planscribe/planscribe/model/InstallmentsOverPinLaw", name := "inRange", desc := "(III)Z" } : Jvm.MethodName) method_2_code (3 : Nat) (Option.some Jvm.ClassFile.FieldType.boolean), Jvm.Cond.code ({ cls := "java/lang/Math", name := "min", desc := "(II)I" } : Jvm.MethodName) jdk_29_method_69_code (2 : Nat) (Option.some Jvm.ClassFile.FieldType.int), Jvm.Cond.code ({ cls := "java/lang/Math", name := "max", desc := "(II)I" } : Jvm.MethodName) jdk_29_method_65_code (2 : Nat) (Option.some Jvm.ClassFile.FieldType.int)]
set_option maxRecDepth 65536 in
theorem codes_eq : words1.filter isCode = codes1 := rfl
theorem w_codes : ∀ c ∈ words1.filter isCode, c.before args0 about1 = true := by
  rw [codes_eq]
  intro c hc
  simp only [codes1, List.mem_cons, List.not_mem_nil, or_false] at hc
  rcases hc with rfl | rfl | rfl | rfl | rfl | rfl | rfl | rfl | rfl | rfl | rfl | rfl
  · exact w_c0
  · exact w_c1
  · exact w_c2
  · exact w_c3
  · exact w_c4
  · exact w_c5
  · exact w_c6
  · exact w_c7
  · exact w_c8
  · exact w_c9
  · exact w_c10
  · exact w_c11
set_option maxRecDepth 65536 in
theorem w_t1 : (words1.take 24).all (fun c => isCode c || c.before args0 about1) = true := by decide +kernel
set_option maxRecDepth 65536 in
theorem w_t2 : ((words1.drop 24).take 24).all (fun c => isCode c || c.before args0 about1) = true := by decide +kernel
set_option maxRecDepth 65536 in
theorem w_t3 : (((words1.drop 24).drop 24).take 24).all (fun c => isCode c || c.before args0 about1) = true := by decide +kernel
set_option maxRecDepth 65536 in
theorem w_t4 : (((words1.drop 24).drop 24).drop 24).all (fun c => isCode c || c.before args0 about1) = true := by decide +kernel
theorem w_tables : (allAtoms (Jvm.Cond.code x code maxLocals ret :: tables_1)).before args0 about1 = true := by
  rw [allAtoms_all]
  show words1.all (fun c => c.before args0 about1) = true
  refine all_split ?_ w_codes
  rw [← List.take_append_drop 24 words1, List.all_append, w_t1, ← List.take_append_drop 24 (words1.drop 24), List.all_append, w_t2, ← List.take_append_drop 24 ((words1.drop 24).drop 24), List.all_append, w_t3, w_t4]
  rfl
set_option maxRecDepth 65536 in
theorem w_rest : rest_1_c.before args0 about1 = true := by decide +kernel
set_option maxRecDepth 65536 in
theorem w_case : (Jvm.Cond.and given_1 narrow_1).before args0 about1 = true := by decide +kernel
theorem w_applies : (headSpec (Jvm.Cond.code x code maxLocals ret :: tables_1) room_1).applies x e0.platform about1 = true :=
  (Spec.applies_iff w_frames).mpr ⟨w_running, w_runnable, w_alone, w_named, w_hears, w_ripe, w_room, w_tables⟩
theorem atStart : AtStart classFile x code maxLocals ret World_1 tables_1 room_1 Calls_1 rest_1 Pre_1 launch0 p0 e0 about1 theMethod args0 below0 :=
  ⟨lists_1, trivial, launch0.admits_env _ _ _, launch0.least_env, fairChoices_fair.cas, fairChoices_fair.clock, w_frames, w_args, w_heap, w_applies, trivial, w_rest, w_case⟩
end start1
theorem witness_1 : WitnessClaimed_1 := ⟨start1.p0, start1.e0, start1.about1, start1.theMethod, start1.args0, start1.below0, start1.atStart⟩
end Jvm.Pilot.@@N@@
