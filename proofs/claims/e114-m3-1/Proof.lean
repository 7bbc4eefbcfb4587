import JvmDerived
import JvmDerived.Pilot.@@N@@Statement
import JvmDerived.Pilot.@@N@@Code
set_option linter.unusedVariables false
set_option linter.unusedSimpArgs false
namespace Jvm.Pilot.@@N@@
open Jvm Jvm.ClassFile Sem Op Lib Jvm.Free Jvm.Stand Jvm.LawKit Jvm.RoadKit Bundle Jvm.Pilot.@@N@@.Jvm.D
/-! own kit: a walk that goes forward, step by step, and may fork anywhere (Go); a body's contract (Con); calls by contract; arrays by their list of values (Ary) -/
def Go (p : Program) (e : Env) (below : List Frame) (s : State) (k n : Nat) (Q : Option Value → Heap → List Loc → Prop) (S : State) : Prop :=
  ∃ (U : State) (o : Outcome), Steps p.tables e below S U ∧ U.status = .running ∧ Ended U below o ∧ ∃ v L, o = .returned v ∧ Q v U.heap L ∧ FrameEnd s o U L k n
section Own
variable {p : Program} {l : Launch} {e : Env} {R : Room} {s : State} {m : MethodId} {args : Array Value} {below : List Frame} {meth : Method} {c : Code} {T : State} {locs : List Loc} {cells slots : Nat} {Z : State} {a0 : Array Value} {h h' : Heap} {k n : Nat} {Q : Option Value → Heap → List Loc → Prop} {S S' : State}
theorem Go.st (f : ∀ t, Steps p.tables e below S' t → Steps p.tables e below S t) (g : Go p e below s k n Q S') : Go p e below s k n Q S := by
  obtain ⟨U, o, h1, r⟩ := g
  exact ⟨U, o, f _ h1, r⟩
theorem Go.cast {g g' : JFrame} (q : g = g') (k' : Go p e below s k n Q (T.setTop g')) : Go p e below s k n Q (T.setTop g) := q ▸ k'
theorem Go.ret (X : Stand p l e R s m args below meth c T locs cells slots) (hlk : meth.locks = false) {v : Option Value} (hv : meth.sig.returnType = none → v = none)
    (step : ∀ fs, (∀ (f : JFrame) (acts : List Action), f.method = m → f.locked = none → f.entered = [] → (doReturn e (T.setTop f) acts v).1 = T.setFrames fs) → Steps p.tables e below S (T.setFrames fs))
    (hk : cells ≤ k) (hn : slots ≤ n) (hQ : Q v T.heap locs) : Go p e below s k n Q S := by
  obtain ⟨fs, hr, hrun, hended, hW, hsame⟩ := X.leave (v := v) hv hlk
  exact ⟨_, _, step fs hr, hrun, hended, v, locs, rfl, hQ, ⟨_, rfl⟩, hW, hsame.mono hk hn⟩
theorem Go.retI (X : Stand p l e R s m args below meth c T locs cells slots) (hx : p.tables.exec = Jvm.exec) (hlk : meth.locks = false) (hret : meth.sig.returnType = some .int) {pc : Nat} {Ls : Array Slot} {z : Int32} {rest : List Value} (hd : decode c.code pc = .ok (.ireturn, 1))
    (hk : cells ≤ k) (hn : slots ≤ n) (hQ : Q (some (.int z)) T.heap locs) : Go p e below s k n Q (T.setTop (mkF m pc Ls (.int z :: rest))) :=
  Go.ret X hlk (fun q => by rw [hret] at q; cases q) (fun fs hr => retOut X hx hret rfl (Or.inl ⟨rfl, Or.inl rfl, z, rfl⟩) hd hr) hk hn hQ
theorem Go.retN (X : Stand p l e R s m args below meth c T locs cells slots) (hx : p.tables.exec = Jvm.exec) (hlk : meth.locks = false) {t : FieldType} (hret : meth.sig.returnType = some t) (ht : t = .boolean ∨ t = .byte ∨ t = .char ∨ t = .short) {pc : Nat} {Ls : Array Slot} {z : Int32} {rest : List Value} (hd : decode c.code pc = .ok (.ireturn, 1))
    (hk : cells ≤ k) (hn : slots ≤ n) (hQ : Q (some (.int (nar t z))) T.heap locs) : Go p e below s k n Q (T.setTop (mkF m pc Ls (.int z :: rest))) :=
  Go.ret X hlk (fun q => by rw [hret] at q; cases q) (fun fs hr => Jvm.RoadKit.retN X hx hret ht hd hr) hk hn hQ
theorem Go.retL (X : Stand p l e R s m args below meth c T locs cells slots) (hx : p.tables.exec = Jvm.exec) (hlk : meth.locks = false) (hret : meth.sig.returnType = some .long) {pc : Nat} {Ls : Array Slot} {z : Int64} {rest : List Value} (hd : decode c.code pc = .ok (.lreturn, 1))
    (hk : cells ≤ k) (hn : slots ≤ n) (hQ : Q (some (.long z)) T.heap locs) : Go p e below s k n Q (T.setTop (mkF m pc Ls (.long z :: rest))) :=
  Go.ret X hlk (fun q => by rw [hret] at q; cases q) (fun fs hr => retOut X hx hret rfl (Or.inr (Or.inl ⟨rfl, rfl, z, rfl⟩)) hd hr) hk hn hQ
theorem own_narR {t : FieldType} {w : Value} (h1 : t.isReference = true) (h2 : w.isRef = true) : narrow t w = w := by
  rcases ref_cases h2 with rfl | ⟨a, rfl⟩ <;> cases t <;> first | rfl | (simp [FieldType.isReference] at h1)
theorem Go.retA (X : Stand p l e R s m args below meth c T locs cells slots) (hx : p.tables.exec = Jvm.exec) (hlk : meth.locks = false) {t : FieldType} (hret : meth.sig.returnType = some t) (ht : t.isReference = true) {pc : Nat} {Ls : Array Slot} {w : Value} {rest : List Value} (hw : w.isRef = true) (hd : decode c.code pc = .ok (.areturn, 1))
    (hk : cells ≤ k) (hn : slots ≤ n) (hQ : Q (some w) T.heap locs) : Go p e below s k n Q (T.setTop (mkF m pc Ls (w :: rest))) :=
  Go.ret X hlk (fun q => by rw [hret] at q; cases q) (fun fs hr => retOut X hx hret (own_narR ht hw) (Or.inr (Or.inr (Or.inr (Or.inr ⟨rfl, ht, hw⟩)))) hd hr) hk hn hQ
theorem Go.retV (X : Stand p l e R s m args below meth c T locs cells slots) (hx : p.tables.exec = Jvm.exec) (hlk : meth.locks = false) (hret : meth.sig.returnType = none) {pc : Nat} {Ls : Array Slot} (hd : decode c.code pc = .ok (.return_, 1))
    (hk : cells ≤ k) (hn : slots ≤ n) (hQ : Q none T.heap locs) : Go p e below s k n Q (T.setTop (mkF m pc Ls [])) :=
  Go.ret X hlk (fun _ => rfl) (fun fs hr => X.returnOut hx hret hd hr) hk hn hQ
/-- what a body leaves, for every start that is warmer than Z's, its heap h0, its arguments as' -/
def Con (l : Launch) (Z : State) (y : MethodName) (bytes : ByteArray) (maxL : Nat) (ret : Option FieldType) (rm : Room) (as' : Array Value) (h0 : Heap) (Q : Option Value → Heap → List Loc → Prop) : Prop :=
  ∀ ws : List Jvm.Cond, MetFree l y (head1 (Jvm.Cond.code y bytes maxL ret :: ws) rm) (fun a U => a = as' ∧ Z.Warmed39 U.vm ∧ U.heap = h0) (fun _ _ _ _ _ => True) (fun _ U o U' => ∃ v L, o = .returned v ∧ Q v U'.heap L ∧ FrameEnd U o U' L rm.cells rm.slots)
theorem Con.of {y : MethodName} {bytes : ByteArray} {maxL : Nat} {ret : Option FieldType} {rm : Room} {as' : Array Value} {h0 : Heap} (hp : plainFor y = true)
    (body : ∀ (p : Program) (e : Env) (s : State) (m : MethodId) (below : List Frame) (meth : Method) (c : Code) (s₁ : State), Stand p l e rm s m as' below meth c s₁ [] 0 0 → p.tables.exec = Jvm.exec → c.code = bytes → c.maxLocals = maxL → Z.Warmed39 s.vm → s.vm.findClass y.cls = some m.cls → meth.name = y.name → meth.sig.returnType = ret → meth.locks = false → s₁.heap = h0 →
      Go p e below s rm.cells rm.slots Q (s₁.setTop (entryFrame m as' maxL))) : Con l Z y bytes maxL ret rm as' h0 Q := by
  intro ws
  refine MetFree.of_bodySF hp hisR ?_
  intro p e s m args below meth c s₁ Bd hml hP hK
  obtain ⟨rfl, hZ, hh⟩ := hP
  obtain ⟨U, o, h1, h2, h3, h4⟩ := body p e s m below meth c s₁ (Stand.of_body Bd) Bd.exec Bd.bytes hml hZ (findClass_of_methodNamed Bd.named) (name_of_methodNamed Bd.named Bd.method).1 Bd.returns Bd.notSynchronized (by rw [← hh, Bd.state]; rfl)
  exact ⟨U, o, h1, h2, h3, h4⟩
theorem Con.imp {y : MethodName} {bytes : ByteArray} {maxL : Nat} {ret : Option FieldType} {rm : Room} {as' : Array Value} {h0 : Heap} {Q' : Option Value → Heap → List Loc → Prop} (hC : Con l Z y bytes maxL ret rm as' h0 Q) (hq : ∀ v h L, Q v h L → Q' v h L) : Con l Z y bytes maxL ret rm as' h0 Q' := by
  intro ws p e ha hc hk s m args below hf happ hP hK
  obtain ⟨n, o, h1, h2, h3, v, L, h4, h5, h6⟩ := hC ws p e ha hc hk s m args below hf happ hP hK
  exact ⟨n, o, h1, h2, h3, v, L, h4, hq _ _ _ h5, h6⟩
theorem own_callS (X : Stand p l e R s m args below meth c T locs cells slots) (hx : p.tables.exec = Jvm.exec) (hZ : Z.Warmed39 s.vm) {own : String} {index : Nat} {y : MethodName} {bytes : ByteArray} {maxL : Nat} {ret : Option FieldType} {rm : Room}
    (hown : s.vm.findClass own = some m.cls) (w1 : (Jvm.Cond.methodLink own index y).before a0 Z = true) (w2 : (Jvm.Cond.static y).before a0 Z = true) (w3 : (Jvm.Cond.initialized y.cls).before a0 Z = true) (w4 : (Jvm.Cond.code y bytes maxL ret).before a0 Z = true)
    (hy : y.cls ≠ "java/lang/invoke/MethodHandle" ∧ y.cls ≠ "java/lang/invoke/VarHandle") (eT : T.heap = h) {argsL rest : List Value} (hC : Con l Z y bytes maxL ret rm argsL.toArray h Q)
    {g : JFrame} (hg : g.method = m) (hsize : g.locals.size = c.maxLocals) (hlen : ∀ sig, parseMethodDescriptor y.desc = some sig → argsL.length = sig.parameters.length) (hstack : g.stack = argsL.reverse ++ rest) (hd : decode c.code g.pc = .ok (.invokestatic index, 3))
    {W : Nat} (hW : 2 * g.monitorRoom + (rest.map fun v => v.category).sum ≤ W) (hf : rm.frames + 1 ≤ R.frames) (hl : W + (maxL + 11) + rm.locals ≤ R.locals) (hc : cells + rm.cells ≤ R.cells) (hs : slots + rm.slots ≤ R.slots) :
    ∃ v T' h' L, Stand p l e R s m args below meth c T' (locs ++ L) (cells + rm.cells) (slots + rm.slots) ∧ T'.heap = h' ∧ Q v h' L ∧ ∀ target, Steps p.tables e below (T'.setTop { g with pc := g.pc + 3, stack := v.toList ++ rest }) target → Steps p.tables e below (T.setTop g) target := by
  obtain ⟨v, _, ⟨T', L', k', n'⟩, -, X', ⟨Lc, hQ, l', y', z'⟩, st⟩ := Jvm.LawKit.callS X hx (y := y) hown (mvT hZ w1) (mvT hZ w2) (mvT hZ w3) (mvT hZ w4) hy (backOf (W := W) (hC []) hZ w4 w3 hf hl) hg hsize (argsL := argsL) (rest := rest) hlen hstack hW hd (fun _ _ => ⟨rfl, eT, hc, hs⟩)
  dsimp only [Pt.U, Pt.locs, Pt.cells, Pt.slots] at X' l' y' z' st hQ
  subst l' y' z'
  exact ⟨v, T', _, Lc, X', rfl, hQ, st⟩
theorem own_callN (X : Stand p l e R s m args below meth c T locs cells slots) (hx : p.tables.exec = Jvm.exec) (hZ : Z.Warmed39 s.vm) {own : String} {index : Nat} {y : MethodName} {bytes : ByteArray} {maxL : Nat} {rm : Room} (hy1 : y.name = "<init>")
    (hown : s.vm.findClass own = some m.cls) (w1 : (Jvm.Cond.methodLink own index y).before a0 Z = true) (w2 : (Jvm.Cond.instanceMethod y).before a0 Z = true) (w3 : (Jvm.Cond.initialized y.cls).before a0 Z = true) (w4 : (Jvm.Cond.code y bytes maxL none).before a0 Z = true)
    (hy : y.cls ≠ "java/lang/invoke/MethodHandle" ∧ y.cls ≠ "java/lang/invoke/VarHandle") (eT : T.heap = h) {a : Addr} {argsL rest : List Value} (hC : Con l Z y bytes maxL none rm (.ref a :: argsL).toArray h Q)
    {g : JFrame} (hg : g.method = m) (hsize : g.locals.size = c.maxLocals) (hlen : ∀ sig, parseMethodDescriptor y.desc = some sig → argsL.length = sig.parameters.length) (hstack : g.stack = argsL.reverse ++ .ref a :: rest) (hd : decode c.code g.pc = .ok (.invokespecial index, 3))
    {W : Nat} (hW : 2 * g.monitorRoom + (rest.map fun v => v.category).sum ≤ W) (hf : rm.frames + 1 ≤ R.frames) (hl : W + (maxL + 11) + rm.locals ≤ R.locals) (hc : cells + rm.cells ≤ R.cells) (hs : slots + rm.slots ≤ R.slots) :
    ∃ v T' h' L, Stand p l e R s m args below meth c T' (locs ++ L) (cells + rm.cells) (slots + rm.slots) ∧ T'.heap = h' ∧ Q v h' L ∧ ∀ target, Steps p.tables e below (T'.setTop { g with pc := g.pc + 3, stack := v.toList ++ rest }) target → Steps p.tables e below (T.setTop g) target := by
  obtain ⟨v, _, ⟨T', L', k', n'⟩, -, X', ⟨Lc, hQ, l', y', z'⟩, st⟩ := X.specialBack hx (y := y) hy1 hown (mvT hZ w1) (mvT hZ w2) (mvT hZ w4) hy (backOf (W := W) (hC []) hZ w4 w3 hf hl) hg hsize (Steps.refl _) (a := a) (argsL := argsL) (rest := rest) hlen hstack hW hd (fun _ _ => ⟨rfl, eT, hc, hs⟩)
  dsimp only [Pt.U, Pt.locs, Pt.cells, Pt.slots] at X' l' y' z' st hQ
  subst l' y' z'
  exact ⟨v, T', _, Lc, X', rfl, hQ, fun t ht => st.trans ht⟩
theorem own_callV (X : Stand p l e R s m args below meth c T locs cells slots) (hx : p.tables.exec = Jvm.exec) (hZ : Z.Warmed39 s.vm) {own C : String} {index : Nat} {y z : MethodName} {bytes : ByteArray} {maxL : Nat} {ret : Option FieldType} {rm : Room}
    (hown : s.vm.findClass own = some m.cls) (w1 : (Jvm.Cond.methodLink own index y).before a0 Z = true) (w2 : (Jvm.Cond.declares y).before a0 Z = true) (w5 : (Jvm.Cond.selects y.cls y y).before a0 Z = true) (w6 : (Jvm.Cond.selects C y z).before a0 Z = true) (w7 : (Jvm.Cond.instanceMethod z).before a0 Z = true) (w3 : (Jvm.Cond.initialized z.cls).before a0 Z = true) (w4 : (Jvm.Cond.code z bytes maxL ret).before a0 Z = true)
    (hy : y.cls ≠ "java/lang/invoke/MethodHandle" ∧ y.cls ≠ "java/lang/invoke/VarHandle") (eT : T.heap = h) {a : Addr} (E : Exa Z h a C) {argsL rest : List Value} (hC : Con l Z z bytes maxL ret rm (.ref a :: argsL).toArray h Q)
    {g : JFrame} (hg : g.method = m) (hsize : g.locals.size = c.maxLocals) (hlen : ∀ sig, parseMethodDescriptor y.desc = some sig → argsL.length = sig.parameters.length) (hstack : g.stack = argsL.reverse ++ .ref a :: rest) (hd : decode c.code g.pc = .ok (.invokevirtual index, 3))
    {W : Nat} (hW : 2 * g.monitorRoom + (rest.map fun v => v.category).sum ≤ W) (hf : rm.frames + 1 ≤ R.frames) (hl : W + (maxL + 11) + rm.locals ≤ R.locals) (hc : cells + rm.cells ≤ R.cells) (hs : slots + rm.slots ≤ R.slots) :
    ∃ v T' h' L, Stand p l e R s m args below meth c T' (locs ++ L) (cells + rm.cells) (slots + rm.slots) ∧ T'.heap = h' ∧ Q v h' L ∧ ∀ target, Steps p.tables e below (T'.setTop { g with pc := g.pc + 3, stack := v.toList ++ rest }) target → Steps p.tables e below (T.setTop g) target := by
  obtain ⟨cq, kq, qa, qb, qc⟩ := isOf hZ eT E
  obtain ⟨v, _, ⟨T', L', k', n'⟩, -, X', ⟨Lc, hQ, l', y', z'⟩, st⟩ := X.virtualBack hx (y := y) (z := z) hown (mvT hZ w1) (mvT hZ w2) (notFace_of_selects (args := #[]) (mvT hZ w5)) (mvT hZ w6) (mvT hZ w7) hy (backOf (W := W) (hC []) hZ w4 w3 hf hl) qa qc hg hsize (Steps.refl _) (argsL := argsL) (rest := rest) hlen hstack hW hd (fun _ _ => ⟨rfl, eT, hc, hs⟩)
  dsimp only [Pt.U, Pt.locs, Pt.cells, Pt.slots] at X' l' y' z' st hQ
  subst l' y' z'
  exact ⟨v, T', _, Lc, X', rfl, hQ, fun t ht => st.trans ht⟩
theorem own_ne {a b : Nat} (h : a < b ∨ b < a) : a ≠ b := by omega
theorem own_ltE {a : Nat} {C : String} (F : Exa Z h a C) : a < h.size := F.lt
theorem own_ltF {a : Nat} {C n d : String} {v : Value} (F : Fld Z h a C n d v) : a < h.size := F.lt
/-! arrays by their list of values -/
def Ary (Z : State) (h : Heap) (a : Addr) (ty : FieldType) (vs : List Value) : Prop := ∃ c : Cell, Arr Z h a c ty ∧ c.slots.toList = vs ∧ vs.length < 2 ^ 31
variable {a b : Addr} {ty : FieldType} {vs : List Value} {sl : Nat} {v w : Value} {ws : List Addr} {j : Int32}
theorem Ary.lt (F : Ary Z h a ty vs) : a < h.size := by obtain ⟨c, A, -⟩ := F; exact A.lt
theorem own_ltA {a : Nat} (F : Ary Z h a ty vs) : a < h.size := F.lt
theorem Ary.ext (F : Ary Z h a ty vs) (E : Ext h h') : Ary Z h' a ty vs := by obtain ⟨c, A, r⟩ := F; exact ⟨c, A.ext E, r⟩
theorem Ary.other (F : Ary Z h b ty vs) (W : Wr h h' a sl v) (q : b ≠ a) : Ary Z h' b ty vs := by obtain ⟨c, A, r⟩ := F; exact ⟨c, A.other W q, r⟩
theorem Ary.keep (F : Ary Z h a ty vs) (K : Keep h h' ws) (q : a ∉ ws) : Ary Z h' a ty vs := by obtain ⟨c, A, r⟩ := F; exact ⟨c, ⟨K.2.1 a c A.1 q, A.2⟩, r⟩
theorem Ary.set (F : Ary Z h a ty vs) (W : Wr h h' a sl v) : Ary Z h' a ty (vs.set sl v) := by
  obtain ⟨c, A, r, hl⟩ := F
  refine ⟨_, A.same W, ?_, by simpa using hl⟩
  subst r
  simp [Cell.setSlot]
theorem own_in {j : Int32} (h0 : 0 ≤ j.toInt) : j.toInt = (j.toNatClampNeg : Int) := nat_of (fun q => by rw [Int32.lt_iff_toInt_lt] at q; have : (0 : Int32).toInt = 0 := rfl; omega)
theorem own_inb {c : Cell} (r : c.slots.toList = vs) (h0 : 0 ≤ j.toInt) (h1 : j.toInt < vs.length) : ¬ (j < 0 ∨ c.slots.size ≤ j.toNatClampNeg) := by
  have e := own_in h0
  have e2 : c.slots.size = vs.length := by rw [← r]; simp
  have z : (0 : Int32).toInt = 0 := rfl
  rintro (q | q)
  · rw [Int32.lt_iff_toInt_lt] at q; omega
  · omega
theorem Ary.new {cA : ClassId} {z : Int32} (A : Arr Z h a (newA cA ty z) ty) (q : z.toNatClampNeg < 2 ^ 31) : Ary Z h a ty (List.replicate z.toNatClampNeg (defaultValue ty)) := ⟨_, A, by simp [newA], by simpa using q⟩
theorem own_newP (X : Stand p l e R s m args below meth c T locs cells slots) (hx : p.tables.exec = Jvm.exec) (hZ : Z.Warmed39 s.vm) {aty : ArrayType} {ty : FieldType} (hty : newarray.typeOf aty = ty) (w : (Jvm.Cond.arrayClass ty).before a0 Z = true) (eT : T.heap = h) {g : JFrame} (hg : g.method = m) (hd : decode c.code g.pc = .ok (.newarray aty, 2)) {n : Int32} {rest : List Value} (hs : g.stack = .int n :: rest)
    (hn : 0 ≤ n.toInt) {cap : Nat} (hcap : n.toInt ≤ cap) (hb : cap * 8 ≤ 536870912) (hc : cells + 1 ≤ R.cells) (hl : slots + cap ≤ R.slots) :
    ∃ T' h', Stand p l e R s m args below meth c T' locs (cells + 1) (slots + cap) ∧ T'.heap = h' ∧ Ext h h' ∧ Ary Z h' h.size ty (List.replicate n.toNatClampNeg (defaultValue ty)) ∧
      ∀ target, Steps p.tables e below (T'.setTop { g with pc := g.pc + 2, stack := .ref h.size :: rest }) target → Steps p.tables e below (T.setTop g) target := by
  subst hty
  have e1 := own_in hn
  have z : (0 : Int32).toInt = 0 := rfl
  obtain ⟨T', h', cA, X', e', E', A', st⟩ := newP X hx hZ w eT hg hd hs (fun q => by rw [Int32.lt_iff_toInt_lt] at q; omega) (cap := cap) (by omega) hb hc hl
  exact ⟨T', h', X', e', E', Ary.new A' (by omega), st⟩
theorem own_len (X : Stand p l e R s m args below meth c T locs cells slots) (hx : p.tables.exec = Jvm.exec) (hZ : Z.Warmed39 s.vm) (eT : T.heap = h) (F : Ary Z h a ty vs) {g : JFrame} (hg : g.method = m) {rest : List Value} (hs : g.stack = .ref a :: rest) (hd : decode c.code g.pc = .ok (.arraylength, 1)) :
    ∀ target, Steps p.tables e below (T.setTop { g with pc := g.pc + 1, stack := .int vs.length.toInt32 :: rest }) target → Steps p.tables e below (T.setTop g) target := by
  obtain ⟨c, A, r, hl⟩ := F
  intro t ht
  have e2 : c.slots.size = vs.length := by rw [← r]; simp
  exact X.arraylength hx (by rw [eT]; exact A.1) (State.isArrayOf_alike hZ.alike A.2.1) hg hs hd t (by rw [e2]; exact ht)
theorem own_at {c : Cell} (r : c.slots.toList = vs) (hv : vs[j.toNatClampNeg]? = some v) : c.slots[j.toNatClampNeg]? = some v := by
  subst r; simpa using hv
theorem own_ldI (X : Stand p l e R s m args below meth c T locs cells slots) (hx : p.tables.exec = Jvm.exec) (hZ : Z.Warmed39 s.vm) (eT : T.heap = h) (F : Ary Z h a .int vs) (h0 : 0 ≤ j.toInt) (h1 : j.toInt < vs.length) (hv : vs[j.toNatClampNeg]? = some v) {g : JFrame} (hg : g.method = m) {rest : List Value} (hs : g.stack = .int j :: .ref a :: rest) (hd : decode c.code g.pc = .ok (.iaload, 1)) :
    ∀ target, Steps p.tables e below (T.setTop { g with pc := g.pc + 1, stack := v :: rest }) target → Steps p.tables e below (T.setTop g) target := by
  obtain ⟨c, A, r, hl⟩ := F
  exact X.iaload hx (by rw [eT]; exact A.1) (State.isArrayOf_alike hZ.alike A.2.1) A.2.2 (own_inb r h0 h1) (own_at r hv) hg hs hd
theorem own_ldJ (X : Stand p l e R s m args below meth c T locs cells slots) (hx : p.tables.exec = Jvm.exec) (hZ : Z.Warmed39 s.vm) (eT : T.heap = h) (F : Ary Z h a .long vs) (h0 : 0 ≤ j.toInt) (h1 : j.toInt < vs.length) (hv : vs[j.toNatClampNeg]? = some v) {g : JFrame} (hg : g.method = m) {rest : List Value} (hs : g.stack = .int j :: .ref a :: rest) (hd : decode c.code g.pc = .ok (.laload, 1)) :
    ∀ target, Steps p.tables e below (T.setTop { g with pc := g.pc + 1, stack := v :: rest }) target → Steps p.tables e below (T.setTop g) target := by
  obtain ⟨c, A, r, hl⟩ := F
  exact X.laload hx (by rw [eT]; exact A.1) (State.isArrayOf_alike hZ.alike A.2.1) A.2.2 (own_inb r h0 h1) (own_at r hv) hg hs hd
theorem own_ldC (X : Stand p l e R s m args below meth c T locs cells slots) (hx : p.tables.exec = Jvm.exec) (hZ : Z.Warmed39 s.vm) (eT : T.heap = h) (F : Ary Z h a .char vs) (h0 : 0 ≤ j.toInt) (h1 : j.toInt < vs.length) (hv : vs[j.toNatClampNeg]? = some v) {g : JFrame} (hg : g.method = m) {rest : List Value} (hs : g.stack = .int j :: .ref a :: rest) (hd : decode c.code g.pc = .ok (.caload, 1)) :
    ∀ target, Steps p.tables e below (T.setTop { g with pc := g.pc + 1, stack := v :: rest }) target → Steps p.tables e below (T.setTop g) target := by
  obtain ⟨c, A, r, hl⟩ := F
  exact X.caload hx (by rw [eT]; exact A.1) (State.isArrayOf_alike hZ.alike A.2.1) A.2.2 (own_inb r h0 h1) (own_at r hv) hg hs hd
theorem own_ldB (X : Stand p l e R s m args below meth c T locs cells slots) (hx : p.tables.exec = Jvm.exec) (hZ : Z.Warmed39 s.vm) (eT : T.heap = h) (F : Ary Z h a .byte vs) (h0 : 0 ≤ j.toInt) (h1 : j.toInt < vs.length) (hv : vs[j.toNatClampNeg]? = some v) {g : JFrame} (hg : g.method = m) {rest : List Value} (hs : g.stack = .int j :: .ref a :: rest) (hd : decode c.code g.pc = .ok (.baload, 1)) :
    ∀ target, Steps p.tables e below (T.setTop { g with pc := g.pc + 1, stack := v :: rest }) target → Steps p.tables e below (T.setTop g) target := by
  obtain ⟨c, A, r, hl⟩ := F
  exact X.baloadBytes hx (by rw [eT]; exact A.1) (State.isArrayOf_alike hZ.alike A.2.1) A.2.2 (own_inb r h0 h1) (own_at r hv) hg hs hd
theorem own_ldR (X : Stand p l e R s m args below meth c T locs cells slots) (hx : p.tables.exec = Jvm.exec) (hZ : Z.Warmed39 s.vm) (eT : T.heap = h) (F : Ary Z h a ty vs) (hr : ty.isReference = true) (h0 : 0 ≤ j.toInt) (h1 : j.toInt < vs.length) (hv : vs[j.toNatClampNeg]? = some v) {g : JFrame} (hg : g.method = m) {rest : List Value} (hs : g.stack = .int j :: .ref a :: rest) (hd : decode c.code g.pc = .ok (.aaload, 1)) :
    ∀ target, Steps p.tables e below (T.setTop { g with pc := g.pc + 1, stack := v :: rest }) target → Steps p.tables e below (T.setTop g) target := by
  obtain ⟨c, A, r, hl⟩ := F
  exact X.aaload hx (by rw [eT]; exact A.1) (State.isArrayOf_alike hZ.alike A.2.1) hr A.2.2 (own_inb r h0 h1) (own_at r hv) hg hs hd
theorem own_stI (X : Stand p l e R s m args below meth c T locs cells slots) (hx : p.tables.exec = Jvm.exec) (hZ : Z.Warmed39 s.vm) (eT : T.heap = h) (F : Ary Z h a .int vs) {x : Int32} (h0 : 0 ≤ j.toInt) (h1 : j.toInt < vs.length) {g : JFrame} (hg : g.method = m) {rest : List Value} (hs : g.stack = .int x :: .int j :: .ref a :: rest) (hd : decode c.code g.pc = .ok (.iastore, 1)) :
    ∃ T' h', Stand p l e R s m args below meth c T' (locs ++ [⟨a, j.toNatClampNeg⟩]) cells slots ∧ T'.heap = h' ∧ Wr h h' a j.toNatClampNeg (.int x) ∧ Ary Z h' a .int (vs.set j.toNatClampNeg (.int x)) ∧ ∀ target, Steps p.tables e below (T'.setTop { g with pc := g.pc + 1, stack := rest }) target → Steps p.tables e below (T.setTop g) target := by
  have F' := F
  obtain ⟨c, A, r, hl⟩ := F
  obtain ⟨T', h', X', e', W', st⟩ := stI X hx hZ eT A (own_inb r h0 h1) hg hs hd
  exact ⟨T', h', X', e', W', F'.set W', st⟩
theorem own_stJ (X : Stand p l e R s m args below meth c T locs cells slots) (hx : p.tables.exec = Jvm.exec) (hZ : Z.Warmed39 s.vm) (eT : T.heap = h) (F : Ary Z h a .long vs) {x : Int64} (h0 : 0 ≤ j.toInt) (h1 : j.toInt < vs.length) {g : JFrame} (hg : g.method = m) {rest : List Value} (hs : g.stack = .long x :: .int j :: .ref a :: rest) (hd : decode c.code g.pc = .ok (.lastore, 1)) :
    ∃ T' h', Stand p l e R s m args below meth c T' (locs ++ [⟨a, j.toNatClampNeg⟩]) cells slots ∧ T'.heap = h' ∧ Wr h h' a j.toNatClampNeg (.long x) ∧ Ary Z h' a .long (vs.set j.toNatClampNeg (.long x)) ∧ ∀ target, Steps p.tables e below (T'.setTop { g with pc := g.pc + 1, stack := rest }) target → Steps p.tables e below (T.setTop g) target := by
  have F' := F
  obtain ⟨c, A, r, hl⟩ := F
  obtain ⟨T', h', X', e', W', st⟩ := stJ X hx hZ eT A (own_inb r h0 h1) hg hs hd
  exact ⟨T', h', X', e', W', F'.set W', st⟩
theorem own_stC (X : Stand p l e R s m args below meth c T locs cells slots) (hx : p.tables.exec = Jvm.exec) (hZ : Z.Warmed39 s.vm) (eT : T.heap = h) (F : Ary Z h a .char vs) {x : Int32} (h0 : 0 ≤ j.toInt) (h1 : j.toInt < vs.length) {g : JFrame} (hg : g.method = m) {rest : List Value} (hs : g.stack = .int x :: .int j :: .ref a :: rest) (hd : decode c.code g.pc = .ok (.castore, 1)) :
    ∃ T' h', Stand p l e R s m args below meth c T' (locs ++ [⟨a, j.toNatClampNeg⟩]) cells slots ∧ T'.heap = h' ∧ Wr h h' a j.toNatClampNeg (.int (nar .char x)) ∧ Ary Z h' a .char (vs.set j.toNatClampNeg (.int (nar .char x))) ∧ ∀ target, Steps p.tables e below (T'.setTop { g with pc := g.pc + 1, stack := rest }) target → Steps p.tables e below (T.setTop g) target := by
  have F' := F
  obtain ⟨c, A, r, hl⟩ := F
  obtain ⟨T', h', X', e', W', st⟩ := stC X hx hZ eT A (own_inb r h0 h1) hg hs hd
  exact ⟨T', h', X', e', W', F'.set W', st⟩
theorem own_stB (X : Stand p l e R s m args below meth c T locs cells slots) (hx : p.tables.exec = Jvm.exec) (hZ : Z.Warmed39 s.vm) (eT : T.heap = h) (F : Ary Z h a .byte vs) {x : Int32} (h0 : 0 ≤ j.toInt) (h1 : j.toInt < vs.length) {g : JFrame} (hg : g.method = m) {rest : List Value} (hs : g.stack = .int x :: .int j :: .ref a :: rest) (hd : decode c.code g.pc = .ok (.bastore, 1)) :
    ∃ T' h', Stand p l e R s m args below meth c T' (locs ++ [⟨a, j.toNatClampNeg⟩]) cells slots ∧ T'.heap = h' ∧ Wr h h' a j.toNatClampNeg (.int (nar .byte x)) ∧ Ary Z h' a .byte (vs.set j.toNatClampNeg (.int (nar .byte x))) ∧ ∀ target, Steps p.tables e below (T'.setTop { g with pc := g.pc + 1, stack := rest }) target → Steps p.tables e below (T.setTop g) target := by
  have F' := F
  obtain ⟨c, A, r, hl⟩ := F
  obtain ⟨T', h', X', e', W', st⟩ := stB X hx hZ eT A (own_inb r h0 h1) hg hs hd
  exact ⟨T', h', X', e', W', F'.set W', st⟩
theorem own_stR (X : Stand p l e R s m args below meth c T locs cells slots) (hx : p.tables.exec = Jvm.exec) (hZ : Z.Warmed39 s.vm) (eT : T.heap = h) (F : Ary Z h a ty vs) (hr : ty.isReference = true) (G : Sto Z h a v) (h0 : 0 ≤ j.toInt) (h1 : j.toInt < vs.length) {g : JFrame} (hg : g.method = m) {rest : List Value} (hs : g.stack = v :: .int j :: .ref a :: rest) (hd : decode c.code g.pc = .ok (.aastore, 1)) :
    ∃ T' h', Stand p l e R s m args below meth c T' (locs ++ [⟨a, j.toNatClampNeg⟩]) cells slots ∧ T'.heap = h' ∧ Wr h h' a j.toNatClampNeg v ∧ Ary Z h' a ty (vs.set j.toNatClampNeg v) ∧ ∀ target, Steps p.tables e below (T'.setTop { g with pc := g.pc + 1, stack := rest }) target → Steps p.tables e below (T.setTop g) target := by
  have F' := F
  obtain ⟨c, A, r, hl⟩ := F
  obtain ⟨T', h', X', e', W', st⟩ := stR X hx hZ eT A (own_inb r h0 h1) hr G hg hs hd
  exact ⟨T', h', X', e', W', F'.set W', st⟩
def Ovy (Z : State) (h : Heap) (a : Addr) (C : String) : Prop := ∃ c : Cell, h[a]? = some c ∧ Ovr Z c.cls C
theorem Ovy.ext {C : String} (F : Ovy Z h a C) (E : Ext h h') : Ovy Z h' a C := by obtain ⟨c, q, r⟩ := F; exact ⟨c, E.2 _ _ q, r⟩
theorem Ovy.keep {C : String} (F : Ovy Z h a C) (K : Keep h h' ws) : Ovy Z h' a C := by
  obtain ⟨c, q, r⟩ := F
  obtain ⟨c', q', r', -⟩ := K.2.2 _ _ q
  exact ⟨c', q', by rw [r']; exact r⟩
theorem Ovy.wr {C : String} (F : Ovy Z h a C) (W : Wr h h' b sl v) : Ovy Z h' a C := F.keep (Keep.of_wr W)
theorem own_sto {C : String} {y : Addr} (F : Ary Z h a ty vs) (O : Ovy Z h a C) (I : Ins Z h y C true) : Sto Z h a (.ref y) := by
  obtain ⟨c, A, -⟩ := F
  obtain ⟨c', q, r⟩ := O
  cases A.1.symm.trans q
  exact Sto.of A r I
theorem own_newR (X : Stand p l e R s m args below meth c T locs cells slots) (hx : p.tables.exec = Jvm.exec) (hZ : Z.Warmed39 s.vm) {own C : String} {index : Nat} (hown : s.vm.findClass own = some m.cls) (w1 : (Jvm.Cond.classLink own index C).before a0 Z = true) (w2 : (Jvm.Cond.arrayOver (.object C)).before a0 Z = true) (eT : T.heap = h) {g : JFrame} (hg : g.method = m) (hd : decode c.code g.pc = .ok (.anewarray index, 3)) {n : Int32} {rest : List Value} (hs : g.stack = .int n :: rest)
    (hn : 0 ≤ n.toInt) {cap : Nat} (hcap : n.toInt ≤ cap) (hb : cap * 8 ≤ 536870912) (hc : cells + 1 ≤ R.cells) (hl : slots + cap ≤ R.slots) :
    ∃ T' h', Stand p l e R s m args below meth c T' locs (cells + 1) (slots + cap) ∧ T'.heap = h' ∧ Ext h h' ∧ Ary Z h' h.size (.object C) (List.replicate n.toNatClampNeg .null) ∧ Ovy Z h' h.size C ∧
      ∀ target, Steps p.tables e below (T'.setTop { g with pc := g.pc + 3, stack := .ref h.size :: rest }) target → Steps p.tables e below (T.setTop g) target := by
  have e1 := own_in hn
  have z : (0 : Int32).toInt = 0 := rfl
  obtain ⟨T', h', cA, X', e', E', A', O', st⟩ := newR X hx hZ hown w1 w2 eT hg hd hs (fun q => by rw [Int32.lt_iff_toInt_lt] at q; omega) (cap := cap) (by omega) hb hc hl
  exact ⟨T', h', X', e', E', Ary.new A' (by omega), ⟨_, A'.1, O'⟩, st⟩
theorem own_ldc (X : Stand p l e R s m args below meth c T locs cells slots) (hx : p.tables.exec = Jvm.exec) (hZ : Z.Warmed39 s.vm) {own : String} {index : Nat} {x : Int32} (hown : s.vm.findClass own = some m.cls) (w : (Jvm.Cond.constant own index x).before a0 Z = true) {g : JFrame} (hg : g.method = m) (hd : decode c.code g.pc = .ok (.ldc index, 2)) :
    ∀ target, Steps p.tables e below (T.setTop { g with pc := g.pc + 2, stack := .int x :: g.stack }) target → Steps p.tables e below (T.setTop g) target := fun t ht => X.ldcI hx hown (mvT hZ w) hg hd ht
end Own

def own_red (x : Int32) : Int32 := if x < 0 then x + 2147483647 else x
def own_abs (x : Int32) : Int32 := if x < 0 then -x else x
def own_inr (x : Int32) : Int32 := if x < 0 then 0 else if 2147483646 < x then 0 else 1
def own_l1 : Nat → Nat → List Int32 → Int32 → Int32 → List Int32
  | 0, _, t, _, _ => t
  | n + 1, i, t, mj, k => own_l1 n (i + 1) (t.set (21 * i % 55 - 1) k) k (own_red (mj - k))
def own_in1 (j : Nat) (t : List Int32) : List Int32 := t.set j (own_red (t.getD j 0 - t.getD ((j + 31) % 55) 0))
def own_l2i : Nat → Nat → List Int32 → List Int32
  | 0, _, t => t
  | n + 1, j, t => own_l2i n (j + 1) (own_in1 j t)
def own_l2 : Nat → List Int32 → List Int32
  | 0, t => t
  | n + 1, t => own_l2 n (own_l2i 55 0 t)
def own_t0 (x : Int32) : List Int32 := (List.replicate 55 0).set 54 x
def own_tab (a : Int32) : List Int32 := own_l2 4 (own_l1 54 1 (own_t0 (161803398 - a)) (161803398 - a) 1)
def own_nx (t : List Int32) (p : Nat) : Int32 := own_red (t.getD p 0 - t.getD ((p + 21) % 55) 0)
def own_adv (t : List Int32) (p : Nat) : List Int32 := t.set p (own_nx t p)
def own_rg (x : Int32) : Prop := 0 ≤ x.toInt ∧ x.toInt ≤ 2147483646
def own_ok (t : List Int32) : Prop := t.length = 55 ∧ ∀ x ∈ t, own_rg x
theorem own_M : (2147483647 : Int32).toInt = 2147483647 := by decide
theorem own_Z : (0 : Int32).toInt = 0 := by decide
theorem own_red_rg {x y : Int32} (hx : own_rg x) (hy : own_rg y) : own_rg (own_red (x - y)) := by
  unfold own_rg own_red at *
  have e := c_isub x y
  have r := rng32 (x - y)
  have q : (x - y).toInt = x.toInt - y.toInt := by omega
  have a := c_iadd (x - y) 2147483647
  have r2 := rng32 (x - y + 2147483647)
  simp only [Int32.lt_iff_toInt_lt, own_M, own_Z] at *
  split <;> omega
theorem own_ok_set {t : List Int32} {j : Nat} {x : Int32} (h : own_ok t) (hx : own_rg x) : own_ok (t.set j x) := by
  refine ⟨by simpa using h.1, fun y hy => ?_⟩
  rcases List.mem_or_eq_of_mem_set hy with q | q
  · exact h.2 y q
  · rw [q]; exact hx
theorem own_ok_get {t : List Int32} {j : Nat} (h : own_ok t) (hj : j < 55) : own_rg (t.getD j 0) := by
  have hl : j < t.length := by rw [h.1]; exact hj
  rw [List.getD_eq_getElem?_getD, List.getElem?_eq_getElem hl]
  exact h.2 _ (List.getElem_mem hl)
theorem own_l1_ok : ∀ (n i : Nat) (t : List Int32) (mj k : Int32), own_ok t → own_rg mj → own_rg k → own_ok (own_l1 n i t mj k)
  | 0, _, _, _, _, h, _, _ => h
  | n + 1, i, t, mj, k, h, h1, h2 => own_l1_ok n (i + 1) _ _ _ (own_ok_set h h2) h2 (own_red_rg h1 h2)
theorem own_in1_ok {j : Nat} {t : List Int32} (h : own_ok t) (hj : j < 55) : own_ok (own_in1 j t) := own_ok_set h (own_red_rg (own_ok_get h hj) (own_ok_get h (Nat.mod_lt _ (by decide))))
theorem own_l2i_ok : ∀ (n j : Nat) (t : List Int32), own_ok t → j + n = 55 → own_ok (own_l2i n j t)
  | 0, _, _, h, _ => h
  | n + 1, j, t, h, e => own_l2i_ok n (j + 1) _ (own_in1_ok h (by omega)) (by omega)
theorem own_l2_ok : ∀ (n : Nat) (t : List Int32), own_ok t → own_ok (own_l2 n t)
  | 0, _, h => h
  | n + 1, t, h => own_l2_ok n _ (own_l2i_ok 55 0 t h rfl)
theorem own_t0_ok {x : Int32} (h : own_rg x) : own_ok (own_t0 x) := own_ok_set ⟨by simp, fun y hy => by obtain rfl := List.eq_of_mem_replicate hy; exact ⟨by decide, by decide⟩⟩ h
theorem own_mj_rg {a : Int32} (h0 : 0 ≤ a.toInt) (h1 : a.toInt ≤ 161803398) : own_rg (161803398 - a) := by
  have e := c_isub 161803398 a
  have r := rng32 (161803398 - a)
  have z : (161803398 : Int32).toInt = 161803398 := by decide
  unfold own_rg
  omega
theorem own_tab_ok {a : Int32} (h0 : 0 ≤ a.toInt) (h1 : a.toInt ≤ 161803398) : own_ok (own_tab a) := own_l2_ok _ _ (own_l1_ok _ _ _ _ _ (own_t0_ok (own_mj_rg h0 h1)) (own_mj_rg h0 h1) ⟨by decide, by decide⟩)
theorem own_abs_rg {x : Int32} (h0 : -161803398 ≤ x.toInt) (h1 : x.toInt ≤ 161803398) : 0 ≤ (own_abs x).toInt ∧ (own_abs x).toInt ≤ 161803398 := by
  have e := c_ineg x
  have r := rng32 (-x)
  unfold own_abs
  simp only [Int32.lt_iff_toInt_lt, own_Z]
  split <;> omega
theorem own_abs_neg {x : Int32} (h0 : -161803398 ≤ x.toInt) (h1 : x.toInt ≤ 161803398) : own_abs (-x) = own_abs x := by
  have e := c_ineg x
  have r := rng32 (-x)
  have e2 := c_ineg (-x)
  have r2 := rng32 (-(-x))
  unfold own_abs
  simp only [Int32.lt_iff_toInt_lt, own_Z, ← Int32.toInt_inj]
  split <;> split <;> omega
theorem own_inr1 {x : Int32} (h : own_rg x) : own_inr x = 1 := by
  unfold own_rg own_inr at *
  have z : (2147483646 : Int32).toInt = 2147483646 := by decide
  simp only [Int32.lt_iff_toInt_lt, own_Z, z]
  split
  · omega
  · split
    · omega
    · rfl
theorem own_nx_rg {t : List Int32} {p : Nat} (h : own_ok t) (hp : p < 55) : own_rg (own_nx t p) := own_red_rg (own_ok_get h hp) (own_ok_get h (Nat.mod_lt _ (by decide)))
theorem own_adv_ok {t : List Int32} {p : Nat} (h : own_ok t) (hp : p < 55) : own_ok (own_adv t p) := own_ok_set h (own_nx_rg h hp)
theorem own_map_at {t : List Int32} {j : Nat} (h : j < t.length) : (t.map Value.int)[j]? = some (.int (t.getD j 0)) := by
  rw [List.getElem?_map, List.getD_eq_getElem?_getD, List.getElem?_eq_getElem h]; rfl
theorem own_c (n : Nat) (h : n < 2147483648) : (n.toInt32).toInt = n := len_toInt (by omega)
theorem own_lt55 {x : Int32} : x < (55 : Int32) ↔ x.toInt < 55 := by rw [Int32.lt_iff_toInt_lt]; exact Iff.rfl
theorem own_lt4 {x : Int32} : x < (4 : Int32) ↔ x.toInt < 4 := by rw [Int32.lt_iff_toInt_lt]; exact Iff.rfl
theorem own_toN {x : Int32} {i : Nat} (h : x.toInt = i) : x.toNatClampNeg = i := by have := own_in (j := x) (by omega); omega
theorem own_up {x : Int32} {i : Nat} (h : x.toInt = i) (hi : i < 1000) : (x + 1).toInt = (i + 1 : Nat) := by
  have e := c_iadd x 1; have r := rng32 (x + 1); have z : (1 : Int32).toInt = 1 := by decide
  omega
theorem own_ii {x : Int32} {i : Nat} (h : x.toInt = i) (h1 : 1 ≤ i) (h2 : i < 55) : (21 * x % 55 - 1).toInt = (21 * i % 55 - 1 : Nat) ∧ 21 * i % 55 - 1 < 55 := by
  have e := c_imul 21 x; have r := rng32 (21 * x); have z : (21 : Int32).toInt = 21 := by decide
  rw [z, h] at e
  have q : (21 * x).toInt = 21 * i := by omega
  have e2 := (c_irem (21 * x) 55 55 (by decide)).1 (by omega)
  have h5 : (21 * x % 55).toInt = ((21 * i % 55 : Nat) : Int) := by omega
  have h6 : 1 ≤ 21 * i % 55 := by omega
  have h7 : 21 * i % 55 < 55 := Nat.mod_lt _ (by decide)
  have e3 := c_isub (21 * x % 55) 1; have r3 := rng32 (21 * x % 55 - 1); have z1 : (1 : Int32).toInt = 1 := by decide
  generalize 21 * i % 55 = w at *
  omega
theorem own_a31 {x : Int32} {i : Nat} (h : x.toInt = i) (h2 : i < 55) : ((x + 31) % 55).toInt = ((i + 31) % 55 : Nat) := by
  have e := c_iadd x 31; have r := rng32 (x + 31); have z : (31 : Int32).toInt = 31 := by decide
  have e2 := (c_irem (x + 31) 55 55 (by decide)).1 (by omega)
  omega
theorem own_a21 {x : Int32} {i : Nat} (h : x.toInt = i) (h2 : i < 55) : ((x + 21) % 55).toInt = ((i + 21) % 55 : Nat) := by
  have e := c_iadd x 21; have r := rng32 (x + 21); have z : (21 : Int32).toInt = 21 := by decide
  have e2 := (c_irem (x + 21) 55 55 (by decide)).1 (by omega)
  omega
theorem own_a1 {x : Int32} {i : Nat} (h : x.toInt = i) (h2 : i < 55) : ((x + 1) % 55).toInt = ((i + 1) % 55 : Nat) := by
  have e := c_iadd x 1; have r := rng32 (x + 1); have z : (1 : Int32).toInt = 1 := by decide
  have e2 := (c_irem (x + 1) 55 55 (by decide)).1 (by omega)
  omega
theorem own_notM {x y : Int32} (hx : own_rg x) (hy : own_rg y) : ¬ x - y = 2147483647 := by
  unfold own_rg at *
  have e := c_isub x y
  have r := rng32 (x - y)
  rw [← Int32.toInt_inj, own_M]
  omega
theorem own_seed (k : Int32) : 0 ≤ ((k &&& 2147483647) % 161803399).toInt ∧ ((k &&& 2147483647) % 161803399).toInt ≤ 161803398 := by
  have h1 := c_mask k 2147483647 31 (by decide) (by decide)
  have h3 := (c_irem (k &&& 2147483647) 161803399 161803399 (by decide)).1 (by omega)
  omega
theorem own_l2i_len : ∀ (n j : Nat) (t : List Int32), (own_l2i n j t).length = t.length
  | 0, _, _ => rfl
  | n + 1, j, t => by rw [own_l2i, own_l2i_len n (j + 1)]; simp [own_in1]

theorem ef_rmD (m : MethodId) (p1 : Int32) : entryFrame m #[(.int p1)] 1 = mkF m 0 #[.val (.int p1)] [] := by first | (simp [entryFrame, mkF, argsToLocals, Value.category]; done) | rfl
theorem pf_0 : plainFor (⟨"com/example/moduline/moduline/library/Random", "reduce", "(I)I"⟩ : MethodName) = true := plainFor_of_name (by first | (simp [plainName, overriddenIn]; done) | decide +kernel)
theorem d1_0 : decode prog_22_method_9_code 0 = .ok (.iload_n 0, 1) := by decide +kernel
theorem d1_1 : decode prog_22_method_9_code 1 = .ok (.ifCond .ge 10, 3) := by decide +kernel
theorem d1_4 : decode prog_22_method_9_code 4 = .ok (.iload_n 0, 1) := by decide +kernel
theorem d1_5 : decode prog_22_method_9_code 5 = .ok (.ldc 31, 2) := by decide +kernel
theorem d1_7 : decode prog_22_method_9_code 7 = .ok (.iadd, 1) := by decide +kernel
theorem d1_8 : decode prog_22_method_9_code 8 = .ok (.goto 4, 3) := by decide +kernel
theorem d1_11 : decode prog_22_method_9_code 11 = .ok (.iload_n 0, 1) := by decide +kernel
theorem d1_12 : decode prog_22_method_9_code 12 = .ok (.ireturn, 1) := by decide +kernel
set_option maxRecDepth 65536 in
set_option maxHeartbeats 4000000 in
theorem rmD (l : Launch) (Z : State) (a0 : Array Value) (hw : ∀ d ∈ tables_1, d.before a0 Z = true) (p1 : Int32) (h0 : Heap) (n0 : Nat) (Z0 : n0 ≤ h0.size)  :
    Con l Z (⟨"com/example/moduline/moduline/library/Random", "reduce", "(I)I"⟩ : MethodName) prog_22_method_9_code 1 (some .int) ({ frames := 0, cells := 0, slots := 0, locals := 0 } : Room) #[(.int p1)] h0 (fun v h L => v = some (.int (own_red p1)) ∧ Fr n0 L ∧ h = h0) := by
  refine Con.of pf_0 ?_
  intro p e s m below meth c T0 X0 hx hby hml hZ hown hnm hret hlk e0
  have hown : s.vm.findClass "com/example/moduline/moduline/library/Random" = some m.cls := hown
  have hnm : meth.name = "reduce" := hnm
  have N0 := Fr.nil n0
  refine Go.cast (ef_rmD m p1) ?_
  refine Go.st (S' := T0.setTop (mkF m 1 #[.val (.int p1)] [(.int p1)])) (fun t hr => XS.iloadN X0.here hx rfl (hb hby d1_0) rfl hr) ?_
  by_cases hc1 : p1 < 0
  · refine Go.st (S' := T0.setTop (mkF m 4 #[.val (.int p1)] [])) (fun t hr => XS.ifNo X0.here hx rfl (hb hby d1_1) rfl (XT.i0_ge_f hc1) hr) ?_
    refine Go.st (S' := T0.setTop (mkF m 5 #[.val (.int p1)] [(.int p1)])) (fun t hr => XS.iloadN X0.here hx rfl (hb hby d1_4) rfl hr) ?_
    refine Go.st (S' := T0.setTop (mkF m 7 #[.val (.int p1)] [(.int (2147483647 : Int32)), (.int p1)])) (own_ldc X0 hx hZ hown (index := 31) (x := (2147483647 : Int32)) (hw _ (List.mem_of_getElem? (i := 23) rfl)) (g := (mkF m 5 #[.val (.int p1)] [(.int p1)])) rfl (hb hby d1_5)) ?_
    refine Go.st (S' := T0.setTop (mkF m 8 #[.val (.int p1)] [(.int (p1 + (2147483647 : Int32)))])) (fun t hr => XS.iadd X0.here hx rfl (hb hby d1_7) rfl hr) ?_
    refine Go.st (S' := T0.setTop (mkF m 12 #[.val (.int p1)] [(.int (p1 + (2147483647 : Int32)))])) (fun t hr => XS.goto X0.here hx rfl (pc0 := 8) (pc' := 12) rfl (hb hby d1_8) (by decide) (by decide) hr) ?_
    refine Go.retI X0 hx hlk hret (hb hby d1_12) (by decide) (by decide) ?_
    try rw [e0]
    exact ⟨by simp [own_red, nar, hc1], N0, rfl⟩
  · refine Go.st (S' := T0.setTop (mkF m 11 #[.val (.int p1)] [])) (fun t hr => XS.ifYes X0.here hx rfl (pc0 := 1) (pc' := 11) rfl (hb hby d1_1) rfl (XT.i0_ge_t hc1) (by decide) (by decide) hr) ?_
    refine Go.st (S' := T0.setTop (mkF m 12 #[.val (.int p1)] [(.int p1)])) (fun t hr => XS.iloadN X0.here hx rfl (hb hby d1_11) rfl hr) ?_
    refine Go.retI X0 hx hlk hret (hb hby d1_12) (by decide) (by decide) ?_
    try rw [e0]
    exact ⟨by simp [own_red, nar, hc1], N0, rfl⟩
theorem ef_rmA (m : MethodId) (p1 : Int32) : entryFrame m #[(.int p1)] 1 = mkF m 0 #[.val (.int p1)] [] := by first | (simp [entryFrame, mkF, argsToLocals, Value.category]; done) | rfl
theorem pf_1 : plainFor (⟨"java/lang/Math", "abs", "(I)I"⟩ : MethodName) = true := by decide +kernel
theorem d2_0 : decode jdk_29_method_59_code 0 = .ok (.iload_n 0, 1) := by decide +kernel
theorem d2_1 : decode jdk_29_method_59_code 1 = .ok (.ifCond .ge 8, 3) := by decide +kernel
theorem d2_4 : decode jdk_29_method_59_code 4 = .ok (.iload_n 0, 1) := by decide +kernel
theorem d2_5 : decode jdk_29_method_59_code 5 = .ok (.ineg, 1) := by decide +kernel
theorem d2_6 : decode jdk_29_method_59_code 6 = .ok (.goto 4, 3) := by decide +kernel
theorem d2_9 : decode jdk_29_method_59_code 9 = .ok (.iload_n 0, 1) := by decide +kernel
theorem d2_10 : decode jdk_29_method_59_code 10 = .ok (.ireturn, 1) := by decide +kernel
set_option maxRecDepth 65536 in
set_option maxHeartbeats 4000000 in
theorem rmA (l : Launch) (Z : State) (a0 : Array Value) (hw : ∀ d ∈ tables_1, d.before a0 Z = true) (p1 : Int32) (h0 : Heap) (n0 : Nat) (Z0 : n0 ≤ h0.size)  :
    Con l Z (⟨"java/lang/Math", "abs", "(I)I"⟩ : MethodName) jdk_29_method_59_code 1 (some .int) ({ frames := 0, cells := 0, slots := 0, locals := 0 } : Room) #[(.int p1)] h0 (fun v h L => v = some (.int (own_abs p1)) ∧ Fr n0 L ∧ h = h0) := by
  refine Con.of pf_1 ?_
  intro p e s m below meth c T0 X0 hx hby hml hZ hown hnm hret hlk e0
  have hown : s.vm.findClass "java/lang/Math" = some m.cls := hown
  have hnm : meth.name = "abs" := hnm
  have N0 := Fr.nil n0
  refine Go.cast (ef_rmA m p1) ?_
  refine Go.st (S' := T0.setTop (mkF m 1 #[.val (.int p1)] [(.int p1)])) (fun t hr => XS.iloadN X0.here hx rfl (hb hby d2_0) rfl hr) ?_
  by_cases hc1 : p1 < 0
  · refine Go.st (S' := T0.setTop (mkF m 4 #[.val (.int p1)] [])) (fun t hr => XS.ifNo X0.here hx rfl (hb hby d2_1) rfl (XT.i0_ge_f hc1) hr) ?_
    refine Go.st (S' := T0.setTop (mkF m 5 #[.val (.int p1)] [(.int p1)])) (fun t hr => XS.iloadN X0.here hx rfl (hb hby d2_4) rfl hr) ?_
    refine Go.st (S' := T0.setTop (mkF m 6 #[.val (.int p1)] [(.int (-p1))])) (fun t hr => XS.ineg X0.here hx rfl (hb hby d2_5) rfl hr) ?_
    refine Go.st (S' := T0.setTop (mkF m 10 #[.val (.int p1)] [(.int (-p1))])) (fun t hr => XS.goto X0.here hx rfl (pc0 := 6) (pc' := 10) rfl (hb hby d2_6) (by decide) (by decide) hr) ?_
    refine Go.retI X0 hx hlk hret (hb hby d2_10) (by decide) (by decide) ?_
    try rw [e0]
    exact ⟨by simp [own_abs, nar, hc1], N0, rfl⟩
  · refine Go.st (S' := T0.setTop (mkF m 9 #[.val (.int p1)] [])) (fun t hr => XS.ifYes X0.here hx rfl (pc0 := 1) (pc' := 9) rfl (hb hby d2_1) rfl (XT.i0_ge_t hc1) (by decide) (by decide) hr) ?_
    refine Go.st (S' := T0.setTop (mkF m 10 #[.val (.int p1)] [(.int p1)])) (fun t hr => XS.iloadN X0.here hx rfl (hb hby d2_9) rfl hr) ?_
    refine Go.retI X0 hx hlk hret (hb hby d2_10) (by decide) (by decide) ?_
    try rw [e0]
    exact ⟨by simp [own_abs, nar, hc1], N0, rfl⟩
theorem ef_rmI (m : MethodId) (p1 : Int32) : entryFrame m #[(.int p1)] 1 = mkF m 0 #[.val (.int p1)] [] := by first | (simp [entryFrame, mkF, argsToLocals, Value.category]; done) | rfl
theorem pf_2 : plainFor (⟨"com/example/moduline/moduline/library/RandomNextPinLaw", "inRange", "(I)Z"⟩ : MethodName) = true := plainFor_of_name (by first | (simp [plainName, overriddenIn]; done) | decide +kernel)
theorem d3_0 : decode method_3_code 0 = .ok (.iload_n 0, 1) := by decide +kernel
theorem d3_1 : decode method_3_code 1 = .ok (.ifCond .lt 13, 3) := by decide +kernel
theorem d3_4 : decode method_3_code 4 = .ok (.iload_n 0, 1) := by decide +kernel
theorem d3_5 : decode method_3_code 5 = .ok (.ldc 26, 2) := by decide +kernel
theorem d3_7 : decode method_3_code 7 = .ok (.if_icmp .gt 7, 3) := by decide +kernel
theorem d3_10 : decode method_3_code 10 = .ok (.iconst 1, 1) := by decide +kernel
theorem d3_11 : decode method_3_code 11 = .ok (.goto 4, 3) := by decide +kernel
theorem d3_14 : decode method_3_code 14 = .ok (.iconst 0, 1) := by decide +kernel
theorem d3_15 : decode method_3_code 15 = .ok (.ireturn, 1) := by decide +kernel
set_option maxRecDepth 65536 in
set_option maxHeartbeats 4000000 in
theorem rmI (l : Launch) (Z : State) (a0 : Array Value) (hw : ∀ d ∈ tables_1, d.before a0 Z = true) (p1 : Int32) (h0 : Heap) (n0 : Nat) (Z0 : n0 ≤ h0.size)  :
    Con l Z (⟨"com/example/moduline/moduline/library/RandomNextPinLaw", "inRange", "(I)Z"⟩ : MethodName) method_3_code 1 (some .boolean) ({ frames := 0, cells := 0, slots := 0, locals := 0 } : Room) #[(.int p1)] h0 (fun v h L => v = some (.int (own_inr p1)) ∧ Fr n0 L ∧ h = h0) := by
  refine Con.of pf_2 ?_
  intro p e s m below meth c T0 X0 hx hby hml hZ hown hnm hret hlk e0
  have hown : s.vm.findClass "com/example/moduline/moduline/library/RandomNextPinLaw" = some m.cls := hown
  have hnm : meth.name = "inRange" := hnm
  have N0 := Fr.nil n0
  refine Go.cast (ef_rmI m p1) ?_
  refine Go.st (S' := T0.setTop (mkF m 1 #[.val (.int p1)] [(.int p1)])) (fun t hr => XS.iloadN X0.here hx rfl (hb hby d3_0) rfl hr) ?_
  by_cases hc1 : p1 < 0
  · refine Go.st (S' := T0.setTop (mkF m 14 #[.val (.int p1)] [])) (fun t hr => XS.ifYes X0.here hx rfl (pc0 := 1) (pc' := 14) rfl (hb hby d3_1) rfl (XT.i0_lt_t hc1) (by decide) (by decide) hr) ?_
    refine Go.st (S' := T0.setTop (mkF m 15 #[.val (.int p1)] [(.int (0 : Int32))])) (fun t hr => XS.iconst X0.here hx rfl (hb hby d3_14) hr) ?_
    refine Go.retN X0 hx hlk (t := .boolean) hret (by simp) (hb hby d3_15) (by decide) (by decide) ?_
    try rw [e0]
    exact ⟨by simp [own_inr, nar, hc1], N0, rfl⟩
  · refine Go.st (S' := T0.setTop (mkF m 4 #[.val (.int p1)] [])) (fun t hr => XS.ifNo X0.here hx rfl (hb hby d3_1) rfl (XT.i0_lt_f hc1) hr) ?_
    refine Go.st (S' := T0.setTop (mkF m 5 #[.val (.int p1)] [(.int p1)])) (fun t hr => XS.iloadN X0.here hx rfl (hb hby d3_4) rfl hr) ?_
    refine Go.st (S' := T0.setTop (mkF m 7 #[.val (.int p1)] [(.int (2147483646 : Int32)), (.int p1)])) (own_ldc X0 hx hZ hown (index := 26) (x := (2147483646 : Int32)) (hw _ (List.mem_of_getElem? (i := 35) rfl)) (g := (mkF m 5 #[.val (.int p1)] [(.int p1)])) rfl (hb hby d3_5)) ?_
    by_cases hc2 : (2147483646 : Int32) < p1
    · refine Go.st (S' := T0.setTop (mkF m 14 #[.val (.int p1)] [])) (fun t hr => XS.icmpYes X0.here hx rfl (pc0 := 7) (pc' := 14) rfl (hb hby d3_7) rfl (XT.ii_gt_t hc2) (by decide) (by decide) hr) ?_
      refine Go.st (S' := T0.setTop (mkF m 15 #[.val (.int p1)] [(.int (0 : Int32))])) (fun t hr => XS.iconst X0.here hx rfl (hb hby d3_14) hr) ?_
      refine Go.retN X0 hx hlk (t := .boolean) hret (by simp) (hb hby d3_15) (by decide) (by decide) ?_
      try rw [e0]
      exact ⟨by simp [own_inr, nar, hc1, hc2], N0, rfl⟩
    · refine Go.st (S' := T0.setTop (mkF m 10 #[.val (.int p1)] [])) (fun t hr => XS.icmpNo X0.here hx rfl (hb hby d3_7) rfl (XT.ii_gt_f hc2) hr) ?_
      refine Go.st (S' := T0.setTop (mkF m 11 #[.val (.int p1)] [(.int (1 : Int32))])) (fun t hr => XS.iconst X0.here hx rfl (hb hby d3_10) hr) ?_
      refine Go.st (S' := T0.setTop (mkF m 15 #[.val (.int p1)] [(.int (1 : Int32))])) (fun t hr => XS.goto X0.here hx rfl (pc0 := 11) (pc' := 15) rfl (hb hby d3_11) (by decide) (by decide) hr) ?_
      refine Go.retN X0 hx hlk (t := .boolean) hret (by simp) (hb hby d3_15) (by decide) (by decide) ?_
      try rw [e0]
      exact ⟨by simp [own_inr, nar, hc1, hc2], N0, rfl⟩
theorem d4_110 : decode prog_22_method_2_code 110 = .ok (.iload 6, 2) := by decide +kernel
theorem d4_112 : decode prog_22_method_2_code 112 = .ok (.bipush 55, 2) := by decide +kernel
theorem d4_114 : decode prog_22_method_2_code 114 = .ok (.if_icmp .ge 40, 3) := by decide +kernel
theorem pd_0 : parseMethodDescriptor "(I)I" = some ⟨[.int], some .int⟩ := by decide +kernel
theorem d4_117 : decode prog_22_method_2_code 117 = .ok (.aload_n 0, 1) := by decide +kernel
theorem d4_118 : decode prog_22_method_2_code 118 = .ok (.getfield 26, 3) := by decide +kernel
theorem d4_121 : decode prog_22_method_2_code 121 = .ok (.iload 6, 2) := by decide +kernel
theorem d4_123 : decode prog_22_method_2_code 123 = .ok (.aload_n 0, 1) := by decide +kernel
theorem d4_124 : decode prog_22_method_2_code 124 = .ok (.getfield 26, 3) := by decide +kernel
theorem d4_127 : decode prog_22_method_2_code 127 = .ok (.iload 6, 2) := by decide +kernel
theorem d4_129 : decode prog_22_method_2_code 129 = .ok (.iaload, 1) := by decide +kernel
theorem d4_130 : decode prog_22_method_2_code 130 = .ok (.aload_n 0, 1) := by decide +kernel
theorem d4_131 : decode prog_22_method_2_code 131 = .ok (.getfield 26, 3) := by decide +kernel
theorem d4_134 : decode prog_22_method_2_code 134 = .ok (.iload 6, 2) := by decide +kernel
theorem d4_136 : decode prog_22_method_2_code 136 = .ok (.bipush 31, 2) := by decide +kernel
theorem d4_138 : decode prog_22_method_2_code 138 = .ok (.iadd, 1) := by decide +kernel
theorem d4_139 : decode prog_22_method_2_code 139 = .ok (.bipush 55, 2) := by decide +kernel
theorem d4_141 : decode prog_22_method_2_code 141 = .ok (.irem, 1) := by decide +kernel
theorem d4_142 : decode prog_22_method_2_code 142 = .ok (.iaload, 1) := by decide +kernel
theorem d4_143 : decode prog_22_method_2_code 143 = .ok (.isub, 1) := by decide +kernel
theorem d4_144 : decode prog_22_method_2_code 144 = .ok (.invokestatic 39, 3) := by decide +kernel
theorem d4_147 : decode prog_22_method_2_code 147 = .ok (.iastore, 1) := by decide +kernel
theorem d4_148 : decode prog_22_method_2_code 148 = .ok (.iinc 6 1, 3) := by decide +kernel
theorem d4_151 : decode prog_22_method_2_code 151 = .ok (.goto (-41), 3) := by decide +kernel
set_option maxRecDepth 65536 in
set_option maxHeartbeats 4000000 in
theorem lpI {p : Program} {l : Launch} {e : Env} {s : State} {m : MethodId} {args : Array Value} {below : List Frame} {meth : Method} {c : Code} (Z : State) (a0 : Array Value) (hw : ∀ d ∈ tables_1, d.before a0 Z = true) (n0 : Nat) (hx : p.tables.exec = Jvm.exec) (hby : c.code = prog_22_method_2_code) (hml : c.maxLocals = 7) (hZ : Z.Warmed39 s.vm) (hown : s.vm.findClass "com/example/moduline/moduline/library/Random" = some m.cls) (hnm : meth.name = "<init>") (hret : meth.sig.returnType = none) (hlk : meth.locks = false) (a1 ta : Nat) (p1 vb : Int32) (hB : Heap) (hBt : hB.size ≤ ta) (hta : n0 ≤ ta) (hne : a1 ≠ ta) (res : List Int32) (mj k vj : Int32) (Qv : Option Value → Heap → List Loc → Prop) (n : Nat) (hk : ∀ (v6 : Int32) (T0 : State) (locs0 : List Loc) (h0 : Heap) (Z0 : n0 ≤ h0.size) (X0 : Stand p l e ({ frames := 1, cells := 1, slots := 55, locals := 15 } : Room) s m args below meth c T0 locs0 1 55) (e0 : T0.heap = h0) (N0 : Fr n0 locs0) (K0 : Keep hB h0 [a1]) (E1 : Exa Z h0 a1 "com/example/moduline/moduline/library/Random") (Ft : Fld Z h0 a1 "com/example/moduline/moduline/library/Random" "table" "[I" (.ref ta)) (Fp : Fld Z h0 a1 "com/example/moduline/moduline/library/Random" "position" "I" (.int 0)) (At : Ary Z h0 ta .int (res.map Value.int)), Go p e below s 1 55 Qv (T0.setTop (mkF m 154 #[.val (.ref a1), .val (.int p1), .val (.int vb), .val (.int mj), .val (.int k), .val (.int vj), .val (.int v6)] []))) :
    ∀ (q : Nat) (t : List Int32) (v6 : Int32) (T0 : State) (locs0 : List Loc) (h0 : Heap) (Z0 : n0 ≤ h0.size) (X0 : Stand p l e ({ frames := 1, cells := 1, slots := 55, locals := 15 } : Room) s m args below meth c T0 locs0 1 55) (e0 : T0.heap = h0) (N0 : Fr n0 locs0) (K0 : Keep hB h0 [a1]) (E1 : Exa Z h0 a1 "com/example/moduline/moduline/library/Random") (Ft : Fld Z h0 a1 "com/example/moduline/moduline/library/Random" "table" "[I" (.ref ta)) (Fp : Fld Z h0 a1 "com/example/moduline/moduline/library/Random" "position" "I" (.int 0)) (At : Ary Z h0 ta .int (t.map Value.int)) (hlen : t.length = 55) (h6 : v6.toInt = q) (hqn : q + n = 55) (hr : own_l2i n q t = res), Go p e below s 1 55 Qv (T0.setTop (mkF m 110 #[.val (.ref a1), .val (.int p1), .val (.int vb), .val (.int mj), .val (.int k), .val (.int vj), .val (.int v6)] [])) := by
  induction n with
  | zero =>
    intro q t v6 T0 locs0 h0 Z0 X0 e0 N0 K0 E1 Ft Fp At hlen h6 hqn hr
    have yta := own_ltA At
    have ya1 := E1.lt
    refine Go.st (S' := T0.setTop (mkF m 112 #[.val (.ref a1), .val (.int p1), .val (.int vb), .val (.int mj), .val (.int k), .val (.int vj), .val (.int v6)] [(.int v6)])) (fun t hr => XS.iload X0.here hx rfl (hb hby d4_110) rfl hr) ?_
    refine Go.st (S' := T0.setTop (mkF m 114 #[.val (.ref a1), .val (.int p1), .val (.int vb), .val (.int mj), .val (.int k), .val (.int vj), .val (.int v6)] [(.int (55 : Int32)), (.int v6)])) (fun t hr => XS.bipush X0.here hx rfl (hb hby d4_112) hr) ?_
    refine Go.st (S' := T0.setTop (mkF m 154 #[.val (.ref a1), .val (.int p1), .val (.int vb), .val (.int mj), .val (.int k), .val (.int vj), .val (.int v6)] [])) (fun t hr => XS.icmpYes X0.here hx rfl (pc0 := 114) (pc' := 154) rfl (hb hby d4_114) rfl (XT.ii_ge_t (by rw [own_lt55]; omega)) (by decide) (by decide) hr) ?_
    simp only [own_l2i] at hr
    exact hk v6 T0 _ h0 (by omega) X0 e0 N0 K0 E1 Ft Fp (hr ▸ At)
  | succ n ih =>
    intro q t v6 T0 locs0 h0 Z0 X0 e0 N0 K0 E1 Ft Fp At hlen h6 hqn hr
    have yta := own_ltA At
    have ya1 := E1.lt
    have hq : q < 55 := by omega
    have e6 := own_toN h6
    have e31 := own_toN (own_a31 h6 hq)
    have r31 := own_a31 h6 hq
    have lm : (t.map Value.int).length = 55 := by simpa using hlen
    have b31 : (q + 31) % 55 < 55 := Nat.mod_lt _ (by decide)
    refine Go.st (S' := T0.setTop (mkF m 112 #[.val (.ref a1), .val (.int p1), .val (.int vb), .val (.int mj), .val (.int k), .val (.int vj), .val (.int v6)] [(.int v6)])) (fun t hr => XS.iload X0.here hx rfl (hb hby d4_110) rfl hr) ?_
    refine Go.st (S' := T0.setTop (mkF m 114 #[.val (.ref a1), .val (.int p1), .val (.int vb), .val (.int mj), .val (.int k), .val (.int vj), .val (.int v6)] [(.int (55 : Int32)), (.int v6)])) (fun t hr => XS.bipush X0.here hx rfl (hb hby d4_112) hr) ?_
    refine Go.st (S' := T0.setTop (mkF m 117 #[.val (.ref a1), .val (.int p1), .val (.int vb), .val (.int mj), .val (.int k), .val (.int vj), .val (.int v6)] [])) (fun t hr => XS.icmpNo X0.here hx rfl (hb hby d4_114) rfl (XT.ii_ge_f (by rw [own_lt55]; omega)) hr) ?_
    refine Go.st (S' := T0.setTop (mkF m 118 #[.val (.ref a1), .val (.int p1), .val (.int vb), .val (.int mj), .val (.int k), .val (.int vj), .val (.int v6)] [(.ref a1)])) (fun t hr => XS.aloadN X0.here hx rfl (hb hby d4_117) rfl rfl hr) ?_
    obtain ⟨T_1, X_1, e_1, st_1⟩ := getF X0 hx hZ hown (host := "") (Or.inl (hw _ (List.mem_of_getElem? (i := 12) rfl))) Via.refl e0 Ft (g := (mkF m 118 #[.val (.ref a1), .val (.int p1), .val (.int vb), .val (.int mj), .val (.int k), .val (.int vj), .val (.int v6)] [(.ref a1)])) rfl rfl (hb hby d4_118)
    refine Go.st (S' := T_1.setTop (mkF m 121 #[.val (.ref a1), .val (.int p1), .val (.int vb), .val (.int mj), .val (.int k), .val (.int vj), .val (.int v6)] [(.ref ta)])) st_1 ?_
    refine Go.st (S' := T_1.setTop (mkF m 123 #[.val (.ref a1), .val (.int p1), .val (.int vb), .val (.int mj), .val (.int k), .val (.int vj), .val (.int v6)] [(.int v6), (.ref ta)])) (fun t hr => XS.iload X_1.here hx rfl (hb hby d4_121) rfl hr) ?_
    refine Go.st (S' := T_1.setTop (mkF m 124 #[.val (.ref a1), .val (.int p1), .val (.int vb), .val (.int mj), .val (.int k), .val (.int vj), .val (.int v6)] [(.ref a1), (.int v6), (.ref ta)])) (fun t hr => XS.aloadN X_1.here hx rfl (hb hby d4_123) rfl rfl hr) ?_
    obtain ⟨T_2, X_2, e_2, st_2⟩ := getF X_1 hx hZ hown (host := "") (Or.inl (hw _ (List.mem_of_getElem? (i := 12) rfl))) Via.refl e_1 Ft (g := (mkF m 124 #[.val (.ref a1), .val (.int p1), .val (.int vb), .val (.int mj), .val (.int k), .val (.int vj), .val (.int v6)] [(.ref a1), (.int v6), (.ref ta)])) rfl rfl (hb hby d4_124)
    refine Go.st (S' := T_2.setTop (mkF m 127 #[.val (.ref a1), .val (.int p1), .val (.int vb), .val (.int mj), .val (.int k), .val (.int vj), .val (.int v6)] [(.ref ta), (.int v6), (.ref ta)])) st_2 ?_
    refine Go.st (S' := T_2.setTop (mkF m 129 #[.val (.ref a1), .val (.int p1), .val (.int vb), .val (.int mj), .val (.int k), .val (.int vj), .val (.int v6)] [(.int v6), (.ref ta), (.int v6), (.ref ta)])) (fun t hr => XS.iload X_2.here hx rfl (hb hby d4_127) rfl hr) ?_
    refine Go.st (S' := T_2.setTop (mkF m 130 #[.val (.ref a1), .val (.int p1), .val (.int vb), .val (.int mj), .val (.int k), .val (.int vj), .val (.int v6)] [(.int (t.getD q 0)), (.int v6), (.ref ta)])) (own_ldI X_2 hx hZ e_2 At (j := v6) (v := (.int (t.getD q 0))) (by omega) (by omega) (by rw [e6]; exact own_map_at (by omega)) (g := (mkF m 129 #[.val (.ref a1), .val (.int p1), .val (.int vb), .val (.int mj), .val (.int k), .val (.int vj), .val (.int v6)] [(.int v6), (.ref ta), (.int v6), (.ref ta)])) rfl rfl (hb hby d4_129)) ?_
    refine Go.st (S' := T_2.setTop (mkF m 131 #[.val (.ref a1), .val (.int p1), .val (.int vb), .val (.int mj), .val (.int k), .val (.int vj), .val (.int v6)] [(.ref a1), (.int (t.getD q 0)), (.int v6), (.ref ta)])) (fun t hr => XS.aloadN X_2.here hx rfl (hb hby d4_130) rfl rfl hr) ?_
    obtain ⟨T_3, X_3, e_3, st_3⟩ := getF X_2 hx hZ hown (host := "") (Or.inl (hw _ (List.mem_of_getElem? (i := 12) rfl))) Via.refl e_2 Ft (g := (mkF m 131 #[.val (.ref a1), .val (.int p1), .val (.int vb), .val (.int mj), .val (.int k), .val (.int vj), .val (.int v6)] [(.ref a1), (.int (t.getD q 0)), (.int v6), (.ref ta)])) rfl rfl (hb hby d4_131)
    refine Go.st (S' := T_3.setTop (mkF m 134 #[.val (.ref a1), .val (.int p1), .val (.int vb), .val (.int mj), .val (.int k), .val (.int vj), .val (.int v6)] [(.ref ta), (.int (t.getD q 0)), (.int v6), (.ref ta)])) st_3 ?_
    refine Go.st (S' := T_3.setTop (mkF m 136 #[.val (.ref a1), .val (.int p1), .val (.int vb), .val (.int mj), .val (.int k), .val (.int vj), .val (.int v6)] [(.int v6), (.ref ta), (.int (t.getD q 0)), (.int v6), (.ref ta)])) (fun t hr => XS.iload X_3.here hx rfl (hb hby d4_134) rfl hr) ?_
    refine Go.st (S' := T_3.setTop (mkF m 138 #[.val (.ref a1), .val (.int p1), .val (.int vb), .val (.int mj), .val (.int k), .val (.int vj), .val (.int v6)] [(.int (31 : Int32)), (.int v6), (.ref ta), (.int (t.getD q 0)), (.int v6), (.ref ta)])) (fun t hr => XS.bipush X_3.here hx rfl (hb hby d4_136) hr) ?_
    refine Go.st (S' := T_3.setTop (mkF m 139 #[.val (.ref a1), .val (.int p1), .val (.int vb), .val (.int mj), .val (.int k), .val (.int vj), .val (.int v6)] [(.int (v6 + (31 : Int32))), (.ref ta), (.int (t.getD q 0)), (.int v6), (.ref ta)])) (fun t hr => XS.iadd X_3.here hx rfl (hb hby d4_138) rfl hr) ?_
    refine Go.st (S' := T_3.setTop (mkF m 141 #[.val (.ref a1), .val (.int p1), .val (.int vb), .val (.int mj), .val (.int k), .val (.int vj), .val (.int v6)] [(.int (55 : Int32)), (.int (v6 + (31 : Int32))), (.ref ta), (.int (t.getD q 0)), (.int v6), (.ref ta)])) (fun t hr => XS.bipush X_3.here hx rfl (hb hby d4_139) hr) ?_
    refine Go.st (S' := T_3.setTop (mkF m 142 #[.val (.ref a1), .val (.int p1), .val (.int vb), .val (.int mj), .val (.int k), .val (.int vj), .val (.int v6)] [(.int ((v6 + (31 : Int32)) % (55 : Int32))), (.ref ta), (.int (t.getD q 0)), (.int v6), (.ref ta)])) (fun t hr => iremM X_3 hx rfl (hb hby d4_141) rfl (by decide) hr) ?_
    refine Go.st (S' := T_3.setTop (mkF m 143 #[.val (.ref a1), .val (.int p1), .val (.int vb), .val (.int mj), .val (.int k), .val (.int vj), .val (.int v6)] [(.int (t.getD ((q + 31) % 55) 0)), (.int (t.getD q 0)), (.int v6), (.ref ta)])) (own_ldI X_3 hx hZ e_3 At (j := ((v6 + (31 : Int32)) % (55 : Int32))) (v := (.int (t.getD ((q + 31) % 55) 0))) (by omega) (by omega) (by rw [e31]; exact own_map_at (by omega)) (g := (mkF m 142 #[.val (.ref a1), .val (.int p1), .val (.int vb), .val (.int mj), .val (.int k), .val (.int vj), .val (.int v6)] [(.int ((v6 + (31 : Int32)) % (55 : Int32))), (.ref ta), (.int (t.getD q 0)), (.int v6), (.ref ta)])) rfl rfl (hb hby d4_142)) ?_
    refine Go.st (S' := T_3.setTop (mkF m 144 #[.val (.ref a1), .val (.int p1), .val (.int vb), .val (.int mj), .val (.int k), .val (.int vj), .val (.int v6)] [(.int ((t.getD q 0) - (t.getD ((q + 31) % 55) 0))), (.int v6), (.ref ta)])) (fun t hr => XS.isub X_3.here hx rfl (hb hby d4_143) rfl hr) ?_
    obtain ⟨v_4, T_4, h_4, L_4, X_4, e_4, Q_4, st_4⟩ := own_callS X_3 hx hZ (y := ⟨"com/example/moduline/moduline/library/Random", "reduce", "(I)I"⟩) hown (hw _ (List.mem_of_getElem? (i := 20) rfl)) (hw _ (List.mem_of_getElem? (i := 21) rfl)) (hw _ (List.mem_of_getElem? (i := 4) rfl)) (hw _ (List.mem_of_getElem? (i := 22) rfl)) (by decide) e_3 (argsL := [(.int ((t.getD q 0) - (t.getD ((q + 31) % 55) 0)))]) (rest := [(.int v6), (.ref ta)]) (rmD l Z a0 hw ((t.getD q 0) - (t.getD ((q + 31) % 55) 0)) h0 n0 (by omega)) (g := (mkF m 144 #[.val (.ref a1), .val (.int p1), .val (.int vb), .val (.int mj), .val (.int k), .val (.int vj), .val (.int v6)] [(.int ((t.getD q 0) - (t.getD ((q + 31) % 55) 0))), (.int v6), (.ref ta)])) rfl (by rw [hml]; rfl) (lenOf pd_0 rfl) rfl (hb hby d4_144) (W := 2) (by show 2 * 0 + _ ≤ _; exact Nat.le_of_eq rfl) (by decide) (by decide) (by decide) (by decide)
    obtain ⟨rfl, N_4, hh_4⟩ := Q_4
    have N_4' := Fr.app N0 N_4
    rw [hh_4] at e_4
    refine Go.st (S' := T_4.setTop (mkF m 147 #[.val (.ref a1), .val (.int p1), .val (.int vb), .val (.int mj), .val (.int k), .val (.int vj), .val (.int v6)] [(.int (own_red ((t.getD q 0) - (t.getD ((q + 31) % 55) 0)))), (.int v6), (.ref ta)])) st_4 ?_
    obtain ⟨T_5, h_5, X_5, e_5, W_5, A_5, st_5⟩ := own_stI X_4 hx hZ e_4 At (j := v6) (by omega) (by omega) (g := (mkF m 147 #[.val (.ref a1), .val (.int p1), .val (.int vb), .val (.int mj), .val (.int k), .val (.int vj), .val (.int v6)] [(.int (own_red ((t.getD q 0) - (t.getD ((q + 31) % 55) 0)))), (.int v6), (.ref ta)])) rfl rfl (hb hby d4_147)
    have N_5 := Fr.snoc X_5 N_4' (by omega)
    have z_5 := W_5.size
    refine Go.st (S' := T_5.setTop (mkF m 148 #[.val (.ref a1), .val (.int p1), .val (.int vb), .val (.int mj), .val (.int k), .val (.int vj), .val (.int v6)] [])) st_5 ?_
    obtain ⟨w6, hw6⟩ : ∃ z : Int32, z = (v6 + (1 : Int32)) := ⟨_, rfl⟩
    refine Go.st (S' := T_5.setTop (mkF m 151 #[.val (.ref a1), .val (.int p1), .val (.int vb), .val (.int mj), .val (.int k), .val (.int vj), .val (.int w6)] [])) (fun t hr => by subst hw6; exact XS.iinc X_5.here hx rfl (hb hby d4_148) rfl (l' := _) rfl hr) ?_
    refine Go.st (S' := T_5.setTop (mkF m 110 #[.val (.ref a1), .val (.int p1), .val (.int vb), .val (.int mj), .val (.int k), .val (.int vj), .val (.int w6)] [])) (fun t hr => XS.goto X_5.here hx rfl (pc0 := 151) (pc' := 110) rfl (hb hby d4_151) (by decide) (by decide) hr) ?_
    have A' : Ary Z h_5 ta .int ((own_in1 q t).map Value.int) := by rw [e6] at A_5; rw [own_in1, List.map_set]; exact A_5
    have F_6 := (E1.wr W_5)
    have F_7 := (Ft.other W_5 (Or.inl (own_ne (by omega))))
    have F_8 := (Fp.other W_5 (Or.inl (own_ne (by omega))))
    exact ih (q + 1) (own_in1 q t) w6 T_5 _ h_5 (by omega) X_5 e_5 N_5 (K0.wr W_5 (by simp only [List.mem_cons, List.not_mem_nil, or_false]; omega)) F_6 F_7 F_8 A' (by simp [own_in1, hlen]) (by rw [hw6]; exact own_up h6 (by omega)) (by omega) (by rw [← hr]; rfl)
theorem d4_101 : decode prog_22_method_2_code 101 = .ok (.iload 5, 2) := by decide +kernel
theorem d4_103 : decode prog_22_method_2_code 103 = .ok (.iconst 4, 1) := by decide +kernel
theorem d4_104 : decode prog_22_method_2_code 104 = .ok (.if_icmp .ge 56, 3) := by decide +kernel
theorem d4_160 : decode prog_22_method_2_code 160 = .ok (.return_, 1) := by decide +kernel
theorem d4_107 : decode prog_22_method_2_code 107 = .ok (.iconst 0, 1) := by decide +kernel
theorem d4_108 : decode prog_22_method_2_code 108 = .ok (.istore 6, 2) := by decide +kernel
theorem d4_154 : decode prog_22_method_2_code 154 = .ok (.iinc 5 1, 3) := by decide +kernel
theorem d4_157 : decode prog_22_method_2_code 157 = .ok (.goto (-56), 3) := by decide +kernel
set_option maxRecDepth 65536 in
set_option maxHeartbeats 4000000 in
theorem lpO {p : Program} {l : Launch} {e : Env} {s : State} {m : MethodId} {args : Array Value} {below : List Frame} {meth : Method} {c : Code} (Z : State) (a0 : Array Value) (hw : ∀ d ∈ tables_1, d.before a0 Z = true) (n0 : Nat) (hx : p.tables.exec = Jvm.exec) (hby : c.code = prog_22_method_2_code) (hml : c.maxLocals = 7) (hZ : Z.Warmed39 s.vm) (hown : s.vm.findClass "com/example/moduline/moduline/library/Random" = some m.cls) (hnm : meth.name = "<init>") (hret : meth.sig.returnType = none) (hlk : meth.locks = false) (a1 ta : Nat) (p1 vb : Int32) (hB : Heap) (hBt : hB.size ≤ ta) (hta : n0 ≤ ta) (hne : a1 ≠ ta) (res : List Int32) (n : Nat) :
    ∀ (q : Nat) (t : List Int32) (mj : Int32) (k : Int32) (vj : Int32) (s6 : Slot) (T0 : State) (locs0 : List Loc) (h0 : Heap) (Z0 : n0 ≤ h0.size) (X0 : Stand p l e ({ frames := 1, cells := 1, slots := 55, locals := 15 } : Room) s m args below meth c T0 locs0 1 55) (e0 : T0.heap = h0) (N0 : Fr n0 locs0) (K0 : Keep hB h0 [a1]) (E1 : Exa Z h0 a1 "com/example/moduline/moduline/library/Random") (Ft : Fld Z h0 a1 "com/example/moduline/moduline/library/Random" "table" "[I" (.ref ta)) (Fp : Fld Z h0 a1 "com/example/moduline/moduline/library/Random" "position" "I" (.int 0)) (At : Ary Z h0 ta .int (t.map Value.int)) (hlen : t.length = 55) (hs6 : One s6) (hj : vj.toInt = q) (hqn : q + n = 4) (hr : own_l2 n t = res), Go p e below s 1 55 (fun v h L => v = none ∧ Fr n0 L ∧ Keep hB h [a1] ∧ ∃ ta : Nat, hB.size ≤ ta ∧ Fld Z h a1 "com/example/moduline/moduline/library/Random" "table" "[I" (.ref ta) ∧ Fld Z h a1 "com/example/moduline/moduline/library/Random" "position" "I" (.int 0) ∧ Ary Z h ta .int ((res).map Value.int)) (T0.setTop (mkF m 101 #[.val (.ref a1), .val (.int p1), .val (.int vb), .val (.int mj), .val (.int k), .val (.int vj), s6] [])) := by
  induction n with
  | zero =>
    intro q t mj k vj s6 T0 locs0 h0 Z0 X0 e0 N0 K0 E1 Ft Fp At hlen hs6 hj hqn hr
    have yta := own_ltA At
    have ya1 := E1.lt
    refine Go.st (S' := T0.setTop (mkF m 103 #[.val (.ref a1), .val (.int p1), .val (.int vb), .val (.int mj), .val (.int k), .val (.int vj), s6] [(.int vj)])) (fun t hr => XS.iload X0.here hx rfl (hb hby d4_101) rfl hr) ?_
    refine Go.st (S' := T0.setTop (mkF m 104 #[.val (.ref a1), .val (.int p1), .val (.int vb), .val (.int mj), .val (.int k), .val (.int vj), s6] [(.int (4 : Int32)), (.int vj)])) (fun t hr => XS.iconst X0.here hx rfl (hb hby d4_103) hr) ?_
    refine Go.st (S' := T0.setTop (mkF m 160 #[.val (.ref a1), .val (.int p1), .val (.int vb), .val (.int mj), .val (.int k), .val (.int vj), s6] [])) (fun t hr => XS.icmpYes X0.here hx rfl (pc0 := 104) (pc' := 160) rfl (hb hby d4_104) rfl (XT.ii_ge_t (by rw [own_lt4]; omega)) (by decide) (by decide) hr) ?_
    refine Go.retV X0 hx hlk hret (hb hby d4_160) (by decide) (by decide) ?_
    try rw [e0]
    simp only [own_l2] at hr
    exact ⟨rfl, N0, K0, ta, hBt, Ft, Fp, hr ▸ At⟩
  | succ n ih =>
    intro q t mj k vj s6 T0 locs0 h0 Z0 X0 e0 N0 K0 E1 Ft Fp At hlen hs6 hj hqn hr
    have yta := own_ltA At
    have ya1 := E1.lt
    refine Go.st (S' := T0.setTop (mkF m 103 #[.val (.ref a1), .val (.int p1), .val (.int vb), .val (.int mj), .val (.int k), .val (.int vj), s6] [(.int vj)])) (fun t hr => XS.iload X0.here hx rfl (hb hby d4_101) rfl hr) ?_
    refine Go.st (S' := T0.setTop (mkF m 104 #[.val (.ref a1), .val (.int p1), .val (.int vb), .val (.int mj), .val (.int k), .val (.int vj), s6] [(.int (4 : Int32)), (.int vj)])) (fun t hr => XS.iconst X0.here hx rfl (hb hby d4_103) hr) ?_
    refine Go.st (S' := T0.setTop (mkF m 107 #[.val (.ref a1), .val (.int p1), .val (.int vb), .val (.int mj), .val (.int k), .val (.int vj), s6] [])) (fun t hr => XS.icmpNo X0.here hx rfl (hb hby d4_104) rfl (XT.ii_ge_f (by rw [own_lt4]; omega)) hr) ?_
    refine Go.st (S' := T0.setTop (mkF m 108 #[.val (.ref a1), .val (.int p1), .val (.int vb), .val (.int mj), .val (.int k), .val (.int vj), s6] [(.int (0 : Int32))])) (fun t hr => XS.iconst X0.here hx rfl (hb hby d4_107) hr) ?_
    refine Go.st (S' := T0.setTop (mkF m 110 #[.val (.ref a1), .val (.int p1), .val (.int vb), .val (.int mj), .val (.int k), .val (.int vj), .val (.int (0 : Int32))] [])) (fun t hr => XS.istore X0.here hx rfl (hb hby d4_108) rfl (l' := #[.val (.ref a1), .val (.int p1), .val (.int vb), .val (.int mj), .val (.int k), .val (.int vj), .val (.int (0 : Int32))]) (XS.store1 rfl hs6 rfl) hr) ?_
    refine lpI Z a0 hw n0 hx hby hml hZ hown hnm hret hlk a1 ta p1 vb hB hBt hta hne (own_l2i 55 0 t) mj k vj _ 55 ?_ 0 t 0 T0 _ h0 (by omega) X0 e0 N0 K0 E1 Ft Fp At hlen rfl rfl rfl
    intro v6 T1 locs1 h1 Z1 X1 e1 N1 K1 E1' Ft' Fp' At'
    obtain ⟨wj, hwj⟩ : ∃ z : Int32, z = (vj + (1 : Int32)) := ⟨_, rfl⟩
    refine Go.st (S' := T1.setTop (mkF m 157 #[.val (.ref a1), .val (.int p1), .val (.int vb), .val (.int mj), .val (.int k), .val (.int wj), .val (.int v6)] [])) (fun t hr => by subst hwj; exact XS.iinc X1.here hx rfl (hb hby d4_154) rfl (l' := _) rfl hr) ?_
    refine Go.st (S' := T1.setTop (mkF m 101 #[.val (.ref a1), .val (.int p1), .val (.int vb), .val (.int mj), .val (.int k), .val (.int wj), .val (.int v6)] [])) (fun t hr => XS.goto X1.here hx rfl (pc0 := 157) (pc' := 101) rfl (hb hby d4_157) (by decide) (by decide) hr) ?_
    exact ih (q + 1) (own_l2i 55 0 t) mj k wj (.val (.int v6)) T1 _ h1 (by omega) X1 e1 N1 K1 E1' Ft' Fp' At' (by have := own_l2i_len 55 0 t; omega) (One.val rfl) (by rw [hwj]; exact own_up hj (by omega)) (by omega) (by rw [← hr]; rfl)
theorem d4_47 : decode prog_22_method_2_code 47 = .ok (.iload 5, 2) := by decide +kernel
theorem d4_49 : decode prog_22_method_2_code 49 = .ok (.bipush 55, 2) := by decide +kernel
theorem d4_51 : decode prog_22_method_2_code 51 = .ok (.if_icmp .ge 47, 3) := by decide +kernel
theorem d4_98 : decode prog_22_method_2_code 98 = .ok (.iconst 0, 1) := by decide +kernel
theorem d4_99 : decode prog_22_method_2_code 99 = .ok (.istore 5, 2) := by decide +kernel
theorem d4_54 : decode prog_22_method_2_code 54 = .ok (.bipush 21, 2) := by decide +kernel
theorem d4_56 : decode prog_22_method_2_code 56 = .ok (.iload 5, 2) := by decide +kernel
theorem d4_58 : decode prog_22_method_2_code 58 = .ok (.imul, 1) := by decide +kernel
theorem d4_59 : decode prog_22_method_2_code 59 = .ok (.bipush 55, 2) := by decide +kernel
theorem d4_61 : decode prog_22_method_2_code 61 = .ok (.irem, 1) := by decide +kernel
theorem d4_62 : decode prog_22_method_2_code 62 = .ok (.iconst 1, 1) := by decide +kernel
theorem d4_63 : decode prog_22_method_2_code 63 = .ok (.isub, 1) := by decide +kernel
theorem d4_64 : decode prog_22_method_2_code 64 = .ok (.istore 6, 2) := by decide +kernel
theorem d4_66 : decode prog_22_method_2_code 66 = .ok (.aload_n 0, 1) := by decide +kernel
theorem d4_67 : decode prog_22_method_2_code 67 = .ok (.getfield 26, 3) := by decide +kernel
theorem d4_70 : decode prog_22_method_2_code 70 = .ok (.iload 6, 2) := by decide +kernel
theorem d4_72 : decode prog_22_method_2_code 72 = .ok (.iload 4, 2) := by decide +kernel
theorem d4_74 : decode prog_22_method_2_code 74 = .ok (.iastore, 1) := by decide +kernel
theorem d4_75 : decode prog_22_method_2_code 75 = .ok (.iload_n 3, 1) := by decide +kernel
theorem d4_76 : decode prog_22_method_2_code 76 = .ok (.iload 4, 2) := by decide +kernel
theorem d4_78 : decode prog_22_method_2_code 78 = .ok (.isub, 1) := by decide +kernel
theorem d4_79 : decode prog_22_method_2_code 79 = .ok (.invokestatic 39, 3) := by decide +kernel
theorem d4_82 : decode prog_22_method_2_code 82 = .ok (.istore 4, 2) := by decide +kernel
theorem d4_84 : decode prog_22_method_2_code 84 = .ok (.aload_n 0, 1) := by decide +kernel
theorem d4_85 : decode prog_22_method_2_code 85 = .ok (.getfield 26, 3) := by decide +kernel
theorem d4_88 : decode prog_22_method_2_code 88 = .ok (.iload 6, 2) := by decide +kernel
theorem d4_90 : decode prog_22_method_2_code 90 = .ok (.iaload, 1) := by decide +kernel
theorem d4_91 : decode prog_22_method_2_code 91 = .ok (.istore_n 3, 1) := by decide +kernel
theorem d4_92 : decode prog_22_method_2_code 92 = .ok (.iinc 5 1, 3) := by decide +kernel
theorem d4_95 : decode prog_22_method_2_code 95 = .ok (.goto (-48), 3) := by decide +kernel
set_option maxRecDepth 65536 in
set_option maxHeartbeats 4000000 in
theorem lp1 {p : Program} {l : Launch} {e : Env} {s : State} {m : MethodId} {args : Array Value} {below : List Frame} {meth : Method} {c : Code} (Z : State) (a0 : Array Value) (hw : ∀ d ∈ tables_1, d.before a0 Z = true) (n0 : Nat) (hx : p.tables.exec = Jvm.exec) (hby : c.code = prog_22_method_2_code) (hml : c.maxLocals = 7) (hZ : Z.Warmed39 s.vm) (hown : s.vm.findClass "com/example/moduline/moduline/library/Random" = some m.cls) (hnm : meth.name = "<init>") (hret : meth.sig.returnType = none) (hlk : meth.locks = false) (a1 ta : Nat) (p1 vb : Int32) (hB : Heap) (hBt : hB.size ≤ ta) (hta : n0 ≤ ta) (hne : a1 ≠ ta) (res : List Int32) (n : Nat) :
    ∀ (i : Nat) (t : List Int32) (mj : Int32) (k : Int32) (vi : Int32) (s6 : Slot) (T0 : State) (locs0 : List Loc) (h0 : Heap) (Z0 : n0 ≤ h0.size) (X0 : Stand p l e ({ frames := 1, cells := 1, slots := 55, locals := 15 } : Room) s m args below meth c T0 locs0 1 55) (e0 : T0.heap = h0) (N0 : Fr n0 locs0) (K0 : Keep hB h0 [a1]) (E1 : Exa Z h0 a1 "com/example/moduline/moduline/library/Random") (Ft : Fld Z h0 a1 "com/example/moduline/moduline/library/Random" "table" "[I" (.ref ta)) (Fp : Fld Z h0 a1 "com/example/moduline/moduline/library/Random" "position" "I" (.int 0)) (At : Ary Z h0 ta .int (t.map Value.int)) (hlen : t.length = 55) (hs6 : One s6) (hi : vi.toInt = i) (hin : i + n = 55) (h1i : 1 ≤ i) (hr : own_l2 4 (own_l1 n i t mj k) = res), Go p e below s 1 55 (fun v h L => v = none ∧ Fr n0 L ∧ Keep hB h [a1] ∧ ∃ ta : Nat, hB.size ≤ ta ∧ Fld Z h a1 "com/example/moduline/moduline/library/Random" "table" "[I" (.ref ta) ∧ Fld Z h a1 "com/example/moduline/moduline/library/Random" "position" "I" (.int 0) ∧ Ary Z h ta .int ((res).map Value.int)) (T0.setTop (mkF m 47 #[.val (.ref a1), .val (.int p1), .val (.int vb), .val (.int mj), .val (.int k), .val (.int vi), s6] [])) := by
  induction n with
  | zero =>
    intro i t mj k vi s6 T0 locs0 h0 Z0 X0 e0 N0 K0 E1 Ft Fp At hlen hs6 hi hin h1i hr
    have yta := own_ltA At
    have ya1 := E1.lt
    refine Go.st (S' := T0.setTop (mkF m 49 #[.val (.ref a1), .val (.int p1), .val (.int vb), .val (.int mj), .val (.int k), .val (.int vi), s6] [(.int vi)])) (fun t hr => XS.iload X0.here hx rfl (hb hby d4_47) rfl hr) ?_
    refine Go.st (S' := T0.setTop (mkF m 51 #[.val (.ref a1), .val (.int p1), .val (.int vb), .val (.int mj), .val (.int k), .val (.int vi), s6] [(.int (55 : Int32)), (.int vi)])) (fun t hr => XS.bipush X0.here hx rfl (hb hby d4_49) hr) ?_
    refine Go.st (S' := T0.setTop (mkF m 98 #[.val (.ref a1), .val (.int p1), .val (.int vb), .val (.int mj), .val (.int k), .val (.int vi), s6] [])) (fun t hr => XS.icmpYes X0.here hx rfl (pc0 := 51) (pc' := 98) rfl (hb hby d4_51) rfl (XT.ii_ge_t (by rw [own_lt55]; omega)) (by decide) (by decide) hr) ?_
    refine Go.st (S' := T0.setTop (mkF m 99 #[.val (.ref a1), .val (.int p1), .val (.int vb), .val (.int mj), .val (.int k), .val (.int vi), s6] [(.int (0 : Int32))])) (fun t hr => XS.iconst X0.here hx rfl (hb hby d4_98) hr) ?_
    refine Go.st (S' := T0.setTop (mkF m 101 #[.val (.ref a1), .val (.int p1), .val (.int vb), .val (.int mj), .val (.int k), .val (.int (0 : Int32)), s6] [])) (fun t hr => XS.istore X0.here hx rfl (hb hby d4_99) rfl (l' := #[.val (.ref a1), .val (.int p1), .val (.int vb), .val (.int mj), .val (.int k), .val (.int (0 : Int32)), s6]) rfl hr) ?_
    simp only [own_l1] at hr
    exact lpO Z a0 hw n0 hx hby hml hZ hown hnm hret hlk a1 ta p1 vb hB hBt hta hne res 4 0 t mj k 0 s6 T0 _ h0 (by omega) X0 e0 N0 K0 E1 Ft Fp At hlen hs6 rfl rfl hr
  | succ n ih =>
    intro i t mj k vi s6 T0 locs0 h0 Z0 X0 e0 N0 K0 E1 Ft Fp At hlen hs6 hi hin h1i hr
    have yta := own_ltA At
    have ya1 := E1.lt
    have hi55 : i < 55 := by omega
    obtain ⟨r6, b6⟩ := own_ii hi h1i hi55
    have lm : (t.map Value.int).length = 55 := by simpa using hlen
    refine Go.st (S' := T0.setTop (mkF m 49 #[.val (.ref a1), .val (.int p1), .val (.int vb), .val (.int mj), .val (.int k), .val (.int vi), s6] [(.int vi)])) (fun t hr => XS.iload X0.here hx rfl (hb hby d4_47) rfl hr) ?_
    refine Go.st (S' := T0.setTop (mkF m 51 #[.val (.ref a1), .val (.int p1), .val (.int vb), .val (.int mj), .val (.int k), .val (.int vi), s6] [(.int (55 : Int32)), (.int vi)])) (fun t hr => XS.bipush X0.here hx rfl (hb hby d4_49) hr) ?_
    refine Go.st (S' := T0.setTop (mkF m 54 #[.val (.ref a1), .val (.int p1), .val (.int vb), .val (.int mj), .val (.int k), .val (.int vi), s6] [])) (fun t hr => XS.icmpNo X0.here hx rfl (hb hby d4_51) rfl (XT.ii_ge_f (by rw [own_lt55]; omega)) hr) ?_
    refine Go.st (S' := T0.setTop (mkF m 56 #[.val (.ref a1), .val (.int p1), .val (.int vb), .val (.int mj), .val (.int k), .val (.int vi), s6] [(.int (21 : Int32))])) (fun t hr => XS.bipush X0.here hx rfl (hb hby d4_54) hr) ?_
    refine Go.st (S' := T0.setTop (mkF m 58 #[.val (.ref a1), .val (.int p1), .val (.int vb), .val (.int mj), .val (.int k), .val (.int vi), s6] [(.int vi), (.int (21 : Int32))])) (fun t hr => XS.iload X0.here hx rfl (hb hby d4_56) rfl hr) ?_
    refine Go.st (S' := T0.setTop (mkF m 59 #[.val (.ref a1), .val (.int p1), .val (.int vb), .val (.int mj), .val (.int k), .val (.int vi), s6] [(.int ((21 : Int32) * vi))])) (fun t hr => XS.imul X0.here hx rfl (hb hby d4_58) rfl hr) ?_
    refine Go.st (S' := T0.setTop (mkF m 61 #[.val (.ref a1), .val (.int p1), .val (.int vb), .val (.int mj), .val (.int k), .val (.int vi), s6] [(.int (55 : Int32)), (.int ((21 : Int32) * vi))])) (fun t hr => XS.bipush X0.here hx rfl (hb hby d4_59) hr) ?_
    refine Go.st (S' := T0.setTop (mkF m 62 #[.val (.ref a1), .val (.int p1), .val (.int vb), .val (.int mj), .val (.int k), .val (.int vi), s6] [(.int (((21 : Int32) * vi) % (55 : Int32)))])) (fun t hr => iremM X0 hx rfl (hb hby d4_61) rfl (by decide) hr) ?_
    refine Go.st (S' := T0.setTop (mkF m 63 #[.val (.ref a1), .val (.int p1), .val (.int vb), .val (.int mj), .val (.int k), .val (.int vi), s6] [(.int (1 : Int32)), (.int (((21 : Int32) * vi) % (55 : Int32)))])) (fun t hr => XS.iconst X0.here hx rfl (hb hby d4_62) hr) ?_
    refine Go.st (S' := T0.setTop (mkF m 64 #[.val (.ref a1), .val (.int p1), .val (.int vb), .val (.int mj), .val (.int k), .val (.int vi), s6] [(.int ((((21 : Int32) * vi) % (55 : Int32)) - (1 : Int32)))])) (fun t hr => XS.isub X0.here hx rfl (hb hby d4_63) rfl hr) ?_
    obtain ⟨v6, hv6⟩ : ∃ z : Int32, z = ((((21 : Int32) * vi) % (55 : Int32)) - (1 : Int32)) := ⟨_, rfl⟩
    refine Go.st (S' := T0.setTop (mkF m 66 #[.val (.ref a1), .val (.int p1), .val (.int vb), .val (.int mj), .val (.int k), .val (.int vi), .val (.int v6)] [])) (fun t hr => by subst hv6; exact XS.istore X0.here hx rfl (hb hby d4_64) rfl (l' := _) (XS.store1 rfl hs6 rfl) hr) ?_
    rw [← hv6] at r6
    have e6 := own_toN r6
    refine Go.st (S' := T0.setTop (mkF m 67 #[.val (.ref a1), .val (.int p1), .val (.int vb), .val (.int mj), .val (.int k), .val (.int vi), .val (.int v6)] [(.ref a1)])) (fun t hr => XS.aloadN X0.here hx rfl (hb hby d4_66) rfl rfl hr) ?_
    obtain ⟨T_1, X_1, e_1, st_1⟩ := getF X0 hx hZ hown (host := "") (Or.inl (hw _ (List.mem_of_getElem? (i := 12) rfl))) Via.refl e0 Ft (g := (mkF m 67 #[.val (.ref a1), .val (.int p1), .val (.int vb), .val (.int mj), .val (.int k), .val (.int vi), .val (.int v6)] [(.ref a1)])) rfl rfl (hb hby d4_67)
    refine Go.st (S' := T_1.setTop (mkF m 70 #[.val (.ref a1), .val (.int p1), .val (.int vb), .val (.int mj), .val (.int k), .val (.int vi), .val (.int v6)] [(.ref ta)])) st_1 ?_
    refine Go.st (S' := T_1.setTop (mkF m 72 #[.val (.ref a1), .val (.int p1), .val (.int vb), .val (.int mj), .val (.int k), .val (.int vi), .val (.int v6)] [(.int v6), (.ref ta)])) (fun t hr => XS.iload X_1.here hx rfl (hb hby d4_70) rfl hr) ?_
    refine Go.st (S' := T_1.setTop (mkF m 74 #[.val (.ref a1), .val (.int p1), .val (.int vb), .val (.int mj), .val (.int k), .val (.int vi), .val (.int v6)] [(.int k), (.int v6), (.ref ta)])) (fun t hr => XS.iload X_1.here hx rfl (hb hby d4_72) rfl hr) ?_
    obtain ⟨T_2, h_2, X_2, e_2, W_2, A_2, st_2⟩ := own_stI X_1 hx hZ e_1 At (j := v6) (by omega) (by omega) (g := (mkF m 74 #[.val (.ref a1), .val (.int p1), .val (.int vb), .val (.int mj), .val (.int k), .val (.int vi), .val (.int v6)] [(.int k), (.int v6), (.ref ta)])) rfl rfl (hb hby d4_74)
    have N_2 := Fr.snoc X_2 N0 (by omega)
    have z_2 := W_2.size
    refine Go.st (S' := T_2.setTop (mkF m 75 #[.val (.ref a1), .val (.int p1), .val (.int vb), .val (.int mj), .val (.int k), .val (.int vi), .val (.int v6)] [])) st_2 ?_
    refine Go.st (S' := T_2.setTop (mkF m 76 #[.val (.ref a1), .val (.int p1), .val (.int vb), .val (.int mj), .val (.int k), .val (.int vi), .val (.int v6)] [(.int mj)])) (fun t hr => XS.iloadN X_2.here hx rfl (hb hby d4_75) rfl hr) ?_
    refine Go.st (S' := T_2.setTop (mkF m 78 #[.val (.ref a1), .val (.int p1), .val (.int vb), .val (.int mj), .val (.int k), .val (.int vi), .val (.int v6)] [(.int k), (.int mj)])) (fun t hr => XS.iload X_2.here hx rfl (hb hby d4_76) rfl hr) ?_
    refine Go.st (S' := T_2.setTop (mkF m 79 #[.val (.ref a1), .val (.int p1), .val (.int vb), .val (.int mj), .val (.int k), .val (.int vi), .val (.int v6)] [(.int (mj - k))])) (fun t hr => XS.isub X_2.here hx rfl (hb hby d4_78) rfl hr) ?_
    obtain ⟨v_3, T_3, h_3, L_3, X_3, e_3, Q_3, st_3⟩ := own_callS X_2 hx hZ (y := ⟨"com/example/moduline/moduline/library/Random", "reduce", "(I)I"⟩) hown (hw _ (List.mem_of_getElem? (i := 20) rfl)) (hw _ (List.mem_of_getElem? (i := 21) rfl)) (hw _ (List.mem_of_getElem? (i := 4) rfl)) (hw _ (List.mem_of_getElem? (i := 22) rfl)) (by decide) e_2 (argsL := [(.int (mj - k))]) (rest := []) (rmD l Z a0 hw (mj - k) h_2 n0 (by omega)) (g := (mkF m 79 #[.val (.ref a1), .val (.int p1), .val (.int vb), .val (.int mj), .val (.int k), .val (.int vi), .val (.int v6)] [(.int (mj - k))])) rfl (by rw [hml]; rfl) (lenOf pd_0 rfl) rfl (hb hby d4_79) (W := 0) (by show 2 * 0 + _ ≤ _; exact Nat.le_of_eq rfl) (by decide) (by decide) (by decide) (by decide)
    obtain ⟨rfl, N_3, hh_3⟩ := Q_3
    have N_3' := Fr.app N_2 N_3
    rw [hh_3] at e_3
    refine Go.st (S' := T_3.setTop (mkF m 82 #[.val (.ref a1), .val (.int p1), .val (.int vb), .val (.int mj), .val (.int k), .val (.int vi), .val (.int v6)] [(.int (own_red (mj - k)))])) st_3 ?_
    obtain ⟨k2, hk2⟩ : ∃ z : Int32, z = (own_red (mj - k)) := ⟨_, rfl⟩
    refine Go.st (S' := T_3.setTop (mkF m 84 #[.val (.ref a1), .val (.int p1), .val (.int vb), .val (.int mj), .val (.int k2), .val (.int vi), .val (.int v6)] [])) (fun t hr => by subst hk2; exact XS.istore X_3.here hx rfl (hb hby d4_82) rfl (l' := _) rfl hr) ?_
    refine Go.st (S' := T_3.setTop (mkF m 85 #[.val (.ref a1), .val (.int p1), .val (.int vb), .val (.int mj), .val (.int k2), .val (.int vi), .val (.int v6)] [(.ref a1)])) (fun t hr => XS.aloadN X_3.here hx rfl (hb hby d4_84) rfl rfl hr) ?_
    have F_4 := (Ft.other W_2 (Or.inl (own_ne (by omega))))
    obtain ⟨T_5, X_5, e_5, st_5⟩ := getF X_3 hx hZ hown (host := "") (Or.inl (hw _ (List.mem_of_getElem? (i := 12) rfl))) Via.refl e_3 F_4 (g := (mkF m 85 #[.val (.ref a1), .val (.int p1), .val (.int vb), .val (.int mj), .val (.int k2), .val (.int vi), .val (.int v6)] [(.ref a1)])) rfl rfl (hb hby d4_85)
    refine Go.st (S' := T_5.setTop (mkF m 88 #[.val (.ref a1), .val (.int p1), .val (.int vb), .val (.int mj), .val (.int k2), .val (.int vi), .val (.int v6)] [(.ref ta)])) st_5 ?_
    refine Go.st (S' := T_5.setTop (mkF m 90 #[.val (.ref a1), .val (.int p1), .val (.int vb), .val (.int mj), .val (.int k2), .val (.int vi), .val (.int v6)] [(.int v6), (.ref ta)])) (fun t hr => XS.iload X_5.here hx rfl (hb hby d4_88) rfl hr) ?_
    refine Go.st (S' := T_5.setTop (mkF m 91 #[.val (.ref a1), .val (.int p1), .val (.int vb), .val (.int mj), .val (.int k2), .val (.int vi), .val (.int v6)] [(.int k)])) (own_ldI X_5 hx hZ e_5 A_2 (j := v6) (v := (.int k)) (by omega) (by simp only [List.length_set]; omega) (by rw [List.getElem?_set_self (by omega)]) (g := (mkF m 90 #[.val (.ref a1), .val (.int p1), .val (.int vb), .val (.int mj), .val (.int k2), .val (.int vi), .val (.int v6)] [(.int v6), (.ref ta)])) rfl rfl (hb hby d4_90)) ?_
    refine Go.st (S' := T_5.setTop (mkF m 92 #[.val (.ref a1), .val (.int p1), .val (.int vb), .val (.int k), .val (.int k2), .val (.int vi), .val (.int v6)] [])) (fun t hr => XS.istoreN X_5.here hx rfl (hb hby d4_91) rfl (l' := #[.val (.ref a1), .val (.int p1), .val (.int vb), .val (.int k), .val (.int k2), .val (.int vi), .val (.int v6)]) rfl hr) ?_
    obtain ⟨wi, hwi⟩ : ∃ z : Int32, z = (vi + (1 : Int32)) := ⟨_, rfl⟩
    refine Go.st (S' := T_5.setTop (mkF m 95 #[.val (.ref a1), .val (.int p1), .val (.int vb), .val (.int k), .val (.int k2), .val (.int wi), .val (.int v6)] [])) (fun t hr => by subst hwi; exact XS.iinc X_5.here hx rfl (hb hby d4_92) rfl (l' := _) rfl hr) ?_
    refine Go.st (S' := T_5.setTop (mkF m 47 #[.val (.ref a1), .val (.int p1), .val (.int vb), .val (.int k), .val (.int k2), .val (.int wi), .val (.int v6)] [])) (fun t hr => XS.goto X_5.here hx rfl (pc0 := 95) (pc' := 47) rfl (hb hby d4_95) (by decide) (by decide) hr) ?_
    have A' : Ary Z h_2 ta .int ((t.set (21 * i % 55 - 1) k).map Value.int) := by rw [e6] at A_2; rw [List.map_set]; exact A_2
    have F_6 := (E1.wr W_2)
    have F_7 := (Fp.other W_2 (Or.inl (own_ne (by omega))))
    exact ih (i + 1) (t.set (21 * i % 55 - 1) k) k k2 wi (.val (.int v6)) T_5 _ h_2 (by omega) X_5 e_5 N_3' (K0.wr W_2 (by simp only [List.mem_cons, List.not_mem_nil, or_false]; omega)) F_6 F_4 F_7 A' (by simp [hlen]) (One.val rfl) (by rw [hwi]; exact own_up hi (by omega)) (by omega) (by omega) (by rw [hk2, ← hr]; rfl)
theorem ef_rmC (m : MethodId) (a1 : Nat) (p1 : Int32) : entryFrame m #[(.ref a1), (.int p1)] 7 = mkF m 0 #[.val (.ref a1), .val (.int p1), .unset, .unset, .unset, .unset, .unset] [] := by first | (simp [entryFrame, mkF, argsToLocals, Value.category]; done) | rfl
theorem pf_3 : plainFor (⟨"com/example/moduline/moduline/library/Random", "<init>", "(I)V"⟩ : MethodName) = true := plainFor_of_name (by first | (simp [plainName, overriddenIn]; done) | decide +kernel)
theorem d4_0 : decode prog_22_method_2_code 0 = .ok (.aload_n 0, 1) := by decide +kernel
theorem d4_1 : decode prog_22_method_2_code 1 = .ok (.invokespecial 21, 3) := by decide +kernel
theorem d4_4 : decode prog_22_method_2_code 4 = .ok (.aload_n 0, 1) := by decide +kernel
theorem d4_5 : decode prog_22_method_2_code 5 = .ok (.bipush 55, 2) := by decide +kernel
theorem d4_7 : decode prog_22_method_2_code 7 = .ok (.newarray .int, 2) := by decide +kernel
theorem d4_9 : decode prog_22_method_2_code 9 = .ok (.putfield 26, 3) := by decide +kernel
theorem d4_12 : decode prog_22_method_2_code 12 = .ok (.iload_n 1, 1) := by decide +kernel
theorem d4_13 : decode prog_22_method_2_code 13 = .ok (.ldc 30, 2) := by decide +kernel
theorem d4_15 : decode prog_22_method_2_code 15 = .ok (.if_icmp .ne 8, 3) := by decide +kernel
theorem d4_23 : decode prog_22_method_2_code 23 = .ok (.iload_n 1, 1) := by decide +kernel
theorem d4_24 : decode prog_22_method_2_code 24 = .ok (.invokestatic 32, 3) := by decide +kernel
theorem d4_27 : decode prog_22_method_2_code 27 = .ok (.istore_n 2, 1) := by decide +kernel
theorem d4_28 : decode prog_22_method_2_code 28 = .ok (.ldc 38, 2) := by decide +kernel
theorem d4_30 : decode prog_22_method_2_code 30 = .ok (.iload_n 2, 1) := by decide +kernel
theorem d4_31 : decode prog_22_method_2_code 31 = .ok (.isub, 1) := by decide +kernel
theorem d4_32 : decode prog_22_method_2_code 32 = .ok (.istore_n 3, 1) := by decide +kernel
theorem d4_33 : decode prog_22_method_2_code 33 = .ok (.aload_n 0, 1) := by decide +kernel
theorem d4_34 : decode prog_22_method_2_code 34 = .ok (.getfield 26, 3) := by decide +kernel
theorem d4_37 : decode prog_22_method_2_code 37 = .ok (.bipush 54, 2) := by decide +kernel
theorem d4_39 : decode prog_22_method_2_code 39 = .ok (.iload_n 3, 1) := by decide +kernel
theorem d4_40 : decode prog_22_method_2_code 40 = .ok (.iastore, 1) := by decide +kernel
theorem d4_41 : decode prog_22_method_2_code 41 = .ok (.iconst 1, 1) := by decide +kernel
theorem d4_42 : decode prog_22_method_2_code 42 = .ok (.istore 4, 2) := by decide +kernel
theorem d4_44 : decode prog_22_method_2_code 44 = .ok (.iconst 1, 1) := by decide +kernel
theorem d4_45 : decode prog_22_method_2_code 45 = .ok (.istore 5, 2) := by decide +kernel
set_option maxRecDepth 65536 in
set_option maxHeartbeats 4000000 in
theorem rmC (l : Launch) (Z : State) (a0 : Array Value) (hw : ∀ d ∈ tables_1, d.before a0 Z = true) (a1 : Nat) (p1 : Int32) (h0 : Heap) (n0 : Nat) (Z0 : n0 ≤ h0.size) (E1 : Exa Z h0 a1 "com/example/moduline/moduline/library/Random") (Ft : Fld Z h0 a1 "com/example/moduline/moduline/library/Random" "table" "[I" .null) (Fp : Fld Z h0 a1 "com/example/moduline/moduline/library/Random" "position" "I" (.int 0)) (g1 : n0 ≤ a1) (hp0 : -161803398 ≤ p1.toInt) (hp1 : p1.toInt ≤ 161803398) :
    Con l Z (⟨"com/example/moduline/moduline/library/Random", "<init>", "(I)V"⟩ : MethodName) prog_22_method_2_code 7 none ({ frames := 1, cells := 1, slots := 55, locals := 15 } : Room) #[(.ref a1), (.int p1)] h0 (fun v h L => v = none ∧ Fr n0 L ∧ Keep h0 h [a1] ∧ ∃ ta : Nat, h0.size ≤ ta ∧ Fld Z h a1 "com/example/moduline/moduline/library/Random" "table" "[I" (.ref ta) ∧ Fld Z h a1 "com/example/moduline/moduline/library/Random" "position" "I" (.int 0) ∧ Ary Z h ta .int ((own_tab (own_abs p1)).map Value.int)) := by
  refine Con.of pf_3 ?_
  intro p e s m below meth c T0 X0 hx hby hml hZ hown hnm hret hlk e0
  have hown : s.vm.findClass "com/example/moduline/moduline/library/Random" = some m.cls := hown
  have hnm : meth.name = "<init>" := hnm
  have N0 := Fr.nil n0
  have ya1 := own_ltE E1
  refine Go.cast (ef_rmC m a1 p1) ?_
  have lt_1 := own_ltE E1
  refine Go.st (S' := T0.setTop (mkF m 1 #[.val (.ref a1), .val (.int p1), .unset, .unset, .unset, .unset, .unset] [(.ref a1)])) (fun t hr => XS.aloadN X0.here hx rfl (hb hby d4_0) rfl rfl hr) ?_
  obtain ⟨T_2, X_2, e_2, st_2⟩ := initO X0 hx hZ hown (hw _ (List.mem_of_getElem? (i := 8) rfl)) (hw _ (List.mem_of_getElem? (i := 9) rfl)) (hw _ (List.mem_of_getElem? (i := 10) rfl)) e0 (g := (mkF m 1 #[.val (.ref a1), .val (.int p1), .unset, .unset, .unset, .unset, .unset] [(.ref a1)])) rfl (by rw [hml]; rfl) rfl (hb hby d4_1) (by decide) (W := 0) (by show 2 * 0 + _ ≤ _; exact Nat.le_of_eq rfl) (by decide)
  refine Go.st (S' := T_2.setTop (mkF m 4 #[.val (.ref a1), .val (.int p1), .unset, .unset, .unset, .unset, .unset] [])) st_2 ?_
  refine Go.st (S' := T_2.setTop (mkF m 5 #[.val (.ref a1), .val (.int p1), .unset, .unset, .unset, .unset, .unset] [(.ref a1)])) (fun t hr => XS.aloadN X_2.here hx rfl (hb hby d4_4) rfl rfl hr) ?_
  refine Go.st (S' := T_2.setTop (mkF m 7 #[.val (.ref a1), .val (.int p1), .unset, .unset, .unset, .unset, .unset] [(.int (55 : Int32)), (.ref a1)])) (fun t hr => XS.bipush X_2.here hx rfl (hb hby d4_5) hr) ?_
  obtain ⟨T_3, h_3, X_3, e_3, E_3, A_3, st_3⟩ := own_newP X_2 hx hZ (ty := .int) rfl (hw _ (List.mem_of_getElem? (i := 11) rfl)) e_2 (g := (mkF m 7 #[.val (.ref a1), .val (.int p1), .unset, .unset, .unset, .unset, .unset] [(.int (55 : Int32)), (.ref a1)])) rfl (hb hby d4_7) rfl (by decide) (cap := 55) (by decide) (by decide) (by decide) (by decide)
  obtain ⟨ad_3, g_3⟩ : ∃ z, z = h0.size := ⟨_, rfl⟩
  rw [← g_3] at A_3 st_3
  have z_3 := E_3.1
  have y_3 := own_ltA A_3
  have B_3 : Ary Z h_3 ad_3 .int [(.int (0 : Int32)), (.int (0 : Int32)), (.int (0 : Int32)), (.int (0 : Int32)), (.int (0 : Int32)), (.int (0 : Int32)), (.int (0 : Int32)), (.int (0 : Int32)), (.int (0 : Int32)), (.int (0 : Int32)), (.int (0 : Int32)), (.int (0 : Int32)), (.int (0 : Int32)), (.int (0 : Int32)), (.int (0 : Int32)), (.int (0 : Int32)), (.int (0 : Int32)), (.int (0 : Int32)), (.int (0 : Int32)), (.int (0 : Int32)), (.int (0 : Int32)), (.int (0 : Int32)), (.int (0 : Int32)), (.int (0 : Int32)), (.int (0 : Int32)), (.int (0 : Int32)), (.int (0 : Int32)), (.int (0 : Int32)), (.int (0 : Int32)), (.int (0 : Int32)), (.int (0 : Int32)), (.int (0 : Int32)), (.int (0 : Int32)), (.int (0 : Int32)), (.int (0 : Int32)), (.int (0 : Int32)), (.int (0 : Int32)), (.int (0 : Int32)), (.int (0 : Int32)), (.int (0 : Int32)), (.int (0 : Int32)), (.int (0 : Int32)), (.int (0 : Int32)), (.int (0 : Int32)), (.int (0 : Int32)), (.int (0 : Int32)), (.int (0 : Int32)), (.int (0 : Int32)), (.int (0 : Int32)), (.int (0 : Int32)), (.int (0 : Int32)), (.int (0 : Int32)), (.int (0 : Int32)), (.int (0 : Int32)), (.int (0 : Int32))] := A_3
  refine Go.st (S' := T_3.setTop (mkF m 9 #[.val (.ref a1), .val (.int p1), .unset, .unset, .unset, .unset, .unset] [(.ref ad_3), (.ref a1)])) st_3 ?_
  have F_4 := (Ft.ext E_3)
  have F_5 := (E1.ext E_3)
  obtain ⟨T_6, h_6, X_6, e_6, W_6, st_6⟩ := putF X_3 hx hZ hown (host := "") (Or.inl (hw _ (List.mem_of_getElem? (i := 12) rfl))) Via.refl e_3 F_4 F_5 (Or.inr ⟨(hw _ (List.mem_of_getElem? (i := 13) rfl)), rfl, hnm⟩) (hw _ (List.mem_of_getElem? (i := 3) rfl)) (ty := (.array .int)) (by decide) rfl rfl (g := (mkF m 9 #[.val (.ref a1), .val (.int p1), .unset, .unset, .unset, .unset, .unset] [(.ref ad_3), (.ref a1)])) rfl rfl (hb hby d4_9)
  have N_6 := Fr.snoc X_6 N0 (by omega)
  have z_6 := W_6.size
  have F_6 := F_4.same W_6
  refine Go.st (S' := T_6.setTop (mkF m 12 #[.val (.ref a1), .val (.int p1), .unset, .unset, .unset, .unset, .unset] [])) st_6 ?_
  refine Go.st (S' := T_6.setTop (mkF m 13 #[.val (.ref a1), .val (.int p1), .unset, .unset, .unset, .unset, .unset] [(.int p1)])) (fun t hr => XS.iloadN X_6.here hx rfl (hb hby d4_12) rfl hr) ?_
  refine Go.st (S' := T_6.setTop (mkF m 15 #[.val (.ref a1), .val (.int p1), .unset, .unset, .unset, .unset, .unset] [(.int (-2147483648 : Int32)), (.int p1)])) (own_ldc X_6 hx hZ hown (index := 30) (x := (-2147483648 : Int32)) (hw _ (List.mem_of_getElem? (i := 14) rfl)) (g := (mkF m 13 #[.val (.ref a1), .val (.int p1), .unset, .unset, .unset, .unset, .unset] [(.int p1)])) rfl (hb hby d4_13)) ?_
  refine Go.st (S' := T_6.setTop (mkF m 23 #[.val (.ref a1), .val (.int p1), .unset, .unset, .unset, .unset, .unset] [])) (fun t hr => XS.icmpYes X_6.here hx rfl (pc0 := 15) (pc' := 23) rfl (hb hby d4_15) rfl (XT.ii_ne_t (by rw [← Int32.toInt_inj]; have : (-2147483648 : Int32).toInt = -2147483648 := (by decide); omega)) (by decide) (by decide) hr) ?_
  refine Go.st (S' := T_6.setTop (mkF m 24 #[.val (.ref a1), .val (.int p1), .unset, .unset, .unset, .unset, .unset] [(.int p1)])) (fun t hr => XS.iloadN X_6.here hx rfl (hb hby d4_23) rfl hr) ?_
  obtain ⟨v_7, T_7, h_7, L_7, X_7, e_7, Q_7, st_7⟩ := own_callS X_6 hx hZ (y := ⟨"java/lang/Math", "abs", "(I)I"⟩) hown (hw _ (List.mem_of_getElem? (i := 15) rfl)) (hw _ (List.mem_of_getElem? (i := 16) rfl)) (hw _ (List.mem_of_getElem? (i := 17) rfl)) (hw _ (List.mem_of_getElem? (i := 18) rfl)) (by decide) e_6 (argsL := [(.int p1)]) (rest := []) (rmA l Z a0 hw p1 h_6 n0 (by omega)) (g := (mkF m 24 #[.val (.ref a1), .val (.int p1), .unset, .unset, .unset, .unset, .unset] [(.int p1)])) rfl (by rw [hml]; rfl) (lenOf pd_0 rfl) rfl (hb hby d4_24) (W := 0) (by show 2 * 0 + _ ≤ _; exact Nat.le_of_eq rfl) (by decide) (by decide) (by decide) (by decide)
  obtain ⟨rfl, N_7, hh_7⟩ := Q_7
  have N_7' := Fr.app N_6 N_7
  rw [hh_7] at e_7
  refine Go.st (S' := T_7.setTop (mkF m 27 #[.val (.ref a1), .val (.int p1), .unset, .unset, .unset, .unset, .unset] [(.int (own_abs p1))])) st_7 ?_
  obtain ⟨vb, hvb⟩ : ∃ z : Int32, z = (own_abs p1) := ⟨_, rfl⟩
  refine Go.st (S' := T_7.setTop (mkF m 28 #[.val (.ref a1), .val (.int p1), .val (.int vb), .unset, .unset, .unset, .unset] [])) (fun t hr => by subst hvb; exact XS.istoreN X_7.here hx rfl (hb hby d4_27) rfl (l' := _) rfl hr) ?_
  refine Go.st (S' := T_7.setTop (mkF m 30 #[.val (.ref a1), .val (.int p1), .val (.int vb), .unset, .unset, .unset, .unset] [(.int (161803398 : Int32))])) (own_ldc X_7 hx hZ hown (index := 38) (x := (161803398 : Int32)) (hw _ (List.mem_of_getElem? (i := 19) rfl)) (g := (mkF m 28 #[.val (.ref a1), .val (.int p1), .val (.int vb), .unset, .unset, .unset, .unset] [])) rfl (hb hby d4_28)) ?_
  refine Go.st (S' := T_7.setTop (mkF m 31 #[.val (.ref a1), .val (.int p1), .val (.int vb), .unset, .unset, .unset, .unset] [(.int vb), (.int (161803398 : Int32))])) (fun t hr => XS.iloadN X_7.here hx rfl (hb hby d4_30) rfl hr) ?_
  refine Go.st (S' := T_7.setTop (mkF m 32 #[.val (.ref a1), .val (.int p1), .val (.int vb), .unset, .unset, .unset, .unset] [(.int ((161803398 : Int32) - vb))])) (fun t hr => XS.isub X_7.here hx rfl (hb hby d4_31) rfl hr) ?_
  obtain ⟨vm, hvm⟩ : ∃ z : Int32, z = ((161803398 : Int32) - vb) := ⟨_, rfl⟩
  refine Go.st (S' := T_7.setTop (mkF m 33 #[.val (.ref a1), .val (.int p1), .val (.int vb), .val (.int vm), .unset, .unset, .unset] [])) (fun t hr => by subst hvm; exact XS.istoreN X_7.here hx rfl (hb hby d4_32) rfl (l' := _) rfl hr) ?_
  refine Go.st (S' := T_7.setTop (mkF m 34 #[.val (.ref a1), .val (.int p1), .val (.int vb), .val (.int vm), .unset, .unset, .unset] [(.ref a1)])) (fun t hr => XS.aloadN X_7.here hx rfl (hb hby d4_33) rfl rfl hr) ?_
  obtain ⟨T_8, X_8, e_8, st_8⟩ := getF X_7 hx hZ hown (host := "") (Or.inl (hw _ (List.mem_of_getElem? (i := 12) rfl))) Via.refl e_7 F_6 (g := (mkF m 34 #[.val (.ref a1), .val (.int p1), .val (.int vb), .val (.int vm), .unset, .unset, .unset] [(.ref a1)])) rfl rfl (hb hby d4_34)
  refine Go.st (S' := T_8.setTop (mkF m 37 #[.val (.ref a1), .val (.int p1), .val (.int vb), .val (.int vm), .unset, .unset, .unset] [(.ref ad_3)])) st_8 ?_
  refine Go.st (S' := T_8.setTop (mkF m 39 #[.val (.ref a1), .val (.int p1), .val (.int vb), .val (.int vm), .unset, .unset, .unset] [(.int (54 : Int32)), (.ref ad_3)])) (fun t hr => XS.bipush X_8.here hx rfl (hb hby d4_37) hr) ?_
  refine Go.st (S' := T_8.setTop (mkF m 40 #[.val (.ref a1), .val (.int p1), .val (.int vb), .val (.int vm), .unset, .unset, .unset] [(.int vm), (.int (54 : Int32)), (.ref ad_3)])) (fun t hr => XS.iloadN X_8.here hx rfl (hb hby d4_39) rfl hr) ?_
  have F_9 := (B_3.other W_6 (own_ne (by omega)))
  obtain ⟨T_10, h_10, X_10, e_10, W_10, A_10, st_10⟩ := own_stI X_8 hx hZ e_8 F_9 (j := (54 : Int32)) (by decide) (by simp only [List.length_cons, List.length_nil]; decide) (g := (mkF m 40 #[.val (.ref a1), .val (.int p1), .val (.int vb), .val (.int vm), .unset, .unset, .unset] [(.int vm), (.int (54 : Int32)), (.ref ad_3)])) rfl rfl (hb hby d4_40)
  have N_10 := Fr.snoc X_10 N_7' (by omega)
  have z_10 := W_10.size
  have B_10 : Ary Z h_10 ad_3 .int [(.int (0 : Int32)), (.int (0 : Int32)), (.int (0 : Int32)), (.int (0 : Int32)), (.int (0 : Int32)), (.int (0 : Int32)), (.int (0 : Int32)), (.int (0 : Int32)), (.int (0 : Int32)), (.int (0 : Int32)), (.int (0 : Int32)), (.int (0 : Int32)), (.int (0 : Int32)), (.int (0 : Int32)), (.int (0 : Int32)), (.int (0 : Int32)), (.int (0 : Int32)), (.int (0 : Int32)), (.int (0 : Int32)), (.int (0 : Int32)), (.int (0 : Int32)), (.int (0 : Int32)), (.int (0 : Int32)), (.int (0 : Int32)), (.int (0 : Int32)), (.int (0 : Int32)), (.int (0 : Int32)), (.int (0 : Int32)), (.int (0 : Int32)), (.int (0 : Int32)), (.int (0 : Int32)), (.int (0 : Int32)), (.int (0 : Int32)), (.int (0 : Int32)), (.int (0 : Int32)), (.int (0 : Int32)), (.int (0 : Int32)), (.int (0 : Int32)), (.int (0 : Int32)), (.int (0 : Int32)), (.int (0 : Int32)), (.int (0 : Int32)), (.int (0 : Int32)), (.int (0 : Int32)), (.int (0 : Int32)), (.int (0 : Int32)), (.int (0 : Int32)), (.int (0 : Int32)), (.int (0 : Int32)), (.int (0 : Int32)), (.int (0 : Int32)), (.int (0 : Int32)), (.int (0 : Int32)), (.int (0 : Int32)), (.int vm)] := A_10
  refine Go.st (S' := T_10.setTop (mkF m 41 #[.val (.ref a1), .val (.int p1), .val (.int vb), .val (.int vm), .unset, .unset, .unset] [])) st_10 ?_
  refine Go.st (S' := T_10.setTop (mkF m 42 #[.val (.ref a1), .val (.int p1), .val (.int vb), .val (.int vm), .unset, .unset, .unset] [(.int (1 : Int32))])) (fun t hr => XS.iconst X_10.here hx rfl (hb hby d4_41) hr) ?_
  refine Go.st (S' := T_10.setTop (mkF m 44 #[.val (.ref a1), .val (.int p1), .val (.int vb), .val (.int vm), .val (.int (1 : Int32)), .unset, .unset] [])) (fun t hr => XS.istore X_10.here hx rfl (hb hby d4_42) rfl (l' := #[.val (.ref a1), .val (.int p1), .val (.int vb), .val (.int vm), .val (.int (1 : Int32)), .unset, .unset]) rfl hr) ?_
  refine Go.st (S' := T_10.setTop (mkF m 45 #[.val (.ref a1), .val (.int p1), .val (.int vb), .val (.int vm), .val (.int (1 : Int32)), .unset, .unset] [(.int (1 : Int32))])) (fun t hr => XS.iconst X_10.here hx rfl (hb hby d4_44) hr) ?_
  refine Go.st (S' := T_10.setTop (mkF m 47 #[.val (.ref a1), .val (.int p1), .val (.int vb), .val (.int vm), .val (.int (1 : Int32)), .val (.int (1 : Int32)), .unset] [])) (fun t hr => XS.istore X_10.here hx rfl (hb hby d4_45) rfl (l' := #[.val (.ref a1), .val (.int p1), .val (.int vb), .val (.int vm), .val (.int (1 : Int32)), .val (.int (1 : Int32)), .unset]) rfl hr) ?_
  have A' : Ary Z h_10 ad_3 .int ((own_t0 vm).map Value.int) := B_10
  have F_11 := ((F_5.wr W_6).wr W_10)
  have F_12 := (F_6.other W_10 (Or.inl (own_ne (by omega))))
  have F_13 := (((Fp.ext E_3).other W_6 (Or.inr (slot_ne (t := .int) (t' := (.array .int)) (Or.inl (hw _ (List.mem_of_getElem? (i := 30) rfl))) (Or.inr (hw _ (List.mem_of_getElem? (i := 13) rfl))) (by decide) (by decide) (by decide)))).other W_10 (Or.inl (own_ne (by omega))))
  exact lp1 Z a0 hw n0 hx hby hml hZ hown hnm hret hlk a1 ad_3 p1 vb h0 (by omega) (by omega) (by omega) (own_tab (own_abs p1)) 54 1 (own_t0 vm) vm 1 1 .unset T_10 _ h_10 (by omega) X_10 e_10 N_10 ((((Keep.refl h0 [a1]).ext E_3).wr W_6 (Or.inl (by simp))).wr W_10 (Or.inr (by omega))) F_11 F_12 F_13 A' (by simp [own_t0]) One.u rfl rfl (by decide) (by rw [hvm, hvb]; rfl)
theorem ef_rmN (m : MethodId) (a1 : Nat) : entryFrame m #[(.ref a1)] 3 = mkF m 0 #[.val (.ref a1), .unset, .unset] [] := by first | (simp [entryFrame, mkF, argsToLocals, Value.category]; done) | rfl
theorem pf_4 : plainFor (⟨"com/example/moduline/moduline/library/Random", "next", "()I"⟩ : MethodName) = true := plainFor_of_name (by first | (simp [plainName, overriddenIn]; done) | decide +kernel)
theorem d5_0 : decode prog_22_method_3_code 0 = .ok (.aload_n 0, 1) := by decide +kernel
theorem d5_1 : decode prog_22_method_3_code 1 = .ok (.getfield 42, 3) := by decide +kernel
theorem d5_4 : decode prog_22_method_3_code 4 = .ok (.bipush 21, 2) := by decide +kernel
theorem d5_6 : decode prog_22_method_3_code 6 = .ok (.iadd, 1) := by decide +kernel
theorem d5_7 : decode prog_22_method_3_code 7 = .ok (.bipush 55, 2) := by decide +kernel
theorem d5_9 : decode prog_22_method_3_code 9 = .ok (.irem, 1) := by decide +kernel
theorem d5_10 : decode prog_22_method_3_code 10 = .ok (.istore_n 1, 1) := by decide +kernel
theorem d5_11 : decode prog_22_method_3_code 11 = .ok (.aload_n 0, 1) := by decide +kernel
theorem d5_12 : decode prog_22_method_3_code 12 = .ok (.getfield 26, 3) := by decide +kernel
theorem d5_15 : decode prog_22_method_3_code 15 = .ok (.aload_n 0, 1) := by decide +kernel
theorem d5_16 : decode prog_22_method_3_code 16 = .ok (.getfield 42, 3) := by decide +kernel
theorem d5_19 : decode prog_22_method_3_code 19 = .ok (.iaload, 1) := by decide +kernel
theorem d5_20 : decode prog_22_method_3_code 20 = .ok (.aload_n 0, 1) := by decide +kernel
theorem d5_21 : decode prog_22_method_3_code 21 = .ok (.getfield 26, 3) := by decide +kernel
theorem d5_24 : decode prog_22_method_3_code 24 = .ok (.iload_n 1, 1) := by decide +kernel
theorem d5_25 : decode prog_22_method_3_code 25 = .ok (.iaload, 1) := by decide +kernel
theorem d5_26 : decode prog_22_method_3_code 26 = .ok (.isub, 1) := by decide +kernel
theorem d5_27 : decode prog_22_method_3_code 27 = .ok (.istore_n 2, 1) := by decide +kernel
theorem d5_28 : decode prog_22_method_3_code 28 = .ok (.iload_n 2, 1) := by decide +kernel
theorem d5_29 : decode prog_22_method_3_code 29 = .ok (.ldc 31, 2) := by decide +kernel
theorem d5_31 : decode prog_22_method_3_code 31 = .ok (.if_icmp .ne 6, 3) := by decide +kernel
theorem d5_37 : decode prog_22_method_3_code 37 = .ok (.iload_n 2, 1) := by decide +kernel
theorem d5_38 : decode prog_22_method_3_code 38 = .ok (.invokestatic 39, 3) := by decide +kernel
theorem d5_41 : decode prog_22_method_3_code 41 = .ok (.istore_n 2, 1) := by decide +kernel
theorem d5_42 : decode prog_22_method_3_code 42 = .ok (.aload_n 0, 1) := by decide +kernel
theorem d5_43 : decode prog_22_method_3_code 43 = .ok (.getfield 26, 3) := by decide +kernel
theorem d5_46 : decode prog_22_method_3_code 46 = .ok (.aload_n 0, 1) := by decide +kernel
theorem d5_47 : decode prog_22_method_3_code 47 = .ok (.getfield 42, 3) := by decide +kernel
theorem d5_50 : decode prog_22_method_3_code 50 = .ok (.iload_n 2, 1) := by decide +kernel
theorem d5_51 : decode prog_22_method_3_code 51 = .ok (.iastore, 1) := by decide +kernel
theorem d5_52 : decode prog_22_method_3_code 52 = .ok (.aload_n 0, 1) := by decide +kernel
theorem d5_53 : decode prog_22_method_3_code 53 = .ok (.aload_n 0, 1) := by decide +kernel
theorem d5_54 : decode prog_22_method_3_code 54 = .ok (.getfield 42, 3) := by decide +kernel
theorem d5_57 : decode prog_22_method_3_code 57 = .ok (.iconst 1, 1) := by decide +kernel
theorem d5_58 : decode prog_22_method_3_code 58 = .ok (.iadd, 1) := by decide +kernel
theorem d5_59 : decode prog_22_method_3_code 59 = .ok (.bipush 55, 2) := by decide +kernel
theorem d5_61 : decode prog_22_method_3_code 61 = .ok (.irem, 1) := by decide +kernel
theorem d5_62 : decode prog_22_method_3_code 62 = .ok (.putfield 42, 3) := by decide +kernel
theorem d5_65 : decode prog_22_method_3_code 65 = .ok (.iload_n 2, 1) := by decide +kernel
theorem d5_66 : decode prog_22_method_3_code 66 = .ok (.ireturn, 1) := by decide +kernel
set_option maxRecDepth 65536 in
set_option maxHeartbeats 4000000 in
theorem rmN (l : Launch) (Z : State) (a0 : Array Value) (hw : ∀ d ∈ tables_1, d.before a0 Z = true) (a1 : Nat) (h0 : Heap) (n0 : Nat) (Z0 : n0 ≤ h0.size) (ta : Nat) (t : List Int32) (q : Nat) (vp : Int32) (E1 : Exa Z h0 a1 "com/example/moduline/moduline/library/Random") (Ft : Fld Z h0 a1 "com/example/moduline/moduline/library/Random" "table" "[I" (.ref ta)) (Fp : Fld Z h0 a1 "com/example/moduline/moduline/library/Random" "position" "I" (.int vp)) (At : Ary Z h0 ta .int (t.map Value.int)) (hok : own_ok t) (hq : q < 55) (hvp : vp.toInt = q) (g1 : n0 ≤ a1) (gt : n0 ≤ ta) (hne : a1 ≠ ta) :
    Con l Z (⟨"com/example/moduline/moduline/library/Random", "next", "()I"⟩ : MethodName) prog_22_method_3_code 3 (some .int) ({ frames := 1, cells := 0, slots := 0, locals := 12 } : Room) #[(.ref a1)] h0 (fun v h L => v = some (.int (own_nx t q)) ∧ Fr n0 L ∧ Keep h0 h [a1, ta] ∧ Fld Z h a1 "com/example/moduline/moduline/library/Random" "table" "[I" (.ref ta) ∧ (∃ vq : Int32, vq.toInt = ((q + 1) % 55 : Nat) ∧ Fld Z h a1 "com/example/moduline/moduline/library/Random" "position" "I" (.int vq)) ∧ Ary Z h ta .int ((own_adv t q).map Value.int)) := by
  refine Con.of pf_4 ?_
  intro p e s m below meth c T0 X0 hx hby hml hZ hown hnm hret hlk e0
  have hown : s.vm.findClass "com/example/moduline/moduline/library/Random" = some m.cls := hown
  have hnm : meth.name = "next" := hnm
  have N0 := Fr.nil n0
  have lm : (t.map Value.int).length = 55 := by simpa using hok.1
  have hl := hok.1
  have e6 := own_toN hvp
  have r21 := own_a21 hvp hq
  have e21 := own_toN r21
  have b21 : (q + 21) % 55 < 55 := Nat.mod_lt _ (by decide)
  refine Go.cast (ef_rmN m a1) ?_
  have lt_1 := own_ltE E1
  have lt_2 := own_ltA At
  refine Go.st (S' := T0.setTop (mkF m 1 #[.val (.ref a1), .unset, .unset] [(.ref a1)])) (fun t hr => XS.aloadN X0.here hx rfl (hb hby d5_0) rfl rfl hr) ?_
  obtain ⟨T_3, X_3, e_3, st_3⟩ := getF X0 hx hZ hown (host := "") (Or.inl (hw _ (List.mem_of_getElem? (i := 29) rfl))) Via.refl e0 Fp (g := (mkF m 1 #[.val (.ref a1), .unset, .unset] [(.ref a1)])) rfl rfl (hb hby d5_1)
  refine Go.st (S' := T_3.setTop (mkF m 4 #[.val (.ref a1), .unset, .unset] [(.int vp)])) st_3 ?_
  refine Go.st (S' := T_3.setTop (mkF m 6 #[.val (.ref a1), .unset, .unset] [(.int (21 : Int32)), (.int vp)])) (fun t hr => XS.bipush X_3.here hx rfl (hb hby d5_4) hr) ?_
  refine Go.st (S' := T_3.setTop (mkF m 7 #[.val (.ref a1), .unset, .unset] [(.int (vp + (21 : Int32)))])) (fun t hr => XS.iadd X_3.here hx rfl (hb hby d5_6) rfl hr) ?_
  refine Go.st (S' := T_3.setTop (mkF m 9 #[.val (.ref a1), .unset, .unset] [(.int (55 : Int32)), (.int (vp + (21 : Int32)))])) (fun t hr => XS.bipush X_3.here hx rfl (hb hby d5_7) hr) ?_
  refine Go.st (S' := T_3.setTop (mkF m 10 #[.val (.ref a1), .unset, .unset] [(.int ((vp + (21 : Int32)) % (55 : Int32)))])) (fun t hr => iremM X_3 hx rfl (hb hby d5_9) rfl (by decide) hr) ?_
  obtain ⟨v21, hv21⟩ : ∃ z : Int32, z = ((vp + (21 : Int32)) % (55 : Int32)) := ⟨_, rfl⟩
  refine Go.st (S' := T_3.setTop (mkF m 11 #[.val (.ref a1), .val (.int v21), .unset] [])) (fun t hr => by subst hv21; exact XS.istoreN X_3.here hx rfl (hb hby d5_10) rfl (l' := _) rfl hr) ?_
  rw [← hv21] at r21 e21
  refine Go.st (S' := T_3.setTop (mkF m 12 #[.val (.ref a1), .val (.int v21), .unset] [(.ref a1)])) (fun t hr => XS.aloadN X_3.here hx rfl (hb hby d5_11) rfl rfl hr) ?_
  obtain ⟨T_4, X_4, e_4, st_4⟩ := getF X_3 hx hZ hown (host := "") (Or.inl (hw _ (List.mem_of_getElem? (i := 12) rfl))) Via.refl e_3 Ft (g := (mkF m 12 #[.val (.ref a1), .val (.int v21), .unset] [(.ref a1)])) rfl rfl (hb hby d5_12)
  refine Go.st (S' := T_4.setTop (mkF m 15 #[.val (.ref a1), .val (.int v21), .unset] [(.ref ta)])) st_4 ?_
  refine Go.st (S' := T_4.setTop (mkF m 16 #[.val (.ref a1), .val (.int v21), .unset] [(.ref a1), (.ref ta)])) (fun t hr => XS.aloadN X_4.here hx rfl (hb hby d5_15) rfl rfl hr) ?_
  obtain ⟨T_5, X_5, e_5, st_5⟩ := getF X_4 hx hZ hown (host := "") (Or.inl (hw _ (List.mem_of_getElem? (i := 29) rfl))) Via.refl e_4 Fp (g := (mkF m 16 #[.val (.ref a1), .val (.int v21), .unset] [(.ref a1), (.ref ta)])) rfl rfl (hb hby d5_16)
  refine Go.st (S' := T_5.setTop (mkF m 19 #[.val (.ref a1), .val (.int v21), .unset] [(.int vp), (.ref ta)])) st_5 ?_
  refine Go.st (S' := T_5.setTop (mkF m 20 #[.val (.ref a1), .val (.int v21), .unset] [(.int (t.getD q 0))])) (own_ldI X_5 hx hZ e_5 At (j := vp) (v := (.int (t.getD q 0))) (by omega) (by omega) (by rw [e6]; exact own_map_at (by omega)) (g := (mkF m 19 #[.val (.ref a1), .val (.int v21), .unset] [(.int vp), (.ref ta)])) rfl rfl (hb hby d5_19)) ?_
  refine Go.st (S' := T_5.setTop (mkF m 21 #[.val (.ref a1), .val (.int v21), .unset] [(.ref a1), (.int (t.getD q 0))])) (fun t hr => XS.aloadN X_5.here hx rfl (hb hby d5_20) rfl rfl hr) ?_
  obtain ⟨T_6, X_6, e_6, st_6⟩ := getF X_5 hx hZ hown (host := "") (Or.inl (hw _ (List.mem_of_getElem? (i := 12) rfl))) Via.refl e_5 Ft (g := (mkF m 21 #[.val (.ref a1), .val (.int v21), .unset] [(.ref a1), (.int (t.getD q 0))])) rfl rfl (hb hby d5_21)
  refine Go.st (S' := T_6.setTop (mkF m 24 #[.val (.ref a1), .val (.int v21), .unset] [(.ref ta), (.int (t.getD q 0))])) st_6 ?_
  refine Go.st (S' := T_6.setTop (mkF m 25 #[.val (.ref a1), .val (.int v21), .unset] [(.int v21), (.ref ta), (.int (t.getD q 0))])) (fun t hr => XS.iloadN X_6.here hx rfl (hb hby d5_24) rfl hr) ?_
  refine Go.st (S' := T_6.setTop (mkF m 26 #[.val (.ref a1), .val (.int v21), .unset] [(.int (t.getD ((q + 21) % 55) 0)), (.int (t.getD q 0))])) (own_ldI X_6 hx hZ e_6 At (j := v21) (v := (.int (t.getD ((q + 21) % 55) 0))) (by omega) (by omega) (by rw [e21]; exact own_map_at (by omega)) (g := (mkF m 25 #[.val (.ref a1), .val (.int v21), .unset] [(.int v21), (.ref ta), (.int (t.getD q 0))])) rfl rfl (hb hby d5_25)) ?_
  refine Go.st (S' := T_6.setTop (mkF m 27 #[.val (.ref a1), .val (.int v21), .unset] [(.int ((t.getD q 0) - (t.getD ((q + 21) % 55) 0)))])) (fun t hr => XS.isub X_6.here hx rfl (hb hby d5_26) rfl hr) ?_
  obtain ⟨vn, hvn⟩ : ∃ z : Int32, z = ((t.getD q 0) - (t.getD ((q + 21) % 55) 0)) := ⟨_, rfl⟩
  refine Go.st (S' := T_6.setTop (mkF m 28 #[.val (.ref a1), .val (.int v21), .val (.int vn)] [])) (fun t hr => by subst hvn; exact XS.istoreN X_6.here hx rfl (hb hby d5_27) rfl (l' := _) rfl hr) ?_
  refine Go.st (S' := T_6.setTop (mkF m 29 #[.val (.ref a1), .val (.int v21), .val (.int vn)] [(.int vn)])) (fun t hr => XS.iloadN X_6.here hx rfl (hb hby d5_28) rfl hr) ?_
  refine Go.st (S' := T_6.setTop (mkF m 31 #[.val (.ref a1), .val (.int v21), .val (.int vn)] [(.int (2147483647 : Int32)), (.int vn)])) (own_ldc X_6 hx hZ hown (index := 31) (x := (2147483647 : Int32)) (hw _ (List.mem_of_getElem? (i := 23) rfl)) (g := (mkF m 29 #[.val (.ref a1), .val (.int v21), .val (.int vn)] [(.int vn)])) rfl (hb hby d5_29)) ?_
  refine Go.st (S' := T_6.setTop (mkF m 37 #[.val (.ref a1), .val (.int v21), .val (.int vn)] [])) (fun t hr => XS.icmpYes X_6.here hx rfl (pc0 := 31) (pc' := 37) rfl (hb hby d5_31) rfl (XT.ii_ne_t (by rw [hvn]; exact own_notM (own_ok_get hok hq) (own_ok_get hok b21))) (by decide) (by decide) hr) ?_
  refine Go.st (S' := T_6.setTop (mkF m 38 #[.val (.ref a1), .val (.int v21), .val (.int vn)] [(.int vn)])) (fun t hr => XS.iloadN X_6.here hx rfl (hb hby d5_37) rfl hr) ?_
  obtain ⟨v_7, T_7, h_7, L_7, X_7, e_7, Q_7, st_7⟩ := own_callS X_6 hx hZ (y := ⟨"com/example/moduline/moduline/library/Random", "reduce", "(I)I"⟩) hown (hw _ (List.mem_of_getElem? (i := 20) rfl)) (hw _ (List.mem_of_getElem? (i := 21) rfl)) (hw _ (List.mem_of_getElem? (i := 4) rfl)) (hw _ (List.mem_of_getElem? (i := 22) rfl)) (by decide) e_6 (argsL := [(.int vn)]) (rest := []) (rmD l Z a0 hw vn h0 n0 (by omega)) (g := (mkF m 38 #[.val (.ref a1), .val (.int v21), .val (.int vn)] [(.int vn)])) rfl (by rw [hml]; rfl) (lenOf pd_0 rfl) rfl (hb hby d5_38) (W := 0) (by show 2 * 0 + _ ≤ _; exact Nat.le_of_eq rfl) (by decide) (by decide) (by decide) (by decide)
  obtain ⟨rfl, N_7, hh_7⟩ := Q_7
  have N_7' := Fr.app N0 N_7
  rw [hh_7] at e_7
  refine Go.st (S' := T_7.setTop (mkF m 41 #[.val (.ref a1), .val (.int v21), .val (.int vn)] [(.int (own_red vn))])) st_7 ?_
  obtain ⟨vn2, hvn2⟩ : ∃ z : Int32, z = (own_red vn) := ⟨_, rfl⟩
  refine Go.st (S' := T_7.setTop (mkF m 42 #[.val (.ref a1), .val (.int v21), .val (.int vn2)] [])) (fun t hr => by subst hvn2; exact XS.istoreN X_7.here hx rfl (hb hby d5_41) rfl (l' := _) rfl hr) ?_
  refine Go.st (S' := T_7.setTop (mkF m 43 #[.val (.ref a1), .val (.int v21), .val (.int vn2)] [(.ref a1)])) (fun t hr => XS.aloadN X_7.here hx rfl (hb hby d5_42) rfl rfl hr) ?_
  obtain ⟨T_8, X_8, e_8, st_8⟩ := getF X_7 hx hZ hown (host := "") (Or.inl (hw _ (List.mem_of_getElem? (i := 12) rfl))) Via.refl e_7 Ft (g := (mkF m 43 #[.val (.ref a1), .val (.int v21), .val (.int vn2)] [(.ref a1)])) rfl rfl (hb hby d5_43)
  refine Go.st (S' := T_8.setTop (mkF m 46 #[.val (.ref a1), .val (.int v21), .val (.int vn2)] [(.ref ta)])) st_8 ?_
  refine Go.st (S' := T_8.setTop (mkF m 47 #[.val (.ref a1), .val (.int v21), .val (.int vn2)] [(.ref a1), (.ref ta)])) (fun t hr => XS.aloadN X_8.here hx rfl (hb hby d5_46) rfl rfl hr) ?_
  obtain ⟨T_9, X_9, e_9, st_9⟩ := getF X_8 hx hZ hown (host := "") (Or.inl (hw _ (List.mem_of_getElem? (i := 29) rfl))) Via.refl e_8 Fp (g := (mkF m 47 #[.val (.ref a1), .val (.int v21), .val (.int vn2)] [(.ref a1), (.ref ta)])) rfl rfl (hb hby d5_47)
  refine Go.st (S' := T_9.setTop (mkF m 50 #[.val (.ref a1), .val (.int v21), .val (.int vn2)] [(.int vp), (.ref ta)])) st_9 ?_
  refine Go.st (S' := T_9.setTop (mkF m 51 #[.val (.ref a1), .val (.int v21), .val (.int vn2)] [(.int vn2), (.int vp), (.ref ta)])) (fun t hr => XS.iloadN X_9.here hx rfl (hb hby d5_50) rfl hr) ?_
  obtain ⟨T_10, h_10, X_10, e_10, W_10, A_10, st_10⟩ := own_stI X_9 hx hZ e_9 At (j := vp) (by omega) (by omega) (g := (mkF m 51 #[.val (.ref a1), .val (.int v21), .val (.int vn2)] [(.int vn2), (.int vp), (.ref ta)])) rfl rfl (hb hby d5_51)
  have N_10 := Fr.snoc X_10 N_7' (by omega)
  have z_10 := W_10.size
  refine Go.st (S' := T_10.setTop (mkF m 52 #[.val (.ref a1), .val (.int v21), .val (.int vn2)] [])) st_10 ?_
  refine Go.st (S' := T_10.setTop (mkF m 53 #[.val (.ref a1), .val (.int v21), .val (.int vn2)] [(.ref a1)])) (fun t hr => XS.aloadN X_10.here hx rfl (hb hby d5_52) rfl rfl hr) ?_
  refine Go.st (S' := T_10.setTop (mkF m 54 #[.val (.ref a1), .val (.int v21), .val (.int vn2)] [(.ref a1), (.ref a1)])) (fun t hr => XS.aloadN X_10.here hx rfl (hb hby d5_53) rfl rfl hr) ?_
  have F_11 := (Fp.other W_10 (Or.inl (own_ne (by omega))))
  obtain ⟨T_12, X_12, e_12, st_12⟩ := getF X_10 hx hZ hown (host := "") (Or.inl (hw _ (List.mem_of_getElem? (i := 29) rfl))) Via.refl e_10 F_11 (g := (mkF m 54 #[.val (.ref a1), .val (.int v21), .val (.int vn2)] [(.ref a1), (.ref a1)])) rfl rfl (hb hby d5_54)
  refine Go.st (S' := T_12.setTop (mkF m 57 #[.val (.ref a1), .val (.int v21), .val (.int vn2)] [(.int vp), (.ref a1)])) st_12 ?_
  refine Go.st (S' := T_12.setTop (mkF m 58 #[.val (.ref a1), .val (.int v21), .val (.int vn2)] [(.int (1 : Int32)), (.int vp), (.ref a1)])) (fun t hr => XS.iconst X_12.here hx rfl (hb hby d5_57) hr) ?_
  refine Go.st (S' := T_12.setTop (mkF m 59 #[.val (.ref a1), .val (.int v21), .val (.int vn2)] [(.int (vp + (1 : Int32))), (.ref a1)])) (fun t hr => XS.iadd X_12.here hx rfl (hb hby d5_58) rfl hr) ?_
  refine Go.st (S' := T_12.setTop (mkF m 61 #[.val (.ref a1), .val (.int v21), .val (.int vn2)] [(.int (55 : Int32)), (.int (vp + (1 : Int32))), (.ref a1)])) (fun t hr => XS.bipush X_12.here hx rfl (hb hby d5_59) hr) ?_
  refine Go.st (S' := T_12.setTop (mkF m 62 #[.val (.ref a1), .val (.int v21), .val (.int vn2)] [(.int ((vp + (1 : Int32)) % (55 : Int32))), (.ref a1)])) (fun t hr => iremM X_12 hx rfl (hb hby d5_61) rfl (by decide) hr) ?_
  have F_13 := (E1.wr W_10)
  obtain ⟨T_14, h_14, X_14, e_14, W_14, st_14⟩ := putF X_12 hx hZ hown (host := "") (Or.inl (hw _ (List.mem_of_getElem? (i := 29) rfl))) Via.refl e_12 F_11 F_13 (Or.inl (hw _ (List.mem_of_getElem? (i := 30) rfl))) (hw _ (List.mem_of_getElem? (i := 3) rfl)) (ty := .int) (by decide) rfl rfl (g := (mkF m 62 #[.val (.ref a1), .val (.int v21), .val (.int vn2)] [(.int ((vp + (1 : Int32)) % (55 : Int32))), (.ref a1)])) rfl rfl (hb hby d5_62)
  have N_14 := Fr.snoc X_14 N_10 (by omega)
  have z_14 := W_14.size
  have F_14 := F_11.same W_14
  refine Go.st (S' := T_14.setTop (mkF m 65 #[.val (.ref a1), .val (.int v21), .val (.int vn2)] [])) st_14 ?_
  refine Go.st (S' := T_14.setTop (mkF m 66 #[.val (.ref a1), .val (.int v21), .val (.int vn2)] [(.int vn2)])) (fun t hr => XS.iloadN X_14.here hx rfl (hb hby d5_65) rfl hr) ?_
  refine Go.retI X_14 hx hlk hret (hb hby d5_66) (by decide) (by decide) ?_
  try rw [e_14]
  have F_15 := (A_10.other W_14 (own_ne (by omega)))
  have F_16 := ((Ft.other W_10 (Or.inl (own_ne (by omega)))).other W_14 (Or.inr (slot_ne (t := (.array .int)) (t' := .int) (Or.inr (hw _ (List.mem_of_getElem? (i := 13) rfl))) (Or.inl (hw _ (List.mem_of_getElem? (i := 30) rfl))) (by decide) (by decide) (by decide))))
  refine ⟨?_, N_14, (((Keep.refl h0 [a1, ta]).wr W_10 (Or.inl (by simp))).wr W_14 (Or.inl (by simp))), F_16, ⟨_, own_a1 hvp hq, F_14⟩, ?_⟩
  · rw [hvn2, hvn, own_nx]
  · rw [own_adv, own_nx, List.map_set, ← hvn, ← hvn2, ← e6]; exact F_15
theorem ef_rm0 (m : MethodId) (p1 : Int32) (p2 : Int32) : entryFrame m #[(.int p1), (.int p2)] maxLocals = mkF m 0 #[.val (.int p1), .val (.int p2), .unset, .unset, .unset, .unset, .unset, .unset, .unset, .unset, .unset, .unset, .unset, .unset] [] := by first | (simp [entryFrame, mkF, argsToLocals, Value.category, maxLocals]; done) | rfl
theorem pf_5 : plainFor x = true := plainFor_of_name (by first | (simp [plainName, overriddenIn, x]; done) | decide +kernel)
theorem pd_1 : parseMethodDescriptor "(I)V" = some ⟨[.int], none⟩ := by decide +kernel
theorem pd_2 : parseMethodDescriptor "()I" = some ⟨[], some .int⟩ := by decide +kernel
theorem pd_3 : parseMethodDescriptor "(I)Z" = some ⟨[.int], some .boolean⟩ := by decide +kernel
set_option maxRecDepth 65536 in
set_option maxHeartbeats 4000000 in
theorem rm0 (l : Launch) (Z : State) (a0 : Array Value) (hw : ∀ d ∈ tables_1, d.before a0 Z = true) (p1 : Int32) (p2 : Int32) (h0 : Heap) (n0 : Nat) (Z0 : n0 ≤ h0.size)  :
    Con l Z x code maxLocals ret room_1 #[(.int p1), (.int p2)] h0 (fun v h L => v = some (.int 1) ∧ Fr n0 L) := by
  refine Con.of pf_5 ?_
  intro p e s m below meth c T0 X0 hx hby hml hZ hown hnm hret hlk e0
  have hown : s.vm.findClass "com/example/moduline/moduline/library/RandomNextPinLaw" = some m.cls := hown
  have hnm : meth.name = "law" := hnm
  have N0 := Fr.nil n0
  refine Go.cast (ef_rm0 m p1 p2) ?_
  refine Go.st (S' := T0.setTop (mkF m 1 #[.val (.int p1), .val (.int p2), .unset, .unset, .unset, .unset, .unset, .unset, .unset, .unset, .unset, .unset, .unset, .unset] [(.int p1)])) (fun t hr => XS.iloadN X0.here hx rfl (hb hby at_0) rfl hr) ?_
  refine Go.st (S' := T0.setTop (mkF m 3 #[.val (.int p1), .val (.int p2), .unset, .unset, .unset, .unset, .unset, .unset, .unset, .unset, .unset, .unset, .unset, .unset] [(.int (2147483647 : Int32)), (.int p1)])) (own_ldc X0 hx hZ hown (index := 7) (x := (2147483647 : Int32)) (hw _ (List.mem_of_getElem? (i := 0) rfl)) (g := (mkF m 1 #[.val (.int p1), .val (.int p2), .unset, .unset, .unset, .unset, .unset, .unset, .unset, .unset, .unset, .unset, .unset, .unset] [(.int p1)])) rfl (hb hby at_1)) ?_
  refine Go.st (S' := T0.setTop (mkF m 4 #[.val (.int p1), .val (.int p2), .unset, .unset, .unset, .unset, .unset, .unset, .unset, .unset, .unset, .unset, .unset, .unset] [(.int (p1 &&& (2147483647 : Int32)))])) (fun t hr => XS.iand X0.here hx rfl (hb hby at_3) rfl hr) ?_
  refine Go.st (S' := T0.setTop (mkF m 6 #[.val (.int p1), .val (.int p2), .unset, .unset, .unset, .unset, .unset, .unset, .unset, .unset, .unset, .unset, .unset, .unset] [(.int (161803399 : Int32)), (.int (p1 &&& (2147483647 : Int32)))])) (own_ldc X0 hx hZ hown (index := 8) (x := (161803399 : Int32)) (hw _ (List.mem_of_getElem? (i := 1) rfl)) (g := (mkF m 4 #[.val (.int p1), .val (.int p2), .unset, .unset, .unset, .unset, .unset, .unset, .unset, .unset, .unset, .unset, .unset, .unset] [(.int (p1 &&& (2147483647 : Int32)))])) rfl (hb hby at_4)) ?_
  refine Go.st (S' := T0.setTop (mkF m 7 #[.val (.int p1), .val (.int p2), .unset, .unset, .unset, .unset, .unset, .unset, .unset, .unset, .unset, .unset, .unset, .unset] [(.int ((p1 &&& (2147483647 : Int32)) % (161803399 : Int32)))])) (fun t hr => iremM X0 hx rfl (hb hby at_6) rfl (by decide) hr) ?_
  obtain ⟨vmag, hvmag⟩ : ∃ z : Int32, z = ((p1 &&& (2147483647 : Int32)) % (161803399 : Int32)) := ⟨_, rfl⟩
  refine Go.st (S' := T0.setTop (mkF m 8 #[.val (.int p1), .val (.int p2), .val (.int vmag), .unset, .unset, .unset, .unset, .unset, .unset, .unset, .unset, .unset, .unset, .unset] [])) (fun t hr => by subst hvmag; exact XS.istoreN X0.here hx rfl (hb hby at_7) rfl (l' := _) rfl hr) ?_
  have hm0 : 0 ≤ vmag.toInt ∧ vmag.toInt ≤ 161803398 := by rw [hvmag]; exact own_seed _
  refine Go.st (S' := T0.setTop (mkF m 9 #[.val (.int p1), .val (.int p2), .val (.int vmag), .unset, .unset, .unset, .unset, .unset, .unset, .unset, .unset, .unset, .unset, .unset] [(.int p2)])) (fun t hr => XS.iloadN X0.here hx rfl (hb hby at_8) rfl hr) ?_
  refine Go.st (S' := T0.setTop (mkF m 10 #[.val (.int p1), .val (.int p2), .val (.int vmag), .unset, .unset, .unset, .unset, .unset, .unset, .unset, .unset, .unset, .unset, .unset] [(.int (1 : Int32)), (.int p2)])) (fun t hr => XS.iconst X0.here hx rfl (hb hby at_9) hr) ?_
  refine Go.st (S' := T0.setTop (mkF m 11 #[.val (.int p1), .val (.int p2), .val (.int vmag), .unset, .unset, .unset, .unset, .unset, .unset, .unset, .unset, .unset, .unset, .unset] [(.int (p2 &&& (1 : Int32)))])) (fun t hr => XS.iand X0.here hx rfl (hb hby at_10) rfl hr) ?_
  by_cases hc1 : (p2 &&& (1 : Int32)) = 0
  · refine Go.st (S' := T0.setTop (mkF m 19 #[.val (.int p1), .val (.int p2), .val (.int vmag), .unset, .unset, .unset, .unset, .unset, .unset, .unset, .unset, .unset, .unset, .unset] [])) (fun t hr => XS.ifYes X0.here hx rfl (pc0 := 11) (pc' := 19) rfl (hb hby at_11) rfl (XT.i0_eq_t hc1) (by decide) (by decide) hr) ?_
    refine Go.st (S' := T0.setTop (mkF m 20 #[.val (.int p1), .val (.int p2), .val (.int vmag), .unset, .unset, .unset, .unset, .unset, .unset, .unset, .unset, .unset, .unset, .unset] [(.int vmag)])) (fun t hr => XS.iloadN X0.here hx rfl (hb hby at_19) rfl hr) ?_
    obtain ⟨seed, hseed⟩ : ∃ z : Int32, z = vmag := ⟨_, rfl⟩
    refine Go.st (S' := T0.setTop (mkF m 21 #[.val (.int p1), .val (.int p2), .val (.int vmag), .val (.int seed), .unset, .unset, .unset, .unset, .unset, .unset, .unset, .unset, .unset, .unset] [])) (fun t hr => by subst hseed; exact XS.istoreN X0.here hx rfl (hb hby at_20) rfl (l' := _) rfl hr) ?_
    have hs0 : -161803398 ≤ seed.toInt := by have q := c_ineg vmag; have q2 := rng32 (-vmag); rw [hseed]; omega
    have hs1 : seed.toInt ≤ 161803398 := by have q := c_ineg vmag; have q2 := rng32 (-vmag); rw [hseed]; omega
    have hn0 : -161803398 ≤ (-seed).toInt := by have q := c_ineg seed; have q2 := rng32 (-seed); omega
    have hn1 : (-seed).toInt ≤ 161803398 := by have q := c_ineg seed; have q2 := rng32 (-seed); omega
    have hab := own_abs_rg hs0 hs1
    have hok := own_tab_ok hab.1 hab.2
    obtain ⟨T_2, h_2, X_2, e_2, E_2, A_2, D_2, -, st_2⟩ := newO X0 hx hZ hown (hw _ (List.mem_of_getElem? (i := 2) rfl)) (hw _ (List.mem_of_getElem? (i := 3) rfl)) (hw _ (List.mem_of_getElem? (i := 4) rfl)) e0 (g := (mkF m 21 #[.val (.int p1), .val (.int p2), .val (.int vmag), .val (.int seed), .unset, .unset, .unset, .unset, .unset, .unset, .unset, .unset, .unset, .unset] [])) rfl (hb hby at_21) (by decide) (by decide)
    obtain ⟨ad_2, g_2⟩ : ∃ z, z = h0.size := ⟨_, rfl⟩
    rw [← g_2] at A_2 D_2 st_2
    have z_2 := E_2.1
    have y_2 := own_ltE A_2
    have F_2_table : Fld Z h_2 ad_2 "com/example/moduline/moduline/library/Random" "table" "[I" .null := D_2 (Or.inr (hw _ (List.mem_of_getElem? (i := 13) rfl))) (ty := (.array .int)) (by decide)
    have F_2_position : Fld Z h_2 ad_2 "com/example/moduline/moduline/library/Random" "position" "I" (.int (0 : Int32)) := D_2 (Or.inl (hw _ (List.mem_of_getElem? (i := 30) rfl))) (ty := .int) (by decide)
    refine Go.st (S' := T_2.setTop (mkF m 24 #[.val (.int p1), .val (.int p2), .val (.int vmag), .val (.int seed), .unset, .unset, .unset, .unset, .unset, .unset, .unset, .unset, .unset, .unset] [(.ref ad_2)])) st_2 ?_
    refine Go.st (S' := T_2.setTop (mkF m 25 #[.val (.int p1), .val (.int p2), .val (.int vmag), .val (.int seed), .unset, .unset, .unset, .unset, .unset, .unset, .unset, .unset, .unset, .unset] [(.ref ad_2), (.ref ad_2)])) (fun t hr => XS.dup X_2.here hx rfl (hb hby at_24) rfl rfl hr) ?_
    refine Go.st (S' := T_2.setTop (mkF m 26 #[.val (.int p1), .val (.int p2), .val (.int vmag), .val (.int seed), .unset, .unset, .unset, .unset, .unset, .unset, .unset, .unset, .unset, .unset] [(.int seed), (.ref ad_2), (.ref ad_2)])) (fun t hr => XS.iloadN X_2.here hx rfl (hb hby at_25) rfl hr) ?_
    obtain ⟨v_3, T_3, h_3, L_3, X_3, e_3, Q_3, st_3⟩ := own_callN X_2 hx hZ (y := ⟨"com/example/moduline/moduline/library/Random", "<init>", "(I)V"⟩) rfl hown (hw _ (List.mem_of_getElem? (i := 5) rfl)) (hw _ (List.mem_of_getElem? (i := 6) rfl)) (hw _ (List.mem_of_getElem? (i := 4) rfl)) (hw _ (List.mem_of_getElem? (i := 7) rfl)) (by decide) e_2 (a := ad_2) (argsL := [(.int seed)]) (rest := [(.ref ad_2)]) (rmC l Z a0 hw ad_2 seed h_2 n0 (by omega) A_2 F_2_table F_2_position (by omega) (by omega) (by omega)) (g := (mkF m 26 #[.val (.int p1), .val (.int p2), .val (.int vmag), .val (.int seed), .unset, .unset, .unset, .unset, .unset, .unset, .unset, .unset, .unset, .unset] [(.int seed), (.ref ad_2), (.ref ad_2)])) rfl (by rw [hml]; rfl) (lenOf pd_1 rfl) rfl (hb hby at_26) (W := 1) (by show 2 * 0 + _ ≤ _; exact Nat.le_of_eq rfl) (by decide) (by decide) (by decide) (by decide)
    obtain ⟨rfl, N_3, K_3, ta_3, gt_3, G1_3, G2_3, A_3⟩ := Q_3
    have N_3' := Fr.app N0 N_3
    have z_3 := K_3.1
    have y_3 := own_ltA A_3
    refine Go.st (S' := T_3.setTop (mkF m 29 #[.val (.int p1), .val (.int p2), .val (.int vmag), .val (.int seed), .unset, .unset, .unset, .unset, .unset, .unset, .unset, .unset, .unset, .unset] [(.ref ad_2)])) st_3 ?_
    refine Go.st (S' := T_3.setTop (mkF m 31 #[.val (.int p1), .val (.int p2), .val (.int vmag), .val (.int seed), .val (.ref ad_2), .unset, .unset, .unset, .unset, .unset, .unset, .unset, .unset, .unset] [])) (fun t hr => XS.astore X_3.here hx rfl (hb hby at_29) rfl rfl (l' := #[.val (.int p1), .val (.int p2), .val (.int vmag), .val (.int seed), .val (.ref ad_2), .unset, .unset, .unset, .unset, .unset, .unset, .unset, .unset, .unset]) rfl hr) ?_
    obtain ⟨T_4, h_4, X_4, e_4, E_4, A_4, D_4, -, st_4⟩ := newO X_3 hx hZ hown (hw _ (List.mem_of_getElem? (i := 2) rfl)) (hw _ (List.mem_of_getElem? (i := 3) rfl)) (hw _ (List.mem_of_getElem? (i := 4) rfl)) e_3 (g := (mkF m 31 #[.val (.int p1), .val (.int p2), .val (.int vmag), .val (.int seed), .val (.ref ad_2), .unset, .unset, .unset, .unset, .unset, .unset, .unset, .unset, .unset] [])) rfl (hb hby at_31) (by decide) (by decide)
    obtain ⟨ad_4, g_4⟩ : ∃ z, z = h_3.size := ⟨_, rfl⟩
    rw [← g_4] at A_4 D_4 st_4
    have z_4 := E_4.1
    have y_4 := own_ltE A_4
    have F_4_table : Fld Z h_4 ad_4 "com/example/moduline/moduline/library/Random" "table" "[I" .null := D_4 (Or.inr (hw _ (List.mem_of_getElem? (i := 13) rfl))) (ty := (.array .int)) (by decide)
    have F_4_position : Fld Z h_4 ad_4 "com/example/moduline/moduline/library/Random" "position" "I" (.int (0 : Int32)) := D_4 (Or.inl (hw _ (List.mem_of_getElem? (i := 30) rfl))) (ty := .int) (by decide)
    refine Go.st (S' := T_4.setTop (mkF m 34 #[.val (.int p1), .val (.int p2), .val (.int vmag), .val (.int seed), .val (.ref ad_2), .unset, .unset, .unset, .unset, .unset, .unset, .unset, .unset, .unset] [(.ref ad_4)])) st_4 ?_
    refine Go.st (S' := T_4.setTop (mkF m 35 #[.val (.int p1), .val (.int p2), .val (.int vmag), .val (.int seed), .val (.ref ad_2), .unset, .unset, .unset, .unset, .unset, .unset, .unset, .unset, .unset] [(.ref ad_4), (.ref ad_4)])) (fun t hr => XS.dup X_4.here hx rfl (hb hby at_34) rfl rfl hr) ?_
    refine Go.st (S' := T_4.setTop (mkF m 36 #[.val (.int p1), .val (.int p2), .val (.int vmag), .val (.int seed), .val (.ref ad_2), .unset, .unset, .unset, .unset, .unset, .unset, .unset, .unset, .unset] [(.int seed), (.ref ad_4), (.ref ad_4)])) (fun t hr => XS.iloadN X_4.here hx rfl (hb hby at_35) rfl hr) ?_
    refine Go.st (S' := T_4.setTop (mkF m 37 #[.val (.int p1), .val (.int p2), .val (.int vmag), .val (.int seed), .val (.ref ad_2), .unset, .unset, .unset, .unset, .unset, .unset, .unset, .unset, .unset] [(.int (-seed)), (.ref ad_4), (.ref ad_4)])) (fun t hr => XS.ineg X_4.here hx rfl (hb hby at_36) rfl hr) ?_
    obtain ⟨v_5, T_5, h_5, L_5, X_5, e_5, Q_5, st_5⟩ := own_callN X_4 hx hZ (y := ⟨"com/example/moduline/moduline/library/Random", "<init>", "(I)V"⟩) rfl hown (hw _ (List.mem_of_getElem? (i := 5) rfl)) (hw _ (List.mem_of_getElem? (i := 6) rfl)) (hw _ (List.mem_of_getElem? (i := 4) rfl)) (hw _ (List.mem_of_getElem? (i := 7) rfl)) (by decide) e_4 (a := ad_4) (argsL := [(.int (-seed))]) (rest := [(.ref ad_4)]) (rmC l Z a0 hw ad_4 (-seed) h_4 n0 (by omega) A_4 F_4_table F_4_position (by omega) (by omega) (by omega)) (g := (mkF m 37 #[.val (.int p1), .val (.int p2), .val (.int vmag), .val (.int seed), .val (.ref ad_2), .unset, .unset, .unset, .unset, .unset, .unset, .unset, .unset, .unset] [(.int (-seed)), (.ref ad_4), (.ref ad_4)])) rfl (by rw [hml]; rfl) (lenOf pd_1 rfl) rfl (hb hby at_37) (W := 1) (by show 2 * 0 + _ ≤ _; exact Nat.le_of_eq rfl) (by decide) (by decide) (by decide) (by decide)
    obtain ⟨rfl, N_5, K_5, ta_5, gt_5, G1_5, G2_5, A_5⟩ := Q_5
    have N_5' := Fr.app N_3' N_5
    have z_5 := K_5.1
    rw [own_abs_neg hs0 hs1] at A_5
    have y_5 := own_ltA A_5
    refine Go.st (S' := T_5.setTop (mkF m 40 #[.val (.int p1), .val (.int p2), .val (.int vmag), .val (.int seed), .val (.ref ad_2), .unset, .unset, .unset, .unset, .unset, .unset, .unset, .unset, .unset] [(.ref ad_4)])) st_5 ?_
    refine Go.st (S' := T_5.setTop (mkF m 42 #[.val (.int p1), .val (.int p2), .val (.int vmag), .val (.int seed), .val (.ref ad_2), .val (.ref ad_4), .unset, .unset, .unset, .unset, .unset, .unset, .unset, .unset] [])) (fun t hr => XS.astore X_5.here hx rfl (hb hby at_40) rfl rfl (l' := #[.val (.int p1), .val (.int p2), .val (.int vmag), .val (.int seed), .val (.ref ad_2), .val (.ref ad_4), .unset, .unset, .unset, .unset, .unset, .unset, .unset, .unset]) rfl hr) ?_
    refine Go.st (S' := T_5.setTop (mkF m 44 #[.val (.int p1), .val (.int p2), .val (.int vmag), .val (.int seed), .val (.ref ad_2), .val (.ref ad_4), .unset, .unset, .unset, .unset, .unset, .unset, .unset, .unset] [(.ref ad_2)])) (fun t hr => XS.aload X_5.here hx rfl (hb hby at_42) rfl rfl hr) ?_
    have F_7 := (((A_2.keep K_3).ext E_4).keep K_5)
    have F_8 := ((G1_3.ext E_4).keep K_5 (by simp only [List.mem_cons, List.not_mem_nil, or_false, not_or]; exact own_ne (by omega)))
    have F_9 := ((G2_3.ext E_4).keep K_5 (by simp only [List.mem_cons, List.not_mem_nil, or_false, not_or]; exact own_ne (by omega)))
    have F_10 := ((A_3.ext E_4).keep K_5 (by simp only [List.mem_cons, List.not_mem_nil, or_false, not_or]; exact own_ne (by omega)))
    obtain ⟨v_6, T_6, h_6, L_6, X_6, e_6, Q_6, st_6⟩ := own_callV X_5 hx hZ (C := "com/example/moduline/moduline/library/Random") (y := ⟨"com/example/moduline/moduline/library/Random", "next", "()I"⟩) (z := ⟨"com/example/moduline/moduline/library/Random", "next", "()I"⟩) hown (hw _ (List.mem_of_getElem? (i := 24) rfl)) (hw _ (List.mem_of_getElem? (i := 25) rfl)) (hw _ (List.mem_of_getElem? (i := 27) rfl)) (hw _ (List.mem_of_getElem? (i := 27) rfl)) (hw _ (List.mem_of_getElem? (i := 26) rfl)) (hw _ (List.mem_of_getElem? (i := 4) rfl)) (hw _ (List.mem_of_getElem? (i := 28) rfl)) (by decide) e_5 (a := ad_2) F_7 (argsL := []) (rest := []) (rmN l Z a0 hw ad_2 h_5 n0 (by omega) ta_3 (own_tab (own_abs seed)) 0 (0 : Int32) F_7 F_8 F_9 F_10 hok (by decide) rfl (by omega) (by omega) (by omega)) (g := (mkF m 44 #[.val (.int p1), .val (.int p2), .val (.int vmag), .val (.int seed), .val (.ref ad_2), .val (.ref ad_4), .unset, .unset, .unset, .unset, .unset, .unset, .unset, .unset] [(.ref ad_2)])) rfl (by rw [hml]; rfl) (lenOf pd_2 rfl) rfl (hb hby at_44) (W := 0) (by show 2 * 0 + _ ≤ _; exact Nat.le_of_eq rfl) (by decide) (by decide) (by decide) (by decide)
    obtain ⟨rfl, N_6, K_6, G1_6, ⟨vq_6, hvq_6, G2_6⟩, A_6⟩ := Q_6
    have N_6' := Fr.app N_5' N_6
    have z_6 := K_6.1
    refine Go.st (S' := T_6.setTop (mkF m 47 #[.val (.int p1), .val (.int p2), .val (.int vmag), .val (.int seed), .val (.ref ad_2), .val (.ref ad_4), .unset, .unset, .unset, .unset, .unset, .unset, .unset, .unset] [(.int (own_nx (own_tab (own_abs seed)) 0))])) st_6 ?_
    refine Go.st (S' := T_6.setTop (mkF m 49 #[.val (.int p1), .val (.int p2), .val (.int vmag), .val (.int seed), .val (.ref ad_2), .val (.ref ad_4), .val (.int (own_nx (own_tab (own_abs seed)) 0)), .unset, .unset, .unset, .unset, .unset, .unset, .unset] [])) (fun t hr => XS.istore X_6.here hx rfl (hb hby at_47) rfl (l' := #[.val (.int p1), .val (.int p2), .val (.int vmag), .val (.int seed), .val (.ref ad_2), .val (.ref ad_4), .val (.int (own_nx (own_tab (own_abs seed)) 0)), .unset, .unset, .unset, .unset, .unset, .unset, .unset]) rfl hr) ?_
    refine Go.st (S' := T_6.setTop (mkF m 51 #[.val (.int p1), .val (.int p2), .val (.int vmag), .val (.int seed), .val (.ref ad_2), .val (.ref ad_4), .val (.int (own_nx (own_tab (own_abs seed)) 0)), .unset, .unset, .unset, .unset, .unset, .unset, .unset] [(.ref ad_2)])) (fun t hr => XS.aload X_6.here hx rfl (hb hby at_49) rfl rfl hr) ?_
    have F_12 := (F_7.keep K_6)
    obtain ⟨v_11, T_11, h_11, L_11, X_11, e_11, Q_11, st_11⟩ := own_callV X_6 hx hZ (C := "com/example/moduline/moduline/library/Random") (y := ⟨"com/example/moduline/moduline/library/Random", "next", "()I"⟩) (z := ⟨"com/example/moduline/moduline/library/Random", "next", "()I"⟩) hown (hw _ (List.mem_of_getElem? (i := 24) rfl)) (hw _ (List.mem_of_getElem? (i := 25) rfl)) (hw _ (List.mem_of_getElem? (i := 27) rfl)) (hw _ (List.mem_of_getElem? (i := 27) rfl)) (hw _ (List.mem_of_getElem? (i := 26) rfl)) (hw _ (List.mem_of_getElem? (i := 4) rfl)) (hw _ (List.mem_of_getElem? (i := 28) rfl)) (by decide) e_6 (a := ad_2) F_12 (argsL := []) (rest := []) (rmN l Z a0 hw ad_2 h_6 n0 (by omega) ta_3 (own_adv (own_tab (own_abs seed)) 0) 1 vq_6 F_12 G1_6 G2_6 A_6 (own_adv_ok hok (by decide)) (by decide) hvq_6 (by omega) (by omega) (by omega)) (g := (mkF m 51 #[.val (.int p1), .val (.int p2), .val (.int vmag), .val (.int seed), .val (.ref ad_2), .val (.ref ad_4), .val (.int (own_nx (own_tab (own_abs seed)) 0)), .unset, .unset, .unset, .unset, .unset, .unset, .unset] [(.ref ad_2)])) rfl (by rw [hml]; rfl) (lenOf pd_2 rfl) rfl (hb hby at_51) (W := 0) (by show 2 * 0 + _ ≤ _; exact Nat.le_of_eq rfl) (by decide) (by decide) (by decide) (by decide)
    obtain ⟨rfl, N_11, K_11, G1_11, ⟨vq_11, hvq_11, G2_11⟩, A_11⟩ := Q_11
    have N_11' := Fr.app N_6' N_11
    have z_11 := K_11.1
    refine Go.st (S' := T_11.setTop (mkF m 54 #[.val (.int p1), .val (.int p2), .val (.int vmag), .val (.int seed), .val (.ref ad_2), .val (.ref ad_4), .val (.int (own_nx (own_tab (own_abs seed)) 0)), .unset, .unset, .unset, .unset, .unset, .unset, .unset] [(.int (own_nx (own_adv (own_tab (own_abs seed)) 0) 1))])) st_11 ?_
    refine Go.st (S' := T_11.setTop (mkF m 56 #[.val (.int p1), .val (.int p2), .val (.int vmag), .val (.int seed), .val (.ref ad_2), .val (.ref ad_4), .val (.int (own_nx (own_tab (own_abs seed)) 0)), .val (.int (own_nx (own_adv (own_tab (own_abs seed)) 0) 1)), .unset, .unset, .unset, .unset, .unset, .unset] [])) (fun t hr => XS.istore X_11.here hx rfl (hb hby at_54) rfl (l' := #[.val (.int p1), .val (.int p2), .val (.int vmag), .val (.int seed), .val (.ref ad_2), .val (.ref ad_4), .val (.int (own_nx (own_tab (own_abs seed)) 0)), .val (.int (own_nx (own_adv (own_tab (own_abs seed)) 0) 1)), .unset, .unset, .unset, .unset, .unset, .unset]) rfl hr) ?_
    refine Go.st (S' := T_11.setTop (mkF m 58 #[.val (.int p1), .val (.int p2), .val (.int vmag), .val (.int seed), .val (.ref ad_2), .val (.ref ad_4), .val (.int (own_nx (own_tab (own_abs seed)) 0)), .val (.int (own_nx (own_adv (own_tab (own_abs seed)) 0) 1)), .unset, .unset, .unset, .unset, .unset, .unset] [(.ref ad_2)])) (fun t hr => XS.aload X_11.here hx rfl (hb hby at_56) rfl rfl hr) ?_
    have F_14 := (F_12.keep K_11)
    obtain ⟨v_13, T_13, h_13, L_13, X_13, e_13, Q_13, st_13⟩ := own_callV X_11 hx hZ (C := "com/example/moduline/moduline/library/Random") (y := ⟨"com/example/moduline/moduline/library/Random", "next", "()I"⟩) (z := ⟨"com/example/moduline/moduline/library/Random", "next", "()I"⟩) hown (hw _ (List.mem_of_getElem? (i := 24) rfl)) (hw _ (List.mem_of_getElem? (i := 25) rfl)) (hw _ (List.mem_of_getElem? (i := 27) rfl)) (hw _ (List.mem_of_getElem? (i := 27) rfl)) (hw _ (List.mem_of_getElem? (i := 26) rfl)) (hw _ (List.mem_of_getElem? (i := 4) rfl)) (hw _ (List.mem_of_getElem? (i := 28) rfl)) (by decide) e_11 (a := ad_2) F_14 (argsL := []) (rest := []) (rmN l Z a0 hw ad_2 h_11 n0 (by omega) ta_3 (own_adv (own_adv (own_tab (own_abs seed)) 0) 1) 2 vq_11 F_14 G1_11 G2_11 A_11 (own_adv_ok (own_adv_ok hok (by decide)) (by decide)) (by decide) hvq_11 (by omega) (by omega) (by omega)) (g := (mkF m 58 #[.val (.int p1), .val (.int p2), .val (.int vmag), .val (.int seed), .val (.ref ad_2), .val (.ref ad_4), .val (.int (own_nx (own_tab (own_abs seed)) 0)), .val (.int (own_nx (own_adv (own_tab (own_abs seed)) 0) 1)), .unset, .unset, .unset, .unset, .unset, .unset] [(.ref ad_2)])) rfl (by rw [hml]; rfl) (lenOf pd_2 rfl) rfl (hb hby at_58) (W := 0) (by show 2 * 0 + _ ≤ _; exact Nat.le_of_eq rfl) (by decide) (by decide) (by decide) (by decide)
    obtain ⟨rfl, N_13, K_13, G1_13, ⟨vq_13, hvq_13, G2_13⟩, A_13⟩ := Q_13
    have N_13' := Fr.app N_11' N_13
    have z_13 := K_13.1
    refine Go.st (S' := T_13.setTop (mkF m 61 #[.val (.int p1), .val (.int p2), .val (.int vmag), .val (.int seed), .val (.ref ad_2), .val (.ref ad_4), .val (.int (own_nx (own_tab (own_abs seed)) 0)), .val (.int (own_nx (own_adv (own_tab (own_abs seed)) 0) 1)), .unset, .unset, .unset, .unset, .unset, .unset] [(.int (own_nx (own_adv (own_adv (own_tab (own_abs seed)) 0) 1) 2))])) st_13 ?_
    refine Go.st (S' := T_13.setTop (mkF m 63 #[.val (.int p1), .val (.int p2), .val (.int vmag), .val (.int seed), .val (.ref ad_2), .val (.ref ad_4), .val (.int (own_nx (own_tab (own_abs seed)) 0)), .val (.int (own_nx (own_adv (own_tab (own_abs seed)) 0) 1)), .val (.int (own_nx (own_adv (own_adv (own_tab (own_abs seed)) 0) 1) 2)), .unset, .unset, .unset, .unset, .unset] [])) (fun t hr => XS.istore X_13.here hx rfl (hb hby at_61) rfl (l' := #[.val (.int p1), .val (.int p2), .val (.int vmag), .val (.int seed), .val (.ref ad_2), .val (.ref ad_4), .val (.int (own_nx (own_tab (own_abs seed)) 0)), .val (.int (own_nx (own_adv (own_tab (own_abs seed)) 0) 1)), .val (.int (own_nx (own_adv (own_adv (own_tab (own_abs seed)) 0) 1) 2)), .unset, .unset, .unset, .unset, .unset]) rfl hr) ?_
    refine Go.st (S' := T_13.setTop (mkF m 65 #[.val (.int p1), .val (.int p2), .val (.int vmag), .val (.int seed), .val (.ref ad_2), .val (.ref ad_4), .val (.int (own_nx (own_tab (own_abs seed)) 0)), .val (.int (own_nx (own_adv (own_tab (own_abs seed)) 0) 1)), .val (.int (own_nx (own_adv (own_adv (own_tab (own_abs seed)) 0) 1) 2)), .unset, .unset, .unset, .unset, .unset] [(.ref ad_4)])) (fun t hr => XS.aload X_13.here hx rfl (hb hby at_63) rfl rfl hr) ?_
    have F_16 := ((((A_4.keep K_5).keep K_6).keep K_11).keep K_13)
    have F_17 := (((G1_5.keep K_6 (by simp only [List.mem_cons, List.not_mem_nil, or_false, not_or]; exact ⟨own_ne (by omega), own_ne (by omega)⟩)).keep K_11 (by simp only [List.mem_cons, List.not_mem_nil, or_false, not_or]; exact ⟨own_ne (by omega), own_ne (by omega)⟩)).keep K_13 (by simp only [List.mem_cons, List.not_mem_nil, or_false, not_or]; exact ⟨own_ne (by omega), own_ne (by omega)⟩))
    have F_18 := (((G2_5.keep K_6 (by simp only [List.mem_cons, List.not_mem_nil, or_false, not_or]; exact ⟨own_ne (by omega), own_ne (by omega)⟩)).keep K_11 (by simp only [List.mem_cons, List.not_mem_nil, or_false, not_or]; exact ⟨own_ne (by omega), own_ne (by omega)⟩)).keep K_13 (by simp only [List.mem_cons, List.not_mem_nil, or_false, not_or]; exact ⟨own_ne (by omega), own_ne (by omega)⟩))
    have F_19 := (((A_5.keep K_6 (by simp only [List.mem_cons, List.not_mem_nil, or_false, not_or]; exact ⟨own_ne (by omega), own_ne (by omega)⟩)).keep K_11 (by simp only [List.mem_cons, List.not_mem_nil, or_false, not_or]; exact ⟨own_ne (by omega), own_ne (by omega)⟩)).keep K_13 (by simp only [List.mem_cons, List.not_mem_nil, or_false, not_or]; exact ⟨own_ne (by omega), own_ne (by omega)⟩))
    obtain ⟨v_15, T_15, h_15, L_15, X_15, e_15, Q_15, st_15⟩ := own_callV X_13 hx hZ (C := "com/example/moduline/moduline/library/Random") (y := ⟨"com/example/moduline/moduline/library/Random", "next", "()I"⟩) (z := ⟨"com/example/moduline/moduline/library/Random", "next", "()I"⟩) hown (hw _ (List.mem_of_getElem? (i := 24) rfl)) (hw _ (List.mem_of_getElem? (i := 25) rfl)) (hw _ (List.mem_of_getElem? (i := 27) rfl)) (hw _ (List.mem_of_getElem? (i := 27) rfl)) (hw _ (List.mem_of_getElem? (i := 26) rfl)) (hw _ (List.mem_of_getElem? (i := 4) rfl)) (hw _ (List.mem_of_getElem? (i := 28) rfl)) (by decide) e_13 (a := ad_4) F_16 (argsL := []) (rest := []) (rmN l Z a0 hw ad_4 h_13 n0 (by omega) ta_5 (own_tab (own_abs seed)) 0 (0 : Int32) F_16 F_17 F_18 F_19 hok (by decide) rfl (by omega) (by omega) (by omega)) (g := (mkF m 65 #[.val (.int p1), .val (.int p2), .val (.int vmag), .val (.int seed), .val (.ref ad_2), .val (.ref ad_4), .val (.int (own_nx (own_tab (own_abs seed)) 0)), .val (.int (own_nx (own_adv (own_tab (own_abs seed)) 0) 1)), .val (.int (own_nx (own_adv (own_adv (own_tab (own_abs seed)) 0) 1) 2)), .unset, .unset, .unset, .unset, .unset] [(.ref ad_4)])) rfl (by rw [hml]; rfl) (lenOf pd_2 rfl) rfl (hb hby at_65) (W := 0) (by show 2 * 0 + _ ≤ _; exact Nat.le_of_eq rfl) (by decide) (by decide) (by decide) (by decide)
    obtain ⟨rfl, N_15, K_15, G1_15, ⟨vq_15, hvq_15, G2_15⟩, A_15⟩ := Q_15
    have N_15' := Fr.app N_13' N_15
    have z_15 := K_15.1
    refine Go.st (S' := T_15.setTop (mkF m 68 #[.val (.int p1), .val (.int p2), .val (.int vmag), .val (.int seed), .val (.ref ad_2), .val (.ref ad_4), .val (.int (own_nx (own_tab (own_abs seed)) 0)), .val (.int (own_nx (own_adv (own_tab (own_abs seed)) 0) 1)), .val (.int (own_nx (own_adv (own_adv (own_tab (own_abs seed)) 0) 1) 2)), .unset, .unset, .unset, .unset, .unset] [(.int (own_nx (own_tab (own_abs seed)) 0))])) st_15 ?_
    refine Go.st (S' := T_15.setTop (mkF m 70 #[.val (.int p1), .val (.int p2), .val (.int vmag), .val (.int seed), .val (.ref ad_2), .val (.ref ad_4), .val (.int (own_nx (own_tab (own_abs seed)) 0)), .val (.int (own_nx (own_adv (own_tab (own_abs seed)) 0) 1)), .val (.int (own_nx (own_adv (own_adv (own_tab (own_abs seed)) 0) 1) 2)), .val (.int (own_nx (own_tab (own_abs seed)) 0)), .unset, .unset, .unset, .unset] [])) (fun t hr => XS.istore X_15.here hx rfl (hb hby at_68) rfl (l' := #[.val (.int p1), .val (.int p2), .val (.int vmag), .val (.int seed), .val (.ref ad_2), .val (.ref ad_4), .val (.int (own_nx (own_tab (own_abs seed)) 0)), .val (.int (own_nx (own_adv (own_tab (own_abs seed)) 0) 1)), .val (.int (own_nx (own_adv (own_adv (own_tab (own_abs seed)) 0) 1) 2)), .val (.int (own_nx (own_tab (own_abs seed)) 0)), .unset, .unset, .unset, .unset]) rfl hr) ?_
    refine Go.st (S' := T_15.setTop (mkF m 72 #[.val (.int p1), .val (.int p2), .val (.int vmag), .val (.int seed), .val (.ref ad_2), .val (.ref ad_4), .val (.int (own_nx (own_tab (own_abs seed)) 0)), .val (.int (own_nx (own_adv (own_tab (own_abs seed)) 0) 1)), .val (.int (own_nx (own_adv (own_adv (own_tab (own_abs seed)) 0) 1) 2)), .val (.int (own_nx (own_tab (own_abs seed)) 0)), .unset, .unset, .unset, .unset] [(.ref ad_4)])) (fun t hr => XS.aload X_15.here hx rfl (hb hby at_70) rfl rfl hr) ?_
    have F_21 := (F_16.keep K_15)
    obtain ⟨v_20, T_20, h_20, L_20, X_20, e_20, Q_20, st_20⟩ := own_callV X_15 hx hZ (C := "com/example/moduline/moduline/library/Random") (y := ⟨"com/example/moduline/moduline/library/Random", "next", "()I"⟩) (z := ⟨"com/example/moduline/moduline/library/Random", "next", "()I"⟩) hown (hw _ (List.mem_of_getElem? (i := 24) rfl)) (hw _ (List.mem_of_getElem? (i := 25) rfl)) (hw _ (List.mem_of_getElem? (i := 27) rfl)) (hw _ (List.mem_of_getElem? (i := 27) rfl)) (hw _ (List.mem_of_getElem? (i := 26) rfl)) (hw _ (List.mem_of_getElem? (i := 4) rfl)) (hw _ (List.mem_of_getElem? (i := 28) rfl)) (by decide) e_15 (a := ad_4) F_21 (argsL := []) (rest := []) (rmN l Z a0 hw ad_4 h_15 n0 (by omega) ta_5 (own_adv (own_tab (own_abs seed)) 0) 1 vq_15 F_21 G1_15 G2_15 A_15 (own_adv_ok hok (by decide)) (by decide) hvq_15 (by omega) (by omega) (by omega)) (g := (mkF m 72 #[.val (.int p1), .val (.int p2), .val (.int vmag), .val (.int seed), .val (.ref ad_2), .val (.ref ad_4), .val (.int (own_nx (own_tab (own_abs seed)) 0)), .val (.int (own_nx (own_adv (own_tab (own_abs seed)) 0) 1)), .val (.int (own_nx (own_adv (own_adv (own_tab (own_abs seed)) 0) 1) 2)), .val (.int (own_nx (own_tab (own_abs seed)) 0)), .unset, .unset, .unset, .unset] [(.ref ad_4)])) rfl (by rw [hml]; rfl) (lenOf pd_2 rfl) rfl (hb hby at_72) (W := 0) (by show 2 * 0 + _ ≤ _; exact Nat.le_of_eq rfl) (by decide) (by decide) (by decide) (by decide)
    obtain ⟨rfl, N_20, K_20, G1_20, ⟨vq_20, hvq_20, G2_20⟩, A_20⟩ := Q_20
    have N_20' := Fr.app N_15' N_20
    have z_20 := K_20.1
    refine Go.st (S' := T_20.setTop (mkF m 75 #[.val (.int p1), .val (.int p2), .val (.int vmag), .val (.int seed), .val (.ref ad_2), .val (.ref ad_4), .val (.int (own_nx (own_tab (own_abs seed)) 0)), .val (.int (own_nx (own_adv (own_tab (own_abs seed)) 0) 1)), .val (.int (own_nx (own_adv (own_adv (own_tab (own_abs seed)) 0) 1) 2)), .val (.int (own_nx (own_tab (own_abs seed)) 0)), .unset, .unset, .unset, .unset] [(.int (own_nx (own_adv (own_tab (own_abs seed)) 0) 1))])) st_20 ?_
    refine Go.st (S' := T_20.setTop (mkF m 77 #[.val (.int p1), .val (.int p2), .val (.int vmag), .val (.int seed), .val (.ref ad_2), .val (.ref ad_4), .val (.int (own_nx (own_tab (own_abs seed)) 0)), .val (.int (own_nx (own_adv (own_tab (own_abs seed)) 0) 1)), .val (.int (own_nx (own_adv (own_adv (own_tab (own_abs seed)) 0) 1) 2)), .val (.int (own_nx (own_tab (own_abs seed)) 0)), .val (.int (own_nx (own_adv (own_tab (own_abs seed)) 0) 1)), .unset, .unset, .unset] [])) (fun t hr => XS.istore X_20.here hx rfl (hb hby at_75) rfl (l' := #[.val (.int p1), .val (.int p2), .val (.int vmag), .val (.int seed), .val (.ref ad_2), .val (.ref ad_4), .val (.int (own_nx (own_tab (own_abs seed)) 0)), .val (.int (own_nx (own_adv (own_tab (own_abs seed)) 0) 1)), .val (.int (own_nx (own_adv (own_adv (own_tab (own_abs seed)) 0) 1) 2)), .val (.int (own_nx (own_tab (own_abs seed)) 0)), .val (.int (own_nx (own_adv (own_tab (own_abs seed)) 0) 1)), .unset, .unset, .unset]) rfl hr) ?_
    refine Go.st (S' := T_20.setTop (mkF m 79 #[.val (.int p1), .val (.int p2), .val (.int vmag), .val (.int seed), .val (.ref ad_2), .val (.ref ad_4), .val (.int (own_nx (own_tab (own_abs seed)) 0)), .val (.int (own_nx (own_adv (own_tab (own_abs seed)) 0) 1)), .val (.int (own_nx (own_adv (own_adv (own_tab (own_abs seed)) 0) 1) 2)), .val (.int (own_nx (own_tab (own_abs seed)) 0)), .val (.int (own_nx (own_adv (own_tab (own_abs seed)) 0) 1)), .unset, .unset, .unset] [(.ref ad_4)])) (fun t hr => XS.aload X_20.here hx rfl (hb hby at_77) rfl rfl hr) ?_
    have F_23 := (F_21.keep K_20)
    obtain ⟨v_22, T_22, h_22, L_22, X_22, e_22, Q_22, st_22⟩ := own_callV X_20 hx hZ (C := "com/example/moduline/moduline/library/Random") (y := ⟨"com/example/moduline/moduline/library/Random", "next", "()I"⟩) (z := ⟨"com/example/moduline/moduline/library/Random", "next", "()I"⟩) hown (hw _ (List.mem_of_getElem? (i := 24) rfl)) (hw _ (List.mem_of_getElem? (i := 25) rfl)) (hw _ (List.mem_of_getElem? (i := 27) rfl)) (hw _ (List.mem_of_getElem? (i := 27) rfl)) (hw _ (List.mem_of_getElem? (i := 26) rfl)) (hw _ (List.mem_of_getElem? (i := 4) rfl)) (hw _ (List.mem_of_getElem? (i := 28) rfl)) (by decide) e_20 (a := ad_4) F_23 (argsL := []) (rest := []) (rmN l Z a0 hw ad_4 h_20 n0 (by omega) ta_5 (own_adv (own_adv (own_tab (own_abs seed)) 0) 1) 2 vq_20 F_23 G1_20 G2_20 A_20 (own_adv_ok (own_adv_ok hok (by decide)) (by decide)) (by decide) hvq_20 (by omega) (by omega) (by omega)) (g := (mkF m 79 #[.val (.int p1), .val (.int p2), .val (.int vmag), .val (.int seed), .val (.ref ad_2), .val (.ref ad_4), .val (.int (own_nx (own_tab (own_abs seed)) 0)), .val (.int (own_nx (own_adv (own_tab (own_abs seed)) 0) 1)), .val (.int (own_nx (own_adv (own_adv (own_tab (own_abs seed)) 0) 1) 2)), .val (.int (own_nx (own_tab (own_abs seed)) 0)), .val (.int (own_nx (own_adv (own_tab (own_abs seed)) 0) 1)), .unset, .unset, .unset] [(.ref ad_4)])) rfl (by rw [hml]; rfl) (lenOf pd_2 rfl) rfl (hb hby at_79) (W := 0) (by show 2 * 0 + _ ≤ _; exact Nat.le_of_eq rfl) (by decide) (by decide) (by decide) (by decide)
    obtain ⟨rfl, N_22, K_22, G1_22, ⟨vq_22, hvq_22, G2_22⟩, A_22⟩ := Q_22
    have N_22' := Fr.app N_20' N_22
    have z_22 := K_22.1
    refine Go.st (S' := T_22.setTop (mkF m 82 #[.val (.int p1), .val (.int p2), .val (.int vmag), .val (.int seed), .val (.ref ad_2), .val (.ref ad_4), .val (.int (own_nx (own_tab (own_abs seed)) 0)), .val (.int (own_nx (own_adv (own_tab (own_abs seed)) 0) 1)), .val (.int (own_nx (own_adv (own_adv (own_tab (own_abs seed)) 0) 1) 2)), .val (.int (own_nx (own_tab (own_abs seed)) 0)), .val (.int (own_nx (own_adv (own_tab (own_abs seed)) 0) 1)), .unset, .unset, .unset] [(.int (own_nx (own_adv (own_adv (own_tab (own_abs seed)) 0) 1) 2))])) st_22 ?_
    refine Go.st (S' := T_22.setTop (mkF m 84 #[.val (.int p1), .val (.int p2), .val (.int vmag), .val (.int seed), .val (.ref ad_2), .val (.ref ad_4), .val (.int (own_nx (own_tab (own_abs seed)) 0)), .val (.int (own_nx (own_adv (own_tab (own_abs seed)) 0) 1)), .val (.int (own_nx (own_adv (own_adv (own_tab (own_abs seed)) 0) 1) 2)), .val (.int (own_nx (own_tab (own_abs seed)) 0)), .val (.int (own_nx (own_adv (own_tab (own_abs seed)) 0) 1)), .val (.int (own_nx (own_adv (own_adv (own_tab (own_abs seed)) 0) 1) 2)), .unset, .unset] [])) (fun t hr => XS.istore X_22.here hx rfl (hb hby at_82) rfl (l' := #[.val (.int p1), .val (.int p2), .val (.int vmag), .val (.int seed), .val (.ref ad_2), .val (.ref ad_4), .val (.int (own_nx (own_tab (own_abs seed)) 0)), .val (.int (own_nx (own_adv (own_tab (own_abs seed)) 0) 1)), .val (.int (own_nx (own_adv (own_adv (own_tab (own_abs seed)) 0) 1) 2)), .val (.int (own_nx (own_tab (own_abs seed)) 0)), .val (.int (own_nx (own_adv (own_tab (own_abs seed)) 0) 1)), .val (.int (own_nx (own_adv (own_adv (own_tab (own_abs seed)) 0) 1) 2)), .unset, .unset]) rfl hr) ?_
    refine Go.st (S' := T_22.setTop (mkF m 86 #[.val (.int p1), .val (.int p2), .val (.int vmag), .val (.int seed), .val (.ref ad_2), .val (.ref ad_4), .val (.int (own_nx (own_tab (own_abs seed)) 0)), .val (.int (own_nx (own_adv (own_tab (own_abs seed)) 0) 1)), .val (.int (own_nx (own_adv (own_adv (own_tab (own_abs seed)) 0) 1) 2)), .val (.int (own_nx (own_tab (own_abs seed)) 0)), .val (.int (own_nx (own_adv (own_tab (own_abs seed)) 0) 1)), .val (.int (own_nx (own_adv (own_adv (own_tab (own_abs seed)) 0) 1) 2)), .unset, .unset] [(.int (own_nx (own_tab (own_abs seed)) 0))])) (fun t hr => XS.iload X_22.here hx rfl (hb hby at_84) rfl hr) ?_
    obtain ⟨v_24, T_24, h_24, L_24, X_24, e_24, Q_24, st_24⟩ := own_callS X_22 hx hZ (y := ⟨"com/example/moduline/moduline/library/RandomNextPinLaw", "inRange", "(I)Z"⟩) hown (hw _ (List.mem_of_getElem? (i := 31) rfl)) (hw _ (List.mem_of_getElem? (i := 32) rfl)) (hw _ (List.mem_of_getElem? (i := 33) rfl)) (hw _ (List.mem_of_getElem? (i := 34) rfl)) (by decide) e_22 (argsL := [(.int (own_nx (own_tab (own_abs seed)) 0))]) (rest := []) (rmI l Z a0 hw (own_nx (own_tab (own_abs seed)) 0) h_22 n0 (by omega)) (g := (mkF m 86 #[.val (.int p1), .val (.int p2), .val (.int vmag), .val (.int seed), .val (.ref ad_2), .val (.ref ad_4), .val (.int (own_nx (own_tab (own_abs seed)) 0)), .val (.int (own_nx (own_adv (own_tab (own_abs seed)) 0) 1)), .val (.int (own_nx (own_adv (own_adv (own_tab (own_abs seed)) 0) 1) 2)), .val (.int (own_nx (own_tab (own_abs seed)) 0)), .val (.int (own_nx (own_adv (own_tab (own_abs seed)) 0) 1)), .val (.int (own_nx (own_adv (own_adv (own_tab (own_abs seed)) 0) 1) 2)), .unset, .unset] [(.int (own_nx (own_tab (own_abs seed)) 0))])) rfl (by rw [hml]; rfl) (lenOf pd_3 rfl) rfl (hb hby at_86) (W := 0) (by show 2 * 0 + _ ≤ _; exact Nat.le_of_eq rfl) (by decide) (by decide) (by decide) (by decide)
    obtain ⟨rfl, N_24, hh_24⟩ := Q_24
    have N_24' := Fr.app N_22' N_24
    rw [hh_24] at e_24
    refine Go.st (S' := T_24.setTop (mkF m 89 #[.val (.int p1), .val (.int p2), .val (.int vmag), .val (.int seed), .val (.ref ad_2), .val (.ref ad_4), .val (.int (own_nx (own_tab (own_abs seed)) 0)), .val (.int (own_nx (own_adv (own_tab (own_abs seed)) 0) 1)), .val (.int (own_nx (own_adv (own_adv (own_tab (own_abs seed)) 0) 1) 2)), .val (.int (own_nx (own_tab (own_abs seed)) 0)), .val (.int (own_nx (own_adv (own_tab (own_abs seed)) 0) 1)), .val (.int (own_nx (own_adv (own_adv (own_tab (own_abs seed)) 0) 1) 2)), .unset, .unset] [(.int (own_inr (own_nx (own_tab (own_abs seed)) 0)))])) st_24 ?_
    refine Go.st (S' := T_24.setTop (mkF m 92 #[.val (.int p1), .val (.int p2), .val (.int vmag), .val (.int seed), .val (.ref ad_2), .val (.ref ad_4), .val (.int (own_nx (own_tab (own_abs seed)) 0)), .val (.int (own_nx (own_adv (own_tab (own_abs seed)) 0) 1)), .val (.int (own_nx (own_adv (own_adv (own_tab (own_abs seed)) 0) 1) 2)), .val (.int (own_nx (own_tab (own_abs seed)) 0)), .val (.int (own_nx (own_adv (own_tab (own_abs seed)) 0) 1)), .val (.int (own_nx (own_adv (own_adv (own_tab (own_abs seed)) 0) 1) 2)), .unset, .unset] [])) (fun t hr => XS.ifNo X_24.here hx rfl (hb hby at_89) rfl (XT.i0_eq_f (by rw [own_inr1 (own_nx_rg hok (by decide))]; decide)) hr) ?_
    refine Go.st (S' := T_24.setTop (mkF m 94 #[.val (.int p1), .val (.int p2), .val (.int vmag), .val (.int seed), .val (.ref ad_2), .val (.ref ad_4), .val (.int (own_nx (own_tab (own_abs seed)) 0)), .val (.int (own_nx (own_adv (own_tab (own_abs seed)) 0) 1)), .val (.int (own_nx (own_adv (own_adv (own_tab (own_abs seed)) 0) 1) 2)), .val (.int (own_nx (own_tab (own_abs seed)) 0)), .val (.int (own_nx (own_adv (own_tab (own_abs seed)) 0) 1)), .val (.int (own_nx (own_adv (own_adv (own_tab (own_abs seed)) 0) 1) 2)), .unset, .unset] [(.int (own_nx (own_adv (own_tab (own_abs seed)) 0) 1))])) (fun t hr => XS.iload X_24.here hx rfl (hb hby at_92) rfl hr) ?_
    obtain ⟨v_25, T_25, h_25, L_25, X_25, e_25, Q_25, st_25⟩ := own_callS X_24 hx hZ (y := ⟨"com/example/moduline/moduline/library/RandomNextPinLaw", "inRange", "(I)Z"⟩) hown (hw _ (List.mem_of_getElem? (i := 31) rfl)) (hw _ (List.mem_of_getElem? (i := 32) rfl)) (hw _ (List.mem_of_getElem? (i := 33) rfl)) (hw _ (List.mem_of_getElem? (i := 34) rfl)) (by decide) e_24 (argsL := [(.int (own_nx (own_adv (own_tab (own_abs seed)) 0) 1))]) (rest := []) (rmI l Z a0 hw (own_nx (own_adv (own_tab (own_abs seed)) 0) 1) h_22 n0 (by omega)) (g := (mkF m 94 #[.val (.int p1), .val (.int p2), .val (.int vmag), .val (.int seed), .val (.ref ad_2), .val (.ref ad_4), .val (.int (own_nx (own_tab (own_abs seed)) 0)), .val (.int (own_nx (own_adv (own_tab (own_abs seed)) 0) 1)), .val (.int (own_nx (own_adv (own_adv (own_tab (own_abs seed)) 0) 1) 2)), .val (.int (own_nx (own_tab (own_abs seed)) 0)), .val (.int (own_nx (own_adv (own_tab (own_abs seed)) 0) 1)), .val (.int (own_nx (own_adv (own_adv (own_tab (own_abs seed)) 0) 1) 2)), .unset, .unset] [(.int (own_nx (own_adv (own_tab (own_abs seed)) 0) 1))])) rfl (by rw [hml]; rfl) (lenOf pd_3 rfl) rfl (hb hby at_94) (W := 0) (by show 2 * 0 + _ ≤ _; exact Nat.le_of_eq rfl) (by decide) (by decide) (by decide) (by decide)
    obtain ⟨rfl, N_25, hh_25⟩ := Q_25
    have N_25' := Fr.app N_24' N_25
    rw [hh_25] at e_25
    refine Go.st (S' := T_25.setTop (mkF m 97 #[.val (.int p1), .val (.int p2), .val (.int vmag), .val (.int seed), .val (.ref ad_2), .val (.ref ad_4), .val (.int (own_nx (own_tab (own_abs seed)) 0)), .val (.int (own_nx (own_adv (own_tab (own_abs seed)) 0) 1)), .val (.int (own_nx (own_adv (own_adv (own_tab (own_abs seed)) 0) 1) 2)), .val (.int (own_nx (own_tab (own_abs seed)) 0)), .val (.int (own_nx (own_adv (own_tab (own_abs seed)) 0) 1)), .val (.int (own_nx (own_adv (own_adv (own_tab (own_abs seed)) 0) 1) 2)), .unset, .unset] [(.int (own_inr (own_nx (own_adv (own_tab (own_abs seed)) 0) 1)))])) st_25 ?_
    refine Go.st (S' := T_25.setTop (mkF m 100 #[.val (.int p1), .val (.int p2), .val (.int vmag), .val (.int seed), .val (.ref ad_2), .val (.ref ad_4), .val (.int (own_nx (own_tab (own_abs seed)) 0)), .val (.int (own_nx (own_adv (own_tab (own_abs seed)) 0) 1)), .val (.int (own_nx (own_adv (own_adv (own_tab (own_abs seed)) 0) 1) 2)), .val (.int (own_nx (own_tab (own_abs seed)) 0)), .val (.int (own_nx (own_adv (own_tab (own_abs seed)) 0) 1)), .val (.int (own_nx (own_adv (own_adv (own_tab (own_abs seed)) 0) 1) 2)), .unset, .unset] [])) (fun t hr => XS.ifNo X_25.here hx rfl (hb hby at_97) rfl (XT.i0_eq_f (by rw [own_inr1 (own_nx_rg (own_adv_ok hok (by decide)) (by decide))]; decide)) hr) ?_
    refine Go.st (S' := T_25.setTop (mkF m 102 #[.val (.int p1), .val (.int p2), .val (.int vmag), .val (.int seed), .val (.ref ad_2), .val (.ref ad_4), .val (.int (own_nx (own_tab (own_abs seed)) 0)), .val (.int (own_nx (own_adv (own_tab (own_abs seed)) 0) 1)), .val (.int (own_nx (own_adv (own_adv (own_tab (own_abs seed)) 0) 1) 2)), .val (.int (own_nx (own_tab (own_abs seed)) 0)), .val (.int (own_nx (own_adv (own_tab (own_abs seed)) 0) 1)), .val (.int (own_nx (own_adv (own_adv (own_tab (own_abs seed)) 0) 1) 2)), .unset, .unset] [(.int (own_nx (own_adv (own_adv (own_tab (own_abs seed)) 0) 1) 2))])) (fun t hr => XS.iload X_25.here hx rfl (hb hby at_100) rfl hr) ?_
    obtain ⟨v_26, T_26, h_26, L_26, X_26, e_26, Q_26, st_26⟩ := own_callS X_25 hx hZ (y := ⟨"com/example/moduline/moduline/library/RandomNextPinLaw", "inRange", "(I)Z"⟩) hown (hw _ (List.mem_of_getElem? (i := 31) rfl)) (hw _ (List.mem_of_getElem? (i := 32) rfl)) (hw _ (List.mem_of_getElem? (i := 33) rfl)) (hw _ (List.mem_of_getElem? (i := 34) rfl)) (by decide) e_25 (argsL := [(.int (own_nx (own_adv (own_adv (own_tab (own_abs seed)) 0) 1) 2))]) (rest := []) (rmI l Z a0 hw (own_nx (own_adv (own_adv (own_tab (own_abs seed)) 0) 1) 2) h_22 n0 (by omega)) (g := (mkF m 102 #[.val (.int p1), .val (.int p2), .val (.int vmag), .val (.int seed), .val (.ref ad_2), .val (.ref ad_4), .val (.int (own_nx (own_tab (own_abs seed)) 0)), .val (.int (own_nx (own_adv (own_tab (own_abs seed)) 0) 1)), .val (.int (own_nx (own_adv (own_adv (own_tab (own_abs seed)) 0) 1) 2)), .val (.int (own_nx (own_tab (own_abs seed)) 0)), .val (.int (own_nx (own_adv (own_tab (own_abs seed)) 0) 1)), .val (.int (own_nx (own_adv (own_adv (own_tab (own_abs seed)) 0) 1) 2)), .unset, .unset] [(.int (own_nx (own_adv (own_adv (own_tab (own_abs seed)) 0) 1) 2))])) rfl (by rw [hml]; rfl) (lenOf pd_3 rfl) rfl (hb hby at_102) (W := 0) (by show 2 * 0 + _ ≤ _; exact Nat.le_of_eq rfl) (by decide) (by decide) (by decide) (by decide)
    obtain ⟨rfl, N_26, hh_26⟩ := Q_26
    have N_26' := Fr.app N_25' N_26
    rw [hh_26] at e_26
    refine Go.st (S' := T_26.setTop (mkF m 105 #[.val (.int p1), .val (.int p2), .val (.int vmag), .val (.int seed), .val (.ref ad_2), .val (.ref ad_4), .val (.int (own_nx (own_tab (own_abs seed)) 0)), .val (.int (own_nx (own_adv (own_tab (own_abs seed)) 0) 1)), .val (.int (own_nx (own_adv (own_adv (own_tab (own_abs seed)) 0) 1) 2)), .val (.int (own_nx (own_tab (own_abs seed)) 0)), .val (.int (own_nx (own_adv (own_tab (own_abs seed)) 0) 1)), .val (.int (own_nx (own_adv (own_adv (own_tab (own_abs seed)) 0) 1) 2)), .unset, .unset] [(.int (own_inr (own_nx (own_adv (own_adv (own_tab (own_abs seed)) 0) 1) 2)))])) st_26 ?_
    refine Go.st (S' := T_26.setTop (mkF m 108 #[.val (.int p1), .val (.int p2), .val (.int vmag), .val (.int seed), .val (.ref ad_2), .val (.ref ad_4), .val (.int (own_nx (own_tab (own_abs seed)) 0)), .val (.int (own_nx (own_adv (own_tab (own_abs seed)) 0) 1)), .val (.int (own_nx (own_adv (own_adv (own_tab (own_abs seed)) 0) 1) 2)), .val (.int (own_nx (own_tab (own_abs seed)) 0)), .val (.int (own_nx (own_adv (own_tab (own_abs seed)) 0) 1)), .val (.int (own_nx (own_adv (own_adv (own_tab (own_abs seed)) 0) 1) 2)), .unset, .unset] [])) (fun t hr => XS.ifNo X_26.here hx rfl (hb hby at_105) rfl (XT.i0_eq_f (by rw [own_inr1 (own_nx_rg (own_adv_ok (own_adv_ok hok (by decide)) (by decide)) (by decide))]; decide)) hr) ?_
    refine Go.st (S' := T_26.setTop (mkF m 109 #[.val (.int p1), .val (.int p2), .val (.int vmag), .val (.int seed), .val (.ref ad_2), .val (.ref ad_4), .val (.int (own_nx (own_tab (own_abs seed)) 0)), .val (.int (own_nx (own_adv (own_tab (own_abs seed)) 0) 1)), .val (.int (own_nx (own_adv (own_adv (own_tab (own_abs seed)) 0) 1) 2)), .val (.int (own_nx (own_tab (own_abs seed)) 0)), .val (.int (own_nx (own_adv (own_tab (own_abs seed)) 0) 1)), .val (.int (own_nx (own_adv (own_adv (own_tab (own_abs seed)) 0) 1) 2)), .unset, .unset] [(.int (1 : Int32))])) (fun t hr => XS.iconst X_26.here hx rfl (hb hby at_108) hr) ?_
    refine Go.st (S' := T_26.setTop (mkF m 113 #[.val (.int p1), .val (.int p2), .val (.int vmag), .val (.int seed), .val (.ref ad_2), .val (.ref ad_4), .val (.int (own_nx (own_tab (own_abs seed)) 0)), .val (.int (own_nx (own_adv (own_tab (own_abs seed)) 0) 1)), .val (.int (own_nx (own_adv (own_adv (own_tab (own_abs seed)) 0) 1) 2)), .val (.int (own_nx (own_tab (own_abs seed)) 0)), .val (.int (own_nx (own_adv (own_tab (own_abs seed)) 0) 1)), .val (.int (own_nx (own_adv (own_adv (own_tab (own_abs seed)) 0) 1) 2)), .unset, .unset] [(.int (1 : Int32))])) (fun t hr => XS.goto X_26.here hx rfl (pc0 := 109) (pc' := 113) rfl (hb hby at_109) (by decide) (by decide) hr) ?_
    refine Go.st (S' := T_26.setTop (mkF m 115 #[.val (.int p1), .val (.int p2), .val (.int vmag), .val (.int seed), .val (.ref ad_2), .val (.ref ad_4), .val (.int (own_nx (own_tab (own_abs seed)) 0)), .val (.int (own_nx (own_adv (own_tab (own_abs seed)) 0) 1)), .val (.int (own_nx (own_adv (own_adv (own_tab (own_abs seed)) 0) 1) 2)), .val (.int (own_nx (own_tab (own_abs seed)) 0)), .val (.int (own_nx (own_adv (own_tab (own_abs seed)) 0) 1)), .val (.int (own_nx (own_adv (own_adv (own_tab (own_abs seed)) 0) 1) 2)), .val (.int (1 : Int32)), .unset] [])) (fun t hr => XS.istore X_26.here hx rfl (hb hby at_113) rfl (l' := #[.val (.int p1), .val (.int p2), .val (.int vmag), .val (.int seed), .val (.ref ad_2), .val (.ref ad_4), .val (.int (own_nx (own_tab (own_abs seed)) 0)), .val (.int (own_nx (own_adv (own_tab (own_abs seed)) 0) 1)), .val (.int (own_nx (own_adv (own_adv (own_tab (own_abs seed)) 0) 1) 2)), .val (.int (own_nx (own_tab (own_abs seed)) 0)), .val (.int (own_nx (own_adv (own_tab (own_abs seed)) 0) 1)), .val (.int (own_nx (own_adv (own_adv (own_tab (own_abs seed)) 0) 1) 2)), .val (.int (1 : Int32)), .unset]) rfl hr) ?_
    refine Go.st (S' := T_26.setTop (mkF m 117 #[.val (.int p1), .val (.int p2), .val (.int vmag), .val (.int seed), .val (.ref ad_2), .val (.ref ad_4), .val (.int (own_nx (own_tab (own_abs seed)) 0)), .val (.int (own_nx (own_adv (own_tab (own_abs seed)) 0) 1)), .val (.int (own_nx (own_adv (own_adv (own_tab (own_abs seed)) 0) 1) 2)), .val (.int (own_nx (own_tab (own_abs seed)) 0)), .val (.int (own_nx (own_adv (own_tab (own_abs seed)) 0) 1)), .val (.int (own_nx (own_adv (own_adv (own_tab (own_abs seed)) 0) 1) 2)), .val (.int (1 : Int32)), .unset] [(.int (own_nx (own_tab (own_abs seed)) 0))])) (fun t hr => XS.iload X_26.here hx rfl (hb hby at_115) rfl hr) ?_
    refine Go.st (S' := T_26.setTop (mkF m 119 #[.val (.int p1), .val (.int p2), .val (.int vmag), .val (.int seed), .val (.ref ad_2), .val (.ref ad_4), .val (.int (own_nx (own_tab (own_abs seed)) 0)), .val (.int (own_nx (own_adv (own_tab (own_abs seed)) 0) 1)), .val (.int (own_nx (own_adv (own_adv (own_tab (own_abs seed)) 0) 1) 2)), .val (.int (own_nx (own_tab (own_abs seed)) 0)), .val (.int (own_nx (own_adv (own_tab (own_abs seed)) 0) 1)), .val (.int (own_nx (own_adv (own_adv (own_tab (own_abs seed)) 0) 1) 2)), .val (.int (1 : Int32)), .unset] [(.int (own_nx (own_tab (own_abs seed)) 0)), (.int (own_nx (own_tab (own_abs seed)) 0))])) (fun t hr => XS.iload X_26.here hx rfl (hb hby at_117) rfl hr) ?_
    refine Go.st (S' := T_26.setTop (mkF m 122 #[.val (.int p1), .val (.int p2), .val (.int vmag), .val (.int seed), .val (.ref ad_2), .val (.ref ad_4), .val (.int (own_nx (own_tab (own_abs seed)) 0)), .val (.int (own_nx (own_adv (own_tab (own_abs seed)) 0) 1)), .val (.int (own_nx (own_adv (own_adv (own_tab (own_abs seed)) 0) 1) 2)), .val (.int (own_nx (own_tab (own_abs seed)) 0)), .val (.int (own_nx (own_adv (own_tab (own_abs seed)) 0) 1)), .val (.int (own_nx (own_adv (own_adv (own_tab (own_abs seed)) 0) 1) 2)), .val (.int (1 : Int32)), .unset] [])) (fun t hr => XS.icmpNo X_26.here hx rfl (hb hby at_119) rfl (XT.ii_ne_f rfl) hr) ?_
    refine Go.st (S' := T_26.setTop (mkF m 124 #[.val (.int p1), .val (.int p2), .val (.int vmag), .val (.int seed), .val (.ref ad_2), .val (.ref ad_4), .val (.int (own_nx (own_tab (own_abs seed)) 0)), .val (.int (own_nx (own_adv (own_tab (own_abs seed)) 0) 1)), .val (.int (own_nx (own_adv (own_adv (own_tab (own_abs seed)) 0) 1) 2)), .val (.int (own_nx (own_tab (own_abs seed)) 0)), .val (.int (own_nx (own_adv (own_tab (own_abs seed)) 0) 1)), .val (.int (own_nx (own_adv (own_adv (own_tab (own_abs seed)) 0) 1) 2)), .val (.int (1 : Int32)), .unset] [(.int (own_nx (own_adv (own_tab (own_abs seed)) 0) 1))])) (fun t hr => XS.iload X_26.here hx rfl (hb hby at_122) rfl hr) ?_
    refine Go.st (S' := T_26.setTop (mkF m 126 #[.val (.int p1), .val (.int p2), .val (.int vmag), .val (.int seed), .val (.ref ad_2), .val (.ref ad_4), .val (.int (own_nx (own_tab (own_abs seed)) 0)), .val (.int (own_nx (own_adv (own_tab (own_abs seed)) 0) 1)), .val (.int (own_nx (own_adv (own_adv (own_tab (own_abs seed)) 0) 1) 2)), .val (.int (own_nx (own_tab (own_abs seed)) 0)), .val (.int (own_nx (own_adv (own_tab (own_abs seed)) 0) 1)), .val (.int (own_nx (own_adv (own_adv (own_tab (own_abs seed)) 0) 1) 2)), .val (.int (1 : Int32)), .unset] [(.int (own_nx (own_adv (own_tab (own_abs seed)) 0) 1)), (.int (own_nx (own_adv (own_tab (own_abs seed)) 0) 1))])) (fun t hr => XS.iload X_26.here hx rfl (hb hby at_124) rfl hr) ?_
    refine Go.st (S' := T_26.setTop (mkF m 129 #[.val (.int p1), .val (.int p2), .val (.int vmag), .val (.int seed), .val (.ref ad_2), .val (.ref ad_4), .val (.int (own_nx (own_tab (own_abs seed)) 0)), .val (.int (own_nx (own_adv (own_tab (own_abs seed)) 0) 1)), .val (.int (own_nx (own_adv (own_adv (own_tab (own_abs seed)) 0) 1) 2)), .val (.int (own_nx (own_tab (own_abs seed)) 0)), .val (.int (own_nx (own_adv (own_tab (own_abs seed)) 0) 1)), .val (.int (own_nx (own_adv (own_adv (own_tab (own_abs seed)) 0) 1) 2)), .val (.int (1 : Int32)), .unset] [])) (fun t hr => XS.icmpNo X_26.here hx rfl (hb hby at_126) rfl (XT.ii_ne_f rfl) hr) ?_
    refine Go.st (S' := T_26.setTop (mkF m 131 #[.val (.int p1), .val (.int p2), .val (.int vmag), .val (.int seed), .val (.ref ad_2), .val (.ref ad_4), .val (.int (own_nx (own_tab (own_abs seed)) 0)), .val (.int (own_nx (own_adv (own_tab (own_abs seed)) 0) 1)), .val (.int (own_nx (own_adv (own_adv (own_tab (own_abs seed)) 0) 1) 2)), .val (.int (own_nx (own_tab (own_abs seed)) 0)), .val (.int (own_nx (own_adv (own_tab (own_abs seed)) 0) 1)), .val (.int (own_nx (own_adv (own_adv (own_tab (own_abs seed)) 0) 1) 2)), .val (.int (1 : Int32)), .unset] [(.int (own_nx (own_adv (own_adv (own_tab (own_abs seed)) 0) 1) 2))])) (fun t hr => XS.iload X_26.here hx rfl (hb hby at_129) rfl hr) ?_
    refine Go.st (S' := T_26.setTop (mkF m 133 #[.val (.int p1), .val (.int p2), .val (.int vmag), .val (.int seed), .val (.ref ad_2), .val (.ref ad_4), .val (.int (own_nx (own_tab (own_abs seed)) 0)), .val (.int (own_nx (own_adv (own_tab (own_abs seed)) 0) 1)), .val (.int (own_nx (own_adv (own_adv (own_tab (own_abs seed)) 0) 1) 2)), .val (.int (own_nx (own_tab (own_abs seed)) 0)), .val (.int (own_nx (own_adv (own_tab (own_abs seed)) 0) 1)), .val (.int (own_nx (own_adv (own_adv (own_tab (own_abs seed)) 0) 1) 2)), .val (.int (1 : Int32)), .unset] [(.int (own_nx (own_adv (own_adv (own_tab (own_abs seed)) 0) 1) 2)), (.int (own_nx (own_adv (own_adv (own_tab (own_abs seed)) 0) 1) 2))])) (fun t hr => XS.iload X_26.here hx rfl (hb hby at_131) rfl hr) ?_
    refine Go.st (S' := T_26.setTop (mkF m 136 #[.val (.int p1), .val (.int p2), .val (.int vmag), .val (.int seed), .val (.ref ad_2), .val (.ref ad_4), .val (.int (own_nx (own_tab (own_abs seed)) 0)), .val (.int (own_nx (own_adv (own_tab (own_abs seed)) 0) 1)), .val (.int (own_nx (own_adv (own_adv (own_tab (own_abs seed)) 0) 1) 2)), .val (.int (own_nx (own_tab (own_abs seed)) 0)), .val (.int (own_nx (own_adv (own_tab (own_abs seed)) 0) 1)), .val (.int (own_nx (own_adv (own_adv (own_tab (own_abs seed)) 0) 1) 2)), .val (.int (1 : Int32)), .unset] [])) (fun t hr => XS.icmpNo X_26.here hx rfl (hb hby at_133) rfl (XT.ii_ne_f rfl) hr) ?_
    refine Go.st (S' := T_26.setTop (mkF m 137 #[.val (.int p1), .val (.int p2), .val (.int vmag), .val (.int seed), .val (.ref ad_2), .val (.ref ad_4), .val (.int (own_nx (own_tab (own_abs seed)) 0)), .val (.int (own_nx (own_adv (own_tab (own_abs seed)) 0) 1)), .val (.int (own_nx (own_adv (own_adv (own_tab (own_abs seed)) 0) 1) 2)), .val (.int (own_nx (own_tab (own_abs seed)) 0)), .val (.int (own_nx (own_adv (own_tab (own_abs seed)) 0) 1)), .val (.int (own_nx (own_adv (own_adv (own_tab (own_abs seed)) 0) 1) 2)), .val (.int (1 : Int32)), .unset] [(.int (1 : Int32))])) (fun t hr => XS.iconst X_26.here hx rfl (hb hby at_136) hr) ?_
    refine Go.st (S' := T_26.setTop (mkF m 141 #[.val (.int p1), .val (.int p2), .val (.int vmag), .val (.int seed), .val (.ref ad_2), .val (.ref ad_4), .val (.int (own_nx (own_tab (own_abs seed)) 0)), .val (.int (own_nx (own_adv (own_tab (own_abs seed)) 0) 1)), .val (.int (own_nx (own_adv (own_adv (own_tab (own_abs seed)) 0) 1) 2)), .val (.int (own_nx (own_tab (own_abs seed)) 0)), .val (.int (own_nx (own_adv (own_tab (own_abs seed)) 0) 1)), .val (.int (own_nx (own_adv (own_adv (own_tab (own_abs seed)) 0) 1) 2)), .val (.int (1 : Int32)), .unset] [(.int (1 : Int32))])) (fun t hr => XS.goto X_26.here hx rfl (pc0 := 137) (pc' := 141) rfl (hb hby at_137) (by decide) (by decide) hr) ?_
    refine Go.st (S' := T_26.setTop (mkF m 143 #[.val (.int p1), .val (.int p2), .val (.int vmag), .val (.int seed), .val (.ref ad_2), .val (.ref ad_4), .val (.int (own_nx (own_tab (own_abs seed)) 0)), .val (.int (own_nx (own_adv (own_tab (own_abs seed)) 0) 1)), .val (.int (own_nx (own_adv (own_adv (own_tab (own_abs seed)) 0) 1) 2)), .val (.int (own_nx (own_tab (own_abs seed)) 0)), .val (.int (own_nx (own_adv (own_tab (own_abs seed)) 0) 1)), .val (.int (own_nx (own_adv (own_adv (own_tab (own_abs seed)) 0) 1) 2)), .val (.int (1 : Int32)), .val (.int (1 : Int32))] [])) (fun t hr => XS.istore X_26.here hx rfl (hb hby at_141) rfl (l' := #[.val (.int p1), .val (.int p2), .val (.int vmag), .val (.int seed), .val (.ref ad_2), .val (.ref ad_4), .val (.int (own_nx (own_tab (own_abs seed)) 0)), .val (.int (own_nx (own_adv (own_tab (own_abs seed)) 0) 1)), .val (.int (own_nx (own_adv (own_adv (own_tab (own_abs seed)) 0) 1) 2)), .val (.int (own_nx (own_tab (own_abs seed)) 0)), .val (.int (own_nx (own_adv (own_tab (own_abs seed)) 0) 1)), .val (.int (own_nx (own_adv (own_adv (own_tab (own_abs seed)) 0) 1) 2)), .val (.int (1 : Int32)), .val (.int (1 : Int32))]) rfl hr) ?_
    refine Go.st (S' := T_26.setTop (mkF m 145 #[.val (.int p1), .val (.int p2), .val (.int vmag), .val (.int seed), .val (.ref ad_2), .val (.ref ad_4), .val (.int (own_nx (own_tab (own_abs seed)) 0)), .val (.int (own_nx (own_adv (own_tab (own_abs seed)) 0) 1)), .val (.int (own_nx (own_adv (own_adv (own_tab (own_abs seed)) 0) 1) 2)), .val (.int (own_nx (own_tab (own_abs seed)) 0)), .val (.int (own_nx (own_adv (own_tab (own_abs seed)) 0) 1)), .val (.int (own_nx (own_adv (own_adv (own_tab (own_abs seed)) 0) 1) 2)), .val (.int (1 : Int32)), .val (.int (1 : Int32))] [(.int (1 : Int32))])) (fun t hr => XS.iload X_26.here hx rfl (hb hby at_143) rfl hr) ?_
    refine Go.st (S' := T_26.setTop (mkF m 148 #[.val (.int p1), .val (.int p2), .val (.int vmag), .val (.int seed), .val (.ref ad_2), .val (.ref ad_4), .val (.int (own_nx (own_tab (own_abs seed)) 0)), .val (.int (own_nx (own_adv (own_tab (own_abs seed)) 0) 1)), .val (.int (own_nx (own_adv (own_adv (own_tab (own_abs seed)) 0) 1) 2)), .val (.int (own_nx (own_tab (own_abs seed)) 0)), .val (.int (own_nx (own_adv (own_tab (own_abs seed)) 0) 1)), .val (.int (own_nx (own_adv (own_adv (own_tab (own_abs seed)) 0) 1) 2)), .val (.int (1 : Int32)), .val (.int (1 : Int32))] [])) (fun t hr => XS.ifNo X_26.here hx rfl (hb hby at_145) rfl (XT.i0_eq_f (by decide)) hr) ?_
    refine Go.st (S' := T_26.setTop (mkF m 150 #[.val (.int p1), .val (.int p2), .val (.int vmag), .val (.int seed), .val (.ref ad_2), .val (.ref ad_4), .val (.int (own_nx (own_tab (own_abs seed)) 0)), .val (.int (own_nx (own_adv (own_tab (own_abs seed)) 0) 1)), .val (.int (own_nx (own_adv (own_adv (own_tab (own_abs seed)) 0) 1) 2)), .val (.int (own_nx (own_tab (own_abs seed)) 0)), .val (.int (own_nx (own_adv (own_tab (own_abs seed)) 0) 1)), .val (.int (own_nx (own_adv (own_adv (own_tab (own_abs seed)) 0) 1) 2)), .val (.int (1 : Int32)), .val (.int (1 : Int32))] [(.int (1 : Int32))])) (fun t hr => XS.iload X_26.here hx rfl (hb hby at_148) rfl hr) ?_
    refine Go.st (S' := T_26.setTop (mkF m 153 #[.val (.int p1), .val (.int p2), .val (.int vmag), .val (.int seed), .val (.ref ad_2), .val (.ref ad_4), .val (.int (own_nx (own_tab (own_abs seed)) 0)), .val (.int (own_nx (own_adv (own_tab (own_abs seed)) 0) 1)), .val (.int (own_nx (own_adv (own_adv (own_tab (own_abs seed)) 0) 1) 2)), .val (.int (own_nx (own_tab (own_abs seed)) 0)), .val (.int (own_nx (own_adv (own_tab (own_abs seed)) 0) 1)), .val (.int (own_nx (own_adv (own_adv (own_tab (own_abs seed)) 0) 1) 2)), .val (.int (1 : Int32)), .val (.int (1 : Int32))] [])) (fun t hr => XS.ifNo X_26.here hx rfl (hb hby at_150) rfl (XT.i0_eq_f (by decide)) hr) ?_
    refine Go.st (S' := T_26.setTop (mkF m 154 #[.val (.int p1), .val (.int p2), .val (.int vmag), .val (.int seed), .val (.ref ad_2), .val (.ref ad_4), .val (.int (own_nx (own_tab (own_abs seed)) 0)), .val (.int (own_nx (own_adv (own_tab (own_abs seed)) 0) 1)), .val (.int (own_nx (own_adv (own_adv (own_tab (own_abs seed)) 0) 1) 2)), .val (.int (own_nx (own_tab (own_abs seed)) 0)), .val (.int (own_nx (own_adv (own_tab (own_abs seed)) 0) 1)), .val (.int (own_nx (own_adv (own_adv (own_tab (own_abs seed)) 0) 1) 2)), .val (.int (1 : Int32)), .val (.int (1 : Int32))] [(.int (1 : Int32))])) (fun t hr => XS.iconst X_26.here hx rfl (hb hby at_153) hr) ?_
    refine Go.st (S' := T_26.setTop (mkF m 158 #[.val (.int p1), .val (.int p2), .val (.int vmag), .val (.int seed), .val (.ref ad_2), .val (.ref ad_4), .val (.int (own_nx (own_tab (own_abs seed)) 0)), .val (.int (own_nx (own_adv (own_tab (own_abs seed)) 0) 1)), .val (.int (own_nx (own_adv (own_adv (own_tab (own_abs seed)) 0) 1) 2)), .val (.int (own_nx (own_tab (own_abs seed)) 0)), .val (.int (own_nx (own_adv (own_tab (own_abs seed)) 0) 1)), .val (.int (own_nx (own_adv (own_adv (own_tab (own_abs seed)) 0) 1) 2)), .val (.int (1 : Int32)), .val (.int (1 : Int32))] [(.int (1 : Int32))])) (fun t hr => XS.goto X_26.here hx rfl (pc0 := 154) (pc' := 158) rfl (hb hby at_154) (by decide) (by decide) hr) ?_
    refine Go.retN X_26 hx hlk (t := .boolean) hret (by simp) (hb hby at_158) (by decide) (by decide) ?_
    try rw [e_26]
    exact ⟨rfl, N_26'⟩
  · refine Go.st (S' := T0.setTop (mkF m 14 #[.val (.int p1), .val (.int p2), .val (.int vmag), .unset, .unset, .unset, .unset, .unset, .unset, .unset, .unset, .unset, .unset, .unset] [])) (fun t hr => XS.ifNo X0.here hx rfl (hb hby at_11) rfl (XT.i0_eq_f hc1) hr) ?_
    refine Go.st (S' := T0.setTop (mkF m 15 #[.val (.int p1), .val (.int p2), .val (.int vmag), .unset, .unset, .unset, .unset, .unset, .unset, .unset, .unset, .unset, .unset, .unset] [(.int vmag)])) (fun t hr => XS.iloadN X0.here hx rfl (hb hby at_14) rfl hr) ?_
    refine Go.st (S' := T0.setTop (mkF m 16 #[.val (.int p1), .val (.int p2), .val (.int vmag), .unset, .unset, .unset, .unset, .unset, .unset, .unset, .unset, .unset, .unset, .unset] [(.int (-vmag))])) (fun t hr => XS.ineg X0.here hx rfl (hb hby at_15) rfl hr) ?_
    refine Go.st (S' := T0.setTop (mkF m 20 #[.val (.int p1), .val (.int p2), .val (.int vmag), .unset, .unset, .unset, .unset, .unset, .unset, .unset, .unset, .unset, .unset, .unset] [(.int (-vmag))])) (fun t hr => XS.goto X0.here hx rfl (pc0 := 16) (pc' := 20) rfl (hb hby at_16) (by decide) (by decide) hr) ?_
    obtain ⟨seed, hseed⟩ : ∃ z : Int32, z = (-vmag) := ⟨_, rfl⟩
    refine Go.st (S' := T0.setTop (mkF m 21 #[.val (.int p1), .val (.int p2), .val (.int vmag), .val (.int seed), .unset, .unset, .unset, .unset, .unset, .unset, .unset, .unset, .unset, .unset] [])) (fun t hr => by subst hseed; exact XS.istoreN X0.here hx rfl (hb hby at_20) rfl (l' := _) rfl hr) ?_
    have hs0 : -161803398 ≤ seed.toInt := by have q := c_ineg vmag; have q2 := rng32 (-vmag); rw [hseed]; omega
    have hs1 : seed.toInt ≤ 161803398 := by have q := c_ineg vmag; have q2 := rng32 (-vmag); rw [hseed]; omega
    have hn0 : -161803398 ≤ (-seed).toInt := by have q := c_ineg seed; have q2 := rng32 (-seed); omega
    have hn1 : (-seed).toInt ≤ 161803398 := by have q := c_ineg seed; have q2 := rng32 (-seed); omega
    have hab := own_abs_rg hs0 hs1
    have hok := own_tab_ok hab.1 hab.2
    obtain ⟨T_27, h_27, X_27, e_27, E_27, A_27, D_27, -, st_27⟩ := newO X0 hx hZ hown (hw _ (List.mem_of_getElem? (i := 2) rfl)) (hw _ (List.mem_of_getElem? (i := 3) rfl)) (hw _ (List.mem_of_getElem? (i := 4) rfl)) e0 (g := (mkF m 21 #[.val (.int p1), .val (.int p2), .val (.int vmag), .val (.int seed), .unset, .unset, .unset, .unset, .unset, .unset, .unset, .unset, .unset, .unset] [])) rfl (hb hby at_21) (by decide) (by decide)
    obtain ⟨ad_27, g_27⟩ : ∃ z, z = h0.size := ⟨_, rfl⟩
    rw [← g_27] at A_27 D_27 st_27
    have z_27 := E_27.1
    have y_27 := own_ltE A_27
    have F_27_table : Fld Z h_27 ad_27 "com/example/moduline/moduline/library/Random" "table" "[I" .null := D_27 (Or.inr (hw _ (List.mem_of_getElem? (i := 13) rfl))) (ty := (.array .int)) (by decide)
    have F_27_position : Fld Z h_27 ad_27 "com/example/moduline/moduline/library/Random" "position" "I" (.int (0 : Int32)) := D_27 (Or.inl (hw _ (List.mem_of_getElem? (i := 30) rfl))) (ty := .int) (by decide)
    refine Go.st (S' := T_27.setTop (mkF m 24 #[.val (.int p1), .val (.int p2), .val (.int vmag), .val (.int seed), .unset, .unset, .unset, .unset, .unset, .unset, .unset, .unset, .unset, .unset] [(.ref ad_27)])) st_27 ?_
    refine Go.st (S' := T_27.setTop (mkF m 25 #[.val (.int p1), .val (.int p2), .val (.int vmag), .val (.int seed), .unset, .unset, .unset, .unset, .unset, .unset, .unset, .unset, .unset, .unset] [(.ref ad_27), (.ref ad_27)])) (fun t hr => XS.dup X_27.here hx rfl (hb hby at_24) rfl rfl hr) ?_
    refine Go.st (S' := T_27.setTop (mkF m 26 #[.val (.int p1), .val (.int p2), .val (.int vmag), .val (.int seed), .unset, .unset, .unset, .unset, .unset, .unset, .unset, .unset, .unset, .unset] [(.int seed), (.ref ad_27), (.ref ad_27)])) (fun t hr => XS.iloadN X_27.here hx rfl (hb hby at_25) rfl hr) ?_
    obtain ⟨v_28, T_28, h_28, L_28, X_28, e_28, Q_28, st_28⟩ := own_callN X_27 hx hZ (y := ⟨"com/example/moduline/moduline/library/Random", "<init>", "(I)V"⟩) rfl hown (hw _ (List.mem_of_getElem? (i := 5) rfl)) (hw _ (List.mem_of_getElem? (i := 6) rfl)) (hw _ (List.mem_of_getElem? (i := 4) rfl)) (hw _ (List.mem_of_getElem? (i := 7) rfl)) (by decide) e_27 (a := ad_27) (argsL := [(.int seed)]) (rest := [(.ref ad_27)]) (rmC l Z a0 hw ad_27 seed h_27 n0 (by omega) A_27 F_27_table F_27_position (by omega) (by omega) (by omega)) (g := (mkF m 26 #[.val (.int p1), .val (.int p2), .val (.int vmag), .val (.int seed), .unset, .unset, .unset, .unset, .unset, .unset, .unset, .unset, .unset, .unset] [(.int seed), (.ref ad_27), (.ref ad_27)])) rfl (by rw [hml]; rfl) (lenOf pd_1 rfl) rfl (hb hby at_26) (W := 1) (by show 2 * 0 + _ ≤ _; exact Nat.le_of_eq rfl) (by decide) (by decide) (by decide) (by decide)
    obtain ⟨rfl, N_28, K_28, ta_28, gt_28, G1_28, G2_28, A_28⟩ := Q_28
    have N_28' := Fr.app N0 N_28
    have z_28 := K_28.1
    have y_28 := own_ltA A_28
    refine Go.st (S' := T_28.setTop (mkF m 29 #[.val (.int p1), .val (.int p2), .val (.int vmag), .val (.int seed), .unset, .unset, .unset, .unset, .unset, .unset, .unset, .unset, .unset, .unset] [(.ref ad_27)])) st_28 ?_
    refine Go.st (S' := T_28.setTop (mkF m 31 #[.val (.int p1), .val (.int p2), .val (.int vmag), .val (.int seed), .val (.ref ad_27), .unset, .unset, .unset, .unset, .unset, .unset, .unset, .unset, .unset] [])) (fun t hr => XS.astore X_28.here hx rfl (hb hby at_29) rfl rfl (l' := #[.val (.int p1), .val (.int p2), .val (.int vmag), .val (.int seed), .val (.ref ad_27), .unset, .unset, .unset, .unset, .unset, .unset, .unset, .unset, .unset]) rfl hr) ?_
    obtain ⟨T_29, h_29, X_29, e_29, E_29, A_29, D_29, -, st_29⟩ := newO X_28 hx hZ hown (hw _ (List.mem_of_getElem? (i := 2) rfl)) (hw _ (List.mem_of_getElem? (i := 3) rfl)) (hw _ (List.mem_of_getElem? (i := 4) rfl)) e_28 (g := (mkF m 31 #[.val (.int p1), .val (.int p2), .val (.int vmag), .val (.int seed), .val (.ref ad_27), .unset, .unset, .unset, .unset, .unset, .unset, .unset, .unset, .unset] [])) rfl (hb hby at_31) (by decide) (by decide)
    obtain ⟨ad_29, g_29⟩ : ∃ z, z = h_28.size := ⟨_, rfl⟩
    rw [← g_29] at A_29 D_29 st_29
    have z_29 := E_29.1
    have y_29 := own_ltE A_29
    have F_29_table : Fld Z h_29 ad_29 "com/example/moduline/moduline/library/Random" "table" "[I" .null := D_29 (Or.inr (hw _ (List.mem_of_getElem? (i := 13) rfl))) (ty := (.array .int)) (by decide)
    have F_29_position : Fld Z h_29 ad_29 "com/example/moduline/moduline/library/Random" "position" "I" (.int (0 : Int32)) := D_29 (Or.inl (hw _ (List.mem_of_getElem? (i := 30) rfl))) (ty := .int) (by decide)
    refine Go.st (S' := T_29.setTop (mkF m 34 #[.val (.int p1), .val (.int p2), .val (.int vmag), .val (.int seed), .val (.ref ad_27), .unset, .unset, .unset, .unset, .unset, .unset, .unset, .unset, .unset] [(.ref ad_29)])) st_29 ?_
    refine Go.st (S' := T_29.setTop (mkF m 35 #[.val (.int p1), .val (.int p2), .val (.int vmag), .val (.int seed), .val (.ref ad_27), .unset, .unset, .unset, .unset, .unset, .unset, .unset, .unset, .unset] [(.ref ad_29), (.ref ad_29)])) (fun t hr => XS.dup X_29.here hx rfl (hb hby at_34) rfl rfl hr) ?_
    refine Go.st (S' := T_29.setTop (mkF m 36 #[.val (.int p1), .val (.int p2), .val (.int vmag), .val (.int seed), .val (.ref ad_27), .unset, .unset, .unset, .unset, .unset, .unset, .unset, .unset, .unset] [(.int seed), (.ref ad_29), (.ref ad_29)])) (fun t hr => XS.iloadN X_29.here hx rfl (hb hby at_35) rfl hr) ?_
    refine Go.st (S' := T_29.setTop (mkF m 37 #[.val (.int p1), .val (.int p2), .val (.int vmag), .val (.int seed), .val (.ref ad_27), .unset, .unset, .unset, .unset, .unset, .unset, .unset, .unset, .unset] [(.int (-seed)), (.ref ad_29), (.ref ad_29)])) (fun t hr => XS.ineg X_29.here hx rfl (hb hby at_36) rfl hr) ?_
    obtain ⟨v_30, T_30, h_30, L_30, X_30, e_30, Q_30, st_30⟩ := own_callN X_29 hx hZ (y := ⟨"com/example/moduline/moduline/library/Random", "<init>", "(I)V"⟩) rfl hown (hw _ (List.mem_of_getElem? (i := 5) rfl)) (hw _ (List.mem_of_getElem? (i := 6) rfl)) (hw _ (List.mem_of_getElem? (i := 4) rfl)) (hw _ (List.mem_of_getElem? (i := 7) rfl)) (by decide) e_29 (a := ad_29) (argsL := [(.int (-seed))]) (rest := [(.ref ad_29)]) (rmC l Z a0 hw ad_29 (-seed) h_29 n0 (by omega) A_29 F_29_table F_29_position (by omega) (by omega) (by omega)) (g := (mkF m 37 #[.val (.int p1), .val (.int p2), .val (.int vmag), .val (.int seed), .val (.ref ad_27), .unset, .unset, .unset, .unset, .unset, .unset, .unset, .unset, .unset] [(.int (-seed)), (.ref ad_29), (.ref ad_29)])) rfl (by rw [hml]; rfl) (lenOf pd_1 rfl) rfl (hb hby at_37) (W := 1) (by show 2 * 0 + _ ≤ _; exact Nat.le_of_eq rfl) (by decide) (by decide) (by decide) (by decide)
    obtain ⟨rfl, N_30, K_30, ta_30, gt_30, G1_30, G2_30, A_30⟩ := Q_30
    have N_30' := Fr.app N_28' N_30
    have z_30 := K_30.1
    rw [own_abs_neg hs0 hs1] at A_30
    have y_30 := own_ltA A_30
    refine Go.st (S' := T_30.setTop (mkF m 40 #[.val (.int p1), .val (.int p2), .val (.int vmag), .val (.int seed), .val (.ref ad_27), .unset, .unset, .unset, .unset, .unset, .unset, .unset, .unset, .unset] [(.ref ad_29)])) st_30 ?_
    refine Go.st (S' := T_30.setTop (mkF m 42 #[.val (.int p1), .val (.int p2), .val (.int vmag), .val (.int seed), .val (.ref ad_27), .val (.ref ad_29), .unset, .unset, .unset, .unset, .unset, .unset, .unset, .unset] [])) (fun t hr => XS.astore X_30.here hx rfl (hb hby at_40) rfl rfl (l' := #[.val (.int p1), .val (.int p2), .val (.int vmag), .val (.int seed), .val (.ref ad_27), .val (.ref ad_29), .unset, .unset, .unset, .unset, .unset, .unset, .unset, .unset]) rfl hr) ?_
    refine Go.st (S' := T_30.setTop (mkF m 44 #[.val (.int p1), .val (.int p2), .val (.int vmag), .val (.int seed), .val (.ref ad_27), .val (.ref ad_29), .unset, .unset, .unset, .unset, .unset, .unset, .unset, .unset] [(.ref ad_27)])) (fun t hr => XS.aload X_30.here hx rfl (hb hby at_42) rfl rfl hr) ?_
    have F_32 := (((A_27.keep K_28).ext E_29).keep K_30)
    have F_33 := ((G1_28.ext E_29).keep K_30 (by simp only [List.mem_cons, List.not_mem_nil, or_false, not_or]; exact own_ne (by omega)))
    have F_34 := ((G2_28.ext E_29).keep K_30 (by simp only [List.mem_cons, List.not_mem_nil, or_false, not_or]; exact own_ne (by omega)))
    have F_35 := ((A_28.ext E_29).keep K_30 (by simp only [List.mem_cons, List.not_mem_nil, or_false, not_or]; exact own_ne (by omega)))
    obtain ⟨v_31, T_31, h_31, L_31, X_31, e_31, Q_31, st_31⟩ := own_callV X_30 hx hZ (C := "com/example/moduline/moduline/library/Random") (y := ⟨"com/example/moduline/moduline/library/Random", "next", "()I"⟩) (z := ⟨"com/example/moduline/moduline/library/Random", "next", "()I"⟩) hown (hw _ (List.mem_of_getElem? (i := 24) rfl)) (hw _ (List.mem_of_getElem? (i := 25) rfl)) (hw _ (List.mem_of_getElem? (i := 27) rfl)) (hw _ (List.mem_of_getElem? (i := 27) rfl)) (hw _ (List.mem_of_getElem? (i := 26) rfl)) (hw _ (List.mem_of_getElem? (i := 4) rfl)) (hw _ (List.mem_of_getElem? (i := 28) rfl)) (by decide) e_30 (a := ad_27) F_32 (argsL := []) (rest := []) (rmN l Z a0 hw ad_27 h_30 n0 (by omega) ta_28 (own_tab (own_abs seed)) 0 (0 : Int32) F_32 F_33 F_34 F_35 hok (by decide) rfl (by omega) (by omega) (by omega)) (g := (mkF m 44 #[.val (.int p1), .val (.int p2), .val (.int vmag), .val (.int seed), .val (.ref ad_27), .val (.ref ad_29), .unset, .unset, .unset, .unset, .unset, .unset, .unset, .unset] [(.ref ad_27)])) rfl (by rw [hml]; rfl) (lenOf pd_2 rfl) rfl (hb hby at_44) (W := 0) (by show 2 * 0 + _ ≤ _; exact Nat.le_of_eq rfl) (by decide) (by decide) (by decide) (by decide)
    obtain ⟨rfl, N_31, K_31, G1_31, ⟨vq_31, hvq_31, G2_31⟩, A_31⟩ := Q_31
    have N_31' := Fr.app N_30' N_31
    have z_31 := K_31.1
    refine Go.st (S' := T_31.setTop (mkF m 47 #[.val (.int p1), .val (.int p2), .val (.int vmag), .val (.int seed), .val (.ref ad_27), .val (.ref ad_29), .unset, .unset, .unset, .unset, .unset, .unset, .unset, .unset] [(.int (own_nx (own_tab (own_abs seed)) 0))])) st_31 ?_
    refine Go.st (S' := T_31.setTop (mkF m 49 #[.val (.int p1), .val (.int p2), .val (.int vmag), .val (.int seed), .val (.ref ad_27), .val (.ref ad_29), .val (.int (own_nx (own_tab (own_abs seed)) 0)), .unset, .unset, .unset, .unset, .unset, .unset, .unset] [])) (fun t hr => XS.istore X_31.here hx rfl (hb hby at_47) rfl (l' := #[.val (.int p1), .val (.int p2), .val (.int vmag), .val (.int seed), .val (.ref ad_27), .val (.ref ad_29), .val (.int (own_nx (own_tab (own_abs seed)) 0)), .unset, .unset, .unset, .unset, .unset, .unset, .unset]) rfl hr) ?_
    refine Go.st (S' := T_31.setTop (mkF m 51 #[.val (.int p1), .val (.int p2), .val (.int vmag), .val (.int seed), .val (.ref ad_27), .val (.ref ad_29), .val (.int (own_nx (own_tab (own_abs seed)) 0)), .unset, .unset, .unset, .unset, .unset, .unset, .unset] [(.ref ad_27)])) (fun t hr => XS.aload X_31.here hx rfl (hb hby at_49) rfl rfl hr) ?_
    have F_37 := (F_32.keep K_31)
    obtain ⟨v_36, T_36, h_36, L_36, X_36, e_36, Q_36, st_36⟩ := own_callV X_31 hx hZ (C := "com/example/moduline/moduline/library/Random") (y := ⟨"com/example/moduline/moduline/library/Random", "next", "()I"⟩) (z := ⟨"com/example/moduline/moduline/library/Random", "next", "()I"⟩) hown (hw _ (List.mem_of_getElem? (i := 24) rfl)) (hw _ (List.mem_of_getElem? (i := 25) rfl)) (hw _ (List.mem_of_getElem? (i := 27) rfl)) (hw _ (List.mem_of_getElem? (i := 27) rfl)) (hw _ (List.mem_of_getElem? (i := 26) rfl)) (hw _ (List.mem_of_getElem? (i := 4) rfl)) (hw _ (List.mem_of_getElem? (i := 28) rfl)) (by decide) e_31 (a := ad_27) F_37 (argsL := []) (rest := []) (rmN l Z a0 hw ad_27 h_31 n0 (by omega) ta_28 (own_adv (own_tab (own_abs seed)) 0) 1 vq_31 F_37 G1_31 G2_31 A_31 (own_adv_ok hok (by decide)) (by decide) hvq_31 (by omega) (by omega) (by omega)) (g := (mkF m 51 #[.val (.int p1), .val (.int p2), .val (.int vmag), .val (.int seed), .val (.ref ad_27), .val (.ref ad_29), .val (.int (own_nx (own_tab (own_abs seed)) 0)), .unset, .unset, .unset, .unset, .unset, .unset, .unset] [(.ref ad_27)])) rfl (by rw [hml]; rfl) (lenOf pd_2 rfl) rfl (hb hby at_51) (W := 0) (by show 2 * 0 + _ ≤ _; exact Nat.le_of_eq rfl) (by decide) (by decide) (by decide) (by decide)
    obtain ⟨rfl, N_36, K_36, G1_36, ⟨vq_36, hvq_36, G2_36⟩, A_36⟩ := Q_36
    have N_36' := Fr.app N_31' N_36
    have z_36 := K_36.1
    refine Go.st (S' := T_36.setTop (mkF m 54 #[.val (.int p1), .val (.int p2), .val (.int vmag), .val (.int seed), .val (.ref ad_27), .val (.ref ad_29), .val (.int (own_nx (own_tab (own_abs seed)) 0)), .unset, .unset, .unset, .unset, .unset, .unset, .unset] [(.int (own_nx (own_adv (own_tab (own_abs seed)) 0) 1))])) st_36 ?_
    refine Go.st (S' := T_36.setTop (mkF m 56 #[.val (.int p1), .val (.int p2), .val (.int vmag), .val (.int seed), .val (.ref ad_27), .val (.ref ad_29), .val (.int (own_nx (own_tab (own_abs seed)) 0)), .val (.int (own_nx (own_adv (own_tab (own_abs seed)) 0) 1)), .unset, .unset, .unset, .unset, .unset, .unset] [])) (fun t hr => XS.istore X_36.here hx rfl (hb hby at_54) rfl (l' := #[.val (.int p1), .val (.int p2), .val (.int vmag), .val (.int seed), .val (.ref ad_27), .val (.ref ad_29), .val (.int (own_nx (own_tab (own_abs seed)) 0)), .val (.int (own_nx (own_adv (own_tab (own_abs seed)) 0) 1)), .unset, .unset, .unset, .unset, .unset, .unset]) rfl hr) ?_
    refine Go.st (S' := T_36.setTop (mkF m 58 #[.val (.int p1), .val (.int p2), .val (.int vmag), .val (.int seed), .val (.ref ad_27), .val (.ref ad_29), .val (.int (own_nx (own_tab (own_abs seed)) 0)), .val (.int (own_nx (own_adv (own_tab (own_abs seed)) 0) 1)), .unset, .unset, .unset, .unset, .unset, .unset] [(.ref ad_27)])) (fun t hr => XS.aload X_36.here hx rfl (hb hby at_56) rfl rfl hr) ?_
    have F_39 := (F_37.keep K_36)
    obtain ⟨v_38, T_38, h_38, L_38, X_38, e_38, Q_38, st_38⟩ := own_callV X_36 hx hZ (C := "com/example/moduline/moduline/library/Random") (y := ⟨"com/example/moduline/moduline/library/Random", "next", "()I"⟩) (z := ⟨"com/example/moduline/moduline/library/Random", "next", "()I"⟩) hown (hw _ (List.mem_of_getElem? (i := 24) rfl)) (hw _ (List.mem_of_getElem? (i := 25) rfl)) (hw _ (List.mem_of_getElem? (i := 27) rfl)) (hw _ (List.mem_of_getElem? (i := 27) rfl)) (hw _ (List.mem_of_getElem? (i := 26) rfl)) (hw _ (List.mem_of_getElem? (i := 4) rfl)) (hw _ (List.mem_of_getElem? (i := 28) rfl)) (by decide) e_36 (a := ad_27) F_39 (argsL := []) (rest := []) (rmN l Z a0 hw ad_27 h_36 n0 (by omega) ta_28 (own_adv (own_adv (own_tab (own_abs seed)) 0) 1) 2 vq_36 F_39 G1_36 G2_36 A_36 (own_adv_ok (own_adv_ok hok (by decide)) (by decide)) (by decide) hvq_36 (by omega) (by omega) (by omega)) (g := (mkF m 58 #[.val (.int p1), .val (.int p2), .val (.int vmag), .val (.int seed), .val (.ref ad_27), .val (.ref ad_29), .val (.int (own_nx (own_tab (own_abs seed)) 0)), .val (.int (own_nx (own_adv (own_tab (own_abs seed)) 0) 1)), .unset, .unset, .unset, .unset, .unset, .unset] [(.ref ad_27)])) rfl (by rw [hml]; rfl) (lenOf pd_2 rfl) rfl (hb hby at_58) (W := 0) (by show 2 * 0 + _ ≤ _; exact Nat.le_of_eq rfl) (by decide) (by decide) (by decide) (by decide)
    obtain ⟨rfl, N_38, K_38, G1_38, ⟨vq_38, hvq_38, G2_38⟩, A_38⟩ := Q_38
    have N_38' := Fr.app N_36' N_38
    have z_38 := K_38.1
    refine Go.st (S' := T_38.setTop (mkF m 61 #[.val (.int p1), .val (.int p2), .val (.int vmag), .val (.int seed), .val (.ref ad_27), .val (.ref ad_29), .val (.int (own_nx (own_tab (own_abs seed)) 0)), .val (.int (own_nx (own_adv (own_tab (own_abs seed)) 0) 1)), .unset, .unset, .unset, .unset, .unset, .unset] [(.int (own_nx (own_adv (own_adv (own_tab (own_abs seed)) 0) 1) 2))])) st_38 ?_
    refine Go.st (S' := T_38.setTop (mkF m 63 #[.val (.int p1), .val (.int p2), .val (.int vmag), .val (.int seed), .val (.ref ad_27), .val (.ref ad_29), .val (.int (own_nx (own_tab (own_abs seed)) 0)), .val (.int (own_nx (own_adv (own_tab (own_abs seed)) 0) 1)), .val (.int (own_nx (own_adv (own_adv (own_tab (own_abs seed)) 0) 1) 2)), .unset, .unset, .unset, .unset, .unset] [])) (fun t hr => XS.istore X_38.here hx rfl (hb hby at_61) rfl (l' := #[.val (.int p1), .val (.int p2), .val (.int vmag), .val (.int seed), .val (.ref ad_27), .val (.ref ad_29), .val (.int (own_nx (own_tab (own_abs seed)) 0)), .val (.int (own_nx (own_adv (own_tab (own_abs seed)) 0) 1)), .val (.int (own_nx (own_adv (own_adv (own_tab (own_abs seed)) 0) 1) 2)), .unset, .unset, .unset, .unset, .unset]) rfl hr) ?_
    refine Go.st (S' := T_38.setTop (mkF m 65 #[.val (.int p1), .val (.int p2), .val (.int vmag), .val (.int seed), .val (.ref ad_27), .val (.ref ad_29), .val (.int (own_nx (own_tab (own_abs seed)) 0)), .val (.int (own_nx (own_adv (own_tab (own_abs seed)) 0) 1)), .val (.int (own_nx (own_adv (own_adv (own_tab (own_abs seed)) 0) 1) 2)), .unset, .unset, .unset, .unset, .unset] [(.ref ad_29)])) (fun t hr => XS.aload X_38.here hx rfl (hb hby at_63) rfl rfl hr) ?_
    have F_41 := ((((A_29.keep K_30).keep K_31).keep K_36).keep K_38)
    have F_42 := (((G1_30.keep K_31 (by simp only [List.mem_cons, List.not_mem_nil, or_false, not_or]; exact ⟨own_ne (by omega), own_ne (by omega)⟩)).keep K_36 (by simp only [List.mem_cons, List.not_mem_nil, or_false, not_or]; exact ⟨own_ne (by omega), own_ne (by omega)⟩)).keep K_38 (by simp only [List.mem_cons, List.not_mem_nil, or_false, not_or]; exact ⟨own_ne (by omega), own_ne (by omega)⟩))
    have F_43 := (((G2_30.keep K_31 (by simp only [List.mem_cons, List.not_mem_nil, or_false, not_or]; exact ⟨own_ne (by omega), own_ne (by omega)⟩)).keep K_36 (by simp only [List.mem_cons, List.not_mem_nil, or_false, not_or]; exact ⟨own_ne (by omega), own_ne (by omega)⟩)).keep K_38 (by simp only [List.mem_cons, List.not_mem_nil, or_false, not_or]; exact ⟨own_ne (by omega), own_ne (by omega)⟩))
    have F_44 := (((A_30.keep K_31 (by simp only [List.mem_cons, List.not_mem_nil, or_false, not_or]; exact ⟨own_ne (by omega), own_ne (by omega)⟩)).keep K_36 (by simp only [List.mem_cons, List.not_mem_nil, or_false, not_or]; exact ⟨own_ne (by omega), own_ne (by omega)⟩)).keep K_38 (by simp only [List.mem_cons, List.not_mem_nil, or_false, not_or]; exact ⟨own_ne (by omega), own_ne (by omega)⟩))
    obtain ⟨v_40, T_40, h_40, L_40, X_40, e_40, Q_40, st_40⟩ := own_callV X_38 hx hZ (C := "com/example/moduline/moduline/library/Random") (y := ⟨"com/example/moduline/moduline/library/Random", "next", "()I"⟩) (z := ⟨"com/example/moduline/moduline/library/Random", "next", "()I"⟩) hown (hw _ (List.mem_of_getElem? (i := 24) rfl)) (hw _ (List.mem_of_getElem? (i := 25) rfl)) (hw _ (List.mem_of_getElem? (i := 27) rfl)) (hw _ (List.mem_of_getElem? (i := 27) rfl)) (hw _ (List.mem_of_getElem? (i := 26) rfl)) (hw _ (List.mem_of_getElem? (i := 4) rfl)) (hw _ (List.mem_of_getElem? (i := 28) rfl)) (by decide) e_38 (a := ad_29) F_41 (argsL := []) (rest := []) (rmN l Z a0 hw ad_29 h_38 n0 (by omega) ta_30 (own_tab (own_abs seed)) 0 (0 : Int32) F_41 F_42 F_43 F_44 hok (by decide) rfl (by omega) (by omega) (by omega)) (g := (mkF m 65 #[.val (.int p1), .val (.int p2), .val (.int vmag), .val (.int seed), .val (.ref ad_27), .val (.ref ad_29), .val (.int (own_nx (own_tab (own_abs seed)) 0)), .val (.int (own_nx (own_adv (own_tab (own_abs seed)) 0) 1)), .val (.int (own_nx (own_adv (own_adv (own_tab (own_abs seed)) 0) 1) 2)), .unset, .unset, .unset, .unset, .unset] [(.ref ad_29)])) rfl (by rw [hml]; rfl) (lenOf pd_2 rfl) rfl (hb hby at_65) (W := 0) (by show 2 * 0 + _ ≤ _; exact Nat.le_of_eq rfl) (by decide) (by decide) (by decide) (by decide)
    obtain ⟨rfl, N_40, K_40, G1_40, ⟨vq_40, hvq_40, G2_40⟩, A_40⟩ := Q_40
    have N_40' := Fr.app N_38' N_40
    have z_40 := K_40.1
    refine Go.st (S' := T_40.setTop (mkF m 68 #[.val (.int p1), .val (.int p2), .val (.int vmag), .val (.int seed), .val (.ref ad_27), .val (.ref ad_29), .val (.int (own_nx (own_tab (own_abs seed)) 0)), .val (.int (own_nx (own_adv (own_tab (own_abs seed)) 0) 1)), .val (.int (own_nx (own_adv (own_adv (own_tab (own_abs seed)) 0) 1) 2)), .unset, .unset, .unset, .unset, .unset] [(.int (own_nx (own_tab (own_abs seed)) 0))])) st_40 ?_
    refine Go.st (S' := T_40.setTop (mkF m 70 #[.val (.int p1), .val (.int p2), .val (.int vmag), .val (.int seed), .val (.ref ad_27), .val (.ref ad_29), .val (.int (own_nx (own_tab (own_abs seed)) 0)), .val (.int (own_nx (own_adv (own_tab (own_abs seed)) 0) 1)), .val (.int (own_nx (own_adv (own_adv (own_tab (own_abs seed)) 0) 1) 2)), .val (.int (own_nx (own_tab (own_abs seed)) 0)), .unset, .unset, .unset, .unset] [])) (fun t hr => XS.istore X_40.here hx rfl (hb hby at_68) rfl (l' := #[.val (.int p1), .val (.int p2), .val (.int vmag), .val (.int seed), .val (.ref ad_27), .val (.ref ad_29), .val (.int (own_nx (own_tab (own_abs seed)) 0)), .val (.int (own_nx (own_adv (own_tab (own_abs seed)) 0) 1)), .val (.int (own_nx (own_adv (own_adv (own_tab (own_abs seed)) 0) 1) 2)), .val (.int (own_nx (own_tab (own_abs seed)) 0)), .unset, .unset, .unset, .unset]) rfl hr) ?_
    refine Go.st (S' := T_40.setTop (mkF m 72 #[.val (.int p1), .val (.int p2), .val (.int vmag), .val (.int seed), .val (.ref ad_27), .val (.ref ad_29), .val (.int (own_nx (own_tab (own_abs seed)) 0)), .val (.int (own_nx (own_adv (own_tab (own_abs seed)) 0) 1)), .val (.int (own_nx (own_adv (own_adv (own_tab (own_abs seed)) 0) 1) 2)), .val (.int (own_nx (own_tab (own_abs seed)) 0)), .unset, .unset, .unset, .unset] [(.ref ad_29)])) (fun t hr => XS.aload X_40.here hx rfl (hb hby at_70) rfl rfl hr) ?_
    have F_46 := (F_41.keep K_40)
    obtain ⟨v_45, T_45, h_45, L_45, X_45, e_45, Q_45, st_45⟩ := own_callV X_40 hx hZ (C := "com/example/moduline/moduline/library/Random") (y := ⟨"com/example/moduline/moduline/library/Random", "next", "()I"⟩) (z := ⟨"com/example/moduline/moduline/library/Random", "next", "()I"⟩) hown (hw _ (List.mem_of_getElem? (i := 24) rfl)) (hw _ (List.mem_of_getElem? (i := 25) rfl)) (hw _ (List.mem_of_getElem? (i := 27) rfl)) (hw _ (List.mem_of_getElem? (i := 27) rfl)) (hw _ (List.mem_of_getElem? (i := 26) rfl)) (hw _ (List.mem_of_getElem? (i := 4) rfl)) (hw _ (List.mem_of_getElem? (i := 28) rfl)) (by decide) e_40 (a := ad_29) F_46 (argsL := []) (rest := []) (rmN l Z a0 hw ad_29 h_40 n0 (by omega) ta_30 (own_adv (own_tab (own_abs seed)) 0) 1 vq_40 F_46 G1_40 G2_40 A_40 (own_adv_ok hok (by decide)) (by decide) hvq_40 (by omega) (by omega) (by omega)) (g := (mkF m 72 #[.val (.int p1), .val (.int p2), .val (.int vmag), .val (.int seed), .val (.ref ad_27), .val (.ref ad_29), .val (.int (own_nx (own_tab (own_abs seed)) 0)), .val (.int (own_nx (own_adv (own_tab (own_abs seed)) 0) 1)), .val (.int (own_nx (own_adv (own_adv (own_tab (own_abs seed)) 0) 1) 2)), .val (.int (own_nx (own_tab (own_abs seed)) 0)), .unset, .unset, .unset, .unset] [(.ref ad_29)])) rfl (by rw [hml]; rfl) (lenOf pd_2 rfl) rfl (hb hby at_72) (W := 0) (by show 2 * 0 + _ ≤ _; exact Nat.le_of_eq rfl) (by decide) (by decide) (by decide) (by decide)
    obtain ⟨rfl, N_45, K_45, G1_45, ⟨vq_45, hvq_45, G2_45⟩, A_45⟩ := Q_45
    have N_45' := Fr.app N_40' N_45
    have z_45 := K_45.1
    refine Go.st (S' := T_45.setTop (mkF m 75 #[.val (.int p1), .val (.int p2), .val (.int vmag), .val (.int seed), .val (.ref ad_27), .val (.ref ad_29), .val (.int (own_nx (own_tab (own_abs seed)) 0)), .val (.int (own_nx (own_adv (own_tab (own_abs seed)) 0) 1)), .val (.int (own_nx (own_adv (own_adv (own_tab (own_abs seed)) 0) 1) 2)), .val (.int (own_nx (own_tab (own_abs seed)) 0)), .unset, .unset, .unset, .unset] [(.int (own_nx (own_adv (own_tab (own_abs seed)) 0) 1))])) st_45 ?_
    refine Go.st (S' := T_45.setTop (mkF m 77 #[.val (.int p1), .val (.int p2), .val (.int vmag), .val (.int seed), .val (.ref ad_27), .val (.ref ad_29), .val (.int (own_nx (own_tab (own_abs seed)) 0)), .val (.int (own_nx (own_adv (own_tab (own_abs seed)) 0) 1)), .val (.int (own_nx (own_adv (own_adv (own_tab (own_abs seed)) 0) 1) 2)), .val (.int (own_nx (own_tab (own_abs seed)) 0)), .val (.int (own_nx (own_adv (own_tab (own_abs seed)) 0) 1)), .unset, .unset, .unset] [])) (fun t hr => XS.istore X_45.here hx rfl (hb hby at_75) rfl (l' := #[.val (.int p1), .val (.int p2), .val (.int vmag), .val (.int seed), .val (.ref ad_27), .val (.ref ad_29), .val (.int (own_nx (own_tab (own_abs seed)) 0)), .val (.int (own_nx (own_adv (own_tab (own_abs seed)) 0) 1)), .val (.int (own_nx (own_adv (own_adv (own_tab (own_abs seed)) 0) 1) 2)), .val (.int (own_nx (own_tab (own_abs seed)) 0)), .val (.int (own_nx (own_adv (own_tab (own_abs seed)) 0) 1)), .unset, .unset, .unset]) rfl hr) ?_
    refine Go.st (S' := T_45.setTop (mkF m 79 #[.val (.int p1), .val (.int p2), .val (.int vmag), .val (.int seed), .val (.ref ad_27), .val (.ref ad_29), .val (.int (own_nx (own_tab (own_abs seed)) 0)), .val (.int (own_nx (own_adv (own_tab (own_abs seed)) 0) 1)), .val (.int (own_nx (own_adv (own_adv (own_tab (own_abs seed)) 0) 1) 2)), .val (.int (own_nx (own_tab (own_abs seed)) 0)), .val (.int (own_nx (own_adv (own_tab (own_abs seed)) 0) 1)), .unset, .unset, .unset] [(.ref ad_29)])) (fun t hr => XS.aload X_45.here hx rfl (hb hby at_77) rfl rfl hr) ?_
    have F_48 := (F_46.keep K_45)
    obtain ⟨v_47, T_47, h_47, L_47, X_47, e_47, Q_47, st_47⟩ := own_callV X_45 hx hZ (C := "com/example/moduline/moduline/library/Random") (y := ⟨"com/example/moduline/moduline/library/Random", "next", "()I"⟩) (z := ⟨"com/example/moduline/moduline/library/Random", "next", "()I"⟩) hown (hw _ (List.mem_of_getElem? (i := 24) rfl)) (hw _ (List.mem_of_getElem? (i := 25) rfl)) (hw _ (List.mem_of_getElem? (i := 27) rfl)) (hw _ (List.mem_of_getElem? (i := 27) rfl)) (hw _ (List.mem_of_getElem? (i := 26) rfl)) (hw _ (List.mem_of_getElem? (i := 4) rfl)) (hw _ (List.mem_of_getElem? (i := 28) rfl)) (by decide) e_45 (a := ad_29) F_48 (argsL := []) (rest := []) (rmN l Z a0 hw ad_29 h_45 n0 (by omega) ta_30 (own_adv (own_adv (own_tab (own_abs seed)) 0) 1) 2 vq_45 F_48 G1_45 G2_45 A_45 (own_adv_ok (own_adv_ok hok (by decide)) (by decide)) (by decide) hvq_45 (by omega) (by omega) (by omega)) (g := (mkF m 79 #[.val (.int p1), .val (.int p2), .val (.int vmag), .val (.int seed), .val (.ref ad_27), .val (.ref ad_29), .val (.int (own_nx (own_tab (own_abs seed)) 0)), .val (.int (own_nx (own_adv (own_tab (own_abs seed)) 0) 1)), .val (.int (own_nx (own_adv (own_adv (own_tab (own_abs seed)) 0) 1) 2)), .val (.int (own_nx (own_tab (own_abs seed)) 0)), .val (.int (own_nx (own_adv (own_tab (own_abs seed)) 0) 1)), .unset, .unset, .unset] [(.ref ad_29)])) rfl (by rw [hml]; rfl) (lenOf pd_2 rfl) rfl (hb hby at_79) (W := 0) (by show 2 * 0 + _ ≤ _; exact Nat.le_of_eq rfl) (by decide) (by decide) (by decide) (by decide)
    obtain ⟨rfl, N_47, K_47, G1_47, ⟨vq_47, hvq_47, G2_47⟩, A_47⟩ := Q_47
    have N_47' := Fr.app N_45' N_47
    have z_47 := K_47.1
    refine Go.st (S' := T_47.setTop (mkF m 82 #[.val (.int p1), .val (.int p2), .val (.int vmag), .val (.int seed), .val (.ref ad_27), .val (.ref ad_29), .val (.int (own_nx (own_tab (own_abs seed)) 0)), .val (.int (own_nx (own_adv (own_tab (own_abs seed)) 0) 1)), .val (.int (own_nx (own_adv (own_adv (own_tab (own_abs seed)) 0) 1) 2)), .val (.int (own_nx (own_tab (own_abs seed)) 0)), .val (.int (own_nx (own_adv (own_tab (own_abs seed)) 0) 1)), .unset, .unset, .unset] [(.int (own_nx (own_adv (own_adv (own_tab (own_abs seed)) 0) 1) 2))])) st_47 ?_
    refine Go.st (S' := T_47.setTop (mkF m 84 #[.val (.int p1), .val (.int p2), .val (.int vmag), .val (.int seed), .val (.ref ad_27), .val (.ref ad_29), .val (.int (own_nx (own_tab (own_abs seed)) 0)), .val (.int (own_nx (own_adv (own_tab (own_abs seed)) 0) 1)), .val (.int (own_nx (own_adv (own_adv (own_tab (own_abs seed)) 0) 1) 2)), .val (.int (own_nx (own_tab (own_abs seed)) 0)), .val (.int (own_nx (own_adv (own_tab (own_abs seed)) 0) 1)), .val (.int (own_nx (own_adv (own_adv (own_tab (own_abs seed)) 0) 1) 2)), .unset, .unset] [])) (fun t hr => XS.istore X_47.here hx rfl (hb hby at_82) rfl (l' := #[.val (.int p1), .val (.int p2), .val (.int vmag), .val (.int seed), .val (.ref ad_27), .val (.ref ad_29), .val (.int (own_nx (own_tab (own_abs seed)) 0)), .val (.int (own_nx (own_adv (own_tab (own_abs seed)) 0) 1)), .val (.int (own_nx (own_adv (own_adv (own_tab (own_abs seed)) 0) 1) 2)), .val (.int (own_nx (own_tab (own_abs seed)) 0)), .val (.int (own_nx (own_adv (own_tab (own_abs seed)) 0) 1)), .val (.int (own_nx (own_adv (own_adv (own_tab (own_abs seed)) 0) 1) 2)), .unset, .unset]) rfl hr) ?_
    refine Go.st (S' := T_47.setTop (mkF m 86 #[.val (.int p1), .val (.int p2), .val (.int vmag), .val (.int seed), .val (.ref ad_27), .val (.ref ad_29), .val (.int (own_nx (own_tab (own_abs seed)) 0)), .val (.int (own_nx (own_adv (own_tab (own_abs seed)) 0) 1)), .val (.int (own_nx (own_adv (own_adv (own_tab (own_abs seed)) 0) 1) 2)), .val (.int (own_nx (own_tab (own_abs seed)) 0)), .val (.int (own_nx (own_adv (own_tab (own_abs seed)) 0) 1)), .val (.int (own_nx (own_adv (own_adv (own_tab (own_abs seed)) 0) 1) 2)), .unset, .unset] [(.int (own_nx (own_tab (own_abs seed)) 0))])) (fun t hr => XS.iload X_47.here hx rfl (hb hby at_84) rfl hr) ?_
    obtain ⟨v_49, T_49, h_49, L_49, X_49, e_49, Q_49, st_49⟩ := own_callS X_47 hx hZ (y := ⟨"com/example/moduline/moduline/library/RandomNextPinLaw", "inRange", "(I)Z"⟩) hown (hw _ (List.mem_of_getElem? (i := 31) rfl)) (hw _ (List.mem_of_getElem? (i := 32) rfl)) (hw _ (List.mem_of_getElem? (i := 33) rfl)) (hw _ (List.mem_of_getElem? (i := 34) rfl)) (by decide) e_47 (argsL := [(.int (own_nx (own_tab (own_abs seed)) 0))]) (rest := []) (rmI l Z a0 hw (own_nx (own_tab (own_abs seed)) 0) h_47 n0 (by omega)) (g := (mkF m 86 #[.val (.int p1), .val (.int p2), .val (.int vmag), .val (.int seed), .val (.ref ad_27), .val (.ref ad_29), .val (.int (own_nx (own_tab (own_abs seed)) 0)), .val (.int (own_nx (own_adv (own_tab (own_abs seed)) 0) 1)), .val (.int (own_nx (own_adv (own_adv (own_tab (own_abs seed)) 0) 1) 2)), .val (.int (own_nx (own_tab (own_abs seed)) 0)), .val (.int (own_nx (own_adv (own_tab (own_abs seed)) 0) 1)), .val (.int (own_nx (own_adv (own_adv (own_tab (own_abs seed)) 0) 1) 2)), .unset, .unset] [(.int (own_nx (own_tab (own_abs seed)) 0))])) rfl (by rw [hml]; rfl) (lenOf pd_3 rfl) rfl (hb hby at_86) (W := 0) (by show 2 * 0 + _ ≤ _; exact Nat.le_of_eq rfl) (by decide) (by decide) (by decide) (by decide)
    obtain ⟨rfl, N_49, hh_49⟩ := Q_49
    have N_49' := Fr.app N_47' N_49
    rw [hh_49] at e_49
    refine Go.st (S' := T_49.setTop (mkF m 89 #[.val (.int p1), .val (.int p2), .val (.int vmag), .val (.int seed), .val (.ref ad_27), .val (.ref ad_29), .val (.int (own_nx (own_tab (own_abs seed)) 0)), .val (.int (own_nx (own_adv (own_tab (own_abs seed)) 0) 1)), .val (.int (own_nx (own_adv (own_adv (own_tab (own_abs seed)) 0) 1) 2)), .val (.int (own_nx (own_tab (own_abs seed)) 0)), .val (.int (own_nx (own_adv (own_tab (own_abs seed)) 0) 1)), .val (.int (own_nx (own_adv (own_adv (own_tab (own_abs seed)) 0) 1) 2)), .unset, .unset] [(.int (own_inr (own_nx (own_tab (own_abs seed)) 0)))])) st_49 ?_
    refine Go.st (S' := T_49.setTop (mkF m 92 #[.val (.int p1), .val (.int p2), .val (.int vmag), .val (.int seed), .val (.ref ad_27), .val (.ref ad_29), .val (.int (own_nx (own_tab (own_abs seed)) 0)), .val (.int (own_nx (own_adv (own_tab (own_abs seed)) 0) 1)), .val (.int (own_nx (own_adv (own_adv (own_tab (own_abs seed)) 0) 1) 2)), .val (.int (own_nx (own_tab (own_abs seed)) 0)), .val (.int (own_nx (own_adv (own_tab (own_abs seed)) 0) 1)), .val (.int (own_nx (own_adv (own_adv (own_tab (own_abs seed)) 0) 1) 2)), .unset, .unset] [])) (fun t hr => XS.ifNo X_49.here hx rfl (hb hby at_89) rfl (XT.i0_eq_f (by rw [own_inr1 (own_nx_rg hok (by decide))]; decide)) hr) ?_
    refine Go.st (S' := T_49.setTop (mkF m 94 #[.val (.int p1), .val (.int p2), .val (.int vmag), .val (.int seed), .val (.ref ad_27), .val (.ref ad_29), .val (.int (own_nx (own_tab (own_abs seed)) 0)), .val (.int (own_nx (own_adv (own_tab (own_abs seed)) 0) 1)), .val (.int (own_nx (own_adv (own_adv (own_tab (own_abs seed)) 0) 1) 2)), .val (.int (own_nx (own_tab (own_abs seed)) 0)), .val (.int (own_nx (own_adv (own_tab (own_abs seed)) 0) 1)), .val (.int (own_nx (own_adv (own_adv (own_tab (own_abs seed)) 0) 1) 2)), .unset, .unset] [(.int (own_nx (own_adv (own_tab (own_abs seed)) 0) 1))])) (fun t hr => XS.iload X_49.here hx rfl (hb hby at_92) rfl hr) ?_
    obtain ⟨v_50, T_50, h_50, L_50, X_50, e_50, Q_50, st_50⟩ := own_callS X_49 hx hZ (y := ⟨"com/example/moduline/moduline/library/RandomNextPinLaw", "inRange", "(I)Z"⟩) hown (hw _ (List.mem_of_getElem? (i := 31) rfl)) (hw _ (List.mem_of_getElem? (i := 32) rfl)) (hw _ (List.mem_of_getElem? (i := 33) rfl)) (hw _ (List.mem_of_getElem? (i := 34) rfl)) (by decide) e_49 (argsL := [(.int (own_nx (own_adv (own_tab (own_abs seed)) 0) 1))]) (rest := []) (rmI l Z a0 hw (own_nx (own_adv (own_tab (own_abs seed)) 0) 1) h_47 n0 (by omega)) (g := (mkF m 94 #[.val (.int p1), .val (.int p2), .val (.int vmag), .val (.int seed), .val (.ref ad_27), .val (.ref ad_29), .val (.int (own_nx (own_tab (own_abs seed)) 0)), .val (.int (own_nx (own_adv (own_tab (own_abs seed)) 0) 1)), .val (.int (own_nx (own_adv (own_adv (own_tab (own_abs seed)) 0) 1) 2)), .val (.int (own_nx (own_tab (own_abs seed)) 0)), .val (.int (own_nx (own_adv (own_tab (own_abs seed)) 0) 1)), .val (.int (own_nx (own_adv (own_adv (own_tab (own_abs seed)) 0) 1) 2)), .unset, .unset] [(.int (own_nx (own_adv (own_tab (own_abs seed)) 0) 1))])) rfl (by rw [hml]; rfl) (lenOf pd_3 rfl) rfl (hb hby at_94) (W := 0) (by show 2 * 0 + _ ≤ _; exact Nat.le_of_eq rfl) (by decide) (by decide) (by decide) (by decide)
    obtain ⟨rfl, N_50, hh_50⟩ := Q_50
    have N_50' := Fr.app N_49' N_50
    rw [hh_50] at e_50
    refine Go.st (S' := T_50.setTop (mkF m 97 #[.val (.int p1), .val (.int p2), .val (.int vmag), .val (.int seed), .val (.ref ad_27), .val (.ref ad_29), .val (.int (own_nx (own_tab (own_abs seed)) 0)), .val (.int (own_nx (own_adv (own_tab (own_abs seed)) 0) 1)), .val (.int (own_nx (own_adv (own_adv (own_tab (own_abs seed)) 0) 1) 2)), .val (.int (own_nx (own_tab (own_abs seed)) 0)), .val (.int (own_nx (own_adv (own_tab (own_abs seed)) 0) 1)), .val (.int (own_nx (own_adv (own_adv (own_tab (own_abs seed)) 0) 1) 2)), .unset, .unset] [(.int (own_inr (own_nx (own_adv (own_tab (own_abs seed)) 0) 1)))])) st_50 ?_
    refine Go.st (S' := T_50.setTop (mkF m 100 #[.val (.int p1), .val (.int p2), .val (.int vmag), .val (.int seed), .val (.ref ad_27), .val (.ref ad_29), .val (.int (own_nx (own_tab (own_abs seed)) 0)), .val (.int (own_nx (own_adv (own_tab (own_abs seed)) 0) 1)), .val (.int (own_nx (own_adv (own_adv (own_tab (own_abs seed)) 0) 1) 2)), .val (.int (own_nx (own_tab (own_abs seed)) 0)), .val (.int (own_nx (own_adv (own_tab (own_abs seed)) 0) 1)), .val (.int (own_nx (own_adv (own_adv (own_tab (own_abs seed)) 0) 1) 2)), .unset, .unset] [])) (fun t hr => XS.ifNo X_50.here hx rfl (hb hby at_97) rfl (XT.i0_eq_f (by rw [own_inr1 (own_nx_rg (own_adv_ok hok (by decide)) (by decide))]; decide)) hr) ?_
    refine Go.st (S' := T_50.setTop (mkF m 102 #[.val (.int p1), .val (.int p2), .val (.int vmag), .val (.int seed), .val (.ref ad_27), .val (.ref ad_29), .val (.int (own_nx (own_tab (own_abs seed)) 0)), .val (.int (own_nx (own_adv (own_tab (own_abs seed)) 0) 1)), .val (.int (own_nx (own_adv (own_adv (own_tab (own_abs seed)) 0) 1) 2)), .val (.int (own_nx (own_tab (own_abs seed)) 0)), .val (.int (own_nx (own_adv (own_tab (own_abs seed)) 0) 1)), .val (.int (own_nx (own_adv (own_adv (own_tab (own_abs seed)) 0) 1) 2)), .unset, .unset] [(.int (own_nx (own_adv (own_adv (own_tab (own_abs seed)) 0) 1) 2))])) (fun t hr => XS.iload X_50.here hx rfl (hb hby at_100) rfl hr) ?_
    obtain ⟨v_51, T_51, h_51, L_51, X_51, e_51, Q_51, st_51⟩ := own_callS X_50 hx hZ (y := ⟨"com/example/moduline/moduline/library/RandomNextPinLaw", "inRange", "(I)Z"⟩) hown (hw _ (List.mem_of_getElem? (i := 31) rfl)) (hw _ (List.mem_of_getElem? (i := 32) rfl)) (hw _ (List.mem_of_getElem? (i := 33) rfl)) (hw _ (List.mem_of_getElem? (i := 34) rfl)) (by decide) e_50 (argsL := [(.int (own_nx (own_adv (own_adv (own_tab (own_abs seed)) 0) 1) 2))]) (rest := []) (rmI l Z a0 hw (own_nx (own_adv (own_adv (own_tab (own_abs seed)) 0) 1) 2) h_47 n0 (by omega)) (g := (mkF m 102 #[.val (.int p1), .val (.int p2), .val (.int vmag), .val (.int seed), .val (.ref ad_27), .val (.ref ad_29), .val (.int (own_nx (own_tab (own_abs seed)) 0)), .val (.int (own_nx (own_adv (own_tab (own_abs seed)) 0) 1)), .val (.int (own_nx (own_adv (own_adv (own_tab (own_abs seed)) 0) 1) 2)), .val (.int (own_nx (own_tab (own_abs seed)) 0)), .val (.int (own_nx (own_adv (own_tab (own_abs seed)) 0) 1)), .val (.int (own_nx (own_adv (own_adv (own_tab (own_abs seed)) 0) 1) 2)), .unset, .unset] [(.int (own_nx (own_adv (own_adv (own_tab (own_abs seed)) 0) 1) 2))])) rfl (by rw [hml]; rfl) (lenOf pd_3 rfl) rfl (hb hby at_102) (W := 0) (by show 2 * 0 + _ ≤ _; exact Nat.le_of_eq rfl) (by decide) (by decide) (by decide) (by decide)
    obtain ⟨rfl, N_51, hh_51⟩ := Q_51
    have N_51' := Fr.app N_50' N_51
    rw [hh_51] at e_51
    refine Go.st (S' := T_51.setTop (mkF m 105 #[.val (.int p1), .val (.int p2), .val (.int vmag), .val (.int seed), .val (.ref ad_27), .val (.ref ad_29), .val (.int (own_nx (own_tab (own_abs seed)) 0)), .val (.int (own_nx (own_adv (own_tab (own_abs seed)) 0) 1)), .val (.int (own_nx (own_adv (own_adv (own_tab (own_abs seed)) 0) 1) 2)), .val (.int (own_nx (own_tab (own_abs seed)) 0)), .val (.int (own_nx (own_adv (own_tab (own_abs seed)) 0) 1)), .val (.int (own_nx (own_adv (own_adv (own_tab (own_abs seed)) 0) 1) 2)), .unset, .unset] [(.int (own_inr (own_nx (own_adv (own_adv (own_tab (own_abs seed)) 0) 1) 2)))])) st_51 ?_
    refine Go.st (S' := T_51.setTop (mkF m 108 #[.val (.int p1), .val (.int p2), .val (.int vmag), .val (.int seed), .val (.ref ad_27), .val (.ref ad_29), .val (.int (own_nx (own_tab (own_abs seed)) 0)), .val (.int (own_nx (own_adv (own_tab (own_abs seed)) 0) 1)), .val (.int (own_nx (own_adv (own_adv (own_tab (own_abs seed)) 0) 1) 2)), .val (.int (own_nx (own_tab (own_abs seed)) 0)), .val (.int (own_nx (own_adv (own_tab (own_abs seed)) 0) 1)), .val (.int (own_nx (own_adv (own_adv (own_tab (own_abs seed)) 0) 1) 2)), .unset, .unset] [])) (fun t hr => XS.ifNo X_51.here hx rfl (hb hby at_105) rfl (XT.i0_eq_f (by rw [own_inr1 (own_nx_rg (own_adv_ok (own_adv_ok hok (by decide)) (by decide)) (by decide))]; decide)) hr) ?_
    refine Go.st (S' := T_51.setTop (mkF m 109 #[.val (.int p1), .val (.int p2), .val (.int vmag), .val (.int seed), .val (.ref ad_27), .val (.ref ad_29), .val (.int (own_nx (own_tab (own_abs seed)) 0)), .val (.int (own_nx (own_adv (own_tab (own_abs seed)) 0) 1)), .val (.int (own_nx (own_adv (own_adv (own_tab (own_abs seed)) 0) 1) 2)), .val (.int (own_nx (own_tab (own_abs seed)) 0)), .val (.int (own_nx (own_adv (own_tab (own_abs seed)) 0) 1)), .val (.int (own_nx (own_adv (own_adv (own_tab (own_abs seed)) 0) 1) 2)), .unset, .unset] [(.int (1 : Int32))])) (fun t hr => XS.iconst X_51.here hx rfl (hb hby at_108) hr) ?_
    refine Go.st (S' := T_51.setTop (mkF m 113 #[.val (.int p1), .val (.int p2), .val (.int vmag), .val (.int seed), .val (.ref ad_27), .val (.ref ad_29), .val (.int (own_nx (own_tab (own_abs seed)) 0)), .val (.int (own_nx (own_adv (own_tab (own_abs seed)) 0) 1)), .val (.int (own_nx (own_adv (own_adv (own_tab (own_abs seed)) 0) 1) 2)), .val (.int (own_nx (own_tab (own_abs seed)) 0)), .val (.int (own_nx (own_adv (own_tab (own_abs seed)) 0) 1)), .val (.int (own_nx (own_adv (own_adv (own_tab (own_abs seed)) 0) 1) 2)), .unset, .unset] [(.int (1 : Int32))])) (fun t hr => XS.goto X_51.here hx rfl (pc0 := 109) (pc' := 113) rfl (hb hby at_109) (by decide) (by decide) hr) ?_
    refine Go.st (S' := T_51.setTop (mkF m 115 #[.val (.int p1), .val (.int p2), .val (.int vmag), .val (.int seed), .val (.ref ad_27), .val (.ref ad_29), .val (.int (own_nx (own_tab (own_abs seed)) 0)), .val (.int (own_nx (own_adv (own_tab (own_abs seed)) 0) 1)), .val (.int (own_nx (own_adv (own_adv (own_tab (own_abs seed)) 0) 1) 2)), .val (.int (own_nx (own_tab (own_abs seed)) 0)), .val (.int (own_nx (own_adv (own_tab (own_abs seed)) 0) 1)), .val (.int (own_nx (own_adv (own_adv (own_tab (own_abs seed)) 0) 1) 2)), .val (.int (1 : Int32)), .unset] [])) (fun t hr => XS.istore X_51.here hx rfl (hb hby at_113) rfl (l' := #[.val (.int p1), .val (.int p2), .val (.int vmag), .val (.int seed), .val (.ref ad_27), .val (.ref ad_29), .val (.int (own_nx (own_tab (own_abs seed)) 0)), .val (.int (own_nx (own_adv (own_tab (own_abs seed)) 0) 1)), .val (.int (own_nx (own_adv (own_adv (own_tab (own_abs seed)) 0) 1) 2)), .val (.int (own_nx (own_tab (own_abs seed)) 0)), .val (.int (own_nx (own_adv (own_tab (own_abs seed)) 0) 1)), .val (.int (own_nx (own_adv (own_adv (own_tab (own_abs seed)) 0) 1) 2)), .val (.int (1 : Int32)), .unset]) rfl hr) ?_
    refine Go.st (S' := T_51.setTop (mkF m 117 #[.val (.int p1), .val (.int p2), .val (.int vmag), .val (.int seed), .val (.ref ad_27), .val (.ref ad_29), .val (.int (own_nx (own_tab (own_abs seed)) 0)), .val (.int (own_nx (own_adv (own_tab (own_abs seed)) 0) 1)), .val (.int (own_nx (own_adv (own_adv (own_tab (own_abs seed)) 0) 1) 2)), .val (.int (own_nx (own_tab (own_abs seed)) 0)), .val (.int (own_nx (own_adv (own_tab (own_abs seed)) 0) 1)), .val (.int (own_nx (own_adv (own_adv (own_tab (own_abs seed)) 0) 1) 2)), .val (.int (1 : Int32)), .unset] [(.int (own_nx (own_tab (own_abs seed)) 0))])) (fun t hr => XS.iload X_51.here hx rfl (hb hby at_115) rfl hr) ?_
    refine Go.st (S' := T_51.setTop (mkF m 119 #[.val (.int p1), .val (.int p2), .val (.int vmag), .val (.int seed), .val (.ref ad_27), .val (.ref ad_29), .val (.int (own_nx (own_tab (own_abs seed)) 0)), .val (.int (own_nx (own_adv (own_tab (own_abs seed)) 0) 1)), .val (.int (own_nx (own_adv (own_adv (own_tab (own_abs seed)) 0) 1) 2)), .val (.int (own_nx (own_tab (own_abs seed)) 0)), .val (.int (own_nx (own_adv (own_tab (own_abs seed)) 0) 1)), .val (.int (own_nx (own_adv (own_adv (own_tab (own_abs seed)) 0) 1) 2)), .val (.int (1 : Int32)), .unset] [(.int (own_nx (own_tab (own_abs seed)) 0)), (.int (own_nx (own_tab (own_abs seed)) 0))])) (fun t hr => XS.iload X_51.here hx rfl (hb hby at_117) rfl hr) ?_
    refine Go.st (S' := T_51.setTop (mkF m 122 #[.val (.int p1), .val (.int p2), .val (.int vmag), .val (.int seed), .val (.ref ad_27), .val (.ref ad_29), .val (.int (own_nx (own_tab (own_abs seed)) 0)), .val (.int (own_nx (own_adv (own_tab (own_abs seed)) 0) 1)), .val (.int (own_nx (own_adv (own_adv (own_tab (own_abs seed)) 0) 1) 2)), .val (.int (own_nx (own_tab (own_abs seed)) 0)), .val (.int (own_nx (own_adv (own_tab (own_abs seed)) 0) 1)), .val (.int (own_nx (own_adv (own_adv (own_tab (own_abs seed)) 0) 1) 2)), .val (.int (1 : Int32)), .unset] [])) (fun t hr => XS.icmpNo X_51.here hx rfl (hb hby at_119) rfl (XT.ii_ne_f rfl) hr) ?_
    refine Go.st (S' := T_51.setTop (mkF m 124 #[.val (.int p1), .val (.int p2), .val (.int vmag), .val (.int seed), .val (.ref ad_27), .val (.ref ad_29), .val (.int (own_nx (own_tab (own_abs seed)) 0)), .val (.int (own_nx (own_adv (own_tab (own_abs seed)) 0) 1)), .val (.int (own_nx (own_adv (own_adv (own_tab (own_abs seed)) 0) 1) 2)), .val (.int (own_nx (own_tab (own_abs seed)) 0)), .val (.int (own_nx (own_adv (own_tab (own_abs seed)) 0) 1)), .val (.int (own_nx (own_adv (own_adv (own_tab (own_abs seed)) 0) 1) 2)), .val (.int (1 : Int32)), .unset] [(.int (own_nx (own_adv (own_tab (own_abs seed)) 0) 1))])) (fun t hr => XS.iload X_51.here hx rfl (hb hby at_122) rfl hr) ?_
    refine Go.st (S' := T_51.setTop (mkF m 126 #[.val (.int p1), .val (.int p2), .val (.int vmag), .val (.int seed), .val (.ref ad_27), .val (.ref ad_29), .val (.int (own_nx (own_tab (own_abs seed)) 0)), .val (.int (own_nx (own_adv (own_tab (own_abs seed)) 0) 1)), .val (.int (own_nx (own_adv (own_adv (own_tab (own_abs seed)) 0) 1) 2)), .val (.int (own_nx (own_tab (own_abs seed)) 0)), .val (.int (own_nx (own_adv (own_tab (own_abs seed)) 0) 1)), .val (.int (own_nx (own_adv (own_adv (own_tab (own_abs seed)) 0) 1) 2)), .val (.int (1 : Int32)), .unset] [(.int (own_nx (own_adv (own_tab (own_abs seed)) 0) 1)), (.int (own_nx (own_adv (own_tab (own_abs seed)) 0) 1))])) (fun t hr => XS.iload X_51.here hx rfl (hb hby at_124) rfl hr) ?_
    refine Go.st (S' := T_51.setTop (mkF m 129 #[.val (.int p1), .val (.int p2), .val (.int vmag), .val (.int seed), .val (.ref ad_27), .val (.ref ad_29), .val (.int (own_nx (own_tab (own_abs seed)) 0)), .val (.int (own_nx (own_adv (own_tab (own_abs seed)) 0) 1)), .val (.int (own_nx (own_adv (own_adv (own_tab (own_abs seed)) 0) 1) 2)), .val (.int (own_nx (own_tab (own_abs seed)) 0)), .val (.int (own_nx (own_adv (own_tab (own_abs seed)) 0) 1)), .val (.int (own_nx (own_adv (own_adv (own_tab (own_abs seed)) 0) 1) 2)), .val (.int (1 : Int32)), .unset] [])) (fun t hr => XS.icmpNo X_51.here hx rfl (hb hby at_126) rfl (XT.ii_ne_f rfl) hr) ?_
    refine Go.st (S' := T_51.setTop (mkF m 131 #[.val (.int p1), .val (.int p2), .val (.int vmag), .val (.int seed), .val (.ref ad_27), .val (.ref ad_29), .val (.int (own_nx (own_tab (own_abs seed)) 0)), .val (.int (own_nx (own_adv (own_tab (own_abs seed)) 0) 1)), .val (.int (own_nx (own_adv (own_adv (own_tab (own_abs seed)) 0) 1) 2)), .val (.int (own_nx (own_tab (own_abs seed)) 0)), .val (.int (own_nx (own_adv (own_tab (own_abs seed)) 0) 1)), .val (.int (own_nx (own_adv (own_adv (own_tab (own_abs seed)) 0) 1) 2)), .val (.int (1 : Int32)), .unset] [(.int (own_nx (own_adv (own_adv (own_tab (own_abs seed)) 0) 1) 2))])) (fun t hr => XS.iload X_51.here hx rfl (hb hby at_129) rfl hr) ?_
    refine Go.st (S' := T_51.setTop (mkF m 133 #[.val (.int p1), .val (.int p2), .val (.int vmag), .val (.int seed), .val (.ref ad_27), .val (.ref ad_29), .val (.int (own_nx (own_tab (own_abs seed)) 0)), .val (.int (own_nx (own_adv (own_tab (own_abs seed)) 0) 1)), .val (.int (own_nx (own_adv (own_adv (own_tab (own_abs seed)) 0) 1) 2)), .val (.int (own_nx (own_tab (own_abs seed)) 0)), .val (.int (own_nx (own_adv (own_tab (own_abs seed)) 0) 1)), .val (.int (own_nx (own_adv (own_adv (own_tab (own_abs seed)) 0) 1) 2)), .val (.int (1 : Int32)), .unset] [(.int (own_nx (own_adv (own_adv (own_tab (own_abs seed)) 0) 1) 2)), (.int (own_nx (own_adv (own_adv (own_tab (own_abs seed)) 0) 1) 2))])) (fun t hr => XS.iload X_51.here hx rfl (hb hby at_131) rfl hr) ?_
    refine Go.st (S' := T_51.setTop (mkF m 136 #[.val (.int p1), .val (.int p2), .val (.int vmag), .val (.int seed), .val (.ref ad_27), .val (.ref ad_29), .val (.int (own_nx (own_tab (own_abs seed)) 0)), .val (.int (own_nx (own_adv (own_tab (own_abs seed)) 0) 1)), .val (.int (own_nx (own_adv (own_adv (own_tab (own_abs seed)) 0) 1) 2)), .val (.int (own_nx (own_tab (own_abs seed)) 0)), .val (.int (own_nx (own_adv (own_tab (own_abs seed)) 0) 1)), .val (.int (own_nx (own_adv (own_adv (own_tab (own_abs seed)) 0) 1) 2)), .val (.int (1 : Int32)), .unset] [])) (fun t hr => XS.icmpNo X_51.here hx rfl (hb hby at_133) rfl (XT.ii_ne_f rfl) hr) ?_
    refine Go.st (S' := T_51.setTop (mkF m 137 #[.val (.int p1), .val (.int p2), .val (.int vmag), .val (.int seed), .val (.ref ad_27), .val (.ref ad_29), .val (.int (own_nx (own_tab (own_abs seed)) 0)), .val (.int (own_nx (own_adv (own_tab (own_abs seed)) 0) 1)), .val (.int (own_nx (own_adv (own_adv (own_tab (own_abs seed)) 0) 1) 2)), .val (.int (own_nx (own_tab (own_abs seed)) 0)), .val (.int (own_nx (own_adv (own_tab (own_abs seed)) 0) 1)), .val (.int (own_nx (own_adv (own_adv (own_tab (own_abs seed)) 0) 1) 2)), .val (.int (1 : Int32)), .unset] [(.int (1 : Int32))])) (fun t hr => XS.iconst X_51.here hx rfl (hb hby at_136) hr) ?_
    refine Go.st (S' := T_51.setTop (mkF m 141 #[.val (.int p1), .val (.int p2), .val (.int vmag), .val (.int seed), .val (.ref ad_27), .val (.ref ad_29), .val (.int (own_nx (own_tab (own_abs seed)) 0)), .val (.int (own_nx (own_adv (own_tab (own_abs seed)) 0) 1)), .val (.int (own_nx (own_adv (own_adv (own_tab (own_abs seed)) 0) 1) 2)), .val (.int (own_nx (own_tab (own_abs seed)) 0)), .val (.int (own_nx (own_adv (own_tab (own_abs seed)) 0) 1)), .val (.int (own_nx (own_adv (own_adv (own_tab (own_abs seed)) 0) 1) 2)), .val (.int (1 : Int32)), .unset] [(.int (1 : Int32))])) (fun t hr => XS.goto X_51.here hx rfl (pc0 := 137) (pc' := 141) rfl (hb hby at_137) (by decide) (by decide) hr) ?_
    refine Go.st (S' := T_51.setTop (mkF m 143 #[.val (.int p1), .val (.int p2), .val (.int vmag), .val (.int seed), .val (.ref ad_27), .val (.ref ad_29), .val (.int (own_nx (own_tab (own_abs seed)) 0)), .val (.int (own_nx (own_adv (own_tab (own_abs seed)) 0) 1)), .val (.int (own_nx (own_adv (own_adv (own_tab (own_abs seed)) 0) 1) 2)), .val (.int (own_nx (own_tab (own_abs seed)) 0)), .val (.int (own_nx (own_adv (own_tab (own_abs seed)) 0) 1)), .val (.int (own_nx (own_adv (own_adv (own_tab (own_abs seed)) 0) 1) 2)), .val (.int (1 : Int32)), .val (.int (1 : Int32))] [])) (fun t hr => XS.istore X_51.here hx rfl (hb hby at_141) rfl (l' := #[.val (.int p1), .val (.int p2), .val (.int vmag), .val (.int seed), .val (.ref ad_27), .val (.ref ad_29), .val (.int (own_nx (own_tab (own_abs seed)) 0)), .val (.int (own_nx (own_adv (own_tab (own_abs seed)) 0) 1)), .val (.int (own_nx (own_adv (own_adv (own_tab (own_abs seed)) 0) 1) 2)), .val (.int (own_nx (own_tab (own_abs seed)) 0)), .val (.int (own_nx (own_adv (own_tab (own_abs seed)) 0) 1)), .val (.int (own_nx (own_adv (own_adv (own_tab (own_abs seed)) 0) 1) 2)), .val (.int (1 : Int32)), .val (.int (1 : Int32))]) rfl hr) ?_
    refine Go.st (S' := T_51.setTop (mkF m 145 #[.val (.int p1), .val (.int p2), .val (.int vmag), .val (.int seed), .val (.ref ad_27), .val (.ref ad_29), .val (.int (own_nx (own_tab (own_abs seed)) 0)), .val (.int (own_nx (own_adv (own_tab (own_abs seed)) 0) 1)), .val (.int (own_nx (own_adv (own_adv (own_tab (own_abs seed)) 0) 1) 2)), .val (.int (own_nx (own_tab (own_abs seed)) 0)), .val (.int (own_nx (own_adv (own_tab (own_abs seed)) 0) 1)), .val (.int (own_nx (own_adv (own_adv (own_tab (own_abs seed)) 0) 1) 2)), .val (.int (1 : Int32)), .val (.int (1 : Int32))] [(.int (1 : Int32))])) (fun t hr => XS.iload X_51.here hx rfl (hb hby at_143) rfl hr) ?_
    refine Go.st (S' := T_51.setTop (mkF m 148 #[.val (.int p1), .val (.int p2), .val (.int vmag), .val (.int seed), .val (.ref ad_27), .val (.ref ad_29), .val (.int (own_nx (own_tab (own_abs seed)) 0)), .val (.int (own_nx (own_adv (own_tab (own_abs seed)) 0) 1)), .val (.int (own_nx (own_adv (own_adv (own_tab (own_abs seed)) 0) 1) 2)), .val (.int (own_nx (own_tab (own_abs seed)) 0)), .val (.int (own_nx (own_adv (own_tab (own_abs seed)) 0) 1)), .val (.int (own_nx (own_adv (own_adv (own_tab (own_abs seed)) 0) 1) 2)), .val (.int (1 : Int32)), .val (.int (1 : Int32))] [])) (fun t hr => XS.ifNo X_51.here hx rfl (hb hby at_145) rfl (XT.i0_eq_f (by decide)) hr) ?_
    refine Go.st (S' := T_51.setTop (mkF m 150 #[.val (.int p1), .val (.int p2), .val (.int vmag), .val (.int seed), .val (.ref ad_27), .val (.ref ad_29), .val (.int (own_nx (own_tab (own_abs seed)) 0)), .val (.int (own_nx (own_adv (own_tab (own_abs seed)) 0) 1)), .val (.int (own_nx (own_adv (own_adv (own_tab (own_abs seed)) 0) 1) 2)), .val (.int (own_nx (own_tab (own_abs seed)) 0)), .val (.int (own_nx (own_adv (own_tab (own_abs seed)) 0) 1)), .val (.int (own_nx (own_adv (own_adv (own_tab (own_abs seed)) 0) 1) 2)), .val (.int (1 : Int32)), .val (.int (1 : Int32))] [(.int (1 : Int32))])) (fun t hr => XS.iload X_51.here hx rfl (hb hby at_148) rfl hr) ?_
    refine Go.st (S' := T_51.setTop (mkF m 153 #[.val (.int p1), .val (.int p2), .val (.int vmag), .val (.int seed), .val (.ref ad_27), .val (.ref ad_29), .val (.int (own_nx (own_tab (own_abs seed)) 0)), .val (.int (own_nx (own_adv (own_tab (own_abs seed)) 0) 1)), .val (.int (own_nx (own_adv (own_adv (own_tab (own_abs seed)) 0) 1) 2)), .val (.int (own_nx (own_tab (own_abs seed)) 0)), .val (.int (own_nx (own_adv (own_tab (own_abs seed)) 0) 1)), .val (.int (own_nx (own_adv (own_adv (own_tab (own_abs seed)) 0) 1) 2)), .val (.int (1 : Int32)), .val (.int (1 : Int32))] [])) (fun t hr => XS.ifNo X_51.here hx rfl (hb hby at_150) rfl (XT.i0_eq_f (by decide)) hr) ?_
    refine Go.st (S' := T_51.setTop (mkF m 154 #[.val (.int p1), .val (.int p2), .val (.int vmag), .val (.int seed), .val (.ref ad_27), .val (.ref ad_29), .val (.int (own_nx (own_tab (own_abs seed)) 0)), .val (.int (own_nx (own_adv (own_tab (own_abs seed)) 0) 1)), .val (.int (own_nx (own_adv (own_adv (own_tab (own_abs seed)) 0) 1) 2)), .val (.int (own_nx (own_tab (own_abs seed)) 0)), .val (.int (own_nx (own_adv (own_tab (own_abs seed)) 0) 1)), .val (.int (own_nx (own_adv (own_adv (own_tab (own_abs seed)) 0) 1) 2)), .val (.int (1 : Int32)), .val (.int (1 : Int32))] [(.int (1 : Int32))])) (fun t hr => XS.iconst X_51.here hx rfl (hb hby at_153) hr) ?_
    refine Go.st (S' := T_51.setTop (mkF m 158 #[.val (.int p1), .val (.int p2), .val (.int vmag), .val (.int seed), .val (.ref ad_27), .val (.ref ad_29), .val (.int (own_nx (own_tab (own_abs seed)) 0)), .val (.int (own_nx (own_adv (own_tab (own_abs seed)) 0) 1)), .val (.int (own_nx (own_adv (own_adv (own_tab (own_abs seed)) 0) 1) 2)), .val (.int (own_nx (own_tab (own_abs seed)) 0)), .val (.int (own_nx (own_adv (own_tab (own_abs seed)) 0) 1)), .val (.int (own_nx (own_adv (own_adv (own_tab (own_abs seed)) 0) 1) 2)), .val (.int (1 : Int32)), .val (.int (1 : Int32))] [(.int (1 : Int32))])) (fun t hr => XS.goto X_51.here hx rfl (pc0 := 154) (pc' := 158) rfl (hb hby at_154) (by decide) (by decide) hr) ?_
    refine Go.retN X_51 hx hlk (t := .boolean) hret (by simp) (hb hby at_158) (by decide) (by decide) ?_
    try rw [e_51]
    exact ⟨rfl, N_51'⟩
set_option maxRecDepth 65536 in
set_option maxHeartbeats 4000000 in
theorem comes_1 {Post : Tables → Env → Array Value → State → Outcome → State → Prop} (hpost : ∀ tb e args s v u, (limb_1_1.after args s (.returned v) u = true ∧ limb_1_2.after args s (.returned v) u = true ∧ True) → FrameEnd s (.returned v) u (Jvm.fieldLocs frame_1_writes args s ++ Jvm.arrayLocs frame_1_arrays args s ++ Jvm.staticLocs frame_1_statics s) 16 320 → Post tb e args s (.returned v) u) :
    ArmFor flags0 classFile x code maxLocals ret World_1 tables_1 room_1 Calls_1 rest_1 Pre_1 Post := by
  intro l hfl _ _ p e ha hc hk s m args below hf hA hF happ hP
  obtain ⟨hcalls, hrest, hpre⟩ := hP
  obtain ⟨-, -, -, hnamed, -, -, -, hat⟩ := (Spec.applies_iff hf).mp happ
  obtain ⟨hg, hn⟩ := and_e (Cond.before_iff.mp (show (Jvm.Cond.and given_1 narrow_1).before args s = true from hpre))
  obtain ⟨hcnt, gg0⟩ := and_e hg
  obtain ⟨w0, w1, rfl⟩ : ∃ w0 w1 : Value, args = #[w0, w1] := by
    have hs : args.size = 2 := by simpa [Cond.value, given_1] using hcnt
    obtain ⟨L⟩ := args
    match L, hs with
    | [w0, w1], _ => exact ⟨w0, w1, rfl⟩
  have hw := fun d (hd : d ∈ tables_1) => atoms_spec (ws := Jvm.Cond.code x code maxLocals ret :: tables_1) hat d (List.mem_cons_of_mem _ hd)
  have hfit : Fit s := fun {y c} hc i hi => by
    obtain ⟨ha, rfl⟩ := Array.getElem?_eq_some_iff.mp hc
    have q := List.all_eq_true.mp ((Array.all_eq_true_iff_forall_mem.mp hF) _ (Array.getElem_mem ha)) i (List.mem_range.mpr hi)
    simpa [Array.getElem?_eq_getElem hi] using q
  obtain ⟨ga0, gg1⟩ := and_e gg0
  obtain ⟨i0, ev0⟩ := is_v ga0
  obtain rfl : w0 = (.int i0) := Option.some.inj ev0
  obtain ⟨i1, ev1⟩ := is_v gg1
  obtain rfl : w1 = (.int i1) := Option.some.inj ev1
  obtain ⟨n, o, h1, h2, h3, _, L, rfl, ⟨rfl, N⟩, hq⟩ := rm0 l s _ hw i0 i1 s.heap s.heap.size (Nat.le_refl _) tables_1 p e ha hc hk s m _ below hf ((Spec.applies_iff_loose hf).mp happ).1 ⟨rfl, State.Warmed39.refl s, rfl⟩ trivial
  refine ⟨n, _, h1, h2, h3, hpost _ _ _ _ _ _ ⟨Cond.after_iff.mpr rfl, Cond.after_iff.mpr (eq_i res_at (Term.int_eval (1)) rfl), trivial⟩ ⟨hq.1, hq.2.1, (hq.2.2.sift fun y hy => Or.inr (N y hy)).mono (by decide) (by decide)⟩⟩
theorem main_1_1 : Claimed_1_1 := comes_1 fun _ _ _ _ _ _ h hF => ⟨h.1, hF⟩
theorem main_1_2 : Claimed_1_2 := comes_1 fun _ _ _ _ _ _ h hF => ⟨h.2.1, hF⟩
end Jvm.Pilot.@@N@@
namespace Jvm.Pilot.@@N@@
open Jvm Jvm.ClassFile Sem Op Lib Jvm.Free Jvm.Stand Jvm.Pilot.@@N@@.Jvm.D
/-! MADE BY PROGRAM (witnessworld.py) out of the Statement's table words and the real class files: 10 classes; the members and pool entries that the words name. The judged class is class 1, her method 1. -/
namespace start1
open Jvm.ClassFile
def u (s : String) : CpInfo := .utf8 (stringToUtf16 s)
/-- a pool by its gaps: so many unusable entries, then the entry; so many at the end -/
def gap : Nat → List CpInfo → List CpInfo
  | 0, r => r
  | n + 1, r => .unusable :: gap n r
def poolList (es : List (Nat × CpInfo)) (last : Nat) : List CpInfo := es.foldr (fun e r => gap e.1 (e.2 :: r)) (gap last [])
def pool (es : List (Nat × CpInfo)) (last : Nat) : Array CpInfo := ⟨poolList es last⟩
def fileOf (pool : Array CpInfo) (this : Nat) (attrs : Array Attribute := #[]) (ms : Array MethodInfo := #[]) (fl : Nat := 33) (sup : Nat := 0) (ifs : Array Nat := #[]) (fds : Array FieldInfo := #[]) : ClassFile where
  minorVersion := 0
  majorVersion := 65
  constantPool := pool
  accessFlags := fl
  thisClass := this
  superClass := sup
  interfaces := ifs
  fields := fds
  methods := ms
  attributes := attrs
def plain (name : String) (sup : Option ClassId) : Class where
  name := name
  kind := .ordinary
  loader := none
  accessFlags := 33
  super := sup
  interfaces := #[]
  cf := none
  fields := #[]
  methods := #[]
  instanceTypes := #[]
  staticTypes := #[]
  resolved := #[]
  callSites := []
  init := .initialized
  statics := none
  mirror := none

def pool0 : Array CpInfo := pool [(5, u "<init>"), (0, u "()V"), (1, .class_ 10), (1, u "java/lang/Object")] 113

def k0c0 : Code := { maxStack := 0, maxLocals := 1, code := object_method_1_code, exceptionTable := #[], attributes := #[] }
def k0m0 : Method := { name := "<init>", desc := "()V", sig := { parameters := [], returnType := none }, accessFlags := 1, code := some k0c0 }
/-- java/lang/Object -/
def k0 : Class := { plain "java/lang/Object" none with
  accessFlags := 33
  interfaces := #[]
  cf := some (fileOf pool0 8 #[] #[{ accessFlags := 1, nameIndex := 5, descriptorIndex := 6, attributes := #[] }] 33 0 #[] #[])
  fields := #[]
  methods := #[k0m0]
  instanceTypes := #[]
  staticTypes := #[]
  resolved := Array.replicate 124 none
  statics := none }

def pool1 : Array CpInfo := pool [(2, .class_ 4), (1, u "java/lang/Object"), (0, u "<init>"), (0, u "()V"), (0, .integer 2147483647), (0, .integer 161803399), (0, .class_ 10), (0, u "com/example/moduline/moduline/library/Random"), (0, .methodref 9 12), (0, .nameAndType 5 13), (0, u "(I)V"), (0, .methodref 9 15), (0, .nameAndType 16 17), (0, u "next"), (0, u "()I"), (0, .methodref 19 20), (0, .class_ 21), (0, .nameAndType 22 23), (0, u "com/example/moduline/moduline/library/RandomNextPinLaw"), (0, u "inRange"), (0, u "(I)Z"), (2, .integer 2147483646), (2, u "law"), (0, u "(II)Z")] 3

def k1m0 : Method := { name := "<init>", desc := "()V", sig := { parameters := [], returnType := none }, accessFlags := 1, code := none }
def k1c1 : Code := { maxStack := 3, maxLocals := 14, code := code, exceptionTable := #[], attributes := #[] }
def k1m1 : Method := { name := "law", desc := "(II)Z", sig := { parameters := [.int, .int], returnType := some .boolean }, accessFlags := 9, code := some k1c1 }
def k1c2 : Code := { maxStack := 2, maxLocals := 1, code := method_3_code, exceptionTable := #[], attributes := #[] }
def k1m2 : Method := { name := "inRange", desc := "(I)Z", sig := { parameters := [.int], returnType := some .boolean }, accessFlags := 10, code := some k1c2 }
/-- com/example/moduline/moduline/library/RandomNextPinLaw -/
def k1 : Class := { plain "com/example/moduline/moduline/library/RandomNextPinLaw" (some 0) with
  accessFlags := 49
  interfaces := #[]
  cf := some (fileOf pool1 19 #[] #[{ accessFlags := 1, nameIndex := 5, descriptorIndex := 6, attributes := #[] }, { accessFlags := 9, nameIndex := 29, descriptorIndex := 30, attributes := #[] }, { accessFlags := 10, nameIndex := 22, descriptorIndex := 23, attributes := #[] }] 49 2 #[] #[])
  fields := #[]
  methods := #[k1m0, k1m1, k1m2]
  instanceTypes := #[]
  staticTypes := #[]
  resolved := Array.replicate 34 none
  statics := none }

def pool2 : Array CpInfo := pool [(3, .class_ 4), (0, u "com/example/moduline/moduline/library/Random"), (14, u "<init>"), (0, u "(I)V"), (0, .methodref 22 23), (0, .class_ 24), (0, .nameAndType 19 25), (0, u "java/lang/Object"), (0, u "()V"), (0, .fieldref 3 27), (0, .nameAndType 28 29), (0, u "table"), (0, u "[I"), (0, .integer 2147483648), (0, .integer 2147483647), (0, .methodref 33 34), (0, .class_ 35), (0, .nameAndType 36 37), (0, u "java/lang/Math"), (0, u "abs"), (0, u "(I)I"), (0, .integer 161803398), (0, .methodref 3 40), (0, .nameAndType 41 37), (0, u "reduce"), (0, .fieldref 3 43), (0, .nameAndType 44 45), (0, u "position"), (0, u "I"), (23, u "next"), (0, u "()I"), (6, u "MODULUS"), (1, u "SEED_BASE"), (0, u "SIZE"), (1, u "LAG"), (1, u "FILL_STEP"), (0, u "STIR_OFFSET"), (1, u "STIR_ROUNDS"), (1, u "SCALE"), (0, u "D")] 8

def k2m0 : Method := { name := "<init>", desc := "()V", sig := { parameters := [], returnType := none }, accessFlags := 1, code := none }
def k2c1 : Code := { maxStack := 6, maxLocals := 7, code := prog_22_method_2_code, exceptionTable := #[], attributes := #[] }
def k2m1 : Method := { name := "<init>", desc := "(I)V", sig := { parameters := [.int], returnType := none }, accessFlags := 1, code := some k2c1 }
def k2c2 : Code := { maxStack := 3, maxLocals := 3, code := prog_22_method_3_code, exceptionTable := #[], attributes := #[] }
def k2m2 : Method := { name := "next", desc := "()I", sig := { parameters := [], returnType := some .int }, accessFlags := 1, code := some k2c2 }
def k2c3 : Code := { maxStack := 2, maxLocals := 1, code := prog_22_method_9_code, exceptionTable := #[], attributes := #[] }
def k2m3 : Method := { name := "reduce", desc := "(I)I", sig := { parameters := [.int], returnType := some .int }, accessFlags := 10, code := some k2c3 }
/-- com/example/moduline/moduline/library/Random -/
def k2 : Class := { plain "com/example/moduline/moduline/library/Random" (some 0) with
  accessFlags := 49
  interfaces := #[]
  cf := some (fileOf pool2 3 #[] #[{ accessFlags := 1, nameIndex := 19, descriptorIndex := 25, attributes := #[] }, { accessFlags := 1, nameIndex := 19, descriptorIndex := 20, attributes := #[] }, { accessFlags := 1, nameIndex := 69, descriptorIndex := 70, attributes := #[] }, { accessFlags := 10, nameIndex := 41, descriptorIndex := 37, attributes := #[] }] 49 22 #[] #[{ accessFlags := 26, nameIndex := 77, descriptorIndex := 45, attributes := #[] }, { accessFlags := 26, nameIndex := 79, descriptorIndex := 45, attributes := #[] }, { accessFlags := 26, nameIndex := 80, descriptorIndex := 45, attributes := #[] }, { accessFlags := 26, nameIndex := 82, descriptorIndex := 45, attributes := #[] }, { accessFlags := 26, nameIndex := 84, descriptorIndex := 45, attributes := #[] }, { accessFlags := 26, nameIndex := 85, descriptorIndex := 45, attributes := #[] }, { accessFlags := 26, nameIndex := 87, descriptorIndex := 45, attributes := #[] }, { accessFlags := 26, nameIndex := 89, descriptorIndex := 90, attributes := #[] }, { accessFlags := 18, nameIndex := 28, descriptorIndex := 29, attributes := #[] }, { accessFlags := 2, nameIndex := 44, descriptorIndex := 45, attributes := #[] }])
  fields := #[{ name := "MODULUS", type := .int, accessFlags := 26, slot := 0, constantValue := 0 }, { name := "SEED_BASE", type := .int, accessFlags := 26, slot := 1, constantValue := 0 }, { name := "SIZE", type := .int, accessFlags := 26, slot := 2, constantValue := 0 }, { name := "LAG", type := .int, accessFlags := 26, slot := 3, constantValue := 0 }, { name := "FILL_STEP", type := .int, accessFlags := 26, slot := 4, constantValue := 0 }, { name := "STIR_OFFSET", type := .int, accessFlags := 26, slot := 5, constantValue := 0 }, { name := "STIR_ROUNDS", type := .int, accessFlags := 26, slot := 6, constantValue := 0 }, { name := "SCALE", type := .double, accessFlags := 26, slot := 7, constantValue := 0 }, { name := "table", type := (.array .int), accessFlags := 18, slot := 0, constantValue := 0 }, { name := "position", type := .int, accessFlags := 2, slot := 1, constantValue := 0 }]
  methods := #[k2m0, k2m1, k2m2, k2m3]
  instanceTypes := #[(.array .int), .int]
  staticTypes := #[.int, .int, .int, .int, .int, .int, .int, .double]
  resolved := Array.replicate 99 none
  statics := none }

def pool3 : Array CpInfo := pool [(1, .class_ 2), (0, u "java/lang/Math"), (1, .class_ 6), (1, u "java/lang/Object"), (0, u "<init>"), (0, u "()V"), (89, .class_ 100), (1, u "java/lang/Math$RandomNumberGeneratorHolder"), (23, u "abs"), (34, u "(I)I"), (12, u "negativeZeroFloatBits"), (0, u "J"), (2, u "negativeZeroDoubleBits"), (68, u "$assertionsDisabled"), (0, u "Z"), (91, u "twoToTheDoubleScaleDown"), (0, u "D"), (4, u "twoToTheDoubleScaleUp"), (9, u "E"), (3, u "PI"), (2, u "TAU"), (2, u "DEGREES_TO_RADIANS"), (0, u "RADIANS_TO_DEGREES")] 94

def k3m0 : Method := { name := "<init>", desc := "()V", sig := { parameters := [], returnType := none }, accessFlags := 2, code := none }
def k3c1 : Code := { maxStack := 1, maxLocals := 1, code := jdk_29_method_59_code, exceptionTable := #[], attributes := #[] }
def k3m1 : Method := { name := "abs", desc := "(I)I", sig := { parameters := [.int], returnType := some .int }, accessFlags := 9, code := some k3c1 }
/-- java/lang/Math -/
def k3 : Class := { plain "java/lang/Math" (some 0) with
  accessFlags := 49
  interfaces := #[]
  cf := some (fileOf pool3 1 #[.nestMembers #[98]] #[{ accessFlags := 2, nameIndex := 7, descriptorIndex := 8, attributes := #[] }, { accessFlags := 9, nameIndex := 124, descriptorIndex := 159, attributes := #[] }] 49 4 #[] #[{ accessFlags := 25, nameIndex := 354, descriptorIndex := 339, attributes := #[] }, { accessFlags := 25, nameIndex := 358, descriptorIndex := 339, attributes := #[] }, { accessFlags := 25, nameIndex := 361, descriptorIndex := 339, attributes := #[] }, { accessFlags := 26, nameIndex := 364, descriptorIndex := 339, attributes := #[] }, { accessFlags := 26, nameIndex := 365, descriptorIndex := 339, attributes := #[] }, { accessFlags := 26, nameIndex := 172, descriptorIndex := 173, attributes := #[] }, { accessFlags := 26, nameIndex := 176, descriptorIndex := 173, attributes := #[] }, { accessFlags := 8, nameIndex := 344, descriptorIndex := 339, attributes := #[] }, { accessFlags := 8, nameIndex := 338, descriptorIndex := 339, attributes := #[] }, { accessFlags := 4120, nameIndex := 245, descriptorIndex := 246, attributes := #[] }])
  fields := #[{ name := "E", type := .double, accessFlags := 25, slot := 0, constantValue := 0 }, { name := "PI", type := .double, accessFlags := 25, slot := 1, constantValue := 0 }, { name := "TAU", type := .double, accessFlags := 25, slot := 2, constantValue := 0 }, { name := "DEGREES_TO_RADIANS", type := .double, accessFlags := 26, slot := 3, constantValue := 0 }, { name := "RADIANS_TO_DEGREES", type := .double, accessFlags := 26, slot := 4, constantValue := 0 }, { name := "negativeZeroFloatBits", type := .long, accessFlags := 26, slot := 5, constantValue := 0 }, { name := "negativeZeroDoubleBits", type := .long, accessFlags := 26, slot := 6, constantValue := 0 }, { name := "twoToTheDoubleScaleUp", type := .double, accessFlags := 8, slot := 7, constantValue := 0 }, { name := "twoToTheDoubleScaleDown", type := .double, accessFlags := 8, slot := 8, constantValue := 0 }, { name := "$assertionsDisabled", type := .boolean, accessFlags := 4120, slot := 9, constantValue := 0 }]
  methods := #[k3m0, k3m1]
  instanceTypes := #[]
  staticTypes := #[.double, .double, .double, .double, .double, .long, .long, .double, .double, .boolean]
  resolved := Array.replicate 460 none
  statics := none }

def pool4 : Array CpInfo := pool [(1, u "java/lang/Cloneable"), (0, .class_ 1), (0, u "java/lang/Object"), (0, .class_ 3)] 3

/-- java/lang/Cloneable -/
def k4 : Class := { plain "java/lang/Cloneable" (some 0) with
  accessFlags := 1537
  interfaces := #[]
  cf := some (fileOf pool4 2 #[] #[] 1537 4 #[] #[])
  fields := #[]
  methods := #[]
  instanceTypes := #[]
  staticTypes := #[]
  resolved := Array.replicate 8 none
  statics := none }

def pool5 : Array CpInfo := pool [(1, u "java/io/Serializable"), (0, .class_ 1), (0, u "java/lang/Object"), (0, .class_ 3)] 3

/-- java/io/Serializable -/
def k5 : Class := { plain "java/io/Serializable" (some 0) with
  accessFlags := 1537
  interfaces := #[]
  cf := some (fileOf pool5 2 #[] #[] 1537 4 #[] #[])
  fields := #[]
  methods := #[]
  instanceTypes := #[]
  staticTypes := #[]
  resolved := Array.replicate 8 none
  statics := none }

/-- the primitive byte -/
def k6 : Class := { plain "byte" none with kind := .primitive 'B', accessFlags := 0x411 }
/-- [B -/
def k7 : Class := { plain "[B" (some 0) with kind := .array 6 .byte, interfaces := #[4, 5], accessFlags := 1041 }

/-- the primitive int -/
def k8 : Class := { plain "int" none with kind := .primitive 'I', accessFlags := 0x411 }
/-- [I -/
def k9 : Class := { plain "[I" (some 0) with kind := .array 8 .int, interfaces := #[4, 5], accessFlags := 1041 }

def heap : Heap := #[]
def classes : Array Class := #[k0, k1, k2, k3, k4, k5, k6, k7, k8, k9]
def interned : List (Array UInt16 × Addr) := []
def slotsUsed : Nat := 0
def theMethod : MethodId := ⟨1, 1⟩
def args0 : Array Value := #[.int 5, .int 3]
def aboutOver (below : List Frame) : State where
  vm := { classes := classes, interned := interned.toArray }
  heap := heap
  slotsUsed := slotsUsed
  threads := #[{ frames := .invoking theMethod args0 :: below }]
def below0 : List Frame := [.native { method := ⟨0, 0⟩, args := #[] }]
def about1 : State := aboutOver below0
def p0 : Program := .bare "" "" ""
def e0 : Env := launch0.env 0 0 0
theorem w_frames : about1.frames = Frame.invoking theMethod args0 :: below0 := rfl
set_option maxRecDepth 65536 in
theorem w_args : argsFit about1.vm theMethod args0 = true := by decide +kernel
set_option maxRecDepth 65536 in
theorem w_heap : heapFits about1 = true := by decide +kernel
set_option maxRecDepth 65536 in
theorem w_runnable : about1.curStatus? = some .runnable := by decide +kernel
set_option maxRecDepth 65536 in
theorem w_alone : about1.alone = true := by decide +kernel
set_option maxRecDepth 65536 in
theorem w_named : about1.methodNamed? x = some theMethod := by decide +kernel
set_option maxRecDepth 65536 in
theorem w_hears : about1.hears theMethod below0 = true := by decide +kernel
set_option maxRecDepth 65536 in
theorem w_ripe : about1.ripe theMethod args0 below0 = true := by decide +kernel
theorem w_running : about1.status = .running := rfl
set_option maxRecDepth 65536 in
theorem w_room : about1.hasRoom e0.platform room_1 = true :=
  launch0.hasRoom_least _ room_1 (by decide +kernel) (by decide +kernel) (by decide +kernel) (by decide +kernel) (by decide +kernel) (by decide +kernel)
theorem allAtoms_all (ts : List Jvm.Cond) (a : Array Jvm.Value) (st : Jvm.State) : (allAtoms ts).before a st = ts.all (fun c => c.before a st) := by
  induction ts with
  | nil => rfl
  | cons c t ih =>
    show (Jvm.Cond.and c (allAtoms t)).before a st = _
    rw [Jvm.Cond.before_and, ih, List.all_cons]
def words1 : List Jvm.Cond := Jvm.Cond.code x code maxLocals ret :: tables_1
/-- a 'code' word, met by the world's own term for the bytes: nothing is compared byte by byte -/
theorem code_word {y : MethodName} {bytes : ByteArray} {mx : Nat} {rt : Option FieldType} {a : Array Value} {s : State} {m : MethodId} {meth : Method} {c : Code} (h1 : s.methodNamed? y = some m) (h2 : s.vm.method? m = some meth) (h3 : meth.code = some c) (h4 : c.code = bytes)
    (h5 : (c.maxLocals == mx && c.exceptionTable.isEmpty && decide (c.maxStack ≤ mostOperands) && decide (meth.sig.returnType = rt) && !meth.locks && decide (parseMethodDescriptor y.desc = some meth.sig)) = true) : (Jvm.Cond.code y bytes mx rt).before a s = true := by
  simp only [Bool.and_eq_true, beq_iff_eq, Bool.not_eq_true', decide_eq_true_eq] at h5
  obtain ⟨⟨⟨⟨⟨g1, g2⟩, g3⟩, g4⟩, g5⟩, g6⟩ := h5
  simp [Cond.before, Cond.holds, Cond.value, h1, h2, h3, h4, g1, g2, g3, g4, g5, g6]
def isCode : Jvm.Cond → Bool
  | .code _ _ _ _ => true
  | _ => false
theorem all_split {L : List Jvm.Cond} {P : Jvm.Cond → Bool} (h1 : L.all (fun c => isCode c || P c) = true) (h2 : ∀ c ∈ L.filter isCode, P c = true) : L.all P = true := by
  refine List.all_eq_true.mpr fun c hc => ?_
  have h := List.all_eq_true.mp h1 c hc
  rcases Bool.eq_false_or_eq_true (isCode c) with hi | hi
  · exact h2 c (List.mem_filter.mpr ⟨hc, hi⟩)
  · simpa [hi] using h
set_option maxRecDepth 65536 in
theorem w_c0 : (Jvm.Cond.code x code maxLocals ret).before args0 about1 = true := code_word (m := ⟨1, 1⟩) (meth := k1m1) (c := k1c1) (by decide +kernel) rfl rfl rfl (by decide +kernel)
set_option maxRecDepth 65536 in
theorem w_c1 : (Jvm.Cond.code ({ cls := "com/example/moduline/moduline/library/Random", name := "<init>", desc := "(I)V" } : Jvm.MethodName) prog_22_method_2_code (7 : Nat) (Option.none : Option Jvm.ClassFile.FieldType)).before args0 about1 = true := code_word (m := ⟨2, 1⟩) (meth := k2m1) (c := k2c1) (by decide +kernel) rfl rfl rfl (by decide +kernel)
set_option maxRecDepth 65536 in
theorem w_c2 : (Jvm.Cond.code ({ cls := "java/lang/Object", name := "<init>", desc := "()V" } : Jvm.MethodName) object_method_1_code (1 : Nat) (Option.none : Option Jvm.ClassFile.FieldType)).before args0 about1 = true := code_word (m := ⟨0, 0⟩) (meth := k0m0) (c := k0c0) (by decide +kernel) rfl rfl rfl (by decide +kernel)
set_option maxRecDepth 65536 in
theorem w_c3 : (Jvm.Cond.code ({ cls := "java/lang/Math", name := "abs", desc := "(I)I" } : Jvm.MethodName) jdk_29_method_59_code (1 : Nat) (Option.some Jvm.ClassFile.FieldType.int)).before args0 about1 = true := code_word (m := ⟨3, 1⟩) (meth := k3m1) (c := k3c1) (by decide +kernel) rfl rfl rfl (by decide +kernel)
set_option maxRecDepth 65536 in
theorem w_c4 : (Jvm.Cond.code ({ cls := "com/example/moduline/moduline/library/Random", name := "reduce", desc := "(I)I" } : Jvm.MethodName) prog_22_method_9_code (1 : Nat) (Option.some Jvm.ClassFile.FieldType.int)).before args0 about1 = true := code_word (m := ⟨2, 3⟩) (meth := k2m3) (c := k2c3) (by decide +kernel) rfl rfl rfl (by decide +kernel)
set_option maxRecDepth 65536 in
theorem w_c5 : (Jvm.Cond.code ({ cls := "com/example/moduline/moduline/library/Random", name := "next", desc := "()I" } : Jvm.MethodName) prog_22_method_3_code (3 : Nat) (Option.some Jvm.ClassFile.FieldType.int)).before args0 about1 = true := code_word (m := ⟨2, 2⟩) (meth := k2m2) (c := k2c2) (by decide +kernel) rfl rfl rfl (by decide +kernel)
set_option maxRecDepth 65536 in
theorem w_c6 : (Jvm.Cond.code ({ cls := "com/example/moduline/moduline/library/RandomNextPinLaw", name := "inRange", desc := "(I)Z" } : Jvm.MethodName) method_3_code (1 : Nat) (Option.some Jvm.ClassFile.FieldType.boolean)).before args0 about1 = true := code_word (m := ⟨1, 2⟩) (meth := k1m2) (c := k1c2) (by decide +kernel) rfl rfl rfl (by decide +kernel)
def codes1 : List Jvm.Cond := [Jvm.Cond.code x code maxLocals ret, Jvm.Cond.code ({ cls := "com/example/moduline/moduline/library/Random", name := "<init>", desc := "(I)V" } : Jvm.MethodName) prog_22_method_2_code (7 : Nat) (Option.none : Option Jvm.ClassFile.FieldType), Jvm.Cond.code ({ cls := "java/lang/Object", name := "<init>", desc := "()V" } : Jvm.MethodName) object_method_1_code (1 : Nat) (Option.none : Option Jvm.ClassFile.FieldType), Jvm.Cond.code ({ cls := "java/lang/Math", name := "abs", desc := "(I)I" } : Jvm.MethodName) jdk_29_method_59_code (1 : Nat) (Option.some Jvm.ClassFile.FieldType.int), Jvm.Cond.code ({ cls := "com/example/moduline/moduline/library/Random", name := "reduce", desc := "(I)I" } : Jvm.MethodName) prog_22_method_9_code (1 : Nat) (Option.some Jvm.ClassFile.FieldType.int), Jvm.Cond.code ({ cls := "com/example/moduline/moduline/library/Random", name := "next", desc := "()I" } : Jvm.MethodName) prog_22_method_3_code (3 : Nat) (Option.some Jvm.ClassFile.FieldType.int), Jvm.Cond.code ({ cls := "com/example/moduline/moduline/library/RandomNextPinLaw", name := "inRange", desc := "(I)Z" } : Jvm.MethodName) method_3_code (1 : Nat) (Option.some Jvm.ClassFile.FieldType.boolean)]
set_option maxRecDepth 65536 in
theorem codes_eq : words1.filter isCode = codes1 := rfl
theorem w_codes : ∀ c ∈ words1.filter isCode, c.before args0 about1 = true := by
  rw [codes_eq]
  intro c hc
  simp only [codes1, List.mem_cons, List.not_mem_nil, or_false] at hc
  rcases hc with rfl | rfl | rfl | rfl | rfl | rfl | rfl
  · exact w_c0
  · exact w_c1
  · exact w_c2
  · exact w_c3
  · exact w_c4
  · exact w_c5
  · exact w_c6
set_option maxRecDepth 65536 in
theorem w_t1 : (words1.take 24).all (fun c => isCode c || c.before args0 about1) = true := by decide +kernel
set_option maxRecDepth 65536 in
theorem w_t2 : (words1.drop 24).all (fun c => isCode c || c.before args0 about1) = true := by decide +kernel
theorem w_tables : (allAtoms (Jvm.Cond.code x code maxLocals ret :: tables_1)).before args0 about1 = true := by
  rw [allAtoms_all]
  show words1.all (fun c => c.before args0 about1) = true
  refine all_split ?_ w_codes
  rw [← List.take_append_drop 24 words1, List.all_append, w_t1, w_t2]
  rfl
set_option maxRecDepth 65536 in
theorem w_case : (Jvm.Cond.and given_1 narrow_1).before args0 about1 = true := by decide +kernel
theorem w_applies : (headSpec (Jvm.Cond.code x code maxLocals ret :: tables_1) room_1).applies x e0.platform about1 = true :=
  (Spec.applies_iff w_frames).mpr ⟨w_running, w_runnable, w_alone, w_named, w_hears, w_ripe, w_room, w_tables⟩
theorem atStart : AtStart classFile x code maxLocals ret World_1 tables_1 room_1 Calls_1 rest_1 Pre_1 launch0 p0 e0 about1 theMethod args0 below0 :=
  ⟨lists_1, trivial, launch0.admits_env _ _ _, launch0.least_env, fairChoices_fair.cas, fairChoices_fair.clock, w_frames, w_args, w_heap, w_applies, trivial, trivial, w_case⟩
end start1
theorem witness_1 : WitnessClaimed_1 := ⟨start1.p0, start1.e0, start1.about1, start1.theMethod, start1.args0, start1.below0, start1.atStart⟩
end Jvm.Pilot.@@N@@
