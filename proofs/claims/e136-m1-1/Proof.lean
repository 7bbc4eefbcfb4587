import JvmDerived
import JvmDerived.Pilot.@@N@@Statement
import JvmDerived.Pilot.@@N@@Code
set_option linter.unusedVariables false
set_option linter.unusedSimpArgs false
namespace Jvm.Pilot.@@N@@
open Jvm Jvm.ClassFile Sem Op Lib Jvm.Free Jvm.Stand Jvm.LawKit Jvm.RoadKit Bundle Jvm.Pilot.@@N@@.Jvm.D
/-! own kit: a walk that goes forward, step by step, and may fork anywhere (Go); a body's contract (Con); calls by contract; arrays by their list of values (Ary) -/
def Go (p : Program) (e : Env) (below : List Frame) (s : State) (k n : Nat) (Q : Option Value → Heap → List Loc → Prop) (S : State) : Prop :=
  ∃ (U : State) (o : Outcome), Steps p.tables e below S U ∧ U.status = .running ∧ Ended U below o ∧ ∃ v L, o = .returned v ∧ Q v U.heap L ∧ FrameEnd s o U L k n
section Own
variable {p : Program} {l : Launch} {e : Env} {R : Room} {s : State} {m : MethodId} {args : Array Value} {below : List Frame} {meth : Method} {c : Code} {T : State} {locs : List Loc} {cells slots : Nat} {Z : State} {a0 : Array Value} {h h' : Heap} {k n : Nat} {Q : Option Value → Heap → List Loc → Prop} {S S' : State}
theorem Go.st (f : ∀ t, Steps p.tables e below S' t → Steps p.tables e below S t) (g : Go p e below s k n Q S') : Go p e below s k n Q S := by
  obtain ⟨U, o, h1, r⟩ := g
  exact ⟨U, o, f _ h1, r⟩
theorem Go.cast {g g' : JFrame} (q : g = g') (k' : Go p e below s k n Q (T.setTop g')) : Go p e below s k n Q (T.setTop g) := q ▸ k'
theorem Go.ret (X : Stand p l e R s m args below meth c T locs cells slots) (hlk : meth.locks = false) {v : Option Value} (hv : meth.sig.returnType = none → v = none)
    (step : ∀ fs, (∀ (f : JFrame) (acts : List Action), f.method = m → f.locked = none → f.entered = [] → (doReturn e (T.setTop f) acts v).1 = T.setFrames fs) → Steps p.tables e below S (T.setFrames fs))
    (hk : cells ≤ k) (hn : slots ≤ n) (hQ : Q v T.heap locs) : Go p e below s k n Q S := by
  obtain ⟨fs, hr, hrun, hended, hW, hsame⟩ := X.leave (v := v) hv hlk
  exact ⟨_, _, step fs hr, hrun, hended, v, locs, rfl, hQ, ⟨_, rfl⟩, hW, hsame.mono hk hn⟩
theorem Go.retI (X : Stand p l e R s m args below meth c T locs cells slots) (hx : p.tables.exec = Jvm.exec) (hlk : meth.locks = false) (hret : meth.sig.returnType = some .int) {pc : Nat} {Ls : Array Slot} {z : Int32} {rest : List Value} (hd : decode c.code pc = .ok (.ireturn, 1))
    (hk : cells ≤ k) (hn : slots ≤ n) (hQ : Q (some (.int z)) T.heap locs) : Go p e below s k n Q (T.setTop (mkF m pc Ls (.int z :: rest))) :=
  Go.ret X hlk (fun q => by rw [hret] at q; cases q) (fun fs hr => retOut X hx hret rfl (Or.inl ⟨rfl, Or.inl rfl, z, rfl⟩) hd hr) hk hn hQ
theorem Go.retN (X : Stand p l e R s m args below meth c T locs cells slots) (hx : p.tables.exec = Jvm.exec) (hlk : meth.locks = false) {t : FieldType} (hret : meth.sig.returnType = some t) (ht : t = .boolean ∨ t = .byte ∨ t = .char ∨ t = .short) {pc : Nat} {Ls : Array Slot} {z : Int32} {rest : List Value} (hd : decode c.code pc = .ok (.ireturn, 1))
    (hk : cells ≤ k) (hn : slots ≤ n) (hQ : Q (some (.int (nar t z))) T.heap locs) : Go p e below s k n Q (T.setTop (mkF m pc Ls (.int z :: rest))) :=
  Go.ret X hlk (fun q => by rw [hret] at q; cases q) (fun fs hr => Jvm.RoadKit.retN X hx hret ht hd hr) hk hn hQ
theorem Go.retL (X : Stand p l e R s m args below meth c T locs cells slots) (hx : p.tables.exec = Jvm.exec) (hlk : meth.locks = false) (hret : meth.sig.returnType = some .long) {pc : Nat} {Ls : Array Slot} {z : Int64} {rest : List Value} (hd : decode c.code pc = .ok (.lreturn, 1))
    (hk : cells ≤ k) (hn : slots ≤ n) (hQ : Q (some (.long z)) T.heap locs) : Go p e below s k n Q (T.setTop (mkF m pc Ls (.long z :: rest))) :=
  Go.ret X hlk (fun q => by rw [hret] at q; cases q) (fun fs hr => retOut X hx hret rfl (Or.inr (Or.inl ⟨rfl, rfl, z, rfl⟩)) hd hr) hk hn hQ
theorem own_narR {t : FieldType} {w : Value} (h1 : t.isReference = true) (h2 : w.isRef = true) : narrow t w = w := by
  rcases ref_cases h2 with rfl | ⟨a, rfl⟩ <;> cases t <;> first | rfl | (simp [FieldType.isReference] at h1)
theorem Go.retA (X : Stand p l e R s m args below meth c T locs cells slots) (hx : p.tables.exec = Jvm.exec) (hlk : meth.locks = false) {t : FieldType} (hret : meth.sig.returnType = some t) (ht : t.isReference = true) {pc : Nat} {Ls : Array Slot} {w : Value} {rest : List Value} (hw : w.isRef = true) (hd : decode c.code pc = .ok (.areturn, 1))
    (hk : cells ≤ k) (hn : slots ≤ n) (hQ : Q (some w) T.heap locs) : Go p e below s k n Q (T.setTop (mkF m pc Ls (w :: rest))) :=
  Go.ret X hlk (fun q => by rw [hret] at q; cases q) (fun fs hr => retOut X hx hret (own_narR ht hw) (Or.inr (Or.inr (Or.inr (Or.inr ⟨rfl, ht, hw⟩)))) hd hr) hk hn hQ
theorem Go.retV (X : Stand p l e R s m args below meth c T locs cells slots) (hx : p.tables.exec = Jvm.exec) (hlk : meth.locks = false) (hret : meth.sig.returnType = none) {pc : Nat} {Ls : Array Slot} (hd : decode c.code pc = .ok (.return_, 1))
    (hk : cells ≤ k) (hn : slots ≤ n) (hQ : Q none T.heap locs) : Go p e below s k n Q (T.setTop (mkF m pc Ls [])) :=
  Go.ret X hlk (fun _ => rfl) (fun fs hr => X.returnOut hx hret hd hr) hk hn hQ
/-- what a body leaves, for every start that is warmer than Z's, its heap h0, its arguments as' -/
def Con (l : Launch) (Z : State) (y : MethodName) (bytes : ByteArray) (maxL : Nat) (ret : Option FieldType) (rm : Room) (as' : Array Value) (h0 : Heap) (Q : Option Value → Heap → List Loc → Prop) : Prop :=
  ∀ ws : List Jvm.Cond, MetFree l y (head1 (Jvm.Cond.code y bytes maxL ret :: ws) rm) (fun a U => a = as' ∧ Z.Warmed39 U.vm ∧ U.heap = h0) (fun _ _ _ _ _ => True) (fun _ U o U' => ∃ v L, o = .returned v ∧ Q v U'.heap L ∧ FrameEnd U o U' L rm.cells rm.slots)
theorem Con.of {y : MethodName} {bytes : ByteArray} {maxL : Nat} {ret : Option FieldType} {rm : Room} {as' : Array Value} {h0 : Heap} (hp : plainFor y = true)
    (body : ∀ (p : Program) (e : Env) (s : State) (m : MethodId) (below : List Frame) (meth : Method) (c : Code) (s₁ : State), Stand p l e rm s m as' below meth c s₁ [] 0 0 → p.tables.exec = Jvm.exec → c.code = bytes → c.maxLocals = maxL → Z.Warmed39 s.vm → s.vm.findClass y.cls = some m.cls → meth.name = y.name → meth.sig.returnType = ret → meth.locks = false → s₁.heap = h0 →
      Go p e below s rm.cells rm.slots Q (s₁.setTop (entryFrame m as' maxL))) : Con l Z y bytes maxL ret rm as' h0 Q := by
  intro ws
  refine MetFree.of_bodySF hp hisR ?_
  intro p e s m args below meth c s₁ Bd hml hP hK
  obtain ⟨rfl, hZ, hh⟩ := hP
  obtain ⟨U, o, h1, h2, h3, h4⟩ := body p e s m below meth c s₁ (Stand.of_body Bd) Bd.exec Bd.bytes hml hZ (findClass_of_methodNamed Bd.named) (name_of_methodNamed Bd.named Bd.method).1 Bd.returns Bd.notSynchronized (by rw [← hh, Bd.state]; rfl)
  exact ⟨U, o, h1, h2, h3, h4⟩
theorem Con.imp {y : MethodName} {bytes : ByteArray} {maxL : Nat} {ret : Option FieldType} {rm : Room} {as' : Array Value} {h0 : Heap} {Q' : Option Value → Heap → List Loc → Prop} (hC : Con l Z y bytes maxL ret rm as' h0 Q) (hq : ∀ v h L, Q v h L → Q' v h L) : Con l Z y bytes maxL ret rm as' h0 Q' := by
  intro ws p e ha hc hk s m args below hf happ hP hK
  obtain ⟨n, o, h1, h2, h3, v, L, h4, h5, h6⟩ := hC ws p e ha hc hk s m args below hf happ hP hK
  exact ⟨n, o, h1, h2, h3, v, L, h4, hq _ _ _ h5, h6⟩
theorem own_callS (X : Stand p l e R s m args below meth c T locs cells slots) (hx : p.tables.exec = Jvm.exec) (hZ : Z.Warmed39 s.vm) {own : String} {index : Nat} {y : MethodName} {bytes : ByteArray} {maxL : Nat} {ret : Option FieldType} {rm : Room}
    (hown : s.vm.findClass own = some m.cls) (w1 : (Jvm.Cond.methodLink own index y).before a0 Z = true) (w2 : (Jvm.Cond.static y).before a0 Z = true) (w3 : (Jvm.Cond.initialized y.cls).before a0 Z = true) (w4 : (Jvm.Cond.code y bytes maxL ret).before a0 Z = true)
    (hy : y.cls ≠ "java/lang/invoke/MethodHandle" ∧ y.cls ≠ "java/lang/invoke/VarHandle") (eT : T.heap = h) {argsL rest : List Value} (hC : Con l Z y bytes maxL ret rm argsL.toArray h Q)
    {g : JFrame} (hg : g.method = m) (hsize : g.locals.size = c.maxLocals) (hlen : ∀ sig, parseMethodDescriptor y.desc = some sig → argsL.length = sig.parameters.length) (hstack : g.stack = argsL.reverse ++ rest) (hd : decode c.code g.pc = .ok (.invokestatic index, 3))
    {W : Nat} (hW : 2 * g.monitorRoom + (rest.map fun v => v.category).sum ≤ W) (hf : rm.frames + 1 ≤ R.frames) (hl : W + (maxL + 11) + rm.locals ≤ R.locals) (hc : cells + rm.cells ≤ R.cells) (hs : slots + rm.slots ≤ R.slots) :
    ∃ v T' h' L, Stand p l e R s m args below meth c T' (locs ++ L) (cells + rm.cells) (slots + rm.slots) ∧ T'.heap = h' ∧ Q v h' L ∧ ∀ target, Steps p.tables e below (T'.setTop { g with pc := g.pc + 3, stack := v.toList ++ rest }) target → Steps p.tables e below (T.setTop g) target := by
  obtain ⟨v, _, ⟨T', L', k', n'⟩, -, X', ⟨Lc, hQ, l', y', z'⟩, st⟩ := Jvm.LawKit.callS X hx (y := y) hown (mvT hZ w1) (mvT hZ w2) (mvT hZ w3) (mvT hZ w4) hy (backOf (W := W) (hC []) hZ w4 w3 hf hl) hg hsize (argsL := argsL) (rest := rest) hlen hstack hW hd (fun _ _ => ⟨rfl, eT, hc, hs⟩)
  dsimp only [Pt.U, Pt.locs, Pt.cells, Pt.slots] at X' l' y' z' st hQ
  subst l' y' z'
  exact ⟨v, T', _, Lc, X', rfl, hQ, st⟩
theorem own_callN (X : Stand p l e R s m args below meth c T locs cells slots) (hx : p.tables.exec = Jvm.exec) (hZ : Z.Warmed39 s.vm) {own : String} {index : Nat} {y : MethodName} {bytes : ByteArray} {maxL : Nat} {rm : Room} (hy1 : y.name = "<init>")
    (hown : s.vm.findClass own = some m.cls) (w1 : (Jvm.Cond.methodLink own index y).before a0 Z = true) (w2 : (Jvm.Cond.instanceMethod y).before a0 Z = true) (w3 : (Jvm.Cond.initialized y.cls).before a0 Z = true) (w4 : (Jvm.Cond.code y bytes maxL none).before a0 Z = true)
    (hy : y.cls ≠ "java/lang/invoke/MethodHandle" ∧ y.cls ≠ "java/lang/invoke/VarHandle") (eT : T.heap = h) {a : Addr} {argsL rest : List Value} (hC : Con l Z y bytes maxL none rm (.ref a :: argsL).toArray h Q)
    {g : JFrame} (hg : g.method = m) (hsize : g.locals.size = c.maxLocals) (hlen : ∀ sig, parseMethodDescriptor y.desc = some sig → argsL.length = sig.parameters.length) (hstack : g.stack = argsL.reverse ++ .ref a :: rest) (hd : decode c.code g.pc = .ok (.invokespecial index, 3))
    {W : Nat} (hW : 2 * g.monitorRoom + (rest.map fun v => v.category).sum ≤ W) (hf : rm.frames + 1 ≤ R.frames) (hl : W + (maxL + 11) + rm.locals ≤ R.locals) (hc : cells + rm.cells ≤ R.cells) (hs : slots + rm.slots ≤ R.slots) :
    ∃ v T' h' L, Stand p l e R s m args below meth c T' (locs ++ L) (cells + rm.cells) (slots + rm.slots) ∧ T'.heap = h' ∧ Q v h' L ∧ ∀ target, Steps p.tables e below (T'.setTop { g with pc := g.pc + 3, stack := v.toList ++ rest }) target → Steps p.tables e below (T.setTop g) target := by
  obtain ⟨v, _, ⟨T', L', k', n'⟩, -, X', ⟨Lc, hQ, l', y', z'⟩, st⟩ := X.specialBack hx (y := y) hy1 hown (mvT hZ w1) (mvT hZ w2) (mvT hZ w4) hy (backOf (W := W) (hC []) hZ w4 w3 hf hl) hg hsize (Steps.refl _) (a := a) (argsL := argsL) (rest := rest) hlen hstack hW hd (fun _ _ => ⟨rfl, eT, hc, hs⟩)
  dsimp only [Pt.U, Pt.locs, Pt.cells, Pt.slots] at X' l' y' z' st hQ
  subst l' y' z'
  exact ⟨v, T', _, Lc, X', rfl, hQ, fun t ht => st.trans ht⟩
theorem own_callV (X : Stand p l e R s m args below meth c T locs cells slots) (hx : p.tables.exec = Jvm.exec) (hZ : Z.Warmed39 s.vm) {own C : String} {index : Nat} {y z : MethodName} {bytes : ByteArray} {maxL : Nat} {ret : Option FieldType} {rm : Room}
    (hown : s.vm.findClass own = some m.cls) (w1 : (Jvm.Cond.methodLink own index y).before a0 Z = true) (w2 : (Jvm.Cond.declares y).before a0 Z = true) (w5 : (Jvm.Cond.selects y.cls y y).before a0 Z = true) (w6 : (Jvm.Cond.selects C y z).before a0 Z = true) (w7 : (Jvm.Cond.instanceMethod z).before a0 Z = true) (w3 : (Jvm.Cond.initialized z.cls).before a0 Z = true) (w4 : (Jvm.Cond.code z bytes maxL ret).before a0 Z = true)
    (hy : y.cls ≠ "java/lang/invoke/MethodHandle" ∧ y.cls ≠ "java/lang/invoke/VarHandle") (eT : T.heap = h) {a : Addr} (E : Exa Z h a C) {argsL rest : List Value} (hC : Con l Z z bytes maxL ret rm (.ref a :: argsL).toArray h Q)
    {g : JFrame} (hg : g.method = m) (hsize : g.locals.size = c.maxLocals) (hlen : ∀ sig, parseMethodDescriptor y.desc = some sig → argsL.length = sig.parameters.length) (hstack : g.stack = argsL.reverse ++ .ref a :: rest) (hd : decode c.code g.pc = .ok (.invokevirtual index, 3))
    {W : Nat} (hW : 2 * g.monitorRoom + (rest.map fun v => v.category).sum ≤ W) (hf : rm.frames + 1 ≤ R.frames) (hl : W + (maxL + 11) + rm.locals ≤ R.locals) (hc : cells + rm.cells ≤ R.cells) (hs : slots + rm.slots ≤ R.slots) :
    ∃ v T' h' L, Stand p l e R s m args below meth c T' (locs ++ L) (cells + rm.cells) (slots + rm.slots) ∧ T'.heap = h' ∧ Q v h' L ∧ ∀ target, Steps p.tables e below (T'.setTop { g with pc := g.pc + 3, stack := v.toList ++ rest }) target → Steps p.tables e below (T.setTop g) target := by
  obtain ⟨cq, kq, qa, qb, qc⟩ := isOf hZ eT E
  obtain ⟨v, _, ⟨T', L', k', n'⟩, -, X', ⟨Lc, hQ, l', y', z'⟩, st⟩ := X.virtualBack hx (y := y) (z := z) hown (mvT hZ w1) (mvT hZ w2) (notFace_of_selects (args := #[]) (mvT hZ w5)) (mvT hZ w6) (mvT hZ w7) hy (backOf (W := W) (hC []) hZ w4 w3 hf hl) qa qc hg hsize (Steps.refl _) (argsL := argsL) (rest := rest) hlen hstack hW hd (fun _ _ => ⟨rfl, eT, hc, hs⟩)
  dsimp only [Pt.U, Pt.locs, Pt.cells, Pt.slots] at X' l' y' z' st hQ
  subst l' y' z'
  exact ⟨v, T', _, Lc, X', rfl, hQ, fun t ht => st.trans ht⟩
theorem own_ne {a b : Nat} (h : a < b ∨ b < a) : a ≠ b := by omega
theorem own_ltE {a : Nat} {C : String} (F : Exa Z h a C) : a < h.size := F.lt
theorem own_ltF {a : Nat} {C n d : String} {v : Value} (F : Fld Z h a C n d v) : a < h.size := F.lt
/-! arrays by their list of values -/
def Ary (Z : State) (h : Heap) (a : Addr) (ty : FieldType) (vs : List Value) : Prop := ∃ c : Cell, Arr Z h a c ty ∧ c.slots.toList = vs ∧ vs.length < 2 ^ 31
variable {a b : Addr} {ty : FieldType} {vs : List Value} {sl : Nat} {v w : Value} {ws : List Addr} {j : Int32}
theorem Ary.lt (F : Ary Z h a ty vs) : a < h.size := by obtain ⟨c, A, -⟩ := F; exact A.lt
theorem own_ltA {a : Nat} (F : Ary Z h a ty vs) : a < h.size := F.lt
theorem Ary.ext (F : Ary Z h a ty vs) (E : Ext h h') : Ary Z h' a ty vs := by obtain ⟨c, A, r⟩ := F; exact ⟨c, A.ext E, r⟩
theorem Ary.other (F : Ary Z h b ty vs) (W : Wr h h' a sl v) (q : b ≠ a) : Ary Z h' b ty vs := by obtain ⟨c, A, r⟩ := F; exact ⟨c, A.other W q, r⟩
theorem Ary.keep (F : Ary Z h a ty vs) (K : Keep h h' ws) (q : a ∉ ws) : Ary Z h' a ty vs := by obtain ⟨c, A, r⟩ := F; exact ⟨c, ⟨K.2.1 a c A.1 q, A.2⟩, r⟩
theorem Ary.set (F : Ary Z h a ty vs) (W : Wr h h' a sl v) : Ary Z h' a ty (vs.set sl v) := by
  obtain ⟨c, A, r, hl⟩ := F
  refine ⟨_, A.same W, ?_, by simpa using hl⟩
  subst r
  simp [Cell.setSlot]
theorem own_in {j : Int32} (h0 : 0 ≤ j.toInt) : j.toInt = (j.toNatClampNeg : Int) := nat_of (fun q => by rw [Int32.lt_iff_toInt_lt] at q; have : (0 : Int32).toInt = 0 := rfl; omega)
theorem own_inb {c : Cell} (r : c.slots.toList = vs) (h0 : 0 ≤ j.toInt) (h1 : j.toInt < vs.length) : ¬ (j < 0 ∨ c.slots.size ≤ j.toNatClampNeg) := by
  have e := own_in h0
  have e2 : c.slots.size = vs.length := by rw [← r]; simp
  have z : (0 : Int32).toInt = 0 := rfl
  rintro (q | q)
  · rw [Int32.lt_iff_toInt_lt] at q; omega
  · omega
theorem Ary.new {cA : ClassId} {z : Int32} (A : Arr Z h a (newA cA ty z) ty) (q : z.toNatClampNeg < 2 ^ 31) : Ary Z h a ty (List.replicate z.toNatClampNeg (defaultValue ty)) := ⟨_, A, by simp [newA], by simpa using q⟩
theorem own_newP (X : Stand p l e R s m args below meth c T locs cells slots) (hx : p.tables.exec = Jvm.exec) (hZ : Z.Warmed39 s.vm) {aty : ArrayType} {ty : FieldType} (hty : newarray.typeOf aty = ty) (w : (Jvm.Cond.arrayClass ty).before a0 Z = true) (eT : T.heap = h) {g : JFrame} (hg : g.method = m) (hd : decode c.code g.pc = .ok (.newarray aty, 2)) {n : Int32} {rest : List Value} (hs : g.stack = .int n :: rest)
    (hn : 0 ≤ n.toInt) {cap : Nat} (hcap : n.toInt ≤ cap) (hb : cap * 8 ≤ 536870912) (hc : cells + 1 ≤ R.cells) (hl : slots + cap ≤ R.slots) :
    ∃ T' h', Stand p l e R s m args below meth c T' locs (cells + 1) (slots + cap) ∧ T'.heap = h' ∧ Ext h h' ∧ Ary Z h' h.size ty (List.replicate n.toNatClampNeg (defaultValue ty)) ∧
      ∀ target, Steps p.tables e below (T'.setTop { g with pc := g.pc + 2, stack := .ref h.size :: rest }) target → Steps p.tables e below (T.setTop g) target := by
  subst hty
  have e1 := own_in hn
  have z : (0 : Int32).toInt = 0 := rfl
  obtain ⟨T', h', cA, X', e', E', A', st⟩ := newP X hx hZ w eT hg hd hs (fun q => by rw [Int32.lt_iff_toInt_lt] at q; omega) (cap := cap) (by omega) hb hc hl
  exact ⟨T', h', X', e', E', Ary.new A' (by omega), st⟩
theorem own_len (X : Stand p l e R s m args below meth c T locs cells slots) (hx : p.tables.exec = Jvm.exec) (hZ : Z.Warmed39 s.vm) (eT : T.heap = h) (F : Ary Z h a ty vs) {g : JFrame} (hg : g.method = m) {rest : List Value} (hs : g.stack = .ref a :: rest) (hd : decode c.code g.pc = .ok (.arraylength, 1)) :
    ∀ target, Steps p.tables e below (T.setTop { g with pc := g.pc + 1, stack := .int vs.length.toInt32 :: rest }) target → Steps p.tables e below (T.setTop g) target := by
  obtain ⟨c, A, r, hl⟩ := F
  intro t ht
  have e2 : c.slots.size = vs.length := by rw [← r]; simp
  exact X.arraylength hx (by rw [eT]; exact A.1) (State.isArrayOf_alike hZ.alike A.2.1) hg hs hd t (by rw [e2]; exact ht)
theorem own_at {c : Cell} (r : c.slots.toList = vs) (hv : vs[j.toNatClampNeg]? = some v) : c.slots[j.toNatClampNeg]? = some v := by
  subst r; simpa using hv
theorem own_ldI (X : Stand p l e R s m args below meth c T locs cells slots) (hx : p.tables.exec = Jvm.exec) (hZ : Z.Warmed39 s.vm) (eT : T.heap = h) (F : Ary Z h a .int vs) (h0 : 0 ≤ j.toInt) (h1 : j.toInt < vs.length) (hv : vs[j.toNatClampNeg]? = some v) {g : JFrame} (hg : g.method = m) {rest : List Value} (hs : g.stack = .int j :: .ref a :: rest) (hd : decode c.code g.pc = .ok (.iaload, 1)) :
    ∀ target, Steps p.tables e below (T.setTop { g with pc := g.pc + 1, stack := v :: rest }) target → Steps p.tables e below (T.setTop g) target := by
  obtain ⟨c, A, r, hl⟩ := F
  exact X.iaload hx (by rw [eT]; exact A.1) (State.isArrayOf_alike hZ.alike A.2.1) A.2.2 (own_inb r h0 h1) (own_at r hv) hg hs hd
theorem own_ldJ (X : Stand p l e R s m args below meth c T locs cells slots) (hx : p.tables.exec = Jvm.exec) (hZ : Z.Warmed39 s.vm) (eT : T.heap = h) (F : Ary Z h a .long vs) (h0 : 0 ≤ j.toInt) (h1 : j.toInt < vs.length) (hv : vs[j.toNatClampNeg]? = some v) {g : JFrame} (hg : g.method = m) {rest : List Value} (hs : g.stack = .int j :: .ref a :: rest) (hd : decode c.code g.pc = .ok (.laload, 1)) :
    ∀ target, Steps p.tables e below (T.setTop { g with pc := g.pc + 1, stack := v :: rest }) target → Steps p.tables e below (T.setTop g) target := by
  obtain ⟨c, A, r, hl⟩ := F
  exact X.laload hx (by rw [eT]; exact A.1) (State.isArrayOf_alike hZ.alike A.2.1) A.2.2 (own_inb r h0 h1) (own_at r hv) hg hs hd
theorem own_ldC (X : Stand p l e R s m args below meth c T locs cells slots) (hx : p.tables.exec = Jvm.exec) (hZ : Z.Warmed39 s.vm) (eT : T.heap = h) (F : Ary Z h a .char vs) (h0 : 0 ≤ j.toInt) (h1 : j.toInt < vs.length) (hv : vs[j.toNatClampNeg]? = some v) {g : JFrame} (hg : g.method = m) {rest : List Value} (hs : g.stack = .int j :: .ref a :: rest) (hd : decode c.code g.pc = .ok (.caload, 1)) :
    ∀ target, Steps p.tables e below (T.setTop { g with pc := g.pc + 1, stack := v :: rest }) target → Steps p.tables e below (T.setTop g) target := by
  obtain ⟨c, A, r, hl⟩ := F
  exact X.caload hx (by rw [eT]; exact A.1) (State.isArrayOf_alike hZ.alike A.2.1) A.2.2 (own_inb r h0 h1) (own_at r hv) hg hs hd
theorem own_ldB (X : Stand p l e R s m args below meth c T locs cells slots) (hx : p.tables.exec = Jvm.exec) (hZ : Z.Warmed39 s.vm) (eT : T.heap = h) (F : Ary Z h a .byte vs) (h0 : 0 ≤ j.toInt) (h1 : j.toInt < vs.length) (hv : vs[j.toNatClampNeg]? = some v) {g : JFrame} (hg : g.method = m) {rest : List Value} (hs : g.stack = .int j :: .ref a :: rest) (hd : decode c.code g.pc = .ok (.baload, 1)) :
    ∀ target, Steps p.tables e below (T.setTop { g with pc := g.pc + 1, stack := v :: rest }) target → Steps p.tables e below (T.setTop g) target := by
  obtain ⟨c, A, r, hl⟩ := F
  exact X.baloadBytes hx (by rw [eT]; exact A.1) (State.isArrayOf_alike hZ.alike A.2.1) A.2.2 (own_inb r h0 h1) (own_at r hv) hg hs hd
theorem own_ldR (X : Stand p l e R s m args below meth c T locs cells slots) (hx : p.tables.exec = Jvm.exec) (hZ : Z.Warmed39 s.vm) (eT : T.heap = h) (F : Ary Z h a ty vs) (hr : ty.isReference = true) (h0 : 0 ≤ j.toInt) (h1 : j.toInt < vs.length) (hv : vs[j.toNatClampNeg]? = some v) {g : JFrame} (hg : g.method = m) {rest : List Value} (hs : g.stack = .int j :: .ref a :: rest) (hd : decode c.code g.pc = .ok (.aaload, 1)) :
    ∀ target, Steps p.tables e below (T.setTop { g with pc := g.pc + 1, stack := v :: rest }) target → Steps p.tables e below (T.setTop g) target := by
  obtain ⟨c, A, r, hl⟩ := F
  exact X.aaload hx (by rw [eT]; exact A.1) (State.isArrayOf_alike hZ.alike A.2.1) hr A.2.2 (own_inb r h0 h1) (own_at r hv) hg hs hd
theorem own_stI (X : Stand p l e R s m args below meth c T locs cells slots) (hx : p.tables.exec = Jvm.exec) (hZ : Z.Warmed39 s.vm) (eT : T.heap = h) (F : Ary Z h a .int vs) {x : Int32} (h0 : 0 ≤ j.toInt) (h1 : j.toInt < vs.length) {g : JFrame} (hg : g.method = m) {rest : List Value} (hs : g.stack = .int x :: .int j :: .ref a :: rest) (hd : decode c.code g.pc = .ok (.iastore, 1)) :
    ∃ T' h', Stand p l e R s m args below meth c T' (locs ++ [⟨a, j.toNatClampNeg⟩]) cells slots ∧ T'.heap = h' ∧ Wr h h' a j.toNatClampNeg (.int x) ∧ Ary Z h' a .int (vs.set j.toNatClampNeg (.int x)) ∧ ∀ target, Steps p.tables e below (T'.setTop { g with pc := g.pc + 1, stack := rest }) target → Steps p.tables e below (T.setTop g) target := by
  have F' := F
  obtain ⟨c, A, r, hl⟩ := F
  obtain ⟨T', h', X', e', W', st⟩ := stI X hx hZ eT A (own_inb r h0 h1) hg hs hd
  exact ⟨T', h', X', e', W', F'.set W', st⟩
theorem own_stJ (X : Stand p l e R s m args below meth c T locs cells slots) (hx : p.tables.exec = Jvm.exec) (hZ : Z.Warmed39 s.vm) (eT : T.heap = h) (F : Ary Z h a .long vs) {x : Int64} (h0 : 0 ≤ j.toInt) (h1 : j.toInt < vs.length) {g : JFrame} (hg : g.method = m) {rest : List Value} (hs : g.stack = .long x :: .int j :: .ref a :: rest) (hd : decode c.code g.pc = .ok (.lastore, 1)) :
    ∃ T' h', Stand p l e R s m args below meth c T' (locs ++ [⟨a, j.toNatClampNeg⟩]) cells slots ∧ T'.heap = h' ∧ Wr h h' a j.toNatClampNeg (.long x) ∧ Ary Z h' a .long (vs.set j.toNatClampNeg (.long x)) ∧ ∀ target, Steps p.tables e below (T'.setTop { g with pc := g.pc + 1, stack := rest }) target → Steps p.tables e below (T.setTop g) target := by
  have F' := F
  obtain ⟨c, A, r, hl⟩ := F
  obtain ⟨T', h', X', e', W', st⟩ := stJ X hx hZ eT A (own_inb r h0 h1) hg hs hd
  exact ⟨T', h', X', e', W', F'.set W', st⟩
theorem own_stC (X : Stand p l e R s m args below meth c T locs cells slots) (hx : p.tables.exec = Jvm.exec) (hZ : Z.Warmed39 s.vm) (eT : T.heap = h) (F : Ary Z h a .char vs) {x : Int32} (h0 : 0 ≤ j.toInt) (h1 : j.toInt < vs.length) {g : JFrame} (hg : g.method = m) {rest : List Value} (hs : g.stack = .int x :: .int j :: .ref a :: rest) (hd : decode c.code g.pc = .ok (.castore, 1)) :
    ∃ T' h', Stand p l e R s m args below meth c T' (locs ++ [⟨a, j.toNatClampNeg⟩]) cells slots ∧ T'.heap = h' ∧ Wr h h' a j.toNatClampNeg (.int (nar .char x)) ∧ Ary Z h' a .char (vs.set j.toNatClampNeg (.int (nar .char x))) ∧ ∀ target, Steps p.tables e below (T'.setTop { g with pc := g.pc + 1, stack := rest }) target → Steps p.tables e below (T.setTop g) target := by
  have F' := F
  obtain ⟨c, A, r, hl⟩ := F
  obtain ⟨T', h', X', e', W', st⟩ := stC X hx hZ eT A (own_inb r h0 h1) hg hs hd
  exact ⟨T', h', X', e', W', F'.set W', st⟩
theorem own_stB (X : Stand p l e R s m args below meth c T locs cells slots) (hx : p.tables.exec = Jvm.exec) (hZ : Z.Warmed39 s.vm) (eT : T.heap = h) (F : Ary Z h a .byte vs) {x : Int32} (h0 : 0 ≤ j.toInt) (h1 : j.toInt < vs.length) {g : JFrame} (hg : g.method = m) {rest : List Value} (hs : g.stack = .int x :: .int j :: .ref a :: rest) (hd : decode c.code g.pc = .ok (.bastore, 1)) :
    ∃ T' h', Stand p l e R s m args below meth c T' (locs ++ [⟨a, j.toNatClampNeg⟩]) cells slots ∧ T'.heap = h' ∧ Wr h h' a j.toNatClampNeg (.int (nar .byte x)) ∧ Ary Z h' a .byte (vs.set j.toNatClampNeg (.int (nar .byte x))) ∧ ∀ target, Steps p.tables e below (T'.setTop { g with pc := g.pc + 1, stack := rest }) target → Steps p.tables e below (T.setTop g) target := by
  have F' := F
  obtain ⟨c, A, r, hl⟩ := F
  obtain ⟨T', h', X', e', W', st⟩ := stB X hx hZ eT A (own_inb r h0 h1) hg hs hd
  exact ⟨T', h', X', e', W', F'.set W', st⟩
theorem own_stR (X : Stand p l e R s m args below meth c T locs cells slots) (hx : p.tables.exec = Jvm.exec) (hZ : Z.Warmed39 s.vm) (eT : T.heap = h) (F : Ary Z h a ty vs) (hr : ty.isReference = true) (G : Sto Z h a v) (h0 : 0 ≤ j.toInt) (h1 : j.toInt < vs.length) {g : JFrame} (hg : g.method = m) {rest : List Value} (hs : g.stack = v :: .int j :: .ref a :: rest) (hd : decode c.code g.pc = .ok (.aastore, 1)) :
    ∃ T' h', Stand p l e R s m args below meth c T' (locs ++ [⟨a, j.toNatClampNeg⟩]) cells slots ∧ T'.heap = h' ∧ Wr h h' a j.toNatClampNeg v ∧ Ary Z h' a ty (vs.set j.toNatClampNeg v) ∧ ∀ target, Steps p.tables e below (T'.setTop { g with pc := g.pc + 1, stack := rest }) target → Steps p.tables e below (T.setTop g) target := by
  have F' := F
  obtain ⟨c, A, r, hl⟩ := F
  obtain ⟨T', h', X', e', W', st⟩ := stR X hx hZ eT A (own_inb r h0 h1) hr G hg hs hd
  exact ⟨T', h', X', e', W', F'.set W', st⟩
def Ovy (Z : State) (h : Heap) (a : Addr) (C : String) : Prop := ∃ c : Cell, h[a]? = some c ∧ Ovr Z c.cls C
theorem Ovy.ext {C : String} (F : Ovy Z h a C) (E : Ext h h') : Ovy Z h' a C := by obtain ⟨c, q, r⟩ := F; exact ⟨c, E.2 _ _ q, r⟩
theorem Ovy.keep {C : String} (F : Ovy Z h a C) (K : Keep h h' ws) : Ovy Z h' a C := by
  obtain ⟨c, q, r⟩ := F
  obtain ⟨c', q', r', -⟩ := K.2.2 _ _ q
  exact ⟨c', q', by rw [r']; exact r⟩
theorem Ovy.wr {C : String} (F : Ovy Z h a C) (W : Wr h h' b sl v) : Ovy Z h' a C := F.keep (Keep.of_wr W)
theorem own_sto {C : String} {y : Addr} (F : Ary Z h a ty vs) (O : Ovy Z h a C) (I : Ins Z h y C true) : Sto Z h a (.ref y) := by
  obtain ⟨c, A, -⟩ := F
  obtain ⟨c', q, r⟩ := O
  cases A.1.symm.trans q
  exact Sto.of A r I
theorem own_newR (X : Stand p l e R s m args below meth c T locs cells slots) (hx : p.tables.exec = Jvm.exec) (hZ : Z.Warmed39 s.vm) {own C : String} {index : Nat} (hown : s.vm.findClass own = some m.cls) (w1 : (Jvm.Cond.classLink own index C).before a0 Z = true) (w2 : (Jvm.Cond.arrayOver (.object C)).before a0 Z = true) (eT : T.heap = h) {g : JFrame} (hg : g.method = m) (hd : decode c.code g.pc = .ok (.anewarray index, 3)) {n : Int32} {rest : List Value} (hs : g.stack = .int n :: rest)
    (hn : 0 ≤ n.toInt) {cap : Nat} (hcap : n.toInt ≤ cap) (hb : cap * 8 ≤ 536870912) (hc : cells + 1 ≤ R.cells) (hl : slots + cap ≤ R.slots) :
    ∃ T' h', Stand p l e R s m args below meth c T' locs (cells + 1) (slots + cap) ∧ T'.heap = h' ∧ Ext h h' ∧ Ary Z h' h.size (.object C) (List.replicate n.toNatClampNeg .null) ∧ Ovy Z h' h.size C ∧
      ∀ target, Steps p.tables e below (T'.setTop { g with pc := g.pc + 3, stack := .ref h.size :: rest }) target → Steps p.tables e below (T.setTop g) target := by
  have e1 := own_in hn
  have z : (0 : Int32).toInt = 0 := rfl
  obtain ⟨T', h', cA, X', e', E', A', O', st⟩ := newR X hx hZ hown w1 w2 eT hg hd hs (fun q => by rw [Int32.lt_iff_toInt_lt] at q; omega) (cap := cap) (by omega) hb hc hl
  exact ⟨T', h', X', e', E', Ary.new A' (by omega), ⟨_, A'.1, O'⟩, st⟩
theorem own_ldc (X : Stand p l e R s m args below meth c T locs cells slots) (hx : p.tables.exec = Jvm.exec) (hZ : Z.Warmed39 s.vm) {own : String} {index : Nat} {x : Int32} (hown : s.vm.findClass own = some m.cls) (w : (Jvm.Cond.constant own index x).before a0 Z = true) {g : JFrame} (hg : g.method = m) (hd : decode c.code g.pc = .ok (.ldc index, 2)) :
    ∀ target, Steps p.tables e below (T.setTop { g with pc := g.pc + 2, stack := .int x :: g.stack }) target → Steps p.tables e below (T.setTop g) target := fun t ht => X.ldcI hx hown (mvT hZ w) hg hd ht
end Own
theorem own_fitR {t : FieldType} {w : Value} (h1 : t.isReference = true) (h2 : w.isRef = true) : fits t w = true := by
  rcases ref_cases h2 with rfl | ⟨a, rfl⟩ <;> cases t <;> first | rfl | (simp [FieldType.isReference] at h1)
theorem own_sref {s : State} {args : Array Value} {C n d : String} {ty : FieldType} (hf : Fit s) (w : (Jvm.Cond.laysStatic C n d).before args s = true) (ht : parseFieldDescriptor d = some ty) (hr : ty.isReference = true) : ∃ v, (Term.static C n d).eval args s none [] s = some v ∧ v.isRef = true := by
  obtain ⟨v, h1, h2⟩ := static_fit hf w ht
  refine ⟨v, h1, ?_⟩
  cases ty <;> simp_all [FieldType.isReference] <;> cases v <;> simp_all [fits, Value.isRef]
def own_past (n m : Int32) : Int32 := if m < n then 1 else 0

theorem ef_rmABC (m : MethodId) (a1 : Nat) : entryFrame m #[(.ref a1)] 1 = mkF m 0 #[.val (.ref a1)] [] := by first | (simp [entryFrame, mkF, argsToLocals, Value.category]; done) | rfl
theorem pf_0 : plainFor (⟨"java/util/AbstractCollection", "<init>", "()V"⟩ : MethodName) = true := plainFor_of_name (by first | (simp [plainName, overriddenIn]; done) | decide +kernel)
theorem d1_0 : decode jdk_22_method_1_code 0 = .ok (.aload_n 0, 1) := by decide +kernel
theorem d1_1 : decode jdk_22_method_1_code 1 = .ok (.invokespecial 1, 3) := by decide +kernel
theorem d1_4 : decode jdk_22_method_1_code 4 = .ok (.return_, 1) := by decide +kernel
set_option maxRecDepth 65536 in
set_option maxHeartbeats 4000000 in
theorem rmABC (l : Launch) (Z : State) (a0 : Array Value) (hw : ∀ d ∈ tables_1, d.before a0 Z = true) (a1 : Nat) (h0 : Heap) (n0 : Nat) (Z0 : n0 ≤ h0.size)  :
    Con l Z (⟨"java/util/AbstractCollection", "<init>", "()V"⟩ : MethodName) jdk_22_method_1_code 1 none ({ frames := 1, cells := 0, slots := 0, locals := 12 } : Room) #[(.ref a1)] h0 (fun v h L => v = none ∧ Fr n0 L ∧ h = h0) := by
  refine Con.of pf_0 ?_
  intro p e s m below meth c T0 X0 hx hby hml hZ hown hnm hret hlk e0
  have hown : s.vm.findClass "java/util/AbstractCollection" = some m.cls := hown
  have hnm : meth.name = "<init>" := hnm
  have N0 := Fr.nil n0
  refine Go.cast (ef_rmABC m a1) ?_
  refine Go.st (S' := T0.setTop (mkF m 1 #[.val (.ref a1)] [(.ref a1)])) (fun t hr => XS.aloadN X0.here hx rfl (hb hby d1_0) rfl rfl hr) ?_
  obtain ⟨T_1, X_1, e_1, st_1⟩ := initO X0 hx hZ hown (hw _ (List.mem_of_getElem? (i := 30) rfl)) (hw _ (List.mem_of_getElem? (i := 10) rfl)) (hw _ (List.mem_of_getElem? (i := 11) rfl)) e0 (g := (mkF m 1 #[.val (.ref a1)] [(.ref a1)])) rfl (by rw [hml]; rfl) rfl (hb hby d1_1) (by decide) (W := 0) (by show 2 * 0 + _ ≤ _; exact Nat.le_of_eq rfl) (by decide)
  refine Go.st (S' := T_1.setTop (mkF m 4 #[.val (.ref a1)] [])) st_1 ?_
  refine Go.retV X_1 hx hlk hret (hb hby d1_4) (by decide) (by decide) ?_
  try rw [e_1]
  exact ⟨rfl, N0, rfl⟩
theorem ef_rmABL (m : MethodId) (a1 : Nat) : entryFrame m #[(.ref a1)] 1 = mkF m 0 #[.val (.ref a1)] [] := by first | (simp [entryFrame, mkF, argsToLocals, Value.category]; done) | rfl
theorem pf_1 : plainFor (⟨"java/util/AbstractList", "<init>", "()V"⟩ : MethodName) = true := plainFor_of_name (by first | (simp [plainName, overriddenIn]; done) | decide +kernel)
theorem pd_0 : parseMethodDescriptor "()V" = some ⟨[], none⟩ := by decide +kernel
theorem d2_0 : decode jdk_39_method_1_code 0 = .ok (.aload_n 0, 1) := by decide +kernel
theorem d2_1 : decode jdk_39_method_1_code 1 = .ok (.invokespecial 1, 3) := by decide +kernel
theorem d2_4 : decode jdk_39_method_1_code 4 = .ok (.aload_n 0, 1) := by decide +kernel
theorem d2_5 : decode jdk_39_method_1_code 5 = .ok (.iconst 0, 1) := by decide +kernel
theorem d2_6 : decode jdk_39_method_1_code 6 = .ok (.putfield 7, 3) := by decide +kernel
theorem d2_9 : decode jdk_39_method_1_code 9 = .ok (.return_, 1) := by decide +kernel
set_option maxRecDepth 65536 in
set_option maxHeartbeats 4000000 in
theorem rmABL (l : Launch) (Z : State) (a0 : Array Value) (hw : ∀ d ∈ tables_1, d.before a0 Z = true) (a1 : Nat) (h0 : Heap) (n0 : Nat) (Z0 : n0 ≤ h0.size) (E1 : Exa Z h0 a1 "java/util/ArrayList") (F1 : Fld Z h0 a1 "java/util/AbstractList" "modCount" "I" (.int 0)) (g1 : n0 ≤ a1) (F2 : Fld Z h0 a1 "java/util/ArrayList" "elementData" "[Ljava/lang/Object;" .null) :
    Con l Z (⟨"java/util/AbstractList", "<init>", "()V"⟩ : MethodName) jdk_39_method_1_code 1 none ({ frames := 2, cells := 0, slots := 0, locals := 24 } : Room) #[(.ref a1)] h0 (fun v h L => v = none ∧ Fr n0 L ∧ Keep h0 h [a1] ∧ Fld Z h a1 "java/util/ArrayList" "elementData" "[Ljava/lang/Object;" .null) := by
  refine Con.of pf_1 ?_
  intro p e s m below meth c T0 X0 hx hby hml hZ hown hnm hret hlk e0
  have hown : s.vm.findClass "java/util/AbstractList" = some m.cls := hown
  have hnm : meth.name = "<init>" := hnm
  have N0 := Fr.nil n0
  refine Go.cast (ef_rmABL m a1) ?_
  have lt_1 := own_ltE E1
  refine Go.st (S' := T0.setTop (mkF m 1 #[.val (.ref a1)] [(.ref a1)])) (fun t hr => XS.aloadN X0.here hx rfl (hb hby d2_0) rfl rfl hr) ?_
  obtain ⟨v_2, T_2, h_2, L_2, X_2, e_2, Q_2, st_2⟩ := own_callN X0 hx hZ (y := ⟨"java/util/AbstractCollection", "<init>", "()V"⟩) rfl hown (hw _ (List.mem_of_getElem? (i := 24) rfl)) (hw _ (List.mem_of_getElem? (i := 25) rfl)) (hw _ (List.mem_of_getElem? (i := 28) rfl)) (hw _ (List.mem_of_getElem? (i := 29) rfl)) (by decide) e0 (a := a1) (argsL := []) (rest := []) (rmABC l Z a0 hw a1 h0 n0 Z0) (g := (mkF m 1 #[.val (.ref a1)] [(.ref a1)])) rfl (by rw [hml]; rfl) (lenOf pd_0 rfl) rfl (hb hby d2_1) (W := 0) (by show 2 * 0 + _ ≤ _; exact Nat.le_of_eq rfl) (by decide) (by decide) (by decide) (by decide)
  obtain ⟨rfl, N_2, hh_2⟩ := Q_2
  have N_2' := Fr.app N0 N_2
  rw [hh_2] at e_2
  refine Go.st (S' := T_2.setTop (mkF m 4 #[.val (.ref a1)] [])) st_2 ?_
  refine Go.st (S' := T_2.setTop (mkF m 5 #[.val (.ref a1)] [(.ref a1)])) (fun t hr => XS.aloadN X_2.here hx rfl (hb hby d2_4) rfl rfl hr) ?_
  refine Go.st (S' := T_2.setTop (mkF m 6 #[.val (.ref a1)] [(.int (0 : Int32)), (.ref a1)])) (fun t hr => XS.iconst X_2.here hx rfl (hb hby d2_5) hr) ?_
  obtain ⟨T_3, h_3, X_3, e_3, W_3, st_3⟩ := putF X_2 hx hZ hown (host := "") (Or.inl (hw _ (List.mem_of_getElem? (i := 31) rfl))) Via.refl e_2 F1 E1 (Or.inl (hw _ (List.mem_of_getElem? (i := 32) rfl))) (hw _ (List.mem_of_getElem? (i := 13) rfl)) (ty := .int) (by decide) rfl rfl (g := (mkF m 6 #[.val (.ref a1)] [(.int (0 : Int32)), (.ref a1)])) rfl rfl (hb hby d2_6)
  have N_3 := Fr.snoc X_3 N_2' (by omega)
  have z_3 := W_3.size
  have F_3 := F1.same W_3
  refine Go.st (S' := T_3.setTop (mkF m 9 #[.val (.ref a1)] [])) st_3 ?_
  refine Go.retV X_3 hx hlk hret (hb hby d2_9) (by decide) (by decide) ?_
  try rw [e_3]
  have F_4 := (F2.other W_3 (Or.inr (slot_ne (t := (.array (.object "java/lang/Object"))) (t' := .int) (Or.inl (hw _ (List.mem_of_getElem? (i := 35) rfl))) (Or.inl (hw _ (List.mem_of_getElem? (i := 32) rfl))) (by decide) (by decide) (by decide))))
  exact ⟨rfl, N_3, ((Keep.refl h0 [a1]).wr W_3 (Or.inl (by simp))), F_4⟩
theorem ef_rmAL (m : MethodId) (a1 : Nat) : entryFrame m #[(.ref a1)] 1 = mkF m 0 #[.val (.ref a1)] [] := by first | (simp [entryFrame, mkF, argsToLocals, Value.category]; done) | rfl
theorem pf_2 : plainFor (⟨"java/util/ArrayList", "<init>", "()V"⟩ : MethodName) = true := plainFor_of_name (by first | (simp [plainName, overriddenIn]; done) | decide +kernel)
theorem d3_0 : decode jdk_38_method_2_code 0 = .ok (.aload_n 0, 1) := by decide +kernel
theorem d3_1 : decode jdk_38_method_2_code 1 = .ok (.invokespecial 1, 3) := by decide +kernel
theorem d3_4 : decode jdk_38_method_2_code 4 = .ok (.aload_n 0, 1) := by decide +kernel
theorem d3_5 : decode jdk_38_method_2_code 5 = .ok (.getstatic 39, 3) := by decide +kernel
theorem d3_8 : decode jdk_38_method_2_code 8 = .ok (.putfield 9, 3) := by decide +kernel
theorem d3_11 : decode jdk_38_method_2_code 11 = .ok (.return_, 1) := by decide +kernel
set_option maxRecDepth 65536 in
set_option maxHeartbeats 4000000 in
theorem rmAL (l : Launch) (Z : State) (a0 : Array Value) (hw : ∀ d ∈ tables_1, d.before a0 Z = true) (a1 : Nat) (h0 : Heap) (n0 : Nat) (Z0 : n0 ≤ h0.size) (E1 : Exa Z h0 a1 "java/util/ArrayList") (F1 : Fld Z h0 a1 "java/util/AbstractList" "modCount" "I" (.int 0)) (g1 : n0 ≤ a1) (F2 : Fld Z h0 a1 "java/util/ArrayList" "elementData" "[Ljava/lang/Object;" .null) (vd : Value) (rd : vd.isRef = true) (O0 : Old Z n0 h0) (S0 : Sta Z Z.heap "java/util/ArrayList" "DEFAULTCAPACITY_EMPTY_ELEMENTDATA" "[Ljava/lang/Object;" vd) :
    Con l Z (⟨"java/util/ArrayList", "<init>", "()V"⟩ : MethodName) jdk_38_method_2_code 1 none ({ frames := 3, cells := 0, slots := 0, locals := 36 } : Room) #[(.ref a1)] h0 (fun v h L => v = none ∧ Fr n0 L ∧ Keep h0 h [a1]) := by
  refine Con.of pf_2 ?_
  intro p e s m below meth c T0 X0 hx hby hml hZ hown hnm hret hlk e0
  have hown : s.vm.findClass "java/util/ArrayList" = some m.cls := hown
  have hnm : meth.name = "<init>" := hnm
  have N0 := Fr.nil n0
  refine Go.cast (ef_rmAL m a1) ?_
  have lt_1 := own_ltE E1
  refine Go.st (S' := T0.setTop (mkF m 1 #[.val (.ref a1)] [(.ref a1)])) (fun t hr => XS.aloadN X0.here hx rfl (hb hby d3_0) rfl rfl hr) ?_
  obtain ⟨v_2, T_2, h_2, L_2, X_2, e_2, Q_2, st_2⟩ := own_callN X0 hx hZ (y := ⟨"java/util/AbstractList", "<init>", "()V"⟩) rfl hown (hw _ (List.mem_of_getElem? (i := 18) rfl)) (hw _ (List.mem_of_getElem? (i := 19) rfl)) (hw _ (List.mem_of_getElem? (i := 22) rfl)) (hw _ (List.mem_of_getElem? (i := 23) rfl)) (by decide) e0 (a := a1) (argsL := []) (rest := []) (rmABL l Z a0 hw a1 h0 n0 Z0 E1 F1 g1 F2) (g := (mkF m 1 #[.val (.ref a1)] [(.ref a1)])) rfl (by rw [hml]; rfl) (lenOf pd_0 rfl) rfl (hb hby d3_1) (W := 0) (by show 2 * 0 + _ ≤ _; exact Nat.le_of_eq rfl) (by decide) (by decide) (by decide) (by decide)
  obtain ⟨rfl, N_2, K_2, G_2⟩ := Q_2
  have N_2' := Fr.app N0 N_2
  have z_2 := K_2.1
  refine Go.st (S' := T_2.setTop (mkF m 4 #[.val (.ref a1)] [])) st_2 ?_
  refine Go.st (S' := T_2.setTop (mkF m 5 #[.val (.ref a1)] [(.ref a1)])) (fun t hr => XS.aloadN X_2.here hx rfl (hb hby d3_4) rfl rfl hr) ?_
  have F_3 := (O0.keep K_2 (by intro x hxx; simp only [List.mem_cons, List.not_mem_nil, or_false] at hxx; rcases hxx with rfl <;> omega))
  obtain ⟨T_4, X_4, e_4, st_4⟩ := getS2 X_2 hx hZ hown (host := "") (Or.inl (hw _ (List.mem_of_getElem? (i := 33) rfl))) Via.refl e_2 (S0.ext F_3.2) (g := (mkF m 5 #[.val (.ref a1)] [(.ref a1)])) rfl (hb hby d3_5)
  refine Go.st (S' := T_4.setTop (mkF m 8 #[.val (.ref a1)] [vd, (.ref a1)])) st_4 ?_
  have F_5 := (E1.keep K_2)
  obtain ⟨T_6, h_6, X_6, e_6, W_6, st_6⟩ := putF X_4 hx hZ hown (host := "") (Or.inl (hw _ (List.mem_of_getElem? (i := 34) rfl))) Via.refl e_4 G_2 F_5 (Or.inl (hw _ (List.mem_of_getElem? (i := 35) rfl))) (hw _ (List.mem_of_getElem? (i := 13) rfl)) (ty := (.array (.object "java/lang/Object"))) (by decide) (own_narR rfl rd) (own_fitR rfl rd) (g := (mkF m 8 #[.val (.ref a1)] [vd, (.ref a1)])) rfl rfl (hb hby d3_8)
  have N_6 := Fr.snoc X_6 N_2' (by omega)
  have z_6 := W_6.size
  have F_6 := G_2.same W_6
  refine Go.st (S' := T_6.setTop (mkF m 11 #[.val (.ref a1)] [])) st_6 ?_
  refine Go.retV X_6 hx hlk hret (hb hby d3_11) (by decide) (by decide) ?_
  try rw [e_6]
  exact ⟨rfl, N_6, (((Keep.refl h0 [a1]).trans K_2 (by intro x hxx; simp only [List.mem_cons, List.not_mem_nil, or_false] at hxx; rcases hxx with rfl; · exact Or.inl (by simp))).wr W_6 (Or.inl (by simp)))⟩
theorem ef_rmB2 (m : MethodId) (a1 : Nat) (p1 : Int32) (p2 : Int32) : entryFrame m #[(.ref a1), (.int p1), (.int p2)] 3 = mkF m 0 #[.val (.ref a1), .val (.int p1), .val (.int p2)] [] := by first | (simp [entryFrame, mkF, argsToLocals, Value.category]; done) | rfl
theorem pf_3 : plainFor (⟨"com/example/uniform_parser/uniformparser/core/Bytes", "<init>", "(II)V"⟩ : MethodName) = true := plainFor_of_name (by first | (simp [plainName, overriddenIn]; done) | decide +kernel)
theorem d4_0 : decode prog_26_method_2_code 0 = .ok (.aload_n 0, 1) := by decide +kernel
theorem d4_1 : decode prog_26_method_2_code 1 = .ok (.invokespecial 7, 3) := by decide +kernel
theorem d4_4 : decode prog_26_method_2_code 4 = .ok (.aload_n 0, 1) := by decide +kernel
theorem d4_5 : decode prog_26_method_2_code 5 = .ok (.new 12, 3) := by decide +kernel
theorem d4_8 : decode prog_26_method_2_code 8 = .ok (.dup, 1) := by decide +kernel
theorem d4_9 : decode prog_26_method_2_code 9 = .ok (.invokespecial 14, 3) := by decide +kernel
theorem d4_12 : decode prog_26_method_2_code 12 = .ok (.putfield 15, 3) := by decide +kernel
theorem d4_15 : decode prog_26_method_2_code 15 = .ok (.aload_n 0, 1) := by decide +kernel
theorem d4_16 : decode prog_26_method_2_code 16 = .ok (.iload_n 1, 1) := by decide +kernel
theorem d4_17 : decode prog_26_method_2_code 17 = .ok (.putfield 19, 3) := by decide +kernel
theorem d4_20 : decode prog_26_method_2_code 20 = .ok (.aload_n 0, 1) := by decide +kernel
theorem d4_21 : decode prog_26_method_2_code 21 = .ok (.iload_n 2, 1) := by decide +kernel
theorem d4_22 : decode prog_26_method_2_code 22 = .ok (.putfield 23, 3) := by decide +kernel
theorem d4_25 : decode prog_26_method_2_code 25 = .ok (.return_, 1) := by decide +kernel
set_option maxRecDepth 65536 in
set_option maxHeartbeats 4000000 in
theorem rmB2 (l : Launch) (Z : State) (a0 : Array Value) (hw : ∀ d ∈ tables_1, d.before a0 Z = true) (a1 : Nat) (p1 : Int32) (p2 : Int32) (h0 : Heap) (n0 : Nat) (Z0 : n0 ≤ h0.size) (E1 : Exa Z h0 a1 "com/example/uniform_parser/uniformparser/core/Bytes") (g1 : n0 ≤ a1) (Fpieces : Fld Z h0 a1 "com/example/uniform_parser/uniformparser/core/Bytes" "pieces" "Ljava/util/List;" .null) (Fmost : Fld Z h0 a1 "com/example/uniform_parser/uniformparser/core/Bytes" "most" "I" (.int (0 : Int32))) (Ffirst : Fld Z h0 a1 "com/example/uniform_parser/uniformparser/core/Bytes" "first" "I" (.int (0 : Int32))) (Flength : Fld Z h0 a1 "com/example/uniform_parser/uniformparser/core/Bytes" "length" "I" (.int (0 : Int32))) (vd : Value) (rd : vd.isRef = true) (O0 : Old Z n0 h0) (S0 : Sta Z Z.heap "java/util/ArrayList" "DEFAULTCAPACITY_EMPTY_ELEMENTDATA" "[Ljava/lang/Object;" vd) :
    Con l Z (⟨"com/example/uniform_parser/uniformparser/core/Bytes", "<init>", "(II)V"⟩ : MethodName) prog_26_method_2_code 3 none ({ frames := 4, cells := 1, slots := 3, locals := 50 } : Room) #[(.ref a1), (.int p1), (.int p2)] h0 (fun v h L => v = none ∧ Fr n0 L ∧ Keep h0 h [a1] ∧ Fld Z h a1 "com/example/uniform_parser/uniformparser/core/Bytes" "most" "I" (.int p1) ∧ Fld Z h a1 "com/example/uniform_parser/uniformparser/core/Bytes" "length" "I" (.int 0)) := by
  refine Con.of pf_3 ?_
  intro p e s m below meth c T0 X0 hx hby hml hZ hown hnm hret hlk e0
  have hown : s.vm.findClass "com/example/uniform_parser/uniformparser/core/Bytes" = some m.cls := hown
  have hnm : meth.name = "<init>" := hnm
  have N0 := Fr.nil n0
  have y0 := own_ltE E1
  refine Go.cast (ef_rmB2 m a1 p1 p2) ?_
  have lt_1 := own_ltE E1
  refine Go.st (S' := T0.setTop (mkF m 1 #[.val (.ref a1), .val (.int p1), .val (.int p2)] [(.ref a1)])) (fun t hr => XS.aloadN X0.here hx rfl (hb hby d4_0) rfl rfl hr) ?_
  obtain ⟨T_2, X_2, e_2, st_2⟩ := initO X0 hx hZ hown (hw _ (List.mem_of_getElem? (i := 9) rfl)) (hw _ (List.mem_of_getElem? (i := 10) rfl)) (hw _ (List.mem_of_getElem? (i := 11) rfl)) e0 (g := (mkF m 1 #[.val (.ref a1), .val (.int p1), .val (.int p2)] [(.ref a1)])) rfl (by rw [hml]; rfl) rfl (hb hby d4_1) (by decide) (W := 0) (by show 2 * 0 + _ ≤ _; exact Nat.le_of_eq rfl) (by decide)
  refine Go.st (S' := T_2.setTop (mkF m 4 #[.val (.ref a1), .val (.int p1), .val (.int p2)] [])) st_2 ?_
  refine Go.st (S' := T_2.setTop (mkF m 5 #[.val (.ref a1), .val (.int p1), .val (.int p2)] [(.ref a1)])) (fun t hr => XS.aloadN X_2.here hx rfl (hb hby d4_4) rfl rfl hr) ?_
  obtain ⟨T_3, h_3, X_3, e_3, E_3, A_3, D_3, -, st_3⟩ := newO X_2 hx hZ hown (hw _ (List.mem_of_getElem? (i := 12) rfl)) (hw _ (List.mem_of_getElem? (i := 13) rfl)) (hw _ (List.mem_of_getElem? (i := 14) rfl)) e_2 (g := (mkF m 5 #[.val (.ref a1), .val (.int p1), .val (.int p2)] [(.ref a1)])) rfl (hb hby d4_5) (by decide) (by decide)
  obtain ⟨ad_3, g_3⟩ : ∃ z, z = h0.size := ⟨_, rfl⟩
  rw [← g_3] at A_3 D_3 st_3
  have z_3 := E_3.1
  have y_3 := own_ltE A_3
  have F_3_modCount : Fld Z h_3 ad_3 "java/util/AbstractList" "modCount" "I" (.int (0 : Int32)) := D_3 (Or.inl (hw _ (List.mem_of_getElem? (i := 32) rfl))) (ty := .int) (by decide)
  have F_3_elementData : Fld Z h_3 ad_3 "java/util/ArrayList" "elementData" "[Ljava/lang/Object;" .null := D_3 (Or.inl (hw _ (List.mem_of_getElem? (i := 35) rfl))) (ty := (.array (.object "java/lang/Object"))) (by decide)
  refine Go.st (S' := T_3.setTop (mkF m 8 #[.val (.ref a1), .val (.int p1), .val (.int p2)] [(.ref ad_3), (.ref a1)])) st_3 ?_
  refine Go.st (S' := T_3.setTop (mkF m 9 #[.val (.ref a1), .val (.int p1), .val (.int p2)] [(.ref ad_3), (.ref ad_3), (.ref a1)])) (fun t hr => XS.dup X_3.here hx rfl (hb hby d4_8) rfl rfl hr) ?_
  have F_5 := (O0.ext E_3)
  obtain ⟨v_4, T_4, h_4, L_4, X_4, e_4, Q_4, st_4⟩ := own_callN X_3 hx hZ (y := ⟨"java/util/ArrayList", "<init>", "()V"⟩) rfl hown (hw _ (List.mem_of_getElem? (i := 15) rfl)) (hw _ (List.mem_of_getElem? (i := 16) rfl)) (hw _ (List.mem_of_getElem? (i := 14) rfl)) (hw _ (List.mem_of_getElem? (i := 17) rfl)) (by decide) e_3 (a := ad_3) (argsL := []) (rest := [(.ref ad_3), (.ref a1)]) (rmAL l Z a0 hw ad_3 h_3 n0 (by omega) A_3 F_3_modCount (by omega) F_3_elementData vd rd F_5 S0) (g := (mkF m 9 #[.val (.ref a1), .val (.int p1), .val (.int p2)] [(.ref ad_3), (.ref ad_3), (.ref a1)])) rfl (by rw [hml]; rfl) (lenOf pd_0 rfl) rfl (hb hby d4_9) (W := 2) (by show 2 * 0 + _ ≤ _; exact Nat.le_of_eq rfl) (by decide) (by decide) (by decide) (by decide)
  obtain ⟨rfl, N_4, K_4⟩ := Q_4
  have N_4' := Fr.app N0 N_4
  have z_4 := K_4.1
  refine Go.st (S' := T_4.setTop (mkF m 12 #[.val (.ref a1), .val (.int p1), .val (.int p2)] [(.ref ad_3), (.ref a1)])) st_4 ?_
  have F_6 := ((Fpieces.ext E_3).keep K_4 (by simp only [List.mem_cons, List.not_mem_nil, or_false, not_or]; exact own_ne (by omega)))
  have F_7 := ((E1.ext E_3).keep K_4)
  obtain ⟨T_8, h_8, X_8, e_8, W_8, st_8⟩ := putF X_4 hx hZ hown (host := "") (Or.inl (hw _ (List.mem_of_getElem? (i := 36) rfl))) Via.refl e_4 F_6 F_7 (Or.inr ⟨(hw _ (List.mem_of_getElem? (i := 37) rfl)), rfl, hnm⟩) (hw _ (List.mem_of_getElem? (i := 1) rfl)) (ty := (.object "java/util/List")) (by decide) rfl rfl (g := (mkF m 12 #[.val (.ref a1), .val (.int p1), .val (.int p2)] [(.ref ad_3), (.ref a1)])) rfl rfl (hb hby d4_12)
  have N_8 := Fr.snoc X_8 N_4' (by omega)
  have z_8 := W_8.size
  have F_8 := F_6.same W_8
  refine Go.st (S' := T_8.setTop (mkF m 15 #[.val (.ref a1), .val (.int p1), .val (.int p2)] [])) st_8 ?_
  refine Go.st (S' := T_8.setTop (mkF m 16 #[.val (.ref a1), .val (.int p1), .val (.int p2)] [(.ref a1)])) (fun t hr => XS.aloadN X_8.here hx rfl (hb hby d4_15) rfl rfl hr) ?_
  refine Go.st (S' := T_8.setTop (mkF m 17 #[.val (.ref a1), .val (.int p1), .val (.int p2)] [(.int p1), (.ref a1)])) (fun t hr => XS.iloadN X_8.here hx rfl (hb hby d4_16) rfl hr) ?_
  have F_9 := (((Fmost.ext E_3).keep K_4 (by simp only [List.mem_cons, List.not_mem_nil, or_false, not_or]; exact own_ne (by omega))).other W_8 (Or.inr (slot_ne (t := .int) (t' := (.object "java/util/List")) (Or.inr (hw _ (List.mem_of_getElem? (i := 39) rfl))) (Or.inr (hw _ (List.mem_of_getElem? (i := 37) rfl))) (by decide) (by decide) (by decide))))
  have F_10 := (F_7.wr W_8)
  obtain ⟨T_11, h_11, X_11, e_11, W_11, st_11⟩ := putF X_8 hx hZ hown (host := "") (Or.inl (hw _ (List.mem_of_getElem? (i := 38) rfl))) Via.refl e_8 F_9 F_10 (Or.inr ⟨(hw _ (List.mem_of_getElem? (i := 39) rfl)), rfl, hnm⟩) (hw _ (List.mem_of_getElem? (i := 1) rfl)) (ty := .int) (by decide) rfl rfl (g := (mkF m 17 #[.val (.ref a1), .val (.int p1), .val (.int p2)] [(.int p1), (.ref a1)])) rfl rfl (hb hby d4_17)
  have N_11 := Fr.snoc X_11 N_8 (by omega)
  have z_11 := W_11.size
  have F_11 := F_9.same W_11
  refine Go.st (S' := T_11.setTop (mkF m 20 #[.val (.ref a1), .val (.int p1), .val (.int p2)] [])) st_11 ?_
  refine Go.st (S' := T_11.setTop (mkF m 21 #[.val (.ref a1), .val (.int p1), .val (.int p2)] [(.ref a1)])) (fun t hr => XS.aloadN X_11.here hx rfl (hb hby d4_20) rfl rfl hr) ?_
  refine Go.st (S' := T_11.setTop (mkF m 22 #[.val (.ref a1), .val (.int p1), .val (.int p2)] [(.int p2), (.ref a1)])) (fun t hr => XS.iloadN X_11.here hx rfl (hb hby d4_21) rfl hr) ?_
  have F_12 := ((((Ffirst.ext E_3).keep K_4 (by simp only [List.mem_cons, List.not_mem_nil, or_false, not_or]; exact own_ne (by omega))).other W_8 (Or.inr (slot_ne (t := .int) (t' := (.object "java/util/List")) (Or.inr (hw _ (List.mem_of_getElem? (i := 41) rfl))) (Or.inr (hw _ (List.mem_of_getElem? (i := 37) rfl))) (by decide) (by decide) (by decide)))).other W_11 (Or.inr (slot_ne (t := .int) (t' := .int) (Or.inr (hw _ (List.mem_of_getElem? (i := 41) rfl))) (Or.inr (hw _ (List.mem_of_getElem? (i := 39) rfl))) (by decide) (by decide) (by decide))))
  have F_13 := (F_10.wr W_11)
  obtain ⟨T_14, h_14, X_14, e_14, W_14, st_14⟩ := putF X_11 hx hZ hown (host := "") (Or.inl (hw _ (List.mem_of_getElem? (i := 40) rfl))) Via.refl e_11 F_12 F_13 (Or.inr ⟨(hw _ (List.mem_of_getElem? (i := 41) rfl)), rfl, hnm⟩) (hw _ (List.mem_of_getElem? (i := 1) rfl)) (ty := .int) (by decide) rfl rfl (g := (mkF m 22 #[.val (.ref a1), .val (.int p1), .val (.int p2)] [(.int p2), (.ref a1)])) rfl rfl (hb hby d4_22)
  have N_14 := Fr.snoc X_14 N_11 (by omega)
  have z_14 := W_14.size
  have F_14 := F_12.same W_14
  refine Go.st (S' := T_14.setTop (mkF m 25 #[.val (.ref a1), .val (.int p1), .val (.int p2)] [])) st_14 ?_
  refine Go.retV X_14 hx hlk hret (hb hby d4_25) (by decide) (by decide) ?_
  try rw [e_14]
  have F_15 := (F_11.other W_14 (Or.inr (slot_ne (t := .int) (t' := .int) (Or.inr (hw _ (List.mem_of_getElem? (i := 39) rfl))) (Or.inr (hw _ (List.mem_of_getElem? (i := 41) rfl))) (by decide) (by decide) (by decide))))
  have F_16 := (((((Flength.ext E_3).keep K_4 (by simp only [List.mem_cons, List.not_mem_nil, or_false, not_or]; exact own_ne (by omega))).other W_8 (Or.inr (slot_ne (t := .int) (t' := (.object "java/util/List")) (Or.inl (hw _ (List.mem_of_getElem? (i := 48) rfl))) (Or.inr (hw _ (List.mem_of_getElem? (i := 37) rfl))) (by decide) (by decide) (by decide)))).other W_11 (Or.inr (slot_ne (t := .int) (t' := .int) (Or.inl (hw _ (List.mem_of_getElem? (i := 48) rfl))) (Or.inr (hw _ (List.mem_of_getElem? (i := 39) rfl))) (by decide) (by decide) (by decide)))).other W_14 (Or.inr (slot_ne (t := .int) (t' := .int) (Or.inl (hw _ (List.mem_of_getElem? (i := 48) rfl))) (Or.inr (hw _ (List.mem_of_getElem? (i := 41) rfl))) (by decide) (by decide) (by decide))))
  exact ⟨rfl, N_14, ((((((Keep.refl h0 [a1]).ext E_3).trans K_4 (by intro x hxx; simp only [List.mem_cons, List.not_mem_nil, or_false] at hxx; rcases hxx with rfl; · exact Or.inr (by omega))).wr W_8 (Or.inl (by simp))).wr W_11 (Or.inl (by simp))).wr W_14 (Or.inl (by simp))), F_15, F_16⟩
theorem ef_rmB1 (m : MethodId) (a1 : Nat) (p1 : Int32) : entryFrame m #[(.ref a1), (.int p1)] 2 = mkF m 0 #[.val (.ref a1), .val (.int p1)] [] := by first | (simp [entryFrame, mkF, argsToLocals, Value.category]; done) | rfl
theorem pf_4 : plainFor (⟨"com/example/uniform_parser/uniformparser/core/Bytes", "<init>", "(I)V"⟩ : MethodName) = true := plainFor_of_name (by first | (simp [plainName, overriddenIn]; done) | decide +kernel)
theorem pd_1 : parseMethodDescriptor "(II)V" = some ⟨[.int, .int], none⟩ := by decide +kernel
theorem d5_0 : decode prog_26_method_1_code 0 = .ok (.aload_n 0, 1) := by decide +kernel
theorem d5_1 : decode prog_26_method_1_code 1 = .ok (.iload_n 1, 1) := by decide +kernel
theorem d5_2 : decode prog_26_method_1_code 2 = .ok (.sipush 8192, 3) := by decide +kernel
theorem d5_5 : decode prog_26_method_1_code 5 = .ok (.invokespecial 3, 3) := by decide +kernel
theorem d5_8 : decode prog_26_method_1_code 8 = .ok (.return_, 1) := by decide +kernel
set_option maxRecDepth 65536 in
set_option maxHeartbeats 4000000 in
theorem rmB1 (l : Launch) (Z : State) (a0 : Array Value) (hw : ∀ d ∈ tables_1, d.before a0 Z = true) (a1 : Nat) (p1 : Int32) (h0 : Heap) (n0 : Nat) (Z0 : n0 ≤ h0.size) (E1 : Exa Z h0 a1 "com/example/uniform_parser/uniformparser/core/Bytes") (g1 : n0 ≤ a1) (Fpieces : Fld Z h0 a1 "com/example/uniform_parser/uniformparser/core/Bytes" "pieces" "Ljava/util/List;" .null) (Fmost : Fld Z h0 a1 "com/example/uniform_parser/uniformparser/core/Bytes" "most" "I" (.int (0 : Int32))) (Ffirst : Fld Z h0 a1 "com/example/uniform_parser/uniformparser/core/Bytes" "first" "I" (.int (0 : Int32))) (Flength : Fld Z h0 a1 "com/example/uniform_parser/uniformparser/core/Bytes" "length" "I" (.int (0 : Int32))) (vd : Value) (rd : vd.isRef = true) (O0 : Old Z n0 h0) (S0 : Sta Z Z.heap "java/util/ArrayList" "DEFAULTCAPACITY_EMPTY_ELEMENTDATA" "[Ljava/lang/Object;" vd) :
    Con l Z (⟨"com/example/uniform_parser/uniformparser/core/Bytes", "<init>", "(I)V"⟩ : MethodName) prog_26_method_1_code 2 none ({ frames := 5, cells := 1, slots := 3, locals := 64 } : Room) #[(.ref a1), (.int p1)] h0 (fun v h L => v = none ∧ Fr n0 L ∧ Keep h0 h [a1] ∧ Fld Z h a1 "com/example/uniform_parser/uniformparser/core/Bytes" "most" "I" (.int p1) ∧ Fld Z h a1 "com/example/uniform_parser/uniformparser/core/Bytes" "length" "I" (.int 0)) := by
  refine Con.of pf_4 ?_
  intro p e s m below meth c T0 X0 hx hby hml hZ hown hnm hret hlk e0
  have hown : s.vm.findClass "com/example/uniform_parser/uniformparser/core/Bytes" = some m.cls := hown
  have hnm : meth.name = "<init>" := hnm
  have N0 := Fr.nil n0
  have y0 := own_ltE E1
  refine Go.cast (ef_rmB1 m a1 p1) ?_
  have lt_1 := own_ltE E1
  refine Go.st (S' := T0.setTop (mkF m 1 #[.val (.ref a1), .val (.int p1)] [(.ref a1)])) (fun t hr => XS.aloadN X0.here hx rfl (hb hby d5_0) rfl rfl hr) ?_
  refine Go.st (S' := T0.setTop (mkF m 2 #[.val (.ref a1), .val (.int p1)] [(.int p1), (.ref a1)])) (fun t hr => XS.iloadN X0.here hx rfl (hb hby d5_1) rfl hr) ?_
  refine Go.st (S' := T0.setTop (mkF m 5 #[.val (.ref a1), .val (.int p1)] [(.int (8192 : Int32)), (.int p1), (.ref a1)])) (fun t hr => XS.sipush X0.here hx rfl (hb hby d5_2) hr) ?_
  obtain ⟨v_2, T_2, h_2, L_2, X_2, e_2, Q_2, st_2⟩ := own_callN X0 hx hZ (y := ⟨"com/example/uniform_parser/uniformparser/core/Bytes", "<init>", "(II)V"⟩) rfl hown (hw _ (List.mem_of_getElem? (i := 6) rfl)) (hw _ (List.mem_of_getElem? (i := 7) rfl)) (hw _ (List.mem_of_getElem? (i := 2) rfl)) (hw _ (List.mem_of_getElem? (i := 8) rfl)) (by decide) e0 (a := a1) (argsL := [(.int p1), (.int (8192 : Int32))]) (rest := []) (rmB2 l Z a0 hw a1 p1 8192 h0 n0 Z0 E1 g1 Fpieces Fmost Ffirst Flength vd rd O0 S0) (g := (mkF m 5 #[.val (.ref a1), .val (.int p1)] [(.int (8192 : Int32)), (.int p1), (.ref a1)])) rfl (by rw [hml]; rfl) (lenOf pd_1 rfl) rfl (hb hby d5_5) (W := 0) (by show 2 * 0 + _ ≤ _; exact Nat.le_of_eq rfl) (by decide) (by decide) (by decide) (by decide)
  obtain ⟨rfl, N_2, K_2, G1_2, G2_2⟩ := Q_2
  have N_2' := Fr.app N0 N_2
  have z_2 := K_2.1
  refine Go.st (S' := T_2.setTop (mkF m 8 #[.val (.ref a1), .val (.int p1)] [])) st_2 ?_
  refine Go.retV X_2 hx hlk hret (hb hby d5_8) (by decide) (by decide) ?_
  try rw [e_2]
  exact ⟨rfl, N_2', ((Keep.refl h0 [a1]).trans K_2 (by intro x hxx; simp only [List.mem_cons, List.not_mem_nil, or_false] at hxx; rcases hxx with rfl; · exact Or.inl (by simp))), G1_2, G2_2⟩
theorem ef_rmP (m : MethodId) (a1 : Nat) : entryFrame m #[(.ref a1)] 1 = mkF m 0 #[.val (.ref a1)] [] := by first | (simp [entryFrame, mkF, argsToLocals, Value.category]; done) | rfl
theorem pf_5 : plainFor (⟨"com/example/uniform_parser/uniformparser/core/Bytes", "isPastMost", "()Z"⟩ : MethodName) = true := plainFor_of_name (by first | (simp [plainName, overriddenIn]; done) | decide +kernel)
theorem d6_0 : decode prog_26_method_5_code 0 = .ok (.aload_n 0, 1) := by decide +kernel
theorem d6_1 : decode prog_26_method_5_code 1 = .ok (.getfield 80, 3) := by decide +kernel
theorem d6_4 : decode prog_26_method_5_code 4 = .ok (.aload_n 0, 1) := by decide +kernel
theorem d6_5 : decode prog_26_method_5_code 5 = .ok (.getfield 19, 3) := by decide +kernel
theorem d6_8 : decode prog_26_method_5_code 8 = .ok (.if_icmp .le 7, 3) := by decide +kernel
theorem d6_11 : decode prog_26_method_5_code 11 = .ok (.iconst 1, 1) := by decide +kernel
theorem d6_12 : decode prog_26_method_5_code 12 = .ok (.goto 4, 3) := by decide +kernel
theorem d6_15 : decode prog_26_method_5_code 15 = .ok (.iconst 0, 1) := by decide +kernel
theorem d6_16 : decode prog_26_method_5_code 16 = .ok (.ireturn, 1) := by decide +kernel
set_option maxRecDepth 65536 in
set_option maxHeartbeats 4000000 in
theorem rmP (l : Launch) (Z : State) (a0 : Array Value) (hw : ∀ d ∈ tables_1, d.before a0 Z = true) (a1 : Nat) (h0 : Heap) (n0 : Nat) (Z0 : n0 ≤ h0.size) (p1 p2 : Int32) (Fmost : Fld Z h0 a1 "com/example/uniform_parser/uniformparser/core/Bytes" "most" "I" (.int p1)) (Flength : Fld Z h0 a1 "com/example/uniform_parser/uniformparser/core/Bytes" "length" "I" (.int p2)) :
    Con l Z (⟨"com/example/uniform_parser/uniformparser/core/Bytes", "isPastMost", "()Z"⟩ : MethodName) prog_26_method_5_code 1 (some .boolean) ({ frames := 0, cells := 0, slots := 0, locals := 0 } : Room) #[(.ref a1)] h0 (fun v h L => v = some (.int (own_past p2 p1)) ∧ Fr n0 L ∧ h = h0) := by
  refine Con.of pf_5 ?_
  intro p e s m below meth c T0 X0 hx hby hml hZ hown hnm hret hlk e0
  have hown : s.vm.findClass "com/example/uniform_parser/uniformparser/core/Bytes" = some m.cls := hown
  have hnm : meth.name = "isPastMost" := hnm
  have N0 := Fr.nil n0
  refine Go.cast (ef_rmP m a1) ?_
  have lt_1 := own_ltF Fmost
  refine Go.st (S' := T0.setTop (mkF m 1 #[.val (.ref a1)] [(.ref a1)])) (fun t hr => XS.aloadN X0.here hx rfl (hb hby d6_0) rfl rfl hr) ?_
  obtain ⟨T_2, X_2, e_2, st_2⟩ := getF X0 hx hZ hown (host := "") (Or.inl (hw _ (List.mem_of_getElem? (i := 47) rfl))) Via.refl e0 Flength (g := (mkF m 1 #[.val (.ref a1)] [(.ref a1)])) rfl rfl (hb hby d6_1)
  refine Go.st (S' := T_2.setTop (mkF m 4 #[.val (.ref a1)] [(.int p2)])) st_2 ?_
  refine Go.st (S' := T_2.setTop (mkF m 5 #[.val (.ref a1)] [(.ref a1), (.int p2)])) (fun t hr => XS.aloadN X_2.here hx rfl (hb hby d6_4) rfl rfl hr) ?_
  obtain ⟨T_3, X_3, e_3, st_3⟩ := getF X_2 hx hZ hown (host := "") (Or.inl (hw _ (List.mem_of_getElem? (i := 38) rfl))) Via.refl e_2 Fmost (g := (mkF m 5 #[.val (.ref a1)] [(.ref a1), (.int p2)])) rfl rfl (hb hby d6_5)
  refine Go.st (S' := T_3.setTop (mkF m 8 #[.val (.ref a1)] [(.int p1), (.int p2)])) st_3 ?_
  by_cases hc4 : p1 < p2
  · refine Go.st (S' := T_3.setTop (mkF m 11 #[.val (.ref a1)] [])) (fun t hr => XS.icmpNo X_3.here hx rfl (hb hby d6_8) rfl (XT.ii_le_f hc4) hr) ?_
    refine Go.st (S' := T_3.setTop (mkF m 12 #[.val (.ref a1)] [(.int (1 : Int32))])) (fun t hr => XS.iconst X_3.here hx rfl (hb hby d6_11) hr) ?_
    refine Go.st (S' := T_3.setTop (mkF m 16 #[.val (.ref a1)] [(.int (1 : Int32))])) (fun t hr => XS.goto X_3.here hx rfl (pc0 := 12) (pc' := 16) rfl (hb hby d6_12) (by decide) (by decide) hr) ?_
    refine Go.retN X_3 hx hlk (t := .boolean) hret (by simp) (hb hby d6_16) (by decide) (by decide) ?_
    try rw [e_3]
    exact ⟨by rw [own_past, if_pos hc4]; rfl, N0, rfl⟩
  · refine Go.st (S' := T_3.setTop (mkF m 15 #[.val (.ref a1)] [])) (fun t hr => XS.icmpYes X_3.here hx rfl (pc0 := 8) (pc' := 15) rfl (hb hby d6_8) rfl (XT.ii_le_t hc4) (by decide) (by decide) hr) ?_
    refine Go.st (S' := T_3.setTop (mkF m 16 #[.val (.ref a1)] [(.int (0 : Int32))])) (fun t hr => XS.iconst X_3.here hx rfl (hb hby d6_15) hr) ?_
    refine Go.retN X_3 hx hlk (t := .boolean) hret (by simp) (hb hby d6_16) (by decide) (by decide) ?_
    try rw [e_3]
    exact ⟨by rw [own_past, if_neg hc4]; rfl, N0, rfl⟩
theorem ef_rmL (m : MethodId) (a1 : Nat) : entryFrame m #[(.ref a1)] 1 = mkF m 0 #[.val (.ref a1)] [] := by first | (simp [entryFrame, mkF, argsToLocals, Value.category]; done) | rfl
theorem pf_6 : plainFor (⟨"com/example/uniform_parser/uniformparser/core/Bytes", "length", "()I"⟩ : MethodName) = true := plainFor_of_name (by first | (simp [plainName, overriddenIn]; done) | decide +kernel)
theorem d7_0 : decode prog_26_method_6_code 0 = .ok (.aload_n 0, 1) := by decide +kernel
theorem d7_1 : decode prog_26_method_6_code 1 = .ok (.getfield 80, 3) := by decide +kernel
theorem d7_4 : decode prog_26_method_6_code 4 = .ok (.ireturn, 1) := by decide +kernel
set_option maxRecDepth 65536 in
set_option maxHeartbeats 4000000 in
theorem rmL (l : Launch) (Z : State) (a0 : Array Value) (hw : ∀ d ∈ tables_1, d.before a0 Z = true) (a1 : Nat) (h0 : Heap) (n0 : Nat) (Z0 : n0 ≤ h0.size) (p1 p2 : Int32) (Fmost : Fld Z h0 a1 "com/example/uniform_parser/uniformparser/core/Bytes" "most" "I" (.int p1)) (Flength : Fld Z h0 a1 "com/example/uniform_parser/uniformparser/core/Bytes" "length" "I" (.int p2)) :
    Con l Z (⟨"com/example/uniform_parser/uniformparser/core/Bytes", "length", "()I"⟩ : MethodName) prog_26_method_6_code 1 (some .int) ({ frames := 0, cells := 0, slots := 0, locals := 0 } : Room) #[(.ref a1)] h0 (fun v h L => v = some (.int p2) ∧ Fr n0 L ∧ h = h0) := by
  refine Con.of pf_6 ?_
  intro p e s m below meth c T0 X0 hx hby hml hZ hown hnm hret hlk e0
  have hown : s.vm.findClass "com/example/uniform_parser/uniformparser/core/Bytes" = some m.cls := hown
  have hnm : meth.name = "length" := hnm
  have N0 := Fr.nil n0
  refine Go.cast (ef_rmL m a1) ?_
  have lt_1 := own_ltF Fmost
  refine Go.st (S' := T0.setTop (mkF m 1 #[.val (.ref a1)] [(.ref a1)])) (fun t hr => XS.aloadN X0.here hx rfl (hb hby d7_0) rfl rfl hr) ?_
  obtain ⟨T_2, X_2, e_2, st_2⟩ := getF X0 hx hZ hown (host := "") (Or.inl (hw _ (List.mem_of_getElem? (i := 47) rfl))) Via.refl e0 Flength (g := (mkF m 1 #[.val (.ref a1)] [(.ref a1)])) rfl rfl (hb hby d7_1)
  refine Go.st (S' := T_2.setTop (mkF m 4 #[.val (.ref a1)] [(.int p2)])) st_2 ?_
  refine Go.retI X_2 hx hlk hret (hb hby d7_4) (by decide) (by decide) ?_
  try rw [e_2]
  exact ⟨rfl, N0, rfl⟩
theorem ef_rm0 (m : MethodId) (p1 : Int32) : entryFrame m #[(.int p1)] maxLocals = mkF m 0 #[.val (.int p1), .unset, .unset, .unset, .unset] [] := by first | (simp [entryFrame, mkF, argsToLocals, Value.category, maxLocals]; done) | rfl
theorem pf_7 : plainFor x = true := plainFor_of_name (by first | (simp [plainName, overriddenIn, x]; done) | decide +kernel)
theorem pd_2 : parseMethodDescriptor "(I)V" = some ⟨[.int], none⟩ := by decide +kernel
theorem pd_3 : parseMethodDescriptor "()Z" = some ⟨[], some .boolean⟩ := by decide +kernel
theorem pd_4 : parseMethodDescriptor "()I" = some ⟨[], some .int⟩ := by decide +kernel
set_option maxRecDepth 65536 in
set_option maxHeartbeats 4000000 in
theorem rm0 (l : Launch) (Z : State) (a0 : Array Value) (hw : ∀ d ∈ tables_1, d.before a0 Z = true) (p1 : Int32) (h0 : Heap) (n0 : Nat) (Z0 : n0 ≤ h0.size) (vd : Value) (rd : vd.isRef = true) (O0 : Old Z n0 h0) (S0 : Sta Z Z.heap "java/util/ArrayList" "DEFAULTCAPACITY_EMPTY_ELEMENTDATA" "[Ljava/lang/Object;" vd) :
    Con l Z x code maxLocals ret room_1 #[(.int p1)] h0 (fun v h L => v = some (.int 1) ∧ Fr n0 L) := by
  refine Con.of pf_7 ?_
  intro p e s m below meth c T0 X0 hx hby hml hZ hown hnm hret hlk e0
  have hown : s.vm.findClass "com/example/uniform_parser/uniformparser/core/BytesIsPastMostPinLaw" = some m.cls := hown
  have hnm : meth.name = "law" := hnm
  have N0 := Fr.nil n0
  refine Go.cast (ef_rm0 m p1) ?_
  obtain ⟨T_1, h_1, X_1, e_1, E_1, A_1, D_1, -, st_1⟩ := newO X0 hx hZ hown (hw _ (List.mem_of_getElem? (i := 0) rfl)) (hw _ (List.mem_of_getElem? (i := 1) rfl)) (hw _ (List.mem_of_getElem? (i := 2) rfl)) e0 (g := (mkF m 0 #[.val (.int p1), .unset, .unset, .unset, .unset] [])) rfl (hb hby at_0) (by decide) (by decide)
  obtain ⟨ad_1, g_1⟩ : ∃ z, z = h0.size := ⟨_, rfl⟩
  rw [← g_1] at A_1 D_1 st_1
  have z_1 := E_1.1
  have y_1 := own_ltE A_1
  have F_1_pieces : Fld Z h_1 ad_1 "com/example/uniform_parser/uniformparser/core/Bytes" "pieces" "Ljava/util/List;" .null := D_1 (Or.inr (hw _ (List.mem_of_getElem? (i := 37) rfl))) (ty := (.object "java/util/List")) (by decide)
  have F_1_most : Fld Z h_1 ad_1 "com/example/uniform_parser/uniformparser/core/Bytes" "most" "I" (.int (0 : Int32)) := D_1 (Or.inr (hw _ (List.mem_of_getElem? (i := 39) rfl))) (ty := .int) (by decide)
  have F_1_first : Fld Z h_1 ad_1 "com/example/uniform_parser/uniformparser/core/Bytes" "first" "I" (.int (0 : Int32)) := D_1 (Or.inr (hw _ (List.mem_of_getElem? (i := 41) rfl))) (ty := .int) (by decide)
  have F_1_length : Fld Z h_1 ad_1 "com/example/uniform_parser/uniformparser/core/Bytes" "length" "I" (.int (0 : Int32)) := D_1 (Or.inl (hw _ (List.mem_of_getElem? (i := 48) rfl))) (ty := .int) (by decide)
  refine Go.st (S' := T_1.setTop (mkF m 3 #[.val (.int p1), .unset, .unset, .unset, .unset] [(.ref ad_1)])) st_1 ?_
  refine Go.st (S' := T_1.setTop (mkF m 4 #[.val (.int p1), .unset, .unset, .unset, .unset] [(.ref ad_1), (.ref ad_1)])) (fun t hr => XS.dup X_1.here hx rfl (hb hby at_3) rfl rfl hr) ?_
  refine Go.st (S' := T_1.setTop (mkF m 5 #[.val (.int p1), .unset, .unset, .unset, .unset] [(.int p1), (.ref ad_1), (.ref ad_1)])) (fun t hr => XS.iloadN X_1.here hx rfl (hb hby at_4) rfl hr) ?_
  have F_3 := (O0.ext E_1)
  obtain ⟨v_2, T_2, h_2, L_2, X_2, e_2, Q_2, st_2⟩ := own_callN X_1 hx hZ (y := ⟨"com/example/uniform_parser/uniformparser/core/Bytes", "<init>", "(I)V"⟩) rfl hown (hw _ (List.mem_of_getElem? (i := 3) rfl)) (hw _ (List.mem_of_getElem? (i := 4) rfl)) (hw _ (List.mem_of_getElem? (i := 2) rfl)) (hw _ (List.mem_of_getElem? (i := 5) rfl)) (by decide) e_1 (a := ad_1) (argsL := [(.int p1)]) (rest := [(.ref ad_1)]) (rmB1 l Z a0 hw ad_1 p1 h_1 n0 (by omega) A_1 (by omega) F_1_pieces F_1_most F_1_first F_1_length vd rd F_3 S0) (g := (mkF m 5 #[.val (.int p1), .unset, .unset, .unset, .unset] [(.int p1), (.ref ad_1), (.ref ad_1)])) rfl (by rw [hml]; rfl) (lenOf pd_2 rfl) rfl (hb hby at_5) (W := 1) (by show 2 * 0 + _ ≤ _; exact Nat.le_of_eq rfl) (by decide) (by decide) (by decide) (by decide)
  obtain ⟨rfl, N_2, K_2, G1_2, G2_2⟩ := Q_2
  have N_2' := Fr.app N0 N_2
  have z_2 := K_2.1
  refine Go.st (S' := T_2.setTop (mkF m 8 #[.val (.int p1), .unset, .unset, .unset, .unset] [(.ref ad_1)])) st_2 ?_
  refine Go.st (S' := T_2.setTop (mkF m 9 #[.val (.int p1), .val (.ref ad_1), .unset, .unset, .unset] [])) (fun t hr => XS.astoreN X_2.here hx rfl (hb hby at_8) rfl rfl (l' := #[.val (.int p1), .val (.ref ad_1), .unset, .unset, .unset]) rfl hr) ?_
  refine Go.st (S' := T_2.setTop (mkF m 10 #[.val (.int p1), .val (.ref ad_1), .unset, .unset, .unset] [(.ref ad_1)])) (fun t hr => XS.aloadN X_2.here hx rfl (hb hby at_9) rfl rfl hr) ?_
  have F_5 := (A_1.keep K_2)
  obtain ⟨v_4, T_4, h_4, L_4, X_4, e_4, Q_4, st_4⟩ := own_callV X_2 hx hZ (C := "com/example/uniform_parser/uniformparser/core/Bytes") (y := ⟨"com/example/uniform_parser/uniformparser/core/Bytes", "isPastMost", "()Z"⟩) (z := ⟨"com/example/uniform_parser/uniformparser/core/Bytes", "isPastMost", "()Z"⟩) hown (hw _ (List.mem_of_getElem? (i := 42) rfl)) (hw _ (List.mem_of_getElem? (i := 43) rfl)) (hw _ (List.mem_of_getElem? (i := 45) rfl)) (hw _ (List.mem_of_getElem? (i := 45) rfl)) (hw _ (List.mem_of_getElem? (i := 44) rfl)) (hw _ (List.mem_of_getElem? (i := 2) rfl)) (hw _ (List.mem_of_getElem? (i := 46) rfl)) (by decide) e_2 (a := ad_1) F_5 (argsL := []) (rest := []) (rmP l Z a0 hw ad_1 h_2 n0 (by omega) p1 0 G1_2 G2_2) (g := (mkF m 10 #[.val (.int p1), .val (.ref ad_1), .unset, .unset, .unset] [(.ref ad_1)])) rfl (by rw [hml]; rfl) (lenOf pd_3 rfl) rfl (hb hby at_10) (W := 0) (by show 2 * 0 + _ ≤ _; exact Nat.le_of_eq rfl) (by decide) (by decide) (by decide) (by decide)
  obtain ⟨rfl, N_4, hh_4⟩ := Q_4
  have N_4' := Fr.app N_2' N_4
  rw [hh_4] at e_4
  refine Go.st (S' := T_4.setTop (mkF m 13 #[.val (.int p1), .val (.ref ad_1), .unset, .unset, .unset] [(.int (own_past 0 p1))])) st_4 ?_
  refine Go.st (S' := T_4.setTop (mkF m 14 #[.val (.int p1), .val (.ref ad_1), .val (.int (own_past 0 p1)), .unset, .unset] [])) (fun t hr => XS.istoreN X_4.here hx rfl (hb hby at_13) rfl (l' := #[.val (.int p1), .val (.ref ad_1), .val (.int (own_past 0 p1)), .unset, .unset]) rfl hr) ?_
  refine Go.st (S' := T_4.setTop (mkF m 15 #[.val (.int p1), .val (.ref ad_1), .val (.int (own_past 0 p1)), .unset, .unset] [(.int (0 : Int32))])) (fun t hr => XS.iconst X_4.here hx rfl (hb hby at_14) hr) ?_
  refine Go.st (S' := T_4.setTop (mkF m 16 #[.val (.int p1), .val (.ref ad_1), .val (.int (own_past 0 p1)), .unset, .unset] [(.int p1), (.int (0 : Int32))])) (fun t hr => XS.iloadN X_4.here hx rfl (hb hby at_15) rfl hr) ?_
  by_cases hc6 : p1 < (0 : Int32)
  · refine Go.st (S' := T_4.setTop (mkF m 19 #[.val (.int p1), .val (.ref ad_1), .val (.int (own_past 0 p1)), .unset, .unset] [])) (fun t hr => XS.icmpNo X_4.here hx rfl (hb hby at_16) rfl (XT.ii_le_f hc6) hr) ?_
    refine Go.st (S' := T_4.setTop (mkF m 20 #[.val (.int p1), .val (.ref ad_1), .val (.int (own_past 0 p1)), .unset, .unset] [(.int (1 : Int32))])) (fun t hr => XS.iconst X_4.here hx rfl (hb hby at_19) hr) ?_
    refine Go.st (S' := T_4.setTop (mkF m 24 #[.val (.int p1), .val (.ref ad_1), .val (.int (own_past 0 p1)), .unset, .unset] [(.int (1 : Int32))])) (fun t hr => XS.goto X_4.here hx rfl (pc0 := 20) (pc' := 24) rfl (hb hby at_20) (by decide) (by decide) hr) ?_
    refine Go.st (S' := T_4.setTop (mkF m 25 #[.val (.int p1), .val (.ref ad_1), .val (.int (own_past 0 p1)), .val (.int (1 : Int32)), .unset] [])) (fun t hr => XS.istoreN X_4.here hx rfl (hb hby at_24) rfl (l' := #[.val (.int p1), .val (.ref ad_1), .val (.int (own_past 0 p1)), .val (.int (1 : Int32)), .unset]) rfl hr) ?_
    refine Go.st (S' := T_4.setTop (mkF m 26 #[.val (.int p1), .val (.ref ad_1), .val (.int (own_past 0 p1)), .val (.int (1 : Int32)), .unset] [(.ref ad_1)])) (fun t hr => XS.aloadN X_4.here hx rfl (hb hby at_25) rfl rfl hr) ?_
    obtain ⟨v_7, T_7, h_7, L_7, X_7, e_7, Q_7, st_7⟩ := own_callV X_4 hx hZ (C := "com/example/uniform_parser/uniformparser/core/Bytes") (y := ⟨"com/example/uniform_parser/uniformparser/core/Bytes", "isPastMost", "()Z"⟩) (z := ⟨"com/example/uniform_parser/uniformparser/core/Bytes", "isPastMost", "()Z"⟩) hown (hw _ (List.mem_of_getElem? (i := 42) rfl)) (hw _ (List.mem_of_getElem? (i := 43) rfl)) (hw _ (List.mem_of_getElem? (i := 45) rfl)) (hw _ (List.mem_of_getElem? (i := 45) rfl)) (hw _ (List.mem_of_getElem? (i := 44) rfl)) (hw _ (List.mem_of_getElem? (i := 2) rfl)) (hw _ (List.mem_of_getElem? (i := 46) rfl)) (by decide) e_4 (a := ad_1) F_5 (argsL := []) (rest := []) (rmP l Z a0 hw ad_1 h_2 n0 (by omega) p1 0 G1_2 G2_2) (g := (mkF m 26 #[.val (.int p1), .val (.ref ad_1), .val (.int (own_past 0 p1)), .val (.int (1 : Int32)), .unset] [(.ref ad_1)])) rfl (by rw [hml]; rfl) (lenOf pd_3 rfl) rfl (hb hby at_26) (W := 0) (by show 2 * 0 + _ ≤ _; exact Nat.le_of_eq rfl) (by decide) (by decide) (by decide) (by decide)
    obtain ⟨rfl, N_7, hh_7⟩ := Q_7
    have N_7' := Fr.app N_4' N_7
    rw [hh_7] at e_7
    refine Go.st (S' := T_7.setTop (mkF m 29 #[.val (.int p1), .val (.ref ad_1), .val (.int (own_past 0 p1)), .val (.int (1 : Int32)), .unset] [(.int (own_past 0 p1))])) st_7 ?_
    refine Go.st (S' := T_7.setTop (mkF m 31 #[.val (.int p1), .val (.ref ad_1), .val (.int (own_past 0 p1)), .val (.int (1 : Int32)), .val (.int (own_past 0 p1))] [])) (fun t hr => XS.istore X_7.here hx rfl (hb hby at_29) rfl (l' := #[.val (.int p1), .val (.ref ad_1), .val (.int (own_past 0 p1)), .val (.int (1 : Int32)), .val (.int (own_past 0 p1))]) rfl hr) ?_
    refine Go.st (S' := T_7.setTop (mkF m 32 #[.val (.int p1), .val (.ref ad_1), .val (.int (own_past 0 p1)), .val (.int (1 : Int32)), .val (.int (own_past 0 p1))] [(.int (own_past 0 p1))])) (fun t hr => XS.iloadN X_7.here hx rfl (hb hby at_31) rfl hr) ?_
    refine Go.st (S' := T_7.setTop (mkF m 33 #[.val (.int p1), .val (.ref ad_1), .val (.int (own_past 0 p1)), .val (.int (1 : Int32)), .val (.int (own_past 0 p1))] [(.int (1 : Int32)), (.int (own_past 0 p1))])) (fun t hr => XS.iloadN X_7.here hx rfl (hb hby at_32) rfl hr) ?_
    have hq33 : own_past 0 p1 = (1 : Int32) := by rw [own_past, if_pos hc6]
    refine Go.st (S' := T_7.setTop (mkF m 36 #[.val (.int p1), .val (.ref ad_1), .val (.int (own_past 0 p1)), .val (.int (1 : Int32)), .val (.int (own_past 0 p1))] [])) (fun t hr => XS.icmpNo X_7.here hx rfl (hb hby at_33) rfl (XT.ii_ne_f hq33) hr) ?_
    refine Go.st (S' := T_7.setTop (mkF m 38 #[.val (.int p1), .val (.ref ad_1), .val (.int (own_past 0 p1)), .val (.int (1 : Int32)), .val (.int (own_past 0 p1))] [(.int (own_past 0 p1))])) (fun t hr => XS.iload X_7.here hx rfl (hb hby at_36) rfl hr) ?_
    refine Go.st (S' := T_7.setTop (mkF m 39 #[.val (.int p1), .val (.ref ad_1), .val (.int (own_past 0 p1)), .val (.int (1 : Int32)), .val (.int (own_past 0 p1))] [(.int (own_past 0 p1)), (.int (own_past 0 p1))])) (fun t hr => XS.iloadN X_7.here hx rfl (hb hby at_38) rfl hr) ?_
    refine Go.st (S' := T_7.setTop (mkF m 42 #[.val (.int p1), .val (.ref ad_1), .val (.int (own_past 0 p1)), .val (.int (1 : Int32)), .val (.int (own_past 0 p1))] [])) (fun t hr => XS.icmpNo X_7.here hx rfl (hb hby at_39) rfl (XT.ii_ne_f rfl) hr) ?_
    refine Go.st (S' := T_7.setTop (mkF m 43 #[.val (.int p1), .val (.ref ad_1), .val (.int (own_past 0 p1)), .val (.int (1 : Int32)), .val (.int (own_past 0 p1))] [(.ref ad_1)])) (fun t hr => XS.aloadN X_7.here hx rfl (hb hby at_42) rfl rfl hr) ?_
    obtain ⟨v_8, T_8, h_8, L_8, X_8, e_8, Q_8, st_8⟩ := own_callV X_7 hx hZ (C := "com/example/uniform_parser/uniformparser/core/Bytes") (y := ⟨"com/example/uniform_parser/uniformparser/core/Bytes", "length", "()I"⟩) (z := ⟨"com/example/uniform_parser/uniformparser/core/Bytes", "length", "()I"⟩) hown (hw _ (List.mem_of_getElem? (i := 49) rfl)) (hw _ (List.mem_of_getElem? (i := 50) rfl)) (hw _ (List.mem_of_getElem? (i := 52) rfl)) (hw _ (List.mem_of_getElem? (i := 52) rfl)) (hw _ (List.mem_of_getElem? (i := 51) rfl)) (hw _ (List.mem_of_getElem? (i := 2) rfl)) (hw _ (List.mem_of_getElem? (i := 53) rfl)) (by decide) e_7 (a := ad_1) F_5 (argsL := []) (rest := []) (rmL l Z a0 hw ad_1 h_2 n0 (by omega) p1 0 G1_2 G2_2) (g := (mkF m 43 #[.val (.int p1), .val (.ref ad_1), .val (.int (own_past 0 p1)), .val (.int (1 : Int32)), .val (.int (own_past 0 p1))] [(.ref ad_1)])) rfl (by rw [hml]; rfl) (lenOf pd_4 rfl) rfl (hb hby at_43) (W := 0) (by show 2 * 0 + _ ≤ _; exact Nat.le_of_eq rfl) (by decide) (by decide) (by decide) (by decide)
    obtain ⟨rfl, N_8, hh_8⟩ := Q_8
    have N_8' := Fr.app N_7' N_8
    rw [hh_8] at e_8
    refine Go.st (S' := T_8.setTop (mkF m 46 #[.val (.int p1), .val (.ref ad_1), .val (.int (own_past 0 p1)), .val (.int (1 : Int32)), .val (.int (own_past 0 p1))] [(.int (0 : Int32))])) st_8 ?_
    refine Go.st (S' := T_8.setTop (mkF m 49 #[.val (.int p1), .val (.ref ad_1), .val (.int (own_past 0 p1)), .val (.int (1 : Int32)), .val (.int (own_past 0 p1))] [])) (fun t hr => XS.ifNo X_8.here hx rfl (hb hby at_46) rfl (XT.i0_ne_f (by decide)) hr) ?_
    refine Go.st (S' := T_8.setTop (mkF m 50 #[.val (.int p1), .val (.ref ad_1), .val (.int (own_past 0 p1)), .val (.int (1 : Int32)), .val (.int (own_past 0 p1))] [(.int (1 : Int32))])) (fun t hr => XS.iconst X_8.here hx rfl (hb hby at_49) hr) ?_
    refine Go.st (S' := T_8.setTop (mkF m 54 #[.val (.int p1), .val (.ref ad_1), .val (.int (own_past 0 p1)), .val (.int (1 : Int32)), .val (.int (own_past 0 p1))] [(.int (1 : Int32))])) (fun t hr => XS.goto X_8.here hx rfl (pc0 := 50) (pc' := 54) rfl (hb hby at_50) (by decide) (by decide) hr) ?_
    refine Go.retN X_8 hx hlk (t := .boolean) hret (by simp) (hb hby at_54) (by decide) (by decide) ?_
    try rw [e_8]
    exact ⟨rfl, N_8'⟩
  · refine Go.st (S' := T_4.setTop (mkF m 23 #[.val (.int p1), .val (.ref ad_1), .val (.int (own_past 0 p1)), .unset, .unset] [])) (fun t hr => XS.icmpYes X_4.here hx rfl (pc0 := 16) (pc' := 23) rfl (hb hby at_16) rfl (XT.ii_le_t hc6) (by decide) (by decide) hr) ?_
    refine Go.st (S' := T_4.setTop (mkF m 24 #[.val (.int p1), .val (.ref ad_1), .val (.int (own_past 0 p1)), .unset, .unset] [(.int (0 : Int32))])) (fun t hr => XS.iconst X_4.here hx rfl (hb hby at_23) hr) ?_
    refine Go.st (S' := T_4.setTop (mkF m 25 #[.val (.int p1), .val (.ref ad_1), .val (.int (own_past 0 p1)), .val (.int (0 : Int32)), .unset] [])) (fun t hr => XS.istoreN X_4.here hx rfl (hb hby at_24) rfl (l' := #[.val (.int p1), .val (.ref ad_1), .val (.int (own_past 0 p1)), .val (.int (0 : Int32)), .unset]) rfl hr) ?_
    refine Go.st (S' := T_4.setTop (mkF m 26 #[.val (.int p1), .val (.ref ad_1), .val (.int (own_past 0 p1)), .val (.int (0 : Int32)), .unset] [(.ref ad_1)])) (fun t hr => XS.aloadN X_4.here hx rfl (hb hby at_25) rfl rfl hr) ?_
    obtain ⟨v_9, T_9, h_9, L_9, X_9, e_9, Q_9, st_9⟩ := own_callV X_4 hx hZ (C := "com/example/uniform_parser/uniformparser/core/Bytes") (y := ⟨"com/example/uniform_parser/uniformparser/core/Bytes", "isPastMost", "()Z"⟩) (z := ⟨"com/example/uniform_parser/uniformparser/core/Bytes", "isPastMost", "()Z"⟩) hown (hw _ (List.mem_of_getElem? (i := 42) rfl)) (hw _ (List.mem_of_getElem? (i := 43) rfl)) (hw _ (List.mem_of_getElem? (i := 45) rfl)) (hw _ (List.mem_of_getElem? (i := 45) rfl)) (hw _ (List.mem_of_getElem? (i := 44) rfl)) (hw _ (List.mem_of_getElem? (i := 2) rfl)) (hw _ (List.mem_of_getElem? (i := 46) rfl)) (by decide) e_4 (a := ad_1) F_5 (argsL := []) (rest := []) (rmP l Z a0 hw ad_1 h_2 n0 (by omega) p1 0 G1_2 G2_2) (g := (mkF m 26 #[.val (.int p1), .val (.ref ad_1), .val (.int (own_past 0 p1)), .val (.int (0 : Int32)), .unset] [(.ref ad_1)])) rfl (by rw [hml]; rfl) (lenOf pd_3 rfl) rfl (hb hby at_26) (W := 0) (by show 2 * 0 + _ ≤ _; exact Nat.le_of_eq rfl) (by decide) (by decide) (by decide) (by decide)
    obtain ⟨rfl, N_9, hh_9⟩ := Q_9
    have N_9' := Fr.app N_4' N_9
    rw [hh_9] at e_9
    refine Go.st (S' := T_9.setTop (mkF m 29 #[.val (.int p1), .val (.ref ad_1), .val (.int (own_past 0 p1)), .val (.int (0 : Int32)), .unset] [(.int (own_past 0 p1))])) st_9 ?_
    refine Go.st (S' := T_9.setTop (mkF m 31 #[.val (.int p1), .val (.ref ad_1), .val (.int (own_past 0 p1)), .val (.int (0 : Int32)), .val (.int (own_past 0 p1))] [])) (fun t hr => XS.istore X_9.here hx rfl (hb hby at_29) rfl (l' := #[.val (.int p1), .val (.ref ad_1), .val (.int (own_past 0 p1)), .val (.int (0 : Int32)), .val (.int (own_past 0 p1))]) rfl hr) ?_
    refine Go.st (S' := T_9.setTop (mkF m 32 #[.val (.int p1), .val (.ref ad_1), .val (.int (own_past 0 p1)), .val (.int (0 : Int32)), .val (.int (own_past 0 p1))] [(.int (own_past 0 p1))])) (fun t hr => XS.iloadN X_9.here hx rfl (hb hby at_31) rfl hr) ?_
    refine Go.st (S' := T_9.setTop (mkF m 33 #[.val (.int p1), .val (.ref ad_1), .val (.int (own_past 0 p1)), .val (.int (0 : Int32)), .val (.int (own_past 0 p1))] [(.int (0 : Int32)), (.int (own_past 0 p1))])) (fun t hr => XS.iloadN X_9.here hx rfl (hb hby at_32) rfl hr) ?_
    have hq33 : own_past 0 p1 = (0 : Int32) := by rw [own_past, if_neg hc6]
    refine Go.st (S' := T_9.setTop (mkF m 36 #[.val (.int p1), .val (.ref ad_1), .val (.int (own_past 0 p1)), .val (.int (0 : Int32)), .val (.int (own_past 0 p1))] [])) (fun t hr => XS.icmpNo X_9.here hx rfl (hb hby at_33) rfl (XT.ii_ne_f hq33) hr) ?_
    refine Go.st (S' := T_9.setTop (mkF m 38 #[.val (.int p1), .val (.ref ad_1), .val (.int (own_past 0 p1)), .val (.int (0 : Int32)), .val (.int (own_past 0 p1))] [(.int (own_past 0 p1))])) (fun t hr => XS.iload X_9.here hx rfl (hb hby at_36) rfl hr) ?_
    refine Go.st (S' := T_9.setTop (mkF m 39 #[.val (.int p1), .val (.ref ad_1), .val (.int (own_past 0 p1)), .val (.int (0 : Int32)), .val (.int (own_past 0 p1))] [(.int (own_past 0 p1)), (.int (own_past 0 p1))])) (fun t hr => XS.iloadN X_9.here hx rfl (hb hby at_38) rfl hr) ?_
    refine Go.st (S' := T_9.setTop (mkF m 42 #[.val (.int p1), .val (.ref ad_1), .val (.int (own_past 0 p1)), .val (.int (0 : Int32)), .val (.int (own_past 0 p1))] [])) (fun t hr => XS.icmpNo X_9.here hx rfl (hb hby at_39) rfl (XT.ii_ne_f rfl) hr) ?_
    refine Go.st (S' := T_9.setTop (mkF m 43 #[.val (.int p1), .val (.ref ad_1), .val (.int (own_past 0 p1)), .val (.int (0 : Int32)), .val (.int (own_past 0 p1))] [(.ref ad_1)])) (fun t hr => XS.aloadN X_9.here hx rfl (hb hby at_42) rfl rfl hr) ?_
    obtain ⟨v_10, T_10, h_10, L_10, X_10, e_10, Q_10, st_10⟩ := own_callV X_9 hx hZ (C := "com/example/uniform_parser/uniformparser/core/Bytes") (y := ⟨"com/example/uniform_parser/uniformparser/core/Bytes", "length", "()I"⟩) (z := ⟨"com/example/uniform_parser/uniformparser/core/Bytes", "length", "()I"⟩) hown (hw _ (List.mem_of_getElem? (i := 49) rfl)) (hw _ (List.mem_of_getElem? (i := 50) rfl)) (hw _ (List.mem_of_getElem? (i := 52) rfl)) (hw _ (List.mem_of_getElem? (i := 52) rfl)) (hw _ (List.mem_of_getElem? (i := 51) rfl)) (hw _ (List.mem_of_getElem? (i := 2) rfl)) (hw _ (List.mem_of_getElem? (i := 53) rfl)) (by decide) e_9 (a := ad_1) F_5 (argsL := []) (rest := []) (rmL l Z a0 hw ad_1 h_2 n0 (by omega) p1 0 G1_2 G2_2) (g := (mkF m 43 #[.val (.int p1), .val (.ref ad_1), .val (.int (own_past 0 p1)), .val (.int (0 : Int32)), .val (.int (own_past 0 p1))] [(.ref ad_1)])) rfl (by rw [hml]; rfl) (lenOf pd_4 rfl) rfl (hb hby at_43) (W := 0) (by show 2 * 0 + _ ≤ _; exact Nat.le_of_eq rfl) (by decide) (by decide) (by decide) (by decide)
    obtain ⟨rfl, N_10, hh_10⟩ := Q_10
    have N_10' := Fr.app N_9' N_10
    rw [hh_10] at e_10
    refine Go.st (S' := T_10.setTop (mkF m 46 #[.val (.int p1), .val (.ref ad_1), .val (.int (own_past 0 p1)), .val (.int (0 : Int32)), .val (.int (own_past 0 p1))] [(.int (0 : Int32))])) st_10 ?_
    refine Go.st (S' := T_10.setTop (mkF m 49 #[.val (.int p1), .val (.ref ad_1), .val (.int (own_past 0 p1)), .val (.int (0 : Int32)), .val (.int (own_past 0 p1))] [])) (fun t hr => XS.ifNo X_10.here hx rfl (hb hby at_46) rfl (XT.i0_ne_f (by decide)) hr) ?_
    refine Go.st (S' := T_10.setTop (mkF m 50 #[.val (.int p1), .val (.ref ad_1), .val (.int (own_past 0 p1)), .val (.int (0 : Int32)), .val (.int (own_past 0 p1))] [(.int (1 : Int32))])) (fun t hr => XS.iconst X_10.here hx rfl (hb hby at_49) hr) ?_
    refine Go.st (S' := T_10.setTop (mkF m 54 #[.val (.int p1), .val (.ref ad_1), .val (.int (own_past 0 p1)), .val (.int (0 : Int32)), .val (.int (own_past 0 p1))] [(.int (1 : Int32))])) (fun t hr => XS.goto X_10.here hx rfl (pc0 := 50) (pc' := 54) rfl (hb hby at_50) (by decide) (by decide) hr) ?_
    refine Go.retN X_10 hx hlk (t := .boolean) hret (by simp) (hb hby at_54) (by decide) (by decide) ?_
    try rw [e_10]
    exact ⟨rfl, N_10'⟩
set_option maxRecDepth 65536 in
set_option maxHeartbeats 4000000 in
theorem comes_1 {Post : Tables → Env → Array Value → State → Outcome → State → Prop} (hpost : ∀ tb e args s v u, (limb_1_1.after args s (.returned v) u = true ∧ limb_1_2.after args s (.returned v) u = true ∧ True) → FrameEnd s (.returned v) u (Jvm.fieldLocs frame_1_writes args s ++ Jvm.arrayLocs frame_1_arrays args s ++ Jvm.staticLocs frame_1_statics s) 16 128 → Post tb e args s (.returned v) u) :
    ArmFor flags0 classFile x code maxLocals ret World_1 tables_1 room_1 Calls_1 rest_1 Pre_1 Post := by
  intro l hfl _ _ p e ha hc hk s m args below hf hA hF happ hP
  obtain ⟨hcalls, hrest, hpre⟩ := hP
  obtain ⟨-, -, -, hnamed, -, -, -, hat⟩ := (Spec.applies_iff hf).mp happ
  obtain ⟨hg, hn⟩ := and_e (Cond.before_iff.mp (show (Jvm.Cond.and given_1 narrow_1).before args s = true from hpre))
  obtain ⟨hcnt, gg0⟩ := and_e hg
  obtain ⟨w0, rfl⟩ : ∃ w0 : Value, args = #[w0] := by
    have hs : args.size = 1 := by simpa [Cond.value, given_1] using hcnt
    obtain ⟨L⟩ := args
    match L, hs with
    | [w0], _ => exact ⟨w0, rfl⟩
  have hw := fun d (hd : d ∈ tables_1) => atoms_spec (ws := Jvm.Cond.code x code maxLocals ret :: tables_1) hat d (List.mem_cons_of_mem _ hd)
  obtain ⟨hsets, hown0⟩ := atoms_of _ (rest_1_c_eq ▸ (show rest_1_c.before _ s = true from hrest))
  have hr0 := Cond.before_iff.mp hown0
  have hfit : Fit s := fun {y c} hc i hi => by
    obtain ⟨ha, rfl⟩ := Array.getElem?_eq_some_iff.mp hc
    have q := List.all_eq_true.mp ((Array.all_eq_true_iff_forall_mem.mp hF) _ (Array.getElem_mem ha)) i (List.mem_range.mpr hi)
    simpa [Array.getElem?_eq_getElem hi] using q
  obtain ⟨i0, ev0⟩ := is_v gg0
  obtain rfl : w0 = (.int i0) := Option.some.inj ev0
  obtain ⟨vd, evd, rd⟩ := own_sref hfit (hsets _ (List.mem_of_getElem? (i := 2) rfl)) (ty := .array (.object "java/lang/Object")) (by decide) rfl
  have SD : Sta s s.heap "java/util/ArrayList" "DEFAULTCAPACITY_EMPTY_ELEMENTDATA" "[Ljava/lang/Object;" vd := Sta.start evd (Or.inr ⟨(hw _ (List.mem_of_getElem? (i := 14) rfl)), hsets _ (List.mem_of_getElem? (i := 2) rfl)⟩)
  obtain ⟨n, o, h1, h2, h3, _, L, rfl, ⟨rfl, N⟩, hq⟩ := rm0 l s _ hw i0 s.heap s.heap.size (Nat.le_refl _) vd rd (Old.start s) SD tables_1 p e ha hc hk s m _ below hf ((Spec.applies_iff_loose hf).mp happ).1 ⟨rfl, State.Warmed39.refl s, rfl⟩ trivial
  refine ⟨n, _, h1, h2, h3, hpost _ _ _ _ _ _ ⟨Cond.after_iff.mpr rfl, Cond.after_iff.mpr (eq_i res_at (Term.int_eval (1)) rfl), trivial⟩ ⟨hq.1, hq.2.1, (hq.2.2.sift fun y hy => Or.inr (N y hy)).mono (by decide) (by decide)⟩⟩
theorem main_1_1 : Claimed_1_1 := comes_1 fun _ _ _ _ _ _ h hF => ⟨h.1, hF⟩
theorem main_1_2 : Claimed_1_2 := comes_1 fun _ _ _ _ _ _ h hF => ⟨h.2.1, hF⟩
end Jvm.Pilot.@@N@@
namespace Jvm.Pilot.@@N@@
open Jvm Jvm.ClassFile Sem Op Lib Jvm.Free Jvm.Stand Jvm.Pilot.@@N@@.Jvm.D
/-! MADE BY PROGRAM (witnessworld.py) out of the Statement's table words and the real class files: 18 classes; the members and pool entries that the words name. The judged class is class 1, her method 1. -/
namespace start1
open Jvm.ClassFile
def u (s : String) : CpInfo := .utf8 (stringToUtf16 s)
/-- a pool by its gaps: so many unusable entries, then the entry; so many at the end -/
def gap : Nat → List CpInfo → List CpInfo
  | 0, r => r
  | n + 1, r => .unusable :: gap n r
def poolList (es : List (Nat × CpInfo)) (last : Nat) : List CpInfo := es.foldr (fun e r => gap e.1 (e.2 :: r)) (gap last [])
def pool (es : List (Nat × CpInfo)) (last : Nat) : Array CpInfo := ⟨poolList es last⟩
def fileOf (pool : Array CpInfo) (this : Nat) (attrs : Array Attribute := #[]) (ms : Array MethodInfo := #[]) (fl : Nat := 33) (sup : Nat := 0) (ifs : Array Nat := #[]) (fds : Array FieldInfo := #[]) : ClassFile where
  minorVersion := 0
  majorVersion := 65
  constantPool := pool
  accessFlags := fl
  thisClass := this
  superClass := sup
  interfaces := ifs
  fields := fds
  methods := ms
  attributes := attrs
def plain (name : String) (sup : Option ClassId) : Class where
  name := name
  kind := .ordinary
  loader := none
  accessFlags := 33
  super := sup
  interfaces := #[]
  cf := none
  fields := #[]
  methods := #[]
  instanceTypes := #[]
  staticTypes := #[]
  resolved := #[]
  callSites := []
  init := .initialized
  statics := none
  mirror := none

def pool0 : Array CpInfo := pool [(5, u "<init>"), (0, u "()V"), (1, .class_ 10), (1, u "java/lang/Object")] 113

def k0c0 : Code := { maxStack := 0, maxLocals := 1, code := object_method_1_code, exceptionTable := #[], attributes := #[] }
def k0m0 : Method := { name := "<init>", desc := "()V", sig := { parameters := [], returnType := none }, accessFlags := 1, code := some k0c0 }
/-- java/lang/Object -/
def k0 : Class := { plain "java/lang/Object" none with
  accessFlags := 33
  interfaces := #[]
  cf := some (fileOf pool0 8 #[] #[{ accessFlags := 1, nameIndex := 5, descriptorIndex := 6, attributes := #[] }] 33 0 #[] #[])
  fields := #[]
  methods := #[k0m0]
  instanceTypes := #[]
  staticTypes := #[]
  resolved := Array.replicate 124 none
  statics := none }

def pool1 : Array CpInfo := pool [(2, .class_ 4), (1, u "java/lang/Object"), (0, u "<init>"), (0, u "()V"), (0, .class_ 8), (0, u "com/example/uniform_parser/uniformparser/core/Bytes"), (0, .methodref 7 10), (0, .nameAndType 5 11), (0, u "(I)V"), (0, .methodref 7 13), (0, .nameAndType 14 15), (0, u "isPastMost"), (0, u "()Z"), (0, .methodref 7 17), (0, .nameAndType 18 19), (0, u "length"), (0, u "()I"), (0, .class_ 21), (0, u "com/example/uniform_parser/uniformparser/core/BytesIsPastMostPinLaw"), (2, u "law"), (0, u "(I)Z")] 3

def k1m0 : Method := { name := "<init>", desc := "()V", sig := { parameters := [], returnType := none }, accessFlags := 2, code := none }
def k1c1 : Code := { maxStack := 3, maxLocals := 5, code := code, exceptionTable := #[], attributes := #[] }
def k1m1 : Method := { name := "law", desc := "(I)Z", sig := { parameters := [.int], returnType := some .boolean }, accessFlags := 9, code := some k1c1 }
/-- com/example/uniform_parser/uniformparser/core/BytesIsPastMostPinLaw -/
def k1 : Class := { plain "com/example/uniform_parser/uniformparser/core/BytesIsPastMostPinLaw" (some 0) with
  accessFlags := 49
  interfaces := #[]
  cf := some (fileOf pool1 20 #[] #[{ accessFlags := 2, nameIndex := 5, descriptorIndex := 6, attributes := #[] }, { accessFlags := 9, nameIndex := 24, descriptorIndex := 25, attributes := #[] }] 49 2 #[] #[])
  fields := #[]
  methods := #[k1m0, k1m1]
  instanceTypes := #[]
  staticTypes := #[]
  resolved := Array.replicate 29 none
  statics := none }

def pool2 : Array CpInfo := pool [(1, .class_ 2), (0, u "com/example/uniform_parser/uniformparser/core/Bytes"), (0, .methodref 1 4), (0, .nameAndType 5 6), (0, u "<init>"), (0, u "(II)V"), (0, .methodref 8 9), (0, .class_ 10), (0, .nameAndType 5 11), (0, u "java/lang/Object"), (0, u "()V"), (0, .class_ 13), (0, u "java/util/ArrayList"), (0, .methodref 12 9), (0, .fieldref 1 16), (0, .nameAndType 17 18), (0, u "pieces"), (0, u "Ljava/util/List;"), (0, .fieldref 1 20), (0, .nameAndType 21 22), (0, u "most"), (0, u "I"), (0, .fieldref 1 24), (0, .nameAndType 25 22), (0, u "first"), (13, u "isPastMost"), (0, u "()Z"), (6, u "filled"), (16, u "(I)V"), (8, u "()I"), (6, .fieldref 1 81), (0, .nameAndType 82 22), (0, u "length"), (5, .class_ 90), (1, u "com/example/uniform_parser/uniformparser/core/Bytes$Stream"), (54, u "FIRST_PIECE"), (2, u "PIECE")] 19

def k2c0 : Code := { maxStack := 3, maxLocals := 2, code := prog_26_method_1_code, exceptionTable := #[], attributes := #[] }
def k2m0 : Method := { name := "<init>", desc := "(I)V", sig := { parameters := [.int], returnType := none }, accessFlags := 0, code := some k2c0 }
def k2c1 : Code := { maxStack := 3, maxLocals := 3, code := prog_26_method_2_code, exceptionTable := #[], attributes := #[] }
def k2m1 : Method := { name := "<init>", desc := "(II)V", sig := { parameters := [.int, .int], returnType := none }, accessFlags := 2, code := some k2c1 }
def k2c2 : Code := { maxStack := 2, maxLocals := 1, code := prog_26_method_5_code, exceptionTable := #[], attributes := #[] }
def k2m2 : Method := { name := "isPastMost", desc := "()Z", sig := { parameters := [], returnType := some .boolean }, accessFlags := 0, code := some k2c2 }
def k2c3 : Code := { maxStack := 1, maxLocals := 1, code := prog_26_method_6_code, exceptionTable := #[], attributes := #[] }
def k2m3 : Method := { name := "length", desc := "()I", sig := { parameters := [], returnType := some .int }, accessFlags := 0, code := some k2c3 }
/-- com/example/uniform_parser/uniformparser/core/Bytes -/
def k2 : Class := { plain "com/example/uniform_parser/uniformparser/core/Bytes" (some 0) with
  accessFlags := 48
  interfaces := #[]
  cf := some (fileOf pool2 1 #[.nestMembers #[88]] #[{ accessFlags := 0, nameIndex := 5, descriptorIndex := 64, attributes := #[] }, { accessFlags := 2, nameIndex := 5, descriptorIndex := 6, attributes := #[] }, { accessFlags := 0, nameIndex := 39, descriptorIndex := 40, attributes := #[] }, { accessFlags := 0, nameIndex := 82, descriptorIndex := 73, attributes := #[] }] 48 8 #[] #[{ accessFlags := 26, nameIndex := 145, descriptorIndex := 22, attributes := #[] }, { accessFlags := 26, nameIndex := 148, descriptorIndex := 22, attributes := #[] }, { accessFlags := 18, nameIndex := 21, descriptorIndex := 22, attributes := #[] }, { accessFlags := 18, nameIndex := 17, descriptorIndex := 18, attributes := #[] }, { accessFlags := 18, nameIndex := 25, descriptorIndex := 22, attributes := #[] }, { accessFlags := 2, nameIndex := 82, descriptorIndex := 22, attributes := #[] }, { accessFlags := 2, nameIndex := 47, descriptorIndex := 22, attributes := #[] }])
  fields := #[{ name := "FIRST_PIECE", type := .int, accessFlags := 26, slot := 0, constantValue := 0 }, { name := "PIECE", type := .int, accessFlags := 26, slot := 1, constantValue := 0 }, { name := "most", type := .int, accessFlags := 18, slot := 0, constantValue := 0 }, { name := "pieces", type := (.object "java/util/List"), accessFlags := 18, slot := 1, constantValue := 0 }, { name := "first", type := .int, accessFlags := 18, slot := 2, constantValue := 0 }, { name := "length", type := .int, accessFlags := 2, slot := 3, constantValue := 0 }, { name := "filled", type := .int, accessFlags := 2, slot := 4, constantValue := 0 }]
  methods := #[k2m0, k2m1, k2m2, k2m3]
  instanceTypes := #[.int, (.object "java/util/List"), .int, .int, .int]
  staticTypes := #[.int, .int]
  resolved := Array.replicate 168 none
  statics := none }

def pool3 : Array CpInfo := pool [(8, .class_ 10), (1, u "java/lang/Iterable"), (24, .class_ 36), (0, u "java/lang/Object")] 25

/-- java/lang/Iterable -/
def k3 : Class := { plain "java/lang/Iterable" (some 0) with
  accessFlags := 1537
  interfaces := #[]
  cf := some (fileOf pool3 8 #[] #[] 1537 35 #[] #[])
  fields := #[]
  methods := #[]
  instanceTypes := #[]
  staticTypes := #[]
  resolved := Array.replicate 62 none
  statics := none }

def pool4 : Array CpInfo := pool [(10, .class_ 12), (1, u "java/util/Collection"), (47, .class_ 61), (0, u "java/lang/Object"), (0, .class_ 63), (0, u "java/lang/Iterable")] 51

/-- java/util/Collection -/
def k4 : Class := { plain "java/util/Collection" (some 0) with
  accessFlags := 1537
  interfaces := #[3]
  cf := some (fileOf pool4 10 #[] #[] 1537 60 #[62] #[])
  fields := #[]
  methods := #[]
  instanceTypes := #[]
  staticTypes := #[]
  resolved := Array.replicate 115 none
  statics := none }

def pool5 : Array CpInfo := pool [(1, .methodref 2 3), (0, .class_ 4), (0, .nameAndType 5 6), (0, u "java/lang/Object"), (0, u "<init>"), (0, u "()V"), (1, .class_ 10), (1, u "java/util/AbstractCollection"), (66, .class_ 78), (0, u "java/util/Collection")] 81

def k5c0 : Code := { maxStack := 1, maxLocals := 1, code := jdk_22_method_1_code, exceptionTable := #[], attributes := #[] }
def k5m0 : Method := { name := "<init>", desc := "()V", sig := { parameters := [], returnType := none }, accessFlags := 4, code := some k5c0 }
/-- java/util/AbstractCollection -/
def k5 : Class := { plain "java/util/AbstractCollection" (some 0) with
  accessFlags := 1057
  interfaces := #[4]
  cf := some (fileOf pool5 8 #[] #[{ accessFlags := 4, nameIndex := 5, descriptorIndex := 6, attributes := #[] }] 1057 2 #[77] #[])
  fields := #[]
  methods := #[k5m0]
  instanceTypes := #[]
  staticTypes := #[]
  resolved := Array.replicate 160 none
  statics := none }

def pool6 : Array CpInfo := pool [(8, .class_ 10), (1, u "java/util/SequencedCollection"), (15, .class_ 27), (0, u "java/lang/Object"), (0, .class_ 29), (0, u "java/util/Collection")] 27

/-- java/util/SequencedCollection -/
def k6 : Class := { plain "java/util/SequencedCollection" (some 0) with
  accessFlags := 1537
  interfaces := #[4]
  cf := some (fileOf pool6 8 #[] #[] 1537 26 #[28] #[])
  fields := #[]
  methods := #[]
  instanceTypes := #[]
  staticTypes := #[]
  resolved := Array.replicate 57 none
  statics := none }

def pool7 : Array CpInfo := pool [(8, .class_ 10), (1, u "java/util/List"), (92, .class_ 104), (0, u "java/lang/Object"), (15, .class_ 121), (0, u "java/util/SequencedCollection")] 129

/-- java/util/List -/
def k7 : Class := { plain "java/util/List" (some 0) with
  accessFlags := 1537
  interfaces := #[6]
  cf := some (fileOf pool7 8 #[] #[] 1537 103 #[120] #[])
  fields := #[]
  methods := #[]
  instanceTypes := #[]
  staticTypes := #[]
  resolved := Array.replicate 251 none
  statics := none }

def pool8 : Array CpInfo := pool [(1, .methodref 2 3), (0, .class_ 4), (0, .nameAndType 5 6), (0, u "java/util/AbstractCollection"), (0, u "<init>"), (0, u "()V"), (0, .fieldref 8 9), (0, .class_ 10), (0, .nameAndType 11 12), (0, u "java/util/AbstractList"), (0, u "modCount"), (0, u "I"), (64, .class_ 78), (0, u "java/util/AbstractList$Itr"), (3, .class_ 83), (0, u "java/util/AbstractList$ListItr"), (9, .class_ 94), (0, u "java/util/AbstractList$RandomAccessSubList"), (3, .class_ 99), (0, u "java/util/AbstractList$SubList"), (33, .class_ 134), (0, u "java/util/List"), (73, .class_ 209), (0, u "java/util/AbstractList$SubList$1"), (0, .class_ 211), (0, u "java/util/AbstractList$RandomAccessSpliterator")] 6

def k8c0 : Code := { maxStack := 2, maxLocals := 1, code := jdk_39_method_1_code, exceptionTable := #[], attributes := #[] }
def k8m0 : Method := { name := "<init>", desc := "()V", sig := { parameters := [], returnType := none }, accessFlags := 4, code := some k8c0 }
/-- java/util/AbstractList -/
def k8 : Class := { plain "java/util/AbstractList" (some 5) with
  accessFlags := 1057
  interfaces := #[7]
  cf := some (fileOf pool8 8 #[.nestMembers #[93, 98, 208, 210, 82, 77]] #[{ accessFlags := 4, nameIndex := 5, descriptorIndex := 6, attributes := #[] }] 1057 2 #[133] #[{ accessFlags := 132, nameIndex := 11, descriptorIndex := 12, attributes := #[] }])
  fields := #[{ name := "modCount", type := .int, accessFlags := 132, slot := 0, constantValue := 0 }]
  methods := #[k8m0]
  instanceTypes := #[.int]
  staticTypes := #[]
  resolved := Array.replicate 218 none
  statics := none }

def pool9 : Array CpInfo := pool [(1, .class_ 2), (0, u "java/util/RandomAccess"), (0, .class_ 4), (0, u "java/lang/Object")] 2

/-- java/util/RandomAccess -/
def k9 : Class := { plain "java/util/RandomAccess" (some 0) with
  accessFlags := 1537
  interfaces := #[]
  cf := some (fileOf pool9 1 #[] #[] 1537 3 #[] #[])
  fields := #[]
  methods := #[]
  instanceTypes := #[]
  staticTypes := #[]
  resolved := Array.replicate 7 none
  statics := none }

def pool10 : Array CpInfo := pool [(1, .class_ 2), (0, u "java/lang/Cloneable"), (0, .class_ 4), (0, u "java/lang/Object")] 2

/-- java/lang/Cloneable -/
def k10 : Class := { plain "java/lang/Cloneable" (some 0) with
  accessFlags := 1537
  interfaces := #[]
  cf := some (fileOf pool10 1 #[] #[] 1537 3 #[] #[])
  fields := #[]
  methods := #[]
  instanceTypes := #[]
  staticTypes := #[]
  resolved := Array.replicate 7 none
  statics := none }

def pool11 : Array CpInfo := pool [(1, .class_ 2), (0, u "java/io/Serializable"), (0, .class_ 4), (0, u "java/lang/Object")] 2

/-- java/io/Serializable -/
def k11 : Class := { plain "java/io/Serializable" (some 0) with
  accessFlags := 1537
  interfaces := #[]
  cf := some (fileOf pool11 1 #[] #[] 1537 3 #[] #[])
  fields := #[]
  methods := #[]
  instanceTypes := #[]
  staticTypes := #[]
  resolved := Array.replicate 7 none
  statics := none }

def pool12 : Array CpInfo := pool [(1, .methodref 2 3), (0, .class_ 4), (0, .nameAndType 5 6), (0, u "java/util/AbstractList"), (0, u "<init>"), (0, u "()V"), (2, .fieldref 10 11), (0, .class_ 12), (0, .nameAndType 13 14), (0, u "java/util/ArrayList"), (0, u "elementData"), (0, u "[Ljava/lang/Object;"), (2, u "EMPTY_ELEMENTDATA"), (21, .fieldref 10 40), (0, .nameAndType 41 14), (0, u "DEFAULTCAPACITY_EMPTY_ELEMENTDATA"), (8, u "size"), (0, u "I"), (96, .class_ 149), (0, u "java/util/List"), (112, .class_ 263), (0, u "java/util/ArrayList$ListItr"), (3, .class_ 268), (0, u "java/util/ArrayList$Itr"), (7, .class_ 277), (0, u "java/util/ArrayList$SubList"), (12, .class_ 291), (0, u "java/util/ArrayList$ArrayListSpliterator"), (37, .class_ 330), (0, u "java/util/RandomAccess"), (0, .class_ 332), (0, u "java/lang/Cloneable"), (0, .class_ 334), (0, u "java/io/Serializable"), (0, u "serialVersionUID"), (0, u "J"), (3, u "DEFAULT_CAPACITY"), (159, .class_ 501), (0, u "java/util/ArrayList$SubList$2"), (0, .class_ 503), (0, u "java/util/ArrayList$SubList$1")] 5

def k12c0 : Code := { maxStack := 2, maxLocals := 1, code := jdk_38_method_2_code, exceptionTable := #[], attributes := #[] }
def k12m0 : Method := { name := "<init>", desc := "()V", sig := { parameters := [], returnType := none }, accessFlags := 1, code := some k12c0 }
/-- java/util/ArrayList -/
def k12 : Class := { plain "java/util/ArrayList" (some 8) with
  accessFlags := 33
  interfaces := #[7, 9, 10, 11]
  cf := some (fileOf pool12 10 #[.nestMembers #[290, 276, 500, 502, 262, 267]] #[{ accessFlags := 1, nameIndex := 5, descriptorIndex := 6, attributes := #[] }] 33 2 #[148, 329, 331, 333] #[{ accessFlags := 26, nameIndex := 335, descriptorIndex := 336, attributes := #[] }, { accessFlags := 26, nameIndex := 340, descriptorIndex := 51, attributes := #[] }, { accessFlags := 26, nameIndex := 17, descriptorIndex := 14, attributes := #[] }, { accessFlags := 26, nameIndex := 41, descriptorIndex := 14, attributes := #[] }, { accessFlags := 128, nameIndex := 13, descriptorIndex := 14, attributes := #[] }, { accessFlags := 2, nameIndex := 50, descriptorIndex := 51, attributes := #[] }])
  fields := #[{ name := "serialVersionUID", type := .long, accessFlags := 26, slot := 0, constantValue := 0 }, { name := "DEFAULT_CAPACITY", type := .int, accessFlags := 26, slot := 1, constantValue := 0 }, { name := "EMPTY_ELEMENTDATA", type := (.array (.object "java/lang/Object")), accessFlags := 26, slot := 2, constantValue := 0 }, { name := "DEFAULTCAPACITY_EMPTY_ELEMENTDATA", type := (.array (.object "java/lang/Object")), accessFlags := 26, slot := 3, constantValue := 0 }, { name := "elementData", type := (.array (.object "java/lang/Object")), accessFlags := 128, slot := 1, constantValue := 0 }, { name := "size", type := .int, accessFlags := 2, slot := 2, constantValue := 0 }]
  methods := #[k12m0]
  instanceTypes := #[.int, (.array (.object "java/lang/Object")), .int]
  staticTypes := #[.long, .int, (.array (.object "java/lang/Object")), (.array (.object "java/lang/Object"))]
  resolved := Array.replicate 509 none
  statics := some 0 }

/-- the primitive byte -/
def k13 : Class := { plain "byte" none with kind := .primitive 'B', accessFlags := 0x411 }
/-- [B -/
def k14 : Class := { plain "[B" (some 0) with kind := .array 13 .byte, interfaces := #[10, 11], accessFlags := 1041 }

/-- the primitive int -/
def k15 : Class := { plain "int" none with kind := .primitive 'I', accessFlags := 0x411 }
/-- [I -/
def k16 : Class := { plain "[I" (some 0) with kind := .array 15 .int, interfaces := #[10, 11], accessFlags := 1041 }

/-- [Ljava/lang/Object; -/
def k17 : Class := { plain "[Ljava/lang/Object;" (some 0) with kind := .array 0 (.object "java/lang/Object"), interfaces := #[10, 11], accessFlags := 1041 }

def heap : Heap := #[{ cls := 12, slots := #[.long 0, .int 0, .ref 1, .ref 2], vm := .statics 12 },
  { cls := 17, slots := #[], vm := .none },
  { cls := 17, slots := #[], vm := .none }]
def classes : Array Class := #[k0, k1, k2, k3, k4, k5, k6, k7, k8, k9, k10, k11, k12, k13, k14, k15, k16, k17]
def interned : List (Array UInt16 × Addr) := []
def slotsUsed : Nat := 4
def theMethod : MethodId := ⟨1, 1⟩
def args0 : Array Value := #[.int 5]
def aboutOver (below : List Frame) : State where
  vm := { classes := classes, interned := interned.toArray }
  heap := heap
  slotsUsed := slotsUsed
  threads := #[{ frames := .invoking theMethod args0 :: below }]
def below0 : List Frame := [.native { method := ⟨0, 0⟩, args := #[] }]
def about1 : State := aboutOver below0
def p0 : Program := .bare "" "" ""
def e0 : Env := launch0.env 0 0 0
theorem w_frames : about1.frames = Frame.invoking theMethod args0 :: below0 := rfl
set_option maxRecDepth 65536 in
theorem w_args : argsFit about1.vm theMethod args0 = true := by decide +kernel
set_option maxRecDepth 65536 in
theorem w_heap : heapFits about1 = true := by decide +kernel
set_option maxRecDepth 65536 in
theorem w_runnable : about1.curStatus? = some .runnable := by decide +kernel
set_option maxRecDepth 65536 in
theorem w_alone : about1.alone = true := by decide +kernel
set_option maxRecDepth 65536 in
theorem w_named : about1.methodNamed? x = some theMethod := by decide +kernel
set_option maxRecDepth 65536 in
theorem w_hears : about1.hears theMethod below0 = true := by decide +kernel
set_option maxRecDepth 65536 in
theorem w_ripe : about1.ripe theMethod args0 below0 = true := by decide +kernel
theorem w_running : about1.status = .running := rfl
set_option maxRecDepth 65536 in
theorem w_room : about1.hasRoom e0.platform room_1 = true :=
  launch0.hasRoom_least _ room_1 (by decide +kernel) (by decide +kernel) (by decide +kernel) (by decide +kernel) (by decide +kernel) (by decide +kernel)
theorem allAtoms_all (ts : List Jvm.Cond) (a : Array Jvm.Value) (st : Jvm.State) : (allAtoms ts).before a st = ts.all (fun c => c.before a st) := by
  induction ts with
  | nil => rfl
  | cons c t ih =>
    show (Jvm.Cond.and c (allAtoms t)).before a st = _
    rw [Jvm.Cond.before_and, ih, List.all_cons]
def words1 : List Jvm.Cond := Jvm.Cond.code x code maxLocals ret :: tables_1
/-- a 'code' word, met by the world's own term for the bytes: nothing is compared byte by byte -/
theorem code_word {y : MethodName} {bytes : ByteArray} {mx : Nat} {rt : Option FieldType} {a : Array Value} {s : State} {m : MethodId} {meth : Method} {c : Code} (h1 : s.methodNamed? y = some m) (h2 : s.vm.method? m = some meth) (h3 : meth.code = some c) (h4 : c.code = bytes)
    (h5 : (c.maxLocals == mx && c.exceptionTable.isEmpty && decide (c.maxStack ≤ mostOperands) && decide (meth.sig.returnType = rt) && !meth.locks && decide (parseMethodDescriptor y.desc = some meth.sig)) = true) : (Jvm.Cond.code y bytes mx rt).before a s = true := by
  simp only [Bool.and_eq_true, beq_iff_eq, Bool.not_eq_true', decide_eq_true_eq] at h5
  obtain ⟨⟨⟨⟨⟨g1, g2⟩, g3⟩, g4⟩, g5⟩, g6⟩ := h5
  simp [Cond.before, Cond.holds, Cond.value, h1, h2, h3, h4, g1, g2, g3, g4, g5, g6]
def isCode : Jvm.Cond → Bool
  | .code _ _ _ _ => true
  | _ => false
theorem all_split {L : List Jvm.Cond} {P : Jvm.Cond → Bool} (h1 : L.all (fun c => isCode c || P c) = true) (h2 : ∀ c ∈ L.filter isCode, P c = true) : L.all P = true := by
  refine List.all_eq_true.mpr fun c hc => ?_
  have h := List.all_eq_true.mp h1 c hc
  rcases Bool.eq_false_or_eq_true (isCode c) with hi | hi
  · exact h2 c (List.mem_filter.mpr ⟨hc, hi⟩)
  · simpa [hi] using h
set_option maxRecDepth 65536 in
theorem w_c0 : (Jvm.Cond.code x code maxLocals ret).before args0 about1 = true := code_word (m := ⟨1, 1⟩) (meth := k1m1) (c := k1c1) (by decide +kernel) rfl rfl rfl (by decide +kernel)
set_option maxRecDepth 65536 in
theorem w_c1 : (Jvm.Cond.code ({ cls := "com/example/uniform_parser/uniformparser/core/Bytes", name := "<init>", desc := "(I)V" } : Jvm.MethodName) prog_26_method_1_code (2 : Nat) (Option.none : Option Jvm.ClassFile.FieldType)).before args0 about1 = true := code_word (m := ⟨2, 0⟩) (meth := k2m0) (c := k2c0) (by decide +kernel) rfl rfl rfl (by decide +kernel)
set_option maxRecDepth 65536 in
theorem w_c2 : (Jvm.Cond.code ({ cls := "com/example/uniform_parser/uniformparser/core/Bytes", name := "<init>", desc := "(II)V" } : Jvm.MethodName) prog_26_method_2_code (3 : Nat) (Option.none : Option Jvm.ClassFile.FieldType)).before args0 about1 = true := code_word (m := ⟨2, 1⟩) (meth := k2m1) (c := k2c1) (by decide +kernel) rfl rfl rfl (by decide +kernel)
set_option maxRecDepth 65536 in
theorem w_c3 : (Jvm.Cond.code ({ cls := "java/lang/Object", name := "<init>", desc := "()V" } : Jvm.MethodName) object_method_1_code (1 : Nat) (Option.none : Option Jvm.ClassFile.FieldType)).before args0 about1 = true := code_word (m := ⟨0, 0⟩) (meth := k0m0) (c := k0c0) (by decide +kernel) rfl rfl rfl (by decide +kernel)
set_option maxRecDepth 65536 in
theorem w_c4 : (Jvm.Cond.code ({ cls := "java/util/ArrayList", name := "<init>", desc := "()V" } : Jvm.MethodName) jdk_38_method_2_code (1 : Nat) (Option.none : Option Jvm.ClassFile.FieldType)).before args0 about1 = true := code_word (m := ⟨12, 0⟩) (meth := k12m0) (c := k12c0) (by decide +kernel) rfl rfl rfl (by decide +kernel)
set_option maxRecDepth 65536 in
theorem w_c5 : (Jvm.Cond.code ({ cls := "java/util/AbstractList", name := "<init>", desc := "()V" } : Jvm.MethodName) jdk_39_method_1_code (1 : Nat) (Option.none : Option Jvm.ClassFile.FieldType)).before args0 about1 = true := code_word (m := ⟨8, 0⟩) (meth := k8m0) (c := k8c0) (by decide +kernel) rfl rfl rfl (by decide +kernel)
set_option maxRecDepth 65536 in
theorem w_c6 : (Jvm.Cond.code ({ cls := "java/util/AbstractCollection", name := "<init>", desc := "()V" } : Jvm.MethodName) jdk_22_method_1_code (1 : Nat) (Option.none : Option Jvm.ClassFile.FieldType)).before args0 about1 = true := code_word (m := ⟨5, 0⟩) (meth := k5m0) (c := k5c0) (by decide +kernel) rfl rfl rfl (by decide +kernel)
set_option maxRecDepth 65536 in
theorem w_c7 : (Jvm.Cond.code ({ cls := "com/example/uniform_parser/uniformparser/core/Bytes", name := "isPastMost", desc := "()Z" } : Jvm.MethodName) prog_26_method_5_code (1 : Nat) (Option.some Jvm.ClassFile.FieldType.boolean)).before args0 about1 = true := code_word (m := ⟨2, 2⟩) (meth := k2m2) (c := k2c2) (by decide +kernel) rfl rfl rfl (by decide +kernel)
set_option maxRecDepth 65536 in
theorem w_c8 : (Jvm.Cond.code ({ cls := "com/example/uniform_parser/uniformparser/core/Bytes", name := "length", desc := "()I" } : Jvm.MethodName) prog_26_method_6_code (1 : Nat) (Option.some Jvm.ClassFile.FieldType.int)).before args0 about1 = true := code_word (m := ⟨2, 3⟩) (meth := k2m3) (c := k2c3) (by decide +kernel) rfl rfl rfl (by decide +kernel)
def codes1 : List Jvm.Cond := [Jvm.Cond.code x code maxLocals ret, Jvm.Cond.code ({ cls := "com/example/uniform_parser/uniformparser/core/Bytes", name := "<init>", desc := "(I)V" } : Jvm.MethodName) prog_26_method_1_code (2 : Nat) (Option.none : Option Jvm.ClassFile.FieldType), Jvm.Cond.code ({ cls := "com/example/uniform_parser/uniformparser/core/Bytes", name := "<init>", desc := "(II)V" } : Jvm.MethodName) prog_26_method_2_code (3 : Nat) (Option.none : Option Jvm.ClassFile.FieldType), Jvm.Cond.code ({ cls := "java/lang/Object", name := "<init>", desc := "()V" } : Jvm.MethodName) object_method_1_code (1 : Nat) (Option.none : Option Jvm.ClassFile.FieldType), Jvm.Cond.code ({ cls := "java/util/ArrayList", name := "<init>", desc := "()V" } : Jvm.MethodName) jdk_38_method_2_code (1 : Nat) (Option.none : Option Jvm.ClassFile.FieldType), Jvm.Cond.code ({ cls := "java/util/AbstractList", name := "<init>", desc := "()V" } : Jvm.MethodName) jdk_39_method_1_code (1 : Nat) (Option.none : Option Jvm.ClassFile.FieldType), Jvm.Cond.code ({ cls := "java/util/AbstractCollection", name := "<init>", desc := "()V" } : Jvm.MethodName) jdk_22_method_1_code (1 : Nat) (Option.none : Option Jvm.ClassFile.FieldType), Jvm.Cond.code ({ cls := "com/example/uniform_parser/uniformparser/core/Bytes", name := "isPastMost", desc := "()Z" } : Jvm.MethodName) prog_26_method_5_code (1 : Nat) (Option.some Jvm.ClassFile.FieldType.boolean), Jvm.Cond.code ({ cls := "com/example/uniform_parser/uniformparser/core/Bytes", name := "length", desc := "()I" } : Jvm.MethodName) prog_26_method_6_code (1 : Nat) (Option.some Jvm.ClassFile.FieldType.int)]
set_option maxRecDepth 65536 in
theorem codes_eq : words1.filter isCode = codes1 := rfl
theorem w_codes : ∀ c ∈ words1.filter isCode, c.before args0 about1 = true := by
  rw [codes_eq]
  intro c hc
  simp only [codes1, List.mem_cons, List.not_mem_nil, or_false] at hc
  rcases hc with rfl | rfl | rfl | rfl | rfl | rfl | rfl | rfl | rfl
  · exact w_c0
  · exact w_c1
  · exact w_c2
  · exact w_c3
  · exact w_c4
  · exact w_c5
  · exact w_c6
  · exact w_c7
  · exact w_c8
set_option maxRecDepth 65536 in
theorem w_t1 : (words1.take 24).all (fun c => isCode c || c.before args0 about1) = true := by decide +kernel
set_option maxRecDepth 65536 in
theorem w_t2 : ((words1.drop 24).take 24).all (fun c => isCode c || c.before args0 about1) = true := by decide +kernel
set_option maxRecDepth 65536 in
theorem w_t3 : ((words1.drop 24).drop 24).all (fun c => isCode c || c.before args0 about1) = true := by decide +kernel
theorem w_tables : (allAtoms (Jvm.Cond.code x code maxLocals ret :: tables_1)).before args0 about1 = true := by
  rw [allAtoms_all]
  show words1.all (fun c => c.before args0 about1) = true
  refine all_split ?_ w_codes
  rw [← List.take_append_drop 24 words1, List.all_append, w_t1, ← List.take_append_drop 24 (words1.drop 24), List.all_append, w_t2, w_t3]
  rfl
set_option maxRecDepth 65536 in
theorem w_rest : rest_1_c.before args0 about1 = true := by decide +kernel
set_option maxRecDepth 65536 in
theorem w_case : (Jvm.Cond.and given_1 narrow_1).before args0 about1 = true := by decide +kernel
theorem w_applies : (headSpec (Jvm.Cond.code x code maxLocals ret :: tables_1) room_1).applies x e0.platform about1 = true :=
  (Spec.applies_iff w_frames).mpr ⟨w_running, w_runnable, w_alone, w_named, w_hears, w_ripe, w_room, w_tables⟩
theorem atStart : AtStart classFile x code maxLocals ret World_1 tables_1 room_1 Calls_1 rest_1 Pre_1 launch0 p0 e0 about1 theMethod args0 below0 :=
  ⟨lists_1, trivial, launch0.admits_env _ _ _, launch0.least_env, fairChoices_fair.cas, fairChoices_fair.clock, w_frames, w_args, w_heap, w_applies, trivial, w_rest, w_case⟩
end start1
theorem witness_1 : WitnessClaimed_1 := ⟨start1.p0, start1.e0, start1.about1, start1.theMethod, start1.args0, start1.below0, start1.atStart⟩
end Jvm.Pilot.@@N@@
