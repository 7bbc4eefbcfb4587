import JvmDerived
import JvmDerived.Pilot.@@N@@Statement
import JvmDerived.Pilot.@@N@@Code
set_option linter.unusedVariables false
set_option linter.unusedSimpArgs false
namespace Jvm.Pilot.@@N@@
open Jvm Jvm.ClassFile Sem Op Lib Jvm.Free Jvm.Stand Jvm.LawKit Jvm.RoadKit Bundle Jvm.Pilot.@@N@@.Jvm.D
/-! own kit: a walk that goes forward, step by step, and may fork anywhere (Go); a body's contract (Con); calls by contract; arrays by their list of values (Ary) -/
def Go (p : Program) (e : Env) (below : List Frame) (s : State) (k n : Nat) (Q : Option Value → Heap → List Loc → Prop) (S : State) : Prop :=
  ∃ (U : State) (o : Outcome), Steps p.tables e below S U ∧ U.status = .running ∧ Ended U below o ∧ ∃ v L, o = .returned v ∧ Q v U.heap L ∧ FrameEnd s o U L k n
section Own
variable {p : Program} {l : Launch} {e : Env} {R : Room} {s : State} {m : MethodId} {args : Array Value} {below : List Frame} {meth : Method} {c : Code} {T : State} {locs : List Loc} {cells slots : Nat} {Z : State} {a0 : Array Value} {h h' : Heap} {k n : Nat} {Q : Option Value → Heap → List Loc → Prop} {S S' : State}
theorem Go.st (f : ∀ t, Steps p.tables e below S' t → Steps p.tables e below S t) (g : Go p e below s k n Q S') : Go p e below s k n Q S := by
  obtain ⟨U, o, h1, r⟩ := g
  exact ⟨U, o, f _ h1, r⟩
theorem Go.cast {g g' : JFrame} (q : g = g') (k' : Go p e below s k n Q (T.setTop g')) : Go p e below s k n Q (T.setTop g) := q ▸ k'
theorem Go.ret (X : Stand p l e R s m args below meth c T locs cells slots) (hlk : meth.locks = false) {v : Option Value} (hv : meth.sig.returnType = none → v = none)
    (step : ∀ fs, (∀ (f : JFrame) (acts : List Action), f.method = m → f.locked = none → f.entered = [] → (doReturn e (T.setTop f) acts v).1 = T.setFrames fs) → Steps p.tables e below S (T.setFrames fs))
    (hk : cells ≤ k) (hn : slots ≤ n) (hQ : Q v T.heap locs) : Go p e below s k n Q S := by
  obtain ⟨fs, hr, hrun, hended, hW, hsame⟩ := X.leave (v := v) hv hlk
  exact ⟨_, _, step fs hr, hrun, hended, v, locs, rfl, hQ, ⟨_, rfl⟩, hW, hsame.mono hk hn⟩
theorem Go.retI (X : Stand p l e R s m args below meth c T locs cells slots) (hx : p.tables.exec = Jvm.exec) (hlk : meth.locks = false) (hret : meth.sig.returnType = some .int) {pc : Nat} {Ls : Array Slot} {z : Int32} {rest : List Value} (hd : decode c.code pc = .ok (.ireturn, 1))
    (hk : cells ≤ k) (hn : slots ≤ n) (hQ : Q (some (.int z)) T.heap locs) : Go p e below s k n Q (T.setTop (mkF m pc Ls (.int z :: rest))) :=
  Go.ret X hlk (fun q => by rw [hret] at q; cases q) (fun fs hr => retOut X hx hret rfl (Or.inl ⟨rfl, Or.inl rfl, z, rfl⟩) hd hr) hk hn hQ
theorem Go.retN (X : Stand p l e R s m args below meth c T locs cells slots) (hx : p.tables.exec = Jvm.exec) (hlk : meth.locks = false) {t : FieldType} (hret : meth.sig.returnType = some t) (ht : t = .boolean ∨ t = .byte ∨ t = .char ∨ t = .short) {pc : Nat} {Ls : Array Slot} {z : Int32} {rest : List Value} (hd : decode c.code pc = .ok (.ireturn, 1))
    (hk : cells ≤ k) (hn : slots ≤ n) (hQ : Q (some (.int (nar t z))) T.heap locs) : Go p e below s k n Q (T.setTop (mkF m pc Ls (.int z :: rest))) :=
  Go.ret X hlk (fun q => by rw [hret] at q; cases q) (fun fs hr => Jvm.RoadKit.retN X hx hret ht hd hr) hk hn hQ
theorem Go.retL (X : Stand p l e R s m args below meth c T locs cells slots) (hx : p.tables.exec = Jvm.exec) (hlk : meth.locks = false) (hret : meth.sig.returnType = some .long) {pc : Nat} {Ls : Array Slot} {z : Int64} {rest : List Value} (hd : decode c.code pc = .ok (.lreturn, 1))
    (hk : cells ≤ k) (hn : slots ≤ n) (hQ : Q (some (.long z)) T.heap locs) : Go p e below s k n Q (T.setTop (mkF m pc Ls (.long z :: rest))) :=
  Go.ret X hlk (fun q => by rw [hret] at q; cases q) (fun fs hr => retOut X hx hret rfl (Or.inr (Or.inl ⟨rfl, rfl, z, rfl⟩)) hd hr) hk hn hQ
theorem own_narR {t : FieldType} {w : Value} (h1 : t.isReference = true) (h2 : w.isRef = true) : narrow t w = w := by
  rcases ref_cases h2 with rfl | ⟨a, rfl⟩ <;> cases t <;> first | rfl | (simp [FieldType.isReference] at h1)
theorem Go.retA (X : Stand p l e R s m args below meth c T locs cells slots) (hx : p.tables.exec = Jvm.exec) (hlk : meth.locks = false) {t : FieldType} (hret : meth.sig.returnType = some t) (ht : t.isReference = true) {pc : Nat} {Ls : Array Slot} {w : Value} {rest : List Value} (hw : w.isRef = true) (hd : decode c.code pc = .ok (.areturn, 1))
    (hk : cells ≤ k) (hn : slots ≤ n) (hQ : Q (some w) T.heap locs) : Go p e below s k n Q (T.setTop (mkF m pc Ls (w :: rest))) :=
  Go.ret X hlk (fun q => by rw [hret] at q; cases q) (fun fs hr => retOut X hx hret (own_narR ht hw) (Or.inr (Or.inr (Or.inr (Or.inr ⟨rfl, ht, hw⟩)))) hd hr) hk hn hQ
theorem Go.retV (X : Stand p l e R s m args below meth c T locs cells slots) (hx : p.tables.exec = Jvm.exec) (hlk : meth.locks = false) (hret : meth.sig.returnType = none) {pc : Nat} {Ls : Array Slot} (hd : decode c.code pc = .ok (.return_, 1))
    (hk : cells ≤ k) (hn : slots ≤ n) (hQ : Q none T.heap locs) : Go p e below s k n Q (T.setTop (mkF m pc Ls [])) :=
  Go.ret X hlk (fun _ => rfl) (fun fs hr => X.returnOut hx hret hd hr) hk hn hQ
/-- what a body leaves, for every start that is warmer than Z's, its heap h0, its arguments as' -/
def Con (l : Launch) (Z : State) (y : MethodName) (bytes : ByteArray) (maxL : Nat) (ret : Option FieldType) (rm : Room) (as' : Array Value) (h0 : Heap) (Q : Option Value → Heap → List Loc → Prop) : Prop :=
  ∀ ws : List Jvm.Cond, MetFree l y (head1 (Jvm.Cond.code y bytes maxL ret :: ws) rm) (fun a U => a = as' ∧ Z.Warmed39 U.vm ∧ U.heap = h0) (fun _ _ _ _ _ => True) (fun _ U o U' => ∃ v L, o = .returned v ∧ Q v U'.heap L ∧ FrameEnd U o U' L rm.cells rm.slots)
theorem Con.of {y : MethodName} {bytes : ByteArray} {maxL : Nat} {ret : Option FieldType} {rm : Room} {as' : Array Value} {h0 : Heap} (hp : plainFor y = true)
    (body : ∀ (p : Program) (e : Env) (s : State) (m : MethodId) (below : List Frame) (meth : Method) (c : Code) (s₁ : State), Stand p l e rm s m as' below meth c s₁ [] 0 0 → p.tables.exec = Jvm.exec → c.code = bytes → c.maxLocals = maxL → Z.Warmed39 s.vm → s.vm.findClass y.cls = some m.cls → meth.name = y.name → meth.sig.returnType = ret → meth.locks = false → s₁.heap = h0 →
      Go p e below s rm.cells rm.slots Q (s₁.setTop (entryFrame m as' maxL))) : Con l Z y bytes maxL ret rm as' h0 Q := by
  intro ws
  refine MetFree.of_bodySF hp hisR ?_
  intro p e s m args below meth c s₁ Bd hml hP hK
  obtain ⟨rfl, hZ, hh⟩ := hP
  obtain ⟨U, o, h1, h2, h3, h4⟩ := body p e s m below meth c s₁ (Stand.of_body Bd) Bd.exec Bd.bytes hml hZ (findClass_of_methodNamed Bd.named) (name_of_methodNamed Bd.named Bd.method).1 Bd.returns Bd.notSynchronized (by rw [← hh, Bd.state]; rfl)
  exact ⟨U, o, h1, h2, h3, h4⟩
theorem Con.imp {y : MethodName} {bytes : ByteArray} {maxL : Nat} {ret : Option FieldType} {rm : Room} {as' : Array Value} {h0 : Heap} {Q' : Option Value → Heap → List Loc → Prop} (hC : Con l Z y bytes maxL ret rm as' h0 Q) (hq : ∀ v h L, Q v h L → Q' v h L) : Con l Z y bytes maxL ret rm as' h0 Q' := by
  intro ws p e ha hc hk s m args below hf happ hP hK
  obtain ⟨n, o, h1, h2, h3, v, L, h4, h5, h6⟩ := hC ws p e ha hc hk s m args below hf happ hP hK
  exact ⟨n, o, h1, h2, h3, v, L, h4, hq _ _ _ h5, h6⟩
theorem own_callS (X : Stand p l e R s m args below meth c T locs cells slots) (hx : p.tables.exec = Jvm.exec) (hZ : Z.Warmed39 s.vm) {own : String} {index : Nat} {y : MethodName} {bytes : ByteArray} {maxL : Nat} {ret : Option FieldType} {rm : Room}
    (hown : s.vm.findClass own = some m.cls) (w1 : (Jvm.Cond.methodLink own index y).before a0 Z = true) (w2 : (Jvm.Cond.static y).before a0 Z = true) (w3 : (Jvm.Cond.initialized y.cls).before a0 Z = true) (w4 : (Jvm.Cond.code y bytes maxL ret).before a0 Z = true)
    (hy : y.cls ≠ "java/lang/invoke/MethodHandle" ∧ y.cls ≠ "java/lang/invoke/VarHandle") (eT : T.heap = h) {argsL rest : List Value} (hC : Con l Z y bytes maxL ret rm argsL.toArray h Q)
    {g : JFrame} (hg : g.method = m) (hsize : g.locals.size = c.maxLocals) (hlen : ∀ sig, parseMethodDescriptor y.desc = some sig → argsL.length = sig.parameters.length) (hstack : g.stack = argsL.reverse ++ rest) (hd : decode c.code g.pc = .ok (.invokestatic index, 3))
    {W : Nat} (hW : 2 * g.monitorRoom + (rest.map fun v => v.category).sum ≤ W) (hf : rm.frames + 1 ≤ R.frames) (hl : W + (maxL + 11) + rm.locals ≤ R.locals) (hc : cells + rm.cells ≤ R.cells) (hs : slots + rm.slots ≤ R.slots) :
    ∃ v T' h' L, Stand p l e R s m args below meth c T' (locs ++ L) (cells + rm.cells) (slots + rm.slots) ∧ T'.heap = h' ∧ Q v h' L ∧ ∀ target, Steps p.tables e below (T'.setTop { g with pc := g.pc + 3, stack := v.toList ++ rest }) target → Steps p.tables e below (T.setTop g) target := by
  obtain ⟨v, _, ⟨T', L', k', n'⟩, -, X', ⟨Lc, hQ, l', y', z'⟩, st⟩ := Jvm.LawKit.callS X hx (y := y) hown (mvT hZ w1) (mvT hZ w2) (mvT hZ w3) (mvT hZ w4) hy (backOf (W := W) (hC []) hZ w4 w3 hf hl) hg hsize (argsL := argsL) (rest := rest) hlen hstack hW hd (fun _ _ => ⟨rfl, eT, hc, hs⟩)
  dsimp only [Pt.U, Pt.locs, Pt.cells, Pt.slots] at X' l' y' z' st hQ
  subst l' y' z'
  exact ⟨v, T', _, Lc, X', rfl, hQ, st⟩
theorem own_callN (X : Stand p l e R s m args below meth c T locs cells slots) (hx : p.tables.exec = Jvm.exec) (hZ : Z.Warmed39 s.vm) {own : String} {index : Nat} {y : MethodName} {bytes : ByteArray} {maxL : Nat} {rm : Room} (hy1 : y.name = "<init>")
    (hown : s.vm.findClass own = some m.cls) (w1 : (Jvm.Cond.methodLink own index y).before a0 Z = true) (w2 : (Jvm.Cond.instanceMethod y).before a0 Z = true) (w3 : (Jvm.Cond.initialized y.cls).before a0 Z = true) (w4 : (Jvm.Cond.code y bytes maxL none).before a0 Z = true)
    (hy : y.cls ≠ "java/lang/invoke/MethodHandle" ∧ y.cls ≠ "java/lang/invoke/VarHandle") (eT : T.heap = h) {a : Addr} {argsL rest : List Value} (hC : Con l Z y bytes maxL none rm (.ref a :: argsL).toArray h Q)
    {g : JFrame} (hg : g.method = m) (hsize : g.locals.size = c.maxLocals) (hlen : ∀ sig, parseMethodDescriptor y.desc = some sig → argsL.length = sig.parameters.length) (hstack : g.stack = argsL.reverse ++ .ref a :: rest) (hd : decode c.code g.pc = .ok (.invokespecial index, 3))
    {W : Nat} (hW : 2 * g.monitorRoom + (rest.map fun v => v.category).sum ≤ W) (hf : rm.frames + 1 ≤ R.frames) (hl : W + (maxL + 11) + rm.locals ≤ R.locals) (hc : cells + rm.cells ≤ R.cells) (hs : slots + rm.slots ≤ R.slots) :
    ∃ v T' h' L, Stand p l e R s m args below meth c T' (locs ++ L) (cells + rm.cells) (slots + rm.slots) ∧ T'.heap = h' ∧ Q v h' L ∧ ∀ target, Steps p.tables e below (T'.setTop { g with pc := g.pc + 3, stack := v.toList ++ rest }) target → Steps p.tables e below (T.setTop g) target := by
  obtain ⟨v, _, ⟨T', L', k', n'⟩, -, X', ⟨Lc, hQ, l', y', z'⟩, st⟩ := X.specialBack hx (y := y) hy1 hown (mvT hZ w1) (mvT hZ w2) (mvT hZ w4) hy (backOf (W := W) (hC []) hZ w4 w3 hf hl) hg hsize (Steps.refl _) (a := a) (argsL := argsL) (rest := rest) hlen hstack hW hd (fun _ _ => ⟨rfl, eT, hc, hs⟩)
  dsimp only [Pt.U, Pt.locs, Pt.cells, Pt.slots] at X' l' y' z' st hQ
  subst l' y' z'
  exact ⟨v, T', _, Lc, X', rfl, hQ, fun t ht => st.trans ht⟩
theorem own_callV (X : Stand p l e R s m args below meth c T locs cells slots) (hx : p.tables.exec = Jvm.exec) (hZ : Z.Warmed39 s.vm) {own C : String} {index : Nat} {y z : MethodName} {bytes : ByteArray} {maxL : Nat} {ret : Option FieldType} {rm : Room}
    (hown : s.vm.findClass own = some m.cls) (w1 : (Jvm.Cond.methodLink own index y).before a0 Z = true) (w2 : (Jvm.Cond.declares y).before a0 Z = true) (w5 : (Jvm.Cond.selects y.cls y y).before a0 Z = true) (w6 : (Jvm.Cond.selects C y z).before a0 Z = true) (w7 : (Jvm.Cond.instanceMethod z).before a0 Z = true) (w3 : (Jvm.Cond.initialized z.cls).before a0 Z = true) (w4 : (Jvm.Cond.code z bytes maxL ret).before a0 Z = true)
    (hy : y.cls ≠ "java/lang/invoke/MethodHandle" ∧ y.cls ≠ "java/lang/invoke/VarHandle") (eT : T.heap = h) {a : Addr} (E : Exa Z h a C) {argsL rest : List Value} (hC : Con l Z z bytes maxL ret rm (.ref a :: argsL).toArray h Q)
    {g : JFrame} (hg : g.method = m) (hsize : g.locals.size = c.maxLocals) (hlen : ∀ sig, parseMethodDescriptor y.desc = some sig → argsL.length = sig.parameters.length) (hstack : g.stack = argsL.reverse ++ .ref a :: rest) (hd : decode c.code g.pc = .ok (.invokevirtual index, 3))
    {W : Nat} (hW : 2 * g.monitorRoom + (rest.map fun v => v.category).sum ≤ W) (hf : rm.frames + 1 ≤ R.frames) (hl : W + (maxL + 11) + rm.locals ≤ R.locals) (hc : cells + rm.cells ≤ R.cells) (hs : slots + rm.slots ≤ R.slots) :
    ∃ v T' h' L, Stand p l e R s m args below meth c T' (locs ++ L) (cells + rm.cells) (slots + rm.slots) ∧ T'.heap = h' ∧ Q v h' L ∧ ∀ target, Steps p.tables e below (T'.setTop { g with pc := g.pc + 3, stack := v.toList ++ rest }) target → Steps p.tables e below (T.setTop g) target := by
  obtain ⟨cq, kq, qa, qb, qc⟩ := isOf hZ eT E
  obtain ⟨v, _, ⟨T', L', k', n'⟩, -, X', ⟨Lc, hQ, l', y', z'⟩, st⟩ := X.virtualBack hx (y := y) (z := z) hown (mvT hZ w1) (mvT hZ w2) (notFace_of_selects (args := #[]) (mvT hZ w5)) (mvT hZ w6) (mvT hZ w7) hy (backOf (W := W) (hC []) hZ w4 w3 hf hl) qa qc hg hsize (Steps.refl _) (argsL := argsL) (rest := rest) hlen hstack hW hd (fun _ _ => ⟨rfl, eT, hc, hs⟩)
  dsimp only [Pt.U, Pt.locs, Pt.cells, Pt.slots] at X' l' y' z' st hQ
  subst l' y' z'
  exact ⟨v, T', _, Lc, X', rfl, hQ, fun t ht => st.trans ht⟩
theorem own_ne {a b : Nat} (h : a < b ∨ b < a) : a ≠ b := by omega
theorem own_ltE {a : Nat} {C : String} (F : Exa Z h a C) : a < h.size := F.lt
theorem own_ltF {a : Nat} {C n d : String} {v : Value} (F : Fld Z h a C n d v) : a < h.size := F.lt
/-! arrays by their list of values -/
def Ary (Z : State) (h : Heap) (a : Addr) (ty : FieldType) (vs : List Value) : Prop := ∃ c : Cell, Arr Z h a c ty ∧ c.slots.toList = vs ∧ vs.length < 2 ^ 31
variable {a b : Addr} {ty : FieldType} {vs : List Value} {sl : Nat} {v w : Value} {ws : List Addr} {j : Int32}
theorem Ary.lt (F : Ary Z h a ty vs) : a < h.size := by obtain ⟨c, A, -⟩ := F; exact A.lt
theorem own_ltA {a : Nat} (F : Ary Z h a ty vs) : a < h.size := F.lt
theorem Ary.ext (F : Ary Z h a ty vs) (E : Ext h h') : Ary Z h' a ty vs := by obtain ⟨c, A, r⟩ := F; exact ⟨c, A.ext E, r⟩
theorem Ary.other (F : Ary Z h b ty vs) (W : Wr h h' a sl v) (q : b ≠ a) : Ary Z h' b ty vs := by obtain ⟨c, A, r⟩ := F; exact ⟨c, A.other W q, r⟩
theorem Ary.keep (F : Ary Z h a ty vs) (K : Keep h h' ws) (q : a ∉ ws) : Ary Z h' a ty vs := by obtain ⟨c, A, r⟩ := F; exact ⟨c, ⟨K.2.1 a c A.1 q, A.2⟩, r⟩
theorem Ary.set (F : Ary Z h a ty vs) (W : Wr h h' a sl v) : Ary Z h' a ty (vs.set sl v) := by
  obtain ⟨c, A, r, hl⟩ := F
  refine ⟨_, A.same W, ?_, by simpa using hl⟩
  subst r
  simp [Cell.setSlot]
theorem own_in {j : Int32} (h0 : 0 ≤ j.toInt) : j.toInt = (j.toNatClampNeg : Int) := nat_of (fun q => by rw [Int32.lt_iff_toInt_lt] at q; have : (0 : Int32).toInt = 0 := rfl; omega)
theorem own_inb {c : Cell} (r : c.slots.toList = vs) (h0 : 0 ≤ j.toInt) (h1 : j.toInt < vs.length) : ¬ (j < 0 ∨ c.slots.size ≤ j.toNatClampNeg) := by
  have e := own_in h0
  have e2 : c.slots.size = vs.length := by rw [← r]; simp
  have z : (0 : Int32).toInt = 0 := rfl
  rintro (q | q)
  · rw [Int32.lt_iff_toInt_lt] at q; omega
  · omega
theorem Ary.new {cA : ClassId} {z : Int32} (A : Arr Z h a (newA cA ty z) ty) (q : z.toNatClampNeg < 2 ^ 31) : Ary Z h a ty (List.replicate z.toNatClampNeg (defaultValue ty)) := ⟨_, A, by simp [newA], by simpa using q⟩
theorem own_newP (X : Stand p l e R s m args below meth c T locs cells slots) (hx : p.tables.exec = Jvm.exec) (hZ : Z.Warmed39 s.vm) {aty : ArrayType} {ty : FieldType} (hty : newarray.typeOf aty = ty) (w : (Jvm.Cond.arrayClass ty).before a0 Z = true) (eT : T.heap = h) {g : JFrame} (hg : g.method = m) (hd : decode c.code g.pc = .ok (.newarray aty, 2)) {n : Int32} {rest : List Value} (hs : g.stack = .int n :: rest)
    (hn : 0 ≤ n.toInt) {cap : Nat} (hcap : n.toInt ≤ cap) (hb : cap * 8 ≤ 536870912) (hc : cells + 1 ≤ R.cells) (hl : slots + cap ≤ R.slots) :
    ∃ T' h', Stand p l e R s m args below meth c T' locs (cells + 1) (slots + cap) ∧ T'.heap = h' ∧ Ext h h' ∧ Ary Z h' h.size ty (List.replicate n.toNatClampNeg (defaultValue ty)) ∧
      ∀ target, Steps p.tables e below (T'.setTop { g with pc := g.pc + 2, stack := .ref h.size :: rest }) target → Steps p.tables e below (T.setTop g) target := by
  subst hty
  have e1 := own_in hn
  have z : (0 : Int32).toInt = 0 := rfl
  obtain ⟨T', h', cA, X', e', E', A', st⟩ := newP X hx hZ w eT hg hd hs (fun q => by rw [Int32.lt_iff_toInt_lt] at q; omega) (cap := cap) (by omega) hb hc hl
  exact ⟨T', h', X', e', E', Ary.new A' (by omega), st⟩
theorem own_len (X : Stand p l e R s m args below meth c T locs cells slots) (hx : p.tables.exec = Jvm.exec) (hZ : Z.Warmed39 s.vm) (eT : T.heap = h) (F : Ary Z h a ty vs) {g : JFrame} (hg : g.method = m) {rest : List Value} (hs : g.stack = .ref a :: rest) (hd : decode c.code g.pc = .ok (.arraylength, 1)) :
    ∀ target, Steps p.tables e below (T.setTop { g with pc := g.pc + 1, stack := .int vs.length.toInt32 :: rest }) target → Steps p.tables e below (T.setTop g) target := by
  obtain ⟨c, A, r, hl⟩ := F
  intro t ht
  have e2 : c.slots.size = vs.length := by rw [← r]; simp
  exact X.arraylength hx (by rw [eT]; exact A.1) (State.isArrayOf_alike hZ.alike A.2.1) hg hs hd t (by rw [e2]; exact ht)
theorem own_at {c : Cell} (r : c.slots.toList = vs) (hv : vs[j.toNatClampNeg]? = some v) : c.slots[j.toNatClampNeg]? = some v := by
  subst r; simpa using hv
theorem own_ldI (X : Stand p l e R s m args below meth c T locs cells slots) (hx : p.tables.exec = Jvm.exec) (hZ : Z.Warmed39 s.vm) (eT : T.heap = h) (F : Ary Z h a .int vs) (h0 : 0 ≤ j.toInt) (h1 : j.toInt < vs.length) (hv : vs[j.toNatClampNeg]? = some v) {g : JFrame} (hg : g.method = m) {rest : List Value} (hs : g.stack = .int j :: .ref a :: rest) (hd : decode c.code g.pc = .ok (.iaload, 1)) :
    ∀ target, Steps p.tables e below (T.setTop { g with pc := g.pc + 1, stack := v :: rest }) target → Steps p.tables e below (T.setTop g) target := by
  obtain ⟨c, A, r, hl⟩ := F
  exact X.iaload hx (by rw [eT]; exact A.1) (State.isArrayOf_alike hZ.alike A.2.1) A.2.2 (own_inb r h0 h1) (own_at r hv) hg hs hd
theorem own_ldJ (X : Stand p l e R s m args below meth c T locs cells slots) (hx : p.tables.exec = Jvm.exec) (hZ : Z.Warmed39 s.vm) (eT : T.heap = h) (F : Ary Z h a .long vs) (h0 : 0 ≤ j.toInt) (h1 : j.toInt < vs.length) (hv : vs[j.toNatClampNeg]? = some v) {g : JFrame} (hg : g.method = m) {rest : List Value} (hs : g.stack = .int j :: .ref a :: rest) (hd : decode c.code g.pc = .ok (.laload, 1)) :
    ∀ target, Steps p.tables e below (T.setTop { g with pc := g.pc + 1, stack := v :: rest }) target → Steps p.tables e below (T.setTop g) target := by
  obtain ⟨c, A, r, hl⟩ := F
  exact X.laload hx (by rw [eT]; exact A.1) (State.isArrayOf_alike hZ.alike A.2.1) A.2.2 (own_inb r h0 h1) (own_at r hv) hg hs hd
theorem own_ldC (X : Stand p l e R s m args below meth c T locs cells slots) (hx : p.tables.exec = Jvm.exec) (hZ : Z.Warmed39 s.vm) (eT : T.heap = h) (F : Ary Z h a .char vs) (h0 : 0 ≤ j.toInt) (h1 : j.toInt < vs.length) (hv : vs[j.toNatClampNeg]? = some v) {g : JFrame} (hg : g.method = m) {rest : List Value} (hs : g.stack = .int j :: .ref a :: rest) (hd : decode c.code g.pc = .ok (.caload, 1)) :
    ∀ target, Steps p.tables e below (T.setTop { g with pc := g.pc + 1, stack := v :: rest }) target → Steps p.tables e below (T.setTop g) target := by
  obtain ⟨c, A, r, hl⟩ := F
  exact X.caload hx (by rw [eT]; exact A.1) (State.isArrayOf_alike hZ.alike A.2.1) A.2.2 (own_inb r h0 h1) (own_at r hv) hg hs hd
theorem own_ldB (X : Stand p l e R s m args below meth c T locs cells slots) (hx : p.tables.exec = Jvm.exec) (hZ : Z.Warmed39 s.vm) (eT : T.heap = h) (F : Ary Z h a .byte vs) (h0 : 0 ≤ j.toInt) (h1 : j.toInt < vs.length) (hv : vs[j.toNatClampNeg]? = some v) {g : JFrame} (hg : g.method = m) {rest : List Value} (hs : g.stack = .int j :: .ref a :: rest) (hd : decode c.code g.pc = .ok (.baload, 1)) :
    ∀ target, Steps p.tables e below (T.setTop { g with pc := g.pc + 1, stack := v :: rest }) target → Steps p.tables e below (T.setTop g) target := by
  obtain ⟨c, A, r, hl⟩ := F
  exact X.baloadBytes hx (by rw [eT]; exact A.1) (State.isArrayOf_alike hZ.alike A.2.1) A.2.2 (own_inb r h0 h1) (own_at r hv) hg hs hd
theorem own_ldR (X : Stand p l e R s m args below meth c T locs cells slots) (hx : p.tables.exec = Jvm.exec) (hZ : Z.Warmed39 s.vm) (eT : T.heap = h) (F : Ary Z h a ty vs) (hr : ty.isReference = true) (h0 : 0 ≤ j.toInt) (h1 : j.toInt < vs.length) (hv : vs[j.toNatClampNeg]? = some v) {g : JFrame} (hg : g.method = m) {rest : List Value} (hs : g.stack = .int j :: .ref a :: rest) (hd : decode c.code g.pc = .ok (.aaload, 1)) :
    ∀ target, Steps p.tables e below (T.setTop { g with pc := g.pc + 1, stack := v :: rest }) target → Steps p.tables e below (T.setTop g) target := by
  obtain ⟨c, A, r, hl⟩ := F
  exact X.aaload hx (by rw [eT]; exact A.1) (State.isArrayOf_alike hZ.alike A.2.1) hr A.2.2 (own_inb r h0 h1) (own_at r hv) hg hs hd
theorem own_stI (X : Stand p l e R s m args below meth c T locs cells slots) (hx : p.tables.exec = Jvm.exec) (hZ : Z.Warmed39 s.vm) (eT : T.heap = h) (F : Ary Z h a .int vs) {x : Int32} (h0 : 0 ≤ j.toInt) (h1 : j.toInt < vs.length) {g : JFrame} (hg : g.method = m) {rest : List Value} (hs : g.stack = .int x :: .int j :: .ref a :: rest) (hd : decode c.code g.pc = .ok (.iastore, 1)) :
    ∃ T' h', Stand p l e R s m args below meth c T' (locs ++ [⟨a, j.toNatClampNeg⟩]) cells slots ∧ T'.heap = h' ∧ Wr h h' a j.toNatClampNeg (.int x) ∧ Ary Z h' a .int (vs.set j.toNatClampNeg (.int x)) ∧ ∀ target, Steps p.tables e below (T'.setTop { g with pc := g.pc + 1, stack := rest }) target → Steps p.tables e below (T.setTop g) target := by
  have F' := F
  obtain ⟨c, A, r, hl⟩ := F
  obtain ⟨T', h', X', e', W', st⟩ := stI X hx hZ eT A (own_inb r h0 h1) hg hs hd
  exact ⟨T', h', X', e', W', F'.set W', st⟩
theorem own_stJ (X : Stand p l e R s m args below meth c T locs cells slots) (hx : p.tables.exec = Jvm.exec) (hZ : Z.Warmed39 s.vm) (eT : T.heap = h) (F : Ary Z h a .long vs) {x : Int64} (h0 : 0 ≤ j.toInt) (h1 : j.toInt < vs.length) {g : JFrame} (hg : g.method = m) {rest : List Value} (hs : g.stack = .long x :: .int j :: .ref a :: rest) (hd : decode c.code g.pc = .ok (.lastore, 1)) :
    ∃ T' h', Stand p l e R s m args below meth c T' (locs ++ [⟨a, j.toNatClampNeg⟩]) cells slots ∧ T'.heap = h' ∧ Wr h h' a j.toNatClampNeg (.long x) ∧ Ary Z h' a .long (vs.set j.toNatClampNeg (.long x)) ∧ ∀ target, Steps p.tables e below (T'.setTop { g with pc := g.pc + 1, stack := rest }) target → Steps p.tables e below (T.setTop g) target := by
  have F' := F
  obtain ⟨c, A, r, hl⟩ := F
  obtain ⟨T', h', X', e', W', st⟩ := stJ X hx hZ eT A (own_inb r h0 h1) hg hs hd
  exact ⟨T', h', X', e', W', F'.set W', st⟩
theorem own_stC (X : Stand p l e R s m args below meth c T locs cells slots) (hx : p.tables.exec = Jvm.exec) (hZ : Z.Warmed39 s.vm) (eT : T.heap = h) (F : Ary Z h a .char vs) {x : Int32} (h0 : 0 ≤ j.toInt) (h1 : j.toInt < vs.length) {g : JFrame} (hg : g.method = m) {rest : List Value} (hs : g.stack = .int x :: .int j :: .ref a :: rest) (hd : decode c.code g.pc = .ok (.castore, 1)) :
    ∃ T' h', Stand p l e R s m args below meth c T' (locs ++ [⟨a, j.toNatClampNeg⟩]) cells slots ∧ T'.heap = h' ∧ Wr h h' a j.toNatClampNeg (.int (nar .char x)) ∧ Ary Z h' a .char (vs.set j.toNatClampNeg (.int (nar .char x))) ∧ ∀ target, Steps p.tables e below (T'.setTop { g with pc := g.pc + 1, stack := rest }) target → Steps p.tables e below (T.setTop g) target := by
  have F' := F
  obtain ⟨c, A, r, hl⟩ := F
  obtain ⟨T', h', X', e', W', st⟩ := stC X hx hZ eT A (own_inb r h0 h1) hg hs hd
  exact ⟨T', h', X', e', W', F'.set W', st⟩
theorem own_stB (X : Stand p l e R s m args below meth c T locs cells slots) (hx : p.tables.exec = Jvm.exec) (hZ : Z.Warmed39 s.vm) (eT : T.heap = h) (F : Ary Z h a .byte vs) {x : Int32} (h0 : 0 ≤ j.toInt) (h1 : j.toInt < vs.length) {g : JFrame} (hg : g.method = m) {rest : List Value} (hs : g.stack = .int x :: .int j :: .ref a :: rest) (hd : decode c.code g.pc = .ok (.bastore, 1)) :
    ∃ T' h', Stand p l e R s m args below meth c T' (locs ++ [⟨a, j.toNatClampNeg⟩]) cells slots ∧ T'.heap = h' ∧ Wr h h' a j.toNatClampNeg (.int (nar .byte x)) ∧ Ary Z h' a .byte (vs.set j.toNatClampNeg (.int (nar .byte x))) ∧ ∀ target, Steps p.tables e below (T'.setTop { g with pc := g.pc + 1, stack := rest }) target → Steps p.tables e below (T.setTop g) target := by
  have F' := F
  obtain ⟨c, A, r, hl⟩ := F
  obtain ⟨T', h', X', e', W', st⟩ := stB X hx hZ eT A (own_inb r h0 h1) hg hs hd
  exact ⟨T', h', X', e', W', F'.set W', st⟩
theorem own_stR (X : Stand p l e R s m args below meth c T locs cells slots) (hx : p.tables.exec = Jvm.exec) (hZ : Z.Warmed39 s.vm) (eT : T.heap = h) (F : Ary Z h a ty vs) (hr : ty.isReference = true) (G : Sto Z h a v) (h0 : 0 ≤ j.toInt) (h1 : j.toInt < vs.length) {g : JFrame} (hg : g.method = m) {rest : List Value} (hs : g.stack = v :: .int j :: .ref a :: rest) (hd : decode c.code g.pc = .ok (.aastore, 1)) :
    ∃ T' h', Stand p l e R s m args below meth c T' (locs ++ [⟨a, j.toNatClampNeg⟩]) cells slots ∧ T'.heap = h' ∧ Wr h h' a j.toNatClampNeg v ∧ Ary Z h' a ty (vs.set j.toNatClampNeg v) ∧ ∀ target, Steps p.tables e below (T'.setTop { g with pc := g.pc + 1, stack := rest }) target → Steps p.tables e below (T.setTop g) target := by
  have F' := F
  obtain ⟨c, A, r, hl⟩ := F
  obtain ⟨T', h', X', e', W', st⟩ := stR X hx hZ eT A (own_inb r h0 h1) hr G hg hs hd
  exact ⟨T', h', X', e', W', F'.set W', st⟩
def Ovy (Z : State) (h : Heap) (a : Addr) (C : String) : Prop := ∃ c : Cell, h[a]? = some c ∧ Ovr Z c.cls C
theorem Ovy.ext {C : String} (F : Ovy Z h a C) (E : Ext h h') : Ovy Z h' a C := by obtain ⟨c, q, r⟩ := F; exact ⟨c, E.2 _ _ q, r⟩
theorem Ovy.keep {C : String} (F : Ovy Z h a C) (K : Keep h h' ws) : Ovy Z h' a C := by
  obtain ⟨c, q, r⟩ := F
  obtain ⟨c', q', r', -⟩ := K.2.2 _ _ q
  exact ⟨c', q', by rw [r']; exact r⟩
theorem Ovy.wr {C : String} (F : Ovy Z h a C) (W : Wr h h' b sl v) : Ovy Z h' a C := F.keep (Keep.of_wr W)
theorem own_sto {C : String} {y : Addr} (F : Ary Z h a ty vs) (O : Ovy Z h a C) (I : Ins Z h y C true) : Sto Z h a (.ref y) := by
  obtain ⟨c, A, -⟩ := F
  obtain ⟨c', q, r⟩ := O
  cases A.1.symm.trans q
  exact Sto.of A r I
theorem own_newR (X : Stand p l e R s m args below meth c T locs cells slots) (hx : p.tables.exec = Jvm.exec) (hZ : Z.Warmed39 s.vm) {own C : String} {index : Nat} (hown : s.vm.findClass own = some m.cls) (w1 : (Jvm.Cond.classLink own index C).before a0 Z = true) (w2 : (Jvm.Cond.arrayOver (.object C)).before a0 Z = true) (eT : T.heap = h) {g : JFrame} (hg : g.method = m) (hd : decode c.code g.pc = .ok (.anewarray index, 3)) {n : Int32} {rest : List Value} (hs : g.stack = .int n :: rest)
    (hn : 0 ≤ n.toInt) {cap : Nat} (hcap : n.toInt ≤ cap) (hb : cap * 8 ≤ 536870912) (hc : cells + 1 ≤ R.cells) (hl : slots + cap ≤ R.slots) :
    ∃ T' h', Stand p l e R s m args below meth c T' locs (cells + 1) (slots + cap) ∧ T'.heap = h' ∧ Ext h h' ∧ Ary Z h' h.size (.object C) (List.replicate n.toNatClampNeg .null) ∧ Ovy Z h' h.size C ∧
      ∀ target, Steps p.tables e below (T'.setTop { g with pc := g.pc + 3, stack := .ref h.size :: rest }) target → Steps p.tables e below (T.setTop g) target := by
  have e1 := own_in hn
  have z : (0 : Int32).toInt = 0 := rfl
  obtain ⟨T', h', cA, X', e', E', A', O', st⟩ := newR X hx hZ hown w1 w2 eT hg hd hs (fun q => by rw [Int32.lt_iff_toInt_lt] at q; omega) (cap := cap) (by omega) hb hc hl
  exact ⟨T', h', X', e', E', Ary.new A' (by omega), ⟨_, A'.1, O'⟩, st⟩
theorem own_ldc (X : Stand p l e R s m args below meth c T locs cells slots) (hx : p.tables.exec = Jvm.exec) (hZ : Z.Warmed39 s.vm) {own : String} {index : Nat} {x : Int32} (hown : s.vm.findClass own = some m.cls) (w : (Jvm.Cond.constant own index x).before a0 Z = true) {g : JFrame} (hg : g.method = m) (hd : decode c.code g.pc = .ok (.ldc index, 2)) :
    ∀ target, Steps p.tables e below (T.setTop { g with pc := g.pc + 2, stack := .int x :: g.stack }) target → Steps p.tables e below (T.setTop g) target := fun t ht => X.ldcI hx hown (mvT hZ w) hg hd ht
end Own
theorem own_fitR {t : FieldType} {w : Value} (h1 : t.isReference = true) (h2 : w.isRef = true) : fits t w = true := by
  rcases ref_cases h2 with rfl | ⟨a, rfl⟩ <;> cases t <;> first | rfl | (simp [FieldType.isReference] at h1)

def GoW (p : Program) (e : Env) (below : List Frame) (s : State) (k n : Nat) (Q : Option Value → Heap → List Loc → Prop) (S : State) : Prop :=
  ∃ (U : State) (o : Outcome), Steps p.tables e below S U ∧ U.status = .running ∧ Ended U below o ∧ ∃ v L, o = .returned v ∧ Q v U.heap L ∧ ReturnedEndW s o U L k n
section OwnW
variable {p : Program} {l : Launch} {e : Env} {R : Room} {s : State} {m : MethodId} {args : Array Value} {below : List Frame} {meth : Method} {c : Code} {T : State} {locs : List Loc} {cells slots : Nat} {k n : Nat} {Q Q' : Option Value → Heap → List Loc → Prop} {S S' : State}
theorem GoW.st (f : ∀ t, Steps p.tables e below S' t → Steps p.tables e below S t) (g : GoW p e below s k n Q S') : GoW p e below s k n Q S := by
  obtain ⟨U, o, h1, r⟩ := g
  exact ⟨U, o, f _ h1, r⟩
theorem GoW.cast {g g' : JFrame} (q : g = g') (k' : GoW p e below s k n Q (T.setTop g')) : GoW p e below s k n Q (T.setTop g) := q ▸ k'
theorem GoW.ofGo (g : Go p e below s k n Q S) : GoW p e below s k n Q S := by
  obtain ⟨U, o, h1, h2, h3, v, L, h4, h5, h6⟩ := g
  exact ⟨U, o, h1, h2, h3, v, L, h4, h5, ReturnedEndW.of_narrow h6.1 h6.2.1 h6.2.2⟩
theorem GoW.since {vm₁ : Vm} {k1 : Nat} (hS : s.Since vm₁ k1) (g : Go p e below (s.setVm vm₁) k n Q' S) (hQ : ∀ v h L, Q' v h L → Q v h L ∧ k1 ≤ h.size) : GoW p e below s k n Q S := by
  obtain ⟨U, o, h1, h2, h3, v, L, h4, h5, h6⟩ := g
  obtain ⟨a, b, c'⟩ := hS.ended (U := U) h6.2.1 (hQ _ _ _ h5).2 h6.2.2
  exact ⟨U, o, h1, h2, h3, v, L, h4, (hQ _ _ _ h5).1, h6.1, a, b, c'⟩
theorem own_more {c' s' : Nat} (X : Stand p l e R s m args below meth c T locs cells slots) (h1 : cells ≤ c') (h2 : slots ≤ s') : Stand p l e R s m args below meth c T locs c' s' :=
  { admits := X.admits, cas := X.cas, clock := X.clock, frames := X.frames, room := X.room, hears := X.hears, method := X.method, code := X.code, here := X.here, tail := X.tail, warmed := X.warmed, limits := X.limits, bytes := X.bytes, same := X.same.mono h1 h2 }
def ConW (l : Launch) (Z : State) (y : MethodName) (bytes : ByteArray) (maxL : Nat) (ret : Option FieldType) (rm : Room) (as' : Array Value) (h0 : Heap) (Q : Option Value → Heap → List Loc → Prop) : Prop :=
  ∀ ws : List Jvm.Cond, MetFree l y (head1 (Jvm.Cond.code y bytes maxL ret :: ws) rm) (fun a U => a = as' ∧ Z.Warmed39 U.vm ∧ U.heap = h0) (fun _ _ _ _ _ => True) (fun _ U o U' => ∃ v L, o = .returned v ∧ Q v U'.heap L ∧ ReturnedEndW U o U' L rm.cells rm.slots)
theorem ConW.of {Z : State} {y : MethodName} {bytes : ByteArray} {maxL : Nat} {ret : Option FieldType} {rm : Room} {as' : Array Value} {h0 : Heap} (hp : plainFor y = true)
    (body : ∀ (p : Program) (e : Env) (s : State) (m : MethodId) (below : List Frame) (meth : Method) (c : Code) (s₁ : State), Stand p l e rm s m as' below meth c s₁ [] 0 0 → p.tables.exec = Jvm.exec → c.code = bytes → c.maxLocals = maxL → Z.Warmed39 s.vm → s.vm.findClass y.cls = some m.cls → meth.name = y.name → meth.sig.returnType = ret → meth.locks = false → s₁.heap = h0 →
      GoW p e below s rm.cells rm.slots Q (s₁.setTop (entryFrame m as' maxL))) : ConW l Z y bytes maxL ret rm as' h0 Q := by
  intro ws
  refine MetFree.of_bodySF hp hisR ?_
  intro p e s m args below meth c s₁ Bd hml hP hK
  obtain ⟨rfl, hZ, hh⟩ := hP
  obtain ⟨U, o, h1, h2, h3, h4⟩ := body p e s m below meth c s₁ (Stand.of_body Bd) Bd.exec Bd.bytes hml hZ (findClass_of_methodNamed Bd.named) (name_of_methodNamed Bd.named Bd.method).1 Bd.returns Bd.notSynchronized (by rw [← hh, Bd.state]; rfl)
  exact ⟨U, o, h1, h2, h3, h4⟩
end OwnW
theorem own_255 : (255 : Int32).toInt = 255 := by decide
theorem own_chr (x : Int32) : ¬ (255 : Int32) < (x &&& 255).toUInt32.toUInt16.toUInt32.toInt32 := by
  have h1 := c_mask x 255 8 (by decide) (by decide)
  have h2 := c_i2c (x &&& 255)
  rw [Int32.lt_iff_toInt_lt, own_255]
  omega
theorem own_chr2 (x : Int32) : nar .char ((x &&& 255).toUInt32.toUInt16.toUInt32.toInt32) = (x &&& 255).toUInt32.toUInt16.toUInt32.toInt32 := by
  have q := XT.narrow_c (x &&& 255)
  simpa [narrow, nar] using q
theorem own_coder : nar .byte ((XT.ushr (0 : Int32) 31).toInt8.toInt32) = 0 := by decide
theorem Go.imp {p : Program} {e : Env} {below : List Frame} {s : State} {k n : Nat} {Q Q' : Option Value → Heap → List Loc → Prop} {S : State} (g : Go p e below s k n Q S) (hq : ∀ v h L, Q v h L → Q' v h L) : Go p e below s k n Q' S := by
  obtain ⟨U, o, h1, h2, h3, v, L, h4, h5, h6⟩ := g
  exact ⟨U, o, h1, h2, h3, v, L, h4, hq _ _ _ h5, h6⟩
theorem own_strA {Z : State} {a0 : Array Value} (hw : ∀ d ∈ tables_1, d.before a0 Z = true) : ∀ a ∈ Bundle.stringAtoms, a.before a0 Z = true := by
  intro a ha
  simp only [Bundle.stringAtoms, List.mem_cons, List.not_mem_nil, or_false] at ha
  rcases ha with rfl | rfl | rfl | rfl | rfl | rfl | rfl
  · exact hw _ (List.mem_of_getElem? (i := 2) rfl)
  · exact hw _ (List.mem_of_getElem? (i := 1) rfl)
  · exact hw _ (List.mem_of_getElem? (i := 19) rfl)
  · exact hw _ (List.mem_of_getElem? (i := 29) rfl)
  · exact hw _ (List.mem_of_getElem? (i := 27) rfl)
  · exact hw _ (List.mem_of_getElem? (i := 72) rfl)
  · exact hw _ (List.mem_of_getElem? (i := 73) rfl)

theorem ef_rmCE (m : MethodId) (p1 : Int32) : entryFrame m #[(.int p1)] 1 = mkF m 0 #[.val (.int p1)] [] := by first | (simp [entryFrame, mkF, argsToLocals, Value.category]; done) | rfl
theorem pf_0 : plainFor (⟨"java/lang/StringLatin1", "canEncode", "(C)Z"⟩ : MethodName) = true := plainFor_of_name (by first | (simp [plainName, overriddenIn]; done) | decide +kernel)
theorem d1_0 : decode jdk_43_method_3_code 0 = .ok (.iload_n 0, 1) := by decide +kernel
theorem d1_1 : decode jdk_43_method_3_code 1 = .ok (.sipush 255, 3) := by decide +kernel
theorem d1_4 : decode jdk_43_method_3_code 4 = .ok (.if_icmp .gt 7, 3) := by decide +kernel
theorem d1_7 : decode jdk_43_method_3_code 7 = .ok (.iconst 1, 1) := by decide +kernel
theorem d1_8 : decode jdk_43_method_3_code 8 = .ok (.goto 4, 3) := by decide +kernel
theorem d1_12 : decode jdk_43_method_3_code 12 = .ok (.ireturn, 1) := by decide +kernel
set_option maxRecDepth 65536 in
set_option maxHeartbeats 1000000 in
theorem rmCE (l : Launch) (Z : State) (a0 : Array Value) (hw : ∀ d ∈ tables_1, d.before a0 Z = true) (p1 : Int32) (h0 : Heap) (n0 : Nat) (Z0 : n0 ≤ h0.size) (hp : ¬ (255 : Int32) < p1) :
    Con l Z (⟨"java/lang/StringLatin1", "canEncode", "(C)Z"⟩ : MethodName) jdk_43_method_3_code 1 (some .boolean) ({ frames := 0, cells := 0, slots := 0, locals := 0 } : Room) #[(.int p1)] h0 (fun v h L => v = some (.int 1) ∧ Fr n0 L ∧ h = h0) := by
  refine Con.of pf_0 ?_
  intro p e s m below meth c T0 X0 hx hby hml hZ hown hnm hret hlk e0
  have hown : s.vm.findClass "java/lang/StringLatin1" = some m.cls := hown
  have hnm : meth.name = "canEncode" := hnm
  have N0 := Fr.nil n0
  refine Go.cast (ef_rmCE m p1) ?_
  refine Go.st (S' := T0.setTop (mkF m 1 #[.val (.int p1)] [(.int p1)])) (fun t hr => XS.iloadN X0.here hx rfl (hb hby d1_0) rfl hr) ?_
  refine Go.st (S' := T0.setTop (mkF m 4 #[.val (.int p1)] [(.int (255 : Int32)), (.int p1)])) (fun t hr => XS.sipush X0.here hx rfl (hb hby d1_1) hr) ?_
  refine Go.st (S' := T0.setTop (mkF m 7 #[.val (.int p1)] [])) (fun t hr => XS.icmpNo X0.here hx rfl (hb hby d1_4) rfl (XT.ii_gt_f hp) hr) ?_
  refine Go.st (S' := T0.setTop (mkF m 8 #[.val (.int p1)] [(.int (1 : Int32))])) (fun t hr => XS.iconst X0.here hx rfl (hb hby d1_7) hr) ?_
  refine Go.st (S' := T0.setTop (mkF m 12 #[.val (.int p1)] [(.int (1 : Int32))])) (fun t hr => XS.goto X0.here hx rfl (pc0 := 8) (pc' := 12) rfl (hb hby d1_8) (by decide) (by decide) hr) ?_
  refine Go.retN X0 hx hlk (t := .boolean) hret (by simp) (hb hby d1_12) (by decide) (by decide) ?_
  try rw [e0]
  exact ⟨rfl, N0, rfl⟩
theorem ef_rmTB (m : MethodId) (p1 : Int32) : entryFrame m #[(.int p1)] 1 = mkF m 0 #[.val (.int p1)] [] := by first | (simp [entryFrame, mkF, argsToLocals, Value.category]; done) | rfl
theorem pf_1 : plainFor (⟨"java/lang/StringLatin1", "toBytes", "(C)[B"⟩ : MethodName) = true := plainFor_of_name (by first | (simp [plainName, overriddenIn]; done) | decide +kernel)
theorem d2_0 : decode jdk_43_method_46_code 0 = .ok (.iconst 1, 1) := by decide +kernel
theorem d2_1 : decode jdk_43_method_46_code 1 = .ok (.newarray .byte, 2) := by decide +kernel
theorem d2_3 : decode jdk_43_method_46_code 3 = .ok (.dup, 1) := by decide +kernel
theorem d2_4 : decode jdk_43_method_46_code 4 = .ok (.iconst 0, 1) := by decide +kernel
theorem d2_5 : decode jdk_43_method_46_code 5 = .ok (.iload_n 0, 1) := by decide +kernel
theorem d2_6 : decode jdk_43_method_46_code 6 = .ok (.i2b, 1) := by decide +kernel
theorem d2_7 : decode jdk_43_method_46_code 7 = .ok (.bastore, 1) := by decide +kernel
theorem d2_8 : decode jdk_43_method_46_code 8 = .ok (.areturn, 1) := by decide +kernel
set_option maxRecDepth 65536 in
set_option maxHeartbeats 1000000 in
theorem rmTB (l : Launch) (Z : State) (a0 : Array Value) (hw : ∀ d ∈ tables_1, d.before a0 Z = true) (p1 : Int32) (h0 : Heap) (n0 : Nat) (Z0 : n0 ≤ h0.size)  :
    Con l Z (⟨"java/lang/StringLatin1", "toBytes", "(C)[B"⟩ : MethodName) jdk_43_method_46_code 1 (some (.array .byte)) ({ frames := 0, cells := 1, slots := 1, locals := 0 } : Room) #[(.int p1)] h0 (fun v h L => ∃ a : Nat, v = some (.ref a) ∧ Fr n0 L ∧ Keep h0 h [] ∧ h0.size ≤ a) := by
  refine Con.of pf_1 ?_
  intro p e s m below meth c T0 X0 hx hby hml hZ hown hnm hret hlk e0
  have hown : s.vm.findClass "java/lang/StringLatin1" = some m.cls := hown
  have hnm : meth.name = "toBytes" := hnm
  have N0 := Fr.nil n0
  refine Go.cast (ef_rmTB m p1) ?_
  refine Go.st (S' := T0.setTop (mkF m 1 #[.val (.int p1)] [(.int (1 : Int32))])) (fun t hr => XS.iconst X0.here hx rfl (hb hby d2_0) hr) ?_
  obtain ⟨T_1, h_1, X_1, e_1, E_1, A_1, st_1⟩ := own_newP X0 hx hZ (ty := .byte) rfl (hw _ (List.mem_of_getElem? (i := 19) rfl)) e0 (g := (mkF m 1 #[.val (.int p1)] [(.int (1 : Int32))])) rfl (hb hby d2_1) rfl (by decide) (cap := 1) (by decide) (by decide) (by decide) (by decide)
  obtain ⟨ad_1, g_1⟩ : ∃ z, z = h0.size := ⟨_, rfl⟩
  rw [← g_1] at A_1 st_1
  have z_1 := E_1.1
  have y_1 := own_ltA A_1
  have B_1 : Ary Z h_1 ad_1 .byte [(.int (0 : Int32))] := A_1
  refine Go.st (S' := T_1.setTop (mkF m 3 #[.val (.int p1)] [(.ref ad_1)])) st_1 ?_
  refine Go.st (S' := T_1.setTop (mkF m 4 #[.val (.int p1)] [(.ref ad_1), (.ref ad_1)])) (fun t hr => XS.dup X_1.here hx rfl (hb hby d2_3) rfl rfl hr) ?_
  refine Go.st (S' := T_1.setTop (mkF m 5 #[.val (.int p1)] [(.int (0 : Int32)), (.ref ad_1), (.ref ad_1)])) (fun t hr => XS.iconst X_1.here hx rfl (hb hby d2_4) hr) ?_
  refine Go.st (S' := T_1.setTop (mkF m 6 #[.val (.int p1)] [(.int p1), (.int (0 : Int32)), (.ref ad_1), (.ref ad_1)])) (fun t hr => XS.iloadN X_1.here hx rfl (hb hby d2_5) rfl hr) ?_
  refine Go.st (S' := T_1.setTop (mkF m 7 #[.val (.int p1)] [(.int (p1.toInt8.toInt32)), (.int (0 : Int32)), (.ref ad_1), (.ref ad_1)])) (fun t hr => XT.i2b X_1.here hx rfl (hb hby d2_6) rfl hr) ?_
  obtain ⟨T_2, h_2, X_2, e_2, W_2, A_2, st_2⟩ := own_stB X_1 hx hZ e_1 B_1 (j := (0 : Int32)) (by decide) (by simp only [List.length_cons, List.length_nil]; decide) (g := (mkF m 7 #[.val (.int p1)] [(.int (p1.toInt8.toInt32)), (.int (0 : Int32)), (.ref ad_1), (.ref ad_1)])) rfl rfl (hb hby d2_7)
  have N_2 := Fr.snoc X_2 N0 (by omega)
  have z_2 := W_2.size
  have B_2 : Ary Z h_2 ad_1 .byte [(.int (nar .byte (p1.toInt8.toInt32)))] := A_2
  refine Go.st (S' := T_2.setTop (mkF m 8 #[.val (.int p1)] [(.ref ad_1)])) st_2 ?_
  refine Go.retA X_2 hx hlk (t := (.array .byte)) hret rfl rfl (hb hby d2_8) (by decide) (by decide) ?_
  try rw [e_2]
  exact ⟨ad_1, rfl, N_2, (((Keep.refl h0 []).ext E_1).wr W_2 (Or.inr (by omega))), by omega⟩
theorem ef_rmSB (m : MethodId) (a1 : Nat) (a2 : Nat) : entryFrame m #[(.ref a1), (.ref a2), (.int (0 : Int32))] 3 = mkF m 0 #[.val (.ref a1), .val (.ref a2), .val (.int (0 : Int32))] [] := by first | (simp [entryFrame, mkF, argsToLocals, Value.category]; done) | rfl
theorem pf_2 : plainFor (⟨"java/lang/String", "<init>", "([BB)V"⟩ : MethodName) = true := plainFor_of_name (by first | (simp [plainName, overriddenIn]; done) | decide +kernel)
theorem d3_0 : decode jdk_42_method_151_code 0 = .ok (.aload_n 0, 1) := by decide +kernel
theorem d3_1 : decode jdk_42_method_151_code 1 = .ok (.invokespecial 1, 3) := by decide +kernel
theorem d3_4 : decode jdk_42_method_151_code 4 = .ok (.aload_n 0, 1) := by decide +kernel
theorem d3_5 : decode jdk_42_method_151_code 5 = .ok (.aload_n 1, 1) := by decide +kernel
theorem d3_6 : decode jdk_42_method_151_code 6 = .ok (.putfield 9, 3) := by decide +kernel
theorem d3_9 : decode jdk_42_method_151_code 9 = .ok (.aload_n 0, 1) := by decide +kernel
theorem d3_10 : decode jdk_42_method_151_code 10 = .ok (.iload_n 2, 1) := by decide +kernel
theorem d3_11 : decode jdk_42_method_151_code 11 = .ok (.putfield 15, 3) := by decide +kernel
theorem d3_14 : decode jdk_42_method_151_code 14 = .ok (.return_, 1) := by decide +kernel
set_option maxRecDepth 65536 in
set_option maxHeartbeats 1000000 in
theorem rmSB (l : Launch) (Z : State) (a0 : Array Value) (hw : ∀ d ∈ tables_1, d.before a0 Z = true) (a1 : Nat) (a2 : Nat) (h0 : Heap) (n0 : Nat) (Z0 : n0 ≤ h0.size) (E1 : Exa Z h0 a1 "java/lang/String") (Fv : Fld Z h0 a1 "java/lang/String" "value" "[B" .null) (Fc : Fld Z h0 a1 "java/lang/String" "coder" "B" (.int 0)) (g1 : n0 ≤ a1) :
    Con l Z (⟨"java/lang/String", "<init>", "([BB)V"⟩ : MethodName) jdk_42_method_151_code 3 none ({ frames := 1, cells := 0, slots := 0, locals := 12 } : Room) #[(.ref a1), (.ref a2), (.int (0 : Int32))] h0 (fun v h L => v = none ∧ Fr n0 L ∧ Keep h0 h [a1]) := by
  refine Con.of pf_2 ?_
  intro p e s m below meth c T0 X0 hx hby hml hZ hown hnm hret hlk e0
  have hown : s.vm.findClass "java/lang/String" = some m.cls := hown
  have hnm : meth.name = "<init>" := hnm
  have N0 := Fr.nil n0
  refine Go.cast (ef_rmSB m a1 a2) ?_
  have lt_1 := own_ltE E1
  refine Go.st (S' := T0.setTop (mkF m 1 #[.val (.ref a1), .val (.ref a2), .val (.int (0 : Int32))] [(.ref a1)])) (fun t hr => XS.aloadN X0.here hx rfl (hb hby d3_0) rfl rfl hr) ?_
  obtain ⟨T_2, X_2, e_2, st_2⟩ := initO X0 hx hZ hown (hw _ (List.mem_of_getElem? (i := 11) rfl)) (hw _ (List.mem_of_getElem? (i := 12) rfl)) (hw _ (List.mem_of_getElem? (i := 13) rfl)) e0 (g := (mkF m 1 #[.val (.ref a1), .val (.ref a2), .val (.int (0 : Int32))] [(.ref a1)])) rfl (by rw [hml]; rfl) rfl (hb hby d3_1) (by decide) (W := 0) (by show 2 * 0 + _ ≤ _; exact Nat.le_of_eq rfl) (by decide)
  refine Go.st (S' := T_2.setTop (mkF m 4 #[.val (.ref a1), .val (.ref a2), .val (.int (0 : Int32))] [])) st_2 ?_
  refine Go.st (S' := T_2.setTop (mkF m 5 #[.val (.ref a1), .val (.ref a2), .val (.int (0 : Int32))] [(.ref a1)])) (fun t hr => XS.aloadN X_2.here hx rfl (hb hby d3_4) rfl rfl hr) ?_
  refine Go.st (S' := T_2.setTop (mkF m 6 #[.val (.ref a1), .val (.ref a2), .val (.int (0 : Int32))] [(.ref a2), (.ref a1)])) (fun t hr => XS.aloadN X_2.here hx rfl (hb hby d3_5) rfl rfl hr) ?_
  obtain ⟨T_3, h_3, X_3, e_3, W_3, st_3⟩ := putF X_2 hx hZ hown (host := "") (Or.inl (hw _ (List.mem_of_getElem? (i := 28) rfl))) Via.refl e_2 Fv E1 (Or.inr ⟨(hw _ (List.mem_of_getElem? (i := 29) rfl)), rfl, hnm⟩) (hw _ (List.mem_of_getElem? (i := 1) rfl)) (ty := (.array .byte)) (by decide) rfl rfl (g := (mkF m 6 #[.val (.ref a1), .val (.ref a2), .val (.int (0 : Int32))] [(.ref a2), (.ref a1)])) rfl rfl (hb hby d3_6)
  have N_3 := Fr.snoc X_3 N0 (by omega)
  have z_3 := W_3.size
  have F_3 := Fv.same W_3
  refine Go.st (S' := T_3.setTop (mkF m 9 #[.val (.ref a1), .val (.ref a2), .val (.int (0 : Int32))] [])) st_3 ?_
  refine Go.st (S' := T_3.setTop (mkF m 10 #[.val (.ref a1), .val (.ref a2), .val (.int (0 : Int32))] [(.ref a1)])) (fun t hr => XS.aloadN X_3.here hx rfl (hb hby d3_9) rfl rfl hr) ?_
  refine Go.st (S' := T_3.setTop (mkF m 11 #[.val (.ref a1), .val (.ref a2), .val (.int (0 : Int32))] [(.int (0 : Int32)), (.ref a1)])) (fun t hr => XS.iloadN X_3.here hx rfl (hb hby d3_10) rfl hr) ?_
  have F_4 := (Fc.other W_3 (Or.inr (slot_ne (t := .byte) (t' := (.array .byte)) (Or.inr (hw _ (List.mem_of_getElem? (i := 27) rfl))) (Or.inr (hw _ (List.mem_of_getElem? (i := 29) rfl))) (by decide) (by decide) (by decide))))
  have F_5 := (E1.wr W_3)
  obtain ⟨T_6, h_6, X_6, e_6, W_6, st_6⟩ := putF X_3 hx hZ hown (host := "") (Or.inl (hw _ (List.mem_of_getElem? (i := 26) rfl))) Via.refl e_3 F_4 F_5 (Or.inr ⟨(hw _ (List.mem_of_getElem? (i := 27) rfl)), rfl, hnm⟩) (hw _ (List.mem_of_getElem? (i := 1) rfl)) (ty := .byte) (by decide) rfl rfl (g := (mkF m 11 #[.val (.ref a1), .val (.ref a2), .val (.int (0 : Int32))] [(.int (0 : Int32)), (.ref a1)])) rfl rfl (hb hby d3_11)
  have N_6 := Fr.snoc X_6 N_3 (by omega)
  have z_6 := W_6.size
  have F_6 := F_4.same W_6
  refine Go.st (S' := T_6.setTop (mkF m 14 #[.val (.ref a1), .val (.ref a2), .val (.int (0 : Int32))] [])) st_6 ?_
  refine Go.retV X_6 hx hlk hret (hb hby d3_14) (by decide) (by decide) ?_
  try rw [e_6]
  exact ⟨rfl, N_6, (((Keep.refl h0 [a1]).wr W_3 (Or.inl (by simp))).wr W_6 (Or.inl (by simp)))⟩
theorem ef_rmVO (m : MethodId) (p1 : Int32) : entryFrame m #[(.int p1)] 1 = mkF m 0 #[.val (.int p1)] [] := by first | (simp [entryFrame, mkF, argsToLocals, Value.category]; done) | rfl
theorem pf_3 : plainFor (⟨"java/lang/String", "valueOf", "(C)Ljava/lang/String;"⟩ : MethodName) = true := plainFor_of_name (by first | (simp [plainName, overriddenIn]; done) | decide +kernel)
theorem pd_0 : parseMethodDescriptor "(C)Z" = some ⟨[.char], some .boolean⟩ := by decide +kernel
theorem pd_1 : parseMethodDescriptor "(C)[B" = some ⟨[.char], some (.array .byte)⟩ := by decide +kernel
theorem pd_2 : parseMethodDescriptor "([BB)V" = some ⟨[(.array .byte), .byte], none⟩ := by decide +kernel
theorem d4_0 : decode jdk_42_method_139_code 0 = .ok (.getstatic 38, 3) := by decide +kernel
theorem d4_3 : decode jdk_42_method_139_code 3 = .ok (.ifCond .eq 23, 3) := by decide +kernel
theorem d4_6 : decode jdk_42_method_139_code 6 = .ok (.iload_n 0, 1) := by decide +kernel
theorem d4_7 : decode jdk_42_method_139_code 7 = .ok (.invokestatic 1015, 3) := by decide +kernel
theorem d4_10 : decode jdk_42_method_139_code 10 = .ok (.ifCond .eq 16, 3) := by decide +kernel
theorem d4_13 : decode jdk_42_method_139_code 13 = .ok (.new 10, 3) := by decide +kernel
theorem d4_16 : decode jdk_42_method_139_code 16 = .ok (.dup, 1) := by decide +kernel
theorem d4_17 : decode jdk_42_method_139_code 17 = .ok (.iload_n 0, 1) := by decide +kernel
theorem d4_18 : decode jdk_42_method_139_code 18 = .ok (.invokestatic 1018, 3) := by decide +kernel
theorem d4_21 : decode jdk_42_method_139_code 21 = .ok (.iconst 0, 1) := by decide +kernel
theorem d4_22 : decode jdk_42_method_139_code 22 = .ok (.invokespecial 209, 3) := by decide +kernel
theorem d4_25 : decode jdk_42_method_139_code 25 = .ok (.areturn, 1) := by decide +kernel
set_option maxRecDepth 65536 in
set_option maxHeartbeats 1000000 in
theorem rmVO (l : Launch) (Z : State) (a0 : Array Value) (hw : ∀ d ∈ tables_1, d.before a0 Z = true) (p1 : Int32) (h0 : Heap) (n0 : Nat) (Z0 : n0 ≤ h0.size) (vcs : Int32) (hcs : ¬ vcs = 0) (O0 : Old Z n0 h0) (SCS : Sta Z Z.heap "java/lang/String" "COMPACT_STRINGS" "Z" (.int vcs)) (hp : ¬ (255 : Int32) < p1) :
    Con l Z (⟨"java/lang/String", "valueOf", "(C)Ljava/lang/String;"⟩ : MethodName) jdk_42_method_139_code 1 (some (.object "java/lang/String")) ({ frames := 2, cells := 2, slots := 5, locals := 27 } : Room) #[(.int p1)] h0 (fun v h L => ∃ a : Nat, v = some (.ref a) ∧ Fr n0 L ∧ Keep h0 h [] ∧ h0.size ≤ a) := by
  refine Con.of pf_3 ?_
  intro p e s m below meth c T0 X0 hx hby hml hZ hown hnm hret hlk e0
  have hown : s.vm.findClass "java/lang/String" = some m.cls := hown
  have hnm : meth.name = "valueOf" := hnm
  have N0 := Fr.nil n0
  refine Go.cast (ef_rmVO m p1) ?_
  obtain ⟨T_1, X_1, e_1, st_1⟩ := getS2 X0 hx hZ hown (host := "") (Or.inl (hw _ (List.mem_of_getElem? (i := 14) rfl))) Via.refl e0 (SCS.ext O0.2) (g := (mkF m 0 #[.val (.int p1)] [])) rfl (hb hby d4_0)
  refine Go.st (S' := T_1.setTop (mkF m 3 #[.val (.int p1)] [(.int vcs)])) st_1 ?_
  refine Go.st (S' := T_1.setTop (mkF m 6 #[.val (.int p1)] [])) (fun t hr => XS.ifNo X_1.here hx rfl (hb hby d4_3) rfl (XT.i0_eq_f hcs) hr) ?_
  refine Go.st (S' := T_1.setTop (mkF m 7 #[.val (.int p1)] [(.int p1)])) (fun t hr => XS.iloadN X_1.here hx rfl (hb hby d4_6) rfl hr) ?_
  obtain ⟨v_2, T_2, h_2, L_2, X_2, e_2, Q_2, st_2⟩ := own_callS X_1 hx hZ (y := ⟨"java/lang/StringLatin1", "canEncode", "(C)Z"⟩) hown (hw _ (List.mem_of_getElem? (i := 60) rfl)) (hw _ (List.mem_of_getElem? (i := 61) rfl)) (hw _ (List.mem_of_getElem? (i := 62) rfl)) (hw _ (List.mem_of_getElem? (i := 63) rfl)) (by decide) e_1 (argsL := [(.int p1)]) (rest := []) (rmCE l Z a0 hw p1 h0 n0 (by omega) hp) (g := (mkF m 7 #[.val (.int p1)] [(.int p1)])) rfl (by rw [hml]; rfl) (lenOf pd_0 rfl) rfl (hb hby d4_7) (W := 0) (by show 2 * 0 + _ ≤ _; exact Nat.le_of_eq rfl) (by decide) (by decide) (by decide) (by decide)
  obtain ⟨rfl, N_2, hh_2⟩ := Q_2
  have N_2' := Fr.app N0 N_2
  rw [hh_2] at e_2
  refine Go.st (S' := T_2.setTop (mkF m 10 #[.val (.int p1)] [(.int (1 : Int32))])) st_2 ?_
  refine Go.st (S' := T_2.setTop (mkF m 13 #[.val (.int p1)] [])) (fun t hr => XS.ifNo X_2.here hx rfl (hb hby d4_10) rfl (XT.i0_eq_f (by decide)) hr) ?_
  obtain ⟨T_3, h_3, X_3, e_3, E_3, A_3, D_3, -, st_3⟩ := newO X_2 hx hZ hown (hw _ (List.mem_of_getElem? (i := 64) rfl)) (hw _ (List.mem_of_getElem? (i := 1) rfl)) (hw _ (List.mem_of_getElem? (i := 2) rfl)) e_2 (g := (mkF m 13 #[.val (.int p1)] [])) rfl (hb hby d4_13) (by decide) (by decide)
  obtain ⟨ad_3, g_3⟩ : ∃ z, z = h0.size := ⟨_, rfl⟩
  rw [← g_3] at A_3 D_3 st_3
  have z_3 := E_3.1
  have y_3 := own_ltE A_3
  have F_3_coder : Fld Z h_3 ad_3 "java/lang/String" "coder" "B" (.int (0 : Int32)) := D_3 (Or.inr (hw _ (List.mem_of_getElem? (i := 27) rfl))) (ty := .byte) (by decide)
  have F_3_value : Fld Z h_3 ad_3 "java/lang/String" "value" "[B" .null := D_3 (Or.inr (hw _ (List.mem_of_getElem? (i := 29) rfl))) (ty := (.array .byte)) (by decide)
  refine Go.st (S' := T_3.setTop (mkF m 16 #[.val (.int p1)] [(.ref ad_3)])) st_3 ?_
  refine Go.st (S' := T_3.setTop (mkF m 17 #[.val (.int p1)] [(.ref ad_3), (.ref ad_3)])) (fun t hr => XS.dup X_3.here hx rfl (hb hby d4_16) rfl rfl hr) ?_
  refine Go.st (S' := T_3.setTop (mkF m 18 #[.val (.int p1)] [(.int p1), (.ref ad_3), (.ref ad_3)])) (fun t hr => XS.iloadN X_3.here hx rfl (hb hby d4_17) rfl hr) ?_
  obtain ⟨v_4, T_4, h_4, L_4, X_4, e_4, Q_4, st_4⟩ := own_callS X_3 hx hZ (y := ⟨"java/lang/StringLatin1", "toBytes", "(C)[B"⟩) hown (hw _ (List.mem_of_getElem? (i := 65) rfl)) (hw _ (List.mem_of_getElem? (i := 66) rfl)) (hw _ (List.mem_of_getElem? (i := 62) rfl)) (hw _ (List.mem_of_getElem? (i := 67) rfl)) (by decide) e_3 (argsL := [(.int p1)]) (rest := [(.ref ad_3), (.ref ad_3)]) (rmTB l Z a0 hw p1 h_3 n0 (by omega)) (g := (mkF m 18 #[.val (.int p1)] [(.int p1), (.ref ad_3), (.ref ad_3)])) rfl (by rw [hml]; rfl) (lenOf pd_1 rfl) rfl (hb hby d4_18) (W := 2) (by show 2 * 0 + _ ≤ _; exact Nat.le_of_eq rfl) (by decide) (by decide) (by decide) (by decide)
  obtain ⟨tb_4, rfl, N_4, K_4, g_4⟩ := Q_4
  have N_4' := Fr.app N_2' N_4
  have z_4 := K_4.1
  refine Go.st (S' := T_4.setTop (mkF m 21 #[.val (.int p1)] [(.ref tb_4), (.ref ad_3), (.ref ad_3)])) st_4 ?_
  refine Go.st (S' := T_4.setTop (mkF m 22 #[.val (.int p1)] [(.int (0 : Int32)), (.ref tb_4), (.ref ad_3), (.ref ad_3)])) (fun t hr => XS.iconst X_4.here hx rfl (hb hby d4_21) hr) ?_
  have F_5 := (A_3.keep K_4)
  have F_6 := (F_3_value.keep K_4 nin0)
  have F_7 := (F_3_coder.keep K_4 nin0)
  obtain ⟨v_8, T_8, h_8, L_8, X_8, e_8, Q_8, st_8⟩ := own_callN X_4 hx hZ (y := ⟨"java/lang/String", "<init>", "([BB)V"⟩) rfl hown (hw _ (List.mem_of_getElem? (i := 68) rfl)) (hw _ (List.mem_of_getElem? (i := 69) rfl)) (hw _ (List.mem_of_getElem? (i := 2) rfl)) (hw _ (List.mem_of_getElem? (i := 70) rfl)) (by decide) e_4 (a := ad_3) (argsL := [(.ref tb_4), (.int (0 : Int32))]) (rest := [(.ref ad_3)]) (rmSB l Z a0 hw ad_3 tb_4 h_4 n0 (by omega) F_5 F_6 F_7 (by omega)) (g := (mkF m 22 #[.val (.int p1)] [(.int (0 : Int32)), (.ref tb_4), (.ref ad_3), (.ref ad_3)])) rfl (by rw [hml]; rfl) (lenOf pd_2 rfl) rfl (hb hby d4_22) (W := 1) (by show 2 * 0 + _ ≤ _; exact Nat.le_of_eq rfl) (by decide) (by decide) (by decide) (by decide)
  obtain ⟨rfl, N_8, K_8⟩ := Q_8
  have N_8' := Fr.app N_4' N_8
  have z_8 := K_8.1
  refine Go.st (S' := T_8.setTop (mkF m 25 #[.val (.int p1)] [(.ref ad_3)])) st_8 ?_
  refine Go.retA X_8 hx hlk (t := (.object "java/lang/String")) hret rfl rfl (hb hby d4_25) (by decide) (by decide) ?_
  try rw [e_8]
  exact ⟨ad_3, rfl, N_8', ((((Keep.refl h0 []).ext E_3).trans K_4 all0).trans K_8 (by intro x hxx; simp only [List.mem_cons, List.not_mem_nil, or_false] at hxx; rcases hxx with rfl; · exact Or.inr (by omega))), by omega⟩
theorem ef_rmCM (m : MethodId) (a1 : Nat) (a3 : Nat) : entryFrame m #[(.ref a1), (.int (0 : Int32)), (.ref a3), (.int (0 : Int32)), (.int (3 : Int32))] 7 = mkF m 0 #[.val (.ref a1), .val (.int (0 : Int32)), .val (.ref a3), .val (.int (0 : Int32)), .val (.int (3 : Int32)), .unset, .unset] [] := by first | (simp [entryFrame, mkF, argsToLocals, Value.category]; done) | rfl
theorem pf_4 : plainFor (⟨"java/lang/StringUTF16", "compress", "([CI[BII)I"⟩ : MethodName) = true := plainFor_of_name (by first | (simp [plainName, overriddenIn]; done) | decide +kernel)
theorem d5_0 : decode jdk_52_method_21_code 0 = .ok (.iconst 0, 1) := by decide +kernel
theorem d5_1 : decode jdk_52_method_21_code 1 = .ok (.istore 5, 2) := by decide +kernel
theorem d5_3 : decode jdk_52_method_21_code 3 = .ok (.iload 5, 2) := by decide +kernel
theorem d5_5 : decode jdk_52_method_21_code 5 = .ok (.iload 4, 2) := by decide +kernel
theorem d5_7 : decode jdk_52_method_21_code 7 = .ok (.if_icmp .ge 37, 3) := by decide +kernel
theorem d5_10 : decode jdk_52_method_21_code 10 = .ok (.aload_n 0, 1) := by decide +kernel
theorem d5_11 : decode jdk_52_method_21_code 11 = .ok (.iload_n 1, 1) := by decide +kernel
theorem d5_12 : decode jdk_52_method_21_code 12 = .ok (.caload, 1) := by decide +kernel
theorem d5_13 : decode jdk_52_method_21_code 13 = .ok (.istore 6, 2) := by decide +kernel
theorem d5_15 : decode jdk_52_method_21_code 15 = .ok (.iload 6, 2) := by decide +kernel
theorem d5_17 : decode jdk_52_method_21_code 17 = .ok (.sipush 255, 3) := by decide +kernel
theorem d5_20 : decode jdk_52_method_21_code 20 = .ok (.if_icmp .le 6, 3) := by decide +kernel
theorem d5_26 : decode jdk_52_method_21_code 26 = .ok (.aload_n 2, 1) := by decide +kernel
theorem d5_27 : decode jdk_52_method_21_code 27 = .ok (.iload_n 3, 1) := by decide +kernel
theorem d5_28 : decode jdk_52_method_21_code 28 = .ok (.iload 6, 2) := by decide +kernel
theorem d5_30 : decode jdk_52_method_21_code 30 = .ok (.i2b, 1) := by decide +kernel
theorem d5_31 : decode jdk_52_method_21_code 31 = .ok (.bastore, 1) := by decide +kernel
theorem d5_32 : decode jdk_52_method_21_code 32 = .ok (.iinc 1 1, 3) := by decide +kernel
theorem d5_35 : decode jdk_52_method_21_code 35 = .ok (.iinc 3 1, 3) := by decide +kernel
theorem d5_38 : decode jdk_52_method_21_code 38 = .ok (.iinc 5 1, 3) := by decide +kernel
theorem d5_41 : decode jdk_52_method_21_code 41 = .ok (.goto (-38), 3) := by decide +kernel
theorem d5_44 : decode jdk_52_method_21_code 44 = .ok (.iload 4, 2) := by decide +kernel
theorem d5_46 : decode jdk_52_method_21_code 46 = .ok (.ireturn, 1) := by decide +kernel
set_option maxRecDepth 65536 in
set_option maxHeartbeats 1000000 in
theorem rmCM (l : Launch) (Z : State) (a0 : Array Value) (hw : ∀ d ∈ tables_1, d.before a0 Z = true) (a1 : Nat) (a3 : Nat) (h0 : Heap) (n0 : Nat) (Z0 : n0 ≤ h0.size) (c0 c1 c2 : Int32) (Ac : Ary Z h0 a1 .char [.int c0, .int c1, .int c2]) (q0 : ¬ (255 : Int32) < c0) (q1 : ¬ (255 : Int32) < c1) (q2 : ¬ (255 : Int32) < c2) (b0 b1 b2 : Value) (Ab : Ary Z h0 a3 .byte [b0, b1, b2]) (g3 : n0 ≤ a3) (hne : a1 ≠ a3) :
    Con l Z (⟨"java/lang/StringUTF16", "compress", "([CI[BII)I"⟩ : MethodName) jdk_52_method_21_code 7 (some .int) ({ frames := 0, cells := 0, slots := 0, locals := 0 } : Room) #[(.ref a1), (.int (0 : Int32)), (.ref a3), (.int (0 : Int32)), (.int (3 : Int32))] h0 (fun v h L => v = some (.int 3) ∧ Fr n0 L ∧ Keep h0 h [a3] ∧ ∃ bs : List Value, Ary Z h a3 .byte bs ∧ bs.length = 3) := by
  refine Con.of pf_4 ?_
  intro p e s m below meth c T0 X0 hx hby hml hZ hown hnm hret hlk e0
  have hown : s.vm.findClass "java/lang/StringUTF16" = some m.cls := hown
  have hnm : meth.name = "compress" := hnm
  have N0 := Fr.nil n0
  refine Go.cast (ef_rmCM m a1 a3) ?_
  have lt_1 := own_ltA Ac
  have lt_2 := own_ltA Ab
  refine Go.st (S' := T0.setTop (mkF m 1 #[.val (.ref a1), .val (.int (0 : Int32)), .val (.ref a3), .val (.int (0 : Int32)), .val (.int (3 : Int32)), .unset, .unset] [(.int (0 : Int32))])) (fun t hr => XS.iconst X0.here hx rfl (hb hby d5_0) hr) ?_
  refine Go.st (S' := T0.setTop (mkF m 3 #[.val (.ref a1), .val (.int (0 : Int32)), .val (.ref a3), .val (.int (0 : Int32)), .val (.int (3 : Int32)), .val (.int (0 : Int32)), .unset] [])) (fun t hr => XS.istore X0.here hx rfl (hb hby d5_1) rfl (l' := #[.val (.ref a1), .val (.int (0 : Int32)), .val (.ref a3), .val (.int (0 : Int32)), .val (.int (3 : Int32)), .val (.int (0 : Int32)), .unset]) rfl hr) ?_
  refine Go.st (S' := T0.setTop (mkF m 5 #[.val (.ref a1), .val (.int (0 : Int32)), .val (.ref a3), .val (.int (0 : Int32)), .val (.int (3 : Int32)), .val (.int (0 : Int32)), .unset] [(.int (0 : Int32))])) (fun t hr => XS.iload X0.here hx rfl (hb hby d5_3) rfl hr) ?_
  refine Go.st (S' := T0.setTop (mkF m 7 #[.val (.ref a1), .val (.int (0 : Int32)), .val (.ref a3), .val (.int (0 : Int32)), .val (.int (3 : Int32)), .val (.int (0 : Int32)), .unset] [(.int (3 : Int32)), (.int (0 : Int32))])) (fun t hr => XS.iload X0.here hx rfl (hb hby d5_5) rfl hr) ?_
  refine Go.st (S' := T0.setTop (mkF m 10 #[.val (.ref a1), .val (.int (0 : Int32)), .val (.ref a3), .val (.int (0 : Int32)), .val (.int (3 : Int32)), .val (.int (0 : Int32)), .unset] [])) (fun t hr => XS.icmpNo X0.here hx rfl (hb hby d5_7) rfl (XT.ii_ge_f (by decide)) hr) ?_
  refine Go.st (S' := T0.setTop (mkF m 11 #[.val (.ref a1), .val (.int (0 : Int32)), .val (.ref a3), .val (.int (0 : Int32)), .val (.int (3 : Int32)), .val (.int (0 : Int32)), .unset] [(.ref a1)])) (fun t hr => XS.aloadN X0.here hx rfl (hb hby d5_10) rfl rfl hr) ?_
  refine Go.st (S' := T0.setTop (mkF m 12 #[.val (.ref a1), .val (.int (0 : Int32)), .val (.ref a3), .val (.int (0 : Int32)), .val (.int (3 : Int32)), .val (.int (0 : Int32)), .unset] [(.int (0 : Int32)), (.ref a1)])) (fun t hr => XS.iloadN X0.here hx rfl (hb hby d5_11) rfl hr) ?_
  refine Go.st (S' := T0.setTop (mkF m 13 #[.val (.ref a1), .val (.int (0 : Int32)), .val (.ref a3), .val (.int (0 : Int32)), .val (.int (3 : Int32)), .val (.int (0 : Int32)), .unset] [(.int c0)])) (own_ldC X0 hx hZ e0 Ac (j := (0 : Int32)) (v := (.int c0)) (by decide) (by simp only [List.length_cons, List.length_nil]; decide) rfl (g := (mkF m 12 #[.val (.ref a1), .val (.int (0 : Int32)), .val (.ref a3), .val (.int (0 : Int32)), .val (.int (3 : Int32)), .val (.int (0 : Int32)), .unset] [(.int (0 : Int32)), (.ref a1)])) rfl rfl (hb hby d5_12)) ?_
  refine Go.st (S' := T0.setTop (mkF m 15 #[.val (.ref a1), .val (.int (0 : Int32)), .val (.ref a3), .val (.int (0 : Int32)), .val (.int (3 : Int32)), .val (.int (0 : Int32)), .val (.int c0)] [])) (fun t hr => XS.istore X0.here hx rfl (hb hby d5_13) rfl (l' := #[.val (.ref a1), .val (.int (0 : Int32)), .val (.ref a3), .val (.int (0 : Int32)), .val (.int (3 : Int32)), .val (.int (0 : Int32)), .val (.int c0)]) rfl hr) ?_
  refine Go.st (S' := T0.setTop (mkF m 17 #[.val (.ref a1), .val (.int (0 : Int32)), .val (.ref a3), .val (.int (0 : Int32)), .val (.int (3 : Int32)), .val (.int (0 : Int32)), .val (.int c0)] [(.int c0)])) (fun t hr => XS.iload X0.here hx rfl (hb hby d5_15) rfl hr) ?_
  refine Go.st (S' := T0.setTop (mkF m 20 #[.val (.ref a1), .val (.int (0 : Int32)), .val (.ref a3), .val (.int (0 : Int32)), .val (.int (3 : Int32)), .val (.int (0 : Int32)), .val (.int c0)] [(.int (255 : Int32)), (.int c0)])) (fun t hr => XS.sipush X0.here hx rfl (hb hby d5_17) hr) ?_
  refine Go.st (S' := T0.setTop (mkF m 26 #[.val (.ref a1), .val (.int (0 : Int32)), .val (.ref a3), .val (.int (0 : Int32)), .val (.int (3 : Int32)), .val (.int (0 : Int32)), .val (.int c0)] [])) (fun t hr => XS.icmpYes X0.here hx rfl (pc0 := 20) (pc' := 26) rfl (hb hby d5_20) rfl (XT.ii_le_t q0) (by decide) (by decide) hr) ?_
  refine Go.st (S' := T0.setTop (mkF m 27 #[.val (.ref a1), .val (.int (0 : Int32)), .val (.ref a3), .val (.int (0 : Int32)), .val (.int (3 : Int32)), .val (.int (0 : Int32)), .val (.int c0)] [(.ref a3)])) (fun t hr => XS.aloadN X0.here hx rfl (hb hby d5_26) rfl rfl hr) ?_
  refine Go.st (S' := T0.setTop (mkF m 28 #[.val (.ref a1), .val (.int (0 : Int32)), .val (.ref a3), .val (.int (0 : Int32)), .val (.int (3 : Int32)), .val (.int (0 : Int32)), .val (.int c0)] [(.int (0 : Int32)), (.ref a3)])) (fun t hr => XS.iloadN X0.here hx rfl (hb hby d5_27) rfl hr) ?_
  refine Go.st (S' := T0.setTop (mkF m 30 #[.val (.ref a1), .val (.int (0 : Int32)), .val (.ref a3), .val (.int (0 : Int32)), .val (.int (3 : Int32)), .val (.int (0 : Int32)), .val (.int c0)] [(.int c0), (.int (0 : Int32)), (.ref a3)])) (fun t hr => XS.iload X0.here hx rfl (hb hby d5_28) rfl hr) ?_
  refine Go.st (S' := T0.setTop (mkF m 31 #[.val (.ref a1), .val (.int (0 : Int32)), .val (.ref a3), .val (.int (0 : Int32)), .val (.int (3 : Int32)), .val (.int (0 : Int32)), .val (.int c0)] [(.int (c0.toInt8.toInt32)), (.int (0 : Int32)), (.ref a3)])) (fun t hr => XT.i2b X0.here hx rfl (hb hby d5_30) rfl hr) ?_
  obtain ⟨T_3, h_3, X_3, e_3, W_3, A_3, st_3⟩ := own_stB X0 hx hZ e0 Ab (j := (0 : Int32)) (by decide) (by simp only [List.length_cons, List.length_nil]; decide) (g := (mkF m 31 #[.val (.ref a1), .val (.int (0 : Int32)), .val (.ref a3), .val (.int (0 : Int32)), .val (.int (3 : Int32)), .val (.int (0 : Int32)), .val (.int c0)] [(.int (c0.toInt8.toInt32)), (.int (0 : Int32)), (.ref a3)])) rfl rfl (hb hby d5_31)
  have N_3 := Fr.snoc X_3 N0 (by omega)
  have z_3 := W_3.size
  have B_3 : Ary Z h_3 a3 .byte [(.int (nar .byte (c0.toInt8.toInt32))), b1, b2] := A_3
  refine Go.st (S' := T_3.setTop (mkF m 32 #[.val (.ref a1), .val (.int (0 : Int32)), .val (.ref a3), .val (.int (0 : Int32)), .val (.int (3 : Int32)), .val (.int (0 : Int32)), .val (.int c0)] [])) st_3 ?_
  refine Go.st (S' := T_3.setTop (mkF m 35 #[.val (.ref a1), .val (.int (1 : Int32)), .val (.ref a3), .val (.int (0 : Int32)), .val (.int (3 : Int32)), .val (.int (0 : Int32)), .val (.int c0)] [])) (fun t hr => XS.iinc X_3.here hx rfl (hb hby d5_32) rfl (l' := #[.val (.ref a1), .val (.int (1 : Int32)), .val (.ref a3), .val (.int (0 : Int32)), .val (.int (3 : Int32)), .val (.int (0 : Int32)), .val (.int c0)]) rfl hr) ?_
  refine Go.st (S' := T_3.setTop (mkF m 38 #[.val (.ref a1), .val (.int (1 : Int32)), .val (.ref a3), .val (.int (1 : Int32)), .val (.int (3 : Int32)), .val (.int (0 : Int32)), .val (.int c0)] [])) (fun t hr => XS.iinc X_3.here hx rfl (hb hby d5_35) rfl (l' := #[.val (.ref a1), .val (.int (1 : Int32)), .val (.ref a3), .val (.int (1 : Int32)), .val (.int (3 : Int32)), .val (.int (0 : Int32)), .val (.int c0)]) rfl hr) ?_
  refine Go.st (S' := T_3.setTop (mkF m 41 #[.val (.ref a1), .val (.int (1 : Int32)), .val (.ref a3), .val (.int (1 : Int32)), .val (.int (3 : Int32)), .val (.int (1 : Int32)), .val (.int c0)] [])) (fun t hr => XS.iinc X_3.here hx rfl (hb hby d5_38) rfl (l' := #[.val (.ref a1), .val (.int (1 : Int32)), .val (.ref a3), .val (.int (1 : Int32)), .val (.int (3 : Int32)), .val (.int (1 : Int32)), .val (.int c0)]) rfl hr) ?_
  refine Go.st (S' := T_3.setTop (mkF m 3 #[.val (.ref a1), .val (.int (1 : Int32)), .val (.ref a3), .val (.int (1 : Int32)), .val (.int (3 : Int32)), .val (.int (1 : Int32)), .val (.int c0)] [])) (fun t hr => XS.goto X_3.here hx rfl (pc0 := 41) (pc' := 3) rfl (hb hby d5_41) (by decide) (by decide) hr) ?_
  refine Go.st (S' := T_3.setTop (mkF m 5 #[.val (.ref a1), .val (.int (1 : Int32)), .val (.ref a3), .val (.int (1 : Int32)), .val (.int (3 : Int32)), .val (.int (1 : Int32)), .val (.int c0)] [(.int (1 : Int32))])) (fun t hr => XS.iload X_3.here hx rfl (hb hby d5_3) rfl hr) ?_
  refine Go.st (S' := T_3.setTop (mkF m 7 #[.val (.ref a1), .val (.int (1 : Int32)), .val (.ref a3), .val (.int (1 : Int32)), .val (.int (3 : Int32)), .val (.int (1 : Int32)), .val (.int c0)] [(.int (3 : Int32)), (.int (1 : Int32))])) (fun t hr => XS.iload X_3.here hx rfl (hb hby d5_5) rfl hr) ?_
  refine Go.st (S' := T_3.setTop (mkF m 10 #[.val (.ref a1), .val (.int (1 : Int32)), .val (.ref a3), .val (.int (1 : Int32)), .val (.int (3 : Int32)), .val (.int (1 : Int32)), .val (.int c0)] [])) (fun t hr => XS.icmpNo X_3.here hx rfl (hb hby d5_7) rfl (XT.ii_ge_f (by decide)) hr) ?_
  refine Go.st (S' := T_3.setTop (mkF m 11 #[.val (.ref a1), .val (.int (1 : Int32)), .val (.ref a3), .val (.int (1 : Int32)), .val (.int (3 : Int32)), .val (.int (1 : Int32)), .val (.int c0)] [(.ref a1)])) (fun t hr => XS.aloadN X_3.here hx rfl (hb hby d5_10) rfl rfl hr) ?_
  refine Go.st (S' := T_3.setTop (mkF m 12 #[.val (.ref a1), .val (.int (1 : Int32)), .val (.ref a3), .val (.int (1 : Int32)), .val (.int (3 : Int32)), .val (.int (1 : Int32)), .val (.int c0)] [(.int (1 : Int32)), (.ref a1)])) (fun t hr => XS.iloadN X_3.here hx rfl (hb hby d5_11) rfl hr) ?_
  have F_4 := (Ac.other W_3 (own_ne (by omega)))
  refine Go.st (S' := T_3.setTop (mkF m 13 #[.val (.ref a1), .val (.int (1 : Int32)), .val (.ref a3), .val (.int (1 : Int32)), .val (.int (3 : Int32)), .val (.int (1 : Int32)), .val (.int c0)] [(.int c1)])) (own_ldC X_3 hx hZ e_3 F_4 (j := (1 : Int32)) (v := (.int c1)) (by decide) (by simp only [List.length_cons, List.length_nil]; decide) rfl (g := (mkF m 12 #[.val (.ref a1), .val (.int (1 : Int32)), .val (.ref a3), .val (.int (1 : Int32)), .val (.int (3 : Int32)), .val (.int (1 : Int32)), .val (.int c0)] [(.int (1 : Int32)), (.ref a1)])) rfl rfl (hb hby d5_12)) ?_
  refine Go.st (S' := T_3.setTop (mkF m 15 #[.val (.ref a1), .val (.int (1 : Int32)), .val (.ref a3), .val (.int (1 : Int32)), .val (.int (3 : Int32)), .val (.int (1 : Int32)), .val (.int c1)] [])) (fun t hr => XS.istore X_3.here hx rfl (hb hby d5_13) rfl (l' := #[.val (.ref a1), .val (.int (1 : Int32)), .val (.ref a3), .val (.int (1 : Int32)), .val (.int (3 : Int32)), .val (.int (1 : Int32)), .val (.int c1)]) rfl hr) ?_
  refine Go.st (S' := T_3.setTop (mkF m 17 #[.val (.ref a1), .val (.int (1 : Int32)), .val (.ref a3), .val (.int (1 : Int32)), .val (.int (3 : Int32)), .val (.int (1 : Int32)), .val (.int c1)] [(.int c1)])) (fun t hr => XS.iload X_3.here hx rfl (hb hby d5_15) rfl hr) ?_
  refine Go.st (S' := T_3.setTop (mkF m 20 #[.val (.ref a1), .val (.int (1 : Int32)), .val (.ref a3), .val (.int (1 : Int32)), .val (.int (3 : Int32)), .val (.int (1 : Int32)), .val (.int c1)] [(.int (255 : Int32)), (.int c1)])) (fun t hr => XS.sipush X_3.here hx rfl (hb hby d5_17) hr) ?_
  refine Go.st (S' := T_3.setTop (mkF m 26 #[.val (.ref a1), .val (.int (1 : Int32)), .val (.ref a3), .val (.int (1 : Int32)), .val (.int (3 : Int32)), .val (.int (1 : Int32)), .val (.int c1)] [])) (fun t hr => XS.icmpYes X_3.here hx rfl (pc0 := 20) (pc' := 26) rfl (hb hby d5_20) rfl (XT.ii_le_t q1) (by decide) (by decide) hr) ?_
  refine Go.st (S' := T_3.setTop (mkF m 27 #[.val (.ref a1), .val (.int (1 : Int32)), .val (.ref a3), .val (.int (1 : Int32)), .val (.int (3 : Int32)), .val (.int (1 : Int32)), .val (.int c1)] [(.ref a3)])) (fun t hr => XS.aloadN X_3.here hx rfl (hb hby d5_26) rfl rfl hr) ?_
  refine Go.st (S' := T_3.setTop (mkF m 28 #[.val (.ref a1), .val (.int (1 : Int32)), .val (.ref a3), .val (.int (1 : Int32)), .val (.int (3 : Int32)), .val (.int (1 : Int32)), .val (.int c1)] [(.int (1 : Int32)), (.ref a3)])) (fun t hr => XS.iloadN X_3.here hx rfl (hb hby d5_27) rfl hr) ?_
  refine Go.st (S' := T_3.setTop (mkF m 30 #[.val (.ref a1), .val (.int (1 : Int32)), .val (.ref a3), .val (.int (1 : Int32)), .val (.int (3 : Int32)), .val (.int (1 : Int32)), .val (.int c1)] [(.int c1), (.int (1 : Int32)), (.ref a3)])) (fun t hr => XS.iload X_3.here hx rfl (hb hby d5_28) rfl hr) ?_
  refine Go.st (S' := T_3.setTop (mkF m 31 #[.val (.ref a1), .val (.int (1 : Int32)), .val (.ref a3), .val (.int (1 : Int32)), .val (.int (3 : Int32)), .val (.int (1 : Int32)), .val (.int c1)] [(.int (c1.toInt8.toInt32)), (.int (1 : Int32)), (.ref a3)])) (fun t hr => XT.i2b X_3.here hx rfl (hb hby d5_30) rfl hr) ?_
  obtain ⟨T_5, h_5, X_5, e_5, W_5, A_5, st_5⟩ := own_stB X_3 hx hZ e_3 B_3 (j := (1 : Int32)) (by decide) (by simp only [List.length_cons, List.length_nil]; decide) (g := (mkF m 31 #[.val (.ref a1), .val (.int (1 : Int32)), .val (.ref a3), .val (.int (1 : Int32)), .val (.int (3 : Int32)), .val (.int (1 : Int32)), .val (.int c1)] [(.int (c1.toInt8.toInt32)), (.int (1 : Int32)), (.ref a3)])) rfl rfl (hb hby d5_31)
  have N_5 := Fr.snoc X_5 N_3 (by omega)
  have z_5 := W_5.size
  have B_5 : Ary Z h_5 a3 .byte [(.int (nar .byte (c0.toInt8.toInt32))), (.int (nar .byte (c1.toInt8.toInt32))), b2] := A_5
  refine Go.st (S' := T_5.setTop (mkF m 32 #[.val (.ref a1), .val (.int (1 : Int32)), .val (.ref a3), .val (.int (1 : Int32)), .val (.int (3 : Int32)), .val (.int (1 : Int32)), .val (.int c1)] [])) st_5 ?_
  refine Go.st (S' := T_5.setTop (mkF m 35 #[.val (.ref a1), .val (.int (2 : Int32)), .val (.ref a3), .val (.int (1 : Int32)), .val (.int (3 : Int32)), .val (.int (1 : Int32)), .val (.int c1)] [])) (fun t hr => XS.iinc X_5.here hx rfl (hb hby d5_32) rfl (l' := #[.val (.ref a1), .val (.int (2 : Int32)), .val (.ref a3), .val (.int (1 : Int32)), .val (.int (3 : Int32)), .val (.int (1 : Int32)), .val (.int c1)]) rfl hr) ?_
  refine Go.st (S' := T_5.setTop (mkF m 38 #[.val (.ref a1), .val (.int (2 : Int32)), .val (.ref a3), .val (.int (2 : Int32)), .val (.int (3 : Int32)), .val (.int (1 : Int32)), .val (.int c1)] [])) (fun t hr => XS.iinc X_5.here hx rfl (hb hby d5_35) rfl (l' := #[.val (.ref a1), .val (.int (2 : Int32)), .val (.ref a3), .val (.int (2 : Int32)), .val (.int (3 : Int32)), .val (.int (1 : Int32)), .val (.int c1)]) rfl hr) ?_
  refine Go.st (S' := T_5.setTop (mkF m 41 #[.val (.ref a1), .val (.int (2 : Int32)), .val (.ref a3), .val (.int (2 : Int32)), .val (.int (3 : Int32)), .val (.int (2 : Int32)), .val (.int c1)] [])) (fun t hr => XS.iinc X_5.here hx rfl (hb hby d5_38) rfl (l' := #[.val (.ref a1), .val (.int (2 : Int32)), .val (.ref a3), .val (.int (2 : Int32)), .val (.int (3 : Int32)), .val (.int (2 : Int32)), .val (.int c1)]) rfl hr) ?_
  refine Go.st (S' := T_5.setTop (mkF m 3 #[.val (.ref a1), .val (.int (2 : Int32)), .val (.ref a3), .val (.int (2 : Int32)), .val (.int (3 : Int32)), .val (.int (2 : Int32)), .val (.int c1)] [])) (fun t hr => XS.goto X_5.here hx rfl (pc0 := 41) (pc' := 3) rfl (hb hby d5_41) (by decide) (by decide) hr) ?_
  refine Go.st (S' := T_5.setTop (mkF m 5 #[.val (.ref a1), .val (.int (2 : Int32)), .val (.ref a3), .val (.int (2 : Int32)), .val (.int (3 : Int32)), .val (.int (2 : Int32)), .val (.int c1)] [(.int (2 : Int32))])) (fun t hr => XS.iload X_5.here hx rfl (hb hby d5_3) rfl hr) ?_
  refine Go.st (S' := T_5.setTop (mkF m 7 #[.val (.ref a1), .val (.int (2 : Int32)), .val (.ref a3), .val (.int (2 : Int32)), .val (.int (3 : Int32)), .val (.int (2 : Int32)), .val (.int c1)] [(.int (3 : Int32)), (.int (2 : Int32))])) (fun t hr => XS.iload X_5.here hx rfl (hb hby d5_5) rfl hr) ?_
  refine Go.st (S' := T_5.setTop (mkF m 10 #[.val (.ref a1), .val (.int (2 : Int32)), .val (.ref a3), .val (.int (2 : Int32)), .val (.int (3 : Int32)), .val (.int (2 : Int32)), .val (.int c1)] [])) (fun t hr => XS.icmpNo X_5.here hx rfl (hb hby d5_7) rfl (XT.ii_ge_f (by decide)) hr) ?_
  refine Go.st (S' := T_5.setTop (mkF m 11 #[.val (.ref a1), .val (.int (2 : Int32)), .val (.ref a3), .val (.int (2 : Int32)), .val (.int (3 : Int32)), .val (.int (2 : Int32)), .val (.int c1)] [(.ref a1)])) (fun t hr => XS.aloadN X_5.here hx rfl (hb hby d5_10) rfl rfl hr) ?_
  refine Go.st (S' := T_5.setTop (mkF m 12 #[.val (.ref a1), .val (.int (2 : Int32)), .val (.ref a3), .val (.int (2 : Int32)), .val (.int (3 : Int32)), .val (.int (2 : Int32)), .val (.int c1)] [(.int (2 : Int32)), (.ref a1)])) (fun t hr => XS.iloadN X_5.here hx rfl (hb hby d5_11) rfl hr) ?_
  have F_6 := (F_4.other W_5 (own_ne (by omega)))
  refine Go.st (S' := T_5.setTop (mkF m 13 #[.val (.ref a1), .val (.int (2 : Int32)), .val (.ref a3), .val (.int (2 : Int32)), .val (.int (3 : Int32)), .val (.int (2 : Int32)), .val (.int c1)] [(.int c2)])) (own_ldC X_5 hx hZ e_5 F_6 (j := (2 : Int32)) (v := (.int c2)) (by decide) (by simp only [List.length_cons, List.length_nil]; decide) rfl (g := (mkF m 12 #[.val (.ref a1), .val (.int (2 : Int32)), .val (.ref a3), .val (.int (2 : Int32)), .val (.int (3 : Int32)), .val (.int (2 : Int32)), .val (.int c1)] [(.int (2 : Int32)), (.ref a1)])) rfl rfl (hb hby d5_12)) ?_
  refine Go.st (S' := T_5.setTop (mkF m 15 #[.val (.ref a1), .val (.int (2 : Int32)), .val (.ref a3), .val (.int (2 : Int32)), .val (.int (3 : Int32)), .val (.int (2 : Int32)), .val (.int c2)] [])) (fun t hr => XS.istore X_5.here hx rfl (hb hby d5_13) rfl (l' := #[.val (.ref a1), .val (.int (2 : Int32)), .val (.ref a3), .val (.int (2 : Int32)), .val (.int (3 : Int32)), .val (.int (2 : Int32)), .val (.int c2)]) rfl hr) ?_
  refine Go.st (S' := T_5.setTop (mkF m 17 #[.val (.ref a1), .val (.int (2 : Int32)), .val (.ref a3), .val (.int (2 : Int32)), .val (.int (3 : Int32)), .val (.int (2 : Int32)), .val (.int c2)] [(.int c2)])) (fun t hr => XS.iload X_5.here hx rfl (hb hby d5_15) rfl hr) ?_
  refine Go.st (S' := T_5.setTop (mkF m 20 #[.val (.ref a1), .val (.int (2 : Int32)), .val (.ref a3), .val (.int (2 : Int32)), .val (.int (3 : Int32)), .val (.int (2 : Int32)), .val (.int c2)] [(.int (255 : Int32)), (.int c2)])) (fun t hr => XS.sipush X_5.here hx rfl (hb hby d5_17) hr) ?_
  refine Go.st (S' := T_5.setTop (mkF m 26 #[.val (.ref a1), .val (.int (2 : Int32)), .val (.ref a3), .val (.int (2 : Int32)), .val (.int (3 : Int32)), .val (.int (2 : Int32)), .val (.int c2)] [])) (fun t hr => XS.icmpYes X_5.here hx rfl (pc0 := 20) (pc' := 26) rfl (hb hby d5_20) rfl (XT.ii_le_t q2) (by decide) (by decide) hr) ?_
  refine Go.st (S' := T_5.setTop (mkF m 27 #[.val (.ref a1), .val (.int (2 : Int32)), .val (.ref a3), .val (.int (2 : Int32)), .val (.int (3 : Int32)), .val (.int (2 : Int32)), .val (.int c2)] [(.ref a3)])) (fun t hr => XS.aloadN X_5.here hx rfl (hb hby d5_26) rfl rfl hr) ?_
  refine Go.st (S' := T_5.setTop (mkF m 28 #[.val (.ref a1), .val (.int (2 : Int32)), .val (.ref a3), .val (.int (2 : Int32)), .val (.int (3 : Int32)), .val (.int (2 : Int32)), .val (.int c2)] [(.int (2 : Int32)), (.ref a3)])) (fun t hr => XS.iloadN X_5.here hx rfl (hb hby d5_27) rfl hr) ?_
  refine Go.st (S' := T_5.setTop (mkF m 30 #[.val (.ref a1), .val (.int (2 : Int32)), .val (.ref a3), .val (.int (2 : Int32)), .val (.int (3 : Int32)), .val (.int (2 : Int32)), .val (.int c2)] [(.int c2), (.int (2 : Int32)), (.ref a3)])) (fun t hr => XS.iload X_5.here hx rfl (hb hby d5_28) rfl hr) ?_
  refine Go.st (S' := T_5.setTop (mkF m 31 #[.val (.ref a1), .val (.int (2 : Int32)), .val (.ref a3), .val (.int (2 : Int32)), .val (.int (3 : Int32)), .val (.int (2 : Int32)), .val (.int c2)] [(.int (c2.toInt8.toInt32)), (.int (2 : Int32)), (.ref a3)])) (fun t hr => XT.i2b X_5.here hx rfl (hb hby d5_30) rfl hr) ?_
  obtain ⟨T_7, h_7, X_7, e_7, W_7, A_7, st_7⟩ := own_stB X_5 hx hZ e_5 B_5 (j := (2 : Int32)) (by decide) (by simp only [List.length_cons, List.length_nil]; decide) (g := (mkF m 31 #[.val (.ref a1), .val (.int (2 : Int32)), .val (.ref a3), .val (.int (2 : Int32)), .val (.int (3 : Int32)), .val (.int (2 : Int32)), .val (.int c2)] [(.int (c2.toInt8.toInt32)), (.int (2 : Int32)), (.ref a3)])) rfl rfl (hb hby d5_31)
  have N_7 := Fr.snoc X_7 N_5 (by omega)
  have z_7 := W_7.size
  have B_7 : Ary Z h_7 a3 .byte [(.int (nar .byte (c0.toInt8.toInt32))), (.int (nar .byte (c1.toInt8.toInt32))), (.int (nar .byte (c2.toInt8.toInt32)))] := A_7
  refine Go.st (S' := T_7.setTop (mkF m 32 #[.val (.ref a1), .val (.int (2 : Int32)), .val (.ref a3), .val (.int (2 : Int32)), .val (.int (3 : Int32)), .val (.int (2 : Int32)), .val (.int c2)] [])) st_7 ?_
  refine Go.st (S' := T_7.setTop (mkF m 35 #[.val (.ref a1), .val (.int (3 : Int32)), .val (.ref a3), .val (.int (2 : Int32)), .val (.int (3 : Int32)), .val (.int (2 : Int32)), .val (.int c2)] [])) (fun t hr => XS.iinc X_7.here hx rfl (hb hby d5_32) rfl (l' := #[.val (.ref a1), .val (.int (3 : Int32)), .val (.ref a3), .val (.int (2 : Int32)), .val (.int (3 : Int32)), .val (.int (2 : Int32)), .val (.int c2)]) rfl hr) ?_
  refine Go.st (S' := T_7.setTop (mkF m 38 #[.val (.ref a1), .val (.int (3 : Int32)), .val (.ref a3), .val (.int (3 : Int32)), .val (.int (3 : Int32)), .val (.int (2 : Int32)), .val (.int c2)] [])) (fun t hr => XS.iinc X_7.here hx rfl (hb hby d5_35) rfl (l' := #[.val (.ref a1), .val (.int (3 : Int32)), .val (.ref a3), .val (.int (3 : Int32)), .val (.int (3 : Int32)), .val (.int (2 : Int32)), .val (.int c2)]) rfl hr) ?_
  refine Go.st (S' := T_7.setTop (mkF m 41 #[.val (.ref a1), .val (.int (3 : Int32)), .val (.ref a3), .val (.int (3 : Int32)), .val (.int (3 : Int32)), .val (.int (3 : Int32)), .val (.int c2)] [])) (fun t hr => XS.iinc X_7.here hx rfl (hb hby d5_38) rfl (l' := #[.val (.ref a1), .val (.int (3 : Int32)), .val (.ref a3), .val (.int (3 : Int32)), .val (.int (3 : Int32)), .val (.int (3 : Int32)), .val (.int c2)]) rfl hr) ?_
  refine Go.st (S' := T_7.setTop (mkF m 3 #[.val (.ref a1), .val (.int (3 : Int32)), .val (.ref a3), .val (.int (3 : Int32)), .val (.int (3 : Int32)), .val (.int (3 : Int32)), .val (.int c2)] [])) (fun t hr => XS.goto X_7.here hx rfl (pc0 := 41) (pc' := 3) rfl (hb hby d5_41) (by decide) (by decide) hr) ?_
  refine Go.st (S' := T_7.setTop (mkF m 5 #[.val (.ref a1), .val (.int (3 : Int32)), .val (.ref a3), .val (.int (3 : Int32)), .val (.int (3 : Int32)), .val (.int (3 : Int32)), .val (.int c2)] [(.int (3 : Int32))])) (fun t hr => XS.iload X_7.here hx rfl (hb hby d5_3) rfl hr) ?_
  refine Go.st (S' := T_7.setTop (mkF m 7 #[.val (.ref a1), .val (.int (3 : Int32)), .val (.ref a3), .val (.int (3 : Int32)), .val (.int (3 : Int32)), .val (.int (3 : Int32)), .val (.int c2)] [(.int (3 : Int32)), (.int (3 : Int32))])) (fun t hr => XS.iload X_7.here hx rfl (hb hby d5_5) rfl hr) ?_
  refine Go.st (S' := T_7.setTop (mkF m 44 #[.val (.ref a1), .val (.int (3 : Int32)), .val (.ref a3), .val (.int (3 : Int32)), .val (.int (3 : Int32)), .val (.int (3 : Int32)), .val (.int c2)] [])) (fun t hr => XS.icmpYes X_7.here hx rfl (pc0 := 7) (pc' := 44) rfl (hb hby d5_7) rfl (XT.ii_ge_t (by decide)) (by decide) (by decide) hr) ?_
  refine Go.st (S' := T_7.setTop (mkF m 46 #[.val (.ref a1), .val (.int (3 : Int32)), .val (.ref a3), .val (.int (3 : Int32)), .val (.int (3 : Int32)), .val (.int (3 : Int32)), .val (.int c2)] [(.int (3 : Int32))])) (fun t hr => XS.iload X_7.here hx rfl (hb hby d5_44) rfl hr) ?_
  refine Go.retI X_7 hx hlk hret (hb hby d5_46) (by decide) (by decide) ?_
  try rw [e_7]
  exact ⟨rfl, N_7, ((((Keep.refl h0 [a3]).wr W_3 (Or.inl (by simp))).wr W_5 (Or.inl (by simp))).wr W_7 (Or.inl (by simp))), _, B_7, rfl⟩
theorem ef_rmC2 (m : MethodId) (a1 : Nat) : entryFrame m #[(.ref a1), (.int (0 : Int32)), (.int (3 : Int32))] 6 = mkF m 0 #[.val (.ref a1), .val (.int (0 : Int32)), .val (.int (3 : Int32)), .unset, .unset, .unset] [] := by first | (simp [entryFrame, mkF, argsToLocals, Value.category]; done) | rfl
theorem pf_5 : plainFor (⟨"java/lang/StringUTF16", "compress", "([CII)[B"⟩ : MethodName) = true := plainFor_of_name (by first | (simp [plainName, overriddenIn]; done) | decide +kernel)
theorem pd_3 : parseMethodDescriptor "([CI[BII)I" = some ⟨[(.array .char), .int, (.array .byte), .int, .int], some .int⟩ := by decide +kernel
theorem d6_0 : decode jdk_52_method_16_code 0 = .ok (.iload_n 2, 1) := by decide +kernel
theorem d6_1 : decode jdk_52_method_16_code 1 = .ok (.newarray .byte, 2) := by decide +kernel
theorem d6_3 : decode jdk_52_method_16_code 3 = .ok (.astore_n 3, 1) := by decide +kernel
theorem d6_4 : decode jdk_52_method_16_code 4 = .ok (.aload_n 0, 1) := by decide +kernel
theorem d6_5 : decode jdk_52_method_16_code 5 = .ok (.iload_n 1, 1) := by decide +kernel
theorem d6_6 : decode jdk_52_method_16_code 6 = .ok (.aload_n 3, 1) := by decide +kernel
theorem d6_7 : decode jdk_52_method_16_code 7 = .ok (.iconst 0, 1) := by decide +kernel
theorem d6_8 : decode jdk_52_method_16_code 8 = .ok (.iload_n 2, 1) := by decide +kernel
theorem d6_9 : decode jdk_52_method_16_code 9 = .ok (.invokestatic 115, 3) := by decide +kernel
theorem d6_12 : decode jdk_52_method_16_code 12 = .ok (.istore 4, 2) := by decide +kernel
theorem d6_14 : decode jdk_52_method_16_code 14 = .ok (.iload 4, 2) := by decide +kernel
theorem d6_16 : decode jdk_52_method_16_code 16 = .ok (.iload_n 2, 1) := by decide +kernel
theorem d6_17 : decode jdk_52_method_16_code 17 = .ok (.if_icmp .eq 40, 3) := by decide +kernel
theorem d6_57 : decode jdk_52_method_16_code 57 = .ok (.aload_n 3, 1) := by decide +kernel
theorem d6_58 : decode jdk_52_method_16_code 58 = .ok (.areturn, 1) := by decide +kernel
set_option maxRecDepth 65536 in
set_option maxHeartbeats 1000000 in
theorem rmC2 (l : Launch) (Z : State) (a0 : Array Value) (hw : ∀ d ∈ tables_1, d.before a0 Z = true) (a1 : Nat) (h0 : Heap) (n0 : Nat) (Z0 : n0 ≤ h0.size) (c0 c1 c2 : Int32) (Ac : Ary Z h0 a1 .char [.int c0, .int c1, .int c2]) (q0 : ¬ (255 : Int32) < c0) (q1 : ¬ (255 : Int32) < c1) (q2 : ¬ (255 : Int32) < c2) :
    Con l Z (⟨"java/lang/StringUTF16", "compress", "([CII)[B"⟩ : MethodName) jdk_52_method_16_code 6 (some (.array .byte)) ({ frames := 1, cells := 1, slots := 3, locals := 18 } : Room) #[(.ref a1), (.int (0 : Int32)), (.int (3 : Int32))] h0 (fun v h L => ∃ a : Nat, v = some (.ref a) ∧ Fr n0 L ∧ Keep h0 h [] ∧ h0.size ≤ a ∧ ∃ bs : List Value, Ary Z h a .byte bs ∧ bs.length = 3) := by
  refine Con.of pf_5 ?_
  intro p e s m below meth c T0 X0 hx hby hml hZ hown hnm hret hlk e0
  have hown : s.vm.findClass "java/lang/StringUTF16" = some m.cls := hown
  have hnm : meth.name = "compress" := hnm
  have N0 := Fr.nil n0
  refine Go.cast (ef_rmC2 m a1) ?_
  have lt_1 := own_ltA Ac
  refine Go.st (S' := T0.setTop (mkF m 1 #[.val (.ref a1), .val (.int (0 : Int32)), .val (.int (3 : Int32)), .unset, .unset, .unset] [(.int (3 : Int32))])) (fun t hr => XS.iloadN X0.here hx rfl (hb hby d6_0) rfl hr) ?_
  obtain ⟨T_2, h_2, X_2, e_2, E_2, A_2, st_2⟩ := own_newP X0 hx hZ (ty := .byte) rfl (hw _ (List.mem_of_getElem? (i := 19) rfl)) e0 (g := (mkF m 1 #[.val (.ref a1), .val (.int (0 : Int32)), .val (.int (3 : Int32)), .unset, .unset, .unset] [(.int (3 : Int32))])) rfl (hb hby d6_1) rfl (by decide) (cap := 3) (by decide) (by decide) (by decide) (by decide)
  obtain ⟨ad_2, g_2⟩ : ∃ z, z = h0.size := ⟨_, rfl⟩
  rw [← g_2] at A_2 st_2
  have z_2 := E_2.1
  have y_2 := own_ltA A_2
  have B_2 : Ary Z h_2 ad_2 .byte [(.int (0 : Int32)), (.int (0 : Int32)), (.int (0 : Int32))] := A_2
  refine Go.st (S' := T_2.setTop (mkF m 3 #[.val (.ref a1), .val (.int (0 : Int32)), .val (.int (3 : Int32)), .unset, .unset, .unset] [(.ref ad_2)])) st_2 ?_
  refine Go.st (S' := T_2.setTop (mkF m 4 #[.val (.ref a1), .val (.int (0 : Int32)), .val (.int (3 : Int32)), .val (.ref ad_2), .unset, .unset] [])) (fun t hr => XS.astoreN X_2.here hx rfl (hb hby d6_3) rfl rfl (l' := #[.val (.ref a1), .val (.int (0 : Int32)), .val (.int (3 : Int32)), .val (.ref ad_2), .unset, .unset]) rfl hr) ?_
  refine Go.st (S' := T_2.setTop (mkF m 5 #[.val (.ref a1), .val (.int (0 : Int32)), .val (.int (3 : Int32)), .val (.ref ad_2), .unset, .unset] [(.ref a1)])) (fun t hr => XS.aloadN X_2.here hx rfl (hb hby d6_4) rfl rfl hr) ?_
  refine Go.st (S' := T_2.setTop (mkF m 6 #[.val (.ref a1), .val (.int (0 : Int32)), .val (.int (3 : Int32)), .val (.ref ad_2), .unset, .unset] [(.int (0 : Int32)), (.ref a1)])) (fun t hr => XS.iloadN X_2.here hx rfl (hb hby d6_5) rfl hr) ?_
  refine Go.st (S' := T_2.setTop (mkF m 7 #[.val (.ref a1), .val (.int (0 : Int32)), .val (.int (3 : Int32)), .val (.ref ad_2), .unset, .unset] [(.ref ad_2), (.int (0 : Int32)), (.ref a1)])) (fun t hr => XS.aloadN X_2.here hx rfl (hb hby d6_6) rfl rfl hr) ?_
  refine Go.st (S' := T_2.setTop (mkF m 8 #[.val (.ref a1), .val (.int (0 : Int32)), .val (.int (3 : Int32)), .val (.ref ad_2), .unset, .unset] [(.int (0 : Int32)), (.ref ad_2), (.int (0 : Int32)), (.ref a1)])) (fun t hr => XS.iconst X_2.here hx rfl (hb hby d6_7) hr) ?_
  refine Go.st (S' := T_2.setTop (mkF m 9 #[.val (.ref a1), .val (.int (0 : Int32)), .val (.int (3 : Int32)), .val (.ref ad_2), .unset, .unset] [(.int (3 : Int32)), (.int (0 : Int32)), (.ref ad_2), (.int (0 : Int32)), (.ref a1)])) (fun t hr => XS.iloadN X_2.here hx rfl (hb hby d6_8) rfl hr) ?_
  have F_3 := (Ac.ext E_2)
  obtain ⟨v_4, T_4, h_4, L_4, X_4, e_4, Q_4, st_4⟩ := own_callS X_2 hx hZ (y := ⟨"java/lang/StringUTF16", "compress", "([CI[BII)I"⟩) hown (hw _ (List.mem_of_getElem? (i := 20) rfl)) (hw _ (List.mem_of_getElem? (i := 21) rfl)) (hw _ (List.mem_of_getElem? (i := 17) rfl)) (hw _ (List.mem_of_getElem? (i := 22) rfl)) (by decide) e_2 (argsL := [(.ref a1), (.int (0 : Int32)), (.ref ad_2), (.int (0 : Int32)), (.int (3 : Int32))]) (rest := []) (rmCM l Z a0 hw a1 ad_2 h_2 n0 (by omega) c0 c1 c2 F_3 q0 q1 q2 (.int 0) (.int 0) (.int 0) B_2 (by omega) (own_ne (by omega))) (g := (mkF m 9 #[.val (.ref a1), .val (.int (0 : Int32)), .val (.int (3 : Int32)), .val (.ref ad_2), .unset, .unset] [(.int (3 : Int32)), (.int (0 : Int32)), (.ref ad_2), (.int (0 : Int32)), (.ref a1)])) rfl (by rw [hml]; rfl) (lenOf pd_3 rfl) rfl (hb hby d6_9) (W := 0) (by show 2 * 0 + _ ≤ _; exact Nat.le_of_eq rfl) (by decide) (by decide) (by decide) (by decide)
  obtain ⟨rfl, N_4, K_4, bs_4, B_4, l_4⟩ := Q_4
  have N_4' := Fr.app N0 N_4
  have z_4 := K_4.1
  refine Go.st (S' := T_4.setTop (mkF m 12 #[.val (.ref a1), .val (.int (0 : Int32)), .val (.int (3 : Int32)), .val (.ref ad_2), .unset, .unset] [(.int (3 : Int32))])) st_4 ?_
  refine Go.st (S' := T_4.setTop (mkF m 14 #[.val (.ref a1), .val (.int (0 : Int32)), .val (.int (3 : Int32)), .val (.ref ad_2), .val (.int (3 : Int32)), .unset] [])) (fun t hr => XS.istore X_4.here hx rfl (hb hby d6_12) rfl (l' := #[.val (.ref a1), .val (.int (0 : Int32)), .val (.int (3 : Int32)), .val (.ref ad_2), .val (.int (3 : Int32)), .unset]) rfl hr) ?_
  refine Go.st (S' := T_4.setTop (mkF m 16 #[.val (.ref a1), .val (.int (0 : Int32)), .val (.int (3 : Int32)), .val (.ref ad_2), .val (.int (3 : Int32)), .unset] [(.int (3 : Int32))])) (fun t hr => XS.iload X_4.here hx rfl (hb hby d6_14) rfl hr) ?_
  refine Go.st (S' := T_4.setTop (mkF m 17 #[.val (.ref a1), .val (.int (0 : Int32)), .val (.int (3 : Int32)), .val (.ref ad_2), .val (.int (3 : Int32)), .unset] [(.int (3 : Int32)), (.int (3 : Int32))])) (fun t hr => XS.iloadN X_4.here hx rfl (hb hby d6_16) rfl hr) ?_
  refine Go.st (S' := T_4.setTop (mkF m 57 #[.val (.ref a1), .val (.int (0 : Int32)), .val (.int (3 : Int32)), .val (.ref ad_2), .val (.int (3 : Int32)), .unset] [])) (fun t hr => XS.icmpYes X_4.here hx rfl (pc0 := 17) (pc' := 57) rfl (hb hby d6_17) rfl (XT.ii_eq_t (by decide)) (by decide) (by decide) hr) ?_
  refine Go.st (S' := T_4.setTop (mkF m 58 #[.val (.ref a1), .val (.int (0 : Int32)), .val (.int (3 : Int32)), .val (.ref ad_2), .val (.int (3 : Int32)), .unset] [(.ref ad_2)])) (fun t hr => XS.aloadN X_4.here hx rfl (hb hby d6_57) rfl rfl hr) ?_
  refine Go.retA X_4 hx hlk (t := (.array .byte)) hret rfl rfl (hb hby d6_58) (by decide) (by decide) ?_
  try rw [e_4]
  exact ⟨ad_2, rfl, N_4', (((Keep.refl h0 []).ext E_2).trans K_4 (by intro x hxx; simp only [List.mem_cons, List.not_mem_nil, or_false] at hxx; rcases hxx with rfl; · exact Or.inr (by omega))), by omega, _, B_4, l_4⟩
theorem ef_rmCF (m : MethodId) (a1 : Nat) : entryFrame m #[(.ref a1), (.int (3 : Int32))] 2 = mkF m 0 #[.val (.ref a1), .val (.int (3 : Int32))] [] := by first | (simp [entryFrame, mkF, argsToLocals, Value.category]; done) | rfl
theorem pf_6 : plainFor (⟨"java/lang/StringUTF16", "coderFromArrayLen", "([BI)B"⟩ : MethodName) = true := plainFor_of_name (by first | (simp [plainName, overriddenIn]; done) | decide +kernel)
theorem d7_0 : decode jdk_52_method_15_code 0 = .ok (.iload_n 1, 1) := by decide +kernel
theorem d7_1 : decode jdk_52_method_15_code 1 = .ok (.aload_n 0, 1) := by decide +kernel
theorem d7_2 : decode jdk_52_method_15_code 2 = .ok (.arraylength, 1) := by decide +kernel
theorem d7_3 : decode jdk_52_method_15_code 3 = .ok (.isub, 1) := by decide +kernel
theorem d7_4 : decode jdk_52_method_15_code 4 = .ok (.bipush 31, 2) := by decide +kernel
theorem d7_6 : decode jdk_52_method_15_code 6 = .ok (.iushr, 1) := by decide +kernel
theorem d7_7 : decode jdk_52_method_15_code 7 = .ok (.i2b, 1) := by decide +kernel
theorem d7_8 : decode jdk_52_method_15_code 8 = .ok (.ireturn, 1) := by decide +kernel
set_option maxRecDepth 65536 in
set_option maxHeartbeats 1000000 in
theorem rmCF (l : Launch) (Z : State) (a0 : Array Value) (hw : ∀ d ∈ tables_1, d.before a0 Z = true) (a1 : Nat) (h0 : Heap) (n0 : Nat) (Z0 : n0 ≤ h0.size) (bs : List Value) (Ab : Ary Z h0 a1 .byte bs) (lb : bs.length = 3) :
    Con l Z (⟨"java/lang/StringUTF16", "coderFromArrayLen", "([BI)B"⟩ : MethodName) jdk_52_method_15_code 2 (some .byte) ({ frames := 0, cells := 0, slots := 0, locals := 0 } : Room) #[(.ref a1), (.int (3 : Int32))] h0 (fun v h L => v = some (.int 0) ∧ Fr n0 L ∧ h = h0) := by
  refine Con.of pf_6 ?_
  intro p e s m below meth c T0 X0 hx hby hml hZ hown hnm hret hlk e0
  have hown : s.vm.findClass "java/lang/StringUTF16" = some m.cls := hown
  have hnm : meth.name = "coderFromArrayLen" := hnm
  have N0 := Fr.nil n0
  refine Go.cast (ef_rmCF m a1) ?_
  have lt_1 := own_ltA Ab
  refine Go.st (S' := T0.setTop (mkF m 1 #[.val (.ref a1), .val (.int (3 : Int32))] [(.int (3 : Int32))])) (fun t hr => XS.iloadN X0.here hx rfl (hb hby d7_0) rfl hr) ?_
  refine Go.st (S' := T0.setTop (mkF m 2 #[.val (.ref a1), .val (.int (3 : Int32))] [(.ref a1), (.int (3 : Int32))])) (fun t hr => XS.aloadN X0.here hx rfl (hb hby d7_1) rfl rfl hr) ?_
  refine Go.st (S' := T0.setTop (mkF m 3 #[.val (.ref a1), .val (.int (3 : Int32))] [(.int (bs).length.toInt32), (.int (3 : Int32))])) (own_len X0 hx hZ e0 Ab (g := (mkF m 2 #[.val (.ref a1), .val (.int (3 : Int32))] [(.ref a1), (.int (3 : Int32))])) rfl rfl (hb hby d7_2)) ?_
  refine Go.cast (g' := (mkF m 3 #[.val (.ref a1), .val (.int (3 : Int32))] [(.int (3 : Int32)), (.int (3 : Int32))])) (by rw [show (bs).length.toInt32 = (3 : Int32) from (by rw [lb]; rfl)]) ?_
  refine Go.st (S' := T0.setTop (mkF m 4 #[.val (.ref a1), .val (.int (3 : Int32))] [(.int (0 : Int32))])) (fun t hr => XS.isub X0.here hx rfl (hb hby d7_3) rfl hr) ?_
  refine Go.st (S' := T0.setTop (mkF m 6 #[.val (.ref a1), .val (.int (3 : Int32))] [(.int (31 : Int32)), (.int (0 : Int32))])) (fun t hr => XS.bipush X0.here hx rfl (hb hby d7_4) hr) ?_
  refine Go.st (S' := T0.setTop (mkF m 7 #[.val (.ref a1), .val (.int (3 : Int32))] [(.int (XT.ushr (0 : Int32) (31 : Int32)))])) (fun t hr => XT.iushr X0.here hx rfl (hb hby d7_6) rfl hr) ?_
  refine Go.st (S' := T0.setTop (mkF m 8 #[.val (.ref a1), .val (.int (3 : Int32))] [(.int ((XT.ushr (0 : Int32) (31 : Int32)).toInt8.toInt32))])) (fun t hr => XT.i2b X0.here hx rfl (hb hby d7_7) rfl hr) ?_
  refine Go.retN X0 hx hlk (t := .byte) hret (by simp) (hb hby d7_8) (by decide) (by decide) ?_
  try rw [e0]
  exact ⟨congrArg (fun z => some (Value.int z)) own_coder, N0, rfl⟩
theorem ef_rmS4 (m : MethodId) (a1 : Nat) (a2 : Nat) : entryFrame m #[(.ref a1), (.ref a2), (.int (0 : Int32)), (.int (3 : Int32)), .null] 6 = mkF m 0 #[.val (.ref a1), .val (.ref a2), .val (.int (0 : Int32)), .val (.int (3 : Int32)), .val .null, .unset] [] := by first | (simp [entryFrame, mkF, argsToLocals, Value.category]; done) | rfl
theorem pf_7 : plainFor (⟨"java/lang/String", "<init>", "([CIILjava/lang/Void;)V"⟩ : MethodName) = true := plainFor_of_name (by first | (simp [plainName, overriddenIn]; done) | decide +kernel)
theorem pd_4 : parseMethodDescriptor "([CII)[B" = some ⟨[(.array .char), .int, .int], some (.array .byte)⟩ := by decide +kernel
theorem pd_5 : parseMethodDescriptor "([BI)B" = some ⟨[(.array .byte), .int], some .byte⟩ := by decide +kernel
theorem d8_0 : decode jdk_42_method_149_code 0 = .ok (.aload_n 0, 1) := by decide +kernel
theorem d8_1 : decode jdk_42_method_149_code 1 = .ok (.invokespecial 1, 3) := by decide +kernel
theorem d8_4 : decode jdk_42_method_149_code 4 = .ok (.iload_n 3, 1) := by decide +kernel
theorem d8_5 : decode jdk_42_method_149_code 5 = .ok (.ifCond .ne 22, 3) := by decide +kernel
theorem d8_27 : decode jdk_42_method_149_code 27 = .ok (.getstatic 38, 3) := by decide +kernel
theorem d8_30 : decode jdk_42_method_149_code 30 = .ok (.ifCond .eq 28, 3) := by decide +kernel
theorem d8_33 : decode jdk_42_method_149_code 33 = .ok (.aload_n 1, 1) := by decide +kernel
theorem d8_34 : decode jdk_42_method_149_code 34 = .ok (.iload_n 2, 1) := by decide +kernel
theorem d8_35 : decode jdk_42_method_149_code 35 = .ok (.iload_n 3, 1) := by decide +kernel
theorem d8_36 : decode jdk_42_method_149_code 36 = .ok (.invokestatic 177, 3) := by decide +kernel
theorem d8_39 : decode jdk_42_method_149_code 39 = .ok (.astore 5, 2) := by decide +kernel
theorem d8_41 : decode jdk_42_method_149_code 41 = .ok (.aload_n 0, 1) := by decide +kernel
theorem d8_42 : decode jdk_42_method_149_code 42 = .ok (.aload 5, 2) := by decide +kernel
theorem d8_44 : decode jdk_42_method_149_code 44 = .ok (.iload_n 3, 1) := by decide +kernel
theorem d8_45 : decode jdk_42_method_149_code 45 = .ok (.invokestatic 47, 3) := by decide +kernel
theorem d8_48 : decode jdk_42_method_149_code 48 = .ok (.putfield 15, 3) := by decide +kernel
theorem d8_51 : decode jdk_42_method_149_code 51 = .ok (.aload_n 0, 1) := by decide +kernel
theorem d8_52 : decode jdk_42_method_149_code 52 = .ok (.aload 5, 2) := by decide +kernel
theorem d8_54 : decode jdk_42_method_149_code 54 = .ok (.putfield 9, 3) := by decide +kernel
theorem d8_57 : decode jdk_42_method_149_code 57 = .ok (.return_, 1) := by decide +kernel
set_option maxRecDepth 65536 in
set_option maxHeartbeats 1000000 in
theorem rmS4 (l : Launch) (Z : State) (a0 : Array Value) (hw : ∀ d ∈ tables_1, d.before a0 Z = true) (a1 : Nat) (a2 : Nat) (h0 : Heap) (n0 : Nat) (Z0 : n0 ≤ h0.size) (vcs : Int32) (hcs : ¬ vcs = 0) (O0 : Old Z n0 h0) (SCS : Sta Z Z.heap "java/lang/String" "COMPACT_STRINGS" "Z" (.int vcs)) (E1 : Exa Z h0 a1 "java/lang/String") (Fv : Fld Z h0 a1 "java/lang/String" "value" "[B" .null) (Fc : Fld Z h0 a1 "java/lang/String" "coder" "B" (.int 0)) (g1 : n0 ≤ a1) (c0 c1 c2 : Int32) (Ac : Ary Z h0 a2 .char [.int c0, .int c1, .int c2]) (q0 : ¬ (255 : Int32) < c0) (q1 : ¬ (255 : Int32) < c1) (q2 : ¬ (255 : Int32) < c2) (hne : a1 ≠ a2) :
    Con l Z (⟨"java/lang/String", "<init>", "([CIILjava/lang/Void;)V"⟩ : MethodName) jdk_42_method_149_code 6 none ({ frames := 2, cells := 1, slots := 3, locals := 35 } : Room) #[(.ref a1), (.ref a2), (.int (0 : Int32)), (.int (3 : Int32)), .null] h0 (fun v h L => v = none ∧ Fr n0 L ∧ Keep h0 h [a1]) := by
  refine Con.of pf_7 ?_
  intro p e s m below meth c T0 X0 hx hby hml hZ hown hnm hret hlk e0
  have hown : s.vm.findClass "java/lang/String" = some m.cls := hown
  have hnm : meth.name = "<init>" := hnm
  have N0 := Fr.nil n0
  refine Go.cast (ef_rmS4 m a1 a2) ?_
  have lt_1 := own_ltE E1
  have lt_2 := own_ltA Ac
  refine Go.st (S' := T0.setTop (mkF m 1 #[.val (.ref a1), .val (.ref a2), .val (.int (0 : Int32)), .val (.int (3 : Int32)), .val .null, .unset] [(.ref a1)])) (fun t hr => XS.aloadN X0.here hx rfl (hb hby d8_0) rfl rfl hr) ?_
  obtain ⟨T_3, X_3, e_3, st_3⟩ := initO X0 hx hZ hown (hw _ (List.mem_of_getElem? (i := 11) rfl)) (hw _ (List.mem_of_getElem? (i := 12) rfl)) (hw _ (List.mem_of_getElem? (i := 13) rfl)) e0 (g := (mkF m 1 #[.val (.ref a1), .val (.ref a2), .val (.int (0 : Int32)), .val (.int (3 : Int32)), .val .null, .unset] [(.ref a1)])) rfl (by rw [hml]; rfl) rfl (hb hby d8_1) (by decide) (W := 0) (by show 2 * 0 + _ ≤ _; exact Nat.le_of_eq rfl) (by decide)
  refine Go.st (S' := T_3.setTop (mkF m 4 #[.val (.ref a1), .val (.ref a2), .val (.int (0 : Int32)), .val (.int (3 : Int32)), .val .null, .unset] [])) st_3 ?_
  refine Go.st (S' := T_3.setTop (mkF m 5 #[.val (.ref a1), .val (.ref a2), .val (.int (0 : Int32)), .val (.int (3 : Int32)), .val .null, .unset] [(.int (3 : Int32))])) (fun t hr => XS.iloadN X_3.here hx rfl (hb hby d8_4) rfl hr) ?_
  refine Go.st (S' := T_3.setTop (mkF m 27 #[.val (.ref a1), .val (.ref a2), .val (.int (0 : Int32)), .val (.int (3 : Int32)), .val .null, .unset] [])) (fun t hr => XS.ifYes X_3.here hx rfl (pc0 := 5) (pc' := 27) rfl (hb hby d8_5) rfl (XT.i0_ne_t (by decide)) (by decide) (by decide) hr) ?_
  obtain ⟨T_4, X_4, e_4, st_4⟩ := getS2 X_3 hx hZ hown (host := "") (Or.inl (hw _ (List.mem_of_getElem? (i := 14) rfl))) Via.refl e_3 (SCS.ext O0.2) (g := (mkF m 27 #[.val (.ref a1), .val (.ref a2), .val (.int (0 : Int32)), .val (.int (3 : Int32)), .val .null, .unset] [])) rfl (hb hby d8_27)
  refine Go.st (S' := T_4.setTop (mkF m 30 #[.val (.ref a1), .val (.ref a2), .val (.int (0 : Int32)), .val (.int (3 : Int32)), .val .null, .unset] [(.int vcs)])) st_4 ?_
  refine Go.st (S' := T_4.setTop (mkF m 33 #[.val (.ref a1), .val (.ref a2), .val (.int (0 : Int32)), .val (.int (3 : Int32)), .val .null, .unset] [])) (fun t hr => XS.ifNo X_4.here hx rfl (hb hby d8_30) rfl (XT.i0_eq_f hcs) hr) ?_
  refine Go.st (S' := T_4.setTop (mkF m 34 #[.val (.ref a1), .val (.ref a2), .val (.int (0 : Int32)), .val (.int (3 : Int32)), .val .null, .unset] [(.ref a2)])) (fun t hr => XS.aloadN X_4.here hx rfl (hb hby d8_33) rfl rfl hr) ?_
  refine Go.st (S' := T_4.setTop (mkF m 35 #[.val (.ref a1), .val (.ref a2), .val (.int (0 : Int32)), .val (.int (3 : Int32)), .val .null, .unset] [(.int (0 : Int32)), (.ref a2)])) (fun t hr => XS.iloadN X_4.here hx rfl (hb hby d8_34) rfl hr) ?_
  refine Go.st (S' := T_4.setTop (mkF m 36 #[.val (.ref a1), .val (.ref a2), .val (.int (0 : Int32)), .val (.int (3 : Int32)), .val .null, .unset] [(.int (3 : Int32)), (.int (0 : Int32)), (.ref a2)])) (fun t hr => XS.iloadN X_4.here hx rfl (hb hby d8_35) rfl hr) ?_
  obtain ⟨v_5, T_5, h_5, L_5, X_5, e_5, Q_5, st_5⟩ := own_callS X_4 hx hZ (y := ⟨"java/lang/StringUTF16", "compress", "([CII)[B"⟩) hown (hw _ (List.mem_of_getElem? (i := 15) rfl)) (hw _ (List.mem_of_getElem? (i := 16) rfl)) (hw _ (List.mem_of_getElem? (i := 17) rfl)) (hw _ (List.mem_of_getElem? (i := 18) rfl)) (by decide) e_4 (argsL := [(.ref a2), (.int (0 : Int32)), (.int (3 : Int32))]) (rest := []) (rmC2 l Z a0 hw a2 h0 n0 (by omega) c0 c1 c2 Ac q0 q1 q2) (g := (mkF m 36 #[.val (.ref a1), .val (.ref a2), .val (.int (0 : Int32)), .val (.int (3 : Int32)), .val .null, .unset] [(.int (3 : Int32)), (.int (0 : Int32)), (.ref a2)])) rfl (by rw [hml]; rfl) (lenOf pd_4 rfl) rfl (hb hby d8_36) (W := 0) (by show 2 * 0 + _ ≤ _; exact Nat.le_of_eq rfl) (by decide) (by decide) (by decide) (by decide)
  obtain ⟨cb_5, rfl, N_5, K_5, g_5, bs_5, B_5, l_5⟩ := Q_5
  have N_5' := Fr.app N0 N_5
  have z_5 := K_5.1
  have yy_5 := own_ltA B_5
  refine Go.st (S' := T_5.setTop (mkF m 39 #[.val (.ref a1), .val (.ref a2), .val (.int (0 : Int32)), .val (.int (3 : Int32)), .val .null, .unset] [(.ref cb_5)])) st_5 ?_
  refine Go.st (S' := T_5.setTop (mkF m 41 #[.val (.ref a1), .val (.ref a2), .val (.int (0 : Int32)), .val (.int (3 : Int32)), .val .null, .val (.ref cb_5)] [])) (fun t hr => XS.astore X_5.here hx rfl (hb hby d8_39) rfl rfl (l' := #[.val (.ref a1), .val (.ref a2), .val (.int (0 : Int32)), .val (.int (3 : Int32)), .val .null, .val (.ref cb_5)]) rfl hr) ?_
  refine Go.st (S' := T_5.setTop (mkF m 42 #[.val (.ref a1), .val (.ref a2), .val (.int (0 : Int32)), .val (.int (3 : Int32)), .val .null, .val (.ref cb_5)] [(.ref a1)])) (fun t hr => XS.aloadN X_5.here hx rfl (hb hby d8_41) rfl rfl hr) ?_
  refine Go.st (S' := T_5.setTop (mkF m 44 #[.val (.ref a1), .val (.ref a2), .val (.int (0 : Int32)), .val (.int (3 : Int32)), .val .null, .val (.ref cb_5)] [(.ref cb_5), (.ref a1)])) (fun t hr => XS.aload X_5.here hx rfl (hb hby d8_42) rfl rfl hr) ?_
  refine Go.st (S' := T_5.setTop (mkF m 45 #[.val (.ref a1), .val (.ref a2), .val (.int (0 : Int32)), .val (.int (3 : Int32)), .val .null, .val (.ref cb_5)] [(.int (3 : Int32)), (.ref cb_5), (.ref a1)])) (fun t hr => XS.iloadN X_5.here hx rfl (hb hby d8_44) rfl hr) ?_
  obtain ⟨v_6, T_6, h_6, L_6, X_6, e_6, Q_6, st_6⟩ := own_callS X_5 hx hZ (y := ⟨"java/lang/StringUTF16", "coderFromArrayLen", "([BI)B"⟩) hown (hw _ (List.mem_of_getElem? (i := 23) rfl)) (hw _ (List.mem_of_getElem? (i := 24) rfl)) (hw _ (List.mem_of_getElem? (i := 17) rfl)) (hw _ (List.mem_of_getElem? (i := 25) rfl)) (by decide) e_5 (argsL := [(.ref cb_5), (.int (3 : Int32))]) (rest := [(.ref a1)]) (rmCF l Z a0 hw cb_5 h_5 n0 (by omega) bs_5 B_5 l_5) (g := (mkF m 45 #[.val (.ref a1), .val (.ref a2), .val (.int (0 : Int32)), .val (.int (3 : Int32)), .val .null, .val (.ref cb_5)] [(.int (3 : Int32)), (.ref cb_5), (.ref a1)])) rfl (by rw [hml]; rfl) (lenOf pd_5 rfl) rfl (hb hby d8_45) (W := 1) (by show 2 * 0 + _ ≤ _; exact Nat.le_of_eq rfl) (by decide) (by decide) (by decide) (by decide)
  obtain ⟨rfl, N_6, hh_6⟩ := Q_6
  have N_6' := Fr.app N_5' N_6
  rw [hh_6] at e_6
  refine Go.st (S' := T_6.setTop (mkF m 48 #[.val (.ref a1), .val (.ref a2), .val (.int (0 : Int32)), .val (.int (3 : Int32)), .val .null, .val (.ref cb_5)] [(.int (0 : Int32)), (.ref a1)])) st_6 ?_
  have F_7 := (Fc.keep K_5 nin0)
  have F_8 := (E1.keep K_5)
  obtain ⟨T_9, h_9, X_9, e_9, W_9, st_9⟩ := putF X_6 hx hZ hown (host := "") (Or.inl (hw _ (List.mem_of_getElem? (i := 26) rfl))) Via.refl e_6 F_7 F_8 (Or.inr ⟨(hw _ (List.mem_of_getElem? (i := 27) rfl)), rfl, hnm⟩) (hw _ (List.mem_of_getElem? (i := 1) rfl)) (ty := .byte) (by decide) rfl rfl (g := (mkF m 48 #[.val (.ref a1), .val (.ref a2), .val (.int (0 : Int32)), .val (.int (3 : Int32)), .val .null, .val (.ref cb_5)] [(.int (0 : Int32)), (.ref a1)])) rfl rfl (hb hby d8_48)
  have N_9 := Fr.snoc X_9 N_6' (by omega)
  have z_9 := W_9.size
  have F_9 := F_7.same W_9
  refine Go.st (S' := T_9.setTop (mkF m 51 #[.val (.ref a1), .val (.ref a2), .val (.int (0 : Int32)), .val (.int (3 : Int32)), .val .null, .val (.ref cb_5)] [])) st_9 ?_
  refine Go.st (S' := T_9.setTop (mkF m 52 #[.val (.ref a1), .val (.ref a2), .val (.int (0 : Int32)), .val (.int (3 : Int32)), .val .null, .val (.ref cb_5)] [(.ref a1)])) (fun t hr => XS.aloadN X_9.here hx rfl (hb hby d8_51) rfl rfl hr) ?_
  refine Go.st (S' := T_9.setTop (mkF m 54 #[.val (.ref a1), .val (.ref a2), .val (.int (0 : Int32)), .val (.int (3 : Int32)), .val .null, .val (.ref cb_5)] [(.ref cb_5), (.ref a1)])) (fun t hr => XS.aload X_9.here hx rfl (hb hby d8_52) rfl rfl hr) ?_
  have F_10 := ((Fv.keep K_5 nin0).other W_9 (Or.inr (slot_ne (t := (.array .byte)) (t' := .byte) (Or.inr (hw _ (List.mem_of_getElem? (i := 29) rfl))) (Or.inr (hw _ (List.mem_of_getElem? (i := 27) rfl))) (by decide) (by decide) (by decide))))
  have F_11 := (F_8.wr W_9)
  obtain ⟨T_12, h_12, X_12, e_12, W_12, st_12⟩ := putF X_9 hx hZ hown (host := "") (Or.inl (hw _ (List.mem_of_getElem? (i := 28) rfl))) Via.refl e_9 F_10 F_11 (Or.inr ⟨(hw _ (List.mem_of_getElem? (i := 29) rfl)), rfl, hnm⟩) (hw _ (List.mem_of_getElem? (i := 1) rfl)) (ty := (.array .byte)) (by decide) rfl rfl (g := (mkF m 54 #[.val (.ref a1), .val (.ref a2), .val (.int (0 : Int32)), .val (.int (3 : Int32)), .val .null, .val (.ref cb_5)] [(.ref cb_5), (.ref a1)])) rfl rfl (hb hby d8_54)
  have N_12 := Fr.snoc X_12 N_9 (by omega)
  have z_12 := W_12.size
  have F_12 := F_10.same W_12
  refine Go.st (S' := T_12.setTop (mkF m 57 #[.val (.ref a1), .val (.ref a2), .val (.int (0 : Int32)), .val (.int (3 : Int32)), .val .null, .val (.ref cb_5)] [])) st_12 ?_
  refine Go.retV X_12 hx hlk hret (hb hby d8_57) (by decide) (by decide) ?_
  try rw [e_12]
  exact ⟨rfl, N_12, ((((Keep.refl h0 [a1]).trans K_5 all0).wr W_9 (Or.inl (by simp))).wr W_12 (Or.inl (by simp)))⟩
theorem ef_rmS1 (m : MethodId) (a1 : Nat) (a2 : Nat) : entryFrame m #[(.ref a1), (.ref a2)] 2 = mkF m 0 #[.val (.ref a1), .val (.ref a2)] [] := by first | (simp [entryFrame, mkF, argsToLocals, Value.category]; done) | rfl
theorem pf_8 : plainFor (⟨"java/lang/String", "<init>", "([C)V"⟩ : MethodName) = true := plainFor_of_name (by first | (simp [plainName, overriddenIn]; done) | decide +kernel)
theorem pd_6 : parseMethodDescriptor "([CIILjava/lang/Void;)V" = some ⟨[(.array .char), .int, .int, (.object "java/lang/Void")], none⟩ := by decide +kernel
theorem d9_0 : decode jdk_42_method_3_code 0 = .ok (.aload_n 0, 1) := by decide +kernel
theorem d9_1 : decode jdk_42_method_3_code 1 = .ok (.aload_n 1, 1) := by decide +kernel
theorem d9_2 : decode jdk_42_method_3_code 2 = .ok (.iconst 0, 1) := by decide +kernel
theorem d9_3 : decode jdk_42_method_3_code 3 = .ok (.aload_n 1, 1) := by decide +kernel
theorem d9_4 : decode jdk_42_method_3_code 4 = .ok (.arraylength, 1) := by decide +kernel
theorem d9_5 : decode jdk_42_method_3_code 5 = .ok (.aconst_null, 1) := by decide +kernel
theorem d9_6 : decode jdk_42_method_3_code 6 = .ok (.invokespecial 27, 3) := by decide +kernel
theorem d9_9 : decode jdk_42_method_3_code 9 = .ok (.return_, 1) := by decide +kernel
set_option maxRecDepth 65536 in
set_option maxHeartbeats 1000000 in
theorem rmS1 (l : Launch) (Z : State) (a0 : Array Value) (hw : ∀ d ∈ tables_1, d.before a0 Z = true) (a1 : Nat) (a2 : Nat) (h0 : Heap) (n0 : Nat) (Z0 : n0 ≤ h0.size) (vcs : Int32) (hcs : ¬ vcs = 0) (O0 : Old Z n0 h0) (SCS : Sta Z Z.heap "java/lang/String" "COMPACT_STRINGS" "Z" (.int vcs)) (E1 : Exa Z h0 a1 "java/lang/String") (Fv : Fld Z h0 a1 "java/lang/String" "value" "[B" .null) (Fc : Fld Z h0 a1 "java/lang/String" "coder" "B" (.int 0)) (g1 : n0 ≤ a1) (c0 c1 c2 : Int32) (Ac : Ary Z h0 a2 .char [.int c0, .int c1, .int c2]) (q0 : ¬ (255 : Int32) < c0) (q1 : ¬ (255 : Int32) < c1) (q2 : ¬ (255 : Int32) < c2) (hne : a1 ≠ a2) :
    Con l Z (⟨"java/lang/String", "<init>", "([C)V"⟩ : MethodName) jdk_42_method_3_code 2 none ({ frames := 3, cells := 1, slots := 3, locals := 52 } : Room) #[(.ref a1), (.ref a2)] h0 (fun v h L => v = none ∧ Fr n0 L ∧ Keep h0 h [a1]) := by
  refine Con.of pf_8 ?_
  intro p e s m below meth c T0 X0 hx hby hml hZ hown hnm hret hlk e0
  have hown : s.vm.findClass "java/lang/String" = some m.cls := hown
  have hnm : meth.name = "<init>" := hnm
  have N0 := Fr.nil n0
  refine Go.cast (ef_rmS1 m a1 a2) ?_
  have lt_1 := own_ltE E1
  have lt_2 := own_ltA Ac
  refine Go.st (S' := T0.setTop (mkF m 1 #[.val (.ref a1), .val (.ref a2)] [(.ref a1)])) (fun t hr => XS.aloadN X0.here hx rfl (hb hby d9_0) rfl rfl hr) ?_
  refine Go.st (S' := T0.setTop (mkF m 2 #[.val (.ref a1), .val (.ref a2)] [(.ref a2), (.ref a1)])) (fun t hr => XS.aloadN X0.here hx rfl (hb hby d9_1) rfl rfl hr) ?_
  refine Go.st (S' := T0.setTop (mkF m 3 #[.val (.ref a1), .val (.ref a2)] [(.int (0 : Int32)), (.ref a2), (.ref a1)])) (fun t hr => XS.iconst X0.here hx rfl (hb hby d9_2) hr) ?_
  refine Go.st (S' := T0.setTop (mkF m 4 #[.val (.ref a1), .val (.ref a2)] [(.ref a2), (.int (0 : Int32)), (.ref a2), (.ref a1)])) (fun t hr => XS.aloadN X0.here hx rfl (hb hby d9_3) rfl rfl hr) ?_
  refine Go.st (S' := T0.setTop (mkF m 5 #[.val (.ref a1), .val (.ref a2)] [(.int (3 : Int32)), (.int (0 : Int32)), (.ref a2), (.ref a1)])) (own_len X0 hx hZ e0 Ac (g := (mkF m 4 #[.val (.ref a1), .val (.ref a2)] [(.ref a2), (.int (0 : Int32)), (.ref a2), (.ref a1)])) rfl rfl (hb hby d9_4)) ?_
  refine Go.st (S' := T0.setTop (mkF m 6 #[.val (.ref a1), .val (.ref a2)] [.null, (.int (3 : Int32)), (.int (0 : Int32)), (.ref a2), (.ref a1)])) (fun t hr => XS.aconstNull X0.here hx rfl (hb hby d9_5) hr) ?_
  obtain ⟨v_3, T_3, h_3, L_3, X_3, e_3, Q_3, st_3⟩ := own_callN X0 hx hZ (y := ⟨"java/lang/String", "<init>", "([CIILjava/lang/Void;)V"⟩) rfl hown (hw _ (List.mem_of_getElem? (i := 7) rfl)) (hw _ (List.mem_of_getElem? (i := 8) rfl)) (hw _ (List.mem_of_getElem? (i := 2) rfl)) (hw _ (List.mem_of_getElem? (i := 10) rfl)) (by decide) e0 (a := a1) (argsL := [(.ref a2), (.int (0 : Int32)), (.int (3 : Int32)), .null]) (rest := []) (rmS4 l Z a0 hw a1 a2 h0 n0 Z0 vcs hcs O0 SCS E1 Fv Fc g1 c0 c1 c2 Ac q0 q1 q2 hne) (g := (mkF m 6 #[.val (.ref a1), .val (.ref a2)] [.null, (.int (3 : Int32)), (.int (0 : Int32)), (.ref a2), (.ref a1)])) rfl (by rw [hml]; rfl) (lenOf pd_6 rfl) rfl (hb hby d9_6) (W := 0) (by show 2 * 0 + _ ≤ _; exact Nat.le_of_eq rfl) (by decide) (by decide) (by decide) (by decide)
  obtain ⟨rfl, N_3, K_3⟩ := Q_3
  have N_3' := Fr.app N0 N_3
  have z_3 := K_3.1
  refine Go.st (S' := T_3.setTop (mkF m 9 #[.val (.ref a1), .val (.ref a2)] [])) st_3 ?_
  refine Go.retV X_3 hx hlk hret (hb hby d9_9) (by decide) (by decide) ?_
  try rw [e_3]
  exact ⟨rfl, N_3', ((Keep.refl h0 [a1]).trans K_3 (by intro x hxx; simp only [List.mem_cons, List.not_mem_nil, or_false] at hxx; rcases hxx with rfl; · exact Or.inl (by simp)))⟩
theorem ef_rmRC (m : MethodId) (a1 : Nat) : entryFrame m #[(.ref a1)] 1 = mkF m 0 #[.val (.ref a1)] [] := by first | (simp [entryFrame, mkF, argsToLocals, Value.category]; done) | rfl
theorem pf_9 : plainFor (⟨"java/lang/Record", "<init>", "()V"⟩ : MethodName) = true := plainFor_of_name (by first | (simp [plainName, overriddenIn]; done) | decide +kernel)
theorem d10_0 : decode jdk_30_method_1_code 0 = .ok (.aload_n 0, 1) := by decide +kernel
theorem d10_1 : decode jdk_30_method_1_code 1 = .ok (.invokespecial 1, 3) := by decide +kernel
theorem d10_4 : decode jdk_30_method_1_code 4 = .ok (.return_, 1) := by decide +kernel
set_option maxRecDepth 65536 in
set_option maxHeartbeats 1000000 in
theorem rmRC (l : Launch) (Z : State) (a0 : Array Value) (hw : ∀ d ∈ tables_1, d.before a0 Z = true) (a1 : Nat) (h0 : Heap) (n0 : Nat) (Z0 : n0 ≤ h0.size)  :
    Con l Z (⟨"java/lang/Record", "<init>", "()V"⟩ : MethodName) jdk_30_method_1_code 1 none ({ frames := 1, cells := 0, slots := 0, locals := 12 } : Room) #[(.ref a1)] h0 (fun v h L => v = none ∧ Fr n0 L ∧ h = h0) := by
  refine Con.of pf_9 ?_
  intro p e s m below meth c T0 X0 hx hby hml hZ hown hnm hret hlk e0
  have hown : s.vm.findClass "java/lang/Record" = some m.cls := hown
  have hnm : meth.name = "<init>" := hnm
  have N0 := Fr.nil n0
  refine Go.cast (ef_rmRC m a1) ?_
  refine Go.st (S' := T0.setTop (mkF m 1 #[.val (.ref a1)] [(.ref a1)])) (fun t hr => XS.aloadN X0.here hx rfl (hb hby d10_0) rfl rfl hr) ?_
  obtain ⟨T_1, X_1, e_1, st_1⟩ := initO X0 hx hZ hown (hw _ (List.mem_of_getElem? (i := 41) rfl)) (hw _ (List.mem_of_getElem? (i := 12) rfl)) (hw _ (List.mem_of_getElem? (i := 13) rfl)) e0 (g := (mkF m 1 #[.val (.ref a1)] [(.ref a1)])) rfl (by rw [hml]; rfl) rfl (hb hby d10_1) (by decide) (W := 0) (by show 2 * 0 + _ ≤ _; exact Nat.le_of_eq rfl) (by decide)
  refine Go.st (S' := T_1.setTop (mkF m 4 #[.val (.ref a1)] [])) st_1 ?_
  refine Go.retV X_1 hx hlk hret (hb hby d10_4) (by decide) (by decide) ?_
  try rw [e_1]
  exact ⟨rfl, N0, rfl⟩
theorem ef_rmVN (m : MethodId) (a1 : Nat) (a2 : Nat) (p3 : Int32) (v4 : Value) (v5 : Value) (r4 : v4.isRef = true) (r5 : v5.isRef = true) : entryFrame m #[(.ref a1), (.ref a2), (.int p3), v4, v5, .null] 6 = mkF m 0 #[.val (.ref a1), .val (.ref a2), .val (.int p3), .val v4, .val v5, .val .null] [] := by
  rcases ref_cases r4 with rfl | ⟨_, rfl⟩ <;> rcases ref_cases r5 with rfl | ⟨_, rfl⟩
  all_goals rfl
theorem pf_10 : plainFor (⟨"ObjectTable$Version", "<init>", "(Ljava/lang/String;ILjava/lang/String;Ljava/lang/String;Ljava/lang/String;)V"⟩ : MethodName) = true := plainFor_of_name (by first | (simp [plainName, overriddenIn]; done) | decide +kernel)
theorem pd_7 : parseMethodDescriptor "()V" = some ⟨[], none⟩ := by decide +kernel
theorem d11_0 : decode prog_14_method_1_code 0 = .ok (.aload_n 0, 1) := by decide +kernel
theorem d11_1 : decode prog_14_method_1_code 1 = .ok (.invokespecial 1, 3) := by decide +kernel
theorem d11_4 : decode prog_14_method_1_code 4 = .ok (.aload_n 0, 1) := by decide +kernel
theorem d11_5 : decode prog_14_method_1_code 5 = .ok (.aload_n 1, 1) := by decide +kernel
theorem d11_6 : decode prog_14_method_1_code 6 = .ok (.putfield 7, 3) := by decide +kernel
theorem d11_9 : decode prog_14_method_1_code 9 = .ok (.aload_n 0, 1) := by decide +kernel
theorem d11_10 : decode prog_14_method_1_code 10 = .ok (.iload_n 2, 1) := by decide +kernel
theorem d11_11 : decode prog_14_method_1_code 11 = .ok (.putfield 13, 3) := by decide +kernel
theorem d11_14 : decode prog_14_method_1_code 14 = .ok (.aload_n 0, 1) := by decide +kernel
theorem d11_15 : decode prog_14_method_1_code 15 = .ok (.aload_n 3, 1) := by decide +kernel
theorem d11_16 : decode prog_14_method_1_code 16 = .ok (.putfield 17, 3) := by decide +kernel
theorem d11_19 : decode prog_14_method_1_code 19 = .ok (.aload_n 0, 1) := by decide +kernel
theorem d11_20 : decode prog_14_method_1_code 20 = .ok (.aload 4, 2) := by decide +kernel
theorem d11_22 : decode prog_14_method_1_code 22 = .ok (.putfield 20, 3) := by decide +kernel
theorem d11_25 : decode prog_14_method_1_code 25 = .ok (.aload_n 0, 1) := by decide +kernel
theorem d11_26 : decode prog_14_method_1_code 26 = .ok (.aload 5, 2) := by decide +kernel
theorem d11_28 : decode prog_14_method_1_code 28 = .ok (.putfield 23, 3) := by decide +kernel
theorem d11_31 : decode prog_14_method_1_code 31 = .ok (.return_, 1) := by decide +kernel
set_option maxRecDepth 65536 in
set_option maxHeartbeats 1000000 in
theorem rmVN (l : Launch) (Z : State) (a0 : Array Value) (hw : ∀ d ∈ tables_1, d.before a0 Z = true) (a1 : Nat) (a2 : Nat) (p3 : Int32) (v4 : Value) (v5 : Value) (h0 : Heap) (n0 : Nat) (Z0 : n0 ≤ h0.size) (E1 : Exa Z h0 a1 "ObjectTable$Version") (g1 : n0 ≤ a1) (Fname : Fld Z h0 a1 "ObjectTable$Version" "name" "Ljava/lang/String;" .null) (Findex : Fld Z h0 a1 "ObjectTable$Version" "index" "I" (.int (0 : Int32))) (Fpkg : Fld Z h0 a1 "ObjectTable$Version" "pkg" "Ljava/lang/String;" .null) (Frules : Fld Z h0 a1 "ObjectTable$Version" "rules" "Ljava/lang/String;" .null) (Ftable : Fld Z h0 a1 "ObjectTable$Version" "table" "Ljava/lang/String;" .null) (r4 : v4.isRef = true) (r5 : v5.isRef = true) :
    Con l Z (⟨"ObjectTable$Version", "<init>", "(Ljava/lang/String;ILjava/lang/String;Ljava/lang/String;Ljava/lang/String;)V"⟩ : MethodName) prog_14_method_1_code 6 none ({ frames := 2, cells := 0, slots := 0, locals := 24 } : Room) #[(.ref a1), (.ref a2), (.int p3), v4, v5, .null] h0 (fun v h L => v = none ∧ Fr n0 L ∧ Keep h0 h [a1] ∧ Fld Z h a1 "ObjectTable$Version" "table" "Ljava/lang/String;" .null) := by
  refine Con.of pf_10 ?_
  intro p e s m below meth c T0 X0 hx hby hml hZ hown hnm hret hlk e0
  have hown : s.vm.findClass "ObjectTable$Version" = some m.cls := hown
  have hnm : meth.name = "<init>" := hnm
  have N0 := Fr.nil n0
  refine Go.cast (ef_rmVN m a1 a2 p3 v4 v5 r4 r5) ?_
  have lt_1 := own_ltE E1
  refine Go.st (S' := T0.setTop (mkF m 1 #[.val (.ref a1), .val (.ref a2), .val (.int p3), .val v4, .val v5, .val .null] [(.ref a1)])) (fun t hr => XS.aloadN X0.here hx rfl (hb hby d11_0) rfl rfl hr) ?_
  obtain ⟨v_2, T_2, h_2, L_2, X_2, e_2, Q_2, st_2⟩ := own_callN X0 hx hZ (y := ⟨"java/lang/Record", "<init>", "()V"⟩) rfl hown (hw _ (List.mem_of_getElem? (i := 36) rfl)) (hw _ (List.mem_of_getElem? (i := 37) rfl)) (hw _ (List.mem_of_getElem? (i := 39) rfl)) (hw _ (List.mem_of_getElem? (i := 40) rfl)) (by decide) e0 (a := a1) (argsL := []) (rest := []) (rmRC l Z a0 hw a1 h0 n0 Z0) (g := (mkF m 1 #[.val (.ref a1), .val (.ref a2), .val (.int p3), .val v4, .val v5, .val .null] [(.ref a1)])) rfl (by rw [hml]; rfl) (lenOf pd_7 rfl) rfl (hb hby d11_1) (W := 0) (by show 2 * 0 + _ ≤ _; exact Nat.le_of_eq rfl) (by decide) (by decide) (by decide) (by decide)
  obtain ⟨rfl, N_2, hh_2⟩ := Q_2
  have N_2' := Fr.app N0 N_2
  rw [hh_2] at e_2
  refine Go.st (S' := T_2.setTop (mkF m 4 #[.val (.ref a1), .val (.ref a2), .val (.int p3), .val v4, .val v5, .val .null] [])) st_2 ?_
  refine Go.st (S' := T_2.setTop (mkF m 5 #[.val (.ref a1), .val (.ref a2), .val (.int p3), .val v4, .val v5, .val .null] [(.ref a1)])) (fun t hr => XS.aloadN X_2.here hx rfl (hb hby d11_4) rfl rfl hr) ?_
  refine Go.st (S' := T_2.setTop (mkF m 6 #[.val (.ref a1), .val (.ref a2), .val (.int p3), .val v4, .val v5, .val .null] [(.ref a2), (.ref a1)])) (fun t hr => XS.aloadN X_2.here hx rfl (hb hby d11_5) rfl rfl hr) ?_
  obtain ⟨T_3, h_3, X_3, e_3, W_3, st_3⟩ := putF X_2 hx hZ hown (host := "") (Or.inl (hw _ (List.mem_of_getElem? (i := 42) rfl))) Via.refl e_2 Fname E1 (Or.inr ⟨(hw _ (List.mem_of_getElem? (i := 43) rfl)), rfl, hnm⟩) (hw _ (List.mem_of_getElem? (i := 31) rfl)) (ty := (.object "java/lang/String")) (by decide) rfl rfl (g := (mkF m 6 #[.val (.ref a1), .val (.ref a2), .val (.int p3), .val v4, .val v5, .val .null] [(.ref a2), (.ref a1)])) rfl rfl (hb hby d11_6)
  have N_3 := Fr.snoc X_3 N_2' (by omega)
  have z_3 := W_3.size
  have F_3 := Fname.same W_3
  refine Go.st (S' := T_3.setTop (mkF m 9 #[.val (.ref a1), .val (.ref a2), .val (.int p3), .val v4, .val v5, .val .null] [])) st_3 ?_
  refine Go.st (S' := T_3.setTop (mkF m 10 #[.val (.ref a1), .val (.ref a2), .val (.int p3), .val v4, .val v5, .val .null] [(.ref a1)])) (fun t hr => XS.aloadN X_3.here hx rfl (hb hby d11_9) rfl rfl hr) ?_
  refine Go.st (S' := T_3.setTop (mkF m 11 #[.val (.ref a1), .val (.ref a2), .val (.int p3), .val v4, .val v5, .val .null] [(.int p3), (.ref a1)])) (fun t hr => XS.iloadN X_3.here hx rfl (hb hby d11_10) rfl hr) ?_
  have F_4 := (Findex.other W_3 (Or.inr (slot_ne (t := .int) (t' := (.object "java/lang/String")) (Or.inr (hw _ (List.mem_of_getElem? (i := 45) rfl))) (Or.inr (hw _ (List.mem_of_getElem? (i := 43) rfl))) (by decide) (by decide) (by decide))))
  have F_5 := (E1.wr W_3)
  obtain ⟨T_6, h_6, X_6, e_6, W_6, st_6⟩ := putF X_3 hx hZ hown (host := "") (Or.inl (hw _ (List.mem_of_getElem? (i := 44) rfl))) Via.refl e_3 F_4 F_5 (Or.inr ⟨(hw _ (List.mem_of_getElem? (i := 45) rfl)), rfl, hnm⟩) (hw _ (List.mem_of_getElem? (i := 31) rfl)) (ty := .int) (by decide) rfl rfl (g := (mkF m 11 #[.val (.ref a1), .val (.ref a2), .val (.int p3), .val v4, .val v5, .val .null] [(.int p3), (.ref a1)])) rfl rfl (hb hby d11_11)
  have N_6 := Fr.snoc X_6 N_3 (by omega)
  have z_6 := W_6.size
  have F_6 := F_4.same W_6
  refine Go.st (S' := T_6.setTop (mkF m 14 #[.val (.ref a1), .val (.ref a2), .val (.int p3), .val v4, .val v5, .val .null] [])) st_6 ?_
  refine Go.st (S' := T_6.setTop (mkF m 15 #[.val (.ref a1), .val (.ref a2), .val (.int p3), .val v4, .val v5, .val .null] [(.ref a1)])) (fun t hr => XS.aloadN X_6.here hx rfl (hb hby d11_14) rfl rfl hr) ?_
  refine Go.st (S' := T_6.setTop (mkF m 16 #[.val (.ref a1), .val (.ref a2), .val (.int p3), .val v4, .val v5, .val .null] [v4, (.ref a1)])) (fun t hr => XS.aloadN X_6.here hx rfl (hb hby d11_15) rfl r4 hr) ?_
  have F_7 := ((Fpkg.other W_3 (Or.inr (slot_ne (t := (.object "java/lang/String")) (t' := (.object "java/lang/String")) (Or.inr (hw _ (List.mem_of_getElem? (i := 47) rfl))) (Or.inr (hw _ (List.mem_of_getElem? (i := 43) rfl))) (by decide) (by decide) (by decide)))).other W_6 (Or.inr (slot_ne (t := (.object "java/lang/String")) (t' := .int) (Or.inr (hw _ (List.mem_of_getElem? (i := 47) rfl))) (Or.inr (hw _ (List.mem_of_getElem? (i := 45) rfl))) (by decide) (by decide) (by decide))))
  have F_8 := (F_5.wr W_6)
  obtain ⟨T_9, h_9, X_9, e_9, W_9, st_9⟩ := putF X_6 hx hZ hown (host := "") (Or.inl (hw _ (List.mem_of_getElem? (i := 46) rfl))) Via.refl e_6 F_7 F_8 (Or.inr ⟨(hw _ (List.mem_of_getElem? (i := 47) rfl)), rfl, hnm⟩) (hw _ (List.mem_of_getElem? (i := 31) rfl)) (ty := (.object "java/lang/String")) (by decide) (own_narR rfl r4) (own_fitR rfl r4) (g := (mkF m 16 #[.val (.ref a1), .val (.ref a2), .val (.int p3), .val v4, .val v5, .val .null] [v4, (.ref a1)])) rfl rfl (hb hby d11_16)
  have N_9 := Fr.snoc X_9 N_6 (by omega)
  have z_9 := W_9.size
  have F_9 := F_7.same W_9
  refine Go.st (S' := T_9.setTop (mkF m 19 #[.val (.ref a1), .val (.ref a2), .val (.int p3), .val v4, .val v5, .val .null] [])) st_9 ?_
  refine Go.st (S' := T_9.setTop (mkF m 20 #[.val (.ref a1), .val (.ref a2), .val (.int p3), .val v4, .val v5, .val .null] [(.ref a1)])) (fun t hr => XS.aloadN X_9.here hx rfl (hb hby d11_19) rfl rfl hr) ?_
  refine Go.st (S' := T_9.setTop (mkF m 22 #[.val (.ref a1), .val (.ref a2), .val (.int p3), .val v4, .val v5, .val .null] [v5, (.ref a1)])) (fun t hr => XS.aload X_9.here hx rfl (hb hby d11_20) rfl r5 hr) ?_
  have F_10 := (((Frules.other W_3 (Or.inr (slot_ne (t := (.object "java/lang/String")) (t' := (.object "java/lang/String")) (Or.inr (hw _ (List.mem_of_getElem? (i := 49) rfl))) (Or.inr (hw _ (List.mem_of_getElem? (i := 43) rfl))) (by decide) (by decide) (by decide)))).other W_6 (Or.inr (slot_ne (t := (.object "java/lang/String")) (t' := .int) (Or.inr (hw _ (List.mem_of_getElem? (i := 49) rfl))) (Or.inr (hw _ (List.mem_of_getElem? (i := 45) rfl))) (by decide) (by decide) (by decide)))).other W_9 (Or.inr (slot_ne (t := (.object "java/lang/String")) (t' := (.object "java/lang/String")) (Or.inr (hw _ (List.mem_of_getElem? (i := 49) rfl))) (Or.inr (hw _ (List.mem_of_getElem? (i := 47) rfl))) (by decide) (by decide) (by decide))))
  have F_11 := (F_8.wr W_9)
  obtain ⟨T_12, h_12, X_12, e_12, W_12, st_12⟩ := putF X_9 hx hZ hown (host := "") (Or.inl (hw _ (List.mem_of_getElem? (i := 48) rfl))) Via.refl e_9 F_10 F_11 (Or.inr ⟨(hw _ (List.mem_of_getElem? (i := 49) rfl)), rfl, hnm⟩) (hw _ (List.mem_of_getElem? (i := 31) rfl)) (ty := (.object "java/lang/String")) (by decide) (own_narR rfl r5) (own_fitR rfl r5) (g := (mkF m 22 #[.val (.ref a1), .val (.ref a2), .val (.int p3), .val v4, .val v5, .val .null] [v5, (.ref a1)])) rfl rfl (hb hby d11_22)
  have N_12 := Fr.snoc X_12 N_9 (by omega)
  have z_12 := W_12.size
  have F_12 := F_10.same W_12
  refine Go.st (S' := T_12.setTop (mkF m 25 #[.val (.ref a1), .val (.ref a2), .val (.int p3), .val v4, .val v5, .val .null] [])) st_12 ?_
  refine Go.st (S' := T_12.setTop (mkF m 26 #[.val (.ref a1), .val (.ref a2), .val (.int p3), .val v4, .val v5, .val .null] [(.ref a1)])) (fun t hr => XS.aloadN X_12.here hx rfl (hb hby d11_25) rfl rfl hr) ?_
  refine Go.st (S' := T_12.setTop (mkF m 28 #[.val (.ref a1), .val (.ref a2), .val (.int p3), .val v4, .val v5, .val .null] [.null, (.ref a1)])) (fun t hr => XS.aload X_12.here hx rfl (hb hby d11_26) rfl rfl hr) ?_
  have F_13 := ((((Ftable.other W_3 (Or.inr (slot_ne (t := (.object "java/lang/String")) (t' := (.object "java/lang/String")) (Or.inr (hw _ (List.mem_of_getElem? (i := 51) rfl))) (Or.inr (hw _ (List.mem_of_getElem? (i := 43) rfl))) (by decide) (by decide) (by decide)))).other W_6 (Or.inr (slot_ne (t := (.object "java/lang/String")) (t' := .int) (Or.inr (hw _ (List.mem_of_getElem? (i := 51) rfl))) (Or.inr (hw _ (List.mem_of_getElem? (i := 45) rfl))) (by decide) (by decide) (by decide)))).other W_9 (Or.inr (slot_ne (t := (.object "java/lang/String")) (t' := (.object "java/lang/String")) (Or.inr (hw _ (List.mem_of_getElem? (i := 51) rfl))) (Or.inr (hw _ (List.mem_of_getElem? (i := 47) rfl))) (by decide) (by decide) (by decide)))).other W_12 (Or.inr (slot_ne (t := (.object "java/lang/String")) (t' := (.object "java/lang/String")) (Or.inr (hw _ (List.mem_of_getElem? (i := 51) rfl))) (Or.inr (hw _ (List.mem_of_getElem? (i := 49) rfl))) (by decide) (by decide) (by decide))))
  have F_14 := (F_11.wr W_12)
  obtain ⟨T_15, h_15, X_15, e_15, W_15, st_15⟩ := putF X_12 hx hZ hown (host := "") (Or.inl (hw _ (List.mem_of_getElem? (i := 50) rfl))) Via.refl e_12 F_13 F_14 (Or.inr ⟨(hw _ (List.mem_of_getElem? (i := 51) rfl)), rfl, hnm⟩) (hw _ (List.mem_of_getElem? (i := 31) rfl)) (ty := (.object "java/lang/String")) (by decide) rfl rfl (g := (mkF m 28 #[.val (.ref a1), .val (.ref a2), .val (.int p3), .val v4, .val v5, .val .null] [.null, (.ref a1)])) rfl rfl (hb hby d11_28)
  have N_15 := Fr.snoc X_15 N_12 (by omega)
  have z_15 := W_15.size
  have F_15 := F_13.same W_15
  refine Go.st (S' := T_15.setTop (mkF m 31 #[.val (.ref a1), .val (.ref a2), .val (.int p3), .val v4, .val v5, .val .null] [])) st_15 ?_
  refine Go.retV X_15 hx hlk hret (hb hby d11_31) (by decide) (by decide) ?_
  try rw [e_15]
  exact ⟨rfl, N_15, ((((((Keep.refl h0 [a1]).wr W_3 (Or.inl (by simp))).wr W_6 (Or.inl (by simp))).wr W_9 (Or.inl (by simp))).wr W_12 (Or.inl (by simp))).wr W_15 (Or.inl (by simp))), F_15⟩
theorem ef_rmVR (m : MethodId) (a1 : Nat) (a2 : Nat) (p3 : Int32) (v4 : Value) (v5 : Value) (a6 : Nat) (r4 : v4.isRef = true) (r5 : v5.isRef = true) : entryFrame m #[(.ref a1), (.ref a2), (.int p3), v4, v5, (.ref a6)] 6 = mkF m 0 #[.val (.ref a1), .val (.ref a2), .val (.int p3), .val v4, .val v5, .val (.ref a6)] [] := by
  rcases ref_cases r4 with rfl | ⟨_, rfl⟩ <;> rcases ref_cases r5 with rfl | ⟨_, rfl⟩
  all_goals rfl
set_option maxRecDepth 65536 in
set_option maxHeartbeats 1000000 in
theorem rmVR (l : Launch) (Z : State) (a0 : Array Value) (hw : ∀ d ∈ tables_1, d.before a0 Z = true) (a1 : Nat) (a2 : Nat) (p3 : Int32) (v4 : Value) (v5 : Value) (a6 : Nat) (h0 : Heap) (n0 : Nat) (Z0 : n0 ≤ h0.size) (E1 : Exa Z h0 a1 "ObjectTable$Version") (g1 : n0 ≤ a1) (Fname : Fld Z h0 a1 "ObjectTable$Version" "name" "Ljava/lang/String;" .null) (Findex : Fld Z h0 a1 "ObjectTable$Version" "index" "I" (.int (0 : Int32))) (Fpkg : Fld Z h0 a1 "ObjectTable$Version" "pkg" "Ljava/lang/String;" .null) (Frules : Fld Z h0 a1 "ObjectTable$Version" "rules" "Ljava/lang/String;" .null) (Ftable : Fld Z h0 a1 "ObjectTable$Version" "table" "Ljava/lang/String;" .null) (r4 : v4.isRef = true) (r5 : v5.isRef = true) :
    Con l Z (⟨"ObjectTable$Version", "<init>", "(Ljava/lang/String;ILjava/lang/String;Ljava/lang/String;Ljava/lang/String;)V"⟩ : MethodName) prog_14_method_1_code 6 none ({ frames := 2, cells := 0, slots := 0, locals := 24 } : Room) #[(.ref a1), (.ref a2), (.int p3), v4, v5, (.ref a6)] h0 (fun v h L => v = none ∧ Fr n0 L ∧ Keep h0 h [a1] ∧ Fld Z h a1 "ObjectTable$Version" "table" "Ljava/lang/String;" (.ref a6)) := by
  refine Con.of pf_10 ?_
  intro p e s m below meth c T0 X0 hx hby hml hZ hown hnm hret hlk e0
  have hown : s.vm.findClass "ObjectTable$Version" = some m.cls := hown
  have hnm : meth.name = "<init>" := hnm
  have N0 := Fr.nil n0
  refine Go.cast (ef_rmVR m a1 a2 p3 v4 v5 a6 r4 r5) ?_
  have lt_1 := own_ltE E1
  refine Go.st (S' := T0.setTop (mkF m 1 #[.val (.ref a1), .val (.ref a2), .val (.int p3), .val v4, .val v5, .val (.ref a6)] [(.ref a1)])) (fun t hr => XS.aloadN X0.here hx rfl (hb hby d11_0) rfl rfl hr) ?_
  obtain ⟨v_2, T_2, h_2, L_2, X_2, e_2, Q_2, st_2⟩ := own_callN X0 hx hZ (y := ⟨"java/lang/Record", "<init>", "()V"⟩) rfl hown (hw _ (List.mem_of_getElem? (i := 36) rfl)) (hw _ (List.mem_of_getElem? (i := 37) rfl)) (hw _ (List.mem_of_getElem? (i := 39) rfl)) (hw _ (List.mem_of_getElem? (i := 40) rfl)) (by decide) e0 (a := a1) (argsL := []) (rest := []) (rmRC l Z a0 hw a1 h0 n0 Z0) (g := (mkF m 1 #[.val (.ref a1), .val (.ref a2), .val (.int p3), .val v4, .val v5, .val (.ref a6)] [(.ref a1)])) rfl (by rw [hml]; rfl) (lenOf pd_7 rfl) rfl (hb hby d11_1) (W := 0) (by show 2 * 0 + _ ≤ _; exact Nat.le_of_eq rfl) (by decide) (by decide) (by decide) (by decide)
  obtain ⟨rfl, N_2, hh_2⟩ := Q_2
  have N_2' := Fr.app N0 N_2
  rw [hh_2] at e_2
  refine Go.st (S' := T_2.setTop (mkF m 4 #[.val (.ref a1), .val (.ref a2), .val (.int p3), .val v4, .val v5, .val (.ref a6)] [])) st_2 ?_
  refine Go.st (S' := T_2.setTop (mkF m 5 #[.val (.ref a1), .val (.ref a2), .val (.int p3), .val v4, .val v5, .val (.ref a6)] [(.ref a1)])) (fun t hr => XS.aloadN X_2.here hx rfl (hb hby d11_4) rfl rfl hr) ?_
  refine Go.st (S' := T_2.setTop (mkF m 6 #[.val (.ref a1), .val (.ref a2), .val (.int p3), .val v4, .val v5, .val (.ref a6)] [(.ref a2), (.ref a1)])) (fun t hr => XS.aloadN X_2.here hx rfl (hb hby d11_5) rfl rfl hr) ?_
  obtain ⟨T_3, h_3, X_3, e_3, W_3, st_3⟩ := putF X_2 hx hZ hown (host := "") (Or.inl (hw _ (List.mem_of_getElem? (i := 42) rfl))) Via.refl e_2 Fname E1 (Or.inr ⟨(hw _ (List.mem_of_getElem? (i := 43) rfl)), rfl, hnm⟩) (hw _ (List.mem_of_getElem? (i := 31) rfl)) (ty := (.object "java/lang/String")) (by decide) rfl rfl (g := (mkF m 6 #[.val (.ref a1), .val (.ref a2), .val (.int p3), .val v4, .val v5, .val (.ref a6)] [(.ref a2), (.ref a1)])) rfl rfl (hb hby d11_6)
  have N_3 := Fr.snoc X_3 N_2' (by omega)
  have z_3 := W_3.size
  have F_3 := Fname.same W_3
  refine Go.st (S' := T_3.setTop (mkF m 9 #[.val (.ref a1), .val (.ref a2), .val (.int p3), .val v4, .val v5, .val (.ref a6)] [])) st_3 ?_
  refine Go.st (S' := T_3.setTop (mkF m 10 #[.val (.ref a1), .val (.ref a2), .val (.int p3), .val v4, .val v5, .val (.ref a6)] [(.ref a1)])) (fun t hr => XS.aloadN X_3.here hx rfl (hb hby d11_9) rfl rfl hr) ?_
  refine Go.st (S' := T_3.setTop (mkF m 11 #[.val (.ref a1), .val (.ref a2), .val (.int p3), .val v4, .val v5, .val (.ref a6)] [(.int p3), (.ref a1)])) (fun t hr => XS.iloadN X_3.here hx rfl (hb hby d11_10) rfl hr) ?_
  have F_4 := (Findex.other W_3 (Or.inr (slot_ne (t := .int) (t' := (.object "java/lang/String")) (Or.inr (hw _ (List.mem_of_getElem? (i := 45) rfl))) (Or.inr (hw _ (List.mem_of_getElem? (i := 43) rfl))) (by decide) (by decide) (by decide))))
  have F_5 := (E1.wr W_3)
  obtain ⟨T_6, h_6, X_6, e_6, W_6, st_6⟩ := putF X_3 hx hZ hown (host := "") (Or.inl (hw _ (List.mem_of_getElem? (i := 44) rfl))) Via.refl e_3 F_4 F_5 (Or.inr ⟨(hw _ (List.mem_of_getElem? (i := 45) rfl)), rfl, hnm⟩) (hw _ (List.mem_of_getElem? (i := 31) rfl)) (ty := .int) (by decide) rfl rfl (g := (mkF m 11 #[.val (.ref a1), .val (.ref a2), .val (.int p3), .val v4, .val v5, .val (.ref a6)] [(.int p3), (.ref a1)])) rfl rfl (hb hby d11_11)
  have N_6 := Fr.snoc X_6 N_3 (by omega)
  have z_6 := W_6.size
  have F_6 := F_4.same W_6
  refine Go.st (S' := T_6.setTop (mkF m 14 #[.val (.ref a1), .val (.ref a2), .val (.int p3), .val v4, .val v5, .val (.ref a6)] [])) st_6 ?_
  refine Go.st (S' := T_6.setTop (mkF m 15 #[.val (.ref a1), .val (.ref a2), .val (.int p3), .val v4, .val v5, .val (.ref a6)] [(.ref a1)])) (fun t hr => XS.aloadN X_6.here hx rfl (hb hby d11_14) rfl rfl hr) ?_
  refine Go.st (S' := T_6.setTop (mkF m 16 #[.val (.ref a1), .val (.ref a2), .val (.int p3), .val v4, .val v5, .val (.ref a6)] [v4, (.ref a1)])) (fun t hr => XS.aloadN X_6.here hx rfl (hb hby d11_15) rfl r4 hr) ?_
  have F_7 := ((Fpkg.other W_3 (Or.inr (slot_ne (t := (.object "java/lang/String")) (t' := (.object "java/lang/String")) (Or.inr (hw _ (List.mem_of_getElem? (i := 47) rfl))) (Or.inr (hw _ (List.mem_of_getElem? (i := 43) rfl))) (by decide) (by decide) (by decide)))).other W_6 (Or.inr (slot_ne (t := (.object "java/lang/String")) (t' := .int) (Or.inr (hw _ (List.mem_of_getElem? (i := 47) rfl))) (Or.inr (hw _ (List.mem_of_getElem? (i := 45) rfl))) (by decide) (by decide) (by decide))))
  have F_8 := (F_5.wr W_6)
  obtain ⟨T_9, h_9, X_9, e_9, W_9, st_9⟩ := putF X_6 hx hZ hown (host := "") (Or.inl (hw _ (List.mem_of_getElem? (i := 46) rfl))) Via.refl e_6 F_7 F_8 (Or.inr ⟨(hw _ (List.mem_of_getElem? (i := 47) rfl)), rfl, hnm⟩) (hw _ (List.mem_of_getElem? (i := 31) rfl)) (ty := (.object "java/lang/String")) (by decide) (own_narR rfl r4) (own_fitR rfl r4) (g := (mkF m 16 #[.val (.ref a1), .val (.ref a2), .val (.int p3), .val v4, .val v5, .val (.ref a6)] [v4, (.ref a1)])) rfl rfl (hb hby d11_16)
  have N_9 := Fr.snoc X_9 N_6 (by omega)
  have z_9 := W_9.size
  have F_9 := F_7.same W_9
  refine Go.st (S' := T_9.setTop (mkF m 19 #[.val (.ref a1), .val (.ref a2), .val (.int p3), .val v4, .val v5, .val (.ref a6)] [])) st_9 ?_
  refine Go.st (S' := T_9.setTop (mkF m 20 #[.val (.ref a1), .val (.ref a2), .val (.int p3), .val v4, .val v5, .val (.ref a6)] [(.ref a1)])) (fun t hr => XS.aloadN X_9.here hx rfl (hb hby d11_19) rfl rfl hr) ?_
  refine Go.st (S' := T_9.setTop (mkF m 22 #[.val (.ref a1), .val (.ref a2), .val (.int p3), .val v4, .val v5, .val (.ref a6)] [v5, (.ref a1)])) (fun t hr => XS.aload X_9.here hx rfl (hb hby d11_20) rfl r5 hr) ?_
  have F_10 := (((Frules.other W_3 (Or.inr (slot_ne (t := (.object "java/lang/String")) (t' := (.object "java/lang/String")) (Or.inr (hw _ (List.mem_of_getElem? (i := 49) rfl))) (Or.inr (hw _ (List.mem_of_getElem? (i := 43) rfl))) (by decide) (by decide) (by decide)))).other W_6 (Or.inr (slot_ne (t := (.object "java/lang/String")) (t' := .int) (Or.inr (hw _ (List.mem_of_getElem? (i := 49) rfl))) (Or.inr (hw _ (List.mem_of_getElem? (i := 45) rfl))) (by decide) (by decide) (by decide)))).other W_9 (Or.inr (slot_ne (t := (.object "java/lang/String")) (t' := (.object "java/lang/String")) (Or.inr (hw _ (List.mem_of_getElem? (i := 49) rfl))) (Or.inr (hw _ (List.mem_of_getElem? (i := 47) rfl))) (by decide) (by decide) (by decide))))
  have F_11 := (F_8.wr W_9)
  obtain ⟨T_12, h_12, X_12, e_12, W_12, st_12⟩ := putF X_9 hx hZ hown (host := "") (Or.inl (hw _ (List.mem_of_getElem? (i := 48) rfl))) Via.refl e_9 F_10 F_11 (Or.inr ⟨(hw _ (List.mem_of_getElem? (i := 49) rfl)), rfl, hnm⟩) (hw _ (List.mem_of_getElem? (i := 31) rfl)) (ty := (.object "java/lang/String")) (by decide) (own_narR rfl r5) (own_fitR rfl r5) (g := (mkF m 22 #[.val (.ref a1), .val (.ref a2), .val (.int p3), .val v4, .val v5, .val (.ref a6)] [v5, (.ref a1)])) rfl rfl (hb hby d11_22)
  have N_12 := Fr.snoc X_12 N_9 (by omega)
  have z_12 := W_12.size
  have F_12 := F_10.same W_12
  refine Go.st (S' := T_12.setTop (mkF m 25 #[.val (.ref a1), .val (.ref a2), .val (.int p3), .val v4, .val v5, .val (.ref a6)] [])) st_12 ?_
  refine Go.st (S' := T_12.setTop (mkF m 26 #[.val (.ref a1), .val (.ref a2), .val (.int p3), .val v4, .val v5, .val (.ref a6)] [(.ref a1)])) (fun t hr => XS.aloadN X_12.here hx rfl (hb hby d11_25) rfl rfl hr) ?_
  refine Go.st (S' := T_12.setTop (mkF m 28 #[.val (.ref a1), .val (.ref a2), .val (.int p3), .val v4, .val v5, .val (.ref a6)] [(.ref a6), (.ref a1)])) (fun t hr => XS.aload X_12.here hx rfl (hb hby d11_26) rfl rfl hr) ?_
  have F_13 := ((((Ftable.other W_3 (Or.inr (slot_ne (t := (.object "java/lang/String")) (t' := (.object "java/lang/String")) (Or.inr (hw _ (List.mem_of_getElem? (i := 51) rfl))) (Or.inr (hw _ (List.mem_of_getElem? (i := 43) rfl))) (by decide) (by decide) (by decide)))).other W_6 (Or.inr (slot_ne (t := (.object "java/lang/String")) (t' := .int) (Or.inr (hw _ (List.mem_of_getElem? (i := 51) rfl))) (Or.inr (hw _ (List.mem_of_getElem? (i := 45) rfl))) (by decide) (by decide) (by decide)))).other W_9 (Or.inr (slot_ne (t := (.object "java/lang/String")) (t' := (.object "java/lang/String")) (Or.inr (hw _ (List.mem_of_getElem? (i := 51) rfl))) (Or.inr (hw _ (List.mem_of_getElem? (i := 47) rfl))) (by decide) (by decide) (by decide)))).other W_12 (Or.inr (slot_ne (t := (.object "java/lang/String")) (t' := (.object "java/lang/String")) (Or.inr (hw _ (List.mem_of_getElem? (i := 51) rfl))) (Or.inr (hw _ (List.mem_of_getElem? (i := 49) rfl))) (by decide) (by decide) (by decide))))
  have F_14 := (F_11.wr W_12)
  obtain ⟨T_15, h_15, X_15, e_15, W_15, st_15⟩ := putF X_12 hx hZ hown (host := "") (Or.inl (hw _ (List.mem_of_getElem? (i := 50) rfl))) Via.refl e_12 F_13 F_14 (Or.inr ⟨(hw _ (List.mem_of_getElem? (i := 51) rfl)), rfl, hnm⟩) (hw _ (List.mem_of_getElem? (i := 31) rfl)) (ty := (.object "java/lang/String")) (by decide) rfl rfl (g := (mkF m 28 #[.val (.ref a1), .val (.ref a2), .val (.int p3), .val v4, .val v5, .val (.ref a6)] [(.ref a6), (.ref a1)])) rfl rfl (hb hby d11_28)
  have N_15 := Fr.snoc X_15 N_12 (by omega)
  have z_15 := W_15.size
  have F_15 := F_13.same W_15
  refine Go.st (S' := T_15.setTop (mkF m 31 #[.val (.ref a1), .val (.ref a2), .val (.int p3), .val v4, .val v5, .val (.ref a6)] [])) st_15 ?_
  refine Go.retV X_15 hx hlk hret (hb hby d11_31) (by decide) (by decide) ?_
  try rw [e_15]
  exact ⟨rfl, N_15, ((((((Keep.refl h0 [a1]).wr W_3 (Or.inl (by simp))).wr W_6 (Or.inl (by simp))).wr W_9 (Or.inl (by simp))).wr W_12 (Or.inl (by simp))).wr W_15 (Or.inl (by simp))), F_15⟩
theorem ef_rmHN (m : MethodId) (a1 : Nat) : entryFrame m #[(.ref a1)] 1 = mkF m 0 #[.val (.ref a1)] [] := by first | (simp [entryFrame, mkF, argsToLocals, Value.category]; done) | rfl
theorem pf_11 : plainFor (⟨"ObjectTable$Version", "hasRules", "()Z"⟩ : MethodName) = true := plainFor_of_name (by first | (simp [plainName, overriddenIn]; done) | decide +kernel)
theorem d12_0 : decode prog_14_method_2_code 0 = .ok (.aload_n 0, 1) := by decide +kernel
theorem d12_1 : decode prog_14_method_2_code 1 = .ok (.getfield 23, 3) := by decide +kernel
theorem d12_4 : decode prog_14_method_2_code 4 = .ok (.ifnull 7, 3) := by decide +kernel
theorem d12_11 : decode prog_14_method_2_code 11 = .ok (.iconst 0, 1) := by decide +kernel
theorem d12_12 : decode prog_14_method_2_code 12 = .ok (.ireturn, 1) := by decide +kernel
set_option maxRecDepth 65536 in
set_option maxHeartbeats 1000000 in
theorem rmHN (l : Launch) (Z : State) (a0 : Array Value) (hw : ∀ d ∈ tables_1, d.before a0 Z = true) (a1 : Nat) (h0 : Heap) (n0 : Nat) (Z0 : n0 ≤ h0.size) (Ft : Fld Z h0 a1 "ObjectTable$Version" "table" "Ljava/lang/String;" .null) :
    Con l Z (⟨"ObjectTable$Version", "hasRules", "()Z"⟩ : MethodName) prog_14_method_2_code 1 (some .boolean) ({ frames := 0, cells := 0, slots := 0, locals := 0 } : Room) #[(.ref a1)] h0 (fun v h L => v = some (.int 0) ∧ Fr n0 L ∧ h = h0) := by
  refine Con.of pf_11 ?_
  intro p e s m below meth c T0 X0 hx hby hml hZ hown hnm hret hlk e0
  have hown : s.vm.findClass "ObjectTable$Version" = some m.cls := hown
  have hnm : meth.name = "hasRules" := hnm
  have N0 := Fr.nil n0
  refine Go.cast (ef_rmHN m a1) ?_
  have lt_1 := own_ltF Ft
  refine Go.st (S' := T0.setTop (mkF m 1 #[.val (.ref a1)] [(.ref a1)])) (fun t hr => XS.aloadN X0.here hx rfl (hb hby d12_0) rfl rfl hr) ?_
  obtain ⟨T_2, X_2, e_2, st_2⟩ := getF X0 hx hZ hown (host := "") (Or.inl (hw _ (List.mem_of_getElem? (i := 50) rfl))) Via.refl e0 Ft (g := (mkF m 1 #[.val (.ref a1)] [(.ref a1)])) rfl rfl (hb hby d12_1)
  refine Go.st (S' := T_2.setTop (mkF m 4 #[.val (.ref a1)] [.null])) st_2 ?_
  refine Go.st (S' := T_2.setTop (mkF m 11 #[.val (.ref a1)] [])) (fun t hr => XS.ifnullYes X_2.here hx rfl (pc0 := 4) (pc' := 11) rfl (hb hby d12_4) rfl (by decide) (by decide) hr) ?_
  refine Go.st (S' := T_2.setTop (mkF m 12 #[.val (.ref a1)] [(.int (0 : Int32))])) (fun t hr => XS.iconst X_2.here hx rfl (hb hby d12_11) hr) ?_
  refine Go.retN X_2 hx hlk (t := .boolean) hret (by simp) (hb hby d12_12) (by decide) (by decide) ?_
  try rw [e_2]
  exact ⟨rfl, N0, rfl⟩
theorem ef_rmHR (m : MethodId) (a1 : Nat) : entryFrame m #[(.ref a1)] 1 = mkF m 0 #[.val (.ref a1)] [] := by first | (simp [entryFrame, mkF, argsToLocals, Value.category]; done) | rfl
theorem d12_7 : decode prog_14_method_2_code 7 = .ok (.iconst 1, 1) := by decide +kernel
theorem d12_8 : decode prog_14_method_2_code 8 = .ok (.goto 4, 3) := by decide +kernel
set_option maxRecDepth 65536 in
set_option maxHeartbeats 1000000 in
theorem rmHR (l : Launch) (Z : State) (a0 : Array Value) (hw : ∀ d ∈ tables_1, d.before a0 Z = true) (a1 : Nat) (h0 : Heap) (n0 : Nat) (Z0 : n0 ≤ h0.size) (a6 : Nat) (Ft : Fld Z h0 a1 "ObjectTable$Version" "table" "Ljava/lang/String;" (.ref a6)) :
    Con l Z (⟨"ObjectTable$Version", "hasRules", "()Z"⟩ : MethodName) prog_14_method_2_code 1 (some .boolean) ({ frames := 0, cells := 0, slots := 0, locals := 0 } : Room) #[(.ref a1)] h0 (fun v h L => v = some (.int 1) ∧ Fr n0 L ∧ h = h0) := by
  refine Con.of pf_11 ?_
  intro p e s m below meth c T0 X0 hx hby hml hZ hown hnm hret hlk e0
  have hown : s.vm.findClass "ObjectTable$Version" = some m.cls := hown
  have hnm : meth.name = "hasRules" := hnm
  have N0 := Fr.nil n0
  refine Go.cast (ef_rmHR m a1) ?_
  have lt_1 := own_ltF Ft
  refine Go.st (S' := T0.setTop (mkF m 1 #[.val (.ref a1)] [(.ref a1)])) (fun t hr => XS.aloadN X0.here hx rfl (hb hby d12_0) rfl rfl hr) ?_
  obtain ⟨T_2, X_2, e_2, st_2⟩ := getF X0 hx hZ hown (host := "") (Or.inl (hw _ (List.mem_of_getElem? (i := 50) rfl))) Via.refl e0 Ft (g := (mkF m 1 #[.val (.ref a1)] [(.ref a1)])) rfl rfl (hb hby d12_1)
  refine Go.st (S' := T_2.setTop (mkF m 4 #[.val (.ref a1)] [(.ref a6)])) st_2 ?_
  refine Go.st (S' := T_2.setTop (mkF m 7 #[.val (.ref a1)] [])) (fun t hr => XS.ifnullNo X_2.here hx rfl (hb hby d12_4) rfl hr) ?_
  refine Go.st (S' := T_2.setTop (mkF m 8 #[.val (.ref a1)] [(.int (1 : Int32))])) (fun t hr => XS.iconst X_2.here hx rfl (hb hby d12_7) hr) ?_
  refine Go.st (S' := T_2.setTop (mkF m 12 #[.val (.ref a1)] [(.int (1 : Int32))])) (fun t hr => XS.goto X_2.here hx rfl (pc0 := 8) (pc' := 12) rfl (hb hby d12_8) (by decide) (by decide) hr) ?_
  refine Go.retN X_2 hx hlk (t := .boolean) hret (by simp) (hb hby d12_12) (by decide) (by decide) ?_
  try rw [e_2]
  exact ⟨rfl, N0, rfl⟩
theorem pd_8 : parseMethodDescriptor "(Ljava/lang/String;ILjava/lang/String;Ljava/lang/String;Ljava/lang/String;)V" = some ⟨[(.object "java/lang/String"), .int, (.object "java/lang/String"), (.object "java/lang/String"), (.object "java/lang/String")], none⟩ := by decide +kernel
theorem pd_9 : parseMethodDescriptor "()Z" = some ⟨[], some .boolean⟩ := by decide +kernel
set_option maxRecDepth 65536 in
set_option maxHeartbeats 1000000 in
theorem tlN {p : Program} {l : Launch} {e : Env} {s : State} {m : MethodId} {args : Array Value} {below : List Frame} {meth : Method} {c : Code} (Z : State) (a0 : Array Value) (hw : ∀ d ∈ tables_1, d.before a0 Z = true) (n0 : Nat) (hx : p.tables.exec = Jvm.exec) (hby : c.code = code) (hml : c.maxLocals = 17) (hZ : Z.Warmed39 s.vm) (hown : s.vm.findClass "VersionHasRulesPinLaw" = some m.cls) (hnm : meth.name = "law") (hret : meth.sig.returnType = some .boolean) (hlk : meth.locks = false) (p1 p2 p3 p4 v5 v6 v7 v8 v9 v10 v11 : Int32) (sn : Nat) (vpk vru : Value) (rpk : vpk.isRef = true) (rru : vru.isRef = true) (nB : Nat) :
    ∀  (T0 : State) (locs0 : List Loc) (h0 : Heap) (Z0 : n0 ≤ h0.size) (X0 : Stand p l e room_1 s m args below meth c T0 locs0 9 25) (e0 : T0.heap = h0) (N0 : Fr n0 locs0) (hnB : nB ≤ h0.size), Go p e below s room_1.cells room_1.slots (fun v h L => v = some (.int 1) ∧ Fr n0 L ∧ nB ≤ h.size) (T0.setTop (mkF m 176 #[.val (.int p1), .val (.int p2), .val (.int p3), .val (.int p4), .val (.int (0 : Int32)), .val (.int v5), .val (.int v6), .val (.int v7), .val (.int v8), .val (.int v9), .val (.int v10), .val (.int v11), .val (.ref sn), .val vpk, .val vru, .val .null, .unset] [])) := by
  intro  T0 locs0 h0 Z0 X0 e0 N0 hnB
  obtain ⟨T_1, h_1, X_1, e_1, E_1, A_1, D_1, -, st_1⟩ := newO X0 hx hZ hown (hw _ (List.mem_of_getElem? (i := 30) rfl)) (hw _ (List.mem_of_getElem? (i := 31) rfl)) (hw _ (List.mem_of_getElem? (i := 32) rfl)) e0 (g := (mkF m 176 #[.val (.int p1), .val (.int p2), .val (.int p3), .val (.int p4), .val (.int (0 : Int32)), .val (.int v5), .val (.int v6), .val (.int v7), .val (.int v8), .val (.int v9), .val (.int v10), .val (.int v11), .val (.ref sn), .val vpk, .val vru, .val .null, .unset] [])) rfl (hb hby at_176) (by decide) (by decide)
  obtain ⟨ad_1, g_1⟩ : ∃ z, z = h0.size := ⟨_, rfl⟩
  rw [← g_1] at A_1 D_1 st_1
  have z_1 := E_1.1
  have y_1 := own_ltE A_1
  have F_1_name : Fld Z h_1 ad_1 "ObjectTable$Version" "name" "Ljava/lang/String;" .null := D_1 (Or.inr (hw _ (List.mem_of_getElem? (i := 43) rfl))) (ty := (.object "java/lang/String")) (by decide)
  have F_1_index : Fld Z h_1 ad_1 "ObjectTable$Version" "index" "I" (.int (0 : Int32)) := D_1 (Or.inr (hw _ (List.mem_of_getElem? (i := 45) rfl))) (ty := .int) (by decide)
  have F_1_pkg : Fld Z h_1 ad_1 "ObjectTable$Version" "pkg" "Ljava/lang/String;" .null := D_1 (Or.inr (hw _ (List.mem_of_getElem? (i := 47) rfl))) (ty := (.object "java/lang/String")) (by decide)
  have F_1_rules : Fld Z h_1 ad_1 "ObjectTable$Version" "rules" "Ljava/lang/String;" .null := D_1 (Or.inr (hw _ (List.mem_of_getElem? (i := 49) rfl))) (ty := (.object "java/lang/String")) (by decide)
  have F_1_table : Fld Z h_1 ad_1 "ObjectTable$Version" "table" "Ljava/lang/String;" .null := D_1 (Or.inr (hw _ (List.mem_of_getElem? (i := 51) rfl))) (ty := (.object "java/lang/String")) (by decide)
  refine Go.st (S' := T_1.setTop (mkF m 179 #[.val (.int p1), .val (.int p2), .val (.int p3), .val (.int p4), .val (.int (0 : Int32)), .val (.int v5), .val (.int v6), .val (.int v7), .val (.int v8), .val (.int v9), .val (.int v10), .val (.int v11), .val (.ref sn), .val vpk, .val vru, .val .null, .unset] [(.ref ad_1)])) st_1 ?_
  refine Go.st (S' := T_1.setTop (mkF m 180 #[.val (.int p1), .val (.int p2), .val (.int p3), .val (.int p4), .val (.int (0 : Int32)), .val (.int v5), .val (.int v6), .val (.int v7), .val (.int v8), .val (.int v9), .val (.int v10), .val (.int v11), .val (.ref sn), .val vpk, .val vru, .val .null, .unset] [(.ref ad_1), (.ref ad_1)])) (fun t hr => XS.dup X_1.here hx rfl (hb hby at_179) rfl rfl hr) ?_
  refine Go.st (S' := T_1.setTop (mkF m 182 #[.val (.int p1), .val (.int p2), .val (.int p3), .val (.int p4), .val (.int (0 : Int32)), .val (.int v5), .val (.int v6), .val (.int v7), .val (.int v8), .val (.int v9), .val (.int v10), .val (.int v11), .val (.ref sn), .val vpk, .val vru, .val .null, .unset] [(.ref sn), (.ref ad_1), (.ref ad_1)])) (fun t hr => XS.aload X_1.here hx rfl (hb hby at_180) rfl rfl hr) ?_
  refine Go.st (S' := T_1.setTop (mkF m 183 #[.val (.int p1), .val (.int p2), .val (.int p3), .val (.int p4), .val (.int (0 : Int32)), .val (.int v5), .val (.int v6), .val (.int v7), .val (.int v8), .val (.int v9), .val (.int v10), .val (.int v11), .val (.ref sn), .val vpk, .val vru, .val .null, .unset] [(.int p4), (.ref sn), (.ref ad_1), (.ref ad_1)])) (fun t hr => XS.iloadN X_1.here hx rfl (hb hby at_182) rfl hr) ?_
  refine Go.st (S' := T_1.setTop (mkF m 185 #[.val (.int p1), .val (.int p2), .val (.int p3), .val (.int p4), .val (.int (0 : Int32)), .val (.int v5), .val (.int v6), .val (.int v7), .val (.int v8), .val (.int v9), .val (.int v10), .val (.int v11), .val (.ref sn), .val vpk, .val vru, .val .null, .unset] [vpk, (.int p4), (.ref sn), (.ref ad_1), (.ref ad_1)])) (fun t hr => XS.aload X_1.here hx rfl (hb hby at_183) rfl rpk hr) ?_
  refine Go.st (S' := T_1.setTop (mkF m 187 #[.val (.int p1), .val (.int p2), .val (.int p3), .val (.int p4), .val (.int (0 : Int32)), .val (.int v5), .val (.int v6), .val (.int v7), .val (.int v8), .val (.int v9), .val (.int v10), .val (.int v11), .val (.ref sn), .val vpk, .val vru, .val .null, .unset] [vru, vpk, (.int p4), (.ref sn), (.ref ad_1), (.ref ad_1)])) (fun t hr => XS.aload X_1.here hx rfl (hb hby at_185) rfl rru hr) ?_
  refine Go.st (S' := T_1.setTop (mkF m 189 #[.val (.int p1), .val (.int p2), .val (.int p3), .val (.int p4), .val (.int (0 : Int32)), .val (.int v5), .val (.int v6), .val (.int v7), .val (.int v8), .val (.int v9), .val (.int v10), .val (.int v11), .val (.ref sn), .val vpk, .val vru, .val .null, .unset] [.null, vru, vpk, (.int p4), (.ref sn), (.ref ad_1), (.ref ad_1)])) (fun t hr => XS.aload X_1.here hx rfl (hb hby at_187) rfl rfl hr) ?_
  obtain ⟨v_2, T_2, h_2, L_2, X_2, e_2, Q_2, st_2⟩ := own_callN X_1 hx hZ (y := ⟨"ObjectTable$Version", "<init>", "(Ljava/lang/String;ILjava/lang/String;Ljava/lang/String;Ljava/lang/String;)V"⟩) rfl hown (hw _ (List.mem_of_getElem? (i := 33) rfl)) (hw _ (List.mem_of_getElem? (i := 34) rfl)) (hw _ (List.mem_of_getElem? (i := 32) rfl)) (hw _ (List.mem_of_getElem? (i := 35) rfl)) (by decide) e_1 (a := ad_1) (argsL := [(.ref sn), (.int p4), vpk, vru, .null]) (rest := [(.ref ad_1)]) (rmVN l Z a0 hw ad_1 sn p4 vpk vru h_1 n0 (by omega) A_1 (by omega) F_1_name F_1_index F_1_pkg F_1_rules F_1_table rpk rru) (g := (mkF m 189 #[.val (.int p1), .val (.int p2), .val (.int p3), .val (.int p4), .val (.int (0 : Int32)), .val (.int v5), .val (.int v6), .val (.int v7), .val (.int v8), .val (.int v9), .val (.int v10), .val (.int v11), .val (.ref sn), .val vpk, .val vru, .val .null, .unset] [.null, vru, vpk, (.int p4), (.ref sn), (.ref ad_1), (.ref ad_1)])) rfl (by rw [hml]; rfl) (lenOf pd_8 rfl) rfl (hb hby at_189) (W := 1) (by show 2 * 0 + _ ≤ _; exact Nat.le_of_eq rfl) (by decide) (by decide) (by decide) (by decide)
  obtain ⟨rfl, N_2, K_2, G_2⟩ := Q_2
  have N_2' := Fr.app N0 N_2
  have z_2 := K_2.1
  refine Go.st (S' := T_2.setTop (mkF m 192 #[.val (.int p1), .val (.int p2), .val (.int p3), .val (.int p4), .val (.int (0 : Int32)), .val (.int v5), .val (.int v6), .val (.int v7), .val (.int v8), .val (.int v9), .val (.int v10), .val (.int v11), .val (.ref sn), .val vpk, .val vru, .val .null, .unset] [(.ref ad_1)])) st_2 ?_
  refine Go.st (S' := T_2.setTop (mkF m 194 #[.val (.int p1), .val (.int p2), .val (.int p3), .val (.int p4), .val (.int (0 : Int32)), .val (.int v5), .val (.int v6), .val (.int v7), .val (.int v8), .val (.int v9), .val (.int v10), .val (.int v11), .val (.ref sn), .val vpk, .val vru, .val .null, .val (.ref ad_1)] [])) (fun t hr => XS.astore X_2.here hx rfl (hb hby at_192) rfl rfl (l' := #[.val (.int p1), .val (.int p2), .val (.int p3), .val (.int p4), .val (.int (0 : Int32)), .val (.int v5), .val (.int v6), .val (.int v7), .val (.int v8), .val (.int v9), .val (.int v10), .val (.int v11), .val (.ref sn), .val vpk, .val vru, .val .null, .val (.ref ad_1)]) rfl hr) ?_
  refine Go.st (S' := T_2.setTop (mkF m 196 #[.val (.int p1), .val (.int p2), .val (.int p3), .val (.int p4), .val (.int (0 : Int32)), .val (.int v5), .val (.int v6), .val (.int v7), .val (.int v8), .val (.int v9), .val (.int v10), .val (.int v11), .val (.ref sn), .val vpk, .val vru, .val .null, .val (.ref ad_1)] [(.ref ad_1)])) (fun t hr => XS.aload X_2.here hx rfl (hb hby at_194) rfl rfl hr) ?_
  have F_4 := (A_1.keep K_2)
  obtain ⟨v_3, T_3, h_3, L_3, X_3, e_3, Q_3, st_3⟩ := own_callV X_2 hx hZ (C := "ObjectTable$Version") (y := ⟨"ObjectTable$Version", "hasRules", "()Z"⟩) (z := ⟨"ObjectTable$Version", "hasRules", "()Z"⟩) hown (hw _ (List.mem_of_getElem? (i := 52) rfl)) (hw _ (List.mem_of_getElem? (i := 53) rfl)) (hw _ (List.mem_of_getElem? (i := 55) rfl)) (hw _ (List.mem_of_getElem? (i := 55) rfl)) (hw _ (List.mem_of_getElem? (i := 54) rfl)) (hw _ (List.mem_of_getElem? (i := 32) rfl)) (hw _ (List.mem_of_getElem? (i := 56) rfl)) (by decide) e_2 (a := ad_1) F_4 (argsL := []) (rest := []) (rmHN l Z a0 hw ad_1 h_2 n0 (by omega) G_2) (g := (mkF m 196 #[.val (.int p1), .val (.int p2), .val (.int p3), .val (.int p4), .val (.int (0 : Int32)), .val (.int v5), .val (.int v6), .val (.int v7), .val (.int v8), .val (.int v9), .val (.int v10), .val (.int v11), .val (.ref sn), .val vpk, .val vru, .val .null, .val (.ref ad_1)] [(.ref ad_1)])) rfl (by rw [hml]; rfl) (lenOf pd_9 rfl) rfl (hb hby at_196) (W := 0) (by show 2 * 0 + _ ≤ _; exact Nat.le_of_eq rfl) (by decide) (by decide) (by decide) (by decide)
  obtain ⟨rfl, N_3, hh_3⟩ := Q_3
  have N_3' := Fr.app N_2' N_3
  rw [hh_3] at e_3
  refine Go.st (S' := T_3.setTop (mkF m 199 #[.val (.int p1), .val (.int p2), .val (.int p3), .val (.int p4), .val (.int (0 : Int32)), .val (.int v5), .val (.int v6), .val (.int v7), .val (.int v8), .val (.int v9), .val (.int v10), .val (.int v11), .val (.ref sn), .val vpk, .val vru, .val .null, .val (.ref ad_1)] [(.int (0 : Int32))])) st_3 ?_
  refine Go.st (S' := T_3.setTop (mkF m 201 #[.val (.int p1), .val (.int p2), .val (.int p3), .val (.int p4), .val (.int (0 : Int32)), .val (.int v5), .val (.int v6), .val (.int v7), .val (.int v8), .val (.int v9), .val (.int v10), .val (.int v11), .val (.ref sn), .val vpk, .val vru, .val .null, .val (.ref ad_1)] [(.int (0 : Int32)), (.int (0 : Int32))])) (fun t hr => XS.iload X_3.here hx rfl (hb hby at_199) rfl hr) ?_
  refine Go.st (S' := T_3.setTop (mkF m 204 #[.val (.int p1), .val (.int p2), .val (.int p3), .val (.int p4), .val (.int (0 : Int32)), .val (.int v5), .val (.int v6), .val (.int v7), .val (.int v8), .val (.int v9), .val (.int v10), .val (.int v11), .val (.ref sn), .val vpk, .val vru, .val .null, .val (.ref ad_1)] [])) (fun t hr => XS.icmpNo X_3.here hx rfl (hb hby at_201) rfl (XT.ii_ne_f (by decide)) hr) ?_
  refine Go.st (S' := T_3.setTop (mkF m 205 #[.val (.int p1), .val (.int p2), .val (.int p3), .val (.int p4), .val (.int (0 : Int32)), .val (.int v5), .val (.int v6), .val (.int v7), .val (.int v8), .val (.int v9), .val (.int v10), .val (.int v11), .val (.ref sn), .val vpk, .val vru, .val .null, .val (.ref ad_1)] [(.int (1 : Int32))])) (fun t hr => XS.iconst X_3.here hx rfl (hb hby at_204) hr) ?_
  refine Go.st (S' := T_3.setTop (mkF m 209 #[.val (.int p1), .val (.int p2), .val (.int p3), .val (.int p4), .val (.int (0 : Int32)), .val (.int v5), .val (.int v6), .val (.int v7), .val (.int v8), .val (.int v9), .val (.int v10), .val (.int v11), .val (.ref sn), .val vpk, .val vru, .val .null, .val (.ref ad_1)] [(.int (1 : Int32))])) (fun t hr => XS.goto X_3.here hx rfl (pc0 := 205) (pc' := 209) rfl (hb hby at_205) (by decide) (by decide) hr) ?_
  refine Go.retN X_3 hx hlk (t := .boolean) hret (by simp) (hb hby at_209) (by decide) (by decide) ?_
  try rw [e_3]
  exact ⟨rfl, N_3', by omega⟩
set_option maxRecDepth 65536 in
set_option maxHeartbeats 1000000 in
theorem tlR {p : Program} {l : Launch} {e : Env} {s : State} {m : MethodId} {args : Array Value} {below : List Frame} {meth : Method} {c : Code} (Z : State) (a0 : Array Value) (hw : ∀ d ∈ tables_1, d.before a0 Z = true) (n0 : Nat) (hx : p.tables.exec = Jvm.exec) (hby : c.code = code) (hml : c.maxLocals = 17) (hZ : Z.Warmed39 s.vm) (hown : s.vm.findClass "VersionHasRulesPinLaw" = some m.cls) (hnm : meth.name = "law") (hret : meth.sig.returnType = some .boolean) (hlk : meth.locks = false) (p1 p2 p3 p4 v5 v6 v7 v8 v9 v10 v11 : Int32) (sn : Nat) (vpk vru : Value) (rpk : vpk.isRef = true) (rru : vru.isRef = true) (nB : Nat) (tt : Nat) :
    ∀  (T0 : State) (locs0 : List Loc) (h0 : Heap) (Z0 : n0 ≤ h0.size) (X0 : Stand p l e room_1 s m args below meth c T0 locs0 9 25) (e0 : T0.heap = h0) (N0 : Fr n0 locs0) (hnB : nB ≤ h0.size), Go p e below s room_1.cells room_1.slots (fun v h L => v = some (.int 1) ∧ Fr n0 L ∧ nB ≤ h.size) (T0.setTop (mkF m 176 #[.val (.int p1), .val (.int p2), .val (.int p3), .val (.int p4), .val (.int (1 : Int32)), .val (.int v5), .val (.int v6), .val (.int v7), .val (.int v8), .val (.int v9), .val (.int v10), .val (.int v11), .val (.ref sn), .val vpk, .val vru, .val (.ref tt), .unset] [])) := by
  intro  T0 locs0 h0 Z0 X0 e0 N0 hnB
  obtain ⟨T_1, h_1, X_1, e_1, E_1, A_1, D_1, -, st_1⟩ := newO X0 hx hZ hown (hw _ (List.mem_of_getElem? (i := 30) rfl)) (hw _ (List.mem_of_getElem? (i := 31) rfl)) (hw _ (List.mem_of_getElem? (i := 32) rfl)) e0 (g := (mkF m 176 #[.val (.int p1), .val (.int p2), .val (.int p3), .val (.int p4), .val (.int (1 : Int32)), .val (.int v5), .val (.int v6), .val (.int v7), .val (.int v8), .val (.int v9), .val (.int v10), .val (.int v11), .val (.ref sn), .val vpk, .val vru, .val (.ref tt), .unset] [])) rfl (hb hby at_176) (by decide) (by decide)
  obtain ⟨ad_1, g_1⟩ : ∃ z, z = h0.size := ⟨_, rfl⟩
  rw [← g_1] at A_1 D_1 st_1
  have z_1 := E_1.1
  have y_1 := own_ltE A_1
  have F_1_name : Fld Z h_1 ad_1 "ObjectTable$Version" "name" "Ljava/lang/String;" .null := D_1 (Or.inr (hw _ (List.mem_of_getElem? (i := 43) rfl))) (ty := (.object "java/lang/String")) (by decide)
  have F_1_index : Fld Z h_1 ad_1 "ObjectTable$Version" "index" "I" (.int (0 : Int32)) := D_1 (Or.inr (hw _ (List.mem_of_getElem? (i := 45) rfl))) (ty := .int) (by decide)
  have F_1_pkg : Fld Z h_1 ad_1 "ObjectTable$Version" "pkg" "Ljava/lang/String;" .null := D_1 (Or.inr (hw _ (List.mem_of_getElem? (i := 47) rfl))) (ty := (.object "java/lang/String")) (by decide)
  have F_1_rules : Fld Z h_1 ad_1 "ObjectTable$Version" "rules" "Ljava/lang/String;" .null := D_1 (Or.inr (hw _ (List.mem_of_getElem? (i := 49) rfl))) (ty := (.object "java/lang/String")) (by decide)
  have F_1_table : Fld Z h_1 ad_1 "ObjectTable$Version" "table" "Ljava/lang/String;" .null := D_1 (Or.inr (hw _ (List.mem_of_getElem? (i := 51) rfl))) (ty := (.object "java/lang/String")) (by decide)
  refine Go.st (S' := T_1.setTop (mkF m 179 #[.val (.int p1), .val (.int p2), .val (.int p3), .val (.int p4), .val (.int (1 : Int32)), .val (.int v5), .val (.int v6), .val (.int v7), .val (.int v8), .val (.int v9), .val (.int v10), .val (.int v11), .val (.ref sn), .val vpk, .val vru, .val (.ref tt), .unset] [(.ref ad_1)])) st_1 ?_
  refine Go.st (S' := T_1.setTop (mkF m 180 #[.val (.int p1), .val (.int p2), .val (.int p3), .val (.int p4), .val (.int (1 : Int32)), .val (.int v5), .val (.int v6), .val (.int v7), .val (.int v8), .val (.int v9), .val (.int v10), .val (.int v11), .val (.ref sn), .val vpk, .val vru, .val (.ref tt), .unset] [(.ref ad_1), (.ref ad_1)])) (fun t hr => XS.dup X_1.here hx rfl (hb hby at_179) rfl rfl hr) ?_
  refine Go.st (S' := T_1.setTop (mkF m 182 #[.val (.int p1), .val (.int p2), .val (.int p3), .val (.int p4), .val (.int (1 : Int32)), .val (.int v5), .val (.int v6), .val (.int v7), .val (.int v8), .val (.int v9), .val (.int v10), .val (.int v11), .val (.ref sn), .val vpk, .val vru, .val (.ref tt), .unset] [(.ref sn), (.ref ad_1), (.ref ad_1)])) (fun t hr => XS.aload X_1.here hx rfl (hb hby at_180) rfl rfl hr) ?_
  refine Go.st (S' := T_1.setTop (mkF m 183 #[.val (.int p1), .val (.int p2), .val (.int p3), .val (.int p4), .val (.int (1 : Int32)), .val (.int v5), .val (.int v6), .val (.int v7), .val (.int v8), .val (.int v9), .val (.int v10), .val (.int v11), .val (.ref sn), .val vpk, .val vru, .val (.ref tt), .unset] [(.int p4), (.ref sn), (.ref ad_1), (.ref ad_1)])) (fun t hr => XS.iloadN X_1.here hx rfl (hb hby at_182) rfl hr) ?_
  refine Go.st (S' := T_1.setTop (mkF m 185 #[.val (.int p1), .val (.int p2), .val (.int p3), .val (.int p4), .val (.int (1 : Int32)), .val (.int v5), .val (.int v6), .val (.int v7), .val (.int v8), .val (.int v9), .val (.int v10), .val (.int v11), .val (.ref sn), .val vpk, .val vru, .val (.ref tt), .unset] [vpk, (.int p4), (.ref sn), (.ref ad_1), (.ref ad_1)])) (fun t hr => XS.aload X_1.here hx rfl (hb hby at_183) rfl rpk hr) ?_
  refine Go.st (S' := T_1.setTop (mkF m 187 #[.val (.int p1), .val (.int p2), .val (.int p3), .val (.int p4), .val (.int (1 : Int32)), .val (.int v5), .val (.int v6), .val (.int v7), .val (.int v8), .val (.int v9), .val (.int v10), .val (.int v11), .val (.ref sn), .val vpk, .val vru, .val (.ref tt), .unset] [vru, vpk, (.int p4), (.ref sn), (.ref ad_1), (.ref ad_1)])) (fun t hr => XS.aload X_1.here hx rfl (hb hby at_185) rfl rru hr) ?_
  refine Go.st (S' := T_1.setTop (mkF m 189 #[.val (.int p1), .val (.int p2), .val (.int p3), .val (.int p4), .val (.int (1 : Int32)), .val (.int v5), .val (.int v6), .val (.int v7), .val (.int v8), .val (.int v9), .val (.int v10), .val (.int v11), .val (.ref sn), .val vpk, .val vru, .val (.ref tt), .unset] [(.ref tt), vru, vpk, (.int p4), (.ref sn), (.ref ad_1), (.ref ad_1)])) (fun t hr => XS.aload X_1.here hx rfl (hb hby at_187) rfl rfl hr) ?_
  obtain ⟨v_2, T_2, h_2, L_2, X_2, e_2, Q_2, st_2⟩ := own_callN X_1 hx hZ (y := ⟨"ObjectTable$Version", "<init>", "(Ljava/lang/String;ILjava/lang/String;Ljava/lang/String;Ljava/lang/String;)V"⟩) rfl hown (hw _ (List.mem_of_getElem? (i := 33) rfl)) (hw _ (List.mem_of_getElem? (i := 34) rfl)) (hw _ (List.mem_of_getElem? (i := 32) rfl)) (hw _ (List.mem_of_getElem? (i := 35) rfl)) (by decide) e_1 (a := ad_1) (argsL := [(.ref sn), (.int p4), vpk, vru, (.ref tt)]) (rest := [(.ref ad_1)]) (rmVR l Z a0 hw ad_1 sn p4 vpk vru tt h_1 n0 (by omega) A_1 (by omega) F_1_name F_1_index F_1_pkg F_1_rules F_1_table rpk rru) (g := (mkF m 189 #[.val (.int p1), .val (.int p2), .val (.int p3), .val (.int p4), .val (.int (1 : Int32)), .val (.int v5), .val (.int v6), .val (.int v7), .val (.int v8), .val (.int v9), .val (.int v10), .val (.int v11), .val (.ref sn), .val vpk, .val vru, .val (.ref tt), .unset] [(.ref tt), vru, vpk, (.int p4), (.ref sn), (.ref ad_1), (.ref ad_1)])) rfl (by rw [hml]; rfl) (lenOf pd_8 rfl) rfl (hb hby at_189) (W := 1) (by show 2 * 0 + _ ≤ _; exact Nat.le_of_eq rfl) (by decide) (by decide) (by decide) (by decide)
  obtain ⟨rfl, N_2, K_2, G_2⟩ := Q_2
  have N_2' := Fr.app N0 N_2
  have z_2 := K_2.1
  refine Go.st (S' := T_2.setTop (mkF m 192 #[.val (.int p1), .val (.int p2), .val (.int p3), .val (.int p4), .val (.int (1 : Int32)), .val (.int v5), .val (.int v6), .val (.int v7), .val (.int v8), .val (.int v9), .val (.int v10), .val (.int v11), .val (.ref sn), .val vpk, .val vru, .val (.ref tt), .unset] [(.ref ad_1)])) st_2 ?_
  refine Go.st (S' := T_2.setTop (mkF m 194 #[.val (.int p1), .val (.int p2), .val (.int p3), .val (.int p4), .val (.int (1 : Int32)), .val (.int v5), .val (.int v6), .val (.int v7), .val (.int v8), .val (.int v9), .val (.int v10), .val (.int v11), .val (.ref sn), .val vpk, .val vru, .val (.ref tt), .val (.ref ad_1)] [])) (fun t hr => XS.astore X_2.here hx rfl (hb hby at_192) rfl rfl (l' := #[.val (.int p1), .val (.int p2), .val (.int p3), .val (.int p4), .val (.int (1 : Int32)), .val (.int v5), .val (.int v6), .val (.int v7), .val (.int v8), .val (.int v9), .val (.int v10), .val (.int v11), .val (.ref sn), .val vpk, .val vru, .val (.ref tt), .val (.ref ad_1)]) rfl hr) ?_
  refine Go.st (S' := T_2.setTop (mkF m 196 #[.val (.int p1), .val (.int p2), .val (.int p3), .val (.int p4), .val (.int (1 : Int32)), .val (.int v5), .val (.int v6), .val (.int v7), .val (.int v8), .val (.int v9), .val (.int v10), .val (.int v11), .val (.ref sn), .val vpk, .val vru, .val (.ref tt), .val (.ref ad_1)] [(.ref ad_1)])) (fun t hr => XS.aload X_2.here hx rfl (hb hby at_194) rfl rfl hr) ?_
  have F_4 := (A_1.keep K_2)
  obtain ⟨v_3, T_3, h_3, L_3, X_3, e_3, Q_3, st_3⟩ := own_callV X_2 hx hZ (C := "ObjectTable$Version") (y := ⟨"ObjectTable$Version", "hasRules", "()Z"⟩) (z := ⟨"ObjectTable$Version", "hasRules", "()Z"⟩) hown (hw _ (List.mem_of_getElem? (i := 52) rfl)) (hw _ (List.mem_of_getElem? (i := 53) rfl)) (hw _ (List.mem_of_getElem? (i := 55) rfl)) (hw _ (List.mem_of_getElem? (i := 55) rfl)) (hw _ (List.mem_of_getElem? (i := 54) rfl)) (hw _ (List.mem_of_getElem? (i := 32) rfl)) (hw _ (List.mem_of_getElem? (i := 56) rfl)) (by decide) e_2 (a := ad_1) F_4 (argsL := []) (rest := []) (rmHR l Z a0 hw ad_1 h_2 n0 (by omega) tt G_2) (g := (mkF m 196 #[.val (.int p1), .val (.int p2), .val (.int p3), .val (.int p4), .val (.int (1 : Int32)), .val (.int v5), .val (.int v6), .val (.int v7), .val (.int v8), .val (.int v9), .val (.int v10), .val (.int v11), .val (.ref sn), .val vpk, .val vru, .val (.ref tt), .val (.ref ad_1)] [(.ref ad_1)])) rfl (by rw [hml]; rfl) (lenOf pd_9 rfl) rfl (hb hby at_196) (W := 0) (by show 2 * 0 + _ ≤ _; exact Nat.le_of_eq rfl) (by decide) (by decide) (by decide) (by decide)
  obtain ⟨rfl, N_3, hh_3⟩ := Q_3
  have N_3' := Fr.app N_2' N_3
  rw [hh_3] at e_3
  refine Go.st (S' := T_3.setTop (mkF m 199 #[.val (.int p1), .val (.int p2), .val (.int p3), .val (.int p4), .val (.int (1 : Int32)), .val (.int v5), .val (.int v6), .val (.int v7), .val (.int v8), .val (.int v9), .val (.int v10), .val (.int v11), .val (.ref sn), .val vpk, .val vru, .val (.ref tt), .val (.ref ad_1)] [(.int (1 : Int32))])) st_3 ?_
  refine Go.st (S' := T_3.setTop (mkF m 201 #[.val (.int p1), .val (.int p2), .val (.int p3), .val (.int p4), .val (.int (1 : Int32)), .val (.int v5), .val (.int v6), .val (.int v7), .val (.int v8), .val (.int v9), .val (.int v10), .val (.int v11), .val (.ref sn), .val vpk, .val vru, .val (.ref tt), .val (.ref ad_1)] [(.int (1 : Int32)), (.int (1 : Int32))])) (fun t hr => XS.iload X_3.here hx rfl (hb hby at_199) rfl hr) ?_
  refine Go.st (S' := T_3.setTop (mkF m 204 #[.val (.int p1), .val (.int p2), .val (.int p3), .val (.int p4), .val (.int (1 : Int32)), .val (.int v5), .val (.int v6), .val (.int v7), .val (.int v8), .val (.int v9), .val (.int v10), .val (.int v11), .val (.ref sn), .val vpk, .val vru, .val (.ref tt), .val (.ref ad_1)] [])) (fun t hr => XS.icmpNo X_3.here hx rfl (hb hby at_201) rfl (XT.ii_ne_f (by decide)) hr) ?_
  refine Go.st (S' := T_3.setTop (mkF m 205 #[.val (.int p1), .val (.int p2), .val (.int p3), .val (.int p4), .val (.int (1 : Int32)), .val (.int v5), .val (.int v6), .val (.int v7), .val (.int v8), .val (.int v9), .val (.int v10), .val (.int v11), .val (.ref sn), .val vpk, .val vru, .val (.ref tt), .val (.ref ad_1)] [(.int (1 : Int32))])) (fun t hr => XS.iconst X_3.here hx rfl (hb hby at_204) hr) ?_
  refine Go.st (S' := T_3.setTop (mkF m 209 #[.val (.int p1), .val (.int p2), .val (.int p3), .val (.int p4), .val (.int (1 : Int32)), .val (.int v5), .val (.int v6), .val (.int v7), .val (.int v8), .val (.int v9), .val (.int v10), .val (.int v11), .val (.ref sn), .val vpk, .val vru, .val (.ref tt), .val (.ref ad_1)] [(.int (1 : Int32))])) (fun t hr => XS.goto X_3.here hx rfl (pc0 := 205) (pc' := 209) rfl (hb hby at_205) (by decide) (by decide) hr) ?_
  refine Go.retN X_3 hx hlk (t := .boolean) hret (by simp) (hb hby at_209) (by decide) (by decide) ?_
  try rw [e_3]
  exact ⟨rfl, N_3', by omega⟩
theorem pd_10 : parseMethodDescriptor "(C)Ljava/lang/String;" = some ⟨[.char], some (.object "java/lang/String")⟩ := by decide +kernel
set_option maxRecDepth 65536 in
set_option maxHeartbeats 1000000 in
theorem p150 {p : Program} {l : Launch} {e : Env} {s : State} {m : MethodId} {args : Array Value} {below : List Frame} {meth : Method} {c : Code} (Z : State) (a0 : Array Value) (hw : ∀ d ∈ tables_1, d.before a0 Z = true) (n0 : Nat) (hx : p.tables.exec = Jvm.exec) (hby : c.code = code) (hml : c.maxLocals = 17) (hZ : Z.Warmed39 s.vm) (hown : s.vm.findClass "VersionHasRulesPinLaw" = some m.cls) (hnm : meth.name = "law") (hret : meth.sig.returnType = some .boolean) (hlk : meth.locks = false) (vcs : Int32) (hcs : ¬ vcs = 0) (SCS : Sta Z Z.heap "java/lang/String" "COMPACT_STRINGS" "Z" (.int vcs)) (p1 p2 p3 p4 v4 v5 v6 v7 : Int32) (h4 : v4 = 0 ∨ v4 = 1) (v8 v9 v10 v11 : Int32) (hb_v9 : ¬ (255 : Int32) < v9) (hb_v10 : ¬ (255 : Int32) < v10) (hb_v11 : ¬ (255 : Int32) < v11) (sn : Nat) (vpk vru : Value) (rpk : vpk.isRef = true) (rru : vru.isRef = true) :
    ∀  (T0 : State) (locs0 : List Loc) (h0 : Heap) (Z0 : n0 ≤ h0.size) (X0 : Stand p l e room_1 s m args below meth c T0 locs0 7 20) (e0 : T0.heap = h0) (N0 : Fr n0 locs0) (O0 : Old Z n0 h0), GoW p e below s room_1.cells room_1.slots (fun v h L => v = some (.int 1) ∧ Fr n0 L) (T0.setTop (mkF m 150 #[.val (.int p1), .val (.int p2), .val (.int p3), .val (.int p4), .val (.int v4), .val (.int v5), .val (.int v6), .val (.int v7), .val (.int v8), .val (.int v9), .val (.int v10), .val (.int v11), .val (.ref sn), .val vpk, .val vru, .unset, .unset] [])) := by
  intro  T0 locs0 h0 Z0 X0 e0 N0 O0
  refine GoW.st (S' := T0.setTop (mkF m 152 #[.val (.int p1), .val (.int p2), .val (.int p3), .val (.int p4), .val (.int v4), .val (.int v5), .val (.int v6), .val (.int v7), .val (.int v8), .val (.int v9), .val (.int v10), .val (.int v11), .val (.ref sn), .val vpk, .val vru, .unset, .unset] [(.int v4)])) (fun t hr => XS.iload X0.here hx rfl (hb hby at_150) rfl hr) ?_
  by_cases hc1 : v4 = 0
  · refine GoW.st (S' := T0.setTop (mkF m 173 #[.val (.int p1), .val (.int p2), .val (.int p3), .val (.int p4), .val (.int v4), .val (.int v5), .val (.int v6), .val (.int v7), .val (.int v8), .val (.int v9), .val (.int v10), .val (.int v11), .val (.ref sn), .val vpk, .val vru, .unset, .unset] [])) (fun t hr => XS.ifYes X0.here hx rfl (pc0 := 152) (pc' := 173) rfl (hb hby at_152) rfl (XT.i0_eq_t hc1) (by decide) (by decide) hr) ?_
    refine GoW.st (S' := T0.setTop (mkF m 174 #[.val (.int p1), .val (.int p2), .val (.int p3), .val (.int p4), .val (.int v4), .val (.int v5), .val (.int v6), .val (.int v7), .val (.int v8), .val (.int v9), .val (.int v10), .val (.int v11), .val (.ref sn), .val vpk, .val vru, .unset, .unset] [.null])) (fun t hr => XS.aconstNull X0.here hx rfl (hb hby at_173) hr) ?_
    refine GoW.st (S' := T0.setTop (mkF m 176 #[.val (.int p1), .val (.int p2), .val (.int p3), .val (.int p4), .val (.int v4), .val (.int v5), .val (.int v6), .val (.int v7), .val (.int v8), .val (.int v9), .val (.int v10), .val (.int v11), .val (.ref sn), .val vpk, .val vru, .val .null, .unset] [])) (fun t hr => XS.astore X0.here hx rfl (hb hby at_174) rfl rfl (l' := #[.val (.int p1), .val (.int p2), .val (.int p3), .val (.int p4), .val (.int v4), .val (.int v5), .val (.int v6), .val (.int v7), .val (.int v8), .val (.int v9), .val (.int v10), .val (.int v11), .val (.ref sn), .val vpk, .val vru, .val .null, .unset]) rfl hr) ?_
    obtain rfl := hc1
    exact GoW.ofGo ((tlN Z a0 hw n0 hx hby hml hZ hown hnm hret hlk p1 p2 p3 p4 v5 v6 v7 v8 v9 v10 v11 sn vpk vru rpk rru 0 T0 _ h0 (by omega) (own_more X0 (by decide) (by decide)) e0 N0 (by omega)).imp fun v h L q => ⟨q.1, q.2.1⟩)
  · refine GoW.st (S' := T0.setTop (mkF m 155 #[.val (.int p1), .val (.int p2), .val (.int p3), .val (.int p4), .val (.int v4), .val (.int v5), .val (.int v6), .val (.int v7), .val (.int v8), .val (.int v9), .val (.int v10), .val (.int v11), .val (.ref sn), .val vpk, .val vru, .unset, .unset] [])) (fun t hr => XS.ifNo X0.here hx rfl (hb hby at_152) rfl (XT.i0_eq_f hc1) hr) ?_
    obtain rfl : v4 = 1 := h4.resolve_left hc1
    refine GoW.st (S' := T0.setTop (mkF m 157 #[.val (.int p1), .val (.int p2), .val (.int p3), .val (.int p4), .val (.int (1 : Int32)), .val (.int v5), .val (.int v6), .val (.int v7), .val (.int v8), .val (.int v9), .val (.int v10), .val (.int v11), .val (.ref sn), .val vpk, .val vru, .unset, .unset] [(.int v6)])) (fun t hr => XS.iload X0.here hx rfl (hb hby at_155) rfl hr) ?_
    by_cases hc2 : v6 = 0
    · refine GoW.st (S' := T0.setTop (mkF m 165 #[.val (.int p1), .val (.int p2), .val (.int p3), .val (.int p4), .val (.int (1 : Int32)), .val (.int v5), .val (.int v6), .val (.int v7), .val (.int v8), .val (.int v9), .val (.int v10), .val (.int v11), .val (.ref sn), .val vpk, .val vru, .unset, .unset] [])) (fun t hr => XS.ifYes X0.here hx rfl (pc0 := 157) (pc' := 165) rfl (hb hby at_157) rfl (XT.i0_eq_t hc2) (by decide) (by decide) hr) ?_
      refine GoW.st (S' := T0.setTop (mkF m 167 #[.val (.int p1), .val (.int p2), .val (.int p3), .val (.int p4), .val (.int (1 : Int32)), .val (.int v5), .val (.int v6), .val (.int v7), .val (.int v8), .val (.int v9), .val (.int v10), .val (.int v11), .val (.ref sn), .val vpk, .val vru, .unset, .unset] [(.int v11)])) (fun t hr => XS.iload X0.here hx rfl (hb hby at_165) rfl hr) ?_
      obtain ⟨v_3, T_3, h_3, L_3, X_3, e_3, Q_3, st_3⟩ := own_callS X0 hx hZ (y := ⟨"java/lang/String", "valueOf", "(C)Ljava/lang/String;"⟩) hown (hw _ (List.mem_of_getElem? (i := 57) rfl)) (hw _ (List.mem_of_getElem? (i := 58) rfl)) (hw _ (List.mem_of_getElem? (i := 2) rfl)) (hw _ (List.mem_of_getElem? (i := 59) rfl)) (by decide) e0 (argsL := [(.int v11)]) (rest := []) (rmVO l Z a0 hw v11 h0 n0 (by omega) vcs hcs O0 SCS hb_v11) (g := (mkF m 167 #[.val (.int p1), .val (.int p2), .val (.int p3), .val (.int p4), .val (.int (1 : Int32)), .val (.int v5), .val (.int v6), .val (.int v7), .val (.int v8), .val (.int v9), .val (.int v10), .val (.int v11), .val (.ref sn), .val vpk, .val vru, .unset, .unset] [(.int v11)])) rfl (by rw [hml]; rfl) (lenOf pd_10 rfl) rfl (hb hby at_167) (W := 0) (by show 2 * 0 + _ ≤ _; exact Nat.le_of_eq rfl) (by decide) (by decide) (by decide) (by decide)
      obtain ⟨vo_3, rfl, N_3, K_3, g_3⟩ := Q_3
      have N_3' := Fr.app N0 N_3
      have z_3 := K_3.1
      refine GoW.st (S' := T_3.setTop (mkF m 170 #[.val (.int p1), .val (.int p2), .val (.int p3), .val (.int p4), .val (.int (1 : Int32)), .val (.int v5), .val (.int v6), .val (.int v7), .val (.int v8), .val (.int v9), .val (.int v10), .val (.int v11), .val (.ref sn), .val vpk, .val vru, .unset, .unset] [(.ref vo_3)])) st_3 ?_
      refine GoW.st (S' := T_3.setTop (mkF m 174 #[.val (.int p1), .val (.int p2), .val (.int p3), .val (.int p4), .val (.int (1 : Int32)), .val (.int v5), .val (.int v6), .val (.int v7), .val (.int v8), .val (.int v9), .val (.int v10), .val (.int v11), .val (.ref sn), .val vpk, .val vru, .unset, .unset] [(.ref vo_3)])) (fun t hr => XS.goto X_3.here hx rfl (pc0 := 170) (pc' := 174) rfl (hb hby at_170) (by decide) (by decide) hr) ?_
      refine GoW.st (S' := T_3.setTop (mkF m 176 #[.val (.int p1), .val (.int p2), .val (.int p3), .val (.int p4), .val (.int (1 : Int32)), .val (.int v5), .val (.int v6), .val (.int v7), .val (.int v8), .val (.int v9), .val (.int v10), .val (.int v11), .val (.ref sn), .val vpk, .val vru, .val (.ref vo_3), .unset] [])) (fun t hr => XS.astore X_3.here hx rfl (hb hby at_174) rfl rfl (l' := #[.val (.int p1), .val (.int p2), .val (.int p3), .val (.int p4), .val (.int (1 : Int32)), .val (.int v5), .val (.int v6), .val (.int v7), .val (.int v8), .val (.int v9), .val (.int v10), .val (.int v11), .val (.ref sn), .val vpk, .val vru, .val (.ref vo_3), .unset]) rfl hr) ?_
      exact GoW.ofGo ((tlR Z a0 hw n0 hx hby hml hZ hown hnm hret hlk p1 p2 p3 p4 v5 v6 v7 v8 v9 v10 v11 sn vpk vru rpk rru 0 vo_3 T_3 _ h_3 (by omega) (own_more X_3 (by decide) (by decide)) e_3 N_3' (by omega)).imp fun v h L q => ⟨q.1, q.2.1⟩)
    · refine GoW.st (S' := T0.setTop (mkF m 160 #[.val (.int p1), .val (.int p2), .val (.int p3), .val (.int p4), .val (.int (1 : Int32)), .val (.int v5), .val (.int v6), .val (.int v7), .val (.int v8), .val (.int v9), .val (.int v10), .val (.int v11), .val (.ref sn), .val vpk, .val vru, .unset, .unset] [])) (fun t hr => XS.ifNo X0.here hx rfl (hb hby at_157) rfl (XT.i0_eq_f hc2) hr) ?_
      obtain ⟨alit, T_l, h_l, k1, X_l, e_l, E_l, hS1, hk1, hZ1, hown1, st_l⟩ := ldcS (s := s) (vm0 := s.vm) X0 hx hZ hown (hw _ (List.mem_of_getElem? (i := 71) rfl)) (own_strA hw) e0 ((State.WarmedH.refl s).since 0) (Nat.zero_le _) (g := (mkF m 160 #[.val (.int p1), .val (.int p2), .val (.int p3), .val (.int p4), .val (.int (1 : Int32)), .val (.int v5), .val (.int v6), .val (.int v7), .val (.int v8), .val (.int v9), .val (.int v10), .val (.int v11), .val (.ref sn), .val vpk, .val vru, .unset, .unset] [])) rfl (hb hby at_160) (n := 0) (by decide) (by decide) (by decide) (by decide)
      have z_l := E_l.1
      refine GoW.st (S' := T_l.setTop (mkF m 162 #[.val (.int p1), .val (.int p2), .val (.int p3), .val (.int p4), .val (.int (1 : Int32)), .val (.int v5), .val (.int v6), .val (.int v7), .val (.int v8), .val (.int v9), .val (.int v10), .val (.int v11), .val (.ref sn), .val vpk, .val vru, .unset, .unset] [(.ref alit)])) st_l ?_
      refine GoW.st (S' := T_l.setTop (mkF m 174 #[.val (.int p1), .val (.int p2), .val (.int p3), .val (.int p4), .val (.int (1 : Int32)), .val (.int v5), .val (.int v6), .val (.int v7), .val (.int v8), .val (.int v9), .val (.int v10), .val (.int v11), .val (.ref sn), .val vpk, .val vru, .unset, .unset] [(.ref alit)])) (fun t hr => XS.goto X_l.here hx rfl (pc0 := 162) (pc' := 174) rfl (hb hby at_162) (by decide) (by decide) hr) ?_
      refine GoW.st (S' := T_l.setTop (mkF m 176 #[.val (.int p1), .val (.int p2), .val (.int p3), .val (.int p4), .val (.int (1 : Int32)), .val (.int v5), .val (.int v6), .val (.int v7), .val (.int v8), .val (.int v9), .val (.int v10), .val (.int v11), .val (.ref sn), .val vpk, .val vru, .val (.ref alit), .unset] [])) (fun t hr => XS.astore X_l.here hx rfl (hb hby at_174) rfl rfl (l' := #[.val (.int p1), .val (.int p2), .val (.int p3), .val (.int p4), .val (.int (1 : Int32)), .val (.int v5), .val (.int v6), .val (.int v7), .val (.int v8), .val (.int v9), .val (.int v10), .val (.int v11), .val (.ref sn), .val vpk, .val vru, .val (.ref alit), .unset]) rfl hr) ?_
      exact GoW.since hS1 (tlR (s := s.setVm T_l.vm) Z a0 hw n0 hx hby hml hZ1 hown1 hnm hret hlk p1 p2 p3 p4 v5 v6 v7 v8 v9 v10 v11 sn vpk vru rpk rru k1 alit T_l _ h_l (by omega) (own_more X_l (by decide) (by decide)) e_l N0 hk1) (fun v h L q => ⟨⟨q.1, q.2.1⟩, q.2.2⟩)
set_option maxRecDepth 65536 in
set_option maxHeartbeats 1000000 in
theorem p134 {p : Program} {l : Launch} {e : Env} {s : State} {m : MethodId} {args : Array Value} {below : List Frame} {meth : Method} {c : Code} (Z : State) (a0 : Array Value) (hw : ∀ d ∈ tables_1, d.before a0 Z = true) (n0 : Nat) (hx : p.tables.exec = Jvm.exec) (hby : c.code = code) (hml : c.maxLocals = 17) (hZ : Z.Warmed39 s.vm) (hown : s.vm.findClass "VersionHasRulesPinLaw" = some m.cls) (hnm : meth.name = "law") (hret : meth.sig.returnType = some .boolean) (hlk : meth.locks = false) (vcs : Int32) (hcs : ¬ vcs = 0) (SCS : Sta Z Z.heap "java/lang/String" "COMPACT_STRINGS" "Z" (.int vcs)) (p1 p2 p3 p4 v4 v5 v6 v7 : Int32) (h4 : v4 = 0 ∨ v4 = 1) (v8 v9 v10 v11 : Int32) (hb_v9 : ¬ (255 : Int32) < v9) (hb_v10 : ¬ (255 : Int32) < v10) (hb_v11 : ¬ (255 : Int32) < v11) (sn : Nat) (vpk : Value) (rpk : vpk.isRef = true) :
    ∀  (T0 : State) (locs0 : List Loc) (h0 : Heap) (Z0 : n0 ≤ h0.size) (X0 : Stand p l e room_1 s m args below meth c T0 locs0 5 15) (e0 : T0.heap = h0) (N0 : Fr n0 locs0) (O0 : Old Z n0 h0), GoW p e below s room_1.cells room_1.slots (fun v h L => v = some (.int 1) ∧ Fr n0 L) (T0.setTop (mkF m 134 #[.val (.int p1), .val (.int p2), .val (.int p3), .val (.int p4), .val (.int v4), .val (.int v5), .val (.int v6), .val (.int v7), .val (.int v8), .val (.int v9), .val (.int v10), .val (.int v11), .val (.ref sn), .val vpk, .unset, .unset, .unset] [])) := by
  intro  T0 locs0 h0 Z0 X0 e0 N0 O0
  refine GoW.st (S' := T0.setTop (mkF m 136 #[.val (.int p1), .val (.int p2), .val (.int p3), .val (.int p4), .val (.int v4), .val (.int v5), .val (.int v6), .val (.int v7), .val (.int v8), .val (.int v9), .val (.int v10), .val (.int v11), .val (.ref sn), .val vpk, .unset, .unset, .unset] [(.int v5)])) (fun t hr => XS.iload X0.here hx rfl (hb hby at_134) rfl hr) ?_
  by_cases hc1 : v5 = 0
  · refine GoW.st (S' := T0.setTop (mkF m 147 #[.val (.int p1), .val (.int p2), .val (.int p3), .val (.int p4), .val (.int v4), .val (.int v5), .val (.int v6), .val (.int v7), .val (.int v8), .val (.int v9), .val (.int v10), .val (.int v11), .val (.ref sn), .val vpk, .unset, .unset, .unset] [])) (fun t hr => XS.ifYes X0.here hx rfl (pc0 := 136) (pc' := 147) rfl (hb hby at_136) rfl (XT.i0_eq_t hc1) (by decide) (by decide) hr) ?_
    refine GoW.st (S' := T0.setTop (mkF m 148 #[.val (.int p1), .val (.int p2), .val (.int p3), .val (.int p4), .val (.int v4), .val (.int v5), .val (.int v6), .val (.int v7), .val (.int v8), .val (.int v9), .val (.int v10), .val (.int v11), .val (.ref sn), .val vpk, .unset, .unset, .unset] [.null])) (fun t hr => XS.aconstNull X0.here hx rfl (hb hby at_147) hr) ?_
    refine GoW.st (S' := T0.setTop (mkF m 150 #[.val (.int p1), .val (.int p2), .val (.int p3), .val (.int p4), .val (.int v4), .val (.int v5), .val (.int v6), .val (.int v7), .val (.int v8), .val (.int v9), .val (.int v10), .val (.int v11), .val (.ref sn), .val vpk, .val .null, .unset, .unset] [])) (fun t hr => XS.astore X0.here hx rfl (hb hby at_148) rfl rfl (l' := #[.val (.int p1), .val (.int p2), .val (.int p3), .val (.int p4), .val (.int v4), .val (.int v5), .val (.int v6), .val (.int v7), .val (.int v8), .val (.int v9), .val (.int v10), .val (.int v11), .val (.ref sn), .val vpk, .val .null, .unset, .unset]) rfl hr) ?_
    exact p150 Z a0 hw n0 hx hby hml hZ hown hnm hret hlk vcs hcs SCS p1 p2 p3 p4 v4 v5 v6 v7 h4 v8 v9 v10 v11 hb_v9 hb_v10 hb_v11 sn vpk .null rpk rfl T0 _ h0 (by omega) (own_more X0 (by decide) (by decide)) e0 N0 O0
  · refine GoW.st (S' := T0.setTop (mkF m 139 #[.val (.int p1), .val (.int p2), .val (.int p3), .val (.int p4), .val (.int v4), .val (.int v5), .val (.int v6), .val (.int v7), .val (.int v8), .val (.int v9), .val (.int v10), .val (.int v11), .val (.ref sn), .val vpk, .unset, .unset, .unset] [])) (fun t hr => XS.ifNo X0.here hx rfl (hb hby at_136) rfl (XT.i0_eq_f hc1) hr) ?_
    refine GoW.st (S' := T0.setTop (mkF m 141 #[.val (.int p1), .val (.int p2), .val (.int p3), .val (.int p4), .val (.int v4), .val (.int v5), .val (.int v6), .val (.int v7), .val (.int v8), .val (.int v9), .val (.int v10), .val (.int v11), .val (.ref sn), .val vpk, .unset, .unset, .unset] [(.int v10)])) (fun t hr => XS.iload X0.here hx rfl (hb hby at_139) rfl hr) ?_
    obtain ⟨v_2, T_2, h_2, L_2, X_2, e_2, Q_2, st_2⟩ := own_callS X0 hx hZ (y := ⟨"java/lang/String", "valueOf", "(C)Ljava/lang/String;"⟩) hown (hw _ (List.mem_of_getElem? (i := 57) rfl)) (hw _ (List.mem_of_getElem? (i := 58) rfl)) (hw _ (List.mem_of_getElem? (i := 2) rfl)) (hw _ (List.mem_of_getElem? (i := 59) rfl)) (by decide) e0 (argsL := [(.int v10)]) (rest := []) (rmVO l Z a0 hw v10 h0 n0 (by omega) vcs hcs O0 SCS hb_v10) (g := (mkF m 141 #[.val (.int p1), .val (.int p2), .val (.int p3), .val (.int p4), .val (.int v4), .val (.int v5), .val (.int v6), .val (.int v7), .val (.int v8), .val (.int v9), .val (.int v10), .val (.int v11), .val (.ref sn), .val vpk, .unset, .unset, .unset] [(.int v10)])) rfl (by rw [hml]; rfl) (lenOf pd_10 rfl) rfl (hb hby at_141) (W := 0) (by show 2 * 0 + _ ≤ _; exact Nat.le_of_eq rfl) (by decide) (by decide) (by decide) (by decide)
    obtain ⟨vo_2, rfl, N_2, K_2, g_2⟩ := Q_2
    have N_2' := Fr.app N0 N_2
    have z_2 := K_2.1
    refine GoW.st (S' := T_2.setTop (mkF m 144 #[.val (.int p1), .val (.int p2), .val (.int p3), .val (.int p4), .val (.int v4), .val (.int v5), .val (.int v6), .val (.int v7), .val (.int v8), .val (.int v9), .val (.int v10), .val (.int v11), .val (.ref sn), .val vpk, .unset, .unset, .unset] [(.ref vo_2)])) st_2 ?_
    refine GoW.st (S' := T_2.setTop (mkF m 148 #[.val (.int p1), .val (.int p2), .val (.int p3), .val (.int p4), .val (.int v4), .val (.int v5), .val (.int v6), .val (.int v7), .val (.int v8), .val (.int v9), .val (.int v10), .val (.int v11), .val (.ref sn), .val vpk, .unset, .unset, .unset] [(.ref vo_2)])) (fun t hr => XS.goto X_2.here hx rfl (pc0 := 144) (pc' := 148) rfl (hb hby at_144) (by decide) (by decide) hr) ?_
    refine GoW.st (S' := T_2.setTop (mkF m 150 #[.val (.int p1), .val (.int p2), .val (.int p3), .val (.int p4), .val (.int v4), .val (.int v5), .val (.int v6), .val (.int v7), .val (.int v8), .val (.int v9), .val (.int v10), .val (.int v11), .val (.ref sn), .val vpk, .val (.ref vo_2), .unset, .unset] [])) (fun t hr => XS.astore X_2.here hx rfl (hb hby at_148) rfl rfl (l' := #[.val (.int p1), .val (.int p2), .val (.int p3), .val (.int p4), .val (.int v4), .val (.int v5), .val (.int v6), .val (.int v7), .val (.int v8), .val (.int v9), .val (.int v10), .val (.int v11), .val (.ref sn), .val vpk, .val (.ref vo_2), .unset, .unset]) rfl hr) ?_
    have F_3 := (O0.keep K_2 all0)
    exact p150 Z a0 hw n0 hx hby hml hZ hown hnm hret hlk vcs hcs SCS p1 p2 p3 p4 v4 v5 v6 v7 h4 v8 v9 v10 v11 hb_v9 hb_v10 hb_v11 sn vpk (.ref vo_2) rpk rfl T_2 _ h_2 (by omega) (own_more X_2 (by decide) (by decide)) e_2 N_2' F_3
set_option maxRecDepth 65536 in
set_option maxHeartbeats 1000000 in
theorem p118 {p : Program} {l : Launch} {e : Env} {s : State} {m : MethodId} {args : Array Value} {below : List Frame} {meth : Method} {c : Code} (Z : State) (a0 : Array Value) (hw : ∀ d ∈ tables_1, d.before a0 Z = true) (n0 : Nat) (hx : p.tables.exec = Jvm.exec) (hby : c.code = code) (hml : c.maxLocals = 17) (hZ : Z.Warmed39 s.vm) (hown : s.vm.findClass "VersionHasRulesPinLaw" = some m.cls) (hnm : meth.name = "law") (hret : meth.sig.returnType = some .boolean) (hlk : meth.locks = false) (vcs : Int32) (hcs : ¬ vcs = 0) (SCS : Sta Z Z.heap "java/lang/String" "COMPACT_STRINGS" "Z" (.int vcs)) (p1 p2 p3 p4 v4 v5 v6 v7 : Int32) (h4 : v4 = 0 ∨ v4 = 1) (v8 v9 v10 v11 : Int32) (hb_v9 : ¬ (255 : Int32) < v9) (hb_v10 : ¬ (255 : Int32) < v10) (hb_v11 : ¬ (255 : Int32) < v11) (sn : Nat) :
    ∀  (T0 : State) (locs0 : List Loc) (h0 : Heap) (Z0 : n0 ≤ h0.size) (X0 : Stand p l e room_1 s m args below meth c T0 locs0 3 10) (e0 : T0.heap = h0) (N0 : Fr n0 locs0) (O0 : Old Z n0 h0), GoW p e below s room_1.cells room_1.slots (fun v h L => v = some (.int 1) ∧ Fr n0 L) (T0.setTop (mkF m 118 #[.val (.int p1), .val (.int p2), .val (.int p3), .val (.int p4), .val (.int v4), .val (.int v5), .val (.int v6), .val (.int v7), .val (.int v8), .val (.int v9), .val (.int v10), .val (.int v11), .val (.ref sn), .unset, .unset, .unset, .unset] [])) := by
  intro  T0 locs0 h0 Z0 X0 e0 N0 O0
  refine GoW.st (S' := T0.setTop (mkF m 120 #[.val (.int p1), .val (.int p2), .val (.int p3), .val (.int p4), .val (.int v4), .val (.int v5), .val (.int v6), .val (.int v7), .val (.int v8), .val (.int v9), .val (.int v10), .val (.int v11), .val (.ref sn), .unset, .unset, .unset, .unset] [(.int v7)])) (fun t hr => XS.iload X0.here hx rfl (hb hby at_118) rfl hr) ?_
  by_cases hc1 : v7 = 0
  · refine GoW.st (S' := T0.setTop (mkF m 131 #[.val (.int p1), .val (.int p2), .val (.int p3), .val (.int p4), .val (.int v4), .val (.int v5), .val (.int v6), .val (.int v7), .val (.int v8), .val (.int v9), .val (.int v10), .val (.int v11), .val (.ref sn), .unset, .unset, .unset, .unset] [])) (fun t hr => XS.ifYes X0.here hx rfl (pc0 := 120) (pc' := 131) rfl (hb hby at_120) rfl (XT.i0_eq_t hc1) (by decide) (by decide) hr) ?_
    refine GoW.st (S' := T0.setTop (mkF m 132 #[.val (.int p1), .val (.int p2), .val (.int p3), .val (.int p4), .val (.int v4), .val (.int v5), .val (.int v6), .val (.int v7), .val (.int v8), .val (.int v9), .val (.int v10), .val (.int v11), .val (.ref sn), .unset, .unset, .unset, .unset] [.null])) (fun t hr => XS.aconstNull X0.here hx rfl (hb hby at_131) hr) ?_
    refine GoW.st (S' := T0.setTop (mkF m 134 #[.val (.int p1), .val (.int p2), .val (.int p3), .val (.int p4), .val (.int v4), .val (.int v5), .val (.int v6), .val (.int v7), .val (.int v8), .val (.int v9), .val (.int v10), .val (.int v11), .val (.ref sn), .val .null, .unset, .unset, .unset] [])) (fun t hr => XS.astore X0.here hx rfl (hb hby at_132) rfl rfl (l' := #[.val (.int p1), .val (.int p2), .val (.int p3), .val (.int p4), .val (.int v4), .val (.int v5), .val (.int v6), .val (.int v7), .val (.int v8), .val (.int v9), .val (.int v10), .val (.int v11), .val (.ref sn), .val .null, .unset, .unset, .unset]) rfl hr) ?_
    exact p134 Z a0 hw n0 hx hby hml hZ hown hnm hret hlk vcs hcs SCS p1 p2 p3 p4 v4 v5 v6 v7 h4 v8 v9 v10 v11 hb_v9 hb_v10 hb_v11 sn .null rfl T0 _ h0 (by omega) (own_more X0 (by decide) (by decide)) e0 N0 O0
  · refine GoW.st (S' := T0.setTop (mkF m 123 #[.val (.int p1), .val (.int p2), .val (.int p3), .val (.int p4), .val (.int v4), .val (.int v5), .val (.int v6), .val (.int v7), .val (.int v8), .val (.int v9), .val (.int v10), .val (.int v11), .val (.ref sn), .unset, .unset, .unset, .unset] [])) (fun t hr => XS.ifNo X0.here hx rfl (hb hby at_120) rfl (XT.i0_eq_f hc1) hr) ?_
    refine GoW.st (S' := T0.setTop (mkF m 125 #[.val (.int p1), .val (.int p2), .val (.int p3), .val (.int p4), .val (.int v4), .val (.int v5), .val (.int v6), .val (.int v7), .val (.int v8), .val (.int v9), .val (.int v10), .val (.int v11), .val (.ref sn), .unset, .unset, .unset, .unset] [(.int v9)])) (fun t hr => XS.iload X0.here hx rfl (hb hby at_123) rfl hr) ?_
    obtain ⟨v_2, T_2, h_2, L_2, X_2, e_2, Q_2, st_2⟩ := own_callS X0 hx hZ (y := ⟨"java/lang/String", "valueOf", "(C)Ljava/lang/String;"⟩) hown (hw _ (List.mem_of_getElem? (i := 57) rfl)) (hw _ (List.mem_of_getElem? (i := 58) rfl)) (hw _ (List.mem_of_getElem? (i := 2) rfl)) (hw _ (List.mem_of_getElem? (i := 59) rfl)) (by decide) e0 (argsL := [(.int v9)]) (rest := []) (rmVO l Z a0 hw v9 h0 n0 (by omega) vcs hcs O0 SCS hb_v9) (g := (mkF m 125 #[.val (.int p1), .val (.int p2), .val (.int p3), .val (.int p4), .val (.int v4), .val (.int v5), .val (.int v6), .val (.int v7), .val (.int v8), .val (.int v9), .val (.int v10), .val (.int v11), .val (.ref sn), .unset, .unset, .unset, .unset] [(.int v9)])) rfl (by rw [hml]; rfl) (lenOf pd_10 rfl) rfl (hb hby at_125) (W := 0) (by show 2 * 0 + _ ≤ _; exact Nat.le_of_eq rfl) (by decide) (by decide) (by decide) (by decide)
    obtain ⟨vo_2, rfl, N_2, K_2, g_2⟩ := Q_2
    have N_2' := Fr.app N0 N_2
    have z_2 := K_2.1
    refine GoW.st (S' := T_2.setTop (mkF m 128 #[.val (.int p1), .val (.int p2), .val (.int p3), .val (.int p4), .val (.int v4), .val (.int v5), .val (.int v6), .val (.int v7), .val (.int v8), .val (.int v9), .val (.int v10), .val (.int v11), .val (.ref sn), .unset, .unset, .unset, .unset] [(.ref vo_2)])) st_2 ?_
    refine GoW.st (S' := T_2.setTop (mkF m 132 #[.val (.int p1), .val (.int p2), .val (.int p3), .val (.int p4), .val (.int v4), .val (.int v5), .val (.int v6), .val (.int v7), .val (.int v8), .val (.int v9), .val (.int v10), .val (.int v11), .val (.ref sn), .unset, .unset, .unset, .unset] [(.ref vo_2)])) (fun t hr => XS.goto X_2.here hx rfl (pc0 := 128) (pc' := 132) rfl (hb hby at_128) (by decide) (by decide) hr) ?_
    refine GoW.st (S' := T_2.setTop (mkF m 134 #[.val (.int p1), .val (.int p2), .val (.int p3), .val (.int p4), .val (.int v4), .val (.int v5), .val (.int v6), .val (.int v7), .val (.int v8), .val (.int v9), .val (.int v10), .val (.int v11), .val (.ref sn), .val (.ref vo_2), .unset, .unset, .unset] [])) (fun t hr => XS.astore X_2.here hx rfl (hb hby at_132) rfl rfl (l' := #[.val (.int p1), .val (.int p2), .val (.int p3), .val (.int p4), .val (.int v4), .val (.int v5), .val (.int v6), .val (.int v7), .val (.int v8), .val (.int v9), .val (.int v10), .val (.int v11), .val (.ref sn), .val (.ref vo_2), .unset, .unset, .unset]) rfl hr) ?_
    have F_3 := (O0.keep K_2 all0)
    exact p134 Z a0 hw n0 hx hby hml hZ hown hnm hret hlk vcs hcs SCS p1 p2 p3 p4 v4 v5 v6 v7 h4 v8 v9 v10 v11 hb_v9 hb_v10 hb_v11 sn (.ref vo_2) rfl T_2 _ h_2 (by omega) (own_more X_2 (by decide) (by decide)) e_2 N_2' F_3
theorem pd_11 : parseMethodDescriptor "([C)V" = some ⟨[(.array .char)], none⟩ := by decide +kernel
set_option maxRecDepth 65536 in
set_option maxHeartbeats 1000000 in
theorem p53 {p : Program} {l : Launch} {e : Env} {s : State} {m : MethodId} {args : Array Value} {below : List Frame} {meth : Method} {c : Code} (Z : State) (a0 : Array Value) (hw : ∀ d ∈ tables_1, d.before a0 Z = true) (n0 : Nat) (hx : p.tables.exec = Jvm.exec) (hby : c.code = code) (hml : c.maxLocals = 17) (hZ : Z.Warmed39 s.vm) (hown : s.vm.findClass "VersionHasRulesPinLaw" = some m.cls) (hnm : meth.name = "law") (hret : meth.sig.returnType = some .boolean) (hlk : meth.locks = false) (vcs : Int32) (hcs : ¬ vcs = 0) (SCS : Sta Z Z.heap "java/lang/String" "COMPACT_STRINGS" "Z" (.int vcs)) (p1 p2 p3 p4 v4 v5 v6 v7 : Int32) (h4 : v4 = 0 ∨ v4 = 1) :
    ∀  (T0 : State) (locs0 : List Loc) (h0 : Heap) (Z0 : n0 ≤ h0.size) (X0 : Stand p l e room_1 s m args below meth c T0 locs0 0 0) (e0 : T0.heap = h0) (N0 : Fr n0 locs0) (O0 : Old Z n0 h0), GoW p e below s room_1.cells room_1.slots (fun v h L => v = some (.int 1) ∧ Fr n0 L) (T0.setTop (mkF m 53 #[.val (.int p1), .val (.int p2), .val (.int p3), .val (.int p4), .val (.int v4), .val (.int v5), .val (.int v6), .val (.int v7), .unset, .unset, .unset, .unset, .unset, .unset, .unset, .unset, .unset] [])) := by
  intro  T0 locs0 h0 Z0 X0 e0 N0 O0
  refine GoW.st (S' := T0.setTop (mkF m 54 #[.val (.int p1), .val (.int p2), .val (.int p3), .val (.int p4), .val (.int v4), .val (.int v5), .val (.int v6), .val (.int v7), .unset, .unset, .unset, .unset, .unset, .unset, .unset, .unset, .unset] [(.int p2)])) (fun t hr => XS.iloadN X0.here hx rfl (hb hby at_53) rfl hr) ?_
  refine GoW.st (S' := T0.setTop (mkF m 57 #[.val (.int p1), .val (.int p2), .val (.int p3), .val (.int p4), .val (.int v4), .val (.int v5), .val (.int v6), .val (.int v7), .unset, .unset, .unset, .unset, .unset, .unset, .unset, .unset, .unset] [(.int (255 : Int32)), (.int p2)])) (fun t hr => XS.sipush X0.here hx rfl (hb hby at_54) hr) ?_
  refine GoW.st (S' := T0.setTop (mkF m 58 #[.val (.int p1), .val (.int p2), .val (.int p3), .val (.int p4), .val (.int v4), .val (.int v5), .val (.int v6), .val (.int v7), .unset, .unset, .unset, .unset, .unset, .unset, .unset, .unset, .unset] [(.int (p2 &&& (255 : Int32)))])) (fun t hr => XS.iand X0.here hx rfl (hb hby at_57) rfl hr) ?_
  refine GoW.st (S' := T0.setTop (mkF m 59 #[.val (.int p1), .val (.int p2), .val (.int p3), .val (.int p4), .val (.int v4), .val (.int v5), .val (.int v6), .val (.int v7), .unset, .unset, .unset, .unset, .unset, .unset, .unset, .unset, .unset] [(.int ((p2 &&& (255 : Int32)).toUInt32.toUInt16.toUInt32.toInt32))])) (fun t hr => XT.i2c X0.here hx rfl (hb hby at_58) rfl hr) ?_
  obtain ⟨v8, hv8⟩ : ∃ z : Int32, z = ((p2 &&& (255 : Int32)).toUInt32.toUInt16.toUInt32.toInt32) := ⟨_, rfl⟩
  refine GoW.st (S' := T0.setTop (mkF m 61 #[.val (.int p1), .val (.int p2), .val (.int p3), .val (.int p4), .val (.int v4), .val (.int v5), .val (.int v6), .val (.int v7), .val (.int v8), .unset, .unset, .unset, .unset, .unset, .unset, .unset, .unset] [])) (fun t hr => by subst hv8; exact XS.istore X0.here hx rfl (hb hby at_59) rfl (l' := _) rfl hr) ?_
  refine GoW.st (S' := T0.setTop (mkF m 62 #[.val (.int p1), .val (.int p2), .val (.int p3), .val (.int p4), .val (.int v4), .val (.int v5), .val (.int v6), .val (.int v7), .val (.int v8), .unset, .unset, .unset, .unset, .unset, .unset, .unset, .unset] [(.int p3)])) (fun t hr => XS.iloadN X0.here hx rfl (hb hby at_61) rfl hr) ?_
  refine GoW.st (S' := T0.setTop (mkF m 65 #[.val (.int p1), .val (.int p2), .val (.int p3), .val (.int p4), .val (.int v4), .val (.int v5), .val (.int v6), .val (.int v7), .val (.int v8), .unset, .unset, .unset, .unset, .unset, .unset, .unset, .unset] [(.int (255 : Int32)), (.int p3)])) (fun t hr => XS.sipush X0.here hx rfl (hb hby at_62) hr) ?_
  refine GoW.st (S' := T0.setTop (mkF m 66 #[.val (.int p1), .val (.int p2), .val (.int p3), .val (.int p4), .val (.int v4), .val (.int v5), .val (.int v6), .val (.int v7), .val (.int v8), .unset, .unset, .unset, .unset, .unset, .unset, .unset, .unset] [(.int (p3 &&& (255 : Int32)))])) (fun t hr => XS.iand X0.here hx rfl (hb hby at_65) rfl hr) ?_
  refine GoW.st (S' := T0.setTop (mkF m 67 #[.val (.int p1), .val (.int p2), .val (.int p3), .val (.int p4), .val (.int v4), .val (.int v5), .val (.int v6), .val (.int v7), .val (.int v8), .unset, .unset, .unset, .unset, .unset, .unset, .unset, .unset] [(.int ((p3 &&& (255 : Int32)).toUInt32.toUInt16.toUInt32.toInt32))])) (fun t hr => XT.i2c X0.here hx rfl (hb hby at_66) rfl hr) ?_
  obtain ⟨v9, hv9⟩ : ∃ z : Int32, z = ((p3 &&& (255 : Int32)).toUInt32.toUInt16.toUInt32.toInt32) := ⟨_, rfl⟩
  refine GoW.st (S' := T0.setTop (mkF m 69 #[.val (.int p1), .val (.int p2), .val (.int p3), .val (.int p4), .val (.int v4), .val (.int v5), .val (.int v6), .val (.int v7), .val (.int v8), .val (.int v9), .unset, .unset, .unset, .unset, .unset, .unset, .unset] [])) (fun t hr => by subst hv9; exact XS.istore X0.here hx rfl (hb hby at_67) rfl (l' := _) rfl hr) ?_
  refine GoW.st (S' := T0.setTop (mkF m 70 #[.val (.int p1), .val (.int p2), .val (.int p3), .val (.int p4), .val (.int v4), .val (.int v5), .val (.int v6), .val (.int v7), .val (.int v8), .val (.int v9), .unset, .unset, .unset, .unset, .unset, .unset, .unset] [(.int p2)])) (fun t hr => XS.iloadN X0.here hx rfl (hb hby at_69) rfl hr) ?_
  refine GoW.st (S' := T0.setTop (mkF m 72 #[.val (.int p1), .val (.int p2), .val (.int p3), .val (.int p4), .val (.int v4), .val (.int v5), .val (.int v6), .val (.int v7), .val (.int v8), .val (.int v9), .unset, .unset, .unset, .unset, .unset, .unset, .unset] [(.int (8 : Int32)), (.int p2)])) (fun t hr => XS.bipush X0.here hx rfl (hb hby at_70) hr) ?_
  refine GoW.st (S' := T0.setTop (mkF m 73 #[.val (.int p1), .val (.int p2), .val (.int p3), .val (.int p4), .val (.int v4), .val (.int v5), .val (.int v6), .val (.int v7), .val (.int v8), .val (.int v9), .unset, .unset, .unset, .unset, .unset, .unset, .unset] [(.int (XT.ushr p2 (8 : Int32)))])) (fun t hr => XT.iushr X0.here hx rfl (hb hby at_72) rfl hr) ?_
  refine GoW.st (S' := T0.setTop (mkF m 76 #[.val (.int p1), .val (.int p2), .val (.int p3), .val (.int p4), .val (.int v4), .val (.int v5), .val (.int v6), .val (.int v7), .val (.int v8), .val (.int v9), .unset, .unset, .unset, .unset, .unset, .unset, .unset] [(.int (255 : Int32)), (.int (XT.ushr p2 (8 : Int32)))])) (fun t hr => XS.sipush X0.here hx rfl (hb hby at_73) hr) ?_
  refine GoW.st (S' := T0.setTop (mkF m 77 #[.val (.int p1), .val (.int p2), .val (.int p3), .val (.int p4), .val (.int v4), .val (.int v5), .val (.int v6), .val (.int v7), .val (.int v8), .val (.int v9), .unset, .unset, .unset, .unset, .unset, .unset, .unset] [(.int ((XT.ushr p2 (8 : Int32)) &&& (255 : Int32)))])) (fun t hr => XS.iand X0.here hx rfl (hb hby at_76) rfl hr) ?_
  refine GoW.st (S' := T0.setTop (mkF m 78 #[.val (.int p1), .val (.int p2), .val (.int p3), .val (.int p4), .val (.int v4), .val (.int v5), .val (.int v6), .val (.int v7), .val (.int v8), .val (.int v9), .unset, .unset, .unset, .unset, .unset, .unset, .unset] [(.int (((XT.ushr p2 (8 : Int32)) &&& (255 : Int32)).toUInt32.toUInt16.toUInt32.toInt32))])) (fun t hr => XT.i2c X0.here hx rfl (hb hby at_77) rfl hr) ?_
  obtain ⟨v10, hv10⟩ : ∃ z : Int32, z = (((XT.ushr p2 (8 : Int32)) &&& (255 : Int32)).toUInt32.toUInt16.toUInt32.toInt32) := ⟨_, rfl⟩
  refine GoW.st (S' := T0.setTop (mkF m 80 #[.val (.int p1), .val (.int p2), .val (.int p3), .val (.int p4), .val (.int v4), .val (.int v5), .val (.int v6), .val (.int v7), .val (.int v8), .val (.int v9), .val (.int v10), .unset, .unset, .unset, .unset, .unset, .unset] [])) (fun t hr => by subst hv10; exact XS.istore X0.here hx rfl (hb hby at_78) rfl (l' := _) rfl hr) ?_
  refine GoW.st (S' := T0.setTop (mkF m 81 #[.val (.int p1), .val (.int p2), .val (.int p3), .val (.int p4), .val (.int v4), .val (.int v5), .val (.int v6), .val (.int v7), .val (.int v8), .val (.int v9), .val (.int v10), .unset, .unset, .unset, .unset, .unset, .unset] [(.int p3)])) (fun t hr => XS.iloadN X0.here hx rfl (hb hby at_80) rfl hr) ?_
  refine GoW.st (S' := T0.setTop (mkF m 83 #[.val (.int p1), .val (.int p2), .val (.int p3), .val (.int p4), .val (.int v4), .val (.int v5), .val (.int v6), .val (.int v7), .val (.int v8), .val (.int v9), .val (.int v10), .unset, .unset, .unset, .unset, .unset, .unset] [(.int (8 : Int32)), (.int p3)])) (fun t hr => XS.bipush X0.here hx rfl (hb hby at_81) hr) ?_
  refine GoW.st (S' := T0.setTop (mkF m 84 #[.val (.int p1), .val (.int p2), .val (.int p3), .val (.int p4), .val (.int v4), .val (.int v5), .val (.int v6), .val (.int v7), .val (.int v8), .val (.int v9), .val (.int v10), .unset, .unset, .unset, .unset, .unset, .unset] [(.int (XT.ushr p3 (8 : Int32)))])) (fun t hr => XT.iushr X0.here hx rfl (hb hby at_83) rfl hr) ?_
  refine GoW.st (S' := T0.setTop (mkF m 87 #[.val (.int p1), .val (.int p2), .val (.int p3), .val (.int p4), .val (.int v4), .val (.int v5), .val (.int v6), .val (.int v7), .val (.int v8), .val (.int v9), .val (.int v10), .unset, .unset, .unset, .unset, .unset, .unset] [(.int (255 : Int32)), (.int (XT.ushr p3 (8 : Int32)))])) (fun t hr => XS.sipush X0.here hx rfl (hb hby at_84) hr) ?_
  refine GoW.st (S' := T0.setTop (mkF m 88 #[.val (.int p1), .val (.int p2), .val (.int p3), .val (.int p4), .val (.int v4), .val (.int v5), .val (.int v6), .val (.int v7), .val (.int v8), .val (.int v9), .val (.int v10), .unset, .unset, .unset, .unset, .unset, .unset] [(.int ((XT.ushr p3 (8 : Int32)) &&& (255 : Int32)))])) (fun t hr => XS.iand X0.here hx rfl (hb hby at_87) rfl hr) ?_
  refine GoW.st (S' := T0.setTop (mkF m 89 #[.val (.int p1), .val (.int p2), .val (.int p3), .val (.int p4), .val (.int v4), .val (.int v5), .val (.int v6), .val (.int v7), .val (.int v8), .val (.int v9), .val (.int v10), .unset, .unset, .unset, .unset, .unset, .unset] [(.int (((XT.ushr p3 (8 : Int32)) &&& (255 : Int32)).toUInt32.toUInt16.toUInt32.toInt32))])) (fun t hr => XT.i2c X0.here hx rfl (hb hby at_88) rfl hr) ?_
  obtain ⟨v11, hv11⟩ : ∃ z : Int32, z = (((XT.ushr p3 (8 : Int32)) &&& (255 : Int32)).toUInt32.toUInt16.toUInt32.toInt32) := ⟨_, rfl⟩
  refine GoW.st (S' := T0.setTop (mkF m 91 #[.val (.int p1), .val (.int p2), .val (.int p3), .val (.int p4), .val (.int v4), .val (.int v5), .val (.int v6), .val (.int v7), .val (.int v8), .val (.int v9), .val (.int v10), .val (.int v11), .unset, .unset, .unset, .unset, .unset] [])) (fun t hr => by subst hv11; exact XS.istore X0.here hx rfl (hb hby at_89) rfl (l' := _) rfl hr) ?_
  have hb_v8 : ¬ (255 : Int32) < v8 := by rw [hv8]; exact own_chr _
  have hn_v8 : nar .char v8 = v8 := by rw [hv8]; exact own_chr2 _
  have hb_v9 : ¬ (255 : Int32) < v9 := by rw [hv9]; exact own_chr _
  have hn_v9 : nar .char v9 = v9 := by rw [hv9]; exact own_chr2 _
  have hb_v10 : ¬ (255 : Int32) < v10 := by rw [hv10]; exact own_chr _
  have hn_v10 : nar .char v10 = v10 := by rw [hv10]; exact own_chr2 _
  have hb_v11 : ¬ (255 : Int32) < v11 := by rw [hv11]; exact own_chr _
  have hn_v11 : nar .char v11 = v11 := by rw [hv11]; exact own_chr2 _
  obtain ⟨T_1, h_1, X_1, e_1, E_1, A_1, D_1, -, st_1⟩ := newO X0 hx hZ hown (hw _ (List.mem_of_getElem? (i := 0) rfl)) (hw _ (List.mem_of_getElem? (i := 1) rfl)) (hw _ (List.mem_of_getElem? (i := 2) rfl)) e0 (g := (mkF m 91 #[.val (.int p1), .val (.int p2), .val (.int p3), .val (.int p4), .val (.int v4), .val (.int v5), .val (.int v6), .val (.int v7), .val (.int v8), .val (.int v9), .val (.int v10), .val (.int v11), .unset, .unset, .unset, .unset, .unset] [])) rfl (hb hby at_91) (by decide) (by decide)
  obtain ⟨ad_1, g_1⟩ : ∃ z, z = h0.size := ⟨_, rfl⟩
  rw [← g_1] at A_1 D_1 st_1
  have z_1 := E_1.1
  have y_1 := own_ltE A_1
  have F_1_coder : Fld Z h_1 ad_1 "java/lang/String" "coder" "B" (.int (0 : Int32)) := D_1 (Or.inr (hw _ (List.mem_of_getElem? (i := 27) rfl))) (ty := .byte) (by decide)
  have F_1_value : Fld Z h_1 ad_1 "java/lang/String" "value" "[B" .null := D_1 (Or.inr (hw _ (List.mem_of_getElem? (i := 29) rfl))) (ty := (.array .byte)) (by decide)
  refine GoW.st (S' := T_1.setTop (mkF m 94 #[.val (.int p1), .val (.int p2), .val (.int p3), .val (.int p4), .val (.int v4), .val (.int v5), .val (.int v6), .val (.int v7), .val (.int v8), .val (.int v9), .val (.int v10), .val (.int v11), .unset, .unset, .unset, .unset, .unset] [(.ref ad_1)])) st_1 ?_
  refine GoW.st (S' := T_1.setTop (mkF m 95 #[.val (.int p1), .val (.int p2), .val (.int p3), .val (.int p4), .val (.int v4), .val (.int v5), .val (.int v6), .val (.int v7), .val (.int v8), .val (.int v9), .val (.int v10), .val (.int v11), .unset, .unset, .unset, .unset, .unset] [(.ref ad_1), (.ref ad_1)])) (fun t hr => XS.dup X_1.here hx rfl (hb hby at_94) rfl rfl hr) ?_
  refine GoW.st (S' := T_1.setTop (mkF m 96 #[.val (.int p1), .val (.int p2), .val (.int p3), .val (.int p4), .val (.int v4), .val (.int v5), .val (.int v6), .val (.int v7), .val (.int v8), .val (.int v9), .val (.int v10), .val (.int v11), .unset, .unset, .unset, .unset, .unset] [(.int (3 : Int32)), (.ref ad_1), (.ref ad_1)])) (fun t hr => XS.iconst X_1.here hx rfl (hb hby at_95) hr) ?_
  obtain ⟨T_2, h_2, X_2, e_2, E_2, A_2, st_2⟩ := own_newP X_1 hx hZ (ty := .char) rfl (hw _ (List.mem_of_getElem? (i := 3) rfl)) e_1 (g := (mkF m 96 #[.val (.int p1), .val (.int p2), .val (.int p3), .val (.int p4), .val (.int v4), .val (.int v5), .val (.int v6), .val (.int v7), .val (.int v8), .val (.int v9), .val (.int v10), .val (.int v11), .unset, .unset, .unset, .unset, .unset] [(.int (3 : Int32)), (.ref ad_1), (.ref ad_1)])) rfl (hb hby at_96) rfl (by decide) (cap := 3) (by decide) (by decide) (by decide) (by decide)
  obtain ⟨ad_2, g_2⟩ : ∃ z, z = h_1.size := ⟨_, rfl⟩
  rw [← g_2] at A_2 st_2
  have z_2 := E_2.1
  have y_2 := own_ltA A_2
  have B_2 : Ary Z h_2 ad_2 .char [(.int (0 : Int32)), (.int (0 : Int32)), (.int (0 : Int32))] := A_2
  refine GoW.st (S' := T_2.setTop (mkF m 98 #[.val (.int p1), .val (.int p2), .val (.int p3), .val (.int p4), .val (.int v4), .val (.int v5), .val (.int v6), .val (.int v7), .val (.int v8), .val (.int v9), .val (.int v10), .val (.int v11), .unset, .unset, .unset, .unset, .unset] [(.ref ad_2), (.ref ad_1), (.ref ad_1)])) st_2 ?_
  refine GoW.st (S' := T_2.setTop (mkF m 99 #[.val (.int p1), .val (.int p2), .val (.int p3), .val (.int p4), .val (.int v4), .val (.int v5), .val (.int v6), .val (.int v7), .val (.int v8), .val (.int v9), .val (.int v10), .val (.int v11), .unset, .unset, .unset, .unset, .unset] [(.ref ad_2), (.ref ad_2), (.ref ad_1), (.ref ad_1)])) (fun t hr => XS.dup X_2.here hx rfl (hb hby at_98) rfl rfl hr) ?_
  refine GoW.st (S' := T_2.setTop (mkF m 100 #[.val (.int p1), .val (.int p2), .val (.int p3), .val (.int p4), .val (.int v4), .val (.int v5), .val (.int v6), .val (.int v7), .val (.int v8), .val (.int v9), .val (.int v10), .val (.int v11), .unset, .unset, .unset, .unset, .unset] [(.int (0 : Int32)), (.ref ad_2), (.ref ad_2), (.ref ad_1), (.ref ad_1)])) (fun t hr => XS.iconst X_2.here hx rfl (hb hby at_99) hr) ?_
  refine GoW.st (S' := T_2.setTop (mkF m 102 #[.val (.int p1), .val (.int p2), .val (.int p3), .val (.int p4), .val (.int v4), .val (.int v5), .val (.int v6), .val (.int v7), .val (.int v8), .val (.int v9), .val (.int v10), .val (.int v11), .unset, .unset, .unset, .unset, .unset] [(.int v8), (.int (0 : Int32)), (.ref ad_2), (.ref ad_2), (.ref ad_1), (.ref ad_1)])) (fun t hr => XS.iload X_2.here hx rfl (hb hby at_100) rfl hr) ?_
  obtain ⟨T_3, h_3, X_3, e_3, W_3, A_3, st_3⟩ := own_stC X_2 hx hZ e_2 B_2 (j := (0 : Int32)) (by decide) (by simp only [List.length_cons, List.length_nil]; decide) (g := (mkF m 102 #[.val (.int p1), .val (.int p2), .val (.int p3), .val (.int p4), .val (.int v4), .val (.int v5), .val (.int v6), .val (.int v7), .val (.int v8), .val (.int v9), .val (.int v10), .val (.int v11), .unset, .unset, .unset, .unset, .unset] [(.int v8), (.int (0 : Int32)), (.ref ad_2), (.ref ad_2), (.ref ad_1), (.ref ad_1)])) rfl rfl (hb hby at_102)
  have N_3 := Fr.snoc X_3 N0 (by omega)
  have z_3 := W_3.size
  rw [show nar .char v8 = v8 from hn_v8] at A_3
  have B_3 : Ary Z h_3 ad_2 .char [(.int v8), (.int (0 : Int32)), (.int (0 : Int32))] := A_3
  refine GoW.st (S' := T_3.setTop (mkF m 103 #[.val (.int p1), .val (.int p2), .val (.int p3), .val (.int p4), .val (.int v4), .val (.int v5), .val (.int v6), .val (.int v7), .val (.int v8), .val (.int v9), .val (.int v10), .val (.int v11), .unset, .unset, .unset, .unset, .unset] [(.ref ad_2), (.ref ad_1), (.ref ad_1)])) st_3 ?_
  refine GoW.st (S' := T_3.setTop (mkF m 104 #[.val (.int p1), .val (.int p2), .val (.int p3), .val (.int p4), .val (.int v4), .val (.int v5), .val (.int v6), .val (.int v7), .val (.int v8), .val (.int v9), .val (.int v10), .val (.int v11), .unset, .unset, .unset, .unset, .unset] [(.ref ad_2), (.ref ad_2), (.ref ad_1), (.ref ad_1)])) (fun t hr => XS.dup X_3.here hx rfl (hb hby at_103) rfl rfl hr) ?_
  refine GoW.st (S' := T_3.setTop (mkF m 105 #[.val (.int p1), .val (.int p2), .val (.int p3), .val (.int p4), .val (.int v4), .val (.int v5), .val (.int v6), .val (.int v7), .val (.int v8), .val (.int v9), .val (.int v10), .val (.int v11), .unset, .unset, .unset, .unset, .unset] [(.int (1 : Int32)), (.ref ad_2), (.ref ad_2), (.ref ad_1), (.ref ad_1)])) (fun t hr => XS.iconst X_3.here hx rfl (hb hby at_104) hr) ?_
  refine GoW.st (S' := T_3.setTop (mkF m 107 #[.val (.int p1), .val (.int p2), .val (.int p3), .val (.int p4), .val (.int v4), .val (.int v5), .val (.int v6), .val (.int v7), .val (.int v8), .val (.int v9), .val (.int v10), .val (.int v11), .unset, .unset, .unset, .unset, .unset] [(.int (46 : Int32)), (.int (1 : Int32)), (.ref ad_2), (.ref ad_2), (.ref ad_1), (.ref ad_1)])) (fun t hr => XS.bipush X_3.here hx rfl (hb hby at_105) hr) ?_
  obtain ⟨T_4, h_4, X_4, e_4, W_4, A_4, st_4⟩ := own_stC X_3 hx hZ e_3 B_3 (j := (1 : Int32)) (by decide) (by simp only [List.length_cons, List.length_nil]; decide) (g := (mkF m 107 #[.val (.int p1), .val (.int p2), .val (.int p3), .val (.int p4), .val (.int v4), .val (.int v5), .val (.int v6), .val (.int v7), .val (.int v8), .val (.int v9), .val (.int v10), .val (.int v11), .unset, .unset, .unset, .unset, .unset] [(.int (46 : Int32)), (.int (1 : Int32)), (.ref ad_2), (.ref ad_2), (.ref ad_1), (.ref ad_1)])) rfl rfl (hb hby at_107)
  have N_4 := Fr.snoc X_4 N_3 (by omega)
  have z_4 := W_4.size
  rw [show nar .char (46 : Int32) = (46 : Int32) from (by decide : nar .char (46 : Int32) = (46 : Int32))] at A_4
  have B_4 : Ary Z h_4 ad_2 .char [(.int v8), (.int (46 : Int32)), (.int (0 : Int32))] := A_4
  refine GoW.st (S' := T_4.setTop (mkF m 108 #[.val (.int p1), .val (.int p2), .val (.int p3), .val (.int p4), .val (.int v4), .val (.int v5), .val (.int v6), .val (.int v7), .val (.int v8), .val (.int v9), .val (.int v10), .val (.int v11), .unset, .unset, .unset, .unset, .unset] [(.ref ad_2), (.ref ad_1), (.ref ad_1)])) st_4 ?_
  refine GoW.st (S' := T_4.setTop (mkF m 109 #[.val (.int p1), .val (.int p2), .val (.int p3), .val (.int p4), .val (.int v4), .val (.int v5), .val (.int v6), .val (.int v7), .val (.int v8), .val (.int v9), .val (.int v10), .val (.int v11), .unset, .unset, .unset, .unset, .unset] [(.ref ad_2), (.ref ad_2), (.ref ad_1), (.ref ad_1)])) (fun t hr => XS.dup X_4.here hx rfl (hb hby at_108) rfl rfl hr) ?_
  refine GoW.st (S' := T_4.setTop (mkF m 110 #[.val (.int p1), .val (.int p2), .val (.int p3), .val (.int p4), .val (.int v4), .val (.int v5), .val (.int v6), .val (.int v7), .val (.int v8), .val (.int v9), .val (.int v10), .val (.int v11), .unset, .unset, .unset, .unset, .unset] [(.int (2 : Int32)), (.ref ad_2), (.ref ad_2), (.ref ad_1), (.ref ad_1)])) (fun t hr => XS.iconst X_4.here hx rfl (hb hby at_109) hr) ?_
  refine GoW.st (S' := T_4.setTop (mkF m 112 #[.val (.int p1), .val (.int p2), .val (.int p3), .val (.int p4), .val (.int v4), .val (.int v5), .val (.int v6), .val (.int v7), .val (.int v8), .val (.int v9), .val (.int v10), .val (.int v11), .unset, .unset, .unset, .unset, .unset] [(.int v9), (.int (2 : Int32)), (.ref ad_2), (.ref ad_2), (.ref ad_1), (.ref ad_1)])) (fun t hr => XS.iload X_4.here hx rfl (hb hby at_110) rfl hr) ?_
  obtain ⟨T_5, h_5, X_5, e_5, W_5, A_5, st_5⟩ := own_stC X_4 hx hZ e_4 B_4 (j := (2 : Int32)) (by decide) (by simp only [List.length_cons, List.length_nil]; decide) (g := (mkF m 112 #[.val (.int p1), .val (.int p2), .val (.int p3), .val (.int p4), .val (.int v4), .val (.int v5), .val (.int v6), .val (.int v7), .val (.int v8), .val (.int v9), .val (.int v10), .val (.int v11), .unset, .unset, .unset, .unset, .unset] [(.int v9), (.int (2 : Int32)), (.ref ad_2), (.ref ad_2), (.ref ad_1), (.ref ad_1)])) rfl rfl (hb hby at_112)
  have N_5 := Fr.snoc X_5 N_4 (by omega)
  have z_5 := W_5.size
  rw [show nar .char v9 = v9 from hn_v9] at A_5
  have B_5 : Ary Z h_5 ad_2 .char [(.int v8), (.int (46 : Int32)), (.int v9)] := A_5
  refine GoW.st (S' := T_5.setTop (mkF m 113 #[.val (.int p1), .val (.int p2), .val (.int p3), .val (.int p4), .val (.int v4), .val (.int v5), .val (.int v6), .val (.int v7), .val (.int v8), .val (.int v9), .val (.int v10), .val (.int v11), .unset, .unset, .unset, .unset, .unset] [(.ref ad_2), (.ref ad_1), (.ref ad_1)])) st_5 ?_
  have F_6 := (((((O0.ext E_1).ext E_2).wr W_3 (by omega)).wr W_4 (by omega)).wr W_5 (by omega))
  have F_7 := ((((A_1.ext E_2).wr W_3).wr W_4).wr W_5)
  have F_8 := ((((F_1_value.ext E_2).other W_3 (Or.inl (own_ne (by omega)))).other W_4 (Or.inl (own_ne (by omega)))).other W_5 (Or.inl (own_ne (by omega))))
  have F_9 := ((((F_1_coder.ext E_2).other W_3 (Or.inl (own_ne (by omega)))).other W_4 (Or.inl (own_ne (by omega)))).other W_5 (Or.inl (own_ne (by omega))))
  obtain ⟨v_10, T_10, h_10, L_10, X_10, e_10, Q_10, st_10⟩ := own_callN X_5 hx hZ (y := ⟨"java/lang/String", "<init>", "([C)V"⟩) rfl hown (hw _ (List.mem_of_getElem? (i := 4) rfl)) (hw _ (List.mem_of_getElem? (i := 5) rfl)) (hw _ (List.mem_of_getElem? (i := 2) rfl)) (hw _ (List.mem_of_getElem? (i := 6) rfl)) (by decide) e_5 (a := ad_1) (argsL := [(.ref ad_2)]) (rest := [(.ref ad_1)]) (rmS1 l Z a0 hw ad_1 ad_2 h_5 n0 (by omega) vcs hcs F_6 SCS F_7 F_8 F_9 (by omega) v8 46 v9 B_5 hb_v8 (by decide) hb_v9 (own_ne (by omega))) (g := (mkF m 113 #[.val (.int p1), .val (.int p2), .val (.int p3), .val (.int p4), .val (.int v4), .val (.int v5), .val (.int v6), .val (.int v7), .val (.int v8), .val (.int v9), .val (.int v10), .val (.int v11), .unset, .unset, .unset, .unset, .unset] [(.ref ad_2), (.ref ad_1), (.ref ad_1)])) rfl (by rw [hml]; rfl) (lenOf pd_11 rfl) rfl (hb hby at_113) (W := 1) (by show 2 * 0 + _ ≤ _; exact Nat.le_of_eq rfl) (by decide) (by decide) (by decide) (by decide)
  obtain ⟨rfl, N_10, K_10⟩ := Q_10
  have N_10' := Fr.app N_5 N_10
  have z_10 := K_10.1
  refine GoW.st (S' := T_10.setTop (mkF m 116 #[.val (.int p1), .val (.int p2), .val (.int p3), .val (.int p4), .val (.int v4), .val (.int v5), .val (.int v6), .val (.int v7), .val (.int v8), .val (.int v9), .val (.int v10), .val (.int v11), .unset, .unset, .unset, .unset, .unset] [(.ref ad_1)])) st_10 ?_
  refine GoW.st (S' := T_10.setTop (mkF m 118 #[.val (.int p1), .val (.int p2), .val (.int p3), .val (.int p4), .val (.int v4), .val (.int v5), .val (.int v6), .val (.int v7), .val (.int v8), .val (.int v9), .val (.int v10), .val (.int v11), .val (.ref ad_1), .unset, .unset, .unset, .unset] [])) (fun t hr => XS.astore X_10.here hx rfl (hb hby at_116) rfl rfl (l' := #[.val (.int p1), .val (.int p2), .val (.int p3), .val (.int p4), .val (.int v4), .val (.int v5), .val (.int v6), .val (.int v7), .val (.int v8), .val (.int v9), .val (.int v10), .val (.int v11), .val (.ref ad_1), .unset, .unset, .unset, .unset]) rfl hr) ?_
  have F_11 := (F_6.keep K_10 (by intro x hxx; simp only [List.mem_cons, List.not_mem_nil, or_false] at hxx; rcases hxx with rfl <;> omega))
  exact p118 Z a0 hw n0 hx hby hml hZ hown hnm hret hlk vcs hcs SCS p1 p2 p3 p4 v4 v5 v6 v7 h4 v8 v9 v10 v11 hb_v9 hb_v10 hb_v11 ad_1 T_10 _ h_10 (by omega) (own_more X_10 (by decide) (by decide)) e_10 N_10' F_11
set_option maxRecDepth 65536 in
set_option maxHeartbeats 1000000 in
theorem p39 {p : Program} {l : Launch} {e : Env} {s : State} {m : MethodId} {args : Array Value} {below : List Frame} {meth : Method} {c : Code} (Z : State) (a0 : Array Value) (hw : ∀ d ∈ tables_1, d.before a0 Z = true) (n0 : Nat) (hx : p.tables.exec = Jvm.exec) (hby : c.code = code) (hml : c.maxLocals = 17) (hZ : Z.Warmed39 s.vm) (hown : s.vm.findClass "VersionHasRulesPinLaw" = some m.cls) (hnm : meth.name = "law") (hret : meth.sig.returnType = some .boolean) (hlk : meth.locks = false) (vcs : Int32) (hcs : ¬ vcs = 0) (SCS : Sta Z Z.heap "java/lang/String" "COMPACT_STRINGS" "Z" (.int vcs)) (p1 p2 p3 p4 v4 v5 v6 : Int32) (h4 : v4 = 0 ∨ v4 = 1) :
    ∀  (T0 : State) (locs0 : List Loc) (h0 : Heap) (Z0 : n0 ≤ h0.size) (X0 : Stand p l e room_1 s m args below meth c T0 locs0 0 0) (e0 : T0.heap = h0) (N0 : Fr n0 locs0) (O0 : Old Z n0 h0), GoW p e below s room_1.cells room_1.slots (fun v h L => v = some (.int 1) ∧ Fr n0 L) (T0.setTop (mkF m 39 #[.val (.int p1), .val (.int p2), .val (.int p3), .val (.int p4), .val (.int v4), .val (.int v5), .val (.int v6), .unset, .unset, .unset, .unset, .unset, .unset, .unset, .unset, .unset, .unset] [])) := by
  intro  T0 locs0 h0 Z0 X0 e0 N0 O0
  refine GoW.st (S' := T0.setTop (mkF m 40 #[.val (.int p1), .val (.int p2), .val (.int p3), .val (.int p4), .val (.int v4), .val (.int v5), .val (.int v6), .unset, .unset, .unset, .unset, .unset, .unset, .unset, .unset, .unset, .unset] [(.int p1)])) (fun t hr => XS.iloadN X0.here hx rfl (hb hby at_39) rfl hr) ?_
  refine GoW.st (S' := T0.setTop (mkF m 42 #[.val (.int p1), .val (.int p2), .val (.int p3), .val (.int p4), .val (.int v4), .val (.int v5), .val (.int v6), .unset, .unset, .unset, .unset, .unset, .unset, .unset, .unset, .unset, .unset] [(.int (8 : Int32)), (.int p1)])) (fun t hr => XS.bipush X0.here hx rfl (hb hby at_40) hr) ?_
  refine GoW.st (S' := T0.setTop (mkF m 43 #[.val (.int p1), .val (.int p2), .val (.int p3), .val (.int p4), .val (.int v4), .val (.int v5), .val (.int v6), .unset, .unset, .unset, .unset, .unset, .unset, .unset, .unset, .unset, .unset] [(.int (p1 &&& (8 : Int32)))])) (fun t hr => XS.iand X0.here hx rfl (hb hby at_42) rfl hr) ?_
  by_cases hc1 : (p1 &&& (8 : Int32)) = 0
  · refine GoW.st (S' := T0.setTop (mkF m 50 #[.val (.int p1), .val (.int p2), .val (.int p3), .val (.int p4), .val (.int v4), .val (.int v5), .val (.int v6), .unset, .unset, .unset, .unset, .unset, .unset, .unset, .unset, .unset, .unset] [])) (fun t hr => XS.ifYes X0.here hx rfl (pc0 := 43) (pc' := 50) rfl (hb hby at_43) rfl (XT.i0_eq_t hc1) (by decide) (by decide) hr) ?_
    refine GoW.st (S' := T0.setTop (mkF m 51 #[.val (.int p1), .val (.int p2), .val (.int p3), .val (.int p4), .val (.int v4), .val (.int v5), .val (.int v6), .unset, .unset, .unset, .unset, .unset, .unset, .unset, .unset, .unset, .unset] [(.int (0 : Int32))])) (fun t hr => XS.iconst X0.here hx rfl (hb hby at_50) hr) ?_
    refine GoW.st (S' := T0.setTop (mkF m 53 #[.val (.int p1), .val (.int p2), .val (.int p3), .val (.int p4), .val (.int v4), .val (.int v5), .val (.int v6), .val (.int (0 : Int32)), .unset, .unset, .unset, .unset, .unset, .unset, .unset, .unset, .unset] [])) (fun t hr => XS.istore X0.here hx rfl (hb hby at_51) rfl (l' := #[.val (.int p1), .val (.int p2), .val (.int p3), .val (.int p4), .val (.int v4), .val (.int v5), .val (.int v6), .val (.int (0 : Int32)), .unset, .unset, .unset, .unset, .unset, .unset, .unset, .unset, .unset]) rfl hr) ?_
    exact p53 Z a0 hw n0 hx hby hml hZ hown hnm hret hlk vcs hcs SCS p1 p2 p3 p4 v4 v5 v6 (0 : Int32) h4 T0 _ h0 (by omega) X0 e0 N0 O0
  · refine GoW.st (S' := T0.setTop (mkF m 46 #[.val (.int p1), .val (.int p2), .val (.int p3), .val (.int p4), .val (.int v4), .val (.int v5), .val (.int v6), .unset, .unset, .unset, .unset, .unset, .unset, .unset, .unset, .unset, .unset] [])) (fun t hr => XS.ifNo X0.here hx rfl (hb hby at_43) rfl (XT.i0_eq_f hc1) hr) ?_
    refine GoW.st (S' := T0.setTop (mkF m 47 #[.val (.int p1), .val (.int p2), .val (.int p3), .val (.int p4), .val (.int v4), .val (.int v5), .val (.int v6), .unset, .unset, .unset, .unset, .unset, .unset, .unset, .unset, .unset, .unset] [(.int (1 : Int32))])) (fun t hr => XS.iconst X0.here hx rfl (hb hby at_46) hr) ?_
    refine GoW.st (S' := T0.setTop (mkF m 51 #[.val (.int p1), .val (.int p2), .val (.int p3), .val (.int p4), .val (.int v4), .val (.int v5), .val (.int v6), .unset, .unset, .unset, .unset, .unset, .unset, .unset, .unset, .unset, .unset] [(.int (1 : Int32))])) (fun t hr => XS.goto X0.here hx rfl (pc0 := 47) (pc' := 51) rfl (hb hby at_47) (by decide) (by decide) hr) ?_
    refine GoW.st (S' := T0.setTop (mkF m 53 #[.val (.int p1), .val (.int p2), .val (.int p3), .val (.int p4), .val (.int v4), .val (.int v5), .val (.int v6), .val (.int (1 : Int32)), .unset, .unset, .unset, .unset, .unset, .unset, .unset, .unset, .unset] [])) (fun t hr => XS.istore X0.here hx rfl (hb hby at_51) rfl (l' := #[.val (.int p1), .val (.int p2), .val (.int p3), .val (.int p4), .val (.int v4), .val (.int v5), .val (.int v6), .val (.int (1 : Int32)), .unset, .unset, .unset, .unset, .unset, .unset, .unset, .unset, .unset]) rfl hr) ?_
    exact p53 Z a0 hw n0 hx hby hml hZ hown hnm hret hlk vcs hcs SCS p1 p2 p3 p4 v4 v5 v6 (1 : Int32) h4 T0 _ h0 (by omega) X0 e0 N0 O0
set_option maxRecDepth 65536 in
set_option maxHeartbeats 1000000 in
theorem p26 {p : Program} {l : Launch} {e : Env} {s : State} {m : MethodId} {args : Array Value} {below : List Frame} {meth : Method} {c : Code} (Z : State) (a0 : Array Value) (hw : ∀ d ∈ tables_1, d.before a0 Z = true) (n0 : Nat) (hx : p.tables.exec = Jvm.exec) (hby : c.code = code) (hml : c.maxLocals = 17) (hZ : Z.Warmed39 s.vm) (hown : s.vm.findClass "VersionHasRulesPinLaw" = some m.cls) (hnm : meth.name = "law") (hret : meth.sig.returnType = some .boolean) (hlk : meth.locks = false) (vcs : Int32) (hcs : ¬ vcs = 0) (SCS : Sta Z Z.heap "java/lang/String" "COMPACT_STRINGS" "Z" (.int vcs)) (p1 p2 p3 p4 v4 v5 : Int32) (h4 : v4 = 0 ∨ v4 = 1) :
    ∀  (T0 : State) (locs0 : List Loc) (h0 : Heap) (Z0 : n0 ≤ h0.size) (X0 : Stand p l e room_1 s m args below meth c T0 locs0 0 0) (e0 : T0.heap = h0) (N0 : Fr n0 locs0) (O0 : Old Z n0 h0), GoW p e below s room_1.cells room_1.slots (fun v h L => v = some (.int 1) ∧ Fr n0 L) (T0.setTop (mkF m 26 #[.val (.int p1), .val (.int p2), .val (.int p3), .val (.int p4), .val (.int v4), .val (.int v5), .unset, .unset, .unset, .unset, .unset, .unset, .unset, .unset, .unset, .unset, .unset] [])) := by
  intro  T0 locs0 h0 Z0 X0 e0 N0 O0
  refine GoW.st (S' := T0.setTop (mkF m 27 #[.val (.int p1), .val (.int p2), .val (.int p3), .val (.int p4), .val (.int v4), .val (.int v5), .unset, .unset, .unset, .unset, .unset, .unset, .unset, .unset, .unset, .unset, .unset] [(.int p1)])) (fun t hr => XS.iloadN X0.here hx rfl (hb hby at_26) rfl hr) ?_
  refine GoW.st (S' := T0.setTop (mkF m 28 #[.val (.int p1), .val (.int p2), .val (.int p3), .val (.int p4), .val (.int v4), .val (.int v5), .unset, .unset, .unset, .unset, .unset, .unset, .unset, .unset, .unset, .unset, .unset] [(.int (4 : Int32)), (.int p1)])) (fun t hr => XS.iconst X0.here hx rfl (hb hby at_27) hr) ?_
  refine GoW.st (S' := T0.setTop (mkF m 29 #[.val (.int p1), .val (.int p2), .val (.int p3), .val (.int p4), .val (.int v4), .val (.int v5), .unset, .unset, .unset, .unset, .unset, .unset, .unset, .unset, .unset, .unset, .unset] [(.int (p1 &&& (4 : Int32)))])) (fun t hr => XS.iand X0.here hx rfl (hb hby at_28) rfl hr) ?_
  by_cases hc1 : (p1 &&& (4 : Int32)) = 0
  · refine GoW.st (S' := T0.setTop (mkF m 36 #[.val (.int p1), .val (.int p2), .val (.int p3), .val (.int p4), .val (.int v4), .val (.int v5), .unset, .unset, .unset, .unset, .unset, .unset, .unset, .unset, .unset, .unset, .unset] [])) (fun t hr => XS.ifYes X0.here hx rfl (pc0 := 29) (pc' := 36) rfl (hb hby at_29) rfl (XT.i0_eq_t hc1) (by decide) (by decide) hr) ?_
    refine GoW.st (S' := T0.setTop (mkF m 37 #[.val (.int p1), .val (.int p2), .val (.int p3), .val (.int p4), .val (.int v4), .val (.int v5), .unset, .unset, .unset, .unset, .unset, .unset, .unset, .unset, .unset, .unset, .unset] [(.int (0 : Int32))])) (fun t hr => XS.iconst X0.here hx rfl (hb hby at_36) hr) ?_
    refine GoW.st (S' := T0.setTop (mkF m 39 #[.val (.int p1), .val (.int p2), .val (.int p3), .val (.int p4), .val (.int v4), .val (.int v5), .val (.int (0 : Int32)), .unset, .unset, .unset, .unset, .unset, .unset, .unset, .unset, .unset, .unset] [])) (fun t hr => XS.istore X0.here hx rfl (hb hby at_37) rfl (l' := #[.val (.int p1), .val (.int p2), .val (.int p3), .val (.int p4), .val (.int v4), .val (.int v5), .val (.int (0 : Int32)), .unset, .unset, .unset, .unset, .unset, .unset, .unset, .unset, .unset, .unset]) rfl hr) ?_
    exact p39 Z a0 hw n0 hx hby hml hZ hown hnm hret hlk vcs hcs SCS p1 p2 p3 p4 v4 v5 (0 : Int32) h4 T0 _ h0 (by omega) X0 e0 N0 O0
  · refine GoW.st (S' := T0.setTop (mkF m 32 #[.val (.int p1), .val (.int p2), .val (.int p3), .val (.int p4), .val (.int v4), .val (.int v5), .unset, .unset, .unset, .unset, .unset, .unset, .unset, .unset, .unset, .unset, .unset] [])) (fun t hr => XS.ifNo X0.here hx rfl (hb hby at_29) rfl (XT.i0_eq_f hc1) hr) ?_
    refine GoW.st (S' := T0.setTop (mkF m 33 #[.val (.int p1), .val (.int p2), .val (.int p3), .val (.int p4), .val (.int v4), .val (.int v5), .unset, .unset, .unset, .unset, .unset, .unset, .unset, .unset, .unset, .unset, .unset] [(.int (1 : Int32))])) (fun t hr => XS.iconst X0.here hx rfl (hb hby at_32) hr) ?_
    refine GoW.st (S' := T0.setTop (mkF m 37 #[.val (.int p1), .val (.int p2), .val (.int p3), .val (.int p4), .val (.int v4), .val (.int v5), .unset, .unset, .unset, .unset, .unset, .unset, .unset, .unset, .unset, .unset, .unset] [(.int (1 : Int32))])) (fun t hr => XS.goto X0.here hx rfl (pc0 := 33) (pc' := 37) rfl (hb hby at_33) (by decide) (by decide) hr) ?_
    refine GoW.st (S' := T0.setTop (mkF m 39 #[.val (.int p1), .val (.int p2), .val (.int p3), .val (.int p4), .val (.int v4), .val (.int v5), .val (.int (1 : Int32)), .unset, .unset, .unset, .unset, .unset, .unset, .unset, .unset, .unset, .unset] [])) (fun t hr => XS.istore X0.here hx rfl (hb hby at_37) rfl (l' := #[.val (.int p1), .val (.int p2), .val (.int p3), .val (.int p4), .val (.int v4), .val (.int v5), .val (.int (1 : Int32)), .unset, .unset, .unset, .unset, .unset, .unset, .unset, .unset, .unset, .unset]) rfl hr) ?_
    exact p39 Z a0 hw n0 hx hby hml hZ hown hnm hret hlk vcs hcs SCS p1 p2 p3 p4 v4 v5 (1 : Int32) h4 T0 _ h0 (by omega) X0 e0 N0 O0
set_option maxRecDepth 65536 in
set_option maxHeartbeats 1000000 in
theorem p13 {p : Program} {l : Launch} {e : Env} {s : State} {m : MethodId} {args : Array Value} {below : List Frame} {meth : Method} {c : Code} (Z : State) (a0 : Array Value) (hw : ∀ d ∈ tables_1, d.before a0 Z = true) (n0 : Nat) (hx : p.tables.exec = Jvm.exec) (hby : c.code = code) (hml : c.maxLocals = 17) (hZ : Z.Warmed39 s.vm) (hown : s.vm.findClass "VersionHasRulesPinLaw" = some m.cls) (hnm : meth.name = "law") (hret : meth.sig.returnType = some .boolean) (hlk : meth.locks = false) (vcs : Int32) (hcs : ¬ vcs = 0) (SCS : Sta Z Z.heap "java/lang/String" "COMPACT_STRINGS" "Z" (.int vcs)) (p1 p2 p3 p4 v4 : Int32) (h4 : v4 = 0 ∨ v4 = 1) :
    ∀  (T0 : State) (locs0 : List Loc) (h0 : Heap) (Z0 : n0 ≤ h0.size) (X0 : Stand p l e room_1 s m args below meth c T0 locs0 0 0) (e0 : T0.heap = h0) (N0 : Fr n0 locs0) (O0 : Old Z n0 h0), GoW p e below s room_1.cells room_1.slots (fun v h L => v = some (.int 1) ∧ Fr n0 L) (T0.setTop (mkF m 13 #[.val (.int p1), .val (.int p2), .val (.int p3), .val (.int p4), .val (.int v4), .unset, .unset, .unset, .unset, .unset, .unset, .unset, .unset, .unset, .unset, .unset, .unset] [])) := by
  intro  T0 locs0 h0 Z0 X0 e0 N0 O0
  refine GoW.st (S' := T0.setTop (mkF m 14 #[.val (.int p1), .val (.int p2), .val (.int p3), .val (.int p4), .val (.int v4), .unset, .unset, .unset, .unset, .unset, .unset, .unset, .unset, .unset, .unset, .unset, .unset] [(.int p1)])) (fun t hr => XS.iloadN X0.here hx rfl (hb hby at_13) rfl hr) ?_
  refine GoW.st (S' := T0.setTop (mkF m 15 #[.val (.int p1), .val (.int p2), .val (.int p3), .val (.int p4), .val (.int v4), .unset, .unset, .unset, .unset, .unset, .unset, .unset, .unset, .unset, .unset, .unset, .unset] [(.int (2 : Int32)), (.int p1)])) (fun t hr => XS.iconst X0.here hx rfl (hb hby at_14) hr) ?_
  refine GoW.st (S' := T0.setTop (mkF m 16 #[.val (.int p1), .val (.int p2), .val (.int p3), .val (.int p4), .val (.int v4), .unset, .unset, .unset, .unset, .unset, .unset, .unset, .unset, .unset, .unset, .unset, .unset] [(.int (p1 &&& (2 : Int32)))])) (fun t hr => XS.iand X0.here hx rfl (hb hby at_15) rfl hr) ?_
  by_cases hc1 : (p1 &&& (2 : Int32)) = 0
  · refine GoW.st (S' := T0.setTop (mkF m 23 #[.val (.int p1), .val (.int p2), .val (.int p3), .val (.int p4), .val (.int v4), .unset, .unset, .unset, .unset, .unset, .unset, .unset, .unset, .unset, .unset, .unset, .unset] [])) (fun t hr => XS.ifYes X0.here hx rfl (pc0 := 16) (pc' := 23) rfl (hb hby at_16) rfl (XT.i0_eq_t hc1) (by decide) (by decide) hr) ?_
    refine GoW.st (S' := T0.setTop (mkF m 24 #[.val (.int p1), .val (.int p2), .val (.int p3), .val (.int p4), .val (.int v4), .unset, .unset, .unset, .unset, .unset, .unset, .unset, .unset, .unset, .unset, .unset, .unset] [(.int (0 : Int32))])) (fun t hr => XS.iconst X0.here hx rfl (hb hby at_23) hr) ?_
    refine GoW.st (S' := T0.setTop (mkF m 26 #[.val (.int p1), .val (.int p2), .val (.int p3), .val (.int p4), .val (.int v4), .val (.int (0 : Int32)), .unset, .unset, .unset, .unset, .unset, .unset, .unset, .unset, .unset, .unset, .unset] [])) (fun t hr => XS.istore X0.here hx rfl (hb hby at_24) rfl (l' := #[.val (.int p1), .val (.int p2), .val (.int p3), .val (.int p4), .val (.int v4), .val (.int (0 : Int32)), .unset, .unset, .unset, .unset, .unset, .unset, .unset, .unset, .unset, .unset, .unset]) rfl hr) ?_
    exact p26 Z a0 hw n0 hx hby hml hZ hown hnm hret hlk vcs hcs SCS p1 p2 p3 p4 v4 (0 : Int32) h4 T0 _ h0 (by omega) X0 e0 N0 O0
  · refine GoW.st (S' := T0.setTop (mkF m 19 #[.val (.int p1), .val (.int p2), .val (.int p3), .val (.int p4), .val (.int v4), .unset, .unset, .unset, .unset, .unset, .unset, .unset, .unset, .unset, .unset, .unset, .unset] [])) (fun t hr => XS.ifNo X0.here hx rfl (hb hby at_16) rfl (XT.i0_eq_f hc1) hr) ?_
    refine GoW.st (S' := T0.setTop (mkF m 20 #[.val (.int p1), .val (.int p2), .val (.int p3), .val (.int p4), .val (.int v4), .unset, .unset, .unset, .unset, .unset, .unset, .unset, .unset, .unset, .unset, .unset, .unset] [(.int (1 : Int32))])) (fun t hr => XS.iconst X0.here hx rfl (hb hby at_19) hr) ?_
    refine GoW.st (S' := T0.setTop (mkF m 24 #[.val (.int p1), .val (.int p2), .val (.int p3), .val (.int p4), .val (.int v4), .unset, .unset, .unset, .unset, .unset, .unset, .unset, .unset, .unset, .unset, .unset, .unset] [(.int (1 : Int32))])) (fun t hr => XS.goto X0.here hx rfl (pc0 := 20) (pc' := 24) rfl (hb hby at_20) (by decide) (by decide) hr) ?_
    refine GoW.st (S' := T0.setTop (mkF m 26 #[.val (.int p1), .val (.int p2), .val (.int p3), .val (.int p4), .val (.int v4), .val (.int (1 : Int32)), .unset, .unset, .unset, .unset, .unset, .unset, .unset, .unset, .unset, .unset, .unset] [])) (fun t hr => XS.istore X0.here hx rfl (hb hby at_24) rfl (l' := #[.val (.int p1), .val (.int p2), .val (.int p3), .val (.int p4), .val (.int v4), .val (.int (1 : Int32)), .unset, .unset, .unset, .unset, .unset, .unset, .unset, .unset, .unset, .unset, .unset]) rfl hr) ?_
    exact p26 Z a0 hw n0 hx hby hml hZ hown hnm hret hlk vcs hcs SCS p1 p2 p3 p4 v4 (1 : Int32) h4 T0 _ h0 (by omega) X0 e0 N0 O0
theorem ef_rm0 (m : MethodId) (p1 : Int32) (p2 : Int32) (p3 : Int32) (p4 : Int32) : entryFrame m #[(.int p1), (.int p2), (.int p3), (.int p4)] maxLocals = mkF m 0 #[.val (.int p1), .val (.int p2), .val (.int p3), .val (.int p4), .unset, .unset, .unset, .unset, .unset, .unset, .unset, .unset, .unset, .unset, .unset, .unset, .unset] [] := by first | (simp [entryFrame, mkF, argsToLocals, Value.category, maxLocals]; done) | rfl
theorem pf_12 : plainFor x = true := plainFor_of_name (by first | (simp [plainName, overriddenIn, x]; done) | decide +kernel)
set_option maxRecDepth 65536 in
set_option maxHeartbeats 1000000 in
theorem rm0 (l : Launch) (Z : State) (a0 : Array Value) (hw : ∀ d ∈ tables_1, d.before a0 Z = true) (p1 : Int32) (p2 : Int32) (p3 : Int32) (p4 : Int32) (h0 : Heap) (n0 : Nat) (Z0 : n0 ≤ h0.size) (vcs : Int32) (hcs : ¬ vcs = 0) (O0 : Old Z n0 h0) (SCS : Sta Z Z.heap "java/lang/String" "COMPACT_STRINGS" "Z" (.int vcs)) :
    ConW l Z x code maxLocals ret room_1 #[(.int p1), (.int p2), (.int p3), (.int p4)] h0 (fun v h L => v = some (.int 1) ∧ Fr n0 L) := by
  refine ConW.of pf_12 ?_
  intro p e s m below meth c T0 X0 hx hby hml hZ hown hnm hret hlk e0
  have hown : s.vm.findClass "VersionHasRulesPinLaw" = some m.cls := hown
  have hnm : meth.name = "law" := hnm
  have N0 := Fr.nil n0
  refine GoW.cast (ef_rm0 m p1 p2 p3 p4) ?_
  refine GoW.st (S' := T0.setTop (mkF m 1 #[.val (.int p1), .val (.int p2), .val (.int p3), .val (.int p4), .unset, .unset, .unset, .unset, .unset, .unset, .unset, .unset, .unset, .unset, .unset, .unset, .unset] [(.int p1)])) (fun t hr => XS.iloadN X0.here hx rfl (hb hby at_0) rfl hr) ?_
  refine GoW.st (S' := T0.setTop (mkF m 2 #[.val (.int p1), .val (.int p2), .val (.int p3), .val (.int p4), .unset, .unset, .unset, .unset, .unset, .unset, .unset, .unset, .unset, .unset, .unset, .unset, .unset] [(.int (1 : Int32)), (.int p1)])) (fun t hr => XS.iconst X0.here hx rfl (hb hby at_1) hr) ?_
  refine GoW.st (S' := T0.setTop (mkF m 3 #[.val (.int p1), .val (.int p2), .val (.int p3), .val (.int p4), .unset, .unset, .unset, .unset, .unset, .unset, .unset, .unset, .unset, .unset, .unset, .unset, .unset] [(.int (p1 &&& (1 : Int32)))])) (fun t hr => XS.iand X0.here hx rfl (hb hby at_2) rfl hr) ?_
  by_cases hc1 : (p1 &&& (1 : Int32)) = 0
  · refine GoW.st (S' := T0.setTop (mkF m 10 #[.val (.int p1), .val (.int p2), .val (.int p3), .val (.int p4), .unset, .unset, .unset, .unset, .unset, .unset, .unset, .unset, .unset, .unset, .unset, .unset, .unset] [])) (fun t hr => XS.ifYes X0.here hx rfl (pc0 := 3) (pc' := 10) rfl (hb hby at_3) rfl (XT.i0_eq_t hc1) (by decide) (by decide) hr) ?_
    refine GoW.st (S' := T0.setTop (mkF m 11 #[.val (.int p1), .val (.int p2), .val (.int p3), .val (.int p4), .unset, .unset, .unset, .unset, .unset, .unset, .unset, .unset, .unset, .unset, .unset, .unset, .unset] [(.int (0 : Int32))])) (fun t hr => XS.iconst X0.here hx rfl (hb hby at_10) hr) ?_
    refine GoW.st (S' := T0.setTop (mkF m 13 #[.val (.int p1), .val (.int p2), .val (.int p3), .val (.int p4), .val (.int (0 : Int32)), .unset, .unset, .unset, .unset, .unset, .unset, .unset, .unset, .unset, .unset, .unset, .unset] [])) (fun t hr => XS.istore X0.here hx rfl (hb hby at_11) rfl (l' := #[.val (.int p1), .val (.int p2), .val (.int p3), .val (.int p4), .val (.int (0 : Int32)), .unset, .unset, .unset, .unset, .unset, .unset, .unset, .unset, .unset, .unset, .unset, .unset]) rfl hr) ?_
    exact p13 Z a0 hw n0 hx hby hml hZ hown hnm hret hlk vcs hcs SCS p1 p2 p3 p4 (0 : Int32) (Or.inl rfl) T0 _ h0 (by omega) X0 e0 N0 O0
  · refine GoW.st (S' := T0.setTop (mkF m 6 #[.val (.int p1), .val (.int p2), .val (.int p3), .val (.int p4), .unset, .unset, .unset, .unset, .unset, .unset, .unset, .unset, .unset, .unset, .unset, .unset, .unset] [])) (fun t hr => XS.ifNo X0.here hx rfl (hb hby at_3) rfl (XT.i0_eq_f hc1) hr) ?_
    refine GoW.st (S' := T0.setTop (mkF m 7 #[.val (.int p1), .val (.int p2), .val (.int p3), .val (.int p4), .unset, .unset, .unset, .unset, .unset, .unset, .unset, .unset, .unset, .unset, .unset, .unset, .unset] [(.int (1 : Int32))])) (fun t hr => XS.iconst X0.here hx rfl (hb hby at_6) hr) ?_
    refine GoW.st (S' := T0.setTop (mkF m 11 #[.val (.int p1), .val (.int p2), .val (.int p3), .val (.int p4), .unset, .unset, .unset, .unset, .unset, .unset, .unset, .unset, .unset, .unset, .unset, .unset, .unset] [(.int (1 : Int32))])) (fun t hr => XS.goto X0.here hx rfl (pc0 := 7) (pc' := 11) rfl (hb hby at_7) (by decide) (by decide) hr) ?_
    refine GoW.st (S' := T0.setTop (mkF m 13 #[.val (.int p1), .val (.int p2), .val (.int p3), .val (.int p4), .val (.int (1 : Int32)), .unset, .unset, .unset, .unset, .unset, .unset, .unset, .unset, .unset, .unset, .unset, .unset] [])) (fun t hr => XS.istore X0.here hx rfl (hb hby at_11) rfl (l' := #[.val (.int p1), .val (.int p2), .val (.int p3), .val (.int p4), .val (.int (1 : Int32)), .unset, .unset, .unset, .unset, .unset, .unset, .unset, .unset, .unset, .unset, .unset, .unset]) rfl hr) ?_
    exact p13 Z a0 hw n0 hx hby hml hZ hown hnm hret hlk vcs hcs SCS p1 p2 p3 p4 (1 : Int32) (Or.inr rfl) T0 _ h0 (by omega) X0 e0 N0 O0
set_option maxRecDepth 65536 in
set_option maxHeartbeats 1000000 in
theorem comes_1 {Post : Tables → Env → Array Value → State → Outcome → State → Prop} (hpost : ∀ tb e args s v u, (limb_1_1.after args s (.returned v) u = true ∧ limb_1_2.after args s (.returned v) u = true ∧ True) → ReturnedEndW s (.returned v) u (Jvm.fieldLocs frame_1_writes args s ++ Jvm.arrayLocs frame_1_arrays args s ++ Jvm.staticLocs frame_1_statics s) 32 1152 → Post tb e args s (.returned v) u) :
    ArmFor flags0 classFile x code maxLocals ret World_1 tables_1 room_1 Calls_1 rest_1 Pre_1 Post := by
  intro l hfl _ _ p e ha hc hk s m args below hf hA hF happ hP
  obtain ⟨hcalls, hrest, hpre⟩ := hP
  obtain ⟨-, -, -, hnamed, -, -, -, hat⟩ := (Spec.applies_iff hf).mp happ
  obtain ⟨hg, hn⟩ := and_e (Cond.before_iff.mp (show (Jvm.Cond.and given_1 narrow_1).before args s = true from hpre))
  obtain ⟨hcnt, gg0⟩ := and_e hg
  obtain ⟨w0, w1, w2, w3, rfl⟩ : ∃ w0 w1 w2 w3 : Value, args = #[w0, w1, w2, w3] := by
    have hs : args.size = 4 := by simpa [Cond.value, given_1] using hcnt
    obtain ⟨L⟩ := args
    match L, hs with
    | [w0, w1, w2, w3], _ => exact ⟨w0, w1, w2, w3, rfl⟩
  have hw := fun d (hd : d ∈ tables_1) => atoms_spec (ws := Jvm.Cond.code x code maxLocals ret :: tables_1) hat d (List.mem_cons_of_mem _ hd)
  obtain ⟨hsets, hown0⟩ := atoms_of _ (rest_1_c_eq ▸ (show rest_1_c.before _ s = true from hrest))
  have hr0 := Cond.before_iff.mp hown0
  have hfit : Fit s := fun {y c} hc i hi => by
    obtain ⟨ha, rfl⟩ := Array.getElem?_eq_some_iff.mp hc
    have q := List.all_eq_true.mp ((Array.all_eq_true_iff_forall_mem.mp hF) _ (Array.getElem_mem ha)) i (List.mem_range.mpr hi)
    simpa [Array.getElem?_eq_getElem hi] using q
  obtain ⟨ga0, gg1⟩ := and_e gg0
  obtain ⟨ga1, gg2⟩ := and_e gg1
  obtain ⟨ga2, gg3⟩ := and_e gg2
  obtain ⟨i0, ev0⟩ := is_v ga0
  obtain rfl : w0 = (.int i0) := Option.some.inj ev0
  obtain ⟨i1, ev1⟩ := is_v ga1
  obtain rfl : w1 = (.int i1) := Option.some.inj ev1
  obtain ⟨i2, ev2⟩ := is_v ga2
  obtain rfl : w2 = (.int i2) := Option.some.inj ev2
  obtain ⟨i3, ev3⟩ := is_v gg3
  obtain rfl : w3 = (.int i3) := Option.some.inj ev3
  have n5 := not_v (Cond.before_iff.mp (hsets _ (List.mem_of_getElem? (i := 2) rfl)))
  obtain ⟨vcs, ecs⟩ := is_v (Cond.before_iff.mp (hsets _ (List.mem_of_getElem? (i := 1) rfl)))
  have SCS : Sta s s.heap "java/lang/String" "COMPACT_STRINGS" "Z" (.int vcs) := Sta.start ecs (Or.inl (hsets _ (List.mem_of_getElem? (i := 0) rfl)))
  have hcs : ¬ (vcs = (0 : Int32)) := gotF (Cond.eq_ints ecs (Term.int_eval (0))) n5
  obtain ⟨n, o, h1, h2, h3, _, L, rfl, ⟨rfl, N⟩, hq⟩ := rm0 l s _ hw i0 i1 i2 i3 s.heap s.heap.size (Nat.le_refl _) vcs hcs (Old.start s) SCS tables_1 p e ha hc hk s m _ below hf ((Spec.applies_iff_loose hf).mp happ).1 ⟨rfl, State.Warmed39.refl s, rfl⟩ trivial
  refine ⟨n, _, h1, h2, h3, hpost _ _ _ _ _ _ ⟨Cond.after_iff.mpr rfl, Cond.after_iff.mpr (eq_i res_at (Term.int_eval (1)) rfl), trivial⟩ ⟨hq.1, hq.2.1, hq.2.2.1, (hq.2.2.2.sift fun y hy => Or.inr (N y hy)).mono (by decide) (by decide)⟩⟩
theorem main_1_1 : Claimed_1_1 := comes_1 fun _ _ _ _ _ _ h hF => ⟨h.1, hF⟩
theorem main_1_2 : Claimed_1_2 := comes_1 fun _ _ _ _ _ _ h hF => ⟨h.2.1, hF⟩
end Jvm.Pilot.@@N@@
namespace Jvm.Pilot.@@N@@
open Jvm Jvm.ClassFile Sem Op Lib Jvm.Free Jvm.Stand Jvm.Pilot.@@N@@.Jvm.D
/-! MADE BY PROGRAM (witnessworld.py) out of the Statement's table words and the real class files: 21 classes; the members and pool entries that the words name. The judged class is class 1, her method 1. -/
namespace start1
open Jvm.ClassFile
def u (s : String) : CpInfo := .utf8 (stringToUtf16 s)
/-- a pool by its gaps: so many unusable entries, then the entry; so many at the end -/
def gap : Nat → List CpInfo → List CpInfo
  | 0, r => r
  | n + 1, r => .unusable :: gap n r
def poolList (es : List (Nat × CpInfo)) (last : Nat) : List CpInfo := es.foldr (fun e r => gap e.1 (e.2 :: r)) (gap last [])
def pool (es : List (Nat × CpInfo)) (last : Nat) : Array CpInfo := ⟨poolList es last⟩
def fileOf (pool : Array CpInfo) (this : Nat) (attrs : Array Attribute := #[]) (ms : Array MethodInfo := #[]) (fl : Nat := 33) (sup : Nat := 0) (ifs : Array Nat := #[]) (fds : Array FieldInfo := #[]) : ClassFile where
  minorVersion := 0
  majorVersion := 65
  constantPool := pool
  accessFlags := fl
  thisClass := this
  superClass := sup
  interfaces := ifs
  fields := fds
  methods := ms
  attributes := attrs
def plain (name : String) (sup : Option ClassId) : Class where
  name := name
  kind := .ordinary
  loader := none
  accessFlags := 33
  super := sup
  interfaces := #[]
  cf := none
  fields := #[]
  methods := #[]
  instanceTypes := #[]
  staticTypes := #[]
  resolved := #[]
  callSites := []
  init := .initialized
  statics := none
  mirror := none

def pool0 : Array CpInfo := pool [(5, u "<init>"), (0, u "()V"), (1, .class_ 10), (1, u "java/lang/Object")] 113

def k0c0 : Code := { maxStack := 0, maxLocals := 1, code := object_method_1_code, exceptionTable := #[], attributes := #[] }
def k0m0 : Method := { name := "<init>", desc := "()V", sig := { parameters := [], returnType := none }, accessFlags := 1, code := some k0c0 }
/-- java/lang/Object -/
def k0 : Class := { plain "java/lang/Object" none with
  accessFlags := 33
  interfaces := #[]
  cf := some (fileOf pool0 8 #[] #[{ accessFlags := 1, nameIndex := 5, descriptorIndex := 6, attributes := #[] }] 33 0 #[] #[])
  fields := #[]
  methods := #[k0m0]
  instanceTypes := #[]
  staticTypes := #[]
  resolved := Array.replicate 124 none
  statics := none }

def pool1 : Array CpInfo := pool [(2, .class_ 4), (1, u "java/lang/Object"), (0, u "<init>"), (0, u "()V"), (0, .class_ 8), (0, u "java/lang/String"), (0, .methodref 7 10), (0, .nameAndType 5 11), (0, u "([C)V"), (0, .methodref 7 13), (0, .nameAndType 14 15), (0, u "valueOf"), (0, u "(C)Ljava/lang/String;"), (0, .string 17), (0, u ""), (0, .class_ 19), (0, u "ObjectTable$Version"), (0, .methodref 18 21), (0, .nameAndType 5 22), (0, u "(Ljava/lang/String;ILjava/lang/String;Ljava/lang/String;Ljava/lang/String;)V"), (0, .methodref 18 24), (0, .nameAndType 25 26), (0, u "hasRules"), (0, u "()Z"), (0, .class_ 28), (0, u "VersionHasRulesPinLaw"), (2, u "law"), (0, u "(IIII)Z")] 7

def k1m0 : Method := { name := "<init>", desc := "()V", sig := { parameters := [], returnType := none }, accessFlags := 1, code := none }
def k1c1 : Code := { maxStack := 7, maxLocals := 17, code := code, exceptionTable := #[], attributes := #[] }
def k1m1 : Method := { name := "law", desc := "(IIII)Z", sig := { parameters := [.int, .int, .int, .int], returnType := some .boolean }, accessFlags := 9, code := some k1c1 }
/-- VersionHasRulesPinLaw -/
def k1 : Class := { plain "VersionHasRulesPinLaw" (some 0) with
  accessFlags := 49
  interfaces := #[]
  cf := some (fileOf pool1 27 #[] #[{ accessFlags := 1, nameIndex := 5, descriptorIndex := 6, attributes := #[] }, { accessFlags := 9, nameIndex := 31, descriptorIndex := 32, attributes := #[] }] 49 2 #[] #[])
  fields := #[]
  methods := #[k1m0, k1m1]
  instanceTypes := #[]
  staticTypes := #[]
  resolved := Array.replicate 40 none
  statics := none }

def pool2 : Array CpInfo := pool [(1, .class_ 2), (0, u "java/io/Serializable"), (0, .class_ 4), (0, u "java/lang/Object")] 2

/-- java/io/Serializable -/
def k2 : Class := { plain "java/io/Serializable" (some 0) with
  accessFlags := 1537
  interfaces := #[]
  cf := some (fileOf pool2 1 #[] #[] 1537 3 #[] #[])
  fields := #[]
  methods := #[]
  instanceTypes := #[]
  staticTypes := #[]
  resolved := Array.replicate 7 none
  statics := none }

def pool3 : Array CpInfo := pool [(1, .class_ 2), (0, u "java/lang/Comparable"), (0, .class_ 4), (0, u "java/lang/Object")] 7

/-- java/lang/Comparable -/
def k3 : Class := { plain "java/lang/Comparable" (some 0) with
  accessFlags := 1537
  interfaces := #[]
  cf := some (fileOf pool3 1 #[] #[] 1537 3 #[] #[])
  fields := #[]
  methods := #[]
  instanceTypes := #[]
  staticTypes := #[]
  resolved := Array.replicate 12 none
  statics := none }

def pool4 : Array CpInfo := pool [(2, .class_ 4), (1, u "java/lang/CharSequence"), (42, .class_ 48), (0, u "java/lang/CharSequence$1CodePointIterator"), (10, .class_ 60), (0, u "java/lang/CharSequence$1CharIterator"), (5, .class_ 67), (0, u "java/lang/Object")] 63

/-- java/lang/CharSequence -/
def k4 : Class := { plain "java/lang/CharSequence" (some 0) with
  accessFlags := 1537
  interfaces := #[]
  cf := some (fileOf pool4 2 #[.nestMembers #[47, 59]] #[] 1537 66 #[] #[])
  fields := #[]
  methods := #[]
  instanceTypes := #[]
  staticTypes := #[]
  resolved := Array.replicate 131 none
  statics := none }

def pool5 : Array CpInfo := pool [(1, .class_ 2), (0, u "java/lang/constant/Constable"), (0, .class_ 4), (0, u "java/lang/Object")] 6

/-- java/lang/constant/Constable -/
def k5 : Class := { plain "java/lang/constant/Constable" (some 0) with
  accessFlags := 1537
  interfaces := #[]
  cf := some (fileOf pool5 1 #[] #[] 1537 3 #[] #[])
  fields := #[]
  methods := #[]
  instanceTypes := #[]
  staticTypes := #[]
  resolved := Array.replicate 11 none
  statics := none }

def pool6 : Array CpInfo := pool [(1, .class_ 2), (0, u "java/lang/constant/ConstantDesc"), (0, .class_ 4), (0, u "java/lang/Object")] 32

/-- java/lang/constant/ConstantDesc -/
def k6 : Class := { plain "java/lang/constant/ConstantDesc" (some 0) with
  accessFlags := 1537
  interfaces := #[]
  cf := some (fileOf pool6 1 #[] #[] 1537 3 #[] #[])
  fields := #[]
  methods := #[]
  instanceTypes := #[]
  staticTypes := #[]
  resolved := Array.replicate 37 none
  statics := none }

def pool7 : Array CpInfo := pool [(1, .methodref 2 3), (0, .class_ 4), (0, .nameAndType 5 6), (0, u "java/lang/Object"), (0, u "<init>"), (0, u "()V"), (2, .fieldref 10 11), (0, .class_ 12), (0, .nameAndType 13 14), (0, u "java/lang/String"), (0, u "value"), (0, u "[B"), (0, .fieldref 10 16), (0, .nameAndType 17 18), (0, u "coder"), (0, u "B"), (2, u "hash"), (0, u "I"), (2, u "hashIsZero"), (0, u "Z"), (0, .methodref 10 28), (0, .nameAndType 5 29), (0, u "([CIILjava/lang/Void;)V"), (8, .fieldref 10 39), (0, .nameAndType 40 26), (0, u "COMPACT_STRINGS"), (1, .class_ 44), (1, u "java/lang/StringUTF16"), (0, u "compress"), (1, .methodref 42 48), (0, .nameAndType 49 50), (0, u "coderFromArrayLen"), (0, u "([BI)B"), (2, u "toBytes"), (53, .class_ 109), (1, u "java/lang/StringLatin1"), (67, .methodref 42 178), (0, .nameAndType 45 179), (0, u "([CII)[B"), (29, .methodref 10 210), (0, .nameAndType 5 211), (0, u "([BB)V"), (157, u "(C)Z"), (205, .class_ 576), (0, u "java/lang/CharSequence"), (22, u "CASE_INSENSITIVE_ORDER"), (0, u "Ljava/util/Comparator;"), (181, u "valueOf"), (0, u "(C)Ljava/lang/String;"), (226, u "([C)V"), (4, .methodref 107 1016), (0, .nameAndType 1017 369), (0, u "canEncode"), (0, .methodref 107 1019), (0, .nameAndType 53 1020), (0, u "(C)[B"), (80, u "serialPersistentFields"), (0, u "[Ljava/io/ObjectStreamField;"), (0, .class_ 1104), (0, u "java/lang/String$CaseInsensitiveComparator"), (1, .class_ 1107), (0, u "java/io/Serializable"), (0, .class_ 1109), (0, u "java/lang/Comparable"), (0, .class_ 1111), (0, u "java/lang/constant/Constable"), (0, .class_ 1113), (0, u "java/lang/constant/ConstantDesc"), (2, u "serialVersionUID"), (0, u "J"), (3, u "REPL"), (0, u "C"), (2, u "LATIN1"), (1, u "UTF16")] 323

def k7m0 : Method := { name := "<init>", desc := "()V", sig := { parameters := [], returnType := none }, accessFlags := 1, code := none }
def k7c1 : Code := { maxStack := 5, maxLocals := 2, code := jdk_42_method_3_code, exceptionTable := #[], attributes := #[] }
def k7m1 : Method := { name := "<init>", desc := "([C)V", sig := { parameters := [(.array .char)], returnType := none }, accessFlags := 1, code := some k7c1 }
def k7c2 : Code := { maxStack := 4, maxLocals := 1, code := jdk_42_method_139_code, exceptionTable := #[], attributes := #[] }
def k7m2 : Method := { name := "valueOf", desc := "(C)Ljava/lang/String;", sig := { parameters := [.char], returnType := some (.object "java/lang/String") }, accessFlags := 9, code := some k7c2 }
def k7c3 : Code := { maxStack := 4, maxLocals := 6, code := jdk_42_method_149_code, exceptionTable := #[], attributes := #[] }
def k7m3 : Method := { name := "<init>", desc := "([CIILjava/lang/Void;)V", sig := { parameters := [(.array .char), .int, .int, (.object "java/lang/Void")], returnType := none }, accessFlags := 2, code := some k7c3 }
def k7c4 : Code := { maxStack := 2, maxLocals := 3, code := jdk_42_method_151_code, exceptionTable := #[], attributes := #[] }
def k7m4 : Method := { name := "<init>", desc := "([BB)V", sig := { parameters := [(.array .byte), .byte], returnType := none }, accessFlags := 0, code := some k7c4 }
/-- java/lang/String -/
def k7 : Class := { plain "java/lang/String" (some 0) with
  accessFlags := 49
  interfaces := #[2, 3, 4, 5, 6]
  cf := some (fileOf pool7 10 #[.nestMembers #[1103]] #[{ accessFlags := 1, nameIndex := 5, descriptorIndex := 6, attributes := #[] }, { accessFlags := 1, nameIndex := 5, descriptorIndex := 1010, attributes := #[] }, { accessFlags := 9, nameIndex := 782, descriptorIndex := 783, attributes := #[] }, { accessFlags := 2, nameIndex := 5, descriptorIndex := 29, attributes := #[] }, { accessFlags := 0, nameIndex := 5, descriptorIndex := 211, attributes := #[] }] 49 2 #[1106, 1108, 575, 1110, 1112] #[{ accessFlags := 18, nameIndex := 13, descriptorIndex := 14, attributes := #[] }, { accessFlags := 18, nameIndex := 17, descriptorIndex := 18, attributes := #[] }, { accessFlags := 2, nameIndex := 21, descriptorIndex := 22, attributes := #[] }, { accessFlags := 2, nameIndex := 25, descriptorIndex := 26, attributes := #[] }, { accessFlags := 26, nameIndex := 1116, descriptorIndex := 1117, attributes := #[] }, { accessFlags := 24, nameIndex := 40, descriptorIndex := 26, attributes := #[] }, { accessFlags := 26, nameIndex := 1101, descriptorIndex := 1102, attributes := #[] }, { accessFlags := 26, nameIndex := 1121, descriptorIndex := 1122, attributes := #[] }, { accessFlags := 25, nameIndex := 599, descriptorIndex := 600, attributes := #[] }, { accessFlags := 24, nameIndex := 1125, descriptorIndex := 18, attributes := #[] }, { accessFlags := 24, nameIndex := 1127, descriptorIndex := 18, attributes := #[] }])
  fields := #[{ name := "value", type := (.array .byte), accessFlags := 18, slot := 0, constantValue := 0 }, { name := "coder", type := .byte, accessFlags := 18, slot := 1, constantValue := 0 }, { name := "hash", type := .int, accessFlags := 2, slot := 2, constantValue := 0 }, { name := "hashIsZero", type := .boolean, accessFlags := 2, slot := 3, constantValue := 0 }, { name := "serialVersionUID", type := .long, accessFlags := 26, slot := 0, constantValue := 0 }, { name := "COMPACT_STRINGS", type := .boolean, accessFlags := 24, slot := 1, constantValue := 0 }, { name := "serialPersistentFields", type := (.array (.object "java/io/ObjectStreamField")), accessFlags := 26, slot := 2, constantValue := 0 }, { name := "REPL", type := .char, accessFlags := 26, slot := 3, constantValue := 0 }, { name := "CASE_INSENSITIVE_ORDER", type := (.object "java/util/Comparator"), accessFlags := 25, slot := 4, constantValue := 0 }, { name := "LATIN1", type := .byte, accessFlags := 24, slot := 5, constantValue := 0 }, { name := "UTF16", type := .byte, accessFlags := 24, slot := 6, constantValue := 0 }]
  methods := #[k7m0, k7m1, k7m2, k7m3, k7m4]
  instanceTypes := #[(.array .byte), .byte, .int, .boolean]
  staticTypes := #[.long, .boolean, (.array (.object "java/io/ObjectStreamField")), .char, (.object "java/util/Comparator"), .byte, .byte]
  resolved := Array.replicate 1451 none
  statics := some 0 }

def pool8 : Array CpInfo := pool [(6, .class_ 8), (1, u "java/lang/Object"), (0, u "<init>"), (0, u "()V"), (1, .class_ 14), (1, u "java/lang/StringUTF16"), (31, u "$assertionsDisabled"), (0, u "Z"), (13, u "HI_BYTE_SHIFT"), (0, u "I"), (2, u "LO_BYTE_SHIFT"), (49, .methodref 12 116), (0, .nameAndType 117 118), (0, u "compress"), (0, u "([CI[BII)I"), (3, u "([CII)[B"), (138, u "coderFromArrayLen"), (0, u "([BI)B"), (106, .class_ 371), (1, u "java/lang/StringUTF16$LinesSpliterator"), (58, u "MAX_LENGTH"), (196, .class_ 628), (0, u "java/lang/StringUTF16$CodePointsSpliterator"), (0, .class_ 630), (0, u "java/lang/StringUTF16$CharsSpliterator")] 4

def k8m0 : Method := { name := "<init>", desc := "()V", sig := { parameters := [], returnType := none }, accessFlags := 0, code := none }
def k8c1 : Code := { maxStack := 2, maxLocals := 2, code := jdk_52_method_15_code, exceptionTable := #[], attributes := #[] }
def k8m1 : Method := { name := "coderFromArrayLen", desc := "([BI)B", sig := { parameters := [(.array .byte), .int], returnType := some .byte }, accessFlags := 8, code := some k8c1 }
def k8c2 : Code := { maxStack := 5, maxLocals := 6, code := jdk_52_method_16_code, exceptionTable := #[], attributes := #[] }
def k8m2 : Method := { name := "compress", desc := "([CII)[B", sig := { parameters := [(.array .char), .int, .int], returnType := some (.array .byte) }, accessFlags := 9, code := some k8c2 }
def k8c3 : Code := { maxStack := 3, maxLocals := 7, code := jdk_52_method_21_code, exceptionTable := #[], attributes := #[] }
def k8m3 : Method := { name := "compress", desc := "([CI[BII)I", sig := { parameters := [(.array .char), .int, (.array .byte), .int, .int], returnType := some .int }, accessFlags := 9, code := some k8c3 }
/-- java/lang/StringUTF16 -/
def k8 : Class := { plain "java/lang/StringUTF16" (some 0) with
  accessFlags := 48
  interfaces := #[]
  cf := some (fileOf pool8 12 #[.nestMembers #[627, 629, 369]] #[{ accessFlags := 0, nameIndex := 9, descriptorIndex := 10, attributes := #[] }, { accessFlags := 8, nameIndex := 261, descriptorIndex := 262, attributes := #[] }, { accessFlags := 9, nameIndex := 117, descriptorIndex := 122, attributes := #[] }, { accessFlags := 9, nameIndex := 117, descriptorIndex := 118, attributes := #[] }] 48 6 #[] #[{ accessFlags := 26, nameIndex := 61, descriptorIndex := 62, attributes := #[] }, { accessFlags := 26, nameIndex := 65, descriptorIndex := 62, attributes := #[] }, { accessFlags := 24, nameIndex := 430, descriptorIndex := 62, attributes := #[] }, { accessFlags := 4120, nameIndex := 46, descriptorIndex := 47, attributes := #[] }])
  fields := #[{ name := "HI_BYTE_SHIFT", type := .int, accessFlags := 26, slot := 0, constantValue := 0 }, { name := "LO_BYTE_SHIFT", type := .int, accessFlags := 26, slot := 1, constantValue := 0 }, { name := "MAX_LENGTH", type := .int, accessFlags := 24, slot := 2, constantValue := 0 }, { name := "$assertionsDisabled", type := .boolean, accessFlags := 4120, slot := 3, constantValue := 0 }]
  methods := #[k8m0, k8m1, k8m2, k8m3]
  instanceTypes := #[]
  staticTypes := #[.int, .int, .int, .boolean]
  resolved := Array.replicate 635 none
  statics := none }

def pool9 : Array CpInfo := pool [(1, .methodref 2 3), (0, .class_ 4), (0, .nameAndType 5 6), (0, u "java/lang/Object"), (0, u "<init>"), (0, u "()V"), (0, .class_ 8), (0, u "java/lang/Record")] 13

def k9c0 : Code := { maxStack := 1, maxLocals := 1, code := jdk_30_method_1_code, exceptionTable := #[], attributes := #[] }
def k9m0 : Method := { name := "<init>", desc := "()V", sig := { parameters := [], returnType := none }, accessFlags := 4, code := some k9c0 }
/-- java/lang/Record -/
def k9 : Class := { plain "java/lang/Record" (some 0) with
  accessFlags := 1057
  interfaces := #[]
  cf := some (fileOf pool9 7 #[] #[{ accessFlags := 4, nameIndex := 5, descriptorIndex := 6, attributes := #[] }] 1057 2 #[] #[])
  fields := #[]
  methods := #[k9m0]
  instanceTypes := #[]
  staticTypes := #[]
  resolved := Array.replicate 22 none
  statics := none }

def pool10 : Array CpInfo := pool [(1, .methodref 2 3), (0, .class_ 4), (0, .nameAndType 5 6), (0, u "java/lang/Record"), (0, u "<init>"), (0, u "()V"), (0, .fieldref 8 9), (0, .class_ 10), (0, .nameAndType 11 12), (0, u "ObjectTable$Version"), (0, u "name"), (0, u "Ljava/lang/String;"), (0, .fieldref 8 14), (0, .nameAndType 15 16), (0, u "index"), (0, u "I"), (0, .fieldref 8 18), (0, .nameAndType 19 12), (0, u "pkg"), (0, .fieldref 8 21), (0, .nameAndType 22 12), (0, u "rules"), (0, .fieldref 8 24), (0, .nameAndType 25 12), (0, u "table"), (22, u "(Ljava/lang/String;ILjava/lang/String;Ljava/lang/String;Ljava/lang/String;)V"), (3, u "hasRules"), (0, u "()Z"), (8, .class_ 63), (0, u "ObjectTable")] 23

def k10c0 : Code := { maxStack := 2, maxLocals := 6, code := prog_14_method_1_code, exceptionTable := #[], attributes := #[] }
def k10m0 : Method := { name := "<init>", desc := "(Ljava/lang/String;ILjava/lang/String;Ljava/lang/String;Ljava/lang/String;)V", sig := { parameters := [(.object "java/lang/String"), .int, (.object "java/lang/String"), (.object "java/lang/String"), (.object "java/lang/String")], returnType := none }, accessFlags := 0, code := some k10c0 }
def k10c1 : Code := { maxStack := 1, maxLocals := 1, code := prog_14_method_2_code, exceptionTable := #[], attributes := #[] }
def k10m1 : Method := { name := "hasRules", desc := "()Z", sig := { parameters := [], returnType := some .boolean }, accessFlags := 0, code := some k10c1 }
/-- ObjectTable$Version -/
def k10 : Class := { plain "ObjectTable$Version" (some 9) with
  accessFlags := 48
  interfaces := #[]
  cf := some (fileOf pool10 8 #[.nestHost 62] #[{ accessFlags := 0, nameIndex := 5, descriptorIndex := 48, attributes := #[] }, { accessFlags := 0, nameIndex := 52, descriptorIndex := 53, attributes := #[] }] 48 2 #[] #[{ accessFlags := 18, nameIndex := 11, descriptorIndex := 12, attributes := #[] }, { accessFlags := 18, nameIndex := 15, descriptorIndex := 16, attributes := #[] }, { accessFlags := 18, nameIndex := 19, descriptorIndex := 12, attributes := #[] }, { accessFlags := 18, nameIndex := 22, descriptorIndex := 12, attributes := #[] }, { accessFlags := 18, nameIndex := 25, descriptorIndex := 12, attributes := #[] }])
  fields := #[{ name := "name", type := (.object "java/lang/String"), accessFlags := 18, slot := 0, constantValue := 0 }, { name := "index", type := .int, accessFlags := 18, slot := 1, constantValue := 0 }, { name := "pkg", type := (.object "java/lang/String"), accessFlags := 18, slot := 2, constantValue := 0 }, { name := "rules", type := (.object "java/lang/String"), accessFlags := 18, slot := 3, constantValue := 0 }, { name := "table", type := (.object "java/lang/String"), accessFlags := 18, slot := 4, constantValue := 0 }]
  methods := #[k10m0, k10m1]
  instanceTypes := #[(.object "java/lang/String"), .int, (.object "java/lang/String"), (.object "java/lang/String"), (.object "java/lang/String")]
  staticTypes := #[]
  resolved := Array.replicate 87 none
  statics := none }

def pool11 : Array CpInfo := pool [(4, .class_ 6), (1, u "java/lang/Object"), (0, u "<init>"), (0, u "()V"), (5, .class_ 16), (1, u "java/lang/StringLatin1"), (73, u "canEncode"), (14, u "(C)Z"), (15, u "$assertionsDisabled"), (0, u "Z"), (98, .class_ 223), (1, u "java/lang/StringLatin1$LinesSpliterator"), (156, u "toBytes"), (1, u "(C)[B"), (7, .class_ 391), (0, u "java/lang/StringLatin1$CharsSpliterator")] 3

def k11m0 : Method := { name := "<init>", desc := "()V", sig := { parameters := [], returnType := none }, accessFlags := 0, code := none }
def k11c1 : Code := { maxStack := 2, maxLocals := 1, code := jdk_43_method_3_code, exceptionTable := #[], attributes := #[] }
def k11m1 : Method := { name := "canEncode", desc := "(C)Z", sig := { parameters := [.char], returnType := some .boolean }, accessFlags := 9, code := some k11c1 }
def k11c2 : Code := { maxStack := 4, maxLocals := 1, code := jdk_43_method_46_code, exceptionTable := #[], attributes := #[] }
def k11m2 : Method := { name := "toBytes", desc := "(C)[B", sig := { parameters := [.char], returnType := some (.array .byte) }, accessFlags := 9, code := some k11c2 }
/-- java/lang/StringLatin1 -/
def k11 : Class := { plain "java/lang/StringLatin1" (some 0) with
  accessFlags := 48
  interfaces := #[]
  cf := some (fileOf pool11 14 #[.nestMembers #[390, 221]] #[{ accessFlags := 0, nameIndex := 7, descriptorIndex := 8, attributes := #[] }, { accessFlags := 9, nameIndex := 90, descriptorIndex := 105, attributes := #[] }, { accessFlags := 9, nameIndex := 380, descriptorIndex := 382, attributes := #[] }] 48 4 #[] #[{ accessFlags := 4120, nameIndex := 121, descriptorIndex := 122, attributes := #[] }])
  fields := #[{ name := "$assertionsDisabled", type := .boolean, accessFlags := 4120, slot := 0, constantValue := 0 }]
  methods := #[k11m0, k11m1, k11m2]
  instanceTypes := #[]
  staticTypes := #[.boolean]
  resolved := Array.replicate 395 none
  statics := none }

def pool12 : Array CpInfo := pool [(2, .class_ 4), (1, u "java/lang/Object"), (0, u "<init>"), (0, u "()V"), (17, .class_ 26), (1, u "jdk/internal/util/Preconditions"), (28, .class_ 56), (0, u "jdk/internal/util/Preconditions$4"), (57, .class_ 115), (0, u "jdk/internal/util/Preconditions$1"), (7, u "SIOOBE_FORMATTER"), (0, u "Ljava/util/function/BiFunction;"), (0, .class_ 126), (0, u "jdk/internal/util/Preconditions$2"), (3, u "AIOOBE_FORMATTER"), (0, .class_ 132), (0, u "jdk/internal/util/Preconditions$3"), (3, u "IOOBE_FORMATTER")] 57

def k12m0 : Method := { name := "<init>", desc := "()V", sig := { parameters := [], returnType := none }, accessFlags := 1, code := none }
/-- jdk/internal/util/Preconditions -/
def k12 : Class := { plain "jdk/internal/util/Preconditions" (some 0) with
  accessFlags := 33
  interfaces := #[]
  cf := some (fileOf pool12 24 #[.nestMembers #[55, 131, 125, 114]] #[{ accessFlags := 1, nameIndex := 5, descriptorIndex := 6, attributes := #[] }] 33 2 #[] #[{ accessFlags := 25, nameIndex := 123, descriptorIndex := 124, attributes := #[] }, { accessFlags := 25, nameIndex := 130, descriptorIndex := 124, attributes := #[] }, { accessFlags := 25, nameIndex := 136, descriptorIndex := 124, attributes := #[] }])
  fields := #[{ name := "SIOOBE_FORMATTER", type := (.object "java/util/function/BiFunction"), accessFlags := 25, slot := 0, constantValue := 0 }, { name := "AIOOBE_FORMATTER", type := (.object "java/util/function/BiFunction"), accessFlags := 25, slot := 1, constantValue := 0 }, { name := "IOOBE_FORMATTER", type := (.object "java/util/function/BiFunction"), accessFlags := 25, slot := 2, constantValue := 0 }]
  methods := #[k12m0]
  instanceTypes := #[]
  staticTypes := #[(.object "java/util/function/BiFunction"), (.object "java/util/function/BiFunction"), (.object "java/util/function/BiFunction")]
  resolved := Array.replicate 194 none
  statics := some 1 }

def pool13 : Array CpInfo := pool [(9, u "<init>"), (6, .class_ 18), (1, u "java/lang/Object"), (0, u "()V"), (1, .class_ 23), (1, u "jdk/internal/util/ArraysSupport"), (0, u "LOG2_ARRAY_LONG_INDEX_SCALE"), (0, u "I"), (2, u "U"), (0, u "Ljdk/internal/misc/Unsafe;"), (8, u "BIG_ENDIAN"), (0, u "Z"), (8, u "LOG2_BYTE_BIT_SIZE"), (4, u "LOG2_ARRAY_INT_INDEX_SCALE"), (54, u "JLA"), (0, u "Ljdk/internal/access/JavaLangAccess;"), (11, u "LOG2_ARRAY_BOOLEAN_INDEX_SCALE"), (9, u "LOG2_ARRAY_BYTE_INDEX_SCALE"), (5, u "LOG2_ARRAY_CHAR_INDEX_SCALE"), (5, u "LOG2_ARRAY_SHORT_INDEX_SCALE"), (18, u "LOG2_ARRAY_FLOAT_INDEX_SCALE"), (24, u "LOG2_ARRAY_DOUBLE_INDEX_SCALE"), (89, u "T_BOOLEAN"), (2, u "T_CHAR"), (1, u "T_FLOAT"), (1, u "T_DOUBLE"), (1, u "T_BYTE"), (1, u "T_SHORT"), (1, u "T_INT"), (1, u "T_LONG"), (1, u "SOFT_MAX_ARRAY_LENGTH")] 83

def k13m0 : Method := { name := "<init>", desc := "()V", sig := { parameters := [], returnType := none }, accessFlags := 2, code := none }
/-- jdk/internal/util/ArraysSupport -/
def k13 : Class := { plain "jdk/internal/util/ArraysSupport" (some 0) with
  accessFlags := 33
  interfaces := #[]
  cf := some (fileOf pool13 21 #[] #[{ accessFlags := 2, nameIndex := 9, descriptorIndex := 19, attributes := #[] }] 33 16 #[] #[{ accessFlags := 24, nameIndex := 28, descriptorIndex := 29, attributes := #[] }, { accessFlags := 26, nameIndex := 38, descriptorIndex := 39, attributes := #[] }, { accessFlags := 25, nameIndex := 121, descriptorIndex := 25, attributes := #[] }, { accessFlags := 25, nameIndex := 131, descriptorIndex := 25, attributes := #[] }, { accessFlags := 25, nameIndex := 137, descriptorIndex := 25, attributes := #[] }, { accessFlags := 25, nameIndex := 143, descriptorIndex := 25, attributes := #[] }, { accessFlags := 25, nameIndex := 53, descriptorIndex := 25, attributes := #[] }, { accessFlags := 25, nameIndex := 24, descriptorIndex := 25, attributes := #[] }, { accessFlags := 25, nameIndex := 162, descriptorIndex := 25, attributes := #[] }, { accessFlags := 25, nameIndex := 187, descriptorIndex := 25, attributes := #[] }, { accessFlags := 26, nameIndex := 48, descriptorIndex := 25, attributes := #[] }, { accessFlags := 25, nameIndex := 277, descriptorIndex := 25, attributes := #[] }, { accessFlags := 25, nameIndex := 280, descriptorIndex := 25, attributes := #[] }, { accessFlags := 25, nameIndex := 282, descriptorIndex := 25, attributes := #[] }, { accessFlags := 25, nameIndex := 284, descriptorIndex := 25, attributes := #[] }, { accessFlags := 25, nameIndex := 286, descriptorIndex := 25, attributes := #[] }, { accessFlags := 25, nameIndex := 288, descriptorIndex := 25, attributes := #[] }, { accessFlags := 25, nameIndex := 290, descriptorIndex := 25, attributes := #[] }, { accessFlags := 25, nameIndex := 292, descriptorIndex := 25, attributes := #[] }, { accessFlags := 26, nameIndex := 108, descriptorIndex := 109, attributes := #[] }, { accessFlags := 25, nameIndex := 294, descriptorIndex := 25, attributes := #[] }])
  fields := #[{ name := "U", type := (.object "jdk/internal/misc/Unsafe"), accessFlags := 24, slot := 0, constantValue := 0 }, { name := "BIG_ENDIAN", type := .boolean, accessFlags := 26, slot := 1, constantValue := 0 }, { name := "LOG2_ARRAY_BOOLEAN_INDEX_SCALE", type := .int, accessFlags := 25, slot := 2, constantValue := 0 }, { name := "LOG2_ARRAY_BYTE_INDEX_SCALE", type := .int, accessFlags := 25, slot := 3, constantValue := 0 }, { name := "LOG2_ARRAY_CHAR_INDEX_SCALE", type := .int, accessFlags := 25, slot := 4, constantValue := 0 }, { name := "LOG2_ARRAY_SHORT_INDEX_SCALE", type := .int, accessFlags := 25, slot := 5, constantValue := 0 }, { name := "LOG2_ARRAY_INT_INDEX_SCALE", type := .int, accessFlags := 25, slot := 6, constantValue := 0 }, { name := "LOG2_ARRAY_LONG_INDEX_SCALE", type := .int, accessFlags := 25, slot := 7, constantValue := 0 }, { name := "LOG2_ARRAY_FLOAT_INDEX_SCALE", type := .int, accessFlags := 25, slot := 8, constantValue := 0 }, { name := "LOG2_ARRAY_DOUBLE_INDEX_SCALE", type := .int, accessFlags := 25, slot := 9, constantValue := 0 }, { name := "LOG2_BYTE_BIT_SIZE", type := .int, accessFlags := 26, slot := 10, constantValue := 0 }, { name := "T_BOOLEAN", type := .int, accessFlags := 25, slot := 11, constantValue := 0 }, { name := "T_CHAR", type := .int, accessFlags := 25, slot := 12, constantValue := 0 }, { name := "T_FLOAT", type := .int, accessFlags := 25, slot := 13, constantValue := 0 }, { name := "T_DOUBLE", type := .int, accessFlags := 25, slot := 14, constantValue := 0 }, { name := "T_BYTE", type := .int, accessFlags := 25, slot := 15, constantValue := 0 }, { name := "T_SHORT", type := .int, accessFlags := 25, slot := 16, constantValue := 0 }, { name := "T_INT", type := .int, accessFlags := 25, slot := 17, constantValue := 0 }, { name := "T_LONG", type := .int, accessFlags := 25, slot := 18, constantValue := 0 }, { name := "JLA", type := (.object "jdk/internal/access/JavaLangAccess"), accessFlags := 26, slot := 19, constantValue := 0 }, { name := "SOFT_MAX_ARRAY_LENGTH", type := .int, accessFlags := 25, slot := 20, constantValue := 0 }]
  methods := #[k13m0]
  instanceTypes := #[]
  staticTypes := #[(.object "jdk/internal/misc/Unsafe"), .boolean, .int, .int, .int, .int, .int, .int, .int, .int, .int, .int, .int, .int, .int, .int, .int, .int, .int, (.object "jdk/internal/access/JavaLangAccess"), .int]
  resolved := Array.replicate 378 none
  statics := none }

def pool14 : Array CpInfo := pool [(1, u "java/lang/Cloneable"), (0, .class_ 1), (0, u "java/lang/Object"), (0, .class_ 3)] 3

/-- java/lang/Cloneable -/
def k14 : Class := { plain "java/lang/Cloneable" (some 0) with
  accessFlags := 1537
  interfaces := #[]
  cf := some (fileOf pool14 2 #[] #[] 1537 4 #[] #[])
  fields := #[]
  methods := #[]
  instanceTypes := #[]
  staticTypes := #[]
  resolved := Array.replicate 8 none
  statics := none }

/-- the primitive byte -/
def k15 : Class := { plain "byte" none with kind := .primitive 'B', accessFlags := 0x411 }
/-- [B -/
def k16 : Class := { plain "[B" (some 0) with kind := .array 15 .byte, interfaces := #[14, 2], accessFlags := 1041 }

/-- the primitive char -/
def k17 : Class := { plain "char" none with kind := .primitive 'C', accessFlags := 0x411 }
/-- [C -/
def k18 : Class := { plain "[C" (some 0) with kind := .array 17 .char, interfaces := #[14, 2], accessFlags := 1041 }

/-- the primitive int -/
def k19 : Class := { plain "int" none with kind := .primitive 'I', accessFlags := 0x411 }
/-- [I -/
def k20 : Class := { plain "[I" (some 0) with kind := .array 19 .int, interfaces := #[14, 2], accessFlags := 1041 }

def heap : Heap := #[{ cls := 7, slots := #[.long 0, .int 1, .null, .int 0, .null, .int 0, .int 0], vm := .statics 7 },
  { cls := 12, slots := #[.null, .null, .null], vm := .statics 12 }]
def classes : Array Class := #[k0, k1, k2, k3, k4, k5, k6, k7, k8, k9, k10, k11, k12, k13, k14, k15, k16, k17, k18, k19, k20]
def interned : List (Array UInt16 × Addr) := []
def slotsUsed : Nat := 10
def theMethod : MethodId := ⟨1, 1⟩
def args0 : Array Value := #[.int 5, .int 3, .int 9, .int 5]
def aboutOver (below : List Frame) : State where
  vm := { classes := classes, interned := interned.toArray }
  heap := heap
  slotsUsed := slotsUsed
  threads := #[{ frames := .invoking theMethod args0 :: below }]
def below0 : List Frame := [.native { method := ⟨0, 0⟩, args := #[] }]
def about1 : State := aboutOver below0
def p0 : Program := .bare "" "" ""
def e0 : Env := launch0.env 0 0 0
theorem w_frames : about1.frames = Frame.invoking theMethod args0 :: below0 := rfl
set_option maxRecDepth 65536 in
theorem w_args : argsFit about1.vm theMethod args0 = true := by decide +kernel
set_option maxRecDepth 65536 in
theorem w_heap : heapFits about1 = true := by decide +kernel
set_option maxRecDepth 65536 in
theorem w_runnable : about1.curStatus? = some .runnable := by decide +kernel
set_option maxRecDepth 65536 in
theorem w_alone : about1.alone = true := by decide +kernel
set_option maxRecDepth 65536 in
theorem w_named : about1.methodNamed? x = some theMethod := by decide +kernel
set_option maxRecDepth 65536 in
theorem w_hears : about1.hears theMethod below0 = true := by decide +kernel
set_option maxRecDepth 65536 in
theorem w_ripe : about1.ripe theMethod args0 below0 = true := by decide +kernel
theorem w_running : about1.status = .running := rfl
set_option maxRecDepth 65536 in
theorem w_room : about1.hasRoom e0.platform room_1 = true :=
  launch0.hasRoom_least _ room_1 (by decide +kernel) (by decide +kernel) (by decide +kernel) (by decide +kernel) (by decide +kernel) (by decide +kernel)
theorem allAtoms_all (ts : List Jvm.Cond) (a : Array Jvm.Value) (st : Jvm.State) : (allAtoms ts).before a st = ts.all (fun c => c.before a st) := by
  induction ts with
  | nil => rfl
  | cons c t ih =>
    show (Jvm.Cond.and c (allAtoms t)).before a st = _
    rw [Jvm.Cond.before_and, ih, List.all_cons]
def words1 : List Jvm.Cond := Jvm.Cond.code x code maxLocals ret :: tables_1
/-- a 'code' word, met by the world's own term for the bytes: nothing is compared byte by byte -/
theorem code_word {y : MethodName} {bytes : ByteArray} {mx : Nat} {rt : Option FieldType} {a : Array Value} {s : State} {m : MethodId} {meth : Method} {c : Code} (h1 : s.methodNamed? y = some m) (h2 : s.vm.method? m = some meth) (h3 : meth.code = some c) (h4 : c.code = bytes)
    (h5 : (c.maxLocals == mx && c.exceptionTable.isEmpty && decide (c.maxStack ≤ mostOperands) && decide (meth.sig.returnType = rt) && !meth.locks && decide (parseMethodDescriptor y.desc = some meth.sig)) = true) : (Jvm.Cond.code y bytes mx rt).before a s = true := by
  simp only [Bool.and_eq_true, beq_iff_eq, Bool.not_eq_true', decide_eq_true_eq] at h5
  obtain ⟨⟨⟨⟨⟨g1, g2⟩, g3⟩, g4⟩, g5⟩, g6⟩ := h5
  simp [Cond.before, Cond.holds, Cond.value, h1, h2, h3, h4, g1, g2, g3, g4, g5, g6]
def isCode : Jvm.Cond → Bool
  | .code _ _ _ _ => true
  | _ => false
theorem all_split {L : List Jvm.Cond} {P : Jvm.Cond → Bool} (h1 : L.all (fun c => isCode c || P c) = true) (h2 : ∀ c ∈ L.filter isCode, P c = true) : L.all P = true := by
  refine List.all_eq_true.mpr fun c hc => ?_
  have h := List.all_eq_true.mp h1 c hc
  rcases Bool.eq_false_or_eq_true (isCode c) with hi | hi
  · exact h2 c (List.mem_filter.mpr ⟨hc, hi⟩)
  · simpa [hi] using h
set_option maxRecDepth 65536 in
theorem w_c0 : (Jvm.Cond.code x code maxLocals ret).before args0 about1 = true := code_word (m := ⟨1, 1⟩) (meth := k1m1) (c := k1c1) (by decide +kernel) rfl rfl rfl (by decide +kernel)
set_option maxRecDepth 65536 in
theorem w_c1 : (Jvm.Cond.code ({ cls := "java/lang/String", name := "<init>", desc := "([C)V" } : Jvm.MethodName) jdk_42_method_3_code (2 : Nat) (Option.none : Option Jvm.ClassFile.FieldType)).before args0 about1 = true := code_word (m := ⟨7, 1⟩) (meth := k7m1) (c := k7c1) (by decide +kernel) rfl rfl rfl (by decide +kernel)
set_option maxRecDepth 65536 in
theorem w_c2 : (Jvm.Cond.code ({ cls := "java/lang/String", name := "<init>", desc := "([CIILjava/lang/Void;)V" } : Jvm.MethodName) jdk_42_method_149_code (6 : Nat) (Option.none : Option Jvm.ClassFile.FieldType)).before args0 about1 = true := code_word (m := ⟨7, 3⟩) (meth := k7m3) (c := k7c3) (by decide +kernel) rfl rfl rfl (by decide +kernel)
set_option maxRecDepth 65536 in
theorem w_c3 : (Jvm.Cond.code ({ cls := "java/lang/Object", name := "<init>", desc := "()V" } : Jvm.MethodName) object_method_1_code (1 : Nat) (Option.none : Option Jvm.ClassFile.FieldType)).before args0 about1 = true := code_word (m := ⟨0, 0⟩) (meth := k0m0) (c := k0c0) (by decide +kernel) rfl rfl rfl (by decide +kernel)
set_option maxRecDepth 65536 in
theorem w_c4 : (Jvm.Cond.code ({ cls := "java/lang/StringUTF16", name := "compress", desc := "([CII)[B" } : Jvm.MethodName) jdk_52_method_16_code (6 : Nat) (Option.some (Jvm.ClassFile.FieldType.array Jvm.ClassFile.FieldType.byte))).before args0 about1 = true := code_word (m := ⟨8, 2⟩) (meth := k8m2) (c := k8c2) (by decide +kernel) rfl rfl rfl (by decide +kernel)
set_option maxRecDepth 65536 in
theorem w_c5 : (Jvm.Cond.code ({ cls := "java/lang/StringUTF16", name := "compress", desc := "([CI[BII)I" } : Jvm.MethodName) jdk_52_method_21_code (7 : Nat) (Option.some Jvm.ClassFile.FieldType.int)).before args0 about1 = true := code_word (m := ⟨8, 3⟩) (meth := k8m3) (c := k8c3) (by decide +kernel) rfl rfl rfl (by decide +kernel)
set_option maxRecDepth 65536 in
theorem w_c6 : (Jvm.Cond.code ({ cls := "java/lang/StringUTF16", name := "coderFromArrayLen", desc := "([BI)B" } : Jvm.MethodName) jdk_52_method_15_code (2 : Nat) (Option.some Jvm.ClassFile.FieldType.byte)).before args0 about1 = true := code_word (m := ⟨8, 1⟩) (meth := k8m1) (c := k8c1) (by decide +kernel) rfl rfl rfl (by decide +kernel)
set_option maxRecDepth 65536 in
theorem w_c7 : (Jvm.Cond.code ({ cls := "ObjectTable$Version", name := "<init>", desc := "(Ljava/lang/String;ILjava/lang/String;Ljava/lang/String;Ljava/lang/String;)V" } : Jvm.MethodName) prog_14_method_1_code (6 : Nat) (Option.none : Option Jvm.ClassFile.FieldType)).before args0 about1 = true := code_word (m := ⟨10, 0⟩) (meth := k10m0) (c := k10c0) (by decide +kernel) rfl rfl rfl (by decide +kernel)
set_option maxRecDepth 65536 in
theorem w_c8 : (Jvm.Cond.code ({ cls := "java/lang/Record", name := "<init>", desc := "()V" } : Jvm.MethodName) jdk_30_method_1_code (1 : Nat) (Option.none : Option Jvm.ClassFile.FieldType)).before args0 about1 = true := code_word (m := ⟨9, 0⟩) (meth := k9m0) (c := k9c0) (by decide +kernel) rfl rfl rfl (by decide +kernel)
set_option maxRecDepth 65536 in
theorem w_c9 : (Jvm.Cond.code ({ cls := "ObjectTable$Version", name := "hasRules", desc := "()Z" } : Jvm.MethodName) prog_14_method_2_code (1 : Nat) (Option.some Jvm.ClassFile.FieldType.boolean)).before args0 about1 = true := code_word (m := ⟨10, 1⟩) (meth := k10m1) (c := k10c1) (by decide +kernel) rfl rfl rfl (by decide +kernel)
set_option maxRecDepth 65536 in
theorem w_c10 : (Jvm.Cond.code ({ cls := "java/lang/String", name := "valueOf", desc := "(C)Ljava/lang/String;" } : Jvm.MethodName) jdk_42_method_139_code (1 : Nat) (Option.some (Jvm.ClassFile.FieldType.object "java/lang/String"))).before args0 about1 = true := code_word (m := ⟨7, 2⟩) (meth := k7m2) (c := k7c2) (by decide +kernel) rfl rfl rfl (by decide +kernel)
set_option maxRecDepth 65536 in
theorem w_c11 : (Jvm.Cond.code ({ cls := "java/lang/StringLatin1", name := "canEncode", desc := "(C)Z" } : Jvm.MethodName) jdk_43_method_3_code (1 : Nat) (Option.some Jvm.ClassFile.FieldType.boolean)).before args0 about1 = true := code_word (m := ⟨11, 1⟩) (meth := k11m1) (c := k11c1) (by decide +kernel) rfl rfl rfl (by decide +kernel)
set_option maxRecDepth 65536 in
theorem w_c12 : (Jvm.Cond.code ({ cls := "java/lang/StringLatin1", name := "toBytes", desc := "(C)[B" } : Jvm.MethodName) jdk_43_method_46_code (1 : Nat) (Option.some (Jvm.ClassFile.FieldType.array Jvm.ClassFile.FieldType.byte))).before args0 about1 = true := code_word (m := ⟨11, 2⟩) (meth := k11m2) (c := k11c2) (by decide +kernel) rfl rfl rfl (by decide +kernel)
set_option maxRecDepth 65536 in
theorem w_c13 : (Jvm.Cond.code ({ cls := "java/lang/String", name := "<init>", desc := "([BB)V" } : Jvm.MethodName) jdk_42_method_151_code (3 : Nat) (Option.none : Option Jvm.ClassFile.FieldType)).before args0 about1 = true := code_word (m := ⟨7, 4⟩) (meth := k7m4) (c := k7c4) (by decide +kernel) rfl rfl rfl (by decide +kernel)
def codes1 : List Jvm.Cond := [Jvm.Cond.code x code maxLocals ret, Jvm.Cond.code ({ cls := "java/lang/String", name := "<init>", desc := "([C)V" } : Jvm.MethodName) jdk_42_method_3_code (2 : Nat) (Option.none : Option Jvm.ClassFile.FieldType), Jvm.Cond.code ({ cls := "java/lang/String", name := "<init>", desc := "([CIILjava/lang/Void;)V" } : Jvm.MethodName) jdk_42_method_149_code (6 : Nat) (Option.none : Option Jvm.ClassFile.FieldType), Jvm.Cond.code ({ cls := "java/lang/Object", name := "<init>", desc := "()V" } : Jvm.MethodName) object_method_1_code (1 : Nat) (Option.none : Option Jvm.ClassFile.FieldType), Jvm.Cond.code ({ cls := "java/lang/StringUTF16", name := "compress", desc := "([CII)[B" } : Jvm.MethodName) jdk_52_method_16_code (6 : Nat) (Option.some (Jvm.ClassFile.FieldType.array Jvm.ClassFile.FieldType.byte)), Jvm.Cond.code ({ cls := "java/lang/StringUTF16", name := "compress", desc := "([CI[BII)I" } : Jvm.MethodName) jdk_52_method_21_code (7 : Nat) (Option.some Jvm.ClassFile.FieldType.int), Jvm.Cond.code ({ cls := "java/lang/StringUTF16", name := "coderFromArrayLen", desc := "([BI)B" } : Jvm.MethodName) jdk_52_method_15_code (2 : Nat) (Option.some Jvm.ClassFile.FieldType.byte), Jvm.Cond.code ({ cls := "ObjectTable$Version", name := "<init>", desc := "(Ljava/lang/String;ILjava/lang/String;Ljava/lang/String;Ljava/lang/String;)V" } : Jvm.MethodName) prog_14_method_1_code (6 : Nat) (Option.none : Option Jvm.ClassFile.FieldType), Jvm.Cond.code ({ cls := "java/lang/Record", name := "<init>", desc := "()V" } : Jvm.MethodName) jdk_30_method_1_code (1 : Nat) (Option.none : Option Jvm.ClassFile.FieldType), Jvm.Cond.code ({ cls := "ObjectTable$Version", name := "hasRules", desc := "()Z" } : Jvm.MethodName) prog_14_method_2_code (1 : Nat) (Option.some Jvm.ClassFile.FieldType.boolean), Jvm.Cond.code ({ cls := "java/lang/String", name := "valueOf", desc := "(C)Ljava/lang/String;" } : Jvm.MethodName) jdk_42_method_139_code (1 : Nat) (Option.some (Jvm.ClassFile.FieldType.object "java/lang/String")), Jvm.Cond.code ({ cls := "java/lang/StringLatin1", name := "canEncode", desc := "(C)Z" } : Jvm.MethodName) jdk_43_method_3_code (1 : Nat) (Option.some Jvm.ClassFile.FieldType.boolean), Jvm.Cond.code ({ cls := "java/lang/StringLatin1", name := "toBytes", desc := "(C)[B" } : Jvm.MethodName) jdk_43_method_46_code (1 : Nat) (Option.some (Jvm.ClassFile.FieldType.array Jvm.ClassFile.FieldType.byte)), Jvm.Cond.code ({ cls := "java/lang/String", name := "<init>", desc := "([BB)V" } : Jvm.MethodName) jdk_42_method_151_code (3 : Nat) (Option.none : Option Jvm.ClassFile.FieldType)]
set_option maxRecDepth 65536 in
theorem codes_eq : words1.filter isCode = codes1 := rfl
theorem w_codes : ∀ c ∈ words1.filter isCode, c.before args0 about1 = true := by
  rw [codes_eq]
  intro c hc
  simp only [codes1, List.mem_cons, List.not_mem_nil, or_false] at hc
  rcases hc with rfl | rfl | rfl | rfl | rfl | rfl | rfl | rfl | rfl | rfl | rfl | rfl | rfl | rfl
  · exact w_c0
  · exact w_c1
  · exact w_c2
  · exact w_c3
  · exact w_c4
  · exact w_c5
  · exact w_c6
  · exact w_c7
  · exact w_c8
  · exact w_c9
  · exact w_c10
  · exact w_c11
  · exact w_c12
  · exact w_c13
set_option maxRecDepth 65536 in
theorem w_t1 : (words1.take 24).all (fun c => isCode c || c.before args0 about1) = true := by decide +kernel
set_option maxRecDepth 65536 in
theorem w_t2 : ((words1.drop 24).take 24).all (fun c => isCode c || c.before args0 about1) = true := by decide +kernel
set_option maxRecDepth 65536 in
theorem w_t3 : (((words1.drop 24).drop 24).take 24).all (fun c => isCode c || c.before args0 about1) = true := by decide +kernel
set_option maxRecDepth 65536 in
theorem w_t4 : (((words1.drop 24).drop 24).drop 24).all (fun c => isCode c || c.before args0 about1) = true := by decide +kernel
theorem w_tables : (allAtoms (Jvm.Cond.code x code maxLocals ret :: tables_1)).before args0 about1 = true := by
  rw [allAtoms_all]
  show words1.all (fun c => c.before args0 about1) = true
  refine all_split ?_ w_codes
  rw [← List.take_append_drop 24 words1, List.all_append, w_t1, ← List.take_append_drop 24 (words1.drop 24), List.all_append, w_t2, ← List.take_append_drop 24 ((words1.drop 24).drop 24), List.all_append, w_t3, w_t4]
  rfl
set_option maxRecDepth 65536 in
theorem w_rest : rest_1_c.before args0 about1 = true := by decide +kernel
set_option maxRecDepth 65536 in
theorem w_case : (Jvm.Cond.and given_1 narrow_1).before args0 about1 = true := by decide +kernel
theorem w_applies : (headSpec (Jvm.Cond.code x code maxLocals ret :: tables_1) room_1).applies x e0.platform about1 = true :=
  (Spec.applies_iff w_frames).mpr ⟨w_running, w_runnable, w_alone, w_named, w_hears, w_ripe, w_room, w_tables⟩
theorem atStart : AtStart classFile x code maxLocals ret World_1 tables_1 room_1 Calls_1 rest_1 Pre_1 launch0 p0 e0 about1 theMethod args0 below0 :=
  ⟨lists_1, trivial, launch0.admits_env _ _ _, launch0.least_env, fairChoices_fair.cas, fairChoices_fair.clock, w_frames, w_args, w_heap, w_applies, trivial, w_rest, w_case⟩
end start1
theorem witness_1 : WitnessClaimed_1 := ⟨start1.p0, start1.e0, start1.about1, start1.theMethod, start1.args0, start1.below0, start1.atStart⟩
end Jvm.Pilot.@@N@@
