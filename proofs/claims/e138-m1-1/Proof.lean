import JvmDerived
import JvmDerived.Pilot.@@N@@Statement
import JvmDerived.Pilot.@@N@@Code
set_option linter.unusedVariables false
set_option linter.unusedSimpArgs false
namespace Jvm.Pilot.@@N@@
open Jvm Jvm.ClassFile Sem Op Lib Jvm.Free Jvm.Stand Jvm.LawKit Jvm.RoadKit Bundle Jvm.Pilot.@@N@@.Jvm.D
/-! own kit: a walk that goes forward, step by step, and may fork anywhere (Go); a body's contract (Con); calls by contract; arrays by their list of values (Ary) -/
def Go (p : Program) (e : Env) (below : List Frame) (s : State) (k n : Nat) (Q : Option Value → Heap → List Loc → Prop) (S : State) : Prop :=
  ∃ (U : State) (o : Outcome), Steps p.tables e below S U ∧ U.status = .running ∧ Ended U below o ∧ ∃ v L, o = .returned v ∧ Q v U.heap L ∧ FrameEnd s o U L k n
section Own
variable {p : Program} {l : Launch} {e : Env} {R : Room} {s : State} {m : MethodId} {args : Array Value} {below : List Frame} {meth : Method} {c : Code} {T : State} {locs : List Loc} {cells slots : Nat} {Z : State} {a0 : Array Value} {h h' : Heap} {k n : Nat} {Q : Option Value → Heap → List Loc → Prop} {S S' : State}
theorem Go.st (f : ∀ t, Steps p.tables e below S' t → Steps p.tables e below S t) (g : Go p e below s k n Q S') : Go p e below s k n Q S := by
  obtain ⟨U, o, h1, r⟩ := g
  exact ⟨U, o, f _ h1, r⟩
theorem Go.cast {g g' : JFrame} (q : g = g') (k' : Go p e below s k n Q (T.setTop g')) : Go p e below s k n Q (T.setTop g) := q ▸ k'
theorem Go.ret (X : Stand p l e R s m args below meth c T locs cells slots) (hlk : meth.locks = false) {v : Option Value} (hv : meth.sig.returnType = none → v = none)
    (step : ∀ fs, (∀ (f : JFrame) (acts : List Action), f.method = m → f.locked = none → f.entered = [] → (doReturn e (T.setTop f) acts v).1 = T.setFrames fs) → Steps p.tables e below S (T.setFrames fs))
    (hk : cells ≤ k) (hn : slots ≤ n) (hQ : Q v T.heap locs) : Go p e below s k n Q S := by
  obtain ⟨fs, hr, hrun, hended, hW, hsame⟩ := X.leave (v := v) hv hlk
  exact ⟨_, _, step fs hr, hrun, hended, v, locs, rfl, hQ, ⟨_, rfl⟩, hW, hsame.mono hk hn⟩
theorem Go.retI (X : Stand p l e R s m args below meth c T locs cells slots) (hx : p.tables.exec = Jvm.exec) (hlk : meth.locks = false) (hret : meth.sig.returnType = some .int) {pc : Nat} {Ls : Array Slot} {z : Int32} {rest : List Value} (hd : decode c.code pc = .ok (.ireturn, 1))
    (hk : cells ≤ k) (hn : slots ≤ n) (hQ : Q (some (.int z)) T.heap locs) : Go p e below s k n Q (T.setTop (mkF m pc Ls (.int z :: rest))) :=
  Go.ret X hlk (fun q => by rw [hret] at q; cases q) (fun fs hr => retOut X hx hret rfl (Or.inl ⟨rfl, Or.inl rfl, z, rfl⟩) hd hr) hk hn hQ
theorem Go.retN (X : Stand p l e R s m args below meth c T locs cells slots) (hx : p.tables.exec = Jvm.exec) (hlk : meth.locks = false) {t : FieldType} (hret : meth.sig.returnType = some t) (ht : t = .boolean ∨ t = .byte ∨ t = .char ∨ t = .short) {pc : Nat} {Ls : Array Slot} {z : Int32} {rest : List Value} (hd : decode c.code pc = .ok (.ireturn, 1))
    (hk : cells ≤ k) (hn : slots ≤ n) (hQ : Q (some (.int (nar t z))) T.heap locs) : Go p e below s k n Q (T.setTop (mkF m pc Ls (.int z :: rest))) :=
  Go.ret X hlk (fun q => by rw [hret] at q; cases q) (fun fs hr => Jvm.RoadKit.retN X hx hret ht hd hr) hk hn hQ
theorem Go.retL (X : Stand p l e R s m args below meth c T locs cells slots) (hx : p.tables.exec = Jvm.exec) (hlk : meth.locks = false) (hret : meth.sig.returnType = some .long) {pc : Nat} {Ls : Array Slot} {z : Int64} {rest : List Value} (hd : decode c.code pc = .ok (.lreturn, 1))
    (hk : cells ≤ k) (hn : slots ≤ n) (hQ : Q (some (.long z)) T.heap locs) : Go p e below s k n Q (T.setTop (mkF m pc Ls (.long z :: rest))) :=
  Go.ret X hlk (fun q => by rw [hret] at q; cases q) (fun fs hr => retOut X hx hret rfl (Or.inr (Or.inl ⟨rfl, rfl, z, rfl⟩)) hd hr) hk hn hQ
theorem own_narR {t : FieldType} {w : Value} (h1 : t.isReference = true) (h2 : w.isRef = true) : narrow t w = w := by
  rcases ref_cases h2 with rfl | ⟨a, rfl⟩ <;> cases t <;> first | rfl | (simp [FieldType.isReference] at h1)
theorem Go.retA (X : Stand p l e R s m args below meth c T locs cells slots) (hx : p.tables.exec = Jvm.exec) (hlk : meth.locks = false) {t : FieldType} (hret : meth.sig.returnType = some t) (ht : t.isReference = true) {pc : Nat} {Ls : Array Slot} {w : Value} {rest : List Value} (hw : w.isRef = true) (hd : decode c.code pc = .ok (.areturn, 1))
    (hk : cells ≤ k) (hn : slots ≤ n) (hQ : Q (some w) T.heap locs) : Go p e below s k n Q (T.setTop (mkF m pc Ls (w :: rest))) :=
  Go.ret X hlk (fun q => by rw [hret] at q; cases q) (fun fs hr => retOut X hx hret (own_narR ht hw) (Or.inr (Or.inr (Or.inr (Or.inr ⟨rfl, ht, hw⟩)))) hd hr) hk hn hQ
theorem Go.retV (X : Stand p l e R s m args below meth c T locs cells slots) (hx : p.tables.exec = Jvm.exec) (hlk : meth.locks = false) (hret : meth.sig.returnType = none) {pc : Nat} {Ls : Array Slot} (hd : decode c.code pc = .ok (.return_, 1))
    (hk : cells ≤ k) (hn : slots ≤ n) (hQ : Q none T.heap locs) : Go p e below s k n Q (T.setTop (mkF m pc Ls [])) :=
  Go.ret X hlk (fun _ => rfl) (fun fs hr => X.returnOut hx hret hd hr) hk hn hQ
/-- what a body leaves, for every start that is warmer than Z's, its heap h0, its arguments as' -/
def Con (l : Launch) (Z : State) (y : MethodName) (bytes : ByteArray) (maxL : Nat) (ret : Option FieldType) (rm : Room) (as' : Array Value) (h0 : Heap) (Q : Option Value → Heap → List Loc → Prop) : Prop :=
  ∀ ws : List Jvm.Cond, MetFree l y (head1 (Jvm.Cond.code y bytes maxL ret :: ws) rm) (fun a U => a = as' ∧ Z.Warmed39 U.vm ∧ U.heap = h0) (fun _ _ _ _ _ => True) (fun _ U o U' => ∃ v L, o = .returned v ∧ Q v U'.heap L ∧ FrameEnd U o U' L rm.cells rm.slots)
theorem Con.of {y : MethodName} {bytes : ByteArray} {maxL : Nat} {ret : Option FieldType} {rm : Room} {as' : Array Value} {h0 : Heap} (hp : plainFor y = true)
    (body : ∀ (p : Program) (e : Env) (s : State) (m : MethodId) (below : List Frame) (meth : Method) (c : Code) (s₁ : State), Stand p l e rm s m as' below meth c s₁ [] 0 0 → p.tables.exec = Jvm.exec → c.code = bytes → c.maxLocals = maxL → Z.Warmed39 s.vm → s.vm.findClass y.cls = some m.cls → meth.name = y.name → meth.sig.returnType = ret → meth.locks = false → s₁.heap = h0 →
      Go p e below s rm.cells rm.slots Q (s₁.setTop (entryFrame m as' maxL))) : Con l Z y bytes maxL ret rm as' h0 Q := by
  intro ws
  refine MetFree.of_bodySF hp hisR ?_
  intro p e s m args below meth c s₁ Bd hml hP hK
  obtain ⟨rfl, hZ, hh⟩ := hP
  obtain ⟨U, o, h1, h2, h3, h4⟩ := body p e s m below meth c s₁ (Stand.of_body Bd) Bd.exec Bd.bytes hml hZ (findClass_of_methodNamed Bd.named) (name_of_methodNamed Bd.named Bd.method).1 Bd.returns Bd.notSynchronized (by rw [← hh, Bd.state]; rfl)
  exact ⟨U, o, h1, h2, h3, h4⟩
theorem Con.imp {y : MethodName} {bytes : ByteArray} {maxL : Nat} {ret : Option FieldType} {rm : Room} {as' : Array Value} {h0 : Heap} {Q' : Option Value → Heap → List Loc → Prop} (hC : Con l Z y bytes maxL ret rm as' h0 Q) (hq : ∀ v h L, Q v h L → Q' v h L) : Con l Z y bytes maxL ret rm as' h0 Q' := by
  intro ws p e ha hc hk s m args below hf happ hP hK
  obtain ⟨n, o, h1, h2, h3, v, L, h4, h5, h6⟩ := hC ws p e ha hc hk s m args below hf happ hP hK
  exact ⟨n, o, h1, h2, h3, v, L, h4, hq _ _ _ h5, h6⟩
theorem own_callS (X : Stand p l e R s m args below meth c T locs cells slots) (hx : p.tables.exec = Jvm.exec) (hZ : Z.Warmed39 s.vm) {own : String} {index : Nat} {y : MethodName} {bytes : ByteArray} {maxL : Nat} {ret : Option FieldType} {rm : Room}
    (hown : s.vm.findClass own = some m.cls) (w1 : (Jvm.Cond.methodLink own index y).before a0 Z = true) (w2 : (Jvm.Cond.static y).before a0 Z = true) (w3 : (Jvm.Cond.initialized y.cls).before a0 Z = true) (w4 : (Jvm.Cond.code y bytes maxL ret).before a0 Z = true)
    (hy : y.cls ≠ "java/lang/invoke/MethodHandle" ∧ y.cls ≠ "java/lang/invoke/VarHandle") (eT : T.heap = h) {argsL rest : List Value} (hC : Con l Z y bytes maxL ret rm argsL.toArray h Q)
    {g : JFrame} (hg : g.method = m) (hsize : g.locals.size = c.maxLocals) (hlen : ∀ sig, parseMethodDescriptor y.desc = some sig → argsL.length = sig.parameters.length) (hstack : g.stack = argsL.reverse ++ rest) (hd : decode c.code g.pc = .ok (.invokestatic index, 3))
    {W : Nat} (hW : 2 * g.monitorRoom + (rest.map fun v => v.category).sum ≤ W) (hf : rm.frames + 1 ≤ R.frames) (hl : W + (maxL + 11) + rm.locals ≤ R.locals) (hc : cells + rm.cells ≤ R.cells) (hs : slots + rm.slots ≤ R.slots) :
    ∃ v T' h' L, Stand p l e R s m args below meth c T' (locs ++ L) (cells + rm.cells) (slots + rm.slots) ∧ T'.heap = h' ∧ Q v h' L ∧ ∀ target, Steps p.tables e below (T'.setTop { g with pc := g.pc + 3, stack := v.toList ++ rest }) target → Steps p.tables e below (T.setTop g) target := by
  obtain ⟨v, _, ⟨T', L', k', n'⟩, -, X', ⟨Lc, hQ, l', y', z'⟩, st⟩ := Jvm.LawKit.callS X hx (y := y) hown (mvT hZ w1) (mvT hZ w2) (mvT hZ w3) (mvT hZ w4) hy (backOf (W := W) (hC []) hZ w4 w3 hf hl) hg hsize (argsL := argsL) (rest := rest) hlen hstack hW hd (fun _ _ => ⟨rfl, eT, hc, hs⟩)
  dsimp only [Pt.U, Pt.locs, Pt.cells, Pt.slots] at X' l' y' z' st hQ
  subst l' y' z'
  exact ⟨v, T', _, Lc, X', rfl, hQ, st⟩
theorem own_callN (X : Stand p l e R s m args below meth c T locs cells slots) (hx : p.tables.exec = Jvm.exec) (hZ : Z.Warmed39 s.vm) {own : String} {index : Nat} {y : MethodName} {bytes : ByteArray} {maxL : Nat} {rm : Room} (hy1 : y.name = "<init>")
    (hown : s.vm.findClass own = some m.cls) (w1 : (Jvm.Cond.methodLink own index y).before a0 Z = true) (w2 : (Jvm.Cond.instanceMethod y).before a0 Z = true) (w3 : (Jvm.Cond.initialized y.cls).before a0 Z = true) (w4 : (Jvm.Cond.code y bytes maxL none).before a0 Z = true)
    (hy : y.cls ≠ "java/lang/invoke/MethodHandle" ∧ y.cls ≠ "java/lang/invoke/VarHandle") (eT : T.heap = h) {a : Addr} {argsL rest : List Value} (hC : Con l Z y bytes maxL none rm (.ref a :: argsL).toArray h Q)
    {g : JFrame} (hg : g.method = m) (hsize : g.locals.size = c.maxLocals) (hlen : ∀ sig, parseMethodDescriptor y.desc = some sig → argsL.length = sig.parameters.length) (hstack : g.stack = argsL.reverse ++ .ref a :: rest) (hd : decode c.code g.pc = .ok (.invokespecial index, 3))
    {W : Nat} (hW : 2 * g.monitorRoom + (rest.map fun v => v.category).sum ≤ W) (hf : rm.frames + 1 ≤ R.frames) (hl : W + (maxL + 11) + rm.locals ≤ R.locals) (hc : cells + rm.cells ≤ R.cells) (hs : slots + rm.slots ≤ R.slots) :
    ∃ v T' h' L, Stand p l e R s m args below meth c T' (locs ++ L) (cells + rm.cells) (slots + rm.slots) ∧ T'.heap = h' ∧ Q v h' L ∧ ∀ target, Steps p.tables e below (T'.setTop { g with pc := g.pc + 3, stack := v.toList ++ rest }) target → Steps p.tables e below (T.setTop g) target := by
  obtain ⟨v, _, ⟨T', L', k', n'⟩, -, X', ⟨Lc, hQ, l', y', z'⟩, st⟩ := X.specialBack hx (y := y) hy1 hown (mvT hZ w1) (mvT hZ w2) (mvT hZ w4) hy (backOf (W := W) (hC []) hZ w4 w3 hf hl) hg hsize (Steps.refl _) (a := a) (argsL := argsL) (rest := rest) hlen hstack hW hd (fun _ _ => ⟨rfl, eT, hc, hs⟩)
  dsimp only [Pt.U, Pt.locs, Pt.cells, Pt.slots] at X' l' y' z' st hQ
  subst l' y' z'
  exact ⟨v, T', _, Lc, X', rfl, hQ, fun t ht => st.trans ht⟩
theorem own_callV (X : Stand p l e R s m args below meth c T locs cells slots) (hx : p.tables.exec = Jvm.exec) (hZ : Z.Warmed39 s.vm) {own C : String} {index : Nat} {y z : MethodName} {bytes : ByteArray} {maxL : Nat} {ret : Option FieldType} {rm : Room}
    (hown : s.vm.findClass own = some m.cls) (w1 : (Jvm.Cond.methodLink own index y).before a0 Z = true) (w2 : (Jvm.Cond.declares y).before a0 Z = true) (w5 : (Jvm.Cond.selects y.cls y y).before a0 Z = true) (w6 : (Jvm.Cond.selects C y z).before a0 Z = true) (w7 : (Jvm.Cond.instanceMethod z).before a0 Z = true) (w3 : (Jvm.Cond.initialized z.cls).before a0 Z = true) (w4 : (Jvm.Cond.code z bytes maxL ret).before a0 Z = true)
    (hy : y.cls ≠ "java/lang/invoke/MethodHandle" ∧ y.cls ≠ "java/lang/invoke/VarHandle") (eT : T.heap = h) {a : Addr} (E : Exa Z h a C) {argsL rest : List Value} (hC : Con l Z z bytes maxL ret rm (.ref a :: argsL).toArray h Q)
    {g : JFrame} (hg : g.method = m) (hsize : g.locals.size = c.maxLocals) (hlen : ∀ sig, parseMethodDescriptor y.desc = some sig → argsL.length = sig.parameters.length) (hstack : g.stack = argsL.reverse ++ .ref a :: rest) (hd : decode c.code g.pc = .ok (.invokevirtual index, 3))
    {W : Nat} (hW : 2 * g.monitorRoom + (rest.map fun v => v.category).sum ≤ W) (hf : rm.frames + 1 ≤ R.frames) (hl : W + (maxL + 11) + rm.locals ≤ R.locals) (hc : cells + rm.cells ≤ R.cells) (hs : slots + rm.slots ≤ R.slots) :
    ∃ v T' h' L, Stand p l e R s m args below meth c T' (locs ++ L) (cells + rm.cells) (slots + rm.slots) ∧ T'.heap = h' ∧ Q v h' L ∧ ∀ target, Steps p.tables e below (T'.setTop { g with pc := g.pc + 3, stack := v.toList ++ rest }) target → Steps p.tables e below (T.setTop g) target := by
  obtain ⟨cq, kq, qa, qb, qc⟩ := isOf hZ eT E
  obtain ⟨v, _, ⟨T', L', k', n'⟩, -, X', ⟨Lc, hQ, l', y', z'⟩, st⟩ := X.virtualBack hx (y := y) (z := z) hown (mvT hZ w1) (mvT hZ w2) (notFace_of_selects (args := #[]) (mvT hZ w5)) (mvT hZ w6) (mvT hZ w7) hy (backOf (W := W) (hC []) hZ w4 w3 hf hl) qa qc hg hsize (Steps.refl _) (argsL := argsL) (rest := rest) hlen hstack hW hd (fun _ _ => ⟨rfl, eT, hc, hs⟩)
  dsimp only [Pt.U, Pt.locs, Pt.cells, Pt.slots] at X' l' y' z' st hQ
  subst l' y' z'
  exact ⟨v, T', _, Lc, X', rfl, hQ, fun t ht => st.trans ht⟩
theorem own_ne {a b : Nat} (h : a < b ∨ b < a) : a ≠ b := by omega
theorem own_ltE {a : Nat} {C : String} (F : Exa Z h a C) : a < h.size := F.lt
theorem own_ltF {a : Nat} {C n d : String} {v : Value} (F : Fld Z h a C n d v) : a < h.size := F.lt
/-! arrays by their list of values -/
def Ary (Z : State) (h : Heap) (a : Addr) (ty : FieldType) (vs : List Value) : Prop := ∃ c : Cell, Arr Z h a c ty ∧ c.slots.toList = vs ∧ vs.length < 2 ^ 31
variable {a b : Addr} {ty : FieldType} {vs : List Value} {sl : Nat} {v w : Value} {ws : List Addr} {j : Int32}
theorem Ary.lt (F : Ary Z h a ty vs) : a < h.size := by obtain ⟨c, A, -⟩ := F; exact A.lt
theorem own_ltA {a : Nat} (F : Ary Z h a ty vs) : a < h.size := F.lt
theorem Ary.ext (F : Ary Z h a ty vs) (E : Ext h h') : Ary Z h' a ty vs := by obtain ⟨c, A, r⟩ := F; exact ⟨c, A.ext E, r⟩
theorem Ary.other (F : Ary Z h b ty vs) (W : Wr h h' a sl v) (q : b ≠ a) : Ary Z h' b ty vs := by obtain ⟨c, A, r⟩ := F; exact ⟨c, A.other W q, r⟩
theorem Ary.keep (F : Ary Z h a ty vs) (K : Keep h h' ws) (q : a ∉ ws) : Ary Z h' a ty vs := by obtain ⟨c, A, r⟩ := F; exact ⟨c, ⟨K.2.1 a c A.1 q, A.2⟩, r⟩
theorem Ary.set (F : Ary Z h a ty vs) (W : Wr h h' a sl v) : Ary Z h' a ty (vs.set sl v) := by
  obtain ⟨c, A, r, hl⟩ := F
  refine ⟨_, A.same W, ?_, by simpa using hl⟩
  subst r
  simp [Cell.setSlot]
theorem own_in {j : Int32} (h0 : 0 ≤ j.toInt) : j.toInt = (j.toNatClampNeg : Int) := nat_of (fun q => by rw [Int32.lt_iff_toInt_lt] at q; have : (0 : Int32).toInt = 0 := rfl; omega)
theorem own_inb {c : Cell} (r : c.slots.toList = vs) (h0 : 0 ≤ j.toInt) (h1 : j.toInt < vs.length) : ¬ (j < 0 ∨ c.slots.size ≤ j.toNatClampNeg) := by
  have e := own_in h0
  have e2 : c.slots.size = vs.length := by rw [← r]; simp
  have z : (0 : Int32).toInt = 0 := rfl
  rintro (q | q)
  · rw [Int32.lt_iff_toInt_lt] at q; omega
  · omega
theorem Ary.new {cA : ClassId} {z : Int32} (A : Arr Z h a (newA cA ty z) ty) (q : z.toNatClampNeg < 2 ^ 31) : Ary Z h a ty (List.replicate z.toNatClampNeg (defaultValue ty)) := ⟨_, A, by simp [newA], by simpa using q⟩
theorem own_newP (X : Stand p l e R s m args below meth c T locs cells slots) (hx : p.tables.exec = Jvm.exec) (hZ : Z.Warmed39 s.vm) {aty : ArrayType} {ty : FieldType} (hty : newarray.typeOf aty = ty) (w : (Jvm.Cond.arrayClass ty).before a0 Z = true) (eT : T.heap = h) {g : JFrame} (hg : g.method = m) (hd : decode c.code g.pc = .ok (.newarray aty, 2)) {n : Int32} {rest : List Value} (hs : g.stack = .int n :: rest)
    (hn : 0 ≤ n.toInt) {cap : Nat} (hcap : n.toInt ≤ cap) (hb : cap * 8 ≤ 536870912) (hc : cells + 1 ≤ R.cells) (hl : slots + cap ≤ R.slots) :
    ∃ T' h', Stand p l e R s m args below meth c T' locs (cells + 1) (slots + cap) ∧ T'.heap = h' ∧ Ext h h' ∧ Ary Z h' h.size ty (List.replicate n.toNatClampNeg (defaultValue ty)) ∧
      ∀ target, Steps p.tables e below (T'.setTop { g with pc := g.pc + 2, stack := .ref h.size :: rest }) target → Steps p.tables e below (T.setTop g) target := by
  subst hty
  have e1 := own_in hn
  have z : (0 : Int32).toInt = 0 := rfl
  obtain ⟨T', h', cA, X', e', E', A', st⟩ := newP X hx hZ w eT hg hd hs (fun q => by rw [Int32.lt_iff_toInt_lt] at q; omega) (cap := cap) (by omega) hb hc hl
  exact ⟨T', h', X', e', E', Ary.new A' (by omega), st⟩
theorem own_len (X : Stand p l e R s m args below meth c T locs cells slots) (hx : p.tables.exec = Jvm.exec) (hZ : Z.Warmed39 s.vm) (eT : T.heap = h) (F : Ary Z h a ty vs) {g : JFrame} (hg : g.method = m) {rest : List Value} (hs : g.stack = .ref a :: rest) (hd : decode c.code g.pc = .ok (.arraylength, 1)) :
    ∀ target, Steps p.tables e below (T.setTop { g with pc := g.pc + 1, stack := .int vs.length.toInt32 :: rest }) target → Steps p.tables e below (T.setTop g) target := by
  obtain ⟨c, A, r, hl⟩ := F
  intro t ht
  have e2 : c.slots.size = vs.length := by rw [← r]; simp
  exact X.arraylength hx (by rw [eT]; exact A.1) (State.isArrayOf_alike hZ.alike A.2.1) hg hs hd t (by rw [e2]; exact ht)
theorem own_at {c : Cell} (r : c.slots.toList = vs) (hv : vs[j.toNatClampNeg]? = some v) : c.slots[j.toNatClampNeg]? = some v := by
  subst r; simpa using hv
theorem own_ldI (X : Stand p l e R s m args below meth c T locs cells slots) (hx : p.tables.exec = Jvm.exec) (hZ : Z.Warmed39 s.vm) (eT : T.heap = h) (F : Ary Z h a .int vs) (h0 : 0 ≤ j.toInt) (h1 : j.toInt < vs.length) (hv : vs[j.toNatClampNeg]? = some v) {g : JFrame} (hg : g.method = m) {rest : List Value} (hs : g.stack = .int j :: .ref a :: rest) (hd : decode c.code g.pc = .ok (.iaload, 1)) :
    ∀ target, Steps p.tables e below (T.setTop { g with pc := g.pc + 1, stack := v :: rest }) target → Steps p.tables e below (T.setTop g) target := by
  obtain ⟨c, A, r, hl⟩ := F
  exact X.iaload hx (by rw [eT]; exact A.1) (State.isArrayOf_alike hZ.alike A.2.1) A.2.2 (own_inb r h0 h1) (own_at r hv) hg hs hd
theorem own_ldJ (X : Stand p l e R s m args below meth c T locs cells slots) (hx : p.tables.exec = Jvm.exec) (hZ : Z.Warmed39 s.vm) (eT : T.heap = h) (F : Ary Z h a .long vs) (h0 : 0 ≤ j.toInt) (h1 : j.toInt < vs.length) (hv : vs[j.toNatClampNeg]? = some v) {g : JFrame} (hg : g.method = m) {rest : List Value} (hs : g.stack = .int j :: .ref a :: rest) (hd : decode c.code g.pc = .ok (.laload, 1)) :
    ∀ target, Steps p.tables e below (T.setTop { g with pc := g.pc + 1, stack := v :: rest }) target → Steps p.tables e below (T.setTop g) target := by
  obtain ⟨c, A, r, hl⟩ := F
  exact X.laload hx (by rw [eT]; exact A.1) (State.isArrayOf_alike hZ.alike A.2.1) A.2.2 (own_inb r h0 h1) (own_at r hv) hg hs hd
theorem own_ldC (X : Stand p l e R s m args below meth c T locs cells slots) (hx : p.tables.exec = Jvm.exec) (hZ : Z.Warmed39 s.vm) (eT : T.heap = h) (F : Ary Z h a .char vs) (h0 : 0 ≤ j.toInt) (h1 : j.toInt < vs.length) (hv : vs[j.toNatClampNeg]? = some v) {g : JFrame} (hg : g.method = m) {rest : List Value} (hs : g.stack = .int j :: .ref a :: rest) (hd : decode c.code g.pc = .ok (.caload, 1)) :
    ∀ target, Steps p.tables e below (T.setTop { g with pc := g.pc + 1, stack := v :: rest }) target → Steps p.tables e below (T.setTop g) target := by
  obtain ⟨c, A, r, hl⟩ := F
  exact X.caload hx (by rw [eT]; exact A.1) (State.isArrayOf_alike hZ.alike A.2.1) A.2.2 (own_inb r h0 h1) (own_at r hv) hg hs hd
theorem own_ldB (X : Stand p l e R s m args below meth c T locs cells slots) (hx : p.tables.exec = Jvm.exec) (hZ : Z.Warmed39 s.vm) (eT : T.heap = h) (F : Ary Z h a .byte vs) (h0 : 0 ≤ j.toInt) (h1 : j.toInt < vs.length) (hv : vs[j.toNatClampNeg]? = some v) {g : JFrame} (hg : g.method = m) {rest : List Value} (hs : g.stack = .int j :: .ref a :: rest) (hd : decode c.code g.pc = .ok (.baload, 1)) :
    ∀ target, Steps p.tables e below (T.setTop { g with pc := g.pc + 1, stack := v :: rest }) target → Steps p.tables e below (T.setTop g) target := by
  obtain ⟨c, A, r, hl⟩ := F
  exact X.baloadBytes hx (by rw [eT]; exact A.1) (State.isArrayOf_alike hZ.alike A.2.1) A.2.2 (own_inb r h0 h1) (own_at r hv) hg hs hd
theorem own_ldR (X : Stand p l e R s m args below meth c T locs cells slots) (hx : p.tables.exec = Jvm.exec) (hZ : Z.Warmed39 s.vm) (eT : T.heap = h) (F : Ary Z h a ty vs) (hr : ty.isReference = true) (h0 : 0 ≤ j.toInt) (h1 : j.toInt < vs.length) (hv : vs[j.toNatClampNeg]? = some v) {g : JFrame} (hg : g.method = m) {rest : List Value} (hs : g.stack = .int j :: .ref a :: rest) (hd : decode c.code g.pc = .ok (.aaload, 1)) :
    ∀ target, Steps p.tables e below (T.setTop { g with pc := g.pc + 1, stack := v :: rest }) target → Steps p.tables e below (T.setTop g) target := by
  obtain ⟨c, A, r, hl⟩ := F
  exact X.aaload hx (by rw [eT]; exact A.1) (State.isArrayOf_alike hZ.alike A.2.1) hr A.2.2 (own_inb r h0 h1) (own_at r hv) hg hs hd
theorem own_stI (X : Stand p l e R s m args below meth c T locs cells slots) (hx : p.tables.exec = Jvm.exec) (hZ : Z.Warmed39 s.vm) (eT : T.heap = h) (F : Ary Z h a .int vs) {x : Int32} (h0 : 0 ≤ j.toInt) (h1 : j.toInt < vs.length) {g : JFrame} (hg : g.method = m) {rest : List Value} (hs : g.stack = .int x :: .int j :: .ref a :: rest) (hd : decode c.code g.pc = .ok (.iastore, 1)) :
    ∃ T' h', Stand p l e R s m args below meth c T' (locs ++ [⟨a, j.toNatClampNeg⟩]) cells slots ∧ T'.heap = h' ∧ Wr h h' a j.toNatClampNeg (.int x) ∧ Ary Z h' a .int (vs.set j.toNatClampNeg (.int x)) ∧ ∀ target, Steps p.tables e below (T'.setTop { g with pc := g.pc + 1, stack := rest }) target → Steps p.tables e below (T.setTop g) target := by
  have F' := F
  obtain ⟨c, A, r, hl⟩ := F
  obtain ⟨T', h', X', e', W', st⟩ := stI X hx hZ eT A (own_inb r h0 h1) hg hs hd
  exact ⟨T', h', X', e', W', F'.set W', st⟩
theorem own_stJ (X : Stand p l e R s m args below meth c T locs cells slots) (hx : p.tables.exec = Jvm.exec) (hZ : Z.Warmed39 s.vm) (eT : T.heap = h) (F : Ary Z h a .long vs) {x : Int64} (h0 : 0 ≤ j.toInt) (h1 : j.toInt < vs.length) {g : JFrame} (hg : g.method = m) {rest : List Value} (hs : g.stack = .long x :: .int j :: .ref a :: rest) (hd : decode c.code g.pc = .ok (.lastore, 1)) :
    ∃ T' h', Stand p l e R s m args below meth c T' (locs ++ [⟨a, j.toNatClampNeg⟩]) cells slots ∧ T'.heap = h' ∧ Wr h h' a j.toNatClampNeg (.long x) ∧ Ary Z h' a .long (vs.set j.toNatClampNeg (.long x)) ∧ ∀ target, Steps p.tables e below (T'.setTop { g with pc := g.pc + 1, stack := rest }) target → Steps p.tables e below (T.setTop g) target := by
  have F' := F
  obtain ⟨c, A, r, hl⟩ := F
  obtain ⟨T', h', X', e', W', st⟩ := stJ X hx hZ eT A (own_inb r h0 h1) hg hs hd
  exact ⟨T', h', X', e', W', F'.set W', st⟩
theorem own_stC (X : Stand p l e R s m args below meth c T locs cells slots) (hx : p.tables.exec = Jvm.exec) (hZ : Z.Warmed39 s.vm) (eT : T.heap = h) (F : Ary Z h a .char vs) {x : Int32} (h0 : 0 ≤ j.toInt) (h1 : j.toInt < vs.length) {g : JFrame} (hg : g.method = m) {rest : List Value} (hs : g.stack = .int x :: .int j :: .ref a :: rest) (hd : decode c.code g.pc = .ok (.castore, 1)) :
    ∃ T' h', Stand p l e R s m args below meth c T' (locs ++ [⟨a, j.toNatClampNeg⟩]) cells slots ∧ T'.heap = h' ∧ Wr h h' a j.toNatClampNeg (.int (nar .char x)) ∧ Ary Z h' a .char (vs.set j.toNatClampNeg (.int (nar .char x))) ∧ ∀ target, Steps p.tables e below (T'.setTop { g with pc := g.pc + 1, stack := rest }) target → Steps p.tables e below (T.setTop g) target := by
  have F' := F
  obtain ⟨c, A, r, hl⟩ := F
  obtain ⟨T', h', X', e', W', st⟩ := stC X hx hZ eT A (own_inb r h0 h1) hg hs hd
  exact ⟨T', h', X', e', W', F'.set W', st⟩
theorem own_stB (X : Stand p l e R s m args below meth c T locs cells slots) (hx : p.tables.exec = Jvm.exec) (hZ : Z.Warmed39 s.vm) (eT : T.heap = h) (F : Ary Z h a .byte vs) {x : Int32} (h0 : 0 ≤ j.toInt) (h1 : j.toInt < vs.length) {g : JFrame} (hg : g.method = m) {rest : List Value} (hs : g.stack = .int x :: .int j :: .ref a :: rest) (hd : decode c.code g.pc = .ok (.bastore, 1)) :
    ∃ T' h', Stand p l e R s m args below meth c T' (locs ++ [⟨a, j.toNatClampNeg⟩]) cells slots ∧ T'.heap = h' ∧ Wr h h' a j.toNatClampNeg (.int (nar .byte x)) ∧ Ary Z h' a .byte (vs.set j.toNatClampNeg (.int (nar .byte x))) ∧ ∀ target, Steps p.tables e below (T'.setTop { g with pc := g.pc + 1, stack := rest }) target → Steps p.tables e below (T.setTop g) target := by
  have F' := F
  obtain ⟨c, A, r, hl⟩ := F
  obtain ⟨T', h', X', e', W', st⟩ := stB X hx hZ eT A (own_inb r h0 h1) hg hs hd
  exact ⟨T', h', X', e', W', F'.set W', st⟩
theorem own_stR (X : Stand p l e R s m args below meth c T locs cells slots) (hx : p.tables.exec = Jvm.exec) (hZ : Z.Warmed39 s.vm) (eT : T.heap = h) (F : Ary Z h a ty vs) (hr : ty.isReference = true) (G : Sto Z h a v) (h0 : 0 ≤ j.toInt) (h1 : j.toInt < vs.length) {g : JFrame} (hg : g.method = m) {rest : List Value} (hs : g.stack = v :: .int j :: .ref a :: rest) (hd : decode c.code g.pc = .ok (.aastore, 1)) :
    ∃ T' h', Stand p l e R s m args below meth c T' (locs ++ [⟨a, j.toNatClampNeg⟩]) cells slots ∧ T'.heap = h' ∧ Wr h h' a j.toNatClampNeg v ∧ Ary Z h' a ty (vs.set j.toNatClampNeg v) ∧ ∀ target, Steps p.tables e below (T'.setTop { g with pc := g.pc + 1, stack := rest }) target → Steps p.tables e below (T.setTop g) target := by
  have F' := F
  obtain ⟨c, A, r, hl⟩ := F
  obtain ⟨T', h', X', e', W', st⟩ := stR X hx hZ eT A (own_inb r h0 h1) hr G hg hs hd
  exact ⟨T', h', X', e', W', F'.set W', st⟩
def Ovy (Z : State) (h : Heap) (a : Addr) (C : String) : Prop := ∃ c : Cell, h[a]? = some c ∧ Ovr Z c.cls C
theorem Ovy.ext {C : String} (F : Ovy Z h a C) (E : Ext h h') : Ovy Z h' a C := by obtain ⟨c, q, r⟩ := F; exact ⟨c, E.2 _ _ q, r⟩
theorem Ovy.keep {C : String} (F : Ovy Z h a C) (K : Keep h h' ws) : Ovy Z h' a C := by
  obtain ⟨c, q, r⟩ := F
  obtain ⟨c', q', r', -⟩ := K.2.2 _ _ q
  exact ⟨c', q', by rw [r']; exact r⟩
theorem Ovy.wr {C : String} (F : Ovy Z h a C) (W : Wr h h' b sl v) : Ovy Z h' a C := F.keep (Keep.of_wr W)
theorem own_sto {C : String} {y : Addr} (F : Ary Z h a ty vs) (O : Ovy Z h a C) (I : Ins Z h y C true) : Sto Z h a (.ref y) := by
  obtain ⟨c, A, -⟩ := F
  obtain ⟨c', q, r⟩ := O
  cases A.1.symm.trans q
  exact Sto.of A r I
theorem own_newR (X : Stand p l e R s m args below meth c T locs cells slots) (hx : p.tables.exec = Jvm.exec) (hZ : Z.Warmed39 s.vm) {own C : String} {index : Nat} (hown : s.vm.findClass own = some m.cls) (w1 : (Jvm.Cond.classLink own index C).before a0 Z = true) (w2 : (Jvm.Cond.arrayOver (.object C)).before a0 Z = true) (eT : T.heap = h) {g : JFrame} (hg : g.method = m) (hd : decode c.code g.pc = .ok (.anewarray index, 3)) {n : Int32} {rest : List Value} (hs : g.stack = .int n :: rest)
    (hn : 0 ≤ n.toInt) {cap : Nat} (hcap : n.toInt ≤ cap) (hb : cap * 8 ≤ 536870912) (hc : cells + 1 ≤ R.cells) (hl : slots + cap ≤ R.slots) :
    ∃ T' h', Stand p l e R s m args below meth c T' locs (cells + 1) (slots + cap) ∧ T'.heap = h' ∧ Ext h h' ∧ Ary Z h' h.size (.object C) (List.replicate n.toNatClampNeg .null) ∧ Ovy Z h' h.size C ∧
      ∀ target, Steps p.tables e below (T'.setTop { g with pc := g.pc + 3, stack := .ref h.size :: rest }) target → Steps p.tables e below (T.setTop g) target := by
  have e1 := own_in hn
  have z : (0 : Int32).toInt = 0 := rfl
  obtain ⟨T', h', cA, X', e', E', A', O', st⟩ := newR X hx hZ hown w1 w2 eT hg hd hs (fun q => by rw [Int32.lt_iff_toInt_lt] at q; omega) (cap := cap) (by omega) hb hc hl
  exact ⟨T', h', X', e', E', Ary.new A' (by omega), ⟨_, A'.1, O'⟩, st⟩
theorem own_ldc (X : Stand p l e R s m args below meth c T locs cells slots) (hx : p.tables.exec = Jvm.exec) (hZ : Z.Warmed39 s.vm) {own : String} {index : Nat} {x : Int32} (hown : s.vm.findClass own = some m.cls) (w : (Jvm.Cond.constant own index x).before a0 Z = true) {g : JFrame} (hg : g.method = m) (hd : decode c.code g.pc = .ok (.ldc index, 2)) :
    ∀ target, Steps p.tables e below (T.setTop { g with pc := g.pc + 2, stack := .int x :: g.stack }) target → Steps p.tables e below (T.setTop g) target := fun t ht => X.ldcI hx hown (mvT hZ w) hg hd ht
end Own

/-! the plain law -/
def own_ids (c : Int32) : Int32 := if c < 97 then (if c < 65 then (if c = 95 then 1 else 0) else if 90 < c then (if c = 95 then 1 else 0) else 1) else if 122 < c then (if c < 65 then (if c = 95 then 1 else 0) else if 90 < c then (if c = 95 then 1 else 0) else 1) else 1
theorem own_or32 (n : Nat) : n ||| 32 = if n % 64 < 32 then n + 32 else n := by
  have h1 : n = 2 ^ 6 * (n / 64) ||| n % 64 := by
    rw [← Nat.two_pow_add_eq_or_of_lt (by omega)]; omega
  have h2 : n ||| 32 = 2 ^ 6 * (n / 64) + (n % 64 ||| 32) := by
    rw [Nat.two_pow_add_eq_or_of_lt (Nat.or_lt_two_pow (by omega) (by decide)), ← Nat.or_assoc, ← h1]
  have h3 : ∀ b : Fin 64, (b.1 ||| 32) = if b.1 < 32 then b.1 + 32 else b.1 := by decide
  have h4 := h3 ⟨n % 64, Nat.mod_lt _ (by decide)⟩
  simp only at h4
  rw [h2, h4]
  split <;> omega
theorem own_nat (c : Int32) (h : 0 ≤ c.toInt) : c.toInt = (c.toBitVec.toNat : Int) := by
  have e : c.toInt = c.toBitVec.toInt := rfl
  rw [e] at h ⊢
  rw [BitVec.toInt_eq_toNat_cond] at h ⊢
  have := c.toBitVec.isLt
  split at h <;> split <;> omega
theorem own_fold (c : Int32) (h0 : 0 ≤ c.toInt) (h1 : c.toInt < 65536) : (c ||| 32).toInt = if c.toInt % 64 < 32 then c.toInt + 32 else c.toInt := by
  have e := own_nat c h0
  have z : (32 : Int32).toInt = 32 := by decide
  have e2 := own_nat (c ||| 32) (by have := c_or0 c 32 h0 (by omega); omega)
  have e3 : (c ||| 32).toBitVec.toNat = c.toBitVec.toNat ||| 32 := by rw [Int32.toBitVec_or, BitVec.toNat_or]; rfl
  rw [e2, e3, own_or32, e]
  split <;> split <;> omega
theorem own_law (c : Int32) (h0 : 0 ≤ c.toInt) (h1 : c.toInt < 65536) : own_ids c = if (¬ (c ||| 32) < 97 ∧ ¬ 122 < (c ||| 32)) ∨ c = 95 then 1 else 0 := by
  have r1 := own_fold c h0 h1
  have q97 : (97 : Int32).toInt = 97 := by decide
  have q65 : (65 : Int32).toInt = 65 := by decide
  have q90 : (90 : Int32).toInt = 90 := by decide
  have q122 : (122 : Int32).toInt = 122 := by decide
  have q95 : (95 : Int32).toInt = 95 := by decide
  unfold own_ids
  simp only [Int32.lt_iff_toInt_lt, ← Int32.toInt_inj]
  split at r1 <;> repeat' split
  all_goals first | rfl | omega

theorem ef_rmI (m : MethodId) (p1 : Int32) : entryFrame m #[(.int p1)] 1 = mkF m 0 #[.val (.int p1)] [] := by first | (simp [entryFrame, mkF, argsToLocals, Value.category]; done) | rfl
theorem pf_0 : plainFor (⟨"com/example/typeloom/typeloom/idl/Lexer", "isIdentifierStart", "(C)Z"⟩ : MethodName) = true := plainFor_of_name (by first | (simp [plainName, overriddenIn]; done) | decide +kernel)
theorem d1_0 : decode prog_10_method_20_code 0 = .ok (.iload_n 0, 1) := by decide +kernel
theorem d1_1 : decode prog_10_method_20_code 1 = .ok (.bipush 97, 2) := by decide +kernel
theorem d1_3 : decode prog_10_method_20_code 3 = .ok (.if_icmp .lt 9, 3) := by decide +kernel
theorem d1_6 : decode prog_10_method_20_code 6 = .ok (.iload_n 0, 1) := by decide +kernel
theorem d1_7 : decode prog_10_method_20_code 7 = .ok (.bipush 122, 2) := by decide +kernel
theorem d1_9 : decode prog_10_method_20_code 9 = .ok (.if_icmp .le 21, 3) := by decide +kernel
theorem d1_12 : decode prog_10_method_20_code 12 = .ok (.iload_n 0, 1) := by decide +kernel
theorem d1_13 : decode prog_10_method_20_code 13 = .ok (.bipush 65, 2) := by decide +kernel
theorem d1_15 : decode prog_10_method_20_code 15 = .ok (.if_icmp .lt 9, 3) := by decide +kernel
theorem d1_18 : decode prog_10_method_20_code 18 = .ok (.iload_n 0, 1) := by decide +kernel
theorem d1_19 : decode prog_10_method_20_code 19 = .ok (.bipush 90, 2) := by decide +kernel
theorem d1_21 : decode prog_10_method_20_code 21 = .ok (.if_icmp .le 9, 3) := by decide +kernel
theorem d1_24 : decode prog_10_method_20_code 24 = .ok (.iload_n 0, 1) := by decide +kernel
theorem d1_25 : decode prog_10_method_20_code 25 = .ok (.bipush 95, 2) := by decide +kernel
theorem d1_27 : decode prog_10_method_20_code 27 = .ok (.if_icmp .ne 7, 3) := by decide +kernel
theorem d1_30 : decode prog_10_method_20_code 30 = .ok (.iconst 1, 1) := by decide +kernel
theorem d1_31 : decode prog_10_method_20_code 31 = .ok (.goto 4, 3) := by decide +kernel
theorem d1_34 : decode prog_10_method_20_code 34 = .ok (.iconst 0, 1) := by decide +kernel
theorem d1_35 : decode prog_10_method_20_code 35 = .ok (.ireturn, 1) := by decide +kernel
set_option maxRecDepth 65536 in
set_option maxHeartbeats 4000000 in
theorem rmI (l : Launch) (Z : State) (a0 : Array Value) (hw : ∀ d ∈ tables_1, d.before a0 Z = true) (p1 : Int32) (h0 : Heap) (n0 : Nat) (Z0 : n0 ≤ h0.size)  :
    Con l Z (⟨"com/example/typeloom/typeloom/idl/Lexer", "isIdentifierStart", "(C)Z"⟩ : MethodName) prog_10_method_20_code 1 (some .boolean) ({ frames := 0, cells := 0, slots := 0, locals := 0 } : Room) #[(.int p1)] h0 (fun v h L => v = some (.int (own_ids p1)) ∧ Fr n0 L ∧ h = h0) := by
  refine Con.of pf_0 ?_
  intro p e s m below meth c T0 X0 hx hby hml hZ hown hnm hret hlk e0
  have hown : s.vm.findClass "com/example/typeloom/typeloom/idl/Lexer" = some m.cls := hown
  have hnm : meth.name = "isIdentifierStart" := hnm
  have N0 := Fr.nil n0
  refine Go.cast (ef_rmI m p1) ?_
  refine Go.st (S' := T0.setTop (mkF m 1 #[.val (.int p1)] [(.int p1)])) (fun t hr => XS.iloadN X0.here hx rfl (hb hby d1_0) rfl hr) ?_
  refine Go.st (S' := T0.setTop (mkF m 3 #[.val (.int p1)] [(.int (97 : Int32)), (.int p1)])) (fun t hr => XS.bipush X0.here hx rfl (hb hby d1_1) hr) ?_
  by_cases hc1 : p1 < (97 : Int32)
  · refine Go.st (S' := T0.setTop (mkF m 12 #[.val (.int p1)] [])) (fun t hr => XS.icmpYes X0.here hx rfl (pc0 := 3) (pc' := 12) rfl (hb hby d1_3) rfl (XT.ii_lt_t hc1) (by decide) (by decide) hr) ?_
    refine Go.st (S' := T0.setTop (mkF m 13 #[.val (.int p1)] [(.int p1)])) (fun t hr => XS.iloadN X0.here hx rfl (hb hby d1_12) rfl hr) ?_
    refine Go.st (S' := T0.setTop (mkF m 15 #[.val (.int p1)] [(.int (65 : Int32)), (.int p1)])) (fun t hr => XS.bipush X0.here hx rfl (hb hby d1_13) hr) ?_
    by_cases hc2 : p1 < (65 : Int32)
    · refine Go.st (S' := T0.setTop (mkF m 24 #[.val (.int p1)] [])) (fun t hr => XS.icmpYes X0.here hx rfl (pc0 := 15) (pc' := 24) rfl (hb hby d1_15) rfl (XT.ii_lt_t hc2) (by decide) (by decide) hr) ?_
      refine Go.st (S' := T0.setTop (mkF m 25 #[.val (.int p1)] [(.int p1)])) (fun t hr => XS.iloadN X0.here hx rfl (hb hby d1_24) rfl hr) ?_
      refine Go.st (S' := T0.setTop (mkF m 27 #[.val (.int p1)] [(.int (95 : Int32)), (.int p1)])) (fun t hr => XS.bipush X0.here hx rfl (hb hby d1_25) hr) ?_
      by_cases hc3 : p1 = (95 : Int32)
      · refine Go.st (S' := T0.setTop (mkF m 30 #[.val (.int p1)] [])) (fun t hr => XS.icmpNo X0.here hx rfl (hb hby d1_27) rfl (XT.ii_ne_f hc3) hr) ?_
        refine Go.st (S' := T0.setTop (mkF m 31 #[.val (.int p1)] [(.int (1 : Int32))])) (fun t hr => XS.iconst X0.here hx rfl (hb hby d1_30) hr) ?_
        refine Go.st (S' := T0.setTop (mkF m 35 #[.val (.int p1)] [(.int (1 : Int32))])) (fun t hr => XS.goto X0.here hx rfl (pc0 := 31) (pc' := 35) rfl (hb hby d1_31) (by decide) (by decide) hr) ?_
        refine Go.retN X0 hx hlk (t := .boolean) hret (by simp) (hb hby d1_35) (by decide) (by decide) ?_
        try rw [e0]
        refine ⟨?_, N0, rfl⟩
        simp [own_ids, nar, *]
      · refine Go.st (S' := T0.setTop (mkF m 34 #[.val (.int p1)] [])) (fun t hr => XS.icmpYes X0.here hx rfl (pc0 := 27) (pc' := 34) rfl (hb hby d1_27) rfl (XT.ii_ne_t hc3) (by decide) (by decide) hr) ?_
        refine Go.st (S' := T0.setTop (mkF m 35 #[.val (.int p1)] [(.int (0 : Int32))])) (fun t hr => XS.iconst X0.here hx rfl (hb hby d1_34) hr) ?_
        refine Go.retN X0 hx hlk (t := .boolean) hret (by simp) (hb hby d1_35) (by decide) (by decide) ?_
        try rw [e0]
        refine ⟨?_, N0, rfl⟩
        simp [own_ids, nar, *]
    · refine Go.st (S' := T0.setTop (mkF m 18 #[.val (.int p1)] [])) (fun t hr => XS.icmpNo X0.here hx rfl (hb hby d1_15) rfl (XT.ii_lt_f hc2) hr) ?_
      refine Go.st (S' := T0.setTop (mkF m 19 #[.val (.int p1)] [(.int p1)])) (fun t hr => XS.iloadN X0.here hx rfl (hb hby d1_18) rfl hr) ?_
      refine Go.st (S' := T0.setTop (mkF m 21 #[.val (.int p1)] [(.int (90 : Int32)), (.int p1)])) (fun t hr => XS.bipush X0.here hx rfl (hb hby d1_19) hr) ?_
      by_cases hc4 : (90 : Int32) < p1
      · refine Go.st (S' := T0.setTop (mkF m 24 #[.val (.int p1)] [])) (fun t hr => XS.icmpNo X0.here hx rfl (hb hby d1_21) rfl (XT.ii_le_f hc4) hr) ?_
        refine Go.st (S' := T0.setTop (mkF m 25 #[.val (.int p1)] [(.int p1)])) (fun t hr => XS.iloadN X0.here hx rfl (hb hby d1_24) rfl hr) ?_
        refine Go.st (S' := T0.setTop (mkF m 27 #[.val (.int p1)] [(.int (95 : Int32)), (.int p1)])) (fun t hr => XS.bipush X0.here hx rfl (hb hby d1_25) hr) ?_
        by_cases hc5 : p1 = (95 : Int32)
        · refine Go.st (S' := T0.setTop (mkF m 30 #[.val (.int p1)] [])) (fun t hr => XS.icmpNo X0.here hx rfl (hb hby d1_27) rfl (XT.ii_ne_f hc5) hr) ?_
          refine Go.st (S' := T0.setTop (mkF m 31 #[.val (.int p1)] [(.int (1 : Int32))])) (fun t hr => XS.iconst X0.here hx rfl (hb hby d1_30) hr) ?_
          refine Go.st (S' := T0.setTop (mkF m 35 #[.val (.int p1)] [(.int (1 : Int32))])) (fun t hr => XS.goto X0.here hx rfl (pc0 := 31) (pc' := 35) rfl (hb hby d1_31) (by decide) (by decide) hr) ?_
          refine Go.retN X0 hx hlk (t := .boolean) hret (by simp) (hb hby d1_35) (by decide) (by decide) ?_
          try rw [e0]
          refine ⟨?_, N0, rfl⟩
          simp [own_ids, nar, *]
        · refine Go.st (S' := T0.setTop (mkF m 34 #[.val (.int p1)] [])) (fun t hr => XS.icmpYes X0.here hx rfl (pc0 := 27) (pc' := 34) rfl (hb hby d1_27) rfl (XT.ii_ne_t hc5) (by decide) (by decide) hr) ?_
          refine Go.st (S' := T0.setTop (mkF m 35 #[.val (.int p1)] [(.int (0 : Int32))])) (fun t hr => XS.iconst X0.here hx rfl (hb hby d1_34) hr) ?_
          refine Go.retN X0 hx hlk (t := .boolean) hret (by simp) (hb hby d1_35) (by decide) (by decide) ?_
          try rw [e0]
          refine ⟨?_, N0, rfl⟩
          simp [own_ids, nar, *]
      · refine Go.st (S' := T0.setTop (mkF m 30 #[.val (.int p1)] [])) (fun t hr => XS.icmpYes X0.here hx rfl (pc0 := 21) (pc' := 30) rfl (hb hby d1_21) rfl (XT.ii_le_t hc4) (by decide) (by decide) hr) ?_
        refine Go.st (S' := T0.setTop (mkF m 31 #[.val (.int p1)] [(.int (1 : Int32))])) (fun t hr => XS.iconst X0.here hx rfl (hb hby d1_30) hr) ?_
        refine Go.st (S' := T0.setTop (mkF m 35 #[.val (.int p1)] [(.int (1 : Int32))])) (fun t hr => XS.goto X0.here hx rfl (pc0 := 31) (pc' := 35) rfl (hb hby d1_31) (by decide) (by decide) hr) ?_
        refine Go.retN X0 hx hlk (t := .boolean) hret (by simp) (hb hby d1_35) (by decide) (by decide) ?_
        try rw [e0]
        refine ⟨?_, N0, rfl⟩
        simp [own_ids, nar, *]
  · refine Go.st (S' := T0.setTop (mkF m 6 #[.val (.int p1)] [])) (fun t hr => XS.icmpNo X0.here hx rfl (hb hby d1_3) rfl (XT.ii_lt_f hc1) hr) ?_
    refine Go.st (S' := T0.setTop (mkF m 7 #[.val (.int p1)] [(.int p1)])) (fun t hr => XS.iloadN X0.here hx rfl (hb hby d1_6) rfl hr) ?_
    refine Go.st (S' := T0.setTop (mkF m 9 #[.val (.int p1)] [(.int (122 : Int32)), (.int p1)])) (fun t hr => XS.bipush X0.here hx rfl (hb hby d1_7) hr) ?_
    by_cases hc6 : (122 : Int32) < p1
    · refine Go.st (S' := T0.setTop (mkF m 12 #[.val (.int p1)] [])) (fun t hr => XS.icmpNo X0.here hx rfl (hb hby d1_9) rfl (XT.ii_le_f hc6) hr) ?_
      refine Go.st (S' := T0.setTop (mkF m 13 #[.val (.int p1)] [(.int p1)])) (fun t hr => XS.iloadN X0.here hx rfl (hb hby d1_12) rfl hr) ?_
      refine Go.st (S' := T0.setTop (mkF m 15 #[.val (.int p1)] [(.int (65 : Int32)), (.int p1)])) (fun t hr => XS.bipush X0.here hx rfl (hb hby d1_13) hr) ?_
      by_cases hc7 : p1 < (65 : Int32)
      · refine Go.st (S' := T0.setTop (mkF m 24 #[.val (.int p1)] [])) (fun t hr => XS.icmpYes X0.here hx rfl (pc0 := 15) (pc' := 24) rfl (hb hby d1_15) rfl (XT.ii_lt_t hc7) (by decide) (by decide) hr) ?_
        refine Go.st (S' := T0.setTop (mkF m 25 #[.val (.int p1)] [(.int p1)])) (fun t hr => XS.iloadN X0.here hx rfl (hb hby d1_24) rfl hr) ?_
        refine Go.st (S' := T0.setTop (mkF m 27 #[.val (.int p1)] [(.int (95 : Int32)), (.int p1)])) (fun t hr => XS.bipush X0.here hx rfl (hb hby d1_25) hr) ?_
        by_cases hc8 : p1 = (95 : Int32)
        · refine Go.st (S' := T0.setTop (mkF m 30 #[.val (.int p1)] [])) (fun t hr => XS.icmpNo X0.here hx rfl (hb hby d1_27) rfl (XT.ii_ne_f hc8) hr) ?_
          refine Go.st (S' := T0.setTop (mkF m 31 #[.val (.int p1)] [(.int (1 : Int32))])) (fun t hr => XS.iconst X0.here hx rfl (hb hby d1_30) hr) ?_
          refine Go.st (S' := T0.setTop (mkF m 35 #[.val (.int p1)] [(.int (1 : Int32))])) (fun t hr => XS.goto X0.here hx rfl (pc0 := 31) (pc' := 35) rfl (hb hby d1_31) (by decide) (by decide) hr) ?_
          refine Go.retN X0 hx hlk (t := .boolean) hret (by simp) (hb hby d1_35) (by decide) (by decide) ?_
          try rw [e0]
          refine ⟨?_, N0, rfl⟩
          simp [own_ids, nar, *]
        · refine Go.st (S' := T0.setTop (mkF m 34 #[.val (.int p1)] [])) (fun t hr => XS.icmpYes X0.here hx rfl (pc0 := 27) (pc' := 34) rfl (hb hby d1_27) rfl (XT.ii_ne_t hc8) (by decide) (by decide) hr) ?_
          refine Go.st (S' := T0.setTop (mkF m 35 #[.val (.int p1)] [(.int (0 : Int32))])) (fun t hr => XS.iconst X0.here hx rfl (hb hby d1_34) hr) ?_
          refine Go.retN X0 hx hlk (t := .boolean) hret (by simp) (hb hby d1_35) (by decide) (by decide) ?_
          try rw [e0]
          refine ⟨?_, N0, rfl⟩
          simp [own_ids, nar, *]
      · refine Go.st (S' := T0.setTop (mkF m 18 #[.val (.int p1)] [])) (fun t hr => XS.icmpNo X0.here hx rfl (hb hby d1_15) rfl (XT.ii_lt_f hc7) hr) ?_
        refine Go.st (S' := T0.setTop (mkF m 19 #[.val (.int p1)] [(.int p1)])) (fun t hr => XS.iloadN X0.here hx rfl (hb hby d1_18) rfl hr) ?_
        refine Go.st (S' := T0.setTop (mkF m 21 #[.val (.int p1)] [(.int (90 : Int32)), (.int p1)])) (fun t hr => XS.bipush X0.here hx rfl (hb hby d1_19) hr) ?_
        by_cases hc9 : (90 : Int32) < p1
        · refine Go.st (S' := T0.setTop (mkF m 24 #[.val (.int p1)] [])) (fun t hr => XS.icmpNo X0.here hx rfl (hb hby d1_21) rfl (XT.ii_le_f hc9) hr) ?_
          refine Go.st (S' := T0.setTop (mkF m 25 #[.val (.int p1)] [(.int p1)])) (fun t hr => XS.iloadN X0.here hx rfl (hb hby d1_24) rfl hr) ?_
          refine Go.st (S' := T0.setTop (mkF m 27 #[.val (.int p1)] [(.int (95 : Int32)), (.int p1)])) (fun t hr => XS.bipush X0.here hx rfl (hb hby d1_25) hr) ?_
          by_cases hc10 : p1 = (95 : Int32)
          · refine Go.st (S' := T0.setTop (mkF m 30 #[.val (.int p1)] [])) (fun t hr => XS.icmpNo X0.here hx rfl (hb hby d1_27) rfl (XT.ii_ne_f hc10) hr) ?_
            refine Go.st (S' := T0.setTop (mkF m 31 #[.val (.int p1)] [(.int (1 : Int32))])) (fun t hr => XS.iconst X0.here hx rfl (hb hby d1_30) hr) ?_
            refine Go.st (S' := T0.setTop (mkF m 35 #[.val (.int p1)] [(.int (1 : Int32))])) (fun t hr => XS.goto X0.here hx rfl (pc0 := 31) (pc' := 35) rfl (hb hby d1_31) (by decide) (by decide) hr) ?_
            refine Go.retN X0 hx hlk (t := .boolean) hret (by simp) (hb hby d1_35) (by decide) (by decide) ?_
            try rw [e0]
            refine ⟨?_, N0, rfl⟩
            simp [own_ids, nar, *]
          · refine Go.st (S' := T0.setTop (mkF m 34 #[.val (.int p1)] [])) (fun t hr => XS.icmpYes X0.here hx rfl (pc0 := 27) (pc' := 34) rfl (hb hby d1_27) rfl (XT.ii_ne_t hc10) (by decide) (by decide) hr) ?_
            refine Go.st (S' := T0.setTop (mkF m 35 #[.val (.int p1)] [(.int (0 : Int32))])) (fun t hr => XS.iconst X0.here hx rfl (hb hby d1_34) hr) ?_
            refine Go.retN X0 hx hlk (t := .boolean) hret (by simp) (hb hby d1_35) (by decide) (by decide) ?_
            try rw [e0]
            refine ⟨?_, N0, rfl⟩
            simp [own_ids, nar, *]
        · refine Go.st (S' := T0.setTop (mkF m 30 #[.val (.int p1)] [])) (fun t hr => XS.icmpYes X0.here hx rfl (pc0 := 21) (pc' := 30) rfl (hb hby d1_21) rfl (XT.ii_le_t hc9) (by decide) (by decide) hr) ?_
          refine Go.st (S' := T0.setTop (mkF m 31 #[.val (.int p1)] [(.int (1 : Int32))])) (fun t hr => XS.iconst X0.here hx rfl (hb hby d1_30) hr) ?_
          refine Go.st (S' := T0.setTop (mkF m 35 #[.val (.int p1)] [(.int (1 : Int32))])) (fun t hr => XS.goto X0.here hx rfl (pc0 := 31) (pc' := 35) rfl (hb hby d1_31) (by decide) (by decide) hr) ?_
          refine Go.retN X0 hx hlk (t := .boolean) hret (by simp) (hb hby d1_35) (by decide) (by decide) ?_
          try rw [e0]
          refine ⟨?_, N0, rfl⟩
          simp [own_ids, nar, *]
    · refine Go.st (S' := T0.setTop (mkF m 30 #[.val (.int p1)] [])) (fun t hr => XS.icmpYes X0.here hx rfl (pc0 := 9) (pc' := 30) rfl (hb hby d1_9) rfl (XT.ii_le_t hc6) (by decide) (by decide) hr) ?_
      refine Go.st (S' := T0.setTop (mkF m 31 #[.val (.int p1)] [(.int (1 : Int32))])) (fun t hr => XS.iconst X0.here hx rfl (hb hby d1_30) hr) ?_
      refine Go.st (S' := T0.setTop (mkF m 35 #[.val (.int p1)] [(.int (1 : Int32))])) (fun t hr => XS.goto X0.here hx rfl (pc0 := 31) (pc' := 35) rfl (hb hby d1_31) (by decide) (by decide) hr) ?_
      refine Go.retN X0 hx hlk (t := .boolean) hret (by simp) (hb hby d1_35) (by decide) (by decide) ?_
      try rw [e0]
      refine ⟨?_, N0, rfl⟩
      simp [own_ids, nar, *]
theorem ef_rm0 (m : MethodId) (p1 : Int32) : entryFrame m #[(.int p1)] maxLocals = mkF m 0 #[.val (.int p1), .unset, .unset, .unset, .unset] [] := by first | (simp [entryFrame, mkF, argsToLocals, Value.category, maxLocals]; done) | rfl
theorem pf_1 : plainFor x = true := plainFor_of_name (by first | (simp [plainName, overriddenIn, x]; done) | decide +kernel)
theorem pd_0 : parseMethodDescriptor "(C)Z" = some ⟨[.char], some .boolean⟩ := by decide +kernel
set_option maxRecDepth 65536 in
set_option maxHeartbeats 4000000 in
theorem rm0 (l : Launch) (Z : State) (a0 : Array Value) (hw : ∀ d ∈ tables_1, d.before a0 Z = true) (p1 : Int32) (h0 : Heap) (n0 : Nat) (Z0 : n0 ≤ h0.size)  :
    Con l Z x code maxLocals ret room_1 #[(.int p1)] h0 (fun v h L => v = some (.int 1) ∧ Fr n0 L) := by
  refine Con.of pf_1 ?_
  intro p e s m below meth c T0 X0 hx hby hml hZ hown hnm hret hlk e0
  have hown : s.vm.findClass "com/example/typeloom/typeloom/idl/LexerIsIdentifierStartPinLaw" = some m.cls := hown
  have hnm : meth.name = "law" := hnm
  have N0 := Fr.nil n0
  refine Go.cast (ef_rm0 m p1) ?_
  refine Go.st (S' := T0.setTop (mkF m 1 #[.val (.int p1), .unset, .unset, .unset, .unset] [(.int p1)])) (fun t hr => XS.iloadN X0.here hx rfl (hb hby at_0) rfl hr) ?_
  refine Go.st (S' := T0.setTop (mkF m 3 #[.val (.int p1), .unset, .unset, .unset, .unset] [(.int (65535 : Int32)), (.int p1)])) (own_ldc X0 hx hZ hown (index := 7) (x := (65535 : Int32)) (hw _ (List.mem_of_getElem? (i := 0) rfl)) (g := (mkF m 1 #[.val (.int p1), .unset, .unset, .unset, .unset] [(.int p1)])) rfl (hb hby at_1)) ?_
  refine Go.st (S' := T0.setTop (mkF m 4 #[.val (.int p1), .unset, .unset, .unset, .unset] [(.int (p1 &&& (65535 : Int32)))])) (fun t hr => XS.iand X0.here hx rfl (hb hby at_3) rfl hr) ?_
  refine Go.st (S' := T0.setTop (mkF m 5 #[.val (.int p1), .unset, .unset, .unset, .unset] [(.int ((p1 &&& (65535 : Int32)).toUInt32.toUInt16.toUInt32.toInt32))])) (fun t hr => XT.i2c X0.here hx rfl (hb hby at_4) rfl hr) ?_
  obtain ⟨vc, hvc⟩ : ∃ z : Int32, z = ((p1 &&& (65535 : Int32)).toUInt32.toUInt16.toUInt32.toInt32) := ⟨_, rfl⟩
  refine Go.st (S' := T0.setTop (mkF m 6 #[.val (.int p1), .val (.int vc), .unset, .unset, .unset] [])) (fun t hr => by subst hvc; exact XS.istoreN X0.here hx rfl (hb hby at_5) rfl (l' := _) rfl hr) ?_
  have rc : 0 ≤ vc.toInt ∧ vc.toInt < 65536 := by rw [hvc]; exact (c_i2c _).2
  obtain ⟨rc0, rc1⟩ := rc
  refine Go.st (S' := T0.setTop (mkF m 7 #[.val (.int p1), .val (.int vc), .unset, .unset, .unset] [(.int vc)])) (fun t hr => XS.iloadN X0.here hx rfl (hb hby at_6) rfl hr) ?_
  refine Go.st (S' := T0.setTop (mkF m 9 #[.val (.int p1), .val (.int vc), .unset, .unset, .unset] [(.int (32 : Int32)), (.int vc)])) (fun t hr => XS.bipush X0.here hx rfl (hb hby at_7) hr) ?_
  refine Go.st (S' := T0.setTop (mkF m 10 #[.val (.int p1), .val (.int vc), .unset, .unset, .unset] [(.int (vc ||| (32 : Int32)))])) (fun t hr => XT.ior X0.here hx rfl (hb hby at_9) rfl hr) ?_
  obtain ⟨vf, hvf⟩ : ∃ z : Int32, z = (vc ||| (32 : Int32)) := ⟨_, rfl⟩
  refine Go.st (S' := T0.setTop (mkF m 11 #[.val (.int p1), .val (.int vc), .val (.int vf), .unset, .unset] [])) (fun t hr => by subst hvf; exact XS.istoreN X0.here hx rfl (hb hby at_10) rfl (l' := _) rfl hr) ?_
  refine Go.st (S' := T0.setTop (mkF m 12 #[.val (.int p1), .val (.int vc), .val (.int vf), .unset, .unset] [(.int vf)])) (fun t hr => XS.iloadN X0.here hx rfl (hb hby at_11) rfl hr) ?_
  refine Go.st (S' := T0.setTop (mkF m 14 #[.val (.int p1), .val (.int vc), .val (.int vf), .unset, .unset] [(.int (97 : Int32)), (.int vf)])) (fun t hr => XS.bipush X0.here hx rfl (hb hby at_12) hr) ?_
  by_cases hc1 : vf < (97 : Int32)
  · refine Go.st (S' := T0.setTop (mkF m 27 #[.val (.int p1), .val (.int vc), .val (.int vf), .unset, .unset] [])) (fun t hr => XS.icmpYes X0.here hx rfl (pc0 := 14) (pc' := 27) rfl (hb hby at_14) rfl (XT.ii_lt_t hc1) (by decide) (by decide) hr) ?_
    refine Go.st (S' := T0.setTop (mkF m 28 #[.val (.int p1), .val (.int vc), .val (.int vf), .unset, .unset] [(.int (0 : Int32))])) (fun t hr => XS.iconst X0.here hx rfl (hb hby at_27) hr) ?_
    refine Go.st (S' := T0.setTop (mkF m 29 #[.val (.int p1), .val (.int vc), .val (.int vf), .val (.int (0 : Int32)), .unset] [])) (fun t hr => XS.istoreN X0.here hx rfl (hb hby at_28) rfl (l' := #[.val (.int p1), .val (.int vc), .val (.int vf), .val (.int (0 : Int32)), .unset]) rfl hr) ?_
    refine Go.st (S' := T0.setTop (mkF m 30 #[.val (.int p1), .val (.int vc), .val (.int vf), .val (.int (0 : Int32)), .unset] [(.int (0 : Int32))])) (fun t hr => XS.iloadN X0.here hx rfl (hb hby at_29) rfl hr) ?_
    refine Go.st (S' := T0.setTop (mkF m 33 #[.val (.int p1), .val (.int vc), .val (.int vf), .val (.int (0 : Int32)), .unset] [])) (fun t hr => XS.ifNo X0.here hx rfl (hb hby at_30) rfl (XT.i0_ne_f (by decide)) hr) ?_
    refine Go.st (S' := T0.setTop (mkF m 34 #[.val (.int p1), .val (.int vc), .val (.int vf), .val (.int (0 : Int32)), .unset] [(.int vc)])) (fun t hr => XS.iloadN X0.here hx rfl (hb hby at_33) rfl hr) ?_
    refine Go.st (S' := T0.setTop (mkF m 36 #[.val (.int p1), .val (.int vc), .val (.int vf), .val (.int (0 : Int32)), .unset] [(.int (95 : Int32)), (.int vc)])) (fun t hr => XS.bipush X0.here hx rfl (hb hby at_34) hr) ?_
    by_cases hc2 : vc = (95 : Int32)
    · refine Go.st (S' := T0.setTop (mkF m 39 #[.val (.int p1), .val (.int vc), .val (.int vf), .val (.int (0 : Int32)), .unset] [])) (fun t hr => XS.icmpNo X0.here hx rfl (hb hby at_36) rfl (XT.ii_ne_f hc2) hr) ?_
      refine Go.st (S' := T0.setTop (mkF m 40 #[.val (.int p1), .val (.int vc), .val (.int vf), .val (.int (0 : Int32)), .unset] [(.int (1 : Int32))])) (fun t hr => XS.iconst X0.here hx rfl (hb hby at_39) hr) ?_
      refine Go.st (S' := T0.setTop (mkF m 44 #[.val (.int p1), .val (.int vc), .val (.int vf), .val (.int (0 : Int32)), .unset] [(.int (1 : Int32))])) (fun t hr => XS.goto X0.here hx rfl (pc0 := 40) (pc' := 44) rfl (hb hby at_40) (by decide) (by decide) hr) ?_
      refine Go.st (S' := T0.setTop (mkF m 46 #[.val (.int p1), .val (.int vc), .val (.int vf), .val (.int (0 : Int32)), .val (.int (1 : Int32))] [])) (fun t hr => XS.istore X0.here hx rfl (hb hby at_44) rfl (l' := #[.val (.int p1), .val (.int vc), .val (.int vf), .val (.int (0 : Int32)), .val (.int (1 : Int32))]) rfl hr) ?_
      refine Go.st (S' := T0.setTop (mkF m 47 #[.val (.int p1), .val (.int vc), .val (.int vf), .val (.int (0 : Int32)), .val (.int (1 : Int32))] [(.int vc)])) (fun t hr => XS.iloadN X0.here hx rfl (hb hby at_46) rfl hr) ?_
      obtain ⟨v_3, T_3, h_3, L_3, X_3, e_3, Q_3, st_3⟩ := own_callS X0 hx hZ (y := ⟨"com/example/typeloom/typeloom/idl/Lexer", "isIdentifierStart", "(C)Z"⟩) hown (hw _ (List.mem_of_getElem? (i := 1) rfl)) (hw _ (List.mem_of_getElem? (i := 2) rfl)) (hw _ (List.mem_of_getElem? (i := 3) rfl)) (hw _ (List.mem_of_getElem? (i := 4) rfl)) (by decide) e0 (argsL := [(.int vc)]) (rest := []) (rmI l Z a0 hw vc h0 n0 Z0) (g := (mkF m 47 #[.val (.int p1), .val (.int vc), .val (.int vf), .val (.int (0 : Int32)), .val (.int (1 : Int32))] [(.int vc)])) rfl (by rw [hml]; rfl) (lenOf pd_0 rfl) rfl (hb hby at_47) (W := 0) (by show 2 * 0 + _ ≤ _; exact Nat.le_of_eq rfl) (by decide) (by decide) (by decide) (by decide)
      obtain ⟨rfl, N_3, hh_3⟩ := Q_3
      have N_3' := Fr.app N0 N_3
      rw [hh_3] at e_3
      refine Go.st (S' := T_3.setTop (mkF m 50 #[.val (.int p1), .val (.int vc), .val (.int vf), .val (.int (0 : Int32)), .val (.int (1 : Int32))] [(.int (own_ids vc))])) st_3 ?_
      refine Go.st (S' := T_3.setTop (mkF m 52 #[.val (.int p1), .val (.int vc), .val (.int vf), .val (.int (0 : Int32)), .val (.int (1 : Int32))] [(.int (1 : Int32)), (.int (own_ids vc))])) (fun t hr => XS.iload X_3.here hx rfl (hb hby at_50) rfl hr) ?_
      have hq4 : own_ids vc = (1 : Int32) := by rw [own_law vc rc0 rc1, ← hvf]; simp [hc1, hc2]
      refine Go.st (S' := T_3.setTop (mkF m 55 #[.val (.int p1), .val (.int vc), .val (.int vf), .val (.int (0 : Int32)), .val (.int (1 : Int32))] [])) (fun t hr => XS.icmpNo X_3.here hx rfl (hb hby at_52) rfl (XT.ii_ne_f hq4) hr) ?_
      refine Go.st (S' := T_3.setTop (mkF m 56 #[.val (.int p1), .val (.int vc), .val (.int vf), .val (.int (0 : Int32)), .val (.int (1 : Int32))] [(.int (1 : Int32))])) (fun t hr => XS.iconst X_3.here hx rfl (hb hby at_55) hr) ?_
      refine Go.st (S' := T_3.setTop (mkF m 60 #[.val (.int p1), .val (.int vc), .val (.int vf), .val (.int (0 : Int32)), .val (.int (1 : Int32))] [(.int (1 : Int32))])) (fun t hr => XS.goto X_3.here hx rfl (pc0 := 56) (pc' := 60) rfl (hb hby at_56) (by decide) (by decide) hr) ?_
      refine Go.retN X_3 hx hlk (t := .boolean) hret (by simp) (hb hby at_60) (by decide) (by decide) ?_
      try rw [e_3]
      exact ⟨rfl, N_3'⟩
    · refine Go.st (S' := T0.setTop (mkF m 43 #[.val (.int p1), .val (.int vc), .val (.int vf), .val (.int (0 : Int32)), .unset] [])) (fun t hr => XS.icmpYes X0.here hx rfl (pc0 := 36) (pc' := 43) rfl (hb hby at_36) rfl (XT.ii_ne_t hc2) (by decide) (by decide) hr) ?_
      refine Go.st (S' := T0.setTop (mkF m 44 #[.val (.int p1), .val (.int vc), .val (.int vf), .val (.int (0 : Int32)), .unset] [(.int (0 : Int32))])) (fun t hr => XS.iconst X0.here hx rfl (hb hby at_43) hr) ?_
      refine Go.st (S' := T0.setTop (mkF m 46 #[.val (.int p1), .val (.int vc), .val (.int vf), .val (.int (0 : Int32)), .val (.int (0 : Int32))] [])) (fun t hr => XS.istore X0.here hx rfl (hb hby at_44) rfl (l' := #[.val (.int p1), .val (.int vc), .val (.int vf), .val (.int (0 : Int32)), .val (.int (0 : Int32))]) rfl hr) ?_
      refine Go.st (S' := T0.setTop (mkF m 47 #[.val (.int p1), .val (.int vc), .val (.int vf), .val (.int (0 : Int32)), .val (.int (0 : Int32))] [(.int vc)])) (fun t hr => XS.iloadN X0.here hx rfl (hb hby at_46) rfl hr) ?_
      obtain ⟨v_5, T_5, h_5, L_5, X_5, e_5, Q_5, st_5⟩ := own_callS X0 hx hZ (y := ⟨"com/example/typeloom/typeloom/idl/Lexer", "isIdentifierStart", "(C)Z"⟩) hown (hw _ (List.mem_of_getElem? (i := 1) rfl)) (hw _ (List.mem_of_getElem? (i := 2) rfl)) (hw _ (List.mem_of_getElem? (i := 3) rfl)) (hw _ (List.mem_of_getElem? (i := 4) rfl)) (by decide) e0 (argsL := [(.int vc)]) (rest := []) (rmI l Z a0 hw vc h0 n0 Z0) (g := (mkF m 47 #[.val (.int p1), .val (.int vc), .val (.int vf), .val (.int (0 : Int32)), .val (.int (0 : Int32))] [(.int vc)])) rfl (by rw [hml]; rfl) (lenOf pd_0 rfl) rfl (hb hby at_47) (W := 0) (by show 2 * 0 + _ ≤ _; exact Nat.le_of_eq rfl) (by decide) (by decide) (by decide) (by decide)
      obtain ⟨rfl, N_5, hh_5⟩ := Q_5
      have N_5' := Fr.app N0 N_5
      rw [hh_5] at e_5
      refine Go.st (S' := T_5.setTop (mkF m 50 #[.val (.int p1), .val (.int vc), .val (.int vf), .val (.int (0 : Int32)), .val (.int (0 : Int32))] [(.int (own_ids vc))])) st_5 ?_
      refine Go.st (S' := T_5.setTop (mkF m 52 #[.val (.int p1), .val (.int vc), .val (.int vf), .val (.int (0 : Int32)), .val (.int (0 : Int32))] [(.int (0 : Int32)), (.int (own_ids vc))])) (fun t hr => XS.iload X_5.here hx rfl (hb hby at_50) rfl hr) ?_
      have hq6 : own_ids vc = (0 : Int32) := by rw [own_law vc rc0 rc1, ← hvf]; simp [hc1, hc2]
      refine Go.st (S' := T_5.setTop (mkF m 55 #[.val (.int p1), .val (.int vc), .val (.int vf), .val (.int (0 : Int32)), .val (.int (0 : Int32))] [])) (fun t hr => XS.icmpNo X_5.here hx rfl (hb hby at_52) rfl (XT.ii_ne_f hq6) hr) ?_
      refine Go.st (S' := T_5.setTop (mkF m 56 #[.val (.int p1), .val (.int vc), .val (.int vf), .val (.int (0 : Int32)), .val (.int (0 : Int32))] [(.int (1 : Int32))])) (fun t hr => XS.iconst X_5.here hx rfl (hb hby at_55) hr) ?_
      refine Go.st (S' := T_5.setTop (mkF m 60 #[.val (.int p1), .val (.int vc), .val (.int vf), .val (.int (0 : Int32)), .val (.int (0 : Int32))] [(.int (1 : Int32))])) (fun t hr => XS.goto X_5.here hx rfl (pc0 := 56) (pc' := 60) rfl (hb hby at_56) (by decide) (by decide) hr) ?_
      refine Go.retN X_5 hx hlk (t := .boolean) hret (by simp) (hb hby at_60) (by decide) (by decide) ?_
      try rw [e_5]
      exact ⟨rfl, N_5'⟩
  · refine Go.st (S' := T0.setTop (mkF m 17 #[.val (.int p1), .val (.int vc), .val (.int vf), .unset, .unset] [])) (fun t hr => XS.icmpNo X0.here hx rfl (hb hby at_14) rfl (XT.ii_lt_f hc1) hr) ?_
    refine Go.st (S' := T0.setTop (mkF m 18 #[.val (.int p1), .val (.int vc), .val (.int vf), .unset, .unset] [(.int vf)])) (fun t hr => XS.iloadN X0.here hx rfl (hb hby at_17) rfl hr) ?_
    refine Go.st (S' := T0.setTop (mkF m 20 #[.val (.int p1), .val (.int vc), .val (.int vf), .unset, .unset] [(.int (122 : Int32)), (.int vf)])) (fun t hr => XS.bipush X0.here hx rfl (hb hby at_18) hr) ?_
    by_cases hc7 : (122 : Int32) < vf
    · refine Go.st (S' := T0.setTop (mkF m 27 #[.val (.int p1), .val (.int vc), .val (.int vf), .unset, .unset] [])) (fun t hr => XS.icmpYes X0.here hx rfl (pc0 := 20) (pc' := 27) rfl (hb hby at_20) rfl (XT.ii_gt_t hc7) (by decide) (by decide) hr) ?_
      refine Go.st (S' := T0.setTop (mkF m 28 #[.val (.int p1), .val (.int vc), .val (.int vf), .unset, .unset] [(.int (0 : Int32))])) (fun t hr => XS.iconst X0.here hx rfl (hb hby at_27) hr) ?_
      refine Go.st (S' := T0.setTop (mkF m 29 #[.val (.int p1), .val (.int vc), .val (.int vf), .val (.int (0 : Int32)), .unset] [])) (fun t hr => XS.istoreN X0.here hx rfl (hb hby at_28) rfl (l' := #[.val (.int p1), .val (.int vc), .val (.int vf), .val (.int (0 : Int32)), .unset]) rfl hr) ?_
      refine Go.st (S' := T0.setTop (mkF m 30 #[.val (.int p1), .val (.int vc), .val (.int vf), .val (.int (0 : Int32)), .unset] [(.int (0 : Int32))])) (fun t hr => XS.iloadN X0.here hx rfl (hb hby at_29) rfl hr) ?_
      refine Go.st (S' := T0.setTop (mkF m 33 #[.val (.int p1), .val (.int vc), .val (.int vf), .val (.int (0 : Int32)), .unset] [])) (fun t hr => XS.ifNo X0.here hx rfl (hb hby at_30) rfl (XT.i0_ne_f (by decide)) hr) ?_
      refine Go.st (S' := T0.setTop (mkF m 34 #[.val (.int p1), .val (.int vc), .val (.int vf), .val (.int (0 : Int32)), .unset] [(.int vc)])) (fun t hr => XS.iloadN X0.here hx rfl (hb hby at_33) rfl hr) ?_
      refine Go.st (S' := T0.setTop (mkF m 36 #[.val (.int p1), .val (.int vc), .val (.int vf), .val (.int (0 : Int32)), .unset] [(.int (95 : Int32)), (.int vc)])) (fun t hr => XS.bipush X0.here hx rfl (hb hby at_34) hr) ?_
      by_cases hc8 : vc = (95 : Int32)
      · refine Go.st (S' := T0.setTop (mkF m 39 #[.val (.int p1), .val (.int vc), .val (.int vf), .val (.int (0 : Int32)), .unset] [])) (fun t hr => XS.icmpNo X0.here hx rfl (hb hby at_36) rfl (XT.ii_ne_f hc8) hr) ?_
        refine Go.st (S' := T0.setTop (mkF m 40 #[.val (.int p1), .val (.int vc), .val (.int vf), .val (.int (0 : Int32)), .unset] [(.int (1 : Int32))])) (fun t hr => XS.iconst X0.here hx rfl (hb hby at_39) hr) ?_
        refine Go.st (S' := T0.setTop (mkF m 44 #[.val (.int p1), .val (.int vc), .val (.int vf), .val (.int (0 : Int32)), .unset] [(.int (1 : Int32))])) (fun t hr => XS.goto X0.here hx rfl (pc0 := 40) (pc' := 44) rfl (hb hby at_40) (by decide) (by decide) hr) ?_
        refine Go.st (S' := T0.setTop (mkF m 46 #[.val (.int p1), .val (.int vc), .val (.int vf), .val (.int (0 : Int32)), .val (.int (1 : Int32))] [])) (fun t hr => XS.istore X0.here hx rfl (hb hby at_44) rfl (l' := #[.val (.int p1), .val (.int vc), .val (.int vf), .val (.int (0 : Int32)), .val (.int (1 : Int32))]) rfl hr) ?_
        refine Go.st (S' := T0.setTop (mkF m 47 #[.val (.int p1), .val (.int vc), .val (.int vf), .val (.int (0 : Int32)), .val (.int (1 : Int32))] [(.int vc)])) (fun t hr => XS.iloadN X0.here hx rfl (hb hby at_46) rfl hr) ?_
        obtain ⟨v_9, T_9, h_9, L_9, X_9, e_9, Q_9, st_9⟩ := own_callS X0 hx hZ (y := ⟨"com/example/typeloom/typeloom/idl/Lexer", "isIdentifierStart", "(C)Z"⟩) hown (hw _ (List.mem_of_getElem? (i := 1) rfl)) (hw _ (List.mem_of_getElem? (i := 2) rfl)) (hw _ (List.mem_of_getElem? (i := 3) rfl)) (hw _ (List.mem_of_getElem? (i := 4) rfl)) (by decide) e0 (argsL := [(.int vc)]) (rest := []) (rmI l Z a0 hw vc h0 n0 Z0) (g := (mkF m 47 #[.val (.int p1), .val (.int vc), .val (.int vf), .val (.int (0 : Int32)), .val (.int (1 : Int32))] [(.int vc)])) rfl (by rw [hml]; rfl) (lenOf pd_0 rfl) rfl (hb hby at_47) (W := 0) (by show 2 * 0 + _ ≤ _; exact Nat.le_of_eq rfl) (by decide) (by decide) (by decide) (by decide)
        obtain ⟨rfl, N_9, hh_9⟩ := Q_9
        have N_9' := Fr.app N0 N_9
        rw [hh_9] at e_9
        refine Go.st (S' := T_9.setTop (mkF m 50 #[.val (.int p1), .val (.int vc), .val (.int vf), .val (.int (0 : Int32)), .val (.int (1 : Int32))] [(.int (own_ids vc))])) st_9 ?_
        refine Go.st (S' := T_9.setTop (mkF m 52 #[.val (.int p1), .val (.int vc), .val (.int vf), .val (.int (0 : Int32)), .val (.int (1 : Int32))] [(.int (1 : Int32)), (.int (own_ids vc))])) (fun t hr => XS.iload X_9.here hx rfl (hb hby at_50) rfl hr) ?_
        have hq10 : own_ids vc = (1 : Int32) := by rw [own_law vc rc0 rc1, ← hvf]; simp [hc1, hc7, hc8]
        refine Go.st (S' := T_9.setTop (mkF m 55 #[.val (.int p1), .val (.int vc), .val (.int vf), .val (.int (0 : Int32)), .val (.int (1 : Int32))] [])) (fun t hr => XS.icmpNo X_9.here hx rfl (hb hby at_52) rfl (XT.ii_ne_f hq10) hr) ?_
        refine Go.st (S' := T_9.setTop (mkF m 56 #[.val (.int p1), .val (.int vc), .val (.int vf), .val (.int (0 : Int32)), .val (.int (1 : Int32))] [(.int (1 : Int32))])) (fun t hr => XS.iconst X_9.here hx rfl (hb hby at_55) hr) ?_
        refine Go.st (S' := T_9.setTop (mkF m 60 #[.val (.int p1), .val (.int vc), .val (.int vf), .val (.int (0 : Int32)), .val (.int (1 : Int32))] [(.int (1 : Int32))])) (fun t hr => XS.goto X_9.here hx rfl (pc0 := 56) (pc' := 60) rfl (hb hby at_56) (by decide) (by decide) hr) ?_
        refine Go.retN X_9 hx hlk (t := .boolean) hret (by simp) (hb hby at_60) (by decide) (by decide) ?_
        try rw [e_9]
        exact ⟨rfl, N_9'⟩
      · refine Go.st (S' := T0.setTop (mkF m 43 #[.val (.int p1), .val (.int vc), .val (.int vf), .val (.int (0 : Int32)), .unset] [])) (fun t hr => XS.icmpYes X0.here hx rfl (pc0 := 36) (pc' := 43) rfl (hb hby at_36) rfl (XT.ii_ne_t hc8) (by decide) (by decide) hr) ?_
        refine Go.st (S' := T0.setTop (mkF m 44 #[.val (.int p1), .val (.int vc), .val (.int vf), .val (.int (0 : Int32)), .unset] [(.int (0 : Int32))])) (fun t hr => XS.iconst X0.here hx rfl (hb hby at_43) hr) ?_
        refine Go.st (S' := T0.setTop (mkF m 46 #[.val (.int p1), .val (.int vc), .val (.int vf), .val (.int (0 : Int32)), .val (.int (0 : Int32))] [])) (fun t hr => XS.istore X0.here hx rfl (hb hby at_44) rfl (l' := #[.val (.int p1), .val (.int vc), .val (.int vf), .val (.int (0 : Int32)), .val (.int (0 : Int32))]) rfl hr) ?_
        refine Go.st (S' := T0.setTop (mkF m 47 #[.val (.int p1), .val (.int vc), .val (.int vf), .val (.int (0 : Int32)), .val (.int (0 : Int32))] [(.int vc)])) (fun t hr => XS.iloadN X0.here hx rfl (hb hby at_46) rfl hr) ?_
        obtain ⟨v_11, T_11, h_11, L_11, X_11, e_11, Q_11, st_11⟩ := own_callS X0 hx hZ (y := ⟨"com/example/typeloom/typeloom/idl/Lexer", "isIdentifierStart", "(C)Z"⟩) hown (hw _ (List.mem_of_getElem? (i := 1) rfl)) (hw _ (List.mem_of_getElem? (i := 2) rfl)) (hw _ (List.mem_of_getElem? (i := 3) rfl)) (hw _ (List.mem_of_getElem? (i := 4) rfl)) (by decide) e0 (argsL := [(.int vc)]) (rest := []) (rmI l Z a0 hw vc h0 n0 Z0) (g := (mkF m 47 #[.val (.int p1), .val (.int vc), .val (.int vf), .val (.int (0 : Int32)), .val (.int (0 : Int32))] [(.int vc)])) rfl (by rw [hml]; rfl) (lenOf pd_0 rfl) rfl (hb hby at_47) (W := 0) (by show 2 * 0 + _ ≤ _; exact Nat.le_of_eq rfl) (by decide) (by decide) (by decide) (by decide)
        obtain ⟨rfl, N_11, hh_11⟩ := Q_11
        have N_11' := Fr.app N0 N_11
        rw [hh_11] at e_11
        refine Go.st (S' := T_11.setTop (mkF m 50 #[.val (.int p1), .val (.int vc), .val (.int vf), .val (.int (0 : Int32)), .val (.int (0 : Int32))] [(.int (own_ids vc))])) st_11 ?_
        refine Go.st (S' := T_11.setTop (mkF m 52 #[.val (.int p1), .val (.int vc), .val (.int vf), .val (.int (0 : Int32)), .val (.int (0 : Int32))] [(.int (0 : Int32)), (.int (own_ids vc))])) (fun t hr => XS.iload X_11.here hx rfl (hb hby at_50) rfl hr) ?_
        have hq12 : own_ids vc = (0 : Int32) := by rw [own_law vc rc0 rc1, ← hvf]; simp [hc1, hc7, hc8]
        refine Go.st (S' := T_11.setTop (mkF m 55 #[.val (.int p1), .val (.int vc), .val (.int vf), .val (.int (0 : Int32)), .val (.int (0 : Int32))] [])) (fun t hr => XS.icmpNo X_11.here hx rfl (hb hby at_52) rfl (XT.ii_ne_f hq12) hr) ?_
        refine Go.st (S' := T_11.setTop (mkF m 56 #[.val (.int p1), .val (.int vc), .val (.int vf), .val (.int (0 : Int32)), .val (.int (0 : Int32))] [(.int (1 : Int32))])) (fun t hr => XS.iconst X_11.here hx rfl (hb hby at_55) hr) ?_
        refine Go.st (S' := T_11.setTop (mkF m 60 #[.val (.int p1), .val (.int vc), .val (.int vf), .val (.int (0 : Int32)), .val (.int (0 : Int32))] [(.int (1 : Int32))])) (fun t hr => XS.goto X_11.here hx rfl (pc0 := 56) (pc' := 60) rfl (hb hby at_56) (by decide) (by decide) hr) ?_
        refine Go.retN X_11 hx hlk (t := .boolean) hret (by simp) (hb hby at_60) (by decide) (by decide) ?_
        try rw [e_11]
        exact ⟨rfl, N_11'⟩
    · refine Go.st (S' := T0.setTop (mkF m 23 #[.val (.int p1), .val (.int vc), .val (.int vf), .unset, .unset] [])) (fun t hr => XS.icmpNo X0.here hx rfl (hb hby at_20) rfl (XT.ii_gt_f hc7) hr) ?_
      refine Go.st (S' := T0.setTop (mkF m 24 #[.val (.int p1), .val (.int vc), .val (.int vf), .unset, .unset] [(.int (1 : Int32))])) (fun t hr => XS.iconst X0.here hx rfl (hb hby at_23) hr) ?_
      refine Go.st (S' := T0.setTop (mkF m 28 #[.val (.int p1), .val (.int vc), .val (.int vf), .unset, .unset] [(.int (1 : Int32))])) (fun t hr => XS.goto X0.here hx rfl (pc0 := 24) (pc' := 28) rfl (hb hby at_24) (by decide) (by decide) hr) ?_
      refine Go.st (S' := T0.setTop (mkF m 29 #[.val (.int p1), .val (.int vc), .val (.int vf), .val (.int (1 : Int32)), .unset] [])) (fun t hr => XS.istoreN X0.here hx rfl (hb hby at_28) rfl (l' := #[.val (.int p1), .val (.int vc), .val (.int vf), .val (.int (1 : Int32)), .unset]) rfl hr) ?_
      refine Go.st (S' := T0.setTop (mkF m 30 #[.val (.int p1), .val (.int vc), .val (.int vf), .val (.int (1 : Int32)), .unset] [(.int (1 : Int32))])) (fun t hr => XS.iloadN X0.here hx rfl (hb hby at_29) rfl hr) ?_
      refine Go.st (S' := T0.setTop (mkF m 39 #[.val (.int p1), .val (.int vc), .val (.int vf), .val (.int (1 : Int32)), .unset] [])) (fun t hr => XS.ifYes X0.here hx rfl (pc0 := 30) (pc' := 39) rfl (hb hby at_30) rfl (XT.i0_ne_t (by decide)) (by decide) (by decide) hr) ?_
      refine Go.st (S' := T0.setTop (mkF m 40 #[.val (.int p1), .val (.int vc), .val (.int vf), .val (.int (1 : Int32)), .unset] [(.int (1 : Int32))])) (fun t hr => XS.iconst X0.here hx rfl (hb hby at_39) hr) ?_
      refine Go.st (S' := T0.setTop (mkF m 44 #[.val (.int p1), .val (.int vc), .val (.int vf), .val (.int (1 : Int32)), .unset] [(.int (1 : Int32))])) (fun t hr => XS.goto X0.here hx rfl (pc0 := 40) (pc' := 44) rfl (hb hby at_40) (by decide) (by decide) hr) ?_
      refine Go.st (S' := T0.setTop (mkF m 46 #[.val (.int p1), .val (.int vc), .val (.int vf), .val (.int (1 : Int32)), .val (.int (1 : Int32))] [])) (fun t hr => XS.istore X0.here hx rfl (hb hby at_44) rfl (l' := #[.val (.int p1), .val (.int vc), .val (.int vf), .val (.int (1 : Int32)), .val (.int (1 : Int32))]) rfl hr) ?_
      refine Go.st (S' := T0.setTop (mkF m 47 #[.val (.int p1), .val (.int vc), .val (.int vf), .val (.int (1 : Int32)), .val (.int (1 : Int32))] [(.int vc)])) (fun t hr => XS.iloadN X0.here hx rfl (hb hby at_46) rfl hr) ?_
      obtain ⟨v_13, T_13, h_13, L_13, X_13, e_13, Q_13, st_13⟩ := own_callS X0 hx hZ (y := ⟨"com/example/typeloom/typeloom/idl/Lexer", "isIdentifierStart", "(C)Z"⟩) hown (hw _ (List.mem_of_getElem? (i := 1) rfl)) (hw _ (List.mem_of_getElem? (i := 2) rfl)) (hw _ (List.mem_of_getElem? (i := 3) rfl)) (hw _ (List.mem_of_getElem? (i := 4) rfl)) (by decide) e0 (argsL := [(.int vc)]) (rest := []) (rmI l Z a0 hw vc h0 n0 Z0) (g := (mkF m 47 #[.val (.int p1), .val (.int vc), .val (.int vf), .val (.int (1 : Int32)), .val (.int (1 : Int32))] [(.int vc)])) rfl (by rw [hml]; rfl) (lenOf pd_0 rfl) rfl (hb hby at_47) (W := 0) (by show 2 * 0 + _ ≤ _; exact Nat.le_of_eq rfl) (by decide) (by decide) (by decide) (by decide)
      obtain ⟨rfl, N_13, hh_13⟩ := Q_13
      have N_13' := Fr.app N0 N_13
      rw [hh_13] at e_13
      refine Go.st (S' := T_13.setTop (mkF m 50 #[.val (.int p1), .val (.int vc), .val (.int vf), .val (.int (1 : Int32)), .val (.int (1 : Int32))] [(.int (own_ids vc))])) st_13 ?_
      refine Go.st (S' := T_13.setTop (mkF m 52 #[.val (.int p1), .val (.int vc), .val (.int vf), .val (.int (1 : Int32)), .val (.int (1 : Int32))] [(.int (1 : Int32)), (.int (own_ids vc))])) (fun t hr => XS.iload X_13.here hx rfl (hb hby at_50) rfl hr) ?_
      have hq14 : own_ids vc = (1 : Int32) := by rw [own_law vc rc0 rc1, ← hvf]; simp [hc1, hc7]
      refine Go.st (S' := T_13.setTop (mkF m 55 #[.val (.int p1), .val (.int vc), .val (.int vf), .val (.int (1 : Int32)), .val (.int (1 : Int32))] [])) (fun t hr => XS.icmpNo X_13.here hx rfl (hb hby at_52) rfl (XT.ii_ne_f hq14) hr) ?_
      refine Go.st (S' := T_13.setTop (mkF m 56 #[.val (.int p1), .val (.int vc), .val (.int vf), .val (.int (1 : Int32)), .val (.int (1 : Int32))] [(.int (1 : Int32))])) (fun t hr => XS.iconst X_13.here hx rfl (hb hby at_55) hr) ?_
      refine Go.st (S' := T_13.setTop (mkF m 60 #[.val (.int p1), .val (.int vc), .val (.int vf), .val (.int (1 : Int32)), .val (.int (1 : Int32))] [(.int (1 : Int32))])) (fun t hr => XS.goto X_13.here hx rfl (pc0 := 56) (pc' := 60) rfl (hb hby at_56) (by decide) (by decide) hr) ?_
      refine Go.retN X_13 hx hlk (t := .boolean) hret (by simp) (hb hby at_60) (by decide) (by decide) ?_
      try rw [e_13]
      exact ⟨rfl, N_13'⟩
set_option maxRecDepth 65536 in
set_option maxHeartbeats 4000000 in
theorem comes_1 {Post : Tables → Env → Array Value → State → Outcome → State → Prop} (hpost : ∀ tb e args s v u, (limb_1_1.after args s (.returned v) u = true ∧ limb_1_2.after args s (.returned v) u = true ∧ True) → FrameEnd s (.returned v) u (Jvm.fieldLocs frame_1_writes args s ++ Jvm.arrayLocs frame_1_arrays args s ++ Jvm.staticLocs frame_1_statics s) 0 0 → Post tb e args s (.returned v) u) :
    ArmFor flags0 classFile x code maxLocals ret World_1 tables_1 room_1 Calls_1 rest_1 Pre_1 Post := by
  intro l hfl _ _ p e ha hc hk s m args below hf hA hF happ hP
  obtain ⟨hcalls, hrest, hpre⟩ := hP
  obtain ⟨-, -, -, hnamed, -, -, -, hat⟩ := (Spec.applies_iff hf).mp happ
  obtain ⟨hg, hn⟩ := and_e (Cond.before_iff.mp (show (Jvm.Cond.and given_1 narrow_1).before args s = true from hpre))
  obtain ⟨hcnt, gg0⟩ := and_e hg
  obtain ⟨w0, rfl⟩ : ∃ w0 : Value, args = #[w0] := by
    have hs : args.size = 1 := by simpa [Cond.value, given_1] using hcnt
    obtain ⟨L⟩ := args
    match L, hs with
    | [w0], _ => exact ⟨w0, rfl⟩
  have hw := fun d (hd : d ∈ tables_1) => atoms_spec (ws := Jvm.Cond.code x code maxLocals ret :: tables_1) hat d (List.mem_cons_of_mem _ hd)
  have hfit : Fit s := fun {y c} hc i hi => by
    obtain ⟨ha, rfl⟩ := Array.getElem?_eq_some_iff.mp hc
    have q := List.all_eq_true.mp ((Array.all_eq_true_iff_forall_mem.mp hF) _ (Array.getElem_mem ha)) i (List.mem_range.mpr hi)
    simpa [Array.getElem?_eq_getElem hi] using q
  obtain ⟨i0, ev0⟩ := is_v gg0
  obtain rfl : w0 = (.int i0) := Option.some.inj ev0
  obtain ⟨n, o, h1, h2, h3, _, L, rfl, ⟨rfl, N⟩, hq⟩ := rm0 l s _ hw i0 s.heap s.heap.size (Nat.le_refl _) tables_1 p e ha hc hk s m _ below hf ((Spec.applies_iff_loose hf).mp happ).1 ⟨rfl, State.Warmed39.refl s, rfl⟩ trivial
  refine ⟨n, _, h1, h2, h3, hpost _ _ _ _ _ _ ⟨Cond.after_iff.mpr rfl, Cond.after_iff.mpr (eq_i res_at (Term.int_eval (1)) rfl), trivial⟩ ⟨hq.1, hq.2.1, (hq.2.2.sift fun y hy => Or.inr (N y hy)).mono (by decide) (by decide)⟩⟩
theorem main_1_1 : Claimed_1_1 := comes_1 fun _ _ _ _ _ _ h hF => ⟨h.1, hF⟩
theorem main_1_2 : Claimed_1_2 := comes_1 fun _ _ _ _ _ _ h hF => ⟨h.2.1, hF⟩
end Jvm.Pilot.@@N@@
namespace Jvm.Pilot.@@N@@
open Jvm Jvm.ClassFile Sem Op Lib Jvm.Free Jvm.Stand Jvm.Pilot.@@N@@.Jvm.D
/-! MADE BY PROGRAM (witnessworld.py) out of the Statement's table words and the real class files: 10 classes; the members and pool entries that the words name. The judged class is class 1, her method 1. -/
namespace start1
open Jvm.ClassFile
def u (s : String) : CpInfo := .utf8 (stringToUtf16 s)
/-- a pool by its gaps: so many unusable entries, then the entry; so many at the end -/
def gap : Nat → List CpInfo → List CpInfo
  | 0, r => r
  | n + 1, r => .unusable :: gap n r
def poolList (es : List (Nat × CpInfo)) (last : Nat) : List CpInfo := es.foldr (fun e r => gap e.1 (e.2 :: r)) (gap last [])
def pool (es : List (Nat × CpInfo)) (last : Nat) : Array CpInfo := ⟨poolList es last⟩
def fileOf (pool : Array CpInfo) (this : Nat) (attrs : Array Attribute := #[]) (ms : Array MethodInfo := #[]) (fl : Nat := 33) (sup : Nat := 0) (ifs : Array Nat := #[]) (fds : Array FieldInfo := #[]) : ClassFile where
  minorVersion := 0
  majorVersion := 65
  constantPool := pool
  accessFlags := fl
  thisClass := this
  superClass := sup
  interfaces := ifs
  fields := fds
  methods := ms
  attributes := attrs
def plain (name : String) (sup : Option ClassId) : Class where
  name := name
  kind := .ordinary
  loader := none
  accessFlags := 33
  super := sup
  interfaces := #[]
  cf := none
  fields := #[]
  methods := #[]
  instanceTypes := #[]
  staticTypes := #[]
  resolved := #[]
  callSites := []
  init := .initialized
  statics := none
  mirror := none

def pool0 : Array CpInfo := pool [(5, u "<init>"), (0, u "()V"), (1, .class_ 10), (1, u "java/lang/Object")] 113

def k0m0 : Method := { name := "<init>", desc := "()V", sig := { parameters := [], returnType := none }, accessFlags := 1, code := none }
/-- java/lang/Object -/
def k0 : Class := { plain "java/lang/Object" none with
  accessFlags := 33
  interfaces := #[]
  cf := some (fileOf pool0 8 #[] #[{ accessFlags := 1, nameIndex := 5, descriptorIndex := 6, attributes := #[] }] 33 0 #[] #[])
  fields := #[]
  methods := #[k0m0]
  instanceTypes := #[]
  staticTypes := #[]
  resolved := Array.replicate 124 none
  statics := none }

def pool1 : Array CpInfo := pool [(2, .class_ 4), (1, u "java/lang/Object"), (0, u "<init>"), (0, u "()V"), (0, .integer 65535), (0, .methodref 9 10), (0, .class_ 11), (0, .nameAndType 12 13), (0, u "com/example/typeloom/typeloom/idl/Lexer"), (0, u "isIdentifierStart"), (0, u "(C)Z"), (0, .class_ 15), (0, u "com/example/typeloom/typeloom/idl/LexerIsIdentifierStartPinLaw"), (2, u "law"), (0, u "(I)Z")] 3

def k1m0 : Method := { name := "<init>", desc := "()V", sig := { parameters := [], returnType := none }, accessFlags := 1, code := none }
def k1c1 : Code := { maxStack := 2, maxLocals := 5, code := code, exceptionTable := #[], attributes := #[] }
def k1m1 : Method := { name := "law", desc := "(I)Z", sig := { parameters := [.int], returnType := some .boolean }, accessFlags := 9, code := some k1c1 }
/-- com/example/typeloom/typeloom/idl/LexerIsIdentifierStartPinLaw -/
def k1 : Class := { plain "com/example/typeloom/typeloom/idl/LexerIsIdentifierStartPinLaw" (some 0) with
  accessFlags := 49
  interfaces := #[]
  cf := some (fileOf pool1 14 #[] #[{ accessFlags := 1, nameIndex := 5, descriptorIndex := 6, attributes := #[] }, { accessFlags := 9, nameIndex := 18, descriptorIndex := 19, attributes := #[] }] 49 2 #[] #[])
  fields := #[]
  methods := #[k1m0, k1m1]
  instanceTypes := #[]
  staticTypes := #[]
  resolved := Array.replicate 23 none
  statics := none }

def pool2 : Array CpInfo := pool [(15, .class_ 16), (0, u "com/example/typeloom/typeloom/idl/TokenSource$1"), (3, .class_ 21), (0, u "com/example/typeloom/typeloom/idl/TokenSource"), (0, .class_ 23), (0, u "java/lang/Object")] 14

/-- com/example/typeloom/typeloom/idl/TokenSource -/
def k2 : Class := { plain "com/example/typeloom/typeloom/idl/TokenSource" (some 0) with
  accessFlags := 1536
  interfaces := #[]
  cf := some (fileOf pool2 20 #[.nestMembers #[15]] #[] 1536 22 #[] #[])
  fields := #[]
  methods := #[]
  instanceTypes := #[]
  staticTypes := #[]
  resolved := Array.replicate 38 none
  statics := none }

def pool3 : Array CpInfo := pool [(2, .class_ 4), (1, u "com/example/typeloom/typeloom/idl/Lexer"), (3, .class_ 10), (1, u "java/lang/Object"), (3, u "line"), (0, u "I"), (2, u "column"), (2, u "file"), (0, u "Ljava/lang/String;"), (2, u "text"), (2, u "identifiers"), (0, u "Lcom/example/typeloom/typeloom/idl/Identifier$Table;"), (2, u "lineStart"), (0, u "Z"), (2, u "peeked"), (0, u "Lcom/example/typeloom/typeloom/idl/Token;"), (9, u "offset"), (5, u "spaced"), (33, u "isIdentifierStart"), (0, u "(C)Z"), (88, u "INTEGER"), (0, u "Ljava/util/regex/Pattern;"), (16, u "FLOATING"), (25, u "LONG_PUNCTUATORS"), (0, u "Ljava/util/List;"), (37, u "PREPROCESSING_PUNCTUATORS"), (0, u "Ljava/util/Set;"), (115, .class_ 378), (0, u "com/example/typeloom/typeloom/idl/TokenSource"), (2, u "SINGLE_PUNCTUATORS")] 44

def k3c0 : Code := { maxStack := 2, maxLocals := 1, code := prog_10_method_20_code, exceptionTable := #[], attributes := #[] }
def k3m0 : Method := { name := "isIdentifierStart", desc := "(C)Z", sig := { parameters := [.char], returnType := some .boolean }, accessFlags := 8, code := some k3c0 }
/-- com/example/typeloom/typeloom/idl/Lexer -/
def k3 : Class := { plain "com/example/typeloom/typeloom/idl/Lexer" (some 0) with
  accessFlags := 48
  interfaces := #[2]
  cf := some (fileOf pool3 2 #[] #[{ accessFlags := 8, nameIndex := 87, descriptorIndex := 88, attributes := #[] }] 48 8 #[377] #[{ accessFlags := 26, nameIndex := 177, descriptorIndex := 178, attributes := #[] }, { accessFlags := 26, nameIndex := 195, descriptorIndex := 178, attributes := #[] }, { accessFlags := 26, nameIndex := 221, descriptorIndex := 222, attributes := #[] }, { accessFlags := 26, nameIndex := 381, descriptorIndex := 22, attributes := #[] }, { accessFlags := 26, nameIndex := 260, descriptorIndex := 261, attributes := #[] }, { accessFlags := 18, nameIndex := 21, descriptorIndex := 22, attributes := #[] }, { accessFlags := 18, nameIndex := 25, descriptorIndex := 22, attributes := #[] }, { accessFlags := 18, nameIndex := 28, descriptorIndex := 29, attributes := #[] }, { accessFlags := 2, nameIndex := 47, descriptorIndex := 15, attributes := #[] }, { accessFlags := 2, nameIndex := 14, descriptorIndex := 15, attributes := #[] }, { accessFlags := 2, nameIndex := 18, descriptorIndex := 15, attributes := #[] }, { accessFlags := 2, nameIndex := 32, descriptorIndex := 33, attributes := #[] }, { accessFlags := 2, nameIndex := 53, descriptorIndex := 33, attributes := #[] }, { accessFlags := 2, nameIndex := 36, descriptorIndex := 37, attributes := #[] }])
  fields := #[{ name := "INTEGER", type := (.object "java/util/regex/Pattern"), accessFlags := 26, slot := 0, constantValue := 0 }, { name := "FLOATING", type := (.object "java/util/regex/Pattern"), accessFlags := 26, slot := 1, constantValue := 0 }, { name := "LONG_PUNCTUATORS", type := (.object "java/util/List"), accessFlags := 26, slot := 2, constantValue := 0 }, { name := "SINGLE_PUNCTUATORS", type := (.object "java/lang/String"), accessFlags := 26, slot := 3, constantValue := 0 }, { name := "PREPROCESSING_PUNCTUATORS", type := (.object "java/util/Set"), accessFlags := 26, slot := 4, constantValue := 0 }, { name := "file", type := (.object "java/lang/String"), accessFlags := 18, slot := 0, constantValue := 0 }, { name := "text", type := (.object "java/lang/String"), accessFlags := 18, slot := 1, constantValue := 0 }, { name := "identifiers", type := (.object "com/example/typeloom/typeloom/idl/Identifier$Table"), accessFlags := 18, slot := 2, constantValue := 0 }, { name := "offset", type := .int, accessFlags := 2, slot := 3, constantValue := 0 }, { name := "line", type := .int, accessFlags := 2, slot := 4, constantValue := 0 }, { name := "column", type := .int, accessFlags := 2, slot := 5, constantValue := 0 }, { name := "lineStart", type := .boolean, accessFlags := 2, slot := 6, constantValue := 0 }, { name := "spaced", type := .boolean, accessFlags := 2, slot := 7, constantValue := 0 }, { name := "peeked", type := (.object "com/example/typeloom/typeloom/idl/Token"), accessFlags := 2, slot := 8, constantValue := 0 }]
  methods := #[k3m0]
  instanceTypes := #[(.object "java/lang/String"), (.object "java/lang/String"), (.object "com/example/typeloom/typeloom/idl/Identifier$Table"), .int, .int, .int, .boolean, .boolean, (.object "com/example/typeloom/typeloom/idl/Token")]
  staticTypes := #[(.object "java/util/regex/Pattern"), (.object "java/util/regex/Pattern"), (.object "java/util/List"), (.object "java/lang/String"), (.object "java/util/Set")]
  resolved := Array.replicate 426 none
  statics := none }

def pool4 : Array CpInfo := pool [(1, u "java/lang/Cloneable"), (0, .class_ 1), (0, u "java/lang/Object"), (0, .class_ 3)] 3

/-- java/lang/Cloneable -/
def k4 : Class := { plain "java/lang/Cloneable" (some 0) with
  accessFlags := 1537
  interfaces := #[]
  cf := some (fileOf pool4 2 #[] #[] 1537 4 #[] #[])
  fields := #[]
  methods := #[]
  instanceTypes := #[]
  staticTypes := #[]
  resolved := Array.replicate 8 none
  statics := none }

def pool5 : Array CpInfo := pool [(1, u "java/io/Serializable"), (0, .class_ 1), (0, u "java/lang/Object"), (0, .class_ 3)] 3

/-- java/io/Serializable -/
def k5 : Class := { plain "java/io/Serializable" (some 0) with
  accessFlags := 1537
  interfaces := #[]
  cf := some (fileOf pool5 2 #[] #[] 1537 4 #[] #[])
  fields := #[]
  methods := #[]
  instanceTypes := #[]
  staticTypes := #[]
  resolved := Array.replicate 8 none
  statics := none }

/-- the primitive byte -/
def k6 : Class := { plain "byte" none with kind := .primitive 'B', accessFlags := 0x411 }
/-- [B -/
def k7 : Class := { plain "[B" (some 0) with kind := .array 6 .byte, interfaces := #[4, 5], accessFlags := 1041 }

/-- the primitive int -/
def k8 : Class := { plain "int" none with kind := .primitive 'I', accessFlags := 0x411 }
/-- [I -/
def k9 : Class := { plain "[I" (some 0) with kind := .array 8 .int, interfaces := #[4, 5], accessFlags := 1041 }

def heap : Heap := #[]
def classes : Array Class := #[k0, k1, k2, k3, k4, k5, k6, k7, k8, k9]
def interned : List (Array UInt16 × Addr) := []
def slotsUsed : Nat := 0
def theMethod : MethodId := ⟨1, 1⟩
def args0 : Array Value := #[.int 5]
def aboutOver (below : List Frame) : State where
  vm := { classes := classes, interned := interned.toArray }
  heap := heap
  slotsUsed := slotsUsed
  threads := #[{ frames := .invoking theMethod args0 :: below }]
def below0 : List Frame := [.native { method := ⟨0, 0⟩, args := #[] }]
def about1 : State := aboutOver below0
def p0 : Program := .bare "" "" ""
def e0 : Env := launch0.env 0 0 0
theorem w_frames : about1.frames = Frame.invoking theMethod args0 :: below0 := rfl
set_option maxRecDepth 65536 in
theorem w_args : argsFit about1.vm theMethod args0 = true := by decide +kernel
set_option maxRecDepth 65536 in
theorem w_heap : heapFits about1 = true := by decide +kernel
set_option maxRecDepth 65536 in
theorem w_runnable : about1.curStatus? = some .runnable := by decide +kernel
set_option maxRecDepth 65536 in
theorem w_alone : about1.alone = true := by decide +kernel
set_option maxRecDepth 65536 in
theorem w_named : about1.methodNamed? x = some theMethod := by decide +kernel
set_option maxRecDepth 65536 in
theorem w_hears : about1.hears theMethod below0 = true := by decide +kernel
set_option maxRecDepth 65536 in
theorem w_ripe : about1.ripe theMethod args0 below0 = true := by decide +kernel
theorem w_running : about1.status = .running := rfl
set_option maxRecDepth 65536 in
theorem w_room : about1.hasRoom e0.platform room_1 = true :=
  launch0.hasRoom_least _ room_1 (by decide +kernel) (by decide +kernel) (by decide +kernel) (by decide +kernel) (by decide +kernel) (by decide +kernel)
theorem allAtoms_all (ts : List Jvm.Cond) (a : Array Jvm.Value) (st : Jvm.State) : (allAtoms ts).before a st = ts.all (fun c => c.before a st) := by
  induction ts with
  | nil => rfl
  | cons c t ih =>
    show (Jvm.Cond.and c (allAtoms t)).before a st = _
    rw [Jvm.Cond.before_and, ih, List.all_cons]
def words1 : List Jvm.Cond := Jvm.Cond.code x code maxLocals ret :: tables_1
/-- a 'code' word, met by the world's own term for the bytes: nothing is compared byte by byte -/
theorem code_word {y : MethodName} {bytes : ByteArray} {mx : Nat} {rt : Option FieldType} {a : Array Value} {s : State} {m : MethodId} {meth : Method} {c : Code} (h1 : s.methodNamed? y = some m) (h2 : s.vm.method? m = some meth) (h3 : meth.code = some c) (h4 : c.code = bytes)
    (h5 : (c.maxLocals == mx && c.exceptionTable.isEmpty && decide (c.maxStack ≤ mostOperands) && decide (meth.sig.returnType = rt) && !meth.locks && decide (parseMethodDescriptor y.desc = some meth.sig)) = true) : (Jvm.Cond.code y bytes mx rt).before a s = true := by
  simp only [Bool.and_eq_true, beq_iff_eq, Bool.not_eq_true', decide_eq_true_eq] at h5
  obtain ⟨⟨⟨⟨⟨g1, g2⟩, g3⟩, g4⟩, g5⟩, g6⟩ := h5
  simp [Cond.before, Cond.holds, Cond.value, h1, h2, h3, h4, g1, g2, g3, g4, g5, g6]
def isCode : Jvm.Cond → Bool
  | .code _ _ _ _ => true
  | _ => false
theorem all_split {L : List Jvm.Cond} {P : Jvm.Cond → Bool} (h1 : L.all (fun c => isCode c || P c) = true) (h2 : ∀ c ∈ L.filter isCode, P c = true) : L.all P = true := by
  refine List.all_eq_true.mpr fun c hc => ?_
  have h := List.all_eq_true.mp h1 c hc
  rcases Bool.eq_false_or_eq_true (isCode c) with hi | hi
  · exact h2 c (List.mem_filter.mpr ⟨hc, hi⟩)
  · simpa [hi] using h
set_option maxRecDepth 65536 in
theorem w_c0 : (Jvm.Cond.code x code maxLocals ret).before args0 about1 = true := code_word (m := ⟨1, 1⟩) (meth := k1m1) (c := k1c1) (by decide +kernel) rfl rfl rfl (by decide +kernel)
set_option maxRecDepth 65536 in
theorem w_c1 : (Jvm.Cond.code ({ cls := "com/example/typeloom/typeloom/idl/Lexer", name := "isIdentifierStart", desc := "(C)Z" } : Jvm.MethodName) prog_10_method_20_code (1 : Nat) (Option.some Jvm.ClassFile.FieldType.boolean)).before args0 about1 = true := code_word (m := ⟨3, 0⟩) (meth := k3m0) (c := k3c0) (by decide +kernel) rfl rfl rfl (by decide +kernel)
def codes1 : List Jvm.Cond := [Jvm.Cond.code x code maxLocals ret, Jvm.Cond.code ({ cls := "com/example/typeloom/typeloom/idl/Lexer", name := "isIdentifierStart", desc := "(C)Z" } : Jvm.MethodName) prog_10_method_20_code (1 : Nat) (Option.some Jvm.ClassFile.FieldType.boolean)]
set_option maxRecDepth 65536 in
theorem codes_eq : words1.filter isCode = codes1 := rfl
theorem w_codes : ∀ c ∈ words1.filter isCode, c.before args0 about1 = true := by
  rw [codes_eq]
  intro c hc
  simp only [codes1, List.mem_cons, List.not_mem_nil, or_false] at hc
  rcases hc with rfl | rfl
  · exact w_c0
  · exact w_c1
set_option maxRecDepth 65536 in
theorem w_t1 : words1.all (fun c => isCode c || c.before args0 about1) = true := by decide +kernel
theorem w_tables : (allAtoms (Jvm.Cond.code x code maxLocals ret :: tables_1)).before args0 about1 = true := by
  rw [allAtoms_all]
  show words1.all (fun c => c.before args0 about1) = true
  refine all_split ?_ w_codes
  rw [w_t1]
set_option maxRecDepth 65536 in
theorem w_case : (Jvm.Cond.and given_1 narrow_1).before args0 about1 = true := by decide +kernel
theorem w_applies : (headSpec (Jvm.Cond.code x code maxLocals ret :: tables_1) room_1).applies x e0.platform about1 = true :=
  (Spec.applies_iff w_frames).mpr ⟨w_running, w_runnable, w_alone, w_named, w_hears, w_ripe, w_room, w_tables⟩
theorem atStart : AtStart classFile x code maxLocals ret World_1 tables_1 room_1 Calls_1 rest_1 Pre_1 launch0 p0 e0 about1 theMethod args0 below0 :=
  ⟨lists_1, trivial, launch0.admits_env _ _ _, launch0.least_env, fairChoices_fair.cas, fairChoices_fair.clock, w_frames, w_args, w_heap, w_applies, trivial, trivial, w_case⟩
end start1
theorem witness_1 : WitnessClaimed_1 := ⟨start1.p0, start1.e0, start1.about1, start1.theMethod, start1.args0, start1.below0, start1.atStart⟩
end Jvm.Pilot.@@N@@
