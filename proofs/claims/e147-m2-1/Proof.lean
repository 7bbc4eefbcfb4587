import JvmDerived
import JvmDerived.Pilot.@@N@@Statement
import JvmDerived.Pilot.@@N@@Code
set_option linter.unusedVariables false
set_option linter.unusedSimpArgs false
namespace Jvm.Pilot.@@N@@
open Jvm Jvm.ClassFile Sem Op Lib Jvm.Free Jvm.Stand Jvm.LawKit Jvm.RoadKit Bundle Jvm.Pilot.@@N@@.Jvm.D
/-! own kit: a walk that goes forward, step by step, and may fork anywhere (Go); a body's contract (Con); calls by contract; arrays by their list of values (Ary) -/
def Go (p : Program) (e : Env) (below : List Frame) (s : State) (k n : Nat) (Q : Option Value → Heap → List Loc → Prop) (S : State) : Prop :=
  ∃ (U : State) (o : Outcome), Steps p.tables e below S U ∧ U.status = .running ∧ Ended U below o ∧ ∃ v L, o = .returned v ∧ Q v U.heap L ∧ FrameEnd s o U L k n
section Own
variable {p : Program} {l : Launch} {e : Env} {R : Room} {s : State} {m : MethodId} {args : Array Value} {below : List Frame} {meth : Method} {c : Code} {T : State} {locs : List Loc} {cells slots : Nat} {Z : State} {a0 : Array Value} {h h' : Heap} {k n : Nat} {Q : Option Value → Heap → List Loc → Prop} {S S' : State}
theorem Go.st (f : ∀ t, Steps p.tables e below S' t → Steps p.tables e below S t) (g : Go p e below s k n Q S') : Go p e below s k n Q S := by
  obtain ⟨U, o, h1, r⟩ := g
  exact ⟨U, o, f _ h1, r⟩
theorem Go.cast {g g' : JFrame} (q : g = g') (k' : Go p e below s k n Q (T.setTop g')) : Go p e below s k n Q (T.setTop g) := q ▸ k'
theorem Go.ret (X : Stand p l e R s m args below meth c T locs cells slots) (hlk : meth.locks = false) {v : Option Value} (hv : meth.sig.returnType = none → v = none)
    (step : ∀ fs, (∀ (f : JFrame) (acts : List Action), f.method = m → f.locked = none → f.entered = [] → (doReturn e (T.setTop f) acts v).1 = T.setFrames fs) → Steps p.tables e below S (T.setFrames fs))
    (hk : cells ≤ k) (hn : slots ≤ n) (hQ : Q v T.heap locs) : Go p e below s k n Q S := by
  obtain ⟨fs, hr, hrun, hended, hW, hsame⟩ := X.leave (v := v) hv hlk
  exact ⟨_, _, step fs hr, hrun, hended, v, locs, rfl, hQ, ⟨_, rfl⟩, hW, hsame.mono hk hn⟩
theorem Go.retI (X : Stand p l e R s m args below meth c T locs cells slots) (hx : p.tables.exec = Jvm.exec) (hlk : meth.locks = false) (hret : meth.sig.returnType = some .int) {pc : Nat} {Ls : Array Slot} {z : Int32} {rest : List Value} (hd : decode c.code pc = .ok (.ireturn, 1))
    (hk : cells ≤ k) (hn : slots ≤ n) (hQ : Q (some (.int z)) T.heap locs) : Go p e below s k n Q (T.setTop (mkF m pc Ls (.int z :: rest))) :=
  Go.ret X hlk (fun q => by rw [hret] at q; cases q) (fun fs hr => retOut X hx hret rfl (Or.inl ⟨rfl, Or.inl rfl, z, rfl⟩) hd hr) hk hn hQ
theorem Go.retN (X : Stand p l e R s m args below meth c T locs cells slots) (hx : p.tables.exec = Jvm.exec) (hlk : meth.locks = false) {t : FieldType} (hret : meth.sig.returnType = some t) (ht : t = .boolean ∨ t = .byte ∨ t = .char ∨ t = .short) {pc : Nat} {Ls : Array Slot} {z : Int32} {rest : List Value} (hd : decode c.code pc = .ok (.ireturn, 1))
    (hk : cells ≤ k) (hn : slots ≤ n) (hQ : Q (some (.int (nar t z))) T.heap locs) : Go p e below s k n Q (T.setTop (mkF m pc Ls (.int z :: rest))) :=
  Go.ret X hlk (fun q => by rw [hret] at q; cases q) (fun fs hr => Jvm.RoadKit.retN X hx hret ht hd hr) hk hn hQ
theorem Go.retL (X : Stand p l e R s m args below meth c T locs cells slots) (hx : p.tables.exec = Jvm.exec) (hlk : meth.locks = false) (hret : meth.sig.returnType = some .long) {pc : Nat} {Ls : Array Slot} {z : Int64} {rest : List Value} (hd : decode c.code pc = .ok (.lreturn, 1))
    (hk : cells ≤ k) (hn : slots ≤ n) (hQ : Q (some (.long z)) T.heap locs) : Go p e below s k n Q (T.setTop (mkF m pc Ls (.long z :: rest))) :=
  Go.ret X hlk (fun q => by rw [hret] at q; cases q) (fun fs hr => retOut X hx hret rfl (Or.inr (Or.inl ⟨rfl, rfl, z, rfl⟩)) hd hr) hk hn hQ
theorem own_narR {t : FieldType} {w : Value} (h1 : t.isReference = true) (h2 : w.isRef = true) : narrow t w = w := by
  rcases ref_cases h2 with rfl | ⟨a, rfl⟩ <;> cases t <;> first | rfl | (simp [FieldType.isReference] at h1)
theorem Go.retA (X : Stand p l e R s m args below meth c T locs cells slots) (hx : p.tables.exec = Jvm.exec) (hlk : meth.locks = false) {t : FieldType} (hret : meth.sig.returnType = some t) (ht : t.isReference = true) {pc : Nat} {Ls : Array Slot} {w : Value} {rest : List Value} (hw : w.isRef = true) (hd : decode c.code pc = .ok (.areturn, 1))
    (hk : cells ≤ k) (hn : slots ≤ n) (hQ : Q (some w) T.heap locs) : Go p e below s k n Q (T.setTop (mkF m pc Ls (w :: rest))) :=
  Go.ret X hlk (fun q => by rw [hret] at q; cases q) (fun fs hr => retOut X hx hret (own_narR ht hw) (Or.inr (Or.inr (Or.inr (Or.inr ⟨rfl, ht, hw⟩)))) hd hr) hk hn hQ
theorem Go.retV (X : Stand p l e R s m args below meth c T locs cells slots) (hx : p.tables.exec = Jvm.exec) (hlk : meth.locks = false) (hret : meth.sig.returnType = none) {pc : Nat} {Ls : Array Slot} (hd : decode c.code pc = .ok (.return_, 1))
    (hk : cells ≤ k) (hn : slots ≤ n) (hQ : Q none T.heap locs) : Go p e below s k n Q (T.setTop (mkF m pc Ls [])) :=
  Go.ret X hlk (fun _ => rfl) (fun fs hr => X.returnOut hx hret hd hr) hk hn hQ
/-- what a body leaves, for every start that is warmer than Z's, its heap h0, its arguments as' -/
def Con (l : Launch) (Z : State) (y : MethodName) (bytes : ByteArray) (maxL : Nat) (ret : Option FieldType) (rm : Room) (as' : Array Value) (h0 : Heap) (Q : Option Value → Heap → List Loc → Prop) : Prop :=
  ∀ ws : List Jvm.Cond, MetFree l y (head1 (Jvm.Cond.code y bytes maxL ret :: ws) rm) (fun a U => a = as' ∧ Z.Warmed39 U.vm ∧ U.heap = h0) (fun _ _ _ _ _ => True) (fun _ U o U' => ∃ v L, o = .returned v ∧ Q v U'.heap L ∧ FrameEnd U o U' L rm.cells rm.slots)
theorem Con.of {y : MethodName} {bytes : ByteArray} {maxL : Nat} {ret : Option FieldType} {rm : Room} {as' : Array Value} {h0 : Heap} (hp : plainFor y = true)
    (body : ∀ (p : Program) (e : Env) (s : State) (m : MethodId) (below : List Frame) (meth : Method) (c : Code) (s₁ : State), Stand p l e rm s m as' below meth c s₁ [] 0 0 → p.tables.exec = Jvm.exec → c.code = bytes → c.maxLocals = maxL → Z.Warmed39 s.vm → s.vm.findClass y.cls = some m.cls → meth.name = y.name → meth.sig.returnType = ret → meth.locks = false → s₁.heap = h0 →
      Go p e below s rm.cells rm.slots Q (s₁.setTop (entryFrame m as' maxL))) : Con l Z y bytes maxL ret rm as' h0 Q := by
  intro ws
  refine MetFree.of_bodySF hp hisR ?_
  intro p e s m args below meth c s₁ Bd hml hP hK
  obtain ⟨rfl, hZ, hh⟩ := hP
  obtain ⟨U, o, h1, h2, h3, h4⟩ := body p e s m below meth c s₁ (Stand.of_body Bd) Bd.exec Bd.bytes hml hZ (findClass_of_methodNamed Bd.named) (name_of_methodNamed Bd.named Bd.method).1 Bd.returns Bd.notSynchronized (by rw [← hh, Bd.state]; rfl)
  exact ⟨U, o, h1, h2, h3, h4⟩
theorem Con.imp {y : MethodName} {bytes : ByteArray} {maxL : Nat} {ret : Option FieldType} {rm : Room} {as' : Array Value} {h0 : Heap} {Q' : Option Value → Heap → List Loc → Prop} (hC : Con l Z y bytes maxL ret rm as' h0 Q) (hq : ∀ v h L, Q v h L → Q' v h L) : Con l Z y bytes maxL ret rm as' h0 Q' := by
  intro ws p e ha hc hk s m args below hf happ hP hK
  obtain ⟨n, o, h1, h2, h3, v, L, h4, h5, h6⟩ := hC ws p e ha hc hk s m args below hf happ hP hK
  exact ⟨n, o, h1, h2, h3, v, L, h4, hq _ _ _ h5, h6⟩
theorem own_callS (X : Stand p l e R s m args below meth c T locs cells slots) (hx : p.tables.exec = Jvm.exec) (hZ : Z.Warmed39 s.vm) {own : String} {index : Nat} {y : MethodName} {bytes : ByteArray} {maxL : Nat} {ret : Option FieldType} {rm : Room}
    (hown : s.vm.findClass own = some m.cls) (w1 : (Jvm.Cond.methodLink own index y).before a0 Z = true) (w2 : (Jvm.Cond.static y).before a0 Z = true) (w3 : (Jvm.Cond.initialized y.cls).before a0 Z = true) (w4 : (Jvm.Cond.code y bytes maxL ret).before a0 Z = true)
    (hy : y.cls ≠ "java/lang/invoke/MethodHandle" ∧ y.cls ≠ "java/lang/invoke/VarHandle") (eT : T.heap = h) {argsL rest : List Value} (hC : Con l Z y bytes maxL ret rm argsL.toArray h Q)
    {g : JFrame} (hg : g.method = m) (hsize : g.locals.size = c.maxLocals) (hlen : ∀ sig, parseMethodDescriptor y.desc = some sig → argsL.length = sig.parameters.length) (hstack : g.stack = argsL.reverse ++ rest) (hd : decode c.code g.pc = .ok (.invokestatic index, 3))
    {W : Nat} (hW : 2 * g.monitorRoom + (rest.map fun v => v.category).sum ≤ W) (hf : rm.frames + 1 ≤ R.frames) (hl : W + (maxL + 11) + rm.locals ≤ R.locals) (hc : cells + rm.cells ≤ R.cells) (hs : slots + rm.slots ≤ R.slots) :
    ∃ v T' h' L, Stand p l e R s m args below meth c T' (locs ++ L) (cells + rm.cells) (slots + rm.slots) ∧ T'.heap = h' ∧ Q v h' L ∧ ∀ target, Steps p.tables e below (T'.setTop { g with pc := g.pc + 3, stack := v.toList ++ rest }) target → Steps p.tables e below (T.setTop g) target := by
  obtain ⟨v, _, ⟨T', L', k', n'⟩, -, X', ⟨Lc, hQ, l', y', z'⟩, st⟩ := Jvm.LawKit.callS X hx (y := y) hown (mvT hZ w1) (mvT hZ w2) (mvT hZ w3) (mvT hZ w4) hy (backOf (W := W) (hC []) hZ w4 w3 hf hl) hg hsize (argsL := argsL) (rest := rest) hlen hstack hW hd (fun _ _ => ⟨rfl, eT, hc, hs⟩)
  dsimp only [Pt.U, Pt.locs, Pt.cells, Pt.slots] at X' l' y' z' st hQ
  subst l' y' z'
  exact ⟨v, T', _, Lc, X', rfl, hQ, st⟩
theorem own_callN (X : Stand p l e R s m args below meth c T locs cells slots) (hx : p.tables.exec = Jvm.exec) (hZ : Z.Warmed39 s.vm) {own : String} {index : Nat} {y : MethodName} {bytes : ByteArray} {maxL : Nat} {rm : Room} (hy1 : y.name = "<init>")
    (hown : s.vm.findClass own = some m.cls) (w1 : (Jvm.Cond.methodLink own index y).before a0 Z = true) (w2 : (Jvm.Cond.instanceMethod y).before a0 Z = true) (w3 : (Jvm.Cond.initialized y.cls).before a0 Z = true) (w4 : (Jvm.Cond.code y bytes maxL none).before a0 Z = true)
    (hy : y.cls ≠ "java/lang/invoke/MethodHandle" ∧ y.cls ≠ "java/lang/invoke/VarHandle") (eT : T.heap = h) {a : Addr} {argsL rest : List Value} (hC : Con l Z y bytes maxL none rm (.ref a :: argsL).toArray h Q)
    {g : JFrame} (hg : g.method = m) (hsize : g.locals.size = c.maxLocals) (hlen : ∀ sig, parseMethodDescriptor y.desc = some sig → argsL.length = sig.parameters.length) (hstack : g.stack = argsL.reverse ++ .ref a :: rest) (hd : decode c.code g.pc = .ok (.invokespecial index, 3))
    {W : Nat} (hW : 2 * g.monitorRoom + (rest.map fun v => v.category).sum ≤ W) (hf : rm.frames + 1 ≤ R.frames) (hl : W + (maxL + 11) + rm.locals ≤ R.locals) (hc : cells + rm.cells ≤ R.cells) (hs : slots + rm.slots ≤ R.slots) :
    ∃ v T' h' L, Stand p l e R s m args below meth c T' (locs ++ L) (cells + rm.cells) (slots + rm.slots) ∧ T'.heap = h' ∧ Q v h' L ∧ ∀ target, Steps p.tables e below (T'.setTop { g with pc := g.pc + 3, stack := v.toList ++ rest }) target → Steps p.tables e below (T.setTop g) target := by
  obtain ⟨v, _, ⟨T', L', k', n'⟩, -, X', ⟨Lc, hQ, l', y', z'⟩, st⟩ := X.specialBack hx (y := y) hy1 hown (mvT hZ w1) (mvT hZ w2) (mvT hZ w4) hy (backOf (W := W) (hC []) hZ w4 w3 hf hl) hg hsize (Steps.refl _) (a := a) (argsL := argsL) (rest := rest) hlen hstack hW hd (fun _ _ => ⟨rfl, eT, hc, hs⟩)
  dsimp only [Pt.U, Pt.locs, Pt.cells, Pt.slots] at X' l' y' z' st hQ
  subst l' y' z'
  exact ⟨v, T', _, Lc, X', rfl, hQ, fun t ht => st.trans ht⟩
theorem own_callV (X : Stand p l e R s m args below meth c T locs cells slots) (hx : p.tables.exec = Jvm.exec) (hZ : Z.Warmed39 s.vm) {own C : String} {index : Nat} {y z : MethodName} {bytes : ByteArray} {maxL : Nat} {ret : Option FieldType} {rm : Room}
    (hown : s.vm.findClass own = some m.cls) (w1 : (Jvm.Cond.methodLink own index y).before a0 Z = true) (w2 : (Jvm.Cond.declares y).before a0 Z = true) (w5 : (Jvm.Cond.selects y.cls y y).before a0 Z = true) (w6 : (Jvm.Cond.selects C y z).before a0 Z = true) (w7 : (Jvm.Cond.instanceMethod z).before a0 Z = true) (w3 : (Jvm.Cond.initialized z.cls).before a0 Z = true) (w4 : (Jvm.Cond.code z bytes maxL ret).before a0 Z = true)
    (hy : y.cls ≠ "java/lang/invoke/MethodHandle" ∧ y.cls ≠ "java/lang/invoke/VarHandle") (eT : T.heap = h) {a : Addr} (E : Exa Z h a C) {argsL rest : List Value} (hC : Con l Z z bytes maxL ret rm (.ref a :: argsL).toArray h Q)
    {g : JFrame} (hg : g.method = m) (hsize : g.locals.size = c.maxLocals) (hlen : ∀ sig, parseMethodDescriptor y.desc = some sig → argsL.length = sig.parameters.length) (hstack : g.stack = argsL.reverse ++ .ref a :: rest) (hd : decode c.code g.pc = .ok (.invokevirtual index, 3))
    {W : Nat} (hW : 2 * g.monitorRoom + (rest.map fun v => v.category).sum ≤ W) (hf : rm.frames + 1 ≤ R.frames) (hl : W + (maxL + 11) + rm.locals ≤ R.locals) (hc : cells + rm.cells ≤ R.cells) (hs : slots + rm.slots ≤ R.slots) :
    ∃ v T' h' L, Stand p l e R s m args below meth c T' (locs ++ L) (cells + rm.cells) (slots + rm.slots) ∧ T'.heap = h' ∧ Q v h' L ∧ ∀ target, Steps p.tables e below (T'.setTop { g with pc := g.pc + 3, stack := v.toList ++ rest }) target → Steps p.tables e below (T.setTop g) target := by
  obtain ⟨cq, kq, qa, qb, qc⟩ := isOf hZ eT E
  obtain ⟨v, _, ⟨T', L', k', n'⟩, -, X', ⟨Lc, hQ, l', y', z'⟩, st⟩ := X.virtualBack hx (y := y) (z := z) hown (mvT hZ w1) (mvT hZ w2) (notFace_of_selects (args := #[]) (mvT hZ w5)) (mvT hZ w6) (mvT hZ w7) hy (backOf (W := W) (hC []) hZ w4 w3 hf hl) qa qc hg hsize (Steps.refl _) (argsL := argsL) (rest := rest) hlen hstack hW hd (fun _ _ => ⟨rfl, eT, hc, hs⟩)
  dsimp only [Pt.U, Pt.locs, Pt.cells, Pt.slots] at X' l' y' z' st hQ
  subst l' y' z'
  exact ⟨v, T', _, Lc, X', rfl, hQ, fun t ht => st.trans ht⟩
theorem own_ne {a b : Nat} (h : a < b ∨ b < a) : a ≠ b := by omega
theorem own_ltE {a : Nat} {C : String} (F : Exa Z h a C) : a < h.size := F.lt
theorem own_ltF {a : Nat} {C n d : String} {v : Value} (F : Fld Z h a C n d v) : a < h.size := F.lt
/-! arrays by their list of values -/
def Ary (Z : State) (h : Heap) (a : Addr) (ty : FieldType) (vs : List Value) : Prop := ∃ c : Cell, Arr Z h a c ty ∧ c.slots.toList = vs ∧ vs.length < 2 ^ 31
variable {a b : Addr} {ty : FieldType} {vs : List Value} {sl : Nat} {v w : Value} {ws : List Addr} {j : Int32}
theorem Ary.lt (F : Ary Z h a ty vs) : a < h.size := by obtain ⟨c, A, -⟩ := F; exact A.lt
theorem own_ltA {a : Nat} (F : Ary Z h a ty vs) : a < h.size := F.lt
theorem Ary.ext (F : Ary Z h a ty vs) (E : Ext h h') : Ary Z h' a ty vs := by obtain ⟨c, A, r⟩ := F; exact ⟨c, A.ext E, r⟩
theorem Ary.other (F : Ary Z h b ty vs) (W : Wr h h' a sl v) (q : b ≠ a) : Ary Z h' b ty vs := by obtain ⟨c, A, r⟩ := F; exact ⟨c, A.other W q, r⟩
theorem Ary.keep (F : Ary Z h a ty vs) (K : Keep h h' ws) (q : a ∉ ws) : Ary Z h' a ty vs := by obtain ⟨c, A, r⟩ := F; exact ⟨c, ⟨K.2.1 a c A.1 q, A.2⟩, r⟩
theorem Ary.set (F : Ary Z h a ty vs) (W : Wr h h' a sl v) : Ary Z h' a ty (vs.set sl v) := by
  obtain ⟨c, A, r, hl⟩ := F
  refine ⟨_, A.same W, ?_, by simpa using hl⟩
  subst r
  simp [Cell.setSlot]
theorem own_in {j : Int32} (h0 : 0 ≤ j.toInt) : j.toInt = (j.toNatClampNeg : Int) := nat_of (fun q => by rw [Int32.lt_iff_toInt_lt] at q; have : (0 : Int32).toInt = 0 := rfl; omega)
theorem own_inb {c : Cell} (r : c.slots.toList = vs) (h0 : 0 ≤ j.toInt) (h1 : j.toInt < vs.length) : ¬ (j < 0 ∨ c.slots.size ≤ j.toNatClampNeg) := by
  have e := own_in h0
  have e2 : c.slots.size = vs.length := by rw [← r]; simp
  have z : (0 : Int32).toInt = 0 := rfl
  rintro (q | q)
  · rw [Int32.lt_iff_toInt_lt] at q; omega
  · omega
theorem Ary.new {cA : ClassId} {z : Int32} (A : Arr Z h a (newA cA ty z) ty) (q : z.toNatClampNeg < 2 ^ 31) : Ary Z h a ty (List.replicate z.toNatClampNeg (defaultValue ty)) := ⟨_, A, by simp [newA], by simpa using q⟩
theorem own_newP (X : Stand p l e R s m args below meth c T locs cells slots) (hx : p.tables.exec = Jvm.exec) (hZ : Z.Warmed39 s.vm) {aty : ArrayType} {ty : FieldType} (hty : newarray.typeOf aty = ty) (w : (Jvm.Cond.arrayClass ty).before a0 Z = true) (eT : T.heap = h) {g : JFrame} (hg : g.method = m) (hd : decode c.code g.pc = .ok (.newarray aty, 2)) {n : Int32} {rest : List Value} (hs : g.stack = .int n :: rest)
    (hn : 0 ≤ n.toInt) {cap : Nat} (hcap : n.toInt ≤ cap) (hb : cap * 8 ≤ 536870912) (hc : cells + 1 ≤ R.cells) (hl : slots + cap ≤ R.slots) :
    ∃ T' h', Stand p l e R s m args below meth c T' locs (cells + 1) (slots + cap) ∧ T'.heap = h' ∧ Ext h h' ∧ Ary Z h' h.size ty (List.replicate n.toNatClampNeg (defaultValue ty)) ∧
      ∀ target, Steps p.tables e below (T'.setTop { g with pc := g.pc + 2, stack := .ref h.size :: rest }) target → Steps p.tables e below (T.setTop g) target := by
  subst hty
  have e1 := own_in hn
  have z : (0 : Int32).toInt = 0 := rfl
  obtain ⟨T', h', cA, X', e', E', A', st⟩ := newP X hx hZ w eT hg hd hs (fun q => by rw [Int32.lt_iff_toInt_lt] at q; omega) (cap := cap) (by omega) hb hc hl
  exact ⟨T', h', X', e', E', Ary.new A' (by omega), st⟩
theorem own_len (X : Stand p l e R s m args below meth c T locs cells slots) (hx : p.tables.exec = Jvm.exec) (hZ : Z.Warmed39 s.vm) (eT : T.heap = h) (F : Ary Z h a ty vs) {g : JFrame} (hg : g.method = m) {rest : List Value} (hs : g.stack = .ref a :: rest) (hd : decode c.code g.pc = .ok (.arraylength, 1)) :
    ∀ target, Steps p.tables e below (T.setTop { g with pc := g.pc + 1, stack := .int vs.length.toInt32 :: rest }) target → Steps p.tables e below (T.setTop g) target := by
  obtain ⟨c, A, r, hl⟩ := F
  intro t ht
  have e2 : c.slots.size = vs.length := by rw [← r]; simp
  exact X.arraylength hx (by rw [eT]; exact A.1) (State.isArrayOf_alike hZ.alike A.2.1) hg hs hd t (by rw [e2]; exact ht)
theorem own_at {c : Cell} (r : c.slots.toList = vs) (hv : vs[j.toNatClampNeg]? = some v) : c.slots[j.toNatClampNeg]? = some v := by
  subst r; simpa using hv
theorem own_ldI (X : Stand p l e R s m args below meth c T locs cells slots) (hx : p.tables.exec = Jvm.exec) (hZ : Z.Warmed39 s.vm) (eT : T.heap = h) (F : Ary Z h a .int vs) (h0 : 0 ≤ j.toInt) (h1 : j.toInt < vs.length) (hv : vs[j.toNatClampNeg]? = some v) {g : JFrame} (hg : g.method = m) {rest : List Value} (hs : g.stack = .int j :: .ref a :: rest) (hd : decode c.code g.pc = .ok (.iaload, 1)) :
    ∀ target, Steps p.tables e below (T.setTop { g with pc := g.pc + 1, stack := v :: rest }) target → Steps p.tables e below (T.setTop g) target := by
  obtain ⟨c, A, r, hl⟩ := F
  exact X.iaload hx (by rw [eT]; exact A.1) (State.isArrayOf_alike hZ.alike A.2.1) A.2.2 (own_inb r h0 h1) (own_at r hv) hg hs hd
theorem own_ldJ (X : Stand p l e R s m args below meth c T locs cells slots) (hx : p.tables.exec = Jvm.exec) (hZ : Z.Warmed39 s.vm) (eT : T.heap = h) (F : Ary Z h a .long vs) (h0 : 0 ≤ j.toInt) (h1 : j.toInt < vs.length) (hv : vs[j.toNatClampNeg]? = some v) {g : JFrame} (hg : g.method = m) {rest : List Value} (hs : g.stack = .int j :: .ref a :: rest) (hd : decode c.code g.pc = .ok (.laload, 1)) :
    ∀ target, Steps p.tables e below (T.setTop { g with pc := g.pc + 1, stack := v :: rest }) target → Steps p.tables e below (T.setTop g) target := by
  obtain ⟨c, A, r, hl⟩ := F
  exact X.laload hx (by rw [eT]; exact A.1) (State.isArrayOf_alike hZ.alike A.2.1) A.2.2 (own_inb r h0 h1) (own_at r hv) hg hs hd
theorem own_ldC (X : Stand p l e R s m args below meth c T locs cells slots) (hx : p.tables.exec = Jvm.exec) (hZ : Z.Warmed39 s.vm) (eT : T.heap = h) (F : Ary Z h a .char vs) (h0 : 0 ≤ j.toInt) (h1 : j.toInt < vs.length) (hv : vs[j.toNatClampNeg]? = some v) {g : JFrame} (hg : g.method = m) {rest : List Value} (hs : g.stack = .int j :: .ref a :: rest) (hd : decode c.code g.pc = .ok (.caload, 1)) :
    ∀ target, Steps p.tables e below (T.setTop { g with pc := g.pc + 1, stack := v :: rest }) target → Steps p.tables e below (T.setTop g) target := by
  obtain ⟨c, A, r, hl⟩ := F
  exact X.caload hx (by rw [eT]; exact A.1) (State.isArrayOf_alike hZ.alike A.2.1) A.2.2 (own_inb r h0 h1) (own_at r hv) hg hs hd
theorem own_ldB (X : Stand p l e R s m args below meth c T locs cells slots) (hx : p.tables.exec = Jvm.exec) (hZ : Z.Warmed39 s.vm) (eT : T.heap = h) (F : Ary Z h a .byte vs) (h0 : 0 ≤ j.toInt) (h1 : j.toInt < vs.length) (hv : vs[j.toNatClampNeg]? = some v) {g : JFrame} (hg : g.method = m) {rest : List Value} (hs : g.stack = .int j :: .ref a :: rest) (hd : decode c.code g.pc = .ok (.baload, 1)) :
    ∀ target, Steps p.tables e below (T.setTop { g with pc := g.pc + 1, stack := v :: rest }) target → Steps p.tables e below (T.setTop g) target := by
  obtain ⟨c, A, r, hl⟩ := F
  exact X.baloadBytes hx (by rw [eT]; exact A.1) (State.isArrayOf_alike hZ.alike A.2.1) A.2.2 (own_inb r h0 h1) (own_at r hv) hg hs hd
theorem own_ldR (X : Stand p l e R s m args below meth c T locs cells slots) (hx : p.tables.exec = Jvm.exec) (hZ : Z.Warmed39 s.vm) (eT : T.heap = h) (F : Ary Z h a ty vs) (hr : ty.isReference = true) (h0 : 0 ≤ j.toInt) (h1 : j.toInt < vs.length) (hv : vs[j.toNatClampNeg]? = some v) {g : JFrame} (hg : g.method = m) {rest : List Value} (hs : g.stack = .int j :: .ref a :: rest) (hd : decode c.code g.pc = .ok (.aaload, 1)) :
    ∀ target, Steps p.tables e below (T.setTop { g with pc := g.pc + 1, stack := v :: rest }) target → Steps p.tables e below (T.setTop g) target := by
  obtain ⟨c, A, r, hl⟩ := F
  exact X.aaload hx (by rw [eT]; exact A.1) (State.isArrayOf_alike hZ.alike A.2.1) hr A.2.2 (own_inb r h0 h1) (own_at r hv) hg hs hd
theorem own_stI (X : Stand p l e R s m args below meth c T locs cells slots) (hx : p.tables.exec = Jvm.exec) (hZ : Z.Warmed39 s.vm) (eT : T.heap = h) (F : Ary Z h a .int vs) {x : Int32} (h0 : 0 ≤ j.toInt) (h1 : j.toInt < vs.length) {g : JFrame} (hg : g.method = m) {rest : List Value} (hs : g.stack = .int x :: .int j :: .ref a :: rest) (hd : decode c.code g.pc = .ok (.iastore, 1)) :
    ∃ T' h', Stand p l e R s m args below meth c T' (locs ++ [⟨a, j.toNatClampNeg⟩]) cells slots ∧ T'.heap = h' ∧ Wr h h' a j.toNatClampNeg (.int x) ∧ Ary Z h' a .int (vs.set j.toNatClampNeg (.int x)) ∧ ∀ target, Steps p.tables e below (T'.setTop { g with pc := g.pc + 1, stack := rest }) target → Steps p.tables e below (T.setTop g) target := by
  have F' := F
  obtain ⟨c, A, r, hl⟩ := F
  obtain ⟨T', h', X', e', W', st⟩ := stI X hx hZ eT A (own_inb r h0 h1) hg hs hd
  exact ⟨T', h', X', e', W', F'.set W', st⟩
theorem own_stJ (X : Stand p l e R s m args below meth c T locs cells slots) (hx : p.tables.exec = Jvm.exec) (hZ : Z.Warmed39 s.vm) (eT : T.heap = h) (F : Ary Z h a .long vs) {x : Int64} (h0 : 0 ≤ j.toInt) (h1 : j.toInt < vs.length) {g : JFrame} (hg : g.method = m) {rest : List Value} (hs : g.stack = .long x :: .int j :: .ref a :: rest) (hd : decode c.code g.pc = .ok (.lastore, 1)) :
    ∃ T' h', Stand p l e R s m args below meth c T' (locs ++ [⟨a, j.toNatClampNeg⟩]) cells slots ∧ T'.heap = h' ∧ Wr h h' a j.toNatClampNeg (.long x) ∧ Ary Z h' a .long (vs.set j.toNatClampNeg (.long x)) ∧ ∀ target, Steps p.tables e below (T'.setTop { g with pc := g.pc + 1, stack := rest }) target → Steps p.tables e below (T.setTop g) target := by
  have F' := F
  obtain ⟨c, A, r, hl⟩ := F
  obtain ⟨T', h', X', e', W', st⟩ := stJ X hx hZ eT A (own_inb r h0 h1) hg hs hd
  exact ⟨T', h', X', e', W', F'.set W', st⟩
theorem own_stC (X : Stand p l e R s m args below meth c T locs cells slots) (hx : p.tables.exec = Jvm.exec) (hZ : Z.Warmed39 s.vm) (eT : T.heap = h) (F : Ary Z h a .char vs) {x : Int32} (h0 : 0 ≤ j.toInt) (h1 : j.toInt < vs.length) {g : JFrame} (hg : g.method = m) {rest : List Value} (hs : g.stack = .int x :: .int j :: .ref a :: rest) (hd : decode c.code g.pc = .ok (.castore, 1)) :
    ∃ T' h', Stand p l e R s m args below meth c T' (locs ++ [⟨a, j.toNatClampNeg⟩]) cells slots ∧ T'.heap = h' ∧ Wr h h' a j.toNatClampNeg (.int (nar .char x)) ∧ Ary Z h' a .char (vs.set j.toNatClampNeg (.int (nar .char x))) ∧ ∀ target, Steps p.tables e below (T'.setTop { g with pc := g.pc + 1, stack := rest }) target → Steps p.tables e below (T.setTop g) target := by
  have F' := F
  obtain ⟨c, A, r, hl⟩ := F
  obtain ⟨T', h', X', e', W', st⟩ := stC X hx hZ eT A (own_inb r h0 h1) hg hs hd
  exact ⟨T', h', X', e', W', F'.set W', st⟩
theorem own_stB (X : Stand p l e R s m args below meth c T locs cells slots) (hx : p.tables.exec = Jvm.exec) (hZ : Z.Warmed39 s.vm) (eT : T.heap = h) (F : Ary Z h a .byte vs) {x : Int32} (h0 : 0 ≤ j.toInt) (h1 : j.toInt < vs.length) {g : JFrame} (hg : g.method = m) {rest : List Value} (hs : g.stack = .int x :: .int j :: .ref a :: rest) (hd : decode c.code g.pc = .ok (.bastore, 1)) :
    ∃ T' h', Stand p l e R s m args below meth c T' (locs ++ [⟨a, j.toNatClampNeg⟩]) cells slots ∧ T'.heap = h' ∧ Wr h h' a j.toNatClampNeg (.int (nar .byte x)) ∧ Ary Z h' a .byte (vs.set j.toNatClampNeg (.int (nar .byte x))) ∧ ∀ target, Steps p.tables e below (T'.setTop { g with pc := g.pc + 1, stack := rest }) target → Steps p.tables e below (T.setTop g) target := by
  have F' := F
  obtain ⟨c, A, r, hl⟩ := F
  obtain ⟨T', h', X', e', W', st⟩ := stB X hx hZ eT A (own_inb r h0 h1) hg hs hd
  exact ⟨T', h', X', e', W', F'.set W', st⟩
theorem own_stR (X : Stand p l e R s m args below meth c T locs cells slots) (hx : p.tables.exec = Jvm.exec) (hZ : Z.Warmed39 s.vm) (eT : T.heap = h) (F : Ary Z h a ty vs) (hr : ty.isReference = true) (G : Sto Z h a v) (h0 : 0 ≤ j.toInt) (h1 : j.toInt < vs.length) {g : JFrame} (hg : g.method = m) {rest : List Value} (hs : g.stack = v :: .int j :: .ref a :: rest) (hd : decode c.code g.pc = .ok (.aastore, 1)) :
    ∃ T' h', Stand p l e R s m args below meth c T' (locs ++ [⟨a, j.toNatClampNeg⟩]) cells slots ∧ T'.heap = h' ∧ Wr h h' a j.toNatClampNeg v ∧ Ary Z h' a ty (vs.set j.toNatClampNeg v) ∧ ∀ target, Steps p.tables e below (T'.setTop { g with pc := g.pc + 1, stack := rest }) target → Steps p.tables e below (T.setTop g) target := by
  have F' := F
  obtain ⟨c, A, r, hl⟩ := F
  obtain ⟨T', h', X', e', W', st⟩ := stR X hx hZ eT A (own_inb r h0 h1) hr G hg hs hd
  exact ⟨T', h', X', e', W', F'.set W', st⟩
def Ovy (Z : State) (h : Heap) (a : Addr) (C : String) : Prop := ∃ c : Cell, h[a]? = some c ∧ Ovr Z c.cls C
theorem Ovy.ext {C : String} (F : Ovy Z h a C) (E : Ext h h') : Ovy Z h' a C := by obtain ⟨c, q, r⟩ := F; exact ⟨c, E.2 _ _ q, r⟩
theorem Ovy.keep {C : String} (F : Ovy Z h a C) (K : Keep h h' ws) : Ovy Z h' a C := by
  obtain ⟨c, q, r⟩ := F
  obtain ⟨c', q', r', -⟩ := K.2.2 _ _ q
  exact ⟨c', q', by rw [r']; exact r⟩
theorem Ovy.wr {C : String} (F : Ovy Z h a C) (W : Wr h h' b sl v) : Ovy Z h' a C := F.keep (Keep.of_wr W)
theorem own_sto {C : String} {y : Addr} (F : Ary Z h a ty vs) (O : Ovy Z h a C) (I : Ins Z h y C true) : Sto Z h a (.ref y) := by
  obtain ⟨c, A, -⟩ := F
  obtain ⟨c', q, r⟩ := O
  cases A.1.symm.trans q
  exact Sto.of A r I
theorem own_newR (X : Stand p l e R s m args below meth c T locs cells slots) (hx : p.tables.exec = Jvm.exec) (hZ : Z.Warmed39 s.vm) {own C : String} {index : Nat} (hown : s.vm.findClass own = some m.cls) (w1 : (Jvm.Cond.classLink own index C).before a0 Z = true) (w2 : (Jvm.Cond.arrayOver (.object C)).before a0 Z = true) (eT : T.heap = h) {g : JFrame} (hg : g.method = m) (hd : decode c.code g.pc = .ok (.anewarray index, 3)) {n : Int32} {rest : List Value} (hs : g.stack = .int n :: rest)
    (hn : 0 ≤ n.toInt) {cap : Nat} (hcap : n.toInt ≤ cap) (hb : cap * 8 ≤ 536870912) (hc : cells + 1 ≤ R.cells) (hl : slots + cap ≤ R.slots) :
    ∃ T' h', Stand p l e R s m args below meth c T' locs (cells + 1) (slots + cap) ∧ T'.heap = h' ∧ Ext h h' ∧ Ary Z h' h.size (.object C) (List.replicate n.toNatClampNeg .null) ∧ Ovy Z h' h.size C ∧
      ∀ target, Steps p.tables e below (T'.setTop { g with pc := g.pc + 3, stack := .ref h.size :: rest }) target → Steps p.tables e below (T.setTop g) target := by
  have e1 := own_in hn
  have z : (0 : Int32).toInt = 0 := rfl
  obtain ⟨T', h', cA, X', e', E', A', O', st⟩ := newR X hx hZ hown w1 w2 eT hg hd hs (fun q => by rw [Int32.lt_iff_toInt_lt] at q; omega) (cap := cap) (by omega) hb hc hl
  exact ⟨T', h', X', e', E', Ary.new A' (by omega), ⟨_, A'.1, O'⟩, st⟩
theorem own_ldc (X : Stand p l e R s m args below meth c T locs cells slots) (hx : p.tables.exec = Jvm.exec) (hZ : Z.Warmed39 s.vm) {own : String} {index : Nat} {x : Int32} (hown : s.vm.findClass own = some m.cls) (w : (Jvm.Cond.constant own index x).before a0 Z = true) {g : JFrame} (hg : g.method = m) (hd : decode c.code g.pc = .ok (.ldc index, 2)) :
    ∀ target, Steps p.tables e below (T.setTop { g with pc := g.pc + 2, stack := .int x :: g.stack }) target → Steps p.tables e below (T.setTop g) target := fun t ht => X.ldcI hx hown (mvT hZ w) hg hd ht
end Own

/-! the plain law -/
def own_isc (c : Int32) : Int32 := if c = 9 ∨ c = 10 ∨ c = 13 ∨ (¬ c < 32 ∧ ¬ 55295 < c) ∨ (¬ c < 57344 ∧ ¬ 65533 < c) ∨ (¬ c < 65536 ∧ ¬ 1114111 < c) then 1 else 0
theorem own_isc1 {c : Int32} (h : c = 9 ∨ c = 10 ∨ c = 13 ∨ (¬ c < 32 ∧ ¬ 55295 < c) ∨ (¬ c < 57344 ∧ ¬ 65533 < c) ∨ (¬ c < 65536 ∧ ¬ 1114111 < c)) : own_isc c = 1 := by rw [own_isc, if_pos h]
theorem own_isc0 {c : Int32} (h : ¬ (c = 9 ∨ c = 10 ∨ c = 13 ∨ (¬ c < 32 ∧ ¬ 55295 < c) ∨ (¬ c < 57344 ∧ ¬ 65533 < c) ∨ (¬ c < 65536 ∧ ¬ 1114111 < c))) : own_isc c = 0 := by rw [own_isc, if_neg h]
def own_ints : List Value → Prop
  | [] => True
  | v :: r => (∃ x, v = .int x) ∧ own_ints r
theorem own_ints_at : ∀ (vs : List Value) (i : Nat), own_ints vs → i < vs.length → ∃ x : Int32, vs[i]? = some (.int x)
  | [], i, _, h => absurd h (Nat.not_lt_zero i)
  | v :: r, 0, ⟨⟨x, e⟩, _⟩, _ => ⟨x, by rw [e]; rfl⟩
  | v :: r, i + 1, ⟨_, q⟩, h => by
    obtain ⟨x, e⟩ := own_ints_at r i q (by simpa using h)
    exact ⟨x, by simpa using e⟩
theorem own_idx (k : Int32) : 0 ≤ ((k &&& 2147483647) % 15).toInt ∧ ((k &&& 2147483647) % 15).toInt < 15 := by
  have h1 := c_mask k 2147483647 31 (by decide) (by decide)
  have z : (2147483647 : Int32).toInt = 2147483647 := by decide
  have h3 := (c_irem (k &&& 2147483647) 15 15 (by decide)).1 (by omega)
  omega
theorem own_q (n : Int) : n = n ↔ True := by simp
theorem own_n9 : (9 : Int32).toInt = 9 := by decide
theorem own_n10 : (10 : Int32).toInt = 10 := by decide
theorem own_n13 : (13 : Int32).toInt = 13 := by decide
theorem own_n32 : (32 : Int32).toInt = 32 := by decide
theorem own_n55295 : (55295 : Int32).toInt = 55295 := by decide
theorem own_n55296 : (55296 : Int32).toInt = 55296 := by decide
theorem own_n57343 : (57343 : Int32).toInt = 57343 := by decide
theorem own_n57344 : (57344 : Int32).toInt = 57344 := by decide
theorem own_n65533 : (65533 : Int32).toInt = 65533 := by decide
theorem own_n65534 : (65534 : Int32).toInt = 65534 := by decide
theorem own_n65535 : (65535 : Int32).toInt = 65535 := by decide
theorem own_n65536 : (65536 : Int32).toInt = 65536 := by decide
theorem own_n1114111 : (1114111 : Int32).toInt = 1114111 := by decide

theorem ef_rmI (m : MethodId) (p1 : Int32) : entryFrame m #[(.int p1)] 1 = mkF m 0 #[.val (.int p1)] [] := by first | (simp [entryFrame, mkF, argsToLocals, Value.category]; done) | rfl
theorem pf_0 : plainFor (⟨"com/example/items_in_arrays/itemsinarrays/xdm/XmlNames", "isCharacter", "(I)Z"⟩ : MethodName) = true := plainFor_of_name (by first | (simp [plainName, overriddenIn]; done) | decide +kernel)
theorem d1_0 : decode prog_48_method_6_code 0 = .ok (.iload_n 0, 1) := by decide +kernel
theorem d1_1 : decode prog_48_method_6_code 1 = .ok (.bipush 9, 2) := by decide +kernel
theorem d1_3 : decode prog_48_method_6_code 3 = .ok (.if_icmp .eq 51, 3) := by decide +kernel
theorem d1_6 : decode prog_48_method_6_code 6 = .ok (.iload_n 0, 1) := by decide +kernel
theorem d1_7 : decode prog_48_method_6_code 7 = .ok (.bipush 10, 2) := by decide +kernel
theorem d1_9 : decode prog_48_method_6_code 9 = .ok (.if_icmp .eq 45, 3) := by decide +kernel
theorem d1_12 : decode prog_48_method_6_code 12 = .ok (.iload_n 0, 1) := by decide +kernel
theorem d1_13 : decode prog_48_method_6_code 13 = .ok (.bipush 13, 2) := by decide +kernel
theorem d1_15 : decode prog_48_method_6_code 15 = .ok (.if_icmp .eq 39, 3) := by decide +kernel
theorem d1_18 : decode prog_48_method_6_code 18 = .ok (.iload_n 0, 1) := by decide +kernel
theorem d1_19 : decode prog_48_method_6_code 19 = .ok (.bipush 32, 2) := by decide +kernel
theorem d1_21 : decode prog_48_method_6_code 21 = .ok (.if_icmp .lt 9, 3) := by decide +kernel
theorem d1_24 : decode prog_48_method_6_code 24 = .ok (.iload_n 0, 1) := by decide +kernel
theorem d1_25 : decode prog_48_method_6_code 25 = .ok (.ldc 25, 2) := by decide +kernel
theorem d1_27 : decode prog_48_method_6_code 27 = .ok (.if_icmp .le 27, 3) := by decide +kernel
theorem d1_30 : decode prog_48_method_6_code 30 = .ok (.iload_n 0, 1) := by decide +kernel
theorem d1_31 : decode prog_48_method_6_code 31 = .ok (.ldc 26, 2) := by decide +kernel
theorem d1_33 : decode prog_48_method_6_code 33 = .ok (.if_icmp .lt 9, 3) := by decide +kernel
theorem d1_36 : decode prog_48_method_6_code 36 = .ok (.iload_n 0, 1) := by decide +kernel
theorem d1_37 : decode prog_48_method_6_code 37 = .ok (.ldc 27, 2) := by decide +kernel
theorem d1_39 : decode prog_48_method_6_code 39 = .ok (.if_icmp .le 15, 3) := by decide +kernel
theorem d1_42 : decode prog_48_method_6_code 42 = .ok (.iload_n 0, 1) := by decide +kernel
theorem d1_43 : decode prog_48_method_6_code 43 = .ok (.ldc 28, 2) := by decide +kernel
theorem d1_45 : decode prog_48_method_6_code 45 = .ok (.if_icmp .lt 13, 3) := by decide +kernel
theorem d1_48 : decode prog_48_method_6_code 48 = .ok (.iload_n 0, 1) := by decide +kernel
theorem d1_49 : decode prog_48_method_6_code 49 = .ok (.ldc 31, 2) := by decide +kernel
theorem d1_51 : decode prog_48_method_6_code 51 = .ok (.if_icmp .gt 7, 3) := by decide +kernel
theorem d1_54 : decode prog_48_method_6_code 54 = .ok (.iconst 1, 1) := by decide +kernel
theorem d1_55 : decode prog_48_method_6_code 55 = .ok (.goto 4, 3) := by decide +kernel
theorem d1_58 : decode prog_48_method_6_code 58 = .ok (.iconst 0, 1) := by decide +kernel
theorem d1_59 : decode prog_48_method_6_code 59 = .ok (.ireturn, 1) := by decide +kernel
set_option maxRecDepth 65536 in
set_option maxHeartbeats 4000000 in
theorem rmI (l : Launch) (Z : State) (a0 : Array Value) (hw : ∀ d ∈ tables_1, d.before a0 Z = true) (p1 : Int32) (h0 : Heap) (n0 : Nat) (Z0 : n0 ≤ h0.size)  :
    Con l Z (⟨"com/example/items_in_arrays/itemsinarrays/xdm/XmlNames", "isCharacter", "(I)Z"⟩ : MethodName) prog_48_method_6_code 1 (some .boolean) ({ frames := 0, cells := 0, slots := 0, locals := 0 } : Room) #[(.int p1)] h0 (fun v h L => v = some (.int (own_isc p1)) ∧ Fr n0 L ∧ h = h0) := by
  refine Con.of pf_0 ?_
  intro p e s m below meth c T0 X0 hx hby hml hZ hown hnm hret hlk e0
  have hown : s.vm.findClass "com/example/items_in_arrays/itemsinarrays/xdm/XmlNames" = some m.cls := hown
  have hnm : meth.name = "isCharacter" := hnm
  have N0 := Fr.nil n0
  refine Go.cast (ef_rmI m p1) ?_
  refine Go.st (S' := T0.setTop (mkF m 1 #[.val (.int p1)] [(.int p1)])) (fun t hr => XS.iloadN X0.here hx rfl (hb hby d1_0) rfl hr) ?_
  refine Go.st (S' := T0.setTop (mkF m 3 #[.val (.int p1)] [(.int (9 : Int32)), (.int p1)])) (fun t hr => XS.bipush X0.here hx rfl (hb hby d1_1) hr) ?_
  by_cases hc1 : p1 = (9 : Int32)
  · refine Go.st (S' := T0.setTop (mkF m 54 #[.val (.int p1)] [])) (fun t hr => XS.icmpYes X0.here hx rfl (pc0 := 3) (pc' := 54) rfl (hb hby d1_3) rfl (XT.ii_eq_t hc1) (by decide) (by decide) hr) ?_
    refine Go.st (S' := T0.setTop (mkF m 55 #[.val (.int p1)] [(.int (1 : Int32))])) (fun t hr => XS.iconst X0.here hx rfl (hb hby d1_54) hr) ?_
    refine Go.st (S' := T0.setTop (mkF m 59 #[.val (.int p1)] [(.int (1 : Int32))])) (fun t hr => XS.goto X0.here hx rfl (pc0 := 55) (pc' := 59) rfl (hb hby d1_55) (by decide) (by decide) hr) ?_
    refine Go.retN X0 hx hlk (t := .boolean) hret (by simp) (hb hby d1_59) (by decide) (by decide) ?_
    try rw [e0]
    refine ⟨?_, N0, rfl⟩
    have hfin : p1 = 9 ∨ p1 = 10 ∨ p1 = 13 ∨ (¬ p1 < 32 ∧ ¬ 55295 < p1) ∨ (¬ p1 < 57344 ∧ ¬ 65533 < p1) ∨ (¬ p1 < 65536 ∧ ¬ 1114111 < p1) := by
      simp only [Int32.lt_iff_toInt_lt, ← Int32.toInt_inj, own_n9, own_n10, own_n13, own_n32, own_n55295, own_n55296, own_n57343, own_n57344, own_n65533, own_n65534, own_n65535, own_n65536, own_n1114111] at hc1 ⊢
      omega
    rw [own_isc1 hfin]; rfl
  · refine Go.st (S' := T0.setTop (mkF m 6 #[.val (.int p1)] [])) (fun t hr => XS.icmpNo X0.here hx rfl (hb hby d1_3) rfl (XT.ii_eq_f hc1) hr) ?_
    refine Go.st (S' := T0.setTop (mkF m 7 #[.val (.int p1)] [(.int p1)])) (fun t hr => XS.iloadN X0.here hx rfl (hb hby d1_6) rfl hr) ?_
    refine Go.st (S' := T0.setTop (mkF m 9 #[.val (.int p1)] [(.int (10 : Int32)), (.int p1)])) (fun t hr => XS.bipush X0.here hx rfl (hb hby d1_7) hr) ?_
    by_cases hc2 : p1 = (10 : Int32)
    · refine Go.st (S' := T0.setTop (mkF m 54 #[.val (.int p1)] [])) (fun t hr => XS.icmpYes X0.here hx rfl (pc0 := 9) (pc' := 54) rfl (hb hby d1_9) rfl (XT.ii_eq_t hc2) (by decide) (by decide) hr) ?_
      refine Go.st (S' := T0.setTop (mkF m 55 #[.val (.int p1)] [(.int (1 : Int32))])) (fun t hr => XS.iconst X0.here hx rfl (hb hby d1_54) hr) ?_
      refine Go.st (S' := T0.setTop (mkF m 59 #[.val (.int p1)] [(.int (1 : Int32))])) (fun t hr => XS.goto X0.here hx rfl (pc0 := 55) (pc' := 59) rfl (hb hby d1_55) (by decide) (by decide) hr) ?_
      refine Go.retN X0 hx hlk (t := .boolean) hret (by simp) (hb hby d1_59) (by decide) (by decide) ?_
      try rw [e0]
      refine ⟨?_, N0, rfl⟩
      have hfin : p1 = 9 ∨ p1 = 10 ∨ p1 = 13 ∨ (¬ p1 < 32 ∧ ¬ 55295 < p1) ∨ (¬ p1 < 57344 ∧ ¬ 65533 < p1) ∨ (¬ p1 < 65536 ∧ ¬ 1114111 < p1) := by
        simp only [Int32.lt_iff_toInt_lt, ← Int32.toInt_inj, own_n9, own_n10, own_n13, own_n32, own_n55295, own_n55296, own_n57343, own_n57344, own_n65533, own_n65534, own_n65535, own_n65536, own_n1114111] at hc1 hc2 ⊢
        omega
      rw [own_isc1 hfin]; rfl
    · refine Go.st (S' := T0.setTop (mkF m 12 #[.val (.int p1)] [])) (fun t hr => XS.icmpNo X0.here hx rfl (hb hby d1_9) rfl (XT.ii_eq_f hc2) hr) ?_
      refine Go.st (S' := T0.setTop (mkF m 13 #[.val (.int p1)] [(.int p1)])) (fun t hr => XS.iloadN X0.here hx rfl (hb hby d1_12) rfl hr) ?_
      refine Go.st (S' := T0.setTop (mkF m 15 #[.val (.int p1)] [(.int (13 : Int32)), (.int p1)])) (fun t hr => XS.bipush X0.here hx rfl (hb hby d1_13) hr) ?_
      by_cases hc3 : p1 = (13 : Int32)
      · refine Go.st (S' := T0.setTop (mkF m 54 #[.val (.int p1)] [])) (fun t hr => XS.icmpYes X0.here hx rfl (pc0 := 15) (pc' := 54) rfl (hb hby d1_15) rfl (XT.ii_eq_t hc3) (by decide) (by decide) hr) ?_
        refine Go.st (S' := T0.setTop (mkF m 55 #[.val (.int p1)] [(.int (1 : Int32))])) (fun t hr => XS.iconst X0.here hx rfl (hb hby d1_54) hr) ?_
        refine Go.st (S' := T0.setTop (mkF m 59 #[.val (.int p1)] [(.int (1 : Int32))])) (fun t hr => XS.goto X0.here hx rfl (pc0 := 55) (pc' := 59) rfl (hb hby d1_55) (by decide) (by decide) hr) ?_
        refine Go.retN X0 hx hlk (t := .boolean) hret (by simp) (hb hby d1_59) (by decide) (by decide) ?_
        try rw [e0]
        refine ⟨?_, N0, rfl⟩
        have hfin : p1 = 9 ∨ p1 = 10 ∨ p1 = 13 ∨ (¬ p1 < 32 ∧ ¬ 55295 < p1) ∨ (¬ p1 < 57344 ∧ ¬ 65533 < p1) ∨ (¬ p1 < 65536 ∧ ¬ 1114111 < p1) := by
          simp only [Int32.lt_iff_toInt_lt, ← Int32.toInt_inj, own_n9, own_n10, own_n13, own_n32, own_n55295, own_n55296, own_n57343, own_n57344, own_n65533, own_n65534, own_n65535, own_n65536, own_n1114111] at hc1 hc2 hc3 ⊢
          omega
        rw [own_isc1 hfin]; rfl
      · refine Go.st (S' := T0.setTop (mkF m 18 #[.val (.int p1)] [])) (fun t hr => XS.icmpNo X0.here hx rfl (hb hby d1_15) rfl (XT.ii_eq_f hc3) hr) ?_
        refine Go.st (S' := T0.setTop (mkF m 19 #[.val (.int p1)] [(.int p1)])) (fun t hr => XS.iloadN X0.here hx rfl (hb hby d1_18) rfl hr) ?_
        refine Go.st (S' := T0.setTop (mkF m 21 #[.val (.int p1)] [(.int (32 : Int32)), (.int p1)])) (fun t hr => XS.bipush X0.here hx rfl (hb hby d1_19) hr) ?_
        by_cases hc4 : p1 < (32 : Int32)
        · refine Go.st (S' := T0.setTop (mkF m 30 #[.val (.int p1)] [])) (fun t hr => XS.icmpYes X0.here hx rfl (pc0 := 21) (pc' := 30) rfl (hb hby d1_21) rfl (XT.ii_lt_t hc4) (by decide) (by decide) hr) ?_
          refine Go.st (S' := T0.setTop (mkF m 31 #[.val (.int p1)] [(.int p1)])) (fun t hr => XS.iloadN X0.here hx rfl (hb hby d1_30) rfl hr) ?_
          refine Go.st (S' := T0.setTop (mkF m 33 #[.val (.int p1)] [(.int (57344 : Int32)), (.int p1)])) (own_ldc X0 hx hZ hown (index := 26) (x := (57344 : Int32)) (hw _ (List.mem_of_getElem? (i := 16) rfl)) (g := (mkF m 31 #[.val (.int p1)] [(.int p1)])) rfl (hb hby d1_31)) ?_
          by_cases hc5 : p1 < (57344 : Int32)
          · refine Go.st (S' := T0.setTop (mkF m 42 #[.val (.int p1)] [])) (fun t hr => XS.icmpYes X0.here hx rfl (pc0 := 33) (pc' := 42) rfl (hb hby d1_33) rfl (XT.ii_lt_t hc5) (by decide) (by decide) hr) ?_
            refine Go.st (S' := T0.setTop (mkF m 43 #[.val (.int p1)] [(.int p1)])) (fun t hr => XS.iloadN X0.here hx rfl (hb hby d1_42) rfl hr) ?_
            refine Go.st (S' := T0.setTop (mkF m 45 #[.val (.int p1)] [(.int (65536 : Int32)), (.int p1)])) (own_ldc X0 hx hZ hown (index := 28) (x := (65536 : Int32)) (hw _ (List.mem_of_getElem? (i := 17) rfl)) (g := (mkF m 43 #[.val (.int p1)] [(.int p1)])) rfl (hb hby d1_43)) ?_
            by_cases hc6 : p1 < (65536 : Int32)
            · refine Go.st (S' := T0.setTop (mkF m 58 #[.val (.int p1)] [])) (fun t hr => XS.icmpYes X0.here hx rfl (pc0 := 45) (pc' := 58) rfl (hb hby d1_45) rfl (XT.ii_lt_t hc6) (by decide) (by decide) hr) ?_
              refine Go.st (S' := T0.setTop (mkF m 59 #[.val (.int p1)] [(.int (0 : Int32))])) (fun t hr => XS.iconst X0.here hx rfl (hb hby d1_58) hr) ?_
              refine Go.retN X0 hx hlk (t := .boolean) hret (by simp) (hb hby d1_59) (by decide) (by decide) ?_
              try rw [e0]
              refine ⟨?_, N0, rfl⟩
              have hfin : ¬ (p1 = 9 ∨ p1 = 10 ∨ p1 = 13 ∨ (¬ p1 < 32 ∧ ¬ 55295 < p1) ∨ (¬ p1 < 57344 ∧ ¬ 65533 < p1) ∨ (¬ p1 < 65536 ∧ ¬ 1114111 < p1)) := by
                simp only [Int32.lt_iff_toInt_lt, ← Int32.toInt_inj, own_n9, own_n10, own_n13, own_n32, own_n55295, own_n55296, own_n57343, own_n57344, own_n65533, own_n65534, own_n65535, own_n65536, own_n1114111] at hc1 hc2 hc3 hc4 hc5 hc6 ⊢
                omega
              rw [own_isc0 hfin]; rfl
            · refine Go.st (S' := T0.setTop (mkF m 48 #[.val (.int p1)] [])) (fun t hr => XS.icmpNo X0.here hx rfl (hb hby d1_45) rfl (XT.ii_lt_f hc6) hr) ?_
              refine Go.st (S' := T0.setTop (mkF m 49 #[.val (.int p1)] [(.int p1)])) (fun t hr => XS.iloadN X0.here hx rfl (hb hby d1_48) rfl hr) ?_
              refine Go.st (S' := T0.setTop (mkF m 51 #[.val (.int p1)] [(.int (1114111 : Int32)), (.int p1)])) (own_ldc X0 hx hZ hown (index := 31) (x := (1114111 : Int32)) (hw _ (List.mem_of_getElem? (i := 24) rfl)) (g := (mkF m 49 #[.val (.int p1)] [(.int p1)])) rfl (hb hby d1_49)) ?_
              by_cases hc7 : (1114111 : Int32) < p1
              · refine Go.st (S' := T0.setTop (mkF m 58 #[.val (.int p1)] [])) (fun t hr => XS.icmpYes X0.here hx rfl (pc0 := 51) (pc' := 58) rfl (hb hby d1_51) rfl (XT.ii_gt_t hc7) (by decide) (by decide) hr) ?_
                refine Go.st (S' := T0.setTop (mkF m 59 #[.val (.int p1)] [(.int (0 : Int32))])) (fun t hr => XS.iconst X0.here hx rfl (hb hby d1_58) hr) ?_
                refine Go.retN X0 hx hlk (t := .boolean) hret (by simp) (hb hby d1_59) (by decide) (by decide) ?_
                try rw [e0]
                refine ⟨?_, N0, rfl⟩
                have hfin : ¬ (p1 = 9 ∨ p1 = 10 ∨ p1 = 13 ∨ (¬ p1 < 32 ∧ ¬ 55295 < p1) ∨ (¬ p1 < 57344 ∧ ¬ 65533 < p1) ∨ (¬ p1 < 65536 ∧ ¬ 1114111 < p1)) := by
                  simp only [Int32.lt_iff_toInt_lt, ← Int32.toInt_inj, own_n9, own_n10, own_n13, own_n32, own_n55295, own_n55296, own_n57343, own_n57344, own_n65533, own_n65534, own_n65535, own_n65536, own_n1114111] at hc1 hc2 hc3 hc4 hc5 hc6 hc7 ⊢
                  omega
                rw [own_isc0 hfin]; rfl
              · refine Go.st (S' := T0.setTop (mkF m 54 #[.val (.int p1)] [])) (fun t hr => XS.icmpNo X0.here hx rfl (hb hby d1_51) rfl (XT.ii_gt_f hc7) hr) ?_
                refine Go.st (S' := T0.setTop (mkF m 55 #[.val (.int p1)] [(.int (1 : Int32))])) (fun t hr => XS.iconst X0.here hx rfl (hb hby d1_54) hr) ?_
                refine Go.st (S' := T0.setTop (mkF m 59 #[.val (.int p1)] [(.int (1 : Int32))])) (fun t hr => XS.goto X0.here hx rfl (pc0 := 55) (pc' := 59) rfl (hb hby d1_55) (by decide) (by decide) hr) ?_
                refine Go.retN X0 hx hlk (t := .boolean) hret (by simp) (hb hby d1_59) (by decide) (by decide) ?_
                try rw [e0]
                refine ⟨?_, N0, rfl⟩
                have hfin : p1 = 9 ∨ p1 = 10 ∨ p1 = 13 ∨ (¬ p1 < 32 ∧ ¬ 55295 < p1) ∨ (¬ p1 < 57344 ∧ ¬ 65533 < p1) ∨ (¬ p1 < 65536 ∧ ¬ 1114111 < p1) := by
                  simp only [Int32.lt_iff_toInt_lt, ← Int32.toInt_inj, own_n9, own_n10, own_n13, own_n32, own_n55295, own_n55296, own_n57343, own_n57344, own_n65533, own_n65534, own_n65535, own_n65536, own_n1114111] at hc1 hc2 hc3 hc4 hc5 hc6 hc7 ⊢
                  omega
                rw [own_isc1 hfin]; rfl
          · refine Go.st (S' := T0.setTop (mkF m 36 #[.val (.int p1)] [])) (fun t hr => XS.icmpNo X0.here hx rfl (hb hby d1_33) rfl (XT.ii_lt_f hc5) hr) ?_
            refine Go.st (S' := T0.setTop (mkF m 37 #[.val (.int p1)] [(.int p1)])) (fun t hr => XS.iloadN X0.here hx rfl (hb hby d1_36) rfl hr) ?_
            refine Go.st (S' := T0.setTop (mkF m 39 #[.val (.int p1)] [(.int (65533 : Int32)), (.int p1)])) (own_ldc X0 hx hZ hown (index := 27) (x := (65533 : Int32)) (hw _ (List.mem_of_getElem? (i := 23) rfl)) (g := (mkF m 37 #[.val (.int p1)] [(.int p1)])) rfl (hb hby d1_37)) ?_
            by_cases hc8 : (65533 : Int32) < p1
            · refine Go.st (S' := T0.setTop (mkF m 42 #[.val (.int p1)] [])) (fun t hr => XS.icmpNo X0.here hx rfl (hb hby d1_39) rfl (XT.ii_le_f hc8) hr) ?_
              refine Go.st (S' := T0.setTop (mkF m 43 #[.val (.int p1)] [(.int p1)])) (fun t hr => XS.iloadN X0.here hx rfl (hb hby d1_42) rfl hr) ?_
              refine Go.st (S' := T0.setTop (mkF m 45 #[.val (.int p1)] [(.int (65536 : Int32)), (.int p1)])) (own_ldc X0 hx hZ hown (index := 28) (x := (65536 : Int32)) (hw _ (List.mem_of_getElem? (i := 17) rfl)) (g := (mkF m 43 #[.val (.int p1)] [(.int p1)])) rfl (hb hby d1_43)) ?_
              by_cases hc9 : p1 < (65536 : Int32)
              · refine Go.st (S' := T0.setTop (mkF m 58 #[.val (.int p1)] [])) (fun t hr => XS.icmpYes X0.here hx rfl (pc0 := 45) (pc' := 58) rfl (hb hby d1_45) rfl (XT.ii_lt_t hc9) (by decide) (by decide) hr) ?_
                refine Go.st (S' := T0.setTop (mkF m 59 #[.val (.int p1)] [(.int (0 : Int32))])) (fun t hr => XS.iconst X0.here hx rfl (hb hby d1_58) hr) ?_
                refine Go.retN X0 hx hlk (t := .boolean) hret (by simp) (hb hby d1_59) (by decide) (by decide) ?_
                try rw [e0]
                refine ⟨?_, N0, rfl⟩
                have hfin : ¬ (p1 = 9 ∨ p1 = 10 ∨ p1 = 13 ∨ (¬ p1 < 32 ∧ ¬ 55295 < p1) ∨ (¬ p1 < 57344 ∧ ¬ 65533 < p1) ∨ (¬ p1 < 65536 ∧ ¬ 1114111 < p1)) := by
                  simp only [Int32.lt_iff_toInt_lt, ← Int32.toInt_inj, own_n9, own_n10, own_n13, own_n32, own_n55295, own_n55296, own_n57343, own_n57344, own_n65533, own_n65534, own_n65535, own_n65536, own_n1114111] at hc1 hc2 hc3 hc4 hc5 hc8 hc9 ⊢
                  omega
                rw [own_isc0 hfin]; rfl
              · refine Go.st (S' := T0.setTop (mkF m 48 #[.val (.int p1)] [])) (fun t hr => XS.icmpNo X0.here hx rfl (hb hby d1_45) rfl (XT.ii_lt_f hc9) hr) ?_
                refine Go.st (S' := T0.setTop (mkF m 49 #[.val (.int p1)] [(.int p1)])) (fun t hr => XS.iloadN X0.here hx rfl (hb hby d1_48) rfl hr) ?_
                refine Go.st (S' := T0.setTop (mkF m 51 #[.val (.int p1)] [(.int (1114111 : Int32)), (.int p1)])) (own_ldc X0 hx hZ hown (index := 31) (x := (1114111 : Int32)) (hw _ (List.mem_of_getElem? (i := 24) rfl)) (g := (mkF m 49 #[.val (.int p1)] [(.int p1)])) rfl (hb hby d1_49)) ?_
                by_cases hc10 : (1114111 : Int32) < p1
                · refine Go.st (S' := T0.setTop (mkF m 58 #[.val (.int p1)] [])) (fun t hr => XS.icmpYes X0.here hx rfl (pc0 := 51) (pc' := 58) rfl (hb hby d1_51) rfl (XT.ii_gt_t hc10) (by decide) (by decide) hr) ?_
                  refine Go.st (S' := T0.setTop (mkF m 59 #[.val (.int p1)] [(.int (0 : Int32))])) (fun t hr => XS.iconst X0.here hx rfl (hb hby d1_58) hr) ?_
                  refine Go.retN X0 hx hlk (t := .boolean) hret (by simp) (hb hby d1_59) (by decide) (by decide) ?_
                  try rw [e0]
                  refine ⟨?_, N0, rfl⟩
                  have hfin : ¬ (p1 = 9 ∨ p1 = 10 ∨ p1 = 13 ∨ (¬ p1 < 32 ∧ ¬ 55295 < p1) ∨ (¬ p1 < 57344 ∧ ¬ 65533 < p1) ∨ (¬ p1 < 65536 ∧ ¬ 1114111 < p1)) := by
                    simp only [Int32.lt_iff_toInt_lt, ← Int32.toInt_inj, own_n9, own_n10, own_n13, own_n32, own_n55295, own_n55296, own_n57343, own_n57344, own_n65533, own_n65534, own_n65535, own_n65536, own_n1114111] at hc1 hc2 hc3 hc4 hc5 hc8 hc9 hc10 ⊢
                    omega
                  rw [own_isc0 hfin]; rfl
                · refine Go.st (S' := T0.setTop (mkF m 54 #[.val (.int p1)] [])) (fun t hr => XS.icmpNo X0.here hx rfl (hb hby d1_51) rfl (XT.ii_gt_f hc10) hr) ?_
                  refine Go.st (S' := T0.setTop (mkF m 55 #[.val (.int p1)] [(.int (1 : Int32))])) (fun t hr => XS.iconst X0.here hx rfl (hb hby d1_54) hr) ?_
                  refine Go.st (S' := T0.setTop (mkF m 59 #[.val (.int p1)] [(.int (1 : Int32))])) (fun t hr => XS.goto X0.here hx rfl (pc0 := 55) (pc' := 59) rfl (hb hby d1_55) (by decide) (by decide) hr) ?_
                  refine Go.retN X0 hx hlk (t := .boolean) hret (by simp) (hb hby d1_59) (by decide) (by decide) ?_
                  try rw [e0]
                  refine ⟨?_, N0, rfl⟩
                  have hfin : p1 = 9 ∨ p1 = 10 ∨ p1 = 13 ∨ (¬ p1 < 32 ∧ ¬ 55295 < p1) ∨ (¬ p1 < 57344 ∧ ¬ 65533 < p1) ∨ (¬ p1 < 65536 ∧ ¬ 1114111 < p1) := by
                    simp only [Int32.lt_iff_toInt_lt, ← Int32.toInt_inj, own_n9, own_n10, own_n13, own_n32, own_n55295, own_n55296, own_n57343, own_n57344, own_n65533, own_n65534, own_n65535, own_n65536, own_n1114111] at hc1 hc2 hc3 hc4 hc5 hc8 hc9 hc10 ⊢
                    omega
                  rw [own_isc1 hfin]; rfl
            · refine Go.st (S' := T0.setTop (mkF m 54 #[.val (.int p1)] [])) (fun t hr => XS.icmpYes X0.here hx rfl (pc0 := 39) (pc' := 54) rfl (hb hby d1_39) rfl (XT.ii_le_t hc8) (by decide) (by decide) hr) ?_
              refine Go.st (S' := T0.setTop (mkF m 55 #[.val (.int p1)] [(.int (1 : Int32))])) (fun t hr => XS.iconst X0.here hx rfl (hb hby d1_54) hr) ?_
              refine Go.st (S' := T0.setTop (mkF m 59 #[.val (.int p1)] [(.int (1 : Int32))])) (fun t hr => XS.goto X0.here hx rfl (pc0 := 55) (pc' := 59) rfl (hb hby d1_55) (by decide) (by decide) hr) ?_
              refine Go.retN X0 hx hlk (t := .boolean) hret (by simp) (hb hby d1_59) (by decide) (by decide) ?_
              try rw [e0]
              refine ⟨?_, N0, rfl⟩
              have hfin : p1 = 9 ∨ p1 = 10 ∨ p1 = 13 ∨ (¬ p1 < 32 ∧ ¬ 55295 < p1) ∨ (¬ p1 < 57344 ∧ ¬ 65533 < p1) ∨ (¬ p1 < 65536 ∧ ¬ 1114111 < p1) := by
                simp only [Int32.lt_iff_toInt_lt, ← Int32.toInt_inj, own_n9, own_n10, own_n13, own_n32, own_n55295, own_n55296, own_n57343, own_n57344, own_n65533, own_n65534, own_n65535, own_n65536, own_n1114111] at hc1 hc2 hc3 hc4 hc5 hc8 ⊢
                omega
              rw [own_isc1 hfin]; rfl
        · refine Go.st (S' := T0.setTop (mkF m 24 #[.val (.int p1)] [])) (fun t hr => XS.icmpNo X0.here hx rfl (hb hby d1_21) rfl (XT.ii_lt_f hc4) hr) ?_
          refine Go.st (S' := T0.setTop (mkF m 25 #[.val (.int p1)] [(.int p1)])) (fun t hr => XS.iloadN X0.here hx rfl (hb hby d1_24) rfl hr) ?_
          refine Go.st (S' := T0.setTop (mkF m 27 #[.val (.int p1)] [(.int (55295 : Int32)), (.int p1)])) (own_ldc X0 hx hZ hown (index := 25) (x := (55295 : Int32)) (hw _ (List.mem_of_getElem? (i := 22) rfl)) (g := (mkF m 25 #[.val (.int p1)] [(.int p1)])) rfl (hb hby d1_25)) ?_
          by_cases hc11 : (55295 : Int32) < p1
          · refine Go.st (S' := T0.setTop (mkF m 30 #[.val (.int p1)] [])) (fun t hr => XS.icmpNo X0.here hx rfl (hb hby d1_27) rfl (XT.ii_le_f hc11) hr) ?_
            refine Go.st (S' := T0.setTop (mkF m 31 #[.val (.int p1)] [(.int p1)])) (fun t hr => XS.iloadN X0.here hx rfl (hb hby d1_30) rfl hr) ?_
            refine Go.st (S' := T0.setTop (mkF m 33 #[.val (.int p1)] [(.int (57344 : Int32)), (.int p1)])) (own_ldc X0 hx hZ hown (index := 26) (x := (57344 : Int32)) (hw _ (List.mem_of_getElem? (i := 16) rfl)) (g := (mkF m 31 #[.val (.int p1)] [(.int p1)])) rfl (hb hby d1_31)) ?_
            by_cases hc12 : p1 < (57344 : Int32)
            · refine Go.st (S' := T0.setTop (mkF m 42 #[.val (.int p1)] [])) (fun t hr => XS.icmpYes X0.here hx rfl (pc0 := 33) (pc' := 42) rfl (hb hby d1_33) rfl (XT.ii_lt_t hc12) (by decide) (by decide) hr) ?_
              refine Go.st (S' := T0.setTop (mkF m 43 #[.val (.int p1)] [(.int p1)])) (fun t hr => XS.iloadN X0.here hx rfl (hb hby d1_42) rfl hr) ?_
              refine Go.st (S' := T0.setTop (mkF m 45 #[.val (.int p1)] [(.int (65536 : Int32)), (.int p1)])) (own_ldc X0 hx hZ hown (index := 28) (x := (65536 : Int32)) (hw _ (List.mem_of_getElem? (i := 17) rfl)) (g := (mkF m 43 #[.val (.int p1)] [(.int p1)])) rfl (hb hby d1_43)) ?_
              by_cases hc13 : p1 < (65536 : Int32)
              · refine Go.st (S' := T0.setTop (mkF m 58 #[.val (.int p1)] [])) (fun t hr => XS.icmpYes X0.here hx rfl (pc0 := 45) (pc' := 58) rfl (hb hby d1_45) rfl (XT.ii_lt_t hc13) (by decide) (by decide) hr) ?_
                refine Go.st (S' := T0.setTop (mkF m 59 #[.val (.int p1)] [(.int (0 : Int32))])) (fun t hr => XS.iconst X0.here hx rfl (hb hby d1_58) hr) ?_
                refine Go.retN X0 hx hlk (t := .boolean) hret (by simp) (hb hby d1_59) (by decide) (by decide) ?_
                try rw [e0]
                refine ⟨?_, N0, rfl⟩
                have hfin : ¬ (p1 = 9 ∨ p1 = 10 ∨ p1 = 13 ∨ (¬ p1 < 32 ∧ ¬ 55295 < p1) ∨ (¬ p1 < 57344 ∧ ¬ 65533 < p1) ∨ (¬ p1 < 65536 ∧ ¬ 1114111 < p1)) := by
                  simp only [Int32.lt_iff_toInt_lt, ← Int32.toInt_inj, own_n9, own_n10, own_n13, own_n32, own_n55295, own_n55296, own_n57343, own_n57344, own_n65533, own_n65534, own_n65535, own_n65536, own_n1114111] at hc1 hc2 hc3 hc4 hc11 hc12 hc13 ⊢
                  omega
                rw [own_isc0 hfin]; rfl
              · refine Go.st (S' := T0.setTop (mkF m 48 #[.val (.int p1)] [])) (fun t hr => XS.icmpNo X0.here hx rfl (hb hby d1_45) rfl (XT.ii_lt_f hc13) hr) ?_
                refine Go.st (S' := T0.setTop (mkF m 49 #[.val (.int p1)] [(.int p1)])) (fun t hr => XS.iloadN X0.here hx rfl (hb hby d1_48) rfl hr) ?_
                refine Go.st (S' := T0.setTop (mkF m 51 #[.val (.int p1)] [(.int (1114111 : Int32)), (.int p1)])) (own_ldc X0 hx hZ hown (index := 31) (x := (1114111 : Int32)) (hw _ (List.mem_of_getElem? (i := 24) rfl)) (g := (mkF m 49 #[.val (.int p1)] [(.int p1)])) rfl (hb hby d1_49)) ?_
                by_cases hc14 : (1114111 : Int32) < p1
                · refine Go.st (S' := T0.setTop (mkF m 58 #[.val (.int p1)] [])) (fun t hr => XS.icmpYes X0.here hx rfl (pc0 := 51) (pc' := 58) rfl (hb hby d1_51) rfl (XT.ii_gt_t hc14) (by decide) (by decide) hr) ?_
                  refine Go.st (S' := T0.setTop (mkF m 59 #[.val (.int p1)] [(.int (0 : Int32))])) (fun t hr => XS.iconst X0.here hx rfl (hb hby d1_58) hr) ?_
                  refine Go.retN X0 hx hlk (t := .boolean) hret (by simp) (hb hby d1_59) (by decide) (by decide) ?_
                  try rw [e0]
                  refine ⟨?_, N0, rfl⟩
                  have hfin : ¬ (p1 = 9 ∨ p1 = 10 ∨ p1 = 13 ∨ (¬ p1 < 32 ∧ ¬ 55295 < p1) ∨ (¬ p1 < 57344 ∧ ¬ 65533 < p1) ∨ (¬ p1 < 65536 ∧ ¬ 1114111 < p1)) := by
                    simp only [Int32.lt_iff_toInt_lt, ← Int32.toInt_inj, own_n9, own_n10, own_n13, own_n32, own_n55295, own_n55296, own_n57343, own_n57344, own_n65533, own_n65534, own_n65535, own_n65536, own_n1114111] at hc1 hc2 hc3 hc4 hc11 hc12 hc13 hc14 ⊢
                    omega
                  rw [own_isc0 hfin]; rfl
                · refine Go.st (S' := T0.setTop (mkF m 54 #[.val (.int p1)] [])) (fun t hr => XS.icmpNo X0.here hx rfl (hb hby d1_51) rfl (XT.ii_gt_f hc14) hr) ?_
                  refine Go.st (S' := T0.setTop (mkF m 55 #[.val (.int p1)] [(.int (1 : Int32))])) (fun t hr => XS.iconst X0.here hx rfl (hb hby d1_54) hr) ?_
                  refine Go.st (S' := T0.setTop (mkF m 59 #[.val (.int p1)] [(.int (1 : Int32))])) (fun t hr => XS.goto X0.here hx rfl (pc0 := 55) (pc' := 59) rfl (hb hby d1_55) (by decide) (by decide) hr) ?_
                  refine Go.retN X0 hx hlk (t := .boolean) hret (by simp) (hb hby d1_59) (by decide) (by decide) ?_
                  try rw [e0]
                  refine ⟨?_, N0, rfl⟩
                  have hfin : p1 = 9 ∨ p1 = 10 ∨ p1 = 13 ∨ (¬ p1 < 32 ∧ ¬ 55295 < p1) ∨ (¬ p1 < 57344 ∧ ¬ 65533 < p1) ∨ (¬ p1 < 65536 ∧ ¬ 1114111 < p1) := by
                    simp only [Int32.lt_iff_toInt_lt, ← Int32.toInt_inj, own_n9, own_n10, own_n13, own_n32, own_n55295, own_n55296, own_n57343, own_n57344, own_n65533, own_n65534, own_n65535, own_n65536, own_n1114111] at hc1 hc2 hc3 hc4 hc11 hc12 hc13 hc14 ⊢
                    omega
                  rw [own_isc1 hfin]; rfl
            · refine Go.st (S' := T0.setTop (mkF m 36 #[.val (.int p1)] [])) (fun t hr => XS.icmpNo X0.here hx rfl (hb hby d1_33) rfl (XT.ii_lt_f hc12) hr) ?_
              refine Go.st (S' := T0.setTop (mkF m 37 #[.val (.int p1)] [(.int p1)])) (fun t hr => XS.iloadN X0.here hx rfl (hb hby d1_36) rfl hr) ?_
              refine Go.st (S' := T0.setTop (mkF m 39 #[.val (.int p1)] [(.int (65533 : Int32)), (.int p1)])) (own_ldc X0 hx hZ hown (index := 27) (x := (65533 : Int32)) (hw _ (List.mem_of_getElem? (i := 23) rfl)) (g := (mkF m 37 #[.val (.int p1)] [(.int p1)])) rfl (hb hby d1_37)) ?_
              by_cases hc15 : (65533 : Int32) < p1
              · refine Go.st (S' := T0.setTop (mkF m 42 #[.val (.int p1)] [])) (fun t hr => XS.icmpNo X0.here hx rfl (hb hby d1_39) rfl (XT.ii_le_f hc15) hr) ?_
                refine Go.st (S' := T0.setTop (mkF m 43 #[.val (.int p1)] [(.int p1)])) (fun t hr => XS.iloadN X0.here hx rfl (hb hby d1_42) rfl hr) ?_
                refine Go.st (S' := T0.setTop (mkF m 45 #[.val (.int p1)] [(.int (65536 : Int32)), (.int p1)])) (own_ldc X0 hx hZ hown (index := 28) (x := (65536 : Int32)) (hw _ (List.mem_of_getElem? (i := 17) rfl)) (g := (mkF m 43 #[.val (.int p1)] [(.int p1)])) rfl (hb hby d1_43)) ?_
                by_cases hc16 : p1 < (65536 : Int32)
                · refine Go.st (S' := T0.setTop (mkF m 58 #[.val (.int p1)] [])) (fun t hr => XS.icmpYes X0.here hx rfl (pc0 := 45) (pc' := 58) rfl (hb hby d1_45) rfl (XT.ii_lt_t hc16) (by decide) (by decide) hr) ?_
                  refine Go.st (S' := T0.setTop (mkF m 59 #[.val (.int p1)] [(.int (0 : Int32))])) (fun t hr => XS.iconst X0.here hx rfl (hb hby d1_58) hr) ?_
                  refine Go.retN X0 hx hlk (t := .boolean) hret (by simp) (hb hby d1_59) (by decide) (by decide) ?_
                  try rw [e0]
                  refine ⟨?_, N0, rfl⟩
                  have hfin : ¬ (p1 = 9 ∨ p1 = 10 ∨ p1 = 13 ∨ (¬ p1 < 32 ∧ ¬ 55295 < p1) ∨ (¬ p1 < 57344 ∧ ¬ 65533 < p1) ∨ (¬ p1 < 65536 ∧ ¬ 1114111 < p1)) := by
                    simp only [Int32.lt_iff_toInt_lt, ← Int32.toInt_inj, own_n9, own_n10, own_n13, own_n32, own_n55295, own_n55296, own_n57343, own_n57344, own_n65533, own_n65534, own_n65535, own_n65536, own_n1114111] at hc1 hc2 hc3 hc4 hc11 hc12 hc15 hc16 ⊢
                    omega
                  rw [own_isc0 hfin]; rfl
                · refine Go.st (S' := T0.setTop (mkF m 48 #[.val (.int p1)] [])) (fun t hr => XS.icmpNo X0.here hx rfl (hb hby d1_45) rfl (XT.ii_lt_f hc16) hr) ?_
                  refine Go.st (S' := T0.setTop (mkF m 49 #[.val (.int p1)] [(.int p1)])) (fun t hr => XS.iloadN X0.here hx rfl (hb hby d1_48) rfl hr) ?_
                  refine Go.st (S' := T0.setTop (mkF m 51 #[.val (.int p1)] [(.int (1114111 : Int32)), (.int p1)])) (own_ldc X0 hx hZ hown (index := 31) (x := (1114111 : Int32)) (hw _ (List.mem_of_getElem? (i := 24) rfl)) (g := (mkF m 49 #[.val (.int p1)] [(.int p1)])) rfl (hb hby d1_49)) ?_
                  by_cases hc17 : (1114111 : Int32) < p1
                  · refine Go.st (S' := T0.setTop (mkF m 58 #[.val (.int p1)] [])) (fun t hr => XS.icmpYes X0.here hx rfl (pc0 := 51) (pc' := 58) rfl (hb hby d1_51) rfl (XT.ii_gt_t hc17) (by decide) (by decide) hr) ?_
                    refine Go.st (S' := T0.setTop (mkF m 59 #[.val (.int p1)] [(.int (0 : Int32))])) (fun t hr => XS.iconst X0.here hx rfl (hb hby d1_58) hr) ?_
                    refine Go.retN X0 hx hlk (t := .boolean) hret (by simp) (hb hby d1_59) (by decide) (by decide) ?_
                    try rw [e0]
                    refine ⟨?_, N0, rfl⟩
                    have hfin : ¬ (p1 = 9 ∨ p1 = 10 ∨ p1 = 13 ∨ (¬ p1 < 32 ∧ ¬ 55295 < p1) ∨ (¬ p1 < 57344 ∧ ¬ 65533 < p1) ∨ (¬ p1 < 65536 ∧ ¬ 1114111 < p1)) := by
                      simp only [Int32.lt_iff_toInt_lt, ← Int32.toInt_inj, own_n9, own_n10, own_n13, own_n32, own_n55295, own_n55296, own_n57343, own_n57344, own_n65533, own_n65534, own_n65535, own_n65536, own_n1114111] at hc1 hc2 hc3 hc4 hc11 hc12 hc15 hc16 hc17 ⊢
                      omega
                    rw [own_isc0 hfin]; rfl
                  · refine Go.st (S' := T0.setTop (mkF m 54 #[.val (.int p1)] [])) (fun t hr => XS.icmpNo X0.here hx rfl (hb hby d1_51) rfl (XT.ii_gt_f hc17) hr) ?_
                    refine Go.st (S' := T0.setTop (mkF m 55 #[.val (.int p1)] [(.int (1 : Int32))])) (fun t hr => XS.iconst X0.here hx rfl (hb hby d1_54) hr) ?_
                    refine Go.st (S' := T0.setTop (mkF m 59 #[.val (.int p1)] [(.int (1 : Int32))])) (fun t hr => XS.goto X0.here hx rfl (pc0 := 55) (pc' := 59) rfl (hb hby d1_55) (by decide) (by decide) hr) ?_
                    refine Go.retN X0 hx hlk (t := .boolean) hret (by simp) (hb hby d1_59) (by decide) (by decide) ?_
                    try rw [e0]
                    refine ⟨?_, N0, rfl⟩
                    have hfin : p1 = 9 ∨ p1 = 10 ∨ p1 = 13 ∨ (¬ p1 < 32 ∧ ¬ 55295 < p1) ∨ (¬ p1 < 57344 ∧ ¬ 65533 < p1) ∨ (¬ p1 < 65536 ∧ ¬ 1114111 < p1) := by
                      simp only [Int32.lt_iff_toInt_lt, ← Int32.toInt_inj, own_n9, own_n10, own_n13, own_n32, own_n55295, own_n55296, own_n57343, own_n57344, own_n65533, own_n65534, own_n65535, own_n65536, own_n1114111] at hc1 hc2 hc3 hc4 hc11 hc12 hc15 hc16 hc17 ⊢
                      omega
                    rw [own_isc1 hfin]; rfl
              · refine Go.st (S' := T0.setTop (mkF m 54 #[.val (.int p1)] [])) (fun t hr => XS.icmpYes X0.here hx rfl (pc0 := 39) (pc' := 54) rfl (hb hby d1_39) rfl (XT.ii_le_t hc15) (by decide) (by decide) hr) ?_
                refine Go.st (S' := T0.setTop (mkF m 55 #[.val (.int p1)] [(.int (1 : Int32))])) (fun t hr => XS.iconst X0.here hx rfl (hb hby d1_54) hr) ?_
                refine Go.st (S' := T0.setTop (mkF m 59 #[.val (.int p1)] [(.int (1 : Int32))])) (fun t hr => XS.goto X0.here hx rfl (pc0 := 55) (pc' := 59) rfl (hb hby d1_55) (by decide) (by decide) hr) ?_
                refine Go.retN X0 hx hlk (t := .boolean) hret (by simp) (hb hby d1_59) (by decide) (by decide) ?_
                try rw [e0]
                refine ⟨?_, N0, rfl⟩
                have hfin : p1 = 9 ∨ p1 = 10 ∨ p1 = 13 ∨ (¬ p1 < 32 ∧ ¬ 55295 < p1) ∨ (¬ p1 < 57344 ∧ ¬ 65533 < p1) ∨ (¬ p1 < 65536 ∧ ¬ 1114111 < p1) := by
                  simp only [Int32.lt_iff_toInt_lt, ← Int32.toInt_inj, own_n9, own_n10, own_n13, own_n32, own_n55295, own_n55296, own_n57343, own_n57344, own_n65533, own_n65534, own_n65535, own_n65536, own_n1114111] at hc1 hc2 hc3 hc4 hc11 hc12 hc15 ⊢
                  omega
                rw [own_isc1 hfin]; rfl
          · refine Go.st (S' := T0.setTop (mkF m 54 #[.val (.int p1)] [])) (fun t hr => XS.icmpYes X0.here hx rfl (pc0 := 27) (pc' := 54) rfl (hb hby d1_27) rfl (XT.ii_le_t hc11) (by decide) (by decide) hr) ?_
            refine Go.st (S' := T0.setTop (mkF m 55 #[.val (.int p1)] [(.int (1 : Int32))])) (fun t hr => XS.iconst X0.here hx rfl (hb hby d1_54) hr) ?_
            refine Go.st (S' := T0.setTop (mkF m 59 #[.val (.int p1)] [(.int (1 : Int32))])) (fun t hr => XS.goto X0.here hx rfl (pc0 := 55) (pc' := 59) rfl (hb hby d1_55) (by decide) (by decide) hr) ?_
            refine Go.retN X0 hx hlk (t := .boolean) hret (by simp) (hb hby d1_59) (by decide) (by decide) ?_
            try rw [e0]
            refine ⟨?_, N0, rfl⟩
            have hfin : p1 = 9 ∨ p1 = 10 ∨ p1 = 13 ∨ (¬ p1 < 32 ∧ ¬ 55295 < p1) ∨ (¬ p1 < 57344 ∧ ¬ 65533 < p1) ∨ (¬ p1 < 65536 ∧ ¬ 1114111 < p1) := by
              simp only [Int32.lt_iff_toInt_lt, ← Int32.toInt_inj, own_n9, own_n10, own_n13, own_n32, own_n55295, own_n55296, own_n57343, own_n57344, own_n65533, own_n65534, own_n65535, own_n65536, own_n1114111] at hc1 hc2 hc3 hc4 hc11 ⊢
              omega
            rw [own_isc1 hfin]; rfl
theorem ef_rmR (m : MethodId) (p1 : Int32) : entryFrame m #[(.int p1)] 1 = mkF m 0 #[.val (.int p1)] [] := by first | (simp [entryFrame, mkF, argsToLocals, Value.category]; done) | rfl
theorem pf_1 : plainFor (⟨"com/example/items_in_arrays/itemsinarrays/xdm/XmlNamesIsCharacterPinLaw", "ref", "(I)Z"⟩ : MethodName) = true := plainFor_of_name (by first | (simp [plainName, overriddenIn]; done) | decide +kernel)
theorem d2_0 : decode method_2_code 0 = .ok (.iload_n 0, 1) := by decide +kernel
theorem d2_1 : decode method_2_code 1 = .ok (.bipush 9, 2) := by decide +kernel
theorem d2_3 : decode method_2_code 3 = .ok (.if_icmp .eq 15, 3) := by decide +kernel
theorem d2_6 : decode method_2_code 6 = .ok (.iload_n 0, 1) := by decide +kernel
theorem d2_7 : decode method_2_code 7 = .ok (.bipush 10, 2) := by decide +kernel
theorem d2_9 : decode method_2_code 9 = .ok (.if_icmp .eq 9, 3) := by decide +kernel
theorem d2_12 : decode method_2_code 12 = .ok (.iload_n 0, 1) := by decide +kernel
theorem d2_13 : decode method_2_code 13 = .ok (.bipush 13, 2) := by decide +kernel
theorem d2_15 : decode method_2_code 15 = .ok (.if_icmp .ne 5, 3) := by decide +kernel
theorem d2_18 : decode method_2_code 18 = .ok (.iconst 1, 1) := by decide +kernel
theorem d2_19 : decode method_2_code 19 = .ok (.ireturn, 1) := by decide +kernel
theorem d2_20 : decode method_2_code 20 = .ok (.iload_n 0, 1) := by decide +kernel
theorem d2_21 : decode method_2_code 21 = .ok (.bipush 32, 2) := by decide +kernel
theorem d2_23 : decode method_2_code 23 = .ok (.if_icmp .lt 9, 3) := by decide +kernel
theorem d2_26 : decode method_2_code 26 = .ok (.iload_n 0, 1) := by decide +kernel
theorem d2_27 : decode method_2_code 27 = .ok (.ldc 7, 2) := by decide +kernel
theorem d2_29 : decode method_2_code 29 = .ok (.if_icmp .le 5, 3) := by decide +kernel
theorem d2_32 : decode method_2_code 32 = .ok (.iconst 0, 1) := by decide +kernel
theorem d2_33 : decode method_2_code 33 = .ok (.ireturn, 1) := by decide +kernel
theorem d2_34 : decode method_2_code 34 = .ok (.iload_n 0, 1) := by decide +kernel
theorem d2_35 : decode method_2_code 35 = .ok (.ldc 8, 2) := by decide +kernel
theorem d2_37 : decode method_2_code 37 = .ok (.if_icmp .lt 11, 3) := by decide +kernel
theorem d2_40 : decode method_2_code 40 = .ok (.iload_n 0, 1) := by decide +kernel
theorem d2_41 : decode method_2_code 41 = .ok (.ldc 9, 2) := by decide +kernel
theorem d2_43 : decode method_2_code 43 = .ok (.if_icmp .gt 5, 3) := by decide +kernel
theorem d2_46 : decode method_2_code 46 = .ok (.iconst 0, 1) := by decide +kernel
theorem d2_47 : decode method_2_code 47 = .ok (.ireturn, 1) := by decide +kernel
theorem d2_48 : decode method_2_code 48 = .ok (.iload_n 0, 1) := by decide +kernel
theorem d2_49 : decode method_2_code 49 = .ok (.ldc 10, 2) := by decide +kernel
theorem d2_51 : decode method_2_code 51 = .ok (.if_icmp .eq 13, 3) := by decide +kernel
theorem d2_54 : decode method_2_code 54 = .ok (.iload_n 0, 1) := by decide +kernel
theorem d2_55 : decode method_2_code 55 = .ok (.ldc 11, 2) := by decide +kernel
theorem d2_57 : decode method_2_code 57 = .ok (.if_icmp .eq 7, 3) := by decide +kernel
theorem d2_60 : decode method_2_code 60 = .ok (.iconst 1, 1) := by decide +kernel
theorem d2_61 : decode method_2_code 61 = .ok (.goto 4, 3) := by decide +kernel
theorem d2_64 : decode method_2_code 64 = .ok (.iconst 0, 1) := by decide +kernel
theorem d2_65 : decode method_2_code 65 = .ok (.ireturn, 1) := by decide +kernel
set_option maxRecDepth 65536 in
set_option maxHeartbeats 4000000 in
theorem rmR (l : Launch) (Z : State) (a0 : Array Value) (hw : ∀ d ∈ tables_1, d.before a0 Z = true) (p1 : Int32) (h0 : Heap) (n0 : Nat) (Z0 : n0 ≤ h0.size)  :
    Con l Z (⟨"com/example/items_in_arrays/itemsinarrays/xdm/XmlNamesIsCharacterPinLaw", "ref", "(I)Z"⟩ : MethodName) method_2_code 1 (some .boolean) ({ frames := 0, cells := 0, slots := 0, locals := 0 } : Room) #[(.int p1)] h0 (fun v h L => v = some (.int (own_isc p1)) ∧ Fr n0 L ∧ h = h0) := by
  refine Con.of pf_1 ?_
  intro p e s m below meth c T0 X0 hx hby hml hZ hown hnm hret hlk e0
  have hown : s.vm.findClass "com/example/items_in_arrays/itemsinarrays/xdm/XmlNamesIsCharacterPinLaw" = some m.cls := hown
  have hnm : meth.name = "ref" := hnm
  have N0 := Fr.nil n0
  refine Go.cast (ef_rmR m p1) ?_
  refine Go.st (S' := T0.setTop (mkF m 1 #[.val (.int p1)] [(.int p1)])) (fun t hr => XS.iloadN X0.here hx rfl (hb hby d2_0) rfl hr) ?_
  refine Go.st (S' := T0.setTop (mkF m 3 #[.val (.int p1)] [(.int (9 : Int32)), (.int p1)])) (fun t hr => XS.bipush X0.here hx rfl (hb hby d2_1) hr) ?_
  by_cases hc1 : p1 = (9 : Int32)
  · refine Go.st (S' := T0.setTop (mkF m 18 #[.val (.int p1)] [])) (fun t hr => XS.icmpYes X0.here hx rfl (pc0 := 3) (pc' := 18) rfl (hb hby d2_3) rfl (XT.ii_eq_t hc1) (by decide) (by decide) hr) ?_
    refine Go.st (S' := T0.setTop (mkF m 19 #[.val (.int p1)] [(.int (1 : Int32))])) (fun t hr => XS.iconst X0.here hx rfl (hb hby d2_18) hr) ?_
    refine Go.retN X0 hx hlk (t := .boolean) hret (by simp) (hb hby d2_19) (by decide) (by decide) ?_
    try rw [e0]
    refine ⟨?_, N0, rfl⟩
    have hfin : p1 = 9 ∨ p1 = 10 ∨ p1 = 13 ∨ (¬ p1 < 32 ∧ ¬ 55295 < p1) ∨ (¬ p1 < 57344 ∧ ¬ 65533 < p1) ∨ (¬ p1 < 65536 ∧ ¬ 1114111 < p1) := by
      simp only [Int32.lt_iff_toInt_lt, ← Int32.toInt_inj, own_n9, own_n10, own_n13, own_n32, own_n55295, own_n55296, own_n57343, own_n57344, own_n65533, own_n65534, own_n65535, own_n65536, own_n1114111] at hc1 ⊢
      omega
    rw [own_isc1 hfin]; rfl
  · refine Go.st (S' := T0.setTop (mkF m 6 #[.val (.int p1)] [])) (fun t hr => XS.icmpNo X0.here hx rfl (hb hby d2_3) rfl (XT.ii_eq_f hc1) hr) ?_
    refine Go.st (S' := T0.setTop (mkF m 7 #[.val (.int p1)] [(.int p1)])) (fun t hr => XS.iloadN X0.here hx rfl (hb hby d2_6) rfl hr) ?_
    refine Go.st (S' := T0.setTop (mkF m 9 #[.val (.int p1)] [(.int (10 : Int32)), (.int p1)])) (fun t hr => XS.bipush X0.here hx rfl (hb hby d2_7) hr) ?_
    by_cases hc2 : p1 = (10 : Int32)
    · refine Go.st (S' := T0.setTop (mkF m 18 #[.val (.int p1)] [])) (fun t hr => XS.icmpYes X0.here hx rfl (pc0 := 9) (pc' := 18) rfl (hb hby d2_9) rfl (XT.ii_eq_t hc2) (by decide) (by decide) hr) ?_
      refine Go.st (S' := T0.setTop (mkF m 19 #[.val (.int p1)] [(.int (1 : Int32))])) (fun t hr => XS.iconst X0.here hx rfl (hb hby d2_18) hr) ?_
      refine Go.retN X0 hx hlk (t := .boolean) hret (by simp) (hb hby d2_19) (by decide) (by decide) ?_
      try rw [e0]
      refine ⟨?_, N0, rfl⟩
      have hfin : p1 = 9 ∨ p1 = 10 ∨ p1 = 13 ∨ (¬ p1 < 32 ∧ ¬ 55295 < p1) ∨ (¬ p1 < 57344 ∧ ¬ 65533 < p1) ∨ (¬ p1 < 65536 ∧ ¬ 1114111 < p1) := by
        simp only [Int32.lt_iff_toInt_lt, ← Int32.toInt_inj, own_n9, own_n10, own_n13, own_n32, own_n55295, own_n55296, own_n57343, own_n57344, own_n65533, own_n65534, own_n65535, own_n65536, own_n1114111] at hc1 hc2 ⊢
        omega
      rw [own_isc1 hfin]; rfl
    · refine Go.st (S' := T0.setTop (mkF m 12 #[.val (.int p1)] [])) (fun t hr => XS.icmpNo X0.here hx rfl (hb hby d2_9) rfl (XT.ii_eq_f hc2) hr) ?_
      refine Go.st (S' := T0.setTop (mkF m 13 #[.val (.int p1)] [(.int p1)])) (fun t hr => XS.iloadN X0.here hx rfl (hb hby d2_12) rfl hr) ?_
      refine Go.st (S' := T0.setTop (mkF m 15 #[.val (.int p1)] [(.int (13 : Int32)), (.int p1)])) (fun t hr => XS.bipush X0.here hx rfl (hb hby d2_13) hr) ?_
      by_cases hc3 : p1 = (13 : Int32)
      · refine Go.st (S' := T0.setTop (mkF m 18 #[.val (.int p1)] [])) (fun t hr => XS.icmpNo X0.here hx rfl (hb hby d2_15) rfl (XT.ii_ne_f hc3) hr) ?_
        refine Go.st (S' := T0.setTop (mkF m 19 #[.val (.int p1)] [(.int (1 : Int32))])) (fun t hr => XS.iconst X0.here hx rfl (hb hby d2_18) hr) ?_
        refine Go.retN X0 hx hlk (t := .boolean) hret (by simp) (hb hby d2_19) (by decide) (by decide) ?_
        try rw [e0]
        refine ⟨?_, N0, rfl⟩
        have hfin : p1 = 9 ∨ p1 = 10 ∨ p1 = 13 ∨ (¬ p1 < 32 ∧ ¬ 55295 < p1) ∨ (¬ p1 < 57344 ∧ ¬ 65533 < p1) ∨ (¬ p1 < 65536 ∧ ¬ 1114111 < p1) := by
          simp only [Int32.lt_iff_toInt_lt, ← Int32.toInt_inj, own_n9, own_n10, own_n13, own_n32, own_n55295, own_n55296, own_n57343, own_n57344, own_n65533, own_n65534, own_n65535, own_n65536, own_n1114111] at hc1 hc2 hc3 ⊢
          omega
        rw [own_isc1 hfin]; rfl
      · refine Go.st (S' := T0.setTop (mkF m 20 #[.val (.int p1)] [])) (fun t hr => XS.icmpYes X0.here hx rfl (pc0 := 15) (pc' := 20) rfl (hb hby d2_15) rfl (XT.ii_ne_t hc3) (by decide) (by decide) hr) ?_
        refine Go.st (S' := T0.setTop (mkF m 21 #[.val (.int p1)] [(.int p1)])) (fun t hr => XS.iloadN X0.here hx rfl (hb hby d2_20) rfl hr) ?_
        refine Go.st (S' := T0.setTop (mkF m 23 #[.val (.int p1)] [(.int (32 : Int32)), (.int p1)])) (fun t hr => XS.bipush X0.here hx rfl (hb hby d2_21) hr) ?_
        by_cases hc4 : p1 < (32 : Int32)
        · refine Go.st (S' := T0.setTop (mkF m 32 #[.val (.int p1)] [])) (fun t hr => XS.icmpYes X0.here hx rfl (pc0 := 23) (pc' := 32) rfl (hb hby d2_23) rfl (XT.ii_lt_t hc4) (by decide) (by decide) hr) ?_
          refine Go.st (S' := T0.setTop (mkF m 33 #[.val (.int p1)] [(.int (0 : Int32))])) (fun t hr => XS.iconst X0.here hx rfl (hb hby d2_32) hr) ?_
          refine Go.retN X0 hx hlk (t := .boolean) hret (by simp) (hb hby d2_33) (by decide) (by decide) ?_
          try rw [e0]
          refine ⟨?_, N0, rfl⟩
          have hfin : ¬ (p1 = 9 ∨ p1 = 10 ∨ p1 = 13 ∨ (¬ p1 < 32 ∧ ¬ 55295 < p1) ∨ (¬ p1 < 57344 ∧ ¬ 65533 < p1) ∨ (¬ p1 < 65536 ∧ ¬ 1114111 < p1)) := by
            simp only [Int32.lt_iff_toInt_lt, ← Int32.toInt_inj, own_n9, own_n10, own_n13, own_n32, own_n55295, own_n55296, own_n57343, own_n57344, own_n65533, own_n65534, own_n65535, own_n65536, own_n1114111] at hc1 hc2 hc3 hc4 ⊢
            omega
          rw [own_isc0 hfin]; rfl
        · refine Go.st (S' := T0.setTop (mkF m 26 #[.val (.int p1)] [])) (fun t hr => XS.icmpNo X0.here hx rfl (hb hby d2_23) rfl (XT.ii_lt_f hc4) hr) ?_
          refine Go.st (S' := T0.setTop (mkF m 27 #[.val (.int p1)] [(.int p1)])) (fun t hr => XS.iloadN X0.here hx rfl (hb hby d2_26) rfl hr) ?_
          refine Go.st (S' := T0.setTop (mkF m 29 #[.val (.int p1)] [(.int (1114111 : Int32)), (.int p1)])) (own_ldc X0 hx hZ hown (index := 7) (x := (1114111 : Int32)) (hw _ (List.mem_of_getElem? (i := 9) rfl)) (g := (mkF m 27 #[.val (.int p1)] [(.int p1)])) rfl (hb hby d2_27)) ?_
          by_cases hc5 : (1114111 : Int32) < p1
          · refine Go.st (S' := T0.setTop (mkF m 32 #[.val (.int p1)] [])) (fun t hr => XS.icmpNo X0.here hx rfl (hb hby d2_29) rfl (XT.ii_le_f hc5) hr) ?_
            refine Go.st (S' := T0.setTop (mkF m 33 #[.val (.int p1)] [(.int (0 : Int32))])) (fun t hr => XS.iconst X0.here hx rfl (hb hby d2_32) hr) ?_
            refine Go.retN X0 hx hlk (t := .boolean) hret (by simp) (hb hby d2_33) (by decide) (by decide) ?_
            try rw [e0]
            refine ⟨?_, N0, rfl⟩
            have hfin : ¬ (p1 = 9 ∨ p1 = 10 ∨ p1 = 13 ∨ (¬ p1 < 32 ∧ ¬ 55295 < p1) ∨ (¬ p1 < 57344 ∧ ¬ 65533 < p1) ∨ (¬ p1 < 65536 ∧ ¬ 1114111 < p1)) := by
              simp only [Int32.lt_iff_toInt_lt, ← Int32.toInt_inj, own_n9, own_n10, own_n13, own_n32, own_n55295, own_n55296, own_n57343, own_n57344, own_n65533, own_n65534, own_n65535, own_n65536, own_n1114111] at hc1 hc2 hc3 hc4 hc5 ⊢
              omega
            rw [own_isc0 hfin]; rfl
          · refine Go.st (S' := T0.setTop (mkF m 34 #[.val (.int p1)] [])) (fun t hr => XS.icmpYes X0.here hx rfl (pc0 := 29) (pc' := 34) rfl (hb hby d2_29) rfl (XT.ii_le_t hc5) (by decide) (by decide) hr) ?_
            refine Go.st (S' := T0.setTop (mkF m 35 #[.val (.int p1)] [(.int p1)])) (fun t hr => XS.iloadN X0.here hx rfl (hb hby d2_34) rfl hr) ?_
            refine Go.st (S' := T0.setTop (mkF m 37 #[.val (.int p1)] [(.int (55296 : Int32)), (.int p1)])) (own_ldc X0 hx hZ hown (index := 8) (x := (55296 : Int32)) (hw _ (List.mem_of_getElem? (i := 2) rfl)) (g := (mkF m 35 #[.val (.int p1)] [(.int p1)])) rfl (hb hby d2_35)) ?_
            by_cases hc6 : p1 < (55296 : Int32)
            · refine Go.st (S' := T0.setTop (mkF m 48 #[.val (.int p1)] [])) (fun t hr => XS.icmpYes X0.here hx rfl (pc0 := 37) (pc' := 48) rfl (hb hby d2_37) rfl (XT.ii_lt_t hc6) (by decide) (by decide) hr) ?_
              refine Go.st (S' := T0.setTop (mkF m 49 #[.val (.int p1)] [(.int p1)])) (fun t hr => XS.iloadN X0.here hx rfl (hb hby d2_48) rfl hr) ?_
              refine Go.st (S' := T0.setTop (mkF m 51 #[.val (.int p1)] [(.int (65534 : Int32)), (.int p1)])) (own_ldc X0 hx hZ hown (index := 10) (x := (65534 : Int32)) (hw _ (List.mem_of_getElem? (i := 6) rfl)) (g := (mkF m 49 #[.val (.int p1)] [(.int p1)])) rfl (hb hby d2_49)) ?_
              by_cases hc7 : p1 = (65534 : Int32)
              · refine Go.st (S' := T0.setTop (mkF m 64 #[.val (.int p1)] [])) (fun t hr => XS.icmpYes X0.here hx rfl (pc0 := 51) (pc' := 64) rfl (hb hby d2_51) rfl (XT.ii_eq_t hc7) (by decide) (by decide) hr) ?_
                refine Go.st (S' := T0.setTop (mkF m 65 #[.val (.int p1)] [(.int (0 : Int32))])) (fun t hr => XS.iconst X0.here hx rfl (hb hby d2_64) hr) ?_
                refine Go.retN X0 hx hlk (t := .boolean) hret (by simp) (hb hby d2_65) (by decide) (by decide) ?_
                try rw [e0]
                refine ⟨?_, N0, rfl⟩
                have hfin : ¬ (p1 = 9 ∨ p1 = 10 ∨ p1 = 13 ∨ (¬ p1 < 32 ∧ ¬ 55295 < p1) ∨ (¬ p1 < 57344 ∧ ¬ 65533 < p1) ∨ (¬ p1 < 65536 ∧ ¬ 1114111 < p1)) := by
                  simp only [Int32.lt_iff_toInt_lt, ← Int32.toInt_inj, own_n9, own_n10, own_n13, own_n32, own_n55295, own_n55296, own_n57343, own_n57344, own_n65533, own_n65534, own_n65535, own_n65536, own_n1114111] at hc1 hc2 hc3 hc4 hc5 hc6 hc7 ⊢
                  omega
                rw [own_isc0 hfin]; rfl
              · refine Go.st (S' := T0.setTop (mkF m 54 #[.val (.int p1)] [])) (fun t hr => XS.icmpNo X0.here hx rfl (hb hby d2_51) rfl (XT.ii_eq_f hc7) hr) ?_
                refine Go.st (S' := T0.setTop (mkF m 55 #[.val (.int p1)] [(.int p1)])) (fun t hr => XS.iloadN X0.here hx rfl (hb hby d2_54) rfl hr) ?_
                refine Go.st (S' := T0.setTop (mkF m 57 #[.val (.int p1)] [(.int (65535 : Int32)), (.int p1)])) (own_ldc X0 hx hZ hown (index := 11) (x := (65535 : Int32)) (hw _ (List.mem_of_getElem? (i := 7) rfl)) (g := (mkF m 55 #[.val (.int p1)] [(.int p1)])) rfl (hb hby d2_55)) ?_
                by_cases hc8 : p1 = (65535 : Int32)
                · refine Go.st (S' := T0.setTop (mkF m 64 #[.val (.int p1)] [])) (fun t hr => XS.icmpYes X0.here hx rfl (pc0 := 57) (pc' := 64) rfl (hb hby d2_57) rfl (XT.ii_eq_t hc8) (by decide) (by decide) hr) ?_
                  refine Go.st (S' := T0.setTop (mkF m 65 #[.val (.int p1)] [(.int (0 : Int32))])) (fun t hr => XS.iconst X0.here hx rfl (hb hby d2_64) hr) ?_
                  refine Go.retN X0 hx hlk (t := .boolean) hret (by simp) (hb hby d2_65) (by decide) (by decide) ?_
                  try rw [e0]
                  refine ⟨?_, N0, rfl⟩
                  have hfin : ¬ (p1 = 9 ∨ p1 = 10 ∨ p1 = 13 ∨ (¬ p1 < 32 ∧ ¬ 55295 < p1) ∨ (¬ p1 < 57344 ∧ ¬ 65533 < p1) ∨ (¬ p1 < 65536 ∧ ¬ 1114111 < p1)) := by
                    simp only [Int32.lt_iff_toInt_lt, ← Int32.toInt_inj, own_n9, own_n10, own_n13, own_n32, own_n55295, own_n55296, own_n57343, own_n57344, own_n65533, own_n65534, own_n65535, own_n65536, own_n1114111] at hc1 hc2 hc3 hc4 hc5 hc6 hc7 hc8 ⊢
                    omega
                  rw [own_isc0 hfin]; rfl
                · refine Go.st (S' := T0.setTop (mkF m 60 #[.val (.int p1)] [])) (fun t hr => XS.icmpNo X0.here hx rfl (hb hby d2_57) rfl (XT.ii_eq_f hc8) hr) ?_
                  refine Go.st (S' := T0.setTop (mkF m 61 #[.val (.int p1)] [(.int (1 : Int32))])) (fun t hr => XS.iconst X0.here hx rfl (hb hby d2_60) hr) ?_
                  refine Go.st (S' := T0.setTop (mkF m 65 #[.val (.int p1)] [(.int (1 : Int32))])) (fun t hr => XS.goto X0.here hx rfl (pc0 := 61) (pc' := 65) rfl (hb hby d2_61) (by decide) (by decide) hr) ?_
                  refine Go.retN X0 hx hlk (t := .boolean) hret (by simp) (hb hby d2_65) (by decide) (by decide) ?_
                  try rw [e0]
                  refine ⟨?_, N0, rfl⟩
                  have hfin : p1 = 9 ∨ p1 = 10 ∨ p1 = 13 ∨ (¬ p1 < 32 ∧ ¬ 55295 < p1) ∨ (¬ p1 < 57344 ∧ ¬ 65533 < p1) ∨ (¬ p1 < 65536 ∧ ¬ 1114111 < p1) := by
                    simp only [Int32.lt_iff_toInt_lt, ← Int32.toInt_inj, own_n9, own_n10, own_n13, own_n32, own_n55295, own_n55296, own_n57343, own_n57344, own_n65533, own_n65534, own_n65535, own_n65536, own_n1114111] at hc1 hc2 hc3 hc4 hc5 hc6 hc7 hc8 ⊢
                    omega
                  rw [own_isc1 hfin]; rfl
            · refine Go.st (S' := T0.setTop (mkF m 40 #[.val (.int p1)] [])) (fun t hr => XS.icmpNo X0.here hx rfl (hb hby d2_37) rfl (XT.ii_lt_f hc6) hr) ?_
              refine Go.st (S' := T0.setTop (mkF m 41 #[.val (.int p1)] [(.int p1)])) (fun t hr => XS.iloadN X0.here hx rfl (hb hby d2_40) rfl hr) ?_
              refine Go.st (S' := T0.setTop (mkF m 43 #[.val (.int p1)] [(.int (57343 : Int32)), (.int p1)])) (own_ldc X0 hx hZ hown (index := 9) (x := (57343 : Int32)) (hw _ (List.mem_of_getElem? (i := 3) rfl)) (g := (mkF m 41 #[.val (.int p1)] [(.int p1)])) rfl (hb hby d2_41)) ?_
              by_cases hc9 : (57343 : Int32) < p1
              · refine Go.st (S' := T0.setTop (mkF m 48 #[.val (.int p1)] [])) (fun t hr => XS.icmpYes X0.here hx rfl (pc0 := 43) (pc' := 48) rfl (hb hby d2_43) rfl (XT.ii_gt_t hc9) (by decide) (by decide) hr) ?_
                refine Go.st (S' := T0.setTop (mkF m 49 #[.val (.int p1)] [(.int p1)])) (fun t hr => XS.iloadN X0.here hx rfl (hb hby d2_48) rfl hr) ?_
                refine Go.st (S' := T0.setTop (mkF m 51 #[.val (.int p1)] [(.int (65534 : Int32)), (.int p1)])) (own_ldc X0 hx hZ hown (index := 10) (x := (65534 : Int32)) (hw _ (List.mem_of_getElem? (i := 6) rfl)) (g := (mkF m 49 #[.val (.int p1)] [(.int p1)])) rfl (hb hby d2_49)) ?_
                by_cases hc10 : p1 = (65534 : Int32)
                · refine Go.st (S' := T0.setTop (mkF m 64 #[.val (.int p1)] [])) (fun t hr => XS.icmpYes X0.here hx rfl (pc0 := 51) (pc' := 64) rfl (hb hby d2_51) rfl (XT.ii_eq_t hc10) (by decide) (by decide) hr) ?_
                  refine Go.st (S' := T0.setTop (mkF m 65 #[.val (.int p1)] [(.int (0 : Int32))])) (fun t hr => XS.iconst X0.here hx rfl (hb hby d2_64) hr) ?_
                  refine Go.retN X0 hx hlk (t := .boolean) hret (by simp) (hb hby d2_65) (by decide) (by decide) ?_
                  try rw [e0]
                  refine ⟨?_, N0, rfl⟩
                  have hfin : ¬ (p1 = 9 ∨ p1 = 10 ∨ p1 = 13 ∨ (¬ p1 < 32 ∧ ¬ 55295 < p1) ∨ (¬ p1 < 57344 ∧ ¬ 65533 < p1) ∨ (¬ p1 < 65536 ∧ ¬ 1114111 < p1)) := by
                    simp only [Int32.lt_iff_toInt_lt, ← Int32.toInt_inj, own_n9, own_n10, own_n13, own_n32, own_n55295, own_n55296, own_n57343, own_n57344, own_n65533, own_n65534, own_n65535, own_n65536, own_n1114111] at hc1 hc2 hc3 hc4 hc5 hc6 hc9 hc10 ⊢
                    omega
                  rw [own_isc0 hfin]; rfl
                · refine Go.st (S' := T0.setTop (mkF m 54 #[.val (.int p1)] [])) (fun t hr => XS.icmpNo X0.here hx rfl (hb hby d2_51) rfl (XT.ii_eq_f hc10) hr) ?_
                  refine Go.st (S' := T0.setTop (mkF m 55 #[.val (.int p1)] [(.int p1)])) (fun t hr => XS.iloadN X0.here hx rfl (hb hby d2_54) rfl hr) ?_
                  refine Go.st (S' := T0.setTop (mkF m 57 #[.val (.int p1)] [(.int (65535 : Int32)), (.int p1)])) (own_ldc X0 hx hZ hown (index := 11) (x := (65535 : Int32)) (hw _ (List.mem_of_getElem? (i := 7) rfl)) (g := (mkF m 55 #[.val (.int p1)] [(.int p1)])) rfl (hb hby d2_55)) ?_
                  by_cases hc11 : p1 = (65535 : Int32)
                  · refine Go.st (S' := T0.setTop (mkF m 64 #[.val (.int p1)] [])) (fun t hr => XS.icmpYes X0.here hx rfl (pc0 := 57) (pc' := 64) rfl (hb hby d2_57) rfl (XT.ii_eq_t hc11) (by decide) (by decide) hr) ?_
                    refine Go.st (S' := T0.setTop (mkF m 65 #[.val (.int p1)] [(.int (0 : Int32))])) (fun t hr => XS.iconst X0.here hx rfl (hb hby d2_64) hr) ?_
                    refine Go.retN X0 hx hlk (t := .boolean) hret (by simp) (hb hby d2_65) (by decide) (by decide) ?_
                    try rw [e0]
                    refine ⟨?_, N0, rfl⟩
                    have hfin : ¬ (p1 = 9 ∨ p1 = 10 ∨ p1 = 13 ∨ (¬ p1 < 32 ∧ ¬ 55295 < p1) ∨ (¬ p1 < 57344 ∧ ¬ 65533 < p1) ∨ (¬ p1 < 65536 ∧ ¬ 1114111 < p1)) := by
                      simp only [Int32.lt_iff_toInt_lt, ← Int32.toInt_inj, own_n9, own_n10, own_n13, own_n32, own_n55295, own_n55296, own_n57343, own_n57344, own_n65533, own_n65534, own_n65535, own_n65536, own_n1114111] at hc1 hc2 hc3 hc4 hc5 hc6 hc9 hc10 hc11 ⊢
                      omega
                    rw [own_isc0 hfin]; rfl
                  · refine Go.st (S' := T0.setTop (mkF m 60 #[.val (.int p1)] [])) (fun t hr => XS.icmpNo X0.here hx rfl (hb hby d2_57) rfl (XT.ii_eq_f hc11) hr) ?_
                    refine Go.st (S' := T0.setTop (mkF m 61 #[.val (.int p1)] [(.int (1 : Int32))])) (fun t hr => XS.iconst X0.here hx rfl (hb hby d2_60) hr) ?_
                    refine Go.st (S' := T0.setTop (mkF m 65 #[.val (.int p1)] [(.int (1 : Int32))])) (fun t hr => XS.goto X0.here hx rfl (pc0 := 61) (pc' := 65) rfl (hb hby d2_61) (by decide) (by decide) hr) ?_
                    refine Go.retN X0 hx hlk (t := .boolean) hret (by simp) (hb hby d2_65) (by decide) (by decide) ?_
                    try rw [e0]
                    refine ⟨?_, N0, rfl⟩
                    have hfin : p1 = 9 ∨ p1 = 10 ∨ p1 = 13 ∨ (¬ p1 < 32 ∧ ¬ 55295 < p1) ∨ (¬ p1 < 57344 ∧ ¬ 65533 < p1) ∨ (¬ p1 < 65536 ∧ ¬ 1114111 < p1) := by
                      simp only [Int32.lt_iff_toInt_lt, ← Int32.toInt_inj, own_n9, own_n10, own_n13, own_n32, own_n55295, own_n55296, own_n57343, own_n57344, own_n65533, own_n65534, own_n65535, own_n65536, own_n1114111] at hc1 hc2 hc3 hc4 hc5 hc6 hc9 hc10 hc11 ⊢
                      omega
                    rw [own_isc1 hfin]; rfl
              · refine Go.st (S' := T0.setTop (mkF m 46 #[.val (.int p1)] [])) (fun t hr => XS.icmpNo X0.here hx rfl (hb hby d2_43) rfl (XT.ii_gt_f hc9) hr) ?_
                refine Go.st (S' := T0.setTop (mkF m 47 #[.val (.int p1)] [(.int (0 : Int32))])) (fun t hr => XS.iconst X0.here hx rfl (hb hby d2_46) hr) ?_
                refine Go.retN X0 hx hlk (t := .boolean) hret (by simp) (hb hby d2_47) (by decide) (by decide) ?_
                try rw [e0]
                refine ⟨?_, N0, rfl⟩
                have hfin : ¬ (p1 = 9 ∨ p1 = 10 ∨ p1 = 13 ∨ (¬ p1 < 32 ∧ ¬ 55295 < p1) ∨ (¬ p1 < 57344 ∧ ¬ 65533 < p1) ∨ (¬ p1 < 65536 ∧ ¬ 1114111 < p1)) := by
                  simp only [Int32.lt_iff_toInt_lt, ← Int32.toInt_inj, own_n9, own_n10, own_n13, own_n32, own_n55295, own_n55296, own_n57343, own_n57344, own_n65533, own_n65534, own_n65535, own_n65536, own_n1114111] at hc1 hc2 hc3 hc4 hc5 hc6 hc9 ⊢
                  omega
                rw [own_isc0 hfin]; rfl
theorem ef_rm0 (m : MethodId) (p1 : Int32) (p2 : Int32) (p3 : Int32) : entryFrame m #[(.int p1), (.int p2), (.int p3)] maxLocals = mkF m 0 #[.val (.int p1), .val (.int p2), .val (.int p3), .unset, .unset] [] := by first | (simp [entryFrame, mkF, argsToLocals, Value.category, maxLocals]; done) | rfl
theorem pf_2 : plainFor x = true := plainFor_of_name (by first | (simp [plainName, overriddenIn, x]; done) | decide +kernel)
theorem pd_0 : parseMethodDescriptor "(I)Z" = some ⟨[.int], some .boolean⟩ := by decide +kernel
set_option maxRecDepth 65536 in
set_option maxHeartbeats 4000000 in
theorem rm0 (l : Launch) (Z : State) (a0 : Array Value) (hw : ∀ d ∈ tables_1, d.before a0 Z = true) (p1 : Int32) (p2 : Int32) (p3 : Int32) (h0 : Heap) (n0 : Nat) (Z0 : n0 ≤ h0.size)  :
    Con l Z x code maxLocals ret room_1 #[(.int p1), (.int p2), (.int p3)] h0 (fun v h L => v = some (.int 1) ∧ Fr n0 L) := by
  refine Con.of pf_2 ?_
  intro p e s m below meth c T0 X0 hx hby hml hZ hown hnm hret hlk e0
  have hown : s.vm.findClass "com/example/items_in_arrays/itemsinarrays/xdm/XmlNamesIsCharacterPinLaw" = some m.cls := hown
  have hnm : meth.name = "law" := hnm
  have N0 := Fr.nil n0
  refine Go.cast (ef_rm0 m p1 p2 p3) ?_
  refine Go.st (S' := T0.setTop (mkF m 2 #[.val (.int p1), .val (.int p2), .val (.int p3), .unset, .unset] [(.int (15 : Int32))])) (fun t hr => XS.bipush X0.here hx rfl (hb hby at_0) hr) ?_
  obtain ⟨T_1, h_1, X_1, e_1, E_1, A_1, st_1⟩ := own_newP X0 hx hZ (ty := .int) rfl (hw _ (List.mem_of_getElem? (i := 0) rfl)) e0 (g := (mkF m 2 #[.val (.int p1), .val (.int p2), .val (.int p3), .unset, .unset] [(.int (15 : Int32))])) rfl (hb hby at_2) rfl (by decide) (cap := 15) (by decide) (by decide) (by decide) (by decide)
  obtain ⟨ad_1, g_1⟩ : ∃ z, z = h0.size := ⟨_, rfl⟩
  rw [← g_1] at A_1 st_1
  have z_1 := E_1.1
  have y_1 := own_ltA A_1
  have B_1 : Ary Z h_1 ad_1 .int [(.int (0 : Int32)), (.int (0 : Int32)), (.int (0 : Int32)), (.int (0 : Int32)), (.int (0 : Int32)), (.int (0 : Int32)), (.int (0 : Int32)), (.int (0 : Int32)), (.int (0 : Int32)), (.int (0 : Int32)), (.int (0 : Int32)), (.int (0 : Int32)), (.int (0 : Int32)), (.int (0 : Int32)), (.int (0 : Int32))] := A_1
  refine Go.st (S' := T_1.setTop (mkF m 4 #[.val (.int p1), .val (.int p2), .val (.int p3), .unset, .unset] [(.ref ad_1)])) st_1 ?_
  refine Go.st (S' := T_1.setTop (mkF m 5 #[.val (.int p1), .val (.int p2), .val (.int p3), .unset, .unset] [(.ref ad_1), (.ref ad_1)])) (fun t hr => XS.dup X_1.here hx rfl (hb hby at_4) rfl rfl hr) ?_
  refine Go.st (S' := T_1.setTop (mkF m 6 #[.val (.int p1), .val (.int p2), .val (.int p3), .unset, .unset] [(.int (0 : Int32)), (.ref ad_1), (.ref ad_1)])) (fun t hr => XS.iconst X_1.here hx rfl (hb hby at_5) hr) ?_
  refine Go.st (S' := T_1.setTop (mkF m 7 #[.val (.int p1), .val (.int p2), .val (.int p3), .unset, .unset] [(.int (0 : Int32)), (.int (0 : Int32)), (.ref ad_1), (.ref ad_1)])) (fun t hr => XS.iconst X_1.here hx rfl (hb hby at_6) hr) ?_
  obtain ⟨T_2, h_2, X_2, e_2, W_2, A_2, st_2⟩ := own_stI X_1 hx hZ e_1 B_1 (j := (0 : Int32)) (by decide) (by decide) (g := (mkF m 7 #[.val (.int p1), .val (.int p2), .val (.int p3), .unset, .unset] [(.int (0 : Int32)), (.int (0 : Int32)), (.ref ad_1), (.ref ad_1)])) rfl rfl (hb hby at_7)
  have N_2 := Fr.snoc X_2 N0 (by omega)
  have z_2 := W_2.size
  have B_2 : Ary Z h_2 ad_1 .int [(.int (0 : Int32)), (.int (0 : Int32)), (.int (0 : Int32)), (.int (0 : Int32)), (.int (0 : Int32)), (.int (0 : Int32)), (.int (0 : Int32)), (.int (0 : Int32)), (.int (0 : Int32)), (.int (0 : Int32)), (.int (0 : Int32)), (.int (0 : Int32)), (.int (0 : Int32)), (.int (0 : Int32)), (.int (0 : Int32))] := A_2
  refine Go.st (S' := T_2.setTop (mkF m 8 #[.val (.int p1), .val (.int p2), .val (.int p3), .unset, .unset] [(.ref ad_1)])) st_2 ?_
  refine Go.st (S' := T_2.setTop (mkF m 9 #[.val (.int p1), .val (.int p2), .val (.int p3), .unset, .unset] [(.ref ad_1), (.ref ad_1)])) (fun t hr => XS.dup X_2.here hx rfl (hb hby at_8) rfl rfl hr) ?_
  refine Go.st (S' := T_2.setTop (mkF m 10 #[.val (.int p1), .val (.int p2), .val (.int p3), .unset, .unset] [(.int (1 : Int32)), (.ref ad_1), (.ref ad_1)])) (fun t hr => XS.iconst X_2.here hx rfl (hb hby at_9) hr) ?_
  refine Go.st (S' := T_2.setTop (mkF m 12 #[.val (.int p1), .val (.int p2), .val (.int p3), .unset, .unset] [(.int (9 : Int32)), (.int (1 : Int32)), (.ref ad_1), (.ref ad_1)])) (fun t hr => XS.bipush X_2.here hx rfl (hb hby at_10) hr) ?_
  obtain ⟨T_3, h_3, X_3, e_3, W_3, A_3, st_3⟩ := own_stI X_2 hx hZ e_2 B_2 (j := (1 : Int32)) (by decide) (by decide) (g := (mkF m 12 #[.val (.int p1), .val (.int p2), .val (.int p3), .unset, .unset] [(.int (9 : Int32)), (.int (1 : Int32)), (.ref ad_1), (.ref ad_1)])) rfl rfl (hb hby at_12)
  have N_3 := Fr.snoc X_3 N_2 (by omega)
  have z_3 := W_3.size
  have B_3 : Ary Z h_3 ad_1 .int [(.int (0 : Int32)), (.int (9 : Int32)), (.int (0 : Int32)), (.int (0 : Int32)), (.int (0 : Int32)), (.int (0 : Int32)), (.int (0 : Int32)), (.int (0 : Int32)), (.int (0 : Int32)), (.int (0 : Int32)), (.int (0 : Int32)), (.int (0 : Int32)), (.int (0 : Int32)), (.int (0 : Int32)), (.int (0 : Int32))] := A_3
  refine Go.st (S' := T_3.setTop (mkF m 13 #[.val (.int p1), .val (.int p2), .val (.int p3), .unset, .unset] [(.ref ad_1)])) st_3 ?_
  refine Go.st (S' := T_3.setTop (mkF m 14 #[.val (.int p1), .val (.int p2), .val (.int p3), .unset, .unset] [(.ref ad_1), (.ref ad_1)])) (fun t hr => XS.dup X_3.here hx rfl (hb hby at_13) rfl rfl hr) ?_
  refine Go.st (S' := T_3.setTop (mkF m 15 #[.val (.int p1), .val (.int p2), .val (.int p3), .unset, .unset] [(.int (2 : Int32)), (.ref ad_1), (.ref ad_1)])) (fun t hr => XS.iconst X_3.here hx rfl (hb hby at_14) hr) ?_
  refine Go.st (S' := T_3.setTop (mkF m 17 #[.val (.int p1), .val (.int p2), .val (.int p3), .unset, .unset] [(.int (10 : Int32)), (.int (2 : Int32)), (.ref ad_1), (.ref ad_1)])) (fun t hr => XS.bipush X_3.here hx rfl (hb hby at_15) hr) ?_
  obtain ⟨T_4, h_4, X_4, e_4, W_4, A_4, st_4⟩ := own_stI X_3 hx hZ e_3 B_3 (j := (2 : Int32)) (by decide) (by decide) (g := (mkF m 17 #[.val (.int p1), .val (.int p2), .val (.int p3), .unset, .unset] [(.int (10 : Int32)), (.int (2 : Int32)), (.ref ad_1), (.ref ad_1)])) rfl rfl (hb hby at_17)
  have N_4 := Fr.snoc X_4 N_3 (by omega)
  have z_4 := W_4.size
  have B_4 : Ary Z h_4 ad_1 .int [(.int (0 : Int32)), (.int (9 : Int32)), (.int (10 : Int32)), (.int (0 : Int32)), (.int (0 : Int32)), (.int (0 : Int32)), (.int (0 : Int32)), (.int (0 : Int32)), (.int (0 : Int32)), (.int (0 : Int32)), (.int (0 : Int32)), (.int (0 : Int32)), (.int (0 : Int32)), (.int (0 : Int32)), (.int (0 : Int32))] := A_4
  refine Go.st (S' := T_4.setTop (mkF m 18 #[.val (.int p1), .val (.int p2), .val (.int p3), .unset, .unset] [(.ref ad_1)])) st_4 ?_
  refine Go.st (S' := T_4.setTop (mkF m 19 #[.val (.int p1), .val (.int p2), .val (.int p3), .unset, .unset] [(.ref ad_1), (.ref ad_1)])) (fun t hr => XS.dup X_4.here hx rfl (hb hby at_18) rfl rfl hr) ?_
  refine Go.st (S' := T_4.setTop (mkF m 20 #[.val (.int p1), .val (.int p2), .val (.int p3), .unset, .unset] [(.int (3 : Int32)), (.ref ad_1), (.ref ad_1)])) (fun t hr => XS.iconst X_4.here hx rfl (hb hby at_19) hr) ?_
  refine Go.st (S' := T_4.setTop (mkF m 22 #[.val (.int p1), .val (.int p2), .val (.int p3), .unset, .unset] [(.int (13 : Int32)), (.int (3 : Int32)), (.ref ad_1), (.ref ad_1)])) (fun t hr => XS.bipush X_4.here hx rfl (hb hby at_20) hr) ?_
  obtain ⟨T_5, h_5, X_5, e_5, W_5, A_5, st_5⟩ := own_stI X_4 hx hZ e_4 B_4 (j := (3 : Int32)) (by decide) (by decide) (g := (mkF m 22 #[.val (.int p1), .val (.int p2), .val (.int p3), .unset, .unset] [(.int (13 : Int32)), (.int (3 : Int32)), (.ref ad_1), (.ref ad_1)])) rfl rfl (hb hby at_22)
  have N_5 := Fr.snoc X_5 N_4 (by omega)
  have z_5 := W_5.size
  have B_5 : Ary Z h_5 ad_1 .int [(.int (0 : Int32)), (.int (9 : Int32)), (.int (10 : Int32)), (.int (13 : Int32)), (.int (0 : Int32)), (.int (0 : Int32)), (.int (0 : Int32)), (.int (0 : Int32)), (.int (0 : Int32)), (.int (0 : Int32)), (.int (0 : Int32)), (.int (0 : Int32)), (.int (0 : Int32)), (.int (0 : Int32)), (.int (0 : Int32))] := A_5
  refine Go.st (S' := T_5.setTop (mkF m 23 #[.val (.int p1), .val (.int p2), .val (.int p3), .unset, .unset] [(.ref ad_1)])) st_5 ?_
  refine Go.st (S' := T_5.setTop (mkF m 24 #[.val (.int p1), .val (.int p2), .val (.int p3), .unset, .unset] [(.ref ad_1), (.ref ad_1)])) (fun t hr => XS.dup X_5.here hx rfl (hb hby at_23) rfl rfl hr) ?_
  refine Go.st (S' := T_5.setTop (mkF m 25 #[.val (.int p1), .val (.int p2), .val (.int p3), .unset, .unset] [(.int (4 : Int32)), (.ref ad_1), (.ref ad_1)])) (fun t hr => XS.iconst X_5.here hx rfl (hb hby at_24) hr) ?_
  refine Go.st (S' := T_5.setTop (mkF m 27 #[.val (.int p1), .val (.int p2), .val (.int p3), .unset, .unset] [(.int (32 : Int32)), (.int (4 : Int32)), (.ref ad_1), (.ref ad_1)])) (fun t hr => XS.bipush X_5.here hx rfl (hb hby at_25) hr) ?_
  obtain ⟨T_6, h_6, X_6, e_6, W_6, A_6, st_6⟩ := own_stI X_5 hx hZ e_5 B_5 (j := (4 : Int32)) (by decide) (by decide) (g := (mkF m 27 #[.val (.int p1), .val (.int p2), .val (.int p3), .unset, .unset] [(.int (32 : Int32)), (.int (4 : Int32)), (.ref ad_1), (.ref ad_1)])) rfl rfl (hb hby at_27)
  have N_6 := Fr.snoc X_6 N_5 (by omega)
  have z_6 := W_6.size
  have B_6 : Ary Z h_6 ad_1 .int [(.int (0 : Int32)), (.int (9 : Int32)), (.int (10 : Int32)), (.int (13 : Int32)), (.int (32 : Int32)), (.int (0 : Int32)), (.int (0 : Int32)), (.int (0 : Int32)), (.int (0 : Int32)), (.int (0 : Int32)), (.int (0 : Int32)), (.int (0 : Int32)), (.int (0 : Int32)), (.int (0 : Int32)), (.int (0 : Int32))] := A_6
  refine Go.st (S' := T_6.setTop (mkF m 28 #[.val (.int p1), .val (.int p2), .val (.int p3), .unset, .unset] [(.ref ad_1)])) st_6 ?_
  refine Go.st (S' := T_6.setTop (mkF m 29 #[.val (.int p1), .val (.int p2), .val (.int p3), .unset, .unset] [(.ref ad_1), (.ref ad_1)])) (fun t hr => XS.dup X_6.here hx rfl (hb hby at_28) rfl rfl hr) ?_
  refine Go.st (S' := T_6.setTop (mkF m 30 #[.val (.int p1), .val (.int p2), .val (.int p3), .unset, .unset] [(.int (5 : Int32)), (.ref ad_1), (.ref ad_1)])) (fun t hr => XS.iconst X_6.here hx rfl (hb hby at_29) hr) ?_
  refine Go.st (S' := T_6.setTop (mkF m 32 #[.val (.int p1), .val (.int p2), .val (.int p3), .unset, .unset] [(.int (55295 : Int32)), (.int (5 : Int32)), (.ref ad_1), (.ref ad_1)])) (own_ldc X_6 hx hZ hown (index := 12) (x := (55295 : Int32)) (hw _ (List.mem_of_getElem? (i := 1) rfl)) (g := (mkF m 30 #[.val (.int p1), .val (.int p2), .val (.int p3), .unset, .unset] [(.int (5 : Int32)), (.ref ad_1), (.ref ad_1)])) rfl (hb hby at_30)) ?_
  obtain ⟨T_7, h_7, X_7, e_7, W_7, A_7, st_7⟩ := own_stI X_6 hx hZ e_6 B_6 (j := (5 : Int32)) (by decide) (by decide) (g := (mkF m 32 #[.val (.int p1), .val (.int p2), .val (.int p3), .unset, .unset] [(.int (55295 : Int32)), (.int (5 : Int32)), (.ref ad_1), (.ref ad_1)])) rfl rfl (hb hby at_32)
  have N_7 := Fr.snoc X_7 N_6 (by omega)
  have z_7 := W_7.size
  have B_7 : Ary Z h_7 ad_1 .int [(.int (0 : Int32)), (.int (9 : Int32)), (.int (10 : Int32)), (.int (13 : Int32)), (.int (32 : Int32)), (.int (55295 : Int32)), (.int (0 : Int32)), (.int (0 : Int32)), (.int (0 : Int32)), (.int (0 : Int32)), (.int (0 : Int32)), (.int (0 : Int32)), (.int (0 : Int32)), (.int (0 : Int32)), (.int (0 : Int32))] := A_7
  refine Go.st (S' := T_7.setTop (mkF m 33 #[.val (.int p1), .val (.int p2), .val (.int p3), .unset, .unset] [(.ref ad_1)])) st_7 ?_
  refine Go.st (S' := T_7.setTop (mkF m 34 #[.val (.int p1), .val (.int p2), .val (.int p3), .unset, .unset] [(.ref ad_1), (.ref ad_1)])) (fun t hr => XS.dup X_7.here hx rfl (hb hby at_33) rfl rfl hr) ?_
  refine Go.st (S' := T_7.setTop (mkF m 36 #[.val (.int p1), .val (.int p2), .val (.int p3), .unset, .unset] [(.int (6 : Int32)), (.ref ad_1), (.ref ad_1)])) (fun t hr => XS.bipush X_7.here hx rfl (hb hby at_34) hr) ?_
  refine Go.st (S' := T_7.setTop (mkF m 38 #[.val (.int p1), .val (.int p2), .val (.int p3), .unset, .unset] [(.int (55296 : Int32)), (.int (6 : Int32)), (.ref ad_1), (.ref ad_1)])) (own_ldc X_7 hx hZ hown (index := 8) (x := (55296 : Int32)) (hw _ (List.mem_of_getElem? (i := 2) rfl)) (g := (mkF m 36 #[.val (.int p1), .val (.int p2), .val (.int p3), .unset, .unset] [(.int (6 : Int32)), (.ref ad_1), (.ref ad_1)])) rfl (hb hby at_36)) ?_
  obtain ⟨T_8, h_8, X_8, e_8, W_8, A_8, st_8⟩ := own_stI X_7 hx hZ e_7 B_7 (j := (6 : Int32)) (by decide) (by decide) (g := (mkF m 38 #[.val (.int p1), .val (.int p2), .val (.int p3), .unset, .unset] [(.int (55296 : Int32)), (.int (6 : Int32)), (.ref ad_1), (.ref ad_1)])) rfl rfl (hb hby at_38)
  have N_8 := Fr.snoc X_8 N_7 (by omega)
  have z_8 := W_8.size
  have B_8 : Ary Z h_8 ad_1 .int [(.int (0 : Int32)), (.int (9 : Int32)), (.int (10 : Int32)), (.int (13 : Int32)), (.int (32 : Int32)), (.int (55295 : Int32)), (.int (55296 : Int32)), (.int (0 : Int32)), (.int (0 : Int32)), (.int (0 : Int32)), (.int (0 : Int32)), (.int (0 : Int32)), (.int (0 : Int32)), (.int (0 : Int32)), (.int (0 : Int32))] := A_8
  refine Go.st (S' := T_8.setTop (mkF m 39 #[.val (.int p1), .val (.int p2), .val (.int p3), .unset, .unset] [(.ref ad_1)])) st_8 ?_
  refine Go.st (S' := T_8.setTop (mkF m 40 #[.val (.int p1), .val (.int p2), .val (.int p3), .unset, .unset] [(.ref ad_1), (.ref ad_1)])) (fun t hr => XS.dup X_8.here hx rfl (hb hby at_39) rfl rfl hr) ?_
  refine Go.st (S' := T_8.setTop (mkF m 42 #[.val (.int p1), .val (.int p2), .val (.int p3), .unset, .unset] [(.int (7 : Int32)), (.ref ad_1), (.ref ad_1)])) (fun t hr => XS.bipush X_8.here hx rfl (hb hby at_40) hr) ?_
  refine Go.st (S' := T_8.setTop (mkF m 44 #[.val (.int p1), .val (.int p2), .val (.int p3), .unset, .unset] [(.int (57343 : Int32)), (.int (7 : Int32)), (.ref ad_1), (.ref ad_1)])) (own_ldc X_8 hx hZ hown (index := 9) (x := (57343 : Int32)) (hw _ (List.mem_of_getElem? (i := 3) rfl)) (g := (mkF m 42 #[.val (.int p1), .val (.int p2), .val (.int p3), .unset, .unset] [(.int (7 : Int32)), (.ref ad_1), (.ref ad_1)])) rfl (hb hby at_42)) ?_
  obtain ⟨T_9, h_9, X_9, e_9, W_9, A_9, st_9⟩ := own_stI X_8 hx hZ e_8 B_8 (j := (7 : Int32)) (by decide) (by decide) (g := (mkF m 44 #[.val (.int p1), .val (.int p2), .val (.int p3), .unset, .unset] [(.int (57343 : Int32)), (.int (7 : Int32)), (.ref ad_1), (.ref ad_1)])) rfl rfl (hb hby at_44)
  have N_9 := Fr.snoc X_9 N_8 (by omega)
  have z_9 := W_9.size
  have B_9 : Ary Z h_9 ad_1 .int [(.int (0 : Int32)), (.int (9 : Int32)), (.int (10 : Int32)), (.int (13 : Int32)), (.int (32 : Int32)), (.int (55295 : Int32)), (.int (55296 : Int32)), (.int (57343 : Int32)), (.int (0 : Int32)), (.int (0 : Int32)), (.int (0 : Int32)), (.int (0 : Int32)), (.int (0 : Int32)), (.int (0 : Int32)), (.int (0 : Int32))] := A_9
  refine Go.st (S' := T_9.setTop (mkF m 45 #[.val (.int p1), .val (.int p2), .val (.int p3), .unset, .unset] [(.ref ad_1)])) st_9 ?_
  refine Go.st (S' := T_9.setTop (mkF m 46 #[.val (.int p1), .val (.int p2), .val (.int p3), .unset, .unset] [(.ref ad_1), (.ref ad_1)])) (fun t hr => XS.dup X_9.here hx rfl (hb hby at_45) rfl rfl hr) ?_
  refine Go.st (S' := T_9.setTop (mkF m 48 #[.val (.int p1), .val (.int p2), .val (.int p3), .unset, .unset] [(.int (8 : Int32)), (.ref ad_1), (.ref ad_1)])) (fun t hr => XS.bipush X_9.here hx rfl (hb hby at_46) hr) ?_
  refine Go.st (S' := T_9.setTop (mkF m 50 #[.val (.int p1), .val (.int p2), .val (.int p3), .unset, .unset] [(.int (57344 : Int32)), (.int (8 : Int32)), (.ref ad_1), (.ref ad_1)])) (own_ldc X_9 hx hZ hown (index := 13) (x := (57344 : Int32)) (hw _ (List.mem_of_getElem? (i := 4) rfl)) (g := (mkF m 48 #[.val (.int p1), .val (.int p2), .val (.int p3), .unset, .unset] [(.int (8 : Int32)), (.ref ad_1), (.ref ad_1)])) rfl (hb hby at_48)) ?_
  obtain ⟨T_10, h_10, X_10, e_10, W_10, A_10, st_10⟩ := own_stI X_9 hx hZ e_9 B_9 (j := (8 : Int32)) (by decide) (by decide) (g := (mkF m 50 #[.val (.int p1), .val (.int p2), .val (.int p3), .unset, .unset] [(.int (57344 : Int32)), (.int (8 : Int32)), (.ref ad_1), (.ref ad_1)])) rfl rfl (hb hby at_50)
  have N_10 := Fr.snoc X_10 N_9 (by omega)
  have z_10 := W_10.size
  have B_10 : Ary Z h_10 ad_1 .int [(.int (0 : Int32)), (.int (9 : Int32)), (.int (10 : Int32)), (.int (13 : Int32)), (.int (32 : Int32)), (.int (55295 : Int32)), (.int (55296 : Int32)), (.int (57343 : Int32)), (.int (57344 : Int32)), (.int (0 : Int32)), (.int (0 : Int32)), (.int (0 : Int32)), (.int (0 : Int32)), (.int (0 : Int32)), (.int (0 : Int32))] := A_10
  refine Go.st (S' := T_10.setTop (mkF m 51 #[.val (.int p1), .val (.int p2), .val (.int p3), .unset, .unset] [(.ref ad_1)])) st_10 ?_
  refine Go.st (S' := T_10.setTop (mkF m 52 #[.val (.int p1), .val (.int p2), .val (.int p3), .unset, .unset] [(.ref ad_1), (.ref ad_1)])) (fun t hr => XS.dup X_10.here hx rfl (hb hby at_51) rfl rfl hr) ?_
  refine Go.st (S' := T_10.setTop (mkF m 54 #[.val (.int p1), .val (.int p2), .val (.int p3), .unset, .unset] [(.int (9 : Int32)), (.ref ad_1), (.ref ad_1)])) (fun t hr => XS.bipush X_10.here hx rfl (hb hby at_52) hr) ?_
  refine Go.st (S' := T_10.setTop (mkF m 56 #[.val (.int p1), .val (.int p2), .val (.int p3), .unset, .unset] [(.int (65533 : Int32)), (.int (9 : Int32)), (.ref ad_1), (.ref ad_1)])) (own_ldc X_10 hx hZ hown (index := 14) (x := (65533 : Int32)) (hw _ (List.mem_of_getElem? (i := 5) rfl)) (g := (mkF m 54 #[.val (.int p1), .val (.int p2), .val (.int p3), .unset, .unset] [(.int (9 : Int32)), (.ref ad_1), (.ref ad_1)])) rfl (hb hby at_54)) ?_
  obtain ⟨T_11, h_11, X_11, e_11, W_11, A_11, st_11⟩ := own_stI X_10 hx hZ e_10 B_10 (j := (9 : Int32)) (by decide) (by decide) (g := (mkF m 56 #[.val (.int p1), .val (.int p2), .val (.int p3), .unset, .unset] [(.int (65533 : Int32)), (.int (9 : Int32)), (.ref ad_1), (.ref ad_1)])) rfl rfl (hb hby at_56)
  have N_11 := Fr.snoc X_11 N_10 (by omega)
  have z_11 := W_11.size
  have B_11 : Ary Z h_11 ad_1 .int [(.int (0 : Int32)), (.int (9 : Int32)), (.int (10 : Int32)), (.int (13 : Int32)), (.int (32 : Int32)), (.int (55295 : Int32)), (.int (55296 : Int32)), (.int (57343 : Int32)), (.int (57344 : Int32)), (.int (65533 : Int32)), (.int (0 : Int32)), (.int (0 : Int32)), (.int (0 : Int32)), (.int (0 : Int32)), (.int (0 : Int32))] := A_11
  refine Go.st (S' := T_11.setTop (mkF m 57 #[.val (.int p1), .val (.int p2), .val (.int p3), .unset, .unset] [(.ref ad_1)])) st_11 ?_
  refine Go.st (S' := T_11.setTop (mkF m 58 #[.val (.int p1), .val (.int p2), .val (.int p3), .unset, .unset] [(.ref ad_1), (.ref ad_1)])) (fun t hr => XS.dup X_11.here hx rfl (hb hby at_57) rfl rfl hr) ?_
  refine Go.st (S' := T_11.setTop (mkF m 60 #[.val (.int p1), .val (.int p2), .val (.int p3), .unset, .unset] [(.int (10 : Int32)), (.ref ad_1), (.ref ad_1)])) (fun t hr => XS.bipush X_11.here hx rfl (hb hby at_58) hr) ?_
  refine Go.st (S' := T_11.setTop (mkF m 62 #[.val (.int p1), .val (.int p2), .val (.int p3), .unset, .unset] [(.int (65534 : Int32)), (.int (10 : Int32)), (.ref ad_1), (.ref ad_1)])) (own_ldc X_11 hx hZ hown (index := 10) (x := (65534 : Int32)) (hw _ (List.mem_of_getElem? (i := 6) rfl)) (g := (mkF m 60 #[.val (.int p1), .val (.int p2), .val (.int p3), .unset, .unset] [(.int (10 : Int32)), (.ref ad_1), (.ref ad_1)])) rfl (hb hby at_60)) ?_
  obtain ⟨T_12, h_12, X_12, e_12, W_12, A_12, st_12⟩ := own_stI X_11 hx hZ e_11 B_11 (j := (10 : Int32)) (by decide) (by decide) (g := (mkF m 62 #[.val (.int p1), .val (.int p2), .val (.int p3), .unset, .unset] [(.int (65534 : Int32)), (.int (10 : Int32)), (.ref ad_1), (.ref ad_1)])) rfl rfl (hb hby at_62)
  have N_12 := Fr.snoc X_12 N_11 (by omega)
  have z_12 := W_12.size
  have B_12 : Ary Z h_12 ad_1 .int [(.int (0 : Int32)), (.int (9 : Int32)), (.int (10 : Int32)), (.int (13 : Int32)), (.int (32 : Int32)), (.int (55295 : Int32)), (.int (55296 : Int32)), (.int (57343 : Int32)), (.int (57344 : Int32)), (.int (65533 : Int32)), (.int (65534 : Int32)), (.int (0 : Int32)), (.int (0 : Int32)), (.int (0 : Int32)), (.int (0 : Int32))] := A_12
  refine Go.st (S' := T_12.setTop (mkF m 63 #[.val (.int p1), .val (.int p2), .val (.int p3), .unset, .unset] [(.ref ad_1)])) st_12 ?_
  refine Go.st (S' := T_12.setTop (mkF m 64 #[.val (.int p1), .val (.int p2), .val (.int p3), .unset, .unset] [(.ref ad_1), (.ref ad_1)])) (fun t hr => XS.dup X_12.here hx rfl (hb hby at_63) rfl rfl hr) ?_
  refine Go.st (S' := T_12.setTop (mkF m 66 #[.val (.int p1), .val (.int p2), .val (.int p3), .unset, .unset] [(.int (11 : Int32)), (.ref ad_1), (.ref ad_1)])) (fun t hr => XS.bipush X_12.here hx rfl (hb hby at_64) hr) ?_
  refine Go.st (S' := T_12.setTop (mkF m 68 #[.val (.int p1), .val (.int p2), .val (.int p3), .unset, .unset] [(.int (65535 : Int32)), (.int (11 : Int32)), (.ref ad_1), (.ref ad_1)])) (own_ldc X_12 hx hZ hown (index := 11) (x := (65535 : Int32)) (hw _ (List.mem_of_getElem? (i := 7) rfl)) (g := (mkF m 66 #[.val (.int p1), .val (.int p2), .val (.int p3), .unset, .unset] [(.int (11 : Int32)), (.ref ad_1), (.ref ad_1)])) rfl (hb hby at_66)) ?_
  obtain ⟨T_13, h_13, X_13, e_13, W_13, A_13, st_13⟩ := own_stI X_12 hx hZ e_12 B_12 (j := (11 : Int32)) (by decide) (by decide) (g := (mkF m 68 #[.val (.int p1), .val (.int p2), .val (.int p3), .unset, .unset] [(.int (65535 : Int32)), (.int (11 : Int32)), (.ref ad_1), (.ref ad_1)])) rfl rfl (hb hby at_68)
  have N_13 := Fr.snoc X_13 N_12 (by omega)
  have z_13 := W_13.size
  have B_13 : Ary Z h_13 ad_1 .int [(.int (0 : Int32)), (.int (9 : Int32)), (.int (10 : Int32)), (.int (13 : Int32)), (.int (32 : Int32)), (.int (55295 : Int32)), (.int (55296 : Int32)), (.int (57343 : Int32)), (.int (57344 : Int32)), (.int (65533 : Int32)), (.int (65534 : Int32)), (.int (65535 : Int32)), (.int (0 : Int32)), (.int (0 : Int32)), (.int (0 : Int32))] := A_13
  refine Go.st (S' := T_13.setTop (mkF m 69 #[.val (.int p1), .val (.int p2), .val (.int p3), .unset, .unset] [(.ref ad_1)])) st_13 ?_
  refine Go.st (S' := T_13.setTop (mkF m 70 #[.val (.int p1), .val (.int p2), .val (.int p3), .unset, .unset] [(.ref ad_1), (.ref ad_1)])) (fun t hr => XS.dup X_13.here hx rfl (hb hby at_69) rfl rfl hr) ?_
  refine Go.st (S' := T_13.setTop (mkF m 72 #[.val (.int p1), .val (.int p2), .val (.int p3), .unset, .unset] [(.int (12 : Int32)), (.ref ad_1), (.ref ad_1)])) (fun t hr => XS.bipush X_13.here hx rfl (hb hby at_70) hr) ?_
  refine Go.st (S' := T_13.setTop (mkF m 74 #[.val (.int p1), .val (.int p2), .val (.int p3), .unset, .unset] [(.int (65536 : Int32)), (.int (12 : Int32)), (.ref ad_1), (.ref ad_1)])) (own_ldc X_13 hx hZ hown (index := 15) (x := (65536 : Int32)) (hw _ (List.mem_of_getElem? (i := 8) rfl)) (g := (mkF m 72 #[.val (.int p1), .val (.int p2), .val (.int p3), .unset, .unset] [(.int (12 : Int32)), (.ref ad_1), (.ref ad_1)])) rfl (hb hby at_72)) ?_
  obtain ⟨T_14, h_14, X_14, e_14, W_14, A_14, st_14⟩ := own_stI X_13 hx hZ e_13 B_13 (j := (12 : Int32)) (by decide) (by decide) (g := (mkF m 74 #[.val (.int p1), .val (.int p2), .val (.int p3), .unset, .unset] [(.int (65536 : Int32)), (.int (12 : Int32)), (.ref ad_1), (.ref ad_1)])) rfl rfl (hb hby at_74)
  have N_14 := Fr.snoc X_14 N_13 (by omega)
  have z_14 := W_14.size
  have B_14 : Ary Z h_14 ad_1 .int [(.int (0 : Int32)), (.int (9 : Int32)), (.int (10 : Int32)), (.int (13 : Int32)), (.int (32 : Int32)), (.int (55295 : Int32)), (.int (55296 : Int32)), (.int (57343 : Int32)), (.int (57344 : Int32)), (.int (65533 : Int32)), (.int (65534 : Int32)), (.int (65535 : Int32)), (.int (65536 : Int32)), (.int (0 : Int32)), (.int (0 : Int32))] := A_14
  refine Go.st (S' := T_14.setTop (mkF m 75 #[.val (.int p1), .val (.int p2), .val (.int p3), .unset, .unset] [(.ref ad_1)])) st_14 ?_
  refine Go.st (S' := T_14.setTop (mkF m 76 #[.val (.int p1), .val (.int p2), .val (.int p3), .unset, .unset] [(.ref ad_1), (.ref ad_1)])) (fun t hr => XS.dup X_14.here hx rfl (hb hby at_75) rfl rfl hr) ?_
  refine Go.st (S' := T_14.setTop (mkF m 78 #[.val (.int p1), .val (.int p2), .val (.int p3), .unset, .unset] [(.int (13 : Int32)), (.ref ad_1), (.ref ad_1)])) (fun t hr => XS.bipush X_14.here hx rfl (hb hby at_76) hr) ?_
  refine Go.st (S' := T_14.setTop (mkF m 80 #[.val (.int p1), .val (.int p2), .val (.int p3), .unset, .unset] [(.int (1114111 : Int32)), (.int (13 : Int32)), (.ref ad_1), (.ref ad_1)])) (own_ldc X_14 hx hZ hown (index := 7) (x := (1114111 : Int32)) (hw _ (List.mem_of_getElem? (i := 9) rfl)) (g := (mkF m 78 #[.val (.int p1), .val (.int p2), .val (.int p3), .unset, .unset] [(.int (13 : Int32)), (.ref ad_1), (.ref ad_1)])) rfl (hb hby at_78)) ?_
  obtain ⟨T_15, h_15, X_15, e_15, W_15, A_15, st_15⟩ := own_stI X_14 hx hZ e_14 B_14 (j := (13 : Int32)) (by decide) (by decide) (g := (mkF m 80 #[.val (.int p1), .val (.int p2), .val (.int p3), .unset, .unset] [(.int (1114111 : Int32)), (.int (13 : Int32)), (.ref ad_1), (.ref ad_1)])) rfl rfl (hb hby at_80)
  have N_15 := Fr.snoc X_15 N_14 (by omega)
  have z_15 := W_15.size
  have B_15 : Ary Z h_15 ad_1 .int [(.int (0 : Int32)), (.int (9 : Int32)), (.int (10 : Int32)), (.int (13 : Int32)), (.int (32 : Int32)), (.int (55295 : Int32)), (.int (55296 : Int32)), (.int (57343 : Int32)), (.int (57344 : Int32)), (.int (65533 : Int32)), (.int (65534 : Int32)), (.int (65535 : Int32)), (.int (65536 : Int32)), (.int (1114111 : Int32)), (.int (0 : Int32))] := A_15
  refine Go.st (S' := T_15.setTop (mkF m 81 #[.val (.int p1), .val (.int p2), .val (.int p3), .unset, .unset] [(.ref ad_1)])) st_15 ?_
  refine Go.st (S' := T_15.setTop (mkF m 82 #[.val (.int p1), .val (.int p2), .val (.int p3), .unset, .unset] [(.ref ad_1), (.ref ad_1)])) (fun t hr => XS.dup X_15.here hx rfl (hb hby at_81) rfl rfl hr) ?_
  refine Go.st (S' := T_15.setTop (mkF m 84 #[.val (.int p1), .val (.int p2), .val (.int p3), .unset, .unset] [(.int (14 : Int32)), (.ref ad_1), (.ref ad_1)])) (fun t hr => XS.bipush X_15.here hx rfl (hb hby at_82) hr) ?_
  refine Go.st (S' := T_15.setTop (mkF m 86 #[.val (.int p1), .val (.int p2), .val (.int p3), .unset, .unset] [(.int (1114112 : Int32)), (.int (14 : Int32)), (.ref ad_1), (.ref ad_1)])) (own_ldc X_15 hx hZ hown (index := 16) (x := (1114112 : Int32)) (hw _ (List.mem_of_getElem? (i := 10) rfl)) (g := (mkF m 84 #[.val (.int p1), .val (.int p2), .val (.int p3), .unset, .unset] [(.int (14 : Int32)), (.ref ad_1), (.ref ad_1)])) rfl (hb hby at_84)) ?_
  obtain ⟨T_16, h_16, X_16, e_16, W_16, A_16, st_16⟩ := own_stI X_15 hx hZ e_15 B_15 (j := (14 : Int32)) (by decide) (by decide) (g := (mkF m 86 #[.val (.int p1), .val (.int p2), .val (.int p3), .unset, .unset] [(.int (1114112 : Int32)), (.int (14 : Int32)), (.ref ad_1), (.ref ad_1)])) rfl rfl (hb hby at_86)
  have N_16 := Fr.snoc X_16 N_15 (by omega)
  have z_16 := W_16.size
  have B_16 : Ary Z h_16 ad_1 .int [(.int (0 : Int32)), (.int (9 : Int32)), (.int (10 : Int32)), (.int (13 : Int32)), (.int (32 : Int32)), (.int (55295 : Int32)), (.int (55296 : Int32)), (.int (57343 : Int32)), (.int (57344 : Int32)), (.int (65533 : Int32)), (.int (65534 : Int32)), (.int (65535 : Int32)), (.int (65536 : Int32)), (.int (1114111 : Int32)), (.int (1114112 : Int32))] := A_16
  refine Go.st (S' := T_16.setTop (mkF m 87 #[.val (.int p1), .val (.int p2), .val (.int p3), .unset, .unset] [(.ref ad_1)])) st_16 ?_
  refine Go.st (S' := T_16.setTop (mkF m 88 #[.val (.int p1), .val (.int p2), .val (.int p3), .val (.ref ad_1), .unset] [])) (fun t hr => XS.astoreN X_16.here hx rfl (hb hby at_87) rfl rfl (l' := #[.val (.int p1), .val (.int p2), .val (.int p3), .val (.ref ad_1), .unset]) rfl hr) ?_
  refine Go.st (S' := T_16.setTop (mkF m 89 #[.val (.int p1), .val (.int p2), .val (.int p3), .val (.ref ad_1), .unset] [(.ref ad_1)])) (fun t hr => XS.aloadN X_16.here hx rfl (hb hby at_88) rfl rfl hr) ?_
  refine Go.st (S' := T_16.setTop (mkF m 90 #[.val (.int p1), .val (.int p2), .val (.int p3), .val (.ref ad_1), .unset] [(.int p2), (.ref ad_1)])) (fun t hr => XS.iloadN X_16.here hx rfl (hb hby at_89) rfl hr) ?_
  refine Go.st (S' := T_16.setTop (mkF m 92 #[.val (.int p1), .val (.int p2), .val (.int p3), .val (.ref ad_1), .unset] [(.int (2147483647 : Int32)), (.int p2), (.ref ad_1)])) (own_ldc X_16 hx hZ hown (index := 17) (x := (2147483647 : Int32)) (hw _ (List.mem_of_getElem? (i := 11) rfl)) (g := (mkF m 90 #[.val (.int p1), .val (.int p2), .val (.int p3), .val (.ref ad_1), .unset] [(.int p2), (.ref ad_1)])) rfl (hb hby at_90)) ?_
  refine Go.st (S' := T_16.setTop (mkF m 93 #[.val (.int p1), .val (.int p2), .val (.int p3), .val (.ref ad_1), .unset] [(.int (p2 &&& (2147483647 : Int32))), (.ref ad_1)])) (fun t hr => XS.iand X_16.here hx rfl (hb hby at_92) rfl hr) ?_
  refine Go.st (S' := T_16.setTop (mkF m 94 #[.val (.int p1), .val (.int p2), .val (.int p3), .val (.ref ad_1), .unset] [(.ref ad_1), (.int (p2 &&& (2147483647 : Int32))), (.ref ad_1)])) (fun t hr => XS.aloadN X_16.here hx rfl (hb hby at_93) rfl rfl hr) ?_
  refine Go.st (S' := T_16.setTop (mkF m 95 #[.val (.int p1), .val (.int p2), .val (.int p3), .val (.ref ad_1), .unset] [(.int (15 : Int32)), (.int (p2 &&& (2147483647 : Int32))), (.ref ad_1)])) (own_len X_16 hx hZ e_16 B_16 (g := (mkF m 94 #[.val (.int p1), .val (.int p2), .val (.int p3), .val (.ref ad_1), .unset] [(.ref ad_1), (.int (p2 &&& (2147483647 : Int32))), (.ref ad_1)])) rfl rfl (hb hby at_94)) ?_
  refine Go.st (S' := T_16.setTop (mkF m 96 #[.val (.int p1), .val (.int p2), .val (.int p3), .val (.ref ad_1), .unset] [(.int ((p2 &&& (2147483647 : Int32)) % (15 : Int32))), (.ref ad_1)])) (fun t hr => iremM X_16 hx rfl (hb hby at_95) rfl (by decide) hr) ?_
  obtain ⟨vj, hvj⟩ : ∃ z : Int32, z = ((p2 &&& (2147483647 : Int32)) % (15 : Int32)) := ⟨_, rfl⟩
  refine Go.cast (g' := (mkF m 96 #[.val (.int p1), .val (.int p2), .val (.int p3), .val (.ref ad_1), .unset] [(.int vj), (.ref ad_1)])) (by rw [show ((p2 &&& (2147483647 : Int32)) % (15 : Int32)) = vj from hvj.symm]) ?_
  have rj : 0 ≤ vj.toInt ∧ vj.toInt < 15 := by rw [hvj]; exact own_idx p2
  obtain ⟨vb, hvb⟩ := own_ints_at [(.int (0 : Int32)), (.int (9 : Int32)), (.int (10 : Int32)), (.int (13 : Int32)), (.int (32 : Int32)), (.int (55295 : Int32)), (.int (55296 : Int32)), (.int (57343 : Int32)), (.int (57344 : Int32)), (.int (65533 : Int32)), (.int (65534 : Int32)), (.int (65535 : Int32)), (.int (65536 : Int32)), (.int (1114111 : Int32)), (.int (1114112 : Int32))] vj.toNatClampNeg (by simp [own_ints]) (by have := own_in rj.1; simp only [List.length_cons, List.length_nil]; omega)
  refine Go.st (S' := T_16.setTop (mkF m 97 #[.val (.int p1), .val (.int p2), .val (.int p3), .val (.ref ad_1), .unset] [(.int vb)])) (own_ldI X_16 hx hZ e_16 B_16 (j := vj) (v := (.int vb)) rj.1 rj.2 hvb (g := (mkF m 96 #[.val (.int p1), .val (.int p2), .val (.int p3), .val (.ref ad_1), .unset] [(.int vj), (.ref ad_1)])) rfl rfl (hb hby at_96)) ?_
  refine Go.st (S' := T_16.setTop (mkF m 98 #[.val (.int p1), .val (.int p2), .val (.int p3), .val (.ref ad_1), .unset] [(.int p3), (.int vb)])) (fun t hr => XS.iloadN X_16.here hx rfl (hb hby at_97) rfl hr) ?_
  refine Go.st (S' := T_16.setTop (mkF m 99 #[.val (.int p1), .val (.int p2), .val (.int p3), .val (.ref ad_1), .unset] [(.int (3 : Int32)), (.int p3), (.int vb)])) (fun t hr => XS.iconst X_16.here hx rfl (hb hby at_98) hr) ?_
  refine Go.st (S' := T_16.setTop (mkF m 100 #[.val (.int p1), .val (.int p2), .val (.int p3), .val (.ref ad_1), .unset] [(.int (p3 &&& (3 : Int32))), (.int vb)])) (fun t hr => XS.iand X_16.here hx rfl (hb hby at_99) rfl hr) ?_
  refine Go.st (S' := T_16.setTop (mkF m 101 #[.val (.int p1), .val (.int p2), .val (.int p3), .val (.ref ad_1), .unset] [(.int (1 : Int32)), (.int (p3 &&& (3 : Int32))), (.int vb)])) (fun t hr => XS.iconst X_16.here hx rfl (hb hby at_100) hr) ?_
  refine Go.st (S' := T_16.setTop (mkF m 102 #[.val (.int p1), .val (.int p2), .val (.int p3), .val (.ref ad_1), .unset] [(.int ((p3 &&& (3 : Int32)) - (1 : Int32))), (.int vb)])) (fun t hr => XS.isub X_16.here hx rfl (hb hby at_101) rfl hr) ?_
  refine Go.st (S' := T_16.setTop (mkF m 103 #[.val (.int p1), .val (.int p2), .val (.int p3), .val (.ref ad_1), .unset] [(.int (vb + ((p3 &&& (3 : Int32)) - (1 : Int32))))])) (fun t hr => XS.iadd X_16.here hx rfl (hb hby at_102) rfl hr) ?_
  obtain ⟨near, hnear⟩ : ∃ z : Int32, z = (vb + ((p3 &&& (3 : Int32)) - (1 : Int32))) := ⟨_, rfl⟩
  refine Go.st (S' := T_16.setTop (mkF m 105 #[.val (.int p1), .val (.int p2), .val (.int p3), .val (.ref ad_1), .val (.int near)] [])) (fun t hr => by subst hnear; exact XS.istore X_16.here hx rfl (hb hby at_103) rfl (l' := _) rfl hr) ?_
  refine Go.st (S' := T_16.setTop (mkF m 106 #[.val (.int p1), .val (.int p2), .val (.int p3), .val (.ref ad_1), .val (.int near)] [(.int p1)])) (fun t hr => XS.iloadN X_16.here hx rfl (hb hby at_105) rfl hr) ?_
  obtain ⟨v_17, T_17, h_17, L_17, X_17, e_17, Q_17, st_17⟩ := own_callS X_16 hx hZ (y := ⟨"com/example/items_in_arrays/itemsinarrays/xdm/XmlNames", "isCharacter", "(I)Z"⟩) hown (hw _ (List.mem_of_getElem? (i := 12) rfl)) (hw _ (List.mem_of_getElem? (i := 13) rfl)) (hw _ (List.mem_of_getElem? (i := 14) rfl)) (hw _ (List.mem_of_getElem? (i := 15) rfl)) (by decide) e_16 (argsL := [(.int p1)]) (rest := []) (rmI l Z a0 hw p1 h_16 n0 (by omega)) (g := (mkF m 106 #[.val (.int p1), .val (.int p2), .val (.int p3), .val (.ref ad_1), .val (.int near)] [(.int p1)])) rfl (by rw [hml]; rfl) (lenOf pd_0 rfl) rfl (hb hby at_106) (W := 0) (by show 2 * 0 + _ ≤ _; exact Nat.le_of_eq rfl) (by decide) (by decide) (by decide) (by decide)
  obtain ⟨rfl, N_17, hh_17⟩ := Q_17
  have N_17' := Fr.app N_16 N_17
  rw [hh_17] at e_17
  refine Go.st (S' := T_17.setTop (mkF m 109 #[.val (.int p1), .val (.int p2), .val (.int p3), .val (.ref ad_1), .val (.int near)] [(.int (own_isc p1))])) st_17 ?_
  refine Go.st (S' := T_17.setTop (mkF m 110 #[.val (.int p1), .val (.int p2), .val (.int p3), .val (.ref ad_1), .val (.int near)] [(.int p1), (.int (own_isc p1))])) (fun t hr => XS.iloadN X_17.here hx rfl (hb hby at_109) rfl hr) ?_
  obtain ⟨v_18, T_18, h_18, L_18, X_18, e_18, Q_18, st_18⟩ := own_callS X_17 hx hZ (y := ⟨"com/example/items_in_arrays/itemsinarrays/xdm/XmlNamesIsCharacterPinLaw", "ref", "(I)Z"⟩) hown (hw _ (List.mem_of_getElem? (i := 18) rfl)) (hw _ (List.mem_of_getElem? (i := 19) rfl)) (hw _ (List.mem_of_getElem? (i := 20) rfl)) (hw _ (List.mem_of_getElem? (i := 21) rfl)) (by decide) e_17 (argsL := [(.int p1)]) (rest := [(.int (own_isc p1))]) (rmR l Z a0 hw p1 h_16 n0 (by omega)) (g := (mkF m 110 #[.val (.int p1), .val (.int p2), .val (.int p3), .val (.ref ad_1), .val (.int near)] [(.int p1), (.int (own_isc p1))])) rfl (by rw [hml]; rfl) (lenOf pd_0 rfl) rfl (hb hby at_110) (W := 1) (by show 2 * 0 + _ ≤ _; exact Nat.le_of_eq rfl) (by decide) (by decide) (by decide) (by decide)
  obtain ⟨rfl, N_18, hh_18⟩ := Q_18
  have N_18' := Fr.app N_17' N_18
  rw [hh_18] at e_18
  refine Go.st (S' := T_18.setTop (mkF m 113 #[.val (.int p1), .val (.int p2), .val (.int p3), .val (.ref ad_1), .val (.int near)] [(.int (own_isc p1)), (.int (own_isc p1))])) st_18 ?_
  refine Go.st (S' := T_18.setTop (mkF m 116 #[.val (.int p1), .val (.int p2), .val (.int p3), .val (.ref ad_1), .val (.int near)] [])) (fun t hr => XS.icmpNo X_18.here hx rfl (hb hby at_113) rfl (XT.ii_ne_f rfl) hr) ?_
  refine Go.st (S' := T_18.setTop (mkF m 118 #[.val (.int p1), .val (.int p2), .val (.int p3), .val (.ref ad_1), .val (.int near)] [(.int near)])) (fun t hr => XS.iload X_18.here hx rfl (hb hby at_116) rfl hr) ?_
  obtain ⟨v_19, T_19, h_19, L_19, X_19, e_19, Q_19, st_19⟩ := own_callS X_18 hx hZ (y := ⟨"com/example/items_in_arrays/itemsinarrays/xdm/XmlNames", "isCharacter", "(I)Z"⟩) hown (hw _ (List.mem_of_getElem? (i := 12) rfl)) (hw _ (List.mem_of_getElem? (i := 13) rfl)) (hw _ (List.mem_of_getElem? (i := 14) rfl)) (hw _ (List.mem_of_getElem? (i := 15) rfl)) (by decide) e_18 (argsL := [(.int near)]) (rest := []) (rmI l Z a0 hw near h_16 n0 (by omega)) (g := (mkF m 118 #[.val (.int p1), .val (.int p2), .val (.int p3), .val (.ref ad_1), .val (.int near)] [(.int near)])) rfl (by rw [hml]; rfl) (lenOf pd_0 rfl) rfl (hb hby at_118) (W := 0) (by show 2 * 0 + _ ≤ _; exact Nat.le_of_eq rfl) (by decide) (by decide) (by decide) (by decide)
  obtain ⟨rfl, N_19, hh_19⟩ := Q_19
  have N_19' := Fr.app N_18' N_19
  rw [hh_19] at e_19
  refine Go.st (S' := T_19.setTop (mkF m 121 #[.val (.int p1), .val (.int p2), .val (.int p3), .val (.ref ad_1), .val (.int near)] [(.int (own_isc near))])) st_19 ?_
  refine Go.st (S' := T_19.setTop (mkF m 123 #[.val (.int p1), .val (.int p2), .val (.int p3), .val (.ref ad_1), .val (.int near)] [(.int near), (.int (own_isc near))])) (fun t hr => XS.iload X_19.here hx rfl (hb hby at_121) rfl hr) ?_
  obtain ⟨v_20, T_20, h_20, L_20, X_20, e_20, Q_20, st_20⟩ := own_callS X_19 hx hZ (y := ⟨"com/example/items_in_arrays/itemsinarrays/xdm/XmlNamesIsCharacterPinLaw", "ref", "(I)Z"⟩) hown (hw _ (List.mem_of_getElem? (i := 18) rfl)) (hw _ (List.mem_of_getElem? (i := 19) rfl)) (hw _ (List.mem_of_getElem? (i := 20) rfl)) (hw _ (List.mem_of_getElem? (i := 21) rfl)) (by decide) e_19 (argsL := [(.int near)]) (rest := [(.int (own_isc near))]) (rmR l Z a0 hw near h_16 n0 (by omega)) (g := (mkF m 123 #[.val (.int p1), .val (.int p2), .val (.int p3), .val (.ref ad_1), .val (.int near)] [(.int near), (.int (own_isc near))])) rfl (by rw [hml]; rfl) (lenOf pd_0 rfl) rfl (hb hby at_123) (W := 1) (by show 2 * 0 + _ ≤ _; exact Nat.le_of_eq rfl) (by decide) (by decide) (by decide) (by decide)
  obtain ⟨rfl, N_20, hh_20⟩ := Q_20
  have N_20' := Fr.app N_19' N_20
  rw [hh_20] at e_20
  refine Go.st (S' := T_20.setTop (mkF m 126 #[.val (.int p1), .val (.int p2), .val (.int p3), .val (.ref ad_1), .val (.int near)] [(.int (own_isc near)), (.int (own_isc near))])) st_20 ?_
  refine Go.st (S' := T_20.setTop (mkF m 129 #[.val (.int p1), .val (.int p2), .val (.int p3), .val (.ref ad_1), .val (.int near)] [])) (fun t hr => XS.icmpNo X_20.here hx rfl (hb hby at_126) rfl (XT.ii_ne_f rfl) hr) ?_
  refine Go.st (S' := T_20.setTop (mkF m 130 #[.val (.int p1), .val (.int p2), .val (.int p3), .val (.ref ad_1), .val (.int near)] [(.int (1 : Int32))])) (fun t hr => XS.iconst X_20.here hx rfl (hb hby at_129) hr) ?_
  refine Go.st (S' := T_20.setTop (mkF m 134 #[.val (.int p1), .val (.int p2), .val (.int p3), .val (.ref ad_1), .val (.int near)] [(.int (1 : Int32))])) (fun t hr => XS.goto X_20.here hx rfl (pc0 := 130) (pc' := 134) rfl (hb hby at_130) (by decide) (by decide) hr) ?_
  refine Go.retN X_20 hx hlk (t := .boolean) hret (by simp) (hb hby at_134) (by decide) (by decide) ?_
  try rw [e_20]
  exact ⟨rfl, N_20'⟩
set_option maxRecDepth 65536 in
set_option maxHeartbeats 4000000 in
theorem comes_1 {Post : Tables → Env → Array Value → State → Outcome → State → Prop} (hpost : ∀ tb e args s v u, (limb_1_1.after args s (.returned v) u = true ∧ limb_1_2.after args s (.returned v) u = true ∧ True) → FrameEnd s (.returned v) u (Jvm.fieldLocs frame_1_writes args s ++ Jvm.arrayLocs frame_1_arrays args s ++ Jvm.staticLocs frame_1_statics s) 16 128 → Post tb e args s (.returned v) u) :
    ArmFor flags0 classFile x code maxLocals ret World_1 tables_1 room_1 Calls_1 rest_1 Pre_1 Post := by
  intro l hfl _ _ p e ha hc hk s m args below hf hA hF happ hP
  obtain ⟨hcalls, hrest, hpre⟩ := hP
  obtain ⟨-, -, -, hnamed, -, -, -, hat⟩ := (Spec.applies_iff hf).mp happ
  obtain ⟨hg, hn⟩ := and_e (Cond.before_iff.mp (show (Jvm.Cond.and given_1 narrow_1).before args s = true from hpre))
  obtain ⟨hcnt, gg0⟩ := and_e hg
  obtain ⟨w0, w1, w2, rfl⟩ : ∃ w0 w1 w2 : Value, args = #[w0, w1, w2] := by
    have hs : args.size = 3 := by simpa [Cond.value, given_1] using hcnt
    obtain ⟨L⟩ := args
    match L, hs with
    | [w0, w1, w2], _ => exact ⟨w0, w1, w2, rfl⟩
  have hw := fun d (hd : d ∈ tables_1) => atoms_spec (ws := Jvm.Cond.code x code maxLocals ret :: tables_1) hat d (List.mem_cons_of_mem _ hd)
  have hfit : Fit s := fun {y c} hc i hi => by
    obtain ⟨ha, rfl⟩ := Array.getElem?_eq_some_iff.mp hc
    have q := List.all_eq_true.mp ((Array.all_eq_true_iff_forall_mem.mp hF) _ (Array.getElem_mem ha)) i (List.mem_range.mpr hi)
    simpa [Array.getElem?_eq_getElem hi] using q
  obtain ⟨ga0, gg1⟩ := and_e gg0
  obtain ⟨ga1, gg2⟩ := and_e gg1
  obtain ⟨i0, ev0⟩ := is_v ga0
  obtain rfl : w0 = (.int i0) := Option.some.inj ev0
  obtain ⟨i1, ev1⟩ := is_v ga1
  obtain rfl : w1 = (.int i1) := Option.some.inj ev1
  obtain ⟨i2, ev2⟩ := is_v gg2
  obtain rfl : w2 = (.int i2) := Option.some.inj ev2
  obtain ⟨n, o, h1, h2, h3, _, L, rfl, ⟨rfl, N⟩, hq⟩ := rm0 l s _ hw i0 i1 i2 s.heap s.heap.size (Nat.le_refl _) tables_1 p e ha hc hk s m _ below hf ((Spec.applies_iff_loose hf).mp happ).1 ⟨rfl, State.Warmed39.refl s, rfl⟩ trivial
  refine ⟨n, _, h1, h2, h3, hpost _ _ _ _ _ _ ⟨Cond.after_iff.mpr rfl, Cond.after_iff.mpr (eq_i res_at (Term.int_eval (1)) rfl), trivial⟩ ⟨hq.1, hq.2.1, (hq.2.2.sift fun y hy => Or.inr (N y hy)).mono (by decide) (by decide)⟩⟩
theorem main_1_1 : Claimed_1_1 := comes_1 fun _ _ _ _ _ _ h hF => ⟨h.1, hF⟩
theorem main_1_2 : Claimed_1_2 := comes_1 fun _ _ _ _ _ _ h hF => ⟨h.2.1, hF⟩
end Jvm.Pilot.@@N@@
namespace Jvm.Pilot.@@N@@
open Jvm Jvm.ClassFile Sem Op Lib Jvm.Free Jvm.Stand Jvm.Pilot.@@N@@.Jvm.D
/-! MADE BY PROGRAM (witnessworld.py) out of the Statement's table words and the real class files: 9 classes; the members and pool entries that the words name. The judged class is class 1, her method 2. -/
namespace start1
open Jvm.ClassFile
def u (s : String) : CpInfo := .utf8 (stringToUtf16 s)
/-- a pool by its gaps: so many unusable entries, then the entry; so many at the end -/
def gap : Nat → List CpInfo → List CpInfo
  | 0, r => r
  | n + 1, r => .unusable :: gap n r
def poolList (es : List (Nat × CpInfo)) (last : Nat) : List CpInfo := es.foldr (fun e r => gap e.1 (e.2 :: r)) (gap last [])
def pool (es : List (Nat × CpInfo)) (last : Nat) : Array CpInfo := ⟨poolList es last⟩
def fileOf (pool : Array CpInfo) (this : Nat) (attrs : Array Attribute := #[]) (ms : Array MethodInfo := #[]) (fl : Nat := 33) (sup : Nat := 0) (ifs : Array Nat := #[]) (fds : Array FieldInfo := #[]) : ClassFile where
  minorVersion := 0
  majorVersion := 65
  constantPool := pool
  accessFlags := fl
  thisClass := this
  superClass := sup
  interfaces := ifs
  fields := fds
  methods := ms
  attributes := attrs
def plain (name : String) (sup : Option ClassId) : Class where
  name := name
  kind := .ordinary
  loader := none
  accessFlags := 33
  super := sup
  interfaces := #[]
  cf := none
  fields := #[]
  methods := #[]
  instanceTypes := #[]
  staticTypes := #[]
  resolved := #[]
  callSites := []
  init := .initialized
  statics := none
  mirror := none

def pool0 : Array CpInfo := pool [(5, u "<init>"), (0, u "()V"), (1, .class_ 10), (1, u "java/lang/Object")] 113

def k0m0 : Method := { name := "<init>", desc := "()V", sig := { parameters := [], returnType := none }, accessFlags := 1, code := none }
/-- java/lang/Object -/
def k0 : Class := { plain "java/lang/Object" none with
  accessFlags := 33
  interfaces := #[]
  cf := some (fileOf pool0 8 #[] #[{ accessFlags := 1, nameIndex := 5, descriptorIndex := 6, attributes := #[] }] 33 0 #[] #[])
  fields := #[]
  methods := #[k0m0]
  instanceTypes := #[]
  staticTypes := #[]
  resolved := Array.replicate 124 none
  statics := none }

def pool1 : Array CpInfo := pool [(2, .class_ 4), (1, u "java/lang/Object"), (0, u "<init>"), (0, u "()V"), (0, .integer 1114111), (0, .integer 55296), (0, .integer 57343), (0, .integer 65534), (0, .integer 65535), (0, .integer 55295), (0, .integer 57344), (0, .integer 65533), (0, .integer 65536), (0, .integer 1114112), (0, .integer 2147483647), (0, .methodref 19 20), (0, .class_ 21), (0, .nameAndType 22 23), (0, u "com/example/items_in_arrays/itemsinarrays/xdm/XmlNames"), (0, u "isCharacter"), (0, u "(I)Z"), (0, .methodref 25 26), (0, .class_ 27), (0, .nameAndType 28 23), (0, u "com/example/items_in_arrays/itemsinarrays/xdm/XmlNamesIsCharacterPinLaw"), (0, u "ref"), (3, u "law"), (0, u "(III)Z")] 4

def k1m0 : Method := { name := "<init>", desc := "()V", sig := { parameters := [], returnType := none }, accessFlags := 2, code := none }
def k1c1 : Code := { maxStack := 2, maxLocals := 1, code := method_2_code, exceptionTable := #[], attributes := #[] }
def k1m1 : Method := { name := "ref", desc := "(I)Z", sig := { parameters := [.int], returnType := some .boolean }, accessFlags := 10, code := some k1c1 }
def k1c2 : Code := { maxStack := 4, maxLocals := 5, code := code, exceptionTable := #[], attributes := #[] }
def k1m2 : Method := { name := "law", desc := "(III)Z", sig := { parameters := [.int, .int, .int], returnType := some .boolean }, accessFlags := 9, code := some k1c2 }
/-- com/example/items_in_arrays/itemsinarrays/xdm/XmlNamesIsCharacterPinLaw -/
def k1 : Class := { plain "com/example/items_in_arrays/itemsinarrays/xdm/XmlNamesIsCharacterPinLaw" (some 0) with
  accessFlags := 49
  interfaces := #[]
  cf := some (fileOf pool1 25 #[] #[{ accessFlags := 2, nameIndex := 5, descriptorIndex := 6, attributes := #[] }, { accessFlags := 10, nameIndex := 28, descriptorIndex := 23, attributes := #[] }, { accessFlags := 9, nameIndex := 32, descriptorIndex := 33, attributes := #[] }] 49 2 #[] #[])
  fields := #[]
  methods := #[k1m0, k1m1, k1m2]
  instanceTypes := #[]
  staticTypes := #[]
  resolved := Array.replicate 38 none
  statics := none }

def pool2 : Array CpInfo := pool [(2, .class_ 4), (1, u "java/lang/Object"), (0, u "<init>"), (0, u "()V"), (1, .class_ 10), (1, u "com/example/items_in_arrays/itemsinarrays/xdm/XmlNames"), (0, u "START"), (0, u "[I"), (6, u "FOLLOWING"), (5, .integer 55295), (0, .integer 57344), (0, .integer 65533), (0, .integer 65536), (2, .integer 1114111), (44, u "(I)Z"), (16, u "isCharacter")] 7

def k2m0 : Method := { name := "<init>", desc := "()V", sig := { parameters := [], returnType := none }, accessFlags := 2, code := none }
def k2c1 : Code := { maxStack := 2, maxLocals := 1, code := prog_48_method_6_code, exceptionTable := #[], attributes := #[] }
def k2m1 : Method := { name := "isCharacter", desc := "(I)Z", sig := { parameters := [.int], returnType := some .boolean }, accessFlags := 9, code := some k2c1 }
/-- com/example/items_in_arrays/itemsinarrays/xdm/XmlNames -/
def k2 : Class := { plain "com/example/items_in_arrays/itemsinarrays/xdm/XmlNames" (some 0) with
  accessFlags := 33
  interfaces := #[]
  cf := some (fileOf pool2 8 #[] #[{ accessFlags := 2, nameIndex := 5, descriptorIndex := 6, attributes := #[] }, { accessFlags := 9, nameIndex := 93, descriptorIndex := 76, attributes := #[] }] 33 2 #[] #[{ accessFlags := 26, nameIndex := 11, descriptorIndex := 12, attributes := #[] }, { accessFlags := 26, nameIndex := 19, descriptorIndex := 12, attributes := #[] }])
  fields := #[{ name := "START", type := (.array .int), accessFlags := 26, slot := 0, constantValue := 0 }, { name := "FOLLOWING", type := (.array .int), accessFlags := 26, slot := 1, constantValue := 0 }]
  methods := #[k2m0, k2m1]
  instanceTypes := #[]
  staticTypes := #[(.array .int), (.array .int)]
  resolved := Array.replicate 101 none
  statics := none }

def pool3 : Array CpInfo := pool [(1, u "java/lang/Cloneable"), (0, .class_ 1), (0, u "java/lang/Object"), (0, .class_ 3)] 3

/-- java/lang/Cloneable -/
def k3 : Class := { plain "java/lang/Cloneable" (some 0) with
  accessFlags := 1537
  interfaces := #[]
  cf := some (fileOf pool3 2 #[] #[] 1537 4 #[] #[])
  fields := #[]
  methods := #[]
  instanceTypes := #[]
  staticTypes := #[]
  resolved := Array.replicate 8 none
  statics := none }

def pool4 : Array CpInfo := pool [(1, u "java/io/Serializable"), (0, .class_ 1), (0, u "java/lang/Object"), (0, .class_ 3)] 3

/-- java/io/Serializable -/
def k4 : Class := { plain "java/io/Serializable" (some 0) with
  accessFlags := 1537
  interfaces := #[]
  cf := some (fileOf pool4 2 #[] #[] 1537 4 #[] #[])
  fields := #[]
  methods := #[]
  instanceTypes := #[]
  staticTypes := #[]
  resolved := Array.replicate 8 none
  statics := none }

/-- the primitive byte -/
def k5 : Class := { plain "byte" none with kind := .primitive 'B', accessFlags := 0x411 }
/-- [B -/
def k6 : Class := { plain "[B" (some 0) with kind := .array 5 .byte, interfaces := #[3, 4], accessFlags := 1041 }

/-- the primitive int -/
def k7 : Class := { plain "int" none with kind := .primitive 'I', accessFlags := 0x411 }
/-- [I -/
def k8 : Class := { plain "[I" (some 0) with kind := .array 7 .int, interfaces := #[3, 4], accessFlags := 1041 }

def heap : Heap := #[]
def classes : Array Class := #[k0, k1, k2, k3, k4, k5, k6, k7, k8]
def interned : List (Array UInt16 × Addr) := []
def slotsUsed : Nat := 0
def theMethod : MethodId := ⟨1, 2⟩
def args0 : Array Value := #[.int 5, .int 3, .int 2]
def aboutOver (below : List Frame) : State where
  vm := { classes := classes, interned := interned.toArray }
  heap := heap
  slotsUsed := slotsUsed
  threads := #[{ frames := .invoking theMethod args0 :: below }]
def below0 : List Frame := [.native { method := ⟨0, 0⟩, args := #[] }]
def about1 : State := aboutOver below0
def p0 : Program := .bare "" "" ""
def e0 : Env := launch0.env 0 0 0
theorem w_frames : about1.frames = Frame.invoking theMethod args0 :: below0 := rfl
set_option maxRecDepth 65536 in
theorem w_args : argsFit about1.vm theMethod args0 = true := by decide +kernel
set_option maxRecDepth 65536 in
theorem w_heap : heapFits about1 = true := by decide +kernel
set_option maxRecDepth 65536 in
theorem w_runnable : about1.curStatus? = some .runnable := by decide +kernel
set_option maxRecDepth 65536 in
theorem w_alone : about1.alone = true := by decide +kernel
set_option maxRecDepth 65536 in
theorem w_named : about1.methodNamed? x = some theMethod := by decide +kernel
set_option maxRecDepth 65536 in
theorem w_hears : about1.hears theMethod below0 = true := by decide +kernel
set_option maxRecDepth 65536 in
theorem w_ripe : about1.ripe theMethod args0 below0 = true := by decide +kernel
theorem w_running : about1.status = .running := rfl
set_option maxRecDepth 65536 in
theorem w_room : about1.hasRoom e0.platform room_1 = true :=
  launch0.hasRoom_least _ room_1 (by decide +kernel) (by decide +kernel) (by decide +kernel) (by decide +kernel) (by decide +kernel) (by decide +kernel)
theorem allAtoms_all (ts : List Jvm.Cond) (a : Array Jvm.Value) (st : Jvm.State) : (allAtoms ts).before a st = ts.all (fun c => c.before a st) := by
  induction ts with
  | nil => rfl
  | cons c t ih =>
    show (Jvm.Cond.and c (allAtoms t)).before a st = _
    rw [Jvm.Cond.before_and, ih, List.all_cons]
def words1 : List Jvm.Cond := Jvm.Cond.code x code maxLocals ret :: tables_1
/-- a 'code' word, met by the world's own term for the bytes: nothing is compared byte by byte -/
theorem code_word {y : MethodName} {bytes : ByteArray} {mx : Nat} {rt : Option FieldType} {a : Array Value} {s : State} {m : MethodId} {meth : Method} {c : Code} (h1 : s.methodNamed? y = some m) (h2 : s.vm.method? m = some meth) (h3 : meth.code = some c) (h4 : c.code = bytes)
    (h5 : (c.maxLocals == mx && c.exceptionTable.isEmpty && decide (c.maxStack ≤ mostOperands) && decide (meth.sig.returnType = rt) && !meth.locks && decide (parseMethodDescriptor y.desc = some meth.sig)) = true) : (Jvm.Cond.code y bytes mx rt).before a s = true := by
  simp only [Bool.and_eq_true, beq_iff_eq, Bool.not_eq_true', decide_eq_true_eq] at h5
  obtain ⟨⟨⟨⟨⟨g1, g2⟩, g3⟩, g4⟩, g5⟩, g6⟩ := h5
  simp [Cond.before, Cond.holds, Cond.value, h1, h2, h3, h4, g1, g2, g3, g4, g5, g6]
def isCode : Jvm.Cond → Bool
  | .code _ _ _ _ => true
  | _ => false
theorem all_split {L : List Jvm.Cond} {P : Jvm.Cond → Bool} (h1 : L.all (fun c => isCode c || P c) = true) (h2 : ∀ c ∈ L.filter isCode, P c = true) : L.all P = true := by
  refine List.all_eq_true.mpr fun c hc => ?_
  have h := List.all_eq_true.mp h1 c hc
  rcases Bool.eq_false_or_eq_true (isCode c) with hi | hi
  · exact h2 c (List.mem_filter.mpr ⟨hc, hi⟩)
  · simpa [hi] using h
set_option maxRecDepth 65536 in
theorem w_c0 : (Jvm.Cond.code x code maxLocals ret).before args0 about1 = true := code_word (m := ⟨1, 2⟩) (meth := k1m2) (c := k1c2) (by decide +kernel) rfl rfl rfl (by decide +kernel)
set_option maxRecDepth 65536 in
theorem w_c1 : (Jvm.Cond.code ({ cls := "com/example/items_in_arrays/itemsinarrays/xdm/XmlNames", name := "isCharacter", desc := "(I)Z" } : Jvm.MethodName) prog_48_method_6_code (1 : Nat) (Option.some Jvm.ClassFile.FieldType.boolean)).before args0 about1 = true := code_word (m := ⟨2, 1⟩) (meth := k2m1) (c := k2c1) (by decide +kernel) rfl rfl rfl (by decide +kernel)
set_option maxRecDepth 65536 in
theorem w_c2 : (Jvm.Cond.code ({ cls := "com/example/items_in_arrays/itemsinarrays/xdm/XmlNamesIsCharacterPinLaw", name := "ref", desc := "(I)Z" } : Jvm.MethodName) method_2_code (1 : Nat) (Option.some Jvm.ClassFile.FieldType.boolean)).before args0 about1 = true := code_word (m := ⟨1, 1⟩) (meth := k1m1) (c := k1c1) (by decide +kernel) rfl rfl rfl (by decide +kernel)
def codes1 : List Jvm.Cond := [Jvm.Cond.code x code maxLocals ret, Jvm.Cond.code ({ cls := "com/example/items_in_arrays/itemsinarrays/xdm/XmlNames", name := "isCharacter", desc := "(I)Z" } : Jvm.MethodName) prog_48_method_6_code (1 : Nat) (Option.some Jvm.ClassFile.FieldType.boolean), Jvm.Cond.code ({ cls := "com/example/items_in_arrays/itemsinarrays/xdm/XmlNamesIsCharacterPinLaw", name := "ref", desc := "(I)Z" } : Jvm.MethodName) method_2_code (1 : Nat) (Option.some Jvm.ClassFile.FieldType.boolean)]
set_option maxRecDepth 65536 in
theorem codes_eq : words1.filter isCode = codes1 := rfl
theorem w_codes : ∀ c ∈ words1.filter isCode, c.before args0 about1 = true := by
  rw [codes_eq]
  intro c hc
  simp only [codes1, List.mem_cons, List.not_mem_nil, or_false] at hc
  rcases hc with rfl | rfl | rfl
  · exact w_c0
  · exact w_c1
  · exact w_c2
set_option maxRecDepth 65536 in
theorem w_t1 : (words1.take 24).all (fun c => isCode c || c.before args0 about1) = true := by decide +kernel
set_option maxRecDepth 65536 in
theorem w_t2 : (words1.drop 24).all (fun c => isCode c || c.before args0 about1) = true := by decide +kernel
theorem w_tables : (allAtoms (Jvm.Cond.code x code maxLocals ret :: tables_1)).before args0 about1 = true := by
  rw [allAtoms_all]
  show words1.all (fun c => c.before args0 about1) = true
  refine all_split ?_ w_codes
  rw [← List.take_append_drop 24 words1, List.all_append, w_t1, w_t2]
  rfl
set_option maxRecDepth 65536 in
theorem w_case : (Jvm.Cond.and given_1 narrow_1).before args0 about1 = true := by decide +kernel
theorem w_applies : (headSpec (Jvm.Cond.code x code maxLocals ret :: tables_1) room_1).applies x e0.platform about1 = true :=
  (Spec.applies_iff w_frames).mpr ⟨w_running, w_runnable, w_alone, w_named, w_hears, w_ripe, w_room, w_tables⟩
theorem atStart : AtStart classFile x code maxLocals ret World_1 tables_1 room_1 Calls_1 rest_1 Pre_1 launch0 p0 e0 about1 theMethod args0 below0 :=
  ⟨lists_1, trivial, launch0.admits_env _ _ _, launch0.least_env, fairChoices_fair.cas, fairChoices_fair.clock, w_frames, w_args, w_heap, w_applies, trivial, trivial, w_case⟩
end start1
theorem witness_1 : WitnessClaimed_1 := ⟨start1.p0, start1.e0, start1.about1, start1.theMethod, start1.args0, start1.below0, start1.atStart⟩
end Jvm.Pilot.@@N@@
