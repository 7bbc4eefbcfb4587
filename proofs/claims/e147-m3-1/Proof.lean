import JvmDerived
import JvmDerived.Pilot.@@N@@Statement
import JvmDerived.Pilot.@@N@@Code
set_option linter.unusedVariables false
set_option linter.unusedSimpArgs false
namespace Jvm.Pilot.@@N@@
open Jvm Jvm.ClassFile Sem Op Lib Jvm.Free Jvm.Stand Jvm.LawKit Jvm.RoadKit Bundle Jvm.Pilot.@@N@@.Jvm.D
/-! own kit: a walk that goes forward, step by step, and may fork anywhere (Go); a body's contract (Con); calls by contract; arrays by their list of values (Ary) -/
def Go (p : Program) (e : Env) (below : List Frame) (s : State) (k n : Nat) (Q : Option Value → Heap → List Loc → Prop) (S : State) : Prop :=
  ∃ (U : State) (o : Outcome), Steps p.tables e below S U ∧ U.status = .running ∧ Ended U below o ∧ ∃ v L, o = .returned v ∧ Q v U.heap L ∧ FrameEnd s o U L k n
section Own
variable {p : Program} {l : Launch} {e : Env} {R : Room} {s : State} {m : MethodId} {args : Array Value} {below : List Frame} {meth : Method} {c : Code} {T : State} {locs : List Loc} {cells slots : Nat} {Z : State} {a0 : Array Value} {h h' : Heap} {k n : Nat} {Q : Option Value → Heap → List Loc → Prop} {S S' : State}
theorem Go.st (f : ∀ t, Steps p.tables e below S' t → Steps p.tables e below S t) (g : Go p e below s k n Q S') : Go p e below s k n Q S := by
  obtain ⟨U, o, h1, r⟩ := g
  exact ⟨U, o, f _ h1, r⟩
theorem Go.cast {g g' : JFrame} (q : g = g') (k' : Go p e below s k n Q (T.setTop g')) : Go p e below s k n Q (T.setTop g) := q ▸ k'
theorem Go.ret (X : Stand p l e R s m args below meth c T locs cells slots) (hlk : meth.locks = false) {v : Option Value} (hv : meth.sig.returnType = none → v = none)
    (step : ∀ fs, (∀ (f : JFrame) (acts : List Action), f.method = m → f.locked = none → f.entered = [] → (doReturn e (T.setTop f) acts v).1 = T.setFrames fs) → Steps p.tables e below S (T.setFrames fs))
    (hk : cells ≤ k) (hn : slots ≤ n) (hQ : Q v T.heap locs) : Go p e below s k n Q S := by
  obtain ⟨fs, hr, hrun, hended, hW, hsame⟩ := X.leave (v := v) hv hlk
  exact ⟨_, _, step fs hr, hrun, hended, v, locs, rfl, hQ, ⟨_, rfl⟩, hW, hsame.mono hk hn⟩
theorem Go.retI (X : Stand p l e R s m args below meth c T locs cells slots) (hx : p.tables.exec = Jvm.exec) (hlk : meth.locks = false) (hret : meth.sig.returnType = some .int) {pc : Nat} {Ls : Array Slot} {z : Int32} {rest : List Value} (hd : decode c.code pc = .ok (.ireturn, 1))
    (hk : cells ≤ k) (hn : slots ≤ n) (hQ : Q (some (.int z)) T.heap locs) : Go p e below s k n Q (T.setTop (mkF m pc Ls (.int z :: rest))) :=
  Go.ret X hlk (fun q => by rw [hret] at q; cases q) (fun fs hr => retOut X hx hret rfl (Or.inl ⟨rfl, Or.inl rfl, z, rfl⟩) hd hr) hk hn hQ
theorem Go.retN (X : Stand p l e R s m args below meth c T locs cells slots) (hx : p.tables.exec = Jvm.exec) (hlk : meth.locks = false) {t : FieldType} (hret : meth.sig.returnType = some t) (ht : t = .boolean ∨ t = .byte ∨ t = .char ∨ t = .short) {pc : Nat} {Ls : Array Slot} {z : Int32} {rest : List Value} (hd : decode c.code pc = .ok (.ireturn, 1))
    (hk : cells ≤ k) (hn : slots ≤ n) (hQ : Q (some (.int (nar t z))) T.heap locs) : Go p e below s k n Q (T.setTop (mkF m pc Ls (.int z :: rest))) :=
  Go.ret X hlk (fun q => by rw [hret] at q; cases q) (fun fs hr => Jvm.RoadKit.retN X hx hret ht hd hr) hk hn hQ
theorem Go.retL (X : Stand p l e R s m args below meth c T locs cells slots) (hx : p.tables.exec = Jvm.exec) (hlk : meth.locks = false) (hret : meth.sig.returnType = some .long) {pc : Nat} {Ls : Array Slot} {z : Int64} {rest : List Value} (hd : decode c.code pc = .ok (.lreturn, 1))
    (hk : cells ≤ k) (hn : slots ≤ n) (hQ : Q (some (.long z)) T.heap locs) : Go p e below s k n Q (T.setTop (mkF m pc Ls (.long z :: rest))) :=
  Go.ret X hlk (fun q => by rw [hret] at q; cases q) (fun fs hr => retOut X hx hret rfl (Or.inr (Or.inl ⟨rfl, rfl, z, rfl⟩)) hd hr) hk hn hQ
theorem own_narR {t : FieldType} {w : Value} (h1 : t.isReference = true) (h2 : w.isRef = true) : narrow t w = w := by
  rcases ref_cases h2 with rfl | ⟨a, rfl⟩ <;> cases t <;> first | rfl | (simp [FieldType.isReference] at h1)
theorem Go.retA (X : Stand p l e R s m args below meth c T locs cells slots) (hx : p.tables.exec = Jvm.exec) (hlk : meth.locks = false) {t : FieldType} (hret : meth.sig.returnType = some t) (ht : t.isReference = true) {pc : Nat} {Ls : Array Slot} {w : Value} {rest : List Value} (hw : w.isRef = true) (hd : decode c.code pc = .ok (.areturn, 1))
    (hk : cells ≤ k) (hn : slots ≤ n) (hQ : Q (some w) T.heap locs) : Go p e below s k n Q (T.setTop (mkF m pc Ls (w :: rest))) :=
  Go.ret X hlk (fun q => by rw [hret] at q; cases q) (fun fs hr => retOut X hx hret (own_narR ht hw) (Or.inr (Or.inr (Or.inr (Or.inr ⟨rfl, ht, hw⟩)))) hd hr) hk hn hQ
theorem Go.retV (X : Stand p l e R s m args below meth c T locs cells slots) (hx : p.tables.exec = Jvm.exec) (hlk : meth.locks = false) (hret : meth.sig.returnType = none) {pc : Nat} {Ls : Array Slot} (hd : decode c.code pc = .ok (.return_, 1))
    (hk : cells ≤ k) (hn : slots ≤ n) (hQ : Q none T.heap locs) : Go p e below s k n Q (T.setTop (mkF m pc Ls [])) :=
  Go.ret X hlk (fun _ => rfl) (fun fs hr => X.returnOut hx hret hd hr) hk hn hQ
/-- what a body leaves, for every start that is warmer than Z's, its heap h0, its arguments as' -/
def Con (l : Launch) (Z : State) (y : MethodName) (bytes : ByteArray) (maxL : Nat) (ret : Option FieldType) (rm : Room) (as' : Array Value) (h0 : Heap) (Q : Option Value → Heap → List Loc → Prop) : Prop :=
  ∀ ws : List Jvm.Cond, MetFree l y (head1 (Jvm.Cond.code y bytes maxL ret :: ws) rm) (fun a U => a = as' ∧ Z.Warmed39 U.vm ∧ U.heap = h0) (fun _ _ _ _ _ => True) (fun _ U o U' => ∃ v L, o = .returned v ∧ Q v U'.heap L ∧ FrameEnd U o U' L rm.cells rm.slots)
theorem Con.of {y : MethodName} {bytes : ByteArray} {maxL : Nat} {ret : Option FieldType} {rm : Room} {as' : Array Value} {h0 : Heap} (hp : plainFor y = true)
    (body : ∀ (p : Program) (e : Env) (s : State) (m : MethodId) (below : List Frame) (meth : Method) (c : Code) (s₁ : State), Stand p l e rm s m as' below meth c s₁ [] 0 0 → p.tables.exec = Jvm.exec → c.code = bytes → c.maxLocals = maxL → Z.Warmed39 s.vm → s.vm.findClass y.cls = some m.cls → meth.name = y.name → meth.sig.returnType = ret → meth.locks = false → s₁.heap = h0 →
      Go p e below s rm.cells rm.slots Q (s₁.setTop (entryFrame m as' maxL))) : Con l Z y bytes maxL ret rm as' h0 Q := by
  intro ws
  refine MetFree.of_bodySF hp hisR ?_
  intro p e s m args below meth c s₁ Bd hml hP hK
  obtain ⟨rfl, hZ, hh⟩ := hP
  obtain ⟨U, o, h1, h2, h3, h4⟩ := body p e s m below meth c s₁ (Stand.of_body Bd) Bd.exec Bd.bytes hml hZ (findClass_of_methodNamed Bd.named) (name_of_methodNamed Bd.named Bd.method).1 Bd.returns Bd.notSynchronized (by rw [← hh, Bd.state]; rfl)
  exact ⟨U, o, h1, h2, h3, h4⟩
theorem Con.imp {y : MethodName} {bytes : ByteArray} {maxL : Nat} {ret : Option FieldType} {rm : Room} {as' : Array Value} {h0 : Heap} {Q' : Option Value → Heap → List Loc → Prop} (hC : Con l Z y bytes maxL ret rm as' h0 Q) (hq : ∀ v h L, Q v h L → Q' v h L) : Con l Z y bytes maxL ret rm as' h0 Q' := by
  intro ws p e ha hc hk s m args below hf happ hP hK
  obtain ⟨n, o, h1, h2, h3, v, L, h4, h5, h6⟩ := hC ws p e ha hc hk s m args below hf happ hP hK
  exact ⟨n, o, h1, h2, h3, v, L, h4, hq _ _ _ h5, h6⟩
theorem own_callS (X : Stand p l e R s m args below meth c T locs cells slots) (hx : p.tables.exec = Jvm.exec) (hZ : Z.Warmed39 s.vm) {own : String} {index : Nat} {y : MethodName} {bytes : ByteArray} {maxL : Nat} {ret : Option FieldType} {rm : Room}
    (hown : s.vm.findClass own = some m.cls) (w1 : (Jvm.Cond.methodLink own index y).before a0 Z = true) (w2 : (Jvm.Cond.static y).before a0 Z = true) (w3 : (Jvm.Cond.initialized y.cls).before a0 Z = true) (w4 : (Jvm.Cond.code y bytes maxL ret).before a0 Z = true)
    (hy : y.cls ≠ "java/lang/invoke/MethodHandle" ∧ y.cls ≠ "java/lang/invoke/VarHandle") (eT : T.heap = h) {argsL rest : List Value} (hC : Con l Z y bytes maxL ret rm argsL.toArray h Q)
    {g : JFrame} (hg : g.method = m) (hsize : g.locals.size = c.maxLocals) (hlen : ∀ sig, parseMethodDescriptor y.desc = some sig → argsL.length = sig.parameters.length) (hstack : g.stack = argsL.reverse ++ rest) (hd : decode c.code g.pc = .ok (.invokestatic index, 3))
    {W : Nat} (hW : 2 * g.monitorRoom + (rest.map fun v => v.category).sum ≤ W) (hf : rm.frames + 1 ≤ R.frames) (hl : W + (maxL + 11) + rm.locals ≤ R.locals) (hc : cells + rm.cells ≤ R.cells) (hs : slots + rm.slots ≤ R.slots) :
    ∃ v T' h' L, Stand p l e R s m args below meth c T' (locs ++ L) (cells + rm.cells) (slots + rm.slots) ∧ T'.heap = h' ∧ Q v h' L ∧ ∀ target, Steps p.tables e below (T'.setTop { g with pc := g.pc + 3, stack := v.toList ++ rest }) target → Steps p.tables e below (T.setTop g) target := by
  obtain ⟨v, _, ⟨T', L', k', n'⟩, -, X', ⟨Lc, hQ, l', y', z'⟩, st⟩ := Jvm.LawKit.callS X hx (y := y) hown (mvT hZ w1) (mvT hZ w2) (mvT hZ w3) (mvT hZ w4) hy (backOf (W := W) (hC []) hZ w4 w3 hf hl) hg hsize (argsL := argsL) (rest := rest) hlen hstack hW hd (fun _ _ => ⟨rfl, eT, hc, hs⟩)
  dsimp only [Pt.U, Pt.locs, Pt.cells, Pt.slots] at X' l' y' z' st hQ
  subst l' y' z'
  exact ⟨v, T', _, Lc, X', rfl, hQ, st⟩
theorem own_callN (X : Stand p l e R s m args below meth c T locs cells slots) (hx : p.tables.exec = Jvm.exec) (hZ : Z.Warmed39 s.vm) {own : String} {index : Nat} {y : MethodName} {bytes : ByteArray} {maxL : Nat} {rm : Room} (hy1 : y.name = "<init>")
    (hown : s.vm.findClass own = some m.cls) (w1 : (Jvm.Cond.methodLink own index y).before a0 Z = true) (w2 : (Jvm.Cond.instanceMethod y).before a0 Z = true) (w3 : (Jvm.Cond.initialized y.cls).before a0 Z = true) (w4 : (Jvm.Cond.code y bytes maxL none).before a0 Z = true)
    (hy : y.cls ≠ "java/lang/invoke/MethodHandle" ∧ y.cls ≠ "java/lang/invoke/VarHandle") (eT : T.heap = h) {a : Addr} {argsL rest : List Value} (hC : Con l Z y bytes maxL none rm (.ref a :: argsL).toArray h Q)
    {g : JFrame} (hg : g.method = m) (hsize : g.locals.size = c.maxLocals) (hlen : ∀ sig, parseMethodDescriptor y.desc = some sig → argsL.length = sig.parameters.length) (hstack : g.stack = argsL.reverse ++ .ref a :: rest) (hd : decode c.code g.pc = .ok (.invokespecial index, 3))
    {W : Nat} (hW : 2 * g.monitorRoom + (rest.map fun v => v.category).sum ≤ W) (hf : rm.frames + 1 ≤ R.frames) (hl : W + (maxL + 11) + rm.locals ≤ R.locals) (hc : cells + rm.cells ≤ R.cells) (hs : slots + rm.slots ≤ R.slots) :
    ∃ v T' h' L, Stand p l e R s m args below meth c T' (locs ++ L) (cells + rm.cells) (slots + rm.slots) ∧ T'.heap = h' ∧ Q v h' L ∧ ∀ target, Steps p.tables e below (T'.setTop { g with pc := g.pc + 3, stack := v.toList ++ rest }) target → Steps p.tables e below (T.setTop g) target := by
  obtain ⟨v, _, ⟨T', L', k', n'⟩, -, X', ⟨Lc, hQ, l', y', z'⟩, st⟩ := X.specialBack hx (y := y) hy1 hown (mvT hZ w1) (mvT hZ w2) (mvT hZ w4) hy (backOf (W := W) (hC []) hZ w4 w3 hf hl) hg hsize (Steps.refl _) (a := a) (argsL := argsL) (rest := rest) hlen hstack hW hd (fun _ _ => ⟨rfl, eT, hc, hs⟩)
  dsimp only [Pt.U, Pt.locs, Pt.cells, Pt.slots] at X' l' y' z' st hQ
  subst l' y' z'
  exact ⟨v, T', _, Lc, X', rfl, hQ, fun t ht => st.trans ht⟩
theorem own_callV (X : Stand p l e R s m args below meth c T locs cells slots) (hx : p.tables.exec = Jvm.exec) (hZ : Z.Warmed39 s.vm) {own C : String} {index : Nat} {y z : MethodName} {bytes : ByteArray} {maxL : Nat} {ret : Option FieldType} {rm : Room}
    (hown : s.vm.findClass own = some m.cls) (w1 : (Jvm.Cond.methodLink own index y).before a0 Z = true) (w2 : (Jvm.Cond.declares y).before a0 Z = true) (w5 : (Jvm.Cond.selects y.cls y y).before a0 Z = true) (w6 : (Jvm.Cond.selects C y z).before a0 Z = true) (w7 : (Jvm.Cond.instanceMethod z).before a0 Z = true) (w3 : (Jvm.Cond.initialized z.cls).before a0 Z = true) (w4 : (Jvm.Cond.code z bytes maxL ret).before a0 Z = true)
    (hy : y.cls ≠ "java/lang/invoke/MethodHandle" ∧ y.cls ≠ "java/lang/invoke/VarHandle") (eT : T.heap = h) {a : Addr} (E : Exa Z h a C) {argsL rest : List Value} (hC : Con l Z z bytes maxL ret rm (.ref a :: argsL).toArray h Q)
    {g : JFrame} (hg : g.method = m) (hsize : g.locals.size = c.maxLocals) (hlen : ∀ sig, parseMethodDescriptor y.desc = some sig → argsL.length = sig.parameters.length) (hstack : g.stack = argsL.reverse ++ .ref a :: rest) (hd : decode c.code g.pc = .ok (.invokevirtual index, 3))
    {W : Nat} (hW : 2 * g.monitorRoom + (rest.map fun v => v.category).sum ≤ W) (hf : rm.frames + 1 ≤ R.frames) (hl : W + (maxL + 11) + rm.locals ≤ R.locals) (hc : cells + rm.cells ≤ R.cells) (hs : slots + rm.slots ≤ R.slots) :
    ∃ v T' h' L, Stand p l e R s m args below meth c T' (locs ++ L) (cells + rm.cells) (slots + rm.slots) ∧ T'.heap = h' ∧ Q v h' L ∧ ∀ target, Steps p.tables e below (T'.setTop { g with pc := g.pc + 3, stack := v.toList ++ rest }) target → Steps p.tables e below (T.setTop g) target := by
  obtain ⟨cq, kq, qa, qb, qc⟩ := isOf hZ eT E
  obtain ⟨v, _, ⟨T', L', k', n'⟩, -, X', ⟨Lc, hQ, l', y', z'⟩, st⟩ := X.virtualBack hx (y := y) (z := z) hown (mvT hZ w1) (mvT hZ w2) (notFace_of_selects (args := #[]) (mvT hZ w5)) (mvT hZ w6) (mvT hZ w7) hy (backOf (W := W) (hC []) hZ w4 w3 hf hl) qa qc hg hsize (Steps.refl _) (argsL := argsL) (rest := rest) hlen hstack hW hd (fun _ _ => ⟨rfl, eT, hc, hs⟩)
  dsimp only [Pt.U, Pt.locs, Pt.cells, Pt.slots] at X' l' y' z' st hQ
  subst l' y' z'
  exact ⟨v, T', _, Lc, X', rfl, hQ, fun t ht => st.trans ht⟩
theorem own_ne {a b : Nat} (h : a < b ∨ b < a) : a ≠ b := by omega
theorem own_ltE {a : Nat} {C : String} (F : Exa Z h a C) : a < h.size := F.lt
theorem own_ltF {a : Nat} {C n d : String} {v : Value} (F : Fld Z h a C n d v) : a < h.size := F.lt
/-! arrays by their list of values -/
def Ary (Z : State) (h : Heap) (a : Addr) (ty : FieldType) (vs : List Value) : Prop := ∃ c : Cell, Arr Z h a c ty ∧ c.slots.toList = vs ∧ vs.length < 2 ^ 31
variable {a b : Addr} {ty : FieldType} {vs : List Value} {sl : Nat} {v w : Value} {ws : List Addr} {j : Int32}
theorem Ary.lt (F : Ary Z h a ty vs) : a < h.size := by obtain ⟨c, A, -⟩ := F; exact A.lt
theorem own_ltA {a : Nat} (F : Ary Z h a ty vs) : a < h.size := F.lt
theorem Ary.ext (F : Ary Z h a ty vs) (E : Ext h h') : Ary Z h' a ty vs := by obtain ⟨c, A, r⟩ := F; exact ⟨c, A.ext E, r⟩
theorem Ary.other (F : Ary Z h b ty vs) (W : Wr h h' a sl v) (q : b ≠ a) : Ary Z h' b ty vs := by obtain ⟨c, A, r⟩ := F; exact ⟨c, A.other W q, r⟩
theorem Ary.keep (F : Ary Z h a ty vs) (K : Keep h h' ws) (q : a ∉ ws) : Ary Z h' a ty vs := by obtain ⟨c, A, r⟩ := F; exact ⟨c, ⟨K.2.1 a c A.1 q, A.2⟩, r⟩
theorem Ary.set (F : Ary Z h a ty vs) (W : Wr h h' a sl v) : Ary Z h' a ty (vs.set sl v) := by
  obtain ⟨c, A, r, hl⟩ := F
  refine ⟨_, A.same W, ?_, by simpa using hl⟩
  subst r
  simp [Cell.setSlot]
theorem own_in {j : Int32} (h0 : 0 ≤ j.toInt) : j.toInt = (j.toNatClampNeg : Int) := nat_of (fun q => by rw [Int32.lt_iff_toInt_lt] at q; have : (0 : Int32).toInt = 0 := rfl; omega)
theorem own_inb {c : Cell} (r : c.slots.toList = vs) (h0 : 0 ≤ j.toInt) (h1 : j.toInt < vs.length) : ¬ (j < 0 ∨ c.slots.size ≤ j.toNatClampNeg) := by
  have e := own_in h0
  have e2 : c.slots.size = vs.length := by rw [← r]; simp
  have z : (0 : Int32).toInt = 0 := rfl
  rintro (q | q)
  · rw [Int32.lt_iff_toInt_lt] at q; omega
  · omega
theorem Ary.new {cA : ClassId} {z : Int32} (A : Arr Z h a (newA cA ty z) ty) (q : z.toNatClampNeg < 2 ^ 31) : Ary Z h a ty (List.replicate z.toNatClampNeg (defaultValue ty)) := ⟨_, A, by simp [newA], by simpa using q⟩
theorem own_newP (X : Stand p l e R s m args below meth c T locs cells slots) (hx : p.tables.exec = Jvm.exec) (hZ : Z.Warmed39 s.vm) {aty : ArrayType} {ty : FieldType} (hty : newarray.typeOf aty = ty) (w : (Jvm.Cond.arrayClass ty).before a0 Z = true) (eT : T.heap = h) {g : JFrame} (hg : g.method = m) (hd : decode c.code g.pc = .ok (.newarray aty, 2)) {n : Int32} {rest : List Value} (hs : g.stack = .int n :: rest)
    (hn : 0 ≤ n.toInt) {cap : Nat} (hcap : n.toInt ≤ cap) (hb : cap * 8 ≤ 536870912) (hc : cells + 1 ≤ R.cells) (hl : slots + cap ≤ R.slots) :
    ∃ T' h', Stand p l e R s m args below meth c T' locs (cells + 1) (slots + cap) ∧ T'.heap = h' ∧ Ext h h' ∧ Ary Z h' h.size ty (List.replicate n.toNatClampNeg (defaultValue ty)) ∧
      ∀ target, Steps p.tables e below (T'.setTop { g with pc := g.pc + 2, stack := .ref h.size :: rest }) target → Steps p.tables e below (T.setTop g) target := by
  subst hty
  have e1 := own_in hn
  have z : (0 : Int32).toInt = 0 := rfl
  obtain ⟨T', h', cA, X', e', E', A', st⟩ := newP X hx hZ w eT hg hd hs (fun q => by rw [Int32.lt_iff_toInt_lt] at q; omega) (cap := cap) (by omega) hb hc hl
  exact ⟨T', h', X', e', E', Ary.new A' (by omega), st⟩
theorem own_len (X : Stand p l e R s m args below meth c T locs cells slots) (hx : p.tables.exec = Jvm.exec) (hZ : Z.Warmed39 s.vm) (eT : T.heap = h) (F : Ary Z h a ty vs) {g : JFrame} (hg : g.method = m) {rest : List Value} (hs : g.stack = .ref a :: rest) (hd : decode c.code g.pc = .ok (.arraylength, 1)) :
    ∀ target, Steps p.tables e below (T.setTop { g with pc := g.pc + 1, stack := .int vs.length.toInt32 :: rest }) target → Steps p.tables e below (T.setTop g) target := by
  obtain ⟨c, A, r, hl⟩ := F
  intro t ht
  have e2 : c.slots.size = vs.length := by rw [← r]; simp
  exact X.arraylength hx (by rw [eT]; exact A.1) (State.isArrayOf_alike hZ.alike A.2.1) hg hs hd t (by rw [e2]; exact ht)
theorem own_at {c : Cell} (r : c.slots.toList = vs) (hv : vs[j.toNatClampNeg]? = some v) : c.slots[j.toNatClampNeg]? = some v := by
  subst r; simpa using hv
theorem own_ldI (X : Stand p l e R s m args below meth c T locs cells slots) (hx : p.tables.exec = Jvm.exec) (hZ : Z.Warmed39 s.vm) (eT : T.heap = h) (F : Ary Z h a .int vs) (h0 : 0 ≤ j.toInt) (h1 : j.toInt < vs.length) (hv : vs[j.toNatClampNeg]? = some v) {g : JFrame} (hg : g.method = m) {rest : List Value} (hs : g.stack = .int j :: .ref a :: rest) (hd : decode c.code g.pc = .ok (.iaload, 1)) :
    ∀ target, Steps p.tables e below (T.setTop { g with pc := g.pc + 1, stack := v :: rest }) target → Steps p.tables e below (T.setTop g) target := by
  obtain ⟨c, A, r, hl⟩ := F
  exact X.iaload hx (by rw [eT]; exact A.1) (State.isArrayOf_alike hZ.alike A.2.1) A.2.2 (own_inb r h0 h1) (own_at r hv) hg hs hd
theorem own_ldJ (X : Stand p l e R s m args below meth c T locs cells slots) (hx : p.tables.exec = Jvm.exec) (hZ : Z.Warmed39 s.vm) (eT : T.heap = h) (F : Ary Z h a .long vs) (h0 : 0 ≤ j.toInt) (h1 : j.toInt < vs.length) (hv : vs[j.toNatClampNeg]? = some v) {g : JFrame} (hg : g.method = m) {rest : List Value} (hs : g.stack = .int j :: .ref a :: rest) (hd : decode c.code g.pc = .ok (.laload, 1)) :
    ∀ target, Steps p.tables e below (T.setTop { g with pc := g.pc + 1, stack := v :: rest }) target → Steps p.tables e below (T.setTop g) target := by
  obtain ⟨c, A, r, hl⟩ := F
  exact X.laload hx (by rw [eT]; exact A.1) (State.isArrayOf_alike hZ.alike A.2.1) A.2.2 (own_inb r h0 h1) (own_at r hv) hg hs hd
theorem own_ldC (X : Stand p l e R s m args below meth c T locs cells slots) (hx : p.tables.exec = Jvm.exec) (hZ : Z.Warmed39 s.vm) (eT : T.heap = h) (F : Ary Z h a .char vs) (h0 : 0 ≤ j.toInt) (h1 : j.toInt < vs.length) (hv : vs[j.toNatClampNeg]? = some v) {g : JFrame} (hg : g.method = m) {rest : List Value} (hs : g.stack = .int j :: .ref a :: rest) (hd : decode c.code g.pc = .ok (.caload, 1)) :
    ∀ target, Steps p.tables e below (T.setTop { g with pc := g.pc + 1, stack := v :: rest }) target → Steps p.tables e below (T.setTop g) target := by
  obtain ⟨c, A, r, hl⟩ := F
  exact X.caload hx (by rw [eT]; exact A.1) (State.isArrayOf_alike hZ.alike A.2.1) A.2.2 (own_inb r h0 h1) (own_at r hv) hg hs hd
theorem own_ldB (X : Stand p l e R s m args below meth c T locs cells slots) (hx : p.tables.exec = Jvm.exec) (hZ : Z.Warmed39 s.vm) (eT : T.heap = h) (F : Ary Z h a .byte vs) (h0 : 0 ≤ j.toInt) (h1 : j.toInt < vs.length) (hv : vs[j.toNatClampNeg]? = some v) {g : JFrame} (hg : g.method = m) {rest : List Value} (hs : g.stack = .int j :: .ref a :: rest) (hd : decode c.code g.pc = .ok (.baload, 1)) :
    ∀ target, Steps p.tables e below (T.setTop { g with pc := g.pc + 1, stack := v :: rest }) target → Steps p.tables e below (T.setTop g) target := by
  obtain ⟨c, A, r, hl⟩ := F
  exact X.baloadBytes hx (by rw [eT]; exact A.1) (State.isArrayOf_alike hZ.alike A.2.1) A.2.2 (own_inb r h0 h1) (own_at r hv) hg hs hd
theorem own_ldR (X : Stand p l e R s m args below meth c T locs cells slots) (hx : p.tables.exec = Jvm.exec) (hZ : Z.Warmed39 s.vm) (eT : T.heap = h) (F : Ary Z h a ty vs) (hr : ty.isReference = true) (h0 : 0 ≤ j.toInt) (h1 : j.toInt < vs.length) (hv : vs[j.toNatClampNeg]? = some v) {g : JFrame} (hg : g.method = m) {rest : List Value} (hs : g.stack = .int j :: .ref a :: rest) (hd : decode c.code g.pc = .ok (.aaload, 1)) :
    ∀ target, Steps p.tables e below (T.setTop { g with pc := g.pc + 1, stack := v :: rest }) target → Steps p.tables e below (T.setTop g) target := by
  obtain ⟨c, A, r, hl⟩ := F
  exact X.aaload hx (by rw [eT]; exact A.1) (State.isArrayOf_alike hZ.alike A.2.1) hr A.2.2 (own_inb r h0 h1) (own_at r hv) hg hs hd
theorem own_stI (X : Stand p l e R s m args below meth c T locs cells slots) (hx : p.tables.exec = Jvm.exec) (hZ : Z.Warmed39 s.vm) (eT : T.heap = h) (F : Ary Z h a .int vs) {x : Int32} (h0 : 0 ≤ j.toInt) (h1 : j.toInt < vs.length) {g : JFrame} (hg : g.method = m) {rest : List Value} (hs : g.stack = .int x :: .int j :: .ref a :: rest) (hd : decode c.code g.pc = .ok (.iastore, 1)) :
    ∃ T' h', Stand p l e R s m args below meth c T' (locs ++ [⟨a, j.toNatClampNeg⟩]) cells slots ∧ T'.heap = h' ∧ Wr h h' a j.toNatClampNeg (.int x) ∧ Ary Z h' a .int (vs.set j.toNatClampNeg (.int x)) ∧ ∀ target, Steps p.tables e below (T'.setTop { g with pc := g.pc + 1, stack := rest }) target → Steps p.tables e below (T.setTop g) target := by
  have F' := F
  obtain ⟨c, A, r, hl⟩ := F
  obtain ⟨T', h', X', e', W', st⟩ := stI X hx hZ eT A (own_inb r h0 h1) hg hs hd
  exact ⟨T', h', X', e', W', F'.set W', st⟩
theorem own_stJ (X : Stand p l e R s m args below meth c T locs cells slots) (hx : p.tables.exec = Jvm.exec) (hZ : Z.Warmed39 s.vm) (eT : T.heap = h) (F : Ary Z h a .long vs) {x : Int64} (h0 : 0 ≤ j.toInt) (h1 : j.toInt < vs.length) {g : JFrame} (hg : g.method = m) {rest : List Value} (hs : g.stack = .long x :: .int j :: .ref a :: rest) (hd : decode c.code g.pc = .ok (.lastore, 1)) :
    ∃ T' h', Stand p l e R s m args below meth c T' (locs ++ [⟨a, j.toNatClampNeg⟩]) cells slots ∧ T'.heap = h' ∧ Wr h h' a j.toNatClampNeg (.long x) ∧ Ary Z h' a .long (vs.set j.toNatClampNeg (.long x)) ∧ ∀ target, Steps p.tables e below (T'.setTop { g with pc := g.pc + 1, stack := rest }) target → Steps p.tables e below (T.setTop g) target := by
  have F' := F
  obtain ⟨c, A, r, hl⟩ := F
  obtain ⟨T', h', X', e', W', st⟩ := stJ X hx hZ eT A (own_inb r h0 h1) hg hs hd
  exact ⟨T', h', X', e', W', F'.set W', st⟩
theorem own_stC (X : Stand p l e R s m args below meth c T locs cells slots) (hx : p.tables.exec = Jvm.exec) (hZ : Z.Warmed39 s.vm) (eT : T.heap = h) (F : Ary Z h a .char vs) {x : Int32} (h0 : 0 ≤ j.toInt) (h1 : j.toInt < vs.length) {g : JFrame} (hg : g.method = m) {rest : List Value} (hs : g.stack = .int x :: .int j :: .ref a :: rest) (hd : decode c.code g.pc = .ok (.castore, 1)) :
    ∃ T' h', Stand p l e R s m args below meth c T' (locs ++ [⟨a, j.toNatClampNeg⟩]) cells slots ∧ T'.heap = h' ∧ Wr h h' a j.toNatClampNeg (.int (nar .char x)) ∧ Ary Z h' a .char (vs.set j.toNatClampNeg (.int (nar .char x))) ∧ ∀ target, Steps p.tables e below (T'.setTop { g with pc := g.pc + 1, stack := rest }) target → Steps p.tables e below (T.setTop g) target := by
  have F' := F
  obtain ⟨c, A, r, hl⟩ := F
  obtain ⟨T', h', X', e', W', st⟩ := stC X hx hZ eT A (own_inb r h0 h1) hg hs hd
  exact ⟨T', h', X', e', W', F'.set W', st⟩
theorem own_stB (X : Stand p l e R s m args below meth c T locs cells slots) (hx : p.tables.exec = Jvm.exec) (hZ : Z.Warmed39 s.vm) (eT : T.heap = h) (F : Ary Z h a .byte vs) {x : Int32} (h0 : 0 ≤ j.toInt) (h1 : j.toInt < vs.length) {g : JFrame} (hg : g.method = m) {rest : List Value} (hs : g.stack = .int x :: .int j :: .ref a :: rest) (hd : decode c.code g.pc = .ok (.bastore, 1)) :
    ∃ T' h', Stand p l e R s m args below meth c T' (locs ++ [⟨a, j.toNatClampNeg⟩]) cells slots ∧ T'.heap = h' ∧ Wr h h' a j.toNatClampNeg (.int (nar .byte x)) ∧ Ary Z h' a .byte (vs.set j.toNatClampNeg (.int (nar .byte x))) ∧ ∀ target, Steps p.tables e below (T'.setTop { g with pc := g.pc + 1, stack := rest }) target → Steps p.tables e below (T.setTop g) target := by
  have F' := F
  obtain ⟨c, A, r, hl⟩ := F
  obtain ⟨T', h', X', e', W', st⟩ := stB X hx hZ eT A (own_inb r h0 h1) hg hs hd
  exact ⟨T', h', X', e', W', F'.set W', st⟩
theorem own_stR (X : Stand p l e R s m args below meth c T locs cells slots) (hx : p.tables.exec = Jvm.exec) (hZ : Z.Warmed39 s.vm) (eT : T.heap = h) (F : Ary Z h a ty vs) (hr : ty.isReference = true) (G : Sto Z h a v) (h0 : 0 ≤ j.toInt) (h1 : j.toInt < vs.length) {g : JFrame} (hg : g.method = m) {rest : List Value} (hs : g.stack = v :: .int j :: .ref a :: rest) (hd : decode c.code g.pc = .ok (.aastore, 1)) :
    ∃ T' h', Stand p l e R s m args below meth c T' (locs ++ [⟨a, j.toNatClampNeg⟩]) cells slots ∧ T'.heap = h' ∧ Wr h h' a j.toNatClampNeg v ∧ Ary Z h' a ty (vs.set j.toNatClampNeg v) ∧ ∀ target, Steps p.tables e below (T'.setTop { g with pc := g.pc + 1, stack := rest }) target → Steps p.tables e below (T.setTop g) target := by
  have F' := F
  obtain ⟨c, A, r, hl⟩ := F
  obtain ⟨T', h', X', e', W', st⟩ := stR X hx hZ eT A (own_inb r h0 h1) hr G hg hs hd
  exact ⟨T', h', X', e', W', F'.set W', st⟩
def Ovy (Z : State) (h : Heap) (a : Addr) (C : String) : Prop := ∃ c : Cell, h[a]? = some c ∧ Ovr Z c.cls C
theorem Ovy.ext {C : String} (F : Ovy Z h a C) (E : Ext h h') : Ovy Z h' a C := by obtain ⟨c, q, r⟩ := F; exact ⟨c, E.2 _ _ q, r⟩
theorem Ovy.keep {C : String} (F : Ovy Z h a C) (K : Keep h h' ws) : Ovy Z h' a C := by
  obtain ⟨c, q, r⟩ := F
  obtain ⟨c', q', r', -⟩ := K.2.2 _ _ q
  exact ⟨c', q', by rw [r']; exact r⟩
theorem Ovy.wr {C : String} (F : Ovy Z h a C) (W : Wr h h' b sl v) : Ovy Z h' a C := F.keep (Keep.of_wr W)
theorem own_sto {C : String} {y : Addr} (F : Ary Z h a ty vs) (O : Ovy Z h a C) (I : Ins Z h y C true) : Sto Z h a (.ref y) := by
  obtain ⟨c, A, -⟩ := F
  obtain ⟨c', q, r⟩ := O
  cases A.1.symm.trans q
  exact Sto.of A r I
theorem own_newR (X : Stand p l e R s m args below meth c T locs cells slots) (hx : p.tables.exec = Jvm.exec) (hZ : Z.Warmed39 s.vm) {own C : String} {index : Nat} (hown : s.vm.findClass own = some m.cls) (w1 : (Jvm.Cond.classLink own index C).before a0 Z = true) (w2 : (Jvm.Cond.arrayOver (.object C)).before a0 Z = true) (eT : T.heap = h) {g : JFrame} (hg : g.method = m) (hd : decode c.code g.pc = .ok (.anewarray index, 3)) {n : Int32} {rest : List Value} (hs : g.stack = .int n :: rest)
    (hn : 0 ≤ n.toInt) {cap : Nat} (hcap : n.toInt ≤ cap) (hb : cap * 8 ≤ 536870912) (hc : cells + 1 ≤ R.cells) (hl : slots + cap ≤ R.slots) :
    ∃ T' h', Stand p l e R s m args below meth c T' locs (cells + 1) (slots + cap) ∧ T'.heap = h' ∧ Ext h h' ∧ Ary Z h' h.size (.object C) (List.replicate n.toNatClampNeg .null) ∧ Ovy Z h' h.size C ∧
      ∀ target, Steps p.tables e below (T'.setTop { g with pc := g.pc + 3, stack := .ref h.size :: rest }) target → Steps p.tables e below (T.setTop g) target := by
  have e1 := own_in hn
  have z : (0 : Int32).toInt = 0 := rfl
  obtain ⟨T', h', cA, X', e', E', A', O', st⟩ := newR X hx hZ hown w1 w2 eT hg hd hs (fun q => by rw [Int32.lt_iff_toInt_lt] at q; omega) (cap := cap) (by omega) hb hc hl
  exact ⟨T', h', X', e', E', Ary.new A' (by omega), ⟨_, A'.1, O'⟩, st⟩
theorem own_ldc (X : Stand p l e R s m args below meth c T locs cells slots) (hx : p.tables.exec = Jvm.exec) (hZ : Z.Warmed39 s.vm) {own : String} {index : Nat} {x : Int32} (hown : s.vm.findClass own = some m.cls) (w : (Jvm.Cond.constant own index x).before a0 Z = true) {g : JFrame} (hg : g.method = m) (hd : decode c.code g.pc = .ok (.ldc index, 2)) :
    ∀ target, Steps p.tables e below (T.setTop { g with pc := g.pc + 2, stack := .int x :: g.stack }) target → Steps p.tables e below (T.setTop g) target := fun t ht => X.ldcI hx hown (mvT hZ w) hg hd ht
end Own
theorem own_fitR {t : FieldType} {w : Value} (h1 : t.isReference = true) (h2 : w.isRef = true) : fits t w = true := by
  rcases ref_cases h2 with rfl | ⟨a, rfl⟩ <;> cases t <;> first | rfl | (simp [FieldType.isReference] at h1)
theorem own_sref {s : State} {args : Array Value} {C n d : String} {ty : FieldType} (hf : Fit s) (w : (Jvm.Cond.laysStatic C n d).before args s = true) (ht : parseFieldDescriptor d = some ty) (hr : ty.isReference = true) : ∃ v, (Term.static C n d).eval args s none [] s = some v ∧ v.isRef = true := by
  obtain ⟨v, h1, h2⟩ := static_fit hf w ht
  refine ⟨v, h1, ?_⟩
  cases ty <;> simp_all [FieldType.isReference] <;> cases v <;> simp_all [fits, Value.isRef]

theorem own_refs_at {Q : Nat → Prop} : ∀ (fs : List Nat) (i : Nat), (∀ a ∈ fs, Q a) → i < fs.length → ∃ a, (fs.map Value.ref)[i]? = some (.ref a) ∧ Q a
  | [], i, _, h => absurd h (Nat.not_lt_zero i)
  | a :: r, 0, q, _ => ⟨a, rfl, q a (List.mem_cons_self ..)⟩
  | a :: r, i + 1, q, h => by
    obtain ⟨x, e, hx⟩ := own_refs_at r i (fun y hy => q y (List.mem_cons_of_mem _ hy)) (by simpa using h)
    exact ⟨x, by simpa using e, hx⟩
def own_min (a b : Int32) : Int32 := if b < a then b else a
theorem own_127 : (127 : Int32).toInt = 127 := by decide
theorem own_128 : (128 : Int32).toInt = 128 := by decide
theorem own_min_eq {x : Int32} (h : x < 128) : own_min x 127 = x := by
  unfold own_min
  rw [Int32.lt_iff_toInt_lt, own_128] at h
  rw [if_neg (by rw [Int32.lt_iff_toInt_lt, own_127]; omega)]
theorem own_idx17 (k : Int32) : 0 ≤ ((k &&& 2147483647) % 17).toInt ∧ ((k &&& 2147483647) % 17).toInt < 17 := by
  have h1 := c_mask k 2147483647 31 (by decide) (by decide)
  have h3 := (c_irem (k &&& 2147483647) 17 17 (by decide)).1 (by omega)
  omega
theorem own_longs_at {a b : Int64} {i : Nat} (h : i < 2) : ∃ x : Int64, ([.long a, .long b] : List Value)[i]? = some (.long x) := by
  match i, h with
  | 0, _ => exact ⟨a, rfl⟩
  | 1, _ => exact ⟨b, rfl⟩

theorem ef_rmPk (m : MethodId) (p1 : Int32) : entryFrame m #[(.int p1)] 2 = mkF m 0 #[.val (.int p1), .unset] [] := by first | (simp [entryFrame, mkF, argsToLocals, Value.category]; done) | rfl
theorem pf_0 : plainFor (⟨"com/example/items_in_arrays/itemsinarrays/xpath/BuilderSetPinLaw", "pick", "(I)Lcom/example/items_in_arrays/itemsinarrays/xpath/RegularExpressionProgram$Code;"⟩ : MethodName) = true := plainFor_of_name (by first | (simp [plainName, overriddenIn]; done) | decide +kernel)
theorem d1_0 : decode method_2_code 0 = .ok (.bipush 17, 2) := by decide +kernel
theorem d1_2 : decode method_2_code 2 = .ok (.anewarray 7, 3) := by decide +kernel
theorem d1_5 : decode method_2_code 5 = .ok (.dup, 1) := by decide +kernel
theorem d1_6 : decode method_2_code 6 = .ok (.iconst 0, 1) := by decide +kernel
theorem d1_7 : decode method_2_code 7 = .ok (.getstatic 9, 3) := by decide +kernel
theorem d1_10 : decode method_2_code 10 = .ok (.aastore, 1) := by decide +kernel
theorem d1_11 : decode method_2_code 11 = .ok (.dup, 1) := by decide +kernel
theorem d1_12 : decode method_2_code 12 = .ok (.iconst 1, 1) := by decide +kernel
theorem d1_13 : decode method_2_code 13 = .ok (.getstatic 13, 3) := by decide +kernel
theorem d1_16 : decode method_2_code 16 = .ok (.aastore, 1) := by decide +kernel
theorem d1_17 : decode method_2_code 17 = .ok (.dup, 1) := by decide +kernel
theorem d1_18 : decode method_2_code 18 = .ok (.iconst 2, 1) := by decide +kernel
theorem d1_19 : decode method_2_code 19 = .ok (.getstatic 16, 3) := by decide +kernel
theorem d1_22 : decode method_2_code 22 = .ok (.aastore, 1) := by decide +kernel
theorem d1_23 : decode method_2_code 23 = .ok (.dup, 1) := by decide +kernel
theorem d1_24 : decode method_2_code 24 = .ok (.iconst 3, 1) := by decide +kernel
theorem d1_25 : decode method_2_code 25 = .ok (.getstatic 19, 3) := by decide +kernel
theorem d1_28 : decode method_2_code 28 = .ok (.aastore, 1) := by decide +kernel
theorem d1_29 : decode method_2_code 29 = .ok (.dup, 1) := by decide +kernel
theorem d1_30 : decode method_2_code 30 = .ok (.iconst 4, 1) := by decide +kernel
theorem d1_31 : decode method_2_code 31 = .ok (.getstatic 22, 3) := by decide +kernel
theorem d1_34 : decode method_2_code 34 = .ok (.aastore, 1) := by decide +kernel
theorem d1_35 : decode method_2_code 35 = .ok (.dup, 1) := by decide +kernel
theorem d1_36 : decode method_2_code 36 = .ok (.iconst 5, 1) := by decide +kernel
theorem d1_37 : decode method_2_code 37 = .ok (.getstatic 25, 3) := by decide +kernel
theorem d1_40 : decode method_2_code 40 = .ok (.aastore, 1) := by decide +kernel
theorem d1_41 : decode method_2_code 41 = .ok (.dup, 1) := by decide +kernel
theorem d1_42 : decode method_2_code 42 = .ok (.bipush 6, 2) := by decide +kernel
theorem d1_44 : decode method_2_code 44 = .ok (.getstatic 28, 3) := by decide +kernel
theorem d1_47 : decode method_2_code 47 = .ok (.aastore, 1) := by decide +kernel
theorem d1_48 : decode method_2_code 48 = .ok (.dup, 1) := by decide +kernel
theorem d1_49 : decode method_2_code 49 = .ok (.bipush 7, 2) := by decide +kernel
theorem d1_51 : decode method_2_code 51 = .ok (.getstatic 31, 3) := by decide +kernel
theorem d1_54 : decode method_2_code 54 = .ok (.aastore, 1) := by decide +kernel
theorem d1_55 : decode method_2_code 55 = .ok (.dup, 1) := by decide +kernel
theorem d1_56 : decode method_2_code 56 = .ok (.bipush 8, 2) := by decide +kernel
theorem d1_58 : decode method_2_code 58 = .ok (.getstatic 34, 3) := by decide +kernel
theorem d1_61 : decode method_2_code 61 = .ok (.aastore, 1) := by decide +kernel
theorem d1_62 : decode method_2_code 62 = .ok (.dup, 1) := by decide +kernel
theorem d1_63 : decode method_2_code 63 = .ok (.bipush 9, 2) := by decide +kernel
theorem d1_65 : decode method_2_code 65 = .ok (.getstatic 37, 3) := by decide +kernel
theorem d1_68 : decode method_2_code 68 = .ok (.aastore, 1) := by decide +kernel
theorem d1_69 : decode method_2_code 69 = .ok (.dup, 1) := by decide +kernel
theorem d1_70 : decode method_2_code 70 = .ok (.bipush 10, 2) := by decide +kernel
theorem d1_72 : decode method_2_code 72 = .ok (.getstatic 40, 3) := by decide +kernel
theorem d1_75 : decode method_2_code 75 = .ok (.aastore, 1) := by decide +kernel
theorem d1_76 : decode method_2_code 76 = .ok (.dup, 1) := by decide +kernel
theorem d1_77 : decode method_2_code 77 = .ok (.bipush 11, 2) := by decide +kernel
theorem d1_79 : decode method_2_code 79 = .ok (.getstatic 43, 3) := by decide +kernel
theorem d1_82 : decode method_2_code 82 = .ok (.aastore, 1) := by decide +kernel
theorem d1_83 : decode method_2_code 83 = .ok (.dup, 1) := by decide +kernel
theorem d1_84 : decode method_2_code 84 = .ok (.bipush 12, 2) := by decide +kernel
theorem d1_86 : decode method_2_code 86 = .ok (.getstatic 46, 3) := by decide +kernel
theorem d1_89 : decode method_2_code 89 = .ok (.aastore, 1) := by decide +kernel
theorem d1_90 : decode method_2_code 90 = .ok (.dup, 1) := by decide +kernel
theorem d1_91 : decode method_2_code 91 = .ok (.bipush 13, 2) := by decide +kernel
theorem d1_93 : decode method_2_code 93 = .ok (.getstatic 49, 3) := by decide +kernel
theorem d1_96 : decode method_2_code 96 = .ok (.aastore, 1) := by decide +kernel
theorem d1_97 : decode method_2_code 97 = .ok (.dup, 1) := by decide +kernel
theorem d1_98 : decode method_2_code 98 = .ok (.bipush 14, 2) := by decide +kernel
theorem d1_100 : decode method_2_code 100 = .ok (.getstatic 52, 3) := by decide +kernel
theorem d1_103 : decode method_2_code 103 = .ok (.aastore, 1) := by decide +kernel
theorem d1_104 : decode method_2_code 104 = .ok (.dup, 1) := by decide +kernel
theorem d1_105 : decode method_2_code 105 = .ok (.bipush 15, 2) := by decide +kernel
theorem d1_107 : decode method_2_code 107 = .ok (.getstatic 55, 3) := by decide +kernel
theorem d1_110 : decode method_2_code 110 = .ok (.aastore, 1) := by decide +kernel
theorem d1_111 : decode method_2_code 111 = .ok (.dup, 1) := by decide +kernel
theorem d1_112 : decode method_2_code 112 = .ok (.bipush 16, 2) := by decide +kernel
theorem d1_114 : decode method_2_code 114 = .ok (.getstatic 58, 3) := by decide +kernel
theorem d1_117 : decode method_2_code 117 = .ok (.aastore, 1) := by decide +kernel
theorem d1_118 : decode method_2_code 118 = .ok (.astore_n 1, 1) := by decide +kernel
theorem d1_119 : decode method_2_code 119 = .ok (.aload_n 1, 1) := by decide +kernel
theorem d1_120 : decode method_2_code 120 = .ok (.iload_n 0, 1) := by decide +kernel
theorem d1_121 : decode method_2_code 121 = .ok (.aaload, 1) := by decide +kernel
theorem d1_122 : decode method_2_code 122 = .ok (.areturn, 1) := by decide +kernel
set_option maxRecDepth 65536 in
set_option maxHeartbeats 1000000 in
theorem rmPk (l : Launch) (Z : State) (a0 : Array Value) (hw : ∀ d ∈ tables_1, d.before a0 Z = true) (p1 : Int32) (h0 : Heap) (n0 : Nat) (Z0 : n0 ≤ h0.size) (f0 f1 f2 f3 f4 f5 f6 f7 f8 f9 f10 f11 f12 f13 f14 f15 f16 : Nat) (O0 : Old Z n0 h0) (SC0 : Sta Z Z.heap "com/example/items_in_arrays/itemsinarrays/xpath/RegularExpressionProgram$Code" "NOTHING" "Lcom/example/items_in_arrays/itemsinarrays/xpath/RegularExpressionProgram$Code;" (.ref f0)) (E0 : Exa Z Z.heap f0 "com/example/items_in_arrays/itemsinarrays/xpath/RegularExpressionProgram$Code") (SC1 : Sta Z Z.heap "com/example/items_in_arrays/itemsinarrays/xpath/RegularExpressionProgram$Code" "CHARACTER" "Lcom/example/items_in_arrays/itemsinarrays/xpath/RegularExpressionProgram$Code;" (.ref f1)) (E1 : Exa Z Z.heap f1 "com/example/items_in_arrays/itemsinarrays/xpath/RegularExpressionProgram$Code") (SC2 : Sta Z Z.heap "com/example/items_in_arrays/itemsinarrays/xpath/RegularExpressionProgram$Code" "SET" "Lcom/example/items_in_arrays/itemsinarrays/xpath/RegularExpressionProgram$Code;" (.ref f2)) (E2 : Exa Z Z.heap f2 "com/example/items_in_arrays/itemsinarrays/xpath/RegularExpressionProgram$Code") (SC3 : Sta Z Z.heap "com/example/items_in_arrays/itemsinarrays/xpath/RegularExpressionProgram$Code" "STRING_START" "Lcom/example/items_in_arrays/itemsinarrays/xpath/RegularExpressionProgram$Code;" (.ref f3)) (E3 : Exa Z Z.heap f3 "com/example/items_in_arrays/itemsinarrays/xpath/RegularExpressionProgram$Code") (SC4 : Sta Z Z.heap "com/example/items_in_arrays/itemsinarrays/xpath/RegularExpressionProgram$Code" "LINE_START" "Lcom/example/items_in_arrays/itemsinarrays/xpath/RegularExpressionProgram$Code;" (.ref f4)) (E4 : Exa Z Z.heap f4 "com/example/items_in_arrays/itemsinarrays/xpath/RegularExpressionProgram$Code") (SC5 : Sta Z Z.heap "com/example/items_in_arrays/itemsinarrays/xpath/RegularExpressionProgram$Code" "STRING_END" "Lcom/example/items_in_arrays/itemsinarrays/xpath/RegularExpressionProgram$Code;" (.ref f5)) (E5 : Exa Z Z.heap f5 "com/example/items_in_arrays/itemsinarrays/xpath/RegularExpressionProgram$Code") (SC6 : Sta Z Z.heap "com/example/items_in_arrays/itemsinarrays/xpath/RegularExpressionProgram$Code" "LINE_END" "Lcom/example/items_in_arrays/itemsinarrays/xpath/RegularExpressionProgram$Code;" (.ref f6)) (E6 : Exa Z Z.heap f6 "com/example/items_in_arrays/itemsinarrays/xpath/RegularExpressionProgram$Code") (SC7 : Sta Z Z.heap "com/example/items_in_arrays/itemsinarrays/xpath/RegularExpressionProgram$Code" "BACK_REFERENCE" "Lcom/example/items_in_arrays/itemsinarrays/xpath/RegularExpressionProgram$Code;" (.ref f7)) (E7 : Exa Z Z.heap f7 "com/example/items_in_arrays/itemsinarrays/xpath/RegularExpressionProgram$Code") (SC8 : Sta Z Z.heap "com/example/items_in_arrays/itemsinarrays/xpath/RegularExpressionProgram$Code" "SAVE" "Lcom/example/items_in_arrays/itemsinarrays/xpath/RegularExpressionProgram$Code;" (.ref f8)) (E8 : Exa Z Z.heap f8 "com/example/items_in_arrays/itemsinarrays/xpath/RegularExpressionProgram$Code") (SC9 : Sta Z Z.heap "com/example/items_in_arrays/itemsinarrays/xpath/RegularExpressionProgram$Code" "JUMP" "Lcom/example/items_in_arrays/itemsinarrays/xpath/RegularExpressionProgram$Code;" (.ref f9)) (E9 : Exa Z Z.heap f9 "com/example/items_in_arrays/itemsinarrays/xpath/RegularExpressionProgram$Code") (SC10 : Sta Z Z.heap "com/example/items_in_arrays/itemsinarrays/xpath/RegularExpressionProgram$Code" "TRY_NEXT" "Lcom/example/items_in_arrays/itemsinarrays/xpath/RegularExpressionProgram$Code;" (.ref f10)) (E10 : Exa Z Z.heap f10 "com/example/items_in_arrays/itemsinarrays/xpath/RegularExpressionProgram$Code") (SC11 : Sta Z Z.heap "com/example/items_in_arrays/itemsinarrays/xpath/RegularExpressionProgram$Code" "TRY_TARGET" "Lcom/example/items_in_arrays/itemsinarrays/xpath/RegularExpressionProgram$Code;" (.ref f11)) (E11 : Exa Z Z.heap f11 "com/example/items_in_arrays/itemsinarrays/xpath/RegularExpressionProgram$Code") (SC12 : Sta Z Z.heap "com/example/items_in_arrays/itemsinarrays/xpath/RegularExpressionProgram$Code" "LOOP_START" "Lcom/example/items_in_arrays/itemsinarrays/xpath/RegularExpressionProgram$Code;" (.ref f12)) (E12 : Exa Z Z.heap f12 "com/example/items_in_arrays/itemsinarrays/xpath/RegularExpressionProgram$Code") (SC13 : Sta Z Z.heap "com/example/items_in_arrays/itemsinarrays/xpath/RegularExpressionProgram$Code" "LOOP" "Lcom/example/items_in_arrays/itemsinarrays/xpath/RegularExpressionProgram$Code;" (.ref f13)) (E13 : Exa Z Z.heap f13 "com/example/items_in_arrays/itemsinarrays/xpath/RegularExpressionProgram$Code") (SC14 : Sta Z Z.heap "com/example/items_in_arrays/itemsinarrays/xpath/RegularExpressionProgram$Code" "LOOP_AGAIN" "Lcom/example/items_in_arrays/itemsinarrays/xpath/RegularExpressionProgram$Code;" (.ref f14)) (E14 : Exa Z Z.heap f14 "com/example/items_in_arrays/itemsinarrays/xpath/RegularExpressionProgram$Code") (SC15 : Sta Z Z.heap "com/example/items_in_arrays/itemsinarrays/xpath/RegularExpressionProgram$Code" "RUN" "Lcom/example/items_in_arrays/itemsinarrays/xpath/RegularExpressionProgram$Code;" (.ref f15)) (E15 : Exa Z Z.heap f15 "com/example/items_in_arrays/itemsinarrays/xpath/RegularExpressionProgram$Code") (SC16 : Sta Z Z.heap "com/example/items_in_arrays/itemsinarrays/xpath/RegularExpressionProgram$Code" "MATCH" "Lcom/example/items_in_arrays/itemsinarrays/xpath/RegularExpressionProgram$Code;" (.ref f16)) (E16 : Exa Z Z.heap f16 "com/example/items_in_arrays/itemsinarrays/xpath/RegularExpressionProgram$Code") (hp : 0 ≤ p1.toInt ∧ p1.toInt < 17) :
    Con l Z (⟨"com/example/items_in_arrays/itemsinarrays/xpath/BuilderSetPinLaw", "pick", "(I)Lcom/example/items_in_arrays/itemsinarrays/xpath/RegularExpressionProgram$Code;"⟩ : MethodName) method_2_code 2 (some (.object "com/example/items_in_arrays/itemsinarrays/xpath/RegularExpressionProgram$Code")) ({ frames := 0, cells := 1, slots := 17, locals := 0 } : Room) #[(.int p1)] h0 (fun v h L => ∃ fk : Nat, v = some (.ref fk) ∧ Fr n0 L ∧ Keep h0 h [] ∧ Exa Z Z.heap fk "com/example/items_in_arrays/itemsinarrays/xpath/RegularExpressionProgram$Code") := by
  refine Con.of pf_0 ?_
  intro p e s m below meth c T0 X0 hx hby hml hZ hown hnm hret hlk e0
  have hown : s.vm.findClass "com/example/items_in_arrays/itemsinarrays/xpath/BuilderSetPinLaw" = some m.cls := hown
  have hnm : meth.name = "pick" := hnm
  have N0 := Fr.nil n0
  refine Go.cast (ef_rmPk m p1) ?_
  refine Go.st (S' := T0.setTop (mkF m 2 #[.val (.int p1), .unset] [(.int (17 : Int32))])) (fun t hr => XS.bipush X0.here hx rfl (hb hby d1_0) hr) ?_
  obtain ⟨T_1, h_1, X_1, e_1, E_1, A_1, O_1, st_1⟩ := own_newR X0 hx hZ hown (hw _ (List.mem_of_getElem? (i := 5) rfl)) (hw _ (List.mem_of_getElem? (i := 6) rfl)) e0 (g := (mkF m 2 #[.val (.int p1), .unset] [(.int (17 : Int32))])) rfl (hb hby d1_2) rfl (by decide) (cap := 17) (by decide) (by decide) (by decide) (by decide)
  obtain ⟨ad_1, g_1⟩ : ∃ z, z = h0.size := ⟨_, rfl⟩
  rw [← g_1] at A_1 O_1 st_1
  have z_1 := E_1.1
  have y_1 := own_ltA A_1
  have B_1 : Ary Z h_1 ad_1 (.object "com/example/items_in_arrays/itemsinarrays/xpath/RegularExpressionProgram$Code") [.null, .null, .null, .null, .null, .null, .null, .null, .null, .null, .null, .null, .null, .null, .null, .null, .null] := A_1
  refine Go.st (S' := T_1.setTop (mkF m 5 #[.val (.int p1), .unset] [(.ref ad_1)])) st_1 ?_
  refine Go.st (S' := T_1.setTop (mkF m 6 #[.val (.int p1), .unset] [(.ref ad_1), (.ref ad_1)])) (fun t hr => XS.dup X_1.here hx rfl (hb hby d1_5) rfl rfl hr) ?_
  refine Go.st (S' := T_1.setTop (mkF m 7 #[.val (.int p1), .unset] [(.int (0 : Int32)), (.ref ad_1), (.ref ad_1)])) (fun t hr => XS.iconst X_1.here hx rfl (hb hby d1_6) hr) ?_
  have F_2 := (O0.ext E_1)
  obtain ⟨T_3, X_3, e_3, st_3⟩ := getS2 X_1 hx hZ hown (host := "") (Or.inl (hw _ (List.mem_of_getElem? (i := 7) rfl))) Via.refl e_1 (SC0.ext F_2.2) (g := (mkF m 7 #[.val (.int p1), .unset] [(.int (0 : Int32)), (.ref ad_1), (.ref ad_1)])) rfl (hb hby d1_7)
  refine Go.st (S' := T_3.setTop (mkF m 10 #[.val (.int p1), .unset] [(.ref f0), (.int (0 : Int32)), (.ref ad_1), (.ref ad_1)])) st_3 ?_
  obtain ⟨T_4, h_4, X_4, e_4, W_4, A_4, st_4⟩ := own_stR X_3 hx hZ e_3 B_1 rfl (own_sto B_1 O_1 (Ins.self (E0.ext F_2.2))) (j := (0 : Int32)) (by decide) (by simp only [List.length_cons, List.length_nil]; decide) (g := (mkF m 10 #[.val (.int p1), .unset] [(.ref f0), (.int (0 : Int32)), (.ref ad_1), (.ref ad_1)])) rfl rfl (hb hby d1_10)
  have N_4 := Fr.snoc X_4 N0 (by omega)
  have z_4 := W_4.size
  have B_4 : Ary Z h_4 ad_1 (.object "com/example/items_in_arrays/itemsinarrays/xpath/RegularExpressionProgram$Code") [(.ref f0), .null, .null, .null, .null, .null, .null, .null, .null, .null, .null, .null, .null, .null, .null, .null, .null] := A_4
  refine Go.st (S' := T_4.setTop (mkF m 11 #[.val (.int p1), .unset] [(.ref ad_1)])) st_4 ?_
  refine Go.st (S' := T_4.setTop (mkF m 12 #[.val (.int p1), .unset] [(.ref ad_1), (.ref ad_1)])) (fun t hr => XS.dup X_4.here hx rfl (hb hby d1_11) rfl rfl hr) ?_
  refine Go.st (S' := T_4.setTop (mkF m 13 #[.val (.int p1), .unset] [(.int (1 : Int32)), (.ref ad_1), (.ref ad_1)])) (fun t hr => XS.iconst X_4.here hx rfl (hb hby d1_12) hr) ?_
  have F_5 := (F_2.wr W_4 (by omega))
  obtain ⟨T_6, X_6, e_6, st_6⟩ := getS2 X_4 hx hZ hown (host := "") (Or.inl (hw _ (List.mem_of_getElem? (i := 11) rfl))) Via.refl e_4 (SC1.ext F_5.2) (g := (mkF m 13 #[.val (.int p1), .unset] [(.int (1 : Int32)), (.ref ad_1), (.ref ad_1)])) rfl (hb hby d1_13)
  refine Go.st (S' := T_6.setTop (mkF m 16 #[.val (.int p1), .unset] [(.ref f1), (.int (1 : Int32)), (.ref ad_1), (.ref ad_1)])) st_6 ?_
  have F_7 := (O_1.wr W_4)
  obtain ⟨T_8, h_8, X_8, e_8, W_8, A_8, st_8⟩ := own_stR X_6 hx hZ e_6 B_4 rfl (own_sto B_4 F_7 (Ins.self (E1.ext F_5.2))) (j := (1 : Int32)) (by decide) (by simp only [List.length_cons, List.length_nil]; decide) (g := (mkF m 16 #[.val (.int p1), .unset] [(.ref f1), (.int (1 : Int32)), (.ref ad_1), (.ref ad_1)])) rfl rfl (hb hby d1_16)
  have N_8 := Fr.snoc X_8 N_4 (by omega)
  have z_8 := W_8.size
  have B_8 : Ary Z h_8 ad_1 (.object "com/example/items_in_arrays/itemsinarrays/xpath/RegularExpressionProgram$Code") [(.ref f0), (.ref f1), .null, .null, .null, .null, .null, .null, .null, .null, .null, .null, .null, .null, .null, .null, .null] := A_8
  refine Go.st (S' := T_8.setTop (mkF m 17 #[.val (.int p1), .unset] [(.ref ad_1)])) st_8 ?_
  refine Go.st (S' := T_8.setTop (mkF m 18 #[.val (.int p1), .unset] [(.ref ad_1), (.ref ad_1)])) (fun t hr => XS.dup X_8.here hx rfl (hb hby d1_17) rfl rfl hr) ?_
  refine Go.st (S' := T_8.setTop (mkF m 19 #[.val (.int p1), .unset] [(.int (2 : Int32)), (.ref ad_1), (.ref ad_1)])) (fun t hr => XS.iconst X_8.here hx rfl (hb hby d1_18) hr) ?_
  have F_9 := (F_5.wr W_8 (by omega))
  obtain ⟨T_10, X_10, e_10, st_10⟩ := getS2 X_8 hx hZ hown (host := "") (Or.inl (hw _ (List.mem_of_getElem? (i := 13) rfl))) Via.refl e_8 (SC2.ext F_9.2) (g := (mkF m 19 #[.val (.int p1), .unset] [(.int (2 : Int32)), (.ref ad_1), (.ref ad_1)])) rfl (hb hby d1_19)
  refine Go.st (S' := T_10.setTop (mkF m 22 #[.val (.int p1), .unset] [(.ref f2), (.int (2 : Int32)), (.ref ad_1), (.ref ad_1)])) st_10 ?_
  have F_11 := (F_7.wr W_8)
  obtain ⟨T_12, h_12, X_12, e_12, W_12, A_12, st_12⟩ := own_stR X_10 hx hZ e_10 B_8 rfl (own_sto B_8 F_11 (Ins.self (E2.ext F_9.2))) (j := (2 : Int32)) (by decide) (by simp only [List.length_cons, List.length_nil]; decide) (g := (mkF m 22 #[.val (.int p1), .unset] [(.ref f2), (.int (2 : Int32)), (.ref ad_1), (.ref ad_1)])) rfl rfl (hb hby d1_22)
  have N_12 := Fr.snoc X_12 N_8 (by omega)
  have z_12 := W_12.size
  have B_12 : Ary Z h_12 ad_1 (.object "com/example/items_in_arrays/itemsinarrays/xpath/RegularExpressionProgram$Code") [(.ref f0), (.ref f1), (.ref f2), .null, .null, .null, .null, .null, .null, .null, .null, .null, .null, .null, .null, .null, .null] := A_12
  refine Go.st (S' := T_12.setTop (mkF m 23 #[.val (.int p1), .unset] [(.ref ad_1)])) st_12 ?_
  refine Go.st (S' := T_12.setTop (mkF m 24 #[.val (.int p1), .unset] [(.ref ad_1), (.ref ad_1)])) (fun t hr => XS.dup X_12.here hx rfl (hb hby d1_23) rfl rfl hr) ?_
  refine Go.st (S' := T_12.setTop (mkF m 25 #[.val (.int p1), .unset] [(.int (3 : Int32)), (.ref ad_1), (.ref ad_1)])) (fun t hr => XS.iconst X_12.here hx rfl (hb hby d1_24) hr) ?_
  have F_13 := (F_9.wr W_12 (by omega))
  obtain ⟨T_14, X_14, e_14, st_14⟩ := getS2 X_12 hx hZ hown (host := "") (Or.inl (hw _ (List.mem_of_getElem? (i := 15) rfl))) Via.refl e_12 (SC3.ext F_13.2) (g := (mkF m 25 #[.val (.int p1), .unset] [(.int (3 : Int32)), (.ref ad_1), (.ref ad_1)])) rfl (hb hby d1_25)
  refine Go.st (S' := T_14.setTop (mkF m 28 #[.val (.int p1), .unset] [(.ref f3), (.int (3 : Int32)), (.ref ad_1), (.ref ad_1)])) st_14 ?_
  have F_15 := (F_11.wr W_12)
  obtain ⟨T_16, h_16, X_16, e_16, W_16, A_16, st_16⟩ := own_stR X_14 hx hZ e_14 B_12 rfl (own_sto B_12 F_15 (Ins.self (E3.ext F_13.2))) (j := (3 : Int32)) (by decide) (by simp only [List.length_cons, List.length_nil]; decide) (g := (mkF m 28 #[.val (.int p1), .unset] [(.ref f3), (.int (3 : Int32)), (.ref ad_1), (.ref ad_1)])) rfl rfl (hb hby d1_28)
  have N_16 := Fr.snoc X_16 N_12 (by omega)
  have z_16 := W_16.size
  have B_16 : Ary Z h_16 ad_1 (.object "com/example/items_in_arrays/itemsinarrays/xpath/RegularExpressionProgram$Code") [(.ref f0), (.ref f1), (.ref f2), (.ref f3), .null, .null, .null, .null, .null, .null, .null, .null, .null, .null, .null, .null, .null] := A_16
  refine Go.st (S' := T_16.setTop (mkF m 29 #[.val (.int p1), .unset] [(.ref ad_1)])) st_16 ?_
  refine Go.st (S' := T_16.setTop (mkF m 30 #[.val (.int p1), .unset] [(.ref ad_1), (.ref ad_1)])) (fun t hr => XS.dup X_16.here hx rfl (hb hby d1_29) rfl rfl hr) ?_
  refine Go.st (S' := T_16.setTop (mkF m 31 #[.val (.int p1), .unset] [(.int (4 : Int32)), (.ref ad_1), (.ref ad_1)])) (fun t hr => XS.iconst X_16.here hx rfl (hb hby d1_30) hr) ?_
  have F_17 := (F_13.wr W_16 (by omega))
  obtain ⟨T_18, X_18, e_18, st_18⟩ := getS2 X_16 hx hZ hown (host := "") (Or.inl (hw _ (List.mem_of_getElem? (i := 17) rfl))) Via.refl e_16 (SC4.ext F_17.2) (g := (mkF m 31 #[.val (.int p1), .unset] [(.int (4 : Int32)), (.ref ad_1), (.ref ad_1)])) rfl (hb hby d1_31)
  refine Go.st (S' := T_18.setTop (mkF m 34 #[.val (.int p1), .unset] [(.ref f4), (.int (4 : Int32)), (.ref ad_1), (.ref ad_1)])) st_18 ?_
  have F_19 := (F_15.wr W_16)
  obtain ⟨T_20, h_20, X_20, e_20, W_20, A_20, st_20⟩ := own_stR X_18 hx hZ e_18 B_16 rfl (own_sto B_16 F_19 (Ins.self (E4.ext F_17.2))) (j := (4 : Int32)) (by decide) (by simp only [List.length_cons, List.length_nil]; decide) (g := (mkF m 34 #[.val (.int p1), .unset] [(.ref f4), (.int (4 : Int32)), (.ref ad_1), (.ref ad_1)])) rfl rfl (hb hby d1_34)
  have N_20 := Fr.snoc X_20 N_16 (by omega)
  have z_20 := W_20.size
  have B_20 : Ary Z h_20 ad_1 (.object "com/example/items_in_arrays/itemsinarrays/xpath/RegularExpressionProgram$Code") [(.ref f0), (.ref f1), (.ref f2), (.ref f3), (.ref f4), .null, .null, .null, .null, .null, .null, .null, .null, .null, .null, .null, .null] := A_20
  refine Go.st (S' := T_20.setTop (mkF m 35 #[.val (.int p1), .unset] [(.ref ad_1)])) st_20 ?_
  refine Go.st (S' := T_20.setTop (mkF m 36 #[.val (.int p1), .unset] [(.ref ad_1), (.ref ad_1)])) (fun t hr => XS.dup X_20.here hx rfl (hb hby d1_35) rfl rfl hr) ?_
  refine Go.st (S' := T_20.setTop (mkF m 37 #[.val (.int p1), .unset] [(.int (5 : Int32)), (.ref ad_1), (.ref ad_1)])) (fun t hr => XS.iconst X_20.here hx rfl (hb hby d1_36) hr) ?_
  have F_21 := (F_17.wr W_20 (by omega))
  obtain ⟨T_22, X_22, e_22, st_22⟩ := getS2 X_20 hx hZ hown (host := "") (Or.inl (hw _ (List.mem_of_getElem? (i := 19) rfl))) Via.refl e_20 (SC5.ext F_21.2) (g := (mkF m 37 #[.val (.int p1), .unset] [(.int (5 : Int32)), (.ref ad_1), (.ref ad_1)])) rfl (hb hby d1_37)
  refine Go.st (S' := T_22.setTop (mkF m 40 #[.val (.int p1), .unset] [(.ref f5), (.int (5 : Int32)), (.ref ad_1), (.ref ad_1)])) st_22 ?_
  have F_23 := (F_19.wr W_20)
  obtain ⟨T_24, h_24, X_24, e_24, W_24, A_24, st_24⟩ := own_stR X_22 hx hZ e_22 B_20 rfl (own_sto B_20 F_23 (Ins.self (E5.ext F_21.2))) (j := (5 : Int32)) (by decide) (by simp only [List.length_cons, List.length_nil]; decide) (g := (mkF m 40 #[.val (.int p1), .unset] [(.ref f5), (.int (5 : Int32)), (.ref ad_1), (.ref ad_1)])) rfl rfl (hb hby d1_40)
  have N_24 := Fr.snoc X_24 N_20 (by omega)
  have z_24 := W_24.size
  have B_24 : Ary Z h_24 ad_1 (.object "com/example/items_in_arrays/itemsinarrays/xpath/RegularExpressionProgram$Code") [(.ref f0), (.ref f1), (.ref f2), (.ref f3), (.ref f4), (.ref f5), .null, .null, .null, .null, .null, .null, .null, .null, .null, .null, .null] := A_24
  refine Go.st (S' := T_24.setTop (mkF m 41 #[.val (.int p1), .unset] [(.ref ad_1)])) st_24 ?_
  refine Go.st (S' := T_24.setTop (mkF m 42 #[.val (.int p1), .unset] [(.ref ad_1), (.ref ad_1)])) (fun t hr => XS.dup X_24.here hx rfl (hb hby d1_41) rfl rfl hr) ?_
  refine Go.st (S' := T_24.setTop (mkF m 44 #[.val (.int p1), .unset] [(.int (6 : Int32)), (.ref ad_1), (.ref ad_1)])) (fun t hr => XS.bipush X_24.here hx rfl (hb hby d1_42) hr) ?_
  have F_25 := (F_21.wr W_24 (by omega))
  obtain ⟨T_26, X_26, e_26, st_26⟩ := getS2 X_24 hx hZ hown (host := "") (Or.inl (hw _ (List.mem_of_getElem? (i := 21) rfl))) Via.refl e_24 (SC6.ext F_25.2) (g := (mkF m 44 #[.val (.int p1), .unset] [(.int (6 : Int32)), (.ref ad_1), (.ref ad_1)])) rfl (hb hby d1_44)
  refine Go.st (S' := T_26.setTop (mkF m 47 #[.val (.int p1), .unset] [(.ref f6), (.int (6 : Int32)), (.ref ad_1), (.ref ad_1)])) st_26 ?_
  have F_27 := (F_23.wr W_24)
  obtain ⟨T_28, h_28, X_28, e_28, W_28, A_28, st_28⟩ := own_stR X_26 hx hZ e_26 B_24 rfl (own_sto B_24 F_27 (Ins.self (E6.ext F_25.2))) (j := (6 : Int32)) (by decide) (by simp only [List.length_cons, List.length_nil]; decide) (g := (mkF m 47 #[.val (.int p1), .unset] [(.ref f6), (.int (6 : Int32)), (.ref ad_1), (.ref ad_1)])) rfl rfl (hb hby d1_47)
  have N_28 := Fr.snoc X_28 N_24 (by omega)
  have z_28 := W_28.size
  have B_28 : Ary Z h_28 ad_1 (.object "com/example/items_in_arrays/itemsinarrays/xpath/RegularExpressionProgram$Code") [(.ref f0), (.ref f1), (.ref f2), (.ref f3), (.ref f4), (.ref f5), (.ref f6), .null, .null, .null, .null, .null, .null, .null, .null, .null, .null] := A_28
  refine Go.st (S' := T_28.setTop (mkF m 48 #[.val (.int p1), .unset] [(.ref ad_1)])) st_28 ?_
  refine Go.st (S' := T_28.setTop (mkF m 49 #[.val (.int p1), .unset] [(.ref ad_1), (.ref ad_1)])) (fun t hr => XS.dup X_28.here hx rfl (hb hby d1_48) rfl rfl hr) ?_
  refine Go.st (S' := T_28.setTop (mkF m 51 #[.val (.int p1), .unset] [(.int (7 : Int32)), (.ref ad_1), (.ref ad_1)])) (fun t hr => XS.bipush X_28.here hx rfl (hb hby d1_49) hr) ?_
  have F_29 := (F_25.wr W_28 (by omega))
  obtain ⟨T_30, X_30, e_30, st_30⟩ := getS2 X_28 hx hZ hown (host := "") (Or.inl (hw _ (List.mem_of_getElem? (i := 23) rfl))) Via.refl e_28 (SC7.ext F_29.2) (g := (mkF m 51 #[.val (.int p1), .unset] [(.int (7 : Int32)), (.ref ad_1), (.ref ad_1)])) rfl (hb hby d1_51)
  refine Go.st (S' := T_30.setTop (mkF m 54 #[.val (.int p1), .unset] [(.ref f7), (.int (7 : Int32)), (.ref ad_1), (.ref ad_1)])) st_30 ?_
  have F_31 := (F_27.wr W_28)
  obtain ⟨T_32, h_32, X_32, e_32, W_32, A_32, st_32⟩ := own_stR X_30 hx hZ e_30 B_28 rfl (own_sto B_28 F_31 (Ins.self (E7.ext F_29.2))) (j := (7 : Int32)) (by decide) (by simp only [List.length_cons, List.length_nil]; decide) (g := (mkF m 54 #[.val (.int p1), .unset] [(.ref f7), (.int (7 : Int32)), (.ref ad_1), (.ref ad_1)])) rfl rfl (hb hby d1_54)
  have N_32 := Fr.snoc X_32 N_28 (by omega)
  have z_32 := W_32.size
  have B_32 : Ary Z h_32 ad_1 (.object "com/example/items_in_arrays/itemsinarrays/xpath/RegularExpressionProgram$Code") [(.ref f0), (.ref f1), (.ref f2), (.ref f3), (.ref f4), (.ref f5), (.ref f6), (.ref f7), .null, .null, .null, .null, .null, .null, .null, .null, .null] := A_32
  refine Go.st (S' := T_32.setTop (mkF m 55 #[.val (.int p1), .unset] [(.ref ad_1)])) st_32 ?_
  refine Go.st (S' := T_32.setTop (mkF m 56 #[.val (.int p1), .unset] [(.ref ad_1), (.ref ad_1)])) (fun t hr => XS.dup X_32.here hx rfl (hb hby d1_55) rfl rfl hr) ?_
  refine Go.st (S' := T_32.setTop (mkF m 58 #[.val (.int p1), .unset] [(.int (8 : Int32)), (.ref ad_1), (.ref ad_1)])) (fun t hr => XS.bipush X_32.here hx rfl (hb hby d1_56) hr) ?_
  have F_33 := (F_29.wr W_32 (by omega))
  obtain ⟨T_34, X_34, e_34, st_34⟩ := getS2 X_32 hx hZ hown (host := "") (Or.inl (hw _ (List.mem_of_getElem? (i := 25) rfl))) Via.refl e_32 (SC8.ext F_33.2) (g := (mkF m 58 #[.val (.int p1), .unset] [(.int (8 : Int32)), (.ref ad_1), (.ref ad_1)])) rfl (hb hby d1_58)
  refine Go.st (S' := T_34.setTop (mkF m 61 #[.val (.int p1), .unset] [(.ref f8), (.int (8 : Int32)), (.ref ad_1), (.ref ad_1)])) st_34 ?_
  have F_35 := (F_31.wr W_32)
  obtain ⟨T_36, h_36, X_36, e_36, W_36, A_36, st_36⟩ := own_stR X_34 hx hZ e_34 B_32 rfl (own_sto B_32 F_35 (Ins.self (E8.ext F_33.2))) (j := (8 : Int32)) (by decide) (by simp only [List.length_cons, List.length_nil]; decide) (g := (mkF m 61 #[.val (.int p1), .unset] [(.ref f8), (.int (8 : Int32)), (.ref ad_1), (.ref ad_1)])) rfl rfl (hb hby d1_61)
  have N_36 := Fr.snoc X_36 N_32 (by omega)
  have z_36 := W_36.size
  have B_36 : Ary Z h_36 ad_1 (.object "com/example/items_in_arrays/itemsinarrays/xpath/RegularExpressionProgram$Code") [(.ref f0), (.ref f1), (.ref f2), (.ref f3), (.ref f4), (.ref f5), (.ref f6), (.ref f7), (.ref f8), .null, .null, .null, .null, .null, .null, .null, .null] := A_36
  refine Go.st (S' := T_36.setTop (mkF m 62 #[.val (.int p1), .unset] [(.ref ad_1)])) st_36 ?_
  refine Go.st (S' := T_36.setTop (mkF m 63 #[.val (.int p1), .unset] [(.ref ad_1), (.ref ad_1)])) (fun t hr => XS.dup X_36.here hx rfl (hb hby d1_62) rfl rfl hr) ?_
  refine Go.st (S' := T_36.setTop (mkF m 65 #[.val (.int p1), .unset] [(.int (9 : Int32)), (.ref ad_1), (.ref ad_1)])) (fun t hr => XS.bipush X_36.here hx rfl (hb hby d1_63) hr) ?_
  have F_37 := (F_33.wr W_36 (by omega))
  obtain ⟨T_38, X_38, e_38, st_38⟩ := getS2 X_36 hx hZ hown (host := "") (Or.inl (hw _ (List.mem_of_getElem? (i := 27) rfl))) Via.refl e_36 (SC9.ext F_37.2) (g := (mkF m 65 #[.val (.int p1), .unset] [(.int (9 : Int32)), (.ref ad_1), (.ref ad_1)])) rfl (hb hby d1_65)
  refine Go.st (S' := T_38.setTop (mkF m 68 #[.val (.int p1), .unset] [(.ref f9), (.int (9 : Int32)), (.ref ad_1), (.ref ad_1)])) st_38 ?_
  have F_39 := (F_35.wr W_36)
  obtain ⟨T_40, h_40, X_40, e_40, W_40, A_40, st_40⟩ := own_stR X_38 hx hZ e_38 B_36 rfl (own_sto B_36 F_39 (Ins.self (E9.ext F_37.2))) (j := (9 : Int32)) (by decide) (by simp only [List.length_cons, List.length_nil]; decide) (g := (mkF m 68 #[.val (.int p1), .unset] [(.ref f9), (.int (9 : Int32)), (.ref ad_1), (.ref ad_1)])) rfl rfl (hb hby d1_68)
  have N_40 := Fr.snoc X_40 N_36 (by omega)
  have z_40 := W_40.size
  have B_40 : Ary Z h_40 ad_1 (.object "com/example/items_in_arrays/itemsinarrays/xpath/RegularExpressionProgram$Code") [(.ref f0), (.ref f1), (.ref f2), (.ref f3), (.ref f4), (.ref f5), (.ref f6), (.ref f7), (.ref f8), (.ref f9), .null, .null, .null, .null, .null, .null, .null] := A_40
  refine Go.st (S' := T_40.setTop (mkF m 69 #[.val (.int p1), .unset] [(.ref ad_1)])) st_40 ?_
  refine Go.st (S' := T_40.setTop (mkF m 70 #[.val (.int p1), .unset] [(.ref ad_1), (.ref ad_1)])) (fun t hr => XS.dup X_40.here hx rfl (hb hby d1_69) rfl rfl hr) ?_
  refine Go.st (S' := T_40.setTop (mkF m 72 #[.val (.int p1), .unset] [(.int (10 : Int32)), (.ref ad_1), (.ref ad_1)])) (fun t hr => XS.bipush X_40.here hx rfl (hb hby d1_70) hr) ?_
  have F_41 := (F_37.wr W_40 (by omega))
  obtain ⟨T_42, X_42, e_42, st_42⟩ := getS2 X_40 hx hZ hown (host := "") (Or.inl (hw _ (List.mem_of_getElem? (i := 29) rfl))) Via.refl e_40 (SC10.ext F_41.2) (g := (mkF m 72 #[.val (.int p1), .unset] [(.int (10 : Int32)), (.ref ad_1), (.ref ad_1)])) rfl (hb hby d1_72)
  refine Go.st (S' := T_42.setTop (mkF m 75 #[.val (.int p1), .unset] [(.ref f10), (.int (10 : Int32)), (.ref ad_1), (.ref ad_1)])) st_42 ?_
  have F_43 := (F_39.wr W_40)
  obtain ⟨T_44, h_44, X_44, e_44, W_44, A_44, st_44⟩ := own_stR X_42 hx hZ e_42 B_40 rfl (own_sto B_40 F_43 (Ins.self (E10.ext F_41.2))) (j := (10 : Int32)) (by decide) (by simp only [List.length_cons, List.length_nil]; decide) (g := (mkF m 75 #[.val (.int p1), .unset] [(.ref f10), (.int (10 : Int32)), (.ref ad_1), (.ref ad_1)])) rfl rfl (hb hby d1_75)
  have N_44 := Fr.snoc X_44 N_40 (by omega)
  have z_44 := W_44.size
  have B_44 : Ary Z h_44 ad_1 (.object "com/example/items_in_arrays/itemsinarrays/xpath/RegularExpressionProgram$Code") [(.ref f0), (.ref f1), (.ref f2), (.ref f3), (.ref f4), (.ref f5), (.ref f6), (.ref f7), (.ref f8), (.ref f9), (.ref f10), .null, .null, .null, .null, .null, .null] := A_44
  refine Go.st (S' := T_44.setTop (mkF m 76 #[.val (.int p1), .unset] [(.ref ad_1)])) st_44 ?_
  refine Go.st (S' := T_44.setTop (mkF m 77 #[.val (.int p1), .unset] [(.ref ad_1), (.ref ad_1)])) (fun t hr => XS.dup X_44.here hx rfl (hb hby d1_76) rfl rfl hr) ?_
  refine Go.st (S' := T_44.setTop (mkF m 79 #[.val (.int p1), .unset] [(.int (11 : Int32)), (.ref ad_1), (.ref ad_1)])) (fun t hr => XS.bipush X_44.here hx rfl (hb hby d1_77) hr) ?_
  have F_45 := (F_41.wr W_44 (by omega))
  obtain ⟨T_46, X_46, e_46, st_46⟩ := getS2 X_44 hx hZ hown (host := "") (Or.inl (hw _ (List.mem_of_getElem? (i := 31) rfl))) Via.refl e_44 (SC11.ext F_45.2) (g := (mkF m 79 #[.val (.int p1), .unset] [(.int (11 : Int32)), (.ref ad_1), (.ref ad_1)])) rfl (hb hby d1_79)
  refine Go.st (S' := T_46.setTop (mkF m 82 #[.val (.int p1), .unset] [(.ref f11), (.int (11 : Int32)), (.ref ad_1), (.ref ad_1)])) st_46 ?_
  have F_47 := (F_43.wr W_44)
  obtain ⟨T_48, h_48, X_48, e_48, W_48, A_48, st_48⟩ := own_stR X_46 hx hZ e_46 B_44 rfl (own_sto B_44 F_47 (Ins.self (E11.ext F_45.2))) (j := (11 : Int32)) (by decide) (by simp only [List.length_cons, List.length_nil]; decide) (g := (mkF m 82 #[.val (.int p1), .unset] [(.ref f11), (.int (11 : Int32)), (.ref ad_1), (.ref ad_1)])) rfl rfl (hb hby d1_82)
  have N_48 := Fr.snoc X_48 N_44 (by omega)
  have z_48 := W_48.size
  have B_48 : Ary Z h_48 ad_1 (.object "com/example/items_in_arrays/itemsinarrays/xpath/RegularExpressionProgram$Code") [(.ref f0), (.ref f1), (.ref f2), (.ref f3), (.ref f4), (.ref f5), (.ref f6), (.ref f7), (.ref f8), (.ref f9), (.ref f10), (.ref f11), .null, .null, .null, .null, .null] := A_48
  refine Go.st (S' := T_48.setTop (mkF m 83 #[.val (.int p1), .unset] [(.ref ad_1)])) st_48 ?_
  refine Go.st (S' := T_48.setTop (mkF m 84 #[.val (.int p1), .unset] [(.ref ad_1), (.ref ad_1)])) (fun t hr => XS.dup X_48.here hx rfl (hb hby d1_83) rfl rfl hr) ?_
  refine Go.st (S' := T_48.setTop (mkF m 86 #[.val (.int p1), .unset] [(.int (12 : Int32)), (.ref ad_1), (.ref ad_1)])) (fun t hr => XS.bipush X_48.here hx rfl (hb hby d1_84) hr) ?_
  have F_49 := (F_45.wr W_48 (by omega))
  obtain ⟨T_50, X_50, e_50, st_50⟩ := getS2 X_48 hx hZ hown (host := "") (Or.inl (hw _ (List.mem_of_getElem? (i := 33) rfl))) Via.refl e_48 (SC12.ext F_49.2) (g := (mkF m 86 #[.val (.int p1), .unset] [(.int (12 : Int32)), (.ref ad_1), (.ref ad_1)])) rfl (hb hby d1_86)
  refine Go.st (S' := T_50.setTop (mkF m 89 #[.val (.int p1), .unset] [(.ref f12), (.int (12 : Int32)), (.ref ad_1), (.ref ad_1)])) st_50 ?_
  have F_51 := (F_47.wr W_48)
  obtain ⟨T_52, h_52, X_52, e_52, W_52, A_52, st_52⟩ := own_stR X_50 hx hZ e_50 B_48 rfl (own_sto B_48 F_51 (Ins.self (E12.ext F_49.2))) (j := (12 : Int32)) (by decide) (by simp only [List.length_cons, List.length_nil]; decide) (g := (mkF m 89 #[.val (.int p1), .unset] [(.ref f12), (.int (12 : Int32)), (.ref ad_1), (.ref ad_1)])) rfl rfl (hb hby d1_89)
  have N_52 := Fr.snoc X_52 N_48 (by omega)
  have z_52 := W_52.size
  have B_52 : Ary Z h_52 ad_1 (.object "com/example/items_in_arrays/itemsinarrays/xpath/RegularExpressionProgram$Code") [(.ref f0), (.ref f1), (.ref f2), (.ref f3), (.ref f4), (.ref f5), (.ref f6), (.ref f7), (.ref f8), (.ref f9), (.ref f10), (.ref f11), (.ref f12), .null, .null, .null, .null] := A_52
  refine Go.st (S' := T_52.setTop (mkF m 90 #[.val (.int p1), .unset] [(.ref ad_1)])) st_52 ?_
  refine Go.st (S' := T_52.setTop (mkF m 91 #[.val (.int p1), .unset] [(.ref ad_1), (.ref ad_1)])) (fun t hr => XS.dup X_52.here hx rfl (hb hby d1_90) rfl rfl hr) ?_
  refine Go.st (S' := T_52.setTop (mkF m 93 #[.val (.int p1), .unset] [(.int (13 : Int32)), (.ref ad_1), (.ref ad_1)])) (fun t hr => XS.bipush X_52.here hx rfl (hb hby d1_91) hr) ?_
  have F_53 := (F_49.wr W_52 (by omega))
  obtain ⟨T_54, X_54, e_54, st_54⟩ := getS2 X_52 hx hZ hown (host := "") (Or.inl (hw _ (List.mem_of_getElem? (i := 35) rfl))) Via.refl e_52 (SC13.ext F_53.2) (g := (mkF m 93 #[.val (.int p1), .unset] [(.int (13 : Int32)), (.ref ad_1), (.ref ad_1)])) rfl (hb hby d1_93)
  refine Go.st (S' := T_54.setTop (mkF m 96 #[.val (.int p1), .unset] [(.ref f13), (.int (13 : Int32)), (.ref ad_1), (.ref ad_1)])) st_54 ?_
  have F_55 := (F_51.wr W_52)
  obtain ⟨T_56, h_56, X_56, e_56, W_56, A_56, st_56⟩ := own_stR X_54 hx hZ e_54 B_52 rfl (own_sto B_52 F_55 (Ins.self (E13.ext F_53.2))) (j := (13 : Int32)) (by decide) (by simp only [List.length_cons, List.length_nil]; decide) (g := (mkF m 96 #[.val (.int p1), .unset] [(.ref f13), (.int (13 : Int32)), (.ref ad_1), (.ref ad_1)])) rfl rfl (hb hby d1_96)
  have N_56 := Fr.snoc X_56 N_52 (by omega)
  have z_56 := W_56.size
  have B_56 : Ary Z h_56 ad_1 (.object "com/example/items_in_arrays/itemsinarrays/xpath/RegularExpressionProgram$Code") [(.ref f0), (.ref f1), (.ref f2), (.ref f3), (.ref f4), (.ref f5), (.ref f6), (.ref f7), (.ref f8), (.ref f9), (.ref f10), (.ref f11), (.ref f12), (.ref f13), .null, .null, .null] := A_56
  refine Go.st (S' := T_56.setTop (mkF m 97 #[.val (.int p1), .unset] [(.ref ad_1)])) st_56 ?_
  refine Go.st (S' := T_56.setTop (mkF m 98 #[.val (.int p1), .unset] [(.ref ad_1), (.ref ad_1)])) (fun t hr => XS.dup X_56.here hx rfl (hb hby d1_97) rfl rfl hr) ?_
  refine Go.st (S' := T_56.setTop (mkF m 100 #[.val (.int p1), .unset] [(.int (14 : Int32)), (.ref ad_1), (.ref ad_1)])) (fun t hr => XS.bipush X_56.here hx rfl (hb hby d1_98) hr) ?_
  have F_57 := (F_53.wr W_56 (by omega))
  obtain ⟨T_58, X_58, e_58, st_58⟩ := getS2 X_56 hx hZ hown (host := "") (Or.inl (hw _ (List.mem_of_getElem? (i := 37) rfl))) Via.refl e_56 (SC14.ext F_57.2) (g := (mkF m 100 #[.val (.int p1), .unset] [(.int (14 : Int32)), (.ref ad_1), (.ref ad_1)])) rfl (hb hby d1_100)
  refine Go.st (S' := T_58.setTop (mkF m 103 #[.val (.int p1), .unset] [(.ref f14), (.int (14 : Int32)), (.ref ad_1), (.ref ad_1)])) st_58 ?_
  have F_59 := (F_55.wr W_56)
  obtain ⟨T_60, h_60, X_60, e_60, W_60, A_60, st_60⟩ := own_stR X_58 hx hZ e_58 B_56 rfl (own_sto B_56 F_59 (Ins.self (E14.ext F_57.2))) (j := (14 : Int32)) (by decide) (by simp only [List.length_cons, List.length_nil]; decide) (g := (mkF m 103 #[.val (.int p1), .unset] [(.ref f14), (.int (14 : Int32)), (.ref ad_1), (.ref ad_1)])) rfl rfl (hb hby d1_103)
  have N_60 := Fr.snoc X_60 N_56 (by omega)
  have z_60 := W_60.size
  have B_60 : Ary Z h_60 ad_1 (.object "com/example/items_in_arrays/itemsinarrays/xpath/RegularExpressionProgram$Code") [(.ref f0), (.ref f1), (.ref f2), (.ref f3), (.ref f4), (.ref f5), (.ref f6), (.ref f7), (.ref f8), (.ref f9), (.ref f10), (.ref f11), (.ref f12), (.ref f13), (.ref f14), .null, .null] := A_60
  refine Go.st (S' := T_60.setTop (mkF m 104 #[.val (.int p1), .unset] [(.ref ad_1)])) st_60 ?_
  refine Go.st (S' := T_60.setTop (mkF m 105 #[.val (.int p1), .unset] [(.ref ad_1), (.ref ad_1)])) (fun t hr => XS.dup X_60.here hx rfl (hb hby d1_104) rfl rfl hr) ?_
  refine Go.st (S' := T_60.setTop (mkF m 107 #[.val (.int p1), .unset] [(.int (15 : Int32)), (.ref ad_1), (.ref ad_1)])) (fun t hr => XS.bipush X_60.here hx rfl (hb hby d1_105) hr) ?_
  have F_61 := (F_57.wr W_60 (by omega))
  obtain ⟨T_62, X_62, e_62, st_62⟩ := getS2 X_60 hx hZ hown (host := "") (Or.inl (hw _ (List.mem_of_getElem? (i := 39) rfl))) Via.refl e_60 (SC15.ext F_61.2) (g := (mkF m 107 #[.val (.int p1), .unset] [(.int (15 : Int32)), (.ref ad_1), (.ref ad_1)])) rfl (hb hby d1_107)
  refine Go.st (S' := T_62.setTop (mkF m 110 #[.val (.int p1), .unset] [(.ref f15), (.int (15 : Int32)), (.ref ad_1), (.ref ad_1)])) st_62 ?_
  have F_63 := (F_59.wr W_60)
  obtain ⟨T_64, h_64, X_64, e_64, W_64, A_64, st_64⟩ := own_stR X_62 hx hZ e_62 B_60 rfl (own_sto B_60 F_63 (Ins.self (E15.ext F_61.2))) (j := (15 : Int32)) (by decide) (by simp only [List.length_cons, List.length_nil]; decide) (g := (mkF m 110 #[.val (.int p1), .unset] [(.ref f15), (.int (15 : Int32)), (.ref ad_1), (.ref ad_1)])) rfl rfl (hb hby d1_110)
  have N_64 := Fr.snoc X_64 N_60 (by omega)
  have z_64 := W_64.size
  have B_64 : Ary Z h_64 ad_1 (.object "com/example/items_in_arrays/itemsinarrays/xpath/RegularExpressionProgram$Code") [(.ref f0), (.ref f1), (.ref f2), (.ref f3), (.ref f4), (.ref f5), (.ref f6), (.ref f7), (.ref f8), (.ref f9), (.ref f10), (.ref f11), (.ref f12), (.ref f13), (.ref f14), (.ref f15), .null] := A_64
  refine Go.st (S' := T_64.setTop (mkF m 111 #[.val (.int p1), .unset] [(.ref ad_1)])) st_64 ?_
  refine Go.st (S' := T_64.setTop (mkF m 112 #[.val (.int p1), .unset] [(.ref ad_1), (.ref ad_1)])) (fun t hr => XS.dup X_64.here hx rfl (hb hby d1_111) rfl rfl hr) ?_
  refine Go.st (S' := T_64.setTop (mkF m 114 #[.val (.int p1), .unset] [(.int (16 : Int32)), (.ref ad_1), (.ref ad_1)])) (fun t hr => XS.bipush X_64.here hx rfl (hb hby d1_112) hr) ?_
  have F_65 := (F_61.wr W_64 (by omega))
  obtain ⟨T_66, X_66, e_66, st_66⟩ := getS2 X_64 hx hZ hown (host := "") (Or.inl (hw _ (List.mem_of_getElem? (i := 41) rfl))) Via.refl e_64 (SC16.ext F_65.2) (g := (mkF m 114 #[.val (.int p1), .unset] [(.int (16 : Int32)), (.ref ad_1), (.ref ad_1)])) rfl (hb hby d1_114)
  refine Go.st (S' := T_66.setTop (mkF m 117 #[.val (.int p1), .unset] [(.ref f16), (.int (16 : Int32)), (.ref ad_1), (.ref ad_1)])) st_66 ?_
  have F_67 := (F_63.wr W_64)
  obtain ⟨T_68, h_68, X_68, e_68, W_68, A_68, st_68⟩ := own_stR X_66 hx hZ e_66 B_64 rfl (own_sto B_64 F_67 (Ins.self (E16.ext F_65.2))) (j := (16 : Int32)) (by decide) (by simp only [List.length_cons, List.length_nil]; decide) (g := (mkF m 117 #[.val (.int p1), .unset] [(.ref f16), (.int (16 : Int32)), (.ref ad_1), (.ref ad_1)])) rfl rfl (hb hby d1_117)
  have N_68 := Fr.snoc X_68 N_64 (by omega)
  have z_68 := W_68.size
  have B_68 : Ary Z h_68 ad_1 (.object "com/example/items_in_arrays/itemsinarrays/xpath/RegularExpressionProgram$Code") [(.ref f0), (.ref f1), (.ref f2), (.ref f3), (.ref f4), (.ref f5), (.ref f6), (.ref f7), (.ref f8), (.ref f9), (.ref f10), (.ref f11), (.ref f12), (.ref f13), (.ref f14), (.ref f15), (.ref f16)] := A_68
  refine Go.st (S' := T_68.setTop (mkF m 118 #[.val (.int p1), .unset] [(.ref ad_1)])) st_68 ?_
  refine Go.st (S' := T_68.setTop (mkF m 119 #[.val (.int p1), .val (.ref ad_1)] [])) (fun t hr => XS.astoreN X_68.here hx rfl (hb hby d1_118) rfl rfl (l' := #[.val (.int p1), .val (.ref ad_1)]) rfl hr) ?_
  refine Go.st (S' := T_68.setTop (mkF m 120 #[.val (.int p1), .val (.ref ad_1)] [(.ref ad_1)])) (fun t hr => XS.aloadN X_68.here hx rfl (hb hby d1_119) rfl rfl hr) ?_
  refine Go.st (S' := T_68.setTop (mkF m 121 #[.val (.int p1), .val (.ref ad_1)] [(.int p1), (.ref ad_1)])) (fun t hr => XS.iloadN X_68.here hx rfl (hb hby d1_120) rfl hr) ?_
  obtain ⟨fk, hfk, Ek⟩ := own_refs_at (Q := fun a => Exa Z Z.heap a "com/example/items_in_arrays/itemsinarrays/xpath/RegularExpressionProgram$Code") [f0, f1, f2, f3, f4, f5, f6, f7, f8, f9, f10, f11, f12, f13, f14, f15, f16] p1.toNatClampNeg (by simp only [List.mem_cons, List.not_mem_nil, or_false]; rintro a (rfl | rfl | rfl | rfl | rfl | rfl | rfl | rfl | rfl | rfl | rfl | rfl | rfl | rfl | rfl | rfl | rfl) <;> assumption) (by have := own_in hp.1; simp only [List.length_cons, List.length_nil]; omega)
  refine Go.st (S' := T_68.setTop (mkF m 122 #[.val (.int p1), .val (.ref ad_1)] [(.ref fk)])) (own_ldR X_68 hx hZ e_68 B_68 rfl (j := p1) (v := (.ref fk)) hp.1 hp.2 hfk (g := (mkF m 121 #[.val (.int p1), .val (.ref ad_1)] [(.int p1), (.ref ad_1)])) rfl rfl (hb hby d1_121)) ?_
  refine Go.retA X_68 hx hlk (t := (.object "com/example/items_in_arrays/itemsinarrays/xpath/RegularExpressionProgram$Code")) hret rfl rfl (hb hby d1_122) (by decide) (by decide) ?_
  try rw [e_68]
  exact ⟨fk, rfl, N_68, (((((((((((((((((((Keep.refl h0 []).ext E_1).wr W_4 (Or.inr (by omega))).wr W_8 (Or.inr (by omega))).wr W_12 (Or.inr (by omega))).wr W_16 (Or.inr (by omega))).wr W_20 (Or.inr (by omega))).wr W_24 (Or.inr (by omega))).wr W_28 (Or.inr (by omega))).wr W_32 (Or.inr (by omega))).wr W_36 (Or.inr (by omega))).wr W_40 (Or.inr (by omega))).wr W_44 (Or.inr (by omega))).wr W_48 (Or.inr (by omega))).wr W_52 (Or.inr (by omega))).wr W_56 (Or.inr (by omega))).wr W_60 (Or.inr (by omega))).wr W_64 (Or.inr (by omega))).wr W_68 (Or.inr (by omega))), Ek⟩
theorem ef_rmABC (m : MethodId) (a1 : Nat) : entryFrame m #[(.ref a1)] 1 = mkF m 0 #[.val (.ref a1)] [] := by first | (simp [entryFrame, mkF, argsToLocals, Value.category]; done) | rfl
theorem pf_1 : plainFor (⟨"java/util/AbstractCollection", "<init>", "()V"⟩ : MethodName) = true := plainFor_of_name (by first | (simp [plainName, overriddenIn]; done) | decide +kernel)
theorem e1_0 : decode jdk_22_method_1_code 0 = .ok (.aload_n 0, 1) := by decide +kernel
theorem e1_1 : decode jdk_22_method_1_code 1 = .ok (.invokespecial 1, 3) := by decide +kernel
theorem e1_4 : decode jdk_22_method_1_code 4 = .ok (.return_, 1) := by decide +kernel
set_option maxRecDepth 65536 in
set_option maxHeartbeats 1000000 in
theorem rmABC (l : Launch) (Z : State) (a0 : Array Value) (hw : ∀ d ∈ tables_1, d.before a0 Z = true) (a1 : Nat) (h0 : Heap) (n0 : Nat) (Z0 : n0 ≤ h0.size)  :
    Con l Z (⟨"java/util/AbstractCollection", "<init>", "()V"⟩ : MethodName) jdk_22_method_1_code 1 none ({ frames := 1, cells := 0, slots := 0, locals := 12 } : Room) #[(.ref a1)] h0 (fun v h L => v = none ∧ Fr n0 L ∧ h = h0) := by
  refine Con.of pf_1 ?_
  intro p e s m below meth c T0 X0 hx hby hml hZ hown hnm hret hlk e0
  have hown : s.vm.findClass "java/util/AbstractCollection" = some m.cls := hown
  have hnm : meth.name = "<init>" := hnm
  have N0 := Fr.nil n0
  refine Go.cast (ef_rmABC m a1) ?_
  refine Go.st (S' := T0.setTop (mkF m 1 #[.val (.ref a1)] [(.ref a1)])) (fun t hr => XS.aloadN X0.here hx rfl (hb hby e1_0) rfl rfl hr) ?_
  obtain ⟨T_1, X_1, e_1, st_1⟩ := initO X0 hx hZ hown (hw _ (List.mem_of_getElem? (i := 78) rfl)) (hw _ (List.mem_of_getElem? (i := 50) rfl)) (hw _ (List.mem_of_getElem? (i := 51) rfl)) e0 (g := (mkF m 1 #[.val (.ref a1)] [(.ref a1)])) rfl (by rw [hml]; rfl) rfl (hb hby e1_1) (by decide) (W := 0) (by show 2 * 0 + _ ≤ _; exact Nat.le_of_eq rfl) (by decide)
  refine Go.st (S' := T_1.setTop (mkF m 4 #[.val (.ref a1)] [])) st_1 ?_
  refine Go.retV X_1 hx hlk hret (hb hby e1_4) (by decide) (by decide) ?_
  try rw [e_1]
  exact ⟨rfl, N0, rfl⟩
theorem ef_rmABL (m : MethodId) (a1 : Nat) : entryFrame m #[(.ref a1)] 1 = mkF m 0 #[.val (.ref a1)] [] := by first | (simp [entryFrame, mkF, argsToLocals, Value.category]; done) | rfl
theorem pf_2 : plainFor (⟨"java/util/AbstractList", "<init>", "()V"⟩ : MethodName) = true := plainFor_of_name (by first | (simp [plainName, overriddenIn]; done) | decide +kernel)
theorem pd_0 : parseMethodDescriptor "()V" = some ⟨[], none⟩ := by decide +kernel
theorem e2_0 : decode jdk_39_method_1_code 0 = .ok (.aload_n 0, 1) := by decide +kernel
theorem e2_1 : decode jdk_39_method_1_code 1 = .ok (.invokespecial 1, 3) := by decide +kernel
theorem e2_4 : decode jdk_39_method_1_code 4 = .ok (.aload_n 0, 1) := by decide +kernel
theorem e2_5 : decode jdk_39_method_1_code 5 = .ok (.iconst 0, 1) := by decide +kernel
theorem e2_6 : decode jdk_39_method_1_code 6 = .ok (.putfield 7, 3) := by decide +kernel
theorem e2_9 : decode jdk_39_method_1_code 9 = .ok (.return_, 1) := by decide +kernel
set_option maxRecDepth 65536 in
set_option maxHeartbeats 1000000 in
theorem rmABL (l : Launch) (Z : State) (a0 : Array Value) (hw : ∀ d ∈ tables_1, d.before a0 Z = true) (a1 : Nat) (h0 : Heap) (n0 : Nat) (Z0 : n0 ≤ h0.size) (E1 : Exa Z h0 a1 "java/util/ArrayList") (F1 : Fld Z h0 a1 "java/util/AbstractList" "modCount" "I" (.int 0)) (g1 : n0 ≤ a1) (F2 : Fld Z h0 a1 "java/util/ArrayList" "elementData" "[Ljava/lang/Object;" .null) :
    Con l Z (⟨"java/util/AbstractList", "<init>", "()V"⟩ : MethodName) jdk_39_method_1_code 1 none ({ frames := 2, cells := 0, slots := 0, locals := 24 } : Room) #[(.ref a1)] h0 (fun v h L => v = none ∧ Fr n0 L ∧ Keep h0 h [a1] ∧ Fld Z h a1 "java/util/ArrayList" "elementData" "[Ljava/lang/Object;" .null) := by
  refine Con.of pf_2 ?_
  intro p e s m below meth c T0 X0 hx hby hml hZ hown hnm hret hlk e0
  have hown : s.vm.findClass "java/util/AbstractList" = some m.cls := hown
  have hnm : meth.name = "<init>" := hnm
  have N0 := Fr.nil n0
  refine Go.cast (ef_rmABL m a1) ?_
  have lt_1 := own_ltE E1
  refine Go.st (S' := T0.setTop (mkF m 1 #[.val (.ref a1)] [(.ref a1)])) (fun t hr => XS.aloadN X0.here hx rfl (hb hby e2_0) rfl rfl hr) ?_
  obtain ⟨v_2, T_2, h_2, L_2, X_2, e_2, Q_2, st_2⟩ := own_callN X0 hx hZ (y := ⟨"java/util/AbstractCollection", "<init>", "()V"⟩) rfl hown (hw _ (List.mem_of_getElem? (i := 72) rfl)) (hw _ (List.mem_of_getElem? (i := 73) rfl)) (hw _ (List.mem_of_getElem? (i := 76) rfl)) (hw _ (List.mem_of_getElem? (i := 77) rfl)) (by decide) e0 (a := a1) (argsL := []) (rest := []) (rmABC l Z a0 hw a1 h0 n0 Z0) (g := (mkF m 1 #[.val (.ref a1)] [(.ref a1)])) rfl (by rw [hml]; rfl) (lenOf pd_0 rfl) rfl (hb hby e2_1) (W := 0) (by show 2 * 0 + _ ≤ _; exact Nat.le_of_eq rfl) (by decide) (by decide) (by decide) (by decide)
  obtain ⟨rfl, N_2, hh_2⟩ := Q_2
  have N_2' := Fr.app N0 N_2
  rw [hh_2] at e_2
  refine Go.st (S' := T_2.setTop (mkF m 4 #[.val (.ref a1)] [])) st_2 ?_
  refine Go.st (S' := T_2.setTop (mkF m 5 #[.val (.ref a1)] [(.ref a1)])) (fun t hr => XS.aloadN X_2.here hx rfl (hb hby e2_4) rfl rfl hr) ?_
  refine Go.st (S' := T_2.setTop (mkF m 6 #[.val (.ref a1)] [(.int (0 : Int32)), (.ref a1)])) (fun t hr => XS.iconst X_2.here hx rfl (hb hby e2_5) hr) ?_
  obtain ⟨T_3, h_3, X_3, e_3, W_3, st_3⟩ := putF X_2 hx hZ hown (host := "") (Or.inl (hw _ (List.mem_of_getElem? (i := 79) rfl))) Via.refl e_2 F1 E1 (Or.inl (hw _ (List.mem_of_getElem? (i := 80) rfl))) (hw _ (List.mem_of_getElem? (i := 61) rfl)) (ty := .int) (by decide) rfl rfl (g := (mkF m 6 #[.val (.ref a1)] [(.int (0 : Int32)), (.ref a1)])) rfl rfl (hb hby e2_6)
  have N_3 := Fr.snoc X_3 N_2' (by omega)
  have z_3 := W_3.size
  have F_3 := F1.same W_3
  refine Go.st (S' := T_3.setTop (mkF m 9 #[.val (.ref a1)] [])) st_3 ?_
  refine Go.retV X_3 hx hlk hret (hb hby e2_9) (by decide) (by decide) ?_
  try rw [e_3]
  have F_4 := (F2.other W_3 (Or.inr (slot_ne (t := (.array (.object "java/lang/Object"))) (t' := .int) (Or.inl (hw _ (List.mem_of_getElem? (i := 83) rfl))) (Or.inl (hw _ (List.mem_of_getElem? (i := 80) rfl))) (by decide) (by decide) (by decide))))
  exact ⟨rfl, N_3, ((Keep.refl h0 [a1]).wr W_3 (Or.inl (by simp))), F_4⟩
theorem ef_rmAL (m : MethodId) (a1 : Nat) : entryFrame m #[(.ref a1)] 1 = mkF m 0 #[.val (.ref a1)] [] := by first | (simp [entryFrame, mkF, argsToLocals, Value.category]; done) | rfl
theorem pf_3 : plainFor (⟨"java/util/ArrayList", "<init>", "()V"⟩ : MethodName) = true := plainFor_of_name (by first | (simp [plainName, overriddenIn]; done) | decide +kernel)
theorem e3_0 : decode jdk_38_method_2_code 0 = .ok (.aload_n 0, 1) := by decide +kernel
theorem e3_1 : decode jdk_38_method_2_code 1 = .ok (.invokespecial 1, 3) := by decide +kernel
theorem e3_4 : decode jdk_38_method_2_code 4 = .ok (.aload_n 0, 1) := by decide +kernel
theorem e3_5 : decode jdk_38_method_2_code 5 = .ok (.getstatic 39, 3) := by decide +kernel
theorem e3_8 : decode jdk_38_method_2_code 8 = .ok (.putfield 9, 3) := by decide +kernel
theorem e3_11 : decode jdk_38_method_2_code 11 = .ok (.return_, 1) := by decide +kernel
set_option maxRecDepth 65536 in
set_option maxHeartbeats 1000000 in
theorem rmAL (l : Launch) (Z : State) (a0 : Array Value) (hw : ∀ d ∈ tables_1, d.before a0 Z = true) (a1 : Nat) (h0 : Heap) (n0 : Nat) (Z0 : n0 ≤ h0.size) (E1 : Exa Z h0 a1 "java/util/ArrayList") (F1 : Fld Z h0 a1 "java/util/AbstractList" "modCount" "I" (.int 0)) (g1 : n0 ≤ a1) (F2 : Fld Z h0 a1 "java/util/ArrayList" "elementData" "[Ljava/lang/Object;" .null) (vd : Value) (rd : vd.isRef = true) (O0 : Old Z n0 h0) (S0 : Sta Z Z.heap "java/util/ArrayList" "DEFAULTCAPACITY_EMPTY_ELEMENTDATA" "[Ljava/lang/Object;" vd) :
    Con l Z (⟨"java/util/ArrayList", "<init>", "()V"⟩ : MethodName) jdk_38_method_2_code 1 none ({ frames := 3, cells := 0, slots := 0, locals := 36 } : Room) #[(.ref a1)] h0 (fun v h L => v = none ∧ Fr n0 L ∧ Keep h0 h [a1]) := by
  refine Con.of pf_3 ?_
  intro p e s m below meth c T0 X0 hx hby hml hZ hown hnm hret hlk e0
  have hown : s.vm.findClass "java/util/ArrayList" = some m.cls := hown
  have hnm : meth.name = "<init>" := hnm
  have N0 := Fr.nil n0
  refine Go.cast (ef_rmAL m a1) ?_
  have lt_1 := own_ltE E1
  refine Go.st (S' := T0.setTop (mkF m 1 #[.val (.ref a1)] [(.ref a1)])) (fun t hr => XS.aloadN X0.here hx rfl (hb hby e3_0) rfl rfl hr) ?_
  obtain ⟨v_2, T_2, h_2, L_2, X_2, e_2, Q_2, st_2⟩ := own_callN X0 hx hZ (y := ⟨"java/util/AbstractList", "<init>", "()V"⟩) rfl hown (hw _ (List.mem_of_getElem? (i := 66) rfl)) (hw _ (List.mem_of_getElem? (i := 67) rfl)) (hw _ (List.mem_of_getElem? (i := 70) rfl)) (hw _ (List.mem_of_getElem? (i := 71) rfl)) (by decide) e0 (a := a1) (argsL := []) (rest := []) (rmABL l Z a0 hw a1 h0 n0 Z0 E1 F1 g1 F2) (g := (mkF m 1 #[.val (.ref a1)] [(.ref a1)])) rfl (by rw [hml]; rfl) (lenOf pd_0 rfl) rfl (hb hby e3_1) (W := 0) (by show 2 * 0 + _ ≤ _; exact Nat.le_of_eq rfl) (by decide) (by decide) (by decide) (by decide)
  obtain ⟨rfl, N_2, K_2, G_2⟩ := Q_2
  have N_2' := Fr.app N0 N_2
  have z_2 := K_2.1
  refine Go.st (S' := T_2.setTop (mkF m 4 #[.val (.ref a1)] [])) st_2 ?_
  refine Go.st (S' := T_2.setTop (mkF m 5 #[.val (.ref a1)] [(.ref a1)])) (fun t hr => XS.aloadN X_2.here hx rfl (hb hby e3_4) rfl rfl hr) ?_
  have F_3 := (O0.keep K_2 (by intro x hxx; simp only [List.mem_cons, List.not_mem_nil, or_false] at hxx; rcases hxx with rfl <;> omega))
  obtain ⟨T_4, X_4, e_4, st_4⟩ := getS2 X_2 hx hZ hown (host := "") (Or.inl (hw _ (List.mem_of_getElem? (i := 81) rfl))) Via.refl e_2 (S0.ext F_3.2) (g := (mkF m 5 #[.val (.ref a1)] [(.ref a1)])) rfl (hb hby e3_5)
  refine Go.st (S' := T_4.setTop (mkF m 8 #[.val (.ref a1)] [vd, (.ref a1)])) st_4 ?_
  have F_5 := (E1.keep K_2)
  obtain ⟨T_6, h_6, X_6, e_6, W_6, st_6⟩ := putF X_4 hx hZ hown (host := "") (Or.inl (hw _ (List.mem_of_getElem? (i := 82) rfl))) Via.refl e_4 G_2 F_5 (Or.inl (hw _ (List.mem_of_getElem? (i := 83) rfl))) (hw _ (List.mem_of_getElem? (i := 61) rfl)) (ty := (.array (.object "java/lang/Object"))) (by decide) (own_narR rfl rd) (own_fitR rfl rd) (g := (mkF m 8 #[.val (.ref a1)] [vd, (.ref a1)])) rfl rfl (hb hby e3_8)
  have N_6 := Fr.snoc X_6 N_2' (by omega)
  have z_6 := W_6.size
  have F_6 := G_2.same W_6
  refine Go.st (S' := T_6.setTop (mkF m 11 #[.val (.ref a1)] [])) st_6 ?_
  refine Go.retV X_6 hx hlk hret (hb hby e3_11) (by decide) (by decide) ?_
  try rw [e_6]
  exact ⟨rfl, N_6, (((Keep.refl h0 [a1]).trans K_2 (by intro x hxx; simp only [List.mem_cons, List.not_mem_nil, or_false] at hxx; rcases hxx with rfl; · exact Or.inl (by simp))).wr W_6 (Or.inl (by simp)))⟩
theorem ef_rmBI (m : MethodId) (a1 : Nat) : entryFrame m #[(.ref a1)] 1 = mkF m 0 #[.val (.ref a1)] [] := by first | (simp [entryFrame, mkF, argsToLocals, Value.category]; done) | rfl
theorem pf_4 : plainFor (⟨"com/example/items_in_arrays/itemsinarrays/xpath/RegularExpressionProgram$Builder", "<init>", "()V"⟩ : MethodName) = true := plainFor_of_name (by first | (simp [plainName, overriddenIn]; done) | decide +kernel)
theorem d2_0 : decode prog_64_method_1_code 0 = .ok (.aload_n 0, 1) := by decide +kernel
theorem d2_1 : decode prog_64_method_1_code 1 = .ok (.invokespecial 1, 3) := by decide +kernel
theorem d2_4 : decode prog_64_method_1_code 4 = .ok (.aload_n 0, 1) := by decide +kernel
theorem d2_5 : decode prog_64_method_1_code 5 = .ok (.bipush 16, 2) := by decide +kernel
theorem d2_7 : decode prog_64_method_1_code 7 = .ok (.anewarray 7, 3) := by decide +kernel
theorem d2_10 : decode prog_64_method_1_code 10 = .ok (.putfield 9, 3) := by decide +kernel
theorem d2_13 : decode prog_64_method_1_code 13 = .ok (.aload_n 0, 1) := by decide +kernel
theorem d2_14 : decode prog_64_method_1_code 14 = .ok (.bipush 16, 2) := by decide +kernel
theorem d2_16 : decode prog_64_method_1_code 16 = .ok (.newarray .int, 2) := by decide +kernel
theorem d2_18 : decode prog_64_method_1_code 18 = .ok (.putfield 15, 3) := by decide +kernel
theorem d2_21 : decode prog_64_method_1_code 21 = .ok (.aload_n 0, 1) := by decide +kernel
theorem d2_22 : decode prog_64_method_1_code 22 = .ok (.bipush 16, 2) := by decide +kernel
theorem d2_24 : decode prog_64_method_1_code 24 = .ok (.newarray .int, 2) := by decide +kernel
theorem d2_26 : decode prog_64_method_1_code 26 = .ok (.putfield 19, 3) := by decide +kernel
theorem d2_29 : decode prog_64_method_1_code 29 = .ok (.aload_n 0, 1) := by decide +kernel
theorem d2_30 : decode prog_64_method_1_code 30 = .ok (.new 22, 3) := by decide +kernel
theorem d2_33 : decode prog_64_method_1_code 33 = .ok (.dup, 1) := by decide +kernel
theorem d2_34 : decode prog_64_method_1_code 34 = .ok (.invokespecial 24, 3) := by decide +kernel
theorem d2_37 : decode prog_64_method_1_code 37 = .ok (.putfield 25, 3) := by decide +kernel
theorem d2_40 : decode prog_64_method_1_code 40 = .ok (.aload_n 0, 1) := by decide +kernel
theorem d2_41 : decode prog_64_method_1_code 41 = .ok (.iconst 4, 1) := by decide +kernel
theorem d2_42 : decode prog_64_method_1_code 42 = .ok (.newarray .int, 2) := by decide +kernel
theorem d2_44 : decode prog_64_method_1_code 44 = .ok (.putfield 29, 3) := by decide +kernel
theorem d2_47 : decode prog_64_method_1_code 47 = .ok (.aload_n 0, 1) := by decide +kernel
theorem d2_48 : decode prog_64_method_1_code 48 = .ok (.iconst 4, 1) := by decide +kernel
theorem d2_49 : decode prog_64_method_1_code 49 = .ok (.newarray .int, 2) := by decide +kernel
theorem d2_51 : decode prog_64_method_1_code 51 = .ok (.putfield 32, 3) := by decide +kernel
theorem d2_54 : decode prog_64_method_1_code 54 = .ok (.aload_n 0, 1) := by decide +kernel
theorem d2_55 : decode prog_64_method_1_code 55 = .ok (.iconst 4, 1) := by decide +kernel
theorem d2_56 : decode prog_64_method_1_code 56 = .ok (.newarray .boolean, 2) := by decide +kernel
theorem d2_58 : decode prog_64_method_1_code 58 = .ok (.putfield 35, 3) := by decide +kernel
theorem d2_61 : decode prog_64_method_1_code 61 = .ok (.aload_n 0, 1) := by decide +kernel
theorem d2_62 : decode prog_64_method_1_code 62 = .ok (.iconst 4, 1) := by decide +kernel
theorem d2_63 : decode prog_64_method_1_code 63 = .ok (.newarray .boolean, 2) := by decide +kernel
theorem d2_65 : decode prog_64_method_1_code 65 = .ok (.putfield 39, 3) := by decide +kernel
theorem d2_68 : decode prog_64_method_1_code 68 = .ok (.aload_n 0, 1) := by decide +kernel
theorem d2_69 : decode prog_64_method_1_code 69 = .ok (.iconst (-1), 1) := by decide +kernel
theorem d2_70 : decode prog_64_method_1_code 70 = .ok (.putfield 42, 3) := by decide +kernel
theorem d2_73 : decode prog_64_method_1_code 73 = .ok (.return_, 1) := by decide +kernel
set_option maxRecDepth 65536 in
set_option maxHeartbeats 1000000 in
theorem rmBI (l : Launch) (Z : State) (a0 : Array Value) (hw : ∀ d ∈ tables_1, d.before a0 Z = true) (a1 : Nat) (h0 : Heap) (n0 : Nat) (Z0 : n0 ≤ h0.size) (E1 : Exa Z h0 a1 "com/example/items_in_arrays/itemsinarrays/xpath/RegularExpressionProgram$Builder") (g1 : n0 ≤ a1) (Fcodes : Fld Z h0 a1 "com/example/items_in_arrays/itemsinarrays/xpath/RegularExpressionProgram$Builder" "codes" "[Lcom/example/items_in_arrays/itemsinarrays/xpath/RegularExpressionProgram$Code;" .null) (Foperands : Fld Z h0 a1 "com/example/items_in_arrays/itemsinarrays/xpath/RegularExpressionProgram$Builder" "operands" "[I" .null) (Ftargets : Fld Z h0 a1 "com/example/items_in_arrays/itemsinarrays/xpath/RegularExpressionProgram$Builder" "targets" "[I" .null) (Fsets : Fld Z h0 a1 "com/example/items_in_arrays/itemsinarrays/xpath/RegularExpressionProgram$Builder" "sets" "Ljava/util/List;" .null) (Fleast : Fld Z h0 a1 "com/example/items_in_arrays/itemsinarrays/xpath/RegularExpressionProgram$Builder" "least" "[I" .null) (Fmost : Fld Z h0 a1 "com/example/items_in_arrays/itemsinarrays/xpath/RegularExpressionProgram$Builder" "most" "[I" .null) (Fgreedy : Fld Z h0 a1 "com/example/items_in_arrays/itemsinarrays/xpath/RegularExpressionProgram$Builder" "greedy" "[Z" .null) (FchecksEmpty : Fld Z h0 a1 "com/example/items_in_arrays/itemsinarrays/xpath/RegularExpressionProgram$Builder" "checksEmpty" "[Z" .null) (Frequired : Fld Z h0 a1 "com/example/items_in_arrays/itemsinarrays/xpath/RegularExpressionProgram$Builder" "required" "I" (.int (0 : Int32))) (Fsize : Fld Z h0 a1 "com/example/items_in_arrays/itemsinarrays/xpath/RegularExpressionProgram$Builder" "size" "I" (.int (0 : Int32))) (vd : Value) (rd : vd.isRef = true) (O0 : Old Z n0 h0) (S0 : Sta Z Z.heap "java/util/ArrayList" "DEFAULTCAPACITY_EMPTY_ELEMENTDATA" "[Ljava/lang/Object;" vd) :
    Con l Z (⟨"com/example/items_in_arrays/itemsinarrays/xpath/RegularExpressionProgram$Builder", "<init>", "()V"⟩ : MethodName) prog_64_method_1_code 1 none ({ frames := 4, cells := 8, slots := 67, locals := 50 } : Room) #[(.ref a1)] h0 (fun v h L => v = none ∧ Fr n0 L ∧ Keep h0 h [a1] ∧ ∃ ca oa ta : Nat, h0.size ≤ ca ∧ ca < oa ∧ oa < ta ∧ Ovy Z h ca "com/example/items_in_arrays/itemsinarrays/xpath/RegularExpressionProgram$Code" ∧ Fld Z h a1 "com/example/items_in_arrays/itemsinarrays/xpath/RegularExpressionProgram$Builder" "codes" "[Lcom/example/items_in_arrays/itemsinarrays/xpath/RegularExpressionProgram$Code;" (.ref ca) ∧ Fld Z h a1 "com/example/items_in_arrays/itemsinarrays/xpath/RegularExpressionProgram$Builder" "operands" "[I" (.ref oa) ∧ Fld Z h a1 "com/example/items_in_arrays/itemsinarrays/xpath/RegularExpressionProgram$Builder" "targets" "[I" (.ref ta) ∧ Fld Z h a1 "com/example/items_in_arrays/itemsinarrays/xpath/RegularExpressionProgram$Builder" "size" "I" (.int 0) ∧ Ary Z h ca (.object "com/example/items_in_arrays/itemsinarrays/xpath/RegularExpressionProgram$Code") [.null, .null, .null, .null, .null, .null, .null, .null, .null, .null, .null, .null, .null, .null, .null, .null] ∧ Ary Z h oa .int [(.int 0), (.int 0), (.int 0), (.int 0), (.int 0), (.int 0), (.int 0), (.int 0), (.int 0), (.int 0), (.int 0), (.int 0), (.int 0), (.int 0), (.int 0), (.int 0)] ∧ Ary Z h ta .int [(.int 0), (.int 0), (.int 0), (.int 0), (.int 0), (.int 0), (.int 0), (.int 0), (.int 0), (.int 0), (.int 0), (.int 0), (.int 0), (.int 0), (.int 0), (.int 0)]) := by
  refine Con.of pf_4 ?_
  intro p e s m below meth c T0 X0 hx hby hml hZ hown hnm hret hlk e0
  have hown : s.vm.findClass "com/example/items_in_arrays/itemsinarrays/xpath/RegularExpressionProgram$Builder" = some m.cls := hown
  have hnm : meth.name = "<init>" := hnm
  have N0 := Fr.nil n0
  have y0 := own_ltE E1
  refine Go.cast (ef_rmBI m a1) ?_
  have lt_1 := own_ltE E1
  refine Go.st (S' := T0.setTop (mkF m 1 #[.val (.ref a1)] [(.ref a1)])) (fun t hr => XS.aloadN X0.here hx rfl (hb hby d2_0) rfl rfl hr) ?_
  obtain ⟨T_2, X_2, e_2, st_2⟩ := initO X0 hx hZ hown (hw _ (List.mem_of_getElem? (i := 49) rfl)) (hw _ (List.mem_of_getElem? (i := 50) rfl)) (hw _ (List.mem_of_getElem? (i := 51) rfl)) e0 (g := (mkF m 1 #[.val (.ref a1)] [(.ref a1)])) rfl (by rw [hml]; rfl) rfl (hb hby d2_1) (by decide) (W := 0) (by show 2 * 0 + _ ≤ _; exact Nat.le_of_eq rfl) (by decide)
  refine Go.st (S' := T_2.setTop (mkF m 4 #[.val (.ref a1)] [])) st_2 ?_
  refine Go.st (S' := T_2.setTop (mkF m 5 #[.val (.ref a1)] [(.ref a1)])) (fun t hr => XS.aloadN X_2.here hx rfl (hb hby d2_4) rfl rfl hr) ?_
  refine Go.st (S' := T_2.setTop (mkF m 7 #[.val (.ref a1)] [(.int (16 : Int32)), (.ref a1)])) (fun t hr => XS.bipush X_2.here hx rfl (hb hby d2_5) hr) ?_
  obtain ⟨T_3, h_3, X_3, e_3, E_3, A_3, O_3, st_3⟩ := own_newR X_2 hx hZ hown (hw _ (List.mem_of_getElem? (i := 52) rfl)) (hw _ (List.mem_of_getElem? (i := 6) rfl)) e_2 (g := (mkF m 7 #[.val (.ref a1)] [(.int (16 : Int32)), (.ref a1)])) rfl (hb hby d2_7) rfl (by decide) (cap := 16) (by decide) (by decide) (by decide) (by decide)
  obtain ⟨ad_3, g_3⟩ : ∃ z, z = h0.size := ⟨_, rfl⟩
  rw [← g_3] at A_3 O_3 st_3
  have z_3 := E_3.1
  have y_3 := own_ltA A_3
  have B_3 : Ary Z h_3 ad_3 (.object "com/example/items_in_arrays/itemsinarrays/xpath/RegularExpressionProgram$Code") [.null, .null, .null, .null, .null, .null, .null, .null, .null, .null, .null, .null, .null, .null, .null, .null] := A_3
  refine Go.st (S' := T_3.setTop (mkF m 10 #[.val (.ref a1)] [(.ref ad_3), (.ref a1)])) st_3 ?_
  have F_4 := (Fcodes.ext E_3)
  have F_5 := (E1.ext E_3)
  obtain ⟨T_6, h_6, X_6, e_6, W_6, st_6⟩ := putF X_3 hx hZ hown (host := "") (Or.inl (hw _ (List.mem_of_getElem? (i := 53) rfl))) Via.refl e_3 F_4 F_5 (Or.inl (hw _ (List.mem_of_getElem? (i := 54) rfl))) (hw _ (List.mem_of_getElem? (i := 44) rfl)) (ty := (.array (.object "com/example/items_in_arrays/itemsinarrays/xpath/RegularExpressionProgram$Code"))) (by decide) rfl rfl (g := (mkF m 10 #[.val (.ref a1)] [(.ref ad_3), (.ref a1)])) rfl rfl (hb hby d2_10)
  have N_6 := Fr.snoc X_6 N0 (by omega)
  have z_6 := W_6.size
  have F_6 := F_4.same W_6
  refine Go.st (S' := T_6.setTop (mkF m 13 #[.val (.ref a1)] [])) st_6 ?_
  refine Go.st (S' := T_6.setTop (mkF m 14 #[.val (.ref a1)] [(.ref a1)])) (fun t hr => XS.aloadN X_6.here hx rfl (hb hby d2_13) rfl rfl hr) ?_
  refine Go.st (S' := T_6.setTop (mkF m 16 #[.val (.ref a1)] [(.int (16 : Int32)), (.ref a1)])) (fun t hr => XS.bipush X_6.here hx rfl (hb hby d2_14) hr) ?_
  obtain ⟨T_7, h_7, X_7, e_7, E_7, A_7, st_7⟩ := own_newP X_6 hx hZ (ty := .int) rfl (hw _ (List.mem_of_getElem? (i := 55) rfl)) e_6 (g := (mkF m 16 #[.val (.ref a1)] [(.int (16 : Int32)), (.ref a1)])) rfl (hb hby d2_16) rfl (by decide) (cap := 16) (by decide) (by decide) (by decide) (by decide)
  obtain ⟨ad_7, g_7⟩ : ∃ z, z = h_6.size := ⟨_, rfl⟩
  rw [← g_7] at A_7 st_7
  have z_7 := E_7.1
  have y_7 := own_ltA A_7
  have B_7 : Ary Z h_7 ad_7 .int [(.int (0 : Int32)), (.int (0 : Int32)), (.int (0 : Int32)), (.int (0 : Int32)), (.int (0 : Int32)), (.int (0 : Int32)), (.int (0 : Int32)), (.int (0 : Int32)), (.int (0 : Int32)), (.int (0 : Int32)), (.int (0 : Int32)), (.int (0 : Int32)), (.int (0 : Int32)), (.int (0 : Int32)), (.int (0 : Int32)), (.int (0 : Int32))] := A_7
  refine Go.st (S' := T_7.setTop (mkF m 18 #[.val (.ref a1)] [(.ref ad_7), (.ref a1)])) st_7 ?_
  have F_8 := (((Foperands.ext E_3).other W_6 (Or.inr (slot_ne (t := (.array .int)) (t' := (.array (.object "com/example/items_in_arrays/itemsinarrays/xpath/RegularExpressionProgram$Code"))) (Or.inl (hw _ (List.mem_of_getElem? (i := 57) rfl))) (Or.inl (hw _ (List.mem_of_getElem? (i := 54) rfl))) (by decide) (by decide) (by decide)))).ext E_7)
  have F_9 := ((F_5.wr W_6).ext E_7)
  obtain ⟨T_10, h_10, X_10, e_10, W_10, st_10⟩ := putF X_7 hx hZ hown (host := "") (Or.inl (hw _ (List.mem_of_getElem? (i := 56) rfl))) Via.refl e_7 F_8 F_9 (Or.inl (hw _ (List.mem_of_getElem? (i := 57) rfl))) (hw _ (List.mem_of_getElem? (i := 44) rfl)) (ty := (.array .int)) (by decide) rfl rfl (g := (mkF m 18 #[.val (.ref a1)] [(.ref ad_7), (.ref a1)])) rfl rfl (hb hby d2_18)
  have N_10 := Fr.snoc X_10 N_6 (by omega)
  have z_10 := W_10.size
  have F_10 := F_8.same W_10
  refine Go.st (S' := T_10.setTop (mkF m 21 #[.val (.ref a1)] [])) st_10 ?_
  refine Go.st (S' := T_10.setTop (mkF m 22 #[.val (.ref a1)] [(.ref a1)])) (fun t hr => XS.aloadN X_10.here hx rfl (hb hby d2_21) rfl rfl hr) ?_
  refine Go.st (S' := T_10.setTop (mkF m 24 #[.val (.ref a1)] [(.int (16 : Int32)), (.ref a1)])) (fun t hr => XS.bipush X_10.here hx rfl (hb hby d2_22) hr) ?_
  obtain ⟨T_11, h_11, X_11, e_11, E_11, A_11, st_11⟩ := own_newP X_10 hx hZ (ty := .int) rfl (hw _ (List.mem_of_getElem? (i := 55) rfl)) e_10 (g := (mkF m 24 #[.val (.ref a1)] [(.int (16 : Int32)), (.ref a1)])) rfl (hb hby d2_24) rfl (by decide) (cap := 16) (by decide) (by decide) (by decide) (by decide)
  obtain ⟨ad_11, g_11⟩ : ∃ z, z = h_10.size := ⟨_, rfl⟩
  rw [← g_11] at A_11 st_11
  have z_11 := E_11.1
  have y_11 := own_ltA A_11
  have B_11 : Ary Z h_11 ad_11 .int [(.int (0 : Int32)), (.int (0 : Int32)), (.int (0 : Int32)), (.int (0 : Int32)), (.int (0 : Int32)), (.int (0 : Int32)), (.int (0 : Int32)), (.int (0 : Int32)), (.int (0 : Int32)), (.int (0 : Int32)), (.int (0 : Int32)), (.int (0 : Int32)), (.int (0 : Int32)), (.int (0 : Int32)), (.int (0 : Int32)), (.int (0 : Int32))] := A_11
  refine Go.st (S' := T_11.setTop (mkF m 26 #[.val (.ref a1)] [(.ref ad_11), (.ref a1)])) st_11 ?_
  have F_12 := (((((Ftargets.ext E_3).other W_6 (Or.inr (slot_ne (t := (.array .int)) (t' := (.array (.object "com/example/items_in_arrays/itemsinarrays/xpath/RegularExpressionProgram$Code"))) (Or.inl (hw _ (List.mem_of_getElem? (i := 59) rfl))) (Or.inl (hw _ (List.mem_of_getElem? (i := 54) rfl))) (by decide) (by decide) (by decide)))).ext E_7).other W_10 (Or.inr (slot_ne (t := (.array .int)) (t' := (.array .int)) (Or.inl (hw _ (List.mem_of_getElem? (i := 59) rfl))) (Or.inl (hw _ (List.mem_of_getElem? (i := 57) rfl))) (by decide) (by decide) (by decide)))).ext E_11)
  have F_13 := ((F_9.wr W_10).ext E_11)
  obtain ⟨T_14, h_14, X_14, e_14, W_14, st_14⟩ := putF X_11 hx hZ hown (host := "") (Or.inl (hw _ (List.mem_of_getElem? (i := 58) rfl))) Via.refl e_11 F_12 F_13 (Or.inl (hw _ (List.mem_of_getElem? (i := 59) rfl))) (hw _ (List.mem_of_getElem? (i := 44) rfl)) (ty := (.array .int)) (by decide) rfl rfl (g := (mkF m 26 #[.val (.ref a1)] [(.ref ad_11), (.ref a1)])) rfl rfl (hb hby d2_26)
  have N_14 := Fr.snoc X_14 N_10 (by omega)
  have z_14 := W_14.size
  have F_14 := F_12.same W_14
  refine Go.st (S' := T_14.setTop (mkF m 29 #[.val (.ref a1)] [])) st_14 ?_
  refine Go.st (S' := T_14.setTop (mkF m 30 #[.val (.ref a1)] [(.ref a1)])) (fun t hr => XS.aloadN X_14.here hx rfl (hb hby d2_29) rfl rfl hr) ?_
  obtain ⟨T_15, h_15, X_15, e_15, E_15, A_15, D_15, -, st_15⟩ := newO X_14 hx hZ hown (hw _ (List.mem_of_getElem? (i := 60) rfl)) (hw _ (List.mem_of_getElem? (i := 61) rfl)) (hw _ (List.mem_of_getElem? (i := 62) rfl)) e_14 (g := (mkF m 30 #[.val (.ref a1)] [(.ref a1)])) rfl (hb hby d2_30) (by decide) (by decide)
  obtain ⟨ad_15, g_15⟩ : ∃ z, z = h_14.size := ⟨_, rfl⟩
  rw [← g_15] at A_15 D_15 st_15
  have z_15 := E_15.1
  have y_15 := own_ltE A_15
  have F_15_modCount : Fld Z h_15 ad_15 "java/util/AbstractList" "modCount" "I" (.int (0 : Int32)) := D_15 (Or.inl (hw _ (List.mem_of_getElem? (i := 80) rfl))) (ty := .int) (by decide)
  have F_15_elementData : Fld Z h_15 ad_15 "java/util/ArrayList" "elementData" "[Ljava/lang/Object;" .null := D_15 (Or.inl (hw _ (List.mem_of_getElem? (i := 83) rfl))) (ty := (.array (.object "java/lang/Object"))) (by decide)
  refine Go.st (S' := T_15.setTop (mkF m 33 #[.val (.ref a1)] [(.ref ad_15), (.ref a1)])) st_15 ?_
  refine Go.st (S' := T_15.setTop (mkF m 34 #[.val (.ref a1)] [(.ref ad_15), (.ref ad_15), (.ref a1)])) (fun t hr => XS.dup X_15.here hx rfl (hb hby d2_33) rfl rfl hr) ?_
  have F_17 := (((((((O0.ext E_3).wr W_6 (by omega)).ext E_7).wr W_10 (by omega)).ext E_11).wr W_14 (by omega)).ext E_15)
  obtain ⟨v_16, T_16, h_16, L_16, X_16, e_16, Q_16, st_16⟩ := own_callN X_15 hx hZ (y := ⟨"java/util/ArrayList", "<init>", "()V"⟩) rfl hown (hw _ (List.mem_of_getElem? (i := 63) rfl)) (hw _ (List.mem_of_getElem? (i := 64) rfl)) (hw _ (List.mem_of_getElem? (i := 62) rfl)) (hw _ (List.mem_of_getElem? (i := 65) rfl)) (by decide) e_15 (a := ad_15) (argsL := []) (rest := [(.ref ad_15), (.ref a1)]) (rmAL l Z a0 hw ad_15 h_15 n0 (by omega) A_15 F_15_modCount (by omega) F_15_elementData vd rd F_17 S0) (g := (mkF m 34 #[.val (.ref a1)] [(.ref ad_15), (.ref ad_15), (.ref a1)])) rfl (by rw [hml]; rfl) (lenOf pd_0 rfl) rfl (hb hby d2_34) (W := 2) (by show 2 * 0 + _ ≤ _; exact Nat.le_of_eq rfl) (by decide) (by decide) (by decide) (by decide)
  obtain ⟨rfl, N_16, K_16⟩ := Q_16
  have N_16' := Fr.app N_14 N_16
  have z_16 := K_16.1
  refine Go.st (S' := T_16.setTop (mkF m 37 #[.val (.ref a1)] [(.ref ad_15), (.ref a1)])) st_16 ?_
  have F_18 := ((((((((Fsets.ext E_3).other W_6 (Or.inr (slot_ne (t := (.object "java/util/List")) (t' := (.array (.object "com/example/items_in_arrays/itemsinarrays/xpath/RegularExpressionProgram$Code"))) (Or.inr (hw _ (List.mem_of_getElem? (i := 85) rfl))) (Or.inl (hw _ (List.mem_of_getElem? (i := 54) rfl))) (by decide) (by decide) (by decide)))).ext E_7).other W_10 (Or.inr (slot_ne (t := (.object "java/util/List")) (t' := (.array .int)) (Or.inr (hw _ (List.mem_of_getElem? (i := 85) rfl))) (Or.inl (hw _ (List.mem_of_getElem? (i := 57) rfl))) (by decide) (by decide) (by decide)))).ext E_11).other W_14 (Or.inr (slot_ne (t := (.object "java/util/List")) (t' := (.array .int)) (Or.inr (hw _ (List.mem_of_getElem? (i := 85) rfl))) (Or.inl (hw _ (List.mem_of_getElem? (i := 59) rfl))) (by decide) (by decide) (by decide)))).ext E_15).keep K_16 (by simp only [List.mem_cons, List.not_mem_nil, or_false, not_or]; exact own_ne (by omega)))
  have F_19 := (((F_13.wr W_14).ext E_15).keep K_16)
  obtain ⟨T_20, h_20, X_20, e_20, W_20, st_20⟩ := putF X_16 hx hZ hown (host := "") (Or.inl (hw _ (List.mem_of_getElem? (i := 84) rfl))) Via.refl e_16 F_18 F_19 (Or.inr ⟨(hw _ (List.mem_of_getElem? (i := 85) rfl)), rfl, hnm⟩) (hw _ (List.mem_of_getElem? (i := 44) rfl)) (ty := (.object "java/util/List")) (by decide) rfl rfl (g := (mkF m 37 #[.val (.ref a1)] [(.ref ad_15), (.ref a1)])) rfl rfl (hb hby d2_37)
  have N_20 := Fr.snoc X_20 N_16' (by omega)
  have z_20 := W_20.size
  have F_20 := F_18.same W_20
  refine Go.st (S' := T_20.setTop (mkF m 40 #[.val (.ref a1)] [])) st_20 ?_
  refine Go.st (S' := T_20.setTop (mkF m 41 #[.val (.ref a1)] [(.ref a1)])) (fun t hr => XS.aloadN X_20.here hx rfl (hb hby d2_40) rfl rfl hr) ?_
  refine Go.st (S' := T_20.setTop (mkF m 42 #[.val (.ref a1)] [(.int (4 : Int32)), (.ref a1)])) (fun t hr => XS.iconst X_20.here hx rfl (hb hby d2_41) hr) ?_
  obtain ⟨T_21, h_21, X_21, e_21, E_21, A_21, st_21⟩ := own_newP X_20 hx hZ (ty := .int) rfl (hw _ (List.mem_of_getElem? (i := 55) rfl)) e_20 (g := (mkF m 42 #[.val (.ref a1)] [(.int (4 : Int32)), (.ref a1)])) rfl (hb hby d2_42) rfl (by decide) (cap := 4) (by decide) (by decide) (by decide) (by decide)
  obtain ⟨ad_21, g_21⟩ : ∃ z, z = h_20.size := ⟨_, rfl⟩
  rw [← g_21] at A_21 st_21
  have z_21 := E_21.1
  have y_21 := own_ltA A_21
  have B_21 : Ary Z h_21 ad_21 .int [(.int (0 : Int32)), (.int (0 : Int32)), (.int (0 : Int32)), (.int (0 : Int32))] := A_21
  refine Go.st (S' := T_21.setTop (mkF m 44 #[.val (.ref a1)] [(.ref ad_21), (.ref a1)])) st_21 ?_
  have F_22 := ((((((((((Fleast.ext E_3).other W_6 (Or.inr (slot_ne (t := (.array .int)) (t' := (.array (.object "com/example/items_in_arrays/itemsinarrays/xpath/RegularExpressionProgram$Code"))) (Or.inl (hw _ (List.mem_of_getElem? (i := 87) rfl))) (Or.inl (hw _ (List.mem_of_getElem? (i := 54) rfl))) (by decide) (by decide) (by decide)))).ext E_7).other W_10 (Or.inr (slot_ne (t := (.array .int)) (t' := (.array .int)) (Or.inl (hw _ (List.mem_of_getElem? (i := 87) rfl))) (Or.inl (hw _ (List.mem_of_getElem? (i := 57) rfl))) (by decide) (by decide) (by decide)))).ext E_11).other W_14 (Or.inr (slot_ne (t := (.array .int)) (t' := (.array .int)) (Or.inl (hw _ (List.mem_of_getElem? (i := 87) rfl))) (Or.inl (hw _ (List.mem_of_getElem? (i := 59) rfl))) (by decide) (by decide) (by decide)))).ext E_15).keep K_16 (by simp only [List.mem_cons, List.not_mem_nil, or_false, not_or]; exact own_ne (by omega))).other W_20 (Or.inr (slot_ne (t := (.array .int)) (t' := (.object "java/util/List")) (Or.inl (hw _ (List.mem_of_getElem? (i := 87) rfl))) (Or.inr (hw _ (List.mem_of_getElem? (i := 85) rfl))) (by decide) (by decide) (by decide)))).ext E_21)
  have F_23 := ((F_19.wr W_20).ext E_21)
  obtain ⟨T_24, h_24, X_24, e_24, W_24, st_24⟩ := putF X_21 hx hZ hown (host := "") (Or.inl (hw _ (List.mem_of_getElem? (i := 86) rfl))) Via.refl e_21 F_22 F_23 (Or.inl (hw _ (List.mem_of_getElem? (i := 87) rfl))) (hw _ (List.mem_of_getElem? (i := 44) rfl)) (ty := (.array .int)) (by decide) rfl rfl (g := (mkF m 44 #[.val (.ref a1)] [(.ref ad_21), (.ref a1)])) rfl rfl (hb hby d2_44)
  have N_24 := Fr.snoc X_24 N_20 (by omega)
  have z_24 := W_24.size
  have F_24 := F_22.same W_24
  refine Go.st (S' := T_24.setTop (mkF m 47 #[.val (.ref a1)] [])) st_24 ?_
  refine Go.st (S' := T_24.setTop (mkF m 48 #[.val (.ref a1)] [(.ref a1)])) (fun t hr => XS.aloadN X_24.here hx rfl (hb hby d2_47) rfl rfl hr) ?_
  refine Go.st (S' := T_24.setTop (mkF m 49 #[.val (.ref a1)] [(.int (4 : Int32)), (.ref a1)])) (fun t hr => XS.iconst X_24.here hx rfl (hb hby d2_48) hr) ?_
  obtain ⟨T_25, h_25, X_25, e_25, E_25, A_25, st_25⟩ := own_newP X_24 hx hZ (ty := .int) rfl (hw _ (List.mem_of_getElem? (i := 55) rfl)) e_24 (g := (mkF m 49 #[.val (.ref a1)] [(.int (4 : Int32)), (.ref a1)])) rfl (hb hby d2_49) rfl (by decide) (cap := 4) (by decide) (by decide) (by decide) (by decide)
  obtain ⟨ad_25, g_25⟩ : ∃ z, z = h_24.size := ⟨_, rfl⟩
  rw [← g_25] at A_25 st_25
  have z_25 := E_25.1
  have y_25 := own_ltA A_25
  have B_25 : Ary Z h_25 ad_25 .int [(.int (0 : Int32)), (.int (0 : Int32)), (.int (0 : Int32)), (.int (0 : Int32))] := A_25
  refine Go.st (S' := T_25.setTop (mkF m 51 #[.val (.ref a1)] [(.ref ad_25), (.ref a1)])) st_25 ?_
  have F_26 := ((((((((((((Fmost.ext E_3).other W_6 (Or.inr (slot_ne (t := (.array .int)) (t' := (.array (.object "com/example/items_in_arrays/itemsinarrays/xpath/RegularExpressionProgram$Code"))) (Or.inl (hw _ (List.mem_of_getElem? (i := 89) rfl))) (Or.inl (hw _ (List.mem_of_getElem? (i := 54) rfl))) (by decide) (by decide) (by decide)))).ext E_7).other W_10 (Or.inr (slot_ne (t := (.array .int)) (t' := (.array .int)) (Or.inl (hw _ (List.mem_of_getElem? (i := 89) rfl))) (Or.inl (hw _ (List.mem_of_getElem? (i := 57) rfl))) (by decide) (by decide) (by decide)))).ext E_11).other W_14 (Or.inr (slot_ne (t := (.array .int)) (t' := (.array .int)) (Or.inl (hw _ (List.mem_of_getElem? (i := 89) rfl))) (Or.inl (hw _ (List.mem_of_getElem? (i := 59) rfl))) (by decide) (by decide) (by decide)))).ext E_15).keep K_16 (by simp only [List.mem_cons, List.not_mem_nil, or_false, not_or]; exact own_ne (by omega))).other W_20 (Or.inr (slot_ne (t := (.array .int)) (t' := (.object "java/util/List")) (Or.inl (hw _ (List.mem_of_getElem? (i := 89) rfl))) (Or.inr (hw _ (List.mem_of_getElem? (i := 85) rfl))) (by decide) (by decide) (by decide)))).ext E_21).other W_24 (Or.inr (slot_ne (t := (.array .int)) (t' := (.array .int)) (Or.inl (hw _ (List.mem_of_getElem? (i := 89) rfl))) (Or.inl (hw _ (List.mem_of_getElem? (i := 87) rfl))) (by decide) (by decide) (by decide)))).ext E_25)
  have F_27 := ((F_23.wr W_24).ext E_25)
  obtain ⟨T_28, h_28, X_28, e_28, W_28, st_28⟩ := putF X_25 hx hZ hown (host := "") (Or.inl (hw _ (List.mem_of_getElem? (i := 88) rfl))) Via.refl e_25 F_26 F_27 (Or.inl (hw _ (List.mem_of_getElem? (i := 89) rfl))) (hw _ (List.mem_of_getElem? (i := 44) rfl)) (ty := (.array .int)) (by decide) rfl rfl (g := (mkF m 51 #[.val (.ref a1)] [(.ref ad_25), (.ref a1)])) rfl rfl (hb hby d2_51)
  have N_28 := Fr.snoc X_28 N_24 (by omega)
  have z_28 := W_28.size
  have F_28 := F_26.same W_28
  refine Go.st (S' := T_28.setTop (mkF m 54 #[.val (.ref a1)] [])) st_28 ?_
  refine Go.st (S' := T_28.setTop (mkF m 55 #[.val (.ref a1)] [(.ref a1)])) (fun t hr => XS.aloadN X_28.here hx rfl (hb hby d2_54) rfl rfl hr) ?_
  refine Go.st (S' := T_28.setTop (mkF m 56 #[.val (.ref a1)] [(.int (4 : Int32)), (.ref a1)])) (fun t hr => XS.iconst X_28.here hx rfl (hb hby d2_55) hr) ?_
  obtain ⟨T_29, h_29, X_29, e_29, E_29, A_29, st_29⟩ := own_newP X_28 hx hZ (ty := .boolean) rfl (hw _ (List.mem_of_getElem? (i := 90) rfl)) e_28 (g := (mkF m 56 #[.val (.ref a1)] [(.int (4 : Int32)), (.ref a1)])) rfl (hb hby d2_56) rfl (by decide) (cap := 4) (by decide) (by decide) (by decide) (by decide)
  obtain ⟨ad_29, g_29⟩ : ∃ z, z = h_28.size := ⟨_, rfl⟩
  rw [← g_29] at A_29 st_29
  have z_29 := E_29.1
  have y_29 := own_ltA A_29
  have B_29 : Ary Z h_29 ad_29 .boolean [(.int (0 : Int32)), (.int (0 : Int32)), (.int (0 : Int32)), (.int (0 : Int32))] := A_29
  refine Go.st (S' := T_29.setTop (mkF m 58 #[.val (.ref a1)] [(.ref ad_29), (.ref a1)])) st_29 ?_
  have F_30 := ((((((((((((((Fgreedy.ext E_3).other W_6 (Or.inr (slot_ne (t := (.array .boolean)) (t' := (.array (.object "com/example/items_in_arrays/itemsinarrays/xpath/RegularExpressionProgram$Code"))) (Or.inl (hw _ (List.mem_of_getElem? (i := 92) rfl))) (Or.inl (hw _ (List.mem_of_getElem? (i := 54) rfl))) (by decide) (by decide) (by decide)))).ext E_7).other W_10 (Or.inr (slot_ne (t := (.array .boolean)) (t' := (.array .int)) (Or.inl (hw _ (List.mem_of_getElem? (i := 92) rfl))) (Or.inl (hw _ (List.mem_of_getElem? (i := 57) rfl))) (by decide) (by decide) (by decide)))).ext E_11).other W_14 (Or.inr (slot_ne (t := (.array .boolean)) (t' := (.array .int)) (Or.inl (hw _ (List.mem_of_getElem? (i := 92) rfl))) (Or.inl (hw _ (List.mem_of_getElem? (i := 59) rfl))) (by decide) (by decide) (by decide)))).ext E_15).keep K_16 (by simp only [List.mem_cons, List.not_mem_nil, or_false, not_or]; exact own_ne (by omega))).other W_20 (Or.inr (slot_ne (t := (.array .boolean)) (t' := (.object "java/util/List")) (Or.inl (hw _ (List.mem_of_getElem? (i := 92) rfl))) (Or.inr (hw _ (List.mem_of_getElem? (i := 85) rfl))) (by decide) (by decide) (by decide)))).ext E_21).other W_24 (Or.inr (slot_ne (t := (.array .boolean)) (t' := (.array .int)) (Or.inl (hw _ (List.mem_of_getElem? (i := 92) rfl))) (Or.inl (hw _ (List.mem_of_getElem? (i := 87) rfl))) (by decide) (by decide) (by decide)))).ext E_25).other W_28 (Or.inr (slot_ne (t := (.array .boolean)) (t' := (.array .int)) (Or.inl (hw _ (List.mem_of_getElem? (i := 92) rfl))) (Or.inl (hw _ (List.mem_of_getElem? (i := 89) rfl))) (by decide) (by decide) (by decide)))).ext E_29)
  have F_31 := ((F_27.wr W_28).ext E_29)
  obtain ⟨T_32, h_32, X_32, e_32, W_32, st_32⟩ := putF X_29 hx hZ hown (host := "") (Or.inl (hw _ (List.mem_of_getElem? (i := 91) rfl))) Via.refl e_29 F_30 F_31 (Or.inl (hw _ (List.mem_of_getElem? (i := 92) rfl))) (hw _ (List.mem_of_getElem? (i := 44) rfl)) (ty := (.array .boolean)) (by decide) rfl rfl (g := (mkF m 58 #[.val (.ref a1)] [(.ref ad_29), (.ref a1)])) rfl rfl (hb hby d2_58)
  have N_32 := Fr.snoc X_32 N_28 (by omega)
  have z_32 := W_32.size
  have F_32 := F_30.same W_32
  refine Go.st (S' := T_32.setTop (mkF m 61 #[.val (.ref a1)] [])) st_32 ?_
  refine Go.st (S' := T_32.setTop (mkF m 62 #[.val (.ref a1)] [(.ref a1)])) (fun t hr => XS.aloadN X_32.here hx rfl (hb hby d2_61) rfl rfl hr) ?_
  refine Go.st (S' := T_32.setTop (mkF m 63 #[.val (.ref a1)] [(.int (4 : Int32)), (.ref a1)])) (fun t hr => XS.iconst X_32.here hx rfl (hb hby d2_62) hr) ?_
  obtain ⟨T_33, h_33, X_33, e_33, E_33, A_33, st_33⟩ := own_newP X_32 hx hZ (ty := .boolean) rfl (hw _ (List.mem_of_getElem? (i := 90) rfl)) e_32 (g := (mkF m 63 #[.val (.ref a1)] [(.int (4 : Int32)), (.ref a1)])) rfl (hb hby d2_63) rfl (by decide) (cap := 4) (by decide) (by decide) (by decide) (by decide)
  obtain ⟨ad_33, g_33⟩ : ∃ z, z = h_32.size := ⟨_, rfl⟩
  rw [← g_33] at A_33 st_33
  have z_33 := E_33.1
  have y_33 := own_ltA A_33
  have B_33 : Ary Z h_33 ad_33 .boolean [(.int (0 : Int32)), (.int (0 : Int32)), (.int (0 : Int32)), (.int (0 : Int32))] := A_33
  refine Go.st (S' := T_33.setTop (mkF m 65 #[.val (.ref a1)] [(.ref ad_33), (.ref a1)])) st_33 ?_
  have F_34 := ((((((((((((((((FchecksEmpty.ext E_3).other W_6 (Or.inr (slot_ne (t := (.array .boolean)) (t' := (.array (.object "com/example/items_in_arrays/itemsinarrays/xpath/RegularExpressionProgram$Code"))) (Or.inl (hw _ (List.mem_of_getElem? (i := 94) rfl))) (Or.inl (hw _ (List.mem_of_getElem? (i := 54) rfl))) (by decide) (by decide) (by decide)))).ext E_7).other W_10 (Or.inr (slot_ne (t := (.array .boolean)) (t' := (.array .int)) (Or.inl (hw _ (List.mem_of_getElem? (i := 94) rfl))) (Or.inl (hw _ (List.mem_of_getElem? (i := 57) rfl))) (by decide) (by decide) (by decide)))).ext E_11).other W_14 (Or.inr (slot_ne (t := (.array .boolean)) (t' := (.array .int)) (Or.inl (hw _ (List.mem_of_getElem? (i := 94) rfl))) (Or.inl (hw _ (List.mem_of_getElem? (i := 59) rfl))) (by decide) (by decide) (by decide)))).ext E_15).keep K_16 (by simp only [List.mem_cons, List.not_mem_nil, or_false, not_or]; exact own_ne (by omega))).other W_20 (Or.inr (slot_ne (t := (.array .boolean)) (t' := (.object "java/util/List")) (Or.inl (hw _ (List.mem_of_getElem? (i := 94) rfl))) (Or.inr (hw _ (List.mem_of_getElem? (i := 85) rfl))) (by decide) (by decide) (by decide)))).ext E_21).other W_24 (Or.inr (slot_ne (t := (.array .boolean)) (t' := (.array .int)) (Or.inl (hw _ (List.mem_of_getElem? (i := 94) rfl))) (Or.inl (hw _ (List.mem_of_getElem? (i := 87) rfl))) (by decide) (by decide) (by decide)))).ext E_25).other W_28 (Or.inr (slot_ne (t := (.array .boolean)) (t' := (.array .int)) (Or.inl (hw _ (List.mem_of_getElem? (i := 94) rfl))) (Or.inl (hw _ (List.mem_of_getElem? (i := 89) rfl))) (by decide) (by decide) (by decide)))).ext E_29).other W_32 (Or.inr (slot_ne (t := (.array .boolean)) (t' := (.array .boolean)) (Or.inl (hw _ (List.mem_of_getElem? (i := 94) rfl))) (Or.inl (hw _ (List.mem_of_getElem? (i := 92) rfl))) (by decide) (by decide) (by decide)))).ext E_33)
  have F_35 := ((F_31.wr W_32).ext E_33)
  obtain ⟨T_36, h_36, X_36, e_36, W_36, st_36⟩ := putF X_33 hx hZ hown (host := "") (Or.inl (hw _ (List.mem_of_getElem? (i := 93) rfl))) Via.refl e_33 F_34 F_35 (Or.inl (hw _ (List.mem_of_getElem? (i := 94) rfl))) (hw _ (List.mem_of_getElem? (i := 44) rfl)) (ty := (.array .boolean)) (by decide) rfl rfl (g := (mkF m 65 #[.val (.ref a1)] [(.ref ad_33), (.ref a1)])) rfl rfl (hb hby d2_65)
  have N_36 := Fr.snoc X_36 N_32 (by omega)
  have z_36 := W_36.size
  have F_36 := F_34.same W_36
  refine Go.st (S' := T_36.setTop (mkF m 68 #[.val (.ref a1)] [])) st_36 ?_
  refine Go.st (S' := T_36.setTop (mkF m 69 #[.val (.ref a1)] [(.ref a1)])) (fun t hr => XS.aloadN X_36.here hx rfl (hb hby d2_68) rfl rfl hr) ?_
  refine Go.st (S' := T_36.setTop (mkF m 70 #[.val (.ref a1)] [(.int (-1 : Int32)), (.ref a1)])) (fun t hr => XS.iconst X_36.here hx rfl (hb hby d2_69) hr) ?_
  have F_37 := (((((((((((((((((Frequired.ext E_3).other W_6 (Or.inr (slot_ne (t := .int) (t' := (.array (.object "com/example/items_in_arrays/itemsinarrays/xpath/RegularExpressionProgram$Code"))) (Or.inl (hw _ (List.mem_of_getElem? (i := 96) rfl))) (Or.inl (hw _ (List.mem_of_getElem? (i := 54) rfl))) (by decide) (by decide) (by decide)))).ext E_7).other W_10 (Or.inr (slot_ne (t := .int) (t' := (.array .int)) (Or.inl (hw _ (List.mem_of_getElem? (i := 96) rfl))) (Or.inl (hw _ (List.mem_of_getElem? (i := 57) rfl))) (by decide) (by decide) (by decide)))).ext E_11).other W_14 (Or.inr (slot_ne (t := .int) (t' := (.array .int)) (Or.inl (hw _ (List.mem_of_getElem? (i := 96) rfl))) (Or.inl (hw _ (List.mem_of_getElem? (i := 59) rfl))) (by decide) (by decide) (by decide)))).ext E_15).keep K_16 (by simp only [List.mem_cons, List.not_mem_nil, or_false, not_or]; exact own_ne (by omega))).other W_20 (Or.inr (slot_ne (t := .int) (t' := (.object "java/util/List")) (Or.inl (hw _ (List.mem_of_getElem? (i := 96) rfl))) (Or.inr (hw _ (List.mem_of_getElem? (i := 85) rfl))) (by decide) (by decide) (by decide)))).ext E_21).other W_24 (Or.inr (slot_ne (t := .int) (t' := (.array .int)) (Or.inl (hw _ (List.mem_of_getElem? (i := 96) rfl))) (Or.inl (hw _ (List.mem_of_getElem? (i := 87) rfl))) (by decide) (by decide) (by decide)))).ext E_25).other W_28 (Or.inr (slot_ne (t := .int) (t' := (.array .int)) (Or.inl (hw _ (List.mem_of_getElem? (i := 96) rfl))) (Or.inl (hw _ (List.mem_of_getElem? (i := 89) rfl))) (by decide) (by decide) (by decide)))).ext E_29).other W_32 (Or.inr (slot_ne (t := .int) (t' := (.array .boolean)) (Or.inl (hw _ (List.mem_of_getElem? (i := 96) rfl))) (Or.inl (hw _ (List.mem_of_getElem? (i := 92) rfl))) (by decide) (by decide) (by decide)))).ext E_33).other W_36 (Or.inr (slot_ne (t := .int) (t' := (.array .boolean)) (Or.inl (hw _ (List.mem_of_getElem? (i := 96) rfl))) (Or.inl (hw _ (List.mem_of_getElem? (i := 94) rfl))) (by decide) (by decide) (by decide))))
  have F_38 := (F_35.wr W_36)
  obtain ⟨T_39, h_39, X_39, e_39, W_39, st_39⟩ := putF X_36 hx hZ hown (host := "") (Or.inl (hw _ (List.mem_of_getElem? (i := 95) rfl))) Via.refl e_36 F_37 F_38 (Or.inl (hw _ (List.mem_of_getElem? (i := 96) rfl))) (hw _ (List.mem_of_getElem? (i := 44) rfl)) (ty := .int) (by decide) rfl rfl (g := (mkF m 70 #[.val (.ref a1)] [(.int (-1 : Int32)), (.ref a1)])) rfl rfl (hb hby d2_70)
  have N_39 := Fr.snoc X_39 N_36 (by omega)
  have z_39 := W_39.size
  have F_39 := F_37.same W_39
  refine Go.st (S' := T_39.setTop (mkF m 73 #[.val (.ref a1)] [])) st_39 ?_
  refine Go.retV X_39 hx hlk hret (hb hby d2_73) (by decide) (by decide) ?_
  try rw [e_39]
  have F_40 := (((((((((((((((((O_3.wr W_6).ext E_7).wr W_10).ext E_11).wr W_14).ext E_15).keep K_16).wr W_20).ext E_21).wr W_24).ext E_25).wr W_28).ext E_29).wr W_32).ext E_33).wr W_36).wr W_39)
  have F_41 := ((((((((((((((((F_6.ext E_7).other W_10 (Or.inr (slot_ne (t := (.array (.object "com/example/items_in_arrays/itemsinarrays/xpath/RegularExpressionProgram$Code"))) (t' := (.array .int)) (Or.inl (hw _ (List.mem_of_getElem? (i := 54) rfl))) (Or.inl (hw _ (List.mem_of_getElem? (i := 57) rfl))) (by decide) (by decide) (by decide)))).ext E_11).other W_14 (Or.inr (slot_ne (t := (.array (.object "com/example/items_in_arrays/itemsinarrays/xpath/RegularExpressionProgram$Code"))) (t' := (.array .int)) (Or.inl (hw _ (List.mem_of_getElem? (i := 54) rfl))) (Or.inl (hw _ (List.mem_of_getElem? (i := 59) rfl))) (by decide) (by decide) (by decide)))).ext E_15).keep K_16 (by simp only [List.mem_cons, List.not_mem_nil, or_false, not_or]; exact own_ne (by omega))).other W_20 (Or.inr (slot_ne (t := (.array (.object "com/example/items_in_arrays/itemsinarrays/xpath/RegularExpressionProgram$Code"))) (t' := (.object "java/util/List")) (Or.inl (hw _ (List.mem_of_getElem? (i := 54) rfl))) (Or.inr (hw _ (List.mem_of_getElem? (i := 85) rfl))) (by decide) (by decide) (by decide)))).ext E_21).other W_24 (Or.inr (slot_ne (t := (.array (.object "com/example/items_in_arrays/itemsinarrays/xpath/RegularExpressionProgram$Code"))) (t' := (.array .int)) (Or.inl (hw _ (List.mem_of_getElem? (i := 54) rfl))) (Or.inl (hw _ (List.mem_of_getElem? (i := 87) rfl))) (by decide) (by decide) (by decide)))).ext E_25).other W_28 (Or.inr (slot_ne (t := (.array (.object "com/example/items_in_arrays/itemsinarrays/xpath/RegularExpressionProgram$Code"))) (t' := (.array .int)) (Or.inl (hw _ (List.mem_of_getElem? (i := 54) rfl))) (Or.inl (hw _ (List.mem_of_getElem? (i := 89) rfl))) (by decide) (by decide) (by decide)))).ext E_29).other W_32 (Or.inr (slot_ne (t := (.array (.object "com/example/items_in_arrays/itemsinarrays/xpath/RegularExpressionProgram$Code"))) (t' := (.array .boolean)) (Or.inl (hw _ (List.mem_of_getElem? (i := 54) rfl))) (Or.inl (hw _ (List.mem_of_getElem? (i := 92) rfl))) (by decide) (by decide) (by decide)))).ext E_33).other W_36 (Or.inr (slot_ne (t := (.array (.object "com/example/items_in_arrays/itemsinarrays/xpath/RegularExpressionProgram$Code"))) (t' := (.array .boolean)) (Or.inl (hw _ (List.mem_of_getElem? (i := 54) rfl))) (Or.inl (hw _ (List.mem_of_getElem? (i := 94) rfl))) (by decide) (by decide) (by decide)))).other W_39 (Or.inr (slot_ne (t := (.array (.object "com/example/items_in_arrays/itemsinarrays/xpath/RegularExpressionProgram$Code"))) (t' := .int) (Or.inl (hw _ (List.mem_of_getElem? (i := 54) rfl))) (Or.inl (hw _ (List.mem_of_getElem? (i := 96) rfl))) (by decide) (by decide) (by decide))))
  have F_42 := ((((((((((((((F_10.ext E_11).other W_14 (Or.inr (slot_ne (t := (.array .int)) (t' := (.array .int)) (Or.inl (hw _ (List.mem_of_getElem? (i := 57) rfl))) (Or.inl (hw _ (List.mem_of_getElem? (i := 59) rfl))) (by decide) (by decide) (by decide)))).ext E_15).keep K_16 (by simp only [List.mem_cons, List.not_mem_nil, or_false, not_or]; exact own_ne (by omega))).other W_20 (Or.inr (slot_ne (t := (.array .int)) (t' := (.object "java/util/List")) (Or.inl (hw _ (List.mem_of_getElem? (i := 57) rfl))) (Or.inr (hw _ (List.mem_of_getElem? (i := 85) rfl))) (by decide) (by decide) (by decide)))).ext E_21).other W_24 (Or.inr (slot_ne (t := (.array .int)) (t' := (.array .int)) (Or.inl (hw _ (List.mem_of_getElem? (i := 57) rfl))) (Or.inl (hw _ (List.mem_of_getElem? (i := 87) rfl))) (by decide) (by decide) (by decide)))).ext E_25).other W_28 (Or.inr (slot_ne (t := (.array .int)) (t' := (.array .int)) (Or.inl (hw _ (List.mem_of_getElem? (i := 57) rfl))) (Or.inl (hw _ (List.mem_of_getElem? (i := 89) rfl))) (by decide) (by decide) (by decide)))).ext E_29).other W_32 (Or.inr (slot_ne (t := (.array .int)) (t' := (.array .boolean)) (Or.inl (hw _ (List.mem_of_getElem? (i := 57) rfl))) (Or.inl (hw _ (List.mem_of_getElem? (i := 92) rfl))) (by decide) (by decide) (by decide)))).ext E_33).other W_36 (Or.inr (slot_ne (t := (.array .int)) (t' := (.array .boolean)) (Or.inl (hw _ (List.mem_of_getElem? (i := 57) rfl))) (Or.inl (hw _ (List.mem_of_getElem? (i := 94) rfl))) (by decide) (by decide) (by decide)))).other W_39 (Or.inr (slot_ne (t := (.array .int)) (t' := .int) (Or.inl (hw _ (List.mem_of_getElem? (i := 57) rfl))) (Or.inl (hw _ (List.mem_of_getElem? (i := 96) rfl))) (by decide) (by decide) (by decide))))
  have F_43 := ((((((((((((F_14.ext E_15).keep K_16 (by simp only [List.mem_cons, List.not_mem_nil, or_false, not_or]; exact own_ne (by omega))).other W_20 (Or.inr (slot_ne (t := (.array .int)) (t' := (.object "java/util/List")) (Or.inl (hw _ (List.mem_of_getElem? (i := 59) rfl))) (Or.inr (hw _ (List.mem_of_getElem? (i := 85) rfl))) (by decide) (by decide) (by decide)))).ext E_21).other W_24 (Or.inr (slot_ne (t := (.array .int)) (t' := (.array .int)) (Or.inl (hw _ (List.mem_of_getElem? (i := 59) rfl))) (Or.inl (hw _ (List.mem_of_getElem? (i := 87) rfl))) (by decide) (by decide) (by decide)))).ext E_25).other W_28 (Or.inr (slot_ne (t := (.array .int)) (t' := (.array .int)) (Or.inl (hw _ (List.mem_of_getElem? (i := 59) rfl))) (Or.inl (hw _ (List.mem_of_getElem? (i := 89) rfl))) (by decide) (by decide) (by decide)))).ext E_29).other W_32 (Or.inr (slot_ne (t := (.array .int)) (t' := (.array .boolean)) (Or.inl (hw _ (List.mem_of_getElem? (i := 59) rfl))) (Or.inl (hw _ (List.mem_of_getElem? (i := 92) rfl))) (by decide) (by decide) (by decide)))).ext E_33).other W_36 (Or.inr (slot_ne (t := (.array .int)) (t' := (.array .boolean)) (Or.inl (hw _ (List.mem_of_getElem? (i := 59) rfl))) (Or.inl (hw _ (List.mem_of_getElem? (i := 94) rfl))) (by decide) (by decide) (by decide)))).other W_39 (Or.inr (slot_ne (t := (.array .int)) (t' := .int) (Or.inl (hw _ (List.mem_of_getElem? (i := 59) rfl))) (Or.inl (hw _ (List.mem_of_getElem? (i := 96) rfl))) (by decide) (by decide) (by decide))))
  have F_44 := ((((((((((((((((((Fsize.ext E_3).other W_6 (Or.inr (slot_ne (t := .int) (t' := (.array (.object "com/example/items_in_arrays/itemsinarrays/xpath/RegularExpressionProgram$Code"))) (Or.inl (hw _ (List.mem_of_getElem? (i := 103) rfl))) (Or.inl (hw _ (List.mem_of_getElem? (i := 54) rfl))) (by decide) (by decide) (by decide)))).ext E_7).other W_10 (Or.inr (slot_ne (t := .int) (t' := (.array .int)) (Or.inl (hw _ (List.mem_of_getElem? (i := 103) rfl))) (Or.inl (hw _ (List.mem_of_getElem? (i := 57) rfl))) (by decide) (by decide) (by decide)))).ext E_11).other W_14 (Or.inr (slot_ne (t := .int) (t' := (.array .int)) (Or.inl (hw _ (List.mem_of_getElem? (i := 103) rfl))) (Or.inl (hw _ (List.mem_of_getElem? (i := 59) rfl))) (by decide) (by decide) (by decide)))).ext E_15).keep K_16 (by simp only [List.mem_cons, List.not_mem_nil, or_false, not_or]; exact own_ne (by omega))).other W_20 (Or.inr (slot_ne (t := .int) (t' := (.object "java/util/List")) (Or.inl (hw _ (List.mem_of_getElem? (i := 103) rfl))) (Or.inr (hw _ (List.mem_of_getElem? (i := 85) rfl))) (by decide) (by decide) (by decide)))).ext E_21).other W_24 (Or.inr (slot_ne (t := .int) (t' := (.array .int)) (Or.inl (hw _ (List.mem_of_getElem? (i := 103) rfl))) (Or.inl (hw _ (List.mem_of_getElem? (i := 87) rfl))) (by decide) (by decide) (by decide)))).ext E_25).other W_28 (Or.inr (slot_ne (t := .int) (t' := (.array .int)) (Or.inl (hw _ (List.mem_of_getElem? (i := 103) rfl))) (Or.inl (hw _ (List.mem_of_getElem? (i := 89) rfl))) (by decide) (by decide) (by decide)))).ext E_29).other W_32 (Or.inr (slot_ne (t := .int) (t' := (.array .boolean)) (Or.inl (hw _ (List.mem_of_getElem? (i := 103) rfl))) (Or.inl (hw _ (List.mem_of_getElem? (i := 92) rfl))) (by decide) (by decide) (by decide)))).ext E_33).other W_36 (Or.inr (slot_ne (t := .int) (t' := (.array .boolean)) (Or.inl (hw _ (List.mem_of_getElem? (i := 103) rfl))) (Or.inl (hw _ (List.mem_of_getElem? (i := 94) rfl))) (by decide) (by decide) (by decide)))).other W_39 (Or.inr (slot_ne (t := .int) (t' := .int) (Or.inl (hw _ (List.mem_of_getElem? (i := 103) rfl))) (Or.inl (hw _ (List.mem_of_getElem? (i := 96) rfl))) (by decide) (by decide) (by decide))))
  have F_45 := (((((((((((((((((B_3.other W_6 (own_ne (by omega))).ext E_7).other W_10 (own_ne (by omega))).ext E_11).other W_14 (own_ne (by omega))).ext E_15).keep K_16 (by simp only [List.mem_cons, List.not_mem_nil, or_false, not_or]; exact own_ne (by omega))).other W_20 (own_ne (by omega))).ext E_21).other W_24 (own_ne (by omega))).ext E_25).other W_28 (own_ne (by omega))).ext E_29).other W_32 (own_ne (by omega))).ext E_33).other W_36 (own_ne (by omega))).other W_39 (own_ne (by omega)))
  have F_46 := (((((((((((((((B_7.other W_10 (own_ne (by omega))).ext E_11).other W_14 (own_ne (by omega))).ext E_15).keep K_16 (by simp only [List.mem_cons, List.not_mem_nil, or_false, not_or]; exact own_ne (by omega))).other W_20 (own_ne (by omega))).ext E_21).other W_24 (own_ne (by omega))).ext E_25).other W_28 (own_ne (by omega))).ext E_29).other W_32 (own_ne (by omega))).ext E_33).other W_36 (own_ne (by omega))).other W_39 (own_ne (by omega)))
  have F_47 := (((((((((((((B_11.other W_14 (own_ne (by omega))).ext E_15).keep K_16 (by simp only [List.mem_cons, List.not_mem_nil, or_false, not_or]; exact own_ne (by omega))).other W_20 (own_ne (by omega))).ext E_21).other W_24 (own_ne (by omega))).ext E_25).other W_28 (own_ne (by omega))).ext E_29).other W_32 (own_ne (by omega))).ext E_33).other W_36 (own_ne (by omega))).other W_39 (own_ne (by omega)))
  exact ⟨rfl, N_39, (((((((((((((((((((Keep.refl h0 [a1]).ext E_3).wr W_6 (Or.inl (by simp))).ext E_7).wr W_10 (Or.inl (by simp))).ext E_11).wr W_14 (Or.inl (by simp))).ext E_15).trans K_16 (by intro x hxx; simp only [List.mem_cons, List.not_mem_nil, or_false] at hxx; rcases hxx with rfl; · exact Or.inr (by omega))).wr W_20 (Or.inl (by simp))).ext E_21).wr W_24 (Or.inl (by simp))).ext E_25).wr W_28 (Or.inl (by simp))).ext E_29).wr W_32 (Or.inl (by simp))).ext E_33).wr W_36 (Or.inl (by simp))).wr W_39 (Or.inl (by simp))), ad_3, ad_7, ad_11, by omega, by omega, by omega, F_40, F_41, F_42, F_43, F_44, F_45, F_46, F_47⟩
theorem ef_rmAdd0 (m : MethodId) (a1 : Nat) (cd : Nat) (p3 : Int32) (p4 : Int32) : entryFrame m #[(.ref a1), (.ref cd), (.int p3), (.int p4)] 4 = mkF m 0 #[.val (.ref a1), .val (.ref cd), .val (.int p3), .val (.int p4)] [] := by first | (simp [entryFrame, mkF, argsToLocals, Value.category]; done) | rfl
theorem pf_5 : plainFor (⟨"com/example/items_in_arrays/itemsinarrays/xpath/RegularExpressionProgram$Builder", "add", "(Lcom/example/items_in_arrays/itemsinarrays/xpath/RegularExpressionProgram$Code;II)I"⟩ : MethodName) = true := plainFor_of_name (by first | (simp [plainName, overriddenIn]; done) | decide +kernel)
theorem d3_0 : decode prog_64_method_2_code 0 = .ok (.aload_n 0, 1) := by decide +kernel
theorem d3_1 : decode prog_64_method_2_code 1 = .ok (.getfield 46, 3) := by decide +kernel
theorem d3_4 : decode prog_64_method_2_code 4 = .ok (.aload_n 0, 1) := by decide +kernel
theorem d3_5 : decode prog_64_method_2_code 5 = .ok (.getfield 9, 3) := by decide +kernel
theorem d3_8 : decode prog_64_method_2_code 8 = .ok (.arraylength, 1) := by decide +kernel
theorem d3_9 : decode prog_64_method_2_code 9 = .ok (.if_icmp .ne 57, 3) := by decide +kernel
theorem d3_66 : decode prog_64_method_2_code 66 = .ok (.aload_n 0, 1) := by decide +kernel
theorem d3_67 : decode prog_64_method_2_code 67 = .ok (.getfield 9, 3) := by decide +kernel
theorem d3_70 : decode prog_64_method_2_code 70 = .ok (.aload_n 0, 1) := by decide +kernel
theorem d3_71 : decode prog_64_method_2_code 71 = .ok (.getfield 46, 3) := by decide +kernel
theorem d3_74 : decode prog_64_method_2_code 74 = .ok (.aload_n 1, 1) := by decide +kernel
theorem d3_75 : decode prog_64_method_2_code 75 = .ok (.aastore, 1) := by decide +kernel
theorem d3_76 : decode prog_64_method_2_code 76 = .ok (.aload_n 0, 1) := by decide +kernel
theorem d3_77 : decode prog_64_method_2_code 77 = .ok (.getfield 15, 3) := by decide +kernel
theorem d3_80 : decode prog_64_method_2_code 80 = .ok (.aload_n 0, 1) := by decide +kernel
theorem d3_81 : decode prog_64_method_2_code 81 = .ok (.getfield 46, 3) := by decide +kernel
theorem d3_84 : decode prog_64_method_2_code 84 = .ok (.iload_n 2, 1) := by decide +kernel
theorem d3_85 : decode prog_64_method_2_code 85 = .ok (.iastore, 1) := by decide +kernel
theorem d3_86 : decode prog_64_method_2_code 86 = .ok (.aload_n 0, 1) := by decide +kernel
theorem d3_87 : decode prog_64_method_2_code 87 = .ok (.getfield 19, 3) := by decide +kernel
theorem d3_90 : decode prog_64_method_2_code 90 = .ok (.aload_n 0, 1) := by decide +kernel
theorem d3_91 : decode prog_64_method_2_code 91 = .ok (.getfield 46, 3) := by decide +kernel
theorem d3_94 : decode prog_64_method_2_code 94 = .ok (.iload_n 3, 1) := by decide +kernel
theorem d3_95 : decode prog_64_method_2_code 95 = .ok (.iastore, 1) := by decide +kernel
theorem d3_96 : decode prog_64_method_2_code 96 = .ok (.aload_n 0, 1) := by decide +kernel
theorem d3_97 : decode prog_64_method_2_code 97 = .ok (.dup, 1) := by decide +kernel
theorem d3_98 : decode prog_64_method_2_code 98 = .ok (.getfield 46, 3) := by decide +kernel
theorem d3_101 : decode prog_64_method_2_code 101 = .ok (.dup_x1, 1) := by decide +kernel
theorem d3_102 : decode prog_64_method_2_code 102 = .ok (.iconst 1, 1) := by decide +kernel
theorem d3_103 : decode prog_64_method_2_code 103 = .ok (.iadd, 1) := by decide +kernel
theorem d3_104 : decode prog_64_method_2_code 104 = .ok (.putfield 46, 3) := by decide +kernel
theorem d3_107 : decode prog_64_method_2_code 107 = .ok (.ireturn, 1) := by decide +kernel
set_option maxRecDepth 65536 in
set_option maxHeartbeats 1000000 in
theorem rmAdd0 (l : Launch) (Z : State) (a0 : Array Value) (hw : ∀ d ∈ tables_1, d.before a0 Z = true) (a1 : Nat) (cd : Nat) (p3 : Int32) (p4 : Int32) (h0 : Heap) (n0 : Nat) (Z0 : n0 ≤ h0.size) (ca oa ta : Nat) (cs os ts : List Value) (E1 : Exa Z h0 a1 "com/example/items_in_arrays/itemsinarrays/xpath/RegularExpressionProgram$Builder") (g1 : n0 ≤ a1) (hac : a1 < ca) (hco : ca < oa) (hot : oa < ta) (O0 : Old Z n0 h0) (Ec : Exa Z Z.heap cd "com/example/items_in_arrays/itemsinarrays/xpath/RegularExpressionProgram$Code") (Oc : Ovy Z h0 ca "com/example/items_in_arrays/itemsinarrays/xpath/RegularExpressionProgram$Code") (Fc : Fld Z h0 a1 "com/example/items_in_arrays/itemsinarrays/xpath/RegularExpressionProgram$Builder" "codes" "[Lcom/example/items_in_arrays/itemsinarrays/xpath/RegularExpressionProgram$Code;" (.ref ca)) (Fo : Fld Z h0 a1 "com/example/items_in_arrays/itemsinarrays/xpath/RegularExpressionProgram$Builder" "operands" "[I" (.ref oa)) (Ft : Fld Z h0 a1 "com/example/items_in_arrays/itemsinarrays/xpath/RegularExpressionProgram$Builder" "targets" "[I" (.ref ta)) (Ac : Ary Z h0 ca (.object "com/example/items_in_arrays/itemsinarrays/xpath/RegularExpressionProgram$Code") cs) (Ao : Ary Z h0 oa .int os) (At : Ary Z h0 ta .int ts) (lc : cs.length = 16) (lo : os.length = 16) (lt : ts.length = 16) (Fs : Fld Z h0 a1 "com/example/items_in_arrays/itemsinarrays/xpath/RegularExpressionProgram$Builder" "size" "I" (.int 0)) :
    Con l Z (⟨"com/example/items_in_arrays/itemsinarrays/xpath/RegularExpressionProgram$Builder", "add", "(Lcom/example/items_in_arrays/itemsinarrays/xpath/RegularExpressionProgram$Code;II)I"⟩ : MethodName) prog_64_method_2_code 4 (some .int) ({ frames := 0, cells := 0, slots := 0, locals := 0 } : Room) #[(.ref a1), (.ref cd), (.int p3), (.int p4)] h0 (fun v h L => v = some (.int 0) ∧ Fr n0 L ∧ Keep h0 h [a1, ca, oa, ta] ∧ Fld Z h a1 "com/example/items_in_arrays/itemsinarrays/xpath/RegularExpressionProgram$Builder" "codes" "[Lcom/example/items_in_arrays/itemsinarrays/xpath/RegularExpressionProgram$Code;" (.ref ca) ∧ Fld Z h a1 "com/example/items_in_arrays/itemsinarrays/xpath/RegularExpressionProgram$Builder" "operands" "[I" (.ref oa) ∧ Fld Z h a1 "com/example/items_in_arrays/itemsinarrays/xpath/RegularExpressionProgram$Builder" "targets" "[I" (.ref ta) ∧ Fld Z h a1 "com/example/items_in_arrays/itemsinarrays/xpath/RegularExpressionProgram$Builder" "size" "I" (.int 1) ∧ Ary Z h ca (.object "com/example/items_in_arrays/itemsinarrays/xpath/RegularExpressionProgram$Code") (cs.set 0 (.ref cd)) ∧ Ary Z h oa .int (os.set 0 (.int p3)) ∧ Ary Z h ta .int (ts.set 0 (.int p4))) := by
  refine Con.of pf_5 ?_
  intro p e s m below meth c T0 X0 hx hby hml hZ hown hnm hret hlk e0
  have hown : s.vm.findClass "com/example/items_in_arrays/itemsinarrays/xpath/RegularExpressionProgram$Builder" = some m.cls := hown
  have hnm : meth.name = "add" := hnm
  have N0 := Fr.nil n0
  refine Go.cast (ef_rmAdd0 m a1 cd p3 p4) ?_
  have lt_1 := own_ltE E1
  have lt_2 := own_ltA Ac
  have lt_3 := own_ltA Ao
  have lt_4 := own_ltA At
  refine Go.st (S' := T0.setTop (mkF m 1 #[.val (.ref a1), .val (.ref cd), .val (.int p3), .val (.int p4)] [(.ref a1)])) (fun t hr => XS.aloadN X0.here hx rfl (hb hby d3_0) rfl rfl hr) ?_
  obtain ⟨T_5, X_5, e_5, st_5⟩ := getF X0 hx hZ hown (host := "") (Or.inl (hw _ (List.mem_of_getElem? (i := 102) rfl))) Via.refl e0 Fs (g := (mkF m 1 #[.val (.ref a1), .val (.ref cd), .val (.int p3), .val (.int p4)] [(.ref a1)])) rfl rfl (hb hby d3_1)
  refine Go.st (S' := T_5.setTop (mkF m 4 #[.val (.ref a1), .val (.ref cd), .val (.int p3), .val (.int p4)] [(.int (0 : Int32))])) st_5 ?_
  refine Go.st (S' := T_5.setTop (mkF m 5 #[.val (.ref a1), .val (.ref cd), .val (.int p3), .val (.int p4)] [(.ref a1), (.int (0 : Int32))])) (fun t hr => XS.aloadN X_5.here hx rfl (hb hby d3_4) rfl rfl hr) ?_
  obtain ⟨T_6, X_6, e_6, st_6⟩ := getF X_5 hx hZ hown (host := "") (Or.inl (hw _ (List.mem_of_getElem? (i := 53) rfl))) Via.refl e_5 Fc (g := (mkF m 5 #[.val (.ref a1), .val (.ref cd), .val (.int p3), .val (.int p4)] [(.ref a1), (.int (0 : Int32))])) rfl rfl (hb hby d3_5)
  refine Go.st (S' := T_6.setTop (mkF m 8 #[.val (.ref a1), .val (.ref cd), .val (.int p3), .val (.int p4)] [(.ref ca), (.int (0 : Int32))])) st_6 ?_
  refine Go.st (S' := T_6.setTop (mkF m 9 #[.val (.ref a1), .val (.ref cd), .val (.int p3), .val (.int p4)] [(.int (cs).length.toInt32), (.int (0 : Int32))])) (own_len X_6 hx hZ e_6 Ac (g := (mkF m 8 #[.val (.ref a1), .val (.ref cd), .val (.int p3), .val (.int p4)] [(.ref ca), (.int (0 : Int32))])) rfl rfl (hb hby d3_8)) ?_
  refine Go.cast (g' := (mkF m 9 #[.val (.ref a1), .val (.ref cd), .val (.int p3), .val (.int p4)] [(.int (16 : Int32)), (.int (0 : Int32))])) (by rw [show (cs).length.toInt32 = (16 : Int32) from (by rw [lc]; rfl)]) ?_
  refine Go.st (S' := T_6.setTop (mkF m 66 #[.val (.ref a1), .val (.ref cd), .val (.int p3), .val (.int p4)] [])) (fun t hr => XS.icmpYes X_6.here hx rfl (pc0 := 9) (pc' := 66) rfl (hb hby d3_9) rfl (XT.ii_ne_t (by decide)) (by decide) (by decide) hr) ?_
  refine Go.st (S' := T_6.setTop (mkF m 67 #[.val (.ref a1), .val (.ref cd), .val (.int p3), .val (.int p4)] [(.ref a1)])) (fun t hr => XS.aloadN X_6.here hx rfl (hb hby d3_66) rfl rfl hr) ?_
  obtain ⟨T_7, X_7, e_7, st_7⟩ := getF X_6 hx hZ hown (host := "") (Or.inl (hw _ (List.mem_of_getElem? (i := 53) rfl))) Via.refl e_6 Fc (g := (mkF m 67 #[.val (.ref a1), .val (.ref cd), .val (.int p3), .val (.int p4)] [(.ref a1)])) rfl rfl (hb hby d3_67)
  refine Go.st (S' := T_7.setTop (mkF m 70 #[.val (.ref a1), .val (.ref cd), .val (.int p3), .val (.int p4)] [(.ref ca)])) st_7 ?_
  refine Go.st (S' := T_7.setTop (mkF m 71 #[.val (.ref a1), .val (.ref cd), .val (.int p3), .val (.int p4)] [(.ref a1), (.ref ca)])) (fun t hr => XS.aloadN X_7.here hx rfl (hb hby d3_70) rfl rfl hr) ?_
  obtain ⟨T_8, X_8, e_8, st_8⟩ := getF X_7 hx hZ hown (host := "") (Or.inl (hw _ (List.mem_of_getElem? (i := 102) rfl))) Via.refl e_7 Fs (g := (mkF m 71 #[.val (.ref a1), .val (.ref cd), .val (.int p3), .val (.int p4)] [(.ref a1), (.ref ca)])) rfl rfl (hb hby d3_71)
  refine Go.st (S' := T_8.setTop (mkF m 74 #[.val (.ref a1), .val (.ref cd), .val (.int p3), .val (.int p4)] [(.int (0 : Int32)), (.ref ca)])) st_8 ?_
  refine Go.st (S' := T_8.setTop (mkF m 75 #[.val (.ref a1), .val (.ref cd), .val (.int p3), .val (.int p4)] [(.ref cd), (.int (0 : Int32)), (.ref ca)])) (fun t hr => XS.aloadN X_8.here hx rfl (hb hby d3_74) rfl rfl hr) ?_
  obtain ⟨T_9, h_9, X_9, e_9, W_9, A_9, st_9⟩ := own_stR X_8 hx hZ e_8 Ac rfl (own_sto Ac Oc (Ins.self (Ec.ext O0.2))) (j := (0 : Int32)) (by decide) (by rw [lc]; decide) (g := (mkF m 75 #[.val (.ref a1), .val (.ref cd), .val (.int p3), .val (.int p4)] [(.ref cd), (.int (0 : Int32)), (.ref ca)])) rfl rfl (hb hby d3_75)
  have N_9 := Fr.snoc X_9 N0 (by omega)
  have z_9 := W_9.size
  refine Go.st (S' := T_9.setTop (mkF m 76 #[.val (.ref a1), .val (.ref cd), .val (.int p3), .val (.int p4)] [])) st_9 ?_
  refine Go.st (S' := T_9.setTop (mkF m 77 #[.val (.ref a1), .val (.ref cd), .val (.int p3), .val (.int p4)] [(.ref a1)])) (fun t hr => XS.aloadN X_9.here hx rfl (hb hby d3_76) rfl rfl hr) ?_
  have F_10 := (Fo.other W_9 (Or.inl (own_ne (by omega))))
  obtain ⟨T_11, X_11, e_11, st_11⟩ := getF X_9 hx hZ hown (host := "") (Or.inl (hw _ (List.mem_of_getElem? (i := 56) rfl))) Via.refl e_9 F_10 (g := (mkF m 77 #[.val (.ref a1), .val (.ref cd), .val (.int p3), .val (.int p4)] [(.ref a1)])) rfl rfl (hb hby d3_77)
  refine Go.st (S' := T_11.setTop (mkF m 80 #[.val (.ref a1), .val (.ref cd), .val (.int p3), .val (.int p4)] [(.ref oa)])) st_11 ?_
  refine Go.st (S' := T_11.setTop (mkF m 81 #[.val (.ref a1), .val (.ref cd), .val (.int p3), .val (.int p4)] [(.ref a1), (.ref oa)])) (fun t hr => XS.aloadN X_11.here hx rfl (hb hby d3_80) rfl rfl hr) ?_
  have F_12 := (Fs.other W_9 (Or.inl (own_ne (by omega))))
  obtain ⟨T_13, X_13, e_13, st_13⟩ := getF X_11 hx hZ hown (host := "") (Or.inl (hw _ (List.mem_of_getElem? (i := 102) rfl))) Via.refl e_11 F_12 (g := (mkF m 81 #[.val (.ref a1), .val (.ref cd), .val (.int p3), .val (.int p4)] [(.ref a1), (.ref oa)])) rfl rfl (hb hby d3_81)
  refine Go.st (S' := T_13.setTop (mkF m 84 #[.val (.ref a1), .val (.ref cd), .val (.int p3), .val (.int p4)] [(.int (0 : Int32)), (.ref oa)])) st_13 ?_
  refine Go.st (S' := T_13.setTop (mkF m 85 #[.val (.ref a1), .val (.ref cd), .val (.int p3), .val (.int p4)] [(.int p3), (.int (0 : Int32)), (.ref oa)])) (fun t hr => XS.iloadN X_13.here hx rfl (hb hby d3_84) rfl hr) ?_
  have F_14 := (Ao.other W_9 (own_ne (by omega)))
  obtain ⟨T_15, h_15, X_15, e_15, W_15, A_15, st_15⟩ := own_stI X_13 hx hZ e_13 F_14 (j := (0 : Int32)) (by decide) (by rw [lo]; decide) (g := (mkF m 85 #[.val (.ref a1), .val (.ref cd), .val (.int p3), .val (.int p4)] [(.int p3), (.int (0 : Int32)), (.ref oa)])) rfl rfl (hb hby d3_85)
  have N_15 := Fr.snoc X_15 N_9 (by omega)
  have z_15 := W_15.size
  refine Go.st (S' := T_15.setTop (mkF m 86 #[.val (.ref a1), .val (.ref cd), .val (.int p3), .val (.int p4)] [])) st_15 ?_
  refine Go.st (S' := T_15.setTop (mkF m 87 #[.val (.ref a1), .val (.ref cd), .val (.int p3), .val (.int p4)] [(.ref a1)])) (fun t hr => XS.aloadN X_15.here hx rfl (hb hby d3_86) rfl rfl hr) ?_
  have F_16 := ((Ft.other W_9 (Or.inl (own_ne (by omega)))).other W_15 (Or.inl (own_ne (by omega))))
  obtain ⟨T_17, X_17, e_17, st_17⟩ := getF X_15 hx hZ hown (host := "") (Or.inl (hw _ (List.mem_of_getElem? (i := 58) rfl))) Via.refl e_15 F_16 (g := (mkF m 87 #[.val (.ref a1), .val (.ref cd), .val (.int p3), .val (.int p4)] [(.ref a1)])) rfl rfl (hb hby d3_87)
  refine Go.st (S' := T_17.setTop (mkF m 90 #[.val (.ref a1), .val (.ref cd), .val (.int p3), .val (.int p4)] [(.ref ta)])) st_17 ?_
  refine Go.st (S' := T_17.setTop (mkF m 91 #[.val (.ref a1), .val (.ref cd), .val (.int p3), .val (.int p4)] [(.ref a1), (.ref ta)])) (fun t hr => XS.aloadN X_17.here hx rfl (hb hby d3_90) rfl rfl hr) ?_
  have F_18 := (F_12.other W_15 (Or.inl (own_ne (by omega))))
  obtain ⟨T_19, X_19, e_19, st_19⟩ := getF X_17 hx hZ hown (host := "") (Or.inl (hw _ (List.mem_of_getElem? (i := 102) rfl))) Via.refl e_17 F_18 (g := (mkF m 91 #[.val (.ref a1), .val (.ref cd), .val (.int p3), .val (.int p4)] [(.ref a1), (.ref ta)])) rfl rfl (hb hby d3_91)
  refine Go.st (S' := T_19.setTop (mkF m 94 #[.val (.ref a1), .val (.ref cd), .val (.int p3), .val (.int p4)] [(.int (0 : Int32)), (.ref ta)])) st_19 ?_
  refine Go.st (S' := T_19.setTop (mkF m 95 #[.val (.ref a1), .val (.ref cd), .val (.int p3), .val (.int p4)] [(.int p4), (.int (0 : Int32)), (.ref ta)])) (fun t hr => XS.iloadN X_19.here hx rfl (hb hby d3_94) rfl hr) ?_
  have F_20 := ((At.other W_9 (own_ne (by omega))).other W_15 (own_ne (by omega)))
  obtain ⟨T_21, h_21, X_21, e_21, W_21, A_21, st_21⟩ := own_stI X_19 hx hZ e_19 F_20 (j := (0 : Int32)) (by decide) (by rw [lt]; decide) (g := (mkF m 95 #[.val (.ref a1), .val (.ref cd), .val (.int p3), .val (.int p4)] [(.int p4), (.int (0 : Int32)), (.ref ta)])) rfl rfl (hb hby d3_95)
  have N_21 := Fr.snoc X_21 N_15 (by omega)
  have z_21 := W_21.size
  refine Go.st (S' := T_21.setTop (mkF m 96 #[.val (.ref a1), .val (.ref cd), .val (.int p3), .val (.int p4)] [])) st_21 ?_
  refine Go.st (S' := T_21.setTop (mkF m 97 #[.val (.ref a1), .val (.ref cd), .val (.int p3), .val (.int p4)] [(.ref a1)])) (fun t hr => XS.aloadN X_21.here hx rfl (hb hby d3_96) rfl rfl hr) ?_
  refine Go.st (S' := T_21.setTop (mkF m 98 #[.val (.ref a1), .val (.ref cd), .val (.int p3), .val (.int p4)] [(.ref a1), (.ref a1)])) (fun t hr => XS.dup X_21.here hx rfl (hb hby d3_97) rfl rfl hr) ?_
  have F_22 := (F_18.other W_21 (Or.inl (own_ne (by omega))))
  obtain ⟨T_23, X_23, e_23, st_23⟩ := getF X_21 hx hZ hown (host := "") (Or.inl (hw _ (List.mem_of_getElem? (i := 102) rfl))) Via.refl e_21 F_22 (g := (mkF m 98 #[.val (.ref a1), .val (.ref cd), .val (.int p3), .val (.int p4)] [(.ref a1), (.ref a1)])) rfl rfl (hb hby d3_98)
  refine Go.st (S' := T_23.setTop (mkF m 101 #[.val (.ref a1), .val (.ref cd), .val (.int p3), .val (.int p4)] [(.int (0 : Int32)), (.ref a1)])) st_23 ?_
  refine Go.st (S' := T_23.setTop (mkF m 102 #[.val (.ref a1), .val (.ref cd), .val (.int p3), .val (.int p4)] [(.int (0 : Int32)), (.ref a1), (.int (0 : Int32))])) (fun t hr => XT.dupX1 X_23.here hx rfl (hb hby d3_101) rfl rfl rfl hr) ?_
  refine Go.st (S' := T_23.setTop (mkF m 103 #[.val (.ref a1), .val (.ref cd), .val (.int p3), .val (.int p4)] [(.int (1 : Int32)), (.int (0 : Int32)), (.ref a1), (.int (0 : Int32))])) (fun t hr => XS.iconst X_23.here hx rfl (hb hby d3_102) hr) ?_
  refine Go.st (S' := T_23.setTop (mkF m 104 #[.val (.ref a1), .val (.ref cd), .val (.int p3), .val (.int p4)] [(.int (1 : Int32)), (.ref a1), (.int (0 : Int32))])) (fun t hr => XS.iadd X_23.here hx rfl (hb hby d3_103) rfl hr) ?_
  have F_24 := (((E1.wr W_9).wr W_15).wr W_21)
  obtain ⟨T_25, h_25, X_25, e_25, W_25, st_25⟩ := putF X_23 hx hZ hown (host := "") (Or.inl (hw _ (List.mem_of_getElem? (i := 102) rfl))) Via.refl e_23 F_22 F_24 (Or.inl (hw _ (List.mem_of_getElem? (i := 103) rfl))) (hw _ (List.mem_of_getElem? (i := 44) rfl)) (ty := .int) (by decide) rfl rfl (g := (mkF m 104 #[.val (.ref a1), .val (.ref cd), .val (.int p3), .val (.int p4)] [(.int (1 : Int32)), (.ref a1), (.int (0 : Int32))])) rfl rfl (hb hby d3_104)
  have N_25 := Fr.snoc X_25 N_21 (by omega)
  have z_25 := W_25.size
  have F_25 := F_22.same W_25
  refine Go.st (S' := T_25.setTop (mkF m 107 #[.val (.ref a1), .val (.ref cd), .val (.int p3), .val (.int p4)] [(.int (0 : Int32))])) st_25 ?_
  refine Go.retI X_25 hx hlk hret (hb hby d3_107) (by decide) (by decide) ?_
  try rw [e_25]
  have F_26 := ((((Fc.other W_9 (Or.inl (own_ne (by omega)))).other W_15 (Or.inl (own_ne (by omega)))).other W_21 (Or.inl (own_ne (by omega)))).other W_25 (Or.inr (slot_ne (t := (.array (.object "com/example/items_in_arrays/itemsinarrays/xpath/RegularExpressionProgram$Code"))) (t' := .int) (Or.inl (hw _ (List.mem_of_getElem? (i := 54) rfl))) (Or.inl (hw _ (List.mem_of_getElem? (i := 103) rfl))) (by decide) (by decide) (by decide))))
  have F_27 := (((F_10.other W_15 (Or.inl (own_ne (by omega)))).other W_21 (Or.inl (own_ne (by omega)))).other W_25 (Or.inr (slot_ne (t := (.array .int)) (t' := .int) (Or.inl (hw _ (List.mem_of_getElem? (i := 57) rfl))) (Or.inl (hw _ (List.mem_of_getElem? (i := 103) rfl))) (by decide) (by decide) (by decide))))
  have F_28 := ((F_16.other W_21 (Or.inl (own_ne (by omega)))).other W_25 (Or.inr (slot_ne (t := (.array .int)) (t' := .int) (Or.inl (hw _ (List.mem_of_getElem? (i := 59) rfl))) (Or.inl (hw _ (List.mem_of_getElem? (i := 103) rfl))) (by decide) (by decide) (by decide))))
  have F_29 := (((A_9.other W_15 (own_ne (by omega))).other W_21 (own_ne (by omega))).other W_25 (own_ne (by omega)))
  have F_30 := ((A_15.other W_21 (own_ne (by omega))).other W_25 (own_ne (by omega)))
  have F_31 := (A_21.other W_25 (own_ne (by omega)))
  exact ⟨rfl, N_25, (((((Keep.refl h0 [a1, ca, oa, ta]).wr W_9 (Or.inl (by simp))).wr W_15 (Or.inl (by simp))).wr W_21 (Or.inl (by simp))).wr W_25 (Or.inl (by simp))), F_26, F_27, F_28, F_25, F_29, F_30, F_31⟩
theorem ef_rmSet0 (m : MethodId) (a1 : Nat) (cd : Nat) (p3 : Int32) (p4 : Int32) : entryFrame m #[(.ref a1), (.int (0 : Int32)), (.ref cd), (.int p3), (.int p4)] 5 = mkF m 0 #[.val (.ref a1), .val (.int (0 : Int32)), .val (.ref cd), .val (.int p3), .val (.int p4)] [] := by first | (simp [entryFrame, mkF, argsToLocals, Value.category]; done) | rfl
theorem pf_6 : plainFor (⟨"com/example/items_in_arrays/itemsinarrays/xpath/RegularExpressionProgram$Builder", "set", "(ILcom/example/items_in_arrays/itemsinarrays/xpath/RegularExpressionProgram$Code;II)V"⟩ : MethodName) = true := plainFor_of_name (by first | (simp [plainName, overriddenIn]; done) | decide +kernel)
theorem d4_0 : decode prog_64_method_4_code 0 = .ok (.aload_n 0, 1) := by decide +kernel
theorem d4_1 : decode prog_64_method_4_code 1 = .ok (.getfield 9, 3) := by decide +kernel
theorem d4_4 : decode prog_64_method_4_code 4 = .ok (.iload_n 1, 1) := by decide +kernel
theorem d4_5 : decode prog_64_method_4_code 5 = .ok (.aload_n 2, 1) := by decide +kernel
theorem d4_6 : decode prog_64_method_4_code 6 = .ok (.aastore, 1) := by decide +kernel
theorem d4_7 : decode prog_64_method_4_code 7 = .ok (.aload_n 0, 1) := by decide +kernel
theorem d4_8 : decode prog_64_method_4_code 8 = .ok (.getfield 15, 3) := by decide +kernel
theorem d4_11 : decode prog_64_method_4_code 11 = .ok (.iload_n 1, 1) := by decide +kernel
theorem d4_12 : decode prog_64_method_4_code 12 = .ok (.iload_n 3, 1) := by decide +kernel
theorem d4_13 : decode prog_64_method_4_code 13 = .ok (.iastore, 1) := by decide +kernel
theorem d4_14 : decode prog_64_method_4_code 14 = .ok (.aload_n 0, 1) := by decide +kernel
theorem d4_15 : decode prog_64_method_4_code 15 = .ok (.getfield 19, 3) := by decide +kernel
theorem d4_18 : decode prog_64_method_4_code 18 = .ok (.iload_n 1, 1) := by decide +kernel
theorem d4_19 : decode prog_64_method_4_code 19 = .ok (.iload 4, 2) := by decide +kernel
theorem d4_21 : decode prog_64_method_4_code 21 = .ok (.iastore, 1) := by decide +kernel
theorem d4_22 : decode prog_64_method_4_code 22 = .ok (.return_, 1) := by decide +kernel
set_option maxRecDepth 65536 in
set_option maxHeartbeats 1000000 in
theorem rmSet0 (l : Launch) (Z : State) (a0 : Array Value) (hw : ∀ d ∈ tables_1, d.before a0 Z = true) (a1 : Nat) (cd : Nat) (p3 : Int32) (p4 : Int32) (h0 : Heap) (n0 : Nat) (Z0 : n0 ≤ h0.size) (ca oa ta : Nat) (cs os ts : List Value) (E1 : Exa Z h0 a1 "com/example/items_in_arrays/itemsinarrays/xpath/RegularExpressionProgram$Builder") (g1 : n0 ≤ a1) (hac : a1 < ca) (hco : ca < oa) (hot : oa < ta) (O0 : Old Z n0 h0) (Ec : Exa Z Z.heap cd "com/example/items_in_arrays/itemsinarrays/xpath/RegularExpressionProgram$Code") (Oc : Ovy Z h0 ca "com/example/items_in_arrays/itemsinarrays/xpath/RegularExpressionProgram$Code") (Fc : Fld Z h0 a1 "com/example/items_in_arrays/itemsinarrays/xpath/RegularExpressionProgram$Builder" "codes" "[Lcom/example/items_in_arrays/itemsinarrays/xpath/RegularExpressionProgram$Code;" (.ref ca)) (Fo : Fld Z h0 a1 "com/example/items_in_arrays/itemsinarrays/xpath/RegularExpressionProgram$Builder" "operands" "[I" (.ref oa)) (Ft : Fld Z h0 a1 "com/example/items_in_arrays/itemsinarrays/xpath/RegularExpressionProgram$Builder" "targets" "[I" (.ref ta)) (Ac : Ary Z h0 ca (.object "com/example/items_in_arrays/itemsinarrays/xpath/RegularExpressionProgram$Code") cs) (Ao : Ary Z h0 oa .int os) (At : Ary Z h0 ta .int ts) (lc : cs.length = 16) (lo : os.length = 16) (lt : ts.length = 16) :
    Con l Z (⟨"com/example/items_in_arrays/itemsinarrays/xpath/RegularExpressionProgram$Builder", "set", "(ILcom/example/items_in_arrays/itemsinarrays/xpath/RegularExpressionProgram$Code;II)V"⟩ : MethodName) prog_64_method_4_code 5 none ({ frames := 0, cells := 0, slots := 0, locals := 0 } : Room) #[(.ref a1), (.int (0 : Int32)), (.ref cd), (.int p3), (.int p4)] h0 (fun v h L => v = none ∧ Fr n0 L ∧ Keep h0 h [a1, ca, oa, ta] ∧ Fld Z h a1 "com/example/items_in_arrays/itemsinarrays/xpath/RegularExpressionProgram$Builder" "codes" "[Lcom/example/items_in_arrays/itemsinarrays/xpath/RegularExpressionProgram$Code;" (.ref ca) ∧ Fld Z h a1 "com/example/items_in_arrays/itemsinarrays/xpath/RegularExpressionProgram$Builder" "operands" "[I" (.ref oa) ∧ Fld Z h a1 "com/example/items_in_arrays/itemsinarrays/xpath/RegularExpressionProgram$Builder" "targets" "[I" (.ref ta) ∧ Ary Z h ca (.object "com/example/items_in_arrays/itemsinarrays/xpath/RegularExpressionProgram$Code") (cs.set 0 (.ref cd)) ∧ Ary Z h oa .int (os.set 0 (.int p3)) ∧ Ary Z h ta .int (ts.set 0 (.int p4))) := by
  refine Con.of pf_6 ?_
  intro p e s m below meth c T0 X0 hx hby hml hZ hown hnm hret hlk e0
  have hown : s.vm.findClass "com/example/items_in_arrays/itemsinarrays/xpath/RegularExpressionProgram$Builder" = some m.cls := hown
  have hnm : meth.name = "set" := hnm
  have N0 := Fr.nil n0
  refine Go.cast (ef_rmSet0 m a1 cd p3 p4) ?_
  have lt_1 := own_ltE E1
  have lt_2 := own_ltA Ac
  have lt_3 := own_ltA Ao
  have lt_4 := own_ltA At
  refine Go.st (S' := T0.setTop (mkF m 1 #[.val (.ref a1), .val (.int (0 : Int32)), .val (.ref cd), .val (.int p3), .val (.int p4)] [(.ref a1)])) (fun t hr => XS.aloadN X0.here hx rfl (hb hby d4_0) rfl rfl hr) ?_
  obtain ⟨T_5, X_5, e_5, st_5⟩ := getF X0 hx hZ hown (host := "") (Or.inl (hw _ (List.mem_of_getElem? (i := 53) rfl))) Via.refl e0 Fc (g := (mkF m 1 #[.val (.ref a1), .val (.int (0 : Int32)), .val (.ref cd), .val (.int p3), .val (.int p4)] [(.ref a1)])) rfl rfl (hb hby d4_1)
  refine Go.st (S' := T_5.setTop (mkF m 4 #[.val (.ref a1), .val (.int (0 : Int32)), .val (.ref cd), .val (.int p3), .val (.int p4)] [(.ref ca)])) st_5 ?_
  refine Go.st (S' := T_5.setTop (mkF m 5 #[.val (.ref a1), .val (.int (0 : Int32)), .val (.ref cd), .val (.int p3), .val (.int p4)] [(.int (0 : Int32)), (.ref ca)])) (fun t hr => XS.iloadN X_5.here hx rfl (hb hby d4_4) rfl hr) ?_
  refine Go.st (S' := T_5.setTop (mkF m 6 #[.val (.ref a1), .val (.int (0 : Int32)), .val (.ref cd), .val (.int p3), .val (.int p4)] [(.ref cd), (.int (0 : Int32)), (.ref ca)])) (fun t hr => XS.aloadN X_5.here hx rfl (hb hby d4_5) rfl rfl hr) ?_
  obtain ⟨T_6, h_6, X_6, e_6, W_6, A_6, st_6⟩ := own_stR X_5 hx hZ e_5 Ac rfl (own_sto Ac Oc (Ins.self (Ec.ext O0.2))) (j := (0 : Int32)) (by decide) (by rw [lc]; decide) (g := (mkF m 6 #[.val (.ref a1), .val (.int (0 : Int32)), .val (.ref cd), .val (.int p3), .val (.int p4)] [(.ref cd), (.int (0 : Int32)), (.ref ca)])) rfl rfl (hb hby d4_6)
  have N_6 := Fr.snoc X_6 N0 (by omega)
  have z_6 := W_6.size
  refine Go.st (S' := T_6.setTop (mkF m 7 #[.val (.ref a1), .val (.int (0 : Int32)), .val (.ref cd), .val (.int p3), .val (.int p4)] [])) st_6 ?_
  refine Go.st (S' := T_6.setTop (mkF m 8 #[.val (.ref a1), .val (.int (0 : Int32)), .val (.ref cd), .val (.int p3), .val (.int p4)] [(.ref a1)])) (fun t hr => XS.aloadN X_6.here hx rfl (hb hby d4_7) rfl rfl hr) ?_
  have F_7 := (Fo.other W_6 (Or.inl (own_ne (by omega))))
  obtain ⟨T_8, X_8, e_8, st_8⟩ := getF X_6 hx hZ hown (host := "") (Or.inl (hw _ (List.mem_of_getElem? (i := 56) rfl))) Via.refl e_6 F_7 (g := (mkF m 8 #[.val (.ref a1), .val (.int (0 : Int32)), .val (.ref cd), .val (.int p3), .val (.int p4)] [(.ref a1)])) rfl rfl (hb hby d4_8)
  refine Go.st (S' := T_8.setTop (mkF m 11 #[.val (.ref a1), .val (.int (0 : Int32)), .val (.ref cd), .val (.int p3), .val (.int p4)] [(.ref oa)])) st_8 ?_
  refine Go.st (S' := T_8.setTop (mkF m 12 #[.val (.ref a1), .val (.int (0 : Int32)), .val (.ref cd), .val (.int p3), .val (.int p4)] [(.int (0 : Int32)), (.ref oa)])) (fun t hr => XS.iloadN X_8.here hx rfl (hb hby d4_11) rfl hr) ?_
  refine Go.st (S' := T_8.setTop (mkF m 13 #[.val (.ref a1), .val (.int (0 : Int32)), .val (.ref cd), .val (.int p3), .val (.int p4)] [(.int p3), (.int (0 : Int32)), (.ref oa)])) (fun t hr => XS.iloadN X_8.here hx rfl (hb hby d4_12) rfl hr) ?_
  have F_9 := (Ao.other W_6 (own_ne (by omega)))
  obtain ⟨T_10, h_10, X_10, e_10, W_10, A_10, st_10⟩ := own_stI X_8 hx hZ e_8 F_9 (j := (0 : Int32)) (by decide) (by rw [lo]; decide) (g := (mkF m 13 #[.val (.ref a1), .val (.int (0 : Int32)), .val (.ref cd), .val (.int p3), .val (.int p4)] [(.int p3), (.int (0 : Int32)), (.ref oa)])) rfl rfl (hb hby d4_13)
  have N_10 := Fr.snoc X_10 N_6 (by omega)
  have z_10 := W_10.size
  refine Go.st (S' := T_10.setTop (mkF m 14 #[.val (.ref a1), .val (.int (0 : Int32)), .val (.ref cd), .val (.int p3), .val (.int p4)] [])) st_10 ?_
  refine Go.st (S' := T_10.setTop (mkF m 15 #[.val (.ref a1), .val (.int (0 : Int32)), .val (.ref cd), .val (.int p3), .val (.int p4)] [(.ref a1)])) (fun t hr => XS.aloadN X_10.here hx rfl (hb hby d4_14) rfl rfl hr) ?_
  have F_11 := ((Ft.other W_6 (Or.inl (own_ne (by omega)))).other W_10 (Or.inl (own_ne (by omega))))
  obtain ⟨T_12, X_12, e_12, st_12⟩ := getF X_10 hx hZ hown (host := "") (Or.inl (hw _ (List.mem_of_getElem? (i := 58) rfl))) Via.refl e_10 F_11 (g := (mkF m 15 #[.val (.ref a1), .val (.int (0 : Int32)), .val (.ref cd), .val (.int p3), .val (.int p4)] [(.ref a1)])) rfl rfl (hb hby d4_15)
  refine Go.st (S' := T_12.setTop (mkF m 18 #[.val (.ref a1), .val (.int (0 : Int32)), .val (.ref cd), .val (.int p3), .val (.int p4)] [(.ref ta)])) st_12 ?_
  refine Go.st (S' := T_12.setTop (mkF m 19 #[.val (.ref a1), .val (.int (0 : Int32)), .val (.ref cd), .val (.int p3), .val (.int p4)] [(.int (0 : Int32)), (.ref ta)])) (fun t hr => XS.iloadN X_12.here hx rfl (hb hby d4_18) rfl hr) ?_
  refine Go.st (S' := T_12.setTop (mkF m 21 #[.val (.ref a1), .val (.int (0 : Int32)), .val (.ref cd), .val (.int p3), .val (.int p4)] [(.int p4), (.int (0 : Int32)), (.ref ta)])) (fun t hr => XS.iload X_12.here hx rfl (hb hby d4_19) rfl hr) ?_
  have F_13 := ((At.other W_6 (own_ne (by omega))).other W_10 (own_ne (by omega)))
  obtain ⟨T_14, h_14, X_14, e_14, W_14, A_14, st_14⟩ := own_stI X_12 hx hZ e_12 F_13 (j := (0 : Int32)) (by decide) (by rw [lt]; decide) (g := (mkF m 21 #[.val (.ref a1), .val (.int (0 : Int32)), .val (.ref cd), .val (.int p3), .val (.int p4)] [(.int p4), (.int (0 : Int32)), (.ref ta)])) rfl rfl (hb hby d4_21)
  have N_14 := Fr.snoc X_14 N_10 (by omega)
  have z_14 := W_14.size
  refine Go.st (S' := T_14.setTop (mkF m 22 #[.val (.ref a1), .val (.int (0 : Int32)), .val (.ref cd), .val (.int p3), .val (.int p4)] [])) st_14 ?_
  refine Go.retV X_14 hx hlk hret (hb hby d4_22) (by decide) (by decide) ?_
  try rw [e_14]
  have F_15 := (((Fc.other W_6 (Or.inl (own_ne (by omega)))).other W_10 (Or.inl (own_ne (by omega)))).other W_14 (Or.inl (own_ne (by omega))))
  have F_16 := ((F_7.other W_10 (Or.inl (own_ne (by omega)))).other W_14 (Or.inl (own_ne (by omega))))
  have F_17 := (F_11.other W_14 (Or.inl (own_ne (by omega))))
  have F_18 := ((A_6.other W_10 (own_ne (by omega))).other W_14 (own_ne (by omega)))
  have F_19 := (A_10.other W_14 (own_ne (by omega)))
  exact ⟨rfl, N_14, ((((Keep.refl h0 [a1, ca, oa, ta]).wr W_6 (Or.inl (by simp))).wr W_10 (Or.inl (by simp))).wr W_14 (Or.inl (by simp))), F_15, F_16, F_17, F_18, F_19, A_14⟩
theorem ef_rmAdd1 (m : MethodId) (a1 : Nat) (cd : Nat) (p3 : Int32) (p4 : Int32) : entryFrame m #[(.ref a1), (.ref cd), (.int p3), (.int p4)] 4 = mkF m 0 #[.val (.ref a1), .val (.ref cd), .val (.int p3), .val (.int p4)] [] := by first | (simp [entryFrame, mkF, argsToLocals, Value.category]; done) | rfl
set_option maxRecDepth 65536 in
set_option maxHeartbeats 1000000 in
theorem rmAdd1 (l : Launch) (Z : State) (a0 : Array Value) (hw : ∀ d ∈ tables_1, d.before a0 Z = true) (a1 : Nat) (cd : Nat) (p3 : Int32) (p4 : Int32) (h0 : Heap) (n0 : Nat) (Z0 : n0 ≤ h0.size) (ca oa ta : Nat) (cs os ts : List Value) (E1 : Exa Z h0 a1 "com/example/items_in_arrays/itemsinarrays/xpath/RegularExpressionProgram$Builder") (g1 : n0 ≤ a1) (hac : a1 < ca) (hco : ca < oa) (hot : oa < ta) (O0 : Old Z n0 h0) (Ec : Exa Z Z.heap cd "com/example/items_in_arrays/itemsinarrays/xpath/RegularExpressionProgram$Code") (Oc : Ovy Z h0 ca "com/example/items_in_arrays/itemsinarrays/xpath/RegularExpressionProgram$Code") (Fc : Fld Z h0 a1 "com/example/items_in_arrays/itemsinarrays/xpath/RegularExpressionProgram$Builder" "codes" "[Lcom/example/items_in_arrays/itemsinarrays/xpath/RegularExpressionProgram$Code;" (.ref ca)) (Fo : Fld Z h0 a1 "com/example/items_in_arrays/itemsinarrays/xpath/RegularExpressionProgram$Builder" "operands" "[I" (.ref oa)) (Ft : Fld Z h0 a1 "com/example/items_in_arrays/itemsinarrays/xpath/RegularExpressionProgram$Builder" "targets" "[I" (.ref ta)) (Ac : Ary Z h0 ca (.object "com/example/items_in_arrays/itemsinarrays/xpath/RegularExpressionProgram$Code") cs) (Ao : Ary Z h0 oa .int os) (At : Ary Z h0 ta .int ts) (lc : cs.length = 16) (lo : os.length = 16) (lt : ts.length = 16) (Fs : Fld Z h0 a1 "com/example/items_in_arrays/itemsinarrays/xpath/RegularExpressionProgram$Builder" "size" "I" (.int 1)) :
    Con l Z (⟨"com/example/items_in_arrays/itemsinarrays/xpath/RegularExpressionProgram$Builder", "add", "(Lcom/example/items_in_arrays/itemsinarrays/xpath/RegularExpressionProgram$Code;II)I"⟩ : MethodName) prog_64_method_2_code 4 (some .int) ({ frames := 0, cells := 0, slots := 0, locals := 0 } : Room) #[(.ref a1), (.ref cd), (.int p3), (.int p4)] h0 (fun v h L => v = some (.int 1) ∧ Fr n0 L ∧ Keep h0 h [a1, ca, oa, ta] ∧ Fld Z h a1 "com/example/items_in_arrays/itemsinarrays/xpath/RegularExpressionProgram$Builder" "codes" "[Lcom/example/items_in_arrays/itemsinarrays/xpath/RegularExpressionProgram$Code;" (.ref ca) ∧ Fld Z h a1 "com/example/items_in_arrays/itemsinarrays/xpath/RegularExpressionProgram$Builder" "operands" "[I" (.ref oa) ∧ Fld Z h a1 "com/example/items_in_arrays/itemsinarrays/xpath/RegularExpressionProgram$Builder" "targets" "[I" (.ref ta) ∧ Fld Z h a1 "com/example/items_in_arrays/itemsinarrays/xpath/RegularExpressionProgram$Builder" "size" "I" (.int 2) ∧ Ary Z h ca (.object "com/example/items_in_arrays/itemsinarrays/xpath/RegularExpressionProgram$Code") (cs.set 1 (.ref cd)) ∧ Ary Z h oa .int (os.set 1 (.int p3)) ∧ Ary Z h ta .int (ts.set 1 (.int p4))) := by
  refine Con.of pf_5 ?_
  intro p e s m below meth c T0 X0 hx hby hml hZ hown hnm hret hlk e0
  have hown : s.vm.findClass "com/example/items_in_arrays/itemsinarrays/xpath/RegularExpressionProgram$Builder" = some m.cls := hown
  have hnm : meth.name = "add" := hnm
  have N0 := Fr.nil n0
  refine Go.cast (ef_rmAdd1 m a1 cd p3 p4) ?_
  have lt_1 := own_ltE E1
  have lt_2 := own_ltA Ac
  have lt_3 := own_ltA Ao
  have lt_4 := own_ltA At
  refine Go.st (S' := T0.setTop (mkF m 1 #[.val (.ref a1), .val (.ref cd), .val (.int p3), .val (.int p4)] [(.ref a1)])) (fun t hr => XS.aloadN X0.here hx rfl (hb hby d3_0) rfl rfl hr) ?_
  obtain ⟨T_5, X_5, e_5, st_5⟩ := getF X0 hx hZ hown (host := "") (Or.inl (hw _ (List.mem_of_getElem? (i := 102) rfl))) Via.refl e0 Fs (g := (mkF m 1 #[.val (.ref a1), .val (.ref cd), .val (.int p3), .val (.int p4)] [(.ref a1)])) rfl rfl (hb hby d3_1)
  refine Go.st (S' := T_5.setTop (mkF m 4 #[.val (.ref a1), .val (.ref cd), .val (.int p3), .val (.int p4)] [(.int (1 : Int32))])) st_5 ?_
  refine Go.st (S' := T_5.setTop (mkF m 5 #[.val (.ref a1), .val (.ref cd), .val (.int p3), .val (.int p4)] [(.ref a1), (.int (1 : Int32))])) (fun t hr => XS.aloadN X_5.here hx rfl (hb hby d3_4) rfl rfl hr) ?_
  obtain ⟨T_6, X_6, e_6, st_6⟩ := getF X_5 hx hZ hown (host := "") (Or.inl (hw _ (List.mem_of_getElem? (i := 53) rfl))) Via.refl e_5 Fc (g := (mkF m 5 #[.val (.ref a1), .val (.ref cd), .val (.int p3), .val (.int p4)] [(.ref a1), (.int (1 : Int32))])) rfl rfl (hb hby d3_5)
  refine Go.st (S' := T_6.setTop (mkF m 8 #[.val (.ref a1), .val (.ref cd), .val (.int p3), .val (.int p4)] [(.ref ca), (.int (1 : Int32))])) st_6 ?_
  refine Go.st (S' := T_6.setTop (mkF m 9 #[.val (.ref a1), .val (.ref cd), .val (.int p3), .val (.int p4)] [(.int (cs).length.toInt32), (.int (1 : Int32))])) (own_len X_6 hx hZ e_6 Ac (g := (mkF m 8 #[.val (.ref a1), .val (.ref cd), .val (.int p3), .val (.int p4)] [(.ref ca), (.int (1 : Int32))])) rfl rfl (hb hby d3_8)) ?_
  refine Go.cast (g' := (mkF m 9 #[.val (.ref a1), .val (.ref cd), .val (.int p3), .val (.int p4)] [(.int (16 : Int32)), (.int (1 : Int32))])) (by rw [show (cs).length.toInt32 = (16 : Int32) from (by rw [lc]; rfl)]) ?_
  refine Go.st (S' := T_6.setTop (mkF m 66 #[.val (.ref a1), .val (.ref cd), .val (.int p3), .val (.int p4)] [])) (fun t hr => XS.icmpYes X_6.here hx rfl (pc0 := 9) (pc' := 66) rfl (hb hby d3_9) rfl (XT.ii_ne_t (by decide)) (by decide) (by decide) hr) ?_
  refine Go.st (S' := T_6.setTop (mkF m 67 #[.val (.ref a1), .val (.ref cd), .val (.int p3), .val (.int p4)] [(.ref a1)])) (fun t hr => XS.aloadN X_6.here hx rfl (hb hby d3_66) rfl rfl hr) ?_
  obtain ⟨T_7, X_7, e_7, st_7⟩ := getF X_6 hx hZ hown (host := "") (Or.inl (hw _ (List.mem_of_getElem? (i := 53) rfl))) Via.refl e_6 Fc (g := (mkF m 67 #[.val (.ref a1), .val (.ref cd), .val (.int p3), .val (.int p4)] [(.ref a1)])) rfl rfl (hb hby d3_67)
  refine Go.st (S' := T_7.setTop (mkF m 70 #[.val (.ref a1), .val (.ref cd), .val (.int p3), .val (.int p4)] [(.ref ca)])) st_7 ?_
  refine Go.st (S' := T_7.setTop (mkF m 71 #[.val (.ref a1), .val (.ref cd), .val (.int p3), .val (.int p4)] [(.ref a1), (.ref ca)])) (fun t hr => XS.aloadN X_7.here hx rfl (hb hby d3_70) rfl rfl hr) ?_
  obtain ⟨T_8, X_8, e_8, st_8⟩ := getF X_7 hx hZ hown (host := "") (Or.inl (hw _ (List.mem_of_getElem? (i := 102) rfl))) Via.refl e_7 Fs (g := (mkF m 71 #[.val (.ref a1), .val (.ref cd), .val (.int p3), .val (.int p4)] [(.ref a1), (.ref ca)])) rfl rfl (hb hby d3_71)
  refine Go.st (S' := T_8.setTop (mkF m 74 #[.val (.ref a1), .val (.ref cd), .val (.int p3), .val (.int p4)] [(.int (1 : Int32)), (.ref ca)])) st_8 ?_
  refine Go.st (S' := T_8.setTop (mkF m 75 #[.val (.ref a1), .val (.ref cd), .val (.int p3), .val (.int p4)] [(.ref cd), (.int (1 : Int32)), (.ref ca)])) (fun t hr => XS.aloadN X_8.here hx rfl (hb hby d3_74) rfl rfl hr) ?_
  obtain ⟨T_9, h_9, X_9, e_9, W_9, A_9, st_9⟩ := own_stR X_8 hx hZ e_8 Ac rfl (own_sto Ac Oc (Ins.self (Ec.ext O0.2))) (j := (1 : Int32)) (by decide) (by rw [lc]; decide) (g := (mkF m 75 #[.val (.ref a1), .val (.ref cd), .val (.int p3), .val (.int p4)] [(.ref cd), (.int (1 : Int32)), (.ref ca)])) rfl rfl (hb hby d3_75)
  have N_9 := Fr.snoc X_9 N0 (by omega)
  have z_9 := W_9.size
  refine Go.st (S' := T_9.setTop (mkF m 76 #[.val (.ref a1), .val (.ref cd), .val (.int p3), .val (.int p4)] [])) st_9 ?_
  refine Go.st (S' := T_9.setTop (mkF m 77 #[.val (.ref a1), .val (.ref cd), .val (.int p3), .val (.int p4)] [(.ref a1)])) (fun t hr => XS.aloadN X_9.here hx rfl (hb hby d3_76) rfl rfl hr) ?_
  have F_10 := (Fo.other W_9 (Or.inl (own_ne (by omega))))
  obtain ⟨T_11, X_11, e_11, st_11⟩ := getF X_9 hx hZ hown (host := "") (Or.inl (hw _ (List.mem_of_getElem? (i := 56) rfl))) Via.refl e_9 F_10 (g := (mkF m 77 #[.val (.ref a1), .val (.ref cd), .val (.int p3), .val (.int p4)] [(.ref a1)])) rfl rfl (hb hby d3_77)
  refine Go.st (S' := T_11.setTop (mkF m 80 #[.val (.ref a1), .val (.ref cd), .val (.int p3), .val (.int p4)] [(.ref oa)])) st_11 ?_
  refine Go.st (S' := T_11.setTop (mkF m 81 #[.val (.ref a1), .val (.ref cd), .val (.int p3), .val (.int p4)] [(.ref a1), (.ref oa)])) (fun t hr => XS.aloadN X_11.here hx rfl (hb hby d3_80) rfl rfl hr) ?_
  have F_12 := (Fs.other W_9 (Or.inl (own_ne (by omega))))
  obtain ⟨T_13, X_13, e_13, st_13⟩ := getF X_11 hx hZ hown (host := "") (Or.inl (hw _ (List.mem_of_getElem? (i := 102) rfl))) Via.refl e_11 F_12 (g := (mkF m 81 #[.val (.ref a1), .val (.ref cd), .val (.int p3), .val (.int p4)] [(.ref a1), (.ref oa)])) rfl rfl (hb hby d3_81)
  refine Go.st (S' := T_13.setTop (mkF m 84 #[.val (.ref a1), .val (.ref cd), .val (.int p3), .val (.int p4)] [(.int (1 : Int32)), (.ref oa)])) st_13 ?_
  refine Go.st (S' := T_13.setTop (mkF m 85 #[.val (.ref a1), .val (.ref cd), .val (.int p3), .val (.int p4)] [(.int p3), (.int (1 : Int32)), (.ref oa)])) (fun t hr => XS.iloadN X_13.here hx rfl (hb hby d3_84) rfl hr) ?_
  have F_14 := (Ao.other W_9 (own_ne (by omega)))
  obtain ⟨T_15, h_15, X_15, e_15, W_15, A_15, st_15⟩ := own_stI X_13 hx hZ e_13 F_14 (j := (1 : Int32)) (by decide) (by rw [lo]; decide) (g := (mkF m 85 #[.val (.ref a1), .val (.ref cd), .val (.int p3), .val (.int p4)] [(.int p3), (.int (1 : Int32)), (.ref oa)])) rfl rfl (hb hby d3_85)
  have N_15 := Fr.snoc X_15 N_9 (by omega)
  have z_15 := W_15.size
  refine Go.st (S' := T_15.setTop (mkF m 86 #[.val (.ref a1), .val (.ref cd), .val (.int p3), .val (.int p4)] [])) st_15 ?_
  refine Go.st (S' := T_15.setTop (mkF m 87 #[.val (.ref a1), .val (.ref cd), .val (.int p3), .val (.int p4)] [(.ref a1)])) (fun t hr => XS.aloadN X_15.here hx rfl (hb hby d3_86) rfl rfl hr) ?_
  have F_16 := ((Ft.other W_9 (Or.inl (own_ne (by omega)))).other W_15 (Or.inl (own_ne (by omega))))
  obtain ⟨T_17, X_17, e_17, st_17⟩ := getF X_15 hx hZ hown (host := "") (Or.inl (hw _ (List.mem_of_getElem? (i := 58) rfl))) Via.refl e_15 F_16 (g := (mkF m 87 #[.val (.ref a1), .val (.ref cd), .val (.int p3), .val (.int p4)] [(.ref a1)])) rfl rfl (hb hby d3_87)
  refine Go.st (S' := T_17.setTop (mkF m 90 #[.val (.ref a1), .val (.ref cd), .val (.int p3), .val (.int p4)] [(.ref ta)])) st_17 ?_
  refine Go.st (S' := T_17.setTop (mkF m 91 #[.val (.ref a1), .val (.ref cd), .val (.int p3), .val (.int p4)] [(.ref a1), (.ref ta)])) (fun t hr => XS.aloadN X_17.here hx rfl (hb hby d3_90) rfl rfl hr) ?_
  have F_18 := (F_12.other W_15 (Or.inl (own_ne (by omega))))
  obtain ⟨T_19, X_19, e_19, st_19⟩ := getF X_17 hx hZ hown (host := "") (Or.inl (hw _ (List.mem_of_getElem? (i := 102) rfl))) Via.refl e_17 F_18 (g := (mkF m 91 #[.val (.ref a1), .val (.ref cd), .val (.int p3), .val (.int p4)] [(.ref a1), (.ref ta)])) rfl rfl (hb hby d3_91)
  refine Go.st (S' := T_19.setTop (mkF m 94 #[.val (.ref a1), .val (.ref cd), .val (.int p3), .val (.int p4)] [(.int (1 : Int32)), (.ref ta)])) st_19 ?_
  refine Go.st (S' := T_19.setTop (mkF m 95 #[.val (.ref a1), .val (.ref cd), .val (.int p3), .val (.int p4)] [(.int p4), (.int (1 : Int32)), (.ref ta)])) (fun t hr => XS.iloadN X_19.here hx rfl (hb hby d3_94) rfl hr) ?_
  have F_20 := ((At.other W_9 (own_ne (by omega))).other W_15 (own_ne (by omega)))
  obtain ⟨T_21, h_21, X_21, e_21, W_21, A_21, st_21⟩ := own_stI X_19 hx hZ e_19 F_20 (j := (1 : Int32)) (by decide) (by rw [lt]; decide) (g := (mkF m 95 #[.val (.ref a1), .val (.ref cd), .val (.int p3), .val (.int p4)] [(.int p4), (.int (1 : Int32)), (.ref ta)])) rfl rfl (hb hby d3_95)
  have N_21 := Fr.snoc X_21 N_15 (by omega)
  have z_21 := W_21.size
  refine Go.st (S' := T_21.setTop (mkF m 96 #[.val (.ref a1), .val (.ref cd), .val (.int p3), .val (.int p4)] [])) st_21 ?_
  refine Go.st (S' := T_21.setTop (mkF m 97 #[.val (.ref a1), .val (.ref cd), .val (.int p3), .val (.int p4)] [(.ref a1)])) (fun t hr => XS.aloadN X_21.here hx rfl (hb hby d3_96) rfl rfl hr) ?_
  refine Go.st (S' := T_21.setTop (mkF m 98 #[.val (.ref a1), .val (.ref cd), .val (.int p3), .val (.int p4)] [(.ref a1), (.ref a1)])) (fun t hr => XS.dup X_21.here hx rfl (hb hby d3_97) rfl rfl hr) ?_
  have F_22 := (F_18.other W_21 (Or.inl (own_ne (by omega))))
  obtain ⟨T_23, X_23, e_23, st_23⟩ := getF X_21 hx hZ hown (host := "") (Or.inl (hw _ (List.mem_of_getElem? (i := 102) rfl))) Via.refl e_21 F_22 (g := (mkF m 98 #[.val (.ref a1), .val (.ref cd), .val (.int p3), .val (.int p4)] [(.ref a1), (.ref a1)])) rfl rfl (hb hby d3_98)
  refine Go.st (S' := T_23.setTop (mkF m 101 #[.val (.ref a1), .val (.ref cd), .val (.int p3), .val (.int p4)] [(.int (1 : Int32)), (.ref a1)])) st_23 ?_
  refine Go.st (S' := T_23.setTop (mkF m 102 #[.val (.ref a1), .val (.ref cd), .val (.int p3), .val (.int p4)] [(.int (1 : Int32)), (.ref a1), (.int (1 : Int32))])) (fun t hr => XT.dupX1 X_23.here hx rfl (hb hby d3_101) rfl rfl rfl hr) ?_
  refine Go.st (S' := T_23.setTop (mkF m 103 #[.val (.ref a1), .val (.ref cd), .val (.int p3), .val (.int p4)] [(.int (1 : Int32)), (.int (1 : Int32)), (.ref a1), (.int (1 : Int32))])) (fun t hr => XS.iconst X_23.here hx rfl (hb hby d3_102) hr) ?_
  refine Go.st (S' := T_23.setTop (mkF m 104 #[.val (.ref a1), .val (.ref cd), .val (.int p3), .val (.int p4)] [(.int (2 : Int32)), (.ref a1), (.int (1 : Int32))])) (fun t hr => XS.iadd X_23.here hx rfl (hb hby d3_103) rfl hr) ?_
  have F_24 := (((E1.wr W_9).wr W_15).wr W_21)
  obtain ⟨T_25, h_25, X_25, e_25, W_25, st_25⟩ := putF X_23 hx hZ hown (host := "") (Or.inl (hw _ (List.mem_of_getElem? (i := 102) rfl))) Via.refl e_23 F_22 F_24 (Or.inl (hw _ (List.mem_of_getElem? (i := 103) rfl))) (hw _ (List.mem_of_getElem? (i := 44) rfl)) (ty := .int) (by decide) rfl rfl (g := (mkF m 104 #[.val (.ref a1), .val (.ref cd), .val (.int p3), .val (.int p4)] [(.int (2 : Int32)), (.ref a1), (.int (1 : Int32))])) rfl rfl (hb hby d3_104)
  have N_25 := Fr.snoc X_25 N_21 (by omega)
  have z_25 := W_25.size
  have F_25 := F_22.same W_25
  refine Go.st (S' := T_25.setTop (mkF m 107 #[.val (.ref a1), .val (.ref cd), .val (.int p3), .val (.int p4)] [(.int (1 : Int32))])) st_25 ?_
  refine Go.retI X_25 hx hlk hret (hb hby d3_107) (by decide) (by decide) ?_
  try rw [e_25]
  have F_26 := ((((Fc.other W_9 (Or.inl (own_ne (by omega)))).other W_15 (Or.inl (own_ne (by omega)))).other W_21 (Or.inl (own_ne (by omega)))).other W_25 (Or.inr (slot_ne (t := (.array (.object "com/example/items_in_arrays/itemsinarrays/xpath/RegularExpressionProgram$Code"))) (t' := .int) (Or.inl (hw _ (List.mem_of_getElem? (i := 54) rfl))) (Or.inl (hw _ (List.mem_of_getElem? (i := 103) rfl))) (by decide) (by decide) (by decide))))
  have F_27 := (((F_10.other W_15 (Or.inl (own_ne (by omega)))).other W_21 (Or.inl (own_ne (by omega)))).other W_25 (Or.inr (slot_ne (t := (.array .int)) (t' := .int) (Or.inl (hw _ (List.mem_of_getElem? (i := 57) rfl))) (Or.inl (hw _ (List.mem_of_getElem? (i := 103) rfl))) (by decide) (by decide) (by decide))))
  have F_28 := ((F_16.other W_21 (Or.inl (own_ne (by omega)))).other W_25 (Or.inr (slot_ne (t := (.array .int)) (t' := .int) (Or.inl (hw _ (List.mem_of_getElem? (i := 59) rfl))) (Or.inl (hw _ (List.mem_of_getElem? (i := 103) rfl))) (by decide) (by decide) (by decide))))
  have F_29 := (((A_9.other W_15 (own_ne (by omega))).other W_21 (own_ne (by omega))).other W_25 (own_ne (by omega)))
  have F_30 := ((A_15.other W_21 (own_ne (by omega))).other W_25 (own_ne (by omega)))
  have F_31 := (A_21.other W_25 (own_ne (by omega)))
  exact ⟨rfl, N_25, (((((Keep.refl h0 [a1, ca, oa, ta]).wr W_9 (Or.inl (by simp))).wr W_15 (Or.inl (by simp))).wr W_21 (Or.inl (by simp))).wr W_25 (Or.inl (by simp))), F_26, F_27, F_28, F_25, F_29, F_30, F_31⟩
theorem ef_rmSet1 (m : MethodId) (a1 : Nat) (cd : Nat) (p3 : Int32) (p4 : Int32) : entryFrame m #[(.ref a1), (.int (1 : Int32)), (.ref cd), (.int p3), (.int p4)] 5 = mkF m 0 #[.val (.ref a1), .val (.int (1 : Int32)), .val (.ref cd), .val (.int p3), .val (.int p4)] [] := by first | (simp [entryFrame, mkF, argsToLocals, Value.category]; done) | rfl
set_option maxRecDepth 65536 in
set_option maxHeartbeats 1000000 in
theorem rmSet1 (l : Launch) (Z : State) (a0 : Array Value) (hw : ∀ d ∈ tables_1, d.before a0 Z = true) (a1 : Nat) (cd : Nat) (p3 : Int32) (p4 : Int32) (h0 : Heap) (n0 : Nat) (Z0 : n0 ≤ h0.size) (ca oa ta : Nat) (cs os ts : List Value) (E1 : Exa Z h0 a1 "com/example/items_in_arrays/itemsinarrays/xpath/RegularExpressionProgram$Builder") (g1 : n0 ≤ a1) (hac : a1 < ca) (hco : ca < oa) (hot : oa < ta) (O0 : Old Z n0 h0) (Ec : Exa Z Z.heap cd "com/example/items_in_arrays/itemsinarrays/xpath/RegularExpressionProgram$Code") (Oc : Ovy Z h0 ca "com/example/items_in_arrays/itemsinarrays/xpath/RegularExpressionProgram$Code") (Fc : Fld Z h0 a1 "com/example/items_in_arrays/itemsinarrays/xpath/RegularExpressionProgram$Builder" "codes" "[Lcom/example/items_in_arrays/itemsinarrays/xpath/RegularExpressionProgram$Code;" (.ref ca)) (Fo : Fld Z h0 a1 "com/example/items_in_arrays/itemsinarrays/xpath/RegularExpressionProgram$Builder" "operands" "[I" (.ref oa)) (Ft : Fld Z h0 a1 "com/example/items_in_arrays/itemsinarrays/xpath/RegularExpressionProgram$Builder" "targets" "[I" (.ref ta)) (Ac : Ary Z h0 ca (.object "com/example/items_in_arrays/itemsinarrays/xpath/RegularExpressionProgram$Code") cs) (Ao : Ary Z h0 oa .int os) (At : Ary Z h0 ta .int ts) (lc : cs.length = 16) (lo : os.length = 16) (lt : ts.length = 16) :
    Con l Z (⟨"com/example/items_in_arrays/itemsinarrays/xpath/RegularExpressionProgram$Builder", "set", "(ILcom/example/items_in_arrays/itemsinarrays/xpath/RegularExpressionProgram$Code;II)V"⟩ : MethodName) prog_64_method_4_code 5 none ({ frames := 0, cells := 0, slots := 0, locals := 0 } : Room) #[(.ref a1), (.int (1 : Int32)), (.ref cd), (.int p3), (.int p4)] h0 (fun v h L => v = none ∧ Fr n0 L ∧ Keep h0 h [a1, ca, oa, ta] ∧ Fld Z h a1 "com/example/items_in_arrays/itemsinarrays/xpath/RegularExpressionProgram$Builder" "codes" "[Lcom/example/items_in_arrays/itemsinarrays/xpath/RegularExpressionProgram$Code;" (.ref ca) ∧ Fld Z h a1 "com/example/items_in_arrays/itemsinarrays/xpath/RegularExpressionProgram$Builder" "operands" "[I" (.ref oa) ∧ Fld Z h a1 "com/example/items_in_arrays/itemsinarrays/xpath/RegularExpressionProgram$Builder" "targets" "[I" (.ref ta) ∧ Ary Z h ca (.object "com/example/items_in_arrays/itemsinarrays/xpath/RegularExpressionProgram$Code") (cs.set 1 (.ref cd)) ∧ Ary Z h oa .int (os.set 1 (.int p3)) ∧ Ary Z h ta .int (ts.set 1 (.int p4))) := by
  refine Con.of pf_6 ?_
  intro p e s m below meth c T0 X0 hx hby hml hZ hown hnm hret hlk e0
  have hown : s.vm.findClass "com/example/items_in_arrays/itemsinarrays/xpath/RegularExpressionProgram$Builder" = some m.cls := hown
  have hnm : meth.name = "set" := hnm
  have N0 := Fr.nil n0
  refine Go.cast (ef_rmSet1 m a1 cd p3 p4) ?_
  have lt_1 := own_ltE E1
  have lt_2 := own_ltA Ac
  have lt_3 := own_ltA Ao
  have lt_4 := own_ltA At
  refine Go.st (S' := T0.setTop (mkF m 1 #[.val (.ref a1), .val (.int (1 : Int32)), .val (.ref cd), .val (.int p3), .val (.int p4)] [(.ref a1)])) (fun t hr => XS.aloadN X0.here hx rfl (hb hby d4_0) rfl rfl hr) ?_
  obtain ⟨T_5, X_5, e_5, st_5⟩ := getF X0 hx hZ hown (host := "") (Or.inl (hw _ (List.mem_of_getElem? (i := 53) rfl))) Via.refl e0 Fc (g := (mkF m 1 #[.val (.ref a1), .val (.int (1 : Int32)), .val (.ref cd), .val (.int p3), .val (.int p4)] [(.ref a1)])) rfl rfl (hb hby d4_1)
  refine Go.st (S' := T_5.setTop (mkF m 4 #[.val (.ref a1), .val (.int (1 : Int32)), .val (.ref cd), .val (.int p3), .val (.int p4)] [(.ref ca)])) st_5 ?_
  refine Go.st (S' := T_5.setTop (mkF m 5 #[.val (.ref a1), .val (.int (1 : Int32)), .val (.ref cd), .val (.int p3), .val (.int p4)] [(.int (1 : Int32)), (.ref ca)])) (fun t hr => XS.iloadN X_5.here hx rfl (hb hby d4_4) rfl hr) ?_
  refine Go.st (S' := T_5.setTop (mkF m 6 #[.val (.ref a1), .val (.int (1 : Int32)), .val (.ref cd), .val (.int p3), .val (.int p4)] [(.ref cd), (.int (1 : Int32)), (.ref ca)])) (fun t hr => XS.aloadN X_5.here hx rfl (hb hby d4_5) rfl rfl hr) ?_
  obtain ⟨T_6, h_6, X_6, e_6, W_6, A_6, st_6⟩ := own_stR X_5 hx hZ e_5 Ac rfl (own_sto Ac Oc (Ins.self (Ec.ext O0.2))) (j := (1 : Int32)) (by decide) (by rw [lc]; decide) (g := (mkF m 6 #[.val (.ref a1), .val (.int (1 : Int32)), .val (.ref cd), .val (.int p3), .val (.int p4)] [(.ref cd), (.int (1 : Int32)), (.ref ca)])) rfl rfl (hb hby d4_6)
  have N_6 := Fr.snoc X_6 N0 (by omega)
  have z_6 := W_6.size
  refine Go.st (S' := T_6.setTop (mkF m 7 #[.val (.ref a1), .val (.int (1 : Int32)), .val (.ref cd), .val (.int p3), .val (.int p4)] [])) st_6 ?_
  refine Go.st (S' := T_6.setTop (mkF m 8 #[.val (.ref a1), .val (.int (1 : Int32)), .val (.ref cd), .val (.int p3), .val (.int p4)] [(.ref a1)])) (fun t hr => XS.aloadN X_6.here hx rfl (hb hby d4_7) rfl rfl hr) ?_
  have F_7 := (Fo.other W_6 (Or.inl (own_ne (by omega))))
  obtain ⟨T_8, X_8, e_8, st_8⟩ := getF X_6 hx hZ hown (host := "") (Or.inl (hw _ (List.mem_of_getElem? (i := 56) rfl))) Via.refl e_6 F_7 (g := (mkF m 8 #[.val (.ref a1), .val (.int (1 : Int32)), .val (.ref cd), .val (.int p3), .val (.int p4)] [(.ref a1)])) rfl rfl (hb hby d4_8)
  refine Go.st (S' := T_8.setTop (mkF m 11 #[.val (.ref a1), .val (.int (1 : Int32)), .val (.ref cd), .val (.int p3), .val (.int p4)] [(.ref oa)])) st_8 ?_
  refine Go.st (S' := T_8.setTop (mkF m 12 #[.val (.ref a1), .val (.int (1 : Int32)), .val (.ref cd), .val (.int p3), .val (.int p4)] [(.int (1 : Int32)), (.ref oa)])) (fun t hr => XS.iloadN X_8.here hx rfl (hb hby d4_11) rfl hr) ?_
  refine Go.st (S' := T_8.setTop (mkF m 13 #[.val (.ref a1), .val (.int (1 : Int32)), .val (.ref cd), .val (.int p3), .val (.int p4)] [(.int p3), (.int (1 : Int32)), (.ref oa)])) (fun t hr => XS.iloadN X_8.here hx rfl (hb hby d4_12) rfl hr) ?_
  have F_9 := (Ao.other W_6 (own_ne (by omega)))
  obtain ⟨T_10, h_10, X_10, e_10, W_10, A_10, st_10⟩ := own_stI X_8 hx hZ e_8 F_9 (j := (1 : Int32)) (by decide) (by rw [lo]; decide) (g := (mkF m 13 #[.val (.ref a1), .val (.int (1 : Int32)), .val (.ref cd), .val (.int p3), .val (.int p4)] [(.int p3), (.int (1 : Int32)), (.ref oa)])) rfl rfl (hb hby d4_13)
  have N_10 := Fr.snoc X_10 N_6 (by omega)
  have z_10 := W_10.size
  refine Go.st (S' := T_10.setTop (mkF m 14 #[.val (.ref a1), .val (.int (1 : Int32)), .val (.ref cd), .val (.int p3), .val (.int p4)] [])) st_10 ?_
  refine Go.st (S' := T_10.setTop (mkF m 15 #[.val (.ref a1), .val (.int (1 : Int32)), .val (.ref cd), .val (.int p3), .val (.int p4)] [(.ref a1)])) (fun t hr => XS.aloadN X_10.here hx rfl (hb hby d4_14) rfl rfl hr) ?_
  have F_11 := ((Ft.other W_6 (Or.inl (own_ne (by omega)))).other W_10 (Or.inl (own_ne (by omega))))
  obtain ⟨T_12, X_12, e_12, st_12⟩ := getF X_10 hx hZ hown (host := "") (Or.inl (hw _ (List.mem_of_getElem? (i := 58) rfl))) Via.refl e_10 F_11 (g := (mkF m 15 #[.val (.ref a1), .val (.int (1 : Int32)), .val (.ref cd), .val (.int p3), .val (.int p4)] [(.ref a1)])) rfl rfl (hb hby d4_15)
  refine Go.st (S' := T_12.setTop (mkF m 18 #[.val (.ref a1), .val (.int (1 : Int32)), .val (.ref cd), .val (.int p3), .val (.int p4)] [(.ref ta)])) st_12 ?_
  refine Go.st (S' := T_12.setTop (mkF m 19 #[.val (.ref a1), .val (.int (1 : Int32)), .val (.ref cd), .val (.int p3), .val (.int p4)] [(.int (1 : Int32)), (.ref ta)])) (fun t hr => XS.iloadN X_12.here hx rfl (hb hby d4_18) rfl hr) ?_
  refine Go.st (S' := T_12.setTop (mkF m 21 #[.val (.ref a1), .val (.int (1 : Int32)), .val (.ref cd), .val (.int p3), .val (.int p4)] [(.int p4), (.int (1 : Int32)), (.ref ta)])) (fun t hr => XS.iload X_12.here hx rfl (hb hby d4_19) rfl hr) ?_
  have F_13 := ((At.other W_6 (own_ne (by omega))).other W_10 (own_ne (by omega)))
  obtain ⟨T_14, h_14, X_14, e_14, W_14, A_14, st_14⟩ := own_stI X_12 hx hZ e_12 F_13 (j := (1 : Int32)) (by decide) (by rw [lt]; decide) (g := (mkF m 21 #[.val (.ref a1), .val (.int (1 : Int32)), .val (.ref cd), .val (.int p3), .val (.int p4)] [(.int p4), (.int (1 : Int32)), (.ref ta)])) rfl rfl (hb hby d4_21)
  have N_14 := Fr.snoc X_14 N_10 (by omega)
  have z_14 := W_14.size
  refine Go.st (S' := T_14.setTop (mkF m 22 #[.val (.ref a1), .val (.int (1 : Int32)), .val (.ref cd), .val (.int p3), .val (.int p4)] [])) st_14 ?_
  refine Go.retV X_14 hx hlk hret (hb hby d4_22) (by decide) (by decide) ?_
  try rw [e_14]
  have F_15 := (((Fc.other W_6 (Or.inl (own_ne (by omega)))).other W_10 (Or.inl (own_ne (by omega)))).other W_14 (Or.inl (own_ne (by omega))))
  have F_16 := ((F_7.other W_10 (Or.inl (own_ne (by omega)))).other W_14 (Or.inl (own_ne (by omega))))
  have F_17 := (F_11.other W_14 (Or.inl (own_ne (by omega))))
  have F_18 := ((A_6.other W_10 (own_ne (by omega))).other W_14 (own_ne (by omega)))
  have F_19 := (A_10.other W_14 (own_ne (by omega)))
  exact ⟨rfl, N_14, ((((Keep.refl h0 [a1, ca, oa, ta]).wr W_6 (Or.inl (by simp))).wr W_10 (Or.inl (by simp))).wr W_14 (Or.inl (by simp))), F_15, F_16, F_17, F_18, F_19, A_14⟩
theorem ef_rmMin (m : MethodId) (p1 : Int32) (p2 : Int32) : entryFrame m #[(.int p1), (.int p2)] 2 = mkF m 0 #[.val (.int p1), .val (.int p2)] [] := by first | (simp [entryFrame, mkF, argsToLocals, Value.category]; done) | rfl
theorem pf_7 : plainFor (⟨"java/lang/Math", "min", "(II)I"⟩ : MethodName) = true := by decide +kernel
theorem d6_0 : decode jdk_29_method_69_code 0 = .ok (.iload_n 0, 1) := by decide +kernel
theorem d6_1 : decode jdk_29_method_69_code 1 = .ok (.iload_n 1, 1) := by decide +kernel
theorem d6_2 : decode jdk_29_method_69_code 2 = .ok (.if_icmp .gt 7, 3) := by decide +kernel
theorem d6_5 : decode jdk_29_method_69_code 5 = .ok (.iload_n 0, 1) := by decide +kernel
theorem d6_6 : decode jdk_29_method_69_code 6 = .ok (.goto 4, 3) := by decide +kernel
theorem d6_9 : decode jdk_29_method_69_code 9 = .ok (.iload_n 1, 1) := by decide +kernel
theorem d6_10 : decode jdk_29_method_69_code 10 = .ok (.ireturn, 1) := by decide +kernel
set_option maxRecDepth 65536 in
set_option maxHeartbeats 1000000 in
theorem rmMin (l : Launch) (Z : State) (a0 : Array Value) (hw : ∀ d ∈ tables_1, d.before a0 Z = true) (p1 : Int32) (p2 : Int32) (h0 : Heap) (n0 : Nat) (Z0 : n0 ≤ h0.size)  :
    Con l Z (⟨"java/lang/Math", "min", "(II)I"⟩ : MethodName) jdk_29_method_69_code 2 (some .int) ({ frames := 0, cells := 0, slots := 0, locals := 0 } : Room) #[(.int p1), (.int p2)] h0 (fun v h L => v = some (.int (own_min p1 p2)) ∧ Fr n0 L ∧ h = h0) := by
  refine Con.of pf_7 ?_
  intro p e s m below meth c T0 X0 hx hby hml hZ hown hnm hret hlk e0
  have hown : s.vm.findClass "java/lang/Math" = some m.cls := hown
  have hnm : meth.name = "min" := hnm
  have N0 := Fr.nil n0
  refine Go.cast (ef_rmMin m p1 p2) ?_
  refine Go.st (S' := T0.setTop (mkF m 1 #[.val (.int p1), .val (.int p2)] [(.int p1)])) (fun t hr => XS.iloadN X0.here hx rfl (hb hby d6_0) rfl hr) ?_
  refine Go.st (S' := T0.setTop (mkF m 2 #[.val (.int p1), .val (.int p2)] [(.int p2), (.int p1)])) (fun t hr => XS.iloadN X0.here hx rfl (hb hby d6_1) rfl hr) ?_
  by_cases hc1 : p2 < p1
  · refine Go.st (S' := T0.setTop (mkF m 9 #[.val (.int p1), .val (.int p2)] [])) (fun t hr => XS.icmpYes X0.here hx rfl (pc0 := 2) (pc' := 9) rfl (hb hby d6_2) rfl (XT.ii_gt_t hc1) (by decide) (by decide) hr) ?_
    refine Go.st (S' := T0.setTop (mkF m 10 #[.val (.int p1), .val (.int p2)] [(.int p2)])) (fun t hr => XS.iloadN X0.here hx rfl (hb hby d6_9) rfl hr) ?_
    refine Go.retI X0 hx hlk hret (hb hby d6_10) (by decide) (by decide) ?_
    try rw [e0]
    exact ⟨by simp [own_min, hc1], N0, rfl⟩
  · refine Go.st (S' := T0.setTop (mkF m 5 #[.val (.int p1), .val (.int p2)] [])) (fun t hr => XS.icmpNo X0.here hx rfl (hb hby d6_2) rfl (XT.ii_gt_f hc1) hr) ?_
    refine Go.st (S' := T0.setTop (mkF m 6 #[.val (.int p1), .val (.int p2)] [(.int p1)])) (fun t hr => XS.iloadN X0.here hx rfl (hb hby d6_5) rfl hr) ?_
    refine Go.st (S' := T0.setTop (mkF m 10 #[.val (.int p1), .val (.int p2)] [(.int p1)])) (fun t hr => XS.goto X0.here hx rfl (pc0 := 6) (pc' := 10) rfl (hb hby d6_6) (by decide) (by decide) hr) ?_
    refine Go.retI X0 hx hlk hret (hb hby d6_10) (by decide) (by decide) ?_
    try rw [e0]
    exact ⟨by simp [own_min, hc1], N0, rfl⟩
theorem ef_rmCI (m : MethodId) (a1 : Nat) (a2 : Nat) : entryFrame m #[(.ref a1), (.ref a2)] 4 = mkF m 0 #[.val (.ref a1), .val (.ref a2), .unset, .unset] [] := by first | (simp [entryFrame, mkF, argsToLocals, Value.category]; done) | rfl
theorem pf_8 : plainFor (⟨"com/example/items_in_arrays/itemsinarrays/xpath/CodepointSet", "<init>", "([I)V"⟩ : MethodName) = true := plainFor_of_name (by first | (simp [plainName, overriddenIn]; done) | decide +kernel)
theorem pd_1 : parseMethodDescriptor "(II)I" = some ⟨[.int, .int], some .int⟩ := by decide +kernel
theorem d7_0 : decode prog_52_method_1_code 0 = .ok (.aload_n 0, 1) := by decide +kernel
theorem d7_1 : decode prog_52_method_1_code 1 = .ok (.invokespecial 1, 3) := by decide +kernel
theorem d7_4 : decode prog_52_method_1_code 4 = .ok (.aload_n 0, 1) := by decide +kernel
theorem d7_5 : decode prog_52_method_1_code 5 = .ok (.iconst 2, 1) := by decide +kernel
theorem d7_6 : decode prog_52_method_1_code 6 = .ok (.newarray .long, 2) := by decide +kernel
theorem d7_8 : decode prog_52_method_1_code 8 = .ok (.putfield 7, 3) := by decide +kernel
theorem d7_11 : decode prog_52_method_1_code 11 = .ok (.aload_n 0, 1) := by decide +kernel
theorem d7_12 : decode prog_52_method_1_code 12 = .ok (.aload_n 1, 1) := by decide +kernel
theorem d7_13 : decode prog_52_method_1_code 13 = .ok (.putfield 13, 3) := by decide +kernel
theorem d7_16 : decode prog_52_method_1_code 16 = .ok (.iconst 0, 1) := by decide +kernel
theorem d7_17 : decode prog_52_method_1_code 17 = .ok (.istore_n 2, 1) := by decide +kernel
theorem d7_18 : decode prog_52_method_1_code 18 = .ok (.iload_n 2, 1) := by decide +kernel
theorem d7_19 : decode prog_52_method_1_code 19 = .ok (.aload_n 1, 1) := by decide +kernel
theorem d7_20 : decode prog_52_method_1_code 20 = .ok (.arraylength, 1) := by decide +kernel
theorem d7_21 : decode prog_52_method_1_code 21 = .ok (.if_icmp .ge 60, 3) := by decide +kernel
theorem d7_24 : decode prog_52_method_1_code 24 = .ok (.aload_n 1, 1) := by decide +kernel
theorem d7_25 : decode prog_52_method_1_code 25 = .ok (.iload_n 2, 1) := by decide +kernel
theorem d7_26 : decode prog_52_method_1_code 26 = .ok (.iaload, 1) := by decide +kernel
theorem d7_27 : decode prog_52_method_1_code 27 = .ok (.sipush 128, 3) := by decide +kernel
theorem d7_30 : decode prog_52_method_1_code 30 = .ok (.if_icmp .ge 51, 3) := by decide +kernel
theorem d7_33 : decode prog_52_method_1_code 33 = .ok (.aload_n 1, 1) := by decide +kernel
theorem d7_34 : decode prog_52_method_1_code 34 = .ok (.iload_n 2, 1) := by decide +kernel
theorem d7_35 : decode prog_52_method_1_code 35 = .ok (.iaload, 1) := by decide +kernel
theorem d7_36 : decode prog_52_method_1_code 36 = .ok (.istore_n 3, 1) := by decide +kernel
theorem d7_37 : decode prog_52_method_1_code 37 = .ok (.iload_n 3, 1) := by decide +kernel
theorem d7_38 : decode prog_52_method_1_code 38 = .ok (.aload_n 1, 1) := by decide +kernel
theorem d7_39 : decode prog_52_method_1_code 39 = .ok (.iload_n 2, 1) := by decide +kernel
theorem d7_40 : decode prog_52_method_1_code 40 = .ok (.iconst 1, 1) := by decide +kernel
theorem d7_41 : decode prog_52_method_1_code 41 = .ok (.iadd, 1) := by decide +kernel
theorem d7_42 : decode prog_52_method_1_code 42 = .ok (.iaload, 1) := by decide +kernel
theorem d7_43 : decode prog_52_method_1_code 43 = .ok (.bipush 127, 2) := by decide +kernel
theorem d7_45 : decode prog_52_method_1_code 45 = .ok (.invokestatic 17, 3) := by decide +kernel
theorem d7_48 : decode prog_52_method_1_code 48 = .ok (.if_icmp .gt 27, 3) := by decide +kernel
theorem d7_51 : decode prog_52_method_1_code 51 = .ok (.aload_n 0, 1) := by decide +kernel
theorem d7_52 : decode prog_52_method_1_code 52 = .ok (.getfield 7, 3) := by decide +kernel
theorem d7_55 : decode prog_52_method_1_code 55 = .ok (.iload_n 3, 1) := by decide +kernel
theorem d7_56 : decode prog_52_method_1_code 56 = .ok (.bipush 6, 2) := by decide +kernel
theorem d7_58 : decode prog_52_method_1_code 58 = .ok (.ishr, 1) := by decide +kernel
theorem d7_59 : decode prog_52_method_1_code 59 = .ok (.dup2, 1) := by decide +kernel
theorem d7_60 : decode prog_52_method_1_code 60 = .ok (.laload, 1) := by decide +kernel
theorem d7_61 : decode prog_52_method_1_code 61 = .ok (.lconst 1, 1) := by decide +kernel
theorem d7_62 : decode prog_52_method_1_code 62 = .ok (.iload_n 3, 1) := by decide +kernel
theorem d7_63 : decode prog_52_method_1_code 63 = .ok (.bipush 63, 2) := by decide +kernel
theorem d7_65 : decode prog_52_method_1_code 65 = .ok (.iand, 1) := by decide +kernel
theorem d7_66 : decode prog_52_method_1_code 66 = .ok (.lshl, 1) := by decide +kernel
theorem d7_67 : decode prog_52_method_1_code 67 = .ok (.lor, 1) := by decide +kernel
theorem d7_68 : decode prog_52_method_1_code 68 = .ok (.lastore, 1) := by decide +kernel
theorem d7_69 : decode prog_52_method_1_code 69 = .ok (.iinc 3 1, 3) := by decide +kernel
theorem d7_72 : decode prog_52_method_1_code 72 = .ok (.goto (-35), 3) := by decide +kernel
theorem d7_75 : decode prog_52_method_1_code 75 = .ok (.iinc 2 2, 3) := by decide +kernel
theorem d7_78 : decode prog_52_method_1_code 78 = .ok (.goto (-60), 3) := by decide +kernel
theorem d7_81 : decode prog_52_method_1_code 81 = .ok (.return_, 1) := by decide +kernel
set_option maxRecDepth 65536 in
set_option maxHeartbeats 1000000 in
theorem rmCI (l : Launch) (Z : State) (a0 : Array Value) (hw : ∀ d ∈ tables_1, d.before a0 Z = true) (a1 : Nat) (a2 : Nat) (h0 : Heap) (n0 : Nat) (Z0 : n0 ≤ h0.size) (x : Int32) (hx0 : 0 ≤ x.toInt) (E1 : Exa Z h0 a1 "com/example/items_in_arrays/itemsinarrays/xpath/CodepointSet") (Fa : Fld Z h0 a1 "com/example/items_in_arrays/itemsinarrays/xpath/CodepointSet" "ascii" "[J" .null) (Fg : Fld Z h0 a1 "com/example/items_in_arrays/itemsinarrays/xpath/CodepointSet" "ranges" "[I" .null) (Ar : Ary Z h0 a2 .int [.int x, .int x]) (g1 : n0 ≤ a1) (hne : a1 ≠ a2) :
    Con l Z (⟨"com/example/items_in_arrays/itemsinarrays/xpath/CodepointSet", "<init>", "([I)V"⟩ : MethodName) prog_52_method_1_code 4 none ({ frames := 1, cells := 1, slots := 2, locals := 14 } : Room) #[(.ref a1), (.ref a2)] h0 (fun v h L => v = none ∧ Fr n0 L ∧ Keep h0 h [a1] ∧ Fld Z h a1 "com/example/items_in_arrays/itemsinarrays/xpath/CodepointSet" "ranges" "[I" (.ref a2)) := by
  refine Con.of pf_8 ?_
  intro p e s m below meth c T0 X0 hx hby hml hZ hown hnm hret hlk e0
  have hown : s.vm.findClass "com/example/items_in_arrays/itemsinarrays/xpath/CodepointSet" = some m.cls := hown
  have hnm : meth.name = "<init>" := hnm
  have N0 := Fr.nil n0
  have y1 := own_ltE E1
  have y2 := own_ltA Ar
  refine Go.cast (ef_rmCI m a1 a2) ?_
  have lt_1 := own_ltE E1
  have lt_2 := own_ltA Ar
  refine Go.st (S' := T0.setTop (mkF m 1 #[.val (.ref a1), .val (.ref a2), .unset, .unset] [(.ref a1)])) (fun t hr => XS.aloadN X0.here hx rfl (hb hby d7_0) rfl rfl hr) ?_
  obtain ⟨T_3, X_3, e_3, st_3⟩ := initO X0 hx hZ hown (hw _ (List.mem_of_getElem? (i := 134) rfl)) (hw _ (List.mem_of_getElem? (i := 50) rfl)) (hw _ (List.mem_of_getElem? (i := 51) rfl)) e0 (g := (mkF m 1 #[.val (.ref a1), .val (.ref a2), .unset, .unset] [(.ref a1)])) rfl (by rw [hml]; rfl) rfl (hb hby d7_1) (by decide) (W := 0) (by show 2 * 0 + _ ≤ _; exact Nat.le_of_eq rfl) (by decide)
  refine Go.st (S' := T_3.setTop (mkF m 4 #[.val (.ref a1), .val (.ref a2), .unset, .unset] [])) st_3 ?_
  refine Go.st (S' := T_3.setTop (mkF m 5 #[.val (.ref a1), .val (.ref a2), .unset, .unset] [(.ref a1)])) (fun t hr => XS.aloadN X_3.here hx rfl (hb hby d7_4) rfl rfl hr) ?_
  refine Go.st (S' := T_3.setTop (mkF m 6 #[.val (.ref a1), .val (.ref a2), .unset, .unset] [(.int (2 : Int32)), (.ref a1)])) (fun t hr => XS.iconst X_3.here hx rfl (hb hby d7_5) hr) ?_
  obtain ⟨T_4, h_4, X_4, e_4, E_4, A_4, st_4⟩ := own_newP X_3 hx hZ (ty := .long) rfl (hw _ (List.mem_of_getElem? (i := 135) rfl)) e_3 (g := (mkF m 6 #[.val (.ref a1), .val (.ref a2), .unset, .unset] [(.int (2 : Int32)), (.ref a1)])) rfl (hb hby d7_6) rfl (by decide) (cap := 2) (by decide) (by decide) (by decide) (by decide)
  obtain ⟨ad_4, g_4⟩ : ∃ z, z = h0.size := ⟨_, rfl⟩
  rw [← g_4] at A_4 st_4
  have z_4 := E_4.1
  have y_4 := own_ltA A_4
  have B_4 : Ary Z h_4 ad_4 .long [(.long (0 : Int64)), (.long (0 : Int64))] := A_4
  refine Go.st (S' := T_4.setTop (mkF m 8 #[.val (.ref a1), .val (.ref a2), .unset, .unset] [(.ref ad_4), (.ref a1)])) st_4 ?_
  have F_5 := (Fa.ext E_4)
  have F_6 := (E1.ext E_4)
  obtain ⟨T_7, h_7, X_7, e_7, W_7, st_7⟩ := putF X_4 hx hZ hown (host := "") (Or.inl (hw _ (List.mem_of_getElem? (i := 136) rfl))) Via.refl e_4 F_5 F_6 (Or.inr ⟨(hw _ (List.mem_of_getElem? (i := 137) rfl)), rfl, hnm⟩) (hw _ (List.mem_of_getElem? (i := 130) rfl)) (ty := (.array .long)) (by decide) rfl rfl (g := (mkF m 8 #[.val (.ref a1), .val (.ref a2), .unset, .unset] [(.ref ad_4), (.ref a1)])) rfl rfl (hb hby d7_8)
  have N_7 := Fr.snoc X_7 N0 (by omega)
  have z_7 := W_7.size
  have F_7 := F_5.same W_7
  refine Go.st (S' := T_7.setTop (mkF m 11 #[.val (.ref a1), .val (.ref a2), .unset, .unset] [])) st_7 ?_
  refine Go.st (S' := T_7.setTop (mkF m 12 #[.val (.ref a1), .val (.ref a2), .unset, .unset] [(.ref a1)])) (fun t hr => XS.aloadN X_7.here hx rfl (hb hby d7_11) rfl rfl hr) ?_
  refine Go.st (S' := T_7.setTop (mkF m 13 #[.val (.ref a1), .val (.ref a2), .unset, .unset] [(.ref a2), (.ref a1)])) (fun t hr => XS.aloadN X_7.here hx rfl (hb hby d7_12) rfl rfl hr) ?_
  have F_8 := ((Fg.ext E_4).other W_7 (Or.inr (slot_ne (t := (.array .int)) (t' := (.array .long)) (Or.inr (hw _ (List.mem_of_getElem? (i := 139) rfl))) (Or.inr (hw _ (List.mem_of_getElem? (i := 137) rfl))) (by decide) (by decide) (by decide))))
  have F_9 := (F_6.wr W_7)
  obtain ⟨T_10, h_10, X_10, e_10, W_10, st_10⟩ := putF X_7 hx hZ hown (host := "") (Or.inl (hw _ (List.mem_of_getElem? (i := 138) rfl))) Via.refl e_7 F_8 F_9 (Or.inr ⟨(hw _ (List.mem_of_getElem? (i := 139) rfl)), rfl, hnm⟩) (hw _ (List.mem_of_getElem? (i := 130) rfl)) (ty := (.array .int)) (by decide) rfl rfl (g := (mkF m 13 #[.val (.ref a1), .val (.ref a2), .unset, .unset] [(.ref a2), (.ref a1)])) rfl rfl (hb hby d7_13)
  have N_10 := Fr.snoc X_10 N_7 (by omega)
  have z_10 := W_10.size
  have F_10 := F_8.same W_10
  refine Go.st (S' := T_10.setTop (mkF m 16 #[.val (.ref a1), .val (.ref a2), .unset, .unset] [])) st_10 ?_
  refine Go.st (S' := T_10.setTop (mkF m 17 #[.val (.ref a1), .val (.ref a2), .unset, .unset] [(.int (0 : Int32))])) (fun t hr => XS.iconst X_10.here hx rfl (hb hby d7_16) hr) ?_
  refine Go.st (S' := T_10.setTop (mkF m 18 #[.val (.ref a1), .val (.ref a2), .val (.int (0 : Int32)), .unset] [])) (fun t hr => XS.istoreN X_10.here hx rfl (hb hby d7_17) rfl (l' := #[.val (.ref a1), .val (.ref a2), .val (.int (0 : Int32)), .unset]) rfl hr) ?_
  refine Go.st (S' := T_10.setTop (mkF m 19 #[.val (.ref a1), .val (.ref a2), .val (.int (0 : Int32)), .unset] [(.int (0 : Int32))])) (fun t hr => XS.iloadN X_10.here hx rfl (hb hby d7_18) rfl hr) ?_
  refine Go.st (S' := T_10.setTop (mkF m 20 #[.val (.ref a1), .val (.ref a2), .val (.int (0 : Int32)), .unset] [(.ref a2), (.int (0 : Int32))])) (fun t hr => XS.aloadN X_10.here hx rfl (hb hby d7_19) rfl rfl hr) ?_
  have F_11 := (((Ar.ext E_4).other W_7 (own_ne (by omega))).other W_10 (own_ne (by omega)))
  refine Go.st (S' := T_10.setTop (mkF m 21 #[.val (.ref a1), .val (.ref a2), .val (.int (0 : Int32)), .unset] [(.int (2 : Int32)), (.int (0 : Int32))])) (own_len X_10 hx hZ e_10 F_11 (g := (mkF m 20 #[.val (.ref a1), .val (.ref a2), .val (.int (0 : Int32)), .unset] [(.ref a2), (.int (0 : Int32))])) rfl rfl (hb hby d7_20)) ?_
  refine Go.st (S' := T_10.setTop (mkF m 24 #[.val (.ref a1), .val (.ref a2), .val (.int (0 : Int32)), .unset] [])) (fun t hr => XS.icmpNo X_10.here hx rfl (hb hby d7_21) rfl (XT.ii_ge_f (by decide)) hr) ?_
  refine Go.st (S' := T_10.setTop (mkF m 25 #[.val (.ref a1), .val (.ref a2), .val (.int (0 : Int32)), .unset] [(.ref a2)])) (fun t hr => XS.aloadN X_10.here hx rfl (hb hby d7_24) rfl rfl hr) ?_
  refine Go.st (S' := T_10.setTop (mkF m 26 #[.val (.ref a1), .val (.ref a2), .val (.int (0 : Int32)), .unset] [(.int (0 : Int32)), (.ref a2)])) (fun t hr => XS.iloadN X_10.here hx rfl (hb hby d7_25) rfl hr) ?_
  refine Go.st (S' := T_10.setTop (mkF m 27 #[.val (.ref a1), .val (.ref a2), .val (.int (0 : Int32)), .unset] [(.int x)])) (own_ldI X_10 hx hZ e_10 F_11 (j := (0 : Int32)) (v := (.int x)) (by decide) (by simp only [List.length_cons, List.length_nil]; decide) rfl (g := (mkF m 26 #[.val (.ref a1), .val (.ref a2), .val (.int (0 : Int32)), .unset] [(.int (0 : Int32)), (.ref a2)])) rfl rfl (hb hby d7_26)) ?_
  refine Go.st (S' := T_10.setTop (mkF m 30 #[.val (.ref a1), .val (.ref a2), .val (.int (0 : Int32)), .unset] [(.int (128 : Int32)), (.int x)])) (fun t hr => XS.sipush X_10.here hx rfl (hb hby d7_27) hr) ?_
  by_cases hc12 : x < (128 : Int32)
  · refine Go.st (S' := T_10.setTop (mkF m 33 #[.val (.ref a1), .val (.ref a2), .val (.int (0 : Int32)), .unset] [])) (fun t hr => XS.icmpNo X_10.here hx rfl (hb hby d7_30) rfl (XT.ii_ge_f hc12) hr) ?_
    refine Go.st (S' := T_10.setTop (mkF m 34 #[.val (.ref a1), .val (.ref a2), .val (.int (0 : Int32)), .unset] [(.ref a2)])) (fun t hr => XS.aloadN X_10.here hx rfl (hb hby d7_33) rfl rfl hr) ?_
    refine Go.st (S' := T_10.setTop (mkF m 35 #[.val (.ref a1), .val (.ref a2), .val (.int (0 : Int32)), .unset] [(.int (0 : Int32)), (.ref a2)])) (fun t hr => XS.iloadN X_10.here hx rfl (hb hby d7_34) rfl hr) ?_
    refine Go.st (S' := T_10.setTop (mkF m 36 #[.val (.ref a1), .val (.ref a2), .val (.int (0 : Int32)), .unset] [(.int x)])) (own_ldI X_10 hx hZ e_10 F_11 (j := (0 : Int32)) (v := (.int x)) (by decide) (by simp only [List.length_cons, List.length_nil]; decide) rfl (g := (mkF m 35 #[.val (.ref a1), .val (.ref a2), .val (.int (0 : Int32)), .unset] [(.int (0 : Int32)), (.ref a2)])) rfl rfl (hb hby d7_35)) ?_
    refine Go.st (S' := T_10.setTop (mkF m 37 #[.val (.ref a1), .val (.ref a2), .val (.int (0 : Int32)), .val (.int x)] [])) (fun t hr => XS.istoreN X_10.here hx rfl (hb hby d7_36) rfl (l' := #[.val (.ref a1), .val (.ref a2), .val (.int (0 : Int32)), .val (.int x)]) rfl hr) ?_
    refine Go.st (S' := T_10.setTop (mkF m 38 #[.val (.ref a1), .val (.ref a2), .val (.int (0 : Int32)), .val (.int x)] [(.int x)])) (fun t hr => XS.iloadN X_10.here hx rfl (hb hby d7_37) rfl hr) ?_
    refine Go.st (S' := T_10.setTop (mkF m 39 #[.val (.ref a1), .val (.ref a2), .val (.int (0 : Int32)), .val (.int x)] [(.ref a2), (.int x)])) (fun t hr => XS.aloadN X_10.here hx rfl (hb hby d7_38) rfl rfl hr) ?_
    refine Go.st (S' := T_10.setTop (mkF m 40 #[.val (.ref a1), .val (.ref a2), .val (.int (0 : Int32)), .val (.int x)] [(.int (0 : Int32)), (.ref a2), (.int x)])) (fun t hr => XS.iloadN X_10.here hx rfl (hb hby d7_39) rfl hr) ?_
    refine Go.st (S' := T_10.setTop (mkF m 41 #[.val (.ref a1), .val (.ref a2), .val (.int (0 : Int32)), .val (.int x)] [(.int (1 : Int32)), (.int (0 : Int32)), (.ref a2), (.int x)])) (fun t hr => XS.iconst X_10.here hx rfl (hb hby d7_40) hr) ?_
    refine Go.st (S' := T_10.setTop (mkF m 42 #[.val (.ref a1), .val (.ref a2), .val (.int (0 : Int32)), .val (.int x)] [(.int (1 : Int32)), (.ref a2), (.int x)])) (fun t hr => XS.iadd X_10.here hx rfl (hb hby d7_41) rfl hr) ?_
    refine Go.st (S' := T_10.setTop (mkF m 43 #[.val (.ref a1), .val (.ref a2), .val (.int (0 : Int32)), .val (.int x)] [(.int x), (.int x)])) (own_ldI X_10 hx hZ e_10 F_11 (j := (1 : Int32)) (v := (.int x)) (by decide) (by simp only [List.length_cons, List.length_nil]; decide) rfl (g := (mkF m 42 #[.val (.ref a1), .val (.ref a2), .val (.int (0 : Int32)), .val (.int x)] [(.int (1 : Int32)), (.ref a2), (.int x)])) rfl rfl (hb hby d7_42)) ?_
    refine Go.st (S' := T_10.setTop (mkF m 45 #[.val (.ref a1), .val (.ref a2), .val (.int (0 : Int32)), .val (.int x)] [(.int (127 : Int32)), (.int x), (.int x)])) (fun t hr => XS.bipush X_10.here hx rfl (hb hby d7_43) hr) ?_
    obtain ⟨v_13, T_13, h_13, L_13, X_13, e_13, Q_13, st_13⟩ := own_callS X_10 hx hZ (y := ⟨"java/lang/Math", "min", "(II)I"⟩) hown (hw _ (List.mem_of_getElem? (i := 140) rfl)) (hw _ (List.mem_of_getElem? (i := 141) rfl)) (hw _ (List.mem_of_getElem? (i := 142) rfl)) (hw _ (List.mem_of_getElem? (i := 143) rfl)) (by decide) e_10 (argsL := [(.int x), (.int (127 : Int32))]) (rest := [(.int x)]) (rmMin l Z a0 hw x 127 h_10 n0 (by omega)) (g := (mkF m 45 #[.val (.ref a1), .val (.ref a2), .val (.int (0 : Int32)), .val (.int x)] [(.int (127 : Int32)), (.int x), (.int x)])) rfl (by rw [hml]; rfl) (lenOf pd_1 rfl) rfl (hb hby d7_45) (W := 1) (by show 2 * 0 + _ ≤ _; exact Nat.le_of_eq rfl) (by decide) (by decide) (by decide) (by decide)
    obtain ⟨rfl, N_13, hh_13⟩ := Q_13
    have N_13' := Fr.app N_10 N_13
    rw [hh_13] at e_13
    refine Go.st (S' := T_13.setTop (mkF m 48 #[.val (.ref a1), .val (.ref a2), .val (.int (0 : Int32)), .val (.int x)] [(.int (own_min x (127 : Int32))), (.int x)])) st_13 ?_
    have hmn14 : ¬ own_min x (127 : Int32) < x := by rw [own_min_eq hc12, Int32.lt_iff_toInt_lt]; omega
    refine Go.st (S' := T_13.setTop (mkF m 51 #[.val (.ref a1), .val (.ref a2), .val (.int (0 : Int32)), .val (.int x)] [])) (fun t hr => XS.icmpNo X_13.here hx rfl (hb hby d7_48) rfl (XT.ii_gt_f hmn14) hr) ?_
    refine Go.st (S' := T_13.setTop (mkF m 52 #[.val (.ref a1), .val (.ref a2), .val (.int (0 : Int32)), .val (.int x)] [(.ref a1)])) (fun t hr => XS.aloadN X_13.here hx rfl (hb hby d7_51) rfl rfl hr) ?_
    have F_15 := (F_7.other W_10 (Or.inr (slot_ne (t := (.array .long)) (t' := (.array .int)) (Or.inr (hw _ (List.mem_of_getElem? (i := 137) rfl))) (Or.inr (hw _ (List.mem_of_getElem? (i := 139) rfl))) (by decide) (by decide) (by decide))))
    obtain ⟨T_16, X_16, e_16, st_16⟩ := getF X_13 hx hZ hown (host := "") (Or.inl (hw _ (List.mem_of_getElem? (i := 136) rfl))) Via.refl e_13 F_15 (g := (mkF m 52 #[.val (.ref a1), .val (.ref a2), .val (.int (0 : Int32)), .val (.int x)] [(.ref a1)])) rfl rfl (hb hby d7_52)
    refine Go.st (S' := T_16.setTop (mkF m 55 #[.val (.ref a1), .val (.ref a2), .val (.int (0 : Int32)), .val (.int x)] [(.ref ad_4)])) st_16 ?_
    refine Go.st (S' := T_16.setTop (mkF m 56 #[.val (.ref a1), .val (.ref a2), .val (.int (0 : Int32)), .val (.int x)] [(.int x), (.ref ad_4)])) (fun t hr => XS.iloadN X_16.here hx rfl (hb hby d7_55) rfl hr) ?_
    refine Go.st (S' := T_16.setTop (mkF m 58 #[.val (.ref a1), .val (.ref a2), .val (.int (0 : Int32)), .val (.int x)] [(.int (6 : Int32)), (.int x), (.ref ad_4)])) (fun t hr => XS.bipush X_16.here hx rfl (hb hby d7_56) hr) ?_
    refine Go.st (S' := T_16.setTop (mkF m 59 #[.val (.ref a1), .val (.ref a2), .val (.int (0 : Int32)), .val (.int x)] [(.int (x >>> ((6 : Int32) &&& 31))), (.ref ad_4)])) (fun t hr => XT.ishr X_16.here hx rfl (hb hby d7_58) rfl hr) ?_
    obtain ⟨vi6, hvi6⟩ : ∃ z : Int32, z = (x >>> ((6 : Int32) &&& 31)) := ⟨_, rfl⟩
    refine Go.cast (g' := (mkF m 59 #[.val (.ref a1), .val (.ref a2), .val (.int (0 : Int32)), .val (.int x)] [(.int vi6), (.ref ad_4)])) (by rw [show (x >>> ((6 : Int32) &&& 31)) = vi6 from hvi6.symm]) ?_
    have ri6 : 0 ≤ vi6.toInt ∧ vi6.toInt < 2 := by
      have q := c_ishr x 6 6 (by decide)
      have q4 := hc12
      rw [Int32.lt_iff_toInt_lt, own_128] at q4
      rw [hvi6, q]; omega
    obtain ⟨vlo, hvlo⟩ := own_longs_at (a := 0) (b := 0) (i := vi6.toNatClampNeg) (by have := own_in ri6.1; omega)
    refine Go.st (S' := T_16.setTop (mkF m 60 #[.val (.ref a1), .val (.ref a2), .val (.int (0 : Int32)), .val (.int x)] [(.int vi6), (.ref ad_4), (.int vi6), (.ref ad_4)])) (fun t hr => XT.dup2 X_16.here hx rfl (hb hby d7_59) rfl rfl rfl hr) ?_
    have F_17 := ((B_4.other W_7 (own_ne (by omega))).other W_10 (own_ne (by omega)))
    refine Go.st (S' := T_16.setTop (mkF m 61 #[.val (.ref a1), .val (.ref a2), .val (.int (0 : Int32)), .val (.int x)] [(.long vlo), (.int vi6), (.ref ad_4)])) (own_ldJ X_16 hx hZ e_16 F_17 (j := vi6) (v := (.long vlo)) ri6.1 ri6.2 hvlo (g := (mkF m 60 #[.val (.ref a1), .val (.ref a2), .val (.int (0 : Int32)), .val (.int x)] [(.int vi6), (.ref ad_4), (.int vi6), (.ref ad_4)])) rfl rfl (hb hby d7_60)) ?_
    refine Go.st (S' := T_16.setTop (mkF m 62 #[.val (.ref a1), .val (.ref a2), .val (.int (0 : Int32)), .val (.int x)] [(.long (1 : Int64)), (.long vlo), (.int vi6), (.ref ad_4)])) (fun t hr => XT.lconst X_16.here hx rfl (hb hby d7_61) hr) ?_
    refine Go.st (S' := T_16.setTop (mkF m 63 #[.val (.ref a1), .val (.ref a2), .val (.int (0 : Int32)), .val (.int x)] [(.int x), (.long (1 : Int64)), (.long vlo), (.int vi6), (.ref ad_4)])) (fun t hr => XS.iloadN X_16.here hx rfl (hb hby d7_62) rfl hr) ?_
    refine Go.st (S' := T_16.setTop (mkF m 65 #[.val (.ref a1), .val (.ref a2), .val (.int (0 : Int32)), .val (.int x)] [(.int (63 : Int32)), (.int x), (.long (1 : Int64)), (.long vlo), (.int vi6), (.ref ad_4)])) (fun t hr => XS.bipush X_16.here hx rfl (hb hby d7_63) hr) ?_
    refine Go.st (S' := T_16.setTop (mkF m 66 #[.val (.ref a1), .val (.ref a2), .val (.int (0 : Int32)), .val (.int x)] [(.int (x &&& (63 : Int32))), (.long (1 : Int64)), (.long vlo), (.int vi6), (.ref ad_4)])) (fun t hr => XS.iand X_16.here hx rfl (hb hby d7_65) rfl hr) ?_
    refine Go.st (S' := T_16.setTop (mkF m 67 #[.val (.ref a1), .val (.ref a2), .val (.int (0 : Int32)), .val (.int x)] [(.long ((1 : Int64) <<< ((x &&& (63 : Int32)).toInt64 &&& 63))), (.long vlo), (.int vi6), (.ref ad_4)])) (fun t hr => XT.lshl X_16.here hx rfl (hb hby d7_66) rfl hr) ?_
    refine Go.st (S' := T_16.setTop (mkF m 68 #[.val (.ref a1), .val (.ref a2), .val (.int (0 : Int32)), .val (.int x)] [(.long (vlo ||| ((1 : Int64) <<< ((x &&& (63 : Int32)).toInt64 &&& 63)))), (.int vi6), (.ref ad_4)])) (fun t hr => XT.lor X_16.here hx rfl (hb hby d7_67) rfl hr) ?_
    obtain ⟨T_18, h_18, X_18, e_18, W_18, A_18, st_18⟩ := own_stJ X_16 hx hZ e_16 F_17 (j := vi6) ri6.1 ri6.2 (g := (mkF m 68 #[.val (.ref a1), .val (.ref a2), .val (.int (0 : Int32)), .val (.int x)] [(.long (vlo ||| ((1 : Int64) <<< ((x &&& (63 : Int32)).toInt64 &&& 63)))), (.int vi6), (.ref ad_4)])) rfl rfl (hb hby d7_68)
    have N_18 := Fr.snoc X_18 N_13' (by omega)
    have z_18 := W_18.size
    refine Go.st (S' := T_18.setTop (mkF m 69 #[.val (.ref a1), .val (.ref a2), .val (.int (0 : Int32)), .val (.int x)] [])) st_18 ?_
    obtain ⟨vc1, hvc1⟩ : ∃ z : Int32, z = (x + (1 : Int32)) := ⟨_, rfl⟩
    refine Go.st (S' := T_18.setTop (mkF m 72 #[.val (.ref a1), .val (.ref a2), .val (.int (0 : Int32)), .val (.int vc1)] [])) (fun t hr => by subst hvc1; exact XS.iinc X_18.here hx rfl (hb hby d7_69) rfl (l' := _) rfl hr) ?_
    refine Go.st (S' := T_18.setTop (mkF m 37 #[.val (.ref a1), .val (.ref a2), .val (.int (0 : Int32)), .val (.int vc1)] [])) (fun t hr => XS.goto X_18.here hx rfl (pc0 := 72) (pc' := 37) rfl (hb hby d7_72) (by decide) (by decide) hr) ?_
    refine Go.st (S' := T_18.setTop (mkF m 38 #[.val (.ref a1), .val (.ref a2), .val (.int (0 : Int32)), .val (.int vc1)] [(.int vc1)])) (fun t hr => XS.iloadN X_18.here hx rfl (hb hby d7_37) rfl hr) ?_
    refine Go.st (S' := T_18.setTop (mkF m 39 #[.val (.ref a1), .val (.ref a2), .val (.int (0 : Int32)), .val (.int vc1)] [(.ref a2), (.int vc1)])) (fun t hr => XS.aloadN X_18.here hx rfl (hb hby d7_38) rfl rfl hr) ?_
    refine Go.st (S' := T_18.setTop (mkF m 40 #[.val (.ref a1), .val (.ref a2), .val (.int (0 : Int32)), .val (.int vc1)] [(.int (0 : Int32)), (.ref a2), (.int vc1)])) (fun t hr => XS.iloadN X_18.here hx rfl (hb hby d7_39) rfl hr) ?_
    refine Go.st (S' := T_18.setTop (mkF m 41 #[.val (.ref a1), .val (.ref a2), .val (.int (0 : Int32)), .val (.int vc1)] [(.int (1 : Int32)), (.int (0 : Int32)), (.ref a2), (.int vc1)])) (fun t hr => XS.iconst X_18.here hx rfl (hb hby d7_40) hr) ?_
    refine Go.st (S' := T_18.setTop (mkF m 42 #[.val (.ref a1), .val (.ref a2), .val (.int (0 : Int32)), .val (.int vc1)] [(.int (1 : Int32)), (.ref a2), (.int vc1)])) (fun t hr => XS.iadd X_18.here hx rfl (hb hby d7_41) rfl hr) ?_
    have F_19 := (F_11.other W_18 (own_ne (by omega)))
    refine Go.st (S' := T_18.setTop (mkF m 43 #[.val (.ref a1), .val (.ref a2), .val (.int (0 : Int32)), .val (.int vc1)] [(.int x), (.int vc1)])) (own_ldI X_18 hx hZ e_18 F_19 (j := (1 : Int32)) (v := (.int x)) (by decide) (by simp only [List.length_cons, List.length_nil]; decide) rfl (g := (mkF m 42 #[.val (.ref a1), .val (.ref a2), .val (.int (0 : Int32)), .val (.int vc1)] [(.int (1 : Int32)), (.ref a2), (.int vc1)])) rfl rfl (hb hby d7_42)) ?_
    refine Go.st (S' := T_18.setTop (mkF m 45 #[.val (.ref a1), .val (.ref a2), .val (.int (0 : Int32)), .val (.int vc1)] [(.int (127 : Int32)), (.int x), (.int vc1)])) (fun t hr => XS.bipush X_18.here hx rfl (hb hby d7_43) hr) ?_
    obtain ⟨v_20, T_20, h_20, L_20, X_20, e_20, Q_20, st_20⟩ := own_callS X_18 hx hZ (y := ⟨"java/lang/Math", "min", "(II)I"⟩) hown (hw _ (List.mem_of_getElem? (i := 140) rfl)) (hw _ (List.mem_of_getElem? (i := 141) rfl)) (hw _ (List.mem_of_getElem? (i := 142) rfl)) (hw _ (List.mem_of_getElem? (i := 143) rfl)) (by decide) e_18 (argsL := [(.int x), (.int (127 : Int32))]) (rest := [(.int vc1)]) (rmMin l Z a0 hw x 127 h_18 n0 (by omega)) (g := (mkF m 45 #[.val (.ref a1), .val (.ref a2), .val (.int (0 : Int32)), .val (.int vc1)] [(.int (127 : Int32)), (.int x), (.int vc1)])) rfl (by rw [hml]; rfl) (lenOf pd_1 rfl) rfl (hb hby d7_45) (W := 1) (by show 2 * 0 + _ ≤ _; exact Nat.le_of_eq rfl) (by decide) (by decide) (by decide) (by decide)
    obtain ⟨rfl, N_20, hh_20⟩ := Q_20
    have N_20' := Fr.app N_18 N_20
    rw [hh_20] at e_20
    refine Go.st (S' := T_20.setTop (mkF m 48 #[.val (.ref a1), .val (.ref a2), .val (.int (0 : Int32)), .val (.int vc1)] [(.int (own_min x (127 : Int32))), (.int vc1)])) st_20 ?_
    have hmn21 : own_min x (127 : Int32) < vc1 := by
      have q := c_iadd x 1
      have q2 := rng32 (x + 1)
      have q3 : (1 : Int32).toInt = 1 := by decide
      have q4 := hc12
      rw [Int32.lt_iff_toInt_lt, own_128] at q4
      rw [own_min_eq hc12, hvc1, Int32.lt_iff_toInt_lt]
      omega
    refine Go.st (S' := T_20.setTop (mkF m 75 #[.val (.ref a1), .val (.ref a2), .val (.int (0 : Int32)), .val (.int vc1)] [])) (fun t hr => XS.icmpYes X_20.here hx rfl (pc0 := 48) (pc' := 75) rfl (hb hby d7_48) rfl (XT.ii_gt_t hmn21) (by decide) (by decide) hr) ?_
    refine Go.st (S' := T_20.setTop (mkF m 78 #[.val (.ref a1), .val (.ref a2), .val (.int (2 : Int32)), .val (.int vc1)] [])) (fun t hr => XS.iinc X_20.here hx rfl (hb hby d7_75) rfl (l' := #[.val (.ref a1), .val (.ref a2), .val (.int (2 : Int32)), .val (.int vc1)]) rfl hr) ?_
    refine Go.st (S' := T_20.setTop (mkF m 18 #[.val (.ref a1), .val (.ref a2), .val (.int (2 : Int32)), .val (.int vc1)] [])) (fun t hr => XS.goto X_20.here hx rfl (pc0 := 78) (pc' := 18) rfl (hb hby d7_78) (by decide) (by decide) hr) ?_
    refine Go.st (S' := T_20.setTop (mkF m 19 #[.val (.ref a1), .val (.ref a2), .val (.int (2 : Int32)), .val (.int vc1)] [(.int (2 : Int32))])) (fun t hr => XS.iloadN X_20.here hx rfl (hb hby d7_18) rfl hr) ?_
    refine Go.st (S' := T_20.setTop (mkF m 20 #[.val (.ref a1), .val (.ref a2), .val (.int (2 : Int32)), .val (.int vc1)] [(.ref a2), (.int (2 : Int32))])) (fun t hr => XS.aloadN X_20.here hx rfl (hb hby d7_19) rfl rfl hr) ?_
    refine Go.st (S' := T_20.setTop (mkF m 21 #[.val (.ref a1), .val (.ref a2), .val (.int (2 : Int32)), .val (.int vc1)] [(.int (2 : Int32)), (.int (2 : Int32))])) (own_len X_20 hx hZ e_20 F_19 (g := (mkF m 20 #[.val (.ref a1), .val (.ref a2), .val (.int (2 : Int32)), .val (.int vc1)] [(.ref a2), (.int (2 : Int32))])) rfl rfl (hb hby d7_20)) ?_
    refine Go.st (S' := T_20.setTop (mkF m 81 #[.val (.ref a1), .val (.ref a2), .val (.int (2 : Int32)), .val (.int vc1)] [])) (fun t hr => XS.icmpYes X_20.here hx rfl (pc0 := 21) (pc' := 81) rfl (hb hby d7_21) rfl (XT.ii_ge_t (by decide)) (by decide) (by decide) hr) ?_
    refine Go.retV X_20 hx hlk hret (hb hby d7_81) (by decide) (by decide) ?_
    try rw [e_20]
    have F_22 := (F_10.other W_18 (Or.inl (own_ne (by omega))))
    exact ⟨rfl, N_20', (((((Keep.refl h0 [a1]).ext E_4).wr W_7 (Or.inl (by simp))).wr W_10 (Or.inl (by simp))).wr W_18 (Or.inr (by omega))), F_22⟩
  · refine Go.st (S' := T_10.setTop (mkF m 81 #[.val (.ref a1), .val (.ref a2), .val (.int (0 : Int32)), .unset] [])) (fun t hr => XS.icmpYes X_10.here hx rfl (pc0 := 30) (pc' := 81) rfl (hb hby d7_30) rfl (XT.ii_ge_t hc12) (by decide) (by decide) hr) ?_
    refine Go.retV X_10 hx hlk hret (hb hby d7_81) (by decide) (by decide) ?_
    try rw [e_10]
    exact ⟨rfl, N_10, ((((Keep.refl h0 [a1]).ext E_4).wr W_7 (Or.inl (by simp))).wr W_10 (Or.inl (by simp))), F_10⟩
theorem ef_rmRg (m : MethodId) (x : Int32) : entryFrame m #[(.int x), (.int (x))] 2 = mkF m 0 #[.val (.int x), .val (.int (x))] [] := by first | (simp [entryFrame, mkF, argsToLocals, Value.category]; done) | rfl
theorem pf_9 : plainFor (⟨"com/example/items_in_arrays/itemsinarrays/xpath/CodepointSet", "range", "(II)Lcom/example/items_in_arrays/itemsinarrays/xpath/CodepointSet;"⟩ : MethodName) = true := plainFor_of_name (by first | (simp [plainName, overriddenIn]; done) | decide +kernel)
theorem pd_2 : parseMethodDescriptor "([I)V" = some ⟨[(.array .int)], none⟩ := by decide +kernel
theorem d8_0 : decode prog_52_method_2_code 0 = .ok (.new 8, 3) := by decide +kernel
theorem d8_3 : decode prog_52_method_2_code 3 = .ok (.dup, 1) := by decide +kernel
theorem d8_4 : decode prog_52_method_2_code 4 = .ok (.iconst 2, 1) := by decide +kernel
theorem d8_5 : decode prog_52_method_2_code 5 = .ok (.newarray .int, 2) := by decide +kernel
theorem d8_7 : decode prog_52_method_2_code 7 = .ok (.dup, 1) := by decide +kernel
theorem d8_8 : decode prog_52_method_2_code 8 = .ok (.iconst 0, 1) := by decide +kernel
theorem d8_9 : decode prog_52_method_2_code 9 = .ok (.iload_n 0, 1) := by decide +kernel
theorem d8_10 : decode prog_52_method_2_code 10 = .ok (.iastore, 1) := by decide +kernel
theorem d8_11 : decode prog_52_method_2_code 11 = .ok (.dup, 1) := by decide +kernel
theorem d8_12 : decode prog_52_method_2_code 12 = .ok (.iconst 1, 1) := by decide +kernel
theorem d8_13 : decode prog_52_method_2_code 13 = .ok (.iload_n 1, 1) := by decide +kernel
theorem d8_14 : decode prog_52_method_2_code 14 = .ok (.iastore, 1) := by decide +kernel
theorem d8_15 : decode prog_52_method_2_code 15 = .ok (.invokespecial 23, 3) := by decide +kernel
theorem d8_18 : decode prog_52_method_2_code 18 = .ok (.areturn, 1) := by decide +kernel
set_option maxRecDepth 65536 in
set_option maxHeartbeats 1000000 in
theorem rmRg (l : Launch) (Z : State) (a0 : Array Value) (hw : ∀ d ∈ tables_1, d.before a0 Z = true) (x : Int32) (h0 : Heap) (n0 : Nat) (Z0 : n0 ≤ h0.size) (hx0 : 0 ≤ x.toInt) :
    Con l Z (⟨"com/example/items_in_arrays/itemsinarrays/xpath/CodepointSet", "range", "(II)Lcom/example/items_in_arrays/itemsinarrays/xpath/CodepointSet;"⟩ : MethodName) prog_52_method_2_code 2 (some (.object "com/example/items_in_arrays/itemsinarrays/xpath/CodepointSet")) ({ frames := 2, cells := 3, slots := 6, locals := 30 } : Room) #[(.int x), (.int (x))] h0 (fun v h L => ∃ cs : Nat, v = some (.ref cs) ∧ Fr n0 L ∧ Keep h0 h [] ∧ Exa Z h cs "com/example/items_in_arrays/itemsinarrays/xpath/CodepointSet" ∧ ∃ ra : Nat, Fld Z h cs "com/example/items_in_arrays/itemsinarrays/xpath/CodepointSet" "ranges" "[I" (.ref ra) ∧ Ary Z h ra .int [.int x, .int x]) := by
  refine Con.of pf_9 ?_
  intro p e s m below meth c T0 X0 hx hby hml hZ hown hnm hret hlk e0
  have hown : s.vm.findClass "com/example/items_in_arrays/itemsinarrays/xpath/CodepointSet" = some m.cls := hown
  have hnm : meth.name = "range" := hnm
  have N0 := Fr.nil n0
  refine Go.cast (ef_rmRg m x) ?_
  obtain ⟨T_1, h_1, X_1, e_1, E_1, A_1, D_1, -, st_1⟩ := newO X0 hx hZ hown (hw _ (List.mem_of_getElem? (i := 129) rfl)) (hw _ (List.mem_of_getElem? (i := 130) rfl)) (hw _ (List.mem_of_getElem? (i := 127) rfl)) e0 (g := (mkF m 0 #[.val (.int x), .val (.int (x))] [])) rfl (hb hby d8_0) (by decide) (by decide)
  obtain ⟨ad_1, g_1⟩ : ∃ z, z = h0.size := ⟨_, rfl⟩
  rw [← g_1] at A_1 D_1 st_1
  have z_1 := E_1.1
  have y_1 := own_ltE A_1
  have F_1_ascii : Fld Z h_1 ad_1 "com/example/items_in_arrays/itemsinarrays/xpath/CodepointSet" "ascii" "[J" .null := D_1 (Or.inr (hw _ (List.mem_of_getElem? (i := 137) rfl))) (ty := (.array .long)) (by decide)
  have F_1_ranges : Fld Z h_1 ad_1 "com/example/items_in_arrays/itemsinarrays/xpath/CodepointSet" "ranges" "[I" .null := D_1 (Or.inr (hw _ (List.mem_of_getElem? (i := 139) rfl))) (ty := (.array .int)) (by decide)
  refine Go.st (S' := T_1.setTop (mkF m 3 #[.val (.int x), .val (.int (x))] [(.ref ad_1)])) st_1 ?_
  refine Go.st (S' := T_1.setTop (mkF m 4 #[.val (.int x), .val (.int (x))] [(.ref ad_1), (.ref ad_1)])) (fun t hr => XS.dup X_1.here hx rfl (hb hby d8_3) rfl rfl hr) ?_
  refine Go.st (S' := T_1.setTop (mkF m 5 #[.val (.int x), .val (.int (x))] [(.int (2 : Int32)), (.ref ad_1), (.ref ad_1)])) (fun t hr => XS.iconst X_1.here hx rfl (hb hby d8_4) hr) ?_
  obtain ⟨T_2, h_2, X_2, e_2, E_2, A_2, st_2⟩ := own_newP X_1 hx hZ (ty := .int) rfl (hw _ (List.mem_of_getElem? (i := 55) rfl)) e_1 (g := (mkF m 5 #[.val (.int x), .val (.int (x))] [(.int (2 : Int32)), (.ref ad_1), (.ref ad_1)])) rfl (hb hby d8_5) rfl (by decide) (cap := 2) (by decide) (by decide) (by decide) (by decide)
  obtain ⟨ad_2, g_2⟩ : ∃ z, z = h_1.size := ⟨_, rfl⟩
  rw [← g_2] at A_2 st_2
  have z_2 := E_2.1
  have y_2 := own_ltA A_2
  have B_2 : Ary Z h_2 ad_2 .int [(.int (0 : Int32)), (.int (0 : Int32))] := A_2
  refine Go.st (S' := T_2.setTop (mkF m 7 #[.val (.int x), .val (.int (x))] [(.ref ad_2), (.ref ad_1), (.ref ad_1)])) st_2 ?_
  refine Go.st (S' := T_2.setTop (mkF m 8 #[.val (.int x), .val (.int (x))] [(.ref ad_2), (.ref ad_2), (.ref ad_1), (.ref ad_1)])) (fun t hr => XS.dup X_2.here hx rfl (hb hby d8_7) rfl rfl hr) ?_
  refine Go.st (S' := T_2.setTop (mkF m 9 #[.val (.int x), .val (.int (x))] [(.int (0 : Int32)), (.ref ad_2), (.ref ad_2), (.ref ad_1), (.ref ad_1)])) (fun t hr => XS.iconst X_2.here hx rfl (hb hby d8_8) hr) ?_
  refine Go.st (S' := T_2.setTop (mkF m 10 #[.val (.int x), .val (.int (x))] [(.int x), (.int (0 : Int32)), (.ref ad_2), (.ref ad_2), (.ref ad_1), (.ref ad_1)])) (fun t hr => XS.iloadN X_2.here hx rfl (hb hby d8_9) rfl hr) ?_
  obtain ⟨T_3, h_3, X_3, e_3, W_3, A_3, st_3⟩ := own_stI X_2 hx hZ e_2 B_2 (j := (0 : Int32)) (by decide) (by simp only [List.length_cons, List.length_nil]; decide) (g := (mkF m 10 #[.val (.int x), .val (.int (x))] [(.int x), (.int (0 : Int32)), (.ref ad_2), (.ref ad_2), (.ref ad_1), (.ref ad_1)])) rfl rfl (hb hby d8_10)
  have N_3 := Fr.snoc X_3 N0 (by omega)
  have z_3 := W_3.size
  have B_3 : Ary Z h_3 ad_2 .int [(.int x), (.int (0 : Int32))] := A_3
  refine Go.st (S' := T_3.setTop (mkF m 11 #[.val (.int x), .val (.int (x))] [(.ref ad_2), (.ref ad_1), (.ref ad_1)])) st_3 ?_
  refine Go.st (S' := T_3.setTop (mkF m 12 #[.val (.int x), .val (.int (x))] [(.ref ad_2), (.ref ad_2), (.ref ad_1), (.ref ad_1)])) (fun t hr => XS.dup X_3.here hx rfl (hb hby d8_11) rfl rfl hr) ?_
  refine Go.st (S' := T_3.setTop (mkF m 13 #[.val (.int x), .val (.int (x))] [(.int (1 : Int32)), (.ref ad_2), (.ref ad_2), (.ref ad_1), (.ref ad_1)])) (fun t hr => XS.iconst X_3.here hx rfl (hb hby d8_12) hr) ?_
  refine Go.st (S' := T_3.setTop (mkF m 14 #[.val (.int x), .val (.int (x))] [(.int (x)), (.int (1 : Int32)), (.ref ad_2), (.ref ad_2), (.ref ad_1), (.ref ad_1)])) (fun t hr => XS.iloadN X_3.here hx rfl (hb hby d8_13) rfl hr) ?_
  obtain ⟨T_4, h_4, X_4, e_4, W_4, A_4, st_4⟩ := own_stI X_3 hx hZ e_3 B_3 (j := (1 : Int32)) (by decide) (by simp only [List.length_cons, List.length_nil]; decide) (g := (mkF m 14 #[.val (.int x), .val (.int (x))] [(.int (x)), (.int (1 : Int32)), (.ref ad_2), (.ref ad_2), (.ref ad_1), (.ref ad_1)])) rfl rfl (hb hby d8_14)
  have N_4 := Fr.snoc X_4 N_3 (by omega)
  have z_4 := W_4.size
  have B_4 : Ary Z h_4 ad_2 .int [(.int x), (.int (x))] := A_4
  refine Go.st (S' := T_4.setTop (mkF m 15 #[.val (.int x), .val (.int (x))] [(.ref ad_2), (.ref ad_1), (.ref ad_1)])) st_4 ?_
  have F_6 := (((A_1.ext E_2).wr W_3).wr W_4)
  have F_7 := (((F_1_ascii.ext E_2).other W_3 (Or.inl (own_ne (by omega)))).other W_4 (Or.inl (own_ne (by omega))))
  have F_8 := (((F_1_ranges.ext E_2).other W_3 (Or.inl (own_ne (by omega)))).other W_4 (Or.inl (own_ne (by omega))))
  obtain ⟨v_5, T_5, h_5, L_5, X_5, e_5, Q_5, st_5⟩ := own_callN X_4 hx hZ (y := ⟨"com/example/items_in_arrays/itemsinarrays/xpath/CodepointSet", "<init>", "([I)V"⟩) rfl hown (hw _ (List.mem_of_getElem? (i := 131) rfl)) (hw _ (List.mem_of_getElem? (i := 132) rfl)) (hw _ (List.mem_of_getElem? (i := 127) rfl)) (hw _ (List.mem_of_getElem? (i := 133) rfl)) (by decide) e_4 (a := ad_1) (argsL := [(.ref ad_2)]) (rest := [(.ref ad_1)]) (rmCI l Z a0 hw ad_1 ad_2 h_4 n0 (by omega) x hx0 F_6 F_7 F_8 B_4 (by omega) (by omega)) (g := (mkF m 15 #[.val (.int x), .val (.int (x))] [(.ref ad_2), (.ref ad_1), (.ref ad_1)])) rfl (by rw [hml]; rfl) (lenOf pd_2 rfl) rfl (hb hby d8_15) (W := 1) (by show 2 * 0 + _ ≤ _; exact Nat.le_of_eq rfl) (by decide) (by decide) (by decide) (by decide)
  obtain ⟨rfl, N_5, K_5, G_5⟩ := Q_5
  have N_5' := Fr.app N_4 N_5
  have z_5 := K_5.1
  refine Go.st (S' := T_5.setTop (mkF m 18 #[.val (.int x), .val (.int (x))] [(.ref ad_1)])) st_5 ?_
  refine Go.retA X_5 hx hlk (t := (.object "com/example/items_in_arrays/itemsinarrays/xpath/CodepointSet")) hret rfl rfl (hb hby d8_18) (by decide) (by decide) ?_
  try rw [e_5]
  have F_9 := (F_6.keep K_5)
  have F_10 := (B_4.keep K_5 (by simp only [List.mem_cons, List.not_mem_nil, or_false, not_or]; exact own_ne (by omega)))
  exact ⟨ad_1, rfl, N_5', ((((((Keep.refl h0 []).ext E_1).ext E_2).wr W_3 (Or.inr (by omega))).wr W_4 (Or.inr (by omega))).trans K_5 (by intro x hxx; simp only [List.mem_cons, List.not_mem_nil, or_false] at hxx; rcases hxx with rfl; · exact Or.inr (by omega))), F_9, ad_2, G_5, F_10⟩
theorem ef_rmSg (m : MethodId) (a1 : Nat) : entryFrame m #[(.ref a1)] 2 = mkF m 0 #[.val (.ref a1), .unset] [] := by first | (simp [entryFrame, mkF, argsToLocals, Value.category]; done) | rfl
theorem pf_10 : plainFor (⟨"com/example/items_in_arrays/itemsinarrays/xpath/CodepointSet", "single", "()I"⟩ : MethodName) = true := plainFor_of_name (by first | (simp [plainName, overriddenIn]; done) | decide +kernel)
theorem d9_0 : decode prog_52_method_7_code 0 = .ok (.aload_n 0, 1) := by decide +kernel
theorem d9_1 : decode prog_52_method_7_code 1 = .ok (.getfield 13, 3) := by decide +kernel
theorem d9_4 : decode prog_52_method_7_code 4 = .ok (.arraylength, 1) := by decide +kernel
theorem d9_5 : decode prog_52_method_7_code 5 = .ok (.iconst 2, 1) := by decide +kernel
theorem d9_6 : decode prog_52_method_7_code 6 = .ok (.if_icmp .ne 22, 3) := by decide +kernel
theorem d9_9 : decode prog_52_method_7_code 9 = .ok (.aload_n 0, 1) := by decide +kernel
theorem d9_10 : decode prog_52_method_7_code 10 = .ok (.getfield 13, 3) := by decide +kernel
theorem d9_13 : decode prog_52_method_7_code 13 = .ok (.iconst 0, 1) := by decide +kernel
theorem d9_14 : decode prog_52_method_7_code 14 = .ok (.iaload, 1) := by decide +kernel
theorem d9_15 : decode prog_52_method_7_code 15 = .ok (.aload_n 0, 1) := by decide +kernel
theorem d9_16 : decode prog_52_method_7_code 16 = .ok (.getfield 13, 3) := by decide +kernel
theorem d9_19 : decode prog_52_method_7_code 19 = .ok (.iconst 1, 1) := by decide +kernel
theorem d9_20 : decode prog_52_method_7_code 20 = .ok (.iaload, 1) := by decide +kernel
theorem d9_21 : decode prog_52_method_7_code 21 = .ok (.if_icmp .ne 7, 3) := by decide +kernel
theorem d9_24 : decode prog_52_method_7_code 24 = .ok (.iconst 1, 1) := by decide +kernel
theorem d9_25 : decode prog_52_method_7_code 25 = .ok (.goto 4, 3) := by decide +kernel
theorem d9_29 : decode prog_52_method_7_code 29 = .ok (.istore_n 1, 1) := by decide +kernel
theorem d9_30 : decode prog_52_method_7_code 30 = .ok (.iload_n 1, 1) := by decide +kernel
theorem d9_31 : decode prog_52_method_7_code 31 = .ok (.ifCond .eq 12, 3) := by decide +kernel
theorem d9_34 : decode prog_52_method_7_code 34 = .ok (.aload_n 0, 1) := by decide +kernel
theorem d9_35 : decode prog_52_method_7_code 35 = .ok (.getfield 13, 3) := by decide +kernel
theorem d9_38 : decode prog_52_method_7_code 38 = .ok (.iconst 0, 1) := by decide +kernel
theorem d9_39 : decode prog_52_method_7_code 39 = .ok (.iaload, 1) := by decide +kernel
theorem d9_40 : decode prog_52_method_7_code 40 = .ok (.goto 4, 3) := by decide +kernel
theorem d9_44 : decode prog_52_method_7_code 44 = .ok (.ireturn, 1) := by decide +kernel
set_option maxRecDepth 65536 in
set_option maxHeartbeats 1000000 in
theorem rmSg (l : Launch) (Z : State) (a0 : Array Value) (hw : ∀ d ∈ tables_1, d.before a0 Z = true) (a1 : Nat) (h0 : Heap) (n0 : Nat) (Z0 : n0 ≤ h0.size) (x : Int32) (ra : Nat) (Fg : Fld Z h0 a1 "com/example/items_in_arrays/itemsinarrays/xpath/CodepointSet" "ranges" "[I" (.ref ra)) (Ar : Ary Z h0 ra .int [.int x, .int x]) :
    Con l Z (⟨"com/example/items_in_arrays/itemsinarrays/xpath/CodepointSet", "single", "()I"⟩ : MethodName) prog_52_method_7_code 2 (some .int) ({ frames := 0, cells := 0, slots := 0, locals := 0 } : Room) #[(.ref a1)] h0 (fun v h L => v = some (.int x) ∧ Fr n0 L ∧ h = h0) := by
  refine Con.of pf_10 ?_
  intro p e s m below meth c T0 X0 hx hby hml hZ hown hnm hret hlk e0
  have hown : s.vm.findClass "com/example/items_in_arrays/itemsinarrays/xpath/CodepointSet" = some m.cls := hown
  have hnm : meth.name = "single" := hnm
  have N0 := Fr.nil n0
  refine Go.cast (ef_rmSg m a1) ?_
  have lt_1 := own_ltF Fg
  have lt_2 := own_ltA Ar
  refine Go.st (S' := T0.setTop (mkF m 1 #[.val (.ref a1), .unset] [(.ref a1)])) (fun t hr => XS.aloadN X0.here hx rfl (hb hby d9_0) rfl rfl hr) ?_
  obtain ⟨T_3, X_3, e_3, st_3⟩ := getF X0 hx hZ hown (host := "") (Or.inl (hw _ (List.mem_of_getElem? (i := 138) rfl))) Via.refl e0 Fg (g := (mkF m 1 #[.val (.ref a1), .unset] [(.ref a1)])) rfl rfl (hb hby d9_1)
  refine Go.st (S' := T_3.setTop (mkF m 4 #[.val (.ref a1), .unset] [(.ref ra)])) st_3 ?_
  refine Go.st (S' := T_3.setTop (mkF m 5 #[.val (.ref a1), .unset] [(.int (2 : Int32))])) (own_len X_3 hx hZ e_3 Ar (g := (mkF m 4 #[.val (.ref a1), .unset] [(.ref ra)])) rfl rfl (hb hby d9_4)) ?_
  refine Go.st (S' := T_3.setTop (mkF m 6 #[.val (.ref a1), .unset] [(.int (2 : Int32)), (.int (2 : Int32))])) (fun t hr => XS.iconst X_3.here hx rfl (hb hby d9_5) hr) ?_
  refine Go.st (S' := T_3.setTop (mkF m 9 #[.val (.ref a1), .unset] [])) (fun t hr => XS.icmpNo X_3.here hx rfl (hb hby d9_6) rfl (XT.ii_ne_f (by decide)) hr) ?_
  refine Go.st (S' := T_3.setTop (mkF m 10 #[.val (.ref a1), .unset] [(.ref a1)])) (fun t hr => XS.aloadN X_3.here hx rfl (hb hby d9_9) rfl rfl hr) ?_
  obtain ⟨T_4, X_4, e_4, st_4⟩ := getF X_3 hx hZ hown (host := "") (Or.inl (hw _ (List.mem_of_getElem? (i := 138) rfl))) Via.refl e_3 Fg (g := (mkF m 10 #[.val (.ref a1), .unset] [(.ref a1)])) rfl rfl (hb hby d9_10)
  refine Go.st (S' := T_4.setTop (mkF m 13 #[.val (.ref a1), .unset] [(.ref ra)])) st_4 ?_
  refine Go.st (S' := T_4.setTop (mkF m 14 #[.val (.ref a1), .unset] [(.int (0 : Int32)), (.ref ra)])) (fun t hr => XS.iconst X_4.here hx rfl (hb hby d9_13) hr) ?_
  refine Go.st (S' := T_4.setTop (mkF m 15 #[.val (.ref a1), .unset] [(.int x)])) (own_ldI X_4 hx hZ e_4 Ar (j := (0 : Int32)) (v := (.int x)) (by decide) (by simp only [List.length_cons, List.length_nil]; decide) rfl (g := (mkF m 14 #[.val (.ref a1), .unset] [(.int (0 : Int32)), (.ref ra)])) rfl rfl (hb hby d9_14)) ?_
  refine Go.st (S' := T_4.setTop (mkF m 16 #[.val (.ref a1), .unset] [(.ref a1), (.int x)])) (fun t hr => XS.aloadN X_4.here hx rfl (hb hby d9_15) rfl rfl hr) ?_
  obtain ⟨T_5, X_5, e_5, st_5⟩ := getF X_4 hx hZ hown (host := "") (Or.inl (hw _ (List.mem_of_getElem? (i := 138) rfl))) Via.refl e_4 Fg (g := (mkF m 16 #[.val (.ref a1), .unset] [(.ref a1), (.int x)])) rfl rfl (hb hby d9_16)
  refine Go.st (S' := T_5.setTop (mkF m 19 #[.val (.ref a1), .unset] [(.ref ra), (.int x)])) st_5 ?_
  refine Go.st (S' := T_5.setTop (mkF m 20 #[.val (.ref a1), .unset] [(.int (1 : Int32)), (.ref ra), (.int x)])) (fun t hr => XS.iconst X_5.here hx rfl (hb hby d9_19) hr) ?_
  refine Go.st (S' := T_5.setTop (mkF m 21 #[.val (.ref a1), .unset] [(.int x), (.int x)])) (own_ldI X_5 hx hZ e_5 Ar (j := (1 : Int32)) (v := (.int x)) (by decide) (by simp only [List.length_cons, List.length_nil]; decide) rfl (g := (mkF m 20 #[.val (.ref a1), .unset] [(.int (1 : Int32)), (.ref ra), (.int x)])) rfl rfl (hb hby d9_20)) ?_
  refine Go.st (S' := T_5.setTop (mkF m 24 #[.val (.ref a1), .unset] [])) (fun t hr => XS.icmpNo X_5.here hx rfl (hb hby d9_21) rfl (XT.ii_ne_f rfl) hr) ?_
  refine Go.st (S' := T_5.setTop (mkF m 25 #[.val (.ref a1), .unset] [(.int (1 : Int32))])) (fun t hr => XS.iconst X_5.here hx rfl (hb hby d9_24) hr) ?_
  refine Go.st (S' := T_5.setTop (mkF m 29 #[.val (.ref a1), .unset] [(.int (1 : Int32))])) (fun t hr => XS.goto X_5.here hx rfl (pc0 := 25) (pc' := 29) rfl (hb hby d9_25) (by decide) (by decide) hr) ?_
  refine Go.st (S' := T_5.setTop (mkF m 30 #[.val (.ref a1), .val (.int (1 : Int32))] [])) (fun t hr => XS.istoreN X_5.here hx rfl (hb hby d9_29) rfl (l' := #[.val (.ref a1), .val (.int (1 : Int32))]) rfl hr) ?_
  refine Go.st (S' := T_5.setTop (mkF m 31 #[.val (.ref a1), .val (.int (1 : Int32))] [(.int (1 : Int32))])) (fun t hr => XS.iloadN X_5.here hx rfl (hb hby d9_30) rfl hr) ?_
  refine Go.st (S' := T_5.setTop (mkF m 34 #[.val (.ref a1), .val (.int (1 : Int32))] [])) (fun t hr => XS.ifNo X_5.here hx rfl (hb hby d9_31) rfl (XT.i0_eq_f (by decide)) hr) ?_
  refine Go.st (S' := T_5.setTop (mkF m 35 #[.val (.ref a1), .val (.int (1 : Int32))] [(.ref a1)])) (fun t hr => XS.aloadN X_5.here hx rfl (hb hby d9_34) rfl rfl hr) ?_
  obtain ⟨T_6, X_6, e_6, st_6⟩ := getF X_5 hx hZ hown (host := "") (Or.inl (hw _ (List.mem_of_getElem? (i := 138) rfl))) Via.refl e_5 Fg (g := (mkF m 35 #[.val (.ref a1), .val (.int (1 : Int32))] [(.ref a1)])) rfl rfl (hb hby d9_35)
  refine Go.st (S' := T_6.setTop (mkF m 38 #[.val (.ref a1), .val (.int (1 : Int32))] [(.ref ra)])) st_6 ?_
  refine Go.st (S' := T_6.setTop (mkF m 39 #[.val (.ref a1), .val (.int (1 : Int32))] [(.int (0 : Int32)), (.ref ra)])) (fun t hr => XS.iconst X_6.here hx rfl (hb hby d9_38) hr) ?_
  refine Go.st (S' := T_6.setTop (mkF m 40 #[.val (.ref a1), .val (.int (1 : Int32))] [(.int x)])) (own_ldI X_6 hx hZ e_6 Ar (j := (0 : Int32)) (v := (.int x)) (by decide) (by simp only [List.length_cons, List.length_nil]; decide) rfl (g := (mkF m 39 #[.val (.ref a1), .val (.int (1 : Int32))] [(.int (0 : Int32)), (.ref ra)])) rfl rfl (hb hby d9_39)) ?_
  refine Go.st (S' := T_6.setTop (mkF m 44 #[.val (.ref a1), .val (.int (1 : Int32))] [(.int x)])) (fun t hr => XS.goto X_6.here hx rfl (pc0 := 40) (pc' := 44) rfl (hb hby d9_40) (by decide) (by decide) hr) ?_
  refine Go.retI X_6 hx hlk hret (hb hby d9_44) (by decide) (by decide) ?_
  try rw [e_6]
  exact ⟨rfl, N0, rfl⟩
theorem ef_rmCode0 (m : MethodId) (a1 : Nat) : entryFrame m #[(.ref a1), (.int (0 : Int32))] 2 = mkF m 0 #[.val (.ref a1), .val (.int (0 : Int32))] [] := by first | (simp [entryFrame, mkF, argsToLocals, Value.category]; done) | rfl
theorem pf_11 : plainFor (⟨"com/example/items_in_arrays/itemsinarrays/xpath/RegularExpressionProgram$Builder", "code", "(I)Lcom/example/items_in_arrays/itemsinarrays/xpath/RegularExpressionProgram$Code;"⟩ : MethodName) = true := plainFor_of_name (by first | (simp [plainName, overriddenIn]; done) | decide +kernel)
theorem d10_0 : decode prog_64_method_5_code 0 = .ok (.aload_n 0, 1) := by decide +kernel
theorem d10_1 : decode prog_64_method_5_code 1 = .ok (.getfield 9, 3) := by decide +kernel
theorem d10_4 : decode prog_64_method_5_code 4 = .ok (.iload_n 1, 1) := by decide +kernel
theorem d10_5 : decode prog_64_method_5_code 5 = .ok (.aaload, 1) := by decide +kernel
theorem d10_6 : decode prog_64_method_5_code 6 = .ok (.areturn, 1) := by decide +kernel
set_option maxRecDepth 65536 in
set_option maxHeartbeats 1000000 in
theorem rmCode0 (l : Launch) (Z : State) (a0 : Array Value) (hw : ∀ d ∈ tables_1, d.before a0 Z = true) (a1 : Nat) (h0 : Heap) (n0 : Nat) (Z0 : n0 ≤ h0.size) (ca oa ta cd : Nat) (x y : Int32) (cs os ts : List Value) (Fc : Fld Z h0 a1 "com/example/items_in_arrays/itemsinarrays/xpath/RegularExpressionProgram$Builder" "codes" "[Lcom/example/items_in_arrays/itemsinarrays/xpath/RegularExpressionProgram$Code;" (.ref ca)) (Fo : Fld Z h0 a1 "com/example/items_in_arrays/itemsinarrays/xpath/RegularExpressionProgram$Builder" "operands" "[I" (.ref oa)) (Ft : Fld Z h0 a1 "com/example/items_in_arrays/itemsinarrays/xpath/RegularExpressionProgram$Builder" "targets" "[I" (.ref ta)) (Ac : Ary Z h0 ca (.object "com/example/items_in_arrays/itemsinarrays/xpath/RegularExpressionProgram$Code") cs) (Ao : Ary Z h0 oa .int os) (At : Ary Z h0 ta .int ts) (lc : cs.length = 16) (lo : os.length = 16) (lt : ts.length = 16) (hv : cs[0]? = some (.ref cd)) :
    Con l Z (⟨"com/example/items_in_arrays/itemsinarrays/xpath/RegularExpressionProgram$Builder", "code", "(I)Lcom/example/items_in_arrays/itemsinarrays/xpath/RegularExpressionProgram$Code;"⟩ : MethodName) prog_64_method_5_code 2 (some (.object "com/example/items_in_arrays/itemsinarrays/xpath/RegularExpressionProgram$Code")) ({ frames := 0, cells := 0, slots := 0, locals := 0 } : Room) #[(.ref a1), (.int (0 : Int32))] h0 (fun v h L => v = some (.ref cd) ∧ Fr n0 L ∧ h = h0) := by
  refine Con.of pf_11 ?_
  intro p e s m below meth c T0 X0 hx hby hml hZ hown hnm hret hlk e0
  have hown : s.vm.findClass "com/example/items_in_arrays/itemsinarrays/xpath/RegularExpressionProgram$Builder" = some m.cls := hown
  have hnm : meth.name = "code" := hnm
  have N0 := Fr.nil n0
  refine Go.cast (ef_rmCode0 m a1) ?_
  have lt_1 := own_ltF Fc
  have lt_2 := own_ltA Ac
  have lt_3 := own_ltA Ao
  have lt_4 := own_ltA At
  refine Go.st (S' := T0.setTop (mkF m 1 #[.val (.ref a1), .val (.int (0 : Int32))] [(.ref a1)])) (fun t hr => XS.aloadN X0.here hx rfl (hb hby d10_0) rfl rfl hr) ?_
  obtain ⟨T_5, X_5, e_5, st_5⟩ := getF X0 hx hZ hown (host := "") (Or.inl (hw _ (List.mem_of_getElem? (i := 53) rfl))) Via.refl e0 Fc (g := (mkF m 1 #[.val (.ref a1), .val (.int (0 : Int32))] [(.ref a1)])) rfl rfl (hb hby d10_1)
  refine Go.st (S' := T_5.setTop (mkF m 4 #[.val (.ref a1), .val (.int (0 : Int32))] [(.ref ca)])) st_5 ?_
  refine Go.st (S' := T_5.setTop (mkF m 5 #[.val (.ref a1), .val (.int (0 : Int32))] [(.int (0 : Int32)), (.ref ca)])) (fun t hr => XS.iloadN X_5.here hx rfl (hb hby d10_4) rfl hr) ?_
  refine Go.st (S' := T_5.setTop (mkF m 6 #[.val (.ref a1), .val (.int (0 : Int32))] [(.ref cd)])) (own_ldR X_5 hx hZ e_5 Ac rfl (j := (0 : Int32)) (v := (.ref cd)) (by decide) (by rw [lc]; decide) hv (g := (mkF m 5 #[.val (.ref a1), .val (.int (0 : Int32))] [(.int (0 : Int32)), (.ref ca)])) rfl rfl (hb hby d10_5)) ?_
  refine Go.retA X_5 hx hlk (t := (.object "com/example/items_in_arrays/itemsinarrays/xpath/RegularExpressionProgram$Code")) hret rfl rfl (hb hby d10_6) (by decide) (by decide) ?_
  try rw [e_5]
  exact ⟨rfl, N0, rfl⟩
theorem ef_rmTgt0 (m : MethodId) (a1 : Nat) : entryFrame m #[(.ref a1), (.int (0 : Int32))] 2 = mkF m 0 #[.val (.ref a1), .val (.int (0 : Int32))] [] := by first | (simp [entryFrame, mkF, argsToLocals, Value.category]; done) | rfl
theorem pf_12 : plainFor (⟨"com/example/items_in_arrays/itemsinarrays/xpath/RegularExpressionProgram$Builder", "target", "(I)I"⟩ : MethodName) = true := plainFor_of_name (by first | (simp [plainName, overriddenIn]; done) | decide +kernel)
theorem d11_0 : decode prog_64_method_6_code 0 = .ok (.aload_n 0, 1) := by decide +kernel
theorem d11_1 : decode prog_64_method_6_code 1 = .ok (.getfield 19, 3) := by decide +kernel
theorem d11_4 : decode prog_64_method_6_code 4 = .ok (.iload_n 1, 1) := by decide +kernel
theorem d11_5 : decode prog_64_method_6_code 5 = .ok (.iaload, 1) := by decide +kernel
theorem d11_6 : decode prog_64_method_6_code 6 = .ok (.ireturn, 1) := by decide +kernel
set_option maxRecDepth 65536 in
set_option maxHeartbeats 1000000 in
theorem rmTgt0 (l : Launch) (Z : State) (a0 : Array Value) (hw : ∀ d ∈ tables_1, d.before a0 Z = true) (a1 : Nat) (h0 : Heap) (n0 : Nat) (Z0 : n0 ≤ h0.size) (ca oa ta cd : Nat) (x y : Int32) (cs os ts : List Value) (Fc : Fld Z h0 a1 "com/example/items_in_arrays/itemsinarrays/xpath/RegularExpressionProgram$Builder" "codes" "[Lcom/example/items_in_arrays/itemsinarrays/xpath/RegularExpressionProgram$Code;" (.ref ca)) (Fo : Fld Z h0 a1 "com/example/items_in_arrays/itemsinarrays/xpath/RegularExpressionProgram$Builder" "operands" "[I" (.ref oa)) (Ft : Fld Z h0 a1 "com/example/items_in_arrays/itemsinarrays/xpath/RegularExpressionProgram$Builder" "targets" "[I" (.ref ta)) (Ac : Ary Z h0 ca (.object "com/example/items_in_arrays/itemsinarrays/xpath/RegularExpressionProgram$Code") cs) (Ao : Ary Z h0 oa .int os) (At : Ary Z h0 ta .int ts) (lc : cs.length = 16) (lo : os.length = 16) (lt : ts.length = 16) (hv : ts[0]? = some (.int y)) :
    Con l Z (⟨"com/example/items_in_arrays/itemsinarrays/xpath/RegularExpressionProgram$Builder", "target", "(I)I"⟩ : MethodName) prog_64_method_6_code 2 (some .int) ({ frames := 0, cells := 0, slots := 0, locals := 0 } : Room) #[(.ref a1), (.int (0 : Int32))] h0 (fun v h L => v = some (.int y) ∧ Fr n0 L ∧ h = h0) := by
  refine Con.of pf_12 ?_
  intro p e s m below meth c T0 X0 hx hby hml hZ hown hnm hret hlk e0
  have hown : s.vm.findClass "com/example/items_in_arrays/itemsinarrays/xpath/RegularExpressionProgram$Builder" = some m.cls := hown
  have hnm : meth.name = "target" := hnm
  have N0 := Fr.nil n0
  refine Go.cast (ef_rmTgt0 m a1) ?_
  have lt_1 := own_ltF Fc
  have lt_2 := own_ltA Ac
  have lt_3 := own_ltA Ao
  have lt_4 := own_ltA At
  refine Go.st (S' := T0.setTop (mkF m 1 #[.val (.ref a1), .val (.int (0 : Int32))] [(.ref a1)])) (fun t hr => XS.aloadN X0.here hx rfl (hb hby d11_0) rfl rfl hr) ?_
  obtain ⟨T_5, X_5, e_5, st_5⟩ := getF X0 hx hZ hown (host := "") (Or.inl (hw _ (List.mem_of_getElem? (i := 58) rfl))) Via.refl e0 Ft (g := (mkF m 1 #[.val (.ref a1), .val (.int (0 : Int32))] [(.ref a1)])) rfl rfl (hb hby d11_1)
  refine Go.st (S' := T_5.setTop (mkF m 4 #[.val (.ref a1), .val (.int (0 : Int32))] [(.ref ta)])) st_5 ?_
  refine Go.st (S' := T_5.setTop (mkF m 5 #[.val (.ref a1), .val (.int (0 : Int32))] [(.int (0 : Int32)), (.ref ta)])) (fun t hr => XS.iloadN X_5.here hx rfl (hb hby d11_4) rfl hr) ?_
  refine Go.st (S' := T_5.setTop (mkF m 6 #[.val (.ref a1), .val (.int (0 : Int32))] [(.int y)])) (own_ldI X_5 hx hZ e_5 At (j := (0 : Int32)) (v := (.int y)) (by decide) (by rw [lt]; decide) hv (g := (mkF m 5 #[.val (.ref a1), .val (.int (0 : Int32))] [(.int (0 : Int32)), (.ref ta)])) rfl rfl (hb hby d11_5)) ?_
  refine Go.retI X_5 hx hlk hret (hb hby d11_6) (by decide) (by decide) ?_
  try rw [e_5]
  exact ⟨rfl, N0, rfl⟩
theorem ef_rmChr0 (m : MethodId) (a1 : Nat) : entryFrame m #[(.ref a1), (.int (0 : Int32))] 3 = mkF m 0 #[.val (.ref a1), .val (.int (0 : Int32)), .unset] [] := by first | (simp [entryFrame, mkF, argsToLocals, Value.category]; done) | rfl
theorem pf_13 : plainFor (⟨"com/example/items_in_arrays/itemsinarrays/xpath/RegularExpressionProgram$Builder", "characters", "(I)Lcom/example/items_in_arrays/itemsinarrays/xpath/CodepointSet;"⟩ : MethodName) = true := plainFor_of_name (by first | (simp [plainName, overriddenIn]; done) | decide +kernel)
theorem pd_3 : parseMethodDescriptor "(II)Lcom/example/items_in_arrays/itemsinarrays/xpath/CodepointSet;" = some ⟨[.int, .int], some (.object "com/example/items_in_arrays/itemsinarrays/xpath/CodepointSet")⟩ := by decide +kernel
theorem d12_0 : decode prog_64_method_8_code 0 = .ok (.aload_n 0, 1) := by decide +kernel
theorem d12_1 : decode prog_64_method_8_code 1 = .ok (.getfield 15, 3) := by decide +kernel
theorem d12_4 : decode prog_64_method_8_code 4 = .ok (.iload_n 1, 1) := by decide +kernel
theorem d12_5 : decode prog_64_method_8_code 5 = .ok (.iaload, 1) := by decide +kernel
theorem d12_6 : decode prog_64_method_8_code 6 = .ok (.istore_n 2, 1) := by decide +kernel
theorem d12_7 : decode prog_64_method_8_code 7 = .ok (.aload_n 0, 1) := by decide +kernel
theorem d12_8 : decode prog_64_method_8_code 8 = .ok (.getfield 9, 3) := by decide +kernel
theorem d12_11 : decode prog_64_method_8_code 11 = .ok (.iload_n 1, 1) := by decide +kernel
theorem d12_12 : decode prog_64_method_8_code 12 = .ok (.aaload, 1) := by decide +kernel
theorem d12_13 : decode prog_64_method_8_code 13 = .ok (.getstatic 63, 3) := by decide +kernel
theorem d12_16 : decode prog_64_method_8_code 16 = .ok (.if_acmp .ne 11, 3) := by decide +kernel
theorem d12_19 : decode prog_64_method_8_code 19 = .ok (.iload_n 2, 1) := by decide +kernel
theorem d12_20 : decode prog_64_method_8_code 20 = .ok (.iload_n 2, 1) := by decide +kernel
theorem d12_21 : decode prog_64_method_8_code 21 = .ok (.invokestatic 70, 3) := by decide +kernel
theorem d12_24 : decode prog_64_method_8_code 24 = .ok (.goto 16, 3) := by decide +kernel
theorem d12_40 : decode prog_64_method_8_code 40 = .ok (.areturn, 1) := by decide +kernel
set_option maxRecDepth 65536 in
set_option maxHeartbeats 1000000 in
theorem rmChr0 (l : Launch) (Z : State) (a0 : Array Value) (hw : ∀ d ∈ tables_1, d.before a0 Z = true) (a1 : Nat) (h0 : Heap) (n0 : Nat) (Z0 : n0 ≤ h0.size) (ca oa ta cd : Nat) (x y : Int32) (cs os ts : List Value) (Fc : Fld Z h0 a1 "com/example/items_in_arrays/itemsinarrays/xpath/RegularExpressionProgram$Builder" "codes" "[Lcom/example/items_in_arrays/itemsinarrays/xpath/RegularExpressionProgram$Code;" (.ref ca)) (Fo : Fld Z h0 a1 "com/example/items_in_arrays/itemsinarrays/xpath/RegularExpressionProgram$Builder" "operands" "[I" (.ref oa)) (Ft : Fld Z h0 a1 "com/example/items_in_arrays/itemsinarrays/xpath/RegularExpressionProgram$Builder" "targets" "[I" (.ref ta)) (Ac : Ary Z h0 ca (.object "com/example/items_in_arrays/itemsinarrays/xpath/RegularExpressionProgram$Code") cs) (Ao : Ary Z h0 oa .int os) (At : Ary Z h0 ta .int ts) (lc : cs.length = 16) (lo : os.length = 16) (lt : ts.length = 16) (O0 : Old Z n0 h0) (S1 : Sta Z Z.heap "com/example/items_in_arrays/itemsinarrays/xpath/RegularExpressionProgram$Code" "CHARACTER" "Lcom/example/items_in_arrays/itemsinarrays/xpath/RegularExpressionProgram$Code;" (.ref cd)) (hv : cs[0]? = some (.ref cd)) (ho : os[0]? = some (.int x)) (hx0 : 0 ≤ x.toInt) :
    Con l Z (⟨"com/example/items_in_arrays/itemsinarrays/xpath/RegularExpressionProgram$Builder", "characters", "(I)Lcom/example/items_in_arrays/itemsinarrays/xpath/CodepointSet;"⟩ : MethodName) prog_64_method_8_code 3 (some (.object "com/example/items_in_arrays/itemsinarrays/xpath/CodepointSet")) ({ frames := 3, cells := 3, slots := 6, locals := 43 } : Room) #[(.ref a1), (.int (0 : Int32))] h0 (fun v h L => ∃ cs : Nat, v = some (.ref cs) ∧ Fr n0 L ∧ Keep h0 h [] ∧ Exa Z h cs "com/example/items_in_arrays/itemsinarrays/xpath/CodepointSet" ∧ ∃ ra : Nat, Fld Z h cs "com/example/items_in_arrays/itemsinarrays/xpath/CodepointSet" "ranges" "[I" (.ref ra) ∧ Ary Z h ra .int [.int x, .int x]) := by
  refine Con.of pf_13 ?_
  intro p e s m below meth c T0 X0 hx hby hml hZ hown hnm hret hlk e0
  have hown : s.vm.findClass "com/example/items_in_arrays/itemsinarrays/xpath/RegularExpressionProgram$Builder" = some m.cls := hown
  have hnm : meth.name = "characters" := hnm
  have N0 := Fr.nil n0
  refine Go.cast (ef_rmChr0 m a1) ?_
  have lt_1 := own_ltF Fc
  have lt_2 := own_ltA Ac
  have lt_3 := own_ltA Ao
  have lt_4 := own_ltA At
  refine Go.st (S' := T0.setTop (mkF m 1 #[.val (.ref a1), .val (.int (0 : Int32)), .unset] [(.ref a1)])) (fun t hr => XS.aloadN X0.here hx rfl (hb hby d12_0) rfl rfl hr) ?_
  obtain ⟨T_5, X_5, e_5, st_5⟩ := getF X0 hx hZ hown (host := "") (Or.inl (hw _ (List.mem_of_getElem? (i := 56) rfl))) Via.refl e0 Fo (g := (mkF m 1 #[.val (.ref a1), .val (.int (0 : Int32)), .unset] [(.ref a1)])) rfl rfl (hb hby d12_1)
  refine Go.st (S' := T_5.setTop (mkF m 4 #[.val (.ref a1), .val (.int (0 : Int32)), .unset] [(.ref oa)])) st_5 ?_
  refine Go.st (S' := T_5.setTop (mkF m 5 #[.val (.ref a1), .val (.int (0 : Int32)), .unset] [(.int (0 : Int32)), (.ref oa)])) (fun t hr => XS.iloadN X_5.here hx rfl (hb hby d12_4) rfl hr) ?_
  refine Go.st (S' := T_5.setTop (mkF m 6 #[.val (.ref a1), .val (.int (0 : Int32)), .unset] [(.int x)])) (own_ldI X_5 hx hZ e_5 Ao (j := (0 : Int32)) (v := (.int x)) (by decide) (by rw [lo]; decide) ho (g := (mkF m 5 #[.val (.ref a1), .val (.int (0 : Int32)), .unset] [(.int (0 : Int32)), (.ref oa)])) rfl rfl (hb hby d12_5)) ?_
  refine Go.st (S' := T_5.setTop (mkF m 7 #[.val (.ref a1), .val (.int (0 : Int32)), .val (.int x)] [])) (fun t hr => XS.istoreN X_5.here hx rfl (hb hby d12_6) rfl (l' := #[.val (.ref a1), .val (.int (0 : Int32)), .val (.int x)]) rfl hr) ?_
  refine Go.st (S' := T_5.setTop (mkF m 8 #[.val (.ref a1), .val (.int (0 : Int32)), .val (.int x)] [(.ref a1)])) (fun t hr => XS.aloadN X_5.here hx rfl (hb hby d12_7) rfl rfl hr) ?_
  obtain ⟨T_6, X_6, e_6, st_6⟩ := getF X_5 hx hZ hown (host := "") (Or.inl (hw _ (List.mem_of_getElem? (i := 53) rfl))) Via.refl e_5 Fc (g := (mkF m 8 #[.val (.ref a1), .val (.int (0 : Int32)), .val (.int x)] [(.ref a1)])) rfl rfl (hb hby d12_8)
  refine Go.st (S' := T_6.setTop (mkF m 11 #[.val (.ref a1), .val (.int (0 : Int32)), .val (.int x)] [(.ref ca)])) st_6 ?_
  refine Go.st (S' := T_6.setTop (mkF m 12 #[.val (.ref a1), .val (.int (0 : Int32)), .val (.int x)] [(.int (0 : Int32)), (.ref ca)])) (fun t hr => XS.iloadN X_6.here hx rfl (hb hby d12_11) rfl hr) ?_
  refine Go.st (S' := T_6.setTop (mkF m 13 #[.val (.ref a1), .val (.int (0 : Int32)), .val (.int x)] [(.ref cd)])) (own_ldR X_6 hx hZ e_6 Ac rfl (j := (0 : Int32)) (v := (.ref cd)) (by decide) (by rw [lc]; decide) hv (g := (mkF m 12 #[.val (.ref a1), .val (.int (0 : Int32)), .val (.int x)] [(.int (0 : Int32)), (.ref ca)])) rfl rfl (hb hby d12_12)) ?_
  obtain ⟨T_7, X_7, e_7, st_7⟩ := getS2 X_6 hx hZ hown (host := "") (Or.inl (hw _ (List.mem_of_getElem? (i := 124) rfl))) Via.refl e_6 (S1.ext O0.2) (g := (mkF m 13 #[.val (.ref a1), .val (.int (0 : Int32)), .val (.int x)] [(.ref cd)])) rfl (hb hby d12_13)
  refine Go.st (S' := T_7.setTop (mkF m 16 #[.val (.ref a1), .val (.int (0 : Int32)), .val (.int x)] [(.ref cd), (.ref cd)])) st_7 ?_
  refine Go.st (S' := T_7.setTop (mkF m 19 #[.val (.ref a1), .val (.int (0 : Int32)), .val (.int x)] [])) (fun t hr => XT.acmpNo X_7.here hx rfl (hb hby d12_16) rfl rfl rfl (XT.aa_ne_f rfl) hr) ?_
  refine Go.st (S' := T_7.setTop (mkF m 20 #[.val (.ref a1), .val (.int (0 : Int32)), .val (.int x)] [(.int x)])) (fun t hr => XS.iloadN X_7.here hx rfl (hb hby d12_19) rfl hr) ?_
  refine Go.st (S' := T_7.setTop (mkF m 21 #[.val (.ref a1), .val (.int (0 : Int32)), .val (.int x)] [(.int x), (.int x)])) (fun t hr => XS.iloadN X_7.here hx rfl (hb hby d12_20) rfl hr) ?_
  obtain ⟨v_8, T_8, h_8, L_8, X_8, e_8, Q_8, st_8⟩ := own_callS X_7 hx hZ (y := ⟨"com/example/items_in_arrays/itemsinarrays/xpath/CodepointSet", "range", "(II)Lcom/example/items_in_arrays/itemsinarrays/xpath/CodepointSet;"⟩) hown (hw _ (List.mem_of_getElem? (i := 125) rfl)) (hw _ (List.mem_of_getElem? (i := 126) rfl)) (hw _ (List.mem_of_getElem? (i := 127) rfl)) (hw _ (List.mem_of_getElem? (i := 128) rfl)) (by decide) e_7 (argsL := [(.int x), (.int x)]) (rest := []) (rmRg l Z a0 hw x h0 n0 (by omega) hx0) (g := (mkF m 21 #[.val (.ref a1), .val (.int (0 : Int32)), .val (.int x)] [(.int x), (.int x)])) rfl (by rw [hml]; rfl) (lenOf pd_3 rfl) rfl (hb hby d12_21) (W := 0) (by show 2 * 0 + _ ≤ _; exact Nat.le_of_eq rfl) (by decide) (by decide) (by decide) (by decide)
  obtain ⟨cs_8, rfl, N_8, K_8, EE_8, ra_8, GG_8, AA_8⟩ := Q_8
  have N_8' := Fr.app N0 N_8
  have z_8 := K_8.1
  refine Go.st (S' := T_8.setTop (mkF m 24 #[.val (.ref a1), .val (.int (0 : Int32)), .val (.int x)] [(.ref cs_8)])) st_8 ?_
  refine Go.st (S' := T_8.setTop (mkF m 40 #[.val (.ref a1), .val (.int (0 : Int32)), .val (.int x)] [(.ref cs_8)])) (fun t hr => XS.goto X_8.here hx rfl (pc0 := 24) (pc' := 40) rfl (hb hby d12_24) (by decide) (by decide) hr) ?_
  refine Go.retA X_8 hx hlk (t := (.object "com/example/items_in_arrays/itemsinarrays/xpath/CodepointSet")) hret rfl rfl (hb hby d12_40) (by decide) (by decide) ?_
  try rw [e_8]
  exact ⟨cs_8, rfl, N_8', ((Keep.refl h0 []).trans K_8 all0), EE_8, ra_8, GG_8, AA_8⟩
theorem ef_rmCode1 (m : MethodId) (a1 : Nat) : entryFrame m #[(.ref a1), (.int (1 : Int32))] 2 = mkF m 0 #[.val (.ref a1), .val (.int (1 : Int32))] [] := by first | (simp [entryFrame, mkF, argsToLocals, Value.category]; done) | rfl
set_option maxRecDepth 65536 in
set_option maxHeartbeats 1000000 in
theorem rmCode1 (l : Launch) (Z : State) (a0 : Array Value) (hw : ∀ d ∈ tables_1, d.before a0 Z = true) (a1 : Nat) (h0 : Heap) (n0 : Nat) (Z0 : n0 ≤ h0.size) (ca oa ta cd : Nat) (x y : Int32) (cs os ts : List Value) (Fc : Fld Z h0 a1 "com/example/items_in_arrays/itemsinarrays/xpath/RegularExpressionProgram$Builder" "codes" "[Lcom/example/items_in_arrays/itemsinarrays/xpath/RegularExpressionProgram$Code;" (.ref ca)) (Fo : Fld Z h0 a1 "com/example/items_in_arrays/itemsinarrays/xpath/RegularExpressionProgram$Builder" "operands" "[I" (.ref oa)) (Ft : Fld Z h0 a1 "com/example/items_in_arrays/itemsinarrays/xpath/RegularExpressionProgram$Builder" "targets" "[I" (.ref ta)) (Ac : Ary Z h0 ca (.object "com/example/items_in_arrays/itemsinarrays/xpath/RegularExpressionProgram$Code") cs) (Ao : Ary Z h0 oa .int os) (At : Ary Z h0 ta .int ts) (lc : cs.length = 16) (lo : os.length = 16) (lt : ts.length = 16) (hv : cs[1]? = some (.ref cd)) :
    Con l Z (⟨"com/example/items_in_arrays/itemsinarrays/xpath/RegularExpressionProgram$Builder", "code", "(I)Lcom/example/items_in_arrays/itemsinarrays/xpath/RegularExpressionProgram$Code;"⟩ : MethodName) prog_64_method_5_code 2 (some (.object "com/example/items_in_arrays/itemsinarrays/xpath/RegularExpressionProgram$Code")) ({ frames := 0, cells := 0, slots := 0, locals := 0 } : Room) #[(.ref a1), (.int (1 : Int32))] h0 (fun v h L => v = some (.ref cd) ∧ Fr n0 L ∧ h = h0) := by
  refine Con.of pf_11 ?_
  intro p e s m below meth c T0 X0 hx hby hml hZ hown hnm hret hlk e0
  have hown : s.vm.findClass "com/example/items_in_arrays/itemsinarrays/xpath/RegularExpressionProgram$Builder" = some m.cls := hown
  have hnm : meth.name = "code" := hnm
  have N0 := Fr.nil n0
  refine Go.cast (ef_rmCode1 m a1) ?_
  have lt_1 := own_ltF Fc
  have lt_2 := own_ltA Ac
  have lt_3 := own_ltA Ao
  have lt_4 := own_ltA At
  refine Go.st (S' := T0.setTop (mkF m 1 #[.val (.ref a1), .val (.int (1 : Int32))] [(.ref a1)])) (fun t hr => XS.aloadN X0.here hx rfl (hb hby d10_0) rfl rfl hr) ?_
  obtain ⟨T_5, X_5, e_5, st_5⟩ := getF X0 hx hZ hown (host := "") (Or.inl (hw _ (List.mem_of_getElem? (i := 53) rfl))) Via.refl e0 Fc (g := (mkF m 1 #[.val (.ref a1), .val (.int (1 : Int32))] [(.ref a1)])) rfl rfl (hb hby d10_1)
  refine Go.st (S' := T_5.setTop (mkF m 4 #[.val (.ref a1), .val (.int (1 : Int32))] [(.ref ca)])) st_5 ?_
  refine Go.st (S' := T_5.setTop (mkF m 5 #[.val (.ref a1), .val (.int (1 : Int32))] [(.int (1 : Int32)), (.ref ca)])) (fun t hr => XS.iloadN X_5.here hx rfl (hb hby d10_4) rfl hr) ?_
  refine Go.st (S' := T_5.setTop (mkF m 6 #[.val (.ref a1), .val (.int (1 : Int32))] [(.ref cd)])) (own_ldR X_5 hx hZ e_5 Ac rfl (j := (1 : Int32)) (v := (.ref cd)) (by decide) (by rw [lc]; decide) hv (g := (mkF m 5 #[.val (.ref a1), .val (.int (1 : Int32))] [(.int (1 : Int32)), (.ref ca)])) rfl rfl (hb hby d10_5)) ?_
  refine Go.retA X_5 hx hlk (t := (.object "com/example/items_in_arrays/itemsinarrays/xpath/RegularExpressionProgram$Code")) hret rfl rfl (hb hby d10_6) (by decide) (by decide) ?_
  try rw [e_5]
  exact ⟨rfl, N0, rfl⟩
theorem ef_rmTgt1 (m : MethodId) (a1 : Nat) : entryFrame m #[(.ref a1), (.int (1 : Int32))] 2 = mkF m 0 #[.val (.ref a1), .val (.int (1 : Int32))] [] := by first | (simp [entryFrame, mkF, argsToLocals, Value.category]; done) | rfl
set_option maxRecDepth 65536 in
set_option maxHeartbeats 1000000 in
theorem rmTgt1 (l : Launch) (Z : State) (a0 : Array Value) (hw : ∀ d ∈ tables_1, d.before a0 Z = true) (a1 : Nat) (h0 : Heap) (n0 : Nat) (Z0 : n0 ≤ h0.size) (ca oa ta cd : Nat) (x y : Int32) (cs os ts : List Value) (Fc : Fld Z h0 a1 "com/example/items_in_arrays/itemsinarrays/xpath/RegularExpressionProgram$Builder" "codes" "[Lcom/example/items_in_arrays/itemsinarrays/xpath/RegularExpressionProgram$Code;" (.ref ca)) (Fo : Fld Z h0 a1 "com/example/items_in_arrays/itemsinarrays/xpath/RegularExpressionProgram$Builder" "operands" "[I" (.ref oa)) (Ft : Fld Z h0 a1 "com/example/items_in_arrays/itemsinarrays/xpath/RegularExpressionProgram$Builder" "targets" "[I" (.ref ta)) (Ac : Ary Z h0 ca (.object "com/example/items_in_arrays/itemsinarrays/xpath/RegularExpressionProgram$Code") cs) (Ao : Ary Z h0 oa .int os) (At : Ary Z h0 ta .int ts) (lc : cs.length = 16) (lo : os.length = 16) (lt : ts.length = 16) (hv : ts[1]? = some (.int y)) :
    Con l Z (⟨"com/example/items_in_arrays/itemsinarrays/xpath/RegularExpressionProgram$Builder", "target", "(I)I"⟩ : MethodName) prog_64_method_6_code 2 (some .int) ({ frames := 0, cells := 0, slots := 0, locals := 0 } : Room) #[(.ref a1), (.int (1 : Int32))] h0 (fun v h L => v = some (.int y) ∧ Fr n0 L ∧ h = h0) := by
  refine Con.of pf_12 ?_
  intro p e s m below meth c T0 X0 hx hby hml hZ hown hnm hret hlk e0
  have hown : s.vm.findClass "com/example/items_in_arrays/itemsinarrays/xpath/RegularExpressionProgram$Builder" = some m.cls := hown
  have hnm : meth.name = "target" := hnm
  have N0 := Fr.nil n0
  refine Go.cast (ef_rmTgt1 m a1) ?_
  have lt_1 := own_ltF Fc
  have lt_2 := own_ltA Ac
  have lt_3 := own_ltA Ao
  have lt_4 := own_ltA At
  refine Go.st (S' := T0.setTop (mkF m 1 #[.val (.ref a1), .val (.int (1 : Int32))] [(.ref a1)])) (fun t hr => XS.aloadN X0.here hx rfl (hb hby d11_0) rfl rfl hr) ?_
  obtain ⟨T_5, X_5, e_5, st_5⟩ := getF X0 hx hZ hown (host := "") (Or.inl (hw _ (List.mem_of_getElem? (i := 58) rfl))) Via.refl e0 Ft (g := (mkF m 1 #[.val (.ref a1), .val (.int (1 : Int32))] [(.ref a1)])) rfl rfl (hb hby d11_1)
  refine Go.st (S' := T_5.setTop (mkF m 4 #[.val (.ref a1), .val (.int (1 : Int32))] [(.ref ta)])) st_5 ?_
  refine Go.st (S' := T_5.setTop (mkF m 5 #[.val (.ref a1), .val (.int (1 : Int32))] [(.int (1 : Int32)), (.ref ta)])) (fun t hr => XS.iloadN X_5.here hx rfl (hb hby d11_4) rfl hr) ?_
  refine Go.st (S' := T_5.setTop (mkF m 6 #[.val (.ref a1), .val (.int (1 : Int32))] [(.int y)])) (own_ldI X_5 hx hZ e_5 At (j := (1 : Int32)) (v := (.int y)) (by decide) (by rw [lt]; decide) hv (g := (mkF m 5 #[.val (.ref a1), .val (.int (1 : Int32))] [(.int (1 : Int32)), (.ref ta)])) rfl rfl (hb hby d11_5)) ?_
  refine Go.retI X_5 hx hlk hret (hb hby d11_6) (by decide) (by decide) ?_
  try rw [e_5]
  exact ⟨rfl, N0, rfl⟩
theorem ef_rmChr1 (m : MethodId) (a1 : Nat) : entryFrame m #[(.ref a1), (.int (1 : Int32))] 3 = mkF m 0 #[.val (.ref a1), .val (.int (1 : Int32)), .unset] [] := by first | (simp [entryFrame, mkF, argsToLocals, Value.category]; done) | rfl
set_option maxRecDepth 65536 in
set_option maxHeartbeats 1000000 in
theorem rmChr1 (l : Launch) (Z : State) (a0 : Array Value) (hw : ∀ d ∈ tables_1, d.before a0 Z = true) (a1 : Nat) (h0 : Heap) (n0 : Nat) (Z0 : n0 ≤ h0.size) (ca oa ta cd : Nat) (x y : Int32) (cs os ts : List Value) (Fc : Fld Z h0 a1 "com/example/items_in_arrays/itemsinarrays/xpath/RegularExpressionProgram$Builder" "codes" "[Lcom/example/items_in_arrays/itemsinarrays/xpath/RegularExpressionProgram$Code;" (.ref ca)) (Fo : Fld Z h0 a1 "com/example/items_in_arrays/itemsinarrays/xpath/RegularExpressionProgram$Builder" "operands" "[I" (.ref oa)) (Ft : Fld Z h0 a1 "com/example/items_in_arrays/itemsinarrays/xpath/RegularExpressionProgram$Builder" "targets" "[I" (.ref ta)) (Ac : Ary Z h0 ca (.object "com/example/items_in_arrays/itemsinarrays/xpath/RegularExpressionProgram$Code") cs) (Ao : Ary Z h0 oa .int os) (At : Ary Z h0 ta .int ts) (lc : cs.length = 16) (lo : os.length = 16) (lt : ts.length = 16) (O0 : Old Z n0 h0) (S1 : Sta Z Z.heap "com/example/items_in_arrays/itemsinarrays/xpath/RegularExpressionProgram$Code" "CHARACTER" "Lcom/example/items_in_arrays/itemsinarrays/xpath/RegularExpressionProgram$Code;" (.ref cd)) (hv : cs[1]? = some (.ref cd)) (ho : os[1]? = some (.int x)) (hx0 : 0 ≤ x.toInt) :
    Con l Z (⟨"com/example/items_in_arrays/itemsinarrays/xpath/RegularExpressionProgram$Builder", "characters", "(I)Lcom/example/items_in_arrays/itemsinarrays/xpath/CodepointSet;"⟩ : MethodName) prog_64_method_8_code 3 (some (.object "com/example/items_in_arrays/itemsinarrays/xpath/CodepointSet")) ({ frames := 3, cells := 3, slots := 6, locals := 43 } : Room) #[(.ref a1), (.int (1 : Int32))] h0 (fun v h L => ∃ cs : Nat, v = some (.ref cs) ∧ Fr n0 L ∧ Keep h0 h [] ∧ Exa Z h cs "com/example/items_in_arrays/itemsinarrays/xpath/CodepointSet" ∧ ∃ ra : Nat, Fld Z h cs "com/example/items_in_arrays/itemsinarrays/xpath/CodepointSet" "ranges" "[I" (.ref ra) ∧ Ary Z h ra .int [.int x, .int x]) := by
  refine Con.of pf_13 ?_
  intro p e s m below meth c T0 X0 hx hby hml hZ hown hnm hret hlk e0
  have hown : s.vm.findClass "com/example/items_in_arrays/itemsinarrays/xpath/RegularExpressionProgram$Builder" = some m.cls := hown
  have hnm : meth.name = "characters" := hnm
  have N0 := Fr.nil n0
  refine Go.cast (ef_rmChr1 m a1) ?_
  have lt_1 := own_ltF Fc
  have lt_2 := own_ltA Ac
  have lt_3 := own_ltA Ao
  have lt_4 := own_ltA At
  refine Go.st (S' := T0.setTop (mkF m 1 #[.val (.ref a1), .val (.int (1 : Int32)), .unset] [(.ref a1)])) (fun t hr => XS.aloadN X0.here hx rfl (hb hby d12_0) rfl rfl hr) ?_
  obtain ⟨T_5, X_5, e_5, st_5⟩ := getF X0 hx hZ hown (host := "") (Or.inl (hw _ (List.mem_of_getElem? (i := 56) rfl))) Via.refl e0 Fo (g := (mkF m 1 #[.val (.ref a1), .val (.int (1 : Int32)), .unset] [(.ref a1)])) rfl rfl (hb hby d12_1)
  refine Go.st (S' := T_5.setTop (mkF m 4 #[.val (.ref a1), .val (.int (1 : Int32)), .unset] [(.ref oa)])) st_5 ?_
  refine Go.st (S' := T_5.setTop (mkF m 5 #[.val (.ref a1), .val (.int (1 : Int32)), .unset] [(.int (1 : Int32)), (.ref oa)])) (fun t hr => XS.iloadN X_5.here hx rfl (hb hby d12_4) rfl hr) ?_
  refine Go.st (S' := T_5.setTop (mkF m 6 #[.val (.ref a1), .val (.int (1 : Int32)), .unset] [(.int x)])) (own_ldI X_5 hx hZ e_5 Ao (j := (1 : Int32)) (v := (.int x)) (by decide) (by rw [lo]; decide) ho (g := (mkF m 5 #[.val (.ref a1), .val (.int (1 : Int32)), .unset] [(.int (1 : Int32)), (.ref oa)])) rfl rfl (hb hby d12_5)) ?_
  refine Go.st (S' := T_5.setTop (mkF m 7 #[.val (.ref a1), .val (.int (1 : Int32)), .val (.int x)] [])) (fun t hr => XS.istoreN X_5.here hx rfl (hb hby d12_6) rfl (l' := #[.val (.ref a1), .val (.int (1 : Int32)), .val (.int x)]) rfl hr) ?_
  refine Go.st (S' := T_5.setTop (mkF m 8 #[.val (.ref a1), .val (.int (1 : Int32)), .val (.int x)] [(.ref a1)])) (fun t hr => XS.aloadN X_5.here hx rfl (hb hby d12_7) rfl rfl hr) ?_
  obtain ⟨T_6, X_6, e_6, st_6⟩ := getF X_5 hx hZ hown (host := "") (Or.inl (hw _ (List.mem_of_getElem? (i := 53) rfl))) Via.refl e_5 Fc (g := (mkF m 8 #[.val (.ref a1), .val (.int (1 : Int32)), .val (.int x)] [(.ref a1)])) rfl rfl (hb hby d12_8)
  refine Go.st (S' := T_6.setTop (mkF m 11 #[.val (.ref a1), .val (.int (1 : Int32)), .val (.int x)] [(.ref ca)])) st_6 ?_
  refine Go.st (S' := T_6.setTop (mkF m 12 #[.val (.ref a1), .val (.int (1 : Int32)), .val (.int x)] [(.int (1 : Int32)), (.ref ca)])) (fun t hr => XS.iloadN X_6.here hx rfl (hb hby d12_11) rfl hr) ?_
  refine Go.st (S' := T_6.setTop (mkF m 13 #[.val (.ref a1), .val (.int (1 : Int32)), .val (.int x)] [(.ref cd)])) (own_ldR X_6 hx hZ e_6 Ac rfl (j := (1 : Int32)) (v := (.ref cd)) (by decide) (by rw [lc]; decide) hv (g := (mkF m 12 #[.val (.ref a1), .val (.int (1 : Int32)), .val (.int x)] [(.int (1 : Int32)), (.ref ca)])) rfl rfl (hb hby d12_12)) ?_
  obtain ⟨T_7, X_7, e_7, st_7⟩ := getS2 X_6 hx hZ hown (host := "") (Or.inl (hw _ (List.mem_of_getElem? (i := 124) rfl))) Via.refl e_6 (S1.ext O0.2) (g := (mkF m 13 #[.val (.ref a1), .val (.int (1 : Int32)), .val (.int x)] [(.ref cd)])) rfl (hb hby d12_13)
  refine Go.st (S' := T_7.setTop (mkF m 16 #[.val (.ref a1), .val (.int (1 : Int32)), .val (.int x)] [(.ref cd), (.ref cd)])) st_7 ?_
  refine Go.st (S' := T_7.setTop (mkF m 19 #[.val (.ref a1), .val (.int (1 : Int32)), .val (.int x)] [])) (fun t hr => XT.acmpNo X_7.here hx rfl (hb hby d12_16) rfl rfl rfl (XT.aa_ne_f rfl) hr) ?_
  refine Go.st (S' := T_7.setTop (mkF m 20 #[.val (.ref a1), .val (.int (1 : Int32)), .val (.int x)] [(.int x)])) (fun t hr => XS.iloadN X_7.here hx rfl (hb hby d12_19) rfl hr) ?_
  refine Go.st (S' := T_7.setTop (mkF m 21 #[.val (.ref a1), .val (.int (1 : Int32)), .val (.int x)] [(.int x), (.int x)])) (fun t hr => XS.iloadN X_7.here hx rfl (hb hby d12_20) rfl hr) ?_
  obtain ⟨v_8, T_8, h_8, L_8, X_8, e_8, Q_8, st_8⟩ := own_callS X_7 hx hZ (y := ⟨"com/example/items_in_arrays/itemsinarrays/xpath/CodepointSet", "range", "(II)Lcom/example/items_in_arrays/itemsinarrays/xpath/CodepointSet;"⟩) hown (hw _ (List.mem_of_getElem? (i := 125) rfl)) (hw _ (List.mem_of_getElem? (i := 126) rfl)) (hw _ (List.mem_of_getElem? (i := 127) rfl)) (hw _ (List.mem_of_getElem? (i := 128) rfl)) (by decide) e_7 (argsL := [(.int x), (.int x)]) (rest := []) (rmRg l Z a0 hw x h0 n0 (by omega) hx0) (g := (mkF m 21 #[.val (.ref a1), .val (.int (1 : Int32)), .val (.int x)] [(.int x), (.int x)])) rfl (by rw [hml]; rfl) (lenOf pd_3 rfl) rfl (hb hby d12_21) (W := 0) (by show 2 * 0 + _ ≤ _; exact Nat.le_of_eq rfl) (by decide) (by decide) (by decide) (by decide)
  obtain ⟨cs_8, rfl, N_8, K_8, EE_8, ra_8, GG_8, AA_8⟩ := Q_8
  have N_8' := Fr.app N0 N_8
  have z_8 := K_8.1
  refine Go.st (S' := T_8.setTop (mkF m 24 #[.val (.ref a1), .val (.int (1 : Int32)), .val (.int x)] [(.ref cs_8)])) st_8 ?_
  refine Go.st (S' := T_8.setTop (mkF m 40 #[.val (.ref a1), .val (.int (1 : Int32)), .val (.int x)] [(.ref cs_8)])) (fun t hr => XS.goto X_8.here hx rfl (pc0 := 24) (pc' := 40) rfl (hb hby d12_24) (by decide) (by decide) hr) ?_
  refine Go.retA X_8 hx hlk (t := (.object "com/example/items_in_arrays/itemsinarrays/xpath/CodepointSet")) hret rfl rfl (hb hby d12_40) (by decide) (by decide) ?_
  try rw [e_8]
  exact ⟨cs_8, rfl, N_8', ((Keep.refl h0 []).trans K_8 all0), EE_8, ra_8, GG_8, AA_8⟩
theorem ef_rm0 (m : MethodId) (p1 : Int32) (p2 : Int32) (p3 : Int32) (p4 : Int32) (p5 : Int32) : entryFrame m #[(.int p1), (.int p2), (.int p3), (.int p4), (.int p5)] maxLocals = mkF m 0 #[.val (.int p1), .val (.int p2), .val (.int p3), .val (.int p4), .val (.int p5), .unset, .unset, .unset, .unset, .unset, .unset, .unset, .unset, .unset, .unset, .unset] [] := by first | (simp [entryFrame, mkF, argsToLocals, Value.category, maxLocals]; done) | rfl
theorem pf_14 : plainFor x = true := plainFor_of_name (by first | (simp [plainName, overriddenIn, x]; done) | decide +kernel)
theorem pd_4 : parseMethodDescriptor "(I)Lcom/example/items_in_arrays/itemsinarrays/xpath/RegularExpressionProgram$Code;" = some ⟨[.int], some (.object "com/example/items_in_arrays/itemsinarrays/xpath/RegularExpressionProgram$Code")⟩ := by decide +kernel
theorem pd_5 : parseMethodDescriptor "(Lcom/example/items_in_arrays/itemsinarrays/xpath/RegularExpressionProgram$Code;II)I" = some ⟨[(.object "com/example/items_in_arrays/itemsinarrays/xpath/RegularExpressionProgram$Code"), .int, .int], some .int⟩ := by decide +kernel
theorem pd_6 : parseMethodDescriptor "(ILcom/example/items_in_arrays/itemsinarrays/xpath/RegularExpressionProgram$Code;II)V" = some ⟨[.int, (.object "com/example/items_in_arrays/itemsinarrays/xpath/RegularExpressionProgram$Code"), .int, .int], none⟩ := by decide +kernel
theorem pd_7 : parseMethodDescriptor "(I)I" = some ⟨[.int], some .int⟩ := by decide +kernel
theorem pd_8 : parseMethodDescriptor "(I)Lcom/example/items_in_arrays/itemsinarrays/xpath/CodepointSet;" = some ⟨[.int], some (.object "com/example/items_in_arrays/itemsinarrays/xpath/CodepointSet")⟩ := by decide +kernel
theorem pd_9 : parseMethodDescriptor "()I" = some ⟨[], some .int⟩ := by decide +kernel
set_option maxRecDepth 65536 in
set_option maxHeartbeats 1000000 in
theorem rm0 (l : Launch) (Z : State) (a0 : Array Value) (hw : ∀ d ∈ tables_1, d.before a0 Z = true) (p1 : Int32) (p2 : Int32) (p3 : Int32) (p4 : Int32) (p5 : Int32) (h0 : Heap) (n0 : Nat) (Z0 : n0 ≤ h0.size) (f0 f1 f2 f3 f4 f5 f6 f7 f8 f9 f10 f11 f12 f13 f14 f15 f16 : Nat) (O0 : Old Z n0 h0) (SC0 : Sta Z Z.heap "com/example/items_in_arrays/itemsinarrays/xpath/RegularExpressionProgram$Code" "NOTHING" "Lcom/example/items_in_arrays/itemsinarrays/xpath/RegularExpressionProgram$Code;" (.ref f0)) (E0 : Exa Z Z.heap f0 "com/example/items_in_arrays/itemsinarrays/xpath/RegularExpressionProgram$Code") (SC1 : Sta Z Z.heap "com/example/items_in_arrays/itemsinarrays/xpath/RegularExpressionProgram$Code" "CHARACTER" "Lcom/example/items_in_arrays/itemsinarrays/xpath/RegularExpressionProgram$Code;" (.ref f1)) (E1 : Exa Z Z.heap f1 "com/example/items_in_arrays/itemsinarrays/xpath/RegularExpressionProgram$Code") (SC2 : Sta Z Z.heap "com/example/items_in_arrays/itemsinarrays/xpath/RegularExpressionProgram$Code" "SET" "Lcom/example/items_in_arrays/itemsinarrays/xpath/RegularExpressionProgram$Code;" (.ref f2)) (E2 : Exa Z Z.heap f2 "com/example/items_in_arrays/itemsinarrays/xpath/RegularExpressionProgram$Code") (SC3 : Sta Z Z.heap "com/example/items_in_arrays/itemsinarrays/xpath/RegularExpressionProgram$Code" "STRING_START" "Lcom/example/items_in_arrays/itemsinarrays/xpath/RegularExpressionProgram$Code;" (.ref f3)) (E3 : Exa Z Z.heap f3 "com/example/items_in_arrays/itemsinarrays/xpath/RegularExpressionProgram$Code") (SC4 : Sta Z Z.heap "com/example/items_in_arrays/itemsinarrays/xpath/RegularExpressionProgram$Code" "LINE_START" "Lcom/example/items_in_arrays/itemsinarrays/xpath/RegularExpressionProgram$Code;" (.ref f4)) (E4 : Exa Z Z.heap f4 "com/example/items_in_arrays/itemsinarrays/xpath/RegularExpressionProgram$Code") (SC5 : Sta Z Z.heap "com/example/items_in_arrays/itemsinarrays/xpath/RegularExpressionProgram$Code" "STRING_END" "Lcom/example/items_in_arrays/itemsinarrays/xpath/RegularExpressionProgram$Code;" (.ref f5)) (E5 : Exa Z Z.heap f5 "com/example/items_in_arrays/itemsinarrays/xpath/RegularExpressionProgram$Code") (SC6 : Sta Z Z.heap "com/example/items_in_arrays/itemsinarrays/xpath/RegularExpressionProgram$Code" "LINE_END" "Lcom/example/items_in_arrays/itemsinarrays/xpath/RegularExpressionProgram$Code;" (.ref f6)) (E6 : Exa Z Z.heap f6 "com/example/items_in_arrays/itemsinarrays/xpath/RegularExpressionProgram$Code") (SC7 : Sta Z Z.heap "com/example/items_in_arrays/itemsinarrays/xpath/RegularExpressionProgram$Code" "BACK_REFERENCE" "Lcom/example/items_in_arrays/itemsinarrays/xpath/RegularExpressionProgram$Code;" (.ref f7)) (E7 : Exa Z Z.heap f7 "com/example/items_in_arrays/itemsinarrays/xpath/RegularExpressionProgram$Code") (SC8 : Sta Z Z.heap "com/example/items_in_arrays/itemsinarrays/xpath/RegularExpressionProgram$Code" "SAVE" "Lcom/example/items_in_arrays/itemsinarrays/xpath/RegularExpressionProgram$Code;" (.ref f8)) (E8 : Exa Z Z.heap f8 "com/example/items_in_arrays/itemsinarrays/xpath/RegularExpressionProgram$Code") (SC9 : Sta Z Z.heap "com/example/items_in_arrays/itemsinarrays/xpath/RegularExpressionProgram$Code" "JUMP" "Lcom/example/items_in_arrays/itemsinarrays/xpath/RegularExpressionProgram$Code;" (.ref f9)) (E9 : Exa Z Z.heap f9 "com/example/items_in_arrays/itemsinarrays/xpath/RegularExpressionProgram$Code") (SC10 : Sta Z Z.heap "com/example/items_in_arrays/itemsinarrays/xpath/RegularExpressionProgram$Code" "TRY_NEXT" "Lcom/example/items_in_arrays/itemsinarrays/xpath/RegularExpressionProgram$Code;" (.ref f10)) (E10 : Exa Z Z.heap f10 "com/example/items_in_arrays/itemsinarrays/xpath/RegularExpressionProgram$Code") (SC11 : Sta Z Z.heap "com/example/items_in_arrays/itemsinarrays/xpath/RegularExpressionProgram$Code" "TRY_TARGET" "Lcom/example/items_in_arrays/itemsinarrays/xpath/RegularExpressionProgram$Code;" (.ref f11)) (E11 : Exa Z Z.heap f11 "com/example/items_in_arrays/itemsinarrays/xpath/RegularExpressionProgram$Code") (SC12 : Sta Z Z.heap "com/example/items_in_arrays/itemsinarrays/xpath/RegularExpressionProgram$Code" "LOOP_START" "Lcom/example/items_in_arrays/itemsinarrays/xpath/RegularExpressionProgram$Code;" (.ref f12)) (E12 : Exa Z Z.heap f12 "com/example/items_in_arrays/itemsinarrays/xpath/RegularExpressionProgram$Code") (SC13 : Sta Z Z.heap "com/example/items_in_arrays/itemsinarrays/xpath/RegularExpressionProgram$Code" "LOOP" "Lcom/example/items_in_arrays/itemsinarrays/xpath/RegularExpressionProgram$Code;" (.ref f13)) (E13 : Exa Z Z.heap f13 "com/example/items_in_arrays/itemsinarrays/xpath/RegularExpressionProgram$Code") (SC14 : Sta Z Z.heap "com/example/items_in_arrays/itemsinarrays/xpath/RegularExpressionProgram$Code" "LOOP_AGAIN" "Lcom/example/items_in_arrays/itemsinarrays/xpath/RegularExpressionProgram$Code;" (.ref f14)) (E14 : Exa Z Z.heap f14 "com/example/items_in_arrays/itemsinarrays/xpath/RegularExpressionProgram$Code") (SC15 : Sta Z Z.heap "com/example/items_in_arrays/itemsinarrays/xpath/RegularExpressionProgram$Code" "RUN" "Lcom/example/items_in_arrays/itemsinarrays/xpath/RegularExpressionProgram$Code;" (.ref f15)) (E15 : Exa Z Z.heap f15 "com/example/items_in_arrays/itemsinarrays/xpath/RegularExpressionProgram$Code") (SC16 : Sta Z Z.heap "com/example/items_in_arrays/itemsinarrays/xpath/RegularExpressionProgram$Code" "MATCH" "Lcom/example/items_in_arrays/itemsinarrays/xpath/RegularExpressionProgram$Code;" (.ref f16)) (E16 : Exa Z Z.heap f16 "com/example/items_in_arrays/itemsinarrays/xpath/RegularExpressionProgram$Code") (vd : Value) (rd : vd.isRef = true) (S0 : Sta Z Z.heap "java/util/ArrayList" "DEFAULTCAPACITY_EMPTY_ELEMENTDATA" "[Ljava/lang/Object;" vd) :
    Con l Z x code maxLocals ret room_1 #[(.int p1), (.int p2), (.int p3), (.int p4), (.int p5)] h0 (fun v h L => v = some (.int 1) ∧ Fr n0 L) := by
  refine Con.of pf_14 ?_
  intro p e s m below meth c T0 X0 hx hby hml hZ hown hnm hret hlk e0
  have hown : s.vm.findClass "com/example/items_in_arrays/itemsinarrays/xpath/BuilderSetPinLaw" = some m.cls := hown
  have hnm : meth.name = "law" := hnm
  have N0 := Fr.nil n0
  refine Go.cast (ef_rm0 m p1 p2 p3 p4 p5) ?_
  refine Go.st (S' := T0.setTop (mkF m 1 #[.val (.int p1), .val (.int p2), .val (.int p3), .val (.int p4), .val (.int p5), .unset, .unset, .unset, .unset, .unset, .unset, .unset, .unset, .unset, .unset, .unset] [(.int p1)])) (fun t hr => XS.iloadN X0.here hx rfl (hb hby at_0) rfl hr) ?_
  refine Go.st (S' := T0.setTop (mkF m 2 #[.val (.int p1), .val (.int p2), .val (.int p3), .val (.int p4), .val (.int p5), .unset, .unset, .unset, .unset, .unset, .unset, .unset, .unset, .unset, .unset, .unset] [(.int (1 : Int32)), (.int p1)])) (fun t hr => XS.iconst X0.here hx rfl (hb hby at_1) hr) ?_
  refine Go.st (S' := T0.setTop (mkF m 3 #[.val (.int p1), .val (.int p2), .val (.int p3), .val (.int p4), .val (.int p5), .unset, .unset, .unset, .unset, .unset, .unset, .unset, .unset, .unset, .unset, .unset] [(.int (p1 &&& (1 : Int32)))])) (fun t hr => XS.iand X0.here hx rfl (hb hby at_2) rfl hr) ?_
  obtain ⟨vpl, hvpl⟩ : ∃ z : Int32, z = (p1 &&& (1 : Int32)) := ⟨_, rfl⟩
  refine Go.st (S' := T0.setTop (mkF m 5 #[.val (.int p1), .val (.int p2), .val (.int p3), .val (.int p4), .val (.int p5), .val (.int vpl), .unset, .unset, .unset, .unset, .unset, .unset, .unset, .unset, .unset, .unset] [])) (fun t hr => by subst hvpl; exact XS.istore X0.here hx rfl (hb hby at_3) rfl (l' := _) rfl hr) ?_
  have hpl : vpl = 0 ∨ vpl = 1 := by
    have q := c_mask p1 1 1 (by decide) (by decide)
    rw [← hvpl] at q
    simp only [← Int32.toInt_inj]
    have q0 : (0 : Int32).toInt = 0 := by decide
    have q1 : (1 : Int32).toInt = 1 := by decide
    omega
  rcases hpl with rfl | rfl
  · refine Go.st (S' := T0.setTop (mkF m 6 #[.val (.int p1), .val (.int p2), .val (.int p3), .val (.int p4), .val (.int p5), .val (.int (0 : Int32)), .unset, .unset, .unset, .unset, .unset, .unset, .unset, .unset, .unset, .unset] [(.int (1 : Int32))])) (fun t hr => XS.iconst X0.here hx rfl (hb hby at_5) hr) ?_
    refine Go.st (S' := T0.setTop (mkF m 8 #[.val (.int p1), .val (.int p2), .val (.int p3), .val (.int p4), .val (.int p5), .val (.int (0 : Int32)), .unset, .unset, .unset, .unset, .unset, .unset, .unset, .unset, .unset, .unset] [(.int (0 : Int32)), (.int (1 : Int32))])) (fun t hr => XS.iload X0.here hx rfl (hb hby at_6) rfl hr) ?_
    refine Go.st (S' := T0.setTop (mkF m 9 #[.val (.int p1), .val (.int p2), .val (.int p3), .val (.int p4), .val (.int p5), .val (.int (0 : Int32)), .unset, .unset, .unset, .unset, .unset, .unset, .unset, .unset, .unset, .unset] [(.int (1 : Int32))])) (fun t hr => XS.isub X0.here hx rfl (hb hby at_8) rfl hr) ?_
    refine Go.st (S' := T0.setTop (mkF m 11 #[.val (.int p1), .val (.int p2), .val (.int p3), .val (.int p4), .val (.int p5), .val (.int (0 : Int32)), .val (.int (1 : Int32)), .unset, .unset, .unset, .unset, .unset, .unset, .unset, .unset, .unset] [])) (fun t hr => XS.istore X0.here hx rfl (hb hby at_9) rfl (l' := #[.val (.int p1), .val (.int p2), .val (.int p3), .val (.int p4), .val (.int p5), .val (.int (0 : Int32)), .val (.int (1 : Int32)), .unset, .unset, .unset, .unset, .unset, .unset, .unset, .unset, .unset]) rfl hr) ?_
    refine Go.st (S' := T0.setTop (mkF m 12 #[.val (.int p1), .val (.int p2), .val (.int p3), .val (.int p4), .val (.int p5), .val (.int (0 : Int32)), .val (.int (1 : Int32)), .unset, .unset, .unset, .unset, .unset, .unset, .unset, .unset, .unset] [(.int p1)])) (fun t hr => XS.iloadN X0.here hx rfl (hb hby at_11) rfl hr) ?_
    refine Go.st (S' := T0.setTop (mkF m 13 #[.val (.int p1), .val (.int p2), .val (.int p3), .val (.int p4), .val (.int p5), .val (.int (0 : Int32)), .val (.int (1 : Int32)), .unset, .unset, .unset, .unset, .unset, .unset, .unset, .unset, .unset] [(.int (1 : Int32)), (.int p1)])) (fun t hr => XS.iconst X0.here hx rfl (hb hby at_12) hr) ?_
    refine Go.st (S' := T0.setTop (mkF m 14 #[.val (.int p1), .val (.int p2), .val (.int p3), .val (.int p4), .val (.int p5), .val (.int (0 : Int32)), .val (.int (1 : Int32)), .unset, .unset, .unset, .unset, .unset, .unset, .unset, .unset, .unset] [(.int (XT.ushr p1 (1 : Int32)))])) (fun t hr => XT.iushr X0.here hx rfl (hb hby at_13) rfl hr) ?_
    refine Go.st (S' := T0.setTop (mkF m 16 #[.val (.int p1), .val (.int p2), .val (.int p3), .val (.int p4), .val (.int p5), .val (.int (0 : Int32)), .val (.int (1 : Int32)), .unset, .unset, .unset, .unset, .unset, .unset, .unset, .unset, .unset] [(.int (2147483647 : Int32)), (.int (XT.ushr p1 (1 : Int32)))])) (own_ldc X0 hx hZ hown (index := 61) (x := (2147483647 : Int32)) (hw _ (List.mem_of_getElem? (i := 0) rfl)) (g := (mkF m 14 #[.val (.int p1), .val (.int p2), .val (.int p3), .val (.int p4), .val (.int p5), .val (.int (0 : Int32)), .val (.int (1 : Int32)), .unset, .unset, .unset, .unset, .unset, .unset, .unset, .unset, .unset] [(.int (XT.ushr p1 (1 : Int32)))])) rfl (hb hby at_14)) ?_
    refine Go.st (S' := T0.setTop (mkF m 17 #[.val (.int p1), .val (.int p2), .val (.int p3), .val (.int p4), .val (.int p5), .val (.int (0 : Int32)), .val (.int (1 : Int32)), .unset, .unset, .unset, .unset, .unset, .unset, .unset, .unset, .unset] [(.int ((XT.ushr p1 (1 : Int32)) &&& (2147483647 : Int32)))])) (fun t hr => XS.iand X0.here hx rfl (hb hby at_16) rfl hr) ?_
    refine Go.st (S' := T0.setTop (mkF m 19 #[.val (.int p1), .val (.int p2), .val (.int p3), .val (.int p4), .val (.int p5), .val (.int (0 : Int32)), .val (.int (1 : Int32)), .unset, .unset, .unset, .unset, .unset, .unset, .unset, .unset, .unset] [(.int (17 : Int32)), (.int ((XT.ushr p1 (1 : Int32)) &&& (2147483647 : Int32)))])) (fun t hr => XS.bipush X0.here hx rfl (hb hby at_17) hr) ?_
    refine Go.st (S' := T0.setTop (mkF m 20 #[.val (.int p1), .val (.int p2), .val (.int p3), .val (.int p4), .val (.int p5), .val (.int (0 : Int32)), .val (.int (1 : Int32)), .unset, .unset, .unset, .unset, .unset, .unset, .unset, .unset, .unset] [(.int (((XT.ushr p1 (1 : Int32)) &&& (2147483647 : Int32)) % (17 : Int32)))])) (fun t hr => iremM X0 hx rfl (hb hby at_19) rfl (by decide) hr) ?_
    obtain ⟨vk, hvk⟩ : ∃ z : Int32, z = (((XT.ushr p1 (1 : Int32)) &&& (2147483647 : Int32)) % (17 : Int32)) := ⟨_, rfl⟩
    refine Go.cast (g' := (mkF m 20 #[.val (.int p1), .val (.int p2), .val (.int p3), .val (.int p4), .val (.int p5), .val (.int (0 : Int32)), .val (.int (1 : Int32)), .unset, .unset, .unset, .unset, .unset, .unset, .unset, .unset, .unset] [(.int vk)])) (by rw [show (((XT.ushr p1 (1 : Int32)) &&& (2147483647 : Int32)) % (17 : Int32)) = vk from hvk.symm]) ?_
    have hk17 : 0 ≤ vk.toInt ∧ vk.toInt < 17 := by rw [hvk]; exact own_idx17 _
    obtain ⟨v_1, T_1, h_1, L_1, X_1, e_1, Q_1, st_1⟩ := own_callS X0 hx hZ (y := ⟨"com/example/items_in_arrays/itemsinarrays/xpath/BuilderSetPinLaw", "pick", "(I)Lcom/example/items_in_arrays/itemsinarrays/xpath/RegularExpressionProgram$Code;"⟩) hown (hw _ (List.mem_of_getElem? (i := 1) rfl)) (hw _ (List.mem_of_getElem? (i := 2) rfl)) (hw _ (List.mem_of_getElem? (i := 3) rfl)) (hw _ (List.mem_of_getElem? (i := 4) rfl)) (by decide) e0 (argsL := [(.int vk)]) (rest := []) (rmPk l Z a0 hw vk h0 n0 (by omega) f0 f1 f2 f3 f4 f5 f6 f7 f8 f9 f10 f11 f12 f13 f14 f15 f16 O0 SC0 E0 SC1 E1 SC2 E2 SC3 E3 SC4 E4 SC5 E5 SC6 E6 SC7 E7 SC8 E8 SC9 E9 SC10 E10 SC11 E11 SC12 E12 SC13 E13 SC14 E14 SC15 E15 SC16 E16 hk17) (g := (mkF m 20 #[.val (.int p1), .val (.int p2), .val (.int p3), .val (.int p4), .val (.int p5), .val (.int (0 : Int32)), .val (.int (1 : Int32)), .unset, .unset, .unset, .unset, .unset, .unset, .unset, .unset, .unset] [(.int vk)])) rfl (by rw [hml]; rfl) (lenOf pd_4 rfl) rfl (hb hby at_20) (W := 0) (by show 2 * 0 + _ ≤ _; exact Nat.le_of_eq rfl) (by decide) (by decide) (by decide) (by decide)
    obtain ⟨fk_1, rfl, N_1, K_1, EE_1⟩ := Q_1
    have N_1' := Fr.app N0 N_1
    have z_1 := K_1.1
    refine Go.st (S' := T_1.setTop (mkF m 23 #[.val (.int p1), .val (.int p2), .val (.int p3), .val (.int p4), .val (.int p5), .val (.int (0 : Int32)), .val (.int (1 : Int32)), .unset, .unset, .unset, .unset, .unset, .unset, .unset, .unset, .unset] [(.ref fk_1)])) st_1 ?_
    refine Go.st (S' := T_1.setTop (mkF m 25 #[.val (.int p1), .val (.int p2), .val (.int p3), .val (.int p4), .val (.int p5), .val (.int (0 : Int32)), .val (.int (1 : Int32)), .val (.ref fk_1), .unset, .unset, .unset, .unset, .unset, .unset, .unset, .unset] [])) (fun t hr => XS.astore X_1.here hx rfl (hb hby at_23) rfl rfl (l' := #[.val (.int p1), .val (.int p2), .val (.int p3), .val (.int p4), .val (.int p5), .val (.int (0 : Int32)), .val (.int (1 : Int32)), .val (.ref fk_1), .unset, .unset, .unset, .unset, .unset, .unset, .unset, .unset]) rfl hr) ?_
    refine Go.st (S' := T_1.setTop (mkF m 26 #[.val (.int p1), .val (.int p2), .val (.int p3), .val (.int p4), .val (.int p5), .val (.int (0 : Int32)), .val (.int (1 : Int32)), .val (.ref fk_1), .unset, .unset, .unset, .unset, .unset, .unset, .unset, .unset] [(.int p4)])) (fun t hr => XS.iloadN X_1.here hx rfl (hb hby at_25) rfl hr) ?_
    refine Go.st (S' := T_1.setTop (mkF m 28 #[.val (.int p1), .val (.int p2), .val (.int p3), .val (.int p4), .val (.int p5), .val (.int (0 : Int32)), .val (.int (1 : Int32)), .val (.ref fk_1), .unset, .unset, .unset, .unset, .unset, .unset, .unset, .unset] [(.int (2147483647 : Int32)), (.int p4)])) (own_ldc X_1 hx hZ hown (index := 61) (x := (2147483647 : Int32)) (hw _ (List.mem_of_getElem? (i := 0) rfl)) (g := (mkF m 26 #[.val (.int p1), .val (.int p2), .val (.int p3), .val (.int p4), .val (.int p5), .val (.int (0 : Int32)), .val (.int (1 : Int32)), .val (.ref fk_1), .unset, .unset, .unset, .unset, .unset, .unset, .unset, .unset] [(.int p4)])) rfl (hb hby at_26)) ?_
    refine Go.st (S' := T_1.setTop (mkF m 29 #[.val (.int p1), .val (.int p2), .val (.int p3), .val (.int p4), .val (.int p5), .val (.int (0 : Int32)), .val (.int (1 : Int32)), .val (.ref fk_1), .unset, .unset, .unset, .unset, .unset, .unset, .unset, .unset] [(.int (p4 &&& (2147483647 : Int32)))])) (fun t hr => XS.iand X_1.here hx rfl (hb hby at_28) rfl hr) ?_
    obtain ⟨vo0, hvo0⟩ : ∃ z : Int32, z = (p4 &&& (2147483647 : Int32)) := ⟨_, rfl⟩
    refine Go.st (S' := T_1.setTop (mkF m 31 #[.val (.int p1), .val (.int p2), .val (.int p3), .val (.int p4), .val (.int p5), .val (.int (0 : Int32)), .val (.int (1 : Int32)), .val (.ref fk_1), .val (.int vo0), .unset, .unset, .unset, .unset, .unset, .unset, .unset] [])) (fun t hr => by subst hvo0; exact XS.istore X_1.here hx rfl (hb hby at_29) rfl (l' := _) rfl hr) ?_
    refine Go.st (S' := T_1.setTop (mkF m 33 #[.val (.int p1), .val (.int p2), .val (.int p3), .val (.int p4), .val (.int p5), .val (.int (0 : Int32)), .val (.int (1 : Int32)), .val (.ref fk_1), .val (.int vo0), .unset, .unset, .unset, .unset, .unset, .unset, .unset] [(.int vo0)])) (fun t hr => XS.iload X_1.here hx rfl (hb hby at_31) rfl hr) ?_
    refine Go.st (S' := T_1.setTop (mkF m 34 #[.val (.int p1), .val (.int p2), .val (.int p3), .val (.int p4), .val (.int p5), .val (.int (0 : Int32)), .val (.int (1 : Int32)), .val (.ref fk_1), .val (.int vo0), .unset, .unset, .unset, .unset, .unset, .unset, .unset] [(.int (1 : Int32)), (.int vo0)])) (fun t hr => XS.iconst X_1.here hx rfl (hb hby at_33) hr) ?_
    refine Go.st (S' := T_1.setTop (mkF m 35 #[.val (.int p1), .val (.int p2), .val (.int p3), .val (.int p4), .val (.int p5), .val (.int (0 : Int32)), .val (.int (1 : Int32)), .val (.ref fk_1), .val (.int vo0), .unset, .unset, .unset, .unset, .unset, .unset, .unset] [(.int (vo0 ^^^ (1 : Int32)))])) (fun t hr => XT.ixor X_1.here hx rfl (hb hby at_34) rfl hr) ?_
    obtain ⟨vo1, hvo1⟩ : ∃ z : Int32, z = (vo0 ^^^ (1 : Int32)) := ⟨_, rfl⟩
    refine Go.st (S' := T_1.setTop (mkF m 37 #[.val (.int p1), .val (.int p2), .val (.int p3), .val (.int p4), .val (.int p5), .val (.int (0 : Int32)), .val (.int (1 : Int32)), .val (.ref fk_1), .val (.int vo0), .val (.int vo1), .unset, .unset, .unset, .unset, .unset, .unset] [])) (fun t hr => by subst hvo1; exact XS.istore X_1.here hx rfl (hb hby at_35) rfl (l' := _) rfl hr) ?_
    refine Go.st (S' := T_1.setTop (mkF m 39 #[.val (.int p1), .val (.int p2), .val (.int p3), .val (.int p4), .val (.int p5), .val (.int (0 : Int32)), .val (.int (1 : Int32)), .val (.ref fk_1), .val (.int vo0), .val (.int vo1), .unset, .unset, .unset, .unset, .unset, .unset] [(.int p5)])) (fun t hr => XS.iload X_1.here hx rfl (hb hby at_37) rfl hr) ?_
    refine Go.st (S' := T_1.setTop (mkF m 41 #[.val (.int p1), .val (.int p2), .val (.int p3), .val (.int p4), .val (.int p5), .val (.int (0 : Int32)), .val (.int (1 : Int32)), .val (.ref fk_1), .val (.int vo0), .val (.int vo1), .val (.int p5), .unset, .unset, .unset, .unset, .unset] [])) (fun t hr => XS.istore X_1.here hx rfl (hb hby at_39) rfl (l' := #[.val (.int p1), .val (.int p2), .val (.int p3), .val (.int p4), .val (.int p5), .val (.int (0 : Int32)), .val (.int (1 : Int32)), .val (.ref fk_1), .val (.int vo0), .val (.int vo1), .val (.int p5), .unset, .unset, .unset, .unset, .unset]) rfl hr) ?_
    refine Go.st (S' := T_1.setTop (mkF m 43 #[.val (.int p1), .val (.int p2), .val (.int p3), .val (.int p4), .val (.int p5), .val (.int (0 : Int32)), .val (.int (1 : Int32)), .val (.ref fk_1), .val (.int vo0), .val (.int vo1), .val (.int p5), .unset, .unset, .unset, .unset, .unset] [(.int p5)])) (fun t hr => XS.iload X_1.here hx rfl (hb hby at_41) rfl hr) ?_
    refine Go.st (S' := T_1.setTop (mkF m 44 #[.val (.int p1), .val (.int p2), .val (.int p3), .val (.int p4), .val (.int p5), .val (.int (0 : Int32)), .val (.int (1 : Int32)), .val (.ref fk_1), .val (.int vo0), .val (.int vo1), .val (.int p5), .unset, .unset, .unset, .unset, .unset] [(.int (-1 : Int32)), (.int p5)])) (fun t hr => XS.iconst X_1.here hx rfl (hb hby at_43) hr) ?_
    refine Go.st (S' := T_1.setTop (mkF m 45 #[.val (.int p1), .val (.int p2), .val (.int p3), .val (.int p4), .val (.int p5), .val (.int (0 : Int32)), .val (.int (1 : Int32)), .val (.ref fk_1), .val (.int vo0), .val (.int vo1), .val (.int p5), .unset, .unset, .unset, .unset, .unset] [(.int (p5 ^^^ (-1 : Int32)))])) (fun t hr => XT.ixor X_1.here hx rfl (hb hby at_44) rfl hr) ?_
    obtain ⟨vt1, hvt1⟩ : ∃ z : Int32, z = (p5 ^^^ (-1 : Int32)) := ⟨_, rfl⟩
    refine Go.st (S' := T_1.setTop (mkF m 47 #[.val (.int p1), .val (.int p2), .val (.int p3), .val (.int p4), .val (.int p5), .val (.int (0 : Int32)), .val (.int (1 : Int32)), .val (.ref fk_1), .val (.int vo0), .val (.int vo1), .val (.int p5), .val (.int vt1), .unset, .unset, .unset, .unset] [])) (fun t hr => by subst hvt1; exact XS.istore X_1.here hx rfl (hb hby at_45) rfl (l' := _) rfl hr) ?_
    have hvo0p : 0 ≤ vo0.toInt := by rw [hvo0]; have q := c_mask p4 2147483647 31 (by decide) (by decide); omega
    have hvo1p : 0 ≤ vo1.toInt := by rw [hvo1]; exact (c_xorS vo0 1).2.2.2 hvo0p (by decide)
    obtain ⟨T_2, h_2, X_2, e_2, E_2, A_2, D_2, -, st_2⟩ := newO X_1 hx hZ hown (hw _ (List.mem_of_getElem? (i := 43) rfl)) (hw _ (List.mem_of_getElem? (i := 44) rfl)) (hw _ (List.mem_of_getElem? (i := 45) rfl)) e_1 (g := (mkF m 47 #[.val (.int p1), .val (.int p2), .val (.int p3), .val (.int p4), .val (.int p5), .val (.int (0 : Int32)), .val (.int (1 : Int32)), .val (.ref fk_1), .val (.int vo0), .val (.int vo1), .val (.int p5), .val (.int vt1), .unset, .unset, .unset, .unset] [])) rfl (hb hby at_47) (by decide) (by decide)
    obtain ⟨ad_2, g_2⟩ : ∃ z, z = h_1.size := ⟨_, rfl⟩
    rw [← g_2] at A_2 D_2 st_2
    have z_2 := E_2.1
    have y_2 := own_ltE A_2
    have F_2_codes : Fld Z h_2 ad_2 "com/example/items_in_arrays/itemsinarrays/xpath/RegularExpressionProgram$Builder" "codes" "[Lcom/example/items_in_arrays/itemsinarrays/xpath/RegularExpressionProgram$Code;" .null := D_2 (Or.inl (hw _ (List.mem_of_getElem? (i := 54) rfl))) (ty := (.array (.object "com/example/items_in_arrays/itemsinarrays/xpath/RegularExpressionProgram$Code"))) (by decide)
    have F_2_operands : Fld Z h_2 ad_2 "com/example/items_in_arrays/itemsinarrays/xpath/RegularExpressionProgram$Builder" "operands" "[I" .null := D_2 (Or.inl (hw _ (List.mem_of_getElem? (i := 57) rfl))) (ty := (.array .int)) (by decide)
    have F_2_targets : Fld Z h_2 ad_2 "com/example/items_in_arrays/itemsinarrays/xpath/RegularExpressionProgram$Builder" "targets" "[I" .null := D_2 (Or.inl (hw _ (List.mem_of_getElem? (i := 59) rfl))) (ty := (.array .int)) (by decide)
    have F_2_sets : Fld Z h_2 ad_2 "com/example/items_in_arrays/itemsinarrays/xpath/RegularExpressionProgram$Builder" "sets" "Ljava/util/List;" .null := D_2 (Or.inr (hw _ (List.mem_of_getElem? (i := 85) rfl))) (ty := (.object "java/util/List")) (by decide)
    have F_2_least : Fld Z h_2 ad_2 "com/example/items_in_arrays/itemsinarrays/xpath/RegularExpressionProgram$Builder" "least" "[I" .null := D_2 (Or.inl (hw _ (List.mem_of_getElem? (i := 87) rfl))) (ty := (.array .int)) (by decide)
    have F_2_most : Fld Z h_2 ad_2 "com/example/items_in_arrays/itemsinarrays/xpath/RegularExpressionProgram$Builder" "most" "[I" .null := D_2 (Or.inl (hw _ (List.mem_of_getElem? (i := 89) rfl))) (ty := (.array .int)) (by decide)
    have F_2_greedy : Fld Z h_2 ad_2 "com/example/items_in_arrays/itemsinarrays/xpath/RegularExpressionProgram$Builder" "greedy" "[Z" .null := D_2 (Or.inl (hw _ (List.mem_of_getElem? (i := 92) rfl))) (ty := (.array .boolean)) (by decide)
    have F_2_checksEmpty : Fld Z h_2 ad_2 "com/example/items_in_arrays/itemsinarrays/xpath/RegularExpressionProgram$Builder" "checksEmpty" "[Z" .null := D_2 (Or.inl (hw _ (List.mem_of_getElem? (i := 94) rfl))) (ty := (.array .boolean)) (by decide)
    have F_2_required : Fld Z h_2 ad_2 "com/example/items_in_arrays/itemsinarrays/xpath/RegularExpressionProgram$Builder" "required" "I" (.int (0 : Int32)) := D_2 (Or.inl (hw _ (List.mem_of_getElem? (i := 96) rfl))) (ty := .int) (by decide)
    have F_2_size : Fld Z h_2 ad_2 "com/example/items_in_arrays/itemsinarrays/xpath/RegularExpressionProgram$Builder" "size" "I" (.int (0 : Int32)) := D_2 (Or.inl (hw _ (List.mem_of_getElem? (i := 103) rfl))) (ty := .int) (by decide)
    refine Go.st (S' := T_2.setTop (mkF m 50 #[.val (.int p1), .val (.int p2), .val (.int p3), .val (.int p4), .val (.int p5), .val (.int (0 : Int32)), .val (.int (1 : Int32)), .val (.ref fk_1), .val (.int vo0), .val (.int vo1), .val (.int p5), .val (.int vt1), .unset, .unset, .unset, .unset] [(.ref ad_2)])) st_2 ?_
    refine Go.st (S' := T_2.setTop (mkF m 51 #[.val (.int p1), .val (.int p2), .val (.int p3), .val (.int p4), .val (.int p5), .val (.int (0 : Int32)), .val (.int (1 : Int32)), .val (.ref fk_1), .val (.int vo0), .val (.int vo1), .val (.int p5), .val (.int vt1), .unset, .unset, .unset, .unset] [(.ref ad_2), (.ref ad_2)])) (fun t hr => XS.dup X_2.here hx rfl (hb hby at_50) rfl rfl hr) ?_
    have F_4 := ((O0.keep K_1 all0).ext E_2)
    obtain ⟨v_3, T_3, h_3, L_3, X_3, e_3, Q_3, st_3⟩ := own_callN X_2 hx hZ (y := ⟨"com/example/items_in_arrays/itemsinarrays/xpath/RegularExpressionProgram$Builder", "<init>", "()V"⟩) rfl hown (hw _ (List.mem_of_getElem? (i := 46) rfl)) (hw _ (List.mem_of_getElem? (i := 47) rfl)) (hw _ (List.mem_of_getElem? (i := 45) rfl)) (hw _ (List.mem_of_getElem? (i := 48) rfl)) (by decide) e_2 (a := ad_2) (argsL := []) (rest := [(.ref ad_2)]) (rmBI l Z a0 hw ad_2 h_2 n0 (by omega) A_2 (by omega) F_2_codes F_2_operands F_2_targets F_2_sets F_2_least F_2_most F_2_greedy F_2_checksEmpty F_2_required F_2_size vd rd F_4 S0) (g := (mkF m 51 #[.val (.int p1), .val (.int p2), .val (.int p3), .val (.int p4), .val (.int p5), .val (.int (0 : Int32)), .val (.int (1 : Int32)), .val (.ref fk_1), .val (.int vo0), .val (.int vo1), .val (.int p5), .val (.int vt1), .unset, .unset, .unset, .unset] [(.ref ad_2), (.ref ad_2)])) rfl (by rw [hml]; rfl) (lenOf pd_0 rfl) rfl (hb hby at_51) (W := 1) (by show 2 * 0 + _ ≤ _; exact Nat.le_of_eq rfl) (by decide) (by decide) (by decide) (by decide)
    obtain ⟨rfl, N_3, K_3, ca_3, oa_3, ta_3, gc_3, go_3, gt_3, OV_3, FC_3, FO_3, FT_3, FS_3, AC_3, AO_3, AT_3⟩ := Q_3
    have N_3' := Fr.app N_1' N_3
    have z_3 := K_3.1
    have yc_3 := own_ltA AC_3
    have yo_3 := own_ltA AO_3
    have yt_3 := own_ltA AT_3
    have AC_3' : Ary Z h_3 ca_3 (.object "com/example/items_in_arrays/itemsinarrays/xpath/RegularExpressionProgram$Code") [.null, .null, .null, .null, .null, .null, .null, .null, .null, .null, .null, .null, .null, .null, .null, .null] := AC_3
    have AO_3' : Ary Z h_3 oa_3 .int [(.int 0), (.int 0), (.int 0), (.int 0), (.int 0), (.int 0), (.int 0), (.int 0), (.int 0), (.int 0), (.int 0), (.int 0), (.int 0), (.int 0), (.int 0), (.int 0)] := AO_3
    have AT_3' : Ary Z h_3 ta_3 .int [(.int 0), (.int 0), (.int 0), (.int 0), (.int 0), (.int 0), (.int 0), (.int 0), (.int 0), (.int 0), (.int 0), (.int 0), (.int 0), (.int 0), (.int 0), (.int 0)] := AT_3
    refine Go.st (S' := T_3.setTop (mkF m 54 #[.val (.int p1), .val (.int p2), .val (.int p3), .val (.int p4), .val (.int p5), .val (.int (0 : Int32)), .val (.int (1 : Int32)), .val (.ref fk_1), .val (.int vo0), .val (.int vo1), .val (.int p5), .val (.int vt1), .unset, .unset, .unset, .unset] [(.ref ad_2)])) st_3 ?_
    refine Go.st (S' := T_3.setTop (mkF m 56 #[.val (.int p1), .val (.int p2), .val (.int p3), .val (.int p4), .val (.int p5), .val (.int (0 : Int32)), .val (.int (1 : Int32)), .val (.ref fk_1), .val (.int vo0), .val (.int vo1), .val (.int p5), .val (.int vt1), .val (.ref ad_2), .unset, .unset, .unset] [])) (fun t hr => XS.astore X_3.here hx rfl (hb hby at_54) rfl rfl (l' := #[.val (.int p1), .val (.int p2), .val (.int p3), .val (.int p4), .val (.int p5), .val (.int (0 : Int32)), .val (.int (1 : Int32)), .val (.ref fk_1), .val (.int vo0), .val (.int vo1), .val (.int p5), .val (.int vt1), .val (.ref ad_2), .unset, .unset, .unset]) rfl hr) ?_
    refine Go.st (S' := T_3.setTop (mkF m 58 #[.val (.int p1), .val (.int p2), .val (.int p3), .val (.int p4), .val (.int p5), .val (.int (0 : Int32)), .val (.int (1 : Int32)), .val (.ref fk_1), .val (.int vo0), .val (.int vo1), .val (.int p5), .val (.int vt1), .val (.ref ad_2), .unset, .unset, .unset] [(.ref ad_2)])) (fun t hr => XS.aload X_3.here hx rfl (hb hby at_56) rfl rfl hr) ?_
    have F_5 := (F_4.keep K_3 (by intro x hxx; simp only [List.mem_cons, List.not_mem_nil, or_false] at hxx; rcases hxx with rfl <;> omega))
    obtain ⟨T_6, X_6, e_6, st_6⟩ := getS2 X_3 hx hZ hown (host := "") (Or.inl (hw _ (List.mem_of_getElem? (i := 11) rfl))) Via.refl e_3 (SC1.ext F_5.2) (g := (mkF m 58 #[.val (.int p1), .val (.int p2), .val (.int p3), .val (.int p4), .val (.int p5), .val (.int (0 : Int32)), .val (.int (1 : Int32)), .val (.ref fk_1), .val (.int vo0), .val (.int vo1), .val (.int p5), .val (.int vt1), .val (.ref ad_2), .unset, .unset, .unset] [(.ref ad_2)])) rfl (hb hby at_58)
    refine Go.st (S' := T_6.setTop (mkF m 61 #[.val (.int p1), .val (.int p2), .val (.int p3), .val (.int p4), .val (.int p5), .val (.int (0 : Int32)), .val (.int (1 : Int32)), .val (.ref fk_1), .val (.int vo0), .val (.int vo1), .val (.int p5), .val (.int vt1), .val (.ref ad_2), .unset, .unset, .unset] [(.ref f1), (.ref ad_2)])) st_6 ?_
    refine Go.st (S' := T_6.setTop (mkF m 63 #[.val (.int p1), .val (.int p2), .val (.int p3), .val (.int p4), .val (.int p5), .val (.int (0 : Int32)), .val (.int (1 : Int32)), .val (.ref fk_1), .val (.int vo0), .val (.int vo1), .val (.int p5), .val (.int vt1), .val (.ref ad_2), .unset, .unset, .unset] [(.int vo0), (.ref f1), (.ref ad_2)])) (fun t hr => XS.iload X_6.here hx rfl (hb hby at_61) rfl hr) ?_
    refine Go.st (S' := T_6.setTop (mkF m 65 #[.val (.int p1), .val (.int p2), .val (.int p3), .val (.int p4), .val (.int p5), .val (.int (0 : Int32)), .val (.int (1 : Int32)), .val (.ref fk_1), .val (.int vo0), .val (.int vo1), .val (.int p5), .val (.int vt1), .val (.ref ad_2), .unset, .unset, .unset] [(.int p5), (.int vo0), (.ref f1), (.ref ad_2)])) (fun t hr => XS.iload X_6.here hx rfl (hb hby at_63) rfl hr) ?_
    have F_8 := (A_2.keep K_3)
    obtain ⟨v_7, T_7, h_7, L_7, X_7, e_7, Q_7, st_7⟩ := own_callV X_6 hx hZ (C := "com/example/items_in_arrays/itemsinarrays/xpath/RegularExpressionProgram$Builder") (y := ⟨"com/example/items_in_arrays/itemsinarrays/xpath/RegularExpressionProgram$Builder", "add", "(Lcom/example/items_in_arrays/itemsinarrays/xpath/RegularExpressionProgram$Code;II)I"⟩) (z := ⟨"com/example/items_in_arrays/itemsinarrays/xpath/RegularExpressionProgram$Builder", "add", "(Lcom/example/items_in_arrays/itemsinarrays/xpath/RegularExpressionProgram$Code;II)I"⟩) hown (hw _ (List.mem_of_getElem? (i := 97) rfl)) (hw _ (List.mem_of_getElem? (i := 98) rfl)) (hw _ (List.mem_of_getElem? (i := 100) rfl)) (hw _ (List.mem_of_getElem? (i := 100) rfl)) (hw _ (List.mem_of_getElem? (i := 99) rfl)) (hw _ (List.mem_of_getElem? (i := 45) rfl)) (hw _ (List.mem_of_getElem? (i := 101) rfl)) (by decide) e_6 (a := ad_2) F_8 (argsL := [(.ref f1), (.int vo0), (.int p5)]) (rest := []) (rmAdd0 l Z a0 hw ad_2 f1 vo0 p5 h_3 n0 (by omega) ca_3 oa_3 ta_3 [.null, .null, .null, .null, .null, .null, .null, .null, .null, .null, .null, .null, .null, .null, .null, .null] [(.int 0), (.int 0), (.int 0), (.int 0), (.int 0), (.int 0), (.int 0), (.int 0), (.int 0), (.int 0), (.int 0), (.int 0), (.int 0), (.int 0), (.int 0), (.int 0)] [(.int 0), (.int 0), (.int 0), (.int 0), (.int 0), (.int 0), (.int 0), (.int 0), (.int 0), (.int 0), (.int 0), (.int 0), (.int 0), (.int 0), (.int 0), (.int 0)] F_8 (by omega) (by omega) (by omega) (by omega) F_5 E1 OV_3 FC_3 FO_3 FT_3 AC_3' AO_3' AT_3' rfl rfl rfl FS_3) (g := (mkF m 65 #[.val (.int p1), .val (.int p2), .val (.int p3), .val (.int p4), .val (.int p5), .val (.int (0 : Int32)), .val (.int (1 : Int32)), .val (.ref fk_1), .val (.int vo0), .val (.int vo1), .val (.int p5), .val (.int vt1), .val (.ref ad_2), .unset, .unset, .unset] [(.int p5), (.int vo0), (.ref f1), (.ref ad_2)])) rfl (by rw [hml]; rfl) (lenOf pd_5 rfl) rfl (hb hby at_65) (W := 0) (by show 2 * 0 + _ ≤ _; exact Nat.le_of_eq rfl) (by decide) (by decide) (by decide) (by decide)
    obtain ⟨rfl, N_7, K_7, FC_7, FO_7, FT_7, FS_7, AC_7, AO_7, AT_7⟩ := Q_7
    have N_7' := Fr.app N_3' N_7
    have z_7 := K_7.1
    have AC_7' : Ary Z h_7 ca_3 (.object "com/example/items_in_arrays/itemsinarrays/xpath/RegularExpressionProgram$Code") [(.ref f1), .null, .null, .null, .null, .null, .null, .null, .null, .null, .null, .null, .null, .null, .null, .null] := AC_7
    have AO_7' : Ary Z h_7 oa_3 .int [(.int vo0), (.int 0), (.int 0), (.int 0), (.int 0), (.int 0), (.int 0), (.int 0), (.int 0), (.int 0), (.int 0), (.int 0), (.int 0), (.int 0), (.int 0), (.int 0)] := AO_7
    have AT_7' : Ary Z h_7 ta_3 .int [(.int p5), (.int 0), (.int 0), (.int 0), (.int 0), (.int 0), (.int 0), (.int 0), (.int 0), (.int 0), (.int 0), (.int 0), (.int 0), (.int 0), (.int 0), (.int 0)] := AT_7
    refine Go.st (S' := T_7.setTop (mkF m 68 #[.val (.int p1), .val (.int p2), .val (.int p3), .val (.int p4), .val (.int p5), .val (.int (0 : Int32)), .val (.int (1 : Int32)), .val (.ref fk_1), .val (.int vo0), .val (.int vo1), .val (.int p5), .val (.int vt1), .val (.ref ad_2), .unset, .unset, .unset] [(.int (0 : Int32))])) st_7 ?_
    refine Go.st (S' := T_7.setTop (mkF m 69 #[.val (.int p1), .val (.int p2), .val (.int p3), .val (.int p4), .val (.int p5), .val (.int (0 : Int32)), .val (.int (1 : Int32)), .val (.ref fk_1), .val (.int vo0), .val (.int vo1), .val (.int p5), .val (.int vt1), .val (.ref ad_2), .unset, .unset, .unset] [])) (fun t hr => XT.pop X_7.here hx rfl (hb hby at_68) rfl rfl hr) ?_
    refine Go.st (S' := T_7.setTop (mkF m 71 #[.val (.int p1), .val (.int p2), .val (.int p3), .val (.int p4), .val (.int p5), .val (.int (0 : Int32)), .val (.int (1 : Int32)), .val (.ref fk_1), .val (.int vo0), .val (.int vo1), .val (.int p5), .val (.int vt1), .val (.ref ad_2), .unset, .unset, .unset] [(.ref ad_2)])) (fun t hr => XS.aload X_7.here hx rfl (hb hby at_69) rfl rfl hr) ?_
    have F_9 := (F_5.keep K_7 (by intro x hxx; simp only [List.mem_cons, List.not_mem_nil, or_false] at hxx; rcases hxx with rfl | rfl | rfl | rfl <;> omega))
    obtain ⟨T_10, X_10, e_10, st_10⟩ := getS2 X_7 hx hZ hown (host := "") (Or.inl (hw _ (List.mem_of_getElem? (i := 11) rfl))) Via.refl e_7 (SC1.ext F_9.2) (g := (mkF m 71 #[.val (.int p1), .val (.int p2), .val (.int p3), .val (.int p4), .val (.int p5), .val (.int (0 : Int32)), .val (.int (1 : Int32)), .val (.ref fk_1), .val (.int vo0), .val (.int vo1), .val (.int p5), .val (.int vt1), .val (.ref ad_2), .unset, .unset, .unset] [(.ref ad_2)])) rfl (hb hby at_71)
    refine Go.st (S' := T_10.setTop (mkF m 74 #[.val (.int p1), .val (.int p2), .val (.int p3), .val (.int p4), .val (.int p5), .val (.int (0 : Int32)), .val (.int (1 : Int32)), .val (.ref fk_1), .val (.int vo0), .val (.int vo1), .val (.int p5), .val (.int vt1), .val (.ref ad_2), .unset, .unset, .unset] [(.ref f1), (.ref ad_2)])) st_10 ?_
    refine Go.st (S' := T_10.setTop (mkF m 76 #[.val (.int p1), .val (.int p2), .val (.int p3), .val (.int p4), .val (.int p5), .val (.int (0 : Int32)), .val (.int (1 : Int32)), .val (.ref fk_1), .val (.int vo0), .val (.int vo1), .val (.int p5), .val (.int vt1), .val (.ref ad_2), .unset, .unset, .unset] [(.int vo1), (.ref f1), (.ref ad_2)])) (fun t hr => XS.iload X_10.here hx rfl (hb hby at_74) rfl hr) ?_
    refine Go.st (S' := T_10.setTop (mkF m 78 #[.val (.int p1), .val (.int p2), .val (.int p3), .val (.int p4), .val (.int p5), .val (.int (0 : Int32)), .val (.int (1 : Int32)), .val (.ref fk_1), .val (.int vo0), .val (.int vo1), .val (.int p5), .val (.int vt1), .val (.ref ad_2), .unset, .unset, .unset] [(.int vt1), (.int vo1), (.ref f1), (.ref ad_2)])) (fun t hr => XS.iload X_10.here hx rfl (hb hby at_76) rfl hr) ?_
    have F_12 := (F_8.keep K_7)
    have F_13 := (OV_3.keep K_7)
    obtain ⟨v_11, T_11, h_11, L_11, X_11, e_11, Q_11, st_11⟩ := own_callV X_10 hx hZ (C := "com/example/items_in_arrays/itemsinarrays/xpath/RegularExpressionProgram$Builder") (y := ⟨"com/example/items_in_arrays/itemsinarrays/xpath/RegularExpressionProgram$Builder", "add", "(Lcom/example/items_in_arrays/itemsinarrays/xpath/RegularExpressionProgram$Code;II)I"⟩) (z := ⟨"com/example/items_in_arrays/itemsinarrays/xpath/RegularExpressionProgram$Builder", "add", "(Lcom/example/items_in_arrays/itemsinarrays/xpath/RegularExpressionProgram$Code;II)I"⟩) hown (hw _ (List.mem_of_getElem? (i := 97) rfl)) (hw _ (List.mem_of_getElem? (i := 98) rfl)) (hw _ (List.mem_of_getElem? (i := 100) rfl)) (hw _ (List.mem_of_getElem? (i := 100) rfl)) (hw _ (List.mem_of_getElem? (i := 99) rfl)) (hw _ (List.mem_of_getElem? (i := 45) rfl)) (hw _ (List.mem_of_getElem? (i := 101) rfl)) (by decide) e_10 (a := ad_2) F_12 (argsL := [(.ref f1), (.int vo1), (.int vt1)]) (rest := []) (rmAdd1 l Z a0 hw ad_2 f1 vo1 vt1 h_7 n0 (by omega) ca_3 oa_3 ta_3 [(.ref f1), .null, .null, .null, .null, .null, .null, .null, .null, .null, .null, .null, .null, .null, .null, .null] [(.int vo0), (.int 0), (.int 0), (.int 0), (.int 0), (.int 0), (.int 0), (.int 0), (.int 0), (.int 0), (.int 0), (.int 0), (.int 0), (.int 0), (.int 0), (.int 0)] [(.int p5), (.int 0), (.int 0), (.int 0), (.int 0), (.int 0), (.int 0), (.int 0), (.int 0), (.int 0), (.int 0), (.int 0), (.int 0), (.int 0), (.int 0), (.int 0)] F_12 (by omega) (by omega) (by omega) (by omega) F_9 E1 F_13 FC_7 FO_7 FT_7 AC_7' AO_7' AT_7' rfl rfl rfl FS_7) (g := (mkF m 78 #[.val (.int p1), .val (.int p2), .val (.int p3), .val (.int p4), .val (.int p5), .val (.int (0 : Int32)), .val (.int (1 : Int32)), .val (.ref fk_1), .val (.int vo0), .val (.int vo1), .val (.int p5), .val (.int vt1), .val (.ref ad_2), .unset, .unset, .unset] [(.int vt1), (.int vo1), (.ref f1), (.ref ad_2)])) rfl (by rw [hml]; rfl) (lenOf pd_5 rfl) rfl (hb hby at_78) (W := 0) (by show 2 * 0 + _ ≤ _; exact Nat.le_of_eq rfl) (by decide) (by decide) (by decide) (by decide)
    obtain ⟨rfl, N_11, K_11, FC_11, FO_11, FT_11, FS_11, AC_11, AO_11, AT_11⟩ := Q_11
    have N_11' := Fr.app N_7' N_11
    have z_11 := K_11.1
    have AC_11' : Ary Z h_11 ca_3 (.object "com/example/items_in_arrays/itemsinarrays/xpath/RegularExpressionProgram$Code") [(.ref f1), (.ref f1), .null, .null, .null, .null, .null, .null, .null, .null, .null, .null, .null, .null, .null, .null] := AC_11
    have AO_11' : Ary Z h_11 oa_3 .int [(.int vo0), (.int vo1), (.int 0), (.int 0), (.int 0), (.int 0), (.int 0), (.int 0), (.int 0), (.int 0), (.int 0), (.int 0), (.int 0), (.int 0), (.int 0), (.int 0)] := AO_11
    have AT_11' : Ary Z h_11 ta_3 .int [(.int p5), (.int vt1), (.int 0), (.int 0), (.int 0), (.int 0), (.int 0), (.int 0), (.int 0), (.int 0), (.int 0), (.int 0), (.int 0), (.int 0), (.int 0), (.int 0)] := AT_11
    refine Go.st (S' := T_11.setTop (mkF m 81 #[.val (.int p1), .val (.int p2), .val (.int p3), .val (.int p4), .val (.int p5), .val (.int (0 : Int32)), .val (.int (1 : Int32)), .val (.ref fk_1), .val (.int vo0), .val (.int vo1), .val (.int p5), .val (.int vt1), .val (.ref ad_2), .unset, .unset, .unset] [(.int (1 : Int32))])) st_11 ?_
    refine Go.st (S' := T_11.setTop (mkF m 82 #[.val (.int p1), .val (.int p2), .val (.int p3), .val (.int p4), .val (.int p5), .val (.int (0 : Int32)), .val (.int (1 : Int32)), .val (.ref fk_1), .val (.int vo0), .val (.int vo1), .val (.int p5), .val (.int vt1), .val (.ref ad_2), .unset, .unset, .unset] [])) (fun t hr => XT.pop X_11.here hx rfl (hb hby at_81) rfl rfl hr) ?_
    refine Go.st (S' := T_11.setTop (mkF m 84 #[.val (.int p1), .val (.int p2), .val (.int p3), .val (.int p4), .val (.int p5), .val (.int (0 : Int32)), .val (.int (1 : Int32)), .val (.ref fk_1), .val (.int vo0), .val (.int vo1), .val (.int p5), .val (.int vt1), .val (.ref ad_2), .unset, .unset, .unset] [(.ref ad_2)])) (fun t hr => XS.aload X_11.here hx rfl (hb hby at_82) rfl rfl hr) ?_
    refine Go.st (S' := T_11.setTop (mkF m 86 #[.val (.int p1), .val (.int p2), .val (.int p3), .val (.int p4), .val (.int p5), .val (.int (0 : Int32)), .val (.int (1 : Int32)), .val (.ref fk_1), .val (.int vo0), .val (.int vo1), .val (.int p5), .val (.int vt1), .val (.ref ad_2), .unset, .unset, .unset] [(.int (0 : Int32)), (.ref ad_2)])) (fun t hr => XS.iload X_11.here hx rfl (hb hby at_84) rfl hr) ?_
    refine Go.st (S' := T_11.setTop (mkF m 88 #[.val (.int p1), .val (.int p2), .val (.int p3), .val (.int p4), .val (.int p5), .val (.int (0 : Int32)), .val (.int (1 : Int32)), .val (.ref fk_1), .val (.int vo0), .val (.int vo1), .val (.int p5), .val (.int vt1), .val (.ref ad_2), .unset, .unset, .unset] [(.ref fk_1), (.int (0 : Int32)), (.ref ad_2)])) (fun t hr => XS.aload X_11.here hx rfl (hb hby at_86) rfl rfl hr) ?_
    refine Go.st (S' := T_11.setTop (mkF m 89 #[.val (.int p1), .val (.int p2), .val (.int p3), .val (.int p4), .val (.int p5), .val (.int (0 : Int32)), .val (.int (1 : Int32)), .val (.ref fk_1), .val (.int vo0), .val (.int vo1), .val (.int p5), .val (.int vt1), .val (.ref ad_2), .unset, .unset, .unset] [(.int p2), (.ref fk_1), (.int (0 : Int32)), (.ref ad_2)])) (fun t hr => XS.iloadN X_11.here hx rfl (hb hby at_88) rfl hr) ?_
    refine Go.st (S' := T_11.setTop (mkF m 90 #[.val (.int p1), .val (.int p2), .val (.int p3), .val (.int p4), .val (.int p5), .val (.int (0 : Int32)), .val (.int (1 : Int32)), .val (.ref fk_1), .val (.int vo0), .val (.int vo1), .val (.int p5), .val (.int vt1), .val (.ref ad_2), .unset, .unset, .unset] [(.int p3), (.int p2), (.ref fk_1), (.int (0 : Int32)), (.ref ad_2)])) (fun t hr => XS.iloadN X_11.here hx rfl (hb hby at_89) rfl hr) ?_
    have F_15 := (F_12.keep K_11)
    have F_16 := (F_9.keep K_11 (by intro x hxx; simp only [List.mem_cons, List.not_mem_nil, or_false] at hxx; rcases hxx with rfl | rfl | rfl | rfl <;> omega))
    have F_17 := (F_13.keep K_11)
    obtain ⟨v_14, T_14, h_14, L_14, X_14, e_14, Q_14, st_14⟩ := own_callV X_11 hx hZ (C := "com/example/items_in_arrays/itemsinarrays/xpath/RegularExpressionProgram$Builder") (y := ⟨"com/example/items_in_arrays/itemsinarrays/xpath/RegularExpressionProgram$Builder", "set", "(ILcom/example/items_in_arrays/itemsinarrays/xpath/RegularExpressionProgram$Code;II)V"⟩) (z := ⟨"com/example/items_in_arrays/itemsinarrays/xpath/RegularExpressionProgram$Builder", "set", "(ILcom/example/items_in_arrays/itemsinarrays/xpath/RegularExpressionProgram$Code;II)V"⟩) hown (hw _ (List.mem_of_getElem? (i := 104) rfl)) (hw _ (List.mem_of_getElem? (i := 105) rfl)) (hw _ (List.mem_of_getElem? (i := 107) rfl)) (hw _ (List.mem_of_getElem? (i := 107) rfl)) (hw _ (List.mem_of_getElem? (i := 106) rfl)) (hw _ (List.mem_of_getElem? (i := 45) rfl)) (hw _ (List.mem_of_getElem? (i := 108) rfl)) (by decide) e_11 (a := ad_2) F_15 (argsL := [(.int (0 : Int32)), (.ref fk_1), (.int p2), (.int p3)]) (rest := []) (rmSet0 l Z a0 hw ad_2 fk_1 p2 p3 h_11 n0 (by omega) ca_3 oa_3 ta_3 [(.ref f1), (.ref f1), .null, .null, .null, .null, .null, .null, .null, .null, .null, .null, .null, .null, .null, .null] [(.int vo0), (.int vo1), (.int 0), (.int 0), (.int 0), (.int 0), (.int 0), (.int 0), (.int 0), (.int 0), (.int 0), (.int 0), (.int 0), (.int 0), (.int 0), (.int 0)] [(.int p5), (.int vt1), (.int 0), (.int 0), (.int 0), (.int 0), (.int 0), (.int 0), (.int 0), (.int 0), (.int 0), (.int 0), (.int 0), (.int 0), (.int 0), (.int 0)] F_15 (by omega) (by omega) (by omega) (by omega) F_16 EE_1 F_17 FC_11 FO_11 FT_11 AC_11' AO_11' AT_11' rfl rfl rfl) (g := (mkF m 90 #[.val (.int p1), .val (.int p2), .val (.int p3), .val (.int p4), .val (.int p5), .val (.int (0 : Int32)), .val (.int (1 : Int32)), .val (.ref fk_1), .val (.int vo0), .val (.int vo1), .val (.int p5), .val (.int vt1), .val (.ref ad_2), .unset, .unset, .unset] [(.int p3), (.int p2), (.ref fk_1), (.int (0 : Int32)), (.ref ad_2)])) rfl (by rw [hml]; rfl) (lenOf pd_6 rfl) rfl (hb hby at_90) (W := 0) (by show 2 * 0 + _ ≤ _; exact Nat.le_of_eq rfl) (by decide) (by decide) (by decide) (by decide)
    obtain ⟨rfl, N_14, K_14, FC_14, FO_14, FT_14, AC_14, AO_14, AT_14⟩ := Q_14
    have N_14' := Fr.app N_11' N_14
    have z_14 := K_14.1
    have AC_14' : Ary Z h_14 ca_3 (.object "com/example/items_in_arrays/itemsinarrays/xpath/RegularExpressionProgram$Code") [(.ref fk_1), (.ref f1), .null, .null, .null, .null, .null, .null, .null, .null, .null, .null, .null, .null, .null, .null] := AC_14
    have AO_14' : Ary Z h_14 oa_3 .int [(.int p2), (.int vo1), (.int 0), (.int 0), (.int 0), (.int 0), (.int 0), (.int 0), (.int 0), (.int 0), (.int 0), (.int 0), (.int 0), (.int 0), (.int 0), (.int 0)] := AO_14
    have AT_14' : Ary Z h_14 ta_3 .int [(.int p3), (.int vt1), (.int 0), (.int 0), (.int 0), (.int 0), (.int 0), (.int 0), (.int 0), (.int 0), (.int 0), (.int 0), (.int 0), (.int 0), (.int 0), (.int 0)] := AT_14
    refine Go.st (S' := T_14.setTop (mkF m 93 #[.val (.int p1), .val (.int p2), .val (.int p3), .val (.int p4), .val (.int p5), .val (.int (0 : Int32)), .val (.int (1 : Int32)), .val (.ref fk_1), .val (.int vo0), .val (.int vo1), .val (.int p5), .val (.int vt1), .val (.ref ad_2), .unset, .unset, .unset] [])) st_14 ?_
    refine Go.st (S' := T_14.setTop (mkF m 95 #[.val (.int p1), .val (.int p2), .val (.int p3), .val (.int p4), .val (.int p5), .val (.int (0 : Int32)), .val (.int (1 : Int32)), .val (.ref fk_1), .val (.int vo0), .val (.int vo1), .val (.int p5), .val (.int vt1), .val (.ref ad_2), .unset, .unset, .unset] [(.int (0 : Int32))])) (fun t hr => XS.iload X_14.here hx rfl (hb hby at_93) rfl hr) ?_
    refine Go.st (S' := T_14.setTop (mkF m 98 #[.val (.int p1), .val (.int p2), .val (.int p3), .val (.int p4), .val (.int p5), .val (.int (0 : Int32)), .val (.int (1 : Int32)), .val (.ref fk_1), .val (.int vo0), .val (.int vo1), .val (.int p5), .val (.int vt1), .val (.ref ad_2), .unset, .unset, .unset] [])) (fun t hr => XS.ifNo X_14.here hx rfl (hb hby at_95) rfl (XT.i0_ne_f (by decide)) hr) ?_
    refine Go.st (S' := T_14.setTop (mkF m 100 #[.val (.int p1), .val (.int p2), .val (.int p3), .val (.int p4), .val (.int p5), .val (.int (0 : Int32)), .val (.int (1 : Int32)), .val (.ref fk_1), .val (.int vo0), .val (.int vo1), .val (.int p5), .val (.int vt1), .val (.ref ad_2), .unset, .unset, .unset] [(.int vo1)])) (fun t hr => XS.iload X_14.here hx rfl (hb hby at_98) rfl hr) ?_
    refine Go.st (S' := T_14.setTop (mkF m 105 #[.val (.int p1), .val (.int p2), .val (.int p3), .val (.int p4), .val (.int p5), .val (.int (0 : Int32)), .val (.int (1 : Int32)), .val (.ref fk_1), .val (.int vo0), .val (.int vo1), .val (.int p5), .val (.int vt1), .val (.ref ad_2), .unset, .unset, .unset] [(.int vo1)])) (fun t hr => XS.goto X_14.here hx rfl (pc0 := 100) (pc' := 105) rfl (hb hby at_100) (by decide) (by decide) hr) ?_
    refine Go.st (S' := T_14.setTop (mkF m 107 #[.val (.int p1), .val (.int p2), .val (.int p3), .val (.int p4), .val (.int p5), .val (.int (0 : Int32)), .val (.int (1 : Int32)), .val (.ref fk_1), .val (.int vo0), .val (.int vo1), .val (.int p5), .val (.int vt1), .val (.ref ad_2), .val (.int vo1), .unset, .unset] [])) (fun t hr => XS.istore X_14.here hx rfl (hb hby at_105) rfl (l' := #[.val (.int p1), .val (.int p2), .val (.int p3), .val (.int p4), .val (.int p5), .val (.int (0 : Int32)), .val (.int (1 : Int32)), .val (.ref fk_1), .val (.int vo0), .val (.int vo1), .val (.int p5), .val (.int vt1), .val (.ref ad_2), .val (.int vo1), .unset, .unset]) rfl hr) ?_
    refine Go.st (S' := T_14.setTop (mkF m 109 #[.val (.int p1), .val (.int p2), .val (.int p3), .val (.int p4), .val (.int p5), .val (.int (0 : Int32)), .val (.int (1 : Int32)), .val (.ref fk_1), .val (.int vo0), .val (.int vo1), .val (.int p5), .val (.int vt1), .val (.ref ad_2), .val (.int vo1), .unset, .unset] [(.int (0 : Int32))])) (fun t hr => XS.iload X_14.here hx rfl (hb hby at_107) rfl hr) ?_
    refine Go.st (S' := T_14.setTop (mkF m 112 #[.val (.int p1), .val (.int p2), .val (.int p3), .val (.int p4), .val (.int p5), .val (.int (0 : Int32)), .val (.int (1 : Int32)), .val (.ref fk_1), .val (.int vo0), .val (.int vo1), .val (.int p5), .val (.int vt1), .val (.ref ad_2), .val (.int vo1), .unset, .unset] [])) (fun t hr => XS.ifNo X_14.here hx rfl (hb hby at_109) rfl (XT.i0_ne_f (by decide)) hr) ?_
    refine Go.st (S' := T_14.setTop (mkF m 114 #[.val (.int p1), .val (.int p2), .val (.int p3), .val (.int p4), .val (.int p5), .val (.int (0 : Int32)), .val (.int (1 : Int32)), .val (.ref fk_1), .val (.int vo0), .val (.int vo1), .val (.int p5), .val (.int vt1), .val (.ref ad_2), .val (.int vo1), .unset, .unset] [(.int vt1)])) (fun t hr => XS.iload X_14.here hx rfl (hb hby at_112) rfl hr) ?_
    refine Go.st (S' := T_14.setTop (mkF m 119 #[.val (.int p1), .val (.int p2), .val (.int p3), .val (.int p4), .val (.int p5), .val (.int (0 : Int32)), .val (.int (1 : Int32)), .val (.ref fk_1), .val (.int vo0), .val (.int vo1), .val (.int p5), .val (.int vt1), .val (.ref ad_2), .val (.int vo1), .unset, .unset] [(.int vt1)])) (fun t hr => XS.goto X_14.here hx rfl (pc0 := 114) (pc' := 119) rfl (hb hby at_114) (by decide) (by decide) hr) ?_
    refine Go.st (S' := T_14.setTop (mkF m 121 #[.val (.int p1), .val (.int p2), .val (.int p3), .val (.int p4), .val (.int p5), .val (.int (0 : Int32)), .val (.int (1 : Int32)), .val (.ref fk_1), .val (.int vo0), .val (.int vo1), .val (.int p5), .val (.int vt1), .val (.ref ad_2), .val (.int vo1), .val (.int vt1), .unset] [])) (fun t hr => XS.istore X_14.here hx rfl (hb hby at_119) rfl (l' := #[.val (.int p1), .val (.int p2), .val (.int p3), .val (.int p4), .val (.int p5), .val (.int (0 : Int32)), .val (.int (1 : Int32)), .val (.ref fk_1), .val (.int vo0), .val (.int vo1), .val (.int p5), .val (.int vt1), .val (.ref ad_2), .val (.int vo1), .val (.int vt1), .unset]) rfl hr) ?_
    refine Go.st (S' := T_14.setTop (mkF m 123 #[.val (.int p1), .val (.int p2), .val (.int p3), .val (.int p4), .val (.int p5), .val (.int (0 : Int32)), .val (.int (1 : Int32)), .val (.ref fk_1), .val (.int vo0), .val (.int vo1), .val (.int p5), .val (.int vt1), .val (.ref ad_2), .val (.int vo1), .val (.int vt1), .unset] [(.ref ad_2)])) (fun t hr => XS.aload X_14.here hx rfl (hb hby at_121) rfl rfl hr) ?_
    refine Go.st (S' := T_14.setTop (mkF m 125 #[.val (.int p1), .val (.int p2), .val (.int p3), .val (.int p4), .val (.int p5), .val (.int (0 : Int32)), .val (.int (1 : Int32)), .val (.ref fk_1), .val (.int vo0), .val (.int vo1), .val (.int p5), .val (.int vt1), .val (.ref ad_2), .val (.int vo1), .val (.int vt1), .unset] [(.int (0 : Int32)), (.ref ad_2)])) (fun t hr => XS.iload X_14.here hx rfl (hb hby at_123) rfl hr) ?_
    have F_19 := (F_15.keep K_14)
    obtain ⟨v_18, T_18, h_18, L_18, X_18, e_18, Q_18, st_18⟩ := own_callV X_14 hx hZ (C := "com/example/items_in_arrays/itemsinarrays/xpath/RegularExpressionProgram$Builder") (y := ⟨"com/example/items_in_arrays/itemsinarrays/xpath/RegularExpressionProgram$Builder", "code", "(I)Lcom/example/items_in_arrays/itemsinarrays/xpath/RegularExpressionProgram$Code;"⟩) (z := ⟨"com/example/items_in_arrays/itemsinarrays/xpath/RegularExpressionProgram$Builder", "code", "(I)Lcom/example/items_in_arrays/itemsinarrays/xpath/RegularExpressionProgram$Code;"⟩) hown (hw _ (List.mem_of_getElem? (i := 109) rfl)) (hw _ (List.mem_of_getElem? (i := 110) rfl)) (hw _ (List.mem_of_getElem? (i := 112) rfl)) (hw _ (List.mem_of_getElem? (i := 112) rfl)) (hw _ (List.mem_of_getElem? (i := 111) rfl)) (hw _ (List.mem_of_getElem? (i := 45) rfl)) (hw _ (List.mem_of_getElem? (i := 113) rfl)) (by decide) e_14 (a := ad_2) F_19 (argsL := [(.int (0 : Int32))]) (rest := []) (rmCode0 l Z a0 hw ad_2 h_14 n0 (by omega) ca_3 oa_3 ta_3 fk_1 p2 p3 [(.ref fk_1), (.ref f1), .null, .null, .null, .null, .null, .null, .null, .null, .null, .null, .null, .null, .null, .null] [(.int p2), (.int vo1), (.int 0), (.int 0), (.int 0), (.int 0), (.int 0), (.int 0), (.int 0), (.int 0), (.int 0), (.int 0), (.int 0), (.int 0), (.int 0), (.int 0)] [(.int p3), (.int vt1), (.int 0), (.int 0), (.int 0), (.int 0), (.int 0), (.int 0), (.int 0), (.int 0), (.int 0), (.int 0), (.int 0), (.int 0), (.int 0), (.int 0)]  FC_14 FO_14 FT_14 AC_14' AO_14' AT_14' rfl rfl rfl rfl) (g := (mkF m 125 #[.val (.int p1), .val (.int p2), .val (.int p3), .val (.int p4), .val (.int p5), .val (.int (0 : Int32)), .val (.int (1 : Int32)), .val (.ref fk_1), .val (.int vo0), .val (.int vo1), .val (.int p5), .val (.int vt1), .val (.ref ad_2), .val (.int vo1), .val (.int vt1), .unset] [(.int (0 : Int32)), (.ref ad_2)])) rfl (by rw [hml]; rfl) (lenOf pd_4 rfl) rfl (hb hby at_125) (W := 0) (by show 2 * 0 + _ ≤ _; exact Nat.le_of_eq rfl) (by decide) (by decide) (by decide) (by decide)
    obtain ⟨rfl, N_18, hh_18⟩ := Q_18
    have N_18' := Fr.app N_14' N_18
    rw [hh_18] at e_18
    refine Go.st (S' := T_18.setTop (mkF m 128 #[.val (.int p1), .val (.int p2), .val (.int p3), .val (.int p4), .val (.int p5), .val (.int (0 : Int32)), .val (.int (1 : Int32)), .val (.ref fk_1), .val (.int vo0), .val (.int vo1), .val (.int p5), .val (.int vt1), .val (.ref ad_2), .val (.int vo1), .val (.int vt1), .unset] [(.ref fk_1)])) st_18 ?_
    refine Go.st (S' := T_18.setTop (mkF m 130 #[.val (.int p1), .val (.int p2), .val (.int p3), .val (.int p4), .val (.int p5), .val (.int (0 : Int32)), .val (.int (1 : Int32)), .val (.ref fk_1), .val (.int vo0), .val (.int vo1), .val (.int p5), .val (.int vt1), .val (.ref ad_2), .val (.int vo1), .val (.int vt1), .unset] [(.ref fk_1), (.ref fk_1)])) (fun t hr => XS.aload X_18.here hx rfl (hb hby at_128) rfl rfl hr) ?_
    refine Go.st (S' := T_18.setTop (mkF m 133 #[.val (.int p1), .val (.int p2), .val (.int p3), .val (.int p4), .val (.int p5), .val (.int (0 : Int32)), .val (.int (1 : Int32)), .val (.ref fk_1), .val (.int vo0), .val (.int vo1), .val (.int p5), .val (.int vt1), .val (.ref ad_2), .val (.int vo1), .val (.int vt1), .unset] [])) (fun t hr => XT.acmpNo X_18.here hx rfl (hb hby at_130) rfl rfl rfl (XT.aa_ne_f rfl) hr) ?_
    refine Go.st (S' := T_18.setTop (mkF m 135 #[.val (.int p1), .val (.int p2), .val (.int p3), .val (.int p4), .val (.int p5), .val (.int (0 : Int32)), .val (.int (1 : Int32)), .val (.ref fk_1), .val (.int vo0), .val (.int vo1), .val (.int p5), .val (.int vt1), .val (.ref ad_2), .val (.int vo1), .val (.int vt1), .unset] [(.ref ad_2)])) (fun t hr => XS.aload X_18.here hx rfl (hb hby at_133) rfl rfl hr) ?_
    refine Go.st (S' := T_18.setTop (mkF m 137 #[.val (.int p1), .val (.int p2), .val (.int p3), .val (.int p4), .val (.int p5), .val (.int (0 : Int32)), .val (.int (1 : Int32)), .val (.ref fk_1), .val (.int vo0), .val (.int vo1), .val (.int p5), .val (.int vt1), .val (.ref ad_2), .val (.int vo1), .val (.int vt1), .unset] [(.int (0 : Int32)), (.ref ad_2)])) (fun t hr => XS.iload X_18.here hx rfl (hb hby at_135) rfl hr) ?_
    obtain ⟨v_20, T_20, h_20, L_20, X_20, e_20, Q_20, st_20⟩ := own_callV X_18 hx hZ (C := "com/example/items_in_arrays/itemsinarrays/xpath/RegularExpressionProgram$Builder") (y := ⟨"com/example/items_in_arrays/itemsinarrays/xpath/RegularExpressionProgram$Builder", "target", "(I)I"⟩) (z := ⟨"com/example/items_in_arrays/itemsinarrays/xpath/RegularExpressionProgram$Builder", "target", "(I)I"⟩) hown (hw _ (List.mem_of_getElem? (i := 114) rfl)) (hw _ (List.mem_of_getElem? (i := 115) rfl)) (hw _ (List.mem_of_getElem? (i := 117) rfl)) (hw _ (List.mem_of_getElem? (i := 117) rfl)) (hw _ (List.mem_of_getElem? (i := 116) rfl)) (hw _ (List.mem_of_getElem? (i := 45) rfl)) (hw _ (List.mem_of_getElem? (i := 118) rfl)) (by decide) e_18 (a := ad_2) F_19 (argsL := [(.int (0 : Int32))]) (rest := []) (rmTgt0 l Z a0 hw ad_2 h_14 n0 (by omega) ca_3 oa_3 ta_3 fk_1 p2 p3 [(.ref fk_1), (.ref f1), .null, .null, .null, .null, .null, .null, .null, .null, .null, .null, .null, .null, .null, .null] [(.int p2), (.int vo1), (.int 0), (.int 0), (.int 0), (.int 0), (.int 0), (.int 0), (.int 0), (.int 0), (.int 0), (.int 0), (.int 0), (.int 0), (.int 0), (.int 0)] [(.int p3), (.int vt1), (.int 0), (.int 0), (.int 0), (.int 0), (.int 0), (.int 0), (.int 0), (.int 0), (.int 0), (.int 0), (.int 0), (.int 0), (.int 0), (.int 0)]  FC_14 FO_14 FT_14 AC_14' AO_14' AT_14' rfl rfl rfl rfl) (g := (mkF m 137 #[.val (.int p1), .val (.int p2), .val (.int p3), .val (.int p4), .val (.int p5), .val (.int (0 : Int32)), .val (.int (1 : Int32)), .val (.ref fk_1), .val (.int vo0), .val (.int vo1), .val (.int p5), .val (.int vt1), .val (.ref ad_2), .val (.int vo1), .val (.int vt1), .unset] [(.int (0 : Int32)), (.ref ad_2)])) rfl (by rw [hml]; rfl) (lenOf pd_7 rfl) rfl (hb hby at_137) (W := 0) (by show 2 * 0 + _ ≤ _; exact Nat.le_of_eq rfl) (by decide) (by decide) (by decide) (by decide)
    obtain ⟨rfl, N_20, hh_20⟩ := Q_20
    have N_20' := Fr.app N_18' N_20
    rw [hh_20] at e_20
    refine Go.st (S' := T_20.setTop (mkF m 140 #[.val (.int p1), .val (.int p2), .val (.int p3), .val (.int p4), .val (.int p5), .val (.int (0 : Int32)), .val (.int (1 : Int32)), .val (.ref fk_1), .val (.int vo0), .val (.int vo1), .val (.int p5), .val (.int vt1), .val (.ref ad_2), .val (.int vo1), .val (.int vt1), .unset] [(.int p3)])) st_20 ?_
    refine Go.st (S' := T_20.setTop (mkF m 141 #[.val (.int p1), .val (.int p2), .val (.int p3), .val (.int p4), .val (.int p5), .val (.int (0 : Int32)), .val (.int (1 : Int32)), .val (.ref fk_1), .val (.int vo0), .val (.int vo1), .val (.int p5), .val (.int vt1), .val (.ref ad_2), .val (.int vo1), .val (.int vt1), .unset] [(.int p3), (.int p3)])) (fun t hr => XS.iloadN X_20.here hx rfl (hb hby at_140) rfl hr) ?_
    refine Go.st (S' := T_20.setTop (mkF m 144 #[.val (.int p1), .val (.int p2), .val (.int p3), .val (.int p4), .val (.int p5), .val (.int (0 : Int32)), .val (.int (1 : Int32)), .val (.ref fk_1), .val (.int vo0), .val (.int vo1), .val (.int p5), .val (.int vt1), .val (.ref ad_2), .val (.int vo1), .val (.int vt1), .unset] [])) (fun t hr => XS.icmpNo X_20.here hx rfl (hb hby at_141) rfl (XT.ii_ne_f rfl) hr) ?_
    refine Go.st (S' := T_20.setTop (mkF m 145 #[.val (.int p1), .val (.int p2), .val (.int p3), .val (.int p4), .val (.int p5), .val (.int (0 : Int32)), .val (.int (1 : Int32)), .val (.ref fk_1), .val (.int vo0), .val (.int vo1), .val (.int p5), .val (.int vt1), .val (.ref ad_2), .val (.int vo1), .val (.int vt1), .unset] [(.int (1 : Int32))])) (fun t hr => XS.iconst X_20.here hx rfl (hb hby at_144) hr) ?_
    refine Go.st (S' := T_20.setTop (mkF m 149 #[.val (.int p1), .val (.int p2), .val (.int p3), .val (.int p4), .val (.int p5), .val (.int (0 : Int32)), .val (.int (1 : Int32)), .val (.ref fk_1), .val (.int vo0), .val (.int vo1), .val (.int p5), .val (.int vt1), .val (.ref ad_2), .val (.int vo1), .val (.int vt1), .unset] [(.int (1 : Int32))])) (fun t hr => XS.goto X_20.here hx rfl (pc0 := 145) (pc' := 149) rfl (hb hby at_145) (by decide) (by decide) hr) ?_
    refine Go.st (S' := T_20.setTop (mkF m 151 #[.val (.int p1), .val (.int p2), .val (.int p3), .val (.int p4), .val (.int p5), .val (.int (0 : Int32)), .val (.int (1 : Int32)), .val (.ref fk_1), .val (.int vo0), .val (.int vo1), .val (.int p5), .val (.int vt1), .val (.ref ad_2), .val (.int vo1), .val (.int vt1), .val (.int (1 : Int32))] [])) (fun t hr => XS.istore X_20.here hx rfl (hb hby at_149) rfl (l' := #[.val (.int p1), .val (.int p2), .val (.int p3), .val (.int p4), .val (.int p5), .val (.int (0 : Int32)), .val (.int (1 : Int32)), .val (.ref fk_1), .val (.int vo0), .val (.int vo1), .val (.int p5), .val (.int vt1), .val (.ref ad_2), .val (.int vo1), .val (.int vt1), .val (.int (1 : Int32))]) rfl hr) ?_
    refine Go.st (S' := T_20.setTop (mkF m 153 #[.val (.int p1), .val (.int p2), .val (.int p3), .val (.int p4), .val (.int p5), .val (.int (0 : Int32)), .val (.int (1 : Int32)), .val (.ref fk_1), .val (.int vo0), .val (.int vo1), .val (.int p5), .val (.int vt1), .val (.ref ad_2), .val (.int vo1), .val (.int vt1), .val (.int (1 : Int32))] [(.int (1 : Int32))])) (fun t hr => XS.iload X_20.here hx rfl (hb hby at_151) rfl hr) ?_
    refine Go.st (S' := T_20.setTop (mkF m 156 #[.val (.int p1), .val (.int p2), .val (.int p3), .val (.int p4), .val (.int p5), .val (.int (0 : Int32)), .val (.int (1 : Int32)), .val (.ref fk_1), .val (.int vo0), .val (.int vo1), .val (.int p5), .val (.int vt1), .val (.ref ad_2), .val (.int vo1), .val (.int vt1), .val (.int (1 : Int32))] [])) (fun t hr => XS.ifNo X_20.here hx rfl (hb hby at_153) rfl (XT.i0_eq_f (by decide)) hr) ?_
    refine Go.st (S' := T_20.setTop (mkF m 158 #[.val (.int p1), .val (.int p2), .val (.int p3), .val (.int p4), .val (.int p5), .val (.int (0 : Int32)), .val (.int (1 : Int32)), .val (.ref fk_1), .val (.int vo0), .val (.int vo1), .val (.int p5), .val (.int vt1), .val (.ref ad_2), .val (.int vo1), .val (.int vt1), .val (.int (1 : Int32))] [(.ref fk_1)])) (fun t hr => XS.aload X_20.here hx rfl (hb hby at_156) rfl rfl hr) ?_
    have F_21 := (F_16.keep K_14 (by intro x hxx; simp only [List.mem_cons, List.not_mem_nil, or_false] at hxx; rcases hxx with rfl | rfl | rfl | rfl <;> omega))
    obtain ⟨T_22, X_22, e_22, st_22⟩ := getS2 X_20 hx hZ hown (host := "") (Or.inl (hw _ (List.mem_of_getElem? (i := 11) rfl))) Via.refl e_20 (SC1.ext F_21.2) (g := (mkF m 158 #[.val (.int p1), .val (.int p2), .val (.int p3), .val (.int p4), .val (.int p5), .val (.int (0 : Int32)), .val (.int (1 : Int32)), .val (.ref fk_1), .val (.int vo0), .val (.int vo1), .val (.int p5), .val (.int vt1), .val (.ref ad_2), .val (.int vo1), .val (.int vt1), .val (.int (1 : Int32))] [(.ref fk_1)])) rfl (hb hby at_158)
    refine Go.st (S' := T_22.setTop (mkF m 161 #[.val (.int p1), .val (.int p2), .val (.int p3), .val (.int p4), .val (.int p5), .val (.int (0 : Int32)), .val (.int (1 : Int32)), .val (.ref fk_1), .val (.int vo0), .val (.int vo1), .val (.int p5), .val (.int vt1), .val (.ref ad_2), .val (.int vo1), .val (.int vt1), .val (.int (1 : Int32))] [(.ref f1), (.ref fk_1)])) st_22 ?_
    by_cases hc23 : (Value.ref fk_1) = (.ref f1)
    · refine Go.st (S' := T_22.setTop (mkF m 164 #[.val (.int p1), .val (.int p2), .val (.int p3), .val (.int p4), .val (.int p5), .val (.int (0 : Int32)), .val (.int (1 : Int32)), .val (.ref fk_1), .val (.int vo0), .val (.int vo1), .val (.int p5), .val (.int vt1), .val (.ref ad_2), .val (.int vo1), .val (.int vt1), .val (.int (1 : Int32))] [])) (fun t hr => XT.acmpNo X_22.here hx rfl (hb hby at_161) rfl rfl rfl (XT.aa_ne_f hc23) hr) ?_
      have hfk1 : fk_1 = f1 := by simpa using hc23
      refine Go.st (S' := T_22.setTop (mkF m 165 #[.val (.int p1), .val (.int p2), .val (.int p3), .val (.int p4), .val (.int p5), .val (.int (0 : Int32)), .val (.int (1 : Int32)), .val (.ref fk_1), .val (.int vo0), .val (.int vo1), .val (.int p5), .val (.int vt1), .val (.ref ad_2), .val (.int vo1), .val (.int vt1), .val (.int (1 : Int32))] [(.int p2)])) (fun t hr => XS.iloadN X_22.here hx rfl (hb hby at_164) rfl hr) ?_
      by_cases hc24 : p2 < 0
      · refine Go.st (S' := T_22.setTop (mkF m 189 #[.val (.int p1), .val (.int p2), .val (.int p3), .val (.int p4), .val (.int p5), .val (.int (0 : Int32)), .val (.int (1 : Int32)), .val (.ref fk_1), .val (.int vo0), .val (.int vo1), .val (.int p5), .val (.int vt1), .val (.ref ad_2), .val (.int vo1), .val (.int vt1), .val (.int (1 : Int32))] [])) (fun t hr => XS.ifYes X_22.here hx rfl (pc0 := 165) (pc' := 189) rfl (hb hby at_165) rfl (XT.i0_lt_t hc24) (by decide) (by decide) hr) ?_
        refine Go.st (S' := T_22.setTop (mkF m 191 #[.val (.int p1), .val (.int p2), .val (.int p3), .val (.int p4), .val (.int p5), .val (.int (0 : Int32)), .val (.int (1 : Int32)), .val (.ref fk_1), .val (.int vo0), .val (.int vo1), .val (.int p5), .val (.int vt1), .val (.ref ad_2), .val (.int vo1), .val (.int vt1), .val (.int (1 : Int32))] [(.int (1 : Int32))])) (fun t hr => XS.iload X_22.here hx rfl (hb hby at_189) rfl hr) ?_
        refine Go.st (S' := T_22.setTop (mkF m 194 #[.val (.int p1), .val (.int p2), .val (.int p3), .val (.int p4), .val (.int p5), .val (.int (0 : Int32)), .val (.int (1 : Int32)), .val (.ref fk_1), .val (.int vo0), .val (.int vo1), .val (.int p5), .val (.int vt1), .val (.ref ad_2), .val (.int vo1), .val (.int vt1), .val (.int (1 : Int32))] [])) (fun t hr => XS.ifNo X_22.here hx rfl (hb hby at_191) rfl (XT.i0_eq_f (by decide)) hr) ?_
        refine Go.st (S' := T_22.setTop (mkF m 196 #[.val (.int p1), .val (.int p2), .val (.int p3), .val (.int p4), .val (.int p5), .val (.int (0 : Int32)), .val (.int (1 : Int32)), .val (.ref fk_1), .val (.int vo0), .val (.int vo1), .val (.int p5), .val (.int vt1), .val (.ref ad_2), .val (.int vo1), .val (.int vt1), .val (.int (1 : Int32))] [(.ref ad_2)])) (fun t hr => XS.aload X_22.here hx rfl (hb hby at_194) rfl rfl hr) ?_
        refine Go.st (S' := T_22.setTop (mkF m 198 #[.val (.int p1), .val (.int p2), .val (.int p3), .val (.int p4), .val (.int p5), .val (.int (0 : Int32)), .val (.int (1 : Int32)), .val (.ref fk_1), .val (.int vo0), .val (.int vo1), .val (.int p5), .val (.int vt1), .val (.ref ad_2), .val (.int vo1), .val (.int vt1), .val (.int (1 : Int32))] [(.int (1 : Int32)), (.ref ad_2)])) (fun t hr => XS.iload X_22.here hx rfl (hb hby at_196) rfl hr) ?_
        obtain ⟨v_25, T_25, h_25, L_25, X_25, e_25, Q_25, st_25⟩ := own_callV X_22 hx hZ (C := "com/example/items_in_arrays/itemsinarrays/xpath/RegularExpressionProgram$Builder") (y := ⟨"com/example/items_in_arrays/itemsinarrays/xpath/RegularExpressionProgram$Builder", "code", "(I)Lcom/example/items_in_arrays/itemsinarrays/xpath/RegularExpressionProgram$Code;"⟩) (z := ⟨"com/example/items_in_arrays/itemsinarrays/xpath/RegularExpressionProgram$Builder", "code", "(I)Lcom/example/items_in_arrays/itemsinarrays/xpath/RegularExpressionProgram$Code;"⟩) hown (hw _ (List.mem_of_getElem? (i := 109) rfl)) (hw _ (List.mem_of_getElem? (i := 110) rfl)) (hw _ (List.mem_of_getElem? (i := 112) rfl)) (hw _ (List.mem_of_getElem? (i := 112) rfl)) (hw _ (List.mem_of_getElem? (i := 111) rfl)) (hw _ (List.mem_of_getElem? (i := 45) rfl)) (hw _ (List.mem_of_getElem? (i := 113) rfl)) (by decide) e_22 (a := ad_2) F_19 (argsL := [(.int (1 : Int32))]) (rest := []) (rmCode1 l Z a0 hw ad_2 h_14 n0 (by omega) ca_3 oa_3 ta_3 f1 vo1 vt1 [(.ref fk_1), (.ref f1), .null, .null, .null, .null, .null, .null, .null, .null, .null, .null, .null, .null, .null, .null] [(.int p2), (.int vo1), (.int 0), (.int 0), (.int 0), (.int 0), (.int 0), (.int 0), (.int 0), (.int 0), (.int 0), (.int 0), (.int 0), (.int 0), (.int 0), (.int 0)] [(.int p3), (.int vt1), (.int 0), (.int 0), (.int 0), (.int 0), (.int 0), (.int 0), (.int 0), (.int 0), (.int 0), (.int 0), (.int 0), (.int 0), (.int 0), (.int 0)]  FC_14 FO_14 FT_14 AC_14' AO_14' AT_14' rfl rfl rfl rfl) (g := (mkF m 198 #[.val (.int p1), .val (.int p2), .val (.int p3), .val (.int p4), .val (.int p5), .val (.int (0 : Int32)), .val (.int (1 : Int32)), .val (.ref fk_1), .val (.int vo0), .val (.int vo1), .val (.int p5), .val (.int vt1), .val (.ref ad_2), .val (.int vo1), .val (.int vt1), .val (.int (1 : Int32))] [(.int (1 : Int32)), (.ref ad_2)])) rfl (by rw [hml]; rfl) (lenOf pd_4 rfl) rfl (hb hby at_198) (W := 0) (by show 2 * 0 + _ ≤ _; exact Nat.le_of_eq rfl) (by decide) (by decide) (by decide) (by decide)
        obtain ⟨rfl, N_25, hh_25⟩ := Q_25
        have N_25' := Fr.app N_20' N_25
        rw [hh_25] at e_25
        refine Go.st (S' := T_25.setTop (mkF m 201 #[.val (.int p1), .val (.int p2), .val (.int p3), .val (.int p4), .val (.int p5), .val (.int (0 : Int32)), .val (.int (1 : Int32)), .val (.ref fk_1), .val (.int vo0), .val (.int vo1), .val (.int p5), .val (.int vt1), .val (.ref ad_2), .val (.int vo1), .val (.int vt1), .val (.int (1 : Int32))] [(.ref f1)])) st_25 ?_
        obtain ⟨T_26, X_26, e_26, st_26⟩ := getS2 X_25 hx hZ hown (host := "") (Or.inl (hw _ (List.mem_of_getElem? (i := 11) rfl))) Via.refl e_25 (SC1.ext F_21.2) (g := (mkF m 201 #[.val (.int p1), .val (.int p2), .val (.int p3), .val (.int p4), .val (.int p5), .val (.int (0 : Int32)), .val (.int (1 : Int32)), .val (.ref fk_1), .val (.int vo0), .val (.int vo1), .val (.int p5), .val (.int vt1), .val (.ref ad_2), .val (.int vo1), .val (.int vt1), .val (.int (1 : Int32))] [(.ref f1)])) rfl (hb hby at_201)
        refine Go.st (S' := T_26.setTop (mkF m 204 #[.val (.int p1), .val (.int p2), .val (.int p3), .val (.int p4), .val (.int p5), .val (.int (0 : Int32)), .val (.int (1 : Int32)), .val (.ref fk_1), .val (.int vo0), .val (.int vo1), .val (.int p5), .val (.int vt1), .val (.ref ad_2), .val (.int vo1), .val (.int vt1), .val (.int (1 : Int32))] [(.ref f1), (.ref f1)])) st_26 ?_
        refine Go.st (S' := T_26.setTop (mkF m 207 #[.val (.int p1), .val (.int p2), .val (.int p3), .val (.int p4), .val (.int p5), .val (.int (0 : Int32)), .val (.int (1 : Int32)), .val (.ref fk_1), .val (.int vo0), .val (.int vo1), .val (.int p5), .val (.int vt1), .val (.ref ad_2), .val (.int vo1), .val (.int vt1), .val (.int (1 : Int32))] [])) (fun t hr => XT.acmpNo X_26.here hx rfl (hb hby at_204) rfl rfl rfl (XT.aa_ne_f rfl) hr) ?_
        refine Go.st (S' := T_26.setTop (mkF m 209 #[.val (.int p1), .val (.int p2), .val (.int p3), .val (.int p4), .val (.int p5), .val (.int (0 : Int32)), .val (.int (1 : Int32)), .val (.ref fk_1), .val (.int vo0), .val (.int vo1), .val (.int p5), .val (.int vt1), .val (.ref ad_2), .val (.int vo1), .val (.int vt1), .val (.int (1 : Int32))] [(.ref ad_2)])) (fun t hr => XS.aload X_26.here hx rfl (hb hby at_207) rfl rfl hr) ?_
        refine Go.st (S' := T_26.setTop (mkF m 211 #[.val (.int p1), .val (.int p2), .val (.int p3), .val (.int p4), .val (.int p5), .val (.int (0 : Int32)), .val (.int (1 : Int32)), .val (.ref fk_1), .val (.int vo0), .val (.int vo1), .val (.int p5), .val (.int vt1), .val (.ref ad_2), .val (.int vo1), .val (.int vt1), .val (.int (1 : Int32))] [(.int (1 : Int32)), (.ref ad_2)])) (fun t hr => XS.iload X_26.here hx rfl (hb hby at_209) rfl hr) ?_
        obtain ⟨v_27, T_27, h_27, L_27, X_27, e_27, Q_27, st_27⟩ := own_callV X_26 hx hZ (C := "com/example/items_in_arrays/itemsinarrays/xpath/RegularExpressionProgram$Builder") (y := ⟨"com/example/items_in_arrays/itemsinarrays/xpath/RegularExpressionProgram$Builder", "target", "(I)I"⟩) (z := ⟨"com/example/items_in_arrays/itemsinarrays/xpath/RegularExpressionProgram$Builder", "target", "(I)I"⟩) hown (hw _ (List.mem_of_getElem? (i := 114) rfl)) (hw _ (List.mem_of_getElem? (i := 115) rfl)) (hw _ (List.mem_of_getElem? (i := 117) rfl)) (hw _ (List.mem_of_getElem? (i := 117) rfl)) (hw _ (List.mem_of_getElem? (i := 116) rfl)) (hw _ (List.mem_of_getElem? (i := 45) rfl)) (hw _ (List.mem_of_getElem? (i := 118) rfl)) (by decide) e_26 (a := ad_2) F_19 (argsL := [(.int (1 : Int32))]) (rest := []) (rmTgt1 l Z a0 hw ad_2 h_14 n0 (by omega) ca_3 oa_3 ta_3 f1 vo1 vt1 [(.ref fk_1), (.ref f1), .null, .null, .null, .null, .null, .null, .null, .null, .null, .null, .null, .null, .null, .null] [(.int p2), (.int vo1), (.int 0), (.int 0), (.int 0), (.int 0), (.int 0), (.int 0), (.int 0), (.int 0), (.int 0), (.int 0), (.int 0), (.int 0), (.int 0), (.int 0)] [(.int p3), (.int vt1), (.int 0), (.int 0), (.int 0), (.int 0), (.int 0), (.int 0), (.int 0), (.int 0), (.int 0), (.int 0), (.int 0), (.int 0), (.int 0), (.int 0)]  FC_14 FO_14 FT_14 AC_14' AO_14' AT_14' rfl rfl rfl rfl) (g := (mkF m 211 #[.val (.int p1), .val (.int p2), .val (.int p3), .val (.int p4), .val (.int p5), .val (.int (0 : Int32)), .val (.int (1 : Int32)), .val (.ref fk_1), .val (.int vo0), .val (.int vo1), .val (.int p5), .val (.int vt1), .val (.ref ad_2), .val (.int vo1), .val (.int vt1), .val (.int (1 : Int32))] [(.int (1 : Int32)), (.ref ad_2)])) rfl (by rw [hml]; rfl) (lenOf pd_7 rfl) rfl (hb hby at_211) (W := 0) (by show 2 * 0 + _ ≤ _; exact Nat.le_of_eq rfl) (by decide) (by decide) (by decide) (by decide)
        obtain ⟨rfl, N_27, hh_27⟩ := Q_27
        have N_27' := Fr.app N_25' N_27
        rw [hh_27] at e_27
        refine Go.st (S' := T_27.setTop (mkF m 214 #[.val (.int p1), .val (.int p2), .val (.int p3), .val (.int p4), .val (.int p5), .val (.int (0 : Int32)), .val (.int (1 : Int32)), .val (.ref fk_1), .val (.int vo0), .val (.int vo1), .val (.int p5), .val (.int vt1), .val (.ref ad_2), .val (.int vo1), .val (.int vt1), .val (.int (1 : Int32))] [(.int vt1)])) st_27 ?_
        refine Go.st (S' := T_27.setTop (mkF m 216 #[.val (.int p1), .val (.int p2), .val (.int p3), .val (.int p4), .val (.int p5), .val (.int (0 : Int32)), .val (.int (1 : Int32)), .val (.ref fk_1), .val (.int vo0), .val (.int vo1), .val (.int p5), .val (.int vt1), .val (.ref ad_2), .val (.int vo1), .val (.int vt1), .val (.int (1 : Int32))] [(.int vt1), (.int vt1)])) (fun t hr => XS.iload X_27.here hx rfl (hb hby at_214) rfl hr) ?_
        refine Go.st (S' := T_27.setTop (mkF m 219 #[.val (.int p1), .val (.int p2), .val (.int p3), .val (.int p4), .val (.int p5), .val (.int (0 : Int32)), .val (.int (1 : Int32)), .val (.ref fk_1), .val (.int vo0), .val (.int vo1), .val (.int p5), .val (.int vt1), .val (.ref ad_2), .val (.int vo1), .val (.int vt1), .val (.int (1 : Int32))] [])) (fun t hr => XS.icmpNo X_27.here hx rfl (hb hby at_216) rfl (XT.ii_ne_f rfl) hr) ?_
        refine Go.st (S' := T_27.setTop (mkF m 221 #[.val (.int p1), .val (.int p2), .val (.int p3), .val (.int p4), .val (.int p5), .val (.int (0 : Int32)), .val (.int (1 : Int32)), .val (.ref fk_1), .val (.int vo0), .val (.int vo1), .val (.int p5), .val (.int vt1), .val (.ref ad_2), .val (.int vo1), .val (.int vt1), .val (.int (1 : Int32))] [(.ref ad_2)])) (fun t hr => XS.aload X_27.here hx rfl (hb hby at_219) rfl rfl hr) ?_
        refine Go.st (S' := T_27.setTop (mkF m 223 #[.val (.int p1), .val (.int p2), .val (.int p3), .val (.int p4), .val (.int p5), .val (.int (0 : Int32)), .val (.int (1 : Int32)), .val (.ref fk_1), .val (.int vo0), .val (.int vo1), .val (.int p5), .val (.int vt1), .val (.ref ad_2), .val (.int vo1), .val (.int vt1), .val (.int (1 : Int32))] [(.int (1 : Int32)), (.ref ad_2)])) (fun t hr => XS.iload X_27.here hx rfl (hb hby at_221) rfl hr) ?_
        obtain ⟨v_28, T_28, h_28, L_28, X_28, e_28, Q_28, st_28⟩ := own_callV X_27 hx hZ (C := "com/example/items_in_arrays/itemsinarrays/xpath/RegularExpressionProgram$Builder") (y := ⟨"com/example/items_in_arrays/itemsinarrays/xpath/RegularExpressionProgram$Builder", "characters", "(I)Lcom/example/items_in_arrays/itemsinarrays/xpath/CodepointSet;"⟩) (z := ⟨"com/example/items_in_arrays/itemsinarrays/xpath/RegularExpressionProgram$Builder", "characters", "(I)Lcom/example/items_in_arrays/itemsinarrays/xpath/CodepointSet;"⟩) hown (hw _ (List.mem_of_getElem? (i := 119) rfl)) (hw _ (List.mem_of_getElem? (i := 120) rfl)) (hw _ (List.mem_of_getElem? (i := 122) rfl)) (hw _ (List.mem_of_getElem? (i := 122) rfl)) (hw _ (List.mem_of_getElem? (i := 121) rfl)) (hw _ (List.mem_of_getElem? (i := 45) rfl)) (hw _ (List.mem_of_getElem? (i := 123) rfl)) (by decide) e_27 (a := ad_2) F_19 (argsL := [(.int (1 : Int32))]) (rest := []) (rmChr1 l Z a0 hw ad_2 h_14 n0 (by omega) ca_3 oa_3 ta_3 f1 vo1 vt1 [(.ref fk_1), (.ref f1), .null, .null, .null, .null, .null, .null, .null, .null, .null, .null, .null, .null, .null, .null] [(.int p2), (.int vo1), (.int 0), (.int 0), (.int 0), (.int 0), (.int 0), (.int 0), (.int 0), (.int 0), (.int 0), (.int 0), (.int 0), (.int 0), (.int 0), (.int 0)] [(.int p3), (.int vt1), (.int 0), (.int 0), (.int 0), (.int 0), (.int 0), (.int 0), (.int 0), (.int 0), (.int 0), (.int 0), (.int 0), (.int 0), (.int 0), (.int 0)]  FC_14 FO_14 FT_14 AC_14' AO_14' AT_14' rfl rfl rfl F_21 SC1 rfl rfl hvo1p) (g := (mkF m 223 #[.val (.int p1), .val (.int p2), .val (.int p3), .val (.int p4), .val (.int p5), .val (.int (0 : Int32)), .val (.int (1 : Int32)), .val (.ref fk_1), .val (.int vo0), .val (.int vo1), .val (.int p5), .val (.int vt1), .val (.ref ad_2), .val (.int vo1), .val (.int vt1), .val (.int (1 : Int32))] [(.int (1 : Int32)), (.ref ad_2)])) rfl (by rw [hml]; rfl) (lenOf pd_8 rfl) rfl (hb hby at_223) (W := 0) (by show 2 * 0 + _ ≤ _; exact Nat.le_of_eq rfl) (by decide) (by decide) (by decide) (by decide)
        obtain ⟨cs_28, rfl, N_28, K_28, EE_28, ra_28, GG_28, AA_28⟩ := Q_28
        have N_28' := Fr.app N_27' N_28
        have z_28 := K_28.1
        refine Go.st (S' := T_28.setTop (mkF m 226 #[.val (.int p1), .val (.int p2), .val (.int p3), .val (.int p4), .val (.int p5), .val (.int (0 : Int32)), .val (.int (1 : Int32)), .val (.ref fk_1), .val (.int vo0), .val (.int vo1), .val (.int p5), .val (.int vt1), .val (.ref ad_2), .val (.int vo1), .val (.int vt1), .val (.int (1 : Int32))] [(.ref cs_28)])) st_28 ?_
        obtain ⟨v_29, T_29, h_29, L_29, X_29, e_29, Q_29, st_29⟩ := own_callV X_28 hx hZ (C := "com/example/items_in_arrays/itemsinarrays/xpath/CodepointSet") (y := ⟨"com/example/items_in_arrays/itemsinarrays/xpath/CodepointSet", "single", "()I"⟩) (z := ⟨"com/example/items_in_arrays/itemsinarrays/xpath/CodepointSet", "single", "()I"⟩) hown (hw _ (List.mem_of_getElem? (i := 144) rfl)) (hw _ (List.mem_of_getElem? (i := 145) rfl)) (hw _ (List.mem_of_getElem? (i := 147) rfl)) (hw _ (List.mem_of_getElem? (i := 147) rfl)) (hw _ (List.mem_of_getElem? (i := 146) rfl)) (hw _ (List.mem_of_getElem? (i := 127) rfl)) (hw _ (List.mem_of_getElem? (i := 148) rfl)) (by decide) e_28 (a := cs_28) EE_28 (argsL := []) (rest := []) (rmSg l Z a0 hw cs_28 h_28 n0 (by omega) vo1 ra_28 GG_28 AA_28) (g := (mkF m 226 #[.val (.int p1), .val (.int p2), .val (.int p3), .val (.int p4), .val (.int p5), .val (.int (0 : Int32)), .val (.int (1 : Int32)), .val (.ref fk_1), .val (.int vo0), .val (.int vo1), .val (.int p5), .val (.int vt1), .val (.ref ad_2), .val (.int vo1), .val (.int vt1), .val (.int (1 : Int32))] [(.ref cs_28)])) rfl (by rw [hml]; rfl) (lenOf pd_9 rfl) rfl (hb hby at_226) (W := 0) (by show 2 * 0 + _ ≤ _; exact Nat.le_of_eq rfl) (by decide) (by decide) (by decide) (by decide)
        obtain ⟨rfl, N_29, hh_29⟩ := Q_29
        have N_29' := Fr.app N_28' N_29
        rw [hh_29] at e_29
        refine Go.st (S' := T_29.setTop (mkF m 229 #[.val (.int p1), .val (.int p2), .val (.int p3), .val (.int p4), .val (.int p5), .val (.int (0 : Int32)), .val (.int (1 : Int32)), .val (.ref fk_1), .val (.int vo0), .val (.int vo1), .val (.int p5), .val (.int vt1), .val (.ref ad_2), .val (.int vo1), .val (.int vt1), .val (.int (1 : Int32))] [(.int vo1)])) st_29 ?_
        refine Go.st (S' := T_29.setTop (mkF m 231 #[.val (.int p1), .val (.int p2), .val (.int p3), .val (.int p4), .val (.int p5), .val (.int (0 : Int32)), .val (.int (1 : Int32)), .val (.ref fk_1), .val (.int vo0), .val (.int vo1), .val (.int p5), .val (.int vt1), .val (.ref ad_2), .val (.int vo1), .val (.int vt1), .val (.int (1 : Int32))] [(.int vo1), (.int vo1)])) (fun t hr => XS.iload X_29.here hx rfl (hb hby at_229) rfl hr) ?_
        refine Go.st (S' := T_29.setTop (mkF m 234 #[.val (.int p1), .val (.int p2), .val (.int p3), .val (.int p4), .val (.int p5), .val (.int (0 : Int32)), .val (.int (1 : Int32)), .val (.ref fk_1), .val (.int vo0), .val (.int vo1), .val (.int p5), .val (.int vt1), .val (.ref ad_2), .val (.int vo1), .val (.int vt1), .val (.int (1 : Int32))] [])) (fun t hr => XS.icmpNo X_29.here hx rfl (hb hby at_231) rfl (XT.ii_ne_f rfl) hr) ?_
        refine Go.st (S' := T_29.setTop (mkF m 235 #[.val (.int p1), .val (.int p2), .val (.int p3), .val (.int p4), .val (.int p5), .val (.int (0 : Int32)), .val (.int (1 : Int32)), .val (.ref fk_1), .val (.int vo0), .val (.int vo1), .val (.int p5), .val (.int vt1), .val (.ref ad_2), .val (.int vo1), .val (.int vt1), .val (.int (1 : Int32))] [(.int (1 : Int32))])) (fun t hr => XS.iconst X_29.here hx rfl (hb hby at_234) hr) ?_
        refine Go.st (S' := T_29.setTop (mkF m 239 #[.val (.int p1), .val (.int p2), .val (.int p3), .val (.int p4), .val (.int p5), .val (.int (0 : Int32)), .val (.int (1 : Int32)), .val (.ref fk_1), .val (.int vo0), .val (.int vo1), .val (.int p5), .val (.int vt1), .val (.ref ad_2), .val (.int vo1), .val (.int vt1), .val (.int (1 : Int32))] [(.int (1 : Int32))])) (fun t hr => XS.goto X_29.here hx rfl (pc0 := 235) (pc' := 239) rfl (hb hby at_235) (by decide) (by decide) hr) ?_
        refine Go.st (S' := T_29.setTop (mkF m 241 #[.val (.int p1), .val (.int p2), .val (.int p3), .val (.int p4), .val (.int p5), .val (.int (0 : Int32)), .val (.int (1 : Int32)), .val (.ref fk_1), .val (.int vo0), .val (.int vo1), .val (.int p5), .val (.int vt1), .val (.ref ad_2), .val (.int vo1), .val (.int vt1), .val (.int (1 : Int32))] [])) (fun t hr => XS.istore X_29.here hx rfl (hb hby at_239) rfl (l' := #[.val (.int p1), .val (.int p2), .val (.int p3), .val (.int p4), .val (.int p5), .val (.int (0 : Int32)), .val (.int (1 : Int32)), .val (.ref fk_1), .val (.int vo0), .val (.int vo1), .val (.int p5), .val (.int vt1), .val (.ref ad_2), .val (.int vo1), .val (.int vt1), .val (.int (1 : Int32))]) rfl hr) ?_
        refine Go.st (S' := T_29.setTop (mkF m 243 #[.val (.int p1), .val (.int p2), .val (.int p3), .val (.int p4), .val (.int p5), .val (.int (0 : Int32)), .val (.int (1 : Int32)), .val (.ref fk_1), .val (.int vo0), .val (.int vo1), .val (.int p5), .val (.int vt1), .val (.ref ad_2), .val (.int vo1), .val (.int vt1), .val (.int (1 : Int32))] [(.int (1 : Int32))])) (fun t hr => XS.iload X_29.here hx rfl (hb hby at_241) rfl hr) ?_
        refine Go.retN X_29 hx hlk (t := .boolean) hret (by simp) (hb hby at_243) (by decide) (by decide) ?_
        try rw [e_29]
        exact ⟨rfl, N_29'⟩
      · refine Go.st (S' := T_22.setTop (mkF m 168 #[.val (.int p1), .val (.int p2), .val (.int p3), .val (.int p4), .val (.int p5), .val (.int (0 : Int32)), .val (.int (1 : Int32)), .val (.ref fk_1), .val (.int vo0), .val (.int vo1), .val (.int p5), .val (.int vt1), .val (.ref ad_2), .val (.int vo1), .val (.int vt1), .val (.int (1 : Int32))] [])) (fun t hr => XS.ifNo X_22.here hx rfl (hb hby at_165) rfl (XT.i0_lt_f hc24) hr) ?_
        have hop : 0 ≤ p2.toInt := by have q := hc24; rw [Int32.lt_iff_toInt_lt] at q; have z : (0 : Int32).toInt = 0 := rfl; omega
        refine Go.st (S' := T_22.setTop (mkF m 170 #[.val (.int p1), .val (.int p2), .val (.int p3), .val (.int p4), .val (.int p5), .val (.int (0 : Int32)), .val (.int (1 : Int32)), .val (.ref fk_1), .val (.int vo0), .val (.int vo1), .val (.int p5), .val (.int vt1), .val (.ref ad_2), .val (.int vo1), .val (.int vt1), .val (.int (1 : Int32))] [(.ref ad_2)])) (fun t hr => XS.aload X_22.here hx rfl (hb hby at_168) rfl rfl hr) ?_
        refine Go.st (S' := T_22.setTop (mkF m 172 #[.val (.int p1), .val (.int p2), .val (.int p3), .val (.int p4), .val (.int p5), .val (.int (0 : Int32)), .val (.int (1 : Int32)), .val (.ref fk_1), .val (.int vo0), .val (.int vo1), .val (.int p5), .val (.int vt1), .val (.ref ad_2), .val (.int vo1), .val (.int vt1), .val (.int (1 : Int32))] [(.int (0 : Int32)), (.ref ad_2)])) (fun t hr => XS.iload X_22.here hx rfl (hb hby at_170) rfl hr) ?_
        obtain ⟨v_30, T_30, h_30, L_30, X_30, e_30, Q_30, st_30⟩ := own_callV X_22 hx hZ (C := "com/example/items_in_arrays/itemsinarrays/xpath/RegularExpressionProgram$Builder") (y := ⟨"com/example/items_in_arrays/itemsinarrays/xpath/RegularExpressionProgram$Builder", "characters", "(I)Lcom/example/items_in_arrays/itemsinarrays/xpath/CodepointSet;"⟩) (z := ⟨"com/example/items_in_arrays/itemsinarrays/xpath/RegularExpressionProgram$Builder", "characters", "(I)Lcom/example/items_in_arrays/itemsinarrays/xpath/CodepointSet;"⟩) hown (hw _ (List.mem_of_getElem? (i := 119) rfl)) (hw _ (List.mem_of_getElem? (i := 120) rfl)) (hw _ (List.mem_of_getElem? (i := 122) rfl)) (hw _ (List.mem_of_getElem? (i := 122) rfl)) (hw _ (List.mem_of_getElem? (i := 121) rfl)) (hw _ (List.mem_of_getElem? (i := 45) rfl)) (hw _ (List.mem_of_getElem? (i := 123) rfl)) (by decide) e_22 (a := ad_2) F_19 (argsL := [(.int (0 : Int32))]) (rest := []) (rmChr0 l Z a0 hw ad_2 h_14 n0 (by omega) ca_3 oa_3 ta_3 f1 p2 p3 [(.ref fk_1), (.ref f1), .null, .null, .null, .null, .null, .null, .null, .null, .null, .null, .null, .null, .null, .null] [(.int p2), (.int vo1), (.int 0), (.int 0), (.int 0), (.int 0), (.int 0), (.int 0), (.int 0), (.int 0), (.int 0), (.int 0), (.int 0), (.int 0), (.int 0), (.int 0)] [(.int p3), (.int vt1), (.int 0), (.int 0), (.int 0), (.int 0), (.int 0), (.int 0), (.int 0), (.int 0), (.int 0), (.int 0), (.int 0), (.int 0), (.int 0), (.int 0)]  FC_14 FO_14 FT_14 AC_14' AO_14' AT_14' rfl rfl rfl F_21 SC1 (by rw [hfk1]; rfl) rfl hop) (g := (mkF m 172 #[.val (.int p1), .val (.int p2), .val (.int p3), .val (.int p4), .val (.int p5), .val (.int (0 : Int32)), .val (.int (1 : Int32)), .val (.ref fk_1), .val (.int vo0), .val (.int vo1), .val (.int p5), .val (.int vt1), .val (.ref ad_2), .val (.int vo1), .val (.int vt1), .val (.int (1 : Int32))] [(.int (0 : Int32)), (.ref ad_2)])) rfl (by rw [hml]; rfl) (lenOf pd_8 rfl) rfl (hb hby at_172) (W := 0) (by show 2 * 0 + _ ≤ _; exact Nat.le_of_eq rfl) (by decide) (by decide) (by decide) (by decide)
        obtain ⟨cs_30, rfl, N_30, K_30, EE_30, ra_30, GG_30, AA_30⟩ := Q_30
        have N_30' := Fr.app N_20' N_30
        have z_30 := K_30.1
        refine Go.st (S' := T_30.setTop (mkF m 175 #[.val (.int p1), .val (.int p2), .val (.int p3), .val (.int p4), .val (.int p5), .val (.int (0 : Int32)), .val (.int (1 : Int32)), .val (.ref fk_1), .val (.int vo0), .val (.int vo1), .val (.int p5), .val (.int vt1), .val (.ref ad_2), .val (.int vo1), .val (.int vt1), .val (.int (1 : Int32))] [(.ref cs_30)])) st_30 ?_
        obtain ⟨v_31, T_31, h_31, L_31, X_31, e_31, Q_31, st_31⟩ := own_callV X_30 hx hZ (C := "com/example/items_in_arrays/itemsinarrays/xpath/CodepointSet") (y := ⟨"com/example/items_in_arrays/itemsinarrays/xpath/CodepointSet", "single", "()I"⟩) (z := ⟨"com/example/items_in_arrays/itemsinarrays/xpath/CodepointSet", "single", "()I"⟩) hown (hw _ (List.mem_of_getElem? (i := 144) rfl)) (hw _ (List.mem_of_getElem? (i := 145) rfl)) (hw _ (List.mem_of_getElem? (i := 147) rfl)) (hw _ (List.mem_of_getElem? (i := 147) rfl)) (hw _ (List.mem_of_getElem? (i := 146) rfl)) (hw _ (List.mem_of_getElem? (i := 127) rfl)) (hw _ (List.mem_of_getElem? (i := 148) rfl)) (by decide) e_30 (a := cs_30) EE_30 (argsL := []) (rest := []) (rmSg l Z a0 hw cs_30 h_30 n0 (by omega) p2 ra_30 GG_30 AA_30) (g := (mkF m 175 #[.val (.int p1), .val (.int p2), .val (.int p3), .val (.int p4), .val (.int p5), .val (.int (0 : Int32)), .val (.int (1 : Int32)), .val (.ref fk_1), .val (.int vo0), .val (.int vo1), .val (.int p5), .val (.int vt1), .val (.ref ad_2), .val (.int vo1), .val (.int vt1), .val (.int (1 : Int32))] [(.ref cs_30)])) rfl (by rw [hml]; rfl) (lenOf pd_9 rfl) rfl (hb hby at_175) (W := 0) (by show 2 * 0 + _ ≤ _; exact Nat.le_of_eq rfl) (by decide) (by decide) (by decide) (by decide)
        obtain ⟨rfl, N_31, hh_31⟩ := Q_31
        have N_31' := Fr.app N_30' N_31
        rw [hh_31] at e_31
        refine Go.st (S' := T_31.setTop (mkF m 178 #[.val (.int p1), .val (.int p2), .val (.int p3), .val (.int p4), .val (.int p5), .val (.int (0 : Int32)), .val (.int (1 : Int32)), .val (.ref fk_1), .val (.int vo0), .val (.int vo1), .val (.int p5), .val (.int vt1), .val (.ref ad_2), .val (.int vo1), .val (.int vt1), .val (.int (1 : Int32))] [(.int p2)])) st_31 ?_
        refine Go.st (S' := T_31.setTop (mkF m 179 #[.val (.int p1), .val (.int p2), .val (.int p3), .val (.int p4), .val (.int p5), .val (.int (0 : Int32)), .val (.int (1 : Int32)), .val (.ref fk_1), .val (.int vo0), .val (.int vo1), .val (.int p5), .val (.int vt1), .val (.ref ad_2), .val (.int vo1), .val (.int vt1), .val (.int (1 : Int32))] [(.int p2), (.int p2)])) (fun t hr => XS.iloadN X_31.here hx rfl (hb hby at_178) rfl hr) ?_
        refine Go.st (S' := T_31.setTop (mkF m 182 #[.val (.int p1), .val (.int p2), .val (.int p3), .val (.int p4), .val (.int p5), .val (.int (0 : Int32)), .val (.int (1 : Int32)), .val (.ref fk_1), .val (.int vo0), .val (.int vo1), .val (.int p5), .val (.int vt1), .val (.ref ad_2), .val (.int vo1), .val (.int vt1), .val (.int (1 : Int32))] [])) (fun t hr => XS.icmpNo X_31.here hx rfl (hb hby at_179) rfl (XT.ii_ne_f rfl) hr) ?_
        refine Go.st (S' := T_31.setTop (mkF m 183 #[.val (.int p1), .val (.int p2), .val (.int p3), .val (.int p4), .val (.int p5), .val (.int (0 : Int32)), .val (.int (1 : Int32)), .val (.ref fk_1), .val (.int vo0), .val (.int vo1), .val (.int p5), .val (.int vt1), .val (.ref ad_2), .val (.int vo1), .val (.int vt1), .val (.int (1 : Int32))] [(.int (1 : Int32))])) (fun t hr => XS.iconst X_31.here hx rfl (hb hby at_182) hr) ?_
        refine Go.st (S' := T_31.setTop (mkF m 187 #[.val (.int p1), .val (.int p2), .val (.int p3), .val (.int p4), .val (.int p5), .val (.int (0 : Int32)), .val (.int (1 : Int32)), .val (.ref fk_1), .val (.int vo0), .val (.int vo1), .val (.int p5), .val (.int vt1), .val (.ref ad_2), .val (.int vo1), .val (.int vt1), .val (.int (1 : Int32))] [(.int (1 : Int32))])) (fun t hr => XS.goto X_31.here hx rfl (pc0 := 183) (pc' := 187) rfl (hb hby at_183) (by decide) (by decide) hr) ?_
        refine Go.st (S' := T_31.setTop (mkF m 189 #[.val (.int p1), .val (.int p2), .val (.int p3), .val (.int p4), .val (.int p5), .val (.int (0 : Int32)), .val (.int (1 : Int32)), .val (.ref fk_1), .val (.int vo0), .val (.int vo1), .val (.int p5), .val (.int vt1), .val (.ref ad_2), .val (.int vo1), .val (.int vt1), .val (.int (1 : Int32))] [])) (fun t hr => XS.istore X_31.here hx rfl (hb hby at_187) rfl (l' := #[.val (.int p1), .val (.int p2), .val (.int p3), .val (.int p4), .val (.int p5), .val (.int (0 : Int32)), .val (.int (1 : Int32)), .val (.ref fk_1), .val (.int vo0), .val (.int vo1), .val (.int p5), .val (.int vt1), .val (.ref ad_2), .val (.int vo1), .val (.int vt1), .val (.int (1 : Int32))]) rfl hr) ?_
        refine Go.st (S' := T_31.setTop (mkF m 191 #[.val (.int p1), .val (.int p2), .val (.int p3), .val (.int p4), .val (.int p5), .val (.int (0 : Int32)), .val (.int (1 : Int32)), .val (.ref fk_1), .val (.int vo0), .val (.int vo1), .val (.int p5), .val (.int vt1), .val (.ref ad_2), .val (.int vo1), .val (.int vt1), .val (.int (1 : Int32))] [(.int (1 : Int32))])) (fun t hr => XS.iload X_31.here hx rfl (hb hby at_189) rfl hr) ?_
        refine Go.st (S' := T_31.setTop (mkF m 194 #[.val (.int p1), .val (.int p2), .val (.int p3), .val (.int p4), .val (.int p5), .val (.int (0 : Int32)), .val (.int (1 : Int32)), .val (.ref fk_1), .val (.int vo0), .val (.int vo1), .val (.int p5), .val (.int vt1), .val (.ref ad_2), .val (.int vo1), .val (.int vt1), .val (.int (1 : Int32))] [])) (fun t hr => XS.ifNo X_31.here hx rfl (hb hby at_191) rfl (XT.i0_eq_f (by decide)) hr) ?_
        refine Go.st (S' := T_31.setTop (mkF m 196 #[.val (.int p1), .val (.int p2), .val (.int p3), .val (.int p4), .val (.int p5), .val (.int (0 : Int32)), .val (.int (1 : Int32)), .val (.ref fk_1), .val (.int vo0), .val (.int vo1), .val (.int p5), .val (.int vt1), .val (.ref ad_2), .val (.int vo1), .val (.int vt1), .val (.int (1 : Int32))] [(.ref ad_2)])) (fun t hr => XS.aload X_31.here hx rfl (hb hby at_194) rfl rfl hr) ?_
        refine Go.st (S' := T_31.setTop (mkF m 198 #[.val (.int p1), .val (.int p2), .val (.int p3), .val (.int p4), .val (.int p5), .val (.int (0 : Int32)), .val (.int (1 : Int32)), .val (.ref fk_1), .val (.int vo0), .val (.int vo1), .val (.int p5), .val (.int vt1), .val (.ref ad_2), .val (.int vo1), .val (.int vt1), .val (.int (1 : Int32))] [(.int (1 : Int32)), (.ref ad_2)])) (fun t hr => XS.iload X_31.here hx rfl (hb hby at_196) rfl hr) ?_
        have F_32 := (FC_14.keep K_30 nin0)
        have F_33 := (FO_14.keep K_30 nin0)
        have F_34 := (FT_14.keep K_30 nin0)
        have F_35 := (AC_14'.keep K_30 nin0)
        have F_36 := (AO_14'.keep K_30 nin0)
        have F_37 := (AT_14'.keep K_30 nin0)
        have F_39 := (F_19.keep K_30)
        obtain ⟨v_38, T_38, h_38, L_38, X_38, e_38, Q_38, st_38⟩ := own_callV X_31 hx hZ (C := "com/example/items_in_arrays/itemsinarrays/xpath/RegularExpressionProgram$Builder") (y := ⟨"com/example/items_in_arrays/itemsinarrays/xpath/RegularExpressionProgram$Builder", "code", "(I)Lcom/example/items_in_arrays/itemsinarrays/xpath/RegularExpressionProgram$Code;"⟩) (z := ⟨"com/example/items_in_arrays/itemsinarrays/xpath/RegularExpressionProgram$Builder", "code", "(I)Lcom/example/items_in_arrays/itemsinarrays/xpath/RegularExpressionProgram$Code;"⟩) hown (hw _ (List.mem_of_getElem? (i := 109) rfl)) (hw _ (List.mem_of_getElem? (i := 110) rfl)) (hw _ (List.mem_of_getElem? (i := 112) rfl)) (hw _ (List.mem_of_getElem? (i := 112) rfl)) (hw _ (List.mem_of_getElem? (i := 111) rfl)) (hw _ (List.mem_of_getElem? (i := 45) rfl)) (hw _ (List.mem_of_getElem? (i := 113) rfl)) (by decide) e_31 (a := ad_2) F_39 (argsL := [(.int (1 : Int32))]) (rest := []) (rmCode1 l Z a0 hw ad_2 h_30 n0 (by omega) ca_3 oa_3 ta_3 f1 vo1 vt1 [(.ref fk_1), (.ref f1), .null, .null, .null, .null, .null, .null, .null, .null, .null, .null, .null, .null, .null, .null] [(.int p2), (.int vo1), (.int 0), (.int 0), (.int 0), (.int 0), (.int 0), (.int 0), (.int 0), (.int 0), (.int 0), (.int 0), (.int 0), (.int 0), (.int 0), (.int 0)] [(.int p3), (.int vt1), (.int 0), (.int 0), (.int 0), (.int 0), (.int 0), (.int 0), (.int 0), (.int 0), (.int 0), (.int 0), (.int 0), (.int 0), (.int 0), (.int 0)]  F_32 F_33 F_34 F_35 F_36 F_37 rfl rfl rfl rfl) (g := (mkF m 198 #[.val (.int p1), .val (.int p2), .val (.int p3), .val (.int p4), .val (.int p5), .val (.int (0 : Int32)), .val (.int (1 : Int32)), .val (.ref fk_1), .val (.int vo0), .val (.int vo1), .val (.int p5), .val (.int vt1), .val (.ref ad_2), .val (.int vo1), .val (.int vt1), .val (.int (1 : Int32))] [(.int (1 : Int32)), (.ref ad_2)])) rfl (by rw [hml]; rfl) (lenOf pd_4 rfl) rfl (hb hby at_198) (W := 0) (by show 2 * 0 + _ ≤ _; exact Nat.le_of_eq rfl) (by decide) (by decide) (by decide) (by decide)
        obtain ⟨rfl, N_38, hh_38⟩ := Q_38
        have N_38' := Fr.app N_31' N_38
        rw [hh_38] at e_38
        refine Go.st (S' := T_38.setTop (mkF m 201 #[.val (.int p1), .val (.int p2), .val (.int p3), .val (.int p4), .val (.int p5), .val (.int (0 : Int32)), .val (.int (1 : Int32)), .val (.ref fk_1), .val (.int vo0), .val (.int vo1), .val (.int p5), .val (.int vt1), .val (.ref ad_2), .val (.int vo1), .val (.int vt1), .val (.int (1 : Int32))] [(.ref f1)])) st_38 ?_
        have F_40 := (F_21.keep K_30 all0)
        obtain ⟨T_41, X_41, e_41, st_41⟩ := getS2 X_38 hx hZ hown (host := "") (Or.inl (hw _ (List.mem_of_getElem? (i := 11) rfl))) Via.refl e_38 (SC1.ext F_40.2) (g := (mkF m 201 #[.val (.int p1), .val (.int p2), .val (.int p3), .val (.int p4), .val (.int p5), .val (.int (0 : Int32)), .val (.int (1 : Int32)), .val (.ref fk_1), .val (.int vo0), .val (.int vo1), .val (.int p5), .val (.int vt1), .val (.ref ad_2), .val (.int vo1), .val (.int vt1), .val (.int (1 : Int32))] [(.ref f1)])) rfl (hb hby at_201)
        refine Go.st (S' := T_41.setTop (mkF m 204 #[.val (.int p1), .val (.int p2), .val (.int p3), .val (.int p4), .val (.int p5), .val (.int (0 : Int32)), .val (.int (1 : Int32)), .val (.ref fk_1), .val (.int vo0), .val (.int vo1), .val (.int p5), .val (.int vt1), .val (.ref ad_2), .val (.int vo1), .val (.int vt1), .val (.int (1 : Int32))] [(.ref f1), (.ref f1)])) st_41 ?_
        refine Go.st (S' := T_41.setTop (mkF m 207 #[.val (.int p1), .val (.int p2), .val (.int p3), .val (.int p4), .val (.int p5), .val (.int (0 : Int32)), .val (.int (1 : Int32)), .val (.ref fk_1), .val (.int vo0), .val (.int vo1), .val (.int p5), .val (.int vt1), .val (.ref ad_2), .val (.int vo1), .val (.int vt1), .val (.int (1 : Int32))] [])) (fun t hr => XT.acmpNo X_41.here hx rfl (hb hby at_204) rfl rfl rfl (XT.aa_ne_f rfl) hr) ?_
        refine Go.st (S' := T_41.setTop (mkF m 209 #[.val (.int p1), .val (.int p2), .val (.int p3), .val (.int p4), .val (.int p5), .val (.int (0 : Int32)), .val (.int (1 : Int32)), .val (.ref fk_1), .val (.int vo0), .val (.int vo1), .val (.int p5), .val (.int vt1), .val (.ref ad_2), .val (.int vo1), .val (.int vt1), .val (.int (1 : Int32))] [(.ref ad_2)])) (fun t hr => XS.aload X_41.here hx rfl (hb hby at_207) rfl rfl hr) ?_
        refine Go.st (S' := T_41.setTop (mkF m 211 #[.val (.int p1), .val (.int p2), .val (.int p3), .val (.int p4), .val (.int p5), .val (.int (0 : Int32)), .val (.int (1 : Int32)), .val (.ref fk_1), .val (.int vo0), .val (.int vo1), .val (.int p5), .val (.int vt1), .val (.ref ad_2), .val (.int vo1), .val (.int vt1), .val (.int (1 : Int32))] [(.int (1 : Int32)), (.ref ad_2)])) (fun t hr => XS.iload X_41.here hx rfl (hb hby at_209) rfl hr) ?_
        obtain ⟨v_42, T_42, h_42, L_42, X_42, e_42, Q_42, st_42⟩ := own_callV X_41 hx hZ (C := "com/example/items_in_arrays/itemsinarrays/xpath/RegularExpressionProgram$Builder") (y := ⟨"com/example/items_in_arrays/itemsinarrays/xpath/RegularExpressionProgram$Builder", "target", "(I)I"⟩) (z := ⟨"com/example/items_in_arrays/itemsinarrays/xpath/RegularExpressionProgram$Builder", "target", "(I)I"⟩) hown (hw _ (List.mem_of_getElem? (i := 114) rfl)) (hw _ (List.mem_of_getElem? (i := 115) rfl)) (hw _ (List.mem_of_getElem? (i := 117) rfl)) (hw _ (List.mem_of_getElem? (i := 117) rfl)) (hw _ (List.mem_of_getElem? (i := 116) rfl)) (hw _ (List.mem_of_getElem? (i := 45) rfl)) (hw _ (List.mem_of_getElem? (i := 118) rfl)) (by decide) e_41 (a := ad_2) F_39 (argsL := [(.int (1 : Int32))]) (rest := []) (rmTgt1 l Z a0 hw ad_2 h_30 n0 (by omega) ca_3 oa_3 ta_3 f1 vo1 vt1 [(.ref fk_1), (.ref f1), .null, .null, .null, .null, .null, .null, .null, .null, .null, .null, .null, .null, .null, .null] [(.int p2), (.int vo1), (.int 0), (.int 0), (.int 0), (.int 0), (.int 0), (.int 0), (.int 0), (.int 0), (.int 0), (.int 0), (.int 0), (.int 0), (.int 0), (.int 0)] [(.int p3), (.int vt1), (.int 0), (.int 0), (.int 0), (.int 0), (.int 0), (.int 0), (.int 0), (.int 0), (.int 0), (.int 0), (.int 0), (.int 0), (.int 0), (.int 0)]  F_32 F_33 F_34 F_35 F_36 F_37 rfl rfl rfl rfl) (g := (mkF m 211 #[.val (.int p1), .val (.int p2), .val (.int p3), .val (.int p4), .val (.int p5), .val (.int (0 : Int32)), .val (.int (1 : Int32)), .val (.ref fk_1), .val (.int vo0), .val (.int vo1), .val (.int p5), .val (.int vt1), .val (.ref ad_2), .val (.int vo1), .val (.int vt1), .val (.int (1 : Int32))] [(.int (1 : Int32)), (.ref ad_2)])) rfl (by rw [hml]; rfl) (lenOf pd_7 rfl) rfl (hb hby at_211) (W := 0) (by show 2 * 0 + _ ≤ _; exact Nat.le_of_eq rfl) (by decide) (by decide) (by decide) (by decide)
        obtain ⟨rfl, N_42, hh_42⟩ := Q_42
        have N_42' := Fr.app N_38' N_42
        rw [hh_42] at e_42
        refine Go.st (S' := T_42.setTop (mkF m 214 #[.val (.int p1), .val (.int p2), .val (.int p3), .val (.int p4), .val (.int p5), .val (.int (0 : Int32)), .val (.int (1 : Int32)), .val (.ref fk_1), .val (.int vo0), .val (.int vo1), .val (.int p5), .val (.int vt1), .val (.ref ad_2), .val (.int vo1), .val (.int vt1), .val (.int (1 : Int32))] [(.int vt1)])) st_42 ?_
        refine Go.st (S' := T_42.setTop (mkF m 216 #[.val (.int p1), .val (.int p2), .val (.int p3), .val (.int p4), .val (.int p5), .val (.int (0 : Int32)), .val (.int (1 : Int32)), .val (.ref fk_1), .val (.int vo0), .val (.int vo1), .val (.int p5), .val (.int vt1), .val (.ref ad_2), .val (.int vo1), .val (.int vt1), .val (.int (1 : Int32))] [(.int vt1), (.int vt1)])) (fun t hr => XS.iload X_42.here hx rfl (hb hby at_214) rfl hr) ?_
        refine Go.st (S' := T_42.setTop (mkF m 219 #[.val (.int p1), .val (.int p2), .val (.int p3), .val (.int p4), .val (.int p5), .val (.int (0 : Int32)), .val (.int (1 : Int32)), .val (.ref fk_1), .val (.int vo0), .val (.int vo1), .val (.int p5), .val (.int vt1), .val (.ref ad_2), .val (.int vo1), .val (.int vt1), .val (.int (1 : Int32))] [])) (fun t hr => XS.icmpNo X_42.here hx rfl (hb hby at_216) rfl (XT.ii_ne_f rfl) hr) ?_
        refine Go.st (S' := T_42.setTop (mkF m 221 #[.val (.int p1), .val (.int p2), .val (.int p3), .val (.int p4), .val (.int p5), .val (.int (0 : Int32)), .val (.int (1 : Int32)), .val (.ref fk_1), .val (.int vo0), .val (.int vo1), .val (.int p5), .val (.int vt1), .val (.ref ad_2), .val (.int vo1), .val (.int vt1), .val (.int (1 : Int32))] [(.ref ad_2)])) (fun t hr => XS.aload X_42.here hx rfl (hb hby at_219) rfl rfl hr) ?_
        refine Go.st (S' := T_42.setTop (mkF m 223 #[.val (.int p1), .val (.int p2), .val (.int p3), .val (.int p4), .val (.int p5), .val (.int (0 : Int32)), .val (.int (1 : Int32)), .val (.ref fk_1), .val (.int vo0), .val (.int vo1), .val (.int p5), .val (.int vt1), .val (.ref ad_2), .val (.int vo1), .val (.int vt1), .val (.int (1 : Int32))] [(.int (1 : Int32)), (.ref ad_2)])) (fun t hr => XS.iload X_42.here hx rfl (hb hby at_221) rfl hr) ?_
        obtain ⟨v_43, T_43, h_43, L_43, X_43, e_43, Q_43, st_43⟩ := own_callV X_42 hx hZ (C := "com/example/items_in_arrays/itemsinarrays/xpath/RegularExpressionProgram$Builder") (y := ⟨"com/example/items_in_arrays/itemsinarrays/xpath/RegularExpressionProgram$Builder", "characters", "(I)Lcom/example/items_in_arrays/itemsinarrays/xpath/CodepointSet;"⟩) (z := ⟨"com/example/items_in_arrays/itemsinarrays/xpath/RegularExpressionProgram$Builder", "characters", "(I)Lcom/example/items_in_arrays/itemsinarrays/xpath/CodepointSet;"⟩) hown (hw _ (List.mem_of_getElem? (i := 119) rfl)) (hw _ (List.mem_of_getElem? (i := 120) rfl)) (hw _ (List.mem_of_getElem? (i := 122) rfl)) (hw _ (List.mem_of_getElem? (i := 122) rfl)) (hw _ (List.mem_of_getElem? (i := 121) rfl)) (hw _ (List.mem_of_getElem? (i := 45) rfl)) (hw _ (List.mem_of_getElem? (i := 123) rfl)) (by decide) e_42 (a := ad_2) F_39 (argsL := [(.int (1 : Int32))]) (rest := []) (rmChr1 l Z a0 hw ad_2 h_30 n0 (by omega) ca_3 oa_3 ta_3 f1 vo1 vt1 [(.ref fk_1), (.ref f1), .null, .null, .null, .null, .null, .null, .null, .null, .null, .null, .null, .null, .null, .null] [(.int p2), (.int vo1), (.int 0), (.int 0), (.int 0), (.int 0), (.int 0), (.int 0), (.int 0), (.int 0), (.int 0), (.int 0), (.int 0), (.int 0), (.int 0), (.int 0)] [(.int p3), (.int vt1), (.int 0), (.int 0), (.int 0), (.int 0), (.int 0), (.int 0), (.int 0), (.int 0), (.int 0), (.int 0), (.int 0), (.int 0), (.int 0), (.int 0)]  F_32 F_33 F_34 F_35 F_36 F_37 rfl rfl rfl F_40 SC1 rfl rfl hvo1p) (g := (mkF m 223 #[.val (.int p1), .val (.int p2), .val (.int p3), .val (.int p4), .val (.int p5), .val (.int (0 : Int32)), .val (.int (1 : Int32)), .val (.ref fk_1), .val (.int vo0), .val (.int vo1), .val (.int p5), .val (.int vt1), .val (.ref ad_2), .val (.int vo1), .val (.int vt1), .val (.int (1 : Int32))] [(.int (1 : Int32)), (.ref ad_2)])) rfl (by rw [hml]; rfl) (lenOf pd_8 rfl) rfl (hb hby at_223) (W := 0) (by show 2 * 0 + _ ≤ _; exact Nat.le_of_eq rfl) (by decide) (by decide) (by decide) (by decide)
        obtain ⟨cs_43, rfl, N_43, K_43, EE_43, ra_43, GG_43, AA_43⟩ := Q_43
        have N_43' := Fr.app N_42' N_43
        have z_43 := K_43.1
        refine Go.st (S' := T_43.setTop (mkF m 226 #[.val (.int p1), .val (.int p2), .val (.int p3), .val (.int p4), .val (.int p5), .val (.int (0 : Int32)), .val (.int (1 : Int32)), .val (.ref fk_1), .val (.int vo0), .val (.int vo1), .val (.int p5), .val (.int vt1), .val (.ref ad_2), .val (.int vo1), .val (.int vt1), .val (.int (1 : Int32))] [(.ref cs_43)])) st_43 ?_
        obtain ⟨v_44, T_44, h_44, L_44, X_44, e_44, Q_44, st_44⟩ := own_callV X_43 hx hZ (C := "com/example/items_in_arrays/itemsinarrays/xpath/CodepointSet") (y := ⟨"com/example/items_in_arrays/itemsinarrays/xpath/CodepointSet", "single", "()I"⟩) (z := ⟨"com/example/items_in_arrays/itemsinarrays/xpath/CodepointSet", "single", "()I"⟩) hown (hw _ (List.mem_of_getElem? (i := 144) rfl)) (hw _ (List.mem_of_getElem? (i := 145) rfl)) (hw _ (List.mem_of_getElem? (i := 147) rfl)) (hw _ (List.mem_of_getElem? (i := 147) rfl)) (hw _ (List.mem_of_getElem? (i := 146) rfl)) (hw _ (List.mem_of_getElem? (i := 127) rfl)) (hw _ (List.mem_of_getElem? (i := 148) rfl)) (by decide) e_43 (a := cs_43) EE_43 (argsL := []) (rest := []) (rmSg l Z a0 hw cs_43 h_43 n0 (by omega) vo1 ra_43 GG_43 AA_43) (g := (mkF m 226 #[.val (.int p1), .val (.int p2), .val (.int p3), .val (.int p4), .val (.int p5), .val (.int (0 : Int32)), .val (.int (1 : Int32)), .val (.ref fk_1), .val (.int vo0), .val (.int vo1), .val (.int p5), .val (.int vt1), .val (.ref ad_2), .val (.int vo1), .val (.int vt1), .val (.int (1 : Int32))] [(.ref cs_43)])) rfl (by rw [hml]; rfl) (lenOf pd_9 rfl) rfl (hb hby at_226) (W := 0) (by show 2 * 0 + _ ≤ _; exact Nat.le_of_eq rfl) (by decide) (by decide) (by decide) (by decide)
        obtain ⟨rfl, N_44, hh_44⟩ := Q_44
        have N_44' := Fr.app N_43' N_44
        rw [hh_44] at e_44
        refine Go.st (S' := T_44.setTop (mkF m 229 #[.val (.int p1), .val (.int p2), .val (.int p3), .val (.int p4), .val (.int p5), .val (.int (0 : Int32)), .val (.int (1 : Int32)), .val (.ref fk_1), .val (.int vo0), .val (.int vo1), .val (.int p5), .val (.int vt1), .val (.ref ad_2), .val (.int vo1), .val (.int vt1), .val (.int (1 : Int32))] [(.int vo1)])) st_44 ?_
        refine Go.st (S' := T_44.setTop (mkF m 231 #[.val (.int p1), .val (.int p2), .val (.int p3), .val (.int p4), .val (.int p5), .val (.int (0 : Int32)), .val (.int (1 : Int32)), .val (.ref fk_1), .val (.int vo0), .val (.int vo1), .val (.int p5), .val (.int vt1), .val (.ref ad_2), .val (.int vo1), .val (.int vt1), .val (.int (1 : Int32))] [(.int vo1), (.int vo1)])) (fun t hr => XS.iload X_44.here hx rfl (hb hby at_229) rfl hr) ?_
        refine Go.st (S' := T_44.setTop (mkF m 234 #[.val (.int p1), .val (.int p2), .val (.int p3), .val (.int p4), .val (.int p5), .val (.int (0 : Int32)), .val (.int (1 : Int32)), .val (.ref fk_1), .val (.int vo0), .val (.int vo1), .val (.int p5), .val (.int vt1), .val (.ref ad_2), .val (.int vo1), .val (.int vt1), .val (.int (1 : Int32))] [])) (fun t hr => XS.icmpNo X_44.here hx rfl (hb hby at_231) rfl (XT.ii_ne_f rfl) hr) ?_
        refine Go.st (S' := T_44.setTop (mkF m 235 #[.val (.int p1), .val (.int p2), .val (.int p3), .val (.int p4), .val (.int p5), .val (.int (0 : Int32)), .val (.int (1 : Int32)), .val (.ref fk_1), .val (.int vo0), .val (.int vo1), .val (.int p5), .val (.int vt1), .val (.ref ad_2), .val (.int vo1), .val (.int vt1), .val (.int (1 : Int32))] [(.int (1 : Int32))])) (fun t hr => XS.iconst X_44.here hx rfl (hb hby at_234) hr) ?_
        refine Go.st (S' := T_44.setTop (mkF m 239 #[.val (.int p1), .val (.int p2), .val (.int p3), .val (.int p4), .val (.int p5), .val (.int (0 : Int32)), .val (.int (1 : Int32)), .val (.ref fk_1), .val (.int vo0), .val (.int vo1), .val (.int p5), .val (.int vt1), .val (.ref ad_2), .val (.int vo1), .val (.int vt1), .val (.int (1 : Int32))] [(.int (1 : Int32))])) (fun t hr => XS.goto X_44.here hx rfl (pc0 := 235) (pc' := 239) rfl (hb hby at_235) (by decide) (by decide) hr) ?_
        refine Go.st (S' := T_44.setTop (mkF m 241 #[.val (.int p1), .val (.int p2), .val (.int p3), .val (.int p4), .val (.int p5), .val (.int (0 : Int32)), .val (.int (1 : Int32)), .val (.ref fk_1), .val (.int vo0), .val (.int vo1), .val (.int p5), .val (.int vt1), .val (.ref ad_2), .val (.int vo1), .val (.int vt1), .val (.int (1 : Int32))] [])) (fun t hr => XS.istore X_44.here hx rfl (hb hby at_239) rfl (l' := #[.val (.int p1), .val (.int p2), .val (.int p3), .val (.int p4), .val (.int p5), .val (.int (0 : Int32)), .val (.int (1 : Int32)), .val (.ref fk_1), .val (.int vo0), .val (.int vo1), .val (.int p5), .val (.int vt1), .val (.ref ad_2), .val (.int vo1), .val (.int vt1), .val (.int (1 : Int32))]) rfl hr) ?_
        refine Go.st (S' := T_44.setTop (mkF m 243 #[.val (.int p1), .val (.int p2), .val (.int p3), .val (.int p4), .val (.int p5), .val (.int (0 : Int32)), .val (.int (1 : Int32)), .val (.ref fk_1), .val (.int vo0), .val (.int vo1), .val (.int p5), .val (.int vt1), .val (.ref ad_2), .val (.int vo1), .val (.int vt1), .val (.int (1 : Int32))] [(.int (1 : Int32))])) (fun t hr => XS.iload X_44.here hx rfl (hb hby at_241) rfl hr) ?_
        refine Go.retN X_44 hx hlk (t := .boolean) hret (by simp) (hb hby at_243) (by decide) (by decide) ?_
        try rw [e_44]
        exact ⟨rfl, N_44'⟩
    · refine Go.st (S' := T_22.setTop (mkF m 189 #[.val (.int p1), .val (.int p2), .val (.int p3), .val (.int p4), .val (.int p5), .val (.int (0 : Int32)), .val (.int (1 : Int32)), .val (.ref fk_1), .val (.int vo0), .val (.int vo1), .val (.int p5), .val (.int vt1), .val (.ref ad_2), .val (.int vo1), .val (.int vt1), .val (.int (1 : Int32))] [])) (fun t hr => XT.acmpYes X_22.here hx rfl (pc0 := 161) (pc' := 189) rfl (hb hby at_161) rfl rfl rfl (XT.aa_ne_t hc23) (by decide) (by decide) hr) ?_
      refine Go.st (S' := T_22.setTop (mkF m 191 #[.val (.int p1), .val (.int p2), .val (.int p3), .val (.int p4), .val (.int p5), .val (.int (0 : Int32)), .val (.int (1 : Int32)), .val (.ref fk_1), .val (.int vo0), .val (.int vo1), .val (.int p5), .val (.int vt1), .val (.ref ad_2), .val (.int vo1), .val (.int vt1), .val (.int (1 : Int32))] [(.int (1 : Int32))])) (fun t hr => XS.iload X_22.here hx rfl (hb hby at_189) rfl hr) ?_
      refine Go.st (S' := T_22.setTop (mkF m 194 #[.val (.int p1), .val (.int p2), .val (.int p3), .val (.int p4), .val (.int p5), .val (.int (0 : Int32)), .val (.int (1 : Int32)), .val (.ref fk_1), .val (.int vo0), .val (.int vo1), .val (.int p5), .val (.int vt1), .val (.ref ad_2), .val (.int vo1), .val (.int vt1), .val (.int (1 : Int32))] [])) (fun t hr => XS.ifNo X_22.here hx rfl (hb hby at_191) rfl (XT.i0_eq_f (by decide)) hr) ?_
      refine Go.st (S' := T_22.setTop (mkF m 196 #[.val (.int p1), .val (.int p2), .val (.int p3), .val (.int p4), .val (.int p5), .val (.int (0 : Int32)), .val (.int (1 : Int32)), .val (.ref fk_1), .val (.int vo0), .val (.int vo1), .val (.int p5), .val (.int vt1), .val (.ref ad_2), .val (.int vo1), .val (.int vt1), .val (.int (1 : Int32))] [(.ref ad_2)])) (fun t hr => XS.aload X_22.here hx rfl (hb hby at_194) rfl rfl hr) ?_
      refine Go.st (S' := T_22.setTop (mkF m 198 #[.val (.int p1), .val (.int p2), .val (.int p3), .val (.int p4), .val (.int p5), .val (.int (0 : Int32)), .val (.int (1 : Int32)), .val (.ref fk_1), .val (.int vo0), .val (.int vo1), .val (.int p5), .val (.int vt1), .val (.ref ad_2), .val (.int vo1), .val (.int vt1), .val (.int (1 : Int32))] [(.int (1 : Int32)), (.ref ad_2)])) (fun t hr => XS.iload X_22.here hx rfl (hb hby at_196) rfl hr) ?_
      obtain ⟨v_45, T_45, h_45, L_45, X_45, e_45, Q_45, st_45⟩ := own_callV X_22 hx hZ (C := "com/example/items_in_arrays/itemsinarrays/xpath/RegularExpressionProgram$Builder") (y := ⟨"com/example/items_in_arrays/itemsinarrays/xpath/RegularExpressionProgram$Builder", "code", "(I)Lcom/example/items_in_arrays/itemsinarrays/xpath/RegularExpressionProgram$Code;"⟩) (z := ⟨"com/example/items_in_arrays/itemsinarrays/xpath/RegularExpressionProgram$Builder", "code", "(I)Lcom/example/items_in_arrays/itemsinarrays/xpath/RegularExpressionProgram$Code;"⟩) hown (hw _ (List.mem_of_getElem? (i := 109) rfl)) (hw _ (List.mem_of_getElem? (i := 110) rfl)) (hw _ (List.mem_of_getElem? (i := 112) rfl)) (hw _ (List.mem_of_getElem? (i := 112) rfl)) (hw _ (List.mem_of_getElem? (i := 111) rfl)) (hw _ (List.mem_of_getElem? (i := 45) rfl)) (hw _ (List.mem_of_getElem? (i := 113) rfl)) (by decide) e_22 (a := ad_2) F_19 (argsL := [(.int (1 : Int32))]) (rest := []) (rmCode1 l Z a0 hw ad_2 h_14 n0 (by omega) ca_3 oa_3 ta_3 f1 vo1 vt1 [(.ref fk_1), (.ref f1), .null, .null, .null, .null, .null, .null, .null, .null, .null, .null, .null, .null, .null, .null] [(.int p2), (.int vo1), (.int 0), (.int 0), (.int 0), (.int 0), (.int 0), (.int 0), (.int 0), (.int 0), (.int 0), (.int 0), (.int 0), (.int 0), (.int 0), (.int 0)] [(.int p3), (.int vt1), (.int 0), (.int 0), (.int 0), (.int 0), (.int 0), (.int 0), (.int 0), (.int 0), (.int 0), (.int 0), (.int 0), (.int 0), (.int 0), (.int 0)]  FC_14 FO_14 FT_14 AC_14' AO_14' AT_14' rfl rfl rfl rfl) (g := (mkF m 198 #[.val (.int p1), .val (.int p2), .val (.int p3), .val (.int p4), .val (.int p5), .val (.int (0 : Int32)), .val (.int (1 : Int32)), .val (.ref fk_1), .val (.int vo0), .val (.int vo1), .val (.int p5), .val (.int vt1), .val (.ref ad_2), .val (.int vo1), .val (.int vt1), .val (.int (1 : Int32))] [(.int (1 : Int32)), (.ref ad_2)])) rfl (by rw [hml]; rfl) (lenOf pd_4 rfl) rfl (hb hby at_198) (W := 0) (by show 2 * 0 + _ ≤ _; exact Nat.le_of_eq rfl) (by decide) (by decide) (by decide) (by decide)
      obtain ⟨rfl, N_45, hh_45⟩ := Q_45
      have N_45' := Fr.app N_20' N_45
      rw [hh_45] at e_45
      refine Go.st (S' := T_45.setTop (mkF m 201 #[.val (.int p1), .val (.int p2), .val (.int p3), .val (.int p4), .val (.int p5), .val (.int (0 : Int32)), .val (.int (1 : Int32)), .val (.ref fk_1), .val (.int vo0), .val (.int vo1), .val (.int p5), .val (.int vt1), .val (.ref ad_2), .val (.int vo1), .val (.int vt1), .val (.int (1 : Int32))] [(.ref f1)])) st_45 ?_
      obtain ⟨T_46, X_46, e_46, st_46⟩ := getS2 X_45 hx hZ hown (host := "") (Or.inl (hw _ (List.mem_of_getElem? (i := 11) rfl))) Via.refl e_45 (SC1.ext F_21.2) (g := (mkF m 201 #[.val (.int p1), .val (.int p2), .val (.int p3), .val (.int p4), .val (.int p5), .val (.int (0 : Int32)), .val (.int (1 : Int32)), .val (.ref fk_1), .val (.int vo0), .val (.int vo1), .val (.int p5), .val (.int vt1), .val (.ref ad_2), .val (.int vo1), .val (.int vt1), .val (.int (1 : Int32))] [(.ref f1)])) rfl (hb hby at_201)
      refine Go.st (S' := T_46.setTop (mkF m 204 #[.val (.int p1), .val (.int p2), .val (.int p3), .val (.int p4), .val (.int p5), .val (.int (0 : Int32)), .val (.int (1 : Int32)), .val (.ref fk_1), .val (.int vo0), .val (.int vo1), .val (.int p5), .val (.int vt1), .val (.ref ad_2), .val (.int vo1), .val (.int vt1), .val (.int (1 : Int32))] [(.ref f1), (.ref f1)])) st_46 ?_
      refine Go.st (S' := T_46.setTop (mkF m 207 #[.val (.int p1), .val (.int p2), .val (.int p3), .val (.int p4), .val (.int p5), .val (.int (0 : Int32)), .val (.int (1 : Int32)), .val (.ref fk_1), .val (.int vo0), .val (.int vo1), .val (.int p5), .val (.int vt1), .val (.ref ad_2), .val (.int vo1), .val (.int vt1), .val (.int (1 : Int32))] [])) (fun t hr => XT.acmpNo X_46.here hx rfl (hb hby at_204) rfl rfl rfl (XT.aa_ne_f rfl) hr) ?_
      refine Go.st (S' := T_46.setTop (mkF m 209 #[.val (.int p1), .val (.int p2), .val (.int p3), .val (.int p4), .val (.int p5), .val (.int (0 : Int32)), .val (.int (1 : Int32)), .val (.ref fk_1), .val (.int vo0), .val (.int vo1), .val (.int p5), .val (.int vt1), .val (.ref ad_2), .val (.int vo1), .val (.int vt1), .val (.int (1 : Int32))] [(.ref ad_2)])) (fun t hr => XS.aload X_46.here hx rfl (hb hby at_207) rfl rfl hr) ?_
      refine Go.st (S' := T_46.setTop (mkF m 211 #[.val (.int p1), .val (.int p2), .val (.int p3), .val (.int p4), .val (.int p5), .val (.int (0 : Int32)), .val (.int (1 : Int32)), .val (.ref fk_1), .val (.int vo0), .val (.int vo1), .val (.int p5), .val (.int vt1), .val (.ref ad_2), .val (.int vo1), .val (.int vt1), .val (.int (1 : Int32))] [(.int (1 : Int32)), (.ref ad_2)])) (fun t hr => XS.iload X_46.here hx rfl (hb hby at_209) rfl hr) ?_
      obtain ⟨v_47, T_47, h_47, L_47, X_47, e_47, Q_47, st_47⟩ := own_callV X_46 hx hZ (C := "com/example/items_in_arrays/itemsinarrays/xpath/RegularExpressionProgram$Builder") (y := ⟨"com/example/items_in_arrays/itemsinarrays/xpath/RegularExpressionProgram$Builder", "target", "(I)I"⟩) (z := ⟨"com/example/items_in_arrays/itemsinarrays/xpath/RegularExpressionProgram$Builder", "target", "(I)I"⟩) hown (hw _ (List.mem_of_getElem? (i := 114) rfl)) (hw _ (List.mem_of_getElem? (i := 115) rfl)) (hw _ (List.mem_of_getElem? (i := 117) rfl)) (hw _ (List.mem_of_getElem? (i := 117) rfl)) (hw _ (List.mem_of_getElem? (i := 116) rfl)) (hw _ (List.mem_of_getElem? (i := 45) rfl)) (hw _ (List.mem_of_getElem? (i := 118) rfl)) (by decide) e_46 (a := ad_2) F_19 (argsL := [(.int (1 : Int32))]) (rest := []) (rmTgt1 l Z a0 hw ad_2 h_14 n0 (by omega) ca_3 oa_3 ta_3 f1 vo1 vt1 [(.ref fk_1), (.ref f1), .null, .null, .null, .null, .null, .null, .null, .null, .null, .null, .null, .null, .null, .null] [(.int p2), (.int vo1), (.int 0), (.int 0), (.int 0), (.int 0), (.int 0), (.int 0), (.int 0), (.int 0), (.int 0), (.int 0), (.int 0), (.int 0), (.int 0), (.int 0)] [(.int p3), (.int vt1), (.int 0), (.int 0), (.int 0), (.int 0), (.int 0), (.int 0), (.int 0), (.int 0), (.int 0), (.int 0), (.int 0), (.int 0), (.int 0), (.int 0)]  FC_14 FO_14 FT_14 AC_14' AO_14' AT_14' rfl rfl rfl rfl) (g := (mkF m 211 #[.val (.int p1), .val (.int p2), .val (.int p3), .val (.int p4), .val (.int p5), .val (.int (0 : Int32)), .val (.int (1 : Int32)), .val (.ref fk_1), .val (.int vo0), .val (.int vo1), .val (.int p5), .val (.int vt1), .val (.ref ad_2), .val (.int vo1), .val (.int vt1), .val (.int (1 : Int32))] [(.int (1 : Int32)), (.ref ad_2)])) rfl (by rw [hml]; rfl) (lenOf pd_7 rfl) rfl (hb hby at_211) (W := 0) (by show 2 * 0 + _ ≤ _; exact Nat.le_of_eq rfl) (by decide) (by decide) (by decide) (by decide)
      obtain ⟨rfl, N_47, hh_47⟩ := Q_47
      have N_47' := Fr.app N_45' N_47
      rw [hh_47] at e_47
      refine Go.st (S' := T_47.setTop (mkF m 214 #[.val (.int p1), .val (.int p2), .val (.int p3), .val (.int p4), .val (.int p5), .val (.int (0 : Int32)), .val (.int (1 : Int32)), .val (.ref fk_1), .val (.int vo0), .val (.int vo1), .val (.int p5), .val (.int vt1), .val (.ref ad_2), .val (.int vo1), .val (.int vt1), .val (.int (1 : Int32))] [(.int vt1)])) st_47 ?_
      refine Go.st (S' := T_47.setTop (mkF m 216 #[.val (.int p1), .val (.int p2), .val (.int p3), .val (.int p4), .val (.int p5), .val (.int (0 : Int32)), .val (.int (1 : Int32)), .val (.ref fk_1), .val (.int vo0), .val (.int vo1), .val (.int p5), .val (.int vt1), .val (.ref ad_2), .val (.int vo1), .val (.int vt1), .val (.int (1 : Int32))] [(.int vt1), (.int vt1)])) (fun t hr => XS.iload X_47.here hx rfl (hb hby at_214) rfl hr) ?_
      refine Go.st (S' := T_47.setTop (mkF m 219 #[.val (.int p1), .val (.int p2), .val (.int p3), .val (.int p4), .val (.int p5), .val (.int (0 : Int32)), .val (.int (1 : Int32)), .val (.ref fk_1), .val (.int vo0), .val (.int vo1), .val (.int p5), .val (.int vt1), .val (.ref ad_2), .val (.int vo1), .val (.int vt1), .val (.int (1 : Int32))] [])) (fun t hr => XS.icmpNo X_47.here hx rfl (hb hby at_216) rfl (XT.ii_ne_f rfl) hr) ?_
      refine Go.st (S' := T_47.setTop (mkF m 221 #[.val (.int p1), .val (.int p2), .val (.int p3), .val (.int p4), .val (.int p5), .val (.int (0 : Int32)), .val (.int (1 : Int32)), .val (.ref fk_1), .val (.int vo0), .val (.int vo1), .val (.int p5), .val (.int vt1), .val (.ref ad_2), .val (.int vo1), .val (.int vt1), .val (.int (1 : Int32))] [(.ref ad_2)])) (fun t hr => XS.aload X_47.here hx rfl (hb hby at_219) rfl rfl hr) ?_
      refine Go.st (S' := T_47.setTop (mkF m 223 #[.val (.int p1), .val (.int p2), .val (.int p3), .val (.int p4), .val (.int p5), .val (.int (0 : Int32)), .val (.int (1 : Int32)), .val (.ref fk_1), .val (.int vo0), .val (.int vo1), .val (.int p5), .val (.int vt1), .val (.ref ad_2), .val (.int vo1), .val (.int vt1), .val (.int (1 : Int32))] [(.int (1 : Int32)), (.ref ad_2)])) (fun t hr => XS.iload X_47.here hx rfl (hb hby at_221) rfl hr) ?_
      obtain ⟨v_48, T_48, h_48, L_48, X_48, e_48, Q_48, st_48⟩ := own_callV X_47 hx hZ (C := "com/example/items_in_arrays/itemsinarrays/xpath/RegularExpressionProgram$Builder") (y := ⟨"com/example/items_in_arrays/itemsinarrays/xpath/RegularExpressionProgram$Builder", "characters", "(I)Lcom/example/items_in_arrays/itemsinarrays/xpath/CodepointSet;"⟩) (z := ⟨"com/example/items_in_arrays/itemsinarrays/xpath/RegularExpressionProgram$Builder", "characters", "(I)Lcom/example/items_in_arrays/itemsinarrays/xpath/CodepointSet;"⟩) hown (hw _ (List.mem_of_getElem? (i := 119) rfl)) (hw _ (List.mem_of_getElem? (i := 120) rfl)) (hw _ (List.mem_of_getElem? (i := 122) rfl)) (hw _ (List.mem_of_getElem? (i := 122) rfl)) (hw _ (List.mem_of_getElem? (i := 121) rfl)) (hw _ (List.mem_of_getElem? (i := 45) rfl)) (hw _ (List.mem_of_getElem? (i := 123) rfl)) (by decide) e_47 (a := ad_2) F_19 (argsL := [(.int (1 : Int32))]) (rest := []) (rmChr1 l Z a0 hw ad_2 h_14 n0 (by omega) ca_3 oa_3 ta_3 f1 vo1 vt1 [(.ref fk_1), (.ref f1), .null, .null, .null, .null, .null, .null, .null, .null, .null, .null, .null, .null, .null, .null] [(.int p2), (.int vo1), (.int 0), (.int 0), (.int 0), (.int 0), (.int 0), (.int 0), (.int 0), (.int 0), (.int 0), (.int 0), (.int 0), (.int 0), (.int 0), (.int 0)] [(.int p3), (.int vt1), (.int 0), (.int 0), (.int 0), (.int 0), (.int 0), (.int 0), (.int 0), (.int 0), (.int 0), (.int 0), (.int 0), (.int 0), (.int 0), (.int 0)]  FC_14 FO_14 FT_14 AC_14' AO_14' AT_14' rfl rfl rfl F_21 SC1 rfl rfl hvo1p) (g := (mkF m 223 #[.val (.int p1), .val (.int p2), .val (.int p3), .val (.int p4), .val (.int p5), .val (.int (0 : Int32)), .val (.int (1 : Int32)), .val (.ref fk_1), .val (.int vo0), .val (.int vo1), .val (.int p5), .val (.int vt1), .val (.ref ad_2), .val (.int vo1), .val (.int vt1), .val (.int (1 : Int32))] [(.int (1 : Int32)), (.ref ad_2)])) rfl (by rw [hml]; rfl) (lenOf pd_8 rfl) rfl (hb hby at_223) (W := 0) (by show 2 * 0 + _ ≤ _; exact Nat.le_of_eq rfl) (by decide) (by decide) (by decide) (by decide)
      obtain ⟨cs_48, rfl, N_48, K_48, EE_48, ra_48, GG_48, AA_48⟩ := Q_48
      have N_48' := Fr.app N_47' N_48
      have z_48 := K_48.1
      refine Go.st (S' := T_48.setTop (mkF m 226 #[.val (.int p1), .val (.int p2), .val (.int p3), .val (.int p4), .val (.int p5), .val (.int (0 : Int32)), .val (.int (1 : Int32)), .val (.ref fk_1), .val (.int vo0), .val (.int vo1), .val (.int p5), .val (.int vt1), .val (.ref ad_2), .val (.int vo1), .val (.int vt1), .val (.int (1 : Int32))] [(.ref cs_48)])) st_48 ?_
      obtain ⟨v_49, T_49, h_49, L_49, X_49, e_49, Q_49, st_49⟩ := own_callV X_48 hx hZ (C := "com/example/items_in_arrays/itemsinarrays/xpath/CodepointSet") (y := ⟨"com/example/items_in_arrays/itemsinarrays/xpath/CodepointSet", "single", "()I"⟩) (z := ⟨"com/example/items_in_arrays/itemsinarrays/xpath/CodepointSet", "single", "()I"⟩) hown (hw _ (List.mem_of_getElem? (i := 144) rfl)) (hw _ (List.mem_of_getElem? (i := 145) rfl)) (hw _ (List.mem_of_getElem? (i := 147) rfl)) (hw _ (List.mem_of_getElem? (i := 147) rfl)) (hw _ (List.mem_of_getElem? (i := 146) rfl)) (hw _ (List.mem_of_getElem? (i := 127) rfl)) (hw _ (List.mem_of_getElem? (i := 148) rfl)) (by decide) e_48 (a := cs_48) EE_48 (argsL := []) (rest := []) (rmSg l Z a0 hw cs_48 h_48 n0 (by omega) vo1 ra_48 GG_48 AA_48) (g := (mkF m 226 #[.val (.int p1), .val (.int p2), .val (.int p3), .val (.int p4), .val (.int p5), .val (.int (0 : Int32)), .val (.int (1 : Int32)), .val (.ref fk_1), .val (.int vo0), .val (.int vo1), .val (.int p5), .val (.int vt1), .val (.ref ad_2), .val (.int vo1), .val (.int vt1), .val (.int (1 : Int32))] [(.ref cs_48)])) rfl (by rw [hml]; rfl) (lenOf pd_9 rfl) rfl (hb hby at_226) (W := 0) (by show 2 * 0 + _ ≤ _; exact Nat.le_of_eq rfl) (by decide) (by decide) (by decide) (by decide)
      obtain ⟨rfl, N_49, hh_49⟩ := Q_49
      have N_49' := Fr.app N_48' N_49
      rw [hh_49] at e_49
      refine Go.st (S' := T_49.setTop (mkF m 229 #[.val (.int p1), .val (.int p2), .val (.int p3), .val (.int p4), .val (.int p5), .val (.int (0 : Int32)), .val (.int (1 : Int32)), .val (.ref fk_1), .val (.int vo0), .val (.int vo1), .val (.int p5), .val (.int vt1), .val (.ref ad_2), .val (.int vo1), .val (.int vt1), .val (.int (1 : Int32))] [(.int vo1)])) st_49 ?_
      refine Go.st (S' := T_49.setTop (mkF m 231 #[.val (.int p1), .val (.int p2), .val (.int p3), .val (.int p4), .val (.int p5), .val (.int (0 : Int32)), .val (.int (1 : Int32)), .val (.ref fk_1), .val (.int vo0), .val (.int vo1), .val (.int p5), .val (.int vt1), .val (.ref ad_2), .val (.int vo1), .val (.int vt1), .val (.int (1 : Int32))] [(.int vo1), (.int vo1)])) (fun t hr => XS.iload X_49.here hx rfl (hb hby at_229) rfl hr) ?_
      refine Go.st (S' := T_49.setTop (mkF m 234 #[.val (.int p1), .val (.int p2), .val (.int p3), .val (.int p4), .val (.int p5), .val (.int (0 : Int32)), .val (.int (1 : Int32)), .val (.ref fk_1), .val (.int vo0), .val (.int vo1), .val (.int p5), .val (.int vt1), .val (.ref ad_2), .val (.int vo1), .val (.int vt1), .val (.int (1 : Int32))] [])) (fun t hr => XS.icmpNo X_49.here hx rfl (hb hby at_231) rfl (XT.ii_ne_f rfl) hr) ?_
      refine Go.st (S' := T_49.setTop (mkF m 235 #[.val (.int p1), .val (.int p2), .val (.int p3), .val (.int p4), .val (.int p5), .val (.int (0 : Int32)), .val (.int (1 : Int32)), .val (.ref fk_1), .val (.int vo0), .val (.int vo1), .val (.int p5), .val (.int vt1), .val (.ref ad_2), .val (.int vo1), .val (.int vt1), .val (.int (1 : Int32))] [(.int (1 : Int32))])) (fun t hr => XS.iconst X_49.here hx rfl (hb hby at_234) hr) ?_
      refine Go.st (S' := T_49.setTop (mkF m 239 #[.val (.int p1), .val (.int p2), .val (.int p3), .val (.int p4), .val (.int p5), .val (.int (0 : Int32)), .val (.int (1 : Int32)), .val (.ref fk_1), .val (.int vo0), .val (.int vo1), .val (.int p5), .val (.int vt1), .val (.ref ad_2), .val (.int vo1), .val (.int vt1), .val (.int (1 : Int32))] [(.int (1 : Int32))])) (fun t hr => XS.goto X_49.here hx rfl (pc0 := 235) (pc' := 239) rfl (hb hby at_235) (by decide) (by decide) hr) ?_
      refine Go.st (S' := T_49.setTop (mkF m 241 #[.val (.int p1), .val (.int p2), .val (.int p3), .val (.int p4), .val (.int p5), .val (.int (0 : Int32)), .val (.int (1 : Int32)), .val (.ref fk_1), .val (.int vo0), .val (.int vo1), .val (.int p5), .val (.int vt1), .val (.ref ad_2), .val (.int vo1), .val (.int vt1), .val (.int (1 : Int32))] [])) (fun t hr => XS.istore X_49.here hx rfl (hb hby at_239) rfl (l' := #[.val (.int p1), .val (.int p2), .val (.int p3), .val (.int p4), .val (.int p5), .val (.int (0 : Int32)), .val (.int (1 : Int32)), .val (.ref fk_1), .val (.int vo0), .val (.int vo1), .val (.int p5), .val (.int vt1), .val (.ref ad_2), .val (.int vo1), .val (.int vt1), .val (.int (1 : Int32))]) rfl hr) ?_
      refine Go.st (S' := T_49.setTop (mkF m 243 #[.val (.int p1), .val (.int p2), .val (.int p3), .val (.int p4), .val (.int p5), .val (.int (0 : Int32)), .val (.int (1 : Int32)), .val (.ref fk_1), .val (.int vo0), .val (.int vo1), .val (.int p5), .val (.int vt1), .val (.ref ad_2), .val (.int vo1), .val (.int vt1), .val (.int (1 : Int32))] [(.int (1 : Int32))])) (fun t hr => XS.iload X_49.here hx rfl (hb hby at_241) rfl hr) ?_
      refine Go.retN X_49 hx hlk (t := .boolean) hret (by simp) (hb hby at_243) (by decide) (by decide) ?_
      try rw [e_49]
      exact ⟨rfl, N_49'⟩
  · refine Go.st (S' := T0.setTop (mkF m 6 #[.val (.int p1), .val (.int p2), .val (.int p3), .val (.int p4), .val (.int p5), .val (.int (1 : Int32)), .unset, .unset, .unset, .unset, .unset, .unset, .unset, .unset, .unset, .unset] [(.int (1 : Int32))])) (fun t hr => XS.iconst X0.here hx rfl (hb hby at_5) hr) ?_
    refine Go.st (S' := T0.setTop (mkF m 8 #[.val (.int p1), .val (.int p2), .val (.int p3), .val (.int p4), .val (.int p5), .val (.int (1 : Int32)), .unset, .unset, .unset, .unset, .unset, .unset, .unset, .unset, .unset, .unset] [(.int (1 : Int32)), (.int (1 : Int32))])) (fun t hr => XS.iload X0.here hx rfl (hb hby at_6) rfl hr) ?_
    refine Go.st (S' := T0.setTop (mkF m 9 #[.val (.int p1), .val (.int p2), .val (.int p3), .val (.int p4), .val (.int p5), .val (.int (1 : Int32)), .unset, .unset, .unset, .unset, .unset, .unset, .unset, .unset, .unset, .unset] [(.int (0 : Int32))])) (fun t hr => XS.isub X0.here hx rfl (hb hby at_8) rfl hr) ?_
    refine Go.st (S' := T0.setTop (mkF m 11 #[.val (.int p1), .val (.int p2), .val (.int p3), .val (.int p4), .val (.int p5), .val (.int (1 : Int32)), .val (.int (0 : Int32)), .unset, .unset, .unset, .unset, .unset, .unset, .unset, .unset, .unset] [])) (fun t hr => XS.istore X0.here hx rfl (hb hby at_9) rfl (l' := #[.val (.int p1), .val (.int p2), .val (.int p3), .val (.int p4), .val (.int p5), .val (.int (1 : Int32)), .val (.int (0 : Int32)), .unset, .unset, .unset, .unset, .unset, .unset, .unset, .unset, .unset]) rfl hr) ?_
    refine Go.st (S' := T0.setTop (mkF m 12 #[.val (.int p1), .val (.int p2), .val (.int p3), .val (.int p4), .val (.int p5), .val (.int (1 : Int32)), .val (.int (0 : Int32)), .unset, .unset, .unset, .unset, .unset, .unset, .unset, .unset, .unset] [(.int p1)])) (fun t hr => XS.iloadN X0.here hx rfl (hb hby at_11) rfl hr) ?_
    refine Go.st (S' := T0.setTop (mkF m 13 #[.val (.int p1), .val (.int p2), .val (.int p3), .val (.int p4), .val (.int p5), .val (.int (1 : Int32)), .val (.int (0 : Int32)), .unset, .unset, .unset, .unset, .unset, .unset, .unset, .unset, .unset] [(.int (1 : Int32)), (.int p1)])) (fun t hr => XS.iconst X0.here hx rfl (hb hby at_12) hr) ?_
    refine Go.st (S' := T0.setTop (mkF m 14 #[.val (.int p1), .val (.int p2), .val (.int p3), .val (.int p4), .val (.int p5), .val (.int (1 : Int32)), .val (.int (0 : Int32)), .unset, .unset, .unset, .unset, .unset, .unset, .unset, .unset, .unset] [(.int (XT.ushr p1 (1 : Int32)))])) (fun t hr => XT.iushr X0.here hx rfl (hb hby at_13) rfl hr) ?_
    refine Go.st (S' := T0.setTop (mkF m 16 #[.val (.int p1), .val (.int p2), .val (.int p3), .val (.int p4), .val (.int p5), .val (.int (1 : Int32)), .val (.int (0 : Int32)), .unset, .unset, .unset, .unset, .unset, .unset, .unset, .unset, .unset] [(.int (2147483647 : Int32)), (.int (XT.ushr p1 (1 : Int32)))])) (own_ldc X0 hx hZ hown (index := 61) (x := (2147483647 : Int32)) (hw _ (List.mem_of_getElem? (i := 0) rfl)) (g := (mkF m 14 #[.val (.int p1), .val (.int p2), .val (.int p3), .val (.int p4), .val (.int p5), .val (.int (1 : Int32)), .val (.int (0 : Int32)), .unset, .unset, .unset, .unset, .unset, .unset, .unset, .unset, .unset] [(.int (XT.ushr p1 (1 : Int32)))])) rfl (hb hby at_14)) ?_
    refine Go.st (S' := T0.setTop (mkF m 17 #[.val (.int p1), .val (.int p2), .val (.int p3), .val (.int p4), .val (.int p5), .val (.int (1 : Int32)), .val (.int (0 : Int32)), .unset, .unset, .unset, .unset, .unset, .unset, .unset, .unset, .unset] [(.int ((XT.ushr p1 (1 : Int32)) &&& (2147483647 : Int32)))])) (fun t hr => XS.iand X0.here hx rfl (hb hby at_16) rfl hr) ?_
    refine Go.st (S' := T0.setTop (mkF m 19 #[.val (.int p1), .val (.int p2), .val (.int p3), .val (.int p4), .val (.int p5), .val (.int (1 : Int32)), .val (.int (0 : Int32)), .unset, .unset, .unset, .unset, .unset, .unset, .unset, .unset, .unset] [(.int (17 : Int32)), (.int ((XT.ushr p1 (1 : Int32)) &&& (2147483647 : Int32)))])) (fun t hr => XS.bipush X0.here hx rfl (hb hby at_17) hr) ?_
    refine Go.st (S' := T0.setTop (mkF m 20 #[.val (.int p1), .val (.int p2), .val (.int p3), .val (.int p4), .val (.int p5), .val (.int (1 : Int32)), .val (.int (0 : Int32)), .unset, .unset, .unset, .unset, .unset, .unset, .unset, .unset, .unset] [(.int (((XT.ushr p1 (1 : Int32)) &&& (2147483647 : Int32)) % (17 : Int32)))])) (fun t hr => iremM X0 hx rfl (hb hby at_19) rfl (by decide) hr) ?_
    obtain ⟨vk, hvk⟩ : ∃ z : Int32, z = (((XT.ushr p1 (1 : Int32)) &&& (2147483647 : Int32)) % (17 : Int32)) := ⟨_, rfl⟩
    refine Go.cast (g' := (mkF m 20 #[.val (.int p1), .val (.int p2), .val (.int p3), .val (.int p4), .val (.int p5), .val (.int (1 : Int32)), .val (.int (0 : Int32)), .unset, .unset, .unset, .unset, .unset, .unset, .unset, .unset, .unset] [(.int vk)])) (by rw [show (((XT.ushr p1 (1 : Int32)) &&& (2147483647 : Int32)) % (17 : Int32)) = vk from hvk.symm]) ?_
    have hk17 : 0 ≤ vk.toInt ∧ vk.toInt < 17 := by rw [hvk]; exact own_idx17 _
    obtain ⟨v_50, T_50, h_50, L_50, X_50, e_50, Q_50, st_50⟩ := own_callS X0 hx hZ (y := ⟨"com/example/items_in_arrays/itemsinarrays/xpath/BuilderSetPinLaw", "pick", "(I)Lcom/example/items_in_arrays/itemsinarrays/xpath/RegularExpressionProgram$Code;"⟩) hown (hw _ (List.mem_of_getElem? (i := 1) rfl)) (hw _ (List.mem_of_getElem? (i := 2) rfl)) (hw _ (List.mem_of_getElem? (i := 3) rfl)) (hw _ (List.mem_of_getElem? (i := 4) rfl)) (by decide) e0 (argsL := [(.int vk)]) (rest := []) (rmPk l Z a0 hw vk h0 n0 (by omega) f0 f1 f2 f3 f4 f5 f6 f7 f8 f9 f10 f11 f12 f13 f14 f15 f16 O0 SC0 E0 SC1 E1 SC2 E2 SC3 E3 SC4 E4 SC5 E5 SC6 E6 SC7 E7 SC8 E8 SC9 E9 SC10 E10 SC11 E11 SC12 E12 SC13 E13 SC14 E14 SC15 E15 SC16 E16 hk17) (g := (mkF m 20 #[.val (.int p1), .val (.int p2), .val (.int p3), .val (.int p4), .val (.int p5), .val (.int (1 : Int32)), .val (.int (0 : Int32)), .unset, .unset, .unset, .unset, .unset, .unset, .unset, .unset, .unset] [(.int vk)])) rfl (by rw [hml]; rfl) (lenOf pd_4 rfl) rfl (hb hby at_20) (W := 0) (by show 2 * 0 + _ ≤ _; exact Nat.le_of_eq rfl) (by decide) (by decide) (by decide) (by decide)
    obtain ⟨fk_50, rfl, N_50, K_50, EE_50⟩ := Q_50
    have N_50' := Fr.app N0 N_50
    have z_50 := K_50.1
    refine Go.st (S' := T_50.setTop (mkF m 23 #[.val (.int p1), .val (.int p2), .val (.int p3), .val (.int p4), .val (.int p5), .val (.int (1 : Int32)), .val (.int (0 : Int32)), .unset, .unset, .unset, .unset, .unset, .unset, .unset, .unset, .unset] [(.ref fk_50)])) st_50 ?_
    refine Go.st (S' := T_50.setTop (mkF m 25 #[.val (.int p1), .val (.int p2), .val (.int p3), .val (.int p4), .val (.int p5), .val (.int (1 : Int32)), .val (.int (0 : Int32)), .val (.ref fk_50), .unset, .unset, .unset, .unset, .unset, .unset, .unset, .unset] [])) (fun t hr => XS.astore X_50.here hx rfl (hb hby at_23) rfl rfl (l' := #[.val (.int p1), .val (.int p2), .val (.int p3), .val (.int p4), .val (.int p5), .val (.int (1 : Int32)), .val (.int (0 : Int32)), .val (.ref fk_50), .unset, .unset, .unset, .unset, .unset, .unset, .unset, .unset]) rfl hr) ?_
    refine Go.st (S' := T_50.setTop (mkF m 26 #[.val (.int p1), .val (.int p2), .val (.int p3), .val (.int p4), .val (.int p5), .val (.int (1 : Int32)), .val (.int (0 : Int32)), .val (.ref fk_50), .unset, .unset, .unset, .unset, .unset, .unset, .unset, .unset] [(.int p4)])) (fun t hr => XS.iloadN X_50.here hx rfl (hb hby at_25) rfl hr) ?_
    refine Go.st (S' := T_50.setTop (mkF m 28 #[.val (.int p1), .val (.int p2), .val (.int p3), .val (.int p4), .val (.int p5), .val (.int (1 : Int32)), .val (.int (0 : Int32)), .val (.ref fk_50), .unset, .unset, .unset, .unset, .unset, .unset, .unset, .unset] [(.int (2147483647 : Int32)), (.int p4)])) (own_ldc X_50 hx hZ hown (index := 61) (x := (2147483647 : Int32)) (hw _ (List.mem_of_getElem? (i := 0) rfl)) (g := (mkF m 26 #[.val (.int p1), .val (.int p2), .val (.int p3), .val (.int p4), .val (.int p5), .val (.int (1 : Int32)), .val (.int (0 : Int32)), .val (.ref fk_50), .unset, .unset, .unset, .unset, .unset, .unset, .unset, .unset] [(.int p4)])) rfl (hb hby at_26)) ?_
    refine Go.st (S' := T_50.setTop (mkF m 29 #[.val (.int p1), .val (.int p2), .val (.int p3), .val (.int p4), .val (.int p5), .val (.int (1 : Int32)), .val (.int (0 : Int32)), .val (.ref fk_50), .unset, .unset, .unset, .unset, .unset, .unset, .unset, .unset] [(.int (p4 &&& (2147483647 : Int32)))])) (fun t hr => XS.iand X_50.here hx rfl (hb hby at_28) rfl hr) ?_
    obtain ⟨vo0, hvo0⟩ : ∃ z : Int32, z = (p4 &&& (2147483647 : Int32)) := ⟨_, rfl⟩
    refine Go.st (S' := T_50.setTop (mkF m 31 #[.val (.int p1), .val (.int p2), .val (.int p3), .val (.int p4), .val (.int p5), .val (.int (1 : Int32)), .val (.int (0 : Int32)), .val (.ref fk_50), .val (.int vo0), .unset, .unset, .unset, .unset, .unset, .unset, .unset] [])) (fun t hr => by subst hvo0; exact XS.istore X_50.here hx rfl (hb hby at_29) rfl (l' := _) rfl hr) ?_
    refine Go.st (S' := T_50.setTop (mkF m 33 #[.val (.int p1), .val (.int p2), .val (.int p3), .val (.int p4), .val (.int p5), .val (.int (1 : Int32)), .val (.int (0 : Int32)), .val (.ref fk_50), .val (.int vo0), .unset, .unset, .unset, .unset, .unset, .unset, .unset] [(.int vo0)])) (fun t hr => XS.iload X_50.here hx rfl (hb hby at_31) rfl hr) ?_
    refine Go.st (S' := T_50.setTop (mkF m 34 #[.val (.int p1), .val (.int p2), .val (.int p3), .val (.int p4), .val (.int p5), .val (.int (1 : Int32)), .val (.int (0 : Int32)), .val (.ref fk_50), .val (.int vo0), .unset, .unset, .unset, .unset, .unset, .unset, .unset] [(.int (1 : Int32)), (.int vo0)])) (fun t hr => XS.iconst X_50.here hx rfl (hb hby at_33) hr) ?_
    refine Go.st (S' := T_50.setTop (mkF m 35 #[.val (.int p1), .val (.int p2), .val (.int p3), .val (.int p4), .val (.int p5), .val (.int (1 : Int32)), .val (.int (0 : Int32)), .val (.ref fk_50), .val (.int vo0), .unset, .unset, .unset, .unset, .unset, .unset, .unset] [(.int (vo0 ^^^ (1 : Int32)))])) (fun t hr => XT.ixor X_50.here hx rfl (hb hby at_34) rfl hr) ?_
    obtain ⟨vo1, hvo1⟩ : ∃ z : Int32, z = (vo0 ^^^ (1 : Int32)) := ⟨_, rfl⟩
    refine Go.st (S' := T_50.setTop (mkF m 37 #[.val (.int p1), .val (.int p2), .val (.int p3), .val (.int p4), .val (.int p5), .val (.int (1 : Int32)), .val (.int (0 : Int32)), .val (.ref fk_50), .val (.int vo0), .val (.int vo1), .unset, .unset, .unset, .unset, .unset, .unset] [])) (fun t hr => by subst hvo1; exact XS.istore X_50.here hx rfl (hb hby at_35) rfl (l' := _) rfl hr) ?_
    refine Go.st (S' := T_50.setTop (mkF m 39 #[.val (.int p1), .val (.int p2), .val (.int p3), .val (.int p4), .val (.int p5), .val (.int (1 : Int32)), .val (.int (0 : Int32)), .val (.ref fk_50), .val (.int vo0), .val (.int vo1), .unset, .unset, .unset, .unset, .unset, .unset] [(.int p5)])) (fun t hr => XS.iload X_50.here hx rfl (hb hby at_37) rfl hr) ?_
    refine Go.st (S' := T_50.setTop (mkF m 41 #[.val (.int p1), .val (.int p2), .val (.int p3), .val (.int p4), .val (.int p5), .val (.int (1 : Int32)), .val (.int (0 : Int32)), .val (.ref fk_50), .val (.int vo0), .val (.int vo1), .val (.int p5), .unset, .unset, .unset, .unset, .unset] [])) (fun t hr => XS.istore X_50.here hx rfl (hb hby at_39) rfl (l' := #[.val (.int p1), .val (.int p2), .val (.int p3), .val (.int p4), .val (.int p5), .val (.int (1 : Int32)), .val (.int (0 : Int32)), .val (.ref fk_50), .val (.int vo0), .val (.int vo1), .val (.int p5), .unset, .unset, .unset, .unset, .unset]) rfl hr) ?_
    refine Go.st (S' := T_50.setTop (mkF m 43 #[.val (.int p1), .val (.int p2), .val (.int p3), .val (.int p4), .val (.int p5), .val (.int (1 : Int32)), .val (.int (0 : Int32)), .val (.ref fk_50), .val (.int vo0), .val (.int vo1), .val (.int p5), .unset, .unset, .unset, .unset, .unset] [(.int p5)])) (fun t hr => XS.iload X_50.here hx rfl (hb hby at_41) rfl hr) ?_
    refine Go.st (S' := T_50.setTop (mkF m 44 #[.val (.int p1), .val (.int p2), .val (.int p3), .val (.int p4), .val (.int p5), .val (.int (1 : Int32)), .val (.int (0 : Int32)), .val (.ref fk_50), .val (.int vo0), .val (.int vo1), .val (.int p5), .unset, .unset, .unset, .unset, .unset] [(.int (-1 : Int32)), (.int p5)])) (fun t hr => XS.iconst X_50.here hx rfl (hb hby at_43) hr) ?_
    refine Go.st (S' := T_50.setTop (mkF m 45 #[.val (.int p1), .val (.int p2), .val (.int p3), .val (.int p4), .val (.int p5), .val (.int (1 : Int32)), .val (.int (0 : Int32)), .val (.ref fk_50), .val (.int vo0), .val (.int vo1), .val (.int p5), .unset, .unset, .unset, .unset, .unset] [(.int (p5 ^^^ (-1 : Int32)))])) (fun t hr => XT.ixor X_50.here hx rfl (hb hby at_44) rfl hr) ?_
    obtain ⟨vt1, hvt1⟩ : ∃ z : Int32, z = (p5 ^^^ (-1 : Int32)) := ⟨_, rfl⟩
    refine Go.st (S' := T_50.setTop (mkF m 47 #[.val (.int p1), .val (.int p2), .val (.int p3), .val (.int p4), .val (.int p5), .val (.int (1 : Int32)), .val (.int (0 : Int32)), .val (.ref fk_50), .val (.int vo0), .val (.int vo1), .val (.int p5), .val (.int vt1), .unset, .unset, .unset, .unset] [])) (fun t hr => by subst hvt1; exact XS.istore X_50.here hx rfl (hb hby at_45) rfl (l' := _) rfl hr) ?_
    have hvo0p : 0 ≤ vo0.toInt := by rw [hvo0]; have q := c_mask p4 2147483647 31 (by decide) (by decide); omega
    have hvo1p : 0 ≤ vo1.toInt := by rw [hvo1]; exact (c_xorS vo0 1).2.2.2 hvo0p (by decide)
    obtain ⟨T_51, h_51, X_51, e_51, E_51, A_51, D_51, -, st_51⟩ := newO X_50 hx hZ hown (hw _ (List.mem_of_getElem? (i := 43) rfl)) (hw _ (List.mem_of_getElem? (i := 44) rfl)) (hw _ (List.mem_of_getElem? (i := 45) rfl)) e_50 (g := (mkF m 47 #[.val (.int p1), .val (.int p2), .val (.int p3), .val (.int p4), .val (.int p5), .val (.int (1 : Int32)), .val (.int (0 : Int32)), .val (.ref fk_50), .val (.int vo0), .val (.int vo1), .val (.int p5), .val (.int vt1), .unset, .unset, .unset, .unset] [])) rfl (hb hby at_47) (by decide) (by decide)
    obtain ⟨ad_51, g_51⟩ : ∃ z, z = h_50.size := ⟨_, rfl⟩
    rw [← g_51] at A_51 D_51 st_51
    have z_51 := E_51.1
    have y_51 := own_ltE A_51
    have F_51_codes : Fld Z h_51 ad_51 "com/example/items_in_arrays/itemsinarrays/xpath/RegularExpressionProgram$Builder" "codes" "[Lcom/example/items_in_arrays/itemsinarrays/xpath/RegularExpressionProgram$Code;" .null := D_51 (Or.inl (hw _ (List.mem_of_getElem? (i := 54) rfl))) (ty := (.array (.object "com/example/items_in_arrays/itemsinarrays/xpath/RegularExpressionProgram$Code"))) (by decide)
    have F_51_operands : Fld Z h_51 ad_51 "com/example/items_in_arrays/itemsinarrays/xpath/RegularExpressionProgram$Builder" "operands" "[I" .null := D_51 (Or.inl (hw _ (List.mem_of_getElem? (i := 57) rfl))) (ty := (.array .int)) (by decide)
    have F_51_targets : Fld Z h_51 ad_51 "com/example/items_in_arrays/itemsinarrays/xpath/RegularExpressionProgram$Builder" "targets" "[I" .null := D_51 (Or.inl (hw _ (List.mem_of_getElem? (i := 59) rfl))) (ty := (.array .int)) (by decide)
    have F_51_sets : Fld Z h_51 ad_51 "com/example/items_in_arrays/itemsinarrays/xpath/RegularExpressionProgram$Builder" "sets" "Ljava/util/List;" .null := D_51 (Or.inr (hw _ (List.mem_of_getElem? (i := 85) rfl))) (ty := (.object "java/util/List")) (by decide)
    have F_51_least : Fld Z h_51 ad_51 "com/example/items_in_arrays/itemsinarrays/xpath/RegularExpressionProgram$Builder" "least" "[I" .null := D_51 (Or.inl (hw _ (List.mem_of_getElem? (i := 87) rfl))) (ty := (.array .int)) (by decide)
    have F_51_most : Fld Z h_51 ad_51 "com/example/items_in_arrays/itemsinarrays/xpath/RegularExpressionProgram$Builder" "most" "[I" .null := D_51 (Or.inl (hw _ (List.mem_of_getElem? (i := 89) rfl))) (ty := (.array .int)) (by decide)
    have F_51_greedy : Fld Z h_51 ad_51 "com/example/items_in_arrays/itemsinarrays/xpath/RegularExpressionProgram$Builder" "greedy" "[Z" .null := D_51 (Or.inl (hw _ (List.mem_of_getElem? (i := 92) rfl))) (ty := (.array .boolean)) (by decide)
    have F_51_checksEmpty : Fld Z h_51 ad_51 "com/example/items_in_arrays/itemsinarrays/xpath/RegularExpressionProgram$Builder" "checksEmpty" "[Z" .null := D_51 (Or.inl (hw _ (List.mem_of_getElem? (i := 94) rfl))) (ty := (.array .boolean)) (by decide)
    have F_51_required : Fld Z h_51 ad_51 "com/example/items_in_arrays/itemsinarrays/xpath/RegularExpressionProgram$Builder" "required" "I" (.int (0 : Int32)) := D_51 (Or.inl (hw _ (List.mem_of_getElem? (i := 96) rfl))) (ty := .int) (by decide)
    have F_51_size : Fld Z h_51 ad_51 "com/example/items_in_arrays/itemsinarrays/xpath/RegularExpressionProgram$Builder" "size" "I" (.int (0 : Int32)) := D_51 (Or.inl (hw _ (List.mem_of_getElem? (i := 103) rfl))) (ty := .int) (by decide)
    refine Go.st (S' := T_51.setTop (mkF m 50 #[.val (.int p1), .val (.int p2), .val (.int p3), .val (.int p4), .val (.int p5), .val (.int (1 : Int32)), .val (.int (0 : Int32)), .val (.ref fk_50), .val (.int vo0), .val (.int vo1), .val (.int p5), .val (.int vt1), .unset, .unset, .unset, .unset] [(.ref ad_51)])) st_51 ?_
    refine Go.st (S' := T_51.setTop (mkF m 51 #[.val (.int p1), .val (.int p2), .val (.int p3), .val (.int p4), .val (.int p5), .val (.int (1 : Int32)), .val (.int (0 : Int32)), .val (.ref fk_50), .val (.int vo0), .val (.int vo1), .val (.int p5), .val (.int vt1), .unset, .unset, .unset, .unset] [(.ref ad_51), (.ref ad_51)])) (fun t hr => XS.dup X_51.here hx rfl (hb hby at_50) rfl rfl hr) ?_
    have F_53 := ((O0.keep K_50 all0).ext E_51)
    obtain ⟨v_52, T_52, h_52, L_52, X_52, e_52, Q_52, st_52⟩ := own_callN X_51 hx hZ (y := ⟨"com/example/items_in_arrays/itemsinarrays/xpath/RegularExpressionProgram$Builder", "<init>", "()V"⟩) rfl hown (hw _ (List.mem_of_getElem? (i := 46) rfl)) (hw _ (List.mem_of_getElem? (i := 47) rfl)) (hw _ (List.mem_of_getElem? (i := 45) rfl)) (hw _ (List.mem_of_getElem? (i := 48) rfl)) (by decide) e_51 (a := ad_51) (argsL := []) (rest := [(.ref ad_51)]) (rmBI l Z a0 hw ad_51 h_51 n0 (by omega) A_51 (by omega) F_51_codes F_51_operands F_51_targets F_51_sets F_51_least F_51_most F_51_greedy F_51_checksEmpty F_51_required F_51_size vd rd F_53 S0) (g := (mkF m 51 #[.val (.int p1), .val (.int p2), .val (.int p3), .val (.int p4), .val (.int p5), .val (.int (1 : Int32)), .val (.int (0 : Int32)), .val (.ref fk_50), .val (.int vo0), .val (.int vo1), .val (.int p5), .val (.int vt1), .unset, .unset, .unset, .unset] [(.ref ad_51), (.ref ad_51)])) rfl (by rw [hml]; rfl) (lenOf pd_0 rfl) rfl (hb hby at_51) (W := 1) (by show 2 * 0 + _ ≤ _; exact Nat.le_of_eq rfl) (by decide) (by decide) (by decide) (by decide)
    obtain ⟨rfl, N_52, K_52, ca_52, oa_52, ta_52, gc_52, go_52, gt_52, OV_52, FC_52, FO_52, FT_52, FS_52, AC_52, AO_52, AT_52⟩ := Q_52
    have N_52' := Fr.app N_50' N_52
    have z_52 := K_52.1
    have yc_52 := own_ltA AC_52
    have yo_52 := own_ltA AO_52
    have yt_52 := own_ltA AT_52
    have AC_52' : Ary Z h_52 ca_52 (.object "com/example/items_in_arrays/itemsinarrays/xpath/RegularExpressionProgram$Code") [.null, .null, .null, .null, .null, .null, .null, .null, .null, .null, .null, .null, .null, .null, .null, .null] := AC_52
    have AO_52' : Ary Z h_52 oa_52 .int [(.int 0), (.int 0), (.int 0), (.int 0), (.int 0), (.int 0), (.int 0), (.int 0), (.int 0), (.int 0), (.int 0), (.int 0), (.int 0), (.int 0), (.int 0), (.int 0)] := AO_52
    have AT_52' : Ary Z h_52 ta_52 .int [(.int 0), (.int 0), (.int 0), (.int 0), (.int 0), (.int 0), (.int 0), (.int 0), (.int 0), (.int 0), (.int 0), (.int 0), (.int 0), (.int 0), (.int 0), (.int 0)] := AT_52
    refine Go.st (S' := T_52.setTop (mkF m 54 #[.val (.int p1), .val (.int p2), .val (.int p3), .val (.int p4), .val (.int p5), .val (.int (1 : Int32)), .val (.int (0 : Int32)), .val (.ref fk_50), .val (.int vo0), .val (.int vo1), .val (.int p5), .val (.int vt1), .unset, .unset, .unset, .unset] [(.ref ad_51)])) st_52 ?_
    refine Go.st (S' := T_52.setTop (mkF m 56 #[.val (.int p1), .val (.int p2), .val (.int p3), .val (.int p4), .val (.int p5), .val (.int (1 : Int32)), .val (.int (0 : Int32)), .val (.ref fk_50), .val (.int vo0), .val (.int vo1), .val (.int p5), .val (.int vt1), .val (.ref ad_51), .unset, .unset, .unset] [])) (fun t hr => XS.astore X_52.here hx rfl (hb hby at_54) rfl rfl (l' := #[.val (.int p1), .val (.int p2), .val (.int p3), .val (.int p4), .val (.int p5), .val (.int (1 : Int32)), .val (.int (0 : Int32)), .val (.ref fk_50), .val (.int vo0), .val (.int vo1), .val (.int p5), .val (.int vt1), .val (.ref ad_51), .unset, .unset, .unset]) rfl hr) ?_
    refine Go.st (S' := T_52.setTop (mkF m 58 #[.val (.int p1), .val (.int p2), .val (.int p3), .val (.int p4), .val (.int p5), .val (.int (1 : Int32)), .val (.int (0 : Int32)), .val (.ref fk_50), .val (.int vo0), .val (.int vo1), .val (.int p5), .val (.int vt1), .val (.ref ad_51), .unset, .unset, .unset] [(.ref ad_51)])) (fun t hr => XS.aload X_52.here hx rfl (hb hby at_56) rfl rfl hr) ?_
    have F_54 := (F_53.keep K_52 (by intro x hxx; simp only [List.mem_cons, List.not_mem_nil, or_false] at hxx; rcases hxx with rfl <;> omega))
    obtain ⟨T_55, X_55, e_55, st_55⟩ := getS2 X_52 hx hZ hown (host := "") (Or.inl (hw _ (List.mem_of_getElem? (i := 11) rfl))) Via.refl e_52 (SC1.ext F_54.2) (g := (mkF m 58 #[.val (.int p1), .val (.int p2), .val (.int p3), .val (.int p4), .val (.int p5), .val (.int (1 : Int32)), .val (.int (0 : Int32)), .val (.ref fk_50), .val (.int vo0), .val (.int vo1), .val (.int p5), .val (.int vt1), .val (.ref ad_51), .unset, .unset, .unset] [(.ref ad_51)])) rfl (hb hby at_58)
    refine Go.st (S' := T_55.setTop (mkF m 61 #[.val (.int p1), .val (.int p2), .val (.int p3), .val (.int p4), .val (.int p5), .val (.int (1 : Int32)), .val (.int (0 : Int32)), .val (.ref fk_50), .val (.int vo0), .val (.int vo1), .val (.int p5), .val (.int vt1), .val (.ref ad_51), .unset, .unset, .unset] [(.ref f1), (.ref ad_51)])) st_55 ?_
    refine Go.st (S' := T_55.setTop (mkF m 63 #[.val (.int p1), .val (.int p2), .val (.int p3), .val (.int p4), .val (.int p5), .val (.int (1 : Int32)), .val (.int (0 : Int32)), .val (.ref fk_50), .val (.int vo0), .val (.int vo1), .val (.int p5), .val (.int vt1), .val (.ref ad_51), .unset, .unset, .unset] [(.int vo0), (.ref f1), (.ref ad_51)])) (fun t hr => XS.iload X_55.here hx rfl (hb hby at_61) rfl hr) ?_
    refine Go.st (S' := T_55.setTop (mkF m 65 #[.val (.int p1), .val (.int p2), .val (.int p3), .val (.int p4), .val (.int p5), .val (.int (1 : Int32)), .val (.int (0 : Int32)), .val (.ref fk_50), .val (.int vo0), .val (.int vo1), .val (.int p5), .val (.int vt1), .val (.ref ad_51), .unset, .unset, .unset] [(.int p5), (.int vo0), (.ref f1), (.ref ad_51)])) (fun t hr => XS.iload X_55.here hx rfl (hb hby at_63) rfl hr) ?_
    have F_57 := (A_51.keep K_52)
    obtain ⟨v_56, T_56, h_56, L_56, X_56, e_56, Q_56, st_56⟩ := own_callV X_55 hx hZ (C := "com/example/items_in_arrays/itemsinarrays/xpath/RegularExpressionProgram$Builder") (y := ⟨"com/example/items_in_arrays/itemsinarrays/xpath/RegularExpressionProgram$Builder", "add", "(Lcom/example/items_in_arrays/itemsinarrays/xpath/RegularExpressionProgram$Code;II)I"⟩) (z := ⟨"com/example/items_in_arrays/itemsinarrays/xpath/RegularExpressionProgram$Builder", "add", "(Lcom/example/items_in_arrays/itemsinarrays/xpath/RegularExpressionProgram$Code;II)I"⟩) hown (hw _ (List.mem_of_getElem? (i := 97) rfl)) (hw _ (List.mem_of_getElem? (i := 98) rfl)) (hw _ (List.mem_of_getElem? (i := 100) rfl)) (hw _ (List.mem_of_getElem? (i := 100) rfl)) (hw _ (List.mem_of_getElem? (i := 99) rfl)) (hw _ (List.mem_of_getElem? (i := 45) rfl)) (hw _ (List.mem_of_getElem? (i := 101) rfl)) (by decide) e_55 (a := ad_51) F_57 (argsL := [(.ref f1), (.int vo0), (.int p5)]) (rest := []) (rmAdd0 l Z a0 hw ad_51 f1 vo0 p5 h_52 n0 (by omega) ca_52 oa_52 ta_52 [.null, .null, .null, .null, .null, .null, .null, .null, .null, .null, .null, .null, .null, .null, .null, .null] [(.int 0), (.int 0), (.int 0), (.int 0), (.int 0), (.int 0), (.int 0), (.int 0), (.int 0), (.int 0), (.int 0), (.int 0), (.int 0), (.int 0), (.int 0), (.int 0)] [(.int 0), (.int 0), (.int 0), (.int 0), (.int 0), (.int 0), (.int 0), (.int 0), (.int 0), (.int 0), (.int 0), (.int 0), (.int 0), (.int 0), (.int 0), (.int 0)] F_57 (by omega) (by omega) (by omega) (by omega) F_54 E1 OV_52 FC_52 FO_52 FT_52 AC_52' AO_52' AT_52' rfl rfl rfl FS_52) (g := (mkF m 65 #[.val (.int p1), .val (.int p2), .val (.int p3), .val (.int p4), .val (.int p5), .val (.int (1 : Int32)), .val (.int (0 : Int32)), .val (.ref fk_50), .val (.int vo0), .val (.int vo1), .val (.int p5), .val (.int vt1), .val (.ref ad_51), .unset, .unset, .unset] [(.int p5), (.int vo0), (.ref f1), (.ref ad_51)])) rfl (by rw [hml]; rfl) (lenOf pd_5 rfl) rfl (hb hby at_65) (W := 0) (by show 2 * 0 + _ ≤ _; exact Nat.le_of_eq rfl) (by decide) (by decide) (by decide) (by decide)
    obtain ⟨rfl, N_56, K_56, FC_56, FO_56, FT_56, FS_56, AC_56, AO_56, AT_56⟩ := Q_56
    have N_56' := Fr.app N_52' N_56
    have z_56 := K_56.1
    have AC_56' : Ary Z h_56 ca_52 (.object "com/example/items_in_arrays/itemsinarrays/xpath/RegularExpressionProgram$Code") [(.ref f1), .null, .null, .null, .null, .null, .null, .null, .null, .null, .null, .null, .null, .null, .null, .null] := AC_56
    have AO_56' : Ary Z h_56 oa_52 .int [(.int vo0), (.int 0), (.int 0), (.int 0), (.int 0), (.int 0), (.int 0), (.int 0), (.int 0), (.int 0), (.int 0), (.int 0), (.int 0), (.int 0), (.int 0), (.int 0)] := AO_56
    have AT_56' : Ary Z h_56 ta_52 .int [(.int p5), (.int 0), (.int 0), (.int 0), (.int 0), (.int 0), (.int 0), (.int 0), (.int 0), (.int 0), (.int 0), (.int 0), (.int 0), (.int 0), (.int 0), (.int 0)] := AT_56
    refine Go.st (S' := T_56.setTop (mkF m 68 #[.val (.int p1), .val (.int p2), .val (.int p3), .val (.int p4), .val (.int p5), .val (.int (1 : Int32)), .val (.int (0 : Int32)), .val (.ref fk_50), .val (.int vo0), .val (.int vo1), .val (.int p5), .val (.int vt1), .val (.ref ad_51), .unset, .unset, .unset] [(.int (0 : Int32))])) st_56 ?_
    refine Go.st (S' := T_56.setTop (mkF m 69 #[.val (.int p1), .val (.int p2), .val (.int p3), .val (.int p4), .val (.int p5), .val (.int (1 : Int32)), .val (.int (0 : Int32)), .val (.ref fk_50), .val (.int vo0), .val (.int vo1), .val (.int p5), .val (.int vt1), .val (.ref ad_51), .unset, .unset, .unset] [])) (fun t hr => XT.pop X_56.here hx rfl (hb hby at_68) rfl rfl hr) ?_
    refine Go.st (S' := T_56.setTop (mkF m 71 #[.val (.int p1), .val (.int p2), .val (.int p3), .val (.int p4), .val (.int p5), .val (.int (1 : Int32)), .val (.int (0 : Int32)), .val (.ref fk_50), .val (.int vo0), .val (.int vo1), .val (.int p5), .val (.int vt1), .val (.ref ad_51), .unset, .unset, .unset] [(.ref ad_51)])) (fun t hr => XS.aload X_56.here hx rfl (hb hby at_69) rfl rfl hr) ?_
    have F_58 := (F_54.keep K_56 (by intro x hxx; simp only [List.mem_cons, List.not_mem_nil, or_false] at hxx; rcases hxx with rfl | rfl | rfl | rfl <;> omega))
    obtain ⟨T_59, X_59, e_59, st_59⟩ := getS2 X_56 hx hZ hown (host := "") (Or.inl (hw _ (List.mem_of_getElem? (i := 11) rfl))) Via.refl e_56 (SC1.ext F_58.2) (g := (mkF m 71 #[.val (.int p1), .val (.int p2), .val (.int p3), .val (.int p4), .val (.int p5), .val (.int (1 : Int32)), .val (.int (0 : Int32)), .val (.ref fk_50), .val (.int vo0), .val (.int vo1), .val (.int p5), .val (.int vt1), .val (.ref ad_51), .unset, .unset, .unset] [(.ref ad_51)])) rfl (hb hby at_71)
    refine Go.st (S' := T_59.setTop (mkF m 74 #[.val (.int p1), .val (.int p2), .val (.int p3), .val (.int p4), .val (.int p5), .val (.int (1 : Int32)), .val (.int (0 : Int32)), .val (.ref fk_50), .val (.int vo0), .val (.int vo1), .val (.int p5), .val (.int vt1), .val (.ref ad_51), .unset, .unset, .unset] [(.ref f1), (.ref ad_51)])) st_59 ?_
    refine Go.st (S' := T_59.setTop (mkF m 76 #[.val (.int p1), .val (.int p2), .val (.int p3), .val (.int p4), .val (.int p5), .val (.int (1 : Int32)), .val (.int (0 : Int32)), .val (.ref fk_50), .val (.int vo0), .val (.int vo1), .val (.int p5), .val (.int vt1), .val (.ref ad_51), .unset, .unset, .unset] [(.int vo1), (.ref f1), (.ref ad_51)])) (fun t hr => XS.iload X_59.here hx rfl (hb hby at_74) rfl hr) ?_
    refine Go.st (S' := T_59.setTop (mkF m 78 #[.val (.int p1), .val (.int p2), .val (.int p3), .val (.int p4), .val (.int p5), .val (.int (1 : Int32)), .val (.int (0 : Int32)), .val (.ref fk_50), .val (.int vo0), .val (.int vo1), .val (.int p5), .val (.int vt1), .val (.ref ad_51), .unset, .unset, .unset] [(.int vt1), (.int vo1), (.ref f1), (.ref ad_51)])) (fun t hr => XS.iload X_59.here hx rfl (hb hby at_76) rfl hr) ?_
    have F_61 := (F_57.keep K_56)
    have F_62 := (OV_52.keep K_56)
    obtain ⟨v_60, T_60, h_60, L_60, X_60, e_60, Q_60, st_60⟩ := own_callV X_59 hx hZ (C := "com/example/items_in_arrays/itemsinarrays/xpath/RegularExpressionProgram$Builder") (y := ⟨"com/example/items_in_arrays/itemsinarrays/xpath/RegularExpressionProgram$Builder", "add", "(Lcom/example/items_in_arrays/itemsinarrays/xpath/RegularExpressionProgram$Code;II)I"⟩) (z := ⟨"com/example/items_in_arrays/itemsinarrays/xpath/RegularExpressionProgram$Builder", "add", "(Lcom/example/items_in_arrays/itemsinarrays/xpath/RegularExpressionProgram$Code;II)I"⟩) hown (hw _ (List.mem_of_getElem? (i := 97) rfl)) (hw _ (List.mem_of_getElem? (i := 98) rfl)) (hw _ (List.mem_of_getElem? (i := 100) rfl)) (hw _ (List.mem_of_getElem? (i := 100) rfl)) (hw _ (List.mem_of_getElem? (i := 99) rfl)) (hw _ (List.mem_of_getElem? (i := 45) rfl)) (hw _ (List.mem_of_getElem? (i := 101) rfl)) (by decide) e_59 (a := ad_51) F_61 (argsL := [(.ref f1), (.int vo1), (.int vt1)]) (rest := []) (rmAdd1 l Z a0 hw ad_51 f1 vo1 vt1 h_56 n0 (by omega) ca_52 oa_52 ta_52 [(.ref f1), .null, .null, .null, .null, .null, .null, .null, .null, .null, .null, .null, .null, .null, .null, .null] [(.int vo0), (.int 0), (.int 0), (.int 0), (.int 0), (.int 0), (.int 0), (.int 0), (.int 0), (.int 0), (.int 0), (.int 0), (.int 0), (.int 0), (.int 0), (.int 0)] [(.int p5), (.int 0), (.int 0), (.int 0), (.int 0), (.int 0), (.int 0), (.int 0), (.int 0), (.int 0), (.int 0), (.int 0), (.int 0), (.int 0), (.int 0), (.int 0)] F_61 (by omega) (by omega) (by omega) (by omega) F_58 E1 F_62 FC_56 FO_56 FT_56 AC_56' AO_56' AT_56' rfl rfl rfl FS_56) (g := (mkF m 78 #[.val (.int p1), .val (.int p2), .val (.int p3), .val (.int p4), .val (.int p5), .val (.int (1 : Int32)), .val (.int (0 : Int32)), .val (.ref fk_50), .val (.int vo0), .val (.int vo1), .val (.int p5), .val (.int vt1), .val (.ref ad_51), .unset, .unset, .unset] [(.int vt1), (.int vo1), (.ref f1), (.ref ad_51)])) rfl (by rw [hml]; rfl) (lenOf pd_5 rfl) rfl (hb hby at_78) (W := 0) (by show 2 * 0 + _ ≤ _; exact Nat.le_of_eq rfl) (by decide) (by decide) (by decide) (by decide)
    obtain ⟨rfl, N_60, K_60, FC_60, FO_60, FT_60, FS_60, AC_60, AO_60, AT_60⟩ := Q_60
    have N_60' := Fr.app N_56' N_60
    have z_60 := K_60.1
    have AC_60' : Ary Z h_60 ca_52 (.object "com/example/items_in_arrays/itemsinarrays/xpath/RegularExpressionProgram$Code") [(.ref f1), (.ref f1), .null, .null, .null, .null, .null, .null, .null, .null, .null, .null, .null, .null, .null, .null] := AC_60
    have AO_60' : Ary Z h_60 oa_52 .int [(.int vo0), (.int vo1), (.int 0), (.int 0), (.int 0), (.int 0), (.int 0), (.int 0), (.int 0), (.int 0), (.int 0), (.int 0), (.int 0), (.int 0), (.int 0), (.int 0)] := AO_60
    have AT_60' : Ary Z h_60 ta_52 .int [(.int p5), (.int vt1), (.int 0), (.int 0), (.int 0), (.int 0), (.int 0), (.int 0), (.int 0), (.int 0), (.int 0), (.int 0), (.int 0), (.int 0), (.int 0), (.int 0)] := AT_60
    refine Go.st (S' := T_60.setTop (mkF m 81 #[.val (.int p1), .val (.int p2), .val (.int p3), .val (.int p4), .val (.int p5), .val (.int (1 : Int32)), .val (.int (0 : Int32)), .val (.ref fk_50), .val (.int vo0), .val (.int vo1), .val (.int p5), .val (.int vt1), .val (.ref ad_51), .unset, .unset, .unset] [(.int (1 : Int32))])) st_60 ?_
    refine Go.st (S' := T_60.setTop (mkF m 82 #[.val (.int p1), .val (.int p2), .val (.int p3), .val (.int p4), .val (.int p5), .val (.int (1 : Int32)), .val (.int (0 : Int32)), .val (.ref fk_50), .val (.int vo0), .val (.int vo1), .val (.int p5), .val (.int vt1), .val (.ref ad_51), .unset, .unset, .unset] [])) (fun t hr => XT.pop X_60.here hx rfl (hb hby at_81) rfl rfl hr) ?_
    refine Go.st (S' := T_60.setTop (mkF m 84 #[.val (.int p1), .val (.int p2), .val (.int p3), .val (.int p4), .val (.int p5), .val (.int (1 : Int32)), .val (.int (0 : Int32)), .val (.ref fk_50), .val (.int vo0), .val (.int vo1), .val (.int p5), .val (.int vt1), .val (.ref ad_51), .unset, .unset, .unset] [(.ref ad_51)])) (fun t hr => XS.aload X_60.here hx rfl (hb hby at_82) rfl rfl hr) ?_
    refine Go.st (S' := T_60.setTop (mkF m 86 #[.val (.int p1), .val (.int p2), .val (.int p3), .val (.int p4), .val (.int p5), .val (.int (1 : Int32)), .val (.int (0 : Int32)), .val (.ref fk_50), .val (.int vo0), .val (.int vo1), .val (.int p5), .val (.int vt1), .val (.ref ad_51), .unset, .unset, .unset] [(.int (1 : Int32)), (.ref ad_51)])) (fun t hr => XS.iload X_60.here hx rfl (hb hby at_84) rfl hr) ?_
    refine Go.st (S' := T_60.setTop (mkF m 88 #[.val (.int p1), .val (.int p2), .val (.int p3), .val (.int p4), .val (.int p5), .val (.int (1 : Int32)), .val (.int (0 : Int32)), .val (.ref fk_50), .val (.int vo0), .val (.int vo1), .val (.int p5), .val (.int vt1), .val (.ref ad_51), .unset, .unset, .unset] [(.ref fk_50), (.int (1 : Int32)), (.ref ad_51)])) (fun t hr => XS.aload X_60.here hx rfl (hb hby at_86) rfl rfl hr) ?_
    refine Go.st (S' := T_60.setTop (mkF m 89 #[.val (.int p1), .val (.int p2), .val (.int p3), .val (.int p4), .val (.int p5), .val (.int (1 : Int32)), .val (.int (0 : Int32)), .val (.ref fk_50), .val (.int vo0), .val (.int vo1), .val (.int p5), .val (.int vt1), .val (.ref ad_51), .unset, .unset, .unset] [(.int p2), (.ref fk_50), (.int (1 : Int32)), (.ref ad_51)])) (fun t hr => XS.iloadN X_60.here hx rfl (hb hby at_88) rfl hr) ?_
    refine Go.st (S' := T_60.setTop (mkF m 90 #[.val (.int p1), .val (.int p2), .val (.int p3), .val (.int p4), .val (.int p5), .val (.int (1 : Int32)), .val (.int (0 : Int32)), .val (.ref fk_50), .val (.int vo0), .val (.int vo1), .val (.int p5), .val (.int vt1), .val (.ref ad_51), .unset, .unset, .unset] [(.int p3), (.int p2), (.ref fk_50), (.int (1 : Int32)), (.ref ad_51)])) (fun t hr => XS.iloadN X_60.here hx rfl (hb hby at_89) rfl hr) ?_
    have F_64 := (F_61.keep K_60)
    have F_65 := (F_58.keep K_60 (by intro x hxx; simp only [List.mem_cons, List.not_mem_nil, or_false] at hxx; rcases hxx with rfl | rfl | rfl | rfl <;> omega))
    have F_66 := (F_62.keep K_60)
    obtain ⟨v_63, T_63, h_63, L_63, X_63, e_63, Q_63, st_63⟩ := own_callV X_60 hx hZ (C := "com/example/items_in_arrays/itemsinarrays/xpath/RegularExpressionProgram$Builder") (y := ⟨"com/example/items_in_arrays/itemsinarrays/xpath/RegularExpressionProgram$Builder", "set", "(ILcom/example/items_in_arrays/itemsinarrays/xpath/RegularExpressionProgram$Code;II)V"⟩) (z := ⟨"com/example/items_in_arrays/itemsinarrays/xpath/RegularExpressionProgram$Builder", "set", "(ILcom/example/items_in_arrays/itemsinarrays/xpath/RegularExpressionProgram$Code;II)V"⟩) hown (hw _ (List.mem_of_getElem? (i := 104) rfl)) (hw _ (List.mem_of_getElem? (i := 105) rfl)) (hw _ (List.mem_of_getElem? (i := 107) rfl)) (hw _ (List.mem_of_getElem? (i := 107) rfl)) (hw _ (List.mem_of_getElem? (i := 106) rfl)) (hw _ (List.mem_of_getElem? (i := 45) rfl)) (hw _ (List.mem_of_getElem? (i := 108) rfl)) (by decide) e_60 (a := ad_51) F_64 (argsL := [(.int (1 : Int32)), (.ref fk_50), (.int p2), (.int p3)]) (rest := []) (rmSet1 l Z a0 hw ad_51 fk_50 p2 p3 h_60 n0 (by omega) ca_52 oa_52 ta_52 [(.ref f1), (.ref f1), .null, .null, .null, .null, .null, .null, .null, .null, .null, .null, .null, .null, .null, .null] [(.int vo0), (.int vo1), (.int 0), (.int 0), (.int 0), (.int 0), (.int 0), (.int 0), (.int 0), (.int 0), (.int 0), (.int 0), (.int 0), (.int 0), (.int 0), (.int 0)] [(.int p5), (.int vt1), (.int 0), (.int 0), (.int 0), (.int 0), (.int 0), (.int 0), (.int 0), (.int 0), (.int 0), (.int 0), (.int 0), (.int 0), (.int 0), (.int 0)] F_64 (by omega) (by omega) (by omega) (by omega) F_65 EE_50 F_66 FC_60 FO_60 FT_60 AC_60' AO_60' AT_60' rfl rfl rfl) (g := (mkF m 90 #[.val (.int p1), .val (.int p2), .val (.int p3), .val (.int p4), .val (.int p5), .val (.int (1 : Int32)), .val (.int (0 : Int32)), .val (.ref fk_50), .val (.int vo0), .val (.int vo1), .val (.int p5), .val (.int vt1), .val (.ref ad_51), .unset, .unset, .unset] [(.int p3), (.int p2), (.ref fk_50), (.int (1 : Int32)), (.ref ad_51)])) rfl (by rw [hml]; rfl) (lenOf pd_6 rfl) rfl (hb hby at_90) (W := 0) (by show 2 * 0 + _ ≤ _; exact Nat.le_of_eq rfl) (by decide) (by decide) (by decide) (by decide)
    obtain ⟨rfl, N_63, K_63, FC_63, FO_63, FT_63, AC_63, AO_63, AT_63⟩ := Q_63
    have N_63' := Fr.app N_60' N_63
    have z_63 := K_63.1
    have AC_63' : Ary Z h_63 ca_52 (.object "com/example/items_in_arrays/itemsinarrays/xpath/RegularExpressionProgram$Code") [(.ref f1), (.ref fk_50), .null, .null, .null, .null, .null, .null, .null, .null, .null, .null, .null, .null, .null, .null] := AC_63
    have AO_63' : Ary Z h_63 oa_52 .int [(.int vo0), (.int p2), (.int 0), (.int 0), (.int 0), (.int 0), (.int 0), (.int 0), (.int 0), (.int 0), (.int 0), (.int 0), (.int 0), (.int 0), (.int 0), (.int 0)] := AO_63
    have AT_63' : Ary Z h_63 ta_52 .int [(.int p5), (.int p3), (.int 0), (.int 0), (.int 0), (.int 0), (.int 0), (.int 0), (.int 0), (.int 0), (.int 0), (.int 0), (.int 0), (.int 0), (.int 0), (.int 0)] := AT_63
    refine Go.st (S' := T_63.setTop (mkF m 93 #[.val (.int p1), .val (.int p2), .val (.int p3), .val (.int p4), .val (.int p5), .val (.int (1 : Int32)), .val (.int (0 : Int32)), .val (.ref fk_50), .val (.int vo0), .val (.int vo1), .val (.int p5), .val (.int vt1), .val (.ref ad_51), .unset, .unset, .unset] [])) st_63 ?_
    refine Go.st (S' := T_63.setTop (mkF m 95 #[.val (.int p1), .val (.int p2), .val (.int p3), .val (.int p4), .val (.int p5), .val (.int (1 : Int32)), .val (.int (0 : Int32)), .val (.ref fk_50), .val (.int vo0), .val (.int vo1), .val (.int p5), .val (.int vt1), .val (.ref ad_51), .unset, .unset, .unset] [(.int (1 : Int32))])) (fun t hr => XS.iload X_63.here hx rfl (hb hby at_93) rfl hr) ?_
    refine Go.st (S' := T_63.setTop (mkF m 103 #[.val (.int p1), .val (.int p2), .val (.int p3), .val (.int p4), .val (.int p5), .val (.int (1 : Int32)), .val (.int (0 : Int32)), .val (.ref fk_50), .val (.int vo0), .val (.int vo1), .val (.int p5), .val (.int vt1), .val (.ref ad_51), .unset, .unset, .unset] [])) (fun t hr => XS.ifYes X_63.here hx rfl (pc0 := 95) (pc' := 103) rfl (hb hby at_95) rfl (XT.i0_ne_t (by decide)) (by decide) (by decide) hr) ?_
    refine Go.st (S' := T_63.setTop (mkF m 105 #[.val (.int p1), .val (.int p2), .val (.int p3), .val (.int p4), .val (.int p5), .val (.int (1 : Int32)), .val (.int (0 : Int32)), .val (.ref fk_50), .val (.int vo0), .val (.int vo1), .val (.int p5), .val (.int vt1), .val (.ref ad_51), .unset, .unset, .unset] [(.int vo0)])) (fun t hr => XS.iload X_63.here hx rfl (hb hby at_103) rfl hr) ?_
    refine Go.st (S' := T_63.setTop (mkF m 107 #[.val (.int p1), .val (.int p2), .val (.int p3), .val (.int p4), .val (.int p5), .val (.int (1 : Int32)), .val (.int (0 : Int32)), .val (.ref fk_50), .val (.int vo0), .val (.int vo1), .val (.int p5), .val (.int vt1), .val (.ref ad_51), .val (.int vo0), .unset, .unset] [])) (fun t hr => XS.istore X_63.here hx rfl (hb hby at_105) rfl (l' := #[.val (.int p1), .val (.int p2), .val (.int p3), .val (.int p4), .val (.int p5), .val (.int (1 : Int32)), .val (.int (0 : Int32)), .val (.ref fk_50), .val (.int vo0), .val (.int vo1), .val (.int p5), .val (.int vt1), .val (.ref ad_51), .val (.int vo0), .unset, .unset]) rfl hr) ?_
    refine Go.st (S' := T_63.setTop (mkF m 109 #[.val (.int p1), .val (.int p2), .val (.int p3), .val (.int p4), .val (.int p5), .val (.int (1 : Int32)), .val (.int (0 : Int32)), .val (.ref fk_50), .val (.int vo0), .val (.int vo1), .val (.int p5), .val (.int vt1), .val (.ref ad_51), .val (.int vo0), .unset, .unset] [(.int (1 : Int32))])) (fun t hr => XS.iload X_63.here hx rfl (hb hby at_107) rfl hr) ?_
    refine Go.st (S' := T_63.setTop (mkF m 117 #[.val (.int p1), .val (.int p2), .val (.int p3), .val (.int p4), .val (.int p5), .val (.int (1 : Int32)), .val (.int (0 : Int32)), .val (.ref fk_50), .val (.int vo0), .val (.int vo1), .val (.int p5), .val (.int vt1), .val (.ref ad_51), .val (.int vo0), .unset, .unset] [])) (fun t hr => XS.ifYes X_63.here hx rfl (pc0 := 109) (pc' := 117) rfl (hb hby at_109) rfl (XT.i0_ne_t (by decide)) (by decide) (by decide) hr) ?_
    refine Go.st (S' := T_63.setTop (mkF m 119 #[.val (.int p1), .val (.int p2), .val (.int p3), .val (.int p4), .val (.int p5), .val (.int (1 : Int32)), .val (.int (0 : Int32)), .val (.ref fk_50), .val (.int vo0), .val (.int vo1), .val (.int p5), .val (.int vt1), .val (.ref ad_51), .val (.int vo0), .unset, .unset] [(.int p5)])) (fun t hr => XS.iload X_63.here hx rfl (hb hby at_117) rfl hr) ?_
    refine Go.st (S' := T_63.setTop (mkF m 121 #[.val (.int p1), .val (.int p2), .val (.int p3), .val (.int p4), .val (.int p5), .val (.int (1 : Int32)), .val (.int (0 : Int32)), .val (.ref fk_50), .val (.int vo0), .val (.int vo1), .val (.int p5), .val (.int vt1), .val (.ref ad_51), .val (.int vo0), .val (.int p5), .unset] [])) (fun t hr => XS.istore X_63.here hx rfl (hb hby at_119) rfl (l' := #[.val (.int p1), .val (.int p2), .val (.int p3), .val (.int p4), .val (.int p5), .val (.int (1 : Int32)), .val (.int (0 : Int32)), .val (.ref fk_50), .val (.int vo0), .val (.int vo1), .val (.int p5), .val (.int vt1), .val (.ref ad_51), .val (.int vo0), .val (.int p5), .unset]) rfl hr) ?_
    refine Go.st (S' := T_63.setTop (mkF m 123 #[.val (.int p1), .val (.int p2), .val (.int p3), .val (.int p4), .val (.int p5), .val (.int (1 : Int32)), .val (.int (0 : Int32)), .val (.ref fk_50), .val (.int vo0), .val (.int vo1), .val (.int p5), .val (.int vt1), .val (.ref ad_51), .val (.int vo0), .val (.int p5), .unset] [(.ref ad_51)])) (fun t hr => XS.aload X_63.here hx rfl (hb hby at_121) rfl rfl hr) ?_
    refine Go.st (S' := T_63.setTop (mkF m 125 #[.val (.int p1), .val (.int p2), .val (.int p3), .val (.int p4), .val (.int p5), .val (.int (1 : Int32)), .val (.int (0 : Int32)), .val (.ref fk_50), .val (.int vo0), .val (.int vo1), .val (.int p5), .val (.int vt1), .val (.ref ad_51), .val (.int vo0), .val (.int p5), .unset] [(.int (1 : Int32)), (.ref ad_51)])) (fun t hr => XS.iload X_63.here hx rfl (hb hby at_123) rfl hr) ?_
    have F_68 := (F_64.keep K_63)
    obtain ⟨v_67, T_67, h_67, L_67, X_67, e_67, Q_67, st_67⟩ := own_callV X_63 hx hZ (C := "com/example/items_in_arrays/itemsinarrays/xpath/RegularExpressionProgram$Builder") (y := ⟨"com/example/items_in_arrays/itemsinarrays/xpath/RegularExpressionProgram$Builder", "code", "(I)Lcom/example/items_in_arrays/itemsinarrays/xpath/RegularExpressionProgram$Code;"⟩) (z := ⟨"com/example/items_in_arrays/itemsinarrays/xpath/RegularExpressionProgram$Builder", "code", "(I)Lcom/example/items_in_arrays/itemsinarrays/xpath/RegularExpressionProgram$Code;"⟩) hown (hw _ (List.mem_of_getElem? (i := 109) rfl)) (hw _ (List.mem_of_getElem? (i := 110) rfl)) (hw _ (List.mem_of_getElem? (i := 112) rfl)) (hw _ (List.mem_of_getElem? (i := 112) rfl)) (hw _ (List.mem_of_getElem? (i := 111) rfl)) (hw _ (List.mem_of_getElem? (i := 45) rfl)) (hw _ (List.mem_of_getElem? (i := 113) rfl)) (by decide) e_63 (a := ad_51) F_68 (argsL := [(.int (1 : Int32))]) (rest := []) (rmCode1 l Z a0 hw ad_51 h_63 n0 (by omega) ca_52 oa_52 ta_52 fk_50 p2 p3 [(.ref f1), (.ref fk_50), .null, .null, .null, .null, .null, .null, .null, .null, .null, .null, .null, .null, .null, .null] [(.int vo0), (.int p2), (.int 0), (.int 0), (.int 0), (.int 0), (.int 0), (.int 0), (.int 0), (.int 0), (.int 0), (.int 0), (.int 0), (.int 0), (.int 0), (.int 0)] [(.int p5), (.int p3), (.int 0), (.int 0), (.int 0), (.int 0), (.int 0), (.int 0), (.int 0), (.int 0), (.int 0), (.int 0), (.int 0), (.int 0), (.int 0), (.int 0)]  FC_63 FO_63 FT_63 AC_63' AO_63' AT_63' rfl rfl rfl rfl) (g := (mkF m 125 #[.val (.int p1), .val (.int p2), .val (.int p3), .val (.int p4), .val (.int p5), .val (.int (1 : Int32)), .val (.int (0 : Int32)), .val (.ref fk_50), .val (.int vo0), .val (.int vo1), .val (.int p5), .val (.int vt1), .val (.ref ad_51), .val (.int vo0), .val (.int p5), .unset] [(.int (1 : Int32)), (.ref ad_51)])) rfl (by rw [hml]; rfl) (lenOf pd_4 rfl) rfl (hb hby at_125) (W := 0) (by show 2 * 0 + _ ≤ _; exact Nat.le_of_eq rfl) (by decide) (by decide) (by decide) (by decide)
    obtain ⟨rfl, N_67, hh_67⟩ := Q_67
    have N_67' := Fr.app N_63' N_67
    rw [hh_67] at e_67
    refine Go.st (S' := T_67.setTop (mkF m 128 #[.val (.int p1), .val (.int p2), .val (.int p3), .val (.int p4), .val (.int p5), .val (.int (1 : Int32)), .val (.int (0 : Int32)), .val (.ref fk_50), .val (.int vo0), .val (.int vo1), .val (.int p5), .val (.int vt1), .val (.ref ad_51), .val (.int vo0), .val (.int p5), .unset] [(.ref fk_50)])) st_67 ?_
    refine Go.st (S' := T_67.setTop (mkF m 130 #[.val (.int p1), .val (.int p2), .val (.int p3), .val (.int p4), .val (.int p5), .val (.int (1 : Int32)), .val (.int (0 : Int32)), .val (.ref fk_50), .val (.int vo0), .val (.int vo1), .val (.int p5), .val (.int vt1), .val (.ref ad_51), .val (.int vo0), .val (.int p5), .unset] [(.ref fk_50), (.ref fk_50)])) (fun t hr => XS.aload X_67.here hx rfl (hb hby at_128) rfl rfl hr) ?_
    refine Go.st (S' := T_67.setTop (mkF m 133 #[.val (.int p1), .val (.int p2), .val (.int p3), .val (.int p4), .val (.int p5), .val (.int (1 : Int32)), .val (.int (0 : Int32)), .val (.ref fk_50), .val (.int vo0), .val (.int vo1), .val (.int p5), .val (.int vt1), .val (.ref ad_51), .val (.int vo0), .val (.int p5), .unset] [])) (fun t hr => XT.acmpNo X_67.here hx rfl (hb hby at_130) rfl rfl rfl (XT.aa_ne_f rfl) hr) ?_
    refine Go.st (S' := T_67.setTop (mkF m 135 #[.val (.int p1), .val (.int p2), .val (.int p3), .val (.int p4), .val (.int p5), .val (.int (1 : Int32)), .val (.int (0 : Int32)), .val (.ref fk_50), .val (.int vo0), .val (.int vo1), .val (.int p5), .val (.int vt1), .val (.ref ad_51), .val (.int vo0), .val (.int p5), .unset] [(.ref ad_51)])) (fun t hr => XS.aload X_67.here hx rfl (hb hby at_133) rfl rfl hr) ?_
    refine Go.st (S' := T_67.setTop (mkF m 137 #[.val (.int p1), .val (.int p2), .val (.int p3), .val (.int p4), .val (.int p5), .val (.int (1 : Int32)), .val (.int (0 : Int32)), .val (.ref fk_50), .val (.int vo0), .val (.int vo1), .val (.int p5), .val (.int vt1), .val (.ref ad_51), .val (.int vo0), .val (.int p5), .unset] [(.int (1 : Int32)), (.ref ad_51)])) (fun t hr => XS.iload X_67.here hx rfl (hb hby at_135) rfl hr) ?_
    obtain ⟨v_69, T_69, h_69, L_69, X_69, e_69, Q_69, st_69⟩ := own_callV X_67 hx hZ (C := "com/example/items_in_arrays/itemsinarrays/xpath/RegularExpressionProgram$Builder") (y := ⟨"com/example/items_in_arrays/itemsinarrays/xpath/RegularExpressionProgram$Builder", "target", "(I)I"⟩) (z := ⟨"com/example/items_in_arrays/itemsinarrays/xpath/RegularExpressionProgram$Builder", "target", "(I)I"⟩) hown (hw _ (List.mem_of_getElem? (i := 114) rfl)) (hw _ (List.mem_of_getElem? (i := 115) rfl)) (hw _ (List.mem_of_getElem? (i := 117) rfl)) (hw _ (List.mem_of_getElem? (i := 117) rfl)) (hw _ (List.mem_of_getElem? (i := 116) rfl)) (hw _ (List.mem_of_getElem? (i := 45) rfl)) (hw _ (List.mem_of_getElem? (i := 118) rfl)) (by decide) e_67 (a := ad_51) F_68 (argsL := [(.int (1 : Int32))]) (rest := []) (rmTgt1 l Z a0 hw ad_51 h_63 n0 (by omega) ca_52 oa_52 ta_52 fk_50 p2 p3 [(.ref f1), (.ref fk_50), .null, .null, .null, .null, .null, .null, .null, .null, .null, .null, .null, .null, .null, .null] [(.int vo0), (.int p2), (.int 0), (.int 0), (.int 0), (.int 0), (.int 0), (.int 0), (.int 0), (.int 0), (.int 0), (.int 0), (.int 0), (.int 0), (.int 0), (.int 0)] [(.int p5), (.int p3), (.int 0), (.int 0), (.int 0), (.int 0), (.int 0), (.int 0), (.int 0), (.int 0), (.int 0), (.int 0), (.int 0), (.int 0), (.int 0), (.int 0)]  FC_63 FO_63 FT_63 AC_63' AO_63' AT_63' rfl rfl rfl rfl) (g := (mkF m 137 #[.val (.int p1), .val (.int p2), .val (.int p3), .val (.int p4), .val (.int p5), .val (.int (1 : Int32)), .val (.int (0 : Int32)), .val (.ref fk_50), .val (.int vo0), .val (.int vo1), .val (.int p5), .val (.int vt1), .val (.ref ad_51), .val (.int vo0), .val (.int p5), .unset] [(.int (1 : Int32)), (.ref ad_51)])) rfl (by rw [hml]; rfl) (lenOf pd_7 rfl) rfl (hb hby at_137) (W := 0) (by show 2 * 0 + _ ≤ _; exact Nat.le_of_eq rfl) (by decide) (by decide) (by decide) (by decide)
    obtain ⟨rfl, N_69, hh_69⟩ := Q_69
    have N_69' := Fr.app N_67' N_69
    rw [hh_69] at e_69
    refine Go.st (S' := T_69.setTop (mkF m 140 #[.val (.int p1), .val (.int p2), .val (.int p3), .val (.int p4), .val (.int p5), .val (.int (1 : Int32)), .val (.int (0 : Int32)), .val (.ref fk_50), .val (.int vo0), .val (.int vo1), .val (.int p5), .val (.int vt1), .val (.ref ad_51), .val (.int vo0), .val (.int p5), .unset] [(.int p3)])) st_69 ?_
    refine Go.st (S' := T_69.setTop (mkF m 141 #[.val (.int p1), .val (.int p2), .val (.int p3), .val (.int p4), .val (.int p5), .val (.int (1 : Int32)), .val (.int (0 : Int32)), .val (.ref fk_50), .val (.int vo0), .val (.int vo1), .val (.int p5), .val (.int vt1), .val (.ref ad_51), .val (.int vo0), .val (.int p5), .unset] [(.int p3), (.int p3)])) (fun t hr => XS.iloadN X_69.here hx rfl (hb hby at_140) rfl hr) ?_
    refine Go.st (S' := T_69.setTop (mkF m 144 #[.val (.int p1), .val (.int p2), .val (.int p3), .val (.int p4), .val (.int p5), .val (.int (1 : Int32)), .val (.int (0 : Int32)), .val (.ref fk_50), .val (.int vo0), .val (.int vo1), .val (.int p5), .val (.int vt1), .val (.ref ad_51), .val (.int vo0), .val (.int p5), .unset] [])) (fun t hr => XS.icmpNo X_69.here hx rfl (hb hby at_141) rfl (XT.ii_ne_f rfl) hr) ?_
    refine Go.st (S' := T_69.setTop (mkF m 145 #[.val (.int p1), .val (.int p2), .val (.int p3), .val (.int p4), .val (.int p5), .val (.int (1 : Int32)), .val (.int (0 : Int32)), .val (.ref fk_50), .val (.int vo0), .val (.int vo1), .val (.int p5), .val (.int vt1), .val (.ref ad_51), .val (.int vo0), .val (.int p5), .unset] [(.int (1 : Int32))])) (fun t hr => XS.iconst X_69.here hx rfl (hb hby at_144) hr) ?_
    refine Go.st (S' := T_69.setTop (mkF m 149 #[.val (.int p1), .val (.int p2), .val (.int p3), .val (.int p4), .val (.int p5), .val (.int (1 : Int32)), .val (.int (0 : Int32)), .val (.ref fk_50), .val (.int vo0), .val (.int vo1), .val (.int p5), .val (.int vt1), .val (.ref ad_51), .val (.int vo0), .val (.int p5), .unset] [(.int (1 : Int32))])) (fun t hr => XS.goto X_69.here hx rfl (pc0 := 145) (pc' := 149) rfl (hb hby at_145) (by decide) (by decide) hr) ?_
    refine Go.st (S' := T_69.setTop (mkF m 151 #[.val (.int p1), .val (.int p2), .val (.int p3), .val (.int p4), .val (.int p5), .val (.int (1 : Int32)), .val (.int (0 : Int32)), .val (.ref fk_50), .val (.int vo0), .val (.int vo1), .val (.int p5), .val (.int vt1), .val (.ref ad_51), .val (.int vo0), .val (.int p5), .val (.int (1 : Int32))] [])) (fun t hr => XS.istore X_69.here hx rfl (hb hby at_149) rfl (l' := #[.val (.int p1), .val (.int p2), .val (.int p3), .val (.int p4), .val (.int p5), .val (.int (1 : Int32)), .val (.int (0 : Int32)), .val (.ref fk_50), .val (.int vo0), .val (.int vo1), .val (.int p5), .val (.int vt1), .val (.ref ad_51), .val (.int vo0), .val (.int p5), .val (.int (1 : Int32))]) rfl hr) ?_
    refine Go.st (S' := T_69.setTop (mkF m 153 #[.val (.int p1), .val (.int p2), .val (.int p3), .val (.int p4), .val (.int p5), .val (.int (1 : Int32)), .val (.int (0 : Int32)), .val (.ref fk_50), .val (.int vo0), .val (.int vo1), .val (.int p5), .val (.int vt1), .val (.ref ad_51), .val (.int vo0), .val (.int p5), .val (.int (1 : Int32))] [(.int (1 : Int32))])) (fun t hr => XS.iload X_69.here hx rfl (hb hby at_151) rfl hr) ?_
    refine Go.st (S' := T_69.setTop (mkF m 156 #[.val (.int p1), .val (.int p2), .val (.int p3), .val (.int p4), .val (.int p5), .val (.int (1 : Int32)), .val (.int (0 : Int32)), .val (.ref fk_50), .val (.int vo0), .val (.int vo1), .val (.int p5), .val (.int vt1), .val (.ref ad_51), .val (.int vo0), .val (.int p5), .val (.int (1 : Int32))] [])) (fun t hr => XS.ifNo X_69.here hx rfl (hb hby at_153) rfl (XT.i0_eq_f (by decide)) hr) ?_
    refine Go.st (S' := T_69.setTop (mkF m 158 #[.val (.int p1), .val (.int p2), .val (.int p3), .val (.int p4), .val (.int p5), .val (.int (1 : Int32)), .val (.int (0 : Int32)), .val (.ref fk_50), .val (.int vo0), .val (.int vo1), .val (.int p5), .val (.int vt1), .val (.ref ad_51), .val (.int vo0), .val (.int p5), .val (.int (1 : Int32))] [(.ref fk_50)])) (fun t hr => XS.aload X_69.here hx rfl (hb hby at_156) rfl rfl hr) ?_
    have F_70 := (F_65.keep K_63 (by intro x hxx; simp only [List.mem_cons, List.not_mem_nil, or_false] at hxx; rcases hxx with rfl | rfl | rfl | rfl <;> omega))
    obtain ⟨T_71, X_71, e_71, st_71⟩ := getS2 X_69 hx hZ hown (host := "") (Or.inl (hw _ (List.mem_of_getElem? (i := 11) rfl))) Via.refl e_69 (SC1.ext F_70.2) (g := (mkF m 158 #[.val (.int p1), .val (.int p2), .val (.int p3), .val (.int p4), .val (.int p5), .val (.int (1 : Int32)), .val (.int (0 : Int32)), .val (.ref fk_50), .val (.int vo0), .val (.int vo1), .val (.int p5), .val (.int vt1), .val (.ref ad_51), .val (.int vo0), .val (.int p5), .val (.int (1 : Int32))] [(.ref fk_50)])) rfl (hb hby at_158)
    refine Go.st (S' := T_71.setTop (mkF m 161 #[.val (.int p1), .val (.int p2), .val (.int p3), .val (.int p4), .val (.int p5), .val (.int (1 : Int32)), .val (.int (0 : Int32)), .val (.ref fk_50), .val (.int vo0), .val (.int vo1), .val (.int p5), .val (.int vt1), .val (.ref ad_51), .val (.int vo0), .val (.int p5), .val (.int (1 : Int32))] [(.ref f1), (.ref fk_50)])) st_71 ?_
    by_cases hc72 : (Value.ref fk_50) = (.ref f1)
    · refine Go.st (S' := T_71.setTop (mkF m 164 #[.val (.int p1), .val (.int p2), .val (.int p3), .val (.int p4), .val (.int p5), .val (.int (1 : Int32)), .val (.int (0 : Int32)), .val (.ref fk_50), .val (.int vo0), .val (.int vo1), .val (.int p5), .val (.int vt1), .val (.ref ad_51), .val (.int vo0), .val (.int p5), .val (.int (1 : Int32))] [])) (fun t hr => XT.acmpNo X_71.here hx rfl (hb hby at_161) rfl rfl rfl (XT.aa_ne_f hc72) hr) ?_
      have hfk1 : fk_50 = f1 := by simpa using hc72
      refine Go.st (S' := T_71.setTop (mkF m 165 #[.val (.int p1), .val (.int p2), .val (.int p3), .val (.int p4), .val (.int p5), .val (.int (1 : Int32)), .val (.int (0 : Int32)), .val (.ref fk_50), .val (.int vo0), .val (.int vo1), .val (.int p5), .val (.int vt1), .val (.ref ad_51), .val (.int vo0), .val (.int p5), .val (.int (1 : Int32))] [(.int p2)])) (fun t hr => XS.iloadN X_71.here hx rfl (hb hby at_164) rfl hr) ?_
      by_cases hc73 : p2 < 0
      · refine Go.st (S' := T_71.setTop (mkF m 189 #[.val (.int p1), .val (.int p2), .val (.int p3), .val (.int p4), .val (.int p5), .val (.int (1 : Int32)), .val (.int (0 : Int32)), .val (.ref fk_50), .val (.int vo0), .val (.int vo1), .val (.int p5), .val (.int vt1), .val (.ref ad_51), .val (.int vo0), .val (.int p5), .val (.int (1 : Int32))] [])) (fun t hr => XS.ifYes X_71.here hx rfl (pc0 := 165) (pc' := 189) rfl (hb hby at_165) rfl (XT.i0_lt_t hc73) (by decide) (by decide) hr) ?_
        refine Go.st (S' := T_71.setTop (mkF m 191 #[.val (.int p1), .val (.int p2), .val (.int p3), .val (.int p4), .val (.int p5), .val (.int (1 : Int32)), .val (.int (0 : Int32)), .val (.ref fk_50), .val (.int vo0), .val (.int vo1), .val (.int p5), .val (.int vt1), .val (.ref ad_51), .val (.int vo0), .val (.int p5), .val (.int (1 : Int32))] [(.int (1 : Int32))])) (fun t hr => XS.iload X_71.here hx rfl (hb hby at_189) rfl hr) ?_
        refine Go.st (S' := T_71.setTop (mkF m 194 #[.val (.int p1), .val (.int p2), .val (.int p3), .val (.int p4), .val (.int p5), .val (.int (1 : Int32)), .val (.int (0 : Int32)), .val (.ref fk_50), .val (.int vo0), .val (.int vo1), .val (.int p5), .val (.int vt1), .val (.ref ad_51), .val (.int vo0), .val (.int p5), .val (.int (1 : Int32))] [])) (fun t hr => XS.ifNo X_71.here hx rfl (hb hby at_191) rfl (XT.i0_eq_f (by decide)) hr) ?_
        refine Go.st (S' := T_71.setTop (mkF m 196 #[.val (.int p1), .val (.int p2), .val (.int p3), .val (.int p4), .val (.int p5), .val (.int (1 : Int32)), .val (.int (0 : Int32)), .val (.ref fk_50), .val (.int vo0), .val (.int vo1), .val (.int p5), .val (.int vt1), .val (.ref ad_51), .val (.int vo0), .val (.int p5), .val (.int (1 : Int32))] [(.ref ad_51)])) (fun t hr => XS.aload X_71.here hx rfl (hb hby at_194) rfl rfl hr) ?_
        refine Go.st (S' := T_71.setTop (mkF m 198 #[.val (.int p1), .val (.int p2), .val (.int p3), .val (.int p4), .val (.int p5), .val (.int (1 : Int32)), .val (.int (0 : Int32)), .val (.ref fk_50), .val (.int vo0), .val (.int vo1), .val (.int p5), .val (.int vt1), .val (.ref ad_51), .val (.int vo0), .val (.int p5), .val (.int (1 : Int32))] [(.int (0 : Int32)), (.ref ad_51)])) (fun t hr => XS.iload X_71.here hx rfl (hb hby at_196) rfl hr) ?_
        obtain ⟨v_74, T_74, h_74, L_74, X_74, e_74, Q_74, st_74⟩ := own_callV X_71 hx hZ (C := "com/example/items_in_arrays/itemsinarrays/xpath/RegularExpressionProgram$Builder") (y := ⟨"com/example/items_in_arrays/itemsinarrays/xpath/RegularExpressionProgram$Builder", "code", "(I)Lcom/example/items_in_arrays/itemsinarrays/xpath/RegularExpressionProgram$Code;"⟩) (z := ⟨"com/example/items_in_arrays/itemsinarrays/xpath/RegularExpressionProgram$Builder", "code", "(I)Lcom/example/items_in_arrays/itemsinarrays/xpath/RegularExpressionProgram$Code;"⟩) hown (hw _ (List.mem_of_getElem? (i := 109) rfl)) (hw _ (List.mem_of_getElem? (i := 110) rfl)) (hw _ (List.mem_of_getElem? (i := 112) rfl)) (hw _ (List.mem_of_getElem? (i := 112) rfl)) (hw _ (List.mem_of_getElem? (i := 111) rfl)) (hw _ (List.mem_of_getElem? (i := 45) rfl)) (hw _ (List.mem_of_getElem? (i := 113) rfl)) (by decide) e_71 (a := ad_51) F_68 (argsL := [(.int (0 : Int32))]) (rest := []) (rmCode0 l Z a0 hw ad_51 h_63 n0 (by omega) ca_52 oa_52 ta_52 f1 vo0 p5 [(.ref f1), (.ref fk_50), .null, .null, .null, .null, .null, .null, .null, .null, .null, .null, .null, .null, .null, .null] [(.int vo0), (.int p2), (.int 0), (.int 0), (.int 0), (.int 0), (.int 0), (.int 0), (.int 0), (.int 0), (.int 0), (.int 0), (.int 0), (.int 0), (.int 0), (.int 0)] [(.int p5), (.int p3), (.int 0), (.int 0), (.int 0), (.int 0), (.int 0), (.int 0), (.int 0), (.int 0), (.int 0), (.int 0), (.int 0), (.int 0), (.int 0), (.int 0)]  FC_63 FO_63 FT_63 AC_63' AO_63' AT_63' rfl rfl rfl rfl) (g := (mkF m 198 #[.val (.int p1), .val (.int p2), .val (.int p3), .val (.int p4), .val (.int p5), .val (.int (1 : Int32)), .val (.int (0 : Int32)), .val (.ref fk_50), .val (.int vo0), .val (.int vo1), .val (.int p5), .val (.int vt1), .val (.ref ad_51), .val (.int vo0), .val (.int p5), .val (.int (1 : Int32))] [(.int (0 : Int32)), (.ref ad_51)])) rfl (by rw [hml]; rfl) (lenOf pd_4 rfl) rfl (hb hby at_198) (W := 0) (by show 2 * 0 + _ ≤ _; exact Nat.le_of_eq rfl) (by decide) (by decide) (by decide) (by decide)
        obtain ⟨rfl, N_74, hh_74⟩ := Q_74
        have N_74' := Fr.app N_69' N_74
        rw [hh_74] at e_74
        refine Go.st (S' := T_74.setTop (mkF m 201 #[.val (.int p1), .val (.int p2), .val (.int p3), .val (.int p4), .val (.int p5), .val (.int (1 : Int32)), .val (.int (0 : Int32)), .val (.ref fk_50), .val (.int vo0), .val (.int vo1), .val (.int p5), .val (.int vt1), .val (.ref ad_51), .val (.int vo0), .val (.int p5), .val (.int (1 : Int32))] [(.ref f1)])) st_74 ?_
        obtain ⟨T_75, X_75, e_75, st_75⟩ := getS2 X_74 hx hZ hown (host := "") (Or.inl (hw _ (List.mem_of_getElem? (i := 11) rfl))) Via.refl e_74 (SC1.ext F_70.2) (g := (mkF m 201 #[.val (.int p1), .val (.int p2), .val (.int p3), .val (.int p4), .val (.int p5), .val (.int (1 : Int32)), .val (.int (0 : Int32)), .val (.ref fk_50), .val (.int vo0), .val (.int vo1), .val (.int p5), .val (.int vt1), .val (.ref ad_51), .val (.int vo0), .val (.int p5), .val (.int (1 : Int32))] [(.ref f1)])) rfl (hb hby at_201)
        refine Go.st (S' := T_75.setTop (mkF m 204 #[.val (.int p1), .val (.int p2), .val (.int p3), .val (.int p4), .val (.int p5), .val (.int (1 : Int32)), .val (.int (0 : Int32)), .val (.ref fk_50), .val (.int vo0), .val (.int vo1), .val (.int p5), .val (.int vt1), .val (.ref ad_51), .val (.int vo0), .val (.int p5), .val (.int (1 : Int32))] [(.ref f1), (.ref f1)])) st_75 ?_
        refine Go.st (S' := T_75.setTop (mkF m 207 #[.val (.int p1), .val (.int p2), .val (.int p3), .val (.int p4), .val (.int p5), .val (.int (1 : Int32)), .val (.int (0 : Int32)), .val (.ref fk_50), .val (.int vo0), .val (.int vo1), .val (.int p5), .val (.int vt1), .val (.ref ad_51), .val (.int vo0), .val (.int p5), .val (.int (1 : Int32))] [])) (fun t hr => XT.acmpNo X_75.here hx rfl (hb hby at_204) rfl rfl rfl (XT.aa_ne_f rfl) hr) ?_
        refine Go.st (S' := T_75.setTop (mkF m 209 #[.val (.int p1), .val (.int p2), .val (.int p3), .val (.int p4), .val (.int p5), .val (.int (1 : Int32)), .val (.int (0 : Int32)), .val (.ref fk_50), .val (.int vo0), .val (.int vo1), .val (.int p5), .val (.int vt1), .val (.ref ad_51), .val (.int vo0), .val (.int p5), .val (.int (1 : Int32))] [(.ref ad_51)])) (fun t hr => XS.aload X_75.here hx rfl (hb hby at_207) rfl rfl hr) ?_
        refine Go.st (S' := T_75.setTop (mkF m 211 #[.val (.int p1), .val (.int p2), .val (.int p3), .val (.int p4), .val (.int p5), .val (.int (1 : Int32)), .val (.int (0 : Int32)), .val (.ref fk_50), .val (.int vo0), .val (.int vo1), .val (.int p5), .val (.int vt1), .val (.ref ad_51), .val (.int vo0), .val (.int p5), .val (.int (1 : Int32))] [(.int (0 : Int32)), (.ref ad_51)])) (fun t hr => XS.iload X_75.here hx rfl (hb hby at_209) rfl hr) ?_
        obtain ⟨v_76, T_76, h_76, L_76, X_76, e_76, Q_76, st_76⟩ := own_callV X_75 hx hZ (C := "com/example/items_in_arrays/itemsinarrays/xpath/RegularExpressionProgram$Builder") (y := ⟨"com/example/items_in_arrays/itemsinarrays/xpath/RegularExpressionProgram$Builder", "target", "(I)I"⟩) (z := ⟨"com/example/items_in_arrays/itemsinarrays/xpath/RegularExpressionProgram$Builder", "target", "(I)I"⟩) hown (hw _ (List.mem_of_getElem? (i := 114) rfl)) (hw _ (List.mem_of_getElem? (i := 115) rfl)) (hw _ (List.mem_of_getElem? (i := 117) rfl)) (hw _ (List.mem_of_getElem? (i := 117) rfl)) (hw _ (List.mem_of_getElem? (i := 116) rfl)) (hw _ (List.mem_of_getElem? (i := 45) rfl)) (hw _ (List.mem_of_getElem? (i := 118) rfl)) (by decide) e_75 (a := ad_51) F_68 (argsL := [(.int (0 : Int32))]) (rest := []) (rmTgt0 l Z a0 hw ad_51 h_63 n0 (by omega) ca_52 oa_52 ta_52 f1 vo0 p5 [(.ref f1), (.ref fk_50), .null, .null, .null, .null, .null, .null, .null, .null, .null, .null, .null, .null, .null, .null] [(.int vo0), (.int p2), (.int 0), (.int 0), (.int 0), (.int 0), (.int 0), (.int 0), (.int 0), (.int 0), (.int 0), (.int 0), (.int 0), (.int 0), (.int 0), (.int 0)] [(.int p5), (.int p3), (.int 0), (.int 0), (.int 0), (.int 0), (.int 0), (.int 0), (.int 0), (.int 0), (.int 0), (.int 0), (.int 0), (.int 0), (.int 0), (.int 0)]  FC_63 FO_63 FT_63 AC_63' AO_63' AT_63' rfl rfl rfl rfl) (g := (mkF m 211 #[.val (.int p1), .val (.int p2), .val (.int p3), .val (.int p4), .val (.int p5), .val (.int (1 : Int32)), .val (.int (0 : Int32)), .val (.ref fk_50), .val (.int vo0), .val (.int vo1), .val (.int p5), .val (.int vt1), .val (.ref ad_51), .val (.int vo0), .val (.int p5), .val (.int (1 : Int32))] [(.int (0 : Int32)), (.ref ad_51)])) rfl (by rw [hml]; rfl) (lenOf pd_7 rfl) rfl (hb hby at_211) (W := 0) (by show 2 * 0 + _ ≤ _; exact Nat.le_of_eq rfl) (by decide) (by decide) (by decide) (by decide)
        obtain ⟨rfl, N_76, hh_76⟩ := Q_76
        have N_76' := Fr.app N_74' N_76
        rw [hh_76] at e_76
        refine Go.st (S' := T_76.setTop (mkF m 214 #[.val (.int p1), .val (.int p2), .val (.int p3), .val (.int p4), .val (.int p5), .val (.int (1 : Int32)), .val (.int (0 : Int32)), .val (.ref fk_50), .val (.int vo0), .val (.int vo1), .val (.int p5), .val (.int vt1), .val (.ref ad_51), .val (.int vo0), .val (.int p5), .val (.int (1 : Int32))] [(.int p5)])) st_76 ?_
        refine Go.st (S' := T_76.setTop (mkF m 216 #[.val (.int p1), .val (.int p2), .val (.int p3), .val (.int p4), .val (.int p5), .val (.int (1 : Int32)), .val (.int (0 : Int32)), .val (.ref fk_50), .val (.int vo0), .val (.int vo1), .val (.int p5), .val (.int vt1), .val (.ref ad_51), .val (.int vo0), .val (.int p5), .val (.int (1 : Int32))] [(.int p5), (.int p5)])) (fun t hr => XS.iload X_76.here hx rfl (hb hby at_214) rfl hr) ?_
        refine Go.st (S' := T_76.setTop (mkF m 219 #[.val (.int p1), .val (.int p2), .val (.int p3), .val (.int p4), .val (.int p5), .val (.int (1 : Int32)), .val (.int (0 : Int32)), .val (.ref fk_50), .val (.int vo0), .val (.int vo1), .val (.int p5), .val (.int vt1), .val (.ref ad_51), .val (.int vo0), .val (.int p5), .val (.int (1 : Int32))] [])) (fun t hr => XS.icmpNo X_76.here hx rfl (hb hby at_216) rfl (XT.ii_ne_f rfl) hr) ?_
        refine Go.st (S' := T_76.setTop (mkF m 221 #[.val (.int p1), .val (.int p2), .val (.int p3), .val (.int p4), .val (.int p5), .val (.int (1 : Int32)), .val (.int (0 : Int32)), .val (.ref fk_50), .val (.int vo0), .val (.int vo1), .val (.int p5), .val (.int vt1), .val (.ref ad_51), .val (.int vo0), .val (.int p5), .val (.int (1 : Int32))] [(.ref ad_51)])) (fun t hr => XS.aload X_76.here hx rfl (hb hby at_219) rfl rfl hr) ?_
        refine Go.st (S' := T_76.setTop (mkF m 223 #[.val (.int p1), .val (.int p2), .val (.int p3), .val (.int p4), .val (.int p5), .val (.int (1 : Int32)), .val (.int (0 : Int32)), .val (.ref fk_50), .val (.int vo0), .val (.int vo1), .val (.int p5), .val (.int vt1), .val (.ref ad_51), .val (.int vo0), .val (.int p5), .val (.int (1 : Int32))] [(.int (0 : Int32)), (.ref ad_51)])) (fun t hr => XS.iload X_76.here hx rfl (hb hby at_221) rfl hr) ?_
        obtain ⟨v_77, T_77, h_77, L_77, X_77, e_77, Q_77, st_77⟩ := own_callV X_76 hx hZ (C := "com/example/items_in_arrays/itemsinarrays/xpath/RegularExpressionProgram$Builder") (y := ⟨"com/example/items_in_arrays/itemsinarrays/xpath/RegularExpressionProgram$Builder", "characters", "(I)Lcom/example/items_in_arrays/itemsinarrays/xpath/CodepointSet;"⟩) (z := ⟨"com/example/items_in_arrays/itemsinarrays/xpath/RegularExpressionProgram$Builder", "characters", "(I)Lcom/example/items_in_arrays/itemsinarrays/xpath/CodepointSet;"⟩) hown (hw _ (List.mem_of_getElem? (i := 119) rfl)) (hw _ (List.mem_of_getElem? (i := 120) rfl)) (hw _ (List.mem_of_getElem? (i := 122) rfl)) (hw _ (List.mem_of_getElem? (i := 122) rfl)) (hw _ (List.mem_of_getElem? (i := 121) rfl)) (hw _ (List.mem_of_getElem? (i := 45) rfl)) (hw _ (List.mem_of_getElem? (i := 123) rfl)) (by decide) e_76 (a := ad_51) F_68 (argsL := [(.int (0 : Int32))]) (rest := []) (rmChr0 l Z a0 hw ad_51 h_63 n0 (by omega) ca_52 oa_52 ta_52 f1 vo0 p5 [(.ref f1), (.ref fk_50), .null, .null, .null, .null, .null, .null, .null, .null, .null, .null, .null, .null, .null, .null] [(.int vo0), (.int p2), (.int 0), (.int 0), (.int 0), (.int 0), (.int 0), (.int 0), (.int 0), (.int 0), (.int 0), (.int 0), (.int 0), (.int 0), (.int 0), (.int 0)] [(.int p5), (.int p3), (.int 0), (.int 0), (.int 0), (.int 0), (.int 0), (.int 0), (.int 0), (.int 0), (.int 0), (.int 0), (.int 0), (.int 0), (.int 0), (.int 0)]  FC_63 FO_63 FT_63 AC_63' AO_63' AT_63' rfl rfl rfl F_70 SC1 rfl rfl hvo0p) (g := (mkF m 223 #[.val (.int p1), .val (.int p2), .val (.int p3), .val (.int p4), .val (.int p5), .val (.int (1 : Int32)), .val (.int (0 : Int32)), .val (.ref fk_50), .val (.int vo0), .val (.int vo1), .val (.int p5), .val (.int vt1), .val (.ref ad_51), .val (.int vo0), .val (.int p5), .val (.int (1 : Int32))] [(.int (0 : Int32)), (.ref ad_51)])) rfl (by rw [hml]; rfl) (lenOf pd_8 rfl) rfl (hb hby at_223) (W := 0) (by show 2 * 0 + _ ≤ _; exact Nat.le_of_eq rfl) (by decide) (by decide) (by decide) (by decide)
        obtain ⟨cs_77, rfl, N_77, K_77, EE_77, ra_77, GG_77, AA_77⟩ := Q_77
        have N_77' := Fr.app N_76' N_77
        have z_77 := K_77.1
        refine Go.st (S' := T_77.setTop (mkF m 226 #[.val (.int p1), .val (.int p2), .val (.int p3), .val (.int p4), .val (.int p5), .val (.int (1 : Int32)), .val (.int (0 : Int32)), .val (.ref fk_50), .val (.int vo0), .val (.int vo1), .val (.int p5), .val (.int vt1), .val (.ref ad_51), .val (.int vo0), .val (.int p5), .val (.int (1 : Int32))] [(.ref cs_77)])) st_77 ?_
        obtain ⟨v_78, T_78, h_78, L_78, X_78, e_78, Q_78, st_78⟩ := own_callV X_77 hx hZ (C := "com/example/items_in_arrays/itemsinarrays/xpath/CodepointSet") (y := ⟨"com/example/items_in_arrays/itemsinarrays/xpath/CodepointSet", "single", "()I"⟩) (z := ⟨"com/example/items_in_arrays/itemsinarrays/xpath/CodepointSet", "single", "()I"⟩) hown (hw _ (List.mem_of_getElem? (i := 144) rfl)) (hw _ (List.mem_of_getElem? (i := 145) rfl)) (hw _ (List.mem_of_getElem? (i := 147) rfl)) (hw _ (List.mem_of_getElem? (i := 147) rfl)) (hw _ (List.mem_of_getElem? (i := 146) rfl)) (hw _ (List.mem_of_getElem? (i := 127) rfl)) (hw _ (List.mem_of_getElem? (i := 148) rfl)) (by decide) e_77 (a := cs_77) EE_77 (argsL := []) (rest := []) (rmSg l Z a0 hw cs_77 h_77 n0 (by omega) vo0 ra_77 GG_77 AA_77) (g := (mkF m 226 #[.val (.int p1), .val (.int p2), .val (.int p3), .val (.int p4), .val (.int p5), .val (.int (1 : Int32)), .val (.int (0 : Int32)), .val (.ref fk_50), .val (.int vo0), .val (.int vo1), .val (.int p5), .val (.int vt1), .val (.ref ad_51), .val (.int vo0), .val (.int p5), .val (.int (1 : Int32))] [(.ref cs_77)])) rfl (by rw [hml]; rfl) (lenOf pd_9 rfl) rfl (hb hby at_226) (W := 0) (by show 2 * 0 + _ ≤ _; exact Nat.le_of_eq rfl) (by decide) (by decide) (by decide) (by decide)
        obtain ⟨rfl, N_78, hh_78⟩ := Q_78
        have N_78' := Fr.app N_77' N_78
        rw [hh_78] at e_78
        refine Go.st (S' := T_78.setTop (mkF m 229 #[.val (.int p1), .val (.int p2), .val (.int p3), .val (.int p4), .val (.int p5), .val (.int (1 : Int32)), .val (.int (0 : Int32)), .val (.ref fk_50), .val (.int vo0), .val (.int vo1), .val (.int p5), .val (.int vt1), .val (.ref ad_51), .val (.int vo0), .val (.int p5), .val (.int (1 : Int32))] [(.int vo0)])) st_78 ?_
        refine Go.st (S' := T_78.setTop (mkF m 231 #[.val (.int p1), .val (.int p2), .val (.int p3), .val (.int p4), .val (.int p5), .val (.int (1 : Int32)), .val (.int (0 : Int32)), .val (.ref fk_50), .val (.int vo0), .val (.int vo1), .val (.int p5), .val (.int vt1), .val (.ref ad_51), .val (.int vo0), .val (.int p5), .val (.int (1 : Int32))] [(.int vo0), (.int vo0)])) (fun t hr => XS.iload X_78.here hx rfl (hb hby at_229) rfl hr) ?_
        refine Go.st (S' := T_78.setTop (mkF m 234 #[.val (.int p1), .val (.int p2), .val (.int p3), .val (.int p4), .val (.int p5), .val (.int (1 : Int32)), .val (.int (0 : Int32)), .val (.ref fk_50), .val (.int vo0), .val (.int vo1), .val (.int p5), .val (.int vt1), .val (.ref ad_51), .val (.int vo0), .val (.int p5), .val (.int (1 : Int32))] [])) (fun t hr => XS.icmpNo X_78.here hx rfl (hb hby at_231) rfl (XT.ii_ne_f rfl) hr) ?_
        refine Go.st (S' := T_78.setTop (mkF m 235 #[.val (.int p1), .val (.int p2), .val (.int p3), .val (.int p4), .val (.int p5), .val (.int (1 : Int32)), .val (.int (0 : Int32)), .val (.ref fk_50), .val (.int vo0), .val (.int vo1), .val (.int p5), .val (.int vt1), .val (.ref ad_51), .val (.int vo0), .val (.int p5), .val (.int (1 : Int32))] [(.int (1 : Int32))])) (fun t hr => XS.iconst X_78.here hx rfl (hb hby at_234) hr) ?_
        refine Go.st (S' := T_78.setTop (mkF m 239 #[.val (.int p1), .val (.int p2), .val (.int p3), .val (.int p4), .val (.int p5), .val (.int (1 : Int32)), .val (.int (0 : Int32)), .val (.ref fk_50), .val (.int vo0), .val (.int vo1), .val (.int p5), .val (.int vt1), .val (.ref ad_51), .val (.int vo0), .val (.int p5), .val (.int (1 : Int32))] [(.int (1 : Int32))])) (fun t hr => XS.goto X_78.here hx rfl (pc0 := 235) (pc' := 239) rfl (hb hby at_235) (by decide) (by decide) hr) ?_
        refine Go.st (S' := T_78.setTop (mkF m 241 #[.val (.int p1), .val (.int p2), .val (.int p3), .val (.int p4), .val (.int p5), .val (.int (1 : Int32)), .val (.int (0 : Int32)), .val (.ref fk_50), .val (.int vo0), .val (.int vo1), .val (.int p5), .val (.int vt1), .val (.ref ad_51), .val (.int vo0), .val (.int p5), .val (.int (1 : Int32))] [])) (fun t hr => XS.istore X_78.here hx rfl (hb hby at_239) rfl (l' := #[.val (.int p1), .val (.int p2), .val (.int p3), .val (.int p4), .val (.int p5), .val (.int (1 : Int32)), .val (.int (0 : Int32)), .val (.ref fk_50), .val (.int vo0), .val (.int vo1), .val (.int p5), .val (.int vt1), .val (.ref ad_51), .val (.int vo0), .val (.int p5), .val (.int (1 : Int32))]) rfl hr) ?_
        refine Go.st (S' := T_78.setTop (mkF m 243 #[.val (.int p1), .val (.int p2), .val (.int p3), .val (.int p4), .val (.int p5), .val (.int (1 : Int32)), .val (.int (0 : Int32)), .val (.ref fk_50), .val (.int vo0), .val (.int vo1), .val (.int p5), .val (.int vt1), .val (.ref ad_51), .val (.int vo0), .val (.int p5), .val (.int (1 : Int32))] [(.int (1 : Int32))])) (fun t hr => XS.iload X_78.here hx rfl (hb hby at_241) rfl hr) ?_
        refine Go.retN X_78 hx hlk (t := .boolean) hret (by simp) (hb hby at_243) (by decide) (by decide) ?_
        try rw [e_78]
        exact ⟨rfl, N_78'⟩
      · refine Go.st (S' := T_71.setTop (mkF m 168 #[.val (.int p1), .val (.int p2), .val (.int p3), .val (.int p4), .val (.int p5), .val (.int (1 : Int32)), .val (.int (0 : Int32)), .val (.ref fk_50), .val (.int vo0), .val (.int vo1), .val (.int p5), .val (.int vt1), .val (.ref ad_51), .val (.int vo0), .val (.int p5), .val (.int (1 : Int32))] [])) (fun t hr => XS.ifNo X_71.here hx rfl (hb hby at_165) rfl (XT.i0_lt_f hc73) hr) ?_
        have hop : 0 ≤ p2.toInt := by have q := hc73; rw [Int32.lt_iff_toInt_lt] at q; have z : (0 : Int32).toInt = 0 := rfl; omega
        refine Go.st (S' := T_71.setTop (mkF m 170 #[.val (.int p1), .val (.int p2), .val (.int p3), .val (.int p4), .val (.int p5), .val (.int (1 : Int32)), .val (.int (0 : Int32)), .val (.ref fk_50), .val (.int vo0), .val (.int vo1), .val (.int p5), .val (.int vt1), .val (.ref ad_51), .val (.int vo0), .val (.int p5), .val (.int (1 : Int32))] [(.ref ad_51)])) (fun t hr => XS.aload X_71.here hx rfl (hb hby at_168) rfl rfl hr) ?_
        refine Go.st (S' := T_71.setTop (mkF m 172 #[.val (.int p1), .val (.int p2), .val (.int p3), .val (.int p4), .val (.int p5), .val (.int (1 : Int32)), .val (.int (0 : Int32)), .val (.ref fk_50), .val (.int vo0), .val (.int vo1), .val (.int p5), .val (.int vt1), .val (.ref ad_51), .val (.int vo0), .val (.int p5), .val (.int (1 : Int32))] [(.int (1 : Int32)), (.ref ad_51)])) (fun t hr => XS.iload X_71.here hx rfl (hb hby at_170) rfl hr) ?_
        obtain ⟨v_79, T_79, h_79, L_79, X_79, e_79, Q_79, st_79⟩ := own_callV X_71 hx hZ (C := "com/example/items_in_arrays/itemsinarrays/xpath/RegularExpressionProgram$Builder") (y := ⟨"com/example/items_in_arrays/itemsinarrays/xpath/RegularExpressionProgram$Builder", "characters", "(I)Lcom/example/items_in_arrays/itemsinarrays/xpath/CodepointSet;"⟩) (z := ⟨"com/example/items_in_arrays/itemsinarrays/xpath/RegularExpressionProgram$Builder", "characters", "(I)Lcom/example/items_in_arrays/itemsinarrays/xpath/CodepointSet;"⟩) hown (hw _ (List.mem_of_getElem? (i := 119) rfl)) (hw _ (List.mem_of_getElem? (i := 120) rfl)) (hw _ (List.mem_of_getElem? (i := 122) rfl)) (hw _ (List.mem_of_getElem? (i := 122) rfl)) (hw _ (List.mem_of_getElem? (i := 121) rfl)) (hw _ (List.mem_of_getElem? (i := 45) rfl)) (hw _ (List.mem_of_getElem? (i := 123) rfl)) (by decide) e_71 (a := ad_51) F_68 (argsL := [(.int (1 : Int32))]) (rest := []) (rmChr1 l Z a0 hw ad_51 h_63 n0 (by omega) ca_52 oa_52 ta_52 f1 p2 p3 [(.ref f1), (.ref fk_50), .null, .null, .null, .null, .null, .null, .null, .null, .null, .null, .null, .null, .null, .null] [(.int vo0), (.int p2), (.int 0), (.int 0), (.int 0), (.int 0), (.int 0), (.int 0), (.int 0), (.int 0), (.int 0), (.int 0), (.int 0), (.int 0), (.int 0), (.int 0)] [(.int p5), (.int p3), (.int 0), (.int 0), (.int 0), (.int 0), (.int 0), (.int 0), (.int 0), (.int 0), (.int 0), (.int 0), (.int 0), (.int 0), (.int 0), (.int 0)]  FC_63 FO_63 FT_63 AC_63' AO_63' AT_63' rfl rfl rfl F_70 SC1 (by rw [hfk1]; rfl) rfl hop) (g := (mkF m 172 #[.val (.int p1), .val (.int p2), .val (.int p3), .val (.int p4), .val (.int p5), .val (.int (1 : Int32)), .val (.int (0 : Int32)), .val (.ref fk_50), .val (.int vo0), .val (.int vo1), .val (.int p5), .val (.int vt1), .val (.ref ad_51), .val (.int vo0), .val (.int p5), .val (.int (1 : Int32))] [(.int (1 : Int32)), (.ref ad_51)])) rfl (by rw [hml]; rfl) (lenOf pd_8 rfl) rfl (hb hby at_172) (W := 0) (by show 2 * 0 + _ ≤ _; exact Nat.le_of_eq rfl) (by decide) (by decide) (by decide) (by decide)
        obtain ⟨cs_79, rfl, N_79, K_79, EE_79, ra_79, GG_79, AA_79⟩ := Q_79
        have N_79' := Fr.app N_69' N_79
        have z_79 := K_79.1
        refine Go.st (S' := T_79.setTop (mkF m 175 #[.val (.int p1), .val (.int p2), .val (.int p3), .val (.int p4), .val (.int p5), .val (.int (1 : Int32)), .val (.int (0 : Int32)), .val (.ref fk_50), .val (.int vo0), .val (.int vo1), .val (.int p5), .val (.int vt1), .val (.ref ad_51), .val (.int vo0), .val (.int p5), .val (.int (1 : Int32))] [(.ref cs_79)])) st_79 ?_
        obtain ⟨v_80, T_80, h_80, L_80, X_80, e_80, Q_80, st_80⟩ := own_callV X_79 hx hZ (C := "com/example/items_in_arrays/itemsinarrays/xpath/CodepointSet") (y := ⟨"com/example/items_in_arrays/itemsinarrays/xpath/CodepointSet", "single", "()I"⟩) (z := ⟨"com/example/items_in_arrays/itemsinarrays/xpath/CodepointSet", "single", "()I"⟩) hown (hw _ (List.mem_of_getElem? (i := 144) rfl)) (hw _ (List.mem_of_getElem? (i := 145) rfl)) (hw _ (List.mem_of_getElem? (i := 147) rfl)) (hw _ (List.mem_of_getElem? (i := 147) rfl)) (hw _ (List.mem_of_getElem? (i := 146) rfl)) (hw _ (List.mem_of_getElem? (i := 127) rfl)) (hw _ (List.mem_of_getElem? (i := 148) rfl)) (by decide) e_79 (a := cs_79) EE_79 (argsL := []) (rest := []) (rmSg l Z a0 hw cs_79 h_79 n0 (by omega) p2 ra_79 GG_79 AA_79) (g := (mkF m 175 #[.val (.int p1), .val (.int p2), .val (.int p3), .val (.int p4), .val (.int p5), .val (.int (1 : Int32)), .val (.int (0 : Int32)), .val (.ref fk_50), .val (.int vo0), .val (.int vo1), .val (.int p5), .val (.int vt1), .val (.ref ad_51), .val (.int vo0), .val (.int p5), .val (.int (1 : Int32))] [(.ref cs_79)])) rfl (by rw [hml]; rfl) (lenOf pd_9 rfl) rfl (hb hby at_175) (W := 0) (by show 2 * 0 + _ ≤ _; exact Nat.le_of_eq rfl) (by decide) (by decide) (by decide) (by decide)
        obtain ⟨rfl, N_80, hh_80⟩ := Q_80
        have N_80' := Fr.app N_79' N_80
        rw [hh_80] at e_80
        refine Go.st (S' := T_80.setTop (mkF m 178 #[.val (.int p1), .val (.int p2), .val (.int p3), .val (.int p4), .val (.int p5), .val (.int (1 : Int32)), .val (.int (0 : Int32)), .val (.ref fk_50), .val (.int vo0), .val (.int vo1), .val (.int p5), .val (.int vt1), .val (.ref ad_51), .val (.int vo0), .val (.int p5), .val (.int (1 : Int32))] [(.int p2)])) st_80 ?_
        refine Go.st (S' := T_80.setTop (mkF m 179 #[.val (.int p1), .val (.int p2), .val (.int p3), .val (.int p4), .val (.int p5), .val (.int (1 : Int32)), .val (.int (0 : Int32)), .val (.ref fk_50), .val (.int vo0), .val (.int vo1), .val (.int p5), .val (.int vt1), .val (.ref ad_51), .val (.int vo0), .val (.int p5), .val (.int (1 : Int32))] [(.int p2), (.int p2)])) (fun t hr => XS.iloadN X_80.here hx rfl (hb hby at_178) rfl hr) ?_
        refine Go.st (S' := T_80.setTop (mkF m 182 #[.val (.int p1), .val (.int p2), .val (.int p3), .val (.int p4), .val (.int p5), .val (.int (1 : Int32)), .val (.int (0 : Int32)), .val (.ref fk_50), .val (.int vo0), .val (.int vo1), .val (.int p5), .val (.int vt1), .val (.ref ad_51), .val (.int vo0), .val (.int p5), .val (.int (1 : Int32))] [])) (fun t hr => XS.icmpNo X_80.here hx rfl (hb hby at_179) rfl (XT.ii_ne_f rfl) hr) ?_
        refine Go.st (S' := T_80.setTop (mkF m 183 #[.val (.int p1), .val (.int p2), .val (.int p3), .val (.int p4), .val (.int p5), .val (.int (1 : Int32)), .val (.int (0 : Int32)), .val (.ref fk_50), .val (.int vo0), .val (.int vo1), .val (.int p5), .val (.int vt1), .val (.ref ad_51), .val (.int vo0), .val (.int p5), .val (.int (1 : Int32))] [(.int (1 : Int32))])) (fun t hr => XS.iconst X_80.here hx rfl (hb hby at_182) hr) ?_
        refine Go.st (S' := T_80.setTop (mkF m 187 #[.val (.int p1), .val (.int p2), .val (.int p3), .val (.int p4), .val (.int p5), .val (.int (1 : Int32)), .val (.int (0 : Int32)), .val (.ref fk_50), .val (.int vo0), .val (.int vo1), .val (.int p5), .val (.int vt1), .val (.ref ad_51), .val (.int vo0), .val (.int p5), .val (.int (1 : Int32))] [(.int (1 : Int32))])) (fun t hr => XS.goto X_80.here hx rfl (pc0 := 183) (pc' := 187) rfl (hb hby at_183) (by decide) (by decide) hr) ?_
        refine Go.st (S' := T_80.setTop (mkF m 189 #[.val (.int p1), .val (.int p2), .val (.int p3), .val (.int p4), .val (.int p5), .val (.int (1 : Int32)), .val (.int (0 : Int32)), .val (.ref fk_50), .val (.int vo0), .val (.int vo1), .val (.int p5), .val (.int vt1), .val (.ref ad_51), .val (.int vo0), .val (.int p5), .val (.int (1 : Int32))] [])) (fun t hr => XS.istore X_80.here hx rfl (hb hby at_187) rfl (l' := #[.val (.int p1), .val (.int p2), .val (.int p3), .val (.int p4), .val (.int p5), .val (.int (1 : Int32)), .val (.int (0 : Int32)), .val (.ref fk_50), .val (.int vo0), .val (.int vo1), .val (.int p5), .val (.int vt1), .val (.ref ad_51), .val (.int vo0), .val (.int p5), .val (.int (1 : Int32))]) rfl hr) ?_
        refine Go.st (S' := T_80.setTop (mkF m 191 #[.val (.int p1), .val (.int p2), .val (.int p3), .val (.int p4), .val (.int p5), .val (.int (1 : Int32)), .val (.int (0 : Int32)), .val (.ref fk_50), .val (.int vo0), .val (.int vo1), .val (.int p5), .val (.int vt1), .val (.ref ad_51), .val (.int vo0), .val (.int p5), .val (.int (1 : Int32))] [(.int (1 : Int32))])) (fun t hr => XS.iload X_80.here hx rfl (hb hby at_189) rfl hr) ?_
        refine Go.st (S' := T_80.setTop (mkF m 194 #[.val (.int p1), .val (.int p2), .val (.int p3), .val (.int p4), .val (.int p5), .val (.int (1 : Int32)), .val (.int (0 : Int32)), .val (.ref fk_50), .val (.int vo0), .val (.int vo1), .val (.int p5), .val (.int vt1), .val (.ref ad_51), .val (.int vo0), .val (.int p5), .val (.int (1 : Int32))] [])) (fun t hr => XS.ifNo X_80.here hx rfl (hb hby at_191) rfl (XT.i0_eq_f (by decide)) hr) ?_
        refine Go.st (S' := T_80.setTop (mkF m 196 #[.val (.int p1), .val (.int p2), .val (.int p3), .val (.int p4), .val (.int p5), .val (.int (1 : Int32)), .val (.int (0 : Int32)), .val (.ref fk_50), .val (.int vo0), .val (.int vo1), .val (.int p5), .val (.int vt1), .val (.ref ad_51), .val (.int vo0), .val (.int p5), .val (.int (1 : Int32))] [(.ref ad_51)])) (fun t hr => XS.aload X_80.here hx rfl (hb hby at_194) rfl rfl hr) ?_
        refine Go.st (S' := T_80.setTop (mkF m 198 #[.val (.int p1), .val (.int p2), .val (.int p3), .val (.int p4), .val (.int p5), .val (.int (1 : Int32)), .val (.int (0 : Int32)), .val (.ref fk_50), .val (.int vo0), .val (.int vo1), .val (.int p5), .val (.int vt1), .val (.ref ad_51), .val (.int vo0), .val (.int p5), .val (.int (1 : Int32))] [(.int (0 : Int32)), (.ref ad_51)])) (fun t hr => XS.iload X_80.here hx rfl (hb hby at_196) rfl hr) ?_
        have F_81 := (FC_63.keep K_79 nin0)
        have F_82 := (FO_63.keep K_79 nin0)
        have F_83 := (FT_63.keep K_79 nin0)
        have F_84 := (AC_63'.keep K_79 nin0)
        have F_85 := (AO_63'.keep K_79 nin0)
        have F_86 := (AT_63'.keep K_79 nin0)
        have F_88 := (F_68.keep K_79)
        obtain ⟨v_87, T_87, h_87, L_87, X_87, e_87, Q_87, st_87⟩ := own_callV X_80 hx hZ (C := "com/example/items_in_arrays/itemsinarrays/xpath/RegularExpressionProgram$Builder") (y := ⟨"com/example/items_in_arrays/itemsinarrays/xpath/RegularExpressionProgram$Builder", "code", "(I)Lcom/example/items_in_arrays/itemsinarrays/xpath/RegularExpressionProgram$Code;"⟩) (z := ⟨"com/example/items_in_arrays/itemsinarrays/xpath/RegularExpressionProgram$Builder", "code", "(I)Lcom/example/items_in_arrays/itemsinarrays/xpath/RegularExpressionProgram$Code;"⟩) hown (hw _ (List.mem_of_getElem? (i := 109) rfl)) (hw _ (List.mem_of_getElem? (i := 110) rfl)) (hw _ (List.mem_of_getElem? (i := 112) rfl)) (hw _ (List.mem_of_getElem? (i := 112) rfl)) (hw _ (List.mem_of_getElem? (i := 111) rfl)) (hw _ (List.mem_of_getElem? (i := 45) rfl)) (hw _ (List.mem_of_getElem? (i := 113) rfl)) (by decide) e_80 (a := ad_51) F_88 (argsL := [(.int (0 : Int32))]) (rest := []) (rmCode0 l Z a0 hw ad_51 h_79 n0 (by omega) ca_52 oa_52 ta_52 f1 vo0 p5 [(.ref f1), (.ref fk_50), .null, .null, .null, .null, .null, .null, .null, .null, .null, .null, .null, .null, .null, .null] [(.int vo0), (.int p2), (.int 0), (.int 0), (.int 0), (.int 0), (.int 0), (.int 0), (.int 0), (.int 0), (.int 0), (.int 0), (.int 0), (.int 0), (.int 0), (.int 0)] [(.int p5), (.int p3), (.int 0), (.int 0), (.int 0), (.int 0), (.int 0), (.int 0), (.int 0), (.int 0), (.int 0), (.int 0), (.int 0), (.int 0), (.int 0), (.int 0)]  F_81 F_82 F_83 F_84 F_85 F_86 rfl rfl rfl rfl) (g := (mkF m 198 #[.val (.int p1), .val (.int p2), .val (.int p3), .val (.int p4), .val (.int p5), .val (.int (1 : Int32)), .val (.int (0 : Int32)), .val (.ref fk_50), .val (.int vo0), .val (.int vo1), .val (.int p5), .val (.int vt1), .val (.ref ad_51), .val (.int vo0), .val (.int p5), .val (.int (1 : Int32))] [(.int (0 : Int32)), (.ref ad_51)])) rfl (by rw [hml]; rfl) (lenOf pd_4 rfl) rfl (hb hby at_198) (W := 0) (by show 2 * 0 + _ ≤ _; exact Nat.le_of_eq rfl) (by decide) (by decide) (by decide) (by decide)
        obtain ⟨rfl, N_87, hh_87⟩ := Q_87
        have N_87' := Fr.app N_80' N_87
        rw [hh_87] at e_87
        refine Go.st (S' := T_87.setTop (mkF m 201 #[.val (.int p1), .val (.int p2), .val (.int p3), .val (.int p4), .val (.int p5), .val (.int (1 : Int32)), .val (.int (0 : Int32)), .val (.ref fk_50), .val (.int vo0), .val (.int vo1), .val (.int p5), .val (.int vt1), .val (.ref ad_51), .val (.int vo0), .val (.int p5), .val (.int (1 : Int32))] [(.ref f1)])) st_87 ?_
        have F_89 := (F_70.keep K_79 all0)
        obtain ⟨T_90, X_90, e_90, st_90⟩ := getS2 X_87 hx hZ hown (host := "") (Or.inl (hw _ (List.mem_of_getElem? (i := 11) rfl))) Via.refl e_87 (SC1.ext F_89.2) (g := (mkF m 201 #[.val (.int p1), .val (.int p2), .val (.int p3), .val (.int p4), .val (.int p5), .val (.int (1 : Int32)), .val (.int (0 : Int32)), .val (.ref fk_50), .val (.int vo0), .val (.int vo1), .val (.int p5), .val (.int vt1), .val (.ref ad_51), .val (.int vo0), .val (.int p5), .val (.int (1 : Int32))] [(.ref f1)])) rfl (hb hby at_201)
        refine Go.st (S' := T_90.setTop (mkF m 204 #[.val (.int p1), .val (.int p2), .val (.int p3), .val (.int p4), .val (.int p5), .val (.int (1 : Int32)), .val (.int (0 : Int32)), .val (.ref fk_50), .val (.int vo0), .val (.int vo1), .val (.int p5), .val (.int vt1), .val (.ref ad_51), .val (.int vo0), .val (.int p5), .val (.int (1 : Int32))] [(.ref f1), (.ref f1)])) st_90 ?_
        refine Go.st (S' := T_90.setTop (mkF m 207 #[.val (.int p1), .val (.int p2), .val (.int p3), .val (.int p4), .val (.int p5), .val (.int (1 : Int32)), .val (.int (0 : Int32)), .val (.ref fk_50), .val (.int vo0), .val (.int vo1), .val (.int p5), .val (.int vt1), .val (.ref ad_51), .val (.int vo0), .val (.int p5), .val (.int (1 : Int32))] [])) (fun t hr => XT.acmpNo X_90.here hx rfl (hb hby at_204) rfl rfl rfl (XT.aa_ne_f rfl) hr) ?_
        refine Go.st (S' := T_90.setTop (mkF m 209 #[.val (.int p1), .val (.int p2), .val (.int p3), .val (.int p4), .val (.int p5), .val (.int (1 : Int32)), .val (.int (0 : Int32)), .val (.ref fk_50), .val (.int vo0), .val (.int vo1), .val (.int p5), .val (.int vt1), .val (.ref ad_51), .val (.int vo0), .val (.int p5), .val (.int (1 : Int32))] [(.ref ad_51)])) (fun t hr => XS.aload X_90.here hx rfl (hb hby at_207) rfl rfl hr) ?_
        refine Go.st (S' := T_90.setTop (mkF m 211 #[.val (.int p1), .val (.int p2), .val (.int p3), .val (.int p4), .val (.int p5), .val (.int (1 : Int32)), .val (.int (0 : Int32)), .val (.ref fk_50), .val (.int vo0), .val (.int vo1), .val (.int p5), .val (.int vt1), .val (.ref ad_51), .val (.int vo0), .val (.int p5), .val (.int (1 : Int32))] [(.int (0 : Int32)), (.ref ad_51)])) (fun t hr => XS.iload X_90.here hx rfl (hb hby at_209) rfl hr) ?_
        obtain ⟨v_91, T_91, h_91, L_91, X_91, e_91, Q_91, st_91⟩ := own_callV X_90 hx hZ (C := "com/example/items_in_arrays/itemsinarrays/xpath/RegularExpressionProgram$Builder") (y := ⟨"com/example/items_in_arrays/itemsinarrays/xpath/RegularExpressionProgram$Builder", "target", "(I)I"⟩) (z := ⟨"com/example/items_in_arrays/itemsinarrays/xpath/RegularExpressionProgram$Builder", "target", "(I)I"⟩) hown (hw _ (List.mem_of_getElem? (i := 114) rfl)) (hw _ (List.mem_of_getElem? (i := 115) rfl)) (hw _ (List.mem_of_getElem? (i := 117) rfl)) (hw _ (List.mem_of_getElem? (i := 117) rfl)) (hw _ (List.mem_of_getElem? (i := 116) rfl)) (hw _ (List.mem_of_getElem? (i := 45) rfl)) (hw _ (List.mem_of_getElem? (i := 118) rfl)) (by decide) e_90 (a := ad_51) F_88 (argsL := [(.int (0 : Int32))]) (rest := []) (rmTgt0 l Z a0 hw ad_51 h_79 n0 (by omega) ca_52 oa_52 ta_52 f1 vo0 p5 [(.ref f1), (.ref fk_50), .null, .null, .null, .null, .null, .null, .null, .null, .null, .null, .null, .null, .null, .null] [(.int vo0), (.int p2), (.int 0), (.int 0), (.int 0), (.int 0), (.int 0), (.int 0), (.int 0), (.int 0), (.int 0), (.int 0), (.int 0), (.int 0), (.int 0), (.int 0)] [(.int p5), (.int p3), (.int 0), (.int 0), (.int 0), (.int 0), (.int 0), (.int 0), (.int 0), (.int 0), (.int 0), (.int 0), (.int 0), (.int 0), (.int 0), (.int 0)]  F_81 F_82 F_83 F_84 F_85 F_86 rfl rfl rfl rfl) (g := (mkF m 211 #[.val (.int p1), .val (.int p2), .val (.int p3), .val (.int p4), .val (.int p5), .val (.int (1 : Int32)), .val (.int (0 : Int32)), .val (.ref fk_50), .val (.int vo0), .val (.int vo1), .val (.int p5), .val (.int vt1), .val (.ref ad_51), .val (.int vo0), .val (.int p5), .val (.int (1 : Int32))] [(.int (0 : Int32)), (.ref ad_51)])) rfl (by rw [hml]; rfl) (lenOf pd_7 rfl) rfl (hb hby at_211) (W := 0) (by show 2 * 0 + _ ≤ _; exact Nat.le_of_eq rfl) (by decide) (by decide) (by decide) (by decide)
        obtain ⟨rfl, N_91, hh_91⟩ := Q_91
        have N_91' := Fr.app N_87' N_91
        rw [hh_91] at e_91
        refine Go.st (S' := T_91.setTop (mkF m 214 #[.val (.int p1), .val (.int p2), .val (.int p3), .val (.int p4), .val (.int p5), .val (.int (1 : Int32)), .val (.int (0 : Int32)), .val (.ref fk_50), .val (.int vo0), .val (.int vo1), .val (.int p5), .val (.int vt1), .val (.ref ad_51), .val (.int vo0), .val (.int p5), .val (.int (1 : Int32))] [(.int p5)])) st_91 ?_
        refine Go.st (S' := T_91.setTop (mkF m 216 #[.val (.int p1), .val (.int p2), .val (.int p3), .val (.int p4), .val (.int p5), .val (.int (1 : Int32)), .val (.int (0 : Int32)), .val (.ref fk_50), .val (.int vo0), .val (.int vo1), .val (.int p5), .val (.int vt1), .val (.ref ad_51), .val (.int vo0), .val (.int p5), .val (.int (1 : Int32))] [(.int p5), (.int p5)])) (fun t hr => XS.iload X_91.here hx rfl (hb hby at_214) rfl hr) ?_
        refine Go.st (S' := T_91.setTop (mkF m 219 #[.val (.int p1), .val (.int p2), .val (.int p3), .val (.int p4), .val (.int p5), .val (.int (1 : Int32)), .val (.int (0 : Int32)), .val (.ref fk_50), .val (.int vo0), .val (.int vo1), .val (.int p5), .val (.int vt1), .val (.ref ad_51), .val (.int vo0), .val (.int p5), .val (.int (1 : Int32))] [])) (fun t hr => XS.icmpNo X_91.here hx rfl (hb hby at_216) rfl (XT.ii_ne_f rfl) hr) ?_
        refine Go.st (S' := T_91.setTop (mkF m 221 #[.val (.int p1), .val (.int p2), .val (.int p3), .val (.int p4), .val (.int p5), .val (.int (1 : Int32)), .val (.int (0 : Int32)), .val (.ref fk_50), .val (.int vo0), .val (.int vo1), .val (.int p5), .val (.int vt1), .val (.ref ad_51), .val (.int vo0), .val (.int p5), .val (.int (1 : Int32))] [(.ref ad_51)])) (fun t hr => XS.aload X_91.here hx rfl (hb hby at_219) rfl rfl hr) ?_
        refine Go.st (S' := T_91.setTop (mkF m 223 #[.val (.int p1), .val (.int p2), .val (.int p3), .val (.int p4), .val (.int p5), .val (.int (1 : Int32)), .val (.int (0 : Int32)), .val (.ref fk_50), .val (.int vo0), .val (.int vo1), .val (.int p5), .val (.int vt1), .val (.ref ad_51), .val (.int vo0), .val (.int p5), .val (.int (1 : Int32))] [(.int (0 : Int32)), (.ref ad_51)])) (fun t hr => XS.iload X_91.here hx rfl (hb hby at_221) rfl hr) ?_
        obtain ⟨v_92, T_92, h_92, L_92, X_92, e_92, Q_92, st_92⟩ := own_callV X_91 hx hZ (C := "com/example/items_in_arrays/itemsinarrays/xpath/RegularExpressionProgram$Builder") (y := ⟨"com/example/items_in_arrays/itemsinarrays/xpath/RegularExpressionProgram$Builder", "characters", "(I)Lcom/example/items_in_arrays/itemsinarrays/xpath/CodepointSet;"⟩) (z := ⟨"com/example/items_in_arrays/itemsinarrays/xpath/RegularExpressionProgram$Builder", "characters", "(I)Lcom/example/items_in_arrays/itemsinarrays/xpath/CodepointSet;"⟩) hown (hw _ (List.mem_of_getElem? (i := 119) rfl)) (hw _ (List.mem_of_getElem? (i := 120) rfl)) (hw _ (List.mem_of_getElem? (i := 122) rfl)) (hw _ (List.mem_of_getElem? (i := 122) rfl)) (hw _ (List.mem_of_getElem? (i := 121) rfl)) (hw _ (List.mem_of_getElem? (i := 45) rfl)) (hw _ (List.mem_of_getElem? (i := 123) rfl)) (by decide) e_91 (a := ad_51) F_88 (argsL := [(.int (0 : Int32))]) (rest := []) (rmChr0 l Z a0 hw ad_51 h_79 n0 (by omega) ca_52 oa_52 ta_52 f1 vo0 p5 [(.ref f1), (.ref fk_50), .null, .null, .null, .null, .null, .null, .null, .null, .null, .null, .null, .null, .null, .null] [(.int vo0), (.int p2), (.int 0), (.int 0), (.int 0), (.int 0), (.int 0), (.int 0), (.int 0), (.int 0), (.int 0), (.int 0), (.int 0), (.int 0), (.int 0), (.int 0)] [(.int p5), (.int p3), (.int 0), (.int 0), (.int 0), (.int 0), (.int 0), (.int 0), (.int 0), (.int 0), (.int 0), (.int 0), (.int 0), (.int 0), (.int 0), (.int 0)]  F_81 F_82 F_83 F_84 F_85 F_86 rfl rfl rfl F_89 SC1 rfl rfl hvo0p) (g := (mkF m 223 #[.val (.int p1), .val (.int p2), .val (.int p3), .val (.int p4), .val (.int p5), .val (.int (1 : Int32)), .val (.int (0 : Int32)), .val (.ref fk_50), .val (.int vo0), .val (.int vo1), .val (.int p5), .val (.int vt1), .val (.ref ad_51), .val (.int vo0), .val (.int p5), .val (.int (1 : Int32))] [(.int (0 : Int32)), (.ref ad_51)])) rfl (by rw [hml]; rfl) (lenOf pd_8 rfl) rfl (hb hby at_223) (W := 0) (by show 2 * 0 + _ ≤ _; exact Nat.le_of_eq rfl) (by decide) (by decide) (by decide) (by decide)
        obtain ⟨cs_92, rfl, N_92, K_92, EE_92, ra_92, GG_92, AA_92⟩ := Q_92
        have N_92' := Fr.app N_91' N_92
        have z_92 := K_92.1
        refine Go.st (S' := T_92.setTop (mkF m 226 #[.val (.int p1), .val (.int p2), .val (.int p3), .val (.int p4), .val (.int p5), .val (.int (1 : Int32)), .val (.int (0 : Int32)), .val (.ref fk_50), .val (.int vo0), .val (.int vo1), .val (.int p5), .val (.int vt1), .val (.ref ad_51), .val (.int vo0), .val (.int p5), .val (.int (1 : Int32))] [(.ref cs_92)])) st_92 ?_
        obtain ⟨v_93, T_93, h_93, L_93, X_93, e_93, Q_93, st_93⟩ := own_callV X_92 hx hZ (C := "com/example/items_in_arrays/itemsinarrays/xpath/CodepointSet") (y := ⟨"com/example/items_in_arrays/itemsinarrays/xpath/CodepointSet", "single", "()I"⟩) (z := ⟨"com/example/items_in_arrays/itemsinarrays/xpath/CodepointSet", "single", "()I"⟩) hown (hw _ (List.mem_of_getElem? (i := 144) rfl)) (hw _ (List.mem_of_getElem? (i := 145) rfl)) (hw _ (List.mem_of_getElem? (i := 147) rfl)) (hw _ (List.mem_of_getElem? (i := 147) rfl)) (hw _ (List.mem_of_getElem? (i := 146) rfl)) (hw _ (List.mem_of_getElem? (i := 127) rfl)) (hw _ (List.mem_of_getElem? (i := 148) rfl)) (by decide) e_92 (a := cs_92) EE_92 (argsL := []) (rest := []) (rmSg l Z a0 hw cs_92 h_92 n0 (by omega) vo0 ra_92 GG_92 AA_92) (g := (mkF m 226 #[.val (.int p1), .val (.int p2), .val (.int p3), .val (.int p4), .val (.int p5), .val (.int (1 : Int32)), .val (.int (0 : Int32)), .val (.ref fk_50), .val (.int vo0), .val (.int vo1), .val (.int p5), .val (.int vt1), .val (.ref ad_51), .val (.int vo0), .val (.int p5), .val (.int (1 : Int32))] [(.ref cs_92)])) rfl (by rw [hml]; rfl) (lenOf pd_9 rfl) rfl (hb hby at_226) (W := 0) (by show 2 * 0 + _ ≤ _; exact Nat.le_of_eq rfl) (by decide) (by decide) (by decide) (by decide)
        obtain ⟨rfl, N_93, hh_93⟩ := Q_93
        have N_93' := Fr.app N_92' N_93
        rw [hh_93] at e_93
        refine Go.st (S' := T_93.setTop (mkF m 229 #[.val (.int p1), .val (.int p2), .val (.int p3), .val (.int p4), .val (.int p5), .val (.int (1 : Int32)), .val (.int (0 : Int32)), .val (.ref fk_50), .val (.int vo0), .val (.int vo1), .val (.int p5), .val (.int vt1), .val (.ref ad_51), .val (.int vo0), .val (.int p5), .val (.int (1 : Int32))] [(.int vo0)])) st_93 ?_
        refine Go.st (S' := T_93.setTop (mkF m 231 #[.val (.int p1), .val (.int p2), .val (.int p3), .val (.int p4), .val (.int p5), .val (.int (1 : Int32)), .val (.int (0 : Int32)), .val (.ref fk_50), .val (.int vo0), .val (.int vo1), .val (.int p5), .val (.int vt1), .val (.ref ad_51), .val (.int vo0), .val (.int p5), .val (.int (1 : Int32))] [(.int vo0), (.int vo0)])) (fun t hr => XS.iload X_93.here hx rfl (hb hby at_229) rfl hr) ?_
        refine Go.st (S' := T_93.setTop (mkF m 234 #[.val (.int p1), .val (.int p2), .val (.int p3), .val (.int p4), .val (.int p5), .val (.int (1 : Int32)), .val (.int (0 : Int32)), .val (.ref fk_50), .val (.int vo0), .val (.int vo1), .val (.int p5), .val (.int vt1), .val (.ref ad_51), .val (.int vo0), .val (.int p5), .val (.int (1 : Int32))] [])) (fun t hr => XS.icmpNo X_93.here hx rfl (hb hby at_231) rfl (XT.ii_ne_f rfl) hr) ?_
        refine Go.st (S' := T_93.setTop (mkF m 235 #[.val (.int p1), .val (.int p2), .val (.int p3), .val (.int p4), .val (.int p5), .val (.int (1 : Int32)), .val (.int (0 : Int32)), .val (.ref fk_50), .val (.int vo0), .val (.int vo1), .val (.int p5), .val (.int vt1), .val (.ref ad_51), .val (.int vo0), .val (.int p5), .val (.int (1 : Int32))] [(.int (1 : Int32))])) (fun t hr => XS.iconst X_93.here hx rfl (hb hby at_234) hr) ?_
        refine Go.st (S' := T_93.setTop (mkF m 239 #[.val (.int p1), .val (.int p2), .val (.int p3), .val (.int p4), .val (.int p5), .val (.int (1 : Int32)), .val (.int (0 : Int32)), .val (.ref fk_50), .val (.int vo0), .val (.int vo1), .val (.int p5), .val (.int vt1), .val (.ref ad_51), .val (.int vo0), .val (.int p5), .val (.int (1 : Int32))] [(.int (1 : Int32))])) (fun t hr => XS.goto X_93.here hx rfl (pc0 := 235) (pc' := 239) rfl (hb hby at_235) (by decide) (by decide) hr) ?_
        refine Go.st (S' := T_93.setTop (mkF m 241 #[.val (.int p1), .val (.int p2), .val (.int p3), .val (.int p4), .val (.int p5), .val (.int (1 : Int32)), .val (.int (0 : Int32)), .val (.ref fk_50), .val (.int vo0), .val (.int vo1), .val (.int p5), .val (.int vt1), .val (.ref ad_51), .val (.int vo0), .val (.int p5), .val (.int (1 : Int32))] [])) (fun t hr => XS.istore X_93.here hx rfl (hb hby at_239) rfl (l' := #[.val (.int p1), .val (.int p2), .val (.int p3), .val (.int p4), .val (.int p5), .val (.int (1 : Int32)), .val (.int (0 : Int32)), .val (.ref fk_50), .val (.int vo0), .val (.int vo1), .val (.int p5), .val (.int vt1), .val (.ref ad_51), .val (.int vo0), .val (.int p5), .val (.int (1 : Int32))]) rfl hr) ?_
        refine Go.st (S' := T_93.setTop (mkF m 243 #[.val (.int p1), .val (.int p2), .val (.int p3), .val (.int p4), .val (.int p5), .val (.int (1 : Int32)), .val (.int (0 : Int32)), .val (.ref fk_50), .val (.int vo0), .val (.int vo1), .val (.int p5), .val (.int vt1), .val (.ref ad_51), .val (.int vo0), .val (.int p5), .val (.int (1 : Int32))] [(.int (1 : Int32))])) (fun t hr => XS.iload X_93.here hx rfl (hb hby at_241) rfl hr) ?_
        refine Go.retN X_93 hx hlk (t := .boolean) hret (by simp) (hb hby at_243) (by decide) (by decide) ?_
        try rw [e_93]
        exact ⟨rfl, N_93'⟩
    · refine Go.st (S' := T_71.setTop (mkF m 189 #[.val (.int p1), .val (.int p2), .val (.int p3), .val (.int p4), .val (.int p5), .val (.int (1 : Int32)), .val (.int (0 : Int32)), .val (.ref fk_50), .val (.int vo0), .val (.int vo1), .val (.int p5), .val (.int vt1), .val (.ref ad_51), .val (.int vo0), .val (.int p5), .val (.int (1 : Int32))] [])) (fun t hr => XT.acmpYes X_71.here hx rfl (pc0 := 161) (pc' := 189) rfl (hb hby at_161) rfl rfl rfl (XT.aa_ne_t hc72) (by decide) (by decide) hr) ?_
      refine Go.st (S' := T_71.setTop (mkF m 191 #[.val (.int p1), .val (.int p2), .val (.int p3), .val (.int p4), .val (.int p5), .val (.int (1 : Int32)), .val (.int (0 : Int32)), .val (.ref fk_50), .val (.int vo0), .val (.int vo1), .val (.int p5), .val (.int vt1), .val (.ref ad_51), .val (.int vo0), .val (.int p5), .val (.int (1 : Int32))] [(.int (1 : Int32))])) (fun t hr => XS.iload X_71.here hx rfl (hb hby at_189) rfl hr) ?_
      refine Go.st (S' := T_71.setTop (mkF m 194 #[.val (.int p1), .val (.int p2), .val (.int p3), .val (.int p4), .val (.int p5), .val (.int (1 : Int32)), .val (.int (0 : Int32)), .val (.ref fk_50), .val (.int vo0), .val (.int vo1), .val (.int p5), .val (.int vt1), .val (.ref ad_51), .val (.int vo0), .val (.int p5), .val (.int (1 : Int32))] [])) (fun t hr => XS.ifNo X_71.here hx rfl (hb hby at_191) rfl (XT.i0_eq_f (by decide)) hr) ?_
      refine Go.st (S' := T_71.setTop (mkF m 196 #[.val (.int p1), .val (.int p2), .val (.int p3), .val (.int p4), .val (.int p5), .val (.int (1 : Int32)), .val (.int (0 : Int32)), .val (.ref fk_50), .val (.int vo0), .val (.int vo1), .val (.int p5), .val (.int vt1), .val (.ref ad_51), .val (.int vo0), .val (.int p5), .val (.int (1 : Int32))] [(.ref ad_51)])) (fun t hr => XS.aload X_71.here hx rfl (hb hby at_194) rfl rfl hr) ?_
      refine Go.st (S' := T_71.setTop (mkF m 198 #[.val (.int p1), .val (.int p2), .val (.int p3), .val (.int p4), .val (.int p5), .val (.int (1 : Int32)), .val (.int (0 : Int32)), .val (.ref fk_50), .val (.int vo0), .val (.int vo1), .val (.int p5), .val (.int vt1), .val (.ref ad_51), .val (.int vo0), .val (.int p5), .val (.int (1 : Int32))] [(.int (0 : Int32)), (.ref ad_51)])) (fun t hr => XS.iload X_71.here hx rfl (hb hby at_196) rfl hr) ?_
      obtain ⟨v_94, T_94, h_94, L_94, X_94, e_94, Q_94, st_94⟩ := own_callV X_71 hx hZ (C := "com/example/items_in_arrays/itemsinarrays/xpath/RegularExpressionProgram$Builder") (y := ⟨"com/example/items_in_arrays/itemsinarrays/xpath/RegularExpressionProgram$Builder", "code", "(I)Lcom/example/items_in_arrays/itemsinarrays/xpath/RegularExpressionProgram$Code;"⟩) (z := ⟨"com/example/items_in_arrays/itemsinarrays/xpath/RegularExpressionProgram$Builder", "code", "(I)Lcom/example/items_in_arrays/itemsinarrays/xpath/RegularExpressionProgram$Code;"⟩) hown (hw _ (List.mem_of_getElem? (i := 109) rfl)) (hw _ (List.mem_of_getElem? (i := 110) rfl)) (hw _ (List.mem_of_getElem? (i := 112) rfl)) (hw _ (List.mem_of_getElem? (i := 112) rfl)) (hw _ (List.mem_of_getElem? (i := 111) rfl)) (hw _ (List.mem_of_getElem? (i := 45) rfl)) (hw _ (List.mem_of_getElem? (i := 113) rfl)) (by decide) e_71 (a := ad_51) F_68 (argsL := [(.int (0 : Int32))]) (rest := []) (rmCode0 l Z a0 hw ad_51 h_63 n0 (by omega) ca_52 oa_52 ta_52 f1 vo0 p5 [(.ref f1), (.ref fk_50), .null, .null, .null, .null, .null, .null, .null, .null, .null, .null, .null, .null, .null, .null] [(.int vo0), (.int p2), (.int 0), (.int 0), (.int 0), (.int 0), (.int 0), (.int 0), (.int 0), (.int 0), (.int 0), (.int 0), (.int 0), (.int 0), (.int 0), (.int 0)] [(.int p5), (.int p3), (.int 0), (.int 0), (.int 0), (.int 0), (.int 0), (.int 0), (.int 0), (.int 0), (.int 0), (.int 0), (.int 0), (.int 0), (.int 0), (.int 0)]  FC_63 FO_63 FT_63 AC_63' AO_63' AT_63' rfl rfl rfl rfl) (g := (mkF m 198 #[.val (.int p1), .val (.int p2), .val (.int p3), .val (.int p4), .val (.int p5), .val (.int (1 : Int32)), .val (.int (0 : Int32)), .val (.ref fk_50), .val (.int vo0), .val (.int vo1), .val (.int p5), .val (.int vt1), .val (.ref ad_51), .val (.int vo0), .val (.int p5), .val (.int (1 : Int32))] [(.int (0 : Int32)), (.ref ad_51)])) rfl (by rw [hml]; rfl) (lenOf pd_4 rfl) rfl (hb hby at_198) (W := 0) (by show 2 * 0 + _ ≤ _; exact Nat.le_of_eq rfl) (by decide) (by decide) (by decide) (by decide)
      obtain ⟨rfl, N_94, hh_94⟩ := Q_94
      have N_94' := Fr.app N_69' N_94
      rw [hh_94] at e_94
      refine Go.st (S' := T_94.setTop (mkF m 201 #[.val (.int p1), .val (.int p2), .val (.int p3), .val (.int p4), .val (.int p5), .val (.int (1 : Int32)), .val (.int (0 : Int32)), .val (.ref fk_50), .val (.int vo0), .val (.int vo1), .val (.int p5), .val (.int vt1), .val (.ref ad_51), .val (.int vo0), .val (.int p5), .val (.int (1 : Int32))] [(.ref f1)])) st_94 ?_
      obtain ⟨T_95, X_95, e_95, st_95⟩ := getS2 X_94 hx hZ hown (host := "") (Or.inl (hw _ (List.mem_of_getElem? (i := 11) rfl))) Via.refl e_94 (SC1.ext F_70.2) (g := (mkF m 201 #[.val (.int p1), .val (.int p2), .val (.int p3), .val (.int p4), .val (.int p5), .val (.int (1 : Int32)), .val (.int (0 : Int32)), .val (.ref fk_50), .val (.int vo0), .val (.int vo1), .val (.int p5), .val (.int vt1), .val (.ref ad_51), .val (.int vo0), .val (.int p5), .val (.int (1 : Int32))] [(.ref f1)])) rfl (hb hby at_201)
      refine Go.st (S' := T_95.setTop (mkF m 204 #[.val (.int p1), .val (.int p2), .val (.int p3), .val (.int p4), .val (.int p5), .val (.int (1 : Int32)), .val (.int (0 : Int32)), .val (.ref fk_50), .val (.int vo0), .val (.int vo1), .val (.int p5), .val (.int vt1), .val (.ref ad_51), .val (.int vo0), .val (.int p5), .val (.int (1 : Int32))] [(.ref f1), (.ref f1)])) st_95 ?_
      refine Go.st (S' := T_95.setTop (mkF m 207 #[.val (.int p1), .val (.int p2), .val (.int p3), .val (.int p4), .val (.int p5), .val (.int (1 : Int32)), .val (.int (0 : Int32)), .val (.ref fk_50), .val (.int vo0), .val (.int vo1), .val (.int p5), .val (.int vt1), .val (.ref ad_51), .val (.int vo0), .val (.int p5), .val (.int (1 : Int32))] [])) (fun t hr => XT.acmpNo X_95.here hx rfl (hb hby at_204) rfl rfl rfl (XT.aa_ne_f rfl) hr) ?_
      refine Go.st (S' := T_95.setTop (mkF m 209 #[.val (.int p1), .val (.int p2), .val (.int p3), .val (.int p4), .val (.int p5), .val (.int (1 : Int32)), .val (.int (0 : Int32)), .val (.ref fk_50), .val (.int vo0), .val (.int vo1), .val (.int p5), .val (.int vt1), .val (.ref ad_51), .val (.int vo0), .val (.int p5), .val (.int (1 : Int32))] [(.ref ad_51)])) (fun t hr => XS.aload X_95.here hx rfl (hb hby at_207) rfl rfl hr) ?_
      refine Go.st (S' := T_95.setTop (mkF m 211 #[.val (.int p1), .val (.int p2), .val (.int p3), .val (.int p4), .val (.int p5), .val (.int (1 : Int32)), .val (.int (0 : Int32)), .val (.ref fk_50), .val (.int vo0), .val (.int vo1), .val (.int p5), .val (.int vt1), .val (.ref ad_51), .val (.int vo0), .val (.int p5), .val (.int (1 : Int32))] [(.int (0 : Int32)), (.ref ad_51)])) (fun t hr => XS.iload X_95.here hx rfl (hb hby at_209) rfl hr) ?_
      obtain ⟨v_96, T_96, h_96, L_96, X_96, e_96, Q_96, st_96⟩ := own_callV X_95 hx hZ (C := "com/example/items_in_arrays/itemsinarrays/xpath/RegularExpressionProgram$Builder") (y := ⟨"com/example/items_in_arrays/itemsinarrays/xpath/RegularExpressionProgram$Builder", "target", "(I)I"⟩) (z := ⟨"com/example/items_in_arrays/itemsinarrays/xpath/RegularExpressionProgram$Builder", "target", "(I)I"⟩) hown (hw _ (List.mem_of_getElem? (i := 114) rfl)) (hw _ (List.mem_of_getElem? (i := 115) rfl)) (hw _ (List.mem_of_getElem? (i := 117) rfl)) (hw _ (List.mem_of_getElem? (i := 117) rfl)) (hw _ (List.mem_of_getElem? (i := 116) rfl)) (hw _ (List.mem_of_getElem? (i := 45) rfl)) (hw _ (List.mem_of_getElem? (i := 118) rfl)) (by decide) e_95 (a := ad_51) F_68 (argsL := [(.int (0 : Int32))]) (rest := []) (rmTgt0 l Z a0 hw ad_51 h_63 n0 (by omega) ca_52 oa_52 ta_52 f1 vo0 p5 [(.ref f1), (.ref fk_50), .null, .null, .null, .null, .null, .null, .null, .null, .null, .null, .null, .null, .null, .null] [(.int vo0), (.int p2), (.int 0), (.int 0), (.int 0), (.int 0), (.int 0), (.int 0), (.int 0), (.int 0), (.int 0), (.int 0), (.int 0), (.int 0), (.int 0), (.int 0)] [(.int p5), (.int p3), (.int 0), (.int 0), (.int 0), (.int 0), (.int 0), (.int 0), (.int 0), (.int 0), (.int 0), (.int 0), (.int 0), (.int 0), (.int 0), (.int 0)]  FC_63 FO_63 FT_63 AC_63' AO_63' AT_63' rfl rfl rfl rfl) (g := (mkF m 211 #[.val (.int p1), .val (.int p2), .val (.int p3), .val (.int p4), .val (.int p5), .val (.int (1 : Int32)), .val (.int (0 : Int32)), .val (.ref fk_50), .val (.int vo0), .val (.int vo1), .val (.int p5), .val (.int vt1), .val (.ref ad_51), .val (.int vo0), .val (.int p5), .val (.int (1 : Int32))] [(.int (0 : Int32)), (.ref ad_51)])) rfl (by rw [hml]; rfl) (lenOf pd_7 rfl) rfl (hb hby at_211) (W := 0) (by show 2 * 0 + _ ≤ _; exact Nat.le_of_eq rfl) (by decide) (by decide) (by decide) (by decide)
      obtain ⟨rfl, N_96, hh_96⟩ := Q_96
      have N_96' := Fr.app N_94' N_96
      rw [hh_96] at e_96
      refine Go.st (S' := T_96.setTop (mkF m 214 #[.val (.int p1), .val (.int p2), .val (.int p3), .val (.int p4), .val (.int p5), .val (.int (1 : Int32)), .val (.int (0 : Int32)), .val (.ref fk_50), .val (.int vo0), .val (.int vo1), .val (.int p5), .val (.int vt1), .val (.ref ad_51), .val (.int vo0), .val (.int p5), .val (.int (1 : Int32))] [(.int p5)])) st_96 ?_
      refine Go.st (S' := T_96.setTop (mkF m 216 #[.val (.int p1), .val (.int p2), .val (.int p3), .val (.int p4), .val (.int p5), .val (.int (1 : Int32)), .val (.int (0 : Int32)), .val (.ref fk_50), .val (.int vo0), .val (.int vo1), .val (.int p5), .val (.int vt1), .val (.ref ad_51), .val (.int vo0), .val (.int p5), .val (.int (1 : Int32))] [(.int p5), (.int p5)])) (fun t hr => XS.iload X_96.here hx rfl (hb hby at_214) rfl hr) ?_
      refine Go.st (S' := T_96.setTop (mkF m 219 #[.val (.int p1), .val (.int p2), .val (.int p3), .val (.int p4), .val (.int p5), .val (.int (1 : Int32)), .val (.int (0 : Int32)), .val (.ref fk_50), .val (.int vo0), .val (.int vo1), .val (.int p5), .val (.int vt1), .val (.ref ad_51), .val (.int vo0), .val (.int p5), .val (.int (1 : Int32))] [])) (fun t hr => XS.icmpNo X_96.here hx rfl (hb hby at_216) rfl (XT.ii_ne_f rfl) hr) ?_
      refine Go.st (S' := T_96.setTop (mkF m 221 #[.val (.int p1), .val (.int p2), .val (.int p3), .val (.int p4), .val (.int p5), .val (.int (1 : Int32)), .val (.int (0 : Int32)), .val (.ref fk_50), .val (.int vo0), .val (.int vo1), .val (.int p5), .val (.int vt1), .val (.ref ad_51), .val (.int vo0), .val (.int p5), .val (.int (1 : Int32))] [(.ref ad_51)])) (fun t hr => XS.aload X_96.here hx rfl (hb hby at_219) rfl rfl hr) ?_
      refine Go.st (S' := T_96.setTop (mkF m 223 #[.val (.int p1), .val (.int p2), .val (.int p3), .val (.int p4), .val (.int p5), .val (.int (1 : Int32)), .val (.int (0 : Int32)), .val (.ref fk_50), .val (.int vo0), .val (.int vo1), .val (.int p5), .val (.int vt1), .val (.ref ad_51), .val (.int vo0), .val (.int p5), .val (.int (1 : Int32))] [(.int (0 : Int32)), (.ref ad_51)])) (fun t hr => XS.iload X_96.here hx rfl (hb hby at_221) rfl hr) ?_
      obtain ⟨v_97, T_97, h_97, L_97, X_97, e_97, Q_97, st_97⟩ := own_callV X_96 hx hZ (C := "com/example/items_in_arrays/itemsinarrays/xpath/RegularExpressionProgram$Builder") (y := ⟨"com/example/items_in_arrays/itemsinarrays/xpath/RegularExpressionProgram$Builder", "characters", "(I)Lcom/example/items_in_arrays/itemsinarrays/xpath/CodepointSet;"⟩) (z := ⟨"com/example/items_in_arrays/itemsinarrays/xpath/RegularExpressionProgram$Builder", "characters", "(I)Lcom/example/items_in_arrays/itemsinarrays/xpath/CodepointSet;"⟩) hown (hw _ (List.mem_of_getElem? (i := 119) rfl)) (hw _ (List.mem_of_getElem? (i := 120) rfl)) (hw _ (List.mem_of_getElem? (i := 122) rfl)) (hw _ (List.mem_of_getElem? (i := 122) rfl)) (hw _ (List.mem_of_getElem? (i := 121) rfl)) (hw _ (List.mem_of_getElem? (i := 45) rfl)) (hw _ (List.mem_of_getElem? (i := 123) rfl)) (by decide) e_96 (a := ad_51) F_68 (argsL := [(.int (0 : Int32))]) (rest := []) (rmChr0 l Z a0 hw ad_51 h_63 n0 (by omega) ca_52 oa_52 ta_52 f1 vo0 p5 [(.ref f1), (.ref fk_50), .null, .null, .null, .null, .null, .null, .null, .null, .null, .null, .null, .null, .null, .null] [(.int vo0), (.int p2), (.int 0), (.int 0), (.int 0), (.int 0), (.int 0), (.int 0), (.int 0), (.int 0), (.int 0), (.int 0), (.int 0), (.int 0), (.int 0), (.int 0)] [(.int p5), (.int p3), (.int 0), (.int 0), (.int 0), (.int 0), (.int 0), (.int 0), (.int 0), (.int 0), (.int 0), (.int 0), (.int 0), (.int 0), (.int 0), (.int 0)]  FC_63 FO_63 FT_63 AC_63' AO_63' AT_63' rfl rfl rfl F_70 SC1 rfl rfl hvo0p) (g := (mkF m 223 #[.val (.int p1), .val (.int p2), .val (.int p3), .val (.int p4), .val (.int p5), .val (.int (1 : Int32)), .val (.int (0 : Int32)), .val (.ref fk_50), .val (.int vo0), .val (.int vo1), .val (.int p5), .val (.int vt1), .val (.ref ad_51), .val (.int vo0), .val (.int p5), .val (.int (1 : Int32))] [(.int (0 : Int32)), (.ref ad_51)])) rfl (by rw [hml]; rfl) (lenOf pd_8 rfl) rfl (hb hby at_223) (W := 0) (by show 2 * 0 + _ ≤ _; exact Nat.le_of_eq rfl) (by decide) (by decide) (by decide) (by decide)
      obtain ⟨cs_97, rfl, N_97, K_97, EE_97, ra_97, GG_97, AA_97⟩ := Q_97
      have N_97' := Fr.app N_96' N_97
      have z_97 := K_97.1
      refine Go.st (S' := T_97.setTop (mkF m 226 #[.val (.int p1), .val (.int p2), .val (.int p3), .val (.int p4), .val (.int p5), .val (.int (1 : Int32)), .val (.int (0 : Int32)), .val (.ref fk_50), .val (.int vo0), .val (.int vo1), .val (.int p5), .val (.int vt1), .val (.ref ad_51), .val (.int vo0), .val (.int p5), .val (.int (1 : Int32))] [(.ref cs_97)])) st_97 ?_
      obtain ⟨v_98, T_98, h_98, L_98, X_98, e_98, Q_98, st_98⟩ := own_callV X_97 hx hZ (C := "com/example/items_in_arrays/itemsinarrays/xpath/CodepointSet") (y := ⟨"com/example/items_in_arrays/itemsinarrays/xpath/CodepointSet", "single", "()I"⟩) (z := ⟨"com/example/items_in_arrays/itemsinarrays/xpath/CodepointSet", "single", "()I"⟩) hown (hw _ (List.mem_of_getElem? (i := 144) rfl)) (hw _ (List.mem_of_getElem? (i := 145) rfl)) (hw _ (List.mem_of_getElem? (i := 147) rfl)) (hw _ (List.mem_of_getElem? (i := 147) rfl)) (hw _ (List.mem_of_getElem? (i := 146) rfl)) (hw _ (List.mem_of_getElem? (i := 127) rfl)) (hw _ (List.mem_of_getElem? (i := 148) rfl)) (by decide) e_97 (a := cs_97) EE_97 (argsL := []) (rest := []) (rmSg l Z a0 hw cs_97 h_97 n0 (by omega) vo0 ra_97 GG_97 AA_97) (g := (mkF m 226 #[.val (.int p1), .val (.int p2), .val (.int p3), .val (.int p4), .val (.int p5), .val (.int (1 : Int32)), .val (.int (0 : Int32)), .val (.ref fk_50), .val (.int vo0), .val (.int vo1), .val (.int p5), .val (.int vt1), .val (.ref ad_51), .val (.int vo0), .val (.int p5), .val (.int (1 : Int32))] [(.ref cs_97)])) rfl (by rw [hml]; rfl) (lenOf pd_9 rfl) rfl (hb hby at_226) (W := 0) (by show 2 * 0 + _ ≤ _; exact Nat.le_of_eq rfl) (by decide) (by decide) (by decide) (by decide)
      obtain ⟨rfl, N_98, hh_98⟩ := Q_98
      have N_98' := Fr.app N_97' N_98
      rw [hh_98] at e_98
      refine Go.st (S' := T_98.setTop (mkF m 229 #[.val (.int p1), .val (.int p2), .val (.int p3), .val (.int p4), .val (.int p5), .val (.int (1 : Int32)), .val (.int (0 : Int32)), .val (.ref fk_50), .val (.int vo0), .val (.int vo1), .val (.int p5), .val (.int vt1), .val (.ref ad_51), .val (.int vo0), .val (.int p5), .val (.int (1 : Int32))] [(.int vo0)])) st_98 ?_
      refine Go.st (S' := T_98.setTop (mkF m 231 #[.val (.int p1), .val (.int p2), .val (.int p3), .val (.int p4), .val (.int p5), .val (.int (1 : Int32)), .val (.int (0 : Int32)), .val (.ref fk_50), .val (.int vo0), .val (.int vo1), .val (.int p5), .val (.int vt1), .val (.ref ad_51), .val (.int vo0), .val (.int p5), .val (.int (1 : Int32))] [(.int vo0), (.int vo0)])) (fun t hr => XS.iload X_98.here hx rfl (hb hby at_229) rfl hr) ?_
      refine Go.st (S' := T_98.setTop (mkF m 234 #[.val (.int p1), .val (.int p2), .val (.int p3), .val (.int p4), .val (.int p5), .val (.int (1 : Int32)), .val (.int (0 : Int32)), .val (.ref fk_50), .val (.int vo0), .val (.int vo1), .val (.int p5), .val (.int vt1), .val (.ref ad_51), .val (.int vo0), .val (.int p5), .val (.int (1 : Int32))] [])) (fun t hr => XS.icmpNo X_98.here hx rfl (hb hby at_231) rfl (XT.ii_ne_f rfl) hr) ?_
      refine Go.st (S' := T_98.setTop (mkF m 235 #[.val (.int p1), .val (.int p2), .val (.int p3), .val (.int p4), .val (.int p5), .val (.int (1 : Int32)), .val (.int (0 : Int32)), .val (.ref fk_50), .val (.int vo0), .val (.int vo1), .val (.int p5), .val (.int vt1), .val (.ref ad_51), .val (.int vo0), .val (.int p5), .val (.int (1 : Int32))] [(.int (1 : Int32))])) (fun t hr => XS.iconst X_98.here hx rfl (hb hby at_234) hr) ?_
      refine Go.st (S' := T_98.setTop (mkF m 239 #[.val (.int p1), .val (.int p2), .val (.int p3), .val (.int p4), .val (.int p5), .val (.int (1 : Int32)), .val (.int (0 : Int32)), .val (.ref fk_50), .val (.int vo0), .val (.int vo1), .val (.int p5), .val (.int vt1), .val (.ref ad_51), .val (.int vo0), .val (.int p5), .val (.int (1 : Int32))] [(.int (1 : Int32))])) (fun t hr => XS.goto X_98.here hx rfl (pc0 := 235) (pc' := 239) rfl (hb hby at_235) (by decide) (by decide) hr) ?_
      refine Go.st (S' := T_98.setTop (mkF m 241 #[.val (.int p1), .val (.int p2), .val (.int p3), .val (.int p4), .val (.int p5), .val (.int (1 : Int32)), .val (.int (0 : Int32)), .val (.ref fk_50), .val (.int vo0), .val (.int vo1), .val (.int p5), .val (.int vt1), .val (.ref ad_51), .val (.int vo0), .val (.int p5), .val (.int (1 : Int32))] [])) (fun t hr => XS.istore X_98.here hx rfl (hb hby at_239) rfl (l' := #[.val (.int p1), .val (.int p2), .val (.int p3), .val (.int p4), .val (.int p5), .val (.int (1 : Int32)), .val (.int (0 : Int32)), .val (.ref fk_50), .val (.int vo0), .val (.int vo1), .val (.int p5), .val (.int vt1), .val (.ref ad_51), .val (.int vo0), .val (.int p5), .val (.int (1 : Int32))]) rfl hr) ?_
      refine Go.st (S' := T_98.setTop (mkF m 243 #[.val (.int p1), .val (.int p2), .val (.int p3), .val (.int p4), .val (.int p5), .val (.int (1 : Int32)), .val (.int (0 : Int32)), .val (.ref fk_50), .val (.int vo0), .val (.int vo1), .val (.int p5), .val (.int vt1), .val (.ref ad_51), .val (.int vo0), .val (.int p5), .val (.int (1 : Int32))] [(.int (1 : Int32))])) (fun t hr => XS.iload X_98.here hx rfl (hb hby at_241) rfl hr) ?_
      refine Go.retN X_98 hx hlk (t := .boolean) hret (by simp) (hb hby at_243) (by decide) (by decide) ?_
      try rw [e_98]
      exact ⟨rfl, N_98'⟩
set_option maxRecDepth 65536 in
set_option maxHeartbeats 1000000 in
theorem comes_1 {Post : Tables → Env → Array Value → State → Outcome → State → Prop} (hpost : ∀ tb e args s v u, (limb_1_1.after args s (.returned v) u = true ∧ limb_1_2.after args s (.returned v) u = true ∧ True) → FrameEnd s (.returned v) u (Jvm.fieldLocs frame_1_writes args s ++ Jvm.arrayLocs frame_1_arrays args s ++ Jvm.staticLocs frame_1_statics s) 40 320 → Post tb e args s (.returned v) u) :
    ArmFor flags0 classFile x code maxLocals ret World_1 tables_1 room_1 Calls_1 rest_1 Pre_1 Post := by
  intro l hfl _ _ p e ha hc hk s m args below hf hA hF happ hP
  obtain ⟨hcalls, hrest, hpre⟩ := hP
  obtain ⟨-, -, -, hnamed, -, -, -, hat⟩ := (Spec.applies_iff hf).mp happ
  obtain ⟨hg, hn⟩ := and_e (Cond.before_iff.mp (show (Jvm.Cond.and given_1 narrow_1).before args s = true from hpre))
  obtain ⟨hcnt, gg0⟩ := and_e hg
  obtain ⟨w0, w1, w2, w3, w4, rfl⟩ : ∃ w0 w1 w2 w3 w4 : Value, args = #[w0, w1, w2, w3, w4] := by
    have hs : args.size = 5 := by simpa [Cond.value, given_1] using hcnt
    obtain ⟨L⟩ := args
    match L, hs with
    | [w0, w1, w2, w3, w4], _ => exact ⟨w0, w1, w2, w3, w4, rfl⟩
  have hw := fun d (hd : d ∈ tables_1) => atoms_spec (ws := Jvm.Cond.code x code maxLocals ret :: tables_1) hat d (List.mem_cons_of_mem _ hd)
  obtain ⟨hsets, hown0⟩ := atoms_of _ (rest_1_c_eq ▸ (show rest_1_c.before _ s = true from hrest))
  have hr0 := Cond.before_iff.mp hown0
  have hfit : Fit s := fun {y c} hc i hi => by
    obtain ⟨ha, rfl⟩ := Array.getElem?_eq_some_iff.mp hc
    have q := List.all_eq_true.mp ((Array.all_eq_true_iff_forall_mem.mp hF) _ (Array.getElem_mem ha)) i (List.mem_range.mpr hi)
    simpa [Array.getElem?_eq_getElem hi] using q
  obtain ⟨ga0, gg1⟩ := and_e gg0
  obtain ⟨ga1, gg2⟩ := and_e gg1
  obtain ⟨ga2, gg3⟩ := and_e gg2
  obtain ⟨ga3, gg4⟩ := and_e gg3
  obtain ⟨i0, ev0⟩ := is_v ga0
  obtain rfl : w0 = (.int i0) := Option.some.inj ev0
  obtain ⟨i1, ev1⟩ := is_v ga1
  obtain rfl : w1 = (.int i1) := Option.some.inj ev1
  obtain ⟨i2, ev2⟩ := is_v ga2
  obtain rfl : w2 = (.int i2) := Option.some.inj ev2
  obtain ⟨i3, ev3⟩ := is_v ga3
  obtain rfl : w3 = (.int i3) := Option.some.inj ev3
  obtain ⟨i4, ev4⟩ := is_v gg4
  obtain rfl : w4 = (.int i4) := Option.some.inj ev4
  obtain ⟨nn0, nn_r0⟩ := and_e hn
  obtain ⟨nn1, nn_r1⟩ := and_e nn_r0
  obtain ⟨nn2, nn_r2⟩ := and_e nn_r1
  obtain ⟨nn3, nn_r3⟩ := and_e nn_r2
  obtain ⟨nn4, nn_r4⟩ := and_e nn_r3
  obtain ⟨nn5, nn_r5⟩ := and_e nn_r4
  obtain ⟨nn6, nn_r6⟩ := and_e nn_r5
  obtain ⟨nn7, nn_r7⟩ := and_e nn_r6
  obtain ⟨nn8, nn_r8⟩ := and_e nn_r7
  obtain ⟨nn9, nn_r9⟩ := and_e nn_r8
  obtain ⟨nn10, nn_r10⟩ := and_e nn_r9
  obtain ⟨nn11, nn_r11⟩ := and_e nn_r10
  obtain ⟨nn12, nn_r12⟩ := and_e nn_r11
  obtain ⟨nn13, nn_r13⟩ := and_e nn_r12
  obtain ⟨nn14, nn_r14⟩ := and_e nn_r13
  obtain ⟨nn15, nn_r15⟩ := and_e nn_r14
  obtain ⟨nn16, nn_r16⟩ := and_e nn_r15
  obtain ⟨nn17, nn_r17⟩ := and_e nn_r16
  obtain ⟨nn18, nn_r18⟩ := and_e nn_r17
  obtain ⟨nn19, nn_r19⟩ := and_e nn_r18
  obtain ⟨nn20, nn_r20⟩ := and_e nn_r19
  obtain ⟨nn21, nn_r21⟩ := and_e nn_r20
  obtain ⟨nn22, nn_r22⟩ := and_e nn_r21
  obtain ⟨nn23, nn_r23⟩ := and_e nn_r22
  obtain ⟨nn24, nn_r24⟩ := and_e nn_r23
  obtain ⟨nn25, nn_r25⟩ := and_e nn_r24
  obtain ⟨nn26, nn_r26⟩ := and_e nn_r25
  obtain ⟨nn27, nn_r27⟩ := and_e nn_r26
  obtain ⟨nn28, nn_r28⟩ := and_e nn_r27
  obtain ⟨nn29, nn_r29⟩ := and_e nn_r28
  obtain ⟨nn30, nn_r30⟩ := and_e nn_r29
  obtain ⟨nn31, nn_r31⟩ := and_e nn_r30
  obtain ⟨nn32, nn_r32⟩ := and_e nn_r31
  have nn33 := nn_r32
  obtain ⟨vd, evd, rd⟩ := own_sref hfit (hsets _ (List.mem_of_getElem? (i := 2) rfl)) (ty := .array (.object "java/lang/Object")) (by decide) rfl
  have SD : Sta s s.heap "java/util/ArrayList" "DEFAULTCAPACITY_EMPTY_ELEMENTDATA" "[Ljava/lang/Object;" vd := Sta.start evd (Or.inr ⟨(hw _ (List.mem_of_getElem? (i := 62) rfl)), hsets _ (List.mem_of_getElem? (i := 2) rfl)⟩)
  obtain ⟨f0, ef0⟩ := exa_v nn0
  have SC0 : Sta s s.heap "com/example/items_in_arrays/itemsinarrays/xpath/RegularExpressionProgram$Code" "NOTHING" "Lcom/example/items_in_arrays/itemsinarrays/xpath/RegularExpressionProgram$Code;" (.ref f0) := Sta.start ef0 (Or.inr ⟨(hw _ (List.mem_of_getElem? (i := 8) rfl)), (hw _ (List.mem_of_getElem? (i := 9) rfl))⟩)
  have E0 : Exa s s.heap f0 "com/example/items_in_arrays/itemsinarrays/xpath/RegularExpressionProgram$Code" := Exa.start ef0 nn0
  obtain ⟨f1, ef1⟩ := exa_v nn1
  have SC1 : Sta s s.heap "com/example/items_in_arrays/itemsinarrays/xpath/RegularExpressionProgram$Code" "CHARACTER" "Lcom/example/items_in_arrays/itemsinarrays/xpath/RegularExpressionProgram$Code;" (.ref f1) := Sta.start ef1 (Or.inr ⟨(hw _ (List.mem_of_getElem? (i := 8) rfl)), (hw _ (List.mem_of_getElem? (i := 12) rfl))⟩)
  have E1 : Exa s s.heap f1 "com/example/items_in_arrays/itemsinarrays/xpath/RegularExpressionProgram$Code" := Exa.start ef1 nn1
  obtain ⟨f2, ef2⟩ := exa_v nn2
  have SC2 : Sta s s.heap "com/example/items_in_arrays/itemsinarrays/xpath/RegularExpressionProgram$Code" "SET" "Lcom/example/items_in_arrays/itemsinarrays/xpath/RegularExpressionProgram$Code;" (.ref f2) := Sta.start ef2 (Or.inr ⟨(hw _ (List.mem_of_getElem? (i := 8) rfl)), (hw _ (List.mem_of_getElem? (i := 14) rfl))⟩)
  have E2 : Exa s s.heap f2 "com/example/items_in_arrays/itemsinarrays/xpath/RegularExpressionProgram$Code" := Exa.start ef2 nn2
  obtain ⟨f3, ef3⟩ := exa_v nn3
  have SC3 : Sta s s.heap "com/example/items_in_arrays/itemsinarrays/xpath/RegularExpressionProgram$Code" "STRING_START" "Lcom/example/items_in_arrays/itemsinarrays/xpath/RegularExpressionProgram$Code;" (.ref f3) := Sta.start ef3 (Or.inr ⟨(hw _ (List.mem_of_getElem? (i := 8) rfl)), (hw _ (List.mem_of_getElem? (i := 16) rfl))⟩)
  have E3 : Exa s s.heap f3 "com/example/items_in_arrays/itemsinarrays/xpath/RegularExpressionProgram$Code" := Exa.start ef3 nn3
  obtain ⟨f4, ef4⟩ := exa_v nn4
  have SC4 : Sta s s.heap "com/example/items_in_arrays/itemsinarrays/xpath/RegularExpressionProgram$Code" "LINE_START" "Lcom/example/items_in_arrays/itemsinarrays/xpath/RegularExpressionProgram$Code;" (.ref f4) := Sta.start ef4 (Or.inr ⟨(hw _ (List.mem_of_getElem? (i := 8) rfl)), (hw _ (List.mem_of_getElem? (i := 18) rfl))⟩)
  have E4 : Exa s s.heap f4 "com/example/items_in_arrays/itemsinarrays/xpath/RegularExpressionProgram$Code" := Exa.start ef4 nn4
  obtain ⟨f5, ef5⟩ := exa_v nn5
  have SC5 : Sta s s.heap "com/example/items_in_arrays/itemsinarrays/xpath/RegularExpressionProgram$Code" "STRING_END" "Lcom/example/items_in_arrays/itemsinarrays/xpath/RegularExpressionProgram$Code;" (.ref f5) := Sta.start ef5 (Or.inr ⟨(hw _ (List.mem_of_getElem? (i := 8) rfl)), (hw _ (List.mem_of_getElem? (i := 20) rfl))⟩)
  have E5 : Exa s s.heap f5 "com/example/items_in_arrays/itemsinarrays/xpath/RegularExpressionProgram$Code" := Exa.start ef5 nn5
  obtain ⟨f6, ef6⟩ := exa_v nn6
  have SC6 : Sta s s.heap "com/example/items_in_arrays/itemsinarrays/xpath/RegularExpressionProgram$Code" "LINE_END" "Lcom/example/items_in_arrays/itemsinarrays/xpath/RegularExpressionProgram$Code;" (.ref f6) := Sta.start ef6 (Or.inr ⟨(hw _ (List.mem_of_getElem? (i := 8) rfl)), (hw _ (List.mem_of_getElem? (i := 22) rfl))⟩)
  have E6 : Exa s s.heap f6 "com/example/items_in_arrays/itemsinarrays/xpath/RegularExpressionProgram$Code" := Exa.start ef6 nn6
  obtain ⟨f7, ef7⟩ := exa_v nn7
  have SC7 : Sta s s.heap "com/example/items_in_arrays/itemsinarrays/xpath/RegularExpressionProgram$Code" "BACK_REFERENCE" "Lcom/example/items_in_arrays/itemsinarrays/xpath/RegularExpressionProgram$Code;" (.ref f7) := Sta.start ef7 (Or.inr ⟨(hw _ (List.mem_of_getElem? (i := 8) rfl)), (hw _ (List.mem_of_getElem? (i := 24) rfl))⟩)
  have E7 : Exa s s.heap f7 "com/example/items_in_arrays/itemsinarrays/xpath/RegularExpressionProgram$Code" := Exa.start ef7 nn7
  obtain ⟨f8, ef8⟩ := exa_v nn8
  have SC8 : Sta s s.heap "com/example/items_in_arrays/itemsinarrays/xpath/RegularExpressionProgram$Code" "SAVE" "Lcom/example/items_in_arrays/itemsinarrays/xpath/RegularExpressionProgram$Code;" (.ref f8) := Sta.start ef8 (Or.inr ⟨(hw _ (List.mem_of_getElem? (i := 8) rfl)), (hw _ (List.mem_of_getElem? (i := 26) rfl))⟩)
  have E8 : Exa s s.heap f8 "com/example/items_in_arrays/itemsinarrays/xpath/RegularExpressionProgram$Code" := Exa.start ef8 nn8
  obtain ⟨f9, ef9⟩ := exa_v nn9
  have SC9 : Sta s s.heap "com/example/items_in_arrays/itemsinarrays/xpath/RegularExpressionProgram$Code" "JUMP" "Lcom/example/items_in_arrays/itemsinarrays/xpath/RegularExpressionProgram$Code;" (.ref f9) := Sta.start ef9 (Or.inr ⟨(hw _ (List.mem_of_getElem? (i := 8) rfl)), (hw _ (List.mem_of_getElem? (i := 28) rfl))⟩)
  have E9 : Exa s s.heap f9 "com/example/items_in_arrays/itemsinarrays/xpath/RegularExpressionProgram$Code" := Exa.start ef9 nn9
  obtain ⟨f10, ef10⟩ := exa_v nn10
  have SC10 : Sta s s.heap "com/example/items_in_arrays/itemsinarrays/xpath/RegularExpressionProgram$Code" "TRY_NEXT" "Lcom/example/items_in_arrays/itemsinarrays/xpath/RegularExpressionProgram$Code;" (.ref f10) := Sta.start ef10 (Or.inr ⟨(hw _ (List.mem_of_getElem? (i := 8) rfl)), (hw _ (List.mem_of_getElem? (i := 30) rfl))⟩)
  have E10 : Exa s s.heap f10 "com/example/items_in_arrays/itemsinarrays/xpath/RegularExpressionProgram$Code" := Exa.start ef10 nn10
  obtain ⟨f11, ef11⟩ := exa_v nn11
  have SC11 : Sta s s.heap "com/example/items_in_arrays/itemsinarrays/xpath/RegularExpressionProgram$Code" "TRY_TARGET" "Lcom/example/items_in_arrays/itemsinarrays/xpath/RegularExpressionProgram$Code;" (.ref f11) := Sta.start ef11 (Or.inr ⟨(hw _ (List.mem_of_getElem? (i := 8) rfl)), (hw _ (List.mem_of_getElem? (i := 32) rfl))⟩)
  have E11 : Exa s s.heap f11 "com/example/items_in_arrays/itemsinarrays/xpath/RegularExpressionProgram$Code" := Exa.start ef11 nn11
  obtain ⟨f12, ef12⟩ := exa_v nn12
  have SC12 : Sta s s.heap "com/example/items_in_arrays/itemsinarrays/xpath/RegularExpressionProgram$Code" "LOOP_START" "Lcom/example/items_in_arrays/itemsinarrays/xpath/RegularExpressionProgram$Code;" (.ref f12) := Sta.start ef12 (Or.inr ⟨(hw _ (List.mem_of_getElem? (i := 8) rfl)), (hw _ (List.mem_of_getElem? (i := 34) rfl))⟩)
  have E12 : Exa s s.heap f12 "com/example/items_in_arrays/itemsinarrays/xpath/RegularExpressionProgram$Code" := Exa.start ef12 nn12
  obtain ⟨f13, ef13⟩ := exa_v nn13
  have SC13 : Sta s s.heap "com/example/items_in_arrays/itemsinarrays/xpath/RegularExpressionProgram$Code" "LOOP" "Lcom/example/items_in_arrays/itemsinarrays/xpath/RegularExpressionProgram$Code;" (.ref f13) := Sta.start ef13 (Or.inr ⟨(hw _ (List.mem_of_getElem? (i := 8) rfl)), (hw _ (List.mem_of_getElem? (i := 36) rfl))⟩)
  have E13 : Exa s s.heap f13 "com/example/items_in_arrays/itemsinarrays/xpath/RegularExpressionProgram$Code" := Exa.start ef13 nn13
  obtain ⟨f14, ef14⟩ := exa_v nn14
  have SC14 : Sta s s.heap "com/example/items_in_arrays/itemsinarrays/xpath/RegularExpressionProgram$Code" "LOOP_AGAIN" "Lcom/example/items_in_arrays/itemsinarrays/xpath/RegularExpressionProgram$Code;" (.ref f14) := Sta.start ef14 (Or.inr ⟨(hw _ (List.mem_of_getElem? (i := 8) rfl)), (hw _ (List.mem_of_getElem? (i := 38) rfl))⟩)
  have E14 : Exa s s.heap f14 "com/example/items_in_arrays/itemsinarrays/xpath/RegularExpressionProgram$Code" := Exa.start ef14 nn14
  obtain ⟨f15, ef15⟩ := exa_v nn15
  have SC15 : Sta s s.heap "com/example/items_in_arrays/itemsinarrays/xpath/RegularExpressionProgram$Code" "RUN" "Lcom/example/items_in_arrays/itemsinarrays/xpath/RegularExpressionProgram$Code;" (.ref f15) := Sta.start ef15 (Or.inr ⟨(hw _ (List.mem_of_getElem? (i := 8) rfl)), (hw _ (List.mem_of_getElem? (i := 40) rfl))⟩)
  have E15 : Exa s s.heap f15 "com/example/items_in_arrays/itemsinarrays/xpath/RegularExpressionProgram$Code" := Exa.start ef15 nn15
  obtain ⟨f16, ef16⟩ := exa_v nn16
  have SC16 : Sta s s.heap "com/example/items_in_arrays/itemsinarrays/xpath/RegularExpressionProgram$Code" "MATCH" "Lcom/example/items_in_arrays/itemsinarrays/xpath/RegularExpressionProgram$Code;" (.ref f16) := Sta.start ef16 (Or.inr ⟨(hw _ (List.mem_of_getElem? (i := 8) rfl)), (hw _ (List.mem_of_getElem? (i := 42) rfl))⟩)
  have E16 : Exa s s.heap f16 "com/example/items_in_arrays/itemsinarrays/xpath/RegularExpressionProgram$Code" := Exa.start ef16 nn16
  obtain ⟨n, o, h1, h2, h3, _, L, rfl, ⟨rfl, N⟩, hq⟩ := rm0 l s _ hw i0 i1 i2 i3 i4 s.heap s.heap.size (Nat.le_refl _) f0 f1 f2 f3 f4 f5 f6 f7 f8 f9 f10 f11 f12 f13 f14 f15 f16 (Old.start s) SC0 E0 SC1 E1 SC2 E2 SC3 E3 SC4 E4 SC5 E5 SC6 E6 SC7 E7 SC8 E8 SC9 E9 SC10 E10 SC11 E11 SC12 E12 SC13 E13 SC14 E14 SC15 E15 SC16 E16 vd rd SD tables_1 p e ha hc hk s m _ below hf ((Spec.applies_iff_loose hf).mp happ).1 ⟨rfl, State.Warmed39.refl s, rfl⟩ trivial
  refine ⟨n, _, h1, h2, h3, hpost _ _ _ _ _ _ ⟨Cond.after_iff.mpr rfl, Cond.after_iff.mpr (eq_i res_at (Term.int_eval (1)) rfl), trivial⟩ ⟨hq.1, hq.2.1, (hq.2.2.sift fun y hy => Or.inr (N y hy)).mono (by decide) (by decide)⟩⟩
theorem main_1_1 : Claimed_1_1 := comes_1 fun _ _ _ _ _ _ h hF => ⟨h.1, hF⟩
theorem main_1_2 : Claimed_1_2 := comes_1 fun _ _ _ _ _ _ h hF => ⟨h.2.1, hF⟩
end Jvm.Pilot.@@N@@
namespace Jvm.Pilot.@@N@@
open Jvm Jvm.ClassFile Sem Op Lib Jvm.Free Jvm.Stand Jvm.Pilot.@@N@@.Jvm.D
/-! MADE BY PROGRAM (witnessworld.py) out of the Statement's table words and the real class files: 29 classes; the members and pool entries that the words name. The judged class is class 1, her method 2. -/
namespace start1
open Jvm.ClassFile
def u (s : String) : CpInfo := .utf8 (stringToUtf16 s)
/-- a pool by its gaps: so many unusable entries, then the entry; so many at the end -/
def gap : Nat → List CpInfo → List CpInfo
  | 0, r => r
  | n + 1, r => .unusable :: gap n r
def poolList (es : List (Nat × CpInfo)) (last : Nat) : List CpInfo := es.foldr (fun e r => gap e.1 (e.2 :: r)) (gap last [])
def pool (es : List (Nat × CpInfo)) (last : Nat) : Array CpInfo := ⟨poolList es last⟩
def fileOf (pool : Array CpInfo) (this : Nat) (attrs : Array Attribute := #[]) (ms : Array MethodInfo := #[]) (fl : Nat := 33) (sup : Nat := 0) (ifs : Array Nat := #[]) (fds : Array FieldInfo := #[]) : ClassFile where
  minorVersion := 0
  majorVersion := 65
  constantPool := pool
  accessFlags := fl
  thisClass := this
  superClass := sup
  interfaces := ifs
  fields := fds
  methods := ms
  attributes := attrs
def plain (name : String) (sup : Option ClassId) : Class where
  name := name
  kind := .ordinary
  loader := none
  accessFlags := 33
  super := sup
  interfaces := #[]
  cf := none
  fields := #[]
  methods := #[]
  instanceTypes := #[]
  staticTypes := #[]
  resolved := #[]
  callSites := []
  init := .initialized
  statics := none
  mirror := none

def pool0 : Array CpInfo := pool [(5, u "<init>"), (0, u "()V"), (1, .class_ 10), (1, u "java/lang/Object")] 113

def k0c0 : Code := { maxStack := 0, maxLocals := 1, code := object_method_1_code, exceptionTable := #[], attributes := #[] }
def k0m0 : Method := { name := "<init>", desc := "()V", sig := { parameters := [], returnType := none }, accessFlags := 1, code := some k0c0 }
/-- java/lang/Object -/
def k0 : Class := { plain "java/lang/Object" none with
  accessFlags := 33
  interfaces := #[]
  cf := some (fileOf pool0 8 #[] #[{ accessFlags := 1, nameIndex := 5, descriptorIndex := 6, attributes := #[] }] 33 0 #[] #[])
  fields := #[]
  methods := #[k0m0]
  instanceTypes := #[]
  staticTypes := #[]
  resolved := Array.replicate 124 none
  statics := none }

def pool1 : Array CpInfo := pool [(2, .class_ 4), (0, .nameAndType 5 6), (0, u "java/lang/Object"), (0, u "<init>"), (0, u "()V"), (0, .class_ 8), (0, u "com/example/items_in_arrays/itemsinarrays/xpath/RegularExpressionProgram$Code"), (0, .fieldref 7 10), (0, .nameAndType 11 12), (0, u "NOTHING"), (0, u "Lcom/example/items_in_arrays/itemsinarrays/xpath/RegularExpressionProgram$Code;"), (0, .fieldref 7 14), (0, .nameAndType 15 12), (0, u "CHARACTER"), (0, .fieldref 7 17), (0, .nameAndType 18 12), (0, u "SET"), (0, .fieldref 7 20), (0, .nameAndType 21 12), (0, u "STRING_START"), (0, .fieldref 7 23), (0, .nameAndType 24 12), (0, u "LINE_START"), (0, .fieldref 7 26), (0, .nameAndType 27 12), (0, u "STRING_END"), (0, .fieldref 7 29), (0, .nameAndType 30 12), (0, u "LINE_END"), (0, .fieldref 7 32), (0, .nameAndType 33 12), (0, u "BACK_REFERENCE"), (0, .fieldref 7 35), (0, .nameAndType 36 12), (0, u "SAVE"), (0, .fieldref 7 38), (0, .nameAndType 39 12), (0, u "JUMP"), (0, .fieldref 7 41), (0, .nameAndType 42 12), (0, u "TRY_NEXT"), (0, .fieldref 7 44), (0, .nameAndType 45 12), (0, u "TRY_TARGET"), (0, .fieldref 7 47), (0, .nameAndType 48 12), (0, u "LOOP_START"), (0, .fieldref 7 50), (0, .nameAndType 51 12), (0, u "LOOP"), (0, .fieldref 7 53), (0, .nameAndType 54 12), (0, u "LOOP_AGAIN"), (0, .fieldref 7 56), (0, .nameAndType 57 12), (0, u "RUN"), (0, .fieldref 7 59), (0, .nameAndType 60 12), (0, u "MATCH"), (0, .integer 2147483647), (0, .methodref 63 64), (0, .class_ 65), (0, .nameAndType 66 67), (0, u "com/example/items_in_arrays/itemsinarrays/xpath/BuilderSetPinLaw"), (0, u "pick"), (0, u "(I)Lcom/example/items_in_arrays/itemsinarrays/xpath/RegularExpressionProgram$Code;"), (0, .class_ 69), (0, u "com/example/items_in_arrays/itemsinarrays/xpath/RegularExpressionProgram$Builder"), (0, .methodref 68 3), (0, .methodref 68 72), (0, .nameAndType 73 74), (0, u "add"), (0, u "(Lcom/example/items_in_arrays/itemsinarrays/xpath/RegularExpressionProgram$Code;II)I"), (0, .methodref 68 76), (0, .nameAndType 77 78), (0, u "set"), (0, u "(ILcom/example/items_in_arrays/itemsinarrays/xpath/RegularExpressionProgram$Code;II)V"), (0, .methodref 68 80), (0, .nameAndType 81 67), (0, u "code"), (0, .methodref 68 83), (0, .nameAndType 84 85), (0, u "target"), (0, u "(I)I"), (0, .methodref 68 87), (0, .nameAndType 88 89), (0, u "characters"), (0, u "(I)Lcom/example/items_in_arrays/itemsinarrays/xpath/CodepointSet;"), (0, .methodref 91 92), (0, .class_ 93), (0, .nameAndType 94 95), (0, u "com/example/items_in_arrays/itemsinarrays/xpath/CodepointSet"), (0, u "single"), (0, u "()I"), (2, u "law"), (0, u "(IIIII)Z")] 7

def k1m0 : Method := { name := "<init>", desc := "()V", sig := { parameters := [], returnType := none }, accessFlags := 1, code := none }
def k1c1 : Code := { maxStack := 4, maxLocals := 2, code := method_2_code, exceptionTable := #[], attributes := #[] }
def k1m1 : Method := { name := "pick", desc := "(I)Lcom/example/items_in_arrays/itemsinarrays/xpath/RegularExpressionProgram$Code;", sig := { parameters := [.int], returnType := some (.object "com/example/items_in_arrays/itemsinarrays/xpath/RegularExpressionProgram$Code") }, accessFlags := 10, code := some k1c1 }
def k1c2 : Code := { maxStack := 5, maxLocals := 16, code := code, exceptionTable := #[], attributes := #[] }
def k1m2 : Method := { name := "law", desc := "(IIIII)Z", sig := { parameters := [.int, .int, .int, .int, .int], returnType := some .boolean }, accessFlags := 9, code := some k1c2 }
/-- com/example/items_in_arrays/itemsinarrays/xpath/BuilderSetPinLaw -/
def k1 : Class := { plain "com/example/items_in_arrays/itemsinarrays/xpath/BuilderSetPinLaw" (some 0) with
  accessFlags := 49
  interfaces := #[]
  cf := some (fileOf pool1 63 #[] #[{ accessFlags := 1, nameIndex := 5, descriptorIndex := 6, attributes := #[] }, { accessFlags := 10, nameIndex := 66, descriptorIndex := 67, attributes := #[] }, { accessFlags := 9, nameIndex := 98, descriptorIndex := 99, attributes := #[] }] 49 2 #[] #[])
  fields := #[]
  methods := #[k1m0, k1m1, k1m2]
  instanceTypes := #[]
  staticTypes := #[]
  resolved := Array.replicate 107 none
  statics := none }

def pool2 : Array CpInfo := pool [(1, .class_ 2), (0, u "java/lang/constant/Constable"), (0, .class_ 4), (0, u "java/lang/Object")] 6

/-- java/lang/constant/Constable -/
def k2 : Class := { plain "java/lang/constant/Constable" (some 0) with
  accessFlags := 1537
  interfaces := #[]
  cf := some (fileOf pool2 1 #[] #[] 1537 3 #[] #[])
  fields := #[]
  methods := #[]
  instanceTypes := #[]
  staticTypes := #[]
  resolved := Array.replicate 11 none
  statics := none }

def pool3 : Array CpInfo := pool [(1, .class_ 2), (0, u "java/lang/Comparable"), (0, .class_ 4), (0, u "java/lang/Object")] 7

/-- java/lang/Comparable -/
def k3 : Class := { plain "java/lang/Comparable" (some 0) with
  accessFlags := 1537
  interfaces := #[]
  cf := some (fileOf pool3 1 #[] #[] 1537 3 #[] #[])
  fields := #[]
  methods := #[]
  instanceTypes := #[]
  staticTypes := #[]
  resolved := Array.replicate 12 none
  statics := none }

def pool4 : Array CpInfo := pool [(1, .class_ 2), (0, u "java/io/Serializable"), (0, .class_ 4), (0, u "java/lang/Object")] 2

/-- java/io/Serializable -/
def k4 : Class := { plain "java/io/Serializable" (some 0) with
  accessFlags := 1537
  interfaces := #[]
  cf := some (fileOf pool4 1 #[] #[] 1537 3 #[] #[])
  fields := #[]
  methods := #[]
  instanceTypes := #[]
  staticTypes := #[]
  resolved := Array.replicate 7 none
  statics := none }

def pool5 : Array CpInfo := pool [(2, .class_ 4), (1, u "java/lang/Enum"), (0, u "name"), (0, u "Ljava/lang/String;"), (2, u "ordinal"), (0, u "I"), (1, .class_ 14), (1, u "java/lang/Object"), (4, u "hash"), (86, .class_ 108), (1, u "java/lang/Enum$EnumDesc"), (2, .class_ 112), (0, u "java/lang/constant/Constable"), (0, .class_ 114), (0, u "java/lang/Comparable"), (0, .class_ 116), (0, u "java/io/Serializable")] 87

/-- java/lang/Enum -/
def k5 : Class := { plain "java/lang/Enum" (some 0) with
  accessFlags := 1057
  interfaces := #[2, 3, 4]
  cf := some (fileOf pool5 2 #[.nestMembers #[106]] #[] 1057 12 #[111, 113, 115] #[{ accessFlags := 18, nameIndex := 5, descriptorIndex := 6, attributes := #[] }, { accessFlags := 18, nameIndex := 9, descriptorIndex := 10, attributes := #[] }, { accessFlags := 2, nameIndex := 19, descriptorIndex := 10, attributes := #[] }])
  fields := #[{ name := "name", type := (.object "java/lang/String"), accessFlags := 18, slot := 0, constantValue := 0 }, { name := "ordinal", type := .int, accessFlags := 18, slot := 1, constantValue := 0 }, { name := "hash", type := .int, accessFlags := 2, slot := 2, constantValue := 0 }]
  methods := #[]
  instanceTypes := #[(.object "java/lang/String"), .int, .int]
  staticTypes := #[]
  resolved := Array.replicate 204 none
  statics := none }

def pool6 : Array CpInfo := pool [(1, .class_ 2), (0, u "com/example/items_in_arrays/itemsinarrays/xpath/RegularExpressionProgram$Code"), (2, u "NOTHING"), (0, u "Lcom/example/items_in_arrays/itemsinarrays/xpath/RegularExpressionProgram$Code;"), (2, u "CHARACTER"), (2, u "SET"), (2, u "STRING_START"), (2, u "LINE_START"), (2, u "STRING_END"), (2, u "LINE_END"), (2, u "BACK_REFERENCE"), (2, u "SAVE"), (2, u "JUMP"), (2, u "TRY_NEXT"), (2, u "TRY_TARGET"), (2, u "LOOP_START"), (2, u "LOOP"), (2, u "LOOP_AGAIN"), (2, u "RUN"), (2, u "MATCH"), (2, u "$VALUES"), (0, u "[Lcom/example/items_in_arrays/itemsinarrays/xpath/RegularExpressionProgram$Code;"), (6, .class_ 67), (1, u "java/lang/Enum"), (40, .class_ 109), (0, u "com/example/items_in_arrays/itemsinarrays/xpath/RegularExpressionProgram")] 1

/-- com/example/items_in_arrays/itemsinarrays/xpath/RegularExpressionProgram$Code -/
def k6 : Class := { plain "com/example/items_in_arrays/itemsinarrays/xpath/RegularExpressionProgram$Code" (some 5) with
  accessFlags := 16432
  interfaces := #[]
  cf := some (fileOf pool6 1 #[.nestHost 108] #[] 16432 65 #[] #[{ accessFlags := 16409, nameIndex := 5, descriptorIndex := 6, attributes := #[] }, { accessFlags := 16409, nameIndex := 9, descriptorIndex := 6, attributes := #[] }, { accessFlags := 16409, nameIndex := 12, descriptorIndex := 6, attributes := #[] }, { accessFlags := 16409, nameIndex := 15, descriptorIndex := 6, attributes := #[] }, { accessFlags := 16409, nameIndex := 18, descriptorIndex := 6, attributes := #[] }, { accessFlags := 16409, nameIndex := 21, descriptorIndex := 6, attributes := #[] }, { accessFlags := 16409, nameIndex := 24, descriptorIndex := 6, attributes := #[] }, { accessFlags := 16409, nameIndex := 27, descriptorIndex := 6, attributes := #[] }, { accessFlags := 16409, nameIndex := 30, descriptorIndex := 6, attributes := #[] }, { accessFlags := 16409, nameIndex := 33, descriptorIndex := 6, attributes := #[] }, { accessFlags := 16409, nameIndex := 36, descriptorIndex := 6, attributes := #[] }, { accessFlags := 16409, nameIndex := 39, descriptorIndex := 6, attributes := #[] }, { accessFlags := 16409, nameIndex := 42, descriptorIndex := 6, attributes := #[] }, { accessFlags := 16409, nameIndex := 45, descriptorIndex := 6, attributes := #[] }, { accessFlags := 16409, nameIndex := 48, descriptorIndex := 6, attributes := #[] }, { accessFlags := 16409, nameIndex := 51, descriptorIndex := 6, attributes := #[] }, { accessFlags := 16409, nameIndex := 54, descriptorIndex := 6, attributes := #[] }, { accessFlags := 4122, nameIndex := 57, descriptorIndex := 58, attributes := #[] }])
  fields := #[{ name := "NOTHING", type := (.object "com/example/items_in_arrays/itemsinarrays/xpath/RegularExpressionProgram$Code"), accessFlags := 16409, slot := 0, constantValue := 0 }, { name := "CHARACTER", type := (.object "com/example/items_in_arrays/itemsinarrays/xpath/RegularExpressionProgram$Code"), accessFlags := 16409, slot := 1, constantValue := 0 }, { name := "SET", type := (.object "com/example/items_in_arrays/itemsinarrays/xpath/RegularExpressionProgram$Code"), accessFlags := 16409, slot := 2, constantValue := 0 }, { name := "STRING_START", type := (.object "com/example/items_in_arrays/itemsinarrays/xpath/RegularExpressionProgram$Code"), accessFlags := 16409, slot := 3, constantValue := 0 }, { name := "LINE_START", type := (.object "com/example/items_in_arrays/itemsinarrays/xpath/RegularExpressionProgram$Code"), accessFlags := 16409, slot := 4, constantValue := 0 }, { name := "STRING_END", type := (.object "com/example/items_in_arrays/itemsinarrays/xpath/RegularExpressionProgram$Code"), accessFlags := 16409, slot := 5, constantValue := 0 }, { name := "LINE_END", type := (.object "com/example/items_in_arrays/itemsinarrays/xpath/RegularExpressionProgram$Code"), accessFlags := 16409, slot := 6, constantValue := 0 }, { name := "BACK_REFERENCE", type := (.object "com/example/items_in_arrays/itemsinarrays/xpath/RegularExpressionProgram$Code"), accessFlags := 16409, slot := 7, constantValue := 0 }, { name := "SAVE", type := (.object "com/example/items_in_arrays/itemsinarrays/xpath/RegularExpressionProgram$Code"), accessFlags := 16409, slot := 8, constantValue := 0 }, { name := "JUMP", type := (.object "com/example/items_in_arrays/itemsinarrays/xpath/RegularExpressionProgram$Code"), accessFlags := 16409, slot := 9, constantValue := 0 }, { name := "TRY_NEXT", type := (.object "com/example/items_in_arrays/itemsinarrays/xpath/RegularExpressionProgram$Code"), accessFlags := 16409, slot := 10, constantValue := 0 }, { name := "TRY_TARGET", type := (.object "com/example/items_in_arrays/itemsinarrays/xpath/RegularExpressionProgram$Code"), accessFlags := 16409, slot := 11, constantValue := 0 }, { name := "LOOP_START", type := (.object "com/example/items_in_arrays/itemsinarrays/xpath/RegularExpressionProgram$Code"), accessFlags := 16409, slot := 12, constantValue := 0 }, { name := "LOOP", type := (.object "com/example/items_in_arrays/itemsinarrays/xpath/RegularExpressionProgram$Code"), accessFlags := 16409, slot := 13, constantValue := 0 }, { name := "LOOP_AGAIN", type := (.object "com/example/items_in_arrays/itemsinarrays/xpath/RegularExpressionProgram$Code"), accessFlags := 16409, slot := 14, constantValue := 0 }, { name := "RUN", type := (.object "com/example/items_in_arrays/itemsinarrays/xpath/RegularExpressionProgram$Code"), accessFlags := 16409, slot := 15, constantValue := 0 }, { name := "MATCH", type := (.object "com/example/items_in_arrays/itemsinarrays/xpath/RegularExpressionProgram$Code"), accessFlags := 16409, slot := 16, constantValue := 0 }, { name := "$VALUES", type := (.array (.object "com/example/items_in_arrays/itemsinarrays/xpath/RegularExpressionProgram$Code")), accessFlags := 4122, slot := 17, constantValue := 0 }]
  methods := #[]
  instanceTypes := #[(.object "java/lang/String"), .int, .int]
  staticTypes := #[(.object "com/example/items_in_arrays/itemsinarrays/xpath/RegularExpressionProgram$Code"), (.object "com/example/items_in_arrays/itemsinarrays/xpath/RegularExpressionProgram$Code"), (.object "com/example/items_in_arrays/itemsinarrays/xpath/RegularExpressionProgram$Code"), (.object "com/example/items_in_arrays/itemsinarrays/xpath/RegularExpressionProgram$Code"), (.object "com/example/items_in_arrays/itemsinarrays/xpath/RegularExpressionProgram$Code"), (.object "com/example/items_in_arrays/itemsinarrays/xpath/RegularExpressionProgram$Code"), (.object "com/example/items_in_arrays/itemsinarrays/xpath/RegularExpressionProgram$Code"), (.object "com/example/items_in_arrays/itemsinarrays/xpath/RegularExpressionProgram$Code"), (.object "com/example/items_in_arrays/itemsinarrays/xpath/RegularExpressionProgram$Code"), (.object "com/example/items_in_arrays/itemsinarrays/xpath/RegularExpressionProgram$Code"), (.object "com/example/items_in_arrays/itemsinarrays/xpath/RegularExpressionProgram$Code"), (.object "com/example/items_in_arrays/itemsinarrays/xpath/RegularExpressionProgram$Code"), (.object "com/example/items_in_arrays/itemsinarrays/xpath/RegularExpressionProgram$Code"), (.object "com/example/items_in_arrays/itemsinarrays/xpath/RegularExpressionProgram$Code"), (.object "com/example/items_in_arrays/itemsinarrays/xpath/RegularExpressionProgram$Code"), (.object "com/example/items_in_arrays/itemsinarrays/xpath/RegularExpressionProgram$Code"), (.object "com/example/items_in_arrays/itemsinarrays/xpath/RegularExpressionProgram$Code"), (.array (.object "com/example/items_in_arrays/itemsinarrays/xpath/RegularExpressionProgram$Code"))]
  resolved := Array.replicate 111 none
  statics := some 0 }

def pool7 : Array CpInfo := pool [(1, .methodref 2 3), (0, .class_ 4), (0, .nameAndType 5 6), (0, u "java/lang/Object"), (0, u "<init>"), (0, u "()V"), (0, .class_ 8), (0, u "com/example/items_in_arrays/itemsinarrays/xpath/RegularExpressionProgram$Code"), (0, .fieldref 10 11), (0, .class_ 12), (0, .nameAndType 13 14), (0, u "com/example/items_in_arrays/itemsinarrays/xpath/RegularExpressionProgram$Builder"), (0, u "codes"), (0, u "[Lcom/example/items_in_arrays/itemsinarrays/xpath/RegularExpressionProgram$Code;"), (0, .fieldref 10 16), (0, .nameAndType 17 18), (0, u "operands"), (0, u "[I"), (0, .fieldref 10 20), (0, .nameAndType 21 18), (0, u "targets"), (0, .class_ 23), (0, u "java/util/ArrayList"), (0, .methodref 22 3), (0, .fieldref 10 26), (0, .nameAndType 27 28), (0, u "sets"), (0, u "Ljava/util/List;"), (0, .fieldref 10 30), (0, .nameAndType 31 18), (0, u "least"), (0, .fieldref 10 33), (0, .nameAndType 34 18), (0, u "most"), (0, .fieldref 10 36), (0, .nameAndType 37 38), (0, u "greedy"), (0, u "[Z"), (0, .fieldref 10 40), (0, .nameAndType 41 38), (0, u "checksEmpty"), (0, .fieldref 10 43), (0, .nameAndType 44 45), (0, u "required"), (0, u "I"), (0, .fieldref 10 47), (0, .nameAndType 48 45), (0, u "size"), (12, u "add"), (0, u "(Lcom/example/items_in_arrays/itemsinarrays/xpath/RegularExpressionProgram$Code;II)I"), (0, .fieldref 7 64), (0, .nameAndType 65 66), (0, u "CHARACTER"), (0, u "Lcom/example/items_in_arrays/itemsinarrays/xpath/RegularExpressionProgram$Code;"), (3, .methodref 71 72), (0, .class_ 73), (0, .nameAndType 74 75), (0, u "com/example/items_in_arrays/itemsinarrays/xpath/CodepointSet"), (0, u "range"), (0, u "(II)Lcom/example/items_in_arrays/itemsinarrays/xpath/CodepointSet;"), (28, u "set"), (0, u "(ILcom/example/items_in_arrays/itemsinarrays/xpath/RegularExpressionProgram$Code;II)V"), (8, u "loops"), (9, .class_ 125), (0, u "com/example/items_in_arrays/itemsinarrays/xpath/RegularExpressionProgram"), (8, u "code"), (0, u "(I)Lcom/example/items_in_arrays/itemsinarrays/xpath/RegularExpressionProgram$Code;"), (0, u "target"), (0, u "(I)I"), (0, u "characters"), (0, u "(I)Lcom/example/items_in_arrays/itemsinarrays/xpath/CodepointSet;")] 22

def k7c0 : Code := { maxStack := 3, maxLocals := 1, code := prog_64_method_1_code, exceptionTable := #[], attributes := #[] }
def k7m0 : Method := { name := "<init>", desc := "()V", sig := { parameters := [], returnType := none }, accessFlags := 0, code := some k7c0 }
def k7c1 : Code := { maxStack := 4, maxLocals := 4, code := prog_64_method_2_code, exceptionTable := #[], attributes := #[] }
def k7m1 : Method := { name := "add", desc := "(Lcom/example/items_in_arrays/itemsinarrays/xpath/RegularExpressionProgram$Code;II)I", sig := { parameters := [(.object "com/example/items_in_arrays/itemsinarrays/xpath/RegularExpressionProgram$Code"), .int, .int], returnType := some .int }, accessFlags := 0, code := some k7c1 }
def k7c2 : Code := { maxStack := 3, maxLocals := 5, code := prog_64_method_4_code, exceptionTable := #[], attributes := #[] }
def k7m2 : Method := { name := "set", desc := "(ILcom/example/items_in_arrays/itemsinarrays/xpath/RegularExpressionProgram$Code;II)V", sig := { parameters := [.int, (.object "com/example/items_in_arrays/itemsinarrays/xpath/RegularExpressionProgram$Code"), .int, .int], returnType := none }, accessFlags := 0, code := some k7c2 }
def k7c3 : Code := { maxStack := 2, maxLocals := 2, code := prog_64_method_5_code, exceptionTable := #[], attributes := #[] }
def k7m3 : Method := { name := "code", desc := "(I)Lcom/example/items_in_arrays/itemsinarrays/xpath/RegularExpressionProgram$Code;", sig := { parameters := [.int], returnType := some (.object "com/example/items_in_arrays/itemsinarrays/xpath/RegularExpressionProgram$Code") }, accessFlags := 0, code := some k7c3 }
def k7c4 : Code := { maxStack := 2, maxLocals := 2, code := prog_64_method_6_code, exceptionTable := #[], attributes := #[] }
def k7m4 : Method := { name := "target", desc := "(I)I", sig := { parameters := [.int], returnType := some .int }, accessFlags := 0, code := some k7c4 }
def k7c5 : Code := { maxStack := 2, maxLocals := 3, code := prog_64_method_8_code, exceptionTable := #[], attributes := #[] }
def k7m5 : Method := { name := "characters", desc := "(I)Lcom/example/items_in_arrays/itemsinarrays/xpath/CodepointSet;", sig := { parameters := [.int], returnType := some (.object "com/example/items_in_arrays/itemsinarrays/xpath/CodepointSet") }, accessFlags := 0, code := some k7c5 }
/-- com/example/items_in_arrays/itemsinarrays/xpath/RegularExpressionProgram$Builder -/
def k7 : Class := { plain "com/example/items_in_arrays/itemsinarrays/xpath/RegularExpressionProgram$Builder" (some 0) with
  accessFlags := 32
  interfaces := #[]
  cf := some (fileOf pool7 10 #[.nestHost 124] #[{ accessFlags := 0, nameIndex := 5, descriptorIndex := 6, attributes := #[] }, { accessFlags := 0, nameIndex := 61, descriptorIndex := 62, attributes := #[] }, { accessFlags := 0, nameIndex := 104, descriptorIndex := 105, attributes := #[] }, { accessFlags := 0, nameIndex := 134, descriptorIndex := 135, attributes := #[] }, { accessFlags := 0, nameIndex := 136, descriptorIndex := 137, attributes := #[] }, { accessFlags := 0, nameIndex := 138, descriptorIndex := 139, attributes := #[] }] 32 2 #[] #[{ accessFlags := 2, nameIndex := 13, descriptorIndex := 14, attributes := #[] }, { accessFlags := 2, nameIndex := 17, descriptorIndex := 18, attributes := #[] }, { accessFlags := 2, nameIndex := 21, descriptorIndex := 18, attributes := #[] }, { accessFlags := 2, nameIndex := 48, descriptorIndex := 45, attributes := #[] }, { accessFlags := 18, nameIndex := 27, descriptorIndex := 28, attributes := #[] }, { accessFlags := 2, nameIndex := 31, descriptorIndex := 18, attributes := #[] }, { accessFlags := 2, nameIndex := 34, descriptorIndex := 18, attributes := #[] }, { accessFlags := 2, nameIndex := 37, descriptorIndex := 38, attributes := #[] }, { accessFlags := 2, nameIndex := 41, descriptorIndex := 38, attributes := #[] }, { accessFlags := 2, nameIndex := 114, descriptorIndex := 45, attributes := #[] }, { accessFlags := 2, nameIndex := 44, descriptorIndex := 45, attributes := #[] }])
  fields := #[{ name := "codes", type := (.array (.object "com/example/items_in_arrays/itemsinarrays/xpath/RegularExpressionProgram$Code")), accessFlags := 2, slot := 0, constantValue := 0 }, { name := "operands", type := (.array .int), accessFlags := 2, slot := 1, constantValue := 0 }, { name := "targets", type := (.array .int), accessFlags := 2, slot := 2, constantValue := 0 }, { name := "size", type := .int, accessFlags := 2, slot := 3, constantValue := 0 }, { name := "sets", type := (.object "java/util/List"), accessFlags := 18, slot := 4, constantValue := 0 }, { name := "least", type := (.array .int), accessFlags := 2, slot := 5, constantValue := 0 }, { name := "most", type := (.array .int), accessFlags := 2, slot := 6, constantValue := 0 }, { name := "greedy", type := (.array .boolean), accessFlags := 2, slot := 7, constantValue := 0 }, { name := "checksEmpty", type := (.array .boolean), accessFlags := 2, slot := 8, constantValue := 0 }, { name := "loops", type := .int, accessFlags := 2, slot := 9, constantValue := 0 }, { name := "required", type := .int, accessFlags := 2, slot := 10, constantValue := 0 }]
  methods := #[k7m0, k7m1, k7m2, k7m3, k7m4, k7m5]
  instanceTypes := #[(.array (.object "com/example/items_in_arrays/itemsinarrays/xpath/RegularExpressionProgram$Code")), (.array .int), (.array .int), .int, (.object "java/util/List"), (.array .int), (.array .int), (.array .boolean), (.array .boolean), .int, .int]
  staticTypes := #[]
  resolved := Array.replicate 162 none
  statics := none }

def pool8 : Array CpInfo := pool [(8, .class_ 10), (1, u "java/lang/Iterable"), (24, .class_ 36), (0, u "java/lang/Object")] 25

/-- java/lang/Iterable -/
def k8 : Class := { plain "java/lang/Iterable" (some 0) with
  accessFlags := 1537
  interfaces := #[]
  cf := some (fileOf pool8 8 #[] #[] 1537 35 #[] #[])
  fields := #[]
  methods := #[]
  instanceTypes := #[]
  staticTypes := #[]
  resolved := Array.replicate 62 none
  statics := none }

def pool9 : Array CpInfo := pool [(10, .class_ 12), (1, u "java/util/Collection"), (47, .class_ 61), (0, u "java/lang/Object"), (0, .class_ 63), (0, u "java/lang/Iterable")] 51

/-- java/util/Collection -/
def k9 : Class := { plain "java/util/Collection" (some 0) with
  accessFlags := 1537
  interfaces := #[8]
  cf := some (fileOf pool9 10 #[] #[] 1537 60 #[62] #[])
  fields := #[]
  methods := #[]
  instanceTypes := #[]
  staticTypes := #[]
  resolved := Array.replicate 115 none
  statics := none }

def pool10 : Array CpInfo := pool [(1, .methodref 2 3), (0, .class_ 4), (0, .nameAndType 5 6), (0, u "java/lang/Object"), (0, u "<init>"), (0, u "()V"), (1, .class_ 10), (1, u "java/util/AbstractCollection"), (66, .class_ 78), (0, u "java/util/Collection")] 81

def k10c0 : Code := { maxStack := 1, maxLocals := 1, code := jdk_22_method_1_code, exceptionTable := #[], attributes := #[] }
def k10m0 : Method := { name := "<init>", desc := "()V", sig := { parameters := [], returnType := none }, accessFlags := 4, code := some k10c0 }
/-- java/util/AbstractCollection -/
def k10 : Class := { plain "java/util/AbstractCollection" (some 0) with
  accessFlags := 1057
  interfaces := #[9]
  cf := some (fileOf pool10 8 #[] #[{ accessFlags := 4, nameIndex := 5, descriptorIndex := 6, attributes := #[] }] 1057 2 #[77] #[])
  fields := #[]
  methods := #[k10m0]
  instanceTypes := #[]
  staticTypes := #[]
  resolved := Array.replicate 160 none
  statics := none }

def pool11 : Array CpInfo := pool [(8, .class_ 10), (1, u "java/util/SequencedCollection"), (15, .class_ 27), (0, u "java/lang/Object"), (0, .class_ 29), (0, u "java/util/Collection")] 27

/-- java/util/SequencedCollection -/
def k11 : Class := { plain "java/util/SequencedCollection" (some 0) with
  accessFlags := 1537
  interfaces := #[9]
  cf := some (fileOf pool11 8 #[] #[] 1537 26 #[28] #[])
  fields := #[]
  methods := #[]
  instanceTypes := #[]
  staticTypes := #[]
  resolved := Array.replicate 57 none
  statics := none }

def pool12 : Array CpInfo := pool [(8, .class_ 10), (1, u "java/util/List"), (92, .class_ 104), (0, u "java/lang/Object"), (15, .class_ 121), (0, u "java/util/SequencedCollection")] 129

/-- java/util/List -/
def k12 : Class := { plain "java/util/List" (some 0) with
  accessFlags := 1537
  interfaces := #[11]
  cf := some (fileOf pool12 8 #[] #[] 1537 103 #[120] #[])
  fields := #[]
  methods := #[]
  instanceTypes := #[]
  staticTypes := #[]
  resolved := Array.replicate 251 none
  statics := none }

def pool13 : Array CpInfo := pool [(1, .methodref 2 3), (0, .class_ 4), (0, .nameAndType 5 6), (0, u "java/util/AbstractCollection"), (0, u "<init>"), (0, u "()V"), (0, .fieldref 8 9), (0, .class_ 10), (0, .nameAndType 11 12), (0, u "java/util/AbstractList"), (0, u "modCount"), (0, u "I"), (64, .class_ 78), (0, u "java/util/AbstractList$Itr"), (3, .class_ 83), (0, u "java/util/AbstractList$ListItr"), (9, .class_ 94), (0, u "java/util/AbstractList$RandomAccessSubList"), (3, .class_ 99), (0, u "java/util/AbstractList$SubList"), (33, .class_ 134), (0, u "java/util/List"), (73, .class_ 209), (0, u "java/util/AbstractList$SubList$1"), (0, .class_ 211), (0, u "java/util/AbstractList$RandomAccessSpliterator")] 6

def k13c0 : Code := { maxStack := 2, maxLocals := 1, code := jdk_39_method_1_code, exceptionTable := #[], attributes := #[] }
def k13m0 : Method := { name := "<init>", desc := "()V", sig := { parameters := [], returnType := none }, accessFlags := 4, code := some k13c0 }
/-- java/util/AbstractList -/
def k13 : Class := { plain "java/util/AbstractList" (some 10) with
  accessFlags := 1057
  interfaces := #[12]
  cf := some (fileOf pool13 8 #[.nestMembers #[93, 98, 208, 210, 82, 77]] #[{ accessFlags := 4, nameIndex := 5, descriptorIndex := 6, attributes := #[] }] 1057 2 #[133] #[{ accessFlags := 132, nameIndex := 11, descriptorIndex := 12, attributes := #[] }])
  fields := #[{ name := "modCount", type := .int, accessFlags := 132, slot := 0, constantValue := 0 }]
  methods := #[k13m0]
  instanceTypes := #[.int]
  staticTypes := #[]
  resolved := Array.replicate 218 none
  statics := none }

def pool14 : Array CpInfo := pool [(1, .class_ 2), (0, u "java/util/RandomAccess"), (0, .class_ 4), (0, u "java/lang/Object")] 2

/-- java/util/RandomAccess -/
def k14 : Class := { plain "java/util/RandomAccess" (some 0) with
  accessFlags := 1537
  interfaces := #[]
  cf := some (fileOf pool14 1 #[] #[] 1537 3 #[] #[])
  fields := #[]
  methods := #[]
  instanceTypes := #[]
  staticTypes := #[]
  resolved := Array.replicate 7 none
  statics := none }

def pool15 : Array CpInfo := pool [(1, .class_ 2), (0, u "java/lang/Cloneable"), (0, .class_ 4), (0, u "java/lang/Object")] 2

/-- java/lang/Cloneable -/
def k15 : Class := { plain "java/lang/Cloneable" (some 0) with
  accessFlags := 1537
  interfaces := #[]
  cf := some (fileOf pool15 1 #[] #[] 1537 3 #[] #[])
  fields := #[]
  methods := #[]
  instanceTypes := #[]
  staticTypes := #[]
  resolved := Array.replicate 7 none
  statics := none }

def pool16 : Array CpInfo := pool [(1, .methodref 2 3), (0, .class_ 4), (0, .nameAndType 5 6), (0, u "java/util/AbstractList"), (0, u "<init>"), (0, u "()V"), (2, .fieldref 10 11), (0, .class_ 12), (0, .nameAndType 13 14), (0, u "java/util/ArrayList"), (0, u "elementData"), (0, u "[Ljava/lang/Object;"), (2, u "EMPTY_ELEMENTDATA"), (21, .fieldref 10 40), (0, .nameAndType 41 14), (0, u "DEFAULTCAPACITY_EMPTY_ELEMENTDATA"), (8, u "size"), (0, u "I"), (96, .class_ 149), (0, u "java/util/List"), (112, .class_ 263), (0, u "java/util/ArrayList$ListItr"), (3, .class_ 268), (0, u "java/util/ArrayList$Itr"), (7, .class_ 277), (0, u "java/util/ArrayList$SubList"), (12, .class_ 291), (0, u "java/util/ArrayList$ArrayListSpliterator"), (37, .class_ 330), (0, u "java/util/RandomAccess"), (0, .class_ 332), (0, u "java/lang/Cloneable"), (0, .class_ 334), (0, u "java/io/Serializable"), (0, u "serialVersionUID"), (0, u "J"), (3, u "DEFAULT_CAPACITY"), (159, .class_ 501), (0, u "java/util/ArrayList$SubList$2"), (0, .class_ 503), (0, u "java/util/ArrayList$SubList$1")] 5

def k16c0 : Code := { maxStack := 2, maxLocals := 1, code := jdk_38_method_2_code, exceptionTable := #[], attributes := #[] }
def k16m0 : Method := { name := "<init>", desc := "()V", sig := { parameters := [], returnType := none }, accessFlags := 1, code := some k16c0 }
/-- java/util/ArrayList -/
def k16 : Class := { plain "java/util/ArrayList" (some 13) with
  accessFlags := 33
  interfaces := #[12, 14, 15, 4]
  cf := some (fileOf pool16 10 #[.nestMembers #[290, 276, 500, 502, 262, 267]] #[{ accessFlags := 1, nameIndex := 5, descriptorIndex := 6, attributes := #[] }] 33 2 #[148, 329, 331, 333] #[{ accessFlags := 26, nameIndex := 335, descriptorIndex := 336, attributes := #[] }, { accessFlags := 26, nameIndex := 340, descriptorIndex := 51, attributes := #[] }, { accessFlags := 26, nameIndex := 17, descriptorIndex := 14, attributes := #[] }, { accessFlags := 26, nameIndex := 41, descriptorIndex := 14, attributes := #[] }, { accessFlags := 128, nameIndex := 13, descriptorIndex := 14, attributes := #[] }, { accessFlags := 2, nameIndex := 50, descriptorIndex := 51, attributes := #[] }])
  fields := #[{ name := "serialVersionUID", type := .long, accessFlags := 26, slot := 0, constantValue := 0 }, { name := "DEFAULT_CAPACITY", type := .int, accessFlags := 26, slot := 1, constantValue := 0 }, { name := "EMPTY_ELEMENTDATA", type := (.array (.object "java/lang/Object")), accessFlags := 26, slot := 2, constantValue := 0 }, { name := "DEFAULTCAPACITY_EMPTY_ELEMENTDATA", type := (.array (.object "java/lang/Object")), accessFlags := 26, slot := 3, constantValue := 0 }, { name := "elementData", type := (.array (.object "java/lang/Object")), accessFlags := 128, slot := 1, constantValue := 0 }, { name := "size", type := .int, accessFlags := 2, slot := 2, constantValue := 0 }]
  methods := #[k16m0]
  instanceTypes := #[.int, (.array (.object "java/lang/Object")), .int]
  staticTypes := #[.long, .int, (.array (.object "java/lang/Object")), (.array (.object "java/lang/Object"))]
  resolved := Array.replicate 509 none
  statics := some 1 }

def pool17 : Array CpInfo := pool [(1, .methodref 2 3), (0, .class_ 4), (0, .nameAndType 5 6), (0, u "java/lang/Object"), (0, u "<init>"), (0, u "()V"), (0, .fieldref 8 9), (0, .class_ 10), (0, .nameAndType 11 12), (0, u "com/example/items_in_arrays/itemsinarrays/xpath/CodepointSet"), (0, u "ascii"), (0, u "[J"), (0, .fieldref 8 14), (0, .nameAndType 15 16), (0, u "ranges"), (0, u "[I"), (0, .methodref 18 19), (0, .class_ 20), (0, .nameAndType 21 22), (0, u "java/lang/Math"), (0, u "min"), (0, u "(II)I"), (0, .methodref 8 24), (0, .nameAndType 5 25), (0, u "([I)V"), (2, u "CATEGORY_SETS"), (0, u "Lcom/example/items_in_arrays/itemsinarrays/xpath/Lazy;"), (21, u "BLOCK_SETS"), (4, .class_ 57), (0, u "com/example/items_in_arrays/itemsinarrays/xpath/CodepointSet$Builder"), (105, u "CATEGORIES"), (0, u "Ljava/util/Map;"), (13, u "range"), (0, u "(II)Lcom/example/items_in_arrays/itemsinarrays/xpath/CodepointSet;"), (2, u "ALL"), (0, u "Lcom/example/items_in_arrays/itemsinarrays/xpath/CodepointSet;"), (89, u "BLOCK_ALIGNMENT"), (0, u "I"), (12, u "single"), (0, u "()I")] 55

def k17c0 : Code := { maxStack := 8, maxLocals := 4, code := prog_52_method_1_code, exceptionTable := #[], attributes := #[] }
def k17m0 : Method := { name := "<init>", desc := "([I)V", sig := { parameters := [(.array .int)], returnType := none }, accessFlags := 2, code := some k17c0 }
def k17c1 : Code := { maxStack := 6, maxLocals := 2, code := prog_52_method_2_code, exceptionTable := #[], attributes := #[] }
def k17m1 : Method := { name := "range", desc := "(II)Lcom/example/items_in_arrays/itemsinarrays/xpath/CodepointSet;", sig := { parameters := [.int, .int], returnType := some (.object "com/example/items_in_arrays/itemsinarrays/xpath/CodepointSet") }, accessFlags := 8, code := some k17c1 }
def k17c2 : Code := { maxStack := 3, maxLocals := 2, code := prog_52_method_7_code, exceptionTable := #[], attributes := #[] }
def k17m2 : Method := { name := "single", desc := "()I", sig := { parameters := [], returnType := some .int }, accessFlags := 0, code := some k17c2 }
/-- com/example/items_in_arrays/itemsinarrays/xpath/CodepointSet -/
def k17 : Class := { plain "com/example/items_in_arrays/itemsinarrays/xpath/CodepointSet" (some 0) with
  accessFlags := 32
  interfaces := #[]
  cf := some (fileOf pool17 8 #[.nestMembers #[56]] #[{ accessFlags := 2, nameIndex := 5, descriptorIndex := 25, attributes := #[] }, { accessFlags := 8, nameIndex := 178, descriptorIndex := 179, attributes := #[] }, { accessFlags := 0, nameIndex := 287, descriptorIndex := 288, attributes := #[] }] 32 2 #[] #[{ accessFlags := 24, nameIndex := 182, descriptorIndex := 183, attributes := #[] }, { accessFlags := 26, nameIndex := 163, descriptorIndex := 164, attributes := #[] }, { accessFlags := 26, nameIndex := 273, descriptorIndex := 274, attributes := #[] }, { accessFlags := 26, nameIndex := 28, descriptorIndex := 29, attributes := #[] }, { accessFlags := 26, nameIndex := 51, descriptorIndex := 29, attributes := #[] }, { accessFlags := 18, nameIndex := 15, descriptorIndex := 16, attributes := #[] }, { accessFlags := 18, nameIndex := 11, descriptorIndex := 12, attributes := #[] }])
  fields := #[{ name := "ALL", type := (.object "com/example/items_in_arrays/itemsinarrays/xpath/CodepointSet"), accessFlags := 24, slot := 0, constantValue := 0 }, { name := "CATEGORIES", type := (.object "java/util/Map"), accessFlags := 26, slot := 1, constantValue := 0 }, { name := "BLOCK_ALIGNMENT", type := .int, accessFlags := 26, slot := 2, constantValue := 0 }, { name := "CATEGORY_SETS", type := (.object "com/example/items_in_arrays/itemsinarrays/xpath/Lazy"), accessFlags := 26, slot := 3, constantValue := 0 }, { name := "BLOCK_SETS", type := (.object "com/example/items_in_arrays/itemsinarrays/xpath/Lazy"), accessFlags := 26, slot := 4, constantValue := 0 }, { name := "ranges", type := (.array .int), accessFlags := 18, slot := 0, constantValue := 0 }, { name := "ascii", type := (.array .long), accessFlags := 18, slot := 1, constantValue := 0 }]
  methods := #[k17m0, k17m1, k17m2]
  instanceTypes := #[(.array .int), (.array .long)]
  staticTypes := #[(.object "com/example/items_in_arrays/itemsinarrays/xpath/CodepointSet"), (.object "java/util/Map"), .int, (.object "com/example/items_in_arrays/itemsinarrays/xpath/Lazy"), (.object "com/example/items_in_arrays/itemsinarrays/xpath/Lazy")]
  resolved := Array.replicate 344 none
  statics := none }

def pool18 : Array CpInfo := pool [(1, .class_ 2), (0, u "java/lang/Math"), (1, .class_ 6), (1, u "java/lang/Object"), (0, u "<init>"), (0, u "()V"), (89, .class_ 100), (1, u "java/lang/Math$RandomNumberGeneratorHolder"), (71, u "negativeZeroFloatBits"), (0, u "J"), (2, u "negativeZeroDoubleBits"), (24, u "min"), (43, u "$assertionsDisabled"), (0, u "Z"), (88, u "(II)I"), (2, u "twoToTheDoubleScaleDown"), (0, u "D"), (4, u "twoToTheDoubleScaleUp"), (9, u "E"), (3, u "PI"), (2, u "TAU"), (2, u "DEGREES_TO_RADIANS"), (0, u "RADIANS_TO_DEGREES")] 94

def k18m0 : Method := { name := "<init>", desc := "()V", sig := { parameters := [], returnType := none }, accessFlags := 2, code := none }
def k18c1 : Code := { maxStack := 2, maxLocals := 2, code := jdk_29_method_69_code, exceptionTable := #[], attributes := #[] }
def k18m1 : Method := { name := "min", desc := "(II)I", sig := { parameters := [.int, .int], returnType := some .int }, accessFlags := 9, code := some k18c1 }
/-- java/lang/Math -/
def k18 : Class := { plain "java/lang/Math" (some 0) with
  accessFlags := 49
  interfaces := #[]
  cf := some (fileOf pool18 1 #[.nestMembers #[98]] #[{ accessFlags := 2, nameIndex := 7, descriptorIndex := 8, attributes := #[] }, { accessFlags := 9, nameIndex := 201, descriptorIndex := 335, attributes := #[] }] 49 4 #[] #[{ accessFlags := 25, nameIndex := 354, descriptorIndex := 339, attributes := #[] }, { accessFlags := 25, nameIndex := 358, descriptorIndex := 339, attributes := #[] }, { accessFlags := 25, nameIndex := 361, descriptorIndex := 339, attributes := #[] }, { accessFlags := 26, nameIndex := 364, descriptorIndex := 339, attributes := #[] }, { accessFlags := 26, nameIndex := 365, descriptorIndex := 339, attributes := #[] }, { accessFlags := 26, nameIndex := 172, descriptorIndex := 173, attributes := #[] }, { accessFlags := 26, nameIndex := 176, descriptorIndex := 173, attributes := #[] }, { accessFlags := 8, nameIndex := 344, descriptorIndex := 339, attributes := #[] }, { accessFlags := 8, nameIndex := 338, descriptorIndex := 339, attributes := #[] }, { accessFlags := 4120, nameIndex := 245, descriptorIndex := 246, attributes := #[] }])
  fields := #[{ name := "E", type := .double, accessFlags := 25, slot := 0, constantValue := 0 }, { name := "PI", type := .double, accessFlags := 25, slot := 1, constantValue := 0 }, { name := "TAU", type := .double, accessFlags := 25, slot := 2, constantValue := 0 }, { name := "DEGREES_TO_RADIANS", type := .double, accessFlags := 26, slot := 3, constantValue := 0 }, { name := "RADIANS_TO_DEGREES", type := .double, accessFlags := 26, slot := 4, constantValue := 0 }, { name := "negativeZeroFloatBits", type := .long, accessFlags := 26, slot := 5, constantValue := 0 }, { name := "negativeZeroDoubleBits", type := .long, accessFlags := 26, slot := 6, constantValue := 0 }, { name := "twoToTheDoubleScaleUp", type := .double, accessFlags := 8, slot := 7, constantValue := 0 }, { name := "twoToTheDoubleScaleDown", type := .double, accessFlags := 8, slot := 8, constantValue := 0 }, { name := "$assertionsDisabled", type := .boolean, accessFlags := 4120, slot := 9, constantValue := 0 }]
  methods := #[k18m0, k18m1]
  instanceTypes := #[]
  staticTypes := #[.double, .double, .double, .double, .double, .long, .long, .double, .double, .boolean]
  resolved := Array.replicate 460 none
  statics := none }

/-- the primitive boolean -/
def k19 : Class := { plain "boolean" none with kind := .primitive 'Z', accessFlags := 0x411 }
/-- [Z -/
def k20 : Class := { plain "[Z" (some 0) with kind := .array 19 .boolean, interfaces := #[15, 4], accessFlags := 1041 }

/-- the primitive byte -/
def k21 : Class := { plain "byte" none with kind := .primitive 'B', accessFlags := 0x411 }
/-- [B -/
def k22 : Class := { plain "[B" (some 0) with kind := .array 21 .byte, interfaces := #[15, 4], accessFlags := 1041 }

/-- the primitive int -/
def k23 : Class := { plain "int" none with kind := .primitive 'I', accessFlags := 0x411 }
/-- [I -/
def k24 : Class := { plain "[I" (some 0) with kind := .array 23 .int, interfaces := #[15, 4], accessFlags := 1041 }

/-- the primitive long -/
def k25 : Class := { plain "long" none with kind := .primitive 'J', accessFlags := 0x411 }
/-- [J -/
def k26 : Class := { plain "[J" (some 0) with kind := .array 25 .long, interfaces := #[15, 4], accessFlags := 1041 }

/-- [Lcom/example/items_in_arrays/itemsinarrays/xpath/RegularExpressionProgram$Code; -/
def k27 : Class := { plain "[Lcom/example/items_in_arrays/itemsinarrays/xpath/RegularExpressionProgram$Code;" (some 0) with kind := .array 6 (.object "com/example/items_in_arrays/itemsinarrays/xpath/RegularExpressionProgram$Code"), interfaces := #[15, 4], accessFlags := 1041 }

/-- [Ljava/lang/Object; -/
def k28 : Class := { plain "[Ljava/lang/Object;" (some 0) with kind := .array 0 (.object "java/lang/Object"), interfaces := #[15, 4], accessFlags := 1041 }

def heap : Heap := #[{ cls := 6, slots := #[.ref 2, .ref 3, .ref 4, .ref 5, .ref 6, .ref 7, .ref 8, .ref 9, .ref 10, .ref 11, .ref 12, .ref 13, .ref 14, .ref 15, .ref 16, .ref 17, .ref 18, .null], vm := .statics 6 },
  { cls := 16, slots := #[.long 0, .int 0, .ref 19, .ref 20], vm := .statics 16 },
  { cls := 6, slots := #[.null, .int 0, .int 0], vm := .none },
  { cls := 6, slots := #[.null, .int 1, .int 0], vm := .none },
  { cls := 6, slots := #[.null, .int 2, .int 0], vm := .none },
  { cls := 6, slots := #[.null, .int 3, .int 0], vm := .none },
  { cls := 6, slots := #[.null, .int 4, .int 0], vm := .none },
  { cls := 6, slots := #[.null, .int 5, .int 0], vm := .none },
  { cls := 6, slots := #[.null, .int 6, .int 0], vm := .none },
  { cls := 6, slots := #[.null, .int 7, .int 0], vm := .none },
  { cls := 6, slots := #[.null, .int 8, .int 0], vm := .none },
  { cls := 6, slots := #[.null, .int 9, .int 0], vm := .none },
  { cls := 6, slots := #[.null, .int 10, .int 0], vm := .none },
  { cls := 6, slots := #[.null, .int 11, .int 0], vm := .none },
  { cls := 6, slots := #[.null, .int 12, .int 0], vm := .none },
  { cls := 6, slots := #[.null, .int 13, .int 0], vm := .none },
  { cls := 6, slots := #[.null, .int 14, .int 0], vm := .none },
  { cls := 6, slots := #[.null, .int 15, .int 0], vm := .none },
  { cls := 6, slots := #[.null, .int 16, .int 0], vm := .none },
  { cls := 28, slots := #[], vm := .none },
  { cls := 28, slots := #[], vm := .none }]
def classes : Array Class := #[k0, k1, k2, k3, k4, k5, k6, k7, k8, k9, k10, k11, k12, k13, k14, k15, k16, k17, k18, k19, k20, k21, k22, k23, k24, k25, k26, k27, k28]
def interned : List (Array UInt16 × Addr) := []
def slotsUsed : Nat := 73
def theMethod : MethodId := ⟨1, 2⟩
def args0 : Array Value := #[.int 5, .int 3, .int 9, .int 5, .int 77]
def aboutOver (below : List Frame) : State where
  vm := { classes := classes, interned := interned.toArray }
  heap := heap
  slotsUsed := slotsUsed
  threads := #[{ frames := .invoking theMethod args0 :: below }]
def below0 : List Frame := [.native { method := ⟨0, 0⟩, args := #[] }]
def about1 : State := aboutOver below0
def p0 : Program := .bare "" "" ""
def e0 : Env := launch0.env 0 0 0
theorem w_frames : about1.frames = Frame.invoking theMethod args0 :: below0 := rfl
set_option maxRecDepth 65536 in
theorem w_args : argsFit about1.vm theMethod args0 = true := by decide +kernel
set_option maxRecDepth 65536 in
theorem w_heap : heapFits about1 = true := by decide +kernel
set_option maxRecDepth 65536 in
theorem w_runnable : about1.curStatus? = some .runnable := by decide +kernel
set_option maxRecDepth 65536 in
theorem w_alone : about1.alone = true := by decide +kernel
set_option maxRecDepth 65536 in
theorem w_named : about1.methodNamed? x = some theMethod := by decide +kernel
set_option maxRecDepth 65536 in
theorem w_hears : about1.hears theMethod below0 = true := by decide +kernel
set_option maxRecDepth 65536 in
theorem w_ripe : about1.ripe theMethod args0 below0 = true := by decide +kernel
theorem w_running : about1.status = .running := rfl
set_option maxRecDepth 65536 in
theorem w_room : about1.hasRoom e0.platform room_1 = true :=
  launch0.hasRoom_least _ room_1 (by decide +kernel) (by decide +kernel) (by decide +kernel) (by decide +kernel) (by decide +kernel) (by decide +kernel)
theorem allAtoms_all (ts : List Jvm.Cond) (a : Array Jvm.Value) (st : Jvm.State) : (allAtoms ts).before a st = ts.all (fun c => c.before a st) := by
  induction ts with
  | nil => rfl
  | cons c t ih =>
    show (Jvm.Cond.and c (allAtoms t)).before a st = _
    rw [Jvm.Cond.before_and, ih, List.all_cons]
def words1 : List Jvm.Cond := Jvm.Cond.code x code maxLocals ret :: tables_1
/-- a 'code' word, met by the world's own term for the bytes: nothing is compared byte by byte -/
theorem code_word {y : MethodName} {bytes : ByteArray} {mx : Nat} {rt : Option FieldType} {a : Array Value} {s : State} {m : MethodId} {meth : Method} {c : Code} (h1 : s.methodNamed? y = some m) (h2 : s.vm.method? m = some meth) (h3 : meth.code = some c) (h4 : c.code = bytes)
    (h5 : (c.maxLocals == mx && c.exceptionTable.isEmpty && decide (c.maxStack ≤ mostOperands) && decide (meth.sig.returnType = rt) && !meth.locks && decide (parseMethodDescriptor y.desc = some meth.sig)) = true) : (Jvm.Cond.code y bytes mx rt).before a s = true := by
  simp only [Bool.and_eq_true, beq_iff_eq, Bool.not_eq_true', decide_eq_true_eq] at h5
  obtain ⟨⟨⟨⟨⟨g1, g2⟩, g3⟩, g4⟩, g5⟩, g6⟩ := h5
  simp [Cond.before, Cond.holds, Cond.value, h1, h2, h3, h4, g1, g2, g3, g4, g5, g6]
def isCode : Jvm.Cond → Bool
  | .code _ _ _ _ => true
  | _ => false
theorem all_split {L : List Jvm.Cond} {P : Jvm.Cond → Bool} (h1 : L.all (fun c => isCode c || P c) = true) (h2 : ∀ c ∈ L.filter isCode, P c = true) : L.all P = true := by
  refine List.all_eq_true.mpr fun c hc => ?_
  have h := List.all_eq_true.mp h1 c hc
  rcases Bool.eq_false_or_eq_true (isCode c) with hi | hi
  · exact h2 c (List.mem_filter.mpr ⟨hc, hi⟩)
  · simpa [hi] using h
set_option maxRecDepth 65536 in
theorem w_c0 : (Jvm.Cond.code x code maxLocals ret).before args0 about1 = true := code_word (m := ⟨1, 2⟩) (meth := k1m2) (c := k1c2) (by decide +kernel) rfl rfl rfl (by decide +kernel)
set_option maxRecDepth 65536 in
theorem w_c1 : (Jvm.Cond.code ({ cls := "com/example/items_in_arrays/itemsinarrays/xpath/BuilderSetPinLaw", name := "pick", desc := "(I)Lcom/example/items_in_arrays/itemsinarrays/xpath/RegularExpressionProgram$Code;" } : Jvm.MethodName) method_2_code (2 : Nat) (Option.some (Jvm.ClassFile.FieldType.object "com/example/items_in_arrays/itemsinarrays/xpath/RegularExpressionProgram$Code"))).before args0 about1 = true := code_word (m := ⟨1, 1⟩) (meth := k1m1) (c := k1c1) (by decide +kernel) rfl rfl rfl (by decide +kernel)
set_option maxRecDepth 65536 in
theorem w_c2 : (Jvm.Cond.code ({ cls := "com/example/items_in_arrays/itemsinarrays/xpath/RegularExpressionProgram$Builder", name := "<init>", desc := "()V" } : Jvm.MethodName) prog_64_method_1_code (1 : Nat) (Option.none : Option Jvm.ClassFile.FieldType)).before args0 about1 = true := code_word (m := ⟨7, 0⟩) (meth := k7m0) (c := k7c0) (by decide +kernel) rfl rfl rfl (by decide +kernel)
set_option maxRecDepth 65536 in
theorem w_c3 : (Jvm.Cond.code ({ cls := "java/lang/Object", name := "<init>", desc := "()V" } : Jvm.MethodName) object_method_1_code (1 : Nat) (Option.none : Option Jvm.ClassFile.FieldType)).before args0 about1 = true := code_word (m := ⟨0, 0⟩) (meth := k0m0) (c := k0c0) (by decide +kernel) rfl rfl rfl (by decide +kernel)
set_option maxRecDepth 65536 in
theorem w_c4 : (Jvm.Cond.code ({ cls := "java/util/ArrayList", name := "<init>", desc := "()V" } : Jvm.MethodName) jdk_38_method_2_code (1 : Nat) (Option.none : Option Jvm.ClassFile.FieldType)).before args0 about1 = true := code_word (m := ⟨16, 0⟩) (meth := k16m0) (c := k16c0) (by decide +kernel) rfl rfl rfl (by decide +kernel)
set_option maxRecDepth 65536 in
theorem w_c5 : (Jvm.Cond.code ({ cls := "java/util/AbstractList", name := "<init>", desc := "()V" } : Jvm.MethodName) jdk_39_method_1_code (1 : Nat) (Option.none : Option Jvm.ClassFile.FieldType)).before args0 about1 = true := code_word (m := ⟨13, 0⟩) (meth := k13m0) (c := k13c0) (by decide +kernel) rfl rfl rfl (by decide +kernel)
set_option maxRecDepth 65536 in
theorem w_c6 : (Jvm.Cond.code ({ cls := "java/util/AbstractCollection", name := "<init>", desc := "()V" } : Jvm.MethodName) jdk_22_method_1_code (1 : Nat) (Option.none : Option Jvm.ClassFile.FieldType)).before args0 about1 = true := code_word (m := ⟨10, 0⟩) (meth := k10m0) (c := k10c0) (by decide +kernel) rfl rfl rfl (by decide +kernel)
set_option maxRecDepth 65536 in
theorem w_c7 : (Jvm.Cond.code ({ cls := "com/example/items_in_arrays/itemsinarrays/xpath/RegularExpressionProgram$Builder", name := "add", desc := "(Lcom/example/items_in_arrays/itemsinarrays/xpath/RegularExpressionProgram$Code;II)I" } : Jvm.MethodName) prog_64_method_2_code (4 : Nat) (Option.some Jvm.ClassFile.FieldType.int)).before args0 about1 = true := code_word (m := ⟨7, 1⟩) (meth := k7m1) (c := k7c1) (by decide +kernel) rfl rfl rfl (by decide +kernel)
set_option maxRecDepth 65536 in
theorem w_c8 : (Jvm.Cond.code ({ cls := "com/example/items_in_arrays/itemsinarrays/xpath/RegularExpressionProgram$Builder", name := "set", desc := "(ILcom/example/items_in_arrays/itemsinarrays/xpath/RegularExpressionProgram$Code;II)V" } : Jvm.MethodName) prog_64_method_4_code (5 : Nat) (Option.none : Option Jvm.ClassFile.FieldType)).before args0 about1 = true := code_word (m := ⟨7, 2⟩) (meth := k7m2) (c := k7c2) (by decide +kernel) rfl rfl rfl (by decide +kernel)
set_option maxRecDepth 65536 in
theorem w_c9 : (Jvm.Cond.code ({ cls := "com/example/items_in_arrays/itemsinarrays/xpath/RegularExpressionProgram$Builder", name := "code", desc := "(I)Lcom/example/items_in_arrays/itemsinarrays/xpath/RegularExpressionProgram$Code;" } : Jvm.MethodName) prog_64_method_5_code (2 : Nat) (Option.some (Jvm.ClassFile.FieldType.object "com/example/items_in_arrays/itemsinarrays/xpath/RegularExpressionProgram$Code"))).before args0 about1 = true := code_word (m := ⟨7, 3⟩) (meth := k7m3) (c := k7c3) (by decide +kernel) rfl rfl rfl (by decide +kernel)
set_option maxRecDepth 65536 in
theorem w_c10 : (Jvm.Cond.code ({ cls := "com/example/items_in_arrays/itemsinarrays/xpath/RegularExpressionProgram$Builder", name := "target", desc := "(I)I" } : Jvm.MethodName) prog_64_method_6_code (2 : Nat) (Option.some Jvm.ClassFile.FieldType.int)).before args0 about1 = true := code_word (m := ⟨7, 4⟩) (meth := k7m4) (c := k7c4) (by decide +kernel) rfl rfl rfl (by decide +kernel)
set_option maxRecDepth 65536 in
theorem w_c11 : (Jvm.Cond.code ({ cls := "com/example/items_in_arrays/itemsinarrays/xpath/RegularExpressionProgram$Builder", name := "characters", desc := "(I)Lcom/example/items_in_arrays/itemsinarrays/xpath/CodepointSet;" } : Jvm.MethodName) prog_64_method_8_code (3 : Nat) (Option.some (Jvm.ClassFile.FieldType.object "com/example/items_in_arrays/itemsinarrays/xpath/CodepointSet"))).before args0 about1 = true := code_word (m := ⟨7, 5⟩) (meth := k7m5) (c := k7c5) (by decide +kernel) rfl rfl rfl (by decide +kernel)
set_option maxRecDepth 65536 in
theorem w_c12 : (Jvm.Cond.code ({ cls := "com/example/items_in_arrays/itemsinarrays/xpath/CodepointSet", name := "range", desc := "(II)Lcom/example/items_in_arrays/itemsinarrays/xpath/CodepointSet;" } : Jvm.MethodName) prog_52_method_2_code (2 : Nat) (Option.some (Jvm.ClassFile.FieldType.object "com/example/items_in_arrays/itemsinarrays/xpath/CodepointSet"))).before args0 about1 = true := code_word (m := ⟨17, 1⟩) (meth := k17m1) (c := k17c1) (by decide +kernel) rfl rfl rfl (by decide +kernel)
set_option maxRecDepth 65536 in
theorem w_c13 : (Jvm.Cond.code ({ cls := "com/example/items_in_arrays/itemsinarrays/xpath/CodepointSet", name := "<init>", desc := "([I)V" } : Jvm.MethodName) prog_52_method_1_code (4 : Nat) (Option.none : Option Jvm.ClassFile.FieldType)).before args0 about1 = true := code_word (m := ⟨17, 0⟩) (meth := k17m0) (c := k17c0) (by decide +kernel) rfl rfl rfl (by decide +kernel)
set_option maxRecDepth 65536 in
theorem w_c14 : (Jvm.Cond.code ({ cls := "java/lang/Math", name := "min", desc := "(II)I" } : Jvm.MethodName) jdk_29_method_69_code (2 : Nat) (Option.some Jvm.ClassFile.FieldType.int)).before args0 about1 = true := code_word (m := ⟨18, 1⟩) (meth := k18m1) (c := k18c1) (by decide +kernel) rfl rfl rfl (by decide +kernel)
set_option maxRecDepth 65536 in
theorem w_c15 : (Jvm.Cond.code ({ cls := "com/example/items_in_arrays/itemsinarrays/xpath/CodepointSet", name := "single", desc := "()I" } : Jvm.MethodName) prog_52_method_7_code (2 : Nat) (Option.some Jvm.ClassFile.FieldType.int)).before args0 about1 = true := code_word (m := ⟨17, 2⟩) (meth := k17m2) (c := k17c2) (by decide +kernel) rfl rfl rfl (by decide +kernel)
def codes1 : List Jvm.Cond := [Jvm.Cond.code x code maxLocals ret, Jvm.Cond.code ({ cls := "com/example/items_in_arrays/itemsinarrays/xpath/BuilderSetPinLaw", name := "pick", desc := "(I)Lcom/example/items_in_arrays/itemsinarrays/xpath/RegularExpressionProgram$Code;" } : Jvm.MethodName) method_2_code (2 : Nat) (Option.some (Jvm.ClassFile.FieldType.object "com/example/items_in_arrays/itemsinarrays/xpath/RegularExpressionProgram$Code")), Jvm.Cond.code ({ cls := "com/example/items_in_arrays/itemsinarrays/xpath/RegularExpressionProgram$Builder", name := "<init>", desc := "()V" } : Jvm.MethodName) prog_64_method_1_code (1 : Nat) (Option.none : Option Jvm.ClassFile.FieldType), Jvm.Cond.code ({ cls := "java/lang/Object", name := "<init>", desc := "()V" } : Jvm.MethodName) object_method_1_code (1 : Nat) (Option.none : Option Jvm.ClassFile.FieldType), Jvm.Cond.code ({ cls := "java/util/ArrayList", name := "<init>", desc := "()V" } : Jvm.MethodName) jdk_38_method_2_code (1 : Nat) (Option.none : Option Jvm.ClassFile.FieldType), Jvm.Cond.code ({ cls := "java/util/AbstractList", name := "<init>", desc := "()V" } : Jvm.MethodName) jdk_39_method_1_code (1 : Nat) (Option.none : Option Jvm.ClassFile.FieldType), Jvm.Cond.code ({ cls := "java/util/AbstractCollection", name := "<init>", desc := "()V" } : Jvm.MethodName) jdk_22_method_1_code (1 : Nat) (Option.none : Option Jvm.ClassFile.FieldType), Jvm.Cond.code ({ cls := "com/example/items_in_arrays/itemsinarrays/xpath/RegularExpressionProgram$Builder", name := "add", desc := "(Lcom/example/items_in_arrays/itemsinarrays/xpath/RegularExpressionProgram$Code;II)I" } : Jvm.MethodName) prog_64_method_2_code (4 : Nat) (Option.some Jvm.ClassFile.FieldType.int), Jvm.Cond.code ({ cls := "com/example/items_in_arrays/itemsinarrays/xpath/RegularExpressionProgram$Builder", name := "set", desc := "(ILcom/example/items_in_arrays/itemsinarrays/xpath/RegularExpressionProgram$Code;II)V" } : Jvm.MethodName) prog_64_method_4_code (5 : Nat) (Option.none : Option Jvm.ClassFile.FieldType), Jvm.Cond.code ({ cls := "com/example/items_in_arrays/itemsinarrays/xpath/RegularExpressionProgram$Builder", name := "code", desc := "(I)Lcom/example/items_in_arrays/itemsinarrays/xpath/RegularExpressionProgram$Code;" } : Jvm.MethodName) prog_64_method_5_code (2 : Nat) (Option.some (Jvm.ClassFile.FieldType.object "com/example/items_in_arrays/itemsinarrays/xpath/RegularExpressionProgram$Code")), Jvm.Cond.code ({ cls := "com/example/items_in_arrays/itemsinarrays/xpath/RegularExpressionProgram$Builder", name := "target", desc := "(I)I" } : Jvm.MethodName) prog_64_method_6_code (2 : Nat) (Option.some Jvm.ClassFile.FieldType.int), Jvm.Cond.code ({ cls := "com/example/items_in_arrays/itemsinarrays/xpath/RegularExpressionProgram$Builder", name := "characters", desc := "(I)Lcom/example/items_in_arrays/itemsinarrays/xpath/CodepointSet;" } : Jvm.MethodName) prog_64_method_8_code (3 : Nat) (Option.some (Jvm.ClassFile.FieldType.object "com/example/items_in_arrays/itemsinarrays/xpath/CodepointSet")), Jvm.Cond.code ({ cls := "com/example/items_in_arrays/itemsinarrays/xpath/CodepointSet", name := "range", desc := "(II)Lcom/example/items_in_arrays/itemsinarrays/xpath/CodepointSet;" } : Jvm.MethodName) prog_52_method_2_code (2 : Nat) (Option.some (Jvm.ClassFile.FieldType.object "com/example/items_in_arrays/itemsinarrays/xpath/CodepointSet")), Jvm.Cond.code ({ cls := "com/example/items_in_arrays/itemsinarrays/xpath/CodepointSet", name := "<init>", desc := "([I)V" } : Jvm.MethodName) prog_52_method_1_code (4 : Nat) (Option.none : Option Jvm.ClassFile.FieldType), Jvm.Cond.code ({ cls := "java/lang/Math", name := "min", desc := "(II)I" } : Jvm.MethodName) jdk_29_method_69_code (2 : Nat) (Option.some Jvm.ClassFile.FieldType.int), Jvm.Cond.code ({ cls := "com/example/items_in_arrays/itemsinarrays/xpath/CodepointSet", name := "single", desc := "()I" } : Jvm.MethodName) prog_52_method_7_code (2 : Nat) (Option.some Jvm.ClassFile.FieldType.int)]
set_option maxRecDepth 65536 in
theorem codes_eq : words1.filter isCode = codes1 := rfl
theorem w_codes : ∀ c ∈ words1.filter isCode, c.before args0 about1 = true := by
  rw [codes_eq]
  intro c hc
  simp only [codes1, List.mem_cons, List.not_mem_nil, or_false] at hc
  rcases hc with rfl | rfl | rfl | rfl | rfl | rfl | rfl | rfl | rfl | rfl | rfl | rfl | rfl | rfl | rfl | rfl
  · exact w_c0
  · exact w_c1
  · exact w_c2
  · exact w_c3
  · exact w_c4
  · exact w_c5
  · exact w_c6
  · exact w_c7
  · exact w_c8
  · exact w_c9
  · exact w_c10
  · exact w_c11
  · exact w_c12
  · exact w_c13
  · exact w_c14
  · exact w_c15
set_option maxRecDepth 65536 in
theorem w_t1 : (words1.take 24).all (fun c => isCode c || c.before args0 about1) = true := by decide +kernel
set_option maxRecDepth 65536 in
theorem w_t2 : ((words1.drop 24).take 24).all (fun c => isCode c || c.before args0 about1) = true := by decide +kernel
set_option maxRecDepth 65536 in
theorem w_t3 : (((words1.drop 24).drop 24).take 24).all (fun c => isCode c || c.before args0 about1) = true := by decide +kernel
set_option maxRecDepth 65536 in
theorem w_t4 : ((((words1.drop 24).drop 24).drop 24).take 24).all (fun c => isCode c || c.before args0 about1) = true := by decide +kernel
set_option maxRecDepth 65536 in
theorem w_t5 : (((((words1.drop 24).drop 24).drop 24).drop 24).take 24).all (fun c => isCode c || c.before args0 about1) = true := by decide +kernel
set_option maxRecDepth 65536 in
theorem w_t6 : ((((((words1.drop 24).drop 24).drop 24).drop 24).drop 24).take 24).all (fun c => isCode c || c.before args0 about1) = true := by decide +kernel
set_option maxRecDepth 65536 in
theorem w_t7 : ((((((words1.drop 24).drop 24).drop 24).drop 24).drop 24).drop 24).all (fun c => isCode c || c.before args0 about1) = true := by decide +kernel
theorem w_tables : (allAtoms (Jvm.Cond.code x code maxLocals ret :: tables_1)).before args0 about1 = true := by
  rw [allAtoms_all]
  show words1.all (fun c => c.before args0 about1) = true
  refine all_split ?_ w_codes
  rw [← List.take_append_drop 24 words1, List.all_append, w_t1, ← List.take_append_drop 24 (words1.drop 24), List.all_append, w_t2, ← List.take_append_drop 24 ((words1.drop 24).drop 24), List.all_append, w_t3, ← List.take_append_drop 24 (((words1.drop 24).drop 24).drop 24), List.all_append, w_t4, ← List.take_append_drop 24 ((((words1.drop 24).drop 24).drop 24).drop 24), List.all_append, w_t5, ← List.take_append_drop 24 (((((words1.drop 24).drop 24).drop 24).drop 24).drop 24), List.all_append, w_t6, w_t7]
  rfl
set_option maxRecDepth 65536 in
theorem w_rest : rest_1_c.before args0 about1 = true := by decide +kernel
set_option maxRecDepth 65536 in
theorem w_case : (Jvm.Cond.and given_1 narrow_1).before args0 about1 = true := by decide +kernel
theorem w_applies : (headSpec (Jvm.Cond.code x code maxLocals ret :: tables_1) room_1).applies x e0.platform about1 = true :=
  (Spec.applies_iff w_frames).mpr ⟨w_running, w_runnable, w_alone, w_named, w_hears, w_ripe, w_room, w_tables⟩
theorem atStart : AtStart classFile x code maxLocals ret World_1 tables_1 room_1 Calls_1 rest_1 Pre_1 launch0 p0 e0 about1 theMethod args0 below0 :=
  ⟨lists_1, trivial, launch0.admits_env _ _ _, launch0.least_env, fairChoices_fair.cas, fairChoices_fair.clock, w_frames, w_args, w_heap, w_applies, trivial, w_rest, w_case⟩
end start1
theorem witness_1 : WitnessClaimed_1 := ⟨start1.p0, start1.e0, start1.about1, start1.theMethod, start1.args0, start1.below0, start1.atStart⟩
end Jvm.Pilot.@@N@@
