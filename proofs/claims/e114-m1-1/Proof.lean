import JvmDerived
import JvmDerived.Pilot.@@N@@Statement
import JvmDerived.Pilot.@@N@@Code
set_option linter.unusedVariables false
set_option linter.unusedSimpArgs false
namespace Jvm.Pilot.@@N@@
open Jvm Jvm.ClassFile Sem Op Lib Jvm.Free Jvm.Stand Jvm.LawKit Jvm.RoadKit Bundle Jvm.Pilot.@@N@@.Jvm.D
abbrev cL : String := x.cls
abbrev cX : String := site_120.cls
def Go (p : Program) (e : Env) (below : List Frame) (s : State) (k n : Nat) (Q : Option Value → Heap → List Loc → Prop) (S : State) : Prop :=
  ∃ (U : State) (o : Outcome), Steps p.tables e below S U ∧ U.status = .running ∧ Ended U below o ∧ ∃ v L, o = .returned v ∧ Q v U.heap L ∧ FrameEnd s o U L k n
section Own
variable {p : Program} {l : Launch} {e : Env} {R : Room} {s : State} {m : MethodId} {args : Array Value} {below : List Frame} {meth : Method} {c : Code} {T : State} {locs : List Loc} {cells slots : Nat} {Z : State} {a0 : Array Value} {h h' : Heap} {k n : Nat} {Q : Option Value → Heap → List Loc → Prop} {S S' : State}
theorem Go.st (f : ∀ t, Steps p.tables e below S' t → Steps p.tables e below S t) (g : Go p e below s k n Q S') : Go p e below s k n Q S := by
  obtain ⟨U, o, h1, r⟩ := g
  exact ⟨U, o, f _ h1, r⟩
theorem Go.cast {g g' : JFrame} (q : g = g') (k' : Go p e below s k n Q (T.setTop g')) : Go p e below s k n Q (T.setTop g) := q ▸ k'
theorem Go.ret (X : Stand p l e R s m args below meth c T locs cells slots) (hlk : meth.locks = false) {v : Option Value} (hv : meth.sig.returnType = none → v = none)
    (step : ∀ fs, (∀ (f : JFrame) (acts : List Action), f.method = m → f.locked = none → f.entered = [] → (doReturn e (T.setTop f) acts v).1 = T.setFrames fs) → Steps p.tables e below S (T.setFrames fs))
    (hk : cells ≤ k) (hn : slots ≤ n) (hQ : Q v T.heap locs) : Go p e below s k n Q S := by
  obtain ⟨fs, hr, hrun, hended, hW, hsame⟩ := X.leave (v := v) hv hlk
  exact ⟨_, _, step fs hr, hrun, hended, v, locs, rfl, hQ, ⟨_, rfl⟩, hW, hsame.mono hk hn⟩
theorem Go.retI (X : Stand p l e R s m args below meth c T locs cells slots) (hx : p.tables.exec = Jvm.exec) (hlk : meth.locks = false) (hret : meth.sig.returnType = some .int) {pc : Nat} {Ls : Array Slot} {z : Int32} {rest : List Value} (hd : decode c.code pc = .ok (.ireturn, 1))
    (hk : cells ≤ k) (hn : slots ≤ n) (hQ : Q (some (.int z)) T.heap locs) : Go p e below s k n Q (T.setTop (mkF m pc Ls (.int z :: rest))) :=
  Go.ret X hlk (fun q => by rw [hret] at q; cases q) (fun fs hr => retOut X hx hret rfl (Or.inl ⟨rfl, Or.inl rfl, z, rfl⟩) hd hr) hk hn hQ
theorem Go.retN (X : Stand p l e R s m args below meth c T locs cells slots) (hx : p.tables.exec = Jvm.exec) (hlk : meth.locks = false) {t : FieldType} (hret : meth.sig.returnType = some t) (ht : t = .boolean ∨ t = .byte ∨ t = .char ∨ t = .short) {pc : Nat} {Ls : Array Slot} {z : Int32} {rest : List Value} (hd : decode c.code pc = .ok (.ireturn, 1))
    (hk : cells ≤ k) (hn : slots ≤ n) (hQ : Q (some (.int (nar t z))) T.heap locs) : Go p e below s k n Q (T.setTop (mkF m pc Ls (.int z :: rest))) :=
  Go.ret X hlk (fun q => by rw [hret] at q; cases q) (fun fs hr => Jvm.RoadKit.retN X hx hret ht hd hr) hk hn hQ
theorem own_narR {t : FieldType} {w : Value} (h1 : t.isReference = true) (h2 : w.isRef = true) : narrow t w = w := by
  rcases ref_cases h2 with rfl | ⟨a, rfl⟩ <;> cases t <;> first | rfl | (simp [FieldType.isReference] at h1)
theorem Go.retA (X : Stand p l e R s m args below meth c T locs cells slots) (hx : p.tables.exec = Jvm.exec) (hlk : meth.locks = false) {t : FieldType} (hret : meth.sig.returnType = some t) (ht : t.isReference = true) {pc : Nat} {Ls : Array Slot} {w : Value} {rest : List Value} (hw : w.isRef = true) (hd : decode c.code pc = .ok (.areturn, 1))
    (hk : cells ≤ k) (hn : slots ≤ n) (hQ : Q (some w) T.heap locs) : Go p e below s k n Q (T.setTop (mkF m pc Ls (w :: rest))) :=
  Go.ret X hlk (fun q => by rw [hret] at q; cases q) (fun fs hr => retOut X hx hret (own_narR ht hw) (Or.inr (Or.inr (Or.inr (Or.inr ⟨rfl, ht, hw⟩)))) hd hr) hk hn hQ
theorem Go.retV (X : Stand p l e R s m args below meth c T locs cells slots) (hx : p.tables.exec = Jvm.exec) (hlk : meth.locks = false) (hret : meth.sig.returnType = none) {pc : Nat} {Ls : Array Slot} (hd : decode c.code pc = .ok (.return_, 1))
    (hk : cells ≤ k) (hn : slots ≤ n) (hQ : Q none T.heap locs) : Go p e below s k n Q (T.setTop (mkF m pc Ls [])) :=
  Go.ret X hlk (fun _ => rfl) (fun fs hr => X.returnOut hx hret hd hr) hk hn hQ
def Con (l : Launch) (Z : State) (y : MethodName) (bytes : ByteArray) (maxL : Nat) (ret : Option FieldType) (rm : Room) (as' : Array Value) (h0 : Heap) (Q : Option Value → Heap → List Loc → Prop) : Prop :=
  ∀ ws : List Jvm.Cond, MetFree l y (head1 (Jvm.Cond.code y bytes maxL ret :: ws) rm) (fun a U => a = as' ∧ Z.Warmed39 U.vm ∧ U.heap = h0) (fun _ _ _ _ _ => True) (fun _ U o U' => ∃ v L, o = .returned v ∧ Q v U'.heap L ∧ FrameEnd U o U' L rm.cells rm.slots)
theorem Con.of {y : MethodName} {bytes : ByteArray} {maxL : Nat} {ret : Option FieldType} {rm : Room} {as' : Array Value} {h0 : Heap} (hp : plainFor y = true)
    (body : ∀ (p : Program) (e : Env) (s : State) (m : MethodId) (below : List Frame) (meth : Method) (c : Code) (s₁ : State), Stand p l e rm s m as' below meth c s₁ [] 0 0 → p.tables.exec = Jvm.exec → c.code = bytes → c.maxLocals = maxL → Z.Warmed39 s.vm → s.vm.findClass y.cls = some m.cls → meth.name = y.name → meth.sig.returnType = ret → meth.locks = false → s₁.heap = h0 →
      Go p e below s rm.cells rm.slots Q (s₁.setTop (entryFrame m as' maxL))) : Con l Z y bytes maxL ret rm as' h0 Q := by
  intro ws
  refine MetFree.of_bodySF hp hisR ?_
  intro p e s m args below meth c s₁ Bd hml hP hK
  obtain ⟨rfl, hZ, hh⟩ := hP
  obtain ⟨U, o, h1, h2, h3, h4⟩ := body p e s m below meth c s₁ (Stand.of_body Bd) Bd.exec Bd.bytes hml hZ (findClass_of_methodNamed Bd.named) (name_of_methodNamed Bd.named Bd.method).1 Bd.returns Bd.notSynchronized (by rw [← hh, Bd.state]; rfl)
  exact ⟨U, o, h1, h2, h3, h4⟩
theorem Con.imp {y : MethodName} {bytes : ByteArray} {maxL : Nat} {ret : Option FieldType} {rm : Room} {as' : Array Value} {h0 : Heap} {Q' : Option Value → Heap → List Loc → Prop} (hC : Con l Z y bytes maxL ret rm as' h0 Q) (hq : ∀ v h L, Q v h L → Q' v h L) : Con l Z y bytes maxL ret rm as' h0 Q' := by
  intro ws p e ha hc hk s m args below hf happ hP hK
  obtain ⟨n, o, h1, h2, h3, v, L, h4, h5, h6⟩ := hC ws p e ha hc hk s m args below hf happ hP hK
  exact ⟨n, o, h1, h2, h3, v, L, h4, hq _ _ _ h5, h6⟩
theorem own_callS (X : Stand p l e R s m args below meth c T locs cells slots) (hx : p.tables.exec = Jvm.exec) (hZ : Z.Warmed39 s.vm) {own : String} {index : Nat} {y : MethodName} {bytes : ByteArray} {maxL : Nat} {ret : Option FieldType} {rm : Room}
    (hown : s.vm.findClass own = some m.cls) (w1 : (Jvm.Cond.methodLink own index y).before a0 Z = true) (w2 : (Jvm.Cond.static y).before a0 Z = true) (w3 : (Jvm.Cond.initialized y.cls).before a0 Z = true) (w4 : (Jvm.Cond.code y bytes maxL ret).before a0 Z = true)
    (hy : y.cls ≠ "java/lang/invoke/MethodHandle" ∧ y.cls ≠ "java/lang/invoke/VarHandle") (eT : T.heap = h) {argsL rest : List Value} (hC : Con l Z y bytes maxL ret rm argsL.toArray h Q)
    {g : JFrame} (hg : g.method = m) (hsize : g.locals.size = c.maxLocals) (hlen : ∀ sig, parseMethodDescriptor y.desc = some sig → argsL.length = sig.parameters.length) (hstack : g.stack = argsL.reverse ++ rest) (hd : decode c.code g.pc = .ok (.invokestatic index, 3))
    {W : Nat} (hW : 2 * g.monitorRoom + (rest.map fun v => v.category).sum ≤ W) (hf : rm.frames + 1 ≤ R.frames) (hl : W + (maxL + 11) + rm.locals ≤ R.locals) (hc : cells + rm.cells ≤ R.cells) (hs : slots + rm.slots ≤ R.slots) :
    ∃ v T' h' L, Stand p l e R s m args below meth c T' (locs ++ L) (cells + rm.cells) (slots + rm.slots) ∧ T'.heap = h' ∧ Q v h' L ∧ ∀ target, Steps p.tables e below (T'.setTop { g with pc := g.pc + 3, stack := v.toList ++ rest }) target → Steps p.tables e below (T.setTop g) target := by
  obtain ⟨v, _, ⟨T', L', k', n'⟩, -, X', ⟨Lc, hQ, l', y', z'⟩, st⟩ := Jvm.LawKit.callS X hx (y := y) hown (mvT hZ w1) (mvT hZ w2) (mvT hZ w3) (mvT hZ w4) hy (backOf (W := W) (hC []) hZ w4 w3 hf hl) hg hsize (argsL := argsL) (rest := rest) hlen hstack hW hd (fun _ _ => ⟨rfl, eT, hc, hs⟩)
  dsimp only [Pt.U, Pt.locs, Pt.cells, Pt.slots] at X' l' y' z' st hQ
  subst l' y' z'
  exact ⟨v, T', _, Lc, X', rfl, hQ, st⟩
theorem own_callN (X : Stand p l e R s m args below meth c T locs cells slots) (hx : p.tables.exec = Jvm.exec) (hZ : Z.Warmed39 s.vm) {own : String} {index : Nat} {y : MethodName} {bytes : ByteArray} {maxL : Nat} {rm : Room} (hy1 : y.name = "<init>")
    (hown : s.vm.findClass own = some m.cls) (w1 : (Jvm.Cond.methodLink own index y).before a0 Z = true) (w2 : (Jvm.Cond.instanceMethod y).before a0 Z = true) (w3 : (Jvm.Cond.initialized y.cls).before a0 Z = true) (w4 : (Jvm.Cond.code y bytes maxL none).before a0 Z = true)
    (hy : y.cls ≠ "java/lang/invoke/MethodHandle" ∧ y.cls ≠ "java/lang/invoke/VarHandle") (eT : T.heap = h) {a : Addr} {argsL rest : List Value} (hC : Con l Z y bytes maxL none rm (.ref a :: argsL).toArray h Q)
    {g : JFrame} (hg : g.method = m) (hsize : g.locals.size = c.maxLocals) (hlen : ∀ sig, parseMethodDescriptor y.desc = some sig → argsL.length = sig.parameters.length) (hstack : g.stack = argsL.reverse ++ .ref a :: rest) (hd : decode c.code g.pc = .ok (.invokespecial index, 3))
    {W : Nat} (hW : 2 * g.monitorRoom + (rest.map fun v => v.category).sum ≤ W) (hf : rm.frames + 1 ≤ R.frames) (hl : W + (maxL + 11) + rm.locals ≤ R.locals) (hc : cells + rm.cells ≤ R.cells) (hs : slots + rm.slots ≤ R.slots) :
    ∃ v T' h' L, Stand p l e R s m args below meth c T' (locs ++ L) (cells + rm.cells) (slots + rm.slots) ∧ T'.heap = h' ∧ Q v h' L ∧ ∀ target, Steps p.tables e below (T'.setTop { g with pc := g.pc + 3, stack := v.toList ++ rest }) target → Steps p.tables e below (T.setTop g) target := by
  obtain ⟨v, _, ⟨T', L', k', n'⟩, -, X', ⟨Lc, hQ, l', y', z'⟩, st⟩ := X.specialBack hx (y := y) hy1 hown (mvT hZ w1) (mvT hZ w2) (mvT hZ w4) hy (backOf (W := W) (hC []) hZ w4 w3 hf hl) hg hsize (Steps.refl _) (a := a) (argsL := argsL) (rest := rest) hlen hstack hW hd (fun _ _ => ⟨rfl, eT, hc, hs⟩)
  dsimp only [Pt.U, Pt.locs, Pt.cells, Pt.slots] at X' l' y' z' st hQ
  subst l' y' z'
  exact ⟨v, T', _, Lc, X', rfl, hQ, fun t ht => st.trans ht⟩
theorem own_callV (X : Stand p l e R s m args below meth c T locs cells slots) (hx : p.tables.exec = Jvm.exec) (hZ : Z.Warmed39 s.vm) {own C : String} {index : Nat} {y z : MethodName} {bytes : ByteArray} {maxL : Nat} {ret : Option FieldType} {rm : Room}
    (hown : s.vm.findClass own = some m.cls) (w1 : (Jvm.Cond.methodLink own index y).before a0 Z = true) (w2 : (Jvm.Cond.declares y).before a0 Z = true) (w5 : (Jvm.Cond.selects y.cls y y).before a0 Z = true) (w6 : (Jvm.Cond.selects C y z).before a0 Z = true) (w7 : (Jvm.Cond.instanceMethod z).before a0 Z = true) (w3 : (Jvm.Cond.initialized z.cls).before a0 Z = true) (w4 : (Jvm.Cond.code z bytes maxL ret).before a0 Z = true)
    (hy : y.cls ≠ "java/lang/invoke/MethodHandle" ∧ y.cls ≠ "java/lang/invoke/VarHandle") (eT : T.heap = h) {a : Addr} (E : Exa Z h a C) {argsL rest : List Value} (hC : Con l Z z bytes maxL ret rm (.ref a :: argsL).toArray h Q)
    {g : JFrame} (hg : g.method = m) (hsize : g.locals.size = c.maxLocals) (hlen : ∀ sig, parseMethodDescriptor y.desc = some sig → argsL.length = sig.parameters.length) (hstack : g.stack = argsL.reverse ++ .ref a :: rest) (hd : decode c.code g.pc = .ok (.invokevirtual index, 3))
    {W : Nat} (hW : 2 * g.monitorRoom + (rest.map fun v => v.category).sum ≤ W) (hf : rm.frames + 1 ≤ R.frames) (hl : W + (maxL + 11) + rm.locals ≤ R.locals) (hc : cells + rm.cells ≤ R.cells) (hs : slots + rm.slots ≤ R.slots) :
    ∃ v T' h' L, Stand p l e R s m args below meth c T' (locs ++ L) (cells + rm.cells) (slots + rm.slots) ∧ T'.heap = h' ∧ Q v h' L ∧ ∀ target, Steps p.tables e below (T'.setTop { g with pc := g.pc + 3, stack := v.toList ++ rest }) target → Steps p.tables e below (T.setTop g) target := by
  obtain ⟨cq, kq, qa, qb, qc⟩ := isOf hZ eT E
  obtain ⟨v, _, ⟨T', L', k', n'⟩, -, X', ⟨Lc, hQ, l', y', z'⟩, st⟩ := X.virtualBack hx (y := y) (z := z) hown (mvT hZ w1) (mvT hZ w2) (notFace_of_selects (args := #[]) (mvT hZ w5)) (mvT hZ w6) (mvT hZ w7) hy (backOf (W := W) (hC []) hZ w4 w3 hf hl) qa qc hg hsize (Steps.refl _) (argsL := argsL) (rest := rest) hlen hstack hW hd (fun _ _ => ⟨rfl, eT, hc, hs⟩)
  dsimp only [Pt.U, Pt.locs, Pt.cells, Pt.slots] at X' l' y' z' st hQ
  subst l' y' z'
  exact ⟨v, T', _, Lc, X', rfl, hQ, fun t ht => st.trans ht⟩
theorem own_ne {a b : Nat} (h : a < b ∨ b < a) : a ≠ b := by omega
theorem own_ltE {a : Nat} {C : String} (F : Exa Z h a C) : a < h.size := F.lt
theorem own_ltF {a : Nat} {C n d : String} {v : Value} (F : Fld Z h a C n d v) : a < h.size := F.lt
def Ary (Z : State) (h : Heap) (a : Addr) (ty : FieldType) (vs : List Value) : Prop := ∃ c : Cell, Arr Z h a c ty ∧ c.slots.toList = vs ∧ vs.length < 2 ^ 31
variable {a b : Addr} {ty : FieldType} {vs : List Value} {sl : Nat} {v w : Value} {ws : List Addr} {j : Int32}
theorem Ary.lt (F : Ary Z h a ty vs) : a < h.size := by obtain ⟨c, A, -⟩ := F; exact A.lt
theorem own_ltA {a : Nat} (F : Ary Z h a ty vs) : a < h.size := F.lt
theorem Ary.ext (F : Ary Z h a ty vs) (E : Ext h h') : Ary Z h' a ty vs := by obtain ⟨c, A, r⟩ := F; exact ⟨c, A.ext E, r⟩
theorem Ary.other (F : Ary Z h b ty vs) (W : Wr h h' a sl v) (q : b ≠ a) : Ary Z h' b ty vs := by obtain ⟨c, A, r⟩ := F; exact ⟨c, A.other W q, r⟩
theorem Ary.keep (F : Ary Z h a ty vs) (K : Keep h h' ws) (q : a ∉ ws) : Ary Z h' a ty vs := by obtain ⟨c, A, r⟩ := F; exact ⟨c, ⟨K.2.1 a c A.1 q, A.2⟩, r⟩
theorem Ary.set (F : Ary Z h a ty vs) (W : Wr h h' a sl v) : Ary Z h' a ty (vs.set sl v) := by
  obtain ⟨c, A, r, hl⟩ := F
  refine ⟨_, A.same W, ?_, by simpa using hl⟩
  subst r
  simp [Cell.setSlot]
theorem own_in {j : Int32} (h0 : 0 ≤ j.toInt) : j.toInt = (j.toNatClampNeg : Int) := nat_of (fun q => by rw [Int32.lt_iff_toInt_lt] at q; have : (0 : Int32).toInt = 0 := rfl; omega)
theorem own_inb {c : Cell} (r : c.slots.toList = vs) (h0 : 0 ≤ j.toInt) (h1 : j.toInt < vs.length) : ¬ (j < 0 ∨ c.slots.size ≤ j.toNatClampNeg) := by
  have e := own_in h0
  have e2 : c.slots.size = vs.length := by rw [← r]; simp
  have z : (0 : Int32).toInt = 0 := rfl
  rintro (q | q)
  · rw [Int32.lt_iff_toInt_lt] at q; omega
  · omega
theorem Ary.new {cA : ClassId} {z : Int32} (A : Arr Z h a (newA cA ty z) ty) (q : z.toNatClampNeg < 2 ^ 31) : Ary Z h a ty (List.replicate z.toNatClampNeg (defaultValue ty)) := ⟨_, A, by simp [newA], by simpa using q⟩
theorem own_newP (X : Stand p l e R s m args below meth c T locs cells slots) (hx : p.tables.exec = Jvm.exec) (hZ : Z.Warmed39 s.vm) {aty : ArrayType} {ty : FieldType} (hty : newarray.typeOf aty = ty) (w : (Jvm.Cond.arrayClass ty).before a0 Z = true) (eT : T.heap = h) {g : JFrame} (hg : g.method = m) (hd : decode c.code g.pc = .ok (.newarray aty, 2)) {n : Int32} {rest : List Value} (hs : g.stack = .int n :: rest)
    (hn : 0 ≤ n.toInt) {cap : Nat} (hcap : n.toInt ≤ cap) (hb : cap * 8 ≤ 536870912) (hc : cells + 1 ≤ R.cells) (hl : slots + cap ≤ R.slots) :
    ∃ T' h', Stand p l e R s m args below meth c T' locs (cells + 1) (slots + cap) ∧ T'.heap = h' ∧ Ext h h' ∧ Ary Z h' h.size ty (List.replicate n.toNatClampNeg (defaultValue ty)) ∧
      ∀ target, Steps p.tables e below (T'.setTop { g with pc := g.pc + 2, stack := .ref h.size :: rest }) target → Steps p.tables e below (T.setTop g) target := by
  subst hty
  have e1 := own_in hn
  have z : (0 : Int32).toInt = 0 := rfl
  obtain ⟨T', h', cA, X', e', E', A', st⟩ := newP X hx hZ w eT hg hd hs (fun q => by rw [Int32.lt_iff_toInt_lt] at q; omega) (cap := cap) (by omega) hb hc hl
  exact ⟨T', h', X', e', E', Ary.new A' (by omega), st⟩
theorem own_len (X : Stand p l e R s m args below meth c T locs cells slots) (hx : p.tables.exec = Jvm.exec) (hZ : Z.Warmed39 s.vm) (eT : T.heap = h) (F : Ary Z h a ty vs) {g : JFrame} (hg : g.method = m) {rest : List Value} (hs : g.stack = .ref a :: rest) (hd : decode c.code g.pc = .ok (.arraylength, 1)) :
    ∀ target, Steps p.tables e below (T.setTop { g with pc := g.pc + 1, stack := .int vs.length.toInt32 :: rest }) target → Steps p.tables e below (T.setTop g) target := by
  obtain ⟨c, A, r, hl⟩ := F
  intro t ht
  have e2 : c.slots.size = vs.length := by rw [← r]; simp
  exact X.arraylength hx (by rw [eT]; exact A.1) (State.isArrayOf_alike hZ.alike A.2.1) hg hs hd t (by rw [e2]; exact ht)
theorem own_at {c : Cell} (r : c.slots.toList = vs) (hv : vs[j.toNatClampNeg]? = some v) : c.slots[j.toNatClampNeg]? = some v := by
  subst r; simpa using hv
theorem own_ldI (X : Stand p l e R s m args below meth c T locs cells slots) (hx : p.tables.exec = Jvm.exec) (hZ : Z.Warmed39 s.vm) (eT : T.heap = h) (F : Ary Z h a .int vs) (h0 : 0 ≤ j.toInt) (h1 : j.toInt < vs.length) (hv : vs[j.toNatClampNeg]? = some v) {g : JFrame} (hg : g.method = m) {rest : List Value} (hs : g.stack = .int j :: .ref a :: rest) (hd : decode c.code g.pc = .ok (.iaload, 1)) :
    ∀ target, Steps p.tables e below (T.setTop { g with pc := g.pc + 1, stack := v :: rest }) target → Steps p.tables e below (T.setTop g) target := by
  obtain ⟨c, A, r, hl⟩ := F
  exact X.iaload hx (by rw [eT]; exact A.1) (State.isArrayOf_alike hZ.alike A.2.1) A.2.2 (own_inb r h0 h1) (own_at r hv) hg hs hd
theorem own_ldC (X : Stand p l e R s m args below meth c T locs cells slots) (hx : p.tables.exec = Jvm.exec) (hZ : Z.Warmed39 s.vm) (eT : T.heap = h) (F : Ary Z h a .char vs) (h0 : 0 ≤ j.toInt) (h1 : j.toInt < vs.length) (hv : vs[j.toNatClampNeg]? = some v) {g : JFrame} (hg : g.method = m) {rest : List Value} (hs : g.stack = .int j :: .ref a :: rest) (hd : decode c.code g.pc = .ok (.caload, 1)) :
    ∀ target, Steps p.tables e below (T.setTop { g with pc := g.pc + 1, stack := v :: rest }) target → Steps p.tables e below (T.setTop g) target := by
  obtain ⟨c, A, r, hl⟩ := F
  exact X.caload hx (by rw [eT]; exact A.1) (State.isArrayOf_alike hZ.alike A.2.1) A.2.2 (own_inb r h0 h1) (own_at r hv) hg hs hd
theorem own_ldB (X : Stand p l e R s m args below meth c T locs cells slots) (hx : p.tables.exec = Jvm.exec) (hZ : Z.Warmed39 s.vm) (eT : T.heap = h) (F : Ary Z h a .byte vs) (h0 : 0 ≤ j.toInt) (h1 : j.toInt < vs.length) (hv : vs[j.toNatClampNeg]? = some v) {g : JFrame} (hg : g.method = m) {rest : List Value} (hs : g.stack = .int j :: .ref a :: rest) (hd : decode c.code g.pc = .ok (.baload, 1)) :
    ∀ target, Steps p.tables e below (T.setTop { g with pc := g.pc + 1, stack := v :: rest }) target → Steps p.tables e below (T.setTop g) target := by
  obtain ⟨c, A, r, hl⟩ := F
  exact X.baloadBytes hx (by rw [eT]; exact A.1) (State.isArrayOf_alike hZ.alike A.2.1) A.2.2 (own_inb r h0 h1) (own_at r hv) hg hs hd
theorem own_ldR (X : Stand p l e R s m args below meth c T locs cells slots) (hx : p.tables.exec = Jvm.exec) (hZ : Z.Warmed39 s.vm) (eT : T.heap = h) (F : Ary Z h a ty vs) (hr : ty.isReference = true) (h0 : 0 ≤ j.toInt) (h1 : j.toInt < vs.length) (hv : vs[j.toNatClampNeg]? = some v) {g : JFrame} (hg : g.method = m) {rest : List Value} (hs : g.stack = .int j :: .ref a :: rest) (hd : decode c.code g.pc = .ok (.aaload, 1)) :
    ∀ target, Steps p.tables e below (T.setTop { g with pc := g.pc + 1, stack := v :: rest }) target → Steps p.tables e below (T.setTop g) target := by
  obtain ⟨c, A, r, hl⟩ := F
  exact X.aaload hx (by rw [eT]; exact A.1) (State.isArrayOf_alike hZ.alike A.2.1) hr A.2.2 (own_inb r h0 h1) (own_at r hv) hg hs hd
theorem own_stI (X : Stand p l e R s m args below meth c T locs cells slots) (hx : p.tables.exec = Jvm.exec) (hZ : Z.Warmed39 s.vm) (eT : T.heap = h) (F : Ary Z h a .int vs) {x : Int32} (h0 : 0 ≤ j.toInt) (h1 : j.toInt < vs.length) {g : JFrame} (hg : g.method = m) {rest : List Value} (hs : g.stack = .int x :: .int j :: .ref a :: rest) (hd : decode c.code g.pc = .ok (.iastore, 1)) :
    ∃ T' h', Stand p l e R s m args below meth c T' (locs ++ [⟨a, j.toNatClampNeg⟩]) cells slots ∧ T'.heap = h' ∧ Wr h h' a j.toNatClampNeg (.int x) ∧ Ary Z h' a .int (vs.set j.toNatClampNeg (.int x)) ∧ ∀ target, Steps p.tables e below (T'.setTop { g with pc := g.pc + 1, stack := rest }) target → Steps p.tables e below (T.setTop g) target := by
  have F' := F
  obtain ⟨c, A, r, hl⟩ := F
  obtain ⟨T', h', X', e', W', st⟩ := stI X hx hZ eT A (own_inb r h0 h1) hg hs hd
  exact ⟨T', h', X', e', W', F'.set W', st⟩
theorem own_stC (X : Stand p l e R s m args below meth c T locs cells slots) (hx : p.tables.exec = Jvm.exec) (hZ : Z.Warmed39 s.vm) (eT : T.heap = h) (F : Ary Z h a .char vs) {x : Int32} (h0 : 0 ≤ j.toInt) (h1 : j.toInt < vs.length) {g : JFrame} (hg : g.method = m) {rest : List Value} (hs : g.stack = .int x :: .int j :: .ref a :: rest) (hd : decode c.code g.pc = .ok (.castore, 1)) :
    ∃ T' h', Stand p l e R s m args below meth c T' (locs ++ [⟨a, j.toNatClampNeg⟩]) cells slots ∧ T'.heap = h' ∧ Wr h h' a j.toNatClampNeg (.int (nar .char x)) ∧ Ary Z h' a .char (vs.set j.toNatClampNeg (.int (nar .char x))) ∧ ∀ target, Steps p.tables e below (T'.setTop { g with pc := g.pc + 1, stack := rest }) target → Steps p.tables e below (T.setTop g) target := by
  have F' := F
  obtain ⟨c, A, r, hl⟩ := F
  obtain ⟨T', h', X', e', W', st⟩ := stC X hx hZ eT A (own_inb r h0 h1) hg hs hd
  exact ⟨T', h', X', e', W', F'.set W', st⟩
theorem own_stB (X : Stand p l e R s m args below meth c T locs cells slots) (hx : p.tables.exec = Jvm.exec) (hZ : Z.Warmed39 s.vm) (eT : T.heap = h) (F : Ary Z h a .byte vs) {x : Int32} (h0 : 0 ≤ j.toInt) (h1 : j.toInt < vs.length) {g : JFrame} (hg : g.method = m) {rest : List Value} (hs : g.stack = .int x :: .int j :: .ref a :: rest) (hd : decode c.code g.pc = .ok (.bastore, 1)) :
    ∃ T' h', Stand p l e R s m args below meth c T' (locs ++ [⟨a, j.toNatClampNeg⟩]) cells slots ∧ T'.heap = h' ∧ Wr h h' a j.toNatClampNeg (.int (nar .byte x)) ∧ Ary Z h' a .byte (vs.set j.toNatClampNeg (.int (nar .byte x))) ∧ ∀ target, Steps p.tables e below (T'.setTop { g with pc := g.pc + 1, stack := rest }) target → Steps p.tables e below (T.setTop g) target := by
  have F' := F
  obtain ⟨c, A, r, hl⟩ := F
  obtain ⟨T', h', X', e', W', st⟩ := stB X hx hZ eT A (own_inb r h0 h1) hg hs hd
  exact ⟨T', h', X', e', W', F'.set W', st⟩
theorem own_stR (X : Stand p l e R s m args below meth c T locs cells slots) (hx : p.tables.exec = Jvm.exec) (hZ : Z.Warmed39 s.vm) (eT : T.heap = h) (F : Ary Z h a ty vs) (hr : ty.isReference = true) (G : Sto Z h a v) (h0 : 0 ≤ j.toInt) (h1 : j.toInt < vs.length) {g : JFrame} (hg : g.method = m) {rest : List Value} (hs : g.stack = v :: .int j :: .ref a :: rest) (hd : decode c.code g.pc = .ok (.aastore, 1)) :
    ∃ T' h', Stand p l e R s m args below meth c T' (locs ++ [⟨a, j.toNatClampNeg⟩]) cells slots ∧ T'.heap = h' ∧ Wr h h' a j.toNatClampNeg v ∧ Ary Z h' a ty (vs.set j.toNatClampNeg v) ∧ ∀ target, Steps p.tables e below (T'.setTop { g with pc := g.pc + 1, stack := rest }) target → Steps p.tables e below (T.setTop g) target := by
  have F' := F
  obtain ⟨c, A, r, hl⟩ := F
  obtain ⟨T', h', X', e', W', st⟩ := stR X hx hZ eT A (own_inb r h0 h1) hr G hg hs hd
  exact ⟨T', h', X', e', W', F'.set W', st⟩
def Ovy (Z : State) (h : Heap) (a : Addr) (C : String) : Prop := ∃ c : Cell, h[a]? = some c ∧ Ovr Z c.cls C
theorem Ovy.ext {C : String} (F : Ovy Z h a C) (E : Ext h h') : Ovy Z h' a C := by obtain ⟨c, q, r⟩ := F; exact ⟨c, E.2 _ _ q, r⟩
theorem Ovy.keep {C : String} (F : Ovy Z h a C) (K : Keep h h' ws) : Ovy Z h' a C := by
  obtain ⟨c, q, r⟩ := F
  obtain ⟨c', q', r', -⟩ := K.2.2 _ _ q
  exact ⟨c', q', by rw [r']; exact r⟩
theorem Ovy.wr {C : String} (F : Ovy Z h a C) (W : Wr h h' b sl v) : Ovy Z h' a C := F.keep (Keep.of_wr W)
theorem own_sto {C : String} {y : Addr} (F : Ary Z h a ty vs) (O : Ovy Z h a C) (I : Ins Z h y C true) : Sto Z h a (.ref y) := by
  obtain ⟨c, A, -⟩ := F
  obtain ⟨c', q, r⟩ := O
  cases A.1.symm.trans q
  exact Sto.of A r I
theorem own_newR (X : Stand p l e R s m args below meth c T locs cells slots) (hx : p.tables.exec = Jvm.exec) (hZ : Z.Warmed39 s.vm) {own C : String} {index : Nat} (hown : s.vm.findClass own = some m.cls) (w1 : (Jvm.Cond.classLink own index C).before a0 Z = true) (w2 : (Jvm.Cond.arrayOver (.object C)).before a0 Z = true) (eT : T.heap = h) {g : JFrame} (hg : g.method = m) (hd : decode c.code g.pc = .ok (.anewarray index, 3)) {n : Int32} {rest : List Value} (hs : g.stack = .int n :: rest)
    (hn : 0 ≤ n.toInt) {cap : Nat} (hcap : n.toInt ≤ cap) (hb : cap * 8 ≤ 536870912) (hc : cells + 1 ≤ R.cells) (hl : slots + cap ≤ R.slots) :
    ∃ T' h', Stand p l e R s m args below meth c T' locs (cells + 1) (slots + cap) ∧ T'.heap = h' ∧ Ext h h' ∧ Ary Z h' h.size (.object C) (List.replicate n.toNatClampNeg .null) ∧ Ovy Z h' h.size C ∧
      ∀ target, Steps p.tables e below (T'.setTop { g with pc := g.pc + 3, stack := .ref h.size :: rest }) target → Steps p.tables e below (T.setTop g) target := by
  have e1 := own_in hn
  have z : (0 : Int32).toInt = 0 := rfl
  obtain ⟨T', h', cA, X', e', E', A', O', st⟩ := newR X hx hZ hown w1 w2 eT hg hd hs (fun q => by rw [Int32.lt_iff_toInt_lt] at q; omega) (cap := cap) (by omega) hb hc hl
  exact ⟨T', h', X', e', E', Ary.new A' (by omega), ⟨_, A'.1, O'⟩, st⟩
theorem own_ldc (X : Stand p l e R s m args below meth c T locs cells slots) (hx : p.tables.exec = Jvm.exec) (hZ : Z.Warmed39 s.vm) {own : String} {index : Nat} {x : Int32} (hown : s.vm.findClass own = some m.cls) (w : (Jvm.Cond.constant own index x).before a0 Z = true) {g : JFrame} (hg : g.method = m) (hd : decode c.code g.pc = .ok (.ldc index, 2)) :
    ∀ target, Steps p.tables e below (T.setTop { g with pc := g.pc + 2, stack := .int x :: g.stack }) target → Steps p.tables e below (T.setTop g) target := fun t ht => X.ldcI hx hown (mvT hZ w) hg hd ht
end Own
section Own2
variable {p : Program} {l : Launch} {e : Env} {R : Room} {s : State} {m : MethodId} {args : Array Value} {below : List Frame} {meth : Method} {c : Code} {T : State} {locs : List Loc} {cells slots : Nat} {Z : State} {a0 : Array Value} {h : Heap} {Q : Option Value → Heap → List Loc → Prop}
theorem own_callP (X : Stand p l e R s m args below meth c T locs cells slots) (hx : p.tables.exec = Jvm.exec) (hZ : Z.Warmed39 s.vm) {own C : String} {index : Nat} {y : MethodName} {bytes : ByteArray} {maxL : Nat} {ret : Option FieldType} {rm : Room}
    (hown : s.vm.findClass own = some m.cls) (w1 : (Jvm.Cond.methodLink own index y).before a0 Z = true) (w2 : (Jvm.Cond.instanceMethod y).before a0 Z = true) (w5 : (Jvm.Cond.selects y.cls y y).before a0 Z = true) (w6 : (Jvm.Cond.privateMethod y).before a0 Z = true) (w3 : (Jvm.Cond.initialized y.cls).before a0 Z = true) (w4 : (Jvm.Cond.code y bytes maxL ret).before a0 Z = true)
    (hy : y.cls ≠ "java/lang/invoke/MethodHandle" ∧ y.cls ≠ "java/lang/invoke/VarHandle") (eT : T.heap = h) {a : Addr} (E : Exa Z h a C) {argsL rest : List Value} (hC : Con l Z y bytes maxL ret rm (.ref a :: argsL).toArray h Q)
    {g : JFrame} (hg : g.method = m) (hsize : g.locals.size = c.maxLocals) (hlen : ∀ sig, parseMethodDescriptor y.desc = some sig → argsL.length = sig.parameters.length) (hstack : g.stack = argsL.reverse ++ .ref a :: rest) (hd : decode c.code g.pc = .ok (.invokevirtual index, 3))
    {W : Nat} (hW : 2 * g.monitorRoom + (rest.map fun v => v.category).sum ≤ W) (hf : rm.frames + 1 ≤ R.frames) (hl : W + (maxL + 11) + rm.locals ≤ R.locals) (hc : cells + rm.cells ≤ R.cells) (hs : slots + rm.slots ≤ R.slots) :
    ∃ v T' h' L, Stand p l e R s m args below meth c T' (locs ++ L) (cells + rm.cells) (slots + rm.slots) ∧ T'.heap = h' ∧ Q v h' L ∧ ∀ target, Steps p.tables e below (T'.setTop { g with pc := g.pc + 3, stack := v.toList ++ rest }) target → Steps p.tables e below (T.setTop g) target := by
  obtain ⟨cell, q1, q2⟩ := E.cell
  obtain ⟨v, _, ⟨T', L', k', n'⟩, -, X', ⟨Lc, hQ, l', y', z'⟩, st⟩ := X.privateBack hx (y := y) hown (mvT hZ w1) (mvT hZ w2) (mvT hZ w5) (Cond.privateMethod_at (mvP hZ w6 (args := #[]))) (mvT hZ w4) hy (backOf (W := W) (hC []) hZ w4 w3 hf hl) hg hsize (Steps.refl _) (a := a) (by rw [eT]; exact q1) q2 (argsL := argsL) (rest := rest) hlen hstack hW hd (fun _ _ => ⟨rfl, eT, hc, hs⟩)
  dsimp only [Pt.U, Pt.locs, Pt.cells, Pt.slots] at X' l' y' z' st hQ
  subst l' y' z'
  exact ⟨v, T', _, Lc, X', rfl, hQ, fun t ht => st.trans ht⟩
theorem own_callI (X : Stand p l e R s m args below meth c T locs cells slots) (hx : p.tables.exec = Jvm.exec) (hZ : Z.Warmed39 s.vm) {own C : String} {index count : Nat} {xi y : MethodName} {bytes : ByteArray} {maxL : Nat} {ret : Option FieldType} {rm : Room}
    (hown : s.vm.findClass own = some m.cls) (w1 : (Jvm.Cond.methodLink own index xi).before a0 Z = true) (w2 : (Jvm.Cond.declares xi).before a0 Z = true) (w5 : (Jvm.Cond.interfaceMethod xi.cls xi.cls xi.name xi.desc).before a0 Z = true) (w6 : (Jvm.Cond.selects C xi y).before a0 Z = true) (w7 : (Jvm.Cond.instanceMethod y).before a0 Z = true) (w8 : (Jvm.Cond.publicMethod y).before a0 Z = true) (w9 : (Jvm.Cond.unhidden C xi.name xi.desc).before a0 Z = true) (w10 : (Jvm.Cond.castable C xi.cls).before a0 Z = true) (w3 : (Jvm.Cond.initialized y.cls).before a0 Z = true) (w4 : (Jvm.Cond.code y bytes maxL ret).before a0 Z = true)
    (hy : xi.cls ≠ "java/lang/invoke/MethodHandle" ∧ xi.cls ≠ "java/lang/invoke/VarHandle") (eT : T.heap = h) {a : Addr} (E : Exa Z h a C) {argsL rest : List Value} (hC : Con l Z y bytes maxL ret rm (.ref a :: argsL).toArray h Q)
    {g : JFrame} (hg : g.method = m) (hsize : g.locals.size = c.maxLocals) (hlen : ∀ sig, parseMethodDescriptor xi.desc = some sig → argsL.length = sig.parameters.length) (hstack : g.stack = argsL.reverse ++ .ref a :: rest) (hd : decode c.code g.pc = .ok (.invokeinterface index count, 5))
    {W : Nat} (hW : 2 * g.monitorRoom + (rest.map fun v => v.category).sum ≤ W) (hf : rm.frames + 1 ≤ R.frames) (hl : W + (maxL + 11) + rm.locals ≤ R.locals) (hc : cells + rm.cells ≤ R.cells) (hs : slots + rm.slots ≤ R.slots) :
    ∃ v T' h' L, Stand p l e R s m args below meth c T' (locs ++ L) (cells + rm.cells) (slots + rm.slots) ∧ T'.heap = h' ∧ Q v h' L ∧ ∀ target, Steps p.tables e below (T'.setTop { g with pc := g.pc + 5, stack := v.toList ++ rest }) target → Steps p.tables e below (T.setTop g) target := by
  obtain ⟨cq, kq, qa, qb, qc⟩ := isOf hZ eT E
  obtain ⟨v, _, ⟨T', L', k', n'⟩, -, X', ⟨Lc, hQ, l', y', z'⟩, st⟩ := X.interfaceBack hx (xi := xi) (y := y) hown (mvT hZ w1) (mvT hZ w2) (mvT hZ w5 (by simp [Cond.onTables, Cond.keepsFace, Cond.keeps, Cond.steady, Cond.faceAtom, hy.1, hy.2])) (mvT hZ w6) (mvT hZ w7) (mvT hZ w8) (mvT hZ w9) (mvT hZ w10) hy (backOf (W := W) (hC []) hZ w4 w3 hf hl) qa qb qc hg hsize (Steps.refl _) (argsL := argsL) (rest := rest) hlen hstack hW hd (fun _ _ => ⟨rfl, eT, hc, hs⟩)
  dsimp only [Pt.U, Pt.locs, Pt.cells, Pt.slots] at X' l' y' z' st hQ
  subst l' y' z'
  exact ⟨v, T', _, Lc, X', rfl, hQ, fun t ht => st.trans ht⟩
end Own2
section OwnW
variable {p : Program} {l : Launch} {e : Env} {R : Room} {s : State} {m : MethodId} {args : Array Value} {below : List Frame} {meth : Method} {c : Code} {T : State} {locs : List Loc} {cells slots : Nat}
theorem own_more {c' s' : Nat} (X : Stand p l e R s m args below meth c T locs cells slots) (h1 : cells ≤ c') (h2 : slots ≤ s') : Stand p l e R s m args below meth c T locs c' s' :=
  { admits := X.admits, cas := X.cas, clock := X.clock, frames := X.frames, room := X.room, hears := X.hears, method := X.method, code := X.code, here := X.here, tail := X.tail, warmed := X.warmed, limits := X.limits, bytes := X.bytes, same := X.same.mono h1 h2 }
end OwnW
def own_EL : List (String × Nat) := [("java/lang/String", 7), ("java/lang/StringUTF16", 295)]
abbrev HEnd (Z s : State) (h h' : Heap) : Prop := Z.Warmed39 s.vm ∧ (∃ a0, EW Z a0 own_EL) ∧ CHr Z own_EL s.vm h s.vm h'
def GoH (Z : State) (h : Heap) (p : Program) (e : Env) (below : List Frame) (s : State) (k n : Nat) (Q : Option Value → Heap → List Loc → Prop) (S : State) : Prop :=
  ∃ (U : State) (o : Outcome), Steps p.tables e below S U ∧ U.status = .running ∧ Ended U below o ∧ ∃ v L, o = .returned v ∧ Q v U.heap L ∧ ReturnedEndW s o U L k n ∧ CHr Z own_EL s.vm h U.vm U.heap
section OwnH
variable {p : Program} {l : Launch} {e : Env} {R : Room} {s : State} {m : MethodId} {args : Array Value} {below : List Frame} {meth : Method} {c : Code} {T : State} {locs : List Loc} {cells slots : Nat} {Z : State} {a0 : Array Value} {h h1 : Heap} {k n : Nat} {Q Q' : Option Value → Heap → List Loc → Prop} {S S' : State}
theorem own_chEnd {EL : List (String × Nat)} {vm1 : Vm} (hZ : Z.Warmed39 s.vm) (hW : s.WarmedH vm1) (w : EW Z a0 EL) (H : CHv Z EL s.vm h) : CHr Z EL s.vm h vm1 h := by
  have q := CHv.later (h' := h) hZ (hW := (show (Wst Z s.vm h).Warmed39 vm1 from hW.wide)) w ⟨Nat.le_refl _, fun _ _ q => q⟩ (Or.inl hW.interned_eq) H
  exact ⟨q.1, Nat.le_refl _, q.2⟩
theorem GoH.ofGo (g : Go p e below s k n Q' S) (hQ : ∀ v h' L, Q' v h' L → Q v h' L ∧ HEnd Z s h h') : GoH Z h p e below s k n Q S := by
  obtain ⟨U, o, h1, h2, h3, v, L, h4, h5, h6⟩ := g
  obtain ⟨q, hZ, ⟨a0, w⟩, hC⟩ := hQ _ _ _ h5
  exact ⟨U, o, h1, h2, h3, v, L, h4, q, ReturnedEndW.of_narrow h6.1 h6.2.1 h6.2.2, hC.trans (own_chEnd hZ h6.2.1 w hC.1)⟩
theorem GoH.lift {vm₁ : Vm} {k1 : Nat} (hS : s.Since vm₁ k1) (hk : k1 ≤ h1.size) (hC : CHr Z own_EL s.vm h vm₁ h1) (g : GoH Z h1 p e below (s.setVm vm₁) k n Q S) : GoH Z h p e below s k n Q S := by
  obtain ⟨U, o, g1, g2, g3, v, L, g4, g5, g6, g7⟩ := g
  have g7 : CHr Z own_EL vm₁ h1 U.vm U.heap := g7
  have t := hS.trans (n₂ := U.heap.size) ⟨g6.2.1, g6.2.2.1⟩ (Nat.le_trans hk g7.2.1)
  exact ⟨U, o, g1, g2, g3, v, L, g4, g5, ⟨g6.1, t.1, t.2, g6.2.2.2.setVm s.vm⟩, hC.trans g7⟩
theorem GoH.st (f : ∀ t, Steps p.tables e below S' t → Steps p.tables e below S t) (g : GoH Z h p e below s k n Q S') : GoH Z h p e below s k n Q S := by
  obtain ⟨U, o, h1, r⟩ := g
  exact ⟨U, o, f _ h1, r⟩
theorem GoH.cast {g g' : JFrame} (q : g = g') (k' : GoH Z h p e below s k n Q (T.setTop g')) : GoH Z h p e below s k n Q (T.setTop g) := q ▸ k'
theorem GoH.retA (X : Stand p l e R s m args below meth c T locs cells slots) (hx : p.tables.exec = Jvm.exec) (hlk : meth.locks = false) {t : FieldType} (hret : meth.sig.returnType = some t) (ht : t.isReference = true) {pc : Nat} {Ls : Array Slot} {w : Value} {rest : List Value} (hw : w.isRef = true) (hd : decode c.code pc = .ok (.areturn, 1))
    (hk : cells ≤ k) (hn : slots ≤ n) (hQ : Q (some w) T.heap locs ∧ HEnd Z s h T.heap) : GoH Z h p e below s k n Q (T.setTop (mkF m pc Ls (w :: rest))) :=
  GoH.ofGo (Q' := fun v h' L => v = some w ∧ h' = T.heap ∧ L = locs) (Go.retA X hx hlk hret ht hw hd hk hn ⟨rfl, rfl, rfl⟩) (fun v h' L q => by obtain ⟨rfl, rfl, rfl⟩ := q; exact hQ)
theorem GoH.retV (X : Stand p l e R s m args below meth c T locs cells slots) (hx : p.tables.exec = Jvm.exec) (hlk : meth.locks = false) (hret : meth.sig.returnType = none) {pc : Nat} {Ls : Array Slot} (hd : decode c.code pc = .ok (.return_, 1))
    (hk : cells ≤ k) (hn : slots ≤ n) (hQ : Q none T.heap locs ∧ HEnd Z s h T.heap) : GoH Z h p e below s k n Q (T.setTop (mkF m pc Ls [])) :=
  GoH.ofGo (Q' := fun v h' L => v = none ∧ h' = T.heap ∧ L = locs) (Go.retV X hx hlk hret hd hk hn ⟨rfl, rfl, rfl⟩) (fun v h' L q => by obtain ⟨rfl, rfl, rfl⟩ := q; exact hQ)
def ConH (l : Launch) (Z : State) (y : MethodName) (bytes : ByteArray) (maxL : Nat) (ret : Option FieldType) (rm : Room) (as' : Array Value) (h0 : Heap) (Q : Option Value → Heap → List Loc → Prop) : Prop :=
  MetFree l y (head1 [Jvm.Cond.code y bytes maxL ret] rm) (fun a U => a = as' ∧ Z.Warmed39 U.vm ∧ U.heap = h0 ∧ CHv Z own_EL U.vm h0) (fun _ _ _ _ _ => True) (fun _ U o U' => ∃ v L, o = .returned v ∧ Q v U'.heap L ∧ CHr Z own_EL U.vm U.heap U'.vm U'.heap ∧ ReturnedEndW U o U' L rm.cells rm.slots)
theorem ConH.of {y : MethodName} {bytes : ByteArray} {maxL : Nat} {ret : Option FieldType} {rm : Room} {as' : Array Value} {h0 : Heap} (hp : plainFor y = true)
    (body : ∀ (p : Program) (e : Env) (s : State) (m : MethodId) (below : List Frame) (meth : Method) (c : Code) (s₁ : State), Stand p l e rm s m as' below meth c s₁ [] 0 0 → p.tables.exec = Jvm.exec → c.code = bytes → c.maxLocals = maxL → Z.Warmed39 s.vm → s.vm.findClass y.cls = some m.cls → meth.name = y.name → meth.sig.returnType = ret → meth.locks = false → s₁.heap = h0 → CHv Z own_EL s.vm h0 →
      GoH Z h0 p e below s rm.cells rm.slots Q (s₁.setTop (entryFrame m as' maxL))) : ConH l Z y bytes maxL ret rm as' h0 Q := by
  refine MetFree.of_bodySF hp hisR ?_
  intro p e s m args below meth c s₁ Bd hml hP hK
  obtain ⟨rfl, hZ, hh, H⟩ := hP
  obtain ⟨U, o, h1, h2, h3, v, L, h4, h5, h6, h7⟩ := body p e s m below meth c s₁ (Stand.of_body Bd) Bd.exec Bd.bytes hml hZ (findClass_of_methodNamed Bd.named) (name_of_methodNamed Bd.named Bd.method).1 Bd.returns Bd.notSynchronized (by rw [← hh, Bd.state]; rfl) H
  exact ⟨U, o, h1, h2, h3, v, L, h4, h5, by rw [hh]; exact h7, h6⟩
theorem own_callNH (X : Stand p l e R s m args below meth c T locs cells slots) (hx : p.tables.exec = Jvm.exec) (hZ : Z.Warmed39 s.vm) {own : String} {index : Nat} {y : MethodName} {bytes : ByteArray} {maxL : Nat} {rm : Room} (hy1 : y.name = "<init>")
    (hown : s.vm.findClass own = some m.cls) (w1 : (Jvm.Cond.methodLink own index y).before a0 Z = true) (w2 : (Jvm.Cond.instanceMethod y).before a0 Z = true) (w3 : (Jvm.Cond.initialized y.cls).before a0 Z = true) (w4 : (Jvm.Cond.code y bytes maxL none).before a0 Z = true)
    (hy : y.cls ≠ "java/lang/invoke/MethodHandle" ∧ y.cls ≠ "java/lang/invoke/VarHandle") (eT : T.heap = h) {a : Addr} {argsL rest : List Value} (hC : ConH l Z y bytes maxL none rm (.ref a :: argsL).toArray h Q)
    {g : JFrame} (hg : g.method = m) (hsize : g.locals.size = c.maxLocals) (hlen : ∀ sig, parseMethodDescriptor y.desc = some sig → argsL.length = sig.parameters.length) (hstack : g.stack = argsL.reverse ++ .ref a :: rest) (hd : decode c.code g.pc = .ok (.invokespecial index, 3))
    {W : Nat} (hW : 2 * g.monitorRoom + (rest.map fun v => v.category).sum ≤ W) (hf : rm.frames + 1 ≤ R.frames) (hl : W + (maxL + 11) + rm.locals ≤ R.locals) (hc : cells + rm.cells ≤ R.cells) (hs : slots + rm.slots ≤ R.slots) (hEW : EW Z a0 own_EL) (H : CHv Z own_EL s.vm h) :
    ∃ v T' h' L, Stand p l e R (s.setVm T'.vm) m args below meth c T' (locs ++ L) (cells + rm.cells) (slots + rm.slots) ∧ T'.heap = h' ∧ Q v h' L ∧ s.Since T'.vm h'.size ∧ Z.Warmed39 (s.setVm T'.vm).vm ∧ (s.setVm T'.vm).vm.findClass own = some m.cls ∧ CHr Z own_EL s.vm h T'.vm h' ∧ ∀ target, Steps p.tables e below (T'.setTop { g with pc := g.pc + 3, stack := v.toList ++ rest }) target → Steps p.tables e below (T.setTop g) target := by
  obtain ⟨v, _, ⟨T', L', k', n'⟩, -, X', hS, -, ⟨Lc, hQ, l', y', z', hR⟩, st⟩ := X.specialBackS hx (y := y) hy1 hown (mvT hZ w1) (mvT hZ w2) (mvT hZ w4) hy (backOfSH (s := s) (vm0 := s.vm) (W := W) hC hZ w4 w3 hf hl hEW H) hg hsize (Steps.refl _) (a := a) (argsL := argsL) (rest := rest) hlen hstack hW hd (fun _ _ => ⟨rfl, eT, hc, hs⟩)
  dsimp only [Pt.U, Pt.locs, Pt.cells, Pt.slots] at X' l' y' z' st hQ hS hR
  subst l' y' z'
  exact ⟨v, T', _, Lc, X', rfl, hQ, hS, State.Warmed39.trans (t := s) hZ hS.1, (hS.1.alike.findClass _ _).trans hown, hR, fun t ht => st.trans ht⟩
theorem own_callVH (X : Stand p l e R s m args below meth c T locs cells slots) (hx : p.tables.exec = Jvm.exec) (hZ : Z.Warmed39 s.vm) {own C : String} {index : Nat} {y z : MethodName} {bytes : ByteArray} {maxL : Nat} {ret : Option FieldType} {rm : Room}
    (hown : s.vm.findClass own = some m.cls) (w1 : (Jvm.Cond.methodLink own index y).before a0 Z = true) (w2 : (Jvm.Cond.declares y).before a0 Z = true) (w5 : (Jvm.Cond.selects y.cls y y).before a0 Z = true) (w6 : (Jvm.Cond.selects C y z).before a0 Z = true) (w7 : (Jvm.Cond.instanceMethod z).before a0 Z = true) (w3 : (Jvm.Cond.initialized z.cls).before a0 Z = true) (w4 : (Jvm.Cond.code z bytes maxL ret).before a0 Z = true)
    (hy : y.cls ≠ "java/lang/invoke/MethodHandle" ∧ y.cls ≠ "java/lang/invoke/VarHandle") (eT : T.heap = h) {a : Addr} (E : Exa Z h a C) {argsL rest : List Value} (hC : ConH l Z z bytes maxL ret rm (.ref a :: argsL).toArray h Q)
    {g : JFrame} (hg : g.method = m) (hsize : g.locals.size = c.maxLocals) (hlen : ∀ sig, parseMethodDescriptor y.desc = some sig → argsL.length = sig.parameters.length) (hstack : g.stack = argsL.reverse ++ .ref a :: rest) (hd : decode c.code g.pc = .ok (.invokevirtual index, 3))
    {W : Nat} (hW : 2 * g.monitorRoom + (rest.map fun v => v.category).sum ≤ W) (hf : rm.frames + 1 ≤ R.frames) (hl : W + (maxL + 11) + rm.locals ≤ R.locals) (hc : cells + rm.cells ≤ R.cells) (hs : slots + rm.slots ≤ R.slots) (hEW : EW Z a0 own_EL) (H : CHv Z own_EL s.vm h) :
    ∃ v T' h' L, Stand p l e R (s.setVm T'.vm) m args below meth c T' (locs ++ L) (cells + rm.cells) (slots + rm.slots) ∧ T'.heap = h' ∧ Q v h' L ∧ s.Since T'.vm h'.size ∧ Z.Warmed39 (s.setVm T'.vm).vm ∧ (s.setVm T'.vm).vm.findClass own = some m.cls ∧ CHr Z own_EL s.vm h T'.vm h' ∧ ∀ target, Steps p.tables e below (T'.setTop { g with pc := g.pc + 3, stack := v.toList ++ rest }) target → Steps p.tables e below (T.setTop g) target := by
  obtain ⟨cq, kq, qa, qb, qc⟩ := isOf hZ eT E
  obtain ⟨v, _, ⟨T', L', k', n'⟩, -, X', hS, -, ⟨Lc, hQ, l', y', z', hR⟩, st⟩ := X.virtualBackS hx (y := y) (z := z) hown (mvT hZ w1) (mvT hZ w2) (notFace_of_selects (args := #[]) (mvT hZ w5)) (mvT hZ w6) (mvT hZ w7) hy (backOfSH (s := s) (vm0 := s.vm) (W := W) hC hZ w4 w3 hf hl hEW H) qa qc hg hsize (Steps.refl _) (argsL := argsL) (rest := rest) hlen hstack hW hd (fun _ _ => ⟨rfl, eT, hc, hs⟩)
  dsimp only [Pt.U, Pt.locs, Pt.cells, Pt.slots] at X' l' y' z' st hQ hS hR
  subst l' y' z'
  exact ⟨v, T', _, Lc, X', rfl, hQ, hS, State.Warmed39.trans (t := s) hZ hS.1, (hS.1.alike.findClass _ _).trans hown, hR, fun t ht => st.trans ht⟩
theorem own_callSH (X : Stand p l e R s m args below meth c T locs cells slots) (hx : p.tables.exec = Jvm.exec) (hZ : Z.Warmed39 s.vm) {own : String} {index : Nat} {y : MethodName} {bytes : ByteArray} {maxL : Nat} {ret : Option FieldType} {rm : Room}
    (hown : s.vm.findClass own = some m.cls) (w1 : (Jvm.Cond.methodLink own index y).before a0 Z = true) (w2 : (Jvm.Cond.static y).before a0 Z = true) (w3 : (Jvm.Cond.initialized y.cls).before a0 Z = true) (w4 : (Jvm.Cond.code y bytes maxL ret).before a0 Z = true)
    (hy : y.cls ≠ "java/lang/invoke/MethodHandle" ∧ y.cls ≠ "java/lang/invoke/VarHandle") (eT : T.heap = h) {argsL rest : List Value} (hC : ConH l Z y bytes maxL ret rm argsL.toArray h Q)
    {g : JFrame} (hg : g.method = m) (hsize : g.locals.size = c.maxLocals) (hlen : ∀ sig, parseMethodDescriptor y.desc = some sig → argsL.length = sig.parameters.length) (hstack : g.stack = argsL.reverse ++ rest) (hd : decode c.code g.pc = .ok (.invokestatic index, 3))
    {W : Nat} (hW : 2 * g.monitorRoom + (rest.map fun v => v.category).sum ≤ W) (hf : rm.frames + 1 ≤ R.frames) (hl : W + (maxL + 11) + rm.locals ≤ R.locals) (hc : cells + rm.cells ≤ R.cells) (hs : slots + rm.slots ≤ R.slots) (hEW : EW Z a0 own_EL) (H : CHv Z own_EL s.vm h) :
    ∃ v T' h' L, Stand p l e R (s.setVm T'.vm) m args below meth c T' (locs ++ L) (cells + rm.cells) (slots + rm.slots) ∧ T'.heap = h' ∧ Q v h' L ∧ s.Since T'.vm h'.size ∧ Z.Warmed39 (s.setVm T'.vm).vm ∧ (s.setVm T'.vm).vm.findClass own = some m.cls ∧ CHr Z own_EL s.vm h T'.vm h' ∧ ∀ target, Steps p.tables e below (T'.setTop { g with pc := g.pc + 3, stack := v.toList ++ rest }) target → Steps p.tables e below (T.setTop g) target := by
  obtain ⟨v, _, ⟨T', L', k', n'⟩, -, X', hS, -, ⟨Lc, hQ, l', y', z', hR⟩, st⟩ := callSS X hx (y := y) hown (mvT hZ w1) (mvT hZ w2) (mvT hZ w3) (mvT hZ w4) hy (backOfSH (s := s) (vm0 := s.vm) (W := W) hC hZ w4 w3 hf hl hEW H) hg hsize (argsL := argsL) (rest := rest) hlen hstack hW hd (fun _ _ => ⟨rfl, eT, hc, hs⟩)
  dsimp only [Pt.U, Pt.locs, Pt.cells, Pt.slots] at X' l' y' z' st hQ hS hR
  subst l' y' z'
  exact ⟨v, T', _, Lc, X', rfl, hQ, hS, State.Warmed39.trans (t := s) hZ hS.1, (hS.1.alike.findClass _ _).trans hown, hR, fun t ht => st.trans ht⟩
end OwnH
section OwnS
variable {Z : State} {a0 : Array Value} {EL : List (String × Nat)} {vm : Vm} {h : Heap} {x : Nat}
theorem own_safeNull (hal : Z.vm.Alike vm) (E : Exa Z h x "java/lang/String") (F : Fld Z h x "java/lang/String" "value" "[B" .null) : Safe Z EL vm h x := fun B => by
  obtain ⟨cell, cf, k, i, f, e1, e2, -, -, -, -, e3⟩ := F
  obtain ⟨p, -, u, a, -, q, -, G, rfl | rfl⟩ := B
  · cases (show h[q.sa]? = some q.sC from G.ha).symm.trans e1
    obtain ⟨cS, ⟨⟨-, -, -, ⟨c1, k1, i1, f1, -⟩, -, -, -, v1, -⟩, -⟩, -⟩ := G
    obtain ⟨k3, z, -⟩ := State.fieldFound?_setVm (s := Z) hal e2
    have e4 := (show (Wst Z vm h).fieldFound? _ _ _ = _ from z).symm.trans f1
    simp only [Option.some.injEq, Prod.mk.injEq] at e4
    rw [e4.2.2.2, v1] at e3
    cases e3
  · cases (show h[q.sd]? = some q.SA from G.hd).symm.trans e1
    obtain ⟨cS, -, -, f2, -⟩ := G
    obtain ⟨cell, kk, g1, g2, -⟩ := E
    cases (show h[q.sd]? = some q.SA from e1).symm.trans g1
    have f2 : vm.findClass "[B" = some q.SA.cls := f2
    rw [hal.findClass] at f2
    obtain ⟨k1, q1, q2⟩ := Vm.findClass_spec f2
    obtain ⟨k2, q3, q4⟩ := Vm.findClass_spec g2
    cases q1.symm.trans q3
    exact absurd (q2.symm.trans q4) (by decide)
theorem own_crS {vm1 : Vm} {h' : Heap} (A : CHr Z EL vm h vm1 h') (hx : x < h.size) (S : Safe Z EL vm h x) : Safe Z EL vm1 h' x := A.safe hx S
theorem own_neEE {C D : String} {y : Nat} (E : Exa Z h x C) (F : Exa Z h y D) (q : C ≠ D) : x ≠ y := by
  rintro rfl
  obtain ⟨cell, k, g1, g2, -⟩ := E
  obtain ⟨cell', k', g3, g4, -⟩ := F
  cases g1.symm.trans g3
  obtain ⟨k1, q1, q2⟩ := Vm.findClass_spec g2
  obtain ⟨k2, q3, q4⟩ := Vm.findClass_spec g4
  cases q1.symm.trans q3
  exact q (q2.symm.trans q4)
theorem own_neEA {C : String} {n : Nat} {b : Nat} {ty : FieldType} {vs : List Value} (wi : (Jvm.Cond.instantiable C n).before a0 Z = true) (E : Exa Z h x C) (A : Ary Z h b ty vs) : x ≠ b := by
  rintro rfl
  obtain ⟨cell, k, g1, g2, g3, -, -⟩ := E
  obtain ⟨c, ⟨g4, ⟨-, k', g5, comp, g6⟩, -⟩, -⟩ := A
  cases g1.symm.trans g4
  obtain ⟨q, kQ, hQ, hkQ, hkind, -⟩ := Cond.instantiable_spec wi
  cases g2.symm.trans hQ
  cases hkQ.symm.trans g5
  rw [hkind] at g6
  cases g6
end OwnS
theorem Ary.ofArv {Z : State} {h : Heap} {a : Nat} {k : ClassId} {ty : FieldType} {z : Int32} {vs : List Value} {dv : Value} (F : Arv Z h a k ty z vs dv) (hl : z.toNatClampNeg = vs.length) (h31 : vs.length < 2 ^ 31) : Ary Z h a ty vs := by
  obtain ⟨c, A, -, S, -, H, -⟩ := F
  refine ⟨c, A, ?_, h31⟩
  refine List.ext_getElem? fun i => ?_
  by_cases hi : i < c.slots.size
  · have q := H i hi
    rw [Array.getElem?_toList, q, List.getD_eq_getElem?_getD, List.getElem?_eq_getElem (by omega)]; rfl
  · rw [List.getElem?_eq_none (by simp; omega), List.getElem?_eq_none (by omega)]
section OwnL
open Jvm.Free.SB Jvm.Free.SBG
variable {p : Program} {l : Launch} {e : Env} {R : Room} {s : State} {m : MethodId} {args : Array Value} {below : List Frame} {meth : Method} {c : Code} {T : State} {locs : List Loc} {cells slots : Nat} {Z : State} {a0 : Array Value} {h : Heap} {own : String} {index : Nat}
theorem own_noted {k k' : Class} {cf : ClassFile} {i : Nat} {units : Array UInt16} {text : String} (W : s.WarmedH T.vm) (hk : s.vm.classes[m.cls]? = some k) (hk' : T.vm.classes[m.cls]? = some k') (hcf : k.cf = some cf) (hc : cf.constantPool[index]? = some (.string i)) (hu : cf.constantPool[i]? = some (.utf8 units)) (hnm : namesOf? cf.constantPool index = some (.string text))
    (hres : k.resolved[index]? = some none ∨ ∃ a, k.resolved[index]? = some (some (.string a))) : (k'.resolved[index]? = some none ∧ k.resolved[index]? = some none) ∨ ∃ a, k'.resolved[index]? = some (some (.string a)) := by
  obtain ⟨k'', ha'', -, -, ee, -⟩ := W.wide.2.2.2 _ k hk
  cases hk'.symm.trans ha''
  rcases ee index with e0 | ⟨-, r, e1, hr | ⟨a, t, si, us, rfl, -⟩⟩
  · rcases hres with h0 | ⟨a, h0⟩
    · exact Or.inl ⟨e0.trans h0, h0⟩
    · exact Or.inr ⟨a, e0.trans h0⟩
  · exfalso
    cases r <;> simp [State.rightAt, hk, hcf, hnm] at hr
  · exact Or.inr ⟨a, e1⟩
set_option maxHeartbeats 1000000 in
theorem own_ldcWN (X : Stand p l e R s m args below meth c T locs cells slots) (hexec : p.tables.exec = Jvm.exec) (hown : s.vm.findClass own = some m.cls)
    (hlink : (Jvm.Cond.stringLink own index "").before args s = true) (hS : ∀ a ∈ Bundle.stringAtoms, a.before args s = true)
    {g : JFrame} (hg : g.method = m) (hdg : decode c.code g.pc = .ok (.ldc_w index, 3)) (hRcells : cells + 2 ≤ R.cells) (hRslots : slots + 4 ≤ R.slots) :
    ∃ (a : Addr) (T₂ : State), Stand p l e R (s.setVm T₂.vm) m args below meth c T₂ locs (cells + 2) (slots + 4) ∧ s.Since T₂.vm T₂.heap.size ∧
      (∃ k₂, T₂.vm.classes[m.cls]? = some k₂ ∧ k₂.resolved[index]? = some (some (.string a))) ∧ (∀ a0, a0 < T.heap.size → T₂.heap[a0]? = T.heap[a0]?) ∧
      T.Warmed39 T₂.vm ∧ (T₂.vm.interned = T.vm.interned ∨ ∃ units : Array UInt16, T₂.vm.interned = T.vm.interned.push (units, a) ∧ T.vm.interned.find? (fun p => p.1 == units) = none ∧ (units.all (· < 256) = true → SlIn 0 T.heap.size T₂ a units)) ∧
      ∀ target, Steps p.tables e below (T₂.setTop { g with pc := g.pc + 3, stack := .ref a :: g.stack }) target → Steps p.tables e below (T.setTop g) target := by
  obtain ⟨k, cf, i, units, hk, hcf, hc, hu, hnm, hdec, hres⟩ := Cond.stringLink_spec hown hlink
  obtain ⟨k', hk', he⟩ := X.warmed.alike.2.2 _ _ hk
  have hcf' : k'.cf = some cf := by rw [he]; exact hcf
  have hbytes : (stringBytes units).size ≤ 0 := text_bytes_le hdec
  subst hg
  rcases own_noted (m := g.method) X.warmed hk hk' hcf hc hu hnm hres with ⟨hopen, hopen0⟩ | ⟨a, hr'⟩
  · have q2 : k.cf.bind (namesOf? ·.constantPool index) = some (.string "") := by rw [hcf]; exact hnm
    have q3 : k.cf.bind (·.constantPool[index]?) = some (.string i) := by rw [hcf]; exact hc
    have q4 : k.cf.bind (·.constantPool.utf8? i) = some units := by rw [hcf]; simp [ConstantPool.utf8?, hu]
    have r2 : k'.cf.bind (namesOf? ·.constantPool index) = some (.string "") := by rw [hcf']; exact hnm
    have r3 : k'.cf.bind (·.constantPool[index]?) = some (.string i) := by rw [hcf']; exact hc
    have r4 : k'.cf.bind (·.constantPool.utf8? i) = some units := by rw [hcf']; simp [ConstantPool.utf8?, hu]
    cases hf : T.vm.interned.find? (fun p => p.1 == units) with
    | some pr =>
      obtain ⟨u', a⟩ := pr
      have hu' : u' = units := by simpa using Array.find?_some hf
      subst hu'
      have hW : s.Warmed39 (T.vm.noted g.method.cls index (.string a)) := X.warmed.wide.notedString hk (Or.inl hopen0) q2 q3 q4 hf
      refine ⟨a, T.setVm (T.vm.noted g.method.cls index (.string a)), (X.mono (by omega) (by omega)).retabled hW, ⟨hW, State.Booked.step (T₂ := T.setVm (T.vm.noted g.method.cls index (.string a))) (X.warmed.no_new_pair _) X.same.2.1 ⟨Nat.le_refl _, Or.inl rfl⟩⟩, ⟨_, Vm.classes_note_self index (.string a) hk', Class.resolved_note_self (.string a) hopen⟩, fun _ _ => rfl, (State.Warmed39.refl T).notedString hk' (Or.inl hopen) r2 r3 r4 hf, Or.inl rfl, fun target hrest => ?_⟩
      jvm_step X.here [hexec, hdg, ldc_w.wp_string_found (e := e) (s := T) (f := g) X.here.top hk' hcf' hc hu hopen hf]
      exact hrest
    | none =>
      obtain ⟨Zs, LZs, hn4, hfitv, hfitc⟩ := StringT.of_atoms (args := args) hS
      obtain ⟨kS', kB', LZ', htyS⟩ := LZs.warmer X.warmed.alike
      have hfs : T.fitsSlot = s.fitsSlot := (show T.fitsSlot = (s.setVm T.vm).fitsSlot from rfl).trans (State.fitsSlot_setVm X.warmed.alike)
      have hpush : ({ T.vm with interned := T.vm.interned.push (units, T.heap.size + 1) } : Vm).interned.find? (fun p => p.1 == units) = some (units, T.heap.size + 1) := by
        show (T.vm.interned.push (units, T.heap.size + 1)).find? _ = _
        rw [Array.find?_push, hf]; simp
      have hW : s.Warmed39 (({ T.vm with interned := T.vm.interned.push (units, T.heap.size + 1) } : Vm).noted g.method.cls index (.string (T.heap.size + 1))) :=
        (X.warmed.wide.interns units (T.heap.size + 1)).notedString hk (Or.inl hopen0) q2 q3 q4 hpush
      have X2 := (X.pushed (bytesOf Zs.cB units)).pushed (stringAt Zs.cS kS' Zs.fv Zs.fc units T.heap.size)
      rw [← withString_eq] at X2
      have hwh : (withString T Zs.cB Zs.cS kS' Zs.fv Zs.fc units).heap = (T.heap.push (bytesOf Zs.cB units)).push (stringAt Zs.cS kS' Zs.fv Zs.fc units T.heap.size) := by rw [withString_eq]; rfl
      have hsz : (withString T Zs.cB Zs.cS kS' Zs.fv Zs.fc units).heap.size = T.heap.size + 2 := by rw [hwh]; simp [Array.size_push]
      have hkeep : ∀ a0, a0 < T.heap.size → (withString T Zs.cB Zs.cS kS' Zs.fv Zs.fc units).heap[a0]? = T.heap[a0]? := fun a0 h0 => by
        rw [hwh, Array.getElem?_push, if_neg (by rw [Array.size_push]; omega), Array.getElem?_push, if_neg (by omega)]
      have hcb : (withString T Zs.cB Zs.cS kS' Zs.fv Zs.fc units).heap[T.heap.size]? = some (bytesOf Zs.cB units) := by
        rw [hwh, Array.getElem?_push, if_neg (by rw [Array.size_push]; omega), Array.getElem?_push, if_pos rfl]
      have hcs : (withString T Zs.cB Zs.cS kS' Zs.fv Zs.fc units).heap[T.heap.size + 1]? = some (stringAt Zs.cS kS' Zs.fv Zs.fc units T.heap.size) := by
        rw [hwh, Array.getElem?_push, if_pos (by rw [Array.size_push])]
      have b1 : (bytesOf Zs.cB units).slots.size = (stringBytes units).size := by rw [(Cell.writeAll_facts _ _).2.2]; simp [bytes0]
      have b2 : (stringAt Zs.cS kS' Zs.fv Zs.fc units T.heap.size).slots.size = 4 := by simp [string0, Cell.setSlot, htyS, hn4]
      have hone : T.Interned1 ((withString T Zs.cB Zs.cS kS' Zs.fv Zs.fc units).setVm (({ T.vm with interned := T.vm.interned.push (units, T.heap.size + 1) } : Vm).noted g.method.cls index (.string (T.heap.size + 1)))) :=
        ⟨by show T.heap.size ≤ (withString T Zs.cB Zs.cS kS' Zs.fv Zs.fc units).heap.size; omega, Or.inr ⟨units, T.heap.size + 1, rfl, by omega, by show T.heap.size + 1 < (withString T Zs.cB Zs.cS kS' Zs.fv Zs.fc units).heap.size; omega⟩⟩
      refine ⟨T.heap.size + 1, (withString T Zs.cB Zs.cS kS' Zs.fv Zs.fc units).setVm (({ T.vm with interned := T.vm.interned.push (units, T.heap.size + 1) } : Vm).noted g.method.cls index (.string (T.heap.size + 1))), (X2.mono (by omega) (by rw [b1, b2]; omega)).retabled hW, ⟨hW, State.Booked.step (X.warmed.no_new_pair _) X.same.2.1 hone⟩, ⟨_, Vm.classes_note_self (vm := { T.vm with interned := T.vm.interned.push (units, T.heap.size + 1) }) index (.string (T.heap.size + 1)) hk', Class.resolved_note_self (.string (T.heap.size + 1)) hopen⟩, hkeep, ((State.Warmed39.refl T).interns units (T.heap.size + 1)).notedString hk' (Or.inl hopen) r2 r3 r4 hpush, Or.inr ⟨units, rfl, hf, fun hl => made_sl (W := (withString T Zs.cB Zs.cS kS' Zs.fv Zs.fc units).setVm (({ T.vm with interned := T.vm.interned.push (units, T.heap.size + 1) } : Vm).noted g.method.cls index (.string (T.heap.size + 1)))) hS LZs hn4 htyS hW.alike hcb hcs hl (by omega) 0⟩, fun target hrest => ?_⟩
      refine Steps.instr (c := _) (by simpa using X.here) ?_
      simp [jvm, wpRun, exec, X.here.top, hexec, hdg]
      refine ldc_w.wp_string_new (e := e) (s := T) (f := g) X.here.top hk' hcf' hc hu hopen hf LZ'.found LZ'.cls LZ'.initialized LZ'.ordinary LZ'.foundB LZ'.clsB LZ'.kindB LZ'.value LZ'.coder ?_ ?_ (X.cellsAbove hRcells) ?_
        (stringBytes_fit LZ'.clsB LZ'.kindB units) LZ'.valueSlot LZ'.coderSlot (by rw [hfs]; exact hfitv _) (by rw [hfs]; exact hfitc _) (fun d' acts' => ?_)
      · rw [Launch.admits_arrayLengthLimit X.admits]; omega
      · rw [Launch.admits_maxHeapBytes X.admits]; simp only [componentBytes]; omega
      · have := X.slotsAbove hRslots
        show T.slotsUsed + (stringBytes units).size + kS'.instanceTypes.size ≤ _
        rw [htyS, hn4]; omega
      · intro acts''
        have hs' : (withString T Zs.cB Zs.cS kS' Zs.fv Zs.fc units).topJava?.isSome := by simpa [withString] using X.here.top
        have hs'' : ((withString T Zs.cB Zs.cS kS' Zs.fv Zs.fc units).setVm (({ T.vm with interned := T.vm.interned.push (units, T.heap.size + 1) } : Vm).noted g.method.cls index (.string (T.heap.size + 1)))).topJava?.isSome := by simpa using hs'
        simp [jvm, afterInstr, hs', hs'']
        rw [State.modifyTopJava_setTop]
        exact hrest
  · refine ⟨a, T, (X.mono (by omega) (by omega)).retabled X.warmed.wide, X.warmed.since _, ⟨k', hk', hr'⟩, fun _ _ => rfl, State.Warmed39.refl T, Or.inl rfl, fun target hrest => ?_⟩
    jvm_step X.here [hexec, hdg, ldc_w.wp_string (e := e) (s := T) (f := g) X.here.top hk' hcf' hc hr']
    exact hrest
theorem own_booked {vm : Vm} {a : Nat} {cl : ClassId} {kx : Class} (hZ : Z.Warmed39 vm) (w : (Jvm.Cond.stringLink own index "").before a0 Z = true) (hmem : (own, index) ∈ own_EL) (H : CHv Z own_EL vm h) (hf : vm.findClass own = some cl) (hk : vm.classes[cl]? = some kx) (hr : kx.resolved[index]? = some (some (.string a))) :
    ∃ b : Nat, Exa Z h a "java/lang/String" ∧ Fld Z h a "java/lang/String" "coder" "B" (.int 0) ∧ Fld Z h a "java/lang/String" "value" "[B" (.ref b) ∧ Ary Z h b .byte [] := by
  have hal : Z.vm.Alike vm := hZ.alike
  have w2 : (Jvm.Cond.stringLink own index "").before a0 (Wst Z vm h) = true := mvS (s := { Z with heap := h }) hZ w
  obtain ⟨k0, cf, i, units, hkx, hcf, hp, hu, -, htext, -⟩ := Cond.stringLink_spec (s := Wst Z vm h) hf w2
  have hkx : vm.classes[cl]? = some k0 := hkx
  cases hk.symm.trans hkx
  have hun : (stringBytes units).size ≤ 0 := text_bytes_le htext
  obtain ⟨q, hqa, F⟩ := SlB.of (H _ hmem units a ⟨cl, kx, cf, i, hf, hk, hcf, hp, hu, Or.inl hr⟩)
  subst hqa
  obtain ⟨cS, ⟨⟨s1, s2, s3, ⟨cv, kv, iv, s4, s4'⟩, ⟨cc, kc, ic, s5, s5'⟩, s6, s7, s8, s9, s10, s11, s12, s13, s14, s15, s16⟩, hfS, hcS⟩, ⟨kS, k1, k2, k3⟩, hB, hbyt⟩ := F
  have hfS : vm.findClass "java/lang/String" = some cS := hfS
  have k1 : vm.classes[cS]? = some kS := k1
  obtain ⟨kv', z4⟩ := ff_back (U := Wst Z vm h) hal s4
  obtain ⟨kc', z5⟩ := ff_back (U := Wst Z vm h) hal s5
  have hfZ : Z.vm.findClass "java/lang/String" = some q.sC.cls := by rw [← hal.findClass, hcS]; exact hfS
  obtain ⟨kz, hkz, -⟩ := Vm.findClass_spec hfZ
  obtain ⟨kz', hkz', ekz⟩ := hal.2.2 _ _ hkz
  have ekS : kz' = kS := Option.some.inj (hkz'.symm.trans (hcS ▸ k1))
  obtain ⟨hst, k9, hk9, comp, hkind9⟩ := s11
  have hk9 : vm.classes[q.SA.cls]? = some k9 := hk9
  have hB : vm.findClass "[B" = some q.SA.cls := hB
  rw [hal.findClass] at hB
  obtain ⟨kb, hkb, -⟩ := Vm.findClass_spec hB
  obtain ⟨kb', hkb', ekb⟩ := hal.2.2 _ _ hkb
  have ek9 : k9 = kb' := Option.some.inj (hk9.symm.trans hkb')
  have hs0 : q.SA.slots.size = 0 := by rw [hbyt]; omega
  refine ⟨q.sd, ⟨q.sC, kz, s1, hfZ, hkz, s3, fun ho => by rw [k3, ← ekS, ekz]⟩, ⟨q.sC, cc, kc', ic, q.fSC, s1, z5, s7, s2, s3, by rw [← hal.assignable]; exact s5', s9⟩, ⟨q.sC, cv, kv', iv, q.fSV, s1, z4, s6, s2, s3, by rw [← hal.assignable]; exact s4', s8⟩, ?_⟩
  refine ⟨q.SA, ⟨s10, ⟨hst, kb, hkb, comp, by rw [ek9, ekb] at hkind9; exact hkind9⟩, s12⟩, ?_⟩
  exact ⟨by rw [Array.eq_empty_of_size_eq_zero hs0], by decide⟩
theorem own_ldcW (X : Stand p l e R s m args below meth c T locs cells slots) (hx : p.tables.exec = Jvm.exec) (hZ : Z.Warmed39 s.vm) (hown : s.vm.findClass own = some m.cls) (w : (Jvm.Cond.stringLink own index "").before a0 Z = true) (wS : ∀ a ∈ Bundle.stringAtoms, a.before a0 Z = true) (eT : T.heap = h)
    (hEL : EW Z a0 own_EL) (hmem : (own, index) ∈ own_EL) (H : CHv Z own_EL s.vm h) {g : JFrame} (hg : g.method = m) (hd : decode c.code g.pc = .ok (.ldc_w index, 3)) (hc : cells + 2 ≤ R.cells) (hl : slots + 4 ≤ R.slots) :
    ∃ (a : Nat) (T' : State) (h' : Heap) (b : Nat), Stand p l e R (s.setVm T'.vm) m args below meth c T' locs (cells + 2) (slots + 4) ∧ T'.heap = h' ∧ Ext h h' ∧ s.Since T'.vm h'.size ∧ Z.Warmed39 (s.setVm T'.vm).vm ∧ (s.setVm T'.vm).vm.findClass own = some m.cls ∧
      Exa Z h' a "java/lang/String" ∧ Fld Z h' a "java/lang/String" "coder" "B" (.int 0) ∧ Fld Z h' a "java/lang/String" "value" "[B" (.ref b) ∧ Ary Z h' b .byte [] ∧ CHr Z own_EL s.vm h T'.vm h' ∧
      ∀ target, Steps p.tables e below (T'.setTop { g with pc := g.pc + 3, stack := .ref a :: g.stack }) target → Steps p.tables e below (T.setTop g) target := by
  obtain ⟨a, T', X', hS', ⟨kk, hkk, hrr⟩, hb, hTW, hint, st⟩ := own_ldcWN X hx (own := own) hown (mvS (s := s) (vm0 := s.vm) hZ w) (fun d hd => by
    have q := wS d hd
    simp only [Bundle.stringAtoms, List.mem_cons, List.not_mem_nil, or_false] at hd
    rcases hd with rfl | rfl | rfl | rfl | rfl | rfl | rfl
    · exact mv (s := s) hZ q
    · exact mv (s := s) hZ q
    · exact mvA (s := s) hZ q
    · exact mv (s := s) hZ q
    · exact mv (s := s) hZ q
    · exact mv (s := s) hZ q
    · exact mv (s := s) hZ q) hg hd hc hl
  subst eT
  have E := ext_of hb
  have hW : Z.Warmed39 T'.vm := State.Warmed39.trans (t := s) hZ hS'.1
  have A := CHv.at (s := s) (vm0 := s.vm) X hZ hEL H
  have hZT : Z.Warmed39 T.vm := wtrans (s := s) hZ X.warmed
  have B := CHv.later (vm := T.vm) (vm1 := T'.vm) hZT (show (Wst Z T.vm T.heap).Warmed39 T'.vm from hTW) hEL E (hint.imp id fun ⟨us, e1, e2, e3⟩ => ⟨us, a, e1, e2, fun hl => by
    obtain ⟨q, cS, hq, r1, r2, r3, r4, r5⟩ := e3 hl
    have F : SlB T' q us := ⟨cS, r1, r2, r3, r4⟩
    refine ⟨q, hq, F.carry (V := Wst Z T'.vm T'.heap) (Vm.Alike.refl _) F.ha F.hd, ?_⟩
    rcases r5 with ⟨z, -⟩ | z
    · exact absurd z (Nat.not_lt_zero _)
    · exact z⟩) A.1
  have hf : T'.vm.findClass own = some m.cls := by rw [hS'.1.alike.findClass]; exact hown
  obtain ⟨b, f1, f2, f3, f4⟩ := own_booked hW w hmem B.1 hf hkk hrr
  exact ⟨a, T', _, b, X', rfl, E, hS', hW, hf, f1, f2, f3, f4, A.trans ⟨B.1, E.1, B.2⟩, st⟩
theorem own_ldcH (X : Stand p l e R s m args below meth c T locs cells slots) (hx : p.tables.exec = Jvm.exec) (hZ : Z.Warmed39 s.vm) (hown : s.vm.findClass own = some m.cls) (w : (Jvm.Cond.stringLink own index "").before a0 Z = true) (wS : ∀ a ∈ Bundle.stringAtoms, a.before a0 Z = true) (eT : T.heap = h)
    (hEL : EW Z a0 own_EL) (hmem : (own, index) ∈ own_EL) (H : CHv Z own_EL s.vm h) {g : JFrame} (hg : g.method = m) (hd : decode c.code g.pc = .ok (.ldc index, 2)) (hc : cells + 2 ≤ R.cells) (hl : slots + 4 ≤ R.slots) :
    ∃ (a : Nat) (T' : State) (h' : Heap) (b : Nat), Stand p l e R (s.setVm T'.vm) m args below meth c T' locs (cells + 2) (slots + 4) ∧ T'.heap = h' ∧ Ext h h' ∧ s.Since T'.vm h'.size ∧ Z.Warmed39 (s.setVm T'.vm).vm ∧ (s.setVm T'.vm).vm.findClass own = some m.cls ∧
      Exa Z h' a "java/lang/String" ∧ Fld Z h' a "java/lang/String" "coder" "B" (.int 0) ∧ Fld Z h' a "java/lang/String" "value" "[B" (.ref b) ∧ Ary Z h' b .byte [] ∧ CHr Z own_EL s.vm h T'.vm h' ∧ (∀ x : Nat, Safe Z own_EL T'.vm h' x → x ≠ a ∧ x ≠ b) ∧
      ∀ target, Steps p.tables e below (T'.setTop { g with pc := g.pc + 2, stack := .ref a :: g.stack }) target → Steps p.tables e below (T.setTop g) target := by
  obtain ⟨a, T', h', k1, b, k, X', e', E, hS, hk, hW, hf, f1, f2, f3, A, -, -, hC, -, sf, st⟩ := ldcCH (s := s) (vm0 := s.vm) (text := "") (vs := []) (z := 0) X hx hZ hown w wS eT ((State.WarmedH.refl s).since 0) (Nat.zero_le _) hEL hmem H ⟨by simp, rfl⟩ (by decide) rfl hg hd (n := 0) (by decide) (by decide) hc hl
  exact ⟨a, T', h', b, X', e', E, hS.trans ((State.WarmedH.refl (s.setVm T'.vm)).since _) hk, hW, hf, f1, f2, f3, Ary.ofArv A rfl (by decide), hC, sf, st⟩
end OwnL
theorem own_255 : (255 : Int32).toInt = 255 := by decide
def own_rg (c : Int32) : Prop := 0 ≤ c.toInt ∧ c.toInt ≤ 255
theorem own_rg_c {c : Int32} (h : own_rg c) : nar .char c = c := by
  have q := c_i2c c
  unfold own_rg at h
  rw [← Int32.toInt_inj]
  show c.toUInt32.toUInt16.toUInt32.toInt32.toInt = c.toInt
  omega
theorem own_rg_n {c : Int32} (h : own_rg c) : ¬ (255 : Int32) < c := by
  unfold own_rg at h
  rw [Int32.lt_iff_toInt_lt, own_255]; omega
theorem own_chr (x : Int32) : own_rg (x &&& 255).toUInt32.toUInt16.toUInt32.toInt32 := by
  have h1 := c_mask x 255 8 (by decide) (by decide)
  have h2 := c_i2c (x &&& 255)
  unfold own_rg
  omega
theorem own_idemC (x : Int32) : nar .char (x.toUInt32.toUInt16.toUInt32.toInt32) = x.toUInt32.toUInt16.toUInt32.toInt32 := by
  have q := XT.narrow_c x
  simpa [narrow, nar] using q
theorem own_idemB (x : Int32) : nar .byte (x.toInt8.toInt32) = x.toInt8.toInt32 := by simp [nar]
def own_lo (c : Int32) : Int32 := (c >>> ((0 : Int32) &&& 31)).toInt8.toInt32
def own_hi (c : Int32) : Int32 := (c >>> ((8 : Int32) &&& 31)).toInt8.toInt32
theorem own_gc {c : Int32} (h0 : 0 ≤ c.toInt) (h1 : c.toInt < 65536) : (((own_lo c &&& 255) <<< ((0 : Int32) &&& 31)) ||| ((own_hi c &&& 255) <<< ((8 : Int32) &&& 31))).toUInt32.toUInt16.toUInt32.toInt32 = c := by
  have a1 := c_ishr c 0 0 (by decide)
  have a2 := c_ishr c 8 8 (by decide)
  have b1 := c_i2b (c >>> ((0 : Int32) &&& 31))
  have b2 := c_i2b (c >>> ((8 : Int32) &&& 31))
  have m1 := c_mask (own_lo c) 255 8 (by decide) (by decide)
  have m2 := c_mask (own_hi c) 255 8 (by decide) (by decide)
  have e1 : (own_lo c).toInt = (c >>> ((0 : Int32) &&& 31)).toInt8.toInt32.toInt := rfl
  have e2 : (own_hi c).toInt = (c >>> ((8 : Int32) &&& 31)).toInt8.toInt32.toInt := rfl
  have l1 := c_ishl (own_lo c &&& 255) 0 0 (by decide)
  have l2 := c_ishl (own_hi c &&& 255) 8 8 (by decide)
  have r1 := rng32 ((own_lo c &&& 255) <<< ((0 : Int32) &&& 31))
  have r2 := rng32 ((own_hi c &&& 255) <<< ((8 : Int32) &&& 31))
  have v1 : ((own_lo c &&& 255) <<< ((0 : Int32) &&& 31)).toInt = c.toInt % 256 := by omega
  have v2 : ((own_hi c &&& 255) <<< ((8 : Int32) &&& 31)).toInt = c.toInt / 256 * 256 := by omega
  have o := c_or' ((own_lo c &&& 255) <<< ((0 : Int32) &&& 31)) ((own_hi c &&& 255) <<< ((8 : Int32) &&& 31)) 8 (by decide) 256 (by decide) (by omega) (by omega) (by omega)
  have r3 := rng32 (((own_lo c &&& 255) <<< ((0 : Int32) &&& 31)) ||| ((own_hi c &&& 255) <<< ((8 : Int32) &&& 31)))
  have q := c_i2c (((own_lo c &&& 255) <<< ((0 : Int32) &&& 31)) ||| ((own_hi c &&& 255) <<< ((8 : Int32) &&& 31)))
  rw [← Int32.toInt_inj]
  omega
theorem own_nc {c : Int32} (h0 : 0 ≤ c.toInt) (h1 : c.toInt < 65536) : nar .char c = c := by
  have q := c_i2c c
  rw [← Int32.toInt_inj]
  show c.toUInt32.toUInt16.toUInt32.toInt32.toInt = c.toInt
  omega
theorem own_toN {x : Int32} {i : Nat} (h : x.toInt = i) : x.toNatClampNeg = i := by have := own_in (j := x) (by omega); omega
theorem own_dbl {x : Int32} {i : Nat} (h : x.toInt = i) (hi : i < 100) : (x <<< ((1 : Int32) &&& 31)).toInt = (2 * i : Nat) := by
  have l := c_ishl x 1 1 (by decide); have r := rng32 (x <<< ((1 : Int32) &&& 31))
  omega
theorem own_up {x : Int32} {i : Nat} (h : x.toInt = i) (hi : i < 1000) : (x + 1).toInt = (i + 1 : Nat) := by
  have e := c_iadd x 1; have r := rng32 (x + 1); have z : (1 : Int32).toInt = 1 := by decide
  omega
def own_bv (c : Int32) : Value := .int c.toInt8.toInt32
def own_st (cs : List Int32) (len p off : Int32) (k : Nat) : Int32 := if len < p then 0 else if off < p then 0 else if cs.getD k 0 = 10 then 1 else if cs.getD k 0 = 13 then (if p = len then 1 else if cs.getD (k + 1) 0 = 10 then 0 else 1) else 0
theorem own_coder1 : nar .byte ((XT.ushr (1 - 1 : Int32) 31).toInt8.toInt32) = 0 := by decide
theorem own_coder2 : nar .byte ((XT.ushr (2 - 2 : Int32) 31).toInt8.toInt32) = 0 := by decide
theorem own_coder3 : nar .byte ((XT.ushr (3 - 3 : Int32) 31).toInt8.toInt32) = 0 := by decide
theorem own_coder4 : nar .byte ((XT.ushr (4 - 4 : Int32) 31).toInt8.toInt32) = 0 := by decide
theorem own_coderU1 : nar .byte ((XT.ushr (1 - 2 : Int32) 31).toInt8.toInt32) = 1 := by decide
theorem own_coderU2 : nar .byte ((XT.ushr (2 - 4 : Int32) 31).toInt8.toInt32) = 1 := by decide
theorem own_coderU3 : nar .byte ((XT.ushr (3 - 6 : Int32) 31).toInt8.toInt32) = 1 := by decide
theorem own_coderU4 : nar .byte ((XT.ushr (4 - 8 : Int32) 31).toInt8.toInt32) = 1 := by decide
theorem own_coderU5 : nar .byte ((XT.ushr (5 - 10 : Int32) 31).toInt8.toInt32) = 1 := by decide

def own_l1 (cs : List Int32) : Prop := (∀ c ∈ cs, own_rg c) ∧ cs.length ≤ 4
theorem own_l1_at {cs : List Int32} {i : Nat} (h : own_l1 cs) (hi : i < cs.length) : own_rg (cs.getD i 0) := by
  rw [List.getD_eq_getElem?_getD, List.getElem?_eq_getElem hi]; exact h.1 _ (List.getElem_mem hi)
theorem own_bv_at {cs : List Int32} {i : Nat} (hi : i < cs.length) : (cs.map own_bv)[i]? = some (.int (cs.getD i 0).toInt8.toInt32) := by
  rw [List.getElem?_map, List.getD_eq_getElem?_getD, List.getElem?_eq_getElem hi]; rfl
theorem own_b255 {c : Int32} (h : own_rg c) : (c.toInt8.toInt32 &&& 255).toUInt32.toUInt16.toUInt32.toInt32 = c := by
  unfold own_rg at h
  have m := c_mask c.toInt8.toInt32 255 8 (by decide) (by decide)
  have b := c_i2b c
  have q := c_i2c (c.toInt8.toInt32 &&& 255)
  rw [← Int32.toInt_inj]
  omega
theorem own_lenI {t : List Int32} {v : Int32} (h : v = (t.map own_bv).length.toInt32) (hl : t.length < 1000) : v.toInt = t.length := by
  rw [h, List.length_map]; exact len_toInt (by omega)
theorem own_sh0 {v : Int32} {k : Nat} (h : v.toInt = k) : (v >>> ((0 : Int32) &&& 31)).toInt = k := by
  have := c_ishr v 0 0 (by decide); omega
theorem own_len0 {n : Nat} (h : n = 0) : n.toInt32 = 0 := by subst h; rfl
theorem own_len1 {n : Nat} (h : n ≠ 0) (h2 : n < 1000) : ¬ n.toInt32 = 0 := by
  have e : n.toInt32.toInt = n := len_toInt (by omega)
  intro q; rw [q] at e; have z : (0 : Int32).toInt = 0 := rfl; omega
theorem own_uh1 : ((2 : Int32) >>> ((1 : Int32) &&& 31)) = 1 := by decide
theorem own_uh2 : ((4 : Int32) >>> ((1 : Int32) &&& 31)) = 2 := by decide
theorem own_uh3 : ((6 : Int32) >>> ((1 : Int32) &&& 31)) = 3 := by decide
theorem own_uh4 : ((8 : Int32) >>> ((1 : Int32) &&& 31)) = 4 := by decide
theorem own_uh5 : ((10 : Int32) >>> ((1 : Int32) &&& 31)) = 5 := by decide
def own_lb (cs : List Int32) (i : Nat) : Nat := if cs.getD i 0 = 13 then (if i + 1 < cs.length then (if cs.getD (i + 1) 0 = 10 then 2 else 1) else 1) else if cs.getD i 0 = 10 then 1 else 0

theorem own_eqI {x : Int32} {k : Nat} (h : x.toInt = k) (hk : k < 1000) : k.toInt32 = x := by
  rw [← Int32.toInt_inj, len_toInt (by omega), h]
theorem own_m128 : (-128 : Int32).toInt = -128 := by decide
theorem own_127 : (127 : Int32).toInt = 127 := by decide
theorem own_p128 {x : Int32} {k : Nat} (h : x.toInt = k) (hk : k < 1000) : (x + 128).toInt = (k + 128 : Nat) := by
  have e := c_iadd x 128; have r := rng32 (x + 128); have z : (128 : Int32).toInt = 128 := by decide
  omega
def own_max (a b : Int32) : Int32 := if a < b then b else a

def own_iv (n : Nat) : Value := .int n.toInt32
def own_go (cs : List Int32) : Nat → Nat → List Nat → List Nat
  | 0, _, acc => acc
  | n + 1, i, acc => if i < cs.length then (if 0 < own_lb cs i then own_go cs n (i + own_lb cs i) (acc ++ [i + own_lb cs i]) else own_go cs n (i + 1) acc) else acc
theorem own_lb_le {cs : List Int32} {i : Nat} (h : i < cs.length) : i + own_lb cs i ≤ cs.length := by
  unfold own_lb
  repeat' split
  all_goals omega
def own_es (Z : State) (es : List Value) (xs : List Nat) : Prop := es.length = 10 ∧ ∀ j, j < xs.length → ∃ x : Nat, es[j]? = some (.ref x) ∧ Exa Z Z.heap x "java/lang/Integer" ∧ Fld Z Z.heap x "java/lang/Integer" "value" "I" (.int (xs.getD j 0).toInt32)
theorem own_es_add {Z : State} {es : List Value} {xs : List Nat} {x k : Nat} {v : Int32} (h : own_es Z es xs) (hl : xs.length < 10) (E : Exa Z Z.heap x "java/lang/Integer") (F : Fld Z Z.heap x "java/lang/Integer" "value" "I" (.int v)) (e : k.toInt32 = v) : own_es Z (es.set xs.length (.ref x)) (xs ++ [k]) := by
  refine ⟨by simpa using h.1, fun j hj => ?_⟩
  simp only [List.length_append, List.length_cons, List.length_nil] at hj
  by_cases q : j = xs.length
  · subst q
    refine ⟨x, by rw [List.getElem?_set_self (by rw [h.1]; exact hl)], E, ?_⟩
    rw [List.getD_eq_getElem?_getD, List.getElem?_append_right (Nat.le_refl _)]
    simpa [e] using F
  · obtain ⟨y, h1, h2, h3⟩ := h.2 j (by omega)
    refine ⟨y, by rw [List.getElem?_set_ne (fun z => q z.symm)]; exact h1, h2, ?_⟩
    rw [List.getD_eq_getElem?_getD, List.getElem?_append_left (by omega), ← List.getD_eq_getElem?_getD]; exact h3
theorem own_es_one {Z : State} {x : Nat} (E : Exa Z Z.heap x "java/lang/Integer") (F : Fld Z Z.heap x "java/lang/Integer" "value" "I" (.int 0)) : own_es Z [.ref x, .null, .null, .null, .null, .null, .null, .null, .null, .null] [0] := by
  refine ⟨rfl, fun j hj => ?_⟩
  match j, hj with
  | 0, _ => exact ⟨x, rfl, E, F⟩
theorem own_outEq {vs : List Value} {xs : List Nat} (hl : vs.length = xs.length) (h : ∀ q, q < xs.length → vs[q]? = some (own_iv (xs.getD q 0))) : vs = xs.map own_iv := by
  refine List.ext_getElem? fun q => ?_
  by_cases hq : q < xs.length
  · rw [h q hq, List.getElem?_map, List.getD_eq_getElem?_getD, List.getElem?_eq_getElem hq]; rfl
  · rw [List.getElem?_eq_none (by omega), List.getElem?_eq_none (by simp; omega)]

def own_ls (cs : List Int32) : List Nat := own_go cs cs.length 0 [0]
def own_cnt : List Nat → Int → Int
  | [], _ => 0
  | x :: r, o => (if (x : Int) ≤ o then 1 else 0) + own_cnt r o
theorem own_bom {c : Int32} (h : own_rg c) : ¬ c = 65279 := by
  unfold own_rg at h
  have z : (65279 : Int32).toInt = 65279 := by decide
  intro q; rw [q] at h; omega
theorem own_l1_1 {c0 : Int32} (q0 : own_rg c0) : own_l1 [c0] := ⟨by simp only [List.mem_cons, List.not_mem_nil, or_false]; rintro c (rfl) <;> assumption, by simp only [List.length_cons, List.length_nil]; decide⟩
theorem own_l1_2 {c0 c1 : Int32} (q0 : own_rg c0) (q1 : own_rg c1) : own_l1 [c0, c1] := ⟨by simp only [List.mem_cons, List.not_mem_nil, or_false]; rintro c (rfl | rfl) <;> assumption, by simp only [List.length_cons, List.length_nil]; decide⟩
theorem own_l1_3 {c0 c1 c2 : Int32} (q0 : own_rg c0) (q1 : own_rg c1) (q2 : own_rg c2) : own_l1 [c0, c1, c2] := ⟨by simp only [List.mem_cons, List.not_mem_nil, or_false]; rintro c (rfl | rfl | rfl) <;> assumption, by simp only [List.length_cons, List.length_nil]; decide⟩
theorem own_l1_4 {c0 c1 c2 c3 : Int32} (q0 : own_rg c0) (q1 : own_rg c1) (q2 : own_rg c2) (q3 : own_rg c3) : own_l1 [c0, c1, c2, c3] := ⟨by simp only [List.mem_cons, List.not_mem_nil, or_false]; rintro c (rfl | rfl | rfl | rfl) <;> assumption, by simp only [List.length_cons, List.length_nil]; decide⟩

theorem own_ew {Z : State} {a0 : Array Value} (hw : ∀ d ∈ tables_1, d.before a0 Z = true) : EW Z a0 own_EL :=
  EW.cons (hw _ (List.mem_of_getElem? (i := 292) rfl)) (by simp) (EW.cons (hw _ (List.mem_of_getElem? (i := 270) rfl)) (by simp) EW.nil)
theorem own_strA {Z : State} {a0 : Array Value} (hw : ∀ d ∈ tables_1, d.before a0 Z = true) : ∀ a ∈ Bundle.stringAtoms, a.before a0 Z = true := by
  intro a ha
  simp only [Bundle.stringAtoms, List.mem_cons, List.not_mem_nil, or_false] at ha
  rcases ha with rfl | rfl | rfl | rfl | rfl | rfl | rfl
  · exact hw _ (List.mem_of_getElem? (i := 9) rfl)
  · exact hw _ (List.mem_of_getElem? (i := 10) rfl)
  · exact hw _ (List.mem_of_getElem? (i := 11) rfl)
  · exact hw _ (List.mem_of_getElem? (i := 12) rfl)
  · exact hw _ (List.mem_of_getElem? (i := 13) rfl)
  · exact hw _ (List.mem_of_getElem? (i := 14) rfl)
  · exact hw _ (List.mem_of_getElem? (i := 15) rfl)
theorem own_l1_0 : own_l1 [] := ⟨by simp, by decide⟩
def own_X (cs : List Int32) (len p : Int32) (k : Nat) : Int32 := if cs.getD k 0 = 10 then 1 else if cs.getD k 0 = 13 then (if p = len then 1 else if cs.getD (k + 1) 0 = 10 then 0 else 1) else 0
theorem own_st_i (cs : List Int32) (len p off : Int32) (k : Nat) : (own_st cs len p off k).toInt = if len < p then 0 else if p.toInt ≤ off.toInt then (own_X cs len p k).toInt else 0 := by
  unfold own_st own_X
  have z0 : (0 : Int32).toInt = 0 := rfl
  by_cases h1 : len < p
  · rw [if_pos h1, if_pos h1]; exact z0
  rw [if_neg h1, if_neg h1]
  by_cases h2 : off < p
  · rw [if_pos h2, if_neg (show ¬ p.toInt ≤ off.toInt by rw [Int32.lt_iff_toInt_lt] at h2; omega)]; exact z0
  · rw [if_neg h2, if_pos (show p.toInt ≤ off.toInt by rw [Int32.lt_iff_toInt_lt] at h2; omega)]
def own_ok (xs : List Nat) : Prop := 1 ≤ xs.length ∧ xs.length ≤ 5 ∧ (∀ x ∈ xs, x ≤ 4) ∧ xs.Pairwise (· < ·)
theorem own_k3 (c : Int32) : c = 10 ∨ c = 13 ∨ (¬ c = 10 ∧ ¬ c = 13) := by
  by_cases h : c = 10
  · exact Or.inl h
  by_cases h2 : c = 13
  · exact Or.inr (Or.inl h2)
  exact Or.inr (Or.inr ⟨h, h2⟩)
set_option maxHeartbeats 2000000 in
theorem own_law0 (c0 c1 c2 c3 off : Int32) : own_ok (own_ls []) ∧ own_cnt (own_ls []).tail off.toInt = (((own_st [c0, c1, c2, c3] 0 1 off 0).toInt + (own_st [c0, c1, c2, c3] 0 2 off 1).toInt) + (own_st [c0, c1, c2, c3] 0 3 off 2).toInt) + (own_st [c0, c1, c2, c3] 0 4 off 3).toInt := by
  simp only [own_st_i]
  all_goals simp [own_ls, own_go, own_lb, own_X, own_cnt, own_ok, Int.add_assoc, *]
set_option maxHeartbeats 2000000 in
theorem own_law1 (c0 c1 c2 c3 off : Int32) : own_ok (own_ls [c0]) ∧ own_cnt (own_ls [c0]).tail off.toInt = (((own_st [c0, c1, c2, c3] 1 1 off 0).toInt + (own_st [c0, c1, c2, c3] 1 2 off 1).toInt) + (own_st [c0, c1, c2, c3] 1 3 off 2).toInt) + (own_st [c0, c1, c2, c3] 1 4 off 3).toInt := by
  simp only [own_st_i]
  rcases own_k3 c0 with rfl | rfl | ⟨u0, v0⟩
  all_goals simp [own_ls, own_go, own_lb, own_X, own_cnt, own_ok, Int.add_assoc, *]
set_option maxHeartbeats 2000000 in
theorem own_law2 (c0 c1 c2 c3 off : Int32) : own_ok (own_ls [c0, c1]) ∧ own_cnt (own_ls [c0, c1]).tail off.toInt = (((own_st [c0, c1, c2, c3] 2 1 off 0).toInt + (own_st [c0, c1, c2, c3] 2 2 off 1).toInt) + (own_st [c0, c1, c2, c3] 2 3 off 2).toInt) + (own_st [c0, c1, c2, c3] 2 4 off 3).toInt := by
  simp only [own_st_i]
  rcases own_k3 c0 with rfl | rfl | ⟨u0, v0⟩
  all_goals rcases own_k3 c1 with rfl | rfl | ⟨u1, v1⟩
  all_goals simp [own_ls, own_go, own_lb, own_X, own_cnt, own_ok, Int.add_assoc, *]
set_option maxHeartbeats 2000000 in
theorem own_law3 (c0 c1 c2 c3 off : Int32) : own_ok (own_ls [c0, c1, c2]) ∧ own_cnt (own_ls [c0, c1, c2]).tail off.toInt = (((own_st [c0, c1, c2, c3] 3 1 off 0).toInt + (own_st [c0, c1, c2, c3] 3 2 off 1).toInt) + (own_st [c0, c1, c2, c3] 3 3 off 2).toInt) + (own_st [c0, c1, c2, c3] 3 4 off 3).toInt := by
  simp only [own_st_i]
  rcases own_k3 c0 with rfl | rfl | ⟨u0, v0⟩
  all_goals rcases own_k3 c1 with rfl | rfl | ⟨u1, v1⟩
  all_goals rcases own_k3 c2 with rfl | rfl | ⟨u2, v2⟩
  all_goals simp [own_ls, own_go, own_lb, own_X, own_cnt, own_ok, Int.add_assoc, *]
set_option maxHeartbeats 2000000 in
theorem own_law4 (c0 c1 c2 c3 off : Int32) : own_ok (own_ls [c0, c1, c2, c3]) ∧ own_cnt (own_ls [c0, c1, c2, c3]).tail off.toInt = (((own_st [c0, c1, c2, c3] 4 1 off 0).toInt + (own_st [c0, c1, c2, c3] 4 2 off 1).toInt) + (own_st [c0, c1, c2, c3] 4 3 off 2).toInt) + (own_st [c0, c1, c2, c3] 4 4 off 3).toInt := by
  simp only [own_st_i]
  rcases own_k3 c0 with rfl | rfl | ⟨u0, v0⟩
  all_goals rcases own_k3 c1 with rfl | rfl | ⟨u1, v1⟩
  all_goals rcases own_k3 c2 with rfl | rfl | ⟨u2, v2⟩
  all_goals rcases own_k3 c3 with rfl | rfl | ⟨u3, v3⟩
  all_goals simp [own_ls, own_go, own_lb, own_X, own_cnt, own_ok, Int.add_assoc, *]
section OwnT
variable {p : Program} {l : Launch} {e : Env} {R : Room} {s : State} {m : MethodId} {args : Array Value} {below : List Frame} {meth : Method} {c : Code} {T : State} {locs : List Loc} {cells slots : Nat} {Z : State} {a0 : Array Value} {h : Heap} {own text : String} {index : Nat} {Q : Option Value → Heap → List Loc → Prop}
def ConT (l : Launch) (Z : State) (y : MethodName) (bytes : ByteArray) (maxL : Nat) (ret : Option FieldType) (rm : Room) (as' : Array Value) (h0 : Heap) (Q : Option Value → Heap → List Loc → Prop) : Prop :=
  ∀ ws : List Jvm.Cond, MetFree l y (head1 (Jvm.Cond.code y bytes maxL ret :: ws) rm) (fun a U => a = as' ∧ Z.Warmed39 U.vm ∧ U.heap = h0 ∧ CHv Z own_EL U.vm h0) (fun _ _ _ _ _ => True) (fun _ U o U' => ∃ v L, o = .returned v ∧ Q v U'.heap L ∧ ReturnedEndW U o U' L rm.cells rm.slots)
theorem ConT.of {y : MethodName} {bytes : ByteArray} {maxL : Nat} {ret : Option FieldType} {rm : Room} {as' : Array Value} {h0 : Heap} (hp : plainFor y = true)
    (body : ∀ (p : Program) (e : Env) (s : State) (m : MethodId) (below : List Frame) (meth : Method) (c : Code) (s₁ : State), Stand p l e rm s m as' below meth c s₁ [] 0 0 → p.tables.exec = Jvm.exec → c.code = bytes → c.maxLocals = maxL → Z.Warmed39 s.vm → s.vm.findClass y.cls = some m.cls → meth.name = y.name → meth.sig.returnType = ret → meth.locks = false → s₁.heap = h0 → CHv Z own_EL s.vm h0 →
      GoH Z h0 p e below s rm.cells rm.slots Q (s₁.setTop (entryFrame m as' maxL))) : ConT l Z y bytes maxL ret rm as' h0 Q := by
  intro ws
  refine MetFree.of_bodySF hp hisR ?_
  intro p e s m args below meth c s₁ Bd hml hP hK
  obtain ⟨rfl, hZ, hh, H⟩ := hP
  obtain ⟨U, o, h1, h2, h3, v, L, h4, h5, h6, -⟩ := body p e s m below meth c s₁ (Stand.of_body Bd) Bd.exec Bd.bytes hml hZ (findClass_of_methodNamed Bd.named) (name_of_methodNamed Bd.named Bd.method).1 Bd.returns Bd.notSynchronized (by rw [← hh, Bd.state]; rfl) H
  exact ⟨U, o, h1, h2, h3, v, L, h4, h5, h6⟩
theorem own_ldcO (X : Stand p l e R s m args below meth c T locs cells slots) (hx : p.tables.exec = Jvm.exec) (hZ : Z.Warmed39 s.vm) (hown : s.vm.findClass own = some m.cls) (w : (Jvm.Cond.stringLink own index text).before a0 Z = true) (wS : ∀ a ∈ Bundle.stringAtoms, a.before a0 Z = true) (eT : T.heap = h)
    (hEL : EW Z a0 own_EL) (H : CHv Z own_EL s.vm h) {g : JFrame} (hg : g.method = m) (hd : decode c.code g.pc = .ok (.ldc index, 2)) {n : Nat} (hn : 4 * text.toList.length ≤ n) (hbig : n ≤ 536870912) (hc : cells + 2 ≤ R.cells) (hl : slots + (n + 4) ≤ R.slots) :
    ∃ (a : Nat) (T' : State) (h' : Heap), Stand p l e R (s.setVm T'.vm) m args below meth c T' locs (cells + 2) (slots + (n + 4)) ∧ T'.heap = h' ∧ Ext h h' ∧ s.Since T'.vm h'.size ∧ Z.Warmed39 (s.setVm T'.vm).vm ∧ (s.setVm T'.vm).vm.findClass own = some m.cls ∧ CHr Z own_EL s.vm h T'.vm h' ∧
      ∀ target, Steps p.tables e below (T'.setTop { g with pc := g.pc + 2, stack := .ref a :: g.stack }) target → Steps p.tables e below (T.setTop g) target := by
  obtain ⟨a, T', h', k1, X', e', E, hS, hk, hW, hf, hC, -, st⟩ := ldcOH (s := s) (vm0 := s.vm) (text := text) X hx hZ hown w wS eT ((State.WarmedH.refl s).since 0) (Nat.zero_le _) hEL H hg hd hn hbig hc hl
  exact ⟨a, T', h', X', e', E, hS.trans ((State.WarmedH.refl (s.setVm T'.vm)).since _) hk, hW, hf, hC, st⟩
theorem own_arS {EL : List (String × Nat)} {vm : Vm} {x : Nat} {ty : FieldType} {vs : List Value} (hal : Z.vm.Alike vm) (F : Ary Z h x ty vs) (ht : ty ≠ .byte) : Safe Z EL vm h x := by
  obtain ⟨c, A, -⟩ := F
  exact Safe.arr hal A ht
end OwnT
theorem own_st_01 (cs : List Int32) (len p off : Int32) (k : Nat) : 0 ≤ (own_st cs len p off k).toInt ∧ (own_st cs len p off k).toInt ≤ 1 := by
  unfold own_st
  repeat' split
  all_goals decide
theorem own_fin {r a b c d : Int32} {k : Int} (hr : r.toInt = 1 + k) (hk : k = ((a.toInt + b.toInt) + c.toInt) + d.toInt) (ha : 0 ≤ a.toInt ∧ a.toInt ≤ 1) (hb : 0 ≤ b.toInt ∧ b.toInt ≤ 1) (hc : 0 ≤ c.toInt ∧ c.toInt ≤ 1) (hd : 0 ≤ d.toInt ∧ d.toInt ≤ 1) : r = ((((1 : Int32) + a) + b) + c) + d := by
  have z : (1 : Int32).toInt = 1 := rfl
  have e1 := c_iadd (1 : Int32) a; have r1 := rng32 ((1 : Int32) + a)
  have e2 := c_iadd ((1 : Int32) + a) b; have r2 := rng32 ((1 : Int32) + a + b)
  have e3 := c_iadd ((1 : Int32) + a + b) c; have r3 := rng32 ((1 : Int32) + a + b + c)
  have e4 := c_iadd ((1 : Int32) + a + b + c) d; have r4 := rng32 ((1 : Int32) + a + b + c + d)
  rw [← Int32.toInt_inj]
  omega
theorem own_mod5 {x v : Int32} (h : v = (x &&& 7) % 5) : v = 0 ∨ v = 1 ∨ v = 2 ∨ v = 3 ∨ v = 4 := by
  have q := c_mask x 7 3 (by decide) (by decide)
  obtain ⟨y, hy⟩ : ∃ y, y = x &&& 7 := ⟨_, rfl⟩
  rw [← hy] at h q
  have k : y = 0 ∨ y = 1 ∨ y = 2 ∨ y = 3 ∨ y = 4 ∨ y = 5 ∨ y = 6 ∨ y = 7 := by
    simp only [← Int32.toInt_inj]
    have z0 : (0 : Int32).toInt = 0 := rfl
    have z1 : (1 : Int32).toInt = 1 := rfl
    have z2 : (2 : Int32).toInt = 2 := rfl
    have z3 : (3 : Int32).toInt = 3 := rfl
    have z4 : (4 : Int32).toInt = 4 := rfl
    have z5 : (5 : Int32).toInt = 5 := rfl
    have z6 : (6 : Int32).toInt = 6 := rfl
    have z7 : (7 : Int32).toInt = 7 := rfl
    omega
  rw [h]
  clear h hy q
  rcases k with rfl | rfl | rfl | rfl | rfl | rfl | rfl | rfl <;> decide
theorem own_ti {x : Nat} (h : x ≤ 4) : x.toInt32.toInt = x := len_toInt (by omega)
theorem own_lenE {args : Array Value} {s : State} {t : Term} {k : Int32} {a : Nat} {c : Cell} {ty : FieldType} (h : (Jvm.Cond.eq (.length t) (.int k)).value args s none s [] = some true) (ev : t.eval args s none [] s = some (.ref a)) (A : Arr s s.heap a c ty) : c.slots.size < 2 ^ 31 ∧ c.slots.size.toInt32 = k := by
  obtain ⟨x, y, hx, hy, k1, k2⟩ := cmp_v (Or.inl h)
  have e1 : s.arrayAt? a = some c := A.fin (Vm.Alike.refl _)
  have hx2 := hx
  simp [Term.eval, ev, e1] at hx2
  obtain ⟨h3, rfl⟩ := hx2
  exact ⟨by omega, gotT (Cond.eq_ints hx (Term.int_eval k)) h⟩
theorem own_szE {n k : Nat} (q : n < 2 ^ 31) (e : n.toInt32 = k.toInt32) (hk : k < 2 ^ 31) : n = k := by
  have h := congrArg Int32.toInt e
  rw [len_toInt q, len_toInt hk] at h
  omega
theorem own_ivK {j : Int32} {k : Nat} (h : j = (k + 128 : Nat).toInt32) (hk : k < 5) : ¬ j < 0 ∧ j.toNatClampNeg = k + 128 ∧ j - 128 = k.toInt32 := by
  subst h
  match k, hk with
  | 0, _ => decide
  | 1, _ => decide
  | 2, _ => decide
  | 3, _ => decide
  | 4, _ => decide
  | n + 5, h => exact absurd h (by omega)

abbrev vI (x : Int32) : Slot := .val (.int x)
abbrev vR (a : Addr) : Slot := .val (.ref a)
abbrev vU : Slot := .unset
theorem hq {a0 : Array Value} {Z : State} (hw : ∀ d ∈ tables_1, d.before a0 Z = true) (i : Nat) {d : Jvm.Cond} (h : tables_1[i]? = some d) : d.before a0 Z = true := hw _ (List.mem_of_getElem? h)
theorem hd {c : Code} {b : ByteArray} {L : List (Nat × Instr × Nat)} (h : c.code = b) (hL : ∀ q ∈ L, decode b q.1 = .ok q.2) (k : Nat) {pc : Nat} {r : Instr × Nat} (hk : L[k]? = some (pc, r)) : decode c.code pc = .ok r := by
  rw [h]; exact hL (pc, r) (List.mem_of_getElem? hk)
theorem own_n1 {a b : Nat} (h : a < b ∨ b < a) : a ∉ [b] := by simp only [List.mem_cons, List.not_mem_nil, or_false]; omega
theorem own_o1 {n0 a : Nat} (h : n0 ≤ a) : ∀ x ∈ [a], n0 ≤ x := by intro x hx; simp only [List.mem_cons, List.not_mem_nil, or_false] at hx; subst hx; exact h
theorem Con.o {l : Launch} {Z : State} {Q : Option Value → Heap → List Loc → Prop} {C n d : String} {bytes : ByteArray} {maxL : Nat} {ret : Option FieldType} {rm : Room} {as' : Array Value} {h0 : Heap} {Ld : List (Nat × Instr × Nat)} {L : Array Slot} (n0 : Nat) (hD : ∀ q ∈ Ld, decode bytes q.1 = .ok q.2) (hp : plainFor ⟨C, n, d⟩ = true) (hL : argsToLocals as' maxL = L)
    (body : ∀ (p : Program) (e : Env) (s : State) (m : MethodId) (below : List Frame) (meth : Method) (c : Code) (s₁ : State), Stand p l e rm s m as' below meth c s₁ [] 0 0 → p.tables.exec = Jvm.exec → c.code = bytes → c.maxLocals = maxL → Z.Warmed39 s.vm → s.vm.findClass C = some m.cls → meth.name = n → meth.sig.returnType = ret → meth.locks = false → s₁.heap = h0 → Fr n0 [] → (∀ (k : Nat) {pc : Nat} {r : Instr × Nat}, Ld[k]? = some (pc, r) → decode c.code pc = .ok r) →
      Go p e below s rm.cells rm.slots Q (s₁.setTop (mkF m 0 L []))) : Con l Z ⟨C, n, d⟩ bytes maxL ret rm as' h0 Q :=
  Con.of hp fun p e s m below meth c s₁ X hx hby hml hZ hown hnm hret hlk e0 => Go.cast (show entryFrame m as' maxL = mkF m 0 L [] by rw [← hL]; rfl) (body p e s m below meth c s₁ X hx hby hml hZ hown hnm hret hlk e0 (Fr.nil n0) fun k _ _ hk => hd hby hD k hk)
theorem ConH.o {l : Launch} {Z : State} {Q : Option Value → Heap → List Loc → Prop} {C n d : String} {bytes : ByteArray} {maxL : Nat} {ret : Option FieldType} {rm : Room} {as' : Array Value} {h0 : Heap} {Ld : List (Nat × Instr × Nat)} {L : Array Slot} (n0 : Nat) (hD : ∀ q ∈ Ld, decode bytes q.1 = .ok q.2) (hp : plainFor ⟨C, n, d⟩ = true) (hL : argsToLocals as' maxL = L)
    (body : ∀ (p : Program) (e : Env) (s : State) (m : MethodId) (below : List Frame) (meth : Method) (c : Code) (s₁ : State), Stand p l e rm s m as' below meth c s₁ [] 0 0 → p.tables.exec = Jvm.exec → c.code = bytes → c.maxLocals = maxL → Z.Warmed39 s.vm → s.vm.findClass C = some m.cls → meth.name = n → meth.sig.returnType = ret → meth.locks = false → s₁.heap = h0 → CHv Z own_EL s.vm h0 → Fr n0 [] → (∀ (k : Nat) {pc : Nat} {r : Instr × Nat}, Ld[k]? = some (pc, r) → decode c.code pc = .ok r) →
      GoH Z h0 p e below s rm.cells rm.slots Q (s₁.setTop (mkF m 0 L []))) : ConH l Z ⟨C, n, d⟩ bytes maxL ret rm as' h0 Q :=
  ConH.of hp fun p e s m below meth c s₁ X hx hby hml hZ hown hnm hret hlk e0 H0 => GoH.cast (show entryFrame m as' maxL = mkF m 0 L [] by rw [← hL]; rfl) (body p e s m below meth c s₁ X hx hby hml hZ hown hnm hret hlk e0 H0 (Fr.nil n0) fun k _ _ hk => hd hby hD k hk)
theorem own_t1 {n x : Nat} {ws : List Nat} (h : x ∈ ws ∨ n ≤ x) : ∀ y ∈ [x], y ∈ ws ∨ n ≤ y := by intro y hy; simp only [List.mem_cons, List.not_mem_nil, or_false] at hy; subst hy; exact h
section Wrap
variable {p : Program} {l : Launch} {e : Env} {R : Room} {s : State} {m : MethodId} {args : Array Value} {below : List Frame} {meth : Method} {c : Code} {T : State} {locs : List Loc} {cells slots : Nat} {Z : State} {a0 : Array Value} {h : Heap} {Q : Option Value → Heap → List Loc → Prop}
theorem cS (X : Stand p l e R s m args below meth c T locs cells slots) (hx : p.tables.exec = Jvm.exec) (hZ : Z.Warmed39 s.vm) {own : String} {index : Nat} {y : MethodName} {bytes : ByteArray} {maxL : Nat} {ret : Option FieldType} {rm : Room} (hown : s.vm.findClass own = some m.cls) (w1 : (Jvm.Cond.methodLink own index y).before a0 Z = true) (w2 : (Jvm.Cond.static y).before a0 Z = true) (w3 : (Jvm.Cond.initialized y.cls).before a0 Z = true) (w4 : (Jvm.Cond.code y bytes maxL ret).before a0 Z = true) (eT : T.heap = h) {kL : Nat} (hml : c.maxLocals = kL) {argsL rest : List Value} (hC : Con l Z y bytes maxL ret rm argsL.toArray h Q) {g : JFrame} (hg : g.method = m) (hsz : g.locals.size = kL) (hlen : ∀ sig, parseMethodDescriptor y.desc = some sig → argsL.length = sig.parameters.length) (hst : g.stack = argsL.reverse ++ rest) (hd : decode c.code g.pc = .ok (.invokestatic index, 3)) {W : Nat} (hm : g.monitorRoom = 0) (hW : (rest.map fun v => v.category).sum = W) (hr : (y.cls ≠ "java/lang/invoke/MethodHandle" ∧ y.cls ≠ "java/lang/invoke/VarHandle") ∧ rm.frames + 1 ≤ R.frames ∧ W + (maxL + 11) + rm.locals ≤ R.locals ∧ cells + rm.cells ≤ R.cells ∧ slots + rm.slots ≤ R.slots) :
    ∃ v T' h' L, Stand p l e R s m args below meth c T' (locs ++ L) (cells + rm.cells) (slots + rm.slots) ∧ T'.heap = h' ∧ Q v h' L ∧ ∀ target, Steps p.tables e below (T'.setTop { g with pc := g.pc + 3, stack := v.toList ++ rest }) target → Steps p.tables e below (T.setTop g) target :=
  own_callS X hx hZ hown w1 w2 w3 w4 hr.1 eT hC hg (hsz.trans hml.symm) hlen hst hd (W := W) (by rw [hm, hW]; omega) hr.2.1 hr.2.2.1 hr.2.2.2.1 hr.2.2.2.2
theorem cN (X : Stand p l e R s m args below meth c T locs cells slots) (hx : p.tables.exec = Jvm.exec) (hZ : Z.Warmed39 s.vm) {own : String} {index : Nat} {y : MethodName} {bytes : ByteArray} {maxL : Nat} {rm : Room} (hown : s.vm.findClass own = some m.cls) (w1 : (Jvm.Cond.methodLink own index y).before a0 Z = true) (w2 : (Jvm.Cond.instanceMethod y).before a0 Z = true) (w3 : (Jvm.Cond.initialized y.cls).before a0 Z = true) (w4 : (Jvm.Cond.code y bytes maxL none).before a0 Z = true) (eT : T.heap = h) {a : Addr} {kL : Nat} (hy1 : y.name = "<init>") (hml : c.maxLocals = kL) {argsL rest : List Value} (hC : Con l Z y bytes maxL none rm (.ref a :: argsL).toArray h Q) {g : JFrame} (hg : g.method = m) (hsz : g.locals.size = kL) (hlen : ∀ sig, parseMethodDescriptor y.desc = some sig → argsL.length = sig.parameters.length) (hst : g.stack = argsL.reverse ++ .ref a :: rest) (hd : decode c.code g.pc = .ok (.invokespecial index, 3)) {W : Nat} (hm : g.monitorRoom = 0) (hW : (rest.map fun v => v.category).sum = W) (hr : (y.cls ≠ "java/lang/invoke/MethodHandle" ∧ y.cls ≠ "java/lang/invoke/VarHandle") ∧ rm.frames + 1 ≤ R.frames ∧ W + (maxL + 11) + rm.locals ≤ R.locals ∧ cells + rm.cells ≤ R.cells ∧ slots + rm.slots ≤ R.slots) :
    ∃ v T' h' L, Stand p l e R s m args below meth c T' (locs ++ L) (cells + rm.cells) (slots + rm.slots) ∧ T'.heap = h' ∧ Q v h' L ∧ ∀ target, Steps p.tables e below (T'.setTop { g with pc := g.pc + 3, stack := v.toList ++ rest }) target → Steps p.tables e below (T.setTop g) target :=
  own_callN X hx hZ hy1 hown w1 w2 w3 w4 hr.1 eT hC hg (hsz.trans hml.symm) hlen hst hd (W := W) (by rw [hm, hW]; omega) hr.2.1 hr.2.2.1 hr.2.2.2.1 hr.2.2.2.2
theorem cV (X : Stand p l e R s m args below meth c T locs cells slots) (hx : p.tables.exec = Jvm.exec) (hZ : Z.Warmed39 s.vm) {own C : String} {index : Nat} {y z : MethodName} {bytes : ByteArray} {maxL : Nat} {ret : Option FieldType} {rm : Room} (hown : s.vm.findClass own = some m.cls) (w1 : (Jvm.Cond.methodLink own index y).before a0 Z = true) (w2 : (Jvm.Cond.declares y).before a0 Z = true) (w5 : (Jvm.Cond.selects y.cls y y).before a0 Z = true) (w6 : (Jvm.Cond.selects C y z).before a0 Z = true) (w7 : (Jvm.Cond.instanceMethod z).before a0 Z = true) (w3 : (Jvm.Cond.initialized z.cls).before a0 Z = true) (w4 : (Jvm.Cond.code z bytes maxL ret).before a0 Z = true) (eT : T.heap = h) {a : Addr} (E : Exa Z h a C) {kL : Nat} (hml : c.maxLocals = kL) {argsL rest : List Value} (hC : Con l Z z bytes maxL ret rm (.ref a :: argsL).toArray h Q) {g : JFrame} (hg : g.method = m) (hsz : g.locals.size = kL) (hlen : ∀ sig, parseMethodDescriptor y.desc = some sig → argsL.length = sig.parameters.length) (hst : g.stack = argsL.reverse ++ .ref a :: rest) (hd : decode c.code g.pc = .ok (.invokevirtual index, 3)) {W : Nat} (hm : g.monitorRoom = 0) (hW : (rest.map fun v => v.category).sum = W) (hr : (y.cls ≠ "java/lang/invoke/MethodHandle" ∧ y.cls ≠ "java/lang/invoke/VarHandle") ∧ rm.frames + 1 ≤ R.frames ∧ W + (maxL + 11) + rm.locals ≤ R.locals ∧ cells + rm.cells ≤ R.cells ∧ slots + rm.slots ≤ R.slots) :
    ∃ v T' h' L, Stand p l e R s m args below meth c T' (locs ++ L) (cells + rm.cells) (slots + rm.slots) ∧ T'.heap = h' ∧ Q v h' L ∧ ∀ target, Steps p.tables e below (T'.setTop { g with pc := g.pc + 3, stack := v.toList ++ rest }) target → Steps p.tables e below (T.setTop g) target :=
  own_callV X hx hZ hown w1 w2 w5 w6 w7 w3 w4 hr.1 eT E hC hg (hsz.trans hml.symm) hlen hst hd (W := W) (by rw [hm, hW]; omega) hr.2.1 hr.2.2.1 hr.2.2.2.1 hr.2.2.2.2
theorem cP (X : Stand p l e R s m args below meth c T locs cells slots) (hx : p.tables.exec = Jvm.exec) (hZ : Z.Warmed39 s.vm) {own C : String} {index : Nat} {y : MethodName} {bytes : ByteArray} {maxL : Nat} {ret : Option FieldType} {rm : Room} (hown : s.vm.findClass own = some m.cls) (w1 : (Jvm.Cond.methodLink own index y).before a0 Z = true) (w2 : (Jvm.Cond.instanceMethod y).before a0 Z = true) (w5 : (Jvm.Cond.selects y.cls y y).before a0 Z = true) (w6 : (Jvm.Cond.privateMethod y).before a0 Z = true) (w3 : (Jvm.Cond.initialized y.cls).before a0 Z = true) (w4 : (Jvm.Cond.code y bytes maxL ret).before a0 Z = true) (eT : T.heap = h) {a : Addr} (E : Exa Z h a C) {kL : Nat} (hml : c.maxLocals = kL) {argsL rest : List Value} (hC : Con l Z y bytes maxL ret rm (.ref a :: argsL).toArray h Q) {g : JFrame} (hg : g.method = m) (hsz : g.locals.size = kL) (hlen : ∀ sig, parseMethodDescriptor y.desc = some sig → argsL.length = sig.parameters.length) (hst : g.stack = argsL.reverse ++ .ref a :: rest) (hd : decode c.code g.pc = .ok (.invokevirtual index, 3)) {W : Nat} (hm : g.monitorRoom = 0) (hW : (rest.map fun v => v.category).sum = W) (hr : (y.cls ≠ "java/lang/invoke/MethodHandle" ∧ y.cls ≠ "java/lang/invoke/VarHandle") ∧ rm.frames + 1 ≤ R.frames ∧ W + (maxL + 11) + rm.locals ≤ R.locals ∧ cells + rm.cells ≤ R.cells ∧ slots + rm.slots ≤ R.slots) :
    ∃ v T' h' L, Stand p l e R s m args below meth c T' (locs ++ L) (cells + rm.cells) (slots + rm.slots) ∧ T'.heap = h' ∧ Q v h' L ∧ ∀ target, Steps p.tables e below (T'.setTop { g with pc := g.pc + 3, stack := v.toList ++ rest }) target → Steps p.tables e below (T.setTop g) target :=
  own_callP X hx hZ hown w1 w2 w5 w6 w3 w4 hr.1 eT E hC hg (hsz.trans hml.symm) hlen hst hd (W := W) (by rw [hm, hW]; omega) hr.2.1 hr.2.2.1 hr.2.2.2.1 hr.2.2.2.2
theorem cSH (X : Stand p l e R s m args below meth c T locs cells slots) (hx : p.tables.exec = Jvm.exec) (hZ : Z.Warmed39 s.vm) {own : String} {index : Nat} {y : MethodName} {bytes : ByteArray} {maxL : Nat} {ret : Option FieldType} {rm : Room} (hown : s.vm.findClass own = some m.cls) (w1 : (Jvm.Cond.methodLink own index y).before a0 Z = true) (w2 : (Jvm.Cond.static y).before a0 Z = true) (w3 : (Jvm.Cond.initialized y.cls).before a0 Z = true) (w4 : (Jvm.Cond.code y bytes maxL ret).before a0 Z = true) (eT : T.heap = h) {kL : Nat} (hml : c.maxLocals = kL) {argsL rest : List Value} (hC : ConH l Z y bytes maxL ret rm argsL.toArray h Q) {g : JFrame} (hg : g.method = m) (hsz : g.locals.size = kL) (hlen : ∀ sig, parseMethodDescriptor y.desc = some sig → argsL.length = sig.parameters.length) (hst : g.stack = argsL.reverse ++ rest) (hd : decode c.code g.pc = .ok (.invokestatic index, 3)) {W : Nat} (hm : g.monitorRoom = 0) (hW : (rest.map fun v => v.category).sum = W) (hr : (y.cls ≠ "java/lang/invoke/MethodHandle" ∧ y.cls ≠ "java/lang/invoke/VarHandle") ∧ rm.frames + 1 ≤ R.frames ∧ W + (maxL + 11) + rm.locals ≤ R.locals ∧ cells + rm.cells ≤ R.cells ∧ slots + rm.slots ≤ R.slots) (hEW : EW Z a0 own_EL) (H : CHv Z own_EL s.vm h) :
    ∃ v T' h' L, Stand p l e R (s.setVm T'.vm) m args below meth c T' (locs ++ L) (cells + rm.cells) (slots + rm.slots) ∧ T'.heap = h' ∧ Q v h' L ∧ s.Since T'.vm h'.size ∧ Z.Warmed39 (s.setVm T'.vm).vm ∧ (s.setVm T'.vm).vm.findClass own = some m.cls ∧ CHr Z own_EL s.vm h T'.vm h' ∧ ∀ target, Steps p.tables e below (T'.setTop { g with pc := g.pc + 3, stack := v.toList ++ rest }) target → Steps p.tables e below (T.setTop g) target :=
  own_callSH X hx hZ hown w1 w2 w3 w4 hr.1 eT hC hg (hsz.trans hml.symm) hlen hst hd (W := W) (by rw [hm, hW]; omega) hr.2.1 hr.2.2.1 hr.2.2.2.1 hr.2.2.2.2 hEW H
theorem cNH (X : Stand p l e R s m args below meth c T locs cells slots) (hx : p.tables.exec = Jvm.exec) (hZ : Z.Warmed39 s.vm) {own : String} {index : Nat} {y : MethodName} {bytes : ByteArray} {maxL : Nat} {rm : Room} (hown : s.vm.findClass own = some m.cls) (w1 : (Jvm.Cond.methodLink own index y).before a0 Z = true) (w2 : (Jvm.Cond.instanceMethod y).before a0 Z = true) (w3 : (Jvm.Cond.initialized y.cls).before a0 Z = true) (w4 : (Jvm.Cond.code y bytes maxL none).before a0 Z = true) (eT : T.heap = h) {a : Addr} {kL : Nat} (hy1 : y.name = "<init>") (hml : c.maxLocals = kL) {argsL rest : List Value} (hC : ConH l Z y bytes maxL none rm (.ref a :: argsL).toArray h Q) {g : JFrame} (hg : g.method = m) (hsz : g.locals.size = kL) (hlen : ∀ sig, parseMethodDescriptor y.desc = some sig → argsL.length = sig.parameters.length) (hst : g.stack = argsL.reverse ++ .ref a :: rest) (hd : decode c.code g.pc = .ok (.invokespecial index, 3)) {W : Nat} (hm : g.monitorRoom = 0) (hW : (rest.map fun v => v.category).sum = W) (hr : (y.cls ≠ "java/lang/invoke/MethodHandle" ∧ y.cls ≠ "java/lang/invoke/VarHandle") ∧ rm.frames + 1 ≤ R.frames ∧ W + (maxL + 11) + rm.locals ≤ R.locals ∧ cells + rm.cells ≤ R.cells ∧ slots + rm.slots ≤ R.slots) (hEW : EW Z a0 own_EL) (H : CHv Z own_EL s.vm h) :
    ∃ v T' h' L, Stand p l e R (s.setVm T'.vm) m args below meth c T' (locs ++ L) (cells + rm.cells) (slots + rm.slots) ∧ T'.heap = h' ∧ Q v h' L ∧ s.Since T'.vm h'.size ∧ Z.Warmed39 (s.setVm T'.vm).vm ∧ (s.setVm T'.vm).vm.findClass own = some m.cls ∧ CHr Z own_EL s.vm h T'.vm h' ∧ ∀ target, Steps p.tables e below (T'.setTop { g with pc := g.pc + 3, stack := v.toList ++ rest }) target → Steps p.tables e below (T.setTop g) target :=
  own_callNH X hx hZ hy1 hown w1 w2 w3 w4 hr.1 eT hC hg (hsz.trans hml.symm) hlen hst hd (W := W) (by rw [hm, hW]; omega) hr.2.1 hr.2.2.1 hr.2.2.2.1 hr.2.2.2.2 hEW H
theorem cVH (X : Stand p l e R s m args below meth c T locs cells slots) (hx : p.tables.exec = Jvm.exec) (hZ : Z.Warmed39 s.vm) {own C : String} {index : Nat} {y z : MethodName} {bytes : ByteArray} {maxL : Nat} {ret : Option FieldType} {rm : Room} (hown : s.vm.findClass own = some m.cls) (w1 : (Jvm.Cond.methodLink own index y).before a0 Z = true) (w2 : (Jvm.Cond.declares y).before a0 Z = true) (w5 : (Jvm.Cond.selects y.cls y y).before a0 Z = true) (w6 : (Jvm.Cond.selects C y z).before a0 Z = true) (w7 : (Jvm.Cond.instanceMethod z).before a0 Z = true) (w3 : (Jvm.Cond.initialized z.cls).before a0 Z = true) (w4 : (Jvm.Cond.code z bytes maxL ret).before a0 Z = true) (eT : T.heap = h) {a : Addr} (E : Exa Z h a C) {kL : Nat} (hml : c.maxLocals = kL) {argsL rest : List Value} (hC : ConH l Z z bytes maxL ret rm (.ref a :: argsL).toArray h Q) {g : JFrame} (hg : g.method = m) (hsz : g.locals.size = kL) (hlen : ∀ sig, parseMethodDescriptor y.desc = some sig → argsL.length = sig.parameters.length) (hst : g.stack = argsL.reverse ++ .ref a :: rest) (hd : decode c.code g.pc = .ok (.invokevirtual index, 3)) {W : Nat} (hm : g.monitorRoom = 0) (hW : (rest.map fun v => v.category).sum = W) (hr : (y.cls ≠ "java/lang/invoke/MethodHandle" ∧ y.cls ≠ "java/lang/invoke/VarHandle") ∧ rm.frames + 1 ≤ R.frames ∧ W + (maxL + 11) + rm.locals ≤ R.locals ∧ cells + rm.cells ≤ R.cells ∧ slots + rm.slots ≤ R.slots) (hEW : EW Z a0 own_EL) (H : CHv Z own_EL s.vm h) :
    ∃ v T' h' L, Stand p l e R (s.setVm T'.vm) m args below meth c T' (locs ++ L) (cells + rm.cells) (slots + rm.slots) ∧ T'.heap = h' ∧ Q v h' L ∧ s.Since T'.vm h'.size ∧ Z.Warmed39 (s.setVm T'.vm).vm ∧ (s.setVm T'.vm).vm.findClass own = some m.cls ∧ CHr Z own_EL s.vm h T'.vm h' ∧ ∀ target, Steps p.tables e below (T'.setTop { g with pc := g.pc + 3, stack := v.toList ++ rest }) target → Steps p.tables e below (T.setTop g) target :=
  own_callVH X hx hZ hown w1 w2 w5 w6 w7 w3 w4 hr.1 eT E hC hg (hsz.trans hml.symm) hlen hst hd (W := W) (by rw [hm, hW]; omega) hr.2.1 hr.2.2.1 hr.2.2.2.1 hr.2.2.2.2 hEW H
end Wrap
section Plain
variable {p : Program} {l : Launch} {e : Env} {R : Room} {s : State} {m : MethodId} {args : Array Value} {below : List Frame} {meth : Method} {c : Code} {T : State} {locs : List Loc} {cells slots : Nat} {t : State} {pc : Nat} {L : Array Slot} {st : List Value}
theorem yi (X : Stand p l e R s m args below meth c T locs cells slots) (hx : p.tables.exec = Jvm.exec) {k : Nat} {v : Int32} (hd : decode c.code pc = .ok (.iload k, 2)) (hl : L[k]? = some (.val (.int v))) (hr : Steps p.tables e below (T.setTop (mkF m (pc + 2) L (.int v :: st))) t) : Steps p.tables e below (T.setTop (mkF m pc L (st))) t :=
  XS.iload X.here hx rfl hd hl hr
theorem yj (X : Stand p l e R s m args below meth c T locs cells slots) (hx : p.tables.exec = Jvm.exec) {k : Fin 4} {v : Int32} (hd : decode c.code pc = .ok (.iload_n k, 1)) (hl : L[k.val]? = some (.val (.int v))) (hr : Steps p.tables e below (T.setTop (mkF m (pc + 1) L (.int v :: st))) t) : Steps p.tables e below (T.setTop (mkF m pc L (st))) t :=
  XS.iloadN X.here hx rfl hd hl hr
theorem ya (X : Stand p l e R s m args below meth c T locs cells slots) (hx : p.tables.exec = Jvm.exec) {k : Nat} {v : Value} (hd : decode c.code pc = .ok (.aload k, 2)) (hl : L[k]? = some (.val v)) (hv : v.isRef = true) (hr : Steps p.tables e below (T.setTop (mkF m (pc + 2) L (v :: st))) t) : Steps p.tables e below (T.setTop (mkF m pc L (st))) t :=
  XS.aload X.here hx rfl hd hl hv hr
theorem yb (X : Stand p l e R s m args below meth c T locs cells slots) (hx : p.tables.exec = Jvm.exec) {k : Fin 4} {v : Value} (hd : decode c.code pc = .ok (.aload_n k, 1)) (hl : L[k.val]? = some (.val v)) (hv : v.isRef = true) (hr : Steps p.tables e below (T.setTop (mkF m (pc + 1) L (v :: st))) t) : Steps p.tables e below (T.setTop (mkF m pc L (st))) t :=
  XS.aloadN X.here hx rfl hd hl hv hr
theorem yk (X : Stand p l e R s m args below meth c T locs cells slots) (hx : p.tables.exec = Jvm.exec) {k : Nat} {x : Int32} {l' : Array Slot} (hd : decode c.code pc = .ok (.istore k, 2)) (hl : storeLocals L k (.int x) = some l') (hr : Steps p.tables e below (T.setTop (mkF m (pc + 2) l' (st))) t) : Steps p.tables e below (T.setTop (mkF m pc L (.int x :: st))) t :=
  XS.istore X.here hx rfl hd rfl hl hr
theorem yl (X : Stand p l e R s m args below meth c T locs cells slots) (hx : p.tables.exec = Jvm.exec) {k : Fin 4} {x : Int32} {l' : Array Slot} (hd : decode c.code pc = .ok (.istore_n k, 1)) (hl : storeLocals L k.val (.int x) = some l') (hr : Steps p.tables e below (T.setTop (mkF m (pc + 1) l' (st))) t) : Steps p.tables e below (T.setTop (mkF m pc L (.int x :: st))) t :=
  XS.istoreN X.here hx rfl hd rfl hl hr
theorem ym (X : Stand p l e R s m args below meth c T locs cells slots) (hx : p.tables.exec = Jvm.exec) {k : Nat} {x : Value} {l' : Array Slot} (hd : decode c.code pc = .ok (.astore k, 2)) (hv : x.isRef = true) (hl : storeLocals L k x = some l') (hr : Steps p.tables e below (T.setTop (mkF m (pc + 2) l' (st))) t) : Steps p.tables e below (T.setTop (mkF m pc L (x :: st))) t :=
  XS.astore X.here hx rfl hd rfl hv hl hr
theorem yn (X : Stand p l e R s m args below meth c T locs cells slots) (hx : p.tables.exec = Jvm.exec) {k : Fin 4} {x : Value} {l' : Array Slot} (hd : decode c.code pc = .ok (.astore_n k, 1)) (hv : x.isRef = true) (hl : storeLocals L k.val x = some l') (hr : Steps p.tables e below (T.setTop (mkF m (pc + 1) l' (st))) t) : Steps p.tables e below (T.setTop (mkF m pc L (x :: st))) t :=
  XS.astoreN X.here hx rfl hd rfl hv hl hr
theorem yc (X : Stand p l e R s m args below meth c T locs cells slots) (hx : p.tables.exec = Jvm.exec) {i : Int} (hd : decode c.code pc = .ok (.iconst i, 1))  (hr : Steps p.tables e below (T.setTop (mkF m (pc + 1) L (.int (Int32.ofInt i) :: st))) t) : Steps p.tables e below (T.setTop (mkF m pc L (st))) t :=
  XS.iconst X.here hx rfl hd  hr
theorem yp (X : Stand p l e R s m args below meth c T locs cells slots) (hx : p.tables.exec = Jvm.exec) {i : Int} (hd : decode c.code pc = .ok (.bipush i, 2))  (hr : Steps p.tables e below (T.setTop (mkF m (pc + 2) L (.int (Int8.ofInt i).toInt32 :: st))) t) : Steps p.tables e below (T.setTop (mkF m pc L (st))) t :=
  XS.bipush X.here hx rfl hd  hr
theorem yq (X : Stand p l e R s m args below meth c T locs cells slots) (hx : p.tables.exec = Jvm.exec) {i : Int} (hd : decode c.code pc = .ok (.sipush i, 3))  (hr : Steps p.tables e below (T.setTop (mkF m (pc + 3) L (.int (Int16.ofInt i).toInt32 :: st))) t) : Steps p.tables e below (T.setTop (mkF m pc L (st))) t :=
  XS.sipush X.here hx rfl hd  hr
theorem yz (X : Stand p l e R s m args below meth c T locs cells slots) (hx : p.tables.exec = Jvm.exec)  (hd : decode c.code pc = .ok (.aconst_null, 1))  (hr : Steps p.tables e below (T.setTop (mkF m (pc + 1) L (.null :: st))) t) : Steps p.tables e below (T.setTop (mkF m pc L (st))) t :=
  XS.aconstNull X.here hx rfl hd  hr
theorem y1 (X : Stand p l e R s m args below meth c T locs cells slots) (hx : p.tables.exec = Jvm.exec) {x y : Int32} (hd : decode c.code pc = .ok (.iadd, 1))  (hr : Steps p.tables e below (T.setTop (mkF m (pc + 1) L (.int (x + y) :: st))) t) : Steps p.tables e below (T.setTop (mkF m pc L (.int y :: .int x :: st))) t :=
  XS.iadd X.here hx rfl hd rfl hr
theorem y2 (X : Stand p l e R s m args below meth c T locs cells slots) (hx : p.tables.exec = Jvm.exec) {x y : Int32} (hd : decode c.code pc = .ok (.isub, 1))  (hr : Steps p.tables e below (T.setTop (mkF m (pc + 1) L (.int (x - y) :: st))) t) : Steps p.tables e below (T.setTop (mkF m pc L (.int y :: .int x :: st))) t :=
  XS.isub X.here hx rfl hd rfl hr
theorem y3 (X : Stand p l e R s m args below meth c T locs cells slots) (hx : p.tables.exec = Jvm.exec) {x y : Int32} (hd : decode c.code pc = .ok (.iand, 1))  (hr : Steps p.tables e below (T.setTop (mkF m (pc + 1) L (.int (x &&& y) :: st))) t) : Steps p.tables e below (T.setTop (mkF m pc L (.int y :: .int x :: st))) t :=
  XS.iand X.here hx rfl hd rfl hr
theorem y4 (X : Stand p l e R s m args below meth c T locs cells slots) (hx : p.tables.exec = Jvm.exec) {x y : Int32} (hd : decode c.code pc = .ok (.ior, 1))  (hr : Steps p.tables e below (T.setTop (mkF m (pc + 1) L (.int (x ||| y) :: st))) t) : Steps p.tables e below (T.setTop (mkF m pc L (.int y :: .int x :: st))) t :=
  XT.ior X.here hx rfl hd rfl hr
theorem y5 (X : Stand p l e R s m args below meth c T locs cells slots) (hx : p.tables.exec = Jvm.exec) {x y : Int32} (hd : decode c.code pc = .ok (.ishl, 1))  (hr : Steps p.tables e below (T.setTop (mkF m (pc + 1) L (.int (x <<< (y &&& 31)) :: st))) t) : Steps p.tables e below (T.setTop (mkF m pc L (.int y :: .int x :: st))) t :=
  XT.ishl X.here hx rfl hd rfl hr
theorem y6 (X : Stand p l e R s m args below meth c T locs cells slots) (hx : p.tables.exec = Jvm.exec) {x y : Int32} (hd : decode c.code pc = .ok (.ishr, 1))  (hr : Steps p.tables e below (T.setTop (mkF m (pc + 1) L (.int (x >>> (y &&& 31)) :: st))) t) : Steps p.tables e below (T.setTop (mkF m pc L (.int y :: .int x :: st))) t :=
  XT.ishr X.here hx rfl hd rfl hr
theorem y7 (X : Stand p l e R s m args below meth c T locs cells slots) (hx : p.tables.exec = Jvm.exec) {x y : Int32} (hd : decode c.code pc = .ok (.iushr, 1))  (hr : Steps p.tables e below (T.setTop (mkF m (pc + 1) L (.int (XT.ushr x y) :: st))) t) : Steps p.tables e below (T.setTop (mkF m pc L (.int y :: .int x :: st))) t :=
  XT.iushr X.here hx rfl hd rfl hr
theorem y8 (X : Stand p l e R s m args below meth c T locs cells slots) (hx : p.tables.exec = Jvm.exec) {x : Int32} (hd : decode c.code pc = .ok (.i2b, 1))  (hr : Steps p.tables e below (T.setTop (mkF m (pc + 1) L (.int x.toInt8.toInt32 :: st))) t) : Steps p.tables e below (T.setTop (mkF m pc L (.int x :: st))) t :=
  XT.i2b X.here hx rfl hd rfl hr
theorem y9 (X : Stand p l e R s m args below meth c T locs cells slots) (hx : p.tables.exec = Jvm.exec) {x : Int32} (hd : decode c.code pc = .ok (.i2c, 1))  (hr : Steps p.tables e below (T.setTop (mkF m (pc + 1) L (.int x.toUInt32.toUInt16.toUInt32.toInt32 :: st))) t) : Steps p.tables e below (T.setTop (mkF m pc L (.int x :: st))) t :=
  XT.i2c X.here hx rfl hd rfl hr
theorem yd (X : Stand p l e R s m args below meth c T locs cells slots) (hx : p.tables.exec = Jvm.exec) {x : Value} (hd : decode c.code pc = .ok (.dup, 1)) (hc : x.category = 1) (hr : Steps p.tables e below (T.setTop (mkF m (pc + 1) L (x :: x :: st))) t) : Steps p.tables e below (T.setTop (mkF m pc L (x :: st))) t :=
  XS.dup X.here hx rfl hd rfl hc hr
theorem y0 (X : Stand p l e R s m args below meth c T locs cells slots) (hx : p.tables.exec = Jvm.exec) {x : Value} (hd : decode c.code pc = .ok (.pop, 1)) (hc : x.category = 1) (hr : Steps p.tables e below (T.setTop (mkF m (pc + 1) L (st))) t) : Steps p.tables e below (T.setTop (mkF m pc L (x :: st))) t :=
  XT.pop X.here hx rfl hd rfl hc hr
theorem yf (X : Stand p l e R s m args below meth c T locs cells slots) (hx : p.tables.exec = Jvm.exec) {k : Nat} {cst : Int} {x : Int32} {l' : Array Slot} (hd : decode c.code pc = .ok (.iinc k cst, 3)) (hl : L[k]? = some (.val (.int x))) (hl' : storeLocals L k (.int (x + Int32.ofInt cst)) = some l') (hr : Steps p.tables e below (T.setTop (mkF m (pc + 3) l' (st))) t) : Steps p.tables e below (T.setTop (mkF m pc L (st))) t :=
  XS.iinc X.here hx rfl hd hl hl' hr
theorem yg (X : Stand p l e R s m args below meth c T locs cells slots) (hx : p.tables.exec = Jvm.exec) {o : Int} {pc' : Nat} (hd : decode c.code pc = .ok (.goto o, 3)) (hp : (pc : Int) + o = (pc' : Nat)) (hr : Steps p.tables e below (T.setTop (mkF m pc' L (st))) t) : Steps p.tables e below (T.setTop (mkF m pc L (st))) t :=
  XS.goto X.here hx rfl (pc0 := pc) (pc' := pc') rfl hd (by omega) (by omega) hr
theorem yY (X : Stand p l e R s m args below meth c T locs cells slots) (hx : p.tables.exec = Jvm.exec) {cd : ClassFile.Cond} {x y : Int32} {o : Int} {pc' : Nat} (hd : decode c.code pc = .ok (.if_icmp cd o, 3)) (hc : if_icmp.holds cd x y = true) (hp : (pc : Int) + o = (pc' : Nat)) (hr : Steps p.tables e below (T.setTop (mkF m pc' L (st))) t) : Steps p.tables e below (T.setTop (mkF m pc L (.int y :: .int x :: st))) t :=
  XS.icmpYes X.here hx rfl (pc0 := pc) (pc' := pc') rfl hd rfl hc (by omega) (by omega) hr
theorem yN (X : Stand p l e R s m args below meth c T locs cells slots) (hx : p.tables.exec = Jvm.exec) {cd : ClassFile.Cond} {x y : Int32} {o : Int} (hd : decode c.code pc = .ok (.if_icmp cd o, 3)) (hc : if_icmp.holds cd x y = false) (hr : Steps p.tables e below (T.setTop (mkF m (pc + 3) L (st))) t) : Steps p.tables e below (T.setTop (mkF m pc L (.int y :: .int x :: st))) t :=
  XS.icmpNo X.here hx rfl hd rfl hc hr
theorem yX (X : Stand p l e R s m args below meth c T locs cells slots) (hx : p.tables.exec = Jvm.exec) {cd : ClassFile.Cond} {x : Int32} {o : Int} {pc' : Nat} (hd : decode c.code pc = .ok (.ifCond cd o, 3)) (hc : ifCond.holds cd x = true) (hp : (pc : Int) + o = (pc' : Nat)) (hr : Steps p.tables e below (T.setTop (mkF m pc' L (st))) t) : Steps p.tables e below (T.setTop (mkF m pc L (.int x :: st))) t :=
  XS.ifYes X.here hx rfl (pc0 := pc) (pc' := pc') rfl hd rfl hc (by omega) (by omega) hr
theorem yM (X : Stand p l e R s m args below meth c T locs cells slots) (hx : p.tables.exec = Jvm.exec) {cd : ClassFile.Cond} {x : Int32} {o : Int} (hd : decode c.code pc = .ok (.ifCond cd o, 3)) (hc : ifCond.holds cd x = false) (hr : Steps p.tables e below (T.setTop (mkF m (pc + 3) L (st))) t) : Steps p.tables e below (T.setTop (mkF m pc L (.int x :: st))) t :=
  XS.ifNo X.here hx rfl hd rfl hc hr
end Plain
theorem Go.s {p : Program} {e : Env} {below : List Frame} {s : State} {k n : Nat} {Q : Option Value → Heap → List Loc → Prop} {S : State} (T : State) (g : JFrame) (f : ∀ t, Steps p.tables e below (T.setTop g) t → Steps p.tables e below S t) (k' : Go p e below s k n Q (T.setTop g)) : Go p e below s k n Q S := Go.st f k'
theorem GoH.s {Z : State} {h : Heap} {p : Program} {e : Env} {below : List Frame} {s : State} {k n : Nat} {Q : Option Value → Heap → List Loc → Prop} {S : State} (T : State) (g : JFrame) (f : ∀ t, Steps p.tables e below (T.setTop g) t → Steps p.tables e below S t) (k' : GoH Z h p e below s k n Q (T.setTop g)) : GoH Z h p e below s k n Q S := GoH.st f k'
abbrev own_W (a0 : Array Value) (Z : State) : Prop := ∀ d ∈ tables_1, d.before a0 Z = true
abbrev sCS (Z : State) (vcs : Int32) : Prop := Sta Z Z.heap "java/lang/String" "COMPACT_STRINGS" "Z" (.int vcs)
abbrev sAD (Z : State) : Prop := Sta Z Z.heap "java/lang/StringUTF16" "$assertionsDisabled" "Z" (.int 1)
abbrev sHI (Z : State) : Prop := Sta Z Z.heap "java/lang/StringUTF16" "HI_BYTE_SHIFT" "I" (.int 0)
abbrev sLO (Z : State) : Prop := Sta Z Z.heap "java/lang/StringUTF16" "LO_BYTE_SHIFT" "I" (.int 8)
abbrev sFM (Z : State) (vfm : Value) : Prop := Sta Z Z.heap "jdk/internal/util/Preconditions" "SIOOBE_FORMATTER" "Ljava/util/function/BiFunction;" vfm
abbrev sIH (Z : State) : Prop := Sta Z Z.heap "java/lang/Integer$IntegerCache" "high" "I" (.int 127)
abbrev sIC (Z : State) (ica : Nat) : Prop := Sta Z Z.heap "java/lang/Integer$IntegerCache" "cache" "[Ljava/lang/Integer;" (.ref ica)
abbrev sDV (Z : State) (vd : Nat) : Prop := Sta Z Z.heap "java/util/ArrayList" "DEFAULTCAPACITY_EMPTY_ELEMENTDATA" "[Ljava/lang/Object;" (.ref vd)
abbrev pIC (Z : State) (ivs : List Value) : Prop := ∀ k, k < 5 → ∃ x : Nat, ivs[k + 128]? = some (.ref x) ∧ Exa Z Z.heap x "java/lang/Integer" ∧ Fld Z Z.heap x "java/lang/Integer" "value" "I" (.int k.toInt32)
abbrev fV (Z : State) (h : Heap) (a : Addr) (v : Value) : Prop := Fld Z h a "java/lang/String" "value" "[B" v
abbrev fC (Z : State) (h : Heap) (a : Addr) (v : Value) : Prop := Fld Z h a "java/lang/String" "coder" "B" v
abbrev fX (Z : State) (h : Heap) (a : Addr) (v : Value) : Prop := Fld Z h a cX "lineStarts" "[I" v
abbrev fP (Z : State) (h : Heap) (a : Addr) (v : Value) : Prop := Fld Z h a cX "path" "Ljava/lang/String;" v
abbrev fT (Z : State) (h : Heap) (a : Addr) (v : Value) : Prop := Fld Z h a cX "text" "Ljava/lang/String;" v
abbrev fE (Z : State) (h : Heap) (a : Addr) (v : Value) : Prop := Fld Z h a "java/util/ArrayList" "elementData" "[Ljava/lang/Object;" v
abbrev fS (Z : State) (h : Heap) (a : Addr) (v : Value) : Prop := Fld Z h a "java/util/ArrayList" "size" "I" v
abbrev fM (Z : State) (h : Heap) (a : Addr) (v : Value) : Prop := Fld Z h a "java/util/AbstractList" "modCount" "I" v
set_option maxRecDepth 65536
set_option maxHeartbeats 1000000
theorem d1 : ∀ q ∈ ([(0, .iload_n 0, 1), (1, .iconst 3, 1), (2, .iand, 1), (3, .istore_n 2, 1), (4, .iload_n 2, 1), (5, .ifCond .ne 6, 3), (8, .bipush 13, 2), (10, .ireturn, 1), (11, .iload_n 2, 1), (12, .iconst 1, 1), (13, .if_icmp .ne 6, 3), (16, .bipush 10, 2), (18, .ireturn, 1), (19, .iload_n 1, 1), (20, .sipush 255, 3), (23, .iand, 1), (24, .i2c, 1), (25, .ireturn, 1)] : List (Nat × Instr × Nat)), decode method_3_code q.1 = .ok q.2 := by decide +kernel
theorem d2 : ∀ q ∈ ([(0, .iload_n 2, 1), (1, .iload_n 1, 1), (2, .if_icmp .gt 8, 3), (5, .iload_n 2, 1), (6, .iload_n 3, 1), (7, .if_icmp .le 5, 3), (10, .iconst 0, 1), (11, .ireturn, 1), (12, .aload_n 0, 1), (13, .iload_n 2, 1), (14, .iconst 1, 1), (15, .isub, 1), (16, .caload, 1), (17, .istore 4, 2), (19, .iload 4, 2), (21, .bipush 10, 2), (23, .if_icmp .ne 5, 3), (26, .iconst 1, 1), (27, .ireturn, 1), (28, .iload 4, 2), (30, .bipush 13, 2), (32, .if_icmp .ne 18, 3), (35, .iload_n 2, 1), (36, .iload_n 1, 1), (37, .if_icmp .eq 11, 3), (40, .aload_n 0, 1), (41, .iload_n 2, 1), (42, .caload, 1), (43, .bipush 10, 2), (45, .if_icmp .eq 5, 3), (48, .iconst 1, 1), (49, .ireturn, 1), (50, .iconst 0, 1), (51, .ireturn, 1)] : List (Nat × Instr × Nat)), decode method_4_code q.1 = .ok q.2 := by decide +kernel
theorem d20 : ∀ q ∈ ([(0, .getstatic 44, 3), (3, .ifCond .ne 25, 3), (28, .iload_n 1, 1), (29, .iconst 1, 1), (30, .ishl, 1), (31, .istore_n 1, 1), (32, .aload_n 0, 1), (33, .iload_n 1, 1), (34, .iinc 1 1, 3), (37, .iload_n 2, 1), (38, .getstatic 59, 3), (41, .ishr, 1), (42, .i2b, 1), (43, .bastore, 1), (44, .aload_n 0, 1), (45, .iload_n 1, 1), (46, .iload_n 2, 1), (47, .getstatic 63, 3), (50, .ishr, 1), (51, .i2b, 1), (52, .bastore, 1), (53, .return_, 1)] : List (Nat × Instr × Nat)), decode jdk_52_method_4_code q.1 = .ok q.2 := by decide +kernel
theorem d21 : ∀ q ∈ ([(0, .getstatic 44, 3), (3, .ifCond .ne 25, 3), (28, .iload_n 1, 1), (29, .iconst 1, 1), (30, .ishl, 1), (31, .istore_n 1, 1), (32, .aload_n 0, 1), (33, .iload_n 1, 1), (34, .iinc 1 1, 3), (37, .baload, 1), (38, .sipush 255, 3), (41, .iand, 1), (42, .getstatic 59, 3), (45, .ishl, 1), (46, .aload_n 0, 1), (47, .iload_n 1, 1), (48, .baload, 1), (49, .sipush 255, 3), (52, .iand, 1), (53, .getstatic 63, 3), (56, .ishl, 1), (57, .ior, 1), (58, .i2c, 1), (59, .ireturn, 1)] : List (Nat × Instr × Nat)), decode jdk_52_method_5_code q.1 = .ok q.2 := by decide +kernel
theorem d22 : ∀ q ∈ ([(0, .iload_n 0, 1), (1, .ifCond .ge 11, 3), (12, .iload_n 0, 1), (13, .ldc 20, 2), (15, .if_icmp .lt 40, 3), (55, .iload_n 0, 1), (56, .iconst 1, 1), (57, .ishl, 1), (58, .ireturn, 1)] : List (Nat × Instr × Nat)), decode jdk_52_method_3_code q.1 = .ok q.2 := by decide +kernel
theorem d23 : ∀ q ∈ ([(0, .iload_n 0, 1), (1, .invokestatic 11, 3), (4, .newarray .byte, 2), (6, .areturn, 1)] : List (Nat × Instr × Nat)), decode jdk_52_method_2_code q.1 = .ok q.2 := by decide +kernel
theorem d24 : ∀ q ∈ ([(0, .iload_n 2, 1), (1, .invokestatic 107, 3), (4, .astore_n 3, 1), (5, .iconst 0, 1), (6, .istore 4, 2), (8, .iload 4, 2), (10, .iload_n 2, 1), (11, .if_icmp .ge 21, 3), (14, .aload_n 3, 1), (15, .iload 4, 2), (17, .aload_n 0, 1), (18, .iload_n 1, 1), (19, .caload, 1), (20, .invokestatic 111, 3), (23, .iinc 1 1, 3), (26, .iinc 4 1, 3), (29, .goto (-21), 3), (32, .aload_n 3, 1), (33, .areturn, 1)] : List (Nat × Instr × Nat)), decode jdk_52_method_14_code q.1 = .ok q.2 := by decide +kernel
theorem d3 : ∀ q ∈ ([(0, .ldc 37, 2), (2, .istore_n 3, 1), (3, .iload_n 0, 1), (4, .ifCond .ne 102, 3), (7, .iload_n 1, 1), (8, .ifCond .ne 7, 3), (11, .iconst 0, 1), (12, .newarray .char, 2), (14, .areturn, 1), (15, .iload_n 1, 1), (16, .iconst 1, 1), (17, .if_icmp .ne 13, 3), (20, .iconst 1, 1), (21, .newarray .char, 2), (23, .dup, 1), (24, .iconst 0, 1), (25, .aload_n 2, 1), (26, .iconst 0, 1), (27, .caload, 1), (28, .castore, 1), (29, .areturn, 1), (30, .iload_n 1, 1), (31, .iconst 2, 1), (32, .if_icmp .ne 19, 3), (35, .iconst 2, 1), (36, .newarray .char, 2), (38, .dup, 1), (39, .iconst 0, 1), (40, .aload_n 2, 1), (41, .iconst 0, 1), (42, .caload, 1), (43, .castore, 1), (44, .dup, 1), (45, .iconst 1, 1), (46, .aload_n 2, 1), (47, .iconst 1, 1), (48, .caload, 1), (49, .castore, 1), (50, .areturn, 1), (51, .iload_n 1, 1), (52, .iconst 3, 1), (53, .if_icmp .ne 25, 3), (56, .iconst 3, 1), (57, .newarray .char, 2), (59, .dup, 1), (60, .iconst 0, 1), (61, .aload_n 2, 1), (62, .iconst 0, 1), (63, .caload, 1), (64, .castore, 1), (65, .dup, 1), (66, .iconst 1, 1), (67, .aload_n 2, 1), (68, .iconst 1, 1), (69, .caload, 1), (70, .castore, 1), (71, .dup, 1), (72, .iconst 2, 1), (73, .aload_n 2, 1), (74, .iconst 2, 1), (75, .caload, 1), (76, .castore, 1), (77, .areturn, 1), (78, .iconst 4, 1), (79, .newarray .char, 2), (81, .dup, 1), (82, .iconst 0, 1), (83, .aload_n 2, 1), (84, .iconst 0, 1), (85, .caload, 1), (86, .castore, 1), (87, .dup, 1), (88, .iconst 1, 1), (89, .aload_n 2, 1), (90, .iconst 1, 1), (91, .caload, 1), (92, .castore, 1), (93, .dup, 1), (94, .iconst 2, 1), (95, .aload_n 2, 1), (96, .iconst 2, 1), (97, .caload, 1), (98, .castore, 1), (99, .dup, 1), (100, .iconst 3, 1), (101, .aload_n 2, 1), (102, .iconst 3, 1), (103, .caload, 1), (104, .castore, 1), (105, .areturn, 1), (106, .iload_n 1, 1), (107, .ifCond .ne 11, 3), (110, .iconst 1, 1), (111, .newarray .char, 2), (113, .dup, 1), (114, .iconst 0, 1), (115, .iload_n 3, 1), (116, .castore, 1), (117, .areturn, 1), (118, .iload_n 1, 1), (119, .iconst 1, 1), (120, .if_icmp .ne 17, 3), (123, .iconst 2, 1), (124, .newarray .char, 2), (126, .dup, 1), (127, .iconst 0, 1), (128, .iload_n 3, 1), (129, .castore, 1), (130, .dup, 1), (131, .iconst 1, 1), (132, .aload_n 2, 1), (133, .iconst 0, 1), (134, .caload, 1), (135, .castore, 1), (136, .areturn, 1), (137, .iload_n 1, 1), (138, .iconst 2, 1), (139, .if_icmp .ne 23, 3), (142, .iconst 3, 1), (143, .newarray .char, 2), (145, .dup, 1), (146, .iconst 0, 1), (147, .iload_n 3, 1), (148, .castore, 1), (149, .dup, 1), (150, .iconst 1, 1), (151, .aload_n 2, 1), (152, .iconst 0, 1), (153, .caload, 1), (154, .castore, 1), (155, .dup, 1), (156, .iconst 2, 1), (157, .aload_n 2, 1), (158, .iconst 1, 1), (159, .caload, 1), (160, .castore, 1), (161, .areturn, 1), (162, .iload_n 1, 1), (163, .iconst 3, 1), (164, .if_icmp .ne 29, 3), (167, .iconst 4, 1), (168, .newarray .char, 2), (170, .dup, 1), (171, .iconst 0, 1), (172, .iload_n 3, 1), (173, .castore, 1), (174, .dup, 1), (175, .iconst 1, 1), (176, .aload_n 2, 1), (177, .iconst 0, 1), (178, .caload, 1), (179, .castore, 1), (180, .dup, 1), (181, .iconst 2, 1), (182, .aload_n 2, 1), (183, .iconst 1, 1), (184, .caload, 1), (185, .castore, 1), (186, .dup, 1), (187, .iconst 3, 1), (188, .aload_n 2, 1), (189, .iconst 2, 1), (190, .caload, 1), (191, .castore, 1), (192, .areturn, 1), (193, .iconst 5, 1), (194, .newarray .char, 2), (196, .dup, 1), (197, .iconst 0, 1), (198, .iload_n 3, 1), (199, .castore, 1), (200, .dup, 1), (201, .iconst 1, 1), (202, .aload_n 2, 1), (203, .iconst 0, 1), (204, .caload, 1), (205, .castore, 1), (206, .dup, 1), (207, .iconst 2, 1), (208, .aload_n 2, 1), (209, .iconst 1, 1), (210, .caload, 1), (211, .castore, 1), (212, .dup, 1), (213, .iconst 3, 1), (214, .aload_n 2, 1), (215, .iconst 2, 1), (216, .caload, 1), (217, .castore, 1), (218, .dup, 1), (219, .iconst 4, 1), (220, .aload_n 2, 1), (221, .iconst 3, 1), (222, .caload, 1), (223, .castore, 1), (224, .areturn, 1)] : List (Nat × Instr × Nat)), decode method_5_code q.1 = .ok q.2 := by decide +kernel
theorem d30 : ∀ q ∈ ([(0, .iload_n 0, 1), (1, .ifCond .lt 8, 3), (4, .iload_n 0, 1), (5, .iload_n 1, 1), (6, .if_icmp .lt 10, 3), (16, .iload_n 0, 1), (17, .ireturn, 1)] : List (Nat × Instr × Nat)), decode jdk_41_method_11_code q.1 = .ok q.2 := by decide +kernel
theorem d31 : ∀ q ∈ ([(0, .iload_n 0, 1), (1, .iload_n 1, 1), (2, .getstatic 1053, 3), (5, .invokestatic 1059, 3), (8, .pop, 1), (9, .return_, 1)] : List (Nat × Instr × Nat)), decode jdk_42_method_155_code q.1 = .ok q.2 := by decide +kernel
theorem d32 : ∀ q ∈ ([(0, .iload_n 0, 1), (1, .iload_n 1, 1), (2, .aconst_null, 1), (3, .invokestatic 105, 3), (6, .ireturn, 1)] : List (Nat × Instr × Nat)), decode jdk_31_method_17_code q.1 = .ok q.2 := by decide +kernel
theorem d33 : ∀ q ∈ ([(0, .iload_n 0, 1), (1, .ifCond .lt 13, 3), (4, .iload_n 0, 1), (5, .iload_n 1, 1), (6, .if_icmp .gt 8, 3), (9, .iload_n 1, 1), (10, .iload_n 2, 1), (11, .if_icmp .le 11, 3), (22, .iload_n 0, 1), (23, .ireturn, 1)] : List (Nat × Instr × Nat)), decode jdk_41_method_12_code q.1 = .ok q.2 := by decide +kernel
theorem d34 : ∀ q ∈ ([(0, .iload_n 0, 1), (1, .iload_n 1, 1), (2, .iload_n 2, 1), (3, .getstatic 1053, 3), (6, .invokestatic 1062, 3), (9, .pop, 1), (10, .return_, 1)] : List (Nat × Instr × Nat)), decode jdk_42_method_158_code q.1 = .ok q.2 := by decide +kernel
theorem d35 : ∀ q ∈ ([(0, .iload_n 2, 1), (1, .iload_n 0, 1), (2, .ior, 1), (3, .iload_n 1, 1), (4, .ior, 1), (5, .ifCond .lt 10, 3), (8, .iload_n 1, 1), (9, .iload_n 2, 1), (10, .iload_n 0, 1), (11, .isub, 1), (12, .if_icmp .le 11, 3), (23, .iload_n 0, 1), (24, .ireturn, 1)] : List (Nat × Instr × Nat)), decode jdk_41_method_13_code q.1 = .ok q.2 := by decide +kernel
theorem d36 : ∀ q ∈ ([(0, .iload_n 0, 1), (1, .iload_n 1, 1), (2, .iload_n 2, 1), (3, .getstatic 1053, 3), (6, .invokestatic 1065, 3), (9, .ireturn, 1)] : List (Nat × Instr × Nat)), decode jdk_42_method_157_code q.1 = .ok q.2 := by decide +kernel
theorem d37 : ∀ q ∈ ([(0, .getstatic 38, 3), (3, .ifCond .eq 14, 3), (6, .aload_n 0, 1), (7, .getfield 15, 3), (10, .ifCond .ne 7, 3), (13, .iconst 1, 1), (14, .goto 4, 3), (17, .iconst 0, 1), (18, .ireturn, 1)] : List (Nat × Instr × Nat)), decode jdk_42_method_154_code q.1 = .ok q.2 := by decide +kernel
theorem d38 : ∀ q ∈ ([(0, .getstatic 38, 3), (3, .ifCond .eq 10, 3), (6, .aload_n 0, 1), (7, .getfield 15, 3), (10, .goto 4, 3), (14, .ireturn, 1)] : List (Nat × Instr × Nat)), decode jdk_42_method_152_code q.1 = .ok q.2 := by decide +kernel
theorem d39 : ∀ q ∈ ([(0, .aload_n 0, 1), (1, .getfield 9, 3), (4, .arraylength, 1), (5, .aload_n 0, 1), (6, .invokevirtual 335, 3), (9, .ishr, 1), (10, .ireturn, 1)] : List (Nat × Instr × Nat)), decode jdk_42_method_54_code q.1 = .ok q.2 := by decide +kernel
theorem d4 : ∀ q ∈ ([(0, .iconst 0, 1), (1, .istore 5, 2), (3, .iload 5, 2), (5, .iload 4, 2), (7, .if_icmp .ge 37, 3), (10, .aload_n 0, 1), (11, .iload_n 1, 1), (12, .caload, 1), (13, .istore 6, 2), (15, .iload 6, 2), (17, .sipush 255, 3), (20, .if_icmp .le 6, 3), (23, .iload 5, 2), (25, .ireturn, 1), (26, .aload_n 2, 1), (27, .iload_n 3, 1), (28, .iload 6, 2), (30, .i2b, 1), (31, .bastore, 1), (32, .iinc 1 1, 3), (35, .iinc 3 1, 3), (38, .iinc 5 1, 3), (41, .goto (-38), 3), (44, .iload 4, 2), (46, .ireturn, 1)] : List (Nat × Instr × Nat)), decode jdk_52_method_21_code q.1 = .ok q.2 := by decide +kernel
theorem d40 : ∀ q ∈ ([(0, .iload_n 1, 1), (1, .aload_n 0, 1), (2, .arraylength, 1), (3, .invokestatic 9, 3), (6, .aload_n 0, 1), (7, .iload_n 1, 1), (8, .baload, 1), (9, .sipush 255, 3), (12, .iand, 1), (13, .i2c, 1), (14, .ireturn, 1)] : List (Nat × Instr × Nat)), decode jdk_43_method_2_code q.1 = .ok q.2 := by decide +kernel
theorem d41 : ∀ q ∈ ([(0, .aload_n 0, 1), (1, .invokevirtual 492, 3), (4, .ifCond .eq 12, 3), (7, .aload_n 0, 1), (8, .getfield 9, 3), (11, .iload_n 1, 1), (12, .invokestatic 495, 3), (15, .ireturn, 1), (16, .aload_n 0, 1), (17, .getfield 9, 3), (20, .iload_n 1, 1), (21, .invokestatic 498, 3), (24, .ireturn, 1)] : List (Nat × Instr × Nat)), decode jdk_42_method_56_code q.1 = .ok q.2 := by decide +kernel
theorem d42 : ∀ q ∈ ([(0, .aload_n 0, 1), (1, .getfield 9, 3), (4, .arraylength, 1), (5, .ifCond .ne 7, 3), (8, .iconst 1, 1), (9, .goto 4, 3), (12, .iconst 0, 1), (13, .ireturn, 1)] : List (Nat × Instr × Nat)), decode jdk_42_method_55_code q.1 = .ok q.2 := by decide +kernel
theorem d43 : ∀ q ∈ ([(0, .aload_n 0, 1), (1, .arraylength, 1), (2, .iconst 1, 1), (3, .ishr, 1), (4, .ireturn, 1)] : List (Nat × Instr × Nat)), decode jdk_52_method_6_code q.1 = .ok q.2 := by decide +kernel
theorem d44 : ∀ q ∈ ([(0, .iload_n 0, 1), (1, .aload_n 1, 1), (2, .invokestatic 48, 3), (5, .invokestatic 414, 3), (8, .return_, 1)] : List (Nat × Instr × Nat)), decode jdk_52_method_91_code q.1 = .ok q.2 := by decide +kernel
theorem d45 : ∀ q ∈ ([(0, .iload_n 1, 1), (1, .aload_n 0, 1), (2, .invokestatic 67, 3), (5, .aload_n 0, 1), (6, .iload_n 1, 1), (7, .invokestatic 71, 3), (10, .ireturn, 1)] : List (Nat × Instr × Nat)), decode jdk_52_method_83_code q.1 = .ok q.2 := by decide +kernel
theorem d5 : ∀ q ∈ ([(0, .iload_n 2, 1), (1, .newarray .byte, 2), (3, .astore_n 3, 1), (4, .aload_n 0, 1), (5, .iload_n 1, 1), (6, .aload_n 3, 1), (7, .iconst 0, 1), (8, .iload_n 2, 1), (9, .invokestatic 115, 3), (12, .istore 4, 2), (14, .iload 4, 2), (16, .iload_n 2, 1), (17, .if_icmp .eq 40, 3), (20, .aload_n 0, 1), (21, .iload_n 1, 1), (22, .iload_n 2, 1), (23, .invokestatic 119, 3), (26, .astore 5, 2), (28, .aload 5, 2), (30, .iload 4, 2), (32, .invokestatic 71, 3), (35, .sipush 255, 3), (38, .if_icmp .gt 16, 3), (54, .aload 5, 2), (56, .areturn, 1), (57, .aload_n 3, 1), (58, .areturn, 1)] : List (Nat × Instr × Nat)), decode jdk_52_method_16_code q.1 = .ok q.2 := by decide +kernel
theorem d50 : ∀ q ∈ ([(0, .aload_n 0, 1), (1, .invokespecial 1, 3), (4, .aload_n 0, 1), (5, .aload_n 1, 1), (6, .putfield 9, 3), (9, .aload_n 0, 1), (10, .iload_n 2, 1), (11, .putfield 15, 3), (14, .return_, 1)] : List (Nat × Instr × Nat)), decode jdk_42_method_151_code q.1 = .ok q.2 := by decide +kernel
theorem d51 : ∀ q ∈ ([(0, .iload_n 0, 1), (1, .iload_n 1, 1), (2, .aload_n 2, 1), (3, .invokestatic 48, 3), (6, .invokestatic 419, 3), (9, .pop, 1), (10, .return_, 1)] : List (Nat × Instr × Nat)), decode jdk_52_method_94_code q.1 = .ok q.2 := by decide +kernel
theorem d52 : ∀ q ∈ ([(0, .iload_n 1, 1), (1, .iload 4, 2), (3, .aload_n 0, 1), (4, .invokestatic 173, 3), (7, .iconst 0, 1), (8, .istore 5, 2), (10, .iload 5, 2), (12, .iload 4, 2), (14, .if_icmp .ge 39, 3), (17, .aload_n 0, 1), (18, .iload_n 1, 1), (19, .invokestatic 71, 3), (22, .istore 6, 2), (24, .iload 6, 2), (26, .sipush 255, 3), (29, .if_icmp .le 6, 3), (35, .aload_n 2, 1), (36, .iload_n 3, 1), (37, .iload 6, 2), (39, .i2b, 1), (40, .bastore, 1), (41, .iinc 1 1, 3), (44, .iinc 3 1, 3), (47, .iinc 5 1, 3), (50, .goto (-40), 3), (53, .iload 4, 2), (55, .ireturn, 1)] : List (Nat × Instr × Nat)), decode jdk_52_method_22_code q.1 = .ok q.2 := by decide +kernel
theorem d53 : ∀ q ∈ ([(0, .iload_n 2, 1), (1, .newarray .byte, 2), (3, .astore_n 3, 1), (4, .aload_n 0, 1), (5, .iload_n 1, 1), (6, .aload_n 3, 1), (7, .iconst 0, 1), (8, .iload_n 2, 1), (9, .invokestatic 123, 3), (12, .istore 4, 2), (14, .iload 4, 2), (16, .iload_n 2, 1), (17, .if_icmp .eq 47, 3), (64, .aload_n 3, 1), (65, .areturn, 1)] : List (Nat × Instr × Nat)), decode jdk_52_method_17_code q.1 = .ok q.2 := by decide +kernel
theorem d54 : ∀ q ∈ ([(0, .iload_n 2, 1), (1, .ifCond .ne 7, 3), (4, .ldc_w 295, 3), (7, .areturn, 1), (8, .getstatic 251, 3), (11, .ifCond .eq 28, 3), (14, .aload_n 0, 1), (15, .iload_n 1, 1), (16, .iload_n 2, 1), (17, .invokestatic 257, 3), (20, .astore_n 3, 1), (21, .aload_n 3, 1), (22, .iload_n 2, 1), (23, .invokestatic 259, 3), (26, .istore 4, 2), (28, .new 3, 3), (31, .dup, 1), (32, .aload_n 3, 1), (33, .iload 4, 2), (35, .invokespecial 263, 3), (38, .areturn, 1)] : List (Nat × Instr × Nat)), decode jdk_52_method_69_code q.1 = .ok q.2 := by decide +kernel
theorem d55 : ∀ q ∈ ([(0, .aload_n 0, 1), (1, .invokevirtual 505, 3), (4, .istore_n 3, 1), (5, .iload_n 1, 1), (6, .iload_n 2, 1), (7, .iload_n 3, 1), (8, .invokestatic 521, 3), (11, .iload_n 1, 1), (12, .ifCond .ne 10, 3), (22, .iload_n 2, 1), (23, .iload_n 1, 1), (24, .isub, 1), (25, .istore 4, 2), (27, .aload_n 0, 1), (28, .invokevirtual 492, 3), (31, .ifCond .eq 16, 3), (47, .aload_n 0, 1), (48, .getfield 9, 3), (51, .iload_n 1, 1), (52, .iload 4, 2), (54, .invokestatic 689, 3), (57, .areturn, 1)] : List (Nat × Instr × Nat)), decode jdk_42_method_92_code q.1 = .ok q.2 := by decide +kernel
theorem d56 : ∀ q ∈ ([(0, .aload_n 0, 1), (1, .iload_n 1, 1), (2, .aload_n 0, 1), (3, .invokevirtual 505, 3), (6, .invokevirtual 681, 3), (9, .areturn, 1)] : List (Nat × Instr × Nat)), decode jdk_42_method_91_code q.1 = .ok q.2 := by decide +kernel
theorem d57 : ∀ q ∈ ([(0, .aload_n 0, 1), (1, .iload_n 1, 1), (2, .invokeinterface 71 2, 5), (7, .istore_n 2, 1), (8, .iload_n 2, 1), (9, .bipush 13, 2), (11, .if_icmp .ne 34, 3), (14, .iload_n 1, 1), (15, .iconst 1, 1), (16, .iadd, 1), (17, .aload_n 0, 1), (18, .invokeinterface 74 1, 5), (23, .if_icmp .ge 22, 3), (26, .aload_n 0, 1), (27, .iload_n 1, 1), (28, .iconst 1, 1), (29, .iadd, 1), (30, .invokeinterface 71 2, 5), (35, .bipush 10, 2), (37, .if_icmp .ne 8, 3), (40, .iconst 2, 1), (41, .istore_n 3, 1), (42, .goto 22, 3), (45, .iload_n 2, 1), (46, .bipush 13, 2), (48, .if_icmp .eq 9, 3), (51, .iload_n 2, 1), (52, .bipush 10, 2), (54, .if_icmp .ne 8, 3), (57, .iconst 1, 1), (58, .istore_n 3, 1), (59, .goto 5, 3), (62, .iconst 0, 1), (63, .istore_n 3, 1), (64, .iload_n 3, 1), (65, .ireturn, 1)] : List (Nat × Instr × Nat)), decode prog_195_method_3_code q.1 = .ok q.2 := by decide +kernel
theorem d6 : ∀ q ∈ ([(0, .iload_n 1, 1), (1, .aload_n 0, 1), (2, .arraylength, 1), (3, .isub, 1), (4, .bipush 31, 2), (6, .iushr, 1), (7, .i2b, 1), (8, .ireturn, 1)] : List (Nat × Instr × Nat)), decode jdk_52_method_15_code q.1 = .ok q.2 := by decide +kernel
theorem d60 : ∀ q ∈ ([(0, .iload_n 0, 1), (1, .bipush (-128), 2), (3, .if_icmp .lt 20, 3), (6, .iload_n 0, 1), (7, .getstatic 191, 3), (10, .if_icmp .gt 13, 3), (13, .getstatic 195, 3), (16, .iload_n 0, 1), (17, .sipush 128, 3), (20, .iadd, 1), (21, .aaload, 1), (22, .areturn, 1)] : List (Nat × Instr × Nat)), decode jdk_33_method_22_code q.1 = .ok q.2 := by decide +kernel
theorem d61 : ∀ q ∈ ([(0, .aload_n 0, 1), (1, .getfield 205, 3), (4, .ireturn, 1)] : List (Nat × Instr × Nat)), decode jdk_33_method_27_code q.1 = .ok q.2 := by decide +kernel
theorem d62 : ∀ q ∈ ([(0, .aload_n 0, 1), (1, .invokespecial 1, 3), (4, .return_, 1)] : List (Nat × Instr × Nat)), decode jdk_22_method_1_code q.1 = .ok q.2 := by decide +kernel
theorem d63 : ∀ q ∈ ([(0, .aload_n 0, 1), (1, .invokespecial 1, 3), (4, .aload_n 0, 1), (5, .iconst 0, 1), (6, .putfield 7, 3), (9, .return_, 1)] : List (Nat × Instr × Nat)), decode jdk_39_method_1_code q.1 = .ok q.2 := by decide +kernel
theorem d64 : ∀ q ∈ ([(0, .aload_n 0, 1), (1, .invokespecial 1, 3), (4, .aload_n 0, 1), (5, .getstatic 39, 3), (8, .putfield 9, 3), (11, .return_, 1)] : List (Nat × Instr × Nat)), decode jdk_38_method_2_code q.1 = .ok q.2 := by decide +kernel
theorem d65 : ∀ q ∈ ([(0, .iload_n 0, 1), (1, .iload_n 1, 1), (2, .if_icmp .lt 7, 3), (5, .iload_n 0, 1), (6, .goto 4, 3), (9, .iload_n 1, 1), (10, .ireturn, 1)] : List (Nat × Instr × Nat)), decode jdk_29_method_65_code q.1 = .ok q.2 := by decide +kernel
theorem d66 : ∀ q ∈ ([(0, .aload_n 0, 1), (1, .getfield 9, 3), (4, .arraylength, 1), (5, .istore_n 2, 1), (6, .iload_n 2, 1), (7, .ifCond .gt 13, 3), (10, .aload_n 0, 1), (11, .getfield 9, 3), (14, .getstatic 39, 3), (17, .if_acmp .eq 28, 3), (45, .aload_n 0, 1), (46, .bipush 10, 2), (48, .iload_n 1, 1), (49, .invokestatic 79, 3), (52, .anewarray 7, 3), (55, .dup_x1, 1), (56, .putfield 9, 3), (59, .areturn, 1)] : List (Nat × Instr × Nat)), decode jdk_38_method_6_code q.1 = .ok q.2 := by decide +kernel
theorem d67 : ∀ q ∈ ([(0, .aload_n 0, 1), (1, .aload_n 0, 1), (2, .getfield 48, 3), (5, .iconst 1, 1), (6, .iadd, 1), (7, .invokevirtual 69, 3), (10, .areturn, 1)] : List (Nat × Instr × Nat)), decode jdk_38_method_7_code q.1 = .ok q.2 := by decide +kernel
theorem d68 : ∀ q ∈ ([(0, .iload_n 3, 1), (1, .aload_n 2, 1), (2, .arraylength, 1), (3, .if_icmp .ne 8, 3), (6, .aload_n 0, 1), (7, .invokevirtual 129, 3), (10, .astore_n 2, 1), (11, .aload_n 2, 1), (12, .iload_n 3, 1), (13, .aload_n 1, 1), (14, .aastore, 1), (15, .aload_n 0, 1), (16, .iload_n 3, 1), (17, .iconst 1, 1), (18, .iadd, 1), (19, .putfield 48, 3), (22, .return_, 1)] : List (Nat × Instr × Nat)), decode jdk_38_method_24_code q.1 = .ok q.2 := by decide +kernel
theorem d69 : ∀ q ∈ ([(0, .aload_n 0, 1), (1, .dup, 1), (2, .getfield 63, 3), (5, .iconst 1, 1), (6, .iadd, 1), (7, .putfield 63, 3), (10, .aload_n 0, 1), (11, .aload_n 1, 1), (12, .aload_n 0, 1), (13, .getfield 9, 3), (16, .aload_n 0, 1), (17, .getfield 48, 3), (20, .invokevirtual 131, 3), (23, .iconst 1, 1), (24, .ireturn, 1)] : List (Nat × Instr × Nat)), decode jdk_38_method_25_code q.1 = .ok q.2 := by decide +kernel
theorem d7 : ∀ q ∈ ([(0, .aload_n 0, 1), (1, .invokespecial 1, 3), (4, .iload_n 3, 1), (5, .ifCond .ne 22, 3), (8, .aload_n 0, 1), (9, .ldc 7, 2), (11, .getfield 9, 3), (14, .putfield 9, 3), (17, .aload_n 0, 1), (18, .ldc 7, 2), (20, .getfield 15, 3), (23, .putfield 15, 3), (26, .return_, 1), (27, .getstatic 38, 3), (30, .ifCond .eq 28, 3), (33, .aload_n 1, 1), (34, .iload_n 2, 1), (35, .iload_n 3, 1), (36, .invokestatic 177, 3), (39, .astore 5, 2), (41, .aload_n 0, 1), (42, .aload 5, 2), (44, .iload_n 3, 1), (45, .invokestatic 47, 3), (48, .putfield 15, 3), (51, .aload_n 0, 1), (52, .aload 5, 2), (54, .putfield 9, 3), (57, .return_, 1)] : List (Nat × Instr × Nat)), decode jdk_42_method_149_code q.1 = .ok q.2 := by decide +kernel
theorem d70 : ∀ q ∈ ([(0, .aload_n 0, 1), (1, .getfield 48, 3), (4, .ireturn, 1)] : List (Nat × Instr × Nat)), decode jdk_38_method_8_code q.1 = .ok q.2 := by decide +kernel
theorem d71 : ∀ q ∈ ([(0, .aload_n 0, 1), (1, .getfield 9, 3), (4, .iload_n 1, 1), (5, .aaload, 1), (6, .areturn, 1)] : List (Nat × Instr × Nat)), decode jdk_38_method_18_code q.1 = .ok q.2 := by decide +kernel
theorem d72 : ∀ q ∈ ([(0, .iload_n 1, 1), (1, .aload_n 0, 1), (2, .getfield 48, 3), (5, .invokestatic 118, 3), (8, .pop, 1), (9, .aload_n 0, 1), (10, .iload_n 1, 1), (11, .invokevirtual 123, 3), (14, .areturn, 1)] : List (Nat × Instr × Nat)), decode jdk_38_method_20_code q.1 = .ok q.2 := by decide +kernel
theorem d8 : ∀ q ∈ ([(0, .aload_n 0, 1), (1, .aload_n 1, 1), (2, .iconst 0, 1), (3, .aload_n 1, 1), (4, .arraylength, 1), (5, .aconst_null, 1), (6, .invokespecial 27, 3), (9, .return_, 1)] : List (Nat × Instr × Nat)), decode jdk_42_method_3_code q.1 = .ok q.2 := by decide +kernel
theorem d80 : ∀ q ∈ ([(0, .new 38, 3), (3, .dup, 1), (4, .invokespecial 40, 3), (7, .astore_n 1, 1), (8, .aload_n 1, 1), (9, .iconst 0, 1), (10, .invokestatic 41, 3), (13, .invokeinterface 47 2, 5), (18, .pop, 1), (19, .iconst 0, 1), (20, .istore_n 2, 1), (21, .iload_n 2, 1), (22, .aload_n 0, 1), (23, .invokevirtual 53, 3), (26, .if_icmp .ge 37, 3), (29, .aload_n 0, 1), (30, .iload_n 2, 1), (31, .invokestatic 57, 3), (34, .istore_n 3, 1), (35, .iload_n 3, 1), (36, .ifCond .le 21, 3), (39, .iload_n 2, 1), (40, .iload_n 3, 1), (41, .iadd, 1), (42, .istore_n 2, 1), (43, .aload_n 1, 1), (44, .iload_n 2, 1), (45, .invokestatic 41, 3), (48, .invokeinterface 47 2, 5), (53, .pop, 1), (54, .goto 6, 3), (57, .iinc 2 1, 3), (60, .goto (-39), 3), (63, .aload_n 1, 1), (64, .invokeinterface 61 1, 5), (69, .newarray .int, 2), (71, .astore_n 3, 1), (72, .iconst 0, 1), (73, .istore 4, 2), (75, .iload 4, 2), (77, .aload_n 3, 1), (78, .arraylength, 1), (79, .if_icmp .ge 27, 3), (82, .aload_n 3, 1), (83, .iload 4, 2), (85, .aload_n 1, 1), (86, .iload 4, 2), (88, .invokeinterface 64 2, 5), (93, .checkcast 42, 3), (96, .invokevirtual 68, 3), (99, .iastore, 1), (100, .iinc 4 1, 3), (103, .goto (-28), 3), (106, .aload_n 3, 1), (107, .areturn, 1)] : List (Nat × Instr × Nat)), decode prog_195_method_2_code q.1 = .ok q.2 := by decide +kernel
theorem d81 : ∀ q ∈ ([(0, .iconst 0, 1), (1, .istore_n 2, 1), (2, .aload_n 0, 1), (3, .getfield 35, 3), (6, .arraylength, 1), (7, .iconst 1, 1), (8, .isub, 1), (9, .istore_n 3, 1), (10, .iload_n 2, 1), (11, .iload_n 3, 1), (12, .if_icmp .ge 37, 3), (15, .iload_n 2, 1), (16, .iload_n 3, 1), (17, .iadd, 1), (18, .iconst 1, 1), (19, .iadd, 1), (20, .iconst 1, 1), (21, .iushr, 1), (22, .istore 4, 2), (24, .aload_n 0, 1), (25, .getfield 35, 3), (28, .iload 4, 2), (30, .iaload, 1), (31, .iload_n 1, 1), (32, .if_icmp .gt 9, 3), (35, .iload 4, 2), (37, .istore_n 2, 1), (38, .goto 8, 3), (41, .iload 4, 2), (43, .iconst 1, 1), (44, .isub, 1), (45, .istore_n 3, 1), (46, .goto (-36), 3), (49, .iload_n 2, 1), (50, .iconst 1, 1), (51, .iadd, 1), (52, .ireturn, 1)] : List (Nat × Instr × Nat)), decode prog_195_method_6_code q.1 = .ok q.2 := by decide +kernel
theorem d82 : ∀ q ∈ ([(0, .aload_n 0, 1), (1, .invokespecial 1, 3), (4, .aload_n 0, 1), (5, .aload_n 1, 1), (6, .putfield 7, 3), (9, .aload_n 0, 1), (10, .aload_n 2, 1), (11, .invokevirtual 13, 3), (14, .ifCond .ne 21, 3), (17, .aload_n 2, 1), (18, .iconst 0, 1), (19, .invokevirtual 19, 3), (22, .ldc 23, 2), (24, .if_icmp .ne 11, 3), (27, .aload_n 2, 1), (28, .iconst 1, 1), (29, .invokevirtual 24, 3), (32, .goto 4, 3), (35, .aload_n 2, 1), (36, .putfield 28, 3), (39, .aload_n 0, 1), (40, .aload_n 0, 1), (41, .getfield 28, 3), (44, .invokestatic 31, 3), (47, .putfield 35, 3), (50, .return_, 1)] : List (Nat × Instr × Nat)), decode prog_195_method_1_code q.1 = .ok q.2 := by decide +kernel
section Walks
variable (l : Launch) (Z : State) (a0 : Array Value)
theorem pf_0 : plainFor (⟨cL, "pick", "(II)C"⟩ : MethodName) = true := plainFor_of_name (by first | (simp [plainName, overriddenIn]; done) | decide +kernel)
theorem rmPick (hw : own_W a0 Z) (p1 : Int32) (p2 : Int32) (h0 : Heap) (n0 : Nat) (Z0 : n0 ≤ h0.size)  :
    Con l Z ⟨cL, "pick", "(II)C"⟩ method_3_code 3 (some .char) ⟨0, 0, 0, 0⟩ #[(.int p1), (.int p2)] h0 (fun v h L => ∃ r, v = some (.int r) ∧ Fr n0 L ∧ h = h0 ∧ (0 ≤ r.toInt ∧ r.toInt ≤ 255)) := by
  refine Con.o (L := #[vI p1, vI p2, vU]) n0 d1 pf_0 (by simp [argsToLocals, Value.category]) ?_
  intro p e s m _ _ c T0 X0 hx hby hml hZ hown hnm hret hlk e0 N0 D
  refine Go.s T0 (mkF m 5 #[vI p1, vI p2, vI (p1 &&& 3)] [(.int (p1 &&& 3))]) (fun _ hr => yj X0 hx (D 0 rfl) rfl (yc X0 hx (D 1 rfl) (y3 X0 hx (D 2 rfl) (yl X0 hx (D 3 rfl) rfl (yj X0 hx (D 4 rfl) rfl hr))))) ?_
  by_cases hc1 : (p1 &&& 3) = 0
  · refine Go.s T0 (mkF m 10 #[vI p1, vI p2, vI (p1 &&& 3)] [(.int 13)]) (fun _ hr => yM X0 hx (D 5 rfl) (XT.i0_ne_f hc1) (yp X0 hx (D 6 rfl) hr)) ?_
    refine Go.retN X0 hx hlk (t := .char) hret (by simp) (D 7 rfl) (by decide) (by decide) ?_
    try rw [e0]
    exact ⟨(13 : Int32), rfl, N0, rfl, by decide⟩
  refine Go.s T0 (mkF m 13 #[vI p1, vI p2, vI (p1 &&& 3)] [(.int 1), (.int (p1 &&& 3))]) (fun _ hr => yX X0 hx (D 5 rfl) (pc' := 11) (XT.i0_ne_t hc1) rfl (yj X0 hx (D 8 rfl) rfl (yc X0 hx (D 9 rfl) hr))) ?_
  by_cases hc2 : (p1 &&& 3) = 1
  · refine Go.s T0 (mkF m 18 #[vI p1, vI p2, vI (p1 &&& 3)] [(.int 10)]) (fun _ hr => yN X0 hx (D 10 rfl) (XT.ii_ne_f hc2) (yp X0 hx (D 11 rfl) hr)) ?_
    refine Go.retN X0 hx hlk (t := .char) hret (by simp) (D 12 rfl) (by decide) (by decide) ?_
    try rw [e0]
    exact ⟨(10 : Int32), rfl, N0, rfl, by decide⟩
  refine Go.s T0 (mkF m 25 #[vI p1, vI p2, vI (p1 &&& 3)] [(.int ((p2 &&& 255).toUInt32.toUInt16.toUInt32.toInt32))]) (fun _ hr => yY X0 hx (D 10 rfl) (pc' := 19) (XT.ii_ne_t hc2) rfl (yj X0 hx (D 13 rfl) rfl (yq X0 hx (D 14 rfl) (y3 X0 hx (D 15 rfl) (y9 X0 hx (D 16 rfl) hr))))) ?_
  refine Go.retN X0 hx hlk (t := .char) hret (by simp) (D 17 rfl) (by decide) (by decide) ?_
  try rw [e0]
  exact ⟨_, by rw [own_idemC], N0, rfl, own_chr _⟩
theorem pf_1 : plainFor (⟨cL, "start", "([CIII)I"⟩ : MethodName) = true := plainFor_of_name (by first | (simp [plainName, overriddenIn]; done) | decide +kernel)
theorem rmSt1 (hw : own_W a0 Z) (a1 : Nat) (p2 : Int32) (p4 : Int32) (h0 : Heap) (n0 : Nat) (Z0 : n0 ≤ h0.size) (c0 c1 c2 c3 : Int32) (Ac : Ary Z h0 a1 .char [(.int c0), (.int c1), (.int c2), (.int c3)]) :
    Con l Z ⟨cL, "start", "([CIII)I"⟩ method_4_code 5 (some .int) ⟨0, 0, 0, 0⟩ #[(.ref a1), (.int p2), (.int 1), (.int p4)] h0 (fun v h L => v = some (.int (own_st [c0, c1, c2, c3] p2 1 p4 0)) ∧ Fr n0 L ∧ h = h0) := by
  refine Con.o (L := #[vR a1, vI p2, vI 1, vI p4, vU]) n0 d2 pf_1 (by simp [argsToLocals, Value.category]) ?_
  intro p e s m _ _ c T0 X0 hx hby hml hZ hown hnm hret hlk e0 N0 D
  have lt_1 := own_ltA Ac
  refine Go.s T0 (mkF m 2 #[vR a1, vI p2, vI 1, vI p4, vU] [(.int p2), (.int 1)]) (fun _ hr => yj X0 hx (D 0 rfl) rfl (yj X0 hx (D 1 rfl) rfl hr)) ?_
  by_cases hc2 : p2 < 1
  · refine Go.s T0 (mkF m 11 #[vR a1, vI p2, vI 1, vI p4, vU] [(.int 0)]) (fun _ hr => yY X0 hx (D 2 rfl) (pc' := 10) (XT.ii_gt_t hc2) rfl (yc X0 hx (D 6 rfl) hr)) ?_
    refine Go.retI X0 hx hlk hret (D 7 rfl) (by decide) (by decide) ?_
    try rw [e0]
    refine ⟨?_, N0, rfl⟩
    show some (Value.int _) = some (Value.int (if p2 < 1 then 0 else if p4 < 1 then 0 else if c0 = 10 then 1 else if c0 = 13 then (if 1 = p2 then 1 else if c1 = 10 then 0 else 1) else 0))
    rw [if_pos hc2]
  refine Go.s T0 (mkF m 7 #[vR a1, vI p2, vI 1, vI p4, vU] [(.int p4), (.int 1)]) (fun _ hr => yN X0 hx (D 2 rfl) (XT.ii_gt_f hc2) (yj X0 hx (D 3 rfl) rfl (yj X0 hx (D 4 rfl) rfl hr))) ?_
  by_cases hc3 : p4 < 1
  · refine Go.s T0 (mkF m 11 #[vR a1, vI p2, vI 1, vI p4, vU] [(.int 0)]) (fun _ hr => yN X0 hx (D 5 rfl) (XT.ii_le_f hc3) (yc X0 hx (D 6 rfl) hr)) ?_
    refine Go.retI X0 hx hlk hret (D 7 rfl) (by decide) (by decide) ?_
    try rw [e0]
    refine ⟨?_, N0, rfl⟩
    show some (Value.int _) = some (Value.int (if p2 < 1 then 0 else if p4 < 1 then 0 else if c0 = 10 then 1 else if c0 = 13 then (if 1 = p2 then 1 else if c1 = 10 then 0 else 1) else 0))
    rw [if_neg hc2, if_pos hc3]
  refine Go.s T0 (mkF m 15 #[vR a1, vI p2, vI 1, vI p4, vU] [(.int 1), (.int 1), (.ref a1)]) (fun _ hr => yY X0 hx (D 5 rfl) (pc' := 12) (XT.ii_le_t hc3) rfl (yb X0 hx (D 8 rfl) rfl rfl (yj X0 hx (D 9 rfl) rfl (yc X0 hx (D 10 rfl) hr)))) ?_
  let j_1 := (mkF m 16 #[vR a1, vI p2, vI 1, vI p4, vU] [(.int 0), (.ref a1)])
  refine Go.s T0 j_1 (fun _ hr => y2 X0 hx (D 11 rfl) hr) ?_
  refine Go.s T0 (mkF m 23 #[vR a1, vI p2, vI 1, vI p4, vI c0] [(.int 10), (.int c0)]) (fun _ hr => (own_ldC X0 hx hZ e0 Ac (j := 0) (v := (.int c0)) (by decide) (by simp +decide) rfl (g := j_1) rfl rfl (D 12 rfl)) _ (yk X0 hx (D 13 rfl) rfl (yi X0 hx (D 14 rfl) rfl (yp X0 hx (D 15 rfl) hr)))) ?_
  by_cases hc4 : c0 = 10
  · refine Go.s T0 (mkF m 27 #[vR a1, vI p2, vI 1, vI p4, vI c0] [(.int 1)]) (fun _ hr => yN X0 hx (D 16 rfl) (XT.ii_ne_f hc4) (yc X0 hx (D 17 rfl) hr)) ?_
    refine Go.retI X0 hx hlk hret (D 18 rfl) (by decide) (by decide) ?_
    try rw [e0]
    refine ⟨?_, N0, rfl⟩
    show some (Value.int _) = some (Value.int (if p2 < 1 then 0 else if p4 < 1 then 0 else if c0 = 10 then 1 else if c0 = 13 then (if 1 = p2 then 1 else if c1 = 10 then 0 else 1) else 0))
    rw [if_neg hc2, if_neg hc3, if_pos hc4]
  refine Go.s T0 (mkF m 32 #[vR a1, vI p2, vI 1, vI p4, vI c0] [(.int 13), (.int c0)]) (fun _ hr => yY X0 hx (D 16 rfl) (pc' := 28) (XT.ii_ne_t hc4) rfl (yi X0 hx (D 19 rfl) rfl (yp X0 hx (D 20 rfl) hr))) ?_
  by_cases hc5 : c0 = 13
  · refine Go.s T0 (mkF m 37 #[vR a1, vI p2, vI 1, vI p4, vI c0] [(.int p2), (.int 1)]) (fun _ hr => yN X0 hx (D 21 rfl) (XT.ii_ne_f hc5) (yj X0 hx (D 22 rfl) rfl (yj X0 hx (D 23 rfl) rfl hr))) ?_
    by_cases hc6 : (1 : Int32) = p2
    · refine Go.s T0 (mkF m 49 #[vR a1, vI p2, vI 1, vI p4, vI c0] [(.int 1)]) (fun _ hr => yY X0 hx (D 24 rfl) (pc' := 48) (XT.ii_eq_t hc6) rfl (yc X0 hx (D 30 rfl) hr)) ?_
      refine Go.retI X0 hx hlk hret (D 31 rfl) (by decide) (by decide) ?_
      try rw [e0]
      refine ⟨?_, N0, rfl⟩
      show some (Value.int _) = some (Value.int (if p2 < 1 then 0 else if p4 < 1 then 0 else if c0 = 10 then 1 else if c0 = 13 then (if 1 = p2 then 1 else if c1 = 10 then 0 else 1) else 0))
      rw [if_neg hc2, if_neg hc3, if_neg hc4, if_pos hc5, if_pos hc6]
    let j_2 := (mkF m 42 #[vR a1, vI p2, vI 1, vI p4, vI c0] [(.int 1), (.ref a1)])
    refine Go.s T0 j_2 (fun _ hr => yN X0 hx (D 24 rfl) (XT.ii_eq_f hc6) (yb X0 hx (D 25 rfl) rfl rfl (yj X0 hx (D 26 rfl) rfl hr))) ?_
    refine Go.s T0 (mkF m 45 #[vR a1, vI p2, vI 1, vI p4, vI c0] [(.int 10), (.int c1)]) (fun _ hr => (own_ldC X0 hx hZ e0 Ac (j := 1) (v := (.int c1)) (by decide) (by simp +decide) rfl (g := j_2) rfl rfl (D 27 rfl)) _ (yp X0 hx (D 28 rfl) hr)) ?_
    by_cases hc7 : c1 = 10
    · refine Go.s T0 (mkF m 51 #[vR a1, vI p2, vI 1, vI p4, vI c0] [(.int 0)]) (fun _ hr => yY X0 hx (D 29 rfl) (pc' := 50) (XT.ii_eq_t hc7) rfl (yc X0 hx (D 32 rfl) hr)) ?_
      refine Go.retI X0 hx hlk hret (D 33 rfl) (by decide) (by decide) ?_
      try rw [e0]
      refine ⟨?_, N0, rfl⟩
      show some (Value.int _) = some (Value.int (if p2 < 1 then 0 else if p4 < 1 then 0 else if c0 = 10 then 1 else if c0 = 13 then (if 1 = p2 then 1 else if c1 = 10 then 0 else 1) else 0))
      rw [if_neg hc2, if_neg hc3, if_neg hc4, if_pos hc5, if_neg hc6, if_pos hc7]
    refine Go.s T0 (mkF m 49 #[vR a1, vI p2, vI 1, vI p4, vI c0] [(.int 1)]) (fun _ hr => yN X0 hx (D 29 rfl) (XT.ii_eq_f hc7) (yc X0 hx (D 30 rfl) hr)) ?_
    refine Go.retI X0 hx hlk hret (D 31 rfl) (by decide) (by decide) ?_
    try rw [e0]
    refine ⟨?_, N0, rfl⟩
    show some (Value.int _) = some (Value.int (if p2 < 1 then 0 else if p4 < 1 then 0 else if c0 = 10 then 1 else if c0 = 13 then (if 1 = p2 then 1 else if c1 = 10 then 0 else 1) else 0))
    rw [if_neg hc2, if_neg hc3, if_neg hc4, if_pos hc5, if_neg hc6, if_neg hc7]
  refine Go.s T0 (mkF m 51 #[vR a1, vI p2, vI 1, vI p4, vI c0] [(.int 0)]) (fun _ hr => yY X0 hx (D 21 rfl) (pc' := 50) (XT.ii_ne_t hc5) rfl (yc X0 hx (D 32 rfl) hr)) ?_
  refine Go.retI X0 hx hlk hret (D 33 rfl) (by decide) (by decide) ?_
  try rw [e0]
  refine ⟨?_, N0, rfl⟩
  show some (Value.int _) = some (Value.int (if p2 < 1 then 0 else if p4 < 1 then 0 else if c0 = 10 then 1 else if c0 = 13 then (if 1 = p2 then 1 else if c1 = 10 then 0 else 1) else 0))
  rw [if_neg hc2, if_neg hc3, if_neg hc4, if_neg hc5]
theorem rmSt2 (hw : own_W a0 Z) (a1 : Nat) (p2 : Int32) (p4 : Int32) (h0 : Heap) (n0 : Nat) (Z0 : n0 ≤ h0.size) (c0 c1 c2 c3 : Int32) (Ac : Ary Z h0 a1 .char [(.int c0), (.int c1), (.int c2), (.int c3)]) :
    Con l Z ⟨cL, "start", "([CIII)I"⟩ method_4_code 5 (some .int) ⟨0, 0, 0, 0⟩ #[(.ref a1), (.int p2), (.int 2), (.int p4)] h0 (fun v h L => v = some (.int (own_st [c0, c1, c2, c3] p2 2 p4 1)) ∧ Fr n0 L ∧ h = h0) := by
  refine Con.o (L := #[vR a1, vI p2, vI 2, vI p4, vU]) n0 d2 pf_1 (by simp [argsToLocals, Value.category]) ?_
  intro p e s m _ _ c T0 X0 hx hby hml hZ hown hnm hret hlk e0 N0 D
  have lt_1 := own_ltA Ac
  refine Go.s T0 (mkF m 2 #[vR a1, vI p2, vI 2, vI p4, vU] [(.int p2), (.int 2)]) (fun _ hr => yj X0 hx (D 0 rfl) rfl (yj X0 hx (D 1 rfl) rfl hr)) ?_
  by_cases hc2 : p2 < 2
  · refine Go.s T0 (mkF m 11 #[vR a1, vI p2, vI 2, vI p4, vU] [(.int 0)]) (fun _ hr => yY X0 hx (D 2 rfl) (pc' := 10) (XT.ii_gt_t hc2) rfl (yc X0 hx (D 6 rfl) hr)) ?_
    refine Go.retI X0 hx hlk hret (D 7 rfl) (by decide) (by decide) ?_
    try rw [e0]
    refine ⟨?_, N0, rfl⟩
    show some (Value.int _) = some (Value.int (if p2 < 2 then 0 else if p4 < 2 then 0 else if c1 = 10 then 1 else if c1 = 13 then (if 2 = p2 then 1 else if c2 = 10 then 0 else 1) else 0))
    rw [if_pos hc2]
  refine Go.s T0 (mkF m 7 #[vR a1, vI p2, vI 2, vI p4, vU] [(.int p4), (.int 2)]) (fun _ hr => yN X0 hx (D 2 rfl) (XT.ii_gt_f hc2) (yj X0 hx (D 3 rfl) rfl (yj X0 hx (D 4 rfl) rfl hr))) ?_
  by_cases hc3 : p4 < 2
  · refine Go.s T0 (mkF m 11 #[vR a1, vI p2, vI 2, vI p4, vU] [(.int 0)]) (fun _ hr => yN X0 hx (D 5 rfl) (XT.ii_le_f hc3) (yc X0 hx (D 6 rfl) hr)) ?_
    refine Go.retI X0 hx hlk hret (D 7 rfl) (by decide) (by decide) ?_
    try rw [e0]
    refine ⟨?_, N0, rfl⟩
    show some (Value.int _) = some (Value.int (if p2 < 2 then 0 else if p4 < 2 then 0 else if c1 = 10 then 1 else if c1 = 13 then (if 2 = p2 then 1 else if c2 = 10 then 0 else 1) else 0))
    rw [if_neg hc2, if_pos hc3]
  refine Go.s T0 (mkF m 15 #[vR a1, vI p2, vI 2, vI p4, vU] [(.int 1), (.int 2), (.ref a1)]) (fun _ hr => yY X0 hx (D 5 rfl) (pc' := 12) (XT.ii_le_t hc3) rfl (yb X0 hx (D 8 rfl) rfl rfl (yj X0 hx (D 9 rfl) rfl (yc X0 hx (D 10 rfl) hr)))) ?_
  let j_3 := (mkF m 16 #[vR a1, vI p2, vI 2, vI p4, vU] [(.int 1), (.ref a1)])
  refine Go.s T0 j_3 (fun _ hr => y2 X0 hx (D 11 rfl) hr) ?_
  refine Go.s T0 (mkF m 23 #[vR a1, vI p2, vI 2, vI p4, vI c1] [(.int 10), (.int c1)]) (fun _ hr => (own_ldC X0 hx hZ e0 Ac (j := 1) (v := (.int c1)) (by decide) (by simp +decide) rfl (g := j_3) rfl rfl (D 12 rfl)) _ (yk X0 hx (D 13 rfl) rfl (yi X0 hx (D 14 rfl) rfl (yp X0 hx (D 15 rfl) hr)))) ?_
  by_cases hc4 : c1 = 10
  · refine Go.s T0 (mkF m 27 #[vR a1, vI p2, vI 2, vI p4, vI c1] [(.int 1)]) (fun _ hr => yN X0 hx (D 16 rfl) (XT.ii_ne_f hc4) (yc X0 hx (D 17 rfl) hr)) ?_
    refine Go.retI X0 hx hlk hret (D 18 rfl) (by decide) (by decide) ?_
    try rw [e0]
    refine ⟨?_, N0, rfl⟩
    show some (Value.int _) = some (Value.int (if p2 < 2 then 0 else if p4 < 2 then 0 else if c1 = 10 then 1 else if c1 = 13 then (if 2 = p2 then 1 else if c2 = 10 then 0 else 1) else 0))
    rw [if_neg hc2, if_neg hc3, if_pos hc4]
  refine Go.s T0 (mkF m 32 #[vR a1, vI p2, vI 2, vI p4, vI c1] [(.int 13), (.int c1)]) (fun _ hr => yY X0 hx (D 16 rfl) (pc' := 28) (XT.ii_ne_t hc4) rfl (yi X0 hx (D 19 rfl) rfl (yp X0 hx (D 20 rfl) hr))) ?_
  by_cases hc5 : c1 = 13
  · refine Go.s T0 (mkF m 37 #[vR a1, vI p2, vI 2, vI p4, vI c1] [(.int p2), (.int 2)]) (fun _ hr => yN X0 hx (D 21 rfl) (XT.ii_ne_f hc5) (yj X0 hx (D 22 rfl) rfl (yj X0 hx (D 23 rfl) rfl hr))) ?_
    by_cases hc6 : (2 : Int32) = p2
    · refine Go.s T0 (mkF m 49 #[vR a1, vI p2, vI 2, vI p4, vI c1] [(.int 1)]) (fun _ hr => yY X0 hx (D 24 rfl) (pc' := 48) (XT.ii_eq_t hc6) rfl (yc X0 hx (D 30 rfl) hr)) ?_
      refine Go.retI X0 hx hlk hret (D 31 rfl) (by decide) (by decide) ?_
      try rw [e0]
      refine ⟨?_, N0, rfl⟩
      show some (Value.int _) = some (Value.int (if p2 < 2 then 0 else if p4 < 2 then 0 else if c1 = 10 then 1 else if c1 = 13 then (if 2 = p2 then 1 else if c2 = 10 then 0 else 1) else 0))
      rw [if_neg hc2, if_neg hc3, if_neg hc4, if_pos hc5, if_pos hc6]
    let j_4 := (mkF m 42 #[vR a1, vI p2, vI 2, vI p4, vI c1] [(.int 2), (.ref a1)])
    refine Go.s T0 j_4 (fun _ hr => yN X0 hx (D 24 rfl) (XT.ii_eq_f hc6) (yb X0 hx (D 25 rfl) rfl rfl (yj X0 hx (D 26 rfl) rfl hr))) ?_
    refine Go.s T0 (mkF m 45 #[vR a1, vI p2, vI 2, vI p4, vI c1] [(.int 10), (.int c2)]) (fun _ hr => (own_ldC X0 hx hZ e0 Ac (j := 2) (v := (.int c2)) (by decide) (by simp +decide) rfl (g := j_4) rfl rfl (D 27 rfl)) _ (yp X0 hx (D 28 rfl) hr)) ?_
    by_cases hc7 : c2 = 10
    · refine Go.s T0 (mkF m 51 #[vR a1, vI p2, vI 2, vI p4, vI c1] [(.int 0)]) (fun _ hr => yY X0 hx (D 29 rfl) (pc' := 50) (XT.ii_eq_t hc7) rfl (yc X0 hx (D 32 rfl) hr)) ?_
      refine Go.retI X0 hx hlk hret (D 33 rfl) (by decide) (by decide) ?_
      try rw [e0]
      refine ⟨?_, N0, rfl⟩
      show some (Value.int _) = some (Value.int (if p2 < 2 then 0 else if p4 < 2 then 0 else if c1 = 10 then 1 else if c1 = 13 then (if 2 = p2 then 1 else if c2 = 10 then 0 else 1) else 0))
      rw [if_neg hc2, if_neg hc3, if_neg hc4, if_pos hc5, if_neg hc6, if_pos hc7]
    refine Go.s T0 (mkF m 49 #[vR a1, vI p2, vI 2, vI p4, vI c1] [(.int 1)]) (fun _ hr => yN X0 hx (D 29 rfl) (XT.ii_eq_f hc7) (yc X0 hx (D 30 rfl) hr)) ?_
    refine Go.retI X0 hx hlk hret (D 31 rfl) (by decide) (by decide) ?_
    try rw [e0]
    refine ⟨?_, N0, rfl⟩
    show some (Value.int _) = some (Value.int (if p2 < 2 then 0 else if p4 < 2 then 0 else if c1 = 10 then 1 else if c1 = 13 then (if 2 = p2 then 1 else if c2 = 10 then 0 else 1) else 0))
    rw [if_neg hc2, if_neg hc3, if_neg hc4, if_pos hc5, if_neg hc6, if_neg hc7]
  refine Go.s T0 (mkF m 51 #[vR a1, vI p2, vI 2, vI p4, vI c1] [(.int 0)]) (fun _ hr => yY X0 hx (D 21 rfl) (pc' := 50) (XT.ii_ne_t hc5) rfl (yc X0 hx (D 32 rfl) hr)) ?_
  refine Go.retI X0 hx hlk hret (D 33 rfl) (by decide) (by decide) ?_
  try rw [e0]
  refine ⟨?_, N0, rfl⟩
  show some (Value.int _) = some (Value.int (if p2 < 2 then 0 else if p4 < 2 then 0 else if c1 = 10 then 1 else if c1 = 13 then (if 2 = p2 then 1 else if c2 = 10 then 0 else 1) else 0))
  rw [if_neg hc2, if_neg hc3, if_neg hc4, if_neg hc5]
theorem rmSt3 (hw : own_W a0 Z) (a1 : Nat) (p2 : Int32) (p4 : Int32) (h0 : Heap) (n0 : Nat) (Z0 : n0 ≤ h0.size) (c0 c1 c2 c3 : Int32) (Ac : Ary Z h0 a1 .char [(.int c0), (.int c1), (.int c2), (.int c3)]) :
    Con l Z ⟨cL, "start", "([CIII)I"⟩ method_4_code 5 (some .int) ⟨0, 0, 0, 0⟩ #[(.ref a1), (.int p2), (.int 3), (.int p4)] h0 (fun v h L => v = some (.int (own_st [c0, c1, c2, c3] p2 3 p4 2)) ∧ Fr n0 L ∧ h = h0) := by
  refine Con.o (L := #[vR a1, vI p2, vI 3, vI p4, vU]) n0 d2 pf_1 (by simp [argsToLocals, Value.category]) ?_
  intro p e s m _ _ c T0 X0 hx hby hml hZ hown hnm hret hlk e0 N0 D
  have lt_1 := own_ltA Ac
  refine Go.s T0 (mkF m 2 #[vR a1, vI p2, vI 3, vI p4, vU] [(.int p2), (.int 3)]) (fun _ hr => yj X0 hx (D 0 rfl) rfl (yj X0 hx (D 1 rfl) rfl hr)) ?_
  by_cases hc2 : p2 < 3
  · refine Go.s T0 (mkF m 11 #[vR a1, vI p2, vI 3, vI p4, vU] [(.int 0)]) (fun _ hr => yY X0 hx (D 2 rfl) (pc' := 10) (XT.ii_gt_t hc2) rfl (yc X0 hx (D 6 rfl) hr)) ?_
    refine Go.retI X0 hx hlk hret (D 7 rfl) (by decide) (by decide) ?_
    try rw [e0]
    refine ⟨?_, N0, rfl⟩
    show some (Value.int _) = some (Value.int (if p2 < 3 then 0 else if p4 < 3 then 0 else if c2 = 10 then 1 else if c2 = 13 then (if 3 = p2 then 1 else if c3 = 10 then 0 else 1) else 0))
    rw [if_pos hc2]
  refine Go.s T0 (mkF m 7 #[vR a1, vI p2, vI 3, vI p4, vU] [(.int p4), (.int 3)]) (fun _ hr => yN X0 hx (D 2 rfl) (XT.ii_gt_f hc2) (yj X0 hx (D 3 rfl) rfl (yj X0 hx (D 4 rfl) rfl hr))) ?_
  by_cases hc3 : p4 < 3
  · refine Go.s T0 (mkF m 11 #[vR a1, vI p2, vI 3, vI p4, vU] [(.int 0)]) (fun _ hr => yN X0 hx (D 5 rfl) (XT.ii_le_f hc3) (yc X0 hx (D 6 rfl) hr)) ?_
    refine Go.retI X0 hx hlk hret (D 7 rfl) (by decide) (by decide) ?_
    try rw [e0]
    refine ⟨?_, N0, rfl⟩
    show some (Value.int _) = some (Value.int (if p2 < 3 then 0 else if p4 < 3 then 0 else if c2 = 10 then 1 else if c2 = 13 then (if 3 = p2 then 1 else if c3 = 10 then 0 else 1) else 0))
    rw [if_neg hc2, if_pos hc3]
  refine Go.s T0 (mkF m 15 #[vR a1, vI p2, vI 3, vI p4, vU] [(.int 1), (.int 3), (.ref a1)]) (fun _ hr => yY X0 hx (D 5 rfl) (pc' := 12) (XT.ii_le_t hc3) rfl (yb X0 hx (D 8 rfl) rfl rfl (yj X0 hx (D 9 rfl) rfl (yc X0 hx (D 10 rfl) hr)))) ?_
  let j_5 := (mkF m 16 #[vR a1, vI p2, vI 3, vI p4, vU] [(.int 2), (.ref a1)])
  refine Go.s T0 j_5 (fun _ hr => y2 X0 hx (D 11 rfl) hr) ?_
  refine Go.s T0 (mkF m 23 #[vR a1, vI p2, vI 3, vI p4, vI c2] [(.int 10), (.int c2)]) (fun _ hr => (own_ldC X0 hx hZ e0 Ac (j := 2) (v := (.int c2)) (by decide) (by simp +decide) rfl (g := j_5) rfl rfl (D 12 rfl)) _ (yk X0 hx (D 13 rfl) rfl (yi X0 hx (D 14 rfl) rfl (yp X0 hx (D 15 rfl) hr)))) ?_
  by_cases hc4 : c2 = 10
  · refine Go.s T0 (mkF m 27 #[vR a1, vI p2, vI 3, vI p4, vI c2] [(.int 1)]) (fun _ hr => yN X0 hx (D 16 rfl) (XT.ii_ne_f hc4) (yc X0 hx (D 17 rfl) hr)) ?_
    refine Go.retI X0 hx hlk hret (D 18 rfl) (by decide) (by decide) ?_
    try rw [e0]
    refine ⟨?_, N0, rfl⟩
    show some (Value.int _) = some (Value.int (if p2 < 3 then 0 else if p4 < 3 then 0 else if c2 = 10 then 1 else if c2 = 13 then (if 3 = p2 then 1 else if c3 = 10 then 0 else 1) else 0))
    rw [if_neg hc2, if_neg hc3, if_pos hc4]
  refine Go.s T0 (mkF m 32 #[vR a1, vI p2, vI 3, vI p4, vI c2] [(.int 13), (.int c2)]) (fun _ hr => yY X0 hx (D 16 rfl) (pc' := 28) (XT.ii_ne_t hc4) rfl (yi X0 hx (D 19 rfl) rfl (yp X0 hx (D 20 rfl) hr))) ?_
  by_cases hc5 : c2 = 13
  · refine Go.s T0 (mkF m 37 #[vR a1, vI p2, vI 3, vI p4, vI c2] [(.int p2), (.int 3)]) (fun _ hr => yN X0 hx (D 21 rfl) (XT.ii_ne_f hc5) (yj X0 hx (D 22 rfl) rfl (yj X0 hx (D 23 rfl) rfl hr))) ?_
    by_cases hc6 : (3 : Int32) = p2
    · refine Go.s T0 (mkF m 49 #[vR a1, vI p2, vI 3, vI p4, vI c2] [(.int 1)]) (fun _ hr => yY X0 hx (D 24 rfl) (pc' := 48) (XT.ii_eq_t hc6) rfl (yc X0 hx (D 30 rfl) hr)) ?_
      refine Go.retI X0 hx hlk hret (D 31 rfl) (by decide) (by decide) ?_
      try rw [e0]
      refine ⟨?_, N0, rfl⟩
      show some (Value.int _) = some (Value.int (if p2 < 3 then 0 else if p4 < 3 then 0 else if c2 = 10 then 1 else if c2 = 13 then (if 3 = p2 then 1 else if c3 = 10 then 0 else 1) else 0))
      rw [if_neg hc2, if_neg hc3, if_neg hc4, if_pos hc5, if_pos hc6]
    let j_6 := (mkF m 42 #[vR a1, vI p2, vI 3, vI p4, vI c2] [(.int 3), (.ref a1)])
    refine Go.s T0 j_6 (fun _ hr => yN X0 hx (D 24 rfl) (XT.ii_eq_f hc6) (yb X0 hx (D 25 rfl) rfl rfl (yj X0 hx (D 26 rfl) rfl hr))) ?_
    refine Go.s T0 (mkF m 45 #[vR a1, vI p2, vI 3, vI p4, vI c2] [(.int 10), (.int c3)]) (fun _ hr => (own_ldC X0 hx hZ e0 Ac (j := 3) (v := (.int c3)) (by decide) (by simp +decide) rfl (g := j_6) rfl rfl (D 27 rfl)) _ (yp X0 hx (D 28 rfl) hr)) ?_
    by_cases hc7 : c3 = 10
    · refine Go.s T0 (mkF m 51 #[vR a1, vI p2, vI 3, vI p4, vI c2] [(.int 0)]) (fun _ hr => yY X0 hx (D 29 rfl) (pc' := 50) (XT.ii_eq_t hc7) rfl (yc X0 hx (D 32 rfl) hr)) ?_
      refine Go.retI X0 hx hlk hret (D 33 rfl) (by decide) (by decide) ?_
      try rw [e0]
      refine ⟨?_, N0, rfl⟩
      show some (Value.int _) = some (Value.int (if p2 < 3 then 0 else if p4 < 3 then 0 else if c2 = 10 then 1 else if c2 = 13 then (if 3 = p2 then 1 else if c3 = 10 then 0 else 1) else 0))
      rw [if_neg hc2, if_neg hc3, if_neg hc4, if_pos hc5, if_neg hc6, if_pos hc7]
    refine Go.s T0 (mkF m 49 #[vR a1, vI p2, vI 3, vI p4, vI c2] [(.int 1)]) (fun _ hr => yN X0 hx (D 29 rfl) (XT.ii_eq_f hc7) (yc X0 hx (D 30 rfl) hr)) ?_
    refine Go.retI X0 hx hlk hret (D 31 rfl) (by decide) (by decide) ?_
    try rw [e0]
    refine ⟨?_, N0, rfl⟩
    show some (Value.int _) = some (Value.int (if p2 < 3 then 0 else if p4 < 3 then 0 else if c2 = 10 then 1 else if c2 = 13 then (if 3 = p2 then 1 else if c3 = 10 then 0 else 1) else 0))
    rw [if_neg hc2, if_neg hc3, if_neg hc4, if_pos hc5, if_neg hc6, if_neg hc7]
  refine Go.s T0 (mkF m 51 #[vR a1, vI p2, vI 3, vI p4, vI c2] [(.int 0)]) (fun _ hr => yY X0 hx (D 21 rfl) (pc' := 50) (XT.ii_ne_t hc5) rfl (yc X0 hx (D 32 rfl) hr)) ?_
  refine Go.retI X0 hx hlk hret (D 33 rfl) (by decide) (by decide) ?_
  try rw [e0]
  refine ⟨?_, N0, rfl⟩
  show some (Value.int _) = some (Value.int (if p2 < 3 then 0 else if p4 < 3 then 0 else if c2 = 10 then 1 else if c2 = 13 then (if 3 = p2 then 1 else if c3 = 10 then 0 else 1) else 0))
  rw [if_neg hc2, if_neg hc3, if_neg hc4, if_neg hc5]
theorem rmSt4 (hw : own_W a0 Z) (a1 : Nat) (p2 : Int32) (p4 : Int32) (h0 : Heap) (n0 : Nat) (Z0 : n0 ≤ h0.size) (c0 c1 c2 c3 : Int32) (Ac : Ary Z h0 a1 .char [(.int c0), (.int c1), (.int c2), (.int c3)]) (hl4 : p2.toInt ≤ 4) :
    Con l Z ⟨cL, "start", "([CIII)I"⟩ method_4_code 5 (some .int) ⟨0, 0, 0, 0⟩ #[(.ref a1), (.int p2), (.int 4), (.int p4)] h0 (fun v h L => v = some (.int (own_st [c0, c1, c2, c3] p2 4 p4 3)) ∧ Fr n0 L ∧ h = h0) := by
  refine Con.o (L := #[vR a1, vI p2, vI 4, vI p4, vU]) n0 d2 pf_1 (by simp [argsToLocals, Value.category]) ?_
  intro p e s m _ _ c T0 X0 hx hby hml hZ hown hnm hret hlk e0 N0 D
  have lt_1 := own_ltA Ac
  refine Go.s T0 (mkF m 2 #[vR a1, vI p2, vI 4, vI p4, vU] [(.int p2), (.int 4)]) (fun _ hr => yj X0 hx (D 0 rfl) rfl (yj X0 hx (D 1 rfl) rfl hr)) ?_
  by_cases hc2 : p2 < 4
  · refine Go.s T0 (mkF m 11 #[vR a1, vI p2, vI 4, vI p4, vU] [(.int 0)]) (fun _ hr => yY X0 hx (D 2 rfl) (pc' := 10) (XT.ii_gt_t hc2) rfl (yc X0 hx (D 6 rfl) hr)) ?_
    refine Go.retI X0 hx hlk hret (D 7 rfl) (by decide) (by decide) ?_
    try rw [e0]
    refine ⟨?_, N0, rfl⟩
    show some (Value.int _) = some (Value.int (if p2 < 4 then 0 else if p4 < 4 then 0 else if c3 = 10 then 1 else if c3 = 13 then (if 4 = p2 then 1 else if (0 : Int32) = 10 then 0 else 1) else 0))
    rw [if_pos hc2]
  refine Go.s T0 (mkF m 7 #[vR a1, vI p2, vI 4, vI p4, vU] [(.int p4), (.int 4)]) (fun _ hr => yN X0 hx (D 2 rfl) (XT.ii_gt_f hc2) (yj X0 hx (D 3 rfl) rfl (yj X0 hx (D 4 rfl) rfl hr))) ?_
  by_cases hc3 : p4 < 4
  · refine Go.s T0 (mkF m 11 #[vR a1, vI p2, vI 4, vI p4, vU] [(.int 0)]) (fun _ hr => yN X0 hx (D 5 rfl) (XT.ii_le_f hc3) (yc X0 hx (D 6 rfl) hr)) ?_
    refine Go.retI X0 hx hlk hret (D 7 rfl) (by decide) (by decide) ?_
    try rw [e0]
    refine ⟨?_, N0, rfl⟩
    show some (Value.int _) = some (Value.int (if p2 < 4 then 0 else if p4 < 4 then 0 else if c3 = 10 then 1 else if c3 = 13 then (if 4 = p2 then 1 else if (0 : Int32) = 10 then 0 else 1) else 0))
    rw [if_neg hc2, if_pos hc3]
  refine Go.s T0 (mkF m 15 #[vR a1, vI p2, vI 4, vI p4, vU] [(.int 1), (.int 4), (.ref a1)]) (fun _ hr => yY X0 hx (D 5 rfl) (pc' := 12) (XT.ii_le_t hc3) rfl (yb X0 hx (D 8 rfl) rfl rfl (yj X0 hx (D 9 rfl) rfl (yc X0 hx (D 10 rfl) hr)))) ?_
  let j_7 := (mkF m 16 #[vR a1, vI p2, vI 4, vI p4, vU] [(.int 3), (.ref a1)])
  refine Go.s T0 j_7 (fun _ hr => y2 X0 hx (D 11 rfl) hr) ?_
  refine Go.s T0 (mkF m 23 #[vR a1, vI p2, vI 4, vI p4, vI c3] [(.int 10), (.int c3)]) (fun _ hr => (own_ldC X0 hx hZ e0 Ac (j := 3) (v := (.int c3)) (by decide) (by simp +decide) rfl (g := j_7) rfl rfl (D 12 rfl)) _ (yk X0 hx (D 13 rfl) rfl (yi X0 hx (D 14 rfl) rfl (yp X0 hx (D 15 rfl) hr)))) ?_
  by_cases hc4 : c3 = 10
  · refine Go.s T0 (mkF m 27 #[vR a1, vI p2, vI 4, vI p4, vI c3] [(.int 1)]) (fun _ hr => yN X0 hx (D 16 rfl) (XT.ii_ne_f hc4) (yc X0 hx (D 17 rfl) hr)) ?_
    refine Go.retI X0 hx hlk hret (D 18 rfl) (by decide) (by decide) ?_
    try rw [e0]
    refine ⟨?_, N0, rfl⟩
    show some (Value.int _) = some (Value.int (if p2 < 4 then 0 else if p4 < 4 then 0 else if c3 = 10 then 1 else if c3 = 13 then (if 4 = p2 then 1 else if (0 : Int32) = 10 then 0 else 1) else 0))
    rw [if_neg hc2, if_neg hc3, if_pos hc4]
  refine Go.s T0 (mkF m 32 #[vR a1, vI p2, vI 4, vI p4, vI c3] [(.int 13), (.int c3)]) (fun _ hr => yY X0 hx (D 16 rfl) (pc' := 28) (XT.ii_ne_t hc4) rfl (yi X0 hx (D 19 rfl) rfl (yp X0 hx (D 20 rfl) hr))) ?_
  by_cases hc5 : c3 = 13
  · refine Go.s T0 (mkF m 37 #[vR a1, vI p2, vI 4, vI p4, vI c3] [(.int p2), (.int 4)]) (fun _ hr => yN X0 hx (D 21 rfl) (XT.ii_ne_f hc5) (yj X0 hx (D 22 rfl) rfl (yj X0 hx (D 23 rfl) rfl hr))) ?_
    have hp4 : (4 : Int32) = p2 := by
      have q4 : (4 : Int32).toInt = 4 := by decide
      have q := hc2
      rw [Int32.lt_iff_toInt_lt] at q
      rw [← Int32.toInt_inj]; omega
    refine Go.s T0 (mkF m 49 #[vR a1, vI p2, vI 4, vI p4, vI c3] [(.int 1)]) (fun _ hr => yY X0 hx (D 24 rfl) (pc' := 48) (XT.ii_eq_t hp4) rfl (yc X0 hx (D 30 rfl) hr)) ?_
    refine Go.retI X0 hx hlk hret (D 31 rfl) (by decide) (by decide) ?_
    try rw [e0]
    refine ⟨?_, N0, rfl⟩
    show some (Value.int _) = some (Value.int (if p2 < 4 then 0 else if p4 < 4 then 0 else if c3 = 10 then 1 else if c3 = 13 then (if 4 = p2 then 1 else if (0 : Int32) = 10 then 0 else 1) else 0))
    rw [if_neg hc2, if_neg hc3, if_neg hc4, if_pos hc5, if_pos hp4]
  refine Go.s T0 (mkF m 51 #[vR a1, vI p2, vI 4, vI p4, vI c3] [(.int 0)]) (fun _ hr => yY X0 hx (D 21 rfl) (pc' := 50) (XT.ii_ne_t hc5) rfl (yc X0 hx (D 32 rfl) hr)) ?_
  refine Go.retI X0 hx hlk hret (D 33 rfl) (by decide) (by decide) ?_
  try rw [e0]
  refine ⟨?_, N0, rfl⟩
  show some (Value.int _) = some (Value.int (if p2 < 4 then 0 else if p4 < 4 then 0 else if c3 = 10 then 1 else if c3 = 13 then (if 4 = p2 then 1 else if (0 : Int32) = 10 then 0 else 1) else 0))
  rw [if_neg hc2, if_neg hc3, if_neg hc4, if_neg hc5]
theorem pf_2 : plainFor (⟨cL, "raw", "(ZI[C)[C"⟩ : MethodName) = true := plainFor_of_name (by first | (simp [plainName, overriddenIn]; done) | decide +kernel)
theorem rmRaw00 (hw : own_W a0 Z) (a1 : Nat) (h0 : Heap) (n0 : Nat) (Z0 : n0 ≤ h0.size) (c0 c1 c2 c3 : Int32) (Ac : Ary Z h0 a1 .char [(.int c0), (.int c1), (.int c2), (.int c3)]) (n0_ : nar .char c0 = c0) (n1_ : nar .char c1 = c1) (n2_ : nar .char c2 = c2) (n3_ : nar .char c3 = c3) :
    Con l Z ⟨cL, "raw", "(ZI[C)[C"⟩ method_5_code 4 (some (.array .char)) ⟨0, 1, 0, 0⟩ #[(.int 0), (.int 0), (.ref a1)] h0 (fun v h L => ∃ ra : Nat, v = some (.ref ra) ∧ Fr n0 L ∧ Keep h0 h [] ∧ h0.size ≤ ra ∧ Ary Z h ra .char []) := by
  refine Con.o (L := #[vI 0, vI 0, vR a1, vU]) n0 d3 pf_2 (by simp [argsToLocals, Value.category]) ?_
  intro p e s m _ _ c T0 X0 hx hby hml hZ hown hnm hret hlk e0 N0 D
  have lt_1 := own_ltA Ac
  let j_8 := (mkF m 12 #[vI 0, vI 0, vR a1, vI 65279] [(.int 0)])
  refine Go.s T0 j_8 (fun _ hr => (own_ldc X0 hx hZ hown (index := 37) (x := 65279) (hq hw 20 rfl) (g := (mkF m 0 #[vI 0, vI 0, vR a1, vU] [])) rfl (D 0 rfl)) _ (yl X0 hx (D 1 rfl) rfl (yj X0 hx (D 2 rfl) rfl (yM X0 hx (D 3 rfl) (XT.i0_ne_f (by decide)) (yj X0 hx (D 4 rfl) rfl (yM X0 hx (D 5 rfl) (XT.i0_ne_f (by decide)) (yc X0 hx (D 6 rfl) hr))))))) ?_
  obtain ⟨T_2, h_2, X_2, e_2, E_2, A_2, st_2⟩ := own_newP X0 hx hZ (ty := .char) rfl (hq hw 0 rfl) e0 (g := j_8) rfl (D 7 rfl) rfl (by decide) (cap := 0) (by decide) (by decide) (by decide) (by decide)
  obtain ⟨ad_2, g_2⟩ : ∃ z, z = h0.size := ⟨_, rfl⟩
  rw [← g_2] at A_2 st_2
  have z_2 := E_2.1
  have y_2 := own_ltA A_2
  have B_2 : Ary Z h_2 ad_2 .char [] := A_2
  refine Go.s T_2 (mkF m 14 #[vI 0, vI 0, vR a1, vI 65279] [(.ref ad_2)]) st_2 ?_
  refine Go.retA X_2 hx hlk (t := (.array .char)) hret rfl rfl (D 8 rfl) (by decide) (by decide) ?_
  try rw [e_2]
  exact ⟨ad_2, rfl, N0, ((Keep.refl h0 []).ext E_2), by omega, B_2⟩
theorem rmRaw01 (hw : own_W a0 Z) (a1 : Nat) (h0 : Heap) (n0 : Nat) (Z0 : n0 ≤ h0.size) (c0 c1 c2 c3 : Int32) (Ac : Ary Z h0 a1 .char [(.int c0), (.int c1), (.int c2), (.int c3)]) (n0_ : nar .char c0 = c0) (n1_ : nar .char c1 = c1) (n2_ : nar .char c2 = c2) (n3_ : nar .char c3 = c3) :
    Con l Z ⟨cL, "raw", "(ZI[C)[C"⟩ method_5_code 4 (some (.array .char)) ⟨0, 1, 1, 0⟩ #[(.int 0), (.int 1), (.ref a1)] h0 (fun v h L => ∃ ra : Nat, v = some (.ref ra) ∧ Fr n0 L ∧ Keep h0 h [] ∧ h0.size ≤ ra ∧ Ary Z h ra .char [(.int c0)]) := by
  refine Con.o (L := #[vI 0, vI 1, vR a1, vU]) n0 d3 pf_2 (by simp [argsToLocals, Value.category]) ?_
  intro p e s m _ _ c T0 X0 hx hby hml hZ hown hnm hret hlk e0 N0 D
  have lt_1 := own_ltA Ac
  let j_9 := (mkF m 21 #[vI 0, vI 1, vR a1, vI 65279] [(.int 1)])
  refine Go.s T0 j_9 (fun _ hr => (own_ldc X0 hx hZ hown (index := 37) (x := 65279) (hq hw 20 rfl) (g := (mkF m 0 #[vI 0, vI 1, vR a1, vU] [])) rfl (D 0 rfl)) _ (yl X0 hx (D 1 rfl) rfl (yj X0 hx (D 2 rfl) rfl (yM X0 hx (D 3 rfl) (XT.i0_ne_f (by decide)) (yj X0 hx (D 4 rfl) rfl (yX X0 hx (D 5 rfl) (pc' := 15) (XT.i0_ne_t (by decide)) rfl (yj X0 hx (D 9 rfl) rfl (yc X0 hx (D 10 rfl) (yN X0 hx (D 11 rfl) (XT.ii_ne_f (by decide)) (yc X0 hx (D 12 rfl) hr)))))))))) ?_
  obtain ⟨T_2, h_2, X_2, e_2, E_2, A_2, st_2⟩ := own_newP X0 hx hZ (ty := .char) rfl (hq hw 0 rfl) e0 (g := j_9) rfl (D 13 rfl) rfl (by decide) (cap := 1) (by decide) (by decide) (by decide) (by decide)
  obtain ⟨ad_2, g_2⟩ : ∃ z, z = h0.size := ⟨_, rfl⟩
  rw [← g_2] at A_2 st_2
  have z_2 := E_2.1
  have y_2 := own_ltA A_2
  have B_2 : Ary Z h_2 ad_2 .char [(.int 0)] := A_2
  let j_10 := (mkF m 27 #[vI 0, vI 1, vR a1, vI 65279] [(.int 0), (.ref a1), (.int 0), (.ref ad_2), (.ref ad_2)])
  refine Go.s T_2 j_10 (fun _ hr => st_2 _ (yd X_2 hx (D 14 rfl) rfl (yc X_2 hx (D 15 rfl) (yb X_2 hx (D 16 rfl) rfl rfl (yc X_2 hx (D 17 rfl) hr))))) ?_
  have F_3 := (Ac.ext E_2)
  let j_11 := (mkF m 28 #[vI 0, vI 1, vR a1, vI 65279] [(.int c0), (.int 0), (.ref ad_2), (.ref ad_2)])
  refine Go.s T_2 j_11 (own_ldC X_2 hx hZ e_2 F_3 (j := 0) (v := (.int c0)) (by decide) (by simp +decide) rfl (g := j_10) rfl rfl (D 18 rfl)) ?_
  obtain ⟨T_4, h_4, X_4, e_4, W_4, A_4, st_4⟩ := own_stC X_2 hx hZ e_2 B_2 (j := 0) (by decide) (by simp +decide) (g := j_11) rfl rfl (D 19 rfl)
  have N_4 := Fr.snoc X_4 N0 (by omega)
  have z_4 := W_4.size
  rw [show nar .char c0 = c0 from n0_] at A_4
  have B_4 : Ary Z h_4 ad_2 .char [(.int c0)] := A_4
  refine Go.s T_4 (mkF m 29 #[vI 0, vI 1, vR a1, vI 65279] [(.ref ad_2)]) st_4 ?_
  refine Go.retA X_4 hx hlk (t := (.array .char)) hret rfl rfl (D 20 rfl) (by decide) (by decide) ?_
  try rw [e_4]
  exact ⟨ad_2, rfl, N_4, (((Keep.refl h0 []).ext E_2).wr W_4 (Or.inr (by omega))), by omega, B_4⟩
theorem rmRaw02 (hw : own_W a0 Z) (a1 : Nat) (h0 : Heap) (n0 : Nat) (Z0 : n0 ≤ h0.size) (c0 c1 c2 c3 : Int32) (Ac : Ary Z h0 a1 .char [(.int c0), (.int c1), (.int c2), (.int c3)]) (n0_ : nar .char c0 = c0) (n1_ : nar .char c1 = c1) (n2_ : nar .char c2 = c2) (n3_ : nar .char c3 = c3) :
    Con l Z ⟨cL, "raw", "(ZI[C)[C"⟩ method_5_code 4 (some (.array .char)) ⟨0, 1, 2, 0⟩ #[(.int 0), (.int 2), (.ref a1)] h0 (fun v h L => ∃ ra : Nat, v = some (.ref ra) ∧ Fr n0 L ∧ Keep h0 h [] ∧ h0.size ≤ ra ∧ Ary Z h ra .char [(.int c0), (.int c1)]) := by
  refine Con.o (L := #[vI 0, vI 2, vR a1, vU]) n0 d3 pf_2 (by simp [argsToLocals, Value.category]) ?_
  intro p e s m _ _ c T0 X0 hx hby hml hZ hown hnm hret hlk e0 N0 D
  have lt_1 := own_ltA Ac
  let j_12 := (mkF m 36 #[vI 0, vI 2, vR a1, vI 65279] [(.int 2)])
  refine Go.s T0 j_12 (fun _ hr => (own_ldc X0 hx hZ hown (index := 37) (x := 65279) (hq hw 20 rfl) (g := (mkF m 0 #[vI 0, vI 2, vR a1, vU] [])) rfl (D 0 rfl)) _ (yl X0 hx (D 1 rfl) rfl (yj X0 hx (D 2 rfl) rfl (yM X0 hx (D 3 rfl) (XT.i0_ne_f (by decide)) (yj X0 hx (D 4 rfl) rfl (yX X0 hx (D 5 rfl) (pc' := 15) (XT.i0_ne_t (by decide)) rfl (yj X0 hx (D 9 rfl) rfl (yc X0 hx (D 10 rfl) (yY X0 hx (D 11 rfl) (pc' := 30) (XT.ii_ne_t (by decide)) rfl (yj X0 hx (D 21 rfl) rfl (yc X0 hx (D 22 rfl) (yN X0 hx (D 23 rfl) (XT.ii_ne_f (by decide)) (yc X0 hx (D 24 rfl) hr))))))))))))) ?_
  obtain ⟨T_2, h_2, X_2, e_2, E_2, A_2, st_2⟩ := own_newP X0 hx hZ (ty := .char) rfl (hq hw 0 rfl) e0 (g := j_12) rfl (D 25 rfl) rfl (by decide) (cap := 2) (by decide) (by decide) (by decide) (by decide)
  obtain ⟨ad_2, g_2⟩ : ∃ z, z = h0.size := ⟨_, rfl⟩
  rw [← g_2] at A_2 st_2
  have z_2 := E_2.1
  have y_2 := own_ltA A_2
  have B_2 : Ary Z h_2 ad_2 .char [(.int 0), (.int 0)] := A_2
  let j_13 := (mkF m 42 #[vI 0, vI 2, vR a1, vI 65279] [(.int 0), (.ref a1), (.int 0), (.ref ad_2), (.ref ad_2)])
  refine Go.s T_2 j_13 (fun _ hr => st_2 _ (yd X_2 hx (D 26 rfl) rfl (yc X_2 hx (D 27 rfl) (yb X_2 hx (D 28 rfl) rfl rfl (yc X_2 hx (D 29 rfl) hr))))) ?_
  have F_3 := (Ac.ext E_2)
  let j_14 := (mkF m 43 #[vI 0, vI 2, vR a1, vI 65279] [(.int c0), (.int 0), (.ref ad_2), (.ref ad_2)])
  refine Go.s T_2 j_14 (own_ldC X_2 hx hZ e_2 F_3 (j := 0) (v := (.int c0)) (by decide) (by simp +decide) rfl (g := j_13) rfl rfl (D 30 rfl)) ?_
  obtain ⟨T_4, h_4, X_4, e_4, W_4, A_4, st_4⟩ := own_stC X_2 hx hZ e_2 B_2 (j := 0) (by decide) (by simp +decide) (g := j_14) rfl rfl (D 31 rfl)
  have N_4 := Fr.snoc X_4 N0 (by omega)
  have z_4 := W_4.size
  rw [show nar .char c0 = c0 from n0_] at A_4
  have B_4 : Ary Z h_4 ad_2 .char [(.int c0), (.int 0)] := A_4
  let j_15 := (mkF m 48 #[vI 0, vI 2, vR a1, vI 65279] [(.int 1), (.ref a1), (.int 1), (.ref ad_2), (.ref ad_2)])
  refine Go.s T_4 j_15 (fun _ hr => st_4 _ (yd X_4 hx (D 32 rfl) rfl (yc X_4 hx (D 33 rfl) (yb X_4 hx (D 34 rfl) rfl rfl (yc X_4 hx (D 35 rfl) hr))))) ?_
  have F_5 := (F_3.other W_4 (own_ne (by omega)))
  let j_16 := (mkF m 49 #[vI 0, vI 2, vR a1, vI 65279] [(.int c1), (.int 1), (.ref ad_2), (.ref ad_2)])
  refine Go.s T_4 j_16 (own_ldC X_4 hx hZ e_4 F_5 (j := 1) (v := (.int c1)) (by decide) (by simp +decide) rfl (g := j_15) rfl rfl (D 36 rfl)) ?_
  obtain ⟨T_6, h_6, X_6, e_6, W_6, A_6, st_6⟩ := own_stC X_4 hx hZ e_4 B_4 (j := 1) (by decide) (by simp +decide) (g := j_16) rfl rfl (D 37 rfl)
  have N_6 := Fr.snoc X_6 N_4 (by omega)
  have z_6 := W_6.size
  rw [show nar .char c1 = c1 from n1_] at A_6
  have B_6 : Ary Z h_6 ad_2 .char [(.int c0), (.int c1)] := A_6
  refine Go.s T_6 (mkF m 50 #[vI 0, vI 2, vR a1, vI 65279] [(.ref ad_2)]) st_6 ?_
  refine Go.retA X_6 hx hlk (t := (.array .char)) hret rfl rfl (D 38 rfl) (by decide) (by decide) ?_
  try rw [e_6]
  exact ⟨ad_2, rfl, N_6, ((((Keep.refl h0 []).ext E_2).wr W_4 (Or.inr (by omega))).wr W_6 (Or.inr (by omega))), by omega, B_6⟩
theorem rmRaw03 (hw : own_W a0 Z) (a1 : Nat) (h0 : Heap) (n0 : Nat) (Z0 : n0 ≤ h0.size) (c0 c1 c2 c3 : Int32) (Ac : Ary Z h0 a1 .char [(.int c0), (.int c1), (.int c2), (.int c3)]) (n0_ : nar .char c0 = c0) (n1_ : nar .char c1 = c1) (n2_ : nar .char c2 = c2) (n3_ : nar .char c3 = c3) :
    Con l Z ⟨cL, "raw", "(ZI[C)[C"⟩ method_5_code 4 (some (.array .char)) ⟨0, 1, 3, 0⟩ #[(.int 0), (.int 3), (.ref a1)] h0 (fun v h L => ∃ ra : Nat, v = some (.ref ra) ∧ Fr n0 L ∧ Keep h0 h [] ∧ h0.size ≤ ra ∧ Ary Z h ra .char [(.int c0), (.int c1), (.int c2)]) := by
  refine Con.o (L := #[vI 0, vI 3, vR a1, vU]) n0 d3 pf_2 (by simp [argsToLocals, Value.category]) ?_
  intro p e s m _ _ c T0 X0 hx hby hml hZ hown hnm hret hlk e0 N0 D
  have lt_1 := own_ltA Ac
  refine Go.s T0 (mkF m 53 #[vI 0, vI 3, vR a1, vI 65279] [(.int 3), (.int 3)]) (fun _ hr => (own_ldc X0 hx hZ hown (index := 37) (x := 65279) (hq hw 20 rfl) (g := (mkF m 0 #[vI 0, vI 3, vR a1, vU] [])) rfl (D 0 rfl)) _ (yl X0 hx (D 1 rfl) rfl (yj X0 hx (D 2 rfl) rfl (yM X0 hx (D 3 rfl) (XT.i0_ne_f (by decide)) (yj X0 hx (D 4 rfl) rfl (yX X0 hx (D 5 rfl) (pc' := 15) (XT.i0_ne_t (by decide)) rfl (yj X0 hx (D 9 rfl) rfl (yc X0 hx (D 10 rfl) (yY X0 hx (D 11 rfl) (pc' := 30) (XT.ii_ne_t (by decide)) rfl (yj X0 hx (D 21 rfl) rfl (yc X0 hx (D 22 rfl) (yY X0 hx (D 23 rfl) (pc' := 51) (XT.ii_ne_t (by decide)) rfl (yj X0 hx (D 39 rfl) rfl (yc X0 hx (D 40 rfl) hr)))))))))))))) ?_
  let j_17 := (mkF m 57 #[vI 0, vI 3, vR a1, vI 65279] [(.int 3)])
  refine Go.s T0 j_17 (fun _ hr => yN X0 hx (D 41 rfl) (XT.ii_ne_f (by decide)) (yc X0 hx (D 42 rfl) hr)) ?_
  obtain ⟨T_2, h_2, X_2, e_2, E_2, A_2, st_2⟩ := own_newP X0 hx hZ (ty := .char) rfl (hq hw 0 rfl) e0 (g := j_17) rfl (D 43 rfl) rfl (by decide) (cap := 3) (by decide) (by decide) (by decide) (by decide)
  obtain ⟨ad_2, g_2⟩ : ∃ z, z = h0.size := ⟨_, rfl⟩
  rw [← g_2] at A_2 st_2
  have z_2 := E_2.1
  have y_2 := own_ltA A_2
  have B_2 : Ary Z h_2 ad_2 .char [(.int 0), (.int 0), (.int 0)] := A_2
  let j_18 := (mkF m 63 #[vI 0, vI 3, vR a1, vI 65279] [(.int 0), (.ref a1), (.int 0), (.ref ad_2), (.ref ad_2)])
  refine Go.s T_2 j_18 (fun _ hr => st_2 _ (yd X_2 hx (D 44 rfl) rfl (yc X_2 hx (D 45 rfl) (yb X_2 hx (D 46 rfl) rfl rfl (yc X_2 hx (D 47 rfl) hr))))) ?_
  have F_3 := (Ac.ext E_2)
  let j_19 := (mkF m 64 #[vI 0, vI 3, vR a1, vI 65279] [(.int c0), (.int 0), (.ref ad_2), (.ref ad_2)])
  refine Go.s T_2 j_19 (own_ldC X_2 hx hZ e_2 F_3 (j := 0) (v := (.int c0)) (by decide) (by simp +decide) rfl (g := j_18) rfl rfl (D 48 rfl)) ?_
  obtain ⟨T_4, h_4, X_4, e_4, W_4, A_4, st_4⟩ := own_stC X_2 hx hZ e_2 B_2 (j := 0) (by decide) (by simp +decide) (g := j_19) rfl rfl (D 49 rfl)
  have N_4 := Fr.snoc X_4 N0 (by omega)
  have z_4 := W_4.size
  rw [show nar .char c0 = c0 from n0_] at A_4
  have B_4 : Ary Z h_4 ad_2 .char [(.int c0), (.int 0), (.int 0)] := A_4
  let j_20 := (mkF m 69 #[vI 0, vI 3, vR a1, vI 65279] [(.int 1), (.ref a1), (.int 1), (.ref ad_2), (.ref ad_2)])
  refine Go.s T_4 j_20 (fun _ hr => st_4 _ (yd X_4 hx (D 50 rfl) rfl (yc X_4 hx (D 51 rfl) (yb X_4 hx (D 52 rfl) rfl rfl (yc X_4 hx (D 53 rfl) hr))))) ?_
  have F_5 := (F_3.other W_4 (own_ne (by omega)))
  let j_21 := (mkF m 70 #[vI 0, vI 3, vR a1, vI 65279] [(.int c1), (.int 1), (.ref ad_2), (.ref ad_2)])
  refine Go.s T_4 j_21 (own_ldC X_4 hx hZ e_4 F_5 (j := 1) (v := (.int c1)) (by decide) (by simp +decide) rfl (g := j_20) rfl rfl (D 54 rfl)) ?_
  obtain ⟨T_6, h_6, X_6, e_6, W_6, A_6, st_6⟩ := own_stC X_4 hx hZ e_4 B_4 (j := 1) (by decide) (by simp +decide) (g := j_21) rfl rfl (D 55 rfl)
  have N_6 := Fr.snoc X_6 N_4 (by omega)
  have z_6 := W_6.size
  rw [show nar .char c1 = c1 from n1_] at A_6
  have B_6 : Ary Z h_6 ad_2 .char [(.int c0), (.int c1), (.int 0)] := A_6
  let j_22 := (mkF m 75 #[vI 0, vI 3, vR a1, vI 65279] [(.int 2), (.ref a1), (.int 2), (.ref ad_2), (.ref ad_2)])
  refine Go.s T_6 j_22 (fun _ hr => st_6 _ (yd X_6 hx (D 56 rfl) rfl (yc X_6 hx (D 57 rfl) (yb X_6 hx (D 58 rfl) rfl rfl (yc X_6 hx (D 59 rfl) hr))))) ?_
  have F_7 := (F_5.other W_6 (own_ne (by omega)))
  let j_23 := (mkF m 76 #[vI 0, vI 3, vR a1, vI 65279] [(.int c2), (.int 2), (.ref ad_2), (.ref ad_2)])
  refine Go.s T_6 j_23 (own_ldC X_6 hx hZ e_6 F_7 (j := 2) (v := (.int c2)) (by decide) (by simp +decide) rfl (g := j_22) rfl rfl (D 60 rfl)) ?_
  obtain ⟨T_8, h_8, X_8, e_8, W_8, A_8, st_8⟩ := own_stC X_6 hx hZ e_6 B_6 (j := 2) (by decide) (by simp +decide) (g := j_23) rfl rfl (D 61 rfl)
  have N_8 := Fr.snoc X_8 N_6 (by omega)
  have z_8 := W_8.size
  rw [show nar .char c2 = c2 from n2_] at A_8
  have B_8 : Ary Z h_8 ad_2 .char [(.int c0), (.int c1), (.int c2)] := A_8
  refine Go.s T_8 (mkF m 77 #[vI 0, vI 3, vR a1, vI 65279] [(.ref ad_2)]) st_8 ?_
  refine Go.retA X_8 hx hlk (t := (.array .char)) hret rfl rfl (D 62 rfl) (by decide) (by decide) ?_
  try rw [e_8]
  exact ⟨ad_2, rfl, N_8, (((((Keep.refl h0 []).ext E_2).wr W_4 (Or.inr (by omega))).wr W_6 (Or.inr (by omega))).wr W_8 (Or.inr (by omega))), by omega, B_8⟩
theorem rmRaw04 (hw : own_W a0 Z) (a1 : Nat) (h0 : Heap) (n0 : Nat) (Z0 : n0 ≤ h0.size) (c0 c1 c2 c3 : Int32) (Ac : Ary Z h0 a1 .char [(.int c0), (.int c1), (.int c2), (.int c3)]) (n0_ : nar .char c0 = c0) (n1_ : nar .char c1 = c1) (n2_ : nar .char c2 = c2) (n3_ : nar .char c3 = c3) :
    Con l Z ⟨cL, "raw", "(ZI[C)[C"⟩ method_5_code 4 (some (.array .char)) ⟨0, 1, 4, 0⟩ #[(.int 0), (.int 4), (.ref a1)] h0 (fun v h L => ∃ ra : Nat, v = some (.ref ra) ∧ Fr n0 L ∧ Keep h0 h [] ∧ h0.size ≤ ra ∧ Ary Z h ra .char [(.int c0), (.int c1), (.int c2), (.int c3)]) := by
  refine Con.o (L := #[vI 0, vI 4, vR a1, vU]) n0 d3 pf_2 (by simp [argsToLocals, Value.category]) ?_
  intro p e s m _ _ c T0 X0 hx hby hml hZ hown hnm hret hlk e0 N0 D
  have lt_1 := own_ltA Ac
  refine Go.s T0 (mkF m 53 #[vI 0, vI 4, vR a1, vI 65279] [(.int 3), (.int 4)]) (fun _ hr => (own_ldc X0 hx hZ hown (index := 37) (x := 65279) (hq hw 20 rfl) (g := (mkF m 0 #[vI 0, vI 4, vR a1, vU] [])) rfl (D 0 rfl)) _ (yl X0 hx (D 1 rfl) rfl (yj X0 hx (D 2 rfl) rfl (yM X0 hx (D 3 rfl) (XT.i0_ne_f (by decide)) (yj X0 hx (D 4 rfl) rfl (yX X0 hx (D 5 rfl) (pc' := 15) (XT.i0_ne_t (by decide)) rfl (yj X0 hx (D 9 rfl) rfl (yc X0 hx (D 10 rfl) (yY X0 hx (D 11 rfl) (pc' := 30) (XT.ii_ne_t (by decide)) rfl (yj X0 hx (D 21 rfl) rfl (yc X0 hx (D 22 rfl) (yY X0 hx (D 23 rfl) (pc' := 51) (XT.ii_ne_t (by decide)) rfl (yj X0 hx (D 39 rfl) rfl (yc X0 hx (D 40 rfl) hr)))))))))))))) ?_
  let j_24 := (mkF m 79 #[vI 0, vI 4, vR a1, vI 65279] [(.int 4)])
  refine Go.s T0 j_24 (fun _ hr => yY X0 hx (D 41 rfl) (pc' := 78) (XT.ii_ne_t (by decide)) rfl (yc X0 hx (D 63 rfl) hr)) ?_
  obtain ⟨T_2, h_2, X_2, e_2, E_2, A_2, st_2⟩ := own_newP X0 hx hZ (ty := .char) rfl (hq hw 0 rfl) e0 (g := j_24) rfl (D 64 rfl) rfl (by decide) (cap := 4) (by decide) (by decide) (by decide) (by decide)
  obtain ⟨ad_2, g_2⟩ : ∃ z, z = h0.size := ⟨_, rfl⟩
  rw [← g_2] at A_2 st_2
  have z_2 := E_2.1
  have y_2 := own_ltA A_2
  have B_2 : Ary Z h_2 ad_2 .char [(.int 0), (.int 0), (.int 0), (.int 0)] := A_2
  let j_25 := (mkF m 85 #[vI 0, vI 4, vR a1, vI 65279] [(.int 0), (.ref a1), (.int 0), (.ref ad_2), (.ref ad_2)])
  refine Go.s T_2 j_25 (fun _ hr => st_2 _ (yd X_2 hx (D 65 rfl) rfl (yc X_2 hx (D 66 rfl) (yb X_2 hx (D 67 rfl) rfl rfl (yc X_2 hx (D 68 rfl) hr))))) ?_
  have F_3 := (Ac.ext E_2)
  let j_26 := (mkF m 86 #[vI 0, vI 4, vR a1, vI 65279] [(.int c0), (.int 0), (.ref ad_2), (.ref ad_2)])
  refine Go.s T_2 j_26 (own_ldC X_2 hx hZ e_2 F_3 (j := 0) (v := (.int c0)) (by decide) (by simp +decide) rfl (g := j_25) rfl rfl (D 69 rfl)) ?_
  obtain ⟨T_4, h_4, X_4, e_4, W_4, A_4, st_4⟩ := own_stC X_2 hx hZ e_2 B_2 (j := 0) (by decide) (by simp +decide) (g := j_26) rfl rfl (D 70 rfl)
  have N_4 := Fr.snoc X_4 N0 (by omega)
  have z_4 := W_4.size
  rw [show nar .char c0 = c0 from n0_] at A_4
  have B_4 : Ary Z h_4 ad_2 .char [(.int c0), (.int 0), (.int 0), (.int 0)] := A_4
  let j_27 := (mkF m 91 #[vI 0, vI 4, vR a1, vI 65279] [(.int 1), (.ref a1), (.int 1), (.ref ad_2), (.ref ad_2)])
  refine Go.s T_4 j_27 (fun _ hr => st_4 _ (yd X_4 hx (D 71 rfl) rfl (yc X_4 hx (D 72 rfl) (yb X_4 hx (D 73 rfl) rfl rfl (yc X_4 hx (D 74 rfl) hr))))) ?_
  have F_5 := (F_3.other W_4 (own_ne (by omega)))
  let j_28 := (mkF m 92 #[vI 0, vI 4, vR a1, vI 65279] [(.int c1), (.int 1), (.ref ad_2), (.ref ad_2)])
  refine Go.s T_4 j_28 (own_ldC X_4 hx hZ e_4 F_5 (j := 1) (v := (.int c1)) (by decide) (by simp +decide) rfl (g := j_27) rfl rfl (D 75 rfl)) ?_
  obtain ⟨T_6, h_6, X_6, e_6, W_6, A_6, st_6⟩ := own_stC X_4 hx hZ e_4 B_4 (j := 1) (by decide) (by simp +decide) (g := j_28) rfl rfl (D 76 rfl)
  have N_6 := Fr.snoc X_6 N_4 (by omega)
  have z_6 := W_6.size
  rw [show nar .char c1 = c1 from n1_] at A_6
  have B_6 : Ary Z h_6 ad_2 .char [(.int c0), (.int c1), (.int 0), (.int 0)] := A_6
  let j_29 := (mkF m 97 #[vI 0, vI 4, vR a1, vI 65279] [(.int 2), (.ref a1), (.int 2), (.ref ad_2), (.ref ad_2)])
  refine Go.s T_6 j_29 (fun _ hr => st_6 _ (yd X_6 hx (D 77 rfl) rfl (yc X_6 hx (D 78 rfl) (yb X_6 hx (D 79 rfl) rfl rfl (yc X_6 hx (D 80 rfl) hr))))) ?_
  have F_7 := (F_5.other W_6 (own_ne (by omega)))
  let j_30 := (mkF m 98 #[vI 0, vI 4, vR a1, vI 65279] [(.int c2), (.int 2), (.ref ad_2), (.ref ad_2)])
  refine Go.s T_6 j_30 (own_ldC X_6 hx hZ e_6 F_7 (j := 2) (v := (.int c2)) (by decide) (by simp +decide) rfl (g := j_29) rfl rfl (D 81 rfl)) ?_
  obtain ⟨T_8, h_8, X_8, e_8, W_8, A_8, st_8⟩ := own_stC X_6 hx hZ e_6 B_6 (j := 2) (by decide) (by simp +decide) (g := j_30) rfl rfl (D 82 rfl)
  have N_8 := Fr.snoc X_8 N_6 (by omega)
  have z_8 := W_8.size
  rw [show nar .char c2 = c2 from n2_] at A_8
  have B_8 : Ary Z h_8 ad_2 .char [(.int c0), (.int c1), (.int c2), (.int 0)] := A_8
  let j_31 := (mkF m 103 #[vI 0, vI 4, vR a1, vI 65279] [(.int 3), (.ref a1), (.int 3), (.ref ad_2), (.ref ad_2)])
  refine Go.s T_8 j_31 (fun _ hr => st_8 _ (yd X_8 hx (D 83 rfl) rfl (yc X_8 hx (D 84 rfl) (yb X_8 hx (D 85 rfl) rfl rfl (yc X_8 hx (D 86 rfl) hr))))) ?_
  have F_9 := (F_7.other W_8 (own_ne (by omega)))
  let j_32 := (mkF m 104 #[vI 0, vI 4, vR a1, vI 65279] [(.int c3), (.int 3), (.ref ad_2), (.ref ad_2)])
  refine Go.s T_8 j_32 (own_ldC X_8 hx hZ e_8 F_9 (j := 3) (v := (.int c3)) (by decide) (by simp +decide) rfl (g := j_31) rfl rfl (D 87 rfl)) ?_
  obtain ⟨T_10, h_10, X_10, e_10, W_10, A_10, st_10⟩ := own_stC X_8 hx hZ e_8 B_8 (j := 3) (by decide) (by simp +decide) (g := j_32) rfl rfl (D 88 rfl)
  have N_10 := Fr.snoc X_10 N_8 (by omega)
  have z_10 := W_10.size
  rw [show nar .char c3 = c3 from n3_] at A_10
  have B_10 : Ary Z h_10 ad_2 .char [(.int c0), (.int c1), (.int c2), (.int c3)] := A_10
  refine Go.s T_10 (mkF m 105 #[vI 0, vI 4, vR a1, vI 65279] [(.ref ad_2)]) st_10 ?_
  refine Go.retA X_10 hx hlk (t := (.array .char)) hret rfl rfl (D 89 rfl) (by decide) (by decide) ?_
  try rw [e_10]
  exact ⟨ad_2, rfl, N_10, ((((((Keep.refl h0 []).ext E_2).wr W_4 (Or.inr (by omega))).wr W_6 (Or.inr (by omega))).wr W_8 (Or.inr (by omega))).wr W_10 (Or.inr (by omega))), by omega, B_10⟩
theorem rmRaw10 (hw : own_W a0 Z) (a1 : Nat) (h0 : Heap) (n0 : Nat) (Z0 : n0 ≤ h0.size) (c0 c1 c2 c3 : Int32) (Ac : Ary Z h0 a1 .char [(.int c0), (.int c1), (.int c2), (.int c3)]) (n0_ : nar .char c0 = c0) (n1_ : nar .char c1 = c1) (n2_ : nar .char c2 = c2) (n3_ : nar .char c3 = c3) :
    Con l Z ⟨cL, "raw", "(ZI[C)[C"⟩ method_5_code 4 (some (.array .char)) ⟨0, 1, 1, 0⟩ #[(.int 1), (.int 0), (.ref a1)] h0 (fun v h L => ∃ ra : Nat, v = some (.ref ra) ∧ Fr n0 L ∧ Keep h0 h [] ∧ h0.size ≤ ra ∧ Ary Z h ra .char [(.int 65279)]) := by
  refine Con.o (L := #[vI 1, vI 0, vR a1, vU]) n0 d3 pf_2 (by simp [argsToLocals, Value.category]) ?_
  intro p e s m _ _ c T0 X0 hx hby hml hZ hown hnm hret hlk e0 N0 D
  have lt_1 := own_ltA Ac
  let j_33 := (mkF m 111 #[vI 1, vI 0, vR a1, vI 65279] [(.int 1)])
  refine Go.s T0 j_33 (fun _ hr => (own_ldc X0 hx hZ hown (index := 37) (x := 65279) (hq hw 20 rfl) (g := (mkF m 0 #[vI 1, vI 0, vR a1, vU] [])) rfl (D 0 rfl)) _ (yl X0 hx (D 1 rfl) rfl (yj X0 hx (D 2 rfl) rfl (yX X0 hx (D 3 rfl) (pc' := 106) (XT.i0_ne_t (by decide)) rfl (yj X0 hx (D 90 rfl) rfl (yM X0 hx (D 91 rfl) (XT.i0_ne_f (by decide)) (yc X0 hx (D 92 rfl) hr))))))) ?_
  obtain ⟨T_2, h_2, X_2, e_2, E_2, A_2, st_2⟩ := own_newP X0 hx hZ (ty := .char) rfl (hq hw 0 rfl) e0 (g := j_33) rfl (D 93 rfl) rfl (by decide) (cap := 1) (by decide) (by decide) (by decide) (by decide)
  obtain ⟨ad_2, g_2⟩ : ∃ z, z = h0.size := ⟨_, rfl⟩
  rw [← g_2] at A_2 st_2
  have z_2 := E_2.1
  have y_2 := own_ltA A_2
  have B_2 : Ary Z h_2 ad_2 .char [(.int 0)] := A_2
  let j_34 := (mkF m 116 #[vI 1, vI 0, vR a1, vI 65279] [(.int 65279), (.int 0), (.ref ad_2), (.ref ad_2)])
  refine Go.s T_2 j_34 (fun _ hr => st_2 _ (yd X_2 hx (D 94 rfl) rfl (yc X_2 hx (D 95 rfl) (yj X_2 hx (D 96 rfl) rfl hr)))) ?_
  obtain ⟨T_3, h_3, X_3, e_3, W_3, A_3, st_3⟩ := own_stC X_2 hx hZ e_2 B_2 (j := 0) (by decide) (by simp +decide) (g := j_34) rfl rfl (D 97 rfl)
  have N_3 := Fr.snoc X_3 N0 (by omega)
  have z_3 := W_3.size
  rw [show nar .char (65279 : Int32) = 65279 from (by decide : nar .char (65279 : Int32) = 65279)] at A_3
  have B_3 : Ary Z h_3 ad_2 .char [(.int 65279)] := A_3
  refine Go.s T_3 (mkF m 117 #[vI 1, vI 0, vR a1, vI 65279] [(.ref ad_2)]) st_3 ?_
  refine Go.retA X_3 hx hlk (t := (.array .char)) hret rfl rfl (D 98 rfl) (by decide) (by decide) ?_
  try rw [e_3]
  exact ⟨ad_2, rfl, N_3, (((Keep.refl h0 []).ext E_2).wr W_3 (Or.inr (by omega))), by omega, B_3⟩
theorem rmRaw11 (hw : own_W a0 Z) (a1 : Nat) (h0 : Heap) (n0 : Nat) (Z0 : n0 ≤ h0.size) (c0 c1 c2 c3 : Int32) (Ac : Ary Z h0 a1 .char [(.int c0), (.int c1), (.int c2), (.int c3)]) (n0_ : nar .char c0 = c0) (n1_ : nar .char c1 = c1) (n2_ : nar .char c2 = c2) (n3_ : nar .char c3 = c3) :
    Con l Z ⟨cL, "raw", "(ZI[C)[C"⟩ method_5_code 4 (some (.array .char)) ⟨0, 1, 2, 0⟩ #[(.int 1), (.int 1), (.ref a1)] h0 (fun v h L => ∃ ra : Nat, v = some (.ref ra) ∧ Fr n0 L ∧ Keep h0 h [] ∧ h0.size ≤ ra ∧ Ary Z h ra .char [(.int 65279), (.int c0)]) := by
  refine Con.o (L := #[vI 1, vI 1, vR a1, vU]) n0 d3 pf_2 (by simp [argsToLocals, Value.category]) ?_
  intro p e s m _ _ c T0 X0 hx hby hml hZ hown hnm hret hlk e0 N0 D
  have lt_1 := own_ltA Ac
  let j_35 := (mkF m 124 #[vI 1, vI 1, vR a1, vI 65279] [(.int 2)])
  refine Go.s T0 j_35 (fun _ hr => (own_ldc X0 hx hZ hown (index := 37) (x := 65279) (hq hw 20 rfl) (g := (mkF m 0 #[vI 1, vI 1, vR a1, vU] [])) rfl (D 0 rfl)) _ (yl X0 hx (D 1 rfl) rfl (yj X0 hx (D 2 rfl) rfl (yX X0 hx (D 3 rfl) (pc' := 106) (XT.i0_ne_t (by decide)) rfl (yj X0 hx (D 90 rfl) rfl (yX X0 hx (D 91 rfl) (pc' := 118) (XT.i0_ne_t (by decide)) rfl (yj X0 hx (D 99 rfl) rfl (yc X0 hx (D 100 rfl) (yN X0 hx (D 101 rfl) (XT.ii_ne_f (by decide)) (yc X0 hx (D 102 rfl) hr)))))))))) ?_
  obtain ⟨T_2, h_2, X_2, e_2, E_2, A_2, st_2⟩ := own_newP X0 hx hZ (ty := .char) rfl (hq hw 0 rfl) e0 (g := j_35) rfl (D 103 rfl) rfl (by decide) (cap := 2) (by decide) (by decide) (by decide) (by decide)
  obtain ⟨ad_2, g_2⟩ : ∃ z, z = h0.size := ⟨_, rfl⟩
  rw [← g_2] at A_2 st_2
  have z_2 := E_2.1
  have y_2 := own_ltA A_2
  have B_2 : Ary Z h_2 ad_2 .char [(.int 0), (.int 0)] := A_2
  let j_36 := (mkF m 129 #[vI 1, vI 1, vR a1, vI 65279] [(.int 65279), (.int 0), (.ref ad_2), (.ref ad_2)])
  refine Go.s T_2 j_36 (fun _ hr => st_2 _ (yd X_2 hx (D 104 rfl) rfl (yc X_2 hx (D 105 rfl) (yj X_2 hx (D 106 rfl) rfl hr)))) ?_
  obtain ⟨T_3, h_3, X_3, e_3, W_3, A_3, st_3⟩ := own_stC X_2 hx hZ e_2 B_2 (j := 0) (by decide) (by simp +decide) (g := j_36) rfl rfl (D 107 rfl)
  have N_3 := Fr.snoc X_3 N0 (by omega)
  have z_3 := W_3.size
  rw [show nar .char (65279 : Int32) = 65279 from (by decide : nar .char (65279 : Int32) = 65279)] at A_3
  have B_3 : Ary Z h_3 ad_2 .char [(.int 65279), (.int 0)] := A_3
  let j_37 := (mkF m 134 #[vI 1, vI 1, vR a1, vI 65279] [(.int 0), (.ref a1), (.int 1), (.ref ad_2), (.ref ad_2)])
  refine Go.s T_3 j_37 (fun _ hr => st_3 _ (yd X_3 hx (D 108 rfl) rfl (yc X_3 hx (D 109 rfl) (yb X_3 hx (D 110 rfl) rfl rfl (yc X_3 hx (D 111 rfl) hr))))) ?_
  have F_4 := ((Ac.ext E_2).other W_3 (own_ne (by omega)))
  let j_38 := (mkF m 135 #[vI 1, vI 1, vR a1, vI 65279] [(.int c0), (.int 1), (.ref ad_2), (.ref ad_2)])
  refine Go.s T_3 j_38 (own_ldC X_3 hx hZ e_3 F_4 (j := 0) (v := (.int c0)) (by decide) (by simp +decide) rfl (g := j_37) rfl rfl (D 112 rfl)) ?_
  obtain ⟨T_5, h_5, X_5, e_5, W_5, A_5, st_5⟩ := own_stC X_3 hx hZ e_3 B_3 (j := 1) (by decide) (by simp +decide) (g := j_38) rfl rfl (D 113 rfl)
  have N_5 := Fr.snoc X_5 N_3 (by omega)
  have z_5 := W_5.size
  rw [show nar .char c0 = c0 from n0_] at A_5
  have B_5 : Ary Z h_5 ad_2 .char [(.int 65279), (.int c0)] := A_5
  refine Go.s T_5 (mkF m 136 #[vI 1, vI 1, vR a1, vI 65279] [(.ref ad_2)]) st_5 ?_
  refine Go.retA X_5 hx hlk (t := (.array .char)) hret rfl rfl (D 114 rfl) (by decide) (by decide) ?_
  try rw [e_5]
  exact ⟨ad_2, rfl, N_5, ((((Keep.refl h0 []).ext E_2).wr W_3 (Or.inr (by omega))).wr W_5 (Or.inr (by omega))), by omega, B_5⟩
theorem rmRaw12 (hw : own_W a0 Z) (a1 : Nat) (h0 : Heap) (n0 : Nat) (Z0 : n0 ≤ h0.size) (c0 c1 c2 c3 : Int32) (Ac : Ary Z h0 a1 .char [(.int c0), (.int c1), (.int c2), (.int c3)]) (n0_ : nar .char c0 = c0) (n1_ : nar .char c1 = c1) (n2_ : nar .char c2 = c2) (n3_ : nar .char c3 = c3) :
    Con l Z ⟨cL, "raw", "(ZI[C)[C"⟩ method_5_code 4 (some (.array .char)) ⟨0, 1, 3, 0⟩ #[(.int 1), (.int 2), (.ref a1)] h0 (fun v h L => ∃ ra : Nat, v = some (.ref ra) ∧ Fr n0 L ∧ Keep h0 h [] ∧ h0.size ≤ ra ∧ Ary Z h ra .char [(.int 65279), (.int c0), (.int c1)]) := by
  refine Con.o (L := #[vI 1, vI 2, vR a1, vU]) n0 d3 pf_2 (by simp [argsToLocals, Value.category]) ?_
  intro p e s m _ _ c T0 X0 hx hby hml hZ hown hnm hret hlk e0 N0 D
  have lt_1 := own_ltA Ac
  let j_39 := (mkF m 143 #[vI 1, vI 2, vR a1, vI 65279] [(.int 3)])
  refine Go.s T0 j_39 (fun _ hr => (own_ldc X0 hx hZ hown (index := 37) (x := 65279) (hq hw 20 rfl) (g := (mkF m 0 #[vI 1, vI 2, vR a1, vU] [])) rfl (D 0 rfl)) _ (yl X0 hx (D 1 rfl) rfl (yj X0 hx (D 2 rfl) rfl (yX X0 hx (D 3 rfl) (pc' := 106) (XT.i0_ne_t (by decide)) rfl (yj X0 hx (D 90 rfl) rfl (yX X0 hx (D 91 rfl) (pc' := 118) (XT.i0_ne_t (by decide)) rfl (yj X0 hx (D 99 rfl) rfl (yc X0 hx (D 100 rfl) (yY X0 hx (D 101 rfl) (pc' := 137) (XT.ii_ne_t (by decide)) rfl (yj X0 hx (D 115 rfl) rfl (yc X0 hx (D 116 rfl) (yN X0 hx (D 117 rfl) (XT.ii_ne_f (by decide)) (yc X0 hx (D 118 rfl) hr))))))))))))) ?_
  obtain ⟨T_2, h_2, X_2, e_2, E_2, A_2, st_2⟩ := own_newP X0 hx hZ (ty := .char) rfl (hq hw 0 rfl) e0 (g := j_39) rfl (D 119 rfl) rfl (by decide) (cap := 3) (by decide) (by decide) (by decide) (by decide)
  obtain ⟨ad_2, g_2⟩ : ∃ z, z = h0.size := ⟨_, rfl⟩
  rw [← g_2] at A_2 st_2
  have z_2 := E_2.1
  have y_2 := own_ltA A_2
  have B_2 : Ary Z h_2 ad_2 .char [(.int 0), (.int 0), (.int 0)] := A_2
  let j_40 := (mkF m 148 #[vI 1, vI 2, vR a1, vI 65279] [(.int 65279), (.int 0), (.ref ad_2), (.ref ad_2)])
  refine Go.s T_2 j_40 (fun _ hr => st_2 _ (yd X_2 hx (D 120 rfl) rfl (yc X_2 hx (D 121 rfl) (yj X_2 hx (D 122 rfl) rfl hr)))) ?_
  obtain ⟨T_3, h_3, X_3, e_3, W_3, A_3, st_3⟩ := own_stC X_2 hx hZ e_2 B_2 (j := 0) (by decide) (by simp +decide) (g := j_40) rfl rfl (D 123 rfl)
  have N_3 := Fr.snoc X_3 N0 (by omega)
  have z_3 := W_3.size
  rw [show nar .char (65279 : Int32) = 65279 from (by decide : nar .char (65279 : Int32) = 65279)] at A_3
  have B_3 : Ary Z h_3 ad_2 .char [(.int 65279), (.int 0), (.int 0)] := A_3
  let j_41 := (mkF m 153 #[vI 1, vI 2, vR a1, vI 65279] [(.int 0), (.ref a1), (.int 1), (.ref ad_2), (.ref ad_2)])
  refine Go.s T_3 j_41 (fun _ hr => st_3 _ (yd X_3 hx (D 124 rfl) rfl (yc X_3 hx (D 125 rfl) (yb X_3 hx (D 126 rfl) rfl rfl (yc X_3 hx (D 127 rfl) hr))))) ?_
  have F_4 := ((Ac.ext E_2).other W_3 (own_ne (by omega)))
  let j_42 := (mkF m 154 #[vI 1, vI 2, vR a1, vI 65279] [(.int c0), (.int 1), (.ref ad_2), (.ref ad_2)])
  refine Go.s T_3 j_42 (own_ldC X_3 hx hZ e_3 F_4 (j := 0) (v := (.int c0)) (by decide) (by simp +decide) rfl (g := j_41) rfl rfl (D 128 rfl)) ?_
  obtain ⟨T_5, h_5, X_5, e_5, W_5, A_5, st_5⟩ := own_stC X_3 hx hZ e_3 B_3 (j := 1) (by decide) (by simp +decide) (g := j_42) rfl rfl (D 129 rfl)
  have N_5 := Fr.snoc X_5 N_3 (by omega)
  have z_5 := W_5.size
  rw [show nar .char c0 = c0 from n0_] at A_5
  have B_5 : Ary Z h_5 ad_2 .char [(.int 65279), (.int c0), (.int 0)] := A_5
  let j_43 := (mkF m 159 #[vI 1, vI 2, vR a1, vI 65279] [(.int 1), (.ref a1), (.int 2), (.ref ad_2), (.ref ad_2)])
  refine Go.s T_5 j_43 (fun _ hr => st_5 _ (yd X_5 hx (D 130 rfl) rfl (yc X_5 hx (D 131 rfl) (yb X_5 hx (D 132 rfl) rfl rfl (yc X_5 hx (D 133 rfl) hr))))) ?_
  have F_6 := (F_4.other W_5 (own_ne (by omega)))
  let j_44 := (mkF m 160 #[vI 1, vI 2, vR a1, vI 65279] [(.int c1), (.int 2), (.ref ad_2), (.ref ad_2)])
  refine Go.s T_5 j_44 (own_ldC X_5 hx hZ e_5 F_6 (j := 1) (v := (.int c1)) (by decide) (by simp +decide) rfl (g := j_43) rfl rfl (D 134 rfl)) ?_
  obtain ⟨T_7, h_7, X_7, e_7, W_7, A_7, st_7⟩ := own_stC X_5 hx hZ e_5 B_5 (j := 2) (by decide) (by simp +decide) (g := j_44) rfl rfl (D 135 rfl)
  have N_7 := Fr.snoc X_7 N_5 (by omega)
  have z_7 := W_7.size
  rw [show nar .char c1 = c1 from n1_] at A_7
  have B_7 : Ary Z h_7 ad_2 .char [(.int 65279), (.int c0), (.int c1)] := A_7
  refine Go.s T_7 (mkF m 161 #[vI 1, vI 2, vR a1, vI 65279] [(.ref ad_2)]) st_7 ?_
  refine Go.retA X_7 hx hlk (t := (.array .char)) hret rfl rfl (D 136 rfl) (by decide) (by decide) ?_
  try rw [e_7]
  exact ⟨ad_2, rfl, N_7, (((((Keep.refl h0 []).ext E_2).wr W_3 (Or.inr (by omega))).wr W_5 (Or.inr (by omega))).wr W_7 (Or.inr (by omega))), by omega, B_7⟩
theorem rmRaw13 (hw : own_W a0 Z) (a1 : Nat) (h0 : Heap) (n0 : Nat) (Z0 : n0 ≤ h0.size) (c0 c1 c2 c3 : Int32) (Ac : Ary Z h0 a1 .char [(.int c0), (.int c1), (.int c2), (.int c3)]) (n0_ : nar .char c0 = c0) (n1_ : nar .char c1 = c1) (n2_ : nar .char c2 = c2) (n3_ : nar .char c3 = c3) :
    Con l Z ⟨cL, "raw", "(ZI[C)[C"⟩ method_5_code 4 (some (.array .char)) ⟨0, 1, 4, 0⟩ #[(.int 1), (.int 3), (.ref a1)] h0 (fun v h L => ∃ ra : Nat, v = some (.ref ra) ∧ Fr n0 L ∧ Keep h0 h [] ∧ h0.size ≤ ra ∧ Ary Z h ra .char [(.int 65279), (.int c0), (.int c1), (.int c2)]) := by
  refine Con.o (L := #[vI 1, vI 3, vR a1, vU]) n0 d3 pf_2 (by simp [argsToLocals, Value.category]) ?_
  intro p e s m _ _ c T0 X0 hx hby hml hZ hown hnm hret hlk e0 N0 D
  have lt_1 := own_ltA Ac
  refine Go.s T0 (mkF m 164 #[vI 1, vI 3, vR a1, vI 65279] [(.int 3), (.int 3)]) (fun _ hr => (own_ldc X0 hx hZ hown (index := 37) (x := 65279) (hq hw 20 rfl) (g := (mkF m 0 #[vI 1, vI 3, vR a1, vU] [])) rfl (D 0 rfl)) _ (yl X0 hx (D 1 rfl) rfl (yj X0 hx (D 2 rfl) rfl (yX X0 hx (D 3 rfl) (pc' := 106) (XT.i0_ne_t (by decide)) rfl (yj X0 hx (D 90 rfl) rfl (yX X0 hx (D 91 rfl) (pc' := 118) (XT.i0_ne_t (by decide)) rfl (yj X0 hx (D 99 rfl) rfl (yc X0 hx (D 100 rfl) (yY X0 hx (D 101 rfl) (pc' := 137) (XT.ii_ne_t (by decide)) rfl (yj X0 hx (D 115 rfl) rfl (yc X0 hx (D 116 rfl) (yY X0 hx (D 117 rfl) (pc' := 162) (XT.ii_ne_t (by decide)) rfl (yj X0 hx (D 137 rfl) rfl (yc X0 hx (D 138 rfl) hr)))))))))))))) ?_
  let j_45 := (mkF m 168 #[vI 1, vI 3, vR a1, vI 65279] [(.int 4)])
  refine Go.s T0 j_45 (fun _ hr => yN X0 hx (D 139 rfl) (XT.ii_ne_f (by decide)) (yc X0 hx (D 140 rfl) hr)) ?_
  obtain ⟨T_2, h_2, X_2, e_2, E_2, A_2, st_2⟩ := own_newP X0 hx hZ (ty := .char) rfl (hq hw 0 rfl) e0 (g := j_45) rfl (D 141 rfl) rfl (by decide) (cap := 4) (by decide) (by decide) (by decide) (by decide)
  obtain ⟨ad_2, g_2⟩ : ∃ z, z = h0.size := ⟨_, rfl⟩
  rw [← g_2] at A_2 st_2
  have z_2 := E_2.1
  have y_2 := own_ltA A_2
  have B_2 : Ary Z h_2 ad_2 .char [(.int 0), (.int 0), (.int 0), (.int 0)] := A_2
  let j_46 := (mkF m 173 #[vI 1, vI 3, vR a1, vI 65279] [(.int 65279), (.int 0), (.ref ad_2), (.ref ad_2)])
  refine Go.s T_2 j_46 (fun _ hr => st_2 _ (yd X_2 hx (D 142 rfl) rfl (yc X_2 hx (D 143 rfl) (yj X_2 hx (D 144 rfl) rfl hr)))) ?_
  obtain ⟨T_3, h_3, X_3, e_3, W_3, A_3, st_3⟩ := own_stC X_2 hx hZ e_2 B_2 (j := 0) (by decide) (by simp +decide) (g := j_46) rfl rfl (D 145 rfl)
  have N_3 := Fr.snoc X_3 N0 (by omega)
  have z_3 := W_3.size
  rw [show nar .char (65279 : Int32) = 65279 from (by decide : nar .char (65279 : Int32) = 65279)] at A_3
  have B_3 : Ary Z h_3 ad_2 .char [(.int 65279), (.int 0), (.int 0), (.int 0)] := A_3
  let j_47 := (mkF m 178 #[vI 1, vI 3, vR a1, vI 65279] [(.int 0), (.ref a1), (.int 1), (.ref ad_2), (.ref ad_2)])
  refine Go.s T_3 j_47 (fun _ hr => st_3 _ (yd X_3 hx (D 146 rfl) rfl (yc X_3 hx (D 147 rfl) (yb X_3 hx (D 148 rfl) rfl rfl (yc X_3 hx (D 149 rfl) hr))))) ?_
  have F_4 := ((Ac.ext E_2).other W_3 (own_ne (by omega)))
  let j_48 := (mkF m 179 #[vI 1, vI 3, vR a1, vI 65279] [(.int c0), (.int 1), (.ref ad_2), (.ref ad_2)])
  refine Go.s T_3 j_48 (own_ldC X_3 hx hZ e_3 F_4 (j := 0) (v := (.int c0)) (by decide) (by simp +decide) rfl (g := j_47) rfl rfl (D 150 rfl)) ?_
  obtain ⟨T_5, h_5, X_5, e_5, W_5, A_5, st_5⟩ := own_stC X_3 hx hZ e_3 B_3 (j := 1) (by decide) (by simp +decide) (g := j_48) rfl rfl (D 151 rfl)
  have N_5 := Fr.snoc X_5 N_3 (by omega)
  have z_5 := W_5.size
  rw [show nar .char c0 = c0 from n0_] at A_5
  have B_5 : Ary Z h_5 ad_2 .char [(.int 65279), (.int c0), (.int 0), (.int 0)] := A_5
  let j_49 := (mkF m 184 #[vI 1, vI 3, vR a1, vI 65279] [(.int 1), (.ref a1), (.int 2), (.ref ad_2), (.ref ad_2)])
  refine Go.s T_5 j_49 (fun _ hr => st_5 _ (yd X_5 hx (D 152 rfl) rfl (yc X_5 hx (D 153 rfl) (yb X_5 hx (D 154 rfl) rfl rfl (yc X_5 hx (D 155 rfl) hr))))) ?_
  have F_6 := (F_4.other W_5 (own_ne (by omega)))
  let j_50 := (mkF m 185 #[vI 1, vI 3, vR a1, vI 65279] [(.int c1), (.int 2), (.ref ad_2), (.ref ad_2)])
  refine Go.s T_5 j_50 (own_ldC X_5 hx hZ e_5 F_6 (j := 1) (v := (.int c1)) (by decide) (by simp +decide) rfl (g := j_49) rfl rfl (D 156 rfl)) ?_
  obtain ⟨T_7, h_7, X_7, e_7, W_7, A_7, st_7⟩ := own_stC X_5 hx hZ e_5 B_5 (j := 2) (by decide) (by simp +decide) (g := j_50) rfl rfl (D 157 rfl)
  have N_7 := Fr.snoc X_7 N_5 (by omega)
  have z_7 := W_7.size
  rw [show nar .char c1 = c1 from n1_] at A_7
  have B_7 : Ary Z h_7 ad_2 .char [(.int 65279), (.int c0), (.int c1), (.int 0)] := A_7
  let j_51 := (mkF m 190 #[vI 1, vI 3, vR a1, vI 65279] [(.int 2), (.ref a1), (.int 3), (.ref ad_2), (.ref ad_2)])
  refine Go.s T_7 j_51 (fun _ hr => st_7 _ (yd X_7 hx (D 158 rfl) rfl (yc X_7 hx (D 159 rfl) (yb X_7 hx (D 160 rfl) rfl rfl (yc X_7 hx (D 161 rfl) hr))))) ?_
  have F_8 := (F_6.other W_7 (own_ne (by omega)))
  let j_52 := (mkF m 191 #[vI 1, vI 3, vR a1, vI 65279] [(.int c2), (.int 3), (.ref ad_2), (.ref ad_2)])
  refine Go.s T_7 j_52 (own_ldC X_7 hx hZ e_7 F_8 (j := 2) (v := (.int c2)) (by decide) (by simp +decide) rfl (g := j_51) rfl rfl (D 162 rfl)) ?_
  obtain ⟨T_9, h_9, X_9, e_9, W_9, A_9, st_9⟩ := own_stC X_7 hx hZ e_7 B_7 (j := 3) (by decide) (by simp +decide) (g := j_52) rfl rfl (D 163 rfl)
  have N_9 := Fr.snoc X_9 N_7 (by omega)
  have z_9 := W_9.size
  rw [show nar .char c2 = c2 from n2_] at A_9
  have B_9 : Ary Z h_9 ad_2 .char [(.int 65279), (.int c0), (.int c1), (.int c2)] := A_9
  refine Go.s T_9 (mkF m 192 #[vI 1, vI 3, vR a1, vI 65279] [(.ref ad_2)]) st_9 ?_
  refine Go.retA X_9 hx hlk (t := (.array .char)) hret rfl rfl (D 164 rfl) (by decide) (by decide) ?_
  try rw [e_9]
  exact ⟨ad_2, rfl, N_9, ((((((Keep.refl h0 []).ext E_2).wr W_3 (Or.inr (by omega))).wr W_5 (Or.inr (by omega))).wr W_7 (Or.inr (by omega))).wr W_9 (Or.inr (by omega))), by omega, B_9⟩
theorem rmRaw14 (hw : own_W a0 Z) (a1 : Nat) (h0 : Heap) (n0 : Nat) (Z0 : n0 ≤ h0.size) (c0 c1 c2 c3 : Int32) (Ac : Ary Z h0 a1 .char [(.int c0), (.int c1), (.int c2), (.int c3)]) (n0_ : nar .char c0 = c0) (n1_ : nar .char c1 = c1) (n2_ : nar .char c2 = c2) (n3_ : nar .char c3 = c3) :
    Con l Z ⟨cL, "raw", "(ZI[C)[C"⟩ method_5_code 4 (some (.array .char)) ⟨0, 1, 5, 0⟩ #[(.int 1), (.int 4), (.ref a1)] h0 (fun v h L => ∃ ra : Nat, v = some (.ref ra) ∧ Fr n0 L ∧ Keep h0 h [] ∧ h0.size ≤ ra ∧ Ary Z h ra .char [(.int 65279), (.int c0), (.int c1), (.int c2), (.int c3)]) := by
  refine Con.o (L := #[vI 1, vI 4, vR a1, vU]) n0 d3 pf_2 (by simp [argsToLocals, Value.category]) ?_
  intro p e s m _ _ c T0 X0 hx hby hml hZ hown hnm hret hlk e0 N0 D
  have lt_1 := own_ltA Ac
  refine Go.s T0 (mkF m 164 #[vI 1, vI 4, vR a1, vI 65279] [(.int 3), (.int 4)]) (fun _ hr => (own_ldc X0 hx hZ hown (index := 37) (x := 65279) (hq hw 20 rfl) (g := (mkF m 0 #[vI 1, vI 4, vR a1, vU] [])) rfl (D 0 rfl)) _ (yl X0 hx (D 1 rfl) rfl (yj X0 hx (D 2 rfl) rfl (yX X0 hx (D 3 rfl) (pc' := 106) (XT.i0_ne_t (by decide)) rfl (yj X0 hx (D 90 rfl) rfl (yX X0 hx (D 91 rfl) (pc' := 118) (XT.i0_ne_t (by decide)) rfl (yj X0 hx (D 99 rfl) rfl (yc X0 hx (D 100 rfl) (yY X0 hx (D 101 rfl) (pc' := 137) (XT.ii_ne_t (by decide)) rfl (yj X0 hx (D 115 rfl) rfl (yc X0 hx (D 116 rfl) (yY X0 hx (D 117 rfl) (pc' := 162) (XT.ii_ne_t (by decide)) rfl (yj X0 hx (D 137 rfl) rfl (yc X0 hx (D 138 rfl) hr)))))))))))))) ?_
  let j_53 := (mkF m 194 #[vI 1, vI 4, vR a1, vI 65279] [(.int 5)])
  refine Go.s T0 j_53 (fun _ hr => yY X0 hx (D 139 rfl) (pc' := 193) (XT.ii_ne_t (by decide)) rfl (yc X0 hx (D 165 rfl) hr)) ?_
  obtain ⟨T_2, h_2, X_2, e_2, E_2, A_2, st_2⟩ := own_newP X0 hx hZ (ty := .char) rfl (hq hw 0 rfl) e0 (g := j_53) rfl (D 166 rfl) rfl (by decide) (cap := 5) (by decide) (by decide) (by decide) (by decide)
  obtain ⟨ad_2, g_2⟩ : ∃ z, z = h0.size := ⟨_, rfl⟩
  rw [← g_2] at A_2 st_2
  have z_2 := E_2.1
  have y_2 := own_ltA A_2
  have B_2 : Ary Z h_2 ad_2 .char [(.int 0), (.int 0), (.int 0), (.int 0), (.int 0)] := A_2
  let j_54 := (mkF m 199 #[vI 1, vI 4, vR a1, vI 65279] [(.int 65279), (.int 0), (.ref ad_2), (.ref ad_2)])
  refine Go.s T_2 j_54 (fun _ hr => st_2 _ (yd X_2 hx (D 167 rfl) rfl (yc X_2 hx (D 168 rfl) (yj X_2 hx (D 169 rfl) rfl hr)))) ?_
  obtain ⟨T_3, h_3, X_3, e_3, W_3, A_3, st_3⟩ := own_stC X_2 hx hZ e_2 B_2 (j := 0) (by decide) (by simp +decide) (g := j_54) rfl rfl (D 170 rfl)
  have N_3 := Fr.snoc X_3 N0 (by omega)
  have z_3 := W_3.size
  rw [show nar .char (65279 : Int32) = 65279 from (by decide : nar .char (65279 : Int32) = 65279)] at A_3
  have B_3 : Ary Z h_3 ad_2 .char [(.int 65279), (.int 0), (.int 0), (.int 0), (.int 0)] := A_3
  let j_55 := (mkF m 204 #[vI 1, vI 4, vR a1, vI 65279] [(.int 0), (.ref a1), (.int 1), (.ref ad_2), (.ref ad_2)])
  refine Go.s T_3 j_55 (fun _ hr => st_3 _ (yd X_3 hx (D 171 rfl) rfl (yc X_3 hx (D 172 rfl) (yb X_3 hx (D 173 rfl) rfl rfl (yc X_3 hx (D 174 rfl) hr))))) ?_
  have F_4 := ((Ac.ext E_2).other W_3 (own_ne (by omega)))
  let j_56 := (mkF m 205 #[vI 1, vI 4, vR a1, vI 65279] [(.int c0), (.int 1), (.ref ad_2), (.ref ad_2)])
  refine Go.s T_3 j_56 (own_ldC X_3 hx hZ e_3 F_4 (j := 0) (v := (.int c0)) (by decide) (by simp +decide) rfl (g := j_55) rfl rfl (D 175 rfl)) ?_
  obtain ⟨T_5, h_5, X_5, e_5, W_5, A_5, st_5⟩ := own_stC X_3 hx hZ e_3 B_3 (j := 1) (by decide) (by simp +decide) (g := j_56) rfl rfl (D 176 rfl)
  have N_5 := Fr.snoc X_5 N_3 (by omega)
  have z_5 := W_5.size
  rw [show nar .char c0 = c0 from n0_] at A_5
  have B_5 : Ary Z h_5 ad_2 .char [(.int 65279), (.int c0), (.int 0), (.int 0), (.int 0)] := A_5
  let j_57 := (mkF m 210 #[vI 1, vI 4, vR a1, vI 65279] [(.int 1), (.ref a1), (.int 2), (.ref ad_2), (.ref ad_2)])
  refine Go.s T_5 j_57 (fun _ hr => st_5 _ (yd X_5 hx (D 177 rfl) rfl (yc X_5 hx (D 178 rfl) (yb X_5 hx (D 179 rfl) rfl rfl (yc X_5 hx (D 180 rfl) hr))))) ?_
  have F_6 := (F_4.other W_5 (own_ne (by omega)))
  let j_58 := (mkF m 211 #[vI 1, vI 4, vR a1, vI 65279] [(.int c1), (.int 2), (.ref ad_2), (.ref ad_2)])
  refine Go.s T_5 j_58 (own_ldC X_5 hx hZ e_5 F_6 (j := 1) (v := (.int c1)) (by decide) (by simp +decide) rfl (g := j_57) rfl rfl (D 181 rfl)) ?_
  obtain ⟨T_7, h_7, X_7, e_7, W_7, A_7, st_7⟩ := own_stC X_5 hx hZ e_5 B_5 (j := 2) (by decide) (by simp +decide) (g := j_58) rfl rfl (D 182 rfl)
  have N_7 := Fr.snoc X_7 N_5 (by omega)
  have z_7 := W_7.size
  rw [show nar .char c1 = c1 from n1_] at A_7
  have B_7 : Ary Z h_7 ad_2 .char [(.int 65279), (.int c0), (.int c1), (.int 0), (.int 0)] := A_7
  let j_59 := (mkF m 216 #[vI 1, vI 4, vR a1, vI 65279] [(.int 2), (.ref a1), (.int 3), (.ref ad_2), (.ref ad_2)])
  refine Go.s T_7 j_59 (fun _ hr => st_7 _ (yd X_7 hx (D 183 rfl) rfl (yc X_7 hx (D 184 rfl) (yb X_7 hx (D 185 rfl) rfl rfl (yc X_7 hx (D 186 rfl) hr))))) ?_
  have F_8 := (F_6.other W_7 (own_ne (by omega)))
  let j_60 := (mkF m 217 #[vI 1, vI 4, vR a1, vI 65279] [(.int c2), (.int 3), (.ref ad_2), (.ref ad_2)])
  refine Go.s T_7 j_60 (own_ldC X_7 hx hZ e_7 F_8 (j := 2) (v := (.int c2)) (by decide) (by simp +decide) rfl (g := j_59) rfl rfl (D 187 rfl)) ?_
  obtain ⟨T_9, h_9, X_9, e_9, W_9, A_9, st_9⟩ := own_stC X_7 hx hZ e_7 B_7 (j := 3) (by decide) (by simp +decide) (g := j_60) rfl rfl (D 188 rfl)
  have N_9 := Fr.snoc X_9 N_7 (by omega)
  have z_9 := W_9.size
  rw [show nar .char c2 = c2 from n2_] at A_9
  have B_9 : Ary Z h_9 ad_2 .char [(.int 65279), (.int c0), (.int c1), (.int c2), (.int 0)] := A_9
  let j_61 := (mkF m 222 #[vI 1, vI 4, vR a1, vI 65279] [(.int 3), (.ref a1), (.int 4), (.ref ad_2), (.ref ad_2)])
  refine Go.s T_9 j_61 (fun _ hr => st_9 _ (yd X_9 hx (D 189 rfl) rfl (yc X_9 hx (D 190 rfl) (yb X_9 hx (D 191 rfl) rfl rfl (yc X_9 hx (D 192 rfl) hr))))) ?_
  have F_10 := (F_8.other W_9 (own_ne (by omega)))
  let j_62 := (mkF m 223 #[vI 1, vI 4, vR a1, vI 65279] [(.int c3), (.int 4), (.ref ad_2), (.ref ad_2)])
  refine Go.s T_9 j_62 (own_ldC X_9 hx hZ e_9 F_10 (j := 3) (v := (.int c3)) (by decide) (by simp +decide) rfl (g := j_61) rfl rfl (D 193 rfl)) ?_
  obtain ⟨T_11, h_11, X_11, e_11, W_11, A_11, st_11⟩ := own_stC X_9 hx hZ e_9 B_9 (j := 4) (by decide) (by simp +decide) (g := j_62) rfl rfl (D 194 rfl)
  have N_11 := Fr.snoc X_11 N_9 (by omega)
  have z_11 := W_11.size
  rw [show nar .char c3 = c3 from n3_] at A_11
  have B_11 : Ary Z h_11 ad_2 .char [(.int 65279), (.int c0), (.int c1), (.int c2), (.int c3)] := A_11
  refine Go.s T_11 (mkF m 224 #[vI 1, vI 4, vR a1, vI 65279] [(.ref ad_2)]) st_11 ?_
  refine Go.retA X_11 hx hlk (t := (.array .char)) hret rfl rfl (D 195 rfl) (by decide) (by decide) ?_
  try rw [e_11]
  exact ⟨ad_2, rfl, N_11, (((((((Keep.refl h0 []).ext E_2).wr W_3 (Or.inr (by omega))).wr W_5 (Or.inr (by omega))).wr W_7 (Or.inr (by omega))).wr W_9 (Or.inr (by omega))).wr W_11 (Or.inr (by omega))), by omega, B_11⟩
theorem pf_3 : plainFor (⟨"java/lang/StringUTF16", "compress", "([CI[BII)I"⟩ : MethodName) = true := plainFor_of_name (by first | (simp [plainName, overriddenIn]; done) | decide +kernel)
theorem rmCM1 (hw : own_W a0 Z) (a1 : Nat) (a3 : Nat) (h0 : Heap) (n0 : Nat) (Z0 : n0 ≤ h0.size) (c0 : Int32) (Ac : Ary Z h0 a1 .char [(.int c0)]) (q0 : own_rg c0) (Ab : Ary Z h0 a3 .byte [(.int 0)]) (g3 : n0 ≤ a3) (hne : a1 ≠ a3) :
    Con l Z ⟨"java/lang/StringUTF16", "compress", "([CI[BII)I"⟩ jdk_52_method_21_code 7 (some .int) ⟨0, 0, 0, 0⟩ #[(.ref a1), (.int 0), (.ref a3), (.int 0), (.int 1)] h0 (fun v h L => v = some (.int 1) ∧ Fr n0 L ∧ Keep h0 h [a3] ∧ Ary Z h a3 .byte [(.int c0.toInt8.toInt32)]) := by
  refine Con.o (L := #[vR a1, vI 0, vR a3, vI 0, vI 1, vU, vU]) n0 d4 pf_3 (by simp [argsToLocals, Value.category]) ?_
  intro p e s m _ _ c T0 X0 hx hby hml hZ hown hnm hret hlk e0 N0 D
  have lt_1 := own_ltA Ac
  have lt_2 := own_ltA Ab
  let j_63 := (mkF m 12 #[vR a1, vI 0, vR a3, vI 0, vI 1, vI 0, vU] [(.int 0), (.ref a1)])
  refine Go.s T0 j_63 (fun _ hr => yc X0 hx (D 0 rfl) (yk X0 hx (D 1 rfl) rfl (yi X0 hx (D 2 rfl) rfl (yi X0 hx (D 3 rfl) rfl (yN X0 hx (D 4 rfl) (XT.ii_ge_f (by decide)) (yb X0 hx (D 5 rfl) rfl rfl (yj X0 hx (D 6 rfl) rfl hr))))))) ?_
  let j_64 := (mkF m 31 #[vR a1, vI 0, vR a3, vI 0, vI 1, vI 0, vI c0] [(.int (c0.toInt8.toInt32)), (.int 0), (.ref a3)])
  refine Go.s T0 j_64 (fun _ hr => (own_ldC X0 hx hZ e0 Ac (j := 0) (v := (.int c0)) (by decide) (by simp +decide) rfl (g := j_63) rfl rfl (D 7 rfl)) _ (yk X0 hx (D 8 rfl) rfl (yi X0 hx (D 9 rfl) rfl (yq X0 hx (D 10 rfl) (yY X0 hx (D 11 rfl) (pc' := 26) (XT.ii_le_t (own_rg_n q0)) rfl (yb X0 hx (D 14 rfl) rfl rfl (yj X0 hx (D 15 rfl) rfl (yi X0 hx (D 16 rfl) rfl (y8 X0 hx (D 17 rfl) hr))))))))) ?_
  obtain ⟨T_3, h_3, X_3, e_3, W_3, A_3, st_3⟩ := own_stB X0 hx hZ e0 Ab (j := 0) (by decide) (by simp +decide) (g := j_64) rfl rfl (D 18 rfl)
  have N_3 := Fr.snoc X_3 N0 (by omega)
  have z_3 := W_3.size
  rw [show nar .byte (c0.toInt8.toInt32) = (c0.toInt8.toInt32) from (own_idemB c0)] at A_3
  have B_3 : Ary Z h_3 a3 .byte [(.int (c0.toInt8.toInt32))] := A_3
  refine Go.s T_3 (mkF m 46 #[vR a1, vI 1, vR a3, vI 1, vI 1, vI 1, vI c0] [(.int 1)]) (fun _ hr => st_3 _ (yf X_3 hx (D 19 rfl) rfl rfl (yf X_3 hx (D 20 rfl) rfl rfl (yf X_3 hx (D 21 rfl) rfl rfl (yg X_3 hx (D 22 rfl) (pc' := 3) rfl (yi X_3 hx (D 2 rfl) rfl (yi X_3 hx (D 3 rfl) rfl (yY X_3 hx (D 4 rfl) (pc' := 44) (XT.ii_ge_t (by decide)) rfl (yi X_3 hx (D 23 rfl) rfl hr))))))))) ?_
  refine Go.retI X_3 hx hlk hret (D 24 rfl) (by decide) (by decide) ?_
  try rw [e_3]
  exact ⟨rfl, N_3, ((Keep.refl h0 [a3]).wr W_3 (Or.inl (by simp))), B_3⟩
theorem pf_4 : plainFor (⟨"java/lang/StringUTF16", "compress", "([CII)[B"⟩ : MethodName) = true := plainFor_of_name (by first | (simp [plainName, overriddenIn]; done) | decide +kernel)
theorem pd_0 : parseMethodDescriptor "([CI[BII)I" = some ⟨[(.array .char), .int, (.array .byte), .int, .int], some .int⟩ := by decide +kernel
theorem rmC21 (hw : own_W a0 Z) (a1 : Nat) (h0 : Heap) (n0 : Nat) (Z0 : n0 ≤ h0.size) (c0 : Int32) (Ac : Ary Z h0 a1 .char [(.int c0)]) (q0 : own_rg c0) :
    Con l Z ⟨"java/lang/StringUTF16", "compress", "([CII)[B"⟩ jdk_52_method_16_code 6 (some (.array .byte)) ⟨1, 1, 1, 18⟩ #[(.ref a1), (.int 0), (.int 1)] h0 (fun v h L => ∃ a : Nat, v = some (.ref a) ∧ Fr n0 L ∧ Keep h0 h [] ∧ h0.size ≤ a ∧ Ary Z h a .byte [(.int c0.toInt8.toInt32)]) := by
  refine Con.o (L := #[vR a1, vI 0, vI 1, vU, vU, vU]) n0 d5 pf_4 (by simp [argsToLocals, Value.category]) ?_
  intro p e s m _ _ c T0 X0 hx hby hml hZ hown hnm hret hlk e0 N0 D
  have lt_1 := own_ltA Ac
  let j_65 := (mkF m 1 #[vR a1, vI 0, vI 1, vU, vU, vU] [(.int 1)])
  refine Go.s T0 j_65 (fun _ hr => yj X0 hx (D 0 rfl) rfl hr) ?_
  obtain ⟨T_2, h_2, X_2, e_2, E_2, A_2, st_2⟩ := own_newP X0 hx hZ (ty := .byte) rfl (hq hw 11 rfl) e0 (g := j_65) rfl (D 1 rfl) rfl (by decide) (cap := 1) (by decide) (by decide) (by decide) (by decide)
  obtain ⟨ad_2, g_2⟩ : ∃ z, z = h0.size := ⟨_, rfl⟩
  rw [← g_2] at A_2 st_2
  have z_2 := E_2.1
  have y_2 := own_ltA A_2
  have B_2 : Ary Z h_2 ad_2 .byte [(.int 0)] := A_2
  let j_66 := (mkF m 9 #[vR a1, vI 0, vI 1, vR ad_2, vU, vU] [(.int 1), (.int 0), (.ref ad_2), (.int 0), (.ref a1)])
  refine Go.s T_2 j_66 (fun _ hr => st_2 _ (yn X_2 hx (D 2 rfl) rfl rfl (yb X_2 hx (D 3 rfl) rfl rfl (yj X_2 hx (D 4 rfl) rfl (yb X_2 hx (D 5 rfl) rfl rfl (yc X_2 hx (D 6 rfl) (yj X_2 hx (D 7 rfl) rfl hr))))))) ?_
  have F_3 := (Ac.ext E_2)
  obtain ⟨v_4, T_4, h_4, L_4, X_4, e_4, ⟨rfl, N_4, K_4, B_4⟩, st_4⟩ := cS X_2 hx hZ hown (hq hw 36 rfl) (hq hw 37 rfl) (hq hw 34 rfl) (hq hw 38 rfl) e_2 hml (rmCM1 l Z a0 hw a1 ad_2 h_2 n0 (by omega) c0 F_3 q0 B_2 (by omega) (own_ne (by omega))) (g := j_66) rfl rfl (lenOf pd_0 rfl) rfl (D 8 rfl) (W := 0) rfl rfl (by decide)
  have N_4' := Fr.app N0 N_4
  have z_4 := K_4.1
  refine Go.s T_4 (mkF m 58 #[vR a1, vI 0, vI 1, vR ad_2, vI 1, vU] [(.ref ad_2)]) (fun _ hr => st_4 _ (yk X_4 hx (D 9 rfl) rfl (yi X_4 hx (D 10 rfl) rfl (yj X_4 hx (D 11 rfl) rfl (yY X_4 hx (D 12 rfl) (pc' := 57) (XT.ii_eq_t (by decide)) rfl (yb X_4 hx (D 25 rfl) rfl rfl hr)))))) ?_
  refine Go.retA X_4 hx hlk (t := (.array .byte)) hret rfl rfl (D 26 rfl) (by decide) (by decide) ?_
  try rw [e_4]
  exact ⟨ad_2, rfl, N_4', (((Keep.refl h0 []).ext E_2).trans K_4 (own_t1 (by first | exact Or.inr (by omega) | exact Or.inl (by simp)))), by omega, B_4⟩
theorem pf_5 : plainFor (⟨"java/lang/StringUTF16", "coderFromArrayLen", "([BI)B"⟩ : MethodName) = true := plainFor_of_name (by first | (simp [plainName, overriddenIn]; done) | decide +kernel)
theorem rmCF1 (hw : own_W a0 Z) (a1 : Nat) (h0 : Heap) (n0 : Nat) (Z0 : n0 ≤ h0.size) (bs : List Value) (Ab : Ary Z h0 a1 .byte bs) (lb : bs.length = 1) :
    Con l Z ⟨"java/lang/StringUTF16", "coderFromArrayLen", "([BI)B"⟩ jdk_52_method_15_code 2 (some .byte) ⟨0, 0, 0, 0⟩ #[(.ref a1), (.int 1)] h0 (fun v h L => v = some (.int 0) ∧ Fr n0 L ∧ h = h0) := by
  refine Con.o (L := #[vR a1, vI 1]) n0 d6 pf_5 (by simp [argsToLocals, Value.category]) ?_
  intro p e s m _ _ c T0 X0 hx hby hml hZ hown hnm hret hlk e0 N0 D
  have lt_1 := own_ltA Ab
  let j_67 := (mkF m 2 #[vR a1, vI 1] [(.ref a1), (.int 1)])
  refine Go.s T0 j_67 (fun _ hr => yj X0 hx (D 0 rfl) rfl (yb X0 hx (D 1 rfl) rfl rfl hr)) ?_
  refine Go.s T0 (mkF m 3 #[vR a1, vI 1] [(.int (bs).length.toInt32), (.int 1)]) (own_len X0 hx hZ e0 Ab (g := j_67) rfl rfl (D 2 rfl)) ?_
  refine Go.cast (g' := (mkF m 3 #[vR a1, vI 1] [(.int 1), (.int 1)])) (by rw [show (bs).length.toInt32 = 1 from (by rw [lb]; rfl)]) ?_
  refine Go.s T0 (mkF m 6 #[vR a1, vI 1] [(.int 31), (.int 0)]) (fun _ hr => y2 X0 hx (D 3 rfl) (yp X0 hx (D 4 rfl) hr)) ?_
  refine Go.s T0 (mkF m 8 #[vR a1, vI 1] [(.int ((0 : Int32).toInt8.toInt32))]) (fun _ hr => y7 X0 hx (D 5 rfl) (y8 X0 hx (D 6 rfl) hr)) ?_
  refine Go.retN X0 hx hlk (t := .byte) hret (by simp) (D 7 rfl) (by decide) (by decide) ?_
  try rw [e0]
  exact ⟨congrArg (fun z => some (Value.int z)) own_coder1, N0, rfl⟩
theorem pf_6 : plainFor (⟨"java/lang/String", "<init>", "([CIILjava/lang/Void;)V"⟩ : MethodName) = true := plainFor_of_name (by first | (simp [plainName, overriddenIn]; done) | decide +kernel)
theorem pd_1 : parseMethodDescriptor "([CII)[B" = some ⟨[(.array .char), .int, .int], some (.array .byte)⟩ := by decide +kernel
theorem pd_2 : parseMethodDescriptor "([BI)B" = some ⟨[(.array .byte), .int], some .byte⟩ := by decide +kernel
theorem rmS41 (hw : own_W a0 Z) (a1 : Nat) (a2 : Nat) (h0 : Heap) (n0 : Nat) (Z0 : n0 ≤ h0.size) (vcs : Int32) (hcs : ¬ vcs = 0) (O0 : Old Z n0 h0) (SCS : sCS Z vcs) (E1 : Exa Z h0 a1 "java/lang/String") (Fv : fV Z h0 a1 .null) (Fc : fC Z h0 a1 (.int 0)) (g1 : n0 ≤ a1) (c0 : Int32) (Ac : Ary Z h0 a2 .char [(.int c0)]) (q0 : own_rg c0) (hne : a1 ≠ a2) :
    Con l Z ⟨"java/lang/String", "<init>", "([CIILjava/lang/Void;)V"⟩ jdk_42_method_149_code 6 none ⟨2, 1, 1, 35⟩ #[(.ref a1), (.ref a2), (.int 0), (.int 1), .null] h0 (fun v h L => v = none ∧ Fr n0 L ∧ Keep h0 h [a1] ∧ ∃ vb : Nat, h0.size ≤ vb ∧ fV Z h a1 (.ref vb) ∧ fC Z h a1 (.int 0) ∧ Ary Z h vb .byte [(.int c0.toInt8.toInt32)]) := by
  refine Con.o (L := #[vR a1, vR a2, vI 0, vI 1, .val .null, vU]) n0 d7 pf_6 (by simp [argsToLocals, Value.category]) ?_
  intro p e s m _ _ c T0 X0 hx hby hml hZ hown hnm hret hlk e0 N0 D
  have lt_1 := own_ltE E1
  have lt_2 := own_ltA Ac
  let j_68 := (mkF m 1 #[vR a1, vR a2, vI 0, vI 1, .val .null, vU] [(.ref a1)])
  refine Go.s T0 j_68 (fun _ hr => yb X0 hx (D 0 rfl) rfl rfl hr) ?_
  obtain ⟨T_3, X_3, e_3, st_3⟩ := initO X0 hx hZ hown (hq hw 28 rfl) (hq hw 29 rfl) (hq hw 30 rfl) e0 (g := j_68) rfl (by rw [hml]; rfl) rfl (D 1 rfl) (by decide) (W := 0) (by show 2 * 0 + _ ≤ _; exact Nat.le_of_eq rfl) (by decide)
  let j_69 := (mkF m 27 #[vR a1, vR a2, vI 0, vI 1, .val .null, vU] [])
  refine Go.s T_3 j_69 (fun _ hr => st_3 _ (yj X_3 hx (D 2 rfl) rfl (yX X_3 hx (D 3 rfl) (pc' := 27) (XT.i0_ne_t (by decide)) rfl hr))) ?_
  obtain ⟨T_4, X_4, e_4, st_4⟩ := getS2 X_3 hx hZ hown (host := "") (Or.inl (hq hw 31 rfl)) Via.refl e_3 (SCS.ext O0.2) (g := j_69) rfl (D 13 rfl)
  let j_70 := (mkF m 36 #[vR a1, vR a2, vI 0, vI 1, .val .null, vU] [(.int 1), (.int 0), (.ref a2)])
  refine Go.s T_4 j_70 (fun _ hr => st_4 _ (yM X_4 hx (D 14 rfl) (XT.i0_eq_f hcs) (yb X_4 hx (D 15 rfl) rfl rfl (yj X_4 hx (D 16 rfl) rfl (yj X_4 hx (D 17 rfl) rfl hr))))) ?_
  obtain ⟨v_5, T_5, h_5, L_5, X_5, e_5, ⟨cb_5, rfl, N_5, K_5, g_5, B_5⟩, st_5⟩ := cS X_4 hx hZ hown (hq hw 32 rfl) (hq hw 33 rfl) (hq hw 34 rfl) (hq hw 35 rfl) e_4 hml (rmC21 l Z a0 hw a2 h0 n0 (by omega) c0 Ac q0) (g := j_70) rfl rfl (lenOf pd_1 rfl) rfl (D 18 rfl) (W := 0) rfl rfl (by decide)
  have N_5' := Fr.app N0 N_5
  have z_5 := K_5.1
  have yy_5 := own_ltA B_5
  let j_71 := (mkF m 45 #[vR a1, vR a2, vI 0, vI 1, .val .null, vR cb_5] [(.int 1), (.ref cb_5), (.ref a1)])
  refine Go.s T_5 j_71 (fun _ hr => st_5 _ (ym X_5 hx (D 19 rfl) rfl rfl (yb X_5 hx (D 20 rfl) rfl rfl (ya X_5 hx (D 21 rfl) rfl rfl (yj X_5 hx (D 22 rfl) rfl hr))))) ?_
  obtain ⟨v_6, T_6, h_6, L_6, X_6, e_6, ⟨rfl, N_6, hh_6⟩, st_6⟩ := cS X_5 hx hZ hown (hq hw 39 rfl) (hq hw 40 rfl) (hq hw 34 rfl) (hq hw 41 rfl) e_5 hml (rmCF1 l Z a0 hw cb_5 h_5 n0 (by omega) [(.int c0.toInt8.toInt32)] B_5 rfl) (g := j_71) rfl rfl (lenOf pd_2 rfl) rfl (D 23 rfl) (W := 1) rfl rfl (by decide)
  have N_6' := Fr.app N_5' N_6
  rw [hh_6] at e_6
  let j_72 := (mkF m 48 #[vR a1, vR a2, vI 0, vI 1, .val .null, vR cb_5] [(.int 0), (.ref a1)])
  refine Go.s T_6 j_72 st_6 ?_
  have F_7 := (Fc.keep K_5 nin0)
  have F_8 := (E1.keep K_5)
  obtain ⟨T_9, h_9, X_9, e_9, W_9, st_9⟩ := putF X_6 hx hZ hown (host := "") (Or.inl (hq hw 42 rfl)) Via.refl e_6 F_7 F_8 (Or.inr ⟨(hq hw 13 rfl), rfl, hnm⟩) (hq hw 10 rfl) (ty := .byte) (by decide) rfl rfl (g := j_72) rfl rfl (D 24 rfl)
  have N_9 := Fr.snoc X_9 N_6' (by omega)
  have z_9 := W_9.size
  have F_9 := F_7.same W_9
  let j_73 := (mkF m 54 #[vR a1, vR a2, vI 0, vI 1, .val .null, vR cb_5] [(.ref cb_5), (.ref a1)])
  refine Go.s T_9 j_73 (fun _ hr => st_9 _ (yb X_9 hx (D 25 rfl) rfl rfl (ya X_9 hx (D 26 rfl) rfl rfl hr))) ?_
  have F_10 := ((Fv.keep K_5 nin0).other W_9 (Or.inr (slot_ne (t := (.array .byte)) (t' := .byte) (Or.inr (hq hw 12 rfl)) (Or.inr (hq hw 13 rfl)) (by decide) (by decide) (by decide))))
  have F_11 := (F_8.wr W_9)
  obtain ⟨T_12, h_12, X_12, e_12, W_12, st_12⟩ := putF X_9 hx hZ hown (host := "") (Or.inl (hq hw 43 rfl)) Via.refl e_9 F_10 F_11 (Or.inr ⟨(hq hw 12 rfl), rfl, hnm⟩) (hq hw 10 rfl) (ty := (.array .byte)) (by decide) rfl rfl (g := j_73) rfl rfl (D 27 rfl)
  have N_12 := Fr.snoc X_12 N_9 (by omega)
  have z_12 := W_12.size
  have F_12 := F_10.same W_12
  refine Go.s T_12 (mkF m 57 #[vR a1, vR a2, vI 0, vI 1, .val .null, vR cb_5] []) st_12 ?_
  refine Go.retV X_12 hx hlk hret (D 28 rfl) (by decide) (by decide) ?_
  try rw [e_12]
  have F_13 := (F_9.other W_12 (Or.inr (slot_ne (t := .byte) (t' := (.array .byte)) (Or.inr (hq hw 13 rfl)) (Or.inr (hq hw 12 rfl)) (by decide) (by decide) (by decide))))
  have F_14 := ((B_5.other W_9 (own_ne (by omega))).other W_12 (own_ne (by omega)))
  exact ⟨rfl, N_12, ((((Keep.refl h0 [a1]).trans K_5 all0).wr W_9 (Or.inl (by simp))).wr W_12 (Or.inl (by simp))), cb_5, by omega, F_12, F_13, F_14⟩
theorem pf_7 : plainFor (⟨"java/lang/String", "<init>", "([C)V"⟩ : MethodName) = true := plainFor_of_name (by first | (simp [plainName, overriddenIn]; done) | decide +kernel)
theorem pd_3 : parseMethodDescriptor "([CIILjava/lang/Void;)V" = some ⟨[(.array .char), .int, .int, (.object "java/lang/Void")], none⟩ := by decide +kernel
theorem rmS11 (hw : own_W a0 Z) (a1 : Nat) (a2 : Nat) (h0 : Heap) (n0 : Nat) (Z0 : n0 ≤ h0.size) (vcs : Int32) (hcs : ¬ vcs = 0) (O0 : Old Z n0 h0) (SCS : sCS Z vcs) (E1 : Exa Z h0 a1 "java/lang/String") (Fv : fV Z h0 a1 .null) (Fc : fC Z h0 a1 (.int 0)) (g1 : n0 ≤ a1) (c0 : Int32) (Ac : Ary Z h0 a2 .char [(.int c0)]) (q0 : own_rg c0) (hne : a1 ≠ a2) :
    Con l Z ⟨"java/lang/String", "<init>", "([C)V"⟩ jdk_42_method_3_code 2 none ⟨3, 1, 1, 52⟩ #[(.ref a1), (.ref a2)] h0 (fun v h L => v = none ∧ Fr n0 L ∧ Keep h0 h [a1] ∧ ∃ vb : Nat, h0.size ≤ vb ∧ fV Z h a1 (.ref vb) ∧ fC Z h a1 (.int 0) ∧ Ary Z h vb .byte [(.int c0.toInt8.toInt32)]) := by
  refine Con.o (L := #[vR a1, vR a2]) n0 d8 pf_7 (by simp [argsToLocals, Value.category]) ?_
  intro p e s m _ _ c T0 X0 hx hby hml hZ hown hnm hret hlk e0 N0 D
  have lt_1 := own_ltE E1
  have lt_2 := own_ltA Ac
  let j_74 := (mkF m 4 #[vR a1, vR a2] [(.ref a2), (.int 0), (.ref a2), (.ref a1)])
  refine Go.s T0 j_74 (fun _ hr => yb X0 hx (D 0 rfl) rfl rfl (yb X0 hx (D 1 rfl) rfl rfl (yc X0 hx (D 2 rfl) (yb X0 hx (D 3 rfl) rfl rfl hr)))) ?_
  let j_75 := (mkF m 6 #[vR a1, vR a2] [.null, (.int 1), (.int 0), (.ref a2), (.ref a1)])
  refine Go.s T0 j_75 (fun _ hr => (own_len X0 hx hZ e0 Ac (g := j_74) rfl rfl (D 4 rfl)) _ (yz X0 hx (D 5 rfl) hr)) ?_
  obtain ⟨v_3, T_3, h_3, L_3, X_3, e_3, ⟨rfl, N_3, K_3, vb_3, g_3, F1_3, F2_3, B_3⟩, st_3⟩ := cN X0 hx hZ hown (hq hw 24 rfl) (hq hw 25 rfl) (hq hw 9 rfl) (hq hw 27 rfl) e0 rfl hml (rmS41 l Z a0 hw a1 a2 h0 n0 Z0 vcs hcs O0 SCS E1 Fv Fc g1 c0 Ac q0 hne) (g := j_75) rfl rfl (lenOf pd_3 rfl) rfl (D 6 rfl) (W := 0) rfl rfl (by decide)
  have N_3' := Fr.app N0 N_3
  have z_3 := K_3.1
  refine Go.s T_3 (mkF m 9 #[vR a1, vR a2] []) st_3 ?_
  refine Go.retV X_3 hx hlk hret (D 7 rfl) (by decide) (by decide) ?_
  try rw [e_3]
  exact ⟨rfl, N_3', ((Keep.refl h0 [a1]).trans K_3 (own_t1 (by first | exact Or.inr (by omega) | exact Or.inl (by simp)))), vb_3, by omega, F1_3, F2_3, B_3⟩
theorem rmCM2 (hw : own_W a0 Z) (a1 : Nat) (a3 : Nat) (h0 : Heap) (n0 : Nat) (Z0 : n0 ≤ h0.size) (c0 c1 : Int32) (Ac : Ary Z h0 a1 .char [(.int c0), (.int c1)]) (q0 : own_rg c0) (q1 : own_rg c1) (Ab : Ary Z h0 a3 .byte [(.int 0), (.int 0)]) (g3 : n0 ≤ a3) (hne : a1 ≠ a3) :
    Con l Z ⟨"java/lang/StringUTF16", "compress", "([CI[BII)I"⟩ jdk_52_method_21_code 7 (some .int) ⟨0, 0, 0, 0⟩ #[(.ref a1), (.int 0), (.ref a3), (.int 0), (.int 2)] h0 (fun v h L => v = some (.int 2) ∧ Fr n0 L ∧ Keep h0 h [a3] ∧ Ary Z h a3 .byte [(.int c0.toInt8.toInt32), (.int c1.toInt8.toInt32)]) := by
  refine Con.o (L := #[vR a1, vI 0, vR a3, vI 0, vI 2, vU, vU]) n0 d4 pf_3 (by simp [argsToLocals, Value.category]) ?_
  intro p e s m _ _ c T0 X0 hx hby hml hZ hown hnm hret hlk e0 N0 D
  have lt_1 := own_ltA Ac
  have lt_2 := own_ltA Ab
  let j_76 := (mkF m 12 #[vR a1, vI 0, vR a3, vI 0, vI 2, vI 0, vU] [(.int 0), (.ref a1)])
  refine Go.s T0 j_76 (fun _ hr => yc X0 hx (D 0 rfl) (yk X0 hx (D 1 rfl) rfl (yi X0 hx (D 2 rfl) rfl (yi X0 hx (D 3 rfl) rfl (yN X0 hx (D 4 rfl) (XT.ii_ge_f (by decide)) (yb X0 hx (D 5 rfl) rfl rfl (yj X0 hx (D 6 rfl) rfl hr))))))) ?_
  let j_77 := (mkF m 31 #[vR a1, vI 0, vR a3, vI 0, vI 2, vI 0, vI c0] [(.int (c0.toInt8.toInt32)), (.int 0), (.ref a3)])
  refine Go.s T0 j_77 (fun _ hr => (own_ldC X0 hx hZ e0 Ac (j := 0) (v := (.int c0)) (by decide) (by simp +decide) rfl (g := j_76) rfl rfl (D 7 rfl)) _ (yk X0 hx (D 8 rfl) rfl (yi X0 hx (D 9 rfl) rfl (yq X0 hx (D 10 rfl) (yY X0 hx (D 11 rfl) (pc' := 26) (XT.ii_le_t (own_rg_n q0)) rfl (yb X0 hx (D 14 rfl) rfl rfl (yj X0 hx (D 15 rfl) rfl (yi X0 hx (D 16 rfl) rfl (y8 X0 hx (D 17 rfl) hr))))))))) ?_
  obtain ⟨T_3, h_3, X_3, e_3, W_3, A_3, st_3⟩ := own_stB X0 hx hZ e0 Ab (j := 0) (by decide) (by simp +decide) (g := j_77) rfl rfl (D 18 rfl)
  have N_3 := Fr.snoc X_3 N0 (by omega)
  have z_3 := W_3.size
  rw [show nar .byte (c0.toInt8.toInt32) = (c0.toInt8.toInt32) from (own_idemB c0)] at A_3
  have B_3 : Ary Z h_3 a3 .byte [(.int (c0.toInt8.toInt32)), (.int 0)] := A_3
  let j_78 := (mkF m 12 #[vR a1, vI 1, vR a3, vI 1, vI 2, vI 1, vI c0] [(.int 1), (.ref a1)])
  refine Go.s T_3 j_78 (fun _ hr => st_3 _ (yf X_3 hx (D 19 rfl) rfl rfl (yf X_3 hx (D 20 rfl) rfl rfl (yf X_3 hx (D 21 rfl) rfl rfl (yg X_3 hx (D 22 rfl) (pc' := 3) rfl (yi X_3 hx (D 2 rfl) rfl (yi X_3 hx (D 3 rfl) rfl (yN X_3 hx (D 4 rfl) (XT.ii_ge_f (by decide)) (yb X_3 hx (D 5 rfl) rfl rfl (yj X_3 hx (D 6 rfl) rfl hr)))))))))) ?_
  have F_4 := (Ac.other W_3 (own_ne (by omega)))
  let j_79 := (mkF m 31 #[vR a1, vI 1, vR a3, vI 1, vI 2, vI 1, vI c1] [(.int (c1.toInt8.toInt32)), (.int 1), (.ref a3)])
  refine Go.s T_3 j_79 (fun _ hr => (own_ldC X_3 hx hZ e_3 F_4 (j := 1) (v := (.int c1)) (by decide) (by simp +decide) rfl (g := j_78) rfl rfl (D 7 rfl)) _ (yk X_3 hx (D 8 rfl) rfl (yi X_3 hx (D 9 rfl) rfl (yq X_3 hx (D 10 rfl) (yY X_3 hx (D 11 rfl) (pc' := 26) (XT.ii_le_t (own_rg_n q1)) rfl (yb X_3 hx (D 14 rfl) rfl rfl (yj X_3 hx (D 15 rfl) rfl (yi X_3 hx (D 16 rfl) rfl (y8 X_3 hx (D 17 rfl) hr))))))))) ?_
  obtain ⟨T_5, h_5, X_5, e_5, W_5, A_5, st_5⟩ := own_stB X_3 hx hZ e_3 B_3 (j := 1) (by decide) (by simp +decide) (g := j_79) rfl rfl (D 18 rfl)
  have N_5 := Fr.snoc X_5 N_3 (by omega)
  have z_5 := W_5.size
  rw [show nar .byte (c1.toInt8.toInt32) = (c1.toInt8.toInt32) from (own_idemB c1)] at A_5
  have B_5 : Ary Z h_5 a3 .byte [(.int (c0.toInt8.toInt32)), (.int (c1.toInt8.toInt32))] := A_5
  refine Go.s T_5 (mkF m 46 #[vR a1, vI 2, vR a3, vI 2, vI 2, vI 2, vI c1] [(.int 2)]) (fun _ hr => st_5 _ (yf X_5 hx (D 19 rfl) rfl rfl (yf X_5 hx (D 20 rfl) rfl rfl (yf X_5 hx (D 21 rfl) rfl rfl (yg X_5 hx (D 22 rfl) (pc' := 3) rfl (yi X_5 hx (D 2 rfl) rfl (yi X_5 hx (D 3 rfl) rfl (yY X_5 hx (D 4 rfl) (pc' := 44) (XT.ii_ge_t (by decide)) rfl (yi X_5 hx (D 23 rfl) rfl hr))))))))) ?_
  refine Go.retI X_5 hx hlk hret (D 24 rfl) (by decide) (by decide) ?_
  try rw [e_5]
  exact ⟨rfl, N_5, (((Keep.refl h0 [a3]).wr W_3 (Or.inl (by simp))).wr W_5 (Or.inl (by simp))), B_5⟩
theorem rmC22 (hw : own_W a0 Z) (a1 : Nat) (h0 : Heap) (n0 : Nat) (Z0 : n0 ≤ h0.size) (c0 c1 : Int32) (Ac : Ary Z h0 a1 .char [(.int c0), (.int c1)]) (q0 : own_rg c0) (q1 : own_rg c1) :
    Con l Z ⟨"java/lang/StringUTF16", "compress", "([CII)[B"⟩ jdk_52_method_16_code 6 (some (.array .byte)) ⟨1, 1, 2, 18⟩ #[(.ref a1), (.int 0), (.int 2)] h0 (fun v h L => ∃ a : Nat, v = some (.ref a) ∧ Fr n0 L ∧ Keep h0 h [] ∧ h0.size ≤ a ∧ Ary Z h a .byte [(.int c0.toInt8.toInt32), (.int c1.toInt8.toInt32)]) := by
  refine Con.o (L := #[vR a1, vI 0, vI 2, vU, vU, vU]) n0 d5 pf_4 (by simp [argsToLocals, Value.category]) ?_
  intro p e s m _ _ c T0 X0 hx hby hml hZ hown hnm hret hlk e0 N0 D
  have lt_1 := own_ltA Ac
  let j_80 := (mkF m 1 #[vR a1, vI 0, vI 2, vU, vU, vU] [(.int 2)])
  refine Go.s T0 j_80 (fun _ hr => yj X0 hx (D 0 rfl) rfl hr) ?_
  obtain ⟨T_2, h_2, X_2, e_2, E_2, A_2, st_2⟩ := own_newP X0 hx hZ (ty := .byte) rfl (hq hw 11 rfl) e0 (g := j_80) rfl (D 1 rfl) rfl (by decide) (cap := 2) (by decide) (by decide) (by decide) (by decide)
  obtain ⟨ad_2, g_2⟩ : ∃ z, z = h0.size := ⟨_, rfl⟩
  rw [← g_2] at A_2 st_2
  have z_2 := E_2.1
  have y_2 := own_ltA A_2
  have B_2 : Ary Z h_2 ad_2 .byte [(.int 0), (.int 0)] := A_2
  let j_81 := (mkF m 9 #[vR a1, vI 0, vI 2, vR ad_2, vU, vU] [(.int 2), (.int 0), (.ref ad_2), (.int 0), (.ref a1)])
  refine Go.s T_2 j_81 (fun _ hr => st_2 _ (yn X_2 hx (D 2 rfl) rfl rfl (yb X_2 hx (D 3 rfl) rfl rfl (yj X_2 hx (D 4 rfl) rfl (yb X_2 hx (D 5 rfl) rfl rfl (yc X_2 hx (D 6 rfl) (yj X_2 hx (D 7 rfl) rfl hr))))))) ?_
  have F_3 := (Ac.ext E_2)
  obtain ⟨v_4, T_4, h_4, L_4, X_4, e_4, ⟨rfl, N_4, K_4, B_4⟩, st_4⟩ := cS X_2 hx hZ hown (hq hw 36 rfl) (hq hw 37 rfl) (hq hw 34 rfl) (hq hw 38 rfl) e_2 hml (rmCM2 l Z a0 hw a1 ad_2 h_2 n0 (by omega) c0 c1 F_3 q0 q1 B_2 (by omega) (own_ne (by omega))) (g := j_81) rfl rfl (lenOf pd_0 rfl) rfl (D 8 rfl) (W := 0) rfl rfl (by decide)
  have N_4' := Fr.app N0 N_4
  have z_4 := K_4.1
  refine Go.s T_4 (mkF m 58 #[vR a1, vI 0, vI 2, vR ad_2, vI 2, vU] [(.ref ad_2)]) (fun _ hr => st_4 _ (yk X_4 hx (D 9 rfl) rfl (yi X_4 hx (D 10 rfl) rfl (yj X_4 hx (D 11 rfl) rfl (yY X_4 hx (D 12 rfl) (pc' := 57) (XT.ii_eq_t (by decide)) rfl (yb X_4 hx (D 25 rfl) rfl rfl hr)))))) ?_
  refine Go.retA X_4 hx hlk (t := (.array .byte)) hret rfl rfl (D 26 rfl) (by decide) (by decide) ?_
  try rw [e_4]
  exact ⟨ad_2, rfl, N_4', (((Keep.refl h0 []).ext E_2).trans K_4 (own_t1 (by first | exact Or.inr (by omega) | exact Or.inl (by simp)))), by omega, B_4⟩
theorem rmCF2 (hw : own_W a0 Z) (a1 : Nat) (h0 : Heap) (n0 : Nat) (Z0 : n0 ≤ h0.size) (bs : List Value) (Ab : Ary Z h0 a1 .byte bs) (lb : bs.length = 2) :
    Con l Z ⟨"java/lang/StringUTF16", "coderFromArrayLen", "([BI)B"⟩ jdk_52_method_15_code 2 (some .byte) ⟨0, 0, 0, 0⟩ #[(.ref a1), (.int 2)] h0 (fun v h L => v = some (.int 0) ∧ Fr n0 L ∧ h = h0) := by
  refine Con.o (L := #[vR a1, vI 2]) n0 d6 pf_5 (by simp [argsToLocals, Value.category]) ?_
  intro p e s m _ _ c T0 X0 hx hby hml hZ hown hnm hret hlk e0 N0 D
  have lt_1 := own_ltA Ab
  let j_82 := (mkF m 2 #[vR a1, vI 2] [(.ref a1), (.int 2)])
  refine Go.s T0 j_82 (fun _ hr => yj X0 hx (D 0 rfl) rfl (yb X0 hx (D 1 rfl) rfl rfl hr)) ?_
  refine Go.s T0 (mkF m 3 #[vR a1, vI 2] [(.int (bs).length.toInt32), (.int 2)]) (own_len X0 hx hZ e0 Ab (g := j_82) rfl rfl (D 2 rfl)) ?_
  refine Go.cast (g' := (mkF m 3 #[vR a1, vI 2] [(.int 2), (.int 2)])) (by rw [show (bs).length.toInt32 = 2 from (by rw [lb]; rfl)]) ?_
  refine Go.s T0 (mkF m 6 #[vR a1, vI 2] [(.int 31), (.int 0)]) (fun _ hr => y2 X0 hx (D 3 rfl) (yp X0 hx (D 4 rfl) hr)) ?_
  refine Go.s T0 (mkF m 8 #[vR a1, vI 2] [(.int ((0 : Int32).toInt8.toInt32))]) (fun _ hr => y7 X0 hx (D 5 rfl) (y8 X0 hx (D 6 rfl) hr)) ?_
  refine Go.retN X0 hx hlk (t := .byte) hret (by simp) (D 7 rfl) (by decide) (by decide) ?_
  try rw [e0]
  exact ⟨congrArg (fun z => some (Value.int z)) own_coder2, N0, rfl⟩
theorem rmS42 (hw : own_W a0 Z) (a1 : Nat) (a2 : Nat) (h0 : Heap) (n0 : Nat) (Z0 : n0 ≤ h0.size) (vcs : Int32) (hcs : ¬ vcs = 0) (O0 : Old Z n0 h0) (SCS : sCS Z vcs) (E1 : Exa Z h0 a1 "java/lang/String") (Fv : fV Z h0 a1 .null) (Fc : fC Z h0 a1 (.int 0)) (g1 : n0 ≤ a1) (c0 c1 : Int32) (Ac : Ary Z h0 a2 .char [(.int c0), (.int c1)]) (q0 : own_rg c0) (q1 : own_rg c1) (hne : a1 ≠ a2) :
    Con l Z ⟨"java/lang/String", "<init>", "([CIILjava/lang/Void;)V"⟩ jdk_42_method_149_code 6 none ⟨2, 1, 2, 35⟩ #[(.ref a1), (.ref a2), (.int 0), (.int 2), .null] h0 (fun v h L => v = none ∧ Fr n0 L ∧ Keep h0 h [a1] ∧ ∃ vb : Nat, h0.size ≤ vb ∧ fV Z h a1 (.ref vb) ∧ fC Z h a1 (.int 0) ∧ Ary Z h vb .byte [(.int c0.toInt8.toInt32), (.int c1.toInt8.toInt32)]) := by
  refine Con.o (L := #[vR a1, vR a2, vI 0, vI 2, .val .null, vU]) n0 d7 pf_6 (by simp [argsToLocals, Value.category]) ?_
  intro p e s m _ _ c T0 X0 hx hby hml hZ hown hnm hret hlk e0 N0 D
  have lt_1 := own_ltE E1
  have lt_2 := own_ltA Ac
  let j_83 := (mkF m 1 #[vR a1, vR a2, vI 0, vI 2, .val .null, vU] [(.ref a1)])
  refine Go.s T0 j_83 (fun _ hr => yb X0 hx (D 0 rfl) rfl rfl hr) ?_
  obtain ⟨T_3, X_3, e_3, st_3⟩ := initO X0 hx hZ hown (hq hw 28 rfl) (hq hw 29 rfl) (hq hw 30 rfl) e0 (g := j_83) rfl (by rw [hml]; rfl) rfl (D 1 rfl) (by decide) (W := 0) (by show 2 * 0 + _ ≤ _; exact Nat.le_of_eq rfl) (by decide)
  let j_84 := (mkF m 27 #[vR a1, vR a2, vI 0, vI 2, .val .null, vU] [])
  refine Go.s T_3 j_84 (fun _ hr => st_3 _ (yj X_3 hx (D 2 rfl) rfl (yX X_3 hx (D 3 rfl) (pc' := 27) (XT.i0_ne_t (by decide)) rfl hr))) ?_
  obtain ⟨T_4, X_4, e_4, st_4⟩ := getS2 X_3 hx hZ hown (host := "") (Or.inl (hq hw 31 rfl)) Via.refl e_3 (SCS.ext O0.2) (g := j_84) rfl (D 13 rfl)
  let j_85 := (mkF m 36 #[vR a1, vR a2, vI 0, vI 2, .val .null, vU] [(.int 2), (.int 0), (.ref a2)])
  refine Go.s T_4 j_85 (fun _ hr => st_4 _ (yM X_4 hx (D 14 rfl) (XT.i0_eq_f hcs) (yb X_4 hx (D 15 rfl) rfl rfl (yj X_4 hx (D 16 rfl) rfl (yj X_4 hx (D 17 rfl) rfl hr))))) ?_
  obtain ⟨v_5, T_5, h_5, L_5, X_5, e_5, ⟨cb_5, rfl, N_5, K_5, g_5, B_5⟩, st_5⟩ := cS X_4 hx hZ hown (hq hw 32 rfl) (hq hw 33 rfl) (hq hw 34 rfl) (hq hw 35 rfl) e_4 hml (rmC22 l Z a0 hw a2 h0 n0 (by omega) c0 c1 Ac q0 q1) (g := j_85) rfl rfl (lenOf pd_1 rfl) rfl (D 18 rfl) (W := 0) rfl rfl (by decide)
  have N_5' := Fr.app N0 N_5
  have z_5 := K_5.1
  have yy_5 := own_ltA B_5
  let j_86 := (mkF m 45 #[vR a1, vR a2, vI 0, vI 2, .val .null, vR cb_5] [(.int 2), (.ref cb_5), (.ref a1)])
  refine Go.s T_5 j_86 (fun _ hr => st_5 _ (ym X_5 hx (D 19 rfl) rfl rfl (yb X_5 hx (D 20 rfl) rfl rfl (ya X_5 hx (D 21 rfl) rfl rfl (yj X_5 hx (D 22 rfl) rfl hr))))) ?_
  obtain ⟨v_6, T_6, h_6, L_6, X_6, e_6, ⟨rfl, N_6, hh_6⟩, st_6⟩ := cS X_5 hx hZ hown (hq hw 39 rfl) (hq hw 40 rfl) (hq hw 34 rfl) (hq hw 41 rfl) e_5 hml (rmCF2 l Z a0 hw cb_5 h_5 n0 (by omega) [(.int c0.toInt8.toInt32), (.int c1.toInt8.toInt32)] B_5 rfl) (g := j_86) rfl rfl (lenOf pd_2 rfl) rfl (D 23 rfl) (W := 1) rfl rfl (by decide)
  have N_6' := Fr.app N_5' N_6
  rw [hh_6] at e_6
  let j_87 := (mkF m 48 #[vR a1, vR a2, vI 0, vI 2, .val .null, vR cb_5] [(.int 0), (.ref a1)])
  refine Go.s T_6 j_87 st_6 ?_
  have F_7 := (Fc.keep K_5 nin0)
  have F_8 := (E1.keep K_5)
  obtain ⟨T_9, h_9, X_9, e_9, W_9, st_9⟩ := putF X_6 hx hZ hown (host := "") (Or.inl (hq hw 42 rfl)) Via.refl e_6 F_7 F_8 (Or.inr ⟨(hq hw 13 rfl), rfl, hnm⟩) (hq hw 10 rfl) (ty := .byte) (by decide) rfl rfl (g := j_87) rfl rfl (D 24 rfl)
  have N_9 := Fr.snoc X_9 N_6' (by omega)
  have z_9 := W_9.size
  have F_9 := F_7.same W_9
  let j_88 := (mkF m 54 #[vR a1, vR a2, vI 0, vI 2, .val .null, vR cb_5] [(.ref cb_5), (.ref a1)])
  refine Go.s T_9 j_88 (fun _ hr => st_9 _ (yb X_9 hx (D 25 rfl) rfl rfl (ya X_9 hx (D 26 rfl) rfl rfl hr))) ?_
  have F_10 := ((Fv.keep K_5 nin0).other W_9 (Or.inr (slot_ne (t := (.array .byte)) (t' := .byte) (Or.inr (hq hw 12 rfl)) (Or.inr (hq hw 13 rfl)) (by decide) (by decide) (by decide))))
  have F_11 := (F_8.wr W_9)
  obtain ⟨T_12, h_12, X_12, e_12, W_12, st_12⟩ := putF X_9 hx hZ hown (host := "") (Or.inl (hq hw 43 rfl)) Via.refl e_9 F_10 F_11 (Or.inr ⟨(hq hw 12 rfl), rfl, hnm⟩) (hq hw 10 rfl) (ty := (.array .byte)) (by decide) rfl rfl (g := j_88) rfl rfl (D 27 rfl)
  have N_12 := Fr.snoc X_12 N_9 (by omega)
  have z_12 := W_12.size
  have F_12 := F_10.same W_12
  refine Go.s T_12 (mkF m 57 #[vR a1, vR a2, vI 0, vI 2, .val .null, vR cb_5] []) st_12 ?_
  refine Go.retV X_12 hx hlk hret (D 28 rfl) (by decide) (by decide) ?_
  try rw [e_12]
  have F_13 := (F_9.other W_12 (Or.inr (slot_ne (t := .byte) (t' := (.array .byte)) (Or.inr (hq hw 13 rfl)) (Or.inr (hq hw 12 rfl)) (by decide) (by decide) (by decide))))
  have F_14 := ((B_5.other W_9 (own_ne (by omega))).other W_12 (own_ne (by omega)))
  exact ⟨rfl, N_12, ((((Keep.refl h0 [a1]).trans K_5 all0).wr W_9 (Or.inl (by simp))).wr W_12 (Or.inl (by simp))), cb_5, by omega, F_12, F_13, F_14⟩
theorem rmS12 (hw : own_W a0 Z) (a1 : Nat) (a2 : Nat) (h0 : Heap) (n0 : Nat) (Z0 : n0 ≤ h0.size) (vcs : Int32) (hcs : ¬ vcs = 0) (O0 : Old Z n0 h0) (SCS : sCS Z vcs) (E1 : Exa Z h0 a1 "java/lang/String") (Fv : fV Z h0 a1 .null) (Fc : fC Z h0 a1 (.int 0)) (g1 : n0 ≤ a1) (c0 c1 : Int32) (Ac : Ary Z h0 a2 .char [(.int c0), (.int c1)]) (q0 : own_rg c0) (q1 : own_rg c1) (hne : a1 ≠ a2) :
    Con l Z ⟨"java/lang/String", "<init>", "([C)V"⟩ jdk_42_method_3_code 2 none ⟨3, 1, 2, 52⟩ #[(.ref a1), (.ref a2)] h0 (fun v h L => v = none ∧ Fr n0 L ∧ Keep h0 h [a1] ∧ ∃ vb : Nat, h0.size ≤ vb ∧ fV Z h a1 (.ref vb) ∧ fC Z h a1 (.int 0) ∧ Ary Z h vb .byte [(.int c0.toInt8.toInt32), (.int c1.toInt8.toInt32)]) := by
  refine Con.o (L := #[vR a1, vR a2]) n0 d8 pf_7 (by simp [argsToLocals, Value.category]) ?_
  intro p e s m _ _ c T0 X0 hx hby hml hZ hown hnm hret hlk e0 N0 D
  have lt_1 := own_ltE E1
  have lt_2 := own_ltA Ac
  let j_89 := (mkF m 4 #[vR a1, vR a2] [(.ref a2), (.int 0), (.ref a2), (.ref a1)])
  refine Go.s T0 j_89 (fun _ hr => yb X0 hx (D 0 rfl) rfl rfl (yb X0 hx (D 1 rfl) rfl rfl (yc X0 hx (D 2 rfl) (yb X0 hx (D 3 rfl) rfl rfl hr)))) ?_
  let j_90 := (mkF m 6 #[vR a1, vR a2] [.null, (.int 2), (.int 0), (.ref a2), (.ref a1)])
  refine Go.s T0 j_90 (fun _ hr => (own_len X0 hx hZ e0 Ac (g := j_89) rfl rfl (D 4 rfl)) _ (yz X0 hx (D 5 rfl) hr)) ?_
  obtain ⟨v_3, T_3, h_3, L_3, X_3, e_3, ⟨rfl, N_3, K_3, vb_3, g_3, F1_3, F2_3, B_3⟩, st_3⟩ := cN X0 hx hZ hown (hq hw 24 rfl) (hq hw 25 rfl) (hq hw 9 rfl) (hq hw 27 rfl) e0 rfl hml (rmS42 l Z a0 hw a1 a2 h0 n0 Z0 vcs hcs O0 SCS E1 Fv Fc g1 c0 c1 Ac q0 q1 hne) (g := j_90) rfl rfl (lenOf pd_3 rfl) rfl (D 6 rfl) (W := 0) rfl rfl (by decide)
  have N_3' := Fr.app N0 N_3
  have z_3 := K_3.1
  refine Go.s T_3 (mkF m 9 #[vR a1, vR a2] []) st_3 ?_
  refine Go.retV X_3 hx hlk hret (D 7 rfl) (by decide) (by decide) ?_
  try rw [e_3]
  exact ⟨rfl, N_3', ((Keep.refl h0 [a1]).trans K_3 (own_t1 (by first | exact Or.inr (by omega) | exact Or.inl (by simp)))), vb_3, by omega, F1_3, F2_3, B_3⟩
theorem rmCM3 (hw : own_W a0 Z) (a1 : Nat) (a3 : Nat) (h0 : Heap) (n0 : Nat) (Z0 : n0 ≤ h0.size) (c0 c1 c2 : Int32) (Ac : Ary Z h0 a1 .char [(.int c0), (.int c1), (.int c2)]) (q0 : own_rg c0) (q1 : own_rg c1) (q2 : own_rg c2) (Ab : Ary Z h0 a3 .byte [(.int 0), (.int 0), (.int 0)]) (g3 : n0 ≤ a3) (hne : a1 ≠ a3) :
    Con l Z ⟨"java/lang/StringUTF16", "compress", "([CI[BII)I"⟩ jdk_52_method_21_code 7 (some .int) ⟨0, 0, 0, 0⟩ #[(.ref a1), (.int 0), (.ref a3), (.int 0), (.int 3)] h0 (fun v h L => v = some (.int 3) ∧ Fr n0 L ∧ Keep h0 h [a3] ∧ Ary Z h a3 .byte [(.int c0.toInt8.toInt32), (.int c1.toInt8.toInt32), (.int c2.toInt8.toInt32)]) := by
  refine Con.o (L := #[vR a1, vI 0, vR a3, vI 0, vI 3, vU, vU]) n0 d4 pf_3 (by simp [argsToLocals, Value.category]) ?_
  intro p e s m _ _ c T0 X0 hx hby hml hZ hown hnm hret hlk e0 N0 D
  have lt_1 := own_ltA Ac
  have lt_2 := own_ltA Ab
  let j_91 := (mkF m 12 #[vR a1, vI 0, vR a3, vI 0, vI 3, vI 0, vU] [(.int 0), (.ref a1)])
  refine Go.s T0 j_91 (fun _ hr => yc X0 hx (D 0 rfl) (yk X0 hx (D 1 rfl) rfl (yi X0 hx (D 2 rfl) rfl (yi X0 hx (D 3 rfl) rfl (yN X0 hx (D 4 rfl) (XT.ii_ge_f (by decide)) (yb X0 hx (D 5 rfl) rfl rfl (yj X0 hx (D 6 rfl) rfl hr))))))) ?_
  let j_92 := (mkF m 31 #[vR a1, vI 0, vR a3, vI 0, vI 3, vI 0, vI c0] [(.int (c0.toInt8.toInt32)), (.int 0), (.ref a3)])
  refine Go.s T0 j_92 (fun _ hr => (own_ldC X0 hx hZ e0 Ac (j := 0) (v := (.int c0)) (by decide) (by simp +decide) rfl (g := j_91) rfl rfl (D 7 rfl)) _ (yk X0 hx (D 8 rfl) rfl (yi X0 hx (D 9 rfl) rfl (yq X0 hx (D 10 rfl) (yY X0 hx (D 11 rfl) (pc' := 26) (XT.ii_le_t (own_rg_n q0)) rfl (yb X0 hx (D 14 rfl) rfl rfl (yj X0 hx (D 15 rfl) rfl (yi X0 hx (D 16 rfl) rfl (y8 X0 hx (D 17 rfl) hr))))))))) ?_
  obtain ⟨T_3, h_3, X_3, e_3, W_3, A_3, st_3⟩ := own_stB X0 hx hZ e0 Ab (j := 0) (by decide) (by simp +decide) (g := j_92) rfl rfl (D 18 rfl)
  have N_3 := Fr.snoc X_3 N0 (by omega)
  have z_3 := W_3.size
  rw [show nar .byte (c0.toInt8.toInt32) = (c0.toInt8.toInt32) from (own_idemB c0)] at A_3
  have B_3 : Ary Z h_3 a3 .byte [(.int (c0.toInt8.toInt32)), (.int 0), (.int 0)] := A_3
  let j_93 := (mkF m 12 #[vR a1, vI 1, vR a3, vI 1, vI 3, vI 1, vI c0] [(.int 1), (.ref a1)])
  refine Go.s T_3 j_93 (fun _ hr => st_3 _ (yf X_3 hx (D 19 rfl) rfl rfl (yf X_3 hx (D 20 rfl) rfl rfl (yf X_3 hx (D 21 rfl) rfl rfl (yg X_3 hx (D 22 rfl) (pc' := 3) rfl (yi X_3 hx (D 2 rfl) rfl (yi X_3 hx (D 3 rfl) rfl (yN X_3 hx (D 4 rfl) (XT.ii_ge_f (by decide)) (yb X_3 hx (D 5 rfl) rfl rfl (yj X_3 hx (D 6 rfl) rfl hr)))))))))) ?_
  have F_4 := (Ac.other W_3 (own_ne (by omega)))
  let j_94 := (mkF m 31 #[vR a1, vI 1, vR a3, vI 1, vI 3, vI 1, vI c1] [(.int (c1.toInt8.toInt32)), (.int 1), (.ref a3)])
  refine Go.s T_3 j_94 (fun _ hr => (own_ldC X_3 hx hZ e_3 F_4 (j := 1) (v := (.int c1)) (by decide) (by simp +decide) rfl (g := j_93) rfl rfl (D 7 rfl)) _ (yk X_3 hx (D 8 rfl) rfl (yi X_3 hx (D 9 rfl) rfl (yq X_3 hx (D 10 rfl) (yY X_3 hx (D 11 rfl) (pc' := 26) (XT.ii_le_t (own_rg_n q1)) rfl (yb X_3 hx (D 14 rfl) rfl rfl (yj X_3 hx (D 15 rfl) rfl (yi X_3 hx (D 16 rfl) rfl (y8 X_3 hx (D 17 rfl) hr))))))))) ?_
  obtain ⟨T_5, h_5, X_5, e_5, W_5, A_5, st_5⟩ := own_stB X_3 hx hZ e_3 B_3 (j := 1) (by decide) (by simp +decide) (g := j_94) rfl rfl (D 18 rfl)
  have N_5 := Fr.snoc X_5 N_3 (by omega)
  have z_5 := W_5.size
  rw [show nar .byte (c1.toInt8.toInt32) = (c1.toInt8.toInt32) from (own_idemB c1)] at A_5
  have B_5 : Ary Z h_5 a3 .byte [(.int (c0.toInt8.toInt32)), (.int (c1.toInt8.toInt32)), (.int 0)] := A_5
  let j_95 := (mkF m 12 #[vR a1, vI 2, vR a3, vI 2, vI 3, vI 2, vI c1] [(.int 2), (.ref a1)])
  refine Go.s T_5 j_95 (fun _ hr => st_5 _ (yf X_5 hx (D 19 rfl) rfl rfl (yf X_5 hx (D 20 rfl) rfl rfl (yf X_5 hx (D 21 rfl) rfl rfl (yg X_5 hx (D 22 rfl) (pc' := 3) rfl (yi X_5 hx (D 2 rfl) rfl (yi X_5 hx (D 3 rfl) rfl (yN X_5 hx (D 4 rfl) (XT.ii_ge_f (by decide)) (yb X_5 hx (D 5 rfl) rfl rfl (yj X_5 hx (D 6 rfl) rfl hr)))))))))) ?_
  have F_6 := (F_4.other W_5 (own_ne (by omega)))
  let j_96 := (mkF m 31 #[vR a1, vI 2, vR a3, vI 2, vI 3, vI 2, vI c2] [(.int (c2.toInt8.toInt32)), (.int 2), (.ref a3)])
  refine Go.s T_5 j_96 (fun _ hr => (own_ldC X_5 hx hZ e_5 F_6 (j := 2) (v := (.int c2)) (by decide) (by simp +decide) rfl (g := j_95) rfl rfl (D 7 rfl)) _ (yk X_5 hx (D 8 rfl) rfl (yi X_5 hx (D 9 rfl) rfl (yq X_5 hx (D 10 rfl) (yY X_5 hx (D 11 rfl) (pc' := 26) (XT.ii_le_t (own_rg_n q2)) rfl (yb X_5 hx (D 14 rfl) rfl rfl (yj X_5 hx (D 15 rfl) rfl (yi X_5 hx (D 16 rfl) rfl (y8 X_5 hx (D 17 rfl) hr))))))))) ?_
  obtain ⟨T_7, h_7, X_7, e_7, W_7, A_7, st_7⟩ := own_stB X_5 hx hZ e_5 B_5 (j := 2) (by decide) (by simp +decide) (g := j_96) rfl rfl (D 18 rfl)
  have N_7 := Fr.snoc X_7 N_5 (by omega)
  have z_7 := W_7.size
  rw [show nar .byte (c2.toInt8.toInt32) = (c2.toInt8.toInt32) from (own_idemB c2)] at A_7
  have B_7 : Ary Z h_7 a3 .byte [(.int (c0.toInt8.toInt32)), (.int (c1.toInt8.toInt32)), (.int (c2.toInt8.toInt32))] := A_7
  refine Go.s T_7 (mkF m 46 #[vR a1, vI 3, vR a3, vI 3, vI 3, vI 3, vI c2] [(.int 3)]) (fun _ hr => st_7 _ (yf X_7 hx (D 19 rfl) rfl rfl (yf X_7 hx (D 20 rfl) rfl rfl (yf X_7 hx (D 21 rfl) rfl rfl (yg X_7 hx (D 22 rfl) (pc' := 3) rfl (yi X_7 hx (D 2 rfl) rfl (yi X_7 hx (D 3 rfl) rfl (yY X_7 hx (D 4 rfl) (pc' := 44) (XT.ii_ge_t (by decide)) rfl (yi X_7 hx (D 23 rfl) rfl hr))))))))) ?_
  refine Go.retI X_7 hx hlk hret (D 24 rfl) (by decide) (by decide) ?_
  try rw [e_7]
  exact ⟨rfl, N_7, ((((Keep.refl h0 [a3]).wr W_3 (Or.inl (by simp))).wr W_5 (Or.inl (by simp))).wr W_7 (Or.inl (by simp))), B_7⟩
theorem rmC23 (hw : own_W a0 Z) (a1 : Nat) (h0 : Heap) (n0 : Nat) (Z0 : n0 ≤ h0.size) (c0 c1 c2 : Int32) (Ac : Ary Z h0 a1 .char [(.int c0), (.int c1), (.int c2)]) (q0 : own_rg c0) (q1 : own_rg c1) (q2 : own_rg c2) :
    Con l Z ⟨"java/lang/StringUTF16", "compress", "([CII)[B"⟩ jdk_52_method_16_code 6 (some (.array .byte)) ⟨1, 1, 3, 18⟩ #[(.ref a1), (.int 0), (.int 3)] h0 (fun v h L => ∃ a : Nat, v = some (.ref a) ∧ Fr n0 L ∧ Keep h0 h [] ∧ h0.size ≤ a ∧ Ary Z h a .byte [(.int c0.toInt8.toInt32), (.int c1.toInt8.toInt32), (.int c2.toInt8.toInt32)]) := by
  refine Con.o (L := #[vR a1, vI 0, vI 3, vU, vU, vU]) n0 d5 pf_4 (by simp [argsToLocals, Value.category]) ?_
  intro p e s m _ _ c T0 X0 hx hby hml hZ hown hnm hret hlk e0 N0 D
  have lt_1 := own_ltA Ac
  let j_97 := (mkF m 1 #[vR a1, vI 0, vI 3, vU, vU, vU] [(.int 3)])
  refine Go.s T0 j_97 (fun _ hr => yj X0 hx (D 0 rfl) rfl hr) ?_
  obtain ⟨T_2, h_2, X_2, e_2, E_2, A_2, st_2⟩ := own_newP X0 hx hZ (ty := .byte) rfl (hq hw 11 rfl) e0 (g := j_97) rfl (D 1 rfl) rfl (by decide) (cap := 3) (by decide) (by decide) (by decide) (by decide)
  obtain ⟨ad_2, g_2⟩ : ∃ z, z = h0.size := ⟨_, rfl⟩
  rw [← g_2] at A_2 st_2
  have z_2 := E_2.1
  have y_2 := own_ltA A_2
  have B_2 : Ary Z h_2 ad_2 .byte [(.int 0), (.int 0), (.int 0)] := A_2
  let j_98 := (mkF m 9 #[vR a1, vI 0, vI 3, vR ad_2, vU, vU] [(.int 3), (.int 0), (.ref ad_2), (.int 0), (.ref a1)])
  refine Go.s T_2 j_98 (fun _ hr => st_2 _ (yn X_2 hx (D 2 rfl) rfl rfl (yb X_2 hx (D 3 rfl) rfl rfl (yj X_2 hx (D 4 rfl) rfl (yb X_2 hx (D 5 rfl) rfl rfl (yc X_2 hx (D 6 rfl) (yj X_2 hx (D 7 rfl) rfl hr))))))) ?_
  have F_3 := (Ac.ext E_2)
  obtain ⟨v_4, T_4, h_4, L_4, X_4, e_4, ⟨rfl, N_4, K_4, B_4⟩, st_4⟩ := cS X_2 hx hZ hown (hq hw 36 rfl) (hq hw 37 rfl) (hq hw 34 rfl) (hq hw 38 rfl) e_2 hml (rmCM3 l Z a0 hw a1 ad_2 h_2 n0 (by omega) c0 c1 c2 F_3 q0 q1 q2 B_2 (by omega) (own_ne (by omega))) (g := j_98) rfl rfl (lenOf pd_0 rfl) rfl (D 8 rfl) (W := 0) rfl rfl (by decide)
  have N_4' := Fr.app N0 N_4
  have z_4 := K_4.1
  refine Go.s T_4 (mkF m 58 #[vR a1, vI 0, vI 3, vR ad_2, vI 3, vU] [(.ref ad_2)]) (fun _ hr => st_4 _ (yk X_4 hx (D 9 rfl) rfl (yi X_4 hx (D 10 rfl) rfl (yj X_4 hx (D 11 rfl) rfl (yY X_4 hx (D 12 rfl) (pc' := 57) (XT.ii_eq_t (by decide)) rfl (yb X_4 hx (D 25 rfl) rfl rfl hr)))))) ?_
  refine Go.retA X_4 hx hlk (t := (.array .byte)) hret rfl rfl (D 26 rfl) (by decide) (by decide) ?_
  try rw [e_4]
  exact ⟨ad_2, rfl, N_4', (((Keep.refl h0 []).ext E_2).trans K_4 (own_t1 (by first | exact Or.inr (by omega) | exact Or.inl (by simp)))), by omega, B_4⟩
theorem rmCF3 (hw : own_W a0 Z) (a1 : Nat) (h0 : Heap) (n0 : Nat) (Z0 : n0 ≤ h0.size) (bs : List Value) (Ab : Ary Z h0 a1 .byte bs) (lb : bs.length = 3) :
    Con l Z ⟨"java/lang/StringUTF16", "coderFromArrayLen", "([BI)B"⟩ jdk_52_method_15_code 2 (some .byte) ⟨0, 0, 0, 0⟩ #[(.ref a1), (.int 3)] h0 (fun v h L => v = some (.int 0) ∧ Fr n0 L ∧ h = h0) := by
  refine Con.o (L := #[vR a1, vI 3]) n0 d6 pf_5 (by simp [argsToLocals, Value.category]) ?_
  intro p e s m _ _ c T0 X0 hx hby hml hZ hown hnm hret hlk e0 N0 D
  have lt_1 := own_ltA Ab
  let j_99 := (mkF m 2 #[vR a1, vI 3] [(.ref a1), (.int 3)])
  refine Go.s T0 j_99 (fun _ hr => yj X0 hx (D 0 rfl) rfl (yb X0 hx (D 1 rfl) rfl rfl hr)) ?_
  refine Go.s T0 (mkF m 3 #[vR a1, vI 3] [(.int (bs).length.toInt32), (.int 3)]) (own_len X0 hx hZ e0 Ab (g := j_99) rfl rfl (D 2 rfl)) ?_
  refine Go.cast (g' := (mkF m 3 #[vR a1, vI 3] [(.int 3), (.int 3)])) (by rw [show (bs).length.toInt32 = 3 from (by rw [lb]; rfl)]) ?_
  refine Go.s T0 (mkF m 6 #[vR a1, vI 3] [(.int 31), (.int 0)]) (fun _ hr => y2 X0 hx (D 3 rfl) (yp X0 hx (D 4 rfl) hr)) ?_
  refine Go.s T0 (mkF m 8 #[vR a1, vI 3] [(.int ((0 : Int32).toInt8.toInt32))]) (fun _ hr => y7 X0 hx (D 5 rfl) (y8 X0 hx (D 6 rfl) hr)) ?_
  refine Go.retN X0 hx hlk (t := .byte) hret (by simp) (D 7 rfl) (by decide) (by decide) ?_
  try rw [e0]
  exact ⟨congrArg (fun z => some (Value.int z)) own_coder3, N0, rfl⟩
theorem rmS43 (hw : own_W a0 Z) (a1 : Nat) (a2 : Nat) (h0 : Heap) (n0 : Nat) (Z0 : n0 ≤ h0.size) (vcs : Int32) (hcs : ¬ vcs = 0) (O0 : Old Z n0 h0) (SCS : sCS Z vcs) (E1 : Exa Z h0 a1 "java/lang/String") (Fv : fV Z h0 a1 .null) (Fc : fC Z h0 a1 (.int 0)) (g1 : n0 ≤ a1) (c0 c1 c2 : Int32) (Ac : Ary Z h0 a2 .char [(.int c0), (.int c1), (.int c2)]) (q0 : own_rg c0) (q1 : own_rg c1) (q2 : own_rg c2) (hne : a1 ≠ a2) :
    Con l Z ⟨"java/lang/String", "<init>", "([CIILjava/lang/Void;)V"⟩ jdk_42_method_149_code 6 none ⟨2, 1, 3, 35⟩ #[(.ref a1), (.ref a2), (.int 0), (.int 3), .null] h0 (fun v h L => v = none ∧ Fr n0 L ∧ Keep h0 h [a1] ∧ ∃ vb : Nat, h0.size ≤ vb ∧ fV Z h a1 (.ref vb) ∧ fC Z h a1 (.int 0) ∧ Ary Z h vb .byte [(.int c0.toInt8.toInt32), (.int c1.toInt8.toInt32), (.int c2.toInt8.toInt32)]) := by
  refine Con.o (L := #[vR a1, vR a2, vI 0, vI 3, .val .null, vU]) n0 d7 pf_6 (by simp [argsToLocals, Value.category]) ?_
  intro p e s m _ _ c T0 X0 hx hby hml hZ hown hnm hret hlk e0 N0 D
  have lt_1 := own_ltE E1
  have lt_2 := own_ltA Ac
  let j_100 := (mkF m 1 #[vR a1, vR a2, vI 0, vI 3, .val .null, vU] [(.ref a1)])
  refine Go.s T0 j_100 (fun _ hr => yb X0 hx (D 0 rfl) rfl rfl hr) ?_
  obtain ⟨T_3, X_3, e_3, st_3⟩ := initO X0 hx hZ hown (hq hw 28 rfl) (hq hw 29 rfl) (hq hw 30 rfl) e0 (g := j_100) rfl (by rw [hml]; rfl) rfl (D 1 rfl) (by decide) (W := 0) (by show 2 * 0 + _ ≤ _; exact Nat.le_of_eq rfl) (by decide)
  let j_101 := (mkF m 27 #[vR a1, vR a2, vI 0, vI 3, .val .null, vU] [])
  refine Go.s T_3 j_101 (fun _ hr => st_3 _ (yj X_3 hx (D 2 rfl) rfl (yX X_3 hx (D 3 rfl) (pc' := 27) (XT.i0_ne_t (by decide)) rfl hr))) ?_
  obtain ⟨T_4, X_4, e_4, st_4⟩ := getS2 X_3 hx hZ hown (host := "") (Or.inl (hq hw 31 rfl)) Via.refl e_3 (SCS.ext O0.2) (g := j_101) rfl (D 13 rfl)
  let j_102 := (mkF m 36 #[vR a1, vR a2, vI 0, vI 3, .val .null, vU] [(.int 3), (.int 0), (.ref a2)])
  refine Go.s T_4 j_102 (fun _ hr => st_4 _ (yM X_4 hx (D 14 rfl) (XT.i0_eq_f hcs) (yb X_4 hx (D 15 rfl) rfl rfl (yj X_4 hx (D 16 rfl) rfl (yj X_4 hx (D 17 rfl) rfl hr))))) ?_
  obtain ⟨v_5, T_5, h_5, L_5, X_5, e_5, ⟨cb_5, rfl, N_5, K_5, g_5, B_5⟩, st_5⟩ := cS X_4 hx hZ hown (hq hw 32 rfl) (hq hw 33 rfl) (hq hw 34 rfl) (hq hw 35 rfl) e_4 hml (rmC23 l Z a0 hw a2 h0 n0 (by omega) c0 c1 c2 Ac q0 q1 q2) (g := j_102) rfl rfl (lenOf pd_1 rfl) rfl (D 18 rfl) (W := 0) rfl rfl (by decide)
  have N_5' := Fr.app N0 N_5
  have z_5 := K_5.1
  have yy_5 := own_ltA B_5
  let j_103 := (mkF m 45 #[vR a1, vR a2, vI 0, vI 3, .val .null, vR cb_5] [(.int 3), (.ref cb_5), (.ref a1)])
  refine Go.s T_5 j_103 (fun _ hr => st_5 _ (ym X_5 hx (D 19 rfl) rfl rfl (yb X_5 hx (D 20 rfl) rfl rfl (ya X_5 hx (D 21 rfl) rfl rfl (yj X_5 hx (D 22 rfl) rfl hr))))) ?_
  obtain ⟨v_6, T_6, h_6, L_6, X_6, e_6, ⟨rfl, N_6, hh_6⟩, st_6⟩ := cS X_5 hx hZ hown (hq hw 39 rfl) (hq hw 40 rfl) (hq hw 34 rfl) (hq hw 41 rfl) e_5 hml (rmCF3 l Z a0 hw cb_5 h_5 n0 (by omega) [(.int c0.toInt8.toInt32), (.int c1.toInt8.toInt32), (.int c2.toInt8.toInt32)] B_5 rfl) (g := j_103) rfl rfl (lenOf pd_2 rfl) rfl (D 23 rfl) (W := 1) rfl rfl (by decide)
  have N_6' := Fr.app N_5' N_6
  rw [hh_6] at e_6
  let j_104 := (mkF m 48 #[vR a1, vR a2, vI 0, vI 3, .val .null, vR cb_5] [(.int 0), (.ref a1)])
  refine Go.s T_6 j_104 st_6 ?_
  have F_7 := (Fc.keep K_5 nin0)
  have F_8 := (E1.keep K_5)
  obtain ⟨T_9, h_9, X_9, e_9, W_9, st_9⟩ := putF X_6 hx hZ hown (host := "") (Or.inl (hq hw 42 rfl)) Via.refl e_6 F_7 F_8 (Or.inr ⟨(hq hw 13 rfl), rfl, hnm⟩) (hq hw 10 rfl) (ty := .byte) (by decide) rfl rfl (g := j_104) rfl rfl (D 24 rfl)
  have N_9 := Fr.snoc X_9 N_6' (by omega)
  have z_9 := W_9.size
  have F_9 := F_7.same W_9
  let j_105 := (mkF m 54 #[vR a1, vR a2, vI 0, vI 3, .val .null, vR cb_5] [(.ref cb_5), (.ref a1)])
  refine Go.s T_9 j_105 (fun _ hr => st_9 _ (yb X_9 hx (D 25 rfl) rfl rfl (ya X_9 hx (D 26 rfl) rfl rfl hr))) ?_
  have F_10 := ((Fv.keep K_5 nin0).other W_9 (Or.inr (slot_ne (t := (.array .byte)) (t' := .byte) (Or.inr (hq hw 12 rfl)) (Or.inr (hq hw 13 rfl)) (by decide) (by decide) (by decide))))
  have F_11 := (F_8.wr W_9)
  obtain ⟨T_12, h_12, X_12, e_12, W_12, st_12⟩ := putF X_9 hx hZ hown (host := "") (Or.inl (hq hw 43 rfl)) Via.refl e_9 F_10 F_11 (Or.inr ⟨(hq hw 12 rfl), rfl, hnm⟩) (hq hw 10 rfl) (ty := (.array .byte)) (by decide) rfl rfl (g := j_105) rfl rfl (D 27 rfl)
  have N_12 := Fr.snoc X_12 N_9 (by omega)
  have z_12 := W_12.size
  have F_12 := F_10.same W_12
  refine Go.s T_12 (mkF m 57 #[vR a1, vR a2, vI 0, vI 3, .val .null, vR cb_5] []) st_12 ?_
  refine Go.retV X_12 hx hlk hret (D 28 rfl) (by decide) (by decide) ?_
  try rw [e_12]
  have F_13 := (F_9.other W_12 (Or.inr (slot_ne (t := .byte) (t' := (.array .byte)) (Or.inr (hq hw 13 rfl)) (Or.inr (hq hw 12 rfl)) (by decide) (by decide) (by decide))))
  have F_14 := ((B_5.other W_9 (own_ne (by omega))).other W_12 (own_ne (by omega)))
  exact ⟨rfl, N_12, ((((Keep.refl h0 [a1]).trans K_5 all0).wr W_9 (Or.inl (by simp))).wr W_12 (Or.inl (by simp))), cb_5, by omega, F_12, F_13, F_14⟩
theorem rmS13 (hw : own_W a0 Z) (a1 : Nat) (a2 : Nat) (h0 : Heap) (n0 : Nat) (Z0 : n0 ≤ h0.size) (vcs : Int32) (hcs : ¬ vcs = 0) (O0 : Old Z n0 h0) (SCS : sCS Z vcs) (E1 : Exa Z h0 a1 "java/lang/String") (Fv : fV Z h0 a1 .null) (Fc : fC Z h0 a1 (.int 0)) (g1 : n0 ≤ a1) (c0 c1 c2 : Int32) (Ac : Ary Z h0 a2 .char [(.int c0), (.int c1), (.int c2)]) (q0 : own_rg c0) (q1 : own_rg c1) (q2 : own_rg c2) (hne : a1 ≠ a2) :
    Con l Z ⟨"java/lang/String", "<init>", "([C)V"⟩ jdk_42_method_3_code 2 none ⟨3, 1, 3, 52⟩ #[(.ref a1), (.ref a2)] h0 (fun v h L => v = none ∧ Fr n0 L ∧ Keep h0 h [a1] ∧ ∃ vb : Nat, h0.size ≤ vb ∧ fV Z h a1 (.ref vb) ∧ fC Z h a1 (.int 0) ∧ Ary Z h vb .byte [(.int c0.toInt8.toInt32), (.int c1.toInt8.toInt32), (.int c2.toInt8.toInt32)]) := by
  refine Con.o (L := #[vR a1, vR a2]) n0 d8 pf_7 (by simp [argsToLocals, Value.category]) ?_
  intro p e s m _ _ c T0 X0 hx hby hml hZ hown hnm hret hlk e0 N0 D
  have lt_1 := own_ltE E1
  have lt_2 := own_ltA Ac
  let j_106 := (mkF m 4 #[vR a1, vR a2] [(.ref a2), (.int 0), (.ref a2), (.ref a1)])
  refine Go.s T0 j_106 (fun _ hr => yb X0 hx (D 0 rfl) rfl rfl (yb X0 hx (D 1 rfl) rfl rfl (yc X0 hx (D 2 rfl) (yb X0 hx (D 3 rfl) rfl rfl hr)))) ?_
  let j_107 := (mkF m 6 #[vR a1, vR a2] [.null, (.int 3), (.int 0), (.ref a2), (.ref a1)])
  refine Go.s T0 j_107 (fun _ hr => (own_len X0 hx hZ e0 Ac (g := j_106) rfl rfl (D 4 rfl)) _ (yz X0 hx (D 5 rfl) hr)) ?_
  obtain ⟨v_3, T_3, h_3, L_3, X_3, e_3, ⟨rfl, N_3, K_3, vb_3, g_3, F1_3, F2_3, B_3⟩, st_3⟩ := cN X0 hx hZ hown (hq hw 24 rfl) (hq hw 25 rfl) (hq hw 9 rfl) (hq hw 27 rfl) e0 rfl hml (rmS43 l Z a0 hw a1 a2 h0 n0 Z0 vcs hcs O0 SCS E1 Fv Fc g1 c0 c1 c2 Ac q0 q1 q2 hne) (g := j_107) rfl rfl (lenOf pd_3 rfl) rfl (D 6 rfl) (W := 0) rfl rfl (by decide)
  have N_3' := Fr.app N0 N_3
  have z_3 := K_3.1
  refine Go.s T_3 (mkF m 9 #[vR a1, vR a2] []) st_3 ?_
  refine Go.retV X_3 hx hlk hret (D 7 rfl) (by decide) (by decide) ?_
  try rw [e_3]
  exact ⟨rfl, N_3', ((Keep.refl h0 [a1]).trans K_3 (own_t1 (by first | exact Or.inr (by omega) | exact Or.inl (by simp)))), vb_3, by omega, F1_3, F2_3, B_3⟩
theorem rmCM4 (hw : own_W a0 Z) (a1 : Nat) (a3 : Nat) (h0 : Heap) (n0 : Nat) (Z0 : n0 ≤ h0.size) (c0 c1 c2 c3 : Int32) (Ac : Ary Z h0 a1 .char [(.int c0), (.int c1), (.int c2), (.int c3)]) (q0 : own_rg c0) (q1 : own_rg c1) (q2 : own_rg c2) (q3 : own_rg c3) (Ab : Ary Z h0 a3 .byte [(.int 0), (.int 0), (.int 0), (.int 0)]) (g3 : n0 ≤ a3) (hne : a1 ≠ a3) :
    Con l Z ⟨"java/lang/StringUTF16", "compress", "([CI[BII)I"⟩ jdk_52_method_21_code 7 (some .int) ⟨0, 0, 0, 0⟩ #[(.ref a1), (.int 0), (.ref a3), (.int 0), (.int 4)] h0 (fun v h L => v = some (.int 4) ∧ Fr n0 L ∧ Keep h0 h [a3] ∧ Ary Z h a3 .byte [(.int c0.toInt8.toInt32), (.int c1.toInt8.toInt32), (.int c2.toInt8.toInt32), (.int c3.toInt8.toInt32)]) := by
  refine Con.o (L := #[vR a1, vI 0, vR a3, vI 0, vI 4, vU, vU]) n0 d4 pf_3 (by simp [argsToLocals, Value.category]) ?_
  intro p e s m _ _ c T0 X0 hx hby hml hZ hown hnm hret hlk e0 N0 D
  have lt_1 := own_ltA Ac
  have lt_2 := own_ltA Ab
  let j_108 := (mkF m 12 #[vR a1, vI 0, vR a3, vI 0, vI 4, vI 0, vU] [(.int 0), (.ref a1)])
  refine Go.s T0 j_108 (fun _ hr => yc X0 hx (D 0 rfl) (yk X0 hx (D 1 rfl) rfl (yi X0 hx (D 2 rfl) rfl (yi X0 hx (D 3 rfl) rfl (yN X0 hx (D 4 rfl) (XT.ii_ge_f (by decide)) (yb X0 hx (D 5 rfl) rfl rfl (yj X0 hx (D 6 rfl) rfl hr))))))) ?_
  let j_109 := (mkF m 31 #[vR a1, vI 0, vR a3, vI 0, vI 4, vI 0, vI c0] [(.int (c0.toInt8.toInt32)), (.int 0), (.ref a3)])
  refine Go.s T0 j_109 (fun _ hr => (own_ldC X0 hx hZ e0 Ac (j := 0) (v := (.int c0)) (by decide) (by simp +decide) rfl (g := j_108) rfl rfl (D 7 rfl)) _ (yk X0 hx (D 8 rfl) rfl (yi X0 hx (D 9 rfl) rfl (yq X0 hx (D 10 rfl) (yY X0 hx (D 11 rfl) (pc' := 26) (XT.ii_le_t (own_rg_n q0)) rfl (yb X0 hx (D 14 rfl) rfl rfl (yj X0 hx (D 15 rfl) rfl (yi X0 hx (D 16 rfl) rfl (y8 X0 hx (D 17 rfl) hr))))))))) ?_
  obtain ⟨T_3, h_3, X_3, e_3, W_3, A_3, st_3⟩ := own_stB X0 hx hZ e0 Ab (j := 0) (by decide) (by simp +decide) (g := j_109) rfl rfl (D 18 rfl)
  have N_3 := Fr.snoc X_3 N0 (by omega)
  have z_3 := W_3.size
  rw [show nar .byte (c0.toInt8.toInt32) = (c0.toInt8.toInt32) from (own_idemB c0)] at A_3
  have B_3 : Ary Z h_3 a3 .byte [(.int (c0.toInt8.toInt32)), (.int 0), (.int 0), (.int 0)] := A_3
  let j_110 := (mkF m 12 #[vR a1, vI 1, vR a3, vI 1, vI 4, vI 1, vI c0] [(.int 1), (.ref a1)])
  refine Go.s T_3 j_110 (fun _ hr => st_3 _ (yf X_3 hx (D 19 rfl) rfl rfl (yf X_3 hx (D 20 rfl) rfl rfl (yf X_3 hx (D 21 rfl) rfl rfl (yg X_3 hx (D 22 rfl) (pc' := 3) rfl (yi X_3 hx (D 2 rfl) rfl (yi X_3 hx (D 3 rfl) rfl (yN X_3 hx (D 4 rfl) (XT.ii_ge_f (by decide)) (yb X_3 hx (D 5 rfl) rfl rfl (yj X_3 hx (D 6 rfl) rfl hr)))))))))) ?_
  have F_4 := (Ac.other W_3 (own_ne (by omega)))
  let j_111 := (mkF m 31 #[vR a1, vI 1, vR a3, vI 1, vI 4, vI 1, vI c1] [(.int (c1.toInt8.toInt32)), (.int 1), (.ref a3)])
  refine Go.s T_3 j_111 (fun _ hr => (own_ldC X_3 hx hZ e_3 F_4 (j := 1) (v := (.int c1)) (by decide) (by simp +decide) rfl (g := j_110) rfl rfl (D 7 rfl)) _ (yk X_3 hx (D 8 rfl) rfl (yi X_3 hx (D 9 rfl) rfl (yq X_3 hx (D 10 rfl) (yY X_3 hx (D 11 rfl) (pc' := 26) (XT.ii_le_t (own_rg_n q1)) rfl (yb X_3 hx (D 14 rfl) rfl rfl (yj X_3 hx (D 15 rfl) rfl (yi X_3 hx (D 16 rfl) rfl (y8 X_3 hx (D 17 rfl) hr))))))))) ?_
  obtain ⟨T_5, h_5, X_5, e_5, W_5, A_5, st_5⟩ := own_stB X_3 hx hZ e_3 B_3 (j := 1) (by decide) (by simp +decide) (g := j_111) rfl rfl (D 18 rfl)
  have N_5 := Fr.snoc X_5 N_3 (by omega)
  have z_5 := W_5.size
  rw [show nar .byte (c1.toInt8.toInt32) = (c1.toInt8.toInt32) from (own_idemB c1)] at A_5
  have B_5 : Ary Z h_5 a3 .byte [(.int (c0.toInt8.toInt32)), (.int (c1.toInt8.toInt32)), (.int 0), (.int 0)] := A_5
  let j_112 := (mkF m 12 #[vR a1, vI 2, vR a3, vI 2, vI 4, vI 2, vI c1] [(.int 2), (.ref a1)])
  refine Go.s T_5 j_112 (fun _ hr => st_5 _ (yf X_5 hx (D 19 rfl) rfl rfl (yf X_5 hx (D 20 rfl) rfl rfl (yf X_5 hx (D 21 rfl) rfl rfl (yg X_5 hx (D 22 rfl) (pc' := 3) rfl (yi X_5 hx (D 2 rfl) rfl (yi X_5 hx (D 3 rfl) rfl (yN X_5 hx (D 4 rfl) (XT.ii_ge_f (by decide)) (yb X_5 hx (D 5 rfl) rfl rfl (yj X_5 hx (D 6 rfl) rfl hr)))))))))) ?_
  have F_6 := (F_4.other W_5 (own_ne (by omega)))
  let j_113 := (mkF m 31 #[vR a1, vI 2, vR a3, vI 2, vI 4, vI 2, vI c2] [(.int (c2.toInt8.toInt32)), (.int 2), (.ref a3)])
  refine Go.s T_5 j_113 (fun _ hr => (own_ldC X_5 hx hZ e_5 F_6 (j := 2) (v := (.int c2)) (by decide) (by simp +decide) rfl (g := j_112) rfl rfl (D 7 rfl)) _ (yk X_5 hx (D 8 rfl) rfl (yi X_5 hx (D 9 rfl) rfl (yq X_5 hx (D 10 rfl) (yY X_5 hx (D 11 rfl) (pc' := 26) (XT.ii_le_t (own_rg_n q2)) rfl (yb X_5 hx (D 14 rfl) rfl rfl (yj X_5 hx (D 15 rfl) rfl (yi X_5 hx (D 16 rfl) rfl (y8 X_5 hx (D 17 rfl) hr))))))))) ?_
  obtain ⟨T_7, h_7, X_7, e_7, W_7, A_7, st_7⟩ := own_stB X_5 hx hZ e_5 B_5 (j := 2) (by decide) (by simp +decide) (g := j_113) rfl rfl (D 18 rfl)
  have N_7 := Fr.snoc X_7 N_5 (by omega)
  have z_7 := W_7.size
  rw [show nar .byte (c2.toInt8.toInt32) = (c2.toInt8.toInt32) from (own_idemB c2)] at A_7
  have B_7 : Ary Z h_7 a3 .byte [(.int (c0.toInt8.toInt32)), (.int (c1.toInt8.toInt32)), (.int (c2.toInt8.toInt32)), (.int 0)] := A_7
  let j_114 := (mkF m 12 #[vR a1, vI 3, vR a3, vI 3, vI 4, vI 3, vI c2] [(.int 3), (.ref a1)])
  refine Go.s T_7 j_114 (fun _ hr => st_7 _ (yf X_7 hx (D 19 rfl) rfl rfl (yf X_7 hx (D 20 rfl) rfl rfl (yf X_7 hx (D 21 rfl) rfl rfl (yg X_7 hx (D 22 rfl) (pc' := 3) rfl (yi X_7 hx (D 2 rfl) rfl (yi X_7 hx (D 3 rfl) rfl (yN X_7 hx (D 4 rfl) (XT.ii_ge_f (by decide)) (yb X_7 hx (D 5 rfl) rfl rfl (yj X_7 hx (D 6 rfl) rfl hr)))))))))) ?_
  have F_8 := (F_6.other W_7 (own_ne (by omega)))
  let j_115 := (mkF m 31 #[vR a1, vI 3, vR a3, vI 3, vI 4, vI 3, vI c3] [(.int (c3.toInt8.toInt32)), (.int 3), (.ref a3)])
  refine Go.s T_7 j_115 (fun _ hr => (own_ldC X_7 hx hZ e_7 F_8 (j := 3) (v := (.int c3)) (by decide) (by simp +decide) rfl (g := j_114) rfl rfl (D 7 rfl)) _ (yk X_7 hx (D 8 rfl) rfl (yi X_7 hx (D 9 rfl) rfl (yq X_7 hx (D 10 rfl) (yY X_7 hx (D 11 rfl) (pc' := 26) (XT.ii_le_t (own_rg_n q3)) rfl (yb X_7 hx (D 14 rfl) rfl rfl (yj X_7 hx (D 15 rfl) rfl (yi X_7 hx (D 16 rfl) rfl (y8 X_7 hx (D 17 rfl) hr))))))))) ?_
  obtain ⟨T_9, h_9, X_9, e_9, W_9, A_9, st_9⟩ := own_stB X_7 hx hZ e_7 B_7 (j := 3) (by decide) (by simp +decide) (g := j_115) rfl rfl (D 18 rfl)
  have N_9 := Fr.snoc X_9 N_7 (by omega)
  have z_9 := W_9.size
  rw [show nar .byte (c3.toInt8.toInt32) = (c3.toInt8.toInt32) from (own_idemB c3)] at A_9
  have B_9 : Ary Z h_9 a3 .byte [(.int (c0.toInt8.toInt32)), (.int (c1.toInt8.toInt32)), (.int (c2.toInt8.toInt32)), (.int (c3.toInt8.toInt32))] := A_9
  refine Go.s T_9 (mkF m 46 #[vR a1, vI 4, vR a3, vI 4, vI 4, vI 4, vI c3] [(.int 4)]) (fun _ hr => st_9 _ (yf X_9 hx (D 19 rfl) rfl rfl (yf X_9 hx (D 20 rfl) rfl rfl (yf X_9 hx (D 21 rfl) rfl rfl (yg X_9 hx (D 22 rfl) (pc' := 3) rfl (yi X_9 hx (D 2 rfl) rfl (yi X_9 hx (D 3 rfl) rfl (yY X_9 hx (D 4 rfl) (pc' := 44) (XT.ii_ge_t (by decide)) rfl (yi X_9 hx (D 23 rfl) rfl hr))))))))) ?_
  refine Go.retI X_9 hx hlk hret (D 24 rfl) (by decide) (by decide) ?_
  try rw [e_9]
  exact ⟨rfl, N_9, (((((Keep.refl h0 [a3]).wr W_3 (Or.inl (by simp))).wr W_5 (Or.inl (by simp))).wr W_7 (Or.inl (by simp))).wr W_9 (Or.inl (by simp))), B_9⟩
theorem rmC24 (hw : own_W a0 Z) (a1 : Nat) (h0 : Heap) (n0 : Nat) (Z0 : n0 ≤ h0.size) (c0 c1 c2 c3 : Int32) (Ac : Ary Z h0 a1 .char [(.int c0), (.int c1), (.int c2), (.int c3)]) (q0 : own_rg c0) (q1 : own_rg c1) (q2 : own_rg c2) (q3 : own_rg c3) :
    Con l Z ⟨"java/lang/StringUTF16", "compress", "([CII)[B"⟩ jdk_52_method_16_code 6 (some (.array .byte)) ⟨1, 1, 4, 18⟩ #[(.ref a1), (.int 0), (.int 4)] h0 (fun v h L => ∃ a : Nat, v = some (.ref a) ∧ Fr n0 L ∧ Keep h0 h [] ∧ h0.size ≤ a ∧ Ary Z h a .byte [(.int c0.toInt8.toInt32), (.int c1.toInt8.toInt32), (.int c2.toInt8.toInt32), (.int c3.toInt8.toInt32)]) := by
  refine Con.o (L := #[vR a1, vI 0, vI 4, vU, vU, vU]) n0 d5 pf_4 (by simp [argsToLocals, Value.category]) ?_
  intro p e s m _ _ c T0 X0 hx hby hml hZ hown hnm hret hlk e0 N0 D
  have lt_1 := own_ltA Ac
  let j_116 := (mkF m 1 #[vR a1, vI 0, vI 4, vU, vU, vU] [(.int 4)])
  refine Go.s T0 j_116 (fun _ hr => yj X0 hx (D 0 rfl) rfl hr) ?_
  obtain ⟨T_2, h_2, X_2, e_2, E_2, A_2, st_2⟩ := own_newP X0 hx hZ (ty := .byte) rfl (hq hw 11 rfl) e0 (g := j_116) rfl (D 1 rfl) rfl (by decide) (cap := 4) (by decide) (by decide) (by decide) (by decide)
  obtain ⟨ad_2, g_2⟩ : ∃ z, z = h0.size := ⟨_, rfl⟩
  rw [← g_2] at A_2 st_2
  have z_2 := E_2.1
  have y_2 := own_ltA A_2
  have B_2 : Ary Z h_2 ad_2 .byte [(.int 0), (.int 0), (.int 0), (.int 0)] := A_2
  let j_117 := (mkF m 9 #[vR a1, vI 0, vI 4, vR ad_2, vU, vU] [(.int 4), (.int 0), (.ref ad_2), (.int 0), (.ref a1)])
  refine Go.s T_2 j_117 (fun _ hr => st_2 _ (yn X_2 hx (D 2 rfl) rfl rfl (yb X_2 hx (D 3 rfl) rfl rfl (yj X_2 hx (D 4 rfl) rfl (yb X_2 hx (D 5 rfl) rfl rfl (yc X_2 hx (D 6 rfl) (yj X_2 hx (D 7 rfl) rfl hr))))))) ?_
  have F_3 := (Ac.ext E_2)
  obtain ⟨v_4, T_4, h_4, L_4, X_4, e_4, ⟨rfl, N_4, K_4, B_4⟩, st_4⟩ := cS X_2 hx hZ hown (hq hw 36 rfl) (hq hw 37 rfl) (hq hw 34 rfl) (hq hw 38 rfl) e_2 hml (rmCM4 l Z a0 hw a1 ad_2 h_2 n0 (by omega) c0 c1 c2 c3 F_3 q0 q1 q2 q3 B_2 (by omega) (own_ne (by omega))) (g := j_117) rfl rfl (lenOf pd_0 rfl) rfl (D 8 rfl) (W := 0) rfl rfl (by decide)
  have N_4' := Fr.app N0 N_4
  have z_4 := K_4.1
  refine Go.s T_4 (mkF m 58 #[vR a1, vI 0, vI 4, vR ad_2, vI 4, vU] [(.ref ad_2)]) (fun _ hr => st_4 _ (yk X_4 hx (D 9 rfl) rfl (yi X_4 hx (D 10 rfl) rfl (yj X_4 hx (D 11 rfl) rfl (yY X_4 hx (D 12 rfl) (pc' := 57) (XT.ii_eq_t (by decide)) rfl (yb X_4 hx (D 25 rfl) rfl rfl hr)))))) ?_
  refine Go.retA X_4 hx hlk (t := (.array .byte)) hret rfl rfl (D 26 rfl) (by decide) (by decide) ?_
  try rw [e_4]
  exact ⟨ad_2, rfl, N_4', (((Keep.refl h0 []).ext E_2).trans K_4 (own_t1 (by first | exact Or.inr (by omega) | exact Or.inl (by simp)))), by omega, B_4⟩
theorem rmCF4 (hw : own_W a0 Z) (a1 : Nat) (h0 : Heap) (n0 : Nat) (Z0 : n0 ≤ h0.size) (bs : List Value) (Ab : Ary Z h0 a1 .byte bs) (lb : bs.length = 4) :
    Con l Z ⟨"java/lang/StringUTF16", "coderFromArrayLen", "([BI)B"⟩ jdk_52_method_15_code 2 (some .byte) ⟨0, 0, 0, 0⟩ #[(.ref a1), (.int 4)] h0 (fun v h L => v = some (.int 0) ∧ Fr n0 L ∧ h = h0) := by
  refine Con.o (L := #[vR a1, vI 4]) n0 d6 pf_5 (by simp [argsToLocals, Value.category]) ?_
  intro p e s m _ _ c T0 X0 hx hby hml hZ hown hnm hret hlk e0 N0 D
  have lt_1 := own_ltA Ab
  let j_118 := (mkF m 2 #[vR a1, vI 4] [(.ref a1), (.int 4)])
  refine Go.s T0 j_118 (fun _ hr => yj X0 hx (D 0 rfl) rfl (yb X0 hx (D 1 rfl) rfl rfl hr)) ?_
  refine Go.s T0 (mkF m 3 #[vR a1, vI 4] [(.int (bs).length.toInt32), (.int 4)]) (own_len X0 hx hZ e0 Ab (g := j_118) rfl rfl (D 2 rfl)) ?_
  refine Go.cast (g' := (mkF m 3 #[vR a1, vI 4] [(.int 4), (.int 4)])) (by rw [show (bs).length.toInt32 = 4 from (by rw [lb]; rfl)]) ?_
  refine Go.s T0 (mkF m 6 #[vR a1, vI 4] [(.int 31), (.int 0)]) (fun _ hr => y2 X0 hx (D 3 rfl) (yp X0 hx (D 4 rfl) hr)) ?_
  refine Go.s T0 (mkF m 8 #[vR a1, vI 4] [(.int ((0 : Int32).toInt8.toInt32))]) (fun _ hr => y7 X0 hx (D 5 rfl) (y8 X0 hx (D 6 rfl) hr)) ?_
  refine Go.retN X0 hx hlk (t := .byte) hret (by simp) (D 7 rfl) (by decide) (by decide) ?_
  try rw [e0]
  exact ⟨congrArg (fun z => some (Value.int z)) own_coder4, N0, rfl⟩
theorem rmS44 (hw : own_W a0 Z) (a1 : Nat) (a2 : Nat) (h0 : Heap) (n0 : Nat) (Z0 : n0 ≤ h0.size) (vcs : Int32) (hcs : ¬ vcs = 0) (O0 : Old Z n0 h0) (SCS : sCS Z vcs) (E1 : Exa Z h0 a1 "java/lang/String") (Fv : fV Z h0 a1 .null) (Fc : fC Z h0 a1 (.int 0)) (g1 : n0 ≤ a1) (c0 c1 c2 c3 : Int32) (Ac : Ary Z h0 a2 .char [(.int c0), (.int c1), (.int c2), (.int c3)]) (q0 : own_rg c0) (q1 : own_rg c1) (q2 : own_rg c2) (q3 : own_rg c3) (hne : a1 ≠ a2) :
    Con l Z ⟨"java/lang/String", "<init>", "([CIILjava/lang/Void;)V"⟩ jdk_42_method_149_code 6 none ⟨2, 1, 4, 35⟩ #[(.ref a1), (.ref a2), (.int 0), (.int 4), .null] h0 (fun v h L => v = none ∧ Fr n0 L ∧ Keep h0 h [a1] ∧ ∃ vb : Nat, h0.size ≤ vb ∧ fV Z h a1 (.ref vb) ∧ fC Z h a1 (.int 0) ∧ Ary Z h vb .byte [(.int c0.toInt8.toInt32), (.int c1.toInt8.toInt32), (.int c2.toInt8.toInt32), (.int c3.toInt8.toInt32)]) := by
  refine Con.o (L := #[vR a1, vR a2, vI 0, vI 4, .val .null, vU]) n0 d7 pf_6 (by simp [argsToLocals, Value.category]) ?_
  intro p e s m _ _ c T0 X0 hx hby hml hZ hown hnm hret hlk e0 N0 D
  have lt_1 := own_ltE E1
  have lt_2 := own_ltA Ac
  let j_119 := (mkF m 1 #[vR a1, vR a2, vI 0, vI 4, .val .null, vU] [(.ref a1)])
  refine Go.s T0 j_119 (fun _ hr => yb X0 hx (D 0 rfl) rfl rfl hr) ?_
  obtain ⟨T_3, X_3, e_3, st_3⟩ := initO X0 hx hZ hown (hq hw 28 rfl) (hq hw 29 rfl) (hq hw 30 rfl) e0 (g := j_119) rfl (by rw [hml]; rfl) rfl (D 1 rfl) (by decide) (W := 0) (by show 2 * 0 + _ ≤ _; exact Nat.le_of_eq rfl) (by decide)
  let j_120 := (mkF m 27 #[vR a1, vR a2, vI 0, vI 4, .val .null, vU] [])
  refine Go.s T_3 j_120 (fun _ hr => st_3 _ (yj X_3 hx (D 2 rfl) rfl (yX X_3 hx (D 3 rfl) (pc' := 27) (XT.i0_ne_t (by decide)) rfl hr))) ?_
  obtain ⟨T_4, X_4, e_4, st_4⟩ := getS2 X_3 hx hZ hown (host := "") (Or.inl (hq hw 31 rfl)) Via.refl e_3 (SCS.ext O0.2) (g := j_120) rfl (D 13 rfl)
  let j_121 := (mkF m 36 #[vR a1, vR a2, vI 0, vI 4, .val .null, vU] [(.int 4), (.int 0), (.ref a2)])
  refine Go.s T_4 j_121 (fun _ hr => st_4 _ (yM X_4 hx (D 14 rfl) (XT.i0_eq_f hcs) (yb X_4 hx (D 15 rfl) rfl rfl (yj X_4 hx (D 16 rfl) rfl (yj X_4 hx (D 17 rfl) rfl hr))))) ?_
  obtain ⟨v_5, T_5, h_5, L_5, X_5, e_5, ⟨cb_5, rfl, N_5, K_5, g_5, B_5⟩, st_5⟩ := cS X_4 hx hZ hown (hq hw 32 rfl) (hq hw 33 rfl) (hq hw 34 rfl) (hq hw 35 rfl) e_4 hml (rmC24 l Z a0 hw a2 h0 n0 (by omega) c0 c1 c2 c3 Ac q0 q1 q2 q3) (g := j_121) rfl rfl (lenOf pd_1 rfl) rfl (D 18 rfl) (W := 0) rfl rfl (by decide)
  have N_5' := Fr.app N0 N_5
  have z_5 := K_5.1
  have yy_5 := own_ltA B_5
  let j_122 := (mkF m 45 #[vR a1, vR a2, vI 0, vI 4, .val .null, vR cb_5] [(.int 4), (.ref cb_5), (.ref a1)])
  refine Go.s T_5 j_122 (fun _ hr => st_5 _ (ym X_5 hx (D 19 rfl) rfl rfl (yb X_5 hx (D 20 rfl) rfl rfl (ya X_5 hx (D 21 rfl) rfl rfl (yj X_5 hx (D 22 rfl) rfl hr))))) ?_
  obtain ⟨v_6, T_6, h_6, L_6, X_6, e_6, ⟨rfl, N_6, hh_6⟩, st_6⟩ := cS X_5 hx hZ hown (hq hw 39 rfl) (hq hw 40 rfl) (hq hw 34 rfl) (hq hw 41 rfl) e_5 hml (rmCF4 l Z a0 hw cb_5 h_5 n0 (by omega) [(.int c0.toInt8.toInt32), (.int c1.toInt8.toInt32), (.int c2.toInt8.toInt32), (.int c3.toInt8.toInt32)] B_5 rfl) (g := j_122) rfl rfl (lenOf pd_2 rfl) rfl (D 23 rfl) (W := 1) rfl rfl (by decide)
  have N_6' := Fr.app N_5' N_6
  rw [hh_6] at e_6
  let j_123 := (mkF m 48 #[vR a1, vR a2, vI 0, vI 4, .val .null, vR cb_5] [(.int 0), (.ref a1)])
  refine Go.s T_6 j_123 st_6 ?_
  have F_7 := (Fc.keep K_5 nin0)
  have F_8 := (E1.keep K_5)
  obtain ⟨T_9, h_9, X_9, e_9, W_9, st_9⟩ := putF X_6 hx hZ hown (host := "") (Or.inl (hq hw 42 rfl)) Via.refl e_6 F_7 F_8 (Or.inr ⟨(hq hw 13 rfl), rfl, hnm⟩) (hq hw 10 rfl) (ty := .byte) (by decide) rfl rfl (g := j_123) rfl rfl (D 24 rfl)
  have N_9 := Fr.snoc X_9 N_6' (by omega)
  have z_9 := W_9.size
  have F_9 := F_7.same W_9
  let j_124 := (mkF m 54 #[vR a1, vR a2, vI 0, vI 4, .val .null, vR cb_5] [(.ref cb_5), (.ref a1)])
  refine Go.s T_9 j_124 (fun _ hr => st_9 _ (yb X_9 hx (D 25 rfl) rfl rfl (ya X_9 hx (D 26 rfl) rfl rfl hr))) ?_
  have F_10 := ((Fv.keep K_5 nin0).other W_9 (Or.inr (slot_ne (t := (.array .byte)) (t' := .byte) (Or.inr (hq hw 12 rfl)) (Or.inr (hq hw 13 rfl)) (by decide) (by decide) (by decide))))
  have F_11 := (F_8.wr W_9)
  obtain ⟨T_12, h_12, X_12, e_12, W_12, st_12⟩ := putF X_9 hx hZ hown (host := "") (Or.inl (hq hw 43 rfl)) Via.refl e_9 F_10 F_11 (Or.inr ⟨(hq hw 12 rfl), rfl, hnm⟩) (hq hw 10 rfl) (ty := (.array .byte)) (by decide) rfl rfl (g := j_124) rfl rfl (D 27 rfl)
  have N_12 := Fr.snoc X_12 N_9 (by omega)
  have z_12 := W_12.size
  have F_12 := F_10.same W_12
  refine Go.s T_12 (mkF m 57 #[vR a1, vR a2, vI 0, vI 4, .val .null, vR cb_5] []) st_12 ?_
  refine Go.retV X_12 hx hlk hret (D 28 rfl) (by decide) (by decide) ?_
  try rw [e_12]
  have F_13 := (F_9.other W_12 (Or.inr (slot_ne (t := .byte) (t' := (.array .byte)) (Or.inr (hq hw 13 rfl)) (Or.inr (hq hw 12 rfl)) (by decide) (by decide) (by decide))))
  have F_14 := ((B_5.other W_9 (own_ne (by omega))).other W_12 (own_ne (by omega)))
  exact ⟨rfl, N_12, ((((Keep.refl h0 [a1]).trans K_5 all0).wr W_9 (Or.inl (by simp))).wr W_12 (Or.inl (by simp))), cb_5, by omega, F_12, F_13, F_14⟩
theorem rmS14 (hw : own_W a0 Z) (a1 : Nat) (a2 : Nat) (h0 : Heap) (n0 : Nat) (Z0 : n0 ≤ h0.size) (vcs : Int32) (hcs : ¬ vcs = 0) (O0 : Old Z n0 h0) (SCS : sCS Z vcs) (E1 : Exa Z h0 a1 "java/lang/String") (Fv : fV Z h0 a1 .null) (Fc : fC Z h0 a1 (.int 0)) (g1 : n0 ≤ a1) (c0 c1 c2 c3 : Int32) (Ac : Ary Z h0 a2 .char [(.int c0), (.int c1), (.int c2), (.int c3)]) (q0 : own_rg c0) (q1 : own_rg c1) (q2 : own_rg c2) (q3 : own_rg c3) (hne : a1 ≠ a2) :
    Con l Z ⟨"java/lang/String", "<init>", "([C)V"⟩ jdk_42_method_3_code 2 none ⟨3, 1, 4, 52⟩ #[(.ref a1), (.ref a2)] h0 (fun v h L => v = none ∧ Fr n0 L ∧ Keep h0 h [a1] ∧ ∃ vb : Nat, h0.size ≤ vb ∧ fV Z h a1 (.ref vb) ∧ fC Z h a1 (.int 0) ∧ Ary Z h vb .byte [(.int c0.toInt8.toInt32), (.int c1.toInt8.toInt32), (.int c2.toInt8.toInt32), (.int c3.toInt8.toInt32)]) := by
  refine Con.o (L := #[vR a1, vR a2]) n0 d8 pf_7 (by simp [argsToLocals, Value.category]) ?_
  intro p e s m _ _ c T0 X0 hx hby hml hZ hown hnm hret hlk e0 N0 D
  have lt_1 := own_ltE E1
  have lt_2 := own_ltA Ac
  let j_125 := (mkF m 4 #[vR a1, vR a2] [(.ref a2), (.int 0), (.ref a2), (.ref a1)])
  refine Go.s T0 j_125 (fun _ hr => yb X0 hx (D 0 rfl) rfl rfl (yb X0 hx (D 1 rfl) rfl rfl (yc X0 hx (D 2 rfl) (yb X0 hx (D 3 rfl) rfl rfl hr)))) ?_
  let j_126 := (mkF m 6 #[vR a1, vR a2] [.null, (.int 4), (.int 0), (.ref a2), (.ref a1)])
  refine Go.s T0 j_126 (fun _ hr => (own_len X0 hx hZ e0 Ac (g := j_125) rfl rfl (D 4 rfl)) _ (yz X0 hx (D 5 rfl) hr)) ?_
  obtain ⟨v_3, T_3, h_3, L_3, X_3, e_3, ⟨rfl, N_3, K_3, vb_3, g_3, F1_3, F2_3, B_3⟩, st_3⟩ := cN X0 hx hZ hown (hq hw 24 rfl) (hq hw 25 rfl) (hq hw 9 rfl) (hq hw 27 rfl) e0 rfl hml (rmS44 l Z a0 hw a1 a2 h0 n0 Z0 vcs hcs O0 SCS E1 Fv Fc g1 c0 c1 c2 c3 Ac q0 q1 q2 q3 hne) (g := j_126) rfl rfl (lenOf pd_3 rfl) rfl (D 6 rfl) (W := 0) rfl rfl (by decide)
  have N_3' := Fr.app N0 N_3
  have z_3 := K_3.1
  refine Go.s T_3 (mkF m 9 #[vR a1, vR a2] []) st_3 ?_
  refine Go.retV X_3 hx hlk hret (D 7 rfl) (by decide) (by decide) ?_
  try rw [e_3]
  exact ⟨rfl, N_3', ((Keep.refl h0 [a1]).trans K_3 (own_t1 (by first | exact Or.inr (by omega) | exact Or.inl (by simp)))), vb_3, by omega, F1_3, F2_3, B_3⟩
theorem pf_8 : plainFor (⟨"java/lang/StringUTF16", "putChar", "([BII)V"⟩ : MethodName) = true := plainFor_of_name (by first | (simp [plainName, overriddenIn]; done) | decide +kernel)
theorem rmPut (hw : own_W a0 Z) (a1 : Nat) (vi : Int32) (p3 : Int32) (h0 : Heap) (n0 : Nat) (Z0 : n0 ≤ h0.size) (O0 : Old Z n0 h0) (SAD : sAD Z) (SHI : sHI Z) (SLO : sLO Z) (vs : List Value) (i : Nat) (hi : vi.toInt = i) (hi9 : i ≤ 9) (Ab : Ary Z h0 a1 .byte vs) (hl : 2 * i + 1 < vs.length) (g1 : n0 ≤ a1) :
    Con l Z ⟨"java/lang/StringUTF16", "putChar", "([BII)V"⟩ jdk_52_method_4_code 3 none ⟨0, 0, 0, 0⟩ #[(.ref a1), (.int vi), (.int p3)] h0 (fun v h L => v = none ∧ Fr n0 L ∧ Keep h0 h [a1] ∧ Ary Z h a1 .byte ((vs.set (2 * i) (.int (own_lo p3))).set (2 * i + 1) (.int (own_hi p3)))) := by
  refine Con.o (L := #[vR a1, vI vi, vI p3]) n0 d20 pf_8 (by simp [argsToLocals, Value.category]) ?_
  intro p e s m _ _ c T0 X0 hx hby hml hZ hown hnm hret hlk e0 N0 D
  have lt_1 := own_ltA Ab
  obtain ⟨T_2, X_2, e_2, st_2⟩ := getS2 X0 hx hZ hown (host := "") (Or.inl (hq hw 234 rfl)) Via.refl e0 (SAD.ext O0.2) (g := (mkF m 0 #[vR a1, vI vi, vI p3] [])) rfl (D 0 rfl)
  refine Go.s T_2 (mkF m 31 #[vR a1, vI vi, vI p3] [(.int (vi <<< ((1 : Int32) &&& 31)))]) (fun _ hr => st_2 _ (yX X_2 hx (D 1 rfl) (pc' := 28) (XT.i0_ne_t (by decide)) rfl (yj X_2 hx (D 2 rfl) rfl (yc X_2 hx (D 3 rfl) (y5 X_2 hx (D 4 rfl) hr))))) ?_
  obtain ⟨v2, hv2⟩ : ∃ z : Int32, z = (vi <<< ((1 : Int32) &&& 31)) := ⟨_, rfl⟩
  refine Go.s T_2 (mkF m 32 #[vR a1, vI v2, vI p3] []) (fun t hr => by subst hv2; exact XS.istoreN X_2.here hx rfl (D 5 rfl) rfl (l' := _) rfl hr) ?_
  have e2 := own_dbl hi (by omega)
  rw [← hv2] at e2
  refine Go.s T_2 (mkF m 34 #[vR a1, vI v2, vI p3] [(.int v2), (.ref a1)]) (fun _ hr => yb X_2 hx (D 6 rfl) rfl rfl (yj X_2 hx (D 7 rfl) rfl hr)) ?_
  obtain ⟨v3, hv3⟩ : ∃ z : Int32, z = (v2 + 1) := ⟨_, rfl⟩
  refine Go.s T_2 (mkF m 37 #[vR a1, vI v3, vI p3] [(.int v2), (.ref a1)]) (fun t hr => by subst hv3; exact XS.iinc X_2.here hx rfl (D 8 rfl) rfl (l' := _) rfl hr) ?_
  have e3 := own_up e2 (by omega)
  rw [← hv3] at e3
  let j_127 := (mkF m 38 #[vR a1, vI v3, vI p3] [(.int p3), (.int v2), (.ref a1)])
  refine Go.s T_2 j_127 (fun _ hr => yj X_2 hx (D 9 rfl) rfl hr) ?_
  obtain ⟨T_3, X_3, e_3, st_3⟩ := getS2 X_2 hx hZ hown (host := "") (Or.inl (hq hw 235 rfl)) Via.refl e_2 (SHI.ext O0.2) (g := j_127) rfl (D 10 rfl)
  let j_128 := (mkF m 43 #[vR a1, vI v3, vI p3] [(.int ((p3 >>> ((0 : Int32) &&& 31)).toInt8.toInt32)), (.int v2), (.ref a1)])
  refine Go.s T_3 j_128 (fun _ hr => st_3 _ (y6 X_3 hx (D 11 rfl) (y8 X_3 hx (D 12 rfl) hr))) ?_
  obtain ⟨T_4, h_4, X_4, e_4, W_4, A_4, st_4⟩ := own_stB X_3 hx hZ e_3 Ab (j := v2) (by omega) (by omega) (g := j_128) rfl rfl (D 13 rfl)
  have N_4 := Fr.snoc X_4 N0 (by omega)
  have z_4 := W_4.size
  rw [show nar .byte ((p3 >>> ((0 : Int32) &&& 31)).toInt8.toInt32) = ((p3 >>> ((0 : Int32) &&& 31)).toInt8.toInt32) from (own_idemB _)] at A_4
  let j_129 := (mkF m 47 #[vR a1, vI v3, vI p3] [(.int p3), (.int v3), (.ref a1)])
  refine Go.s T_4 j_129 (fun _ hr => st_4 _ (yb X_4 hx (D 14 rfl) rfl rfl (yj X_4 hx (D 15 rfl) rfl (yj X_4 hx (D 16 rfl) rfl hr)))) ?_
  have F_5 := (O0.wr W_4 (by omega))
  obtain ⟨T_6, X_6, e_6, st_6⟩ := getS2 X_4 hx hZ hown (host := "") (Or.inl (hq hw 236 rfl)) Via.refl e_4 (SLO.ext F_5.2) (g := j_129) rfl (D 17 rfl)
  let j_130 := (mkF m 52 #[vR a1, vI v3, vI p3] [(.int ((p3 >>> ((8 : Int32) &&& 31)).toInt8.toInt32)), (.int v3), (.ref a1)])
  refine Go.s T_6 j_130 (fun _ hr => st_6 _ (y6 X_6 hx (D 18 rfl) (y8 X_6 hx (D 19 rfl) hr))) ?_
  obtain ⟨T_7, h_7, X_7, e_7, W_7, A_7, st_7⟩ := own_stB X_6 hx hZ e_6 A_4 (j := v3) (by omega) (by simp only [List.length_set]; omega) (g := j_130) rfl rfl (D 20 rfl)
  have N_7 := Fr.snoc X_7 N_4 (by omega)
  have z_7 := W_7.size
  rw [show nar .byte ((p3 >>> ((8 : Int32) &&& 31)).toInt8.toInt32) = ((p3 >>> ((8 : Int32) &&& 31)).toInt8.toInt32) from (own_idemB _)] at A_7
  refine Go.s T_7 (mkF m 53 #[vR a1, vI v3, vI p3] []) st_7 ?_
  refine Go.retV X_7 hx hlk hret (D 21 rfl) (by decide) (by decide) ?_
  try rw [e_7]
  have A' := A_7
  rw [own_toN e2, own_toN e3] at A'
  exact ⟨rfl, N_7, (((Keep.refl h0 [a1]).wr W_4 (Or.inl (by simp))).wr W_7 (Or.inl (by simp))), A'⟩
theorem pf_9 : plainFor (⟨"java/lang/StringUTF16", "getChar", "([BI)C"⟩ : MethodName) = true := plainFor_of_name (by first | (simp [plainName, overriddenIn]; done) | decide +kernel)
theorem rmGet (hw : own_W a0 Z) (a1 : Nat) (vi : Int32) (h0 : Heap) (n0 : Nat) (Z0 : n0 ≤ h0.size) (O0 : Old Z n0 h0) (SAD : sAD Z) (SHI : sHI Z) (SLO : sLO Z) (vs : List Value) (i : Nat) (hi : vi.toInt = i) (hi9 : i ≤ 9) (Ab : Ary Z h0 a1 .byte vs) (hl : 2 * i + 1 < vs.length) (p3 : Int32) (hc0 : 0 ≤ p3.toInt) (hc1 : p3.toInt < 65536) (b1 : vs[2 * i]? = some (.int (own_lo p3))) (b2 : vs[2 * i + 1]? = some (.int (own_hi p3))) :
    Con l Z ⟨"java/lang/StringUTF16", "getChar", "([BI)C"⟩ jdk_52_method_5_code 2 (some .char) ⟨0, 0, 0, 0⟩ #[(.ref a1), (.int vi)] h0 (fun v h L => v = some (.int p3) ∧ Fr n0 L ∧ h = h0) := by
  refine Con.o (L := #[vR a1, vI vi]) n0 d21 pf_9 (by simp [argsToLocals, Value.category]) ?_
  intro p e s m _ _ c T0 X0 hx hby hml hZ hown hnm hret hlk e0 N0 D
  have lt_1 := own_ltA Ab
  obtain ⟨T_2, X_2, e_2, st_2⟩ := getS2 X0 hx hZ hown (host := "") (Or.inl (hq hw 234 rfl)) Via.refl e0 (SAD.ext O0.2) (g := (mkF m 0 #[vR a1, vI vi] [])) rfl (D 0 rfl)
  refine Go.s T_2 (mkF m 31 #[vR a1, vI vi] [(.int (vi <<< ((1 : Int32) &&& 31)))]) (fun _ hr => st_2 _ (yX X_2 hx (D 1 rfl) (pc' := 28) (XT.i0_ne_t (by decide)) rfl (yj X_2 hx (D 2 rfl) rfl (yc X_2 hx (D 3 rfl) (y5 X_2 hx (D 4 rfl) hr))))) ?_
  obtain ⟨v2, hv2⟩ : ∃ z : Int32, z = (vi <<< ((1 : Int32) &&& 31)) := ⟨_, rfl⟩
  refine Go.s T_2 (mkF m 32 #[vR a1, vI v2] []) (fun t hr => by subst hv2; exact XS.istoreN X_2.here hx rfl (D 5 rfl) rfl (l' := _) rfl hr) ?_
  have e2 := own_dbl hi (by omega)
  rw [← hv2] at e2
  refine Go.s T_2 (mkF m 34 #[vR a1, vI v2] [(.int v2), (.ref a1)]) (fun _ hr => yb X_2 hx (D 6 rfl) rfl rfl (yj X_2 hx (D 7 rfl) rfl hr)) ?_
  obtain ⟨v3, hv3⟩ : ∃ z : Int32, z = (v2 + 1) := ⟨_, rfl⟩
  let j_131 := (mkF m 37 #[vR a1, vI v3] [(.int v2), (.ref a1)])
  refine Go.s T_2 j_131 (fun t hr => by subst hv3; exact XS.iinc X_2.here hx rfl (D 8 rfl) rfl (l' := _) rfl hr) ?_
  have e3 := own_up e2 (by omega)
  rw [← hv3] at e3
  let j_132 := (mkF m 42 #[vR a1, vI v3] [(.int ((own_lo p3) &&& 255))])
  refine Go.s T_2 j_132 (fun _ hr => (own_ldB X_2 hx hZ e_2 Ab (j := v2) (v := (.int (own_lo p3))) (by omega) (by omega) (by rw [own_toN e2]; exact b1) (g := j_131) rfl rfl (D 9 rfl)) _ (yq X_2 hx (D 10 rfl) (y3 X_2 hx (D 11 rfl) hr))) ?_
  obtain ⟨T_3, X_3, e_3, st_3⟩ := getS2 X_2 hx hZ hown (host := "") (Or.inl (hq hw 235 rfl)) Via.refl e_2 (SHI.ext O0.2) (g := j_132) rfl (D 12 rfl)
  let j_133 := (mkF m 48 #[vR a1, vI v3] [(.int v3), (.ref a1), (.int (((own_lo p3) &&& 255) <<< ((0 : Int32) &&& 31)))])
  refine Go.s T_3 j_133 (fun _ hr => st_3 _ (y5 X_3 hx (D 13 rfl) (yb X_3 hx (D 14 rfl) rfl rfl (yj X_3 hx (D 15 rfl) rfl hr)))) ?_
  let j_134 := (mkF m 53 #[vR a1, vI v3] [(.int ((own_hi p3) &&& 255)), (.int (((own_lo p3) &&& 255) <<< ((0 : Int32) &&& 31)))])
  refine Go.s T_3 j_134 (fun _ hr => (own_ldB X_3 hx hZ e_3 Ab (j := v3) (v := (.int (own_hi p3))) (by omega) (by omega) (by rw [own_toN e3]; exact b2) (g := j_133) rfl rfl (D 16 rfl)) _ (yq X_3 hx (D 17 rfl) (y3 X_3 hx (D 18 rfl) hr))) ?_
  obtain ⟨T_4, X_4, e_4, st_4⟩ := getS2 X_3 hx hZ hown (host := "") (Or.inl (hq hw 236 rfl)) Via.refl e_3 (SLO.ext O0.2) (g := j_134) rfl (D 19 rfl)
  refine Go.s T_4 (mkF m 59 #[vR a1, vI v3] [(.int (((((own_lo p3) &&& 255) <<< ((0 : Int32) &&& 31)) ||| (((own_hi p3) &&& 255) <<< ((8 : Int32) &&& 31))).toUInt32.toUInt16.toUInt32.toInt32))]) (fun _ hr => st_4 _ (y5 X_4 hx (D 20 rfl) (y4 X_4 hx (D 21 rfl) (y9 X_4 hx (D 22 rfl) hr)))) ?_
  refine Go.retN X_4 hx hlk (t := .char) hret (by simp) (D 23 rfl) (by decide) (by decide) ?_
  try rw [e_4]
  exact ⟨by rw [own_gc hc0 hc1, own_nc hc0 hc1], N0, rfl⟩
theorem pf_10 : plainFor (⟨"java/lang/StringUTF16", "newBytesLength", "(I)I"⟩ : MethodName) = true := plainFor_of_name (by first | (simp [plainName, overriddenIn]; done) | decide +kernel)
theorem rmNL1 (hw : own_W a0 Z)  (h0 : Heap) (n0 : Nat) (Z0 : n0 ≤ h0.size)  :
    Con l Z ⟨"java/lang/StringUTF16", "newBytesLength", "(I)I"⟩ jdk_52_method_3_code 1 (some .int) ⟨0, 0, 0, 0⟩ #[(.int 1)] h0 (fun v h L => v = some (.int 2) ∧ Fr n0 L ∧ h = h0) := by
  refine Con.o (L := #[vI 1]) n0 d22 pf_10 (by simp [argsToLocals, Value.category]) ?_
  intro p e s m _ _ c T0 X0 hx hby hml hZ hown hnm hret hlk e0 N0 D
  let j_135 := (mkF m 13 #[vI 1] [(.int 1)])
  refine Go.s T0 j_135 (fun _ hr => yj X0 hx (D 0 rfl) rfl (yX X0 hx (D 1 rfl) (pc' := 12) (XT.i0_ge_t (by decide)) rfl (yj X0 hx (D 2 rfl) rfl hr))) ?_
  refine Go.s T0 (mkF m 58 #[vI 1] [(.int ((1 : Int32) <<< ((1 : Int32) &&& 31)))]) (fun _ hr => (own_ldc X0 hx hZ hown (index := 20) (x := 1073741823) (hq hw 230 rfl) (g := j_135) rfl (D 3 rfl)) _ (yY X0 hx (D 4 rfl) (pc' := 55) (XT.ii_lt_t (by decide)) rfl (yj X0 hx (D 5 rfl) rfl (yc X0 hx (D 6 rfl) (y5 X0 hx (D 7 rfl) hr))))) ?_
  refine Go.retI X0 hx hlk hret (D 8 rfl) (by decide) (by decide) ?_
  try rw [e0]
  exact ⟨congrArg (fun z => some (Value.int z)) (by decide), N0, rfl⟩
theorem pf_11 : plainFor (⟨"java/lang/StringUTF16", "newBytesFor", "(I)[B"⟩ : MethodName) = true := plainFor_of_name (by first | (simp [plainName, overriddenIn]; done) | decide +kernel)
theorem pd_4 : parseMethodDescriptor "(I)I" = some ⟨[.int], some .int⟩ := by decide +kernel
theorem rmNF1 (hw : own_W a0 Z)  (h0 : Heap) (n0 : Nat) (Z0 : n0 ≤ h0.size)  :
    Con l Z ⟨"java/lang/StringUTF16", "newBytesFor", "(I)[B"⟩ jdk_52_method_2_code 1 (some (.array .byte)) ⟨1, 1, 2, 12⟩ #[(.int 1)] h0 (fun v h L => ∃ a : Nat, v = some (.ref a) ∧ Fr n0 L ∧ Keep h0 h [] ∧ h0.size ≤ a ∧ Ary Z h a .byte [(.int 0), (.int 0)]) := by
  refine Con.o (L := #[vI 1]) n0 d23 pf_11 (by simp [argsToLocals, Value.category]) ?_
  intro p e s m _ _ c T0 X0 hx hby hml hZ hown hnm hret hlk e0 N0 D
  let j_136 := (mkF m 1 #[vI 1] [(.int 1)])
  refine Go.s T0 j_136 (fun _ hr => yj X0 hx (D 0 rfl) rfl hr) ?_
  obtain ⟨v_1, T_1, h_1, L_1, X_1, e_1, ⟨rfl, N_1, hh_1⟩, st_1⟩ := cS X0 hx hZ hown (hq hw 227 rfl) (hq hw 228 rfl) (hq hw 34 rfl) (hq hw 229 rfl) e0 hml (rmNL1 l Z a0 hw h0 n0 Z0) (g := j_136) rfl rfl (lenOf pd_4 rfl) rfl (D 1 rfl) (W := 0) rfl rfl (by decide)
  have N_1' := Fr.app N0 N_1
  rw [hh_1] at e_1
  let j_137 := (mkF m 4 #[vI 1] [(.int 2)])
  refine Go.s T_1 j_137 st_1 ?_
  obtain ⟨T_2, h_2, X_2, e_2, E_2, A_2, st_2⟩ := own_newP X_1 hx hZ (ty := .byte) rfl (hq hw 11 rfl) e_1 (g := j_137) rfl (D 2 rfl) rfl (by decide) (cap := 2) (by decide) (by decide) (by decide) (by decide)
  obtain ⟨ad_2, g_2⟩ : ∃ z, z = h0.size := ⟨_, rfl⟩
  rw [← g_2] at A_2 st_2
  have z_2 := E_2.1
  have y_2 := own_ltA A_2
  have B_2 : Ary Z h_2 ad_2 .byte [(.int 0), (.int 0)] := A_2
  refine Go.s T_2 (mkF m 6 #[vI 1] [(.ref ad_2)]) st_2 ?_
  refine Go.retA X_2 hx hlk (t := (.array .byte)) hret rfl rfl (D 3 rfl) (by decide) (by decide) ?_
  try rw [e_2]
  exact ⟨ad_2, rfl, N_1', ((Keep.refl h0 []).ext E_2), by omega, B_2⟩
theorem pf_12 : plainFor (⟨"java/lang/StringUTF16", "toBytes", "([CII)[B"⟩ : MethodName) = true := plainFor_of_name (by first | (simp [plainName, overriddenIn]; done) | decide +kernel)
theorem pd_5 : parseMethodDescriptor "(I)[B" = some ⟨[.int], some (.array .byte)⟩ := by decide +kernel
theorem pd_6 : parseMethodDescriptor "([BII)V" = some ⟨[(.array .byte), .int, .int], none⟩ := by decide +kernel
theorem rmTB1 (hw : own_W a0 Z) (a1 : Nat) (h0 : Heap) (n0 : Nat) (Z0 : n0 ≤ h0.size) (O0 : Old Z n0 h0) (SAD : sAD Z) (SHI : sHI Z) (SLO : sLO Z) (Ac : Ary Z h0 a1 .char [(.int 65279)])  :
    Con l Z ⟨"java/lang/StringUTF16", "toBytes", "([CII)[B"⟩ jdk_52_method_14_code 5 (some (.array .byte)) ⟨2, 1, 2, 24⟩ #[(.ref a1), (.int 0), (.int 1)] h0 (fun v h L => ∃ a : Nat, v = some (.ref a) ∧ Fr n0 L ∧ Keep h0 h [] ∧ h0.size ≤ a ∧ Ary Z h a .byte [(.int (own_lo 65279)), (.int (own_hi 65279))]) := by
  refine Con.o (L := #[vR a1, vI 0, vI 1, vU, vU]) n0 d24 pf_12 (by simp [argsToLocals, Value.category]) ?_
  intro p e s m _ _ c T0 X0 hx hby hml hZ hown hnm hret hlk e0 N0 D
  have lt_1 := own_ltA Ac
  let j_138 := (mkF m 1 #[vR a1, vI 0, vI 1, vU, vU] [(.int 1)])
  refine Go.s T0 j_138 (fun _ hr => yj X0 hx (D 0 rfl) rfl hr) ?_
  obtain ⟨v_2, T_2, h_2, L_2, X_2, e_2, ⟨nf_2, rfl, N_2, K_2, g_2, B_2⟩, st_2⟩ := cS X0 hx hZ hown (hq hw 224 rfl) (hq hw 225 rfl) (hq hw 34 rfl) (hq hw 226 rfl) e0 hml (rmNF1 l Z a0 hw h0 n0 Z0) (g := j_138) rfl rfl (lenOf pd_5 rfl) rfl (D 1 rfl) (W := 0) rfl rfl (by decide)
  have N_2' := Fr.app N0 N_2
  have z_2 := K_2.1
  have yy_2 := own_ltA B_2
  let j_139 := (mkF m 19 #[vR a1, vI 0, vI 1, vR nf_2, vI 0] [(.int 0), (.ref a1), (.int 0), (.ref nf_2)])
  refine Go.s T_2 j_139 (fun _ hr => st_2 _ (yn X_2 hx (D 2 rfl) rfl rfl (yc X_2 hx (D 3 rfl) (yk X_2 hx (D 4 rfl) rfl (yi X_2 hx (D 5 rfl) rfl (yj X_2 hx (D 6 rfl) rfl (yN X_2 hx (D 7 rfl) (XT.ii_ge_f (by decide)) (yb X_2 hx (D 8 rfl) rfl rfl (yi X_2 hx (D 9 rfl) rfl (yb X_2 hx (D 10 rfl) rfl rfl (yj X_2 hx (D 11 rfl) rfl hr))))))))))) ?_
  have F_3 := (Ac.keep K_2 nin0)
  let j_140 := (mkF m 20 #[vR a1, vI 0, vI 1, vR nf_2, vI 0] [(.int 65279), (.int 0), (.ref nf_2)])
  refine Go.s T_2 j_140 (own_ldC X_2 hx hZ e_2 F_3 (j := 0) (v := (.int 65279)) (by decide) (by simp +decide) rfl (g := j_139) rfl rfl (D 12 rfl)) ?_
  have F_4 := (O0.keep K_2 all0)
  obtain ⟨v_5, T_5, h_5, L_5, X_5, e_5, ⟨rfl, N_5, K_5, A_5⟩, st_5⟩ := cS X_2 hx hZ hown (hq hw 231 rfl) (hq hw 232 rfl) (hq hw 34 rfl) (hq hw 233 rfl) e_2 hml (rmPut l Z a0 hw nf_2 (0 : Int32) (65279 : Int32) h_2 n0 (by omega) F_4 SAD SHI SLO [(.int 0), (.int 0)] 0 rfl (by decide) B_2 (by simp +decide) (by omega)) (g := j_140) rfl rfl (lenOf pd_6 rfl) rfl (D 13 rfl) (W := 0) rfl rfl (by decide)
  have N_5' := Fr.app N_2' N_5
  have z_5 := K_5.1
  have B_5 : Ary Z h_5 nf_2 .byte [(.int (own_lo 65279)), (.int (own_hi 65279))] := A_5
  refine Go.s T_5 (mkF m 33 #[vR a1, vI 1, vI 1, vR nf_2, vI 1] [(.ref nf_2)]) (fun _ hr => st_5 _ (yf X_5 hx (D 14 rfl) rfl rfl (yf X_5 hx (D 15 rfl) rfl rfl (yg X_5 hx (D 16 rfl) (pc' := 8) rfl (yi X_5 hx (D 5 rfl) rfl (yj X_5 hx (D 6 rfl) rfl (yY X_5 hx (D 7 rfl) (pc' := 32) (XT.ii_ge_t (by decide)) rfl (yb X_5 hx (D 17 rfl) rfl rfl hr)))))))) ?_
  refine Go.retA X_5 hx hlk (t := (.array .byte)) hret rfl rfl (D 18 rfl) (by decide) (by decide) ?_
  try rw [e_5]
  exact ⟨nf_2, rfl, N_5', (((Keep.refl h0 []).trans K_2 all0).trans K_5 (own_t1 (by first | exact Or.inr (by omega) | exact Or.inl (by simp)))), by omega, B_5⟩
theorem rmCU1 (hw : own_W a0 Z) (a1 : Nat) (a3 : Nat) (h0 : Heap) (n0 : Nat) (Z0 : n0 ≤ h0.size) (Ac : Ary Z h0 a1 .char [(.int 65279)])  :
    Con l Z ⟨"java/lang/StringUTF16", "compress", "([CI[BII)I"⟩ jdk_52_method_21_code 7 (some .int) ⟨0, 0, 0, 0⟩ #[(.ref a1), (.int 0), (.ref a3), (.int 0), (.int 1)] h0 (fun v h L => v = some (.int 0) ∧ Fr n0 L ∧ h = h0) := by
  refine Con.o (L := #[vR a1, vI 0, vR a3, vI 0, vI 1, vU, vU]) n0 d4 pf_3 (by simp [argsToLocals, Value.category]) ?_
  intro p e s m _ _ c T0 X0 hx hby hml hZ hown hnm hret hlk e0 N0 D
  have lt_1 := own_ltA Ac
  let j_141 := (mkF m 12 #[vR a1, vI 0, vR a3, vI 0, vI 1, vI 0, vU] [(.int 0), (.ref a1)])
  refine Go.s T0 j_141 (fun _ hr => yc X0 hx (D 0 rfl) (yk X0 hx (D 1 rfl) rfl (yi X0 hx (D 2 rfl) rfl (yi X0 hx (D 3 rfl) rfl (yN X0 hx (D 4 rfl) (XT.ii_ge_f (by decide)) (yb X0 hx (D 5 rfl) rfl rfl (yj X0 hx (D 6 rfl) rfl hr))))))) ?_
  refine Go.s T0 (mkF m 25 #[vR a1, vI 0, vR a3, vI 0, vI 1, vI 0, vI 65279] [(.int 0)]) (fun _ hr => (own_ldC X0 hx hZ e0 Ac (j := 0) (v := (.int 65279)) (by decide) (by simp +decide) rfl (g := j_141) rfl rfl (D 7 rfl)) _ (yk X0 hx (D 8 rfl) rfl (yi X0 hx (D 9 rfl) rfl (yq X0 hx (D 10 rfl) (yN X0 hx (D 11 rfl) (XT.ii_le_f (by decide)) (yi X0 hx (D 12 rfl) rfl hr)))))) ?_
  refine Go.retI X0 hx hlk hret (D 13 rfl) (by decide) (by decide) ?_
  try rw [e0]
  exact ⟨rfl, N0, rfl⟩
theorem pd_7 : parseMethodDescriptor "([BI)C" = some ⟨[(.array .byte), .int], some .char⟩ := by decide +kernel
theorem rmC2U1 (hw : own_W a0 Z) (a1 : Nat) (h0 : Heap) (n0 : Nat) (Z0 : n0 ≤ h0.size) (O0 : Old Z n0 h0) (SAD : sAD Z) (SHI : sHI Z) (SLO : sLO Z) (Ac : Ary Z h0 a1 .char [(.int 65279)])  :
    Con l Z ⟨"java/lang/StringUTF16", "compress", "([CII)[B"⟩ jdk_52_method_16_code 6 (some (.array .byte)) ⟨3, 2, 3, 40⟩ #[(.ref a1), (.int 0), (.int 1)] h0 (fun v h L => ∃ a : Nat, v = some (.ref a) ∧ Fr n0 L ∧ Keep h0 h [] ∧ h0.size ≤ a ∧ Ary Z h a .byte [(.int (own_lo 65279)), (.int (own_hi 65279))]) := by
  refine Con.o (L := #[vR a1, vI 0, vI 1, vU, vU, vU]) n0 d5 pf_4 (by simp [argsToLocals, Value.category]) ?_
  intro p e s m _ _ c T0 X0 hx hby hml hZ hown hnm hret hlk e0 N0 D
  have lt_1 := own_ltA Ac
  let j_142 := (mkF m 1 #[vR a1, vI 0, vI 1, vU, vU, vU] [(.int 1)])
  refine Go.s T0 j_142 (fun _ hr => yj X0 hx (D 0 rfl) rfl hr) ?_
  obtain ⟨T_2, h_2, X_2, e_2, E_2, A_2, st_2⟩ := own_newP X0 hx hZ (ty := .byte) rfl (hq hw 11 rfl) e0 (g := j_142) rfl (D 1 rfl) rfl (by decide) (cap := 1) (by decide) (by decide) (by decide) (by decide)
  obtain ⟨ad_2, g_2⟩ : ∃ z, z = h0.size := ⟨_, rfl⟩
  rw [← g_2] at A_2 st_2
  have z_2 := E_2.1
  have y_2 := own_ltA A_2
  have B_2 : Ary Z h_2 ad_2 .byte [(.int 0)] := A_2
  let j_143 := (mkF m 9 #[vR a1, vI 0, vI 1, vR ad_2, vU, vU] [(.int 1), (.int 0), (.ref ad_2), (.int 0), (.ref a1)])
  refine Go.s T_2 j_143 (fun _ hr => st_2 _ (yn X_2 hx (D 2 rfl) rfl rfl (yb X_2 hx (D 3 rfl) rfl rfl (yj X_2 hx (D 4 rfl) rfl (yb X_2 hx (D 5 rfl) rfl rfl (yc X_2 hx (D 6 rfl) (yj X_2 hx (D 7 rfl) rfl hr))))))) ?_
  have F_4 := (Ac.ext E_2)
  obtain ⟨v_3, T_3, h_3, L_3, X_3, e_3, ⟨rfl, N_3, hh_3⟩, st_3⟩ := cS X_2 hx hZ hown (hq hw 36 rfl) (hq hw 37 rfl) (hq hw 34 rfl) (hq hw 38 rfl) e_2 hml (rmCU1 l Z a0 hw a1 ad_2 h_2 n0 (by omega)  F_4 ) (g := j_143) rfl rfl (lenOf pd_0 rfl) rfl (D 8 rfl) (W := 0) rfl rfl (by decide)
  have N_3' := Fr.app N0 N_3
  rw [hh_3] at e_3
  let j_144 := (mkF m 23 #[vR a1, vI 0, vI 1, vR ad_2, vI 0, vU] [(.int 1), (.int 0), (.ref a1)])
  refine Go.s T_3 j_144 (fun _ hr => st_3 _ (yk X_3 hx (D 9 rfl) rfl (yi X_3 hx (D 10 rfl) rfl (yj X_3 hx (D 11 rfl) rfl (yN X_3 hx (D 12 rfl) (XT.ii_eq_f (by decide)) (yb X_3 hx (D 13 rfl) rfl rfl (yj X_3 hx (D 14 rfl) rfl (yj X_3 hx (D 15 rfl) rfl hr)))))))) ?_
  have F_6 := (O0.ext E_2)
  obtain ⟨v_5, T_5, h_5, L_5, X_5, e_5, ⟨tb_5, rfl, N_5, K_5, g_5, B_5⟩, st_5⟩ := cS X_3 hx hZ hown (hq hw 221 rfl) (hq hw 222 rfl) (hq hw 34 rfl) (hq hw 223 rfl) e_3 hml (rmTB1 l Z a0 hw a1 h_2 n0 (by omega) F_6 SAD SHI SLO  F_4 ) (g := j_144) rfl rfl (lenOf pd_1 rfl) rfl (D 16 rfl) (W := 0) rfl rfl (by decide)
  have N_5' := Fr.app N_3' N_5
  have z_5 := K_5.1
  have yy_5 := own_ltA B_5
  let j_145 := (mkF m 32 #[vR a1, vI 0, vI 1, vR ad_2, vI 0, vR tb_5] [(.int 0), (.ref tb_5)])
  refine Go.s T_5 j_145 (fun _ hr => st_5 _ (ym X_5 hx (D 17 rfl) rfl rfl (ya X_5 hx (D 18 rfl) rfl rfl (yi X_5 hx (D 19 rfl) rfl hr)))) ?_
  have F_8 := (F_6.keep K_5 all0)
  obtain ⟨v_7, T_7, h_7, L_7, X_7, e_7, ⟨rfl, N_7, hh_7⟩, st_7⟩ := cS X_5 hx hZ hown (hq hw 237 rfl) (hq hw 238 rfl) (hq hw 34 rfl) (hq hw 239 rfl) e_5 hml (rmGet l Z a0 hw tb_5 (0 : Int32) h_5 n0 (by omega) F_8 SAD SHI SLO [(.int (own_lo 65279)), (.int (own_hi 65279))] 0 rfl (by decide) B_5 (by simp +decide) (65279 : Int32) (by decide) (by decide) rfl rfl) (g := j_145) rfl rfl (lenOf pd_7 rfl) rfl (D 20 rfl) (W := 0) rfl rfl (by decide)
  have N_7' := Fr.app N_5' N_7
  rw [hh_7] at e_7
  refine Go.s T_7 (mkF m 56 #[vR a1, vI 0, vI 1, vR ad_2, vI 0, vR tb_5] [(.ref tb_5)]) (fun _ hr => st_7 _ (yq X_7 hx (D 21 rfl) (yY X_7 hx (D 22 rfl) (pc' := 54) (XT.ii_gt_t (by decide)) rfl (ya X_7 hx (D 23 rfl) rfl rfl hr)))) ?_
  refine Go.retA X_7 hx hlk (t := (.array .byte)) hret rfl rfl (D 24 rfl) (by decide) (by decide) ?_
  try rw [e_7]
  exact ⟨tb_5, rfl, N_7', (((Keep.refl h0 []).ext E_2).trans K_5 all0), by omega, B_5⟩
theorem rmCFU1 (hw : own_W a0 Z) (a1 : Nat) (h0 : Heap) (n0 : Nat) (Z0 : n0 ≤ h0.size) (bs : List Value) (Ab : Ary Z h0 a1 .byte bs) (lb : bs.length = 2) :
    Con l Z ⟨"java/lang/StringUTF16", "coderFromArrayLen", "([BI)B"⟩ jdk_52_method_15_code 2 (some .byte) ⟨0, 0, 0, 0⟩ #[(.ref a1), (.int 1)] h0 (fun v h L => v = some (.int 1) ∧ Fr n0 L ∧ h = h0) := by
  refine Con.o (L := #[vR a1, vI 1]) n0 d6 pf_5 (by simp [argsToLocals, Value.category]) ?_
  intro p e s m _ _ c T0 X0 hx hby hml hZ hown hnm hret hlk e0 N0 D
  have lt_1 := own_ltA Ab
  let j_146 := (mkF m 2 #[vR a1, vI 1] [(.ref a1), (.int 1)])
  refine Go.s T0 j_146 (fun _ hr => yj X0 hx (D 0 rfl) rfl (yb X0 hx (D 1 rfl) rfl rfl hr)) ?_
  refine Go.s T0 (mkF m 3 #[vR a1, vI 1] [(.int (bs).length.toInt32), (.int 1)]) (own_len X0 hx hZ e0 Ab (g := j_146) rfl rfl (D 2 rfl)) ?_
  refine Go.cast (g' := (mkF m 3 #[vR a1, vI 1] [(.int 2), (.int 1)])) (by rw [show (bs).length.toInt32 = 2 from (by rw [lb]; rfl)]) ?_
  refine Go.s T0 (mkF m 8 #[vR a1, vI 1] [(.int ((XT.ushr (-1 : Int32) (31 : Int32)).toInt8.toInt32))]) (fun _ hr => y2 X0 hx (D 3 rfl) (yp X0 hx (D 4 rfl) (y7 X0 hx (D 5 rfl) (y8 X0 hx (D 6 rfl) hr)))) ?_
  refine Go.retN X0 hx hlk (t := .byte) hret (by simp) (D 7 rfl) (by decide) (by decide) ?_
  try rw [e0]
  exact ⟨congrArg (fun z => some (Value.int z)) own_coderU1, N0, rfl⟩
theorem rmS4U1 (hw : own_W a0 Z) (a1 : Nat) (a2 : Nat) (h0 : Heap) (n0 : Nat) (Z0 : n0 ≤ h0.size) (vcs : Int32) (hcs : ¬ vcs = 0) (O0 : Old Z n0 h0) (SCS : sCS Z vcs) (SAD : sAD Z) (SHI : sHI Z) (SLO : sLO Z) (E1 : Exa Z h0 a1 "java/lang/String") (Fv : fV Z h0 a1 .null) (Fc : fC Z h0 a1 (.int 0)) (g1 : n0 ≤ a1) (Ac : Ary Z h0 a2 .char [(.int 65279)])  (hne : a1 ≠ a2) :
    Con l Z ⟨"java/lang/String", "<init>", "([CIILjava/lang/Void;)V"⟩ jdk_42_method_149_code 6 none ⟨4, 2, 3, 57⟩ #[(.ref a1), (.ref a2), (.int 0), (.int 1), .null] h0 (fun v h L => v = none ∧ Fr n0 L ∧ Keep h0 h [a1] ∧ ∃ vb : Nat, h0.size ≤ vb ∧ fV Z h a1 (.ref vb) ∧ fC Z h a1 (.int 1) ∧ Ary Z h vb .byte [(.int (own_lo 65279)), (.int (own_hi 65279))]) := by
  refine Con.o (L := #[vR a1, vR a2, vI 0, vI 1, .val .null, vU]) n0 d7 pf_6 (by simp [argsToLocals, Value.category]) ?_
  intro p e s m _ _ c T0 X0 hx hby hml hZ hown hnm hret hlk e0 N0 D
  have lt_1 := own_ltE E1
  have lt_2 := own_ltA Ac
  let j_147 := (mkF m 1 #[vR a1, vR a2, vI 0, vI 1, .val .null, vU] [(.ref a1)])
  refine Go.s T0 j_147 (fun _ hr => yb X0 hx (D 0 rfl) rfl rfl hr) ?_
  obtain ⟨T_3, X_3, e_3, st_3⟩ := initO X0 hx hZ hown (hq hw 28 rfl) (hq hw 29 rfl) (hq hw 30 rfl) e0 (g := j_147) rfl (by rw [hml]; rfl) rfl (D 1 rfl) (by decide) (W := 0) (by show 2 * 0 + _ ≤ _; exact Nat.le_of_eq rfl) (by decide)
  let j_148 := (mkF m 27 #[vR a1, vR a2, vI 0, vI 1, .val .null, vU] [])
  refine Go.s T_3 j_148 (fun _ hr => st_3 _ (yj X_3 hx (D 2 rfl) rfl (yX X_3 hx (D 3 rfl) (pc' := 27) (XT.i0_ne_t (by decide)) rfl hr))) ?_
  obtain ⟨T_4, X_4, e_4, st_4⟩ := getS2 X_3 hx hZ hown (host := "") (Or.inl (hq hw 31 rfl)) Via.refl e_3 (SCS.ext O0.2) (g := j_148) rfl (D 13 rfl)
  let j_149 := (mkF m 36 #[vR a1, vR a2, vI 0, vI 1, .val .null, vU] [(.int 1), (.int 0), (.ref a2)])
  refine Go.s T_4 j_149 (fun _ hr => st_4 _ (yM X_4 hx (D 14 rfl) (XT.i0_eq_f hcs) (yb X_4 hx (D 15 rfl) rfl rfl (yj X_4 hx (D 16 rfl) rfl (yj X_4 hx (D 17 rfl) rfl hr))))) ?_
  obtain ⟨v_5, T_5, h_5, L_5, X_5, e_5, ⟨cb_5, rfl, N_5, K_5, g_5, B_5⟩, st_5⟩ := cS X_4 hx hZ hown (hq hw 32 rfl) (hq hw 33 rfl) (hq hw 34 rfl) (hq hw 35 rfl) e_4 hml (rmC2U1 l Z a0 hw a2 h0 n0 (by omega) O0 SAD SHI SLO  Ac ) (g := j_149) rfl rfl (lenOf pd_1 rfl) rfl (D 18 rfl) (W := 0) rfl rfl (by decide)
  have N_5' := Fr.app N0 N_5
  have z_5 := K_5.1
  have yy_5 := own_ltA B_5
  let j_150 := (mkF m 45 #[vR a1, vR a2, vI 0, vI 1, .val .null, vR cb_5] [(.int 1), (.ref cb_5), (.ref a1)])
  refine Go.s T_5 j_150 (fun _ hr => st_5 _ (ym X_5 hx (D 19 rfl) rfl rfl (yb X_5 hx (D 20 rfl) rfl rfl (ya X_5 hx (D 21 rfl) rfl rfl (yj X_5 hx (D 22 rfl) rfl hr))))) ?_
  obtain ⟨v_6, T_6, h_6, L_6, X_6, e_6, ⟨rfl, N_6, hh_6⟩, st_6⟩ := cS X_5 hx hZ hown (hq hw 39 rfl) (hq hw 40 rfl) (hq hw 34 rfl) (hq hw 41 rfl) e_5 hml (rmCFU1 l Z a0 hw cb_5 h_5 n0 (by omega) [(.int (own_lo 65279)), (.int (own_hi 65279))] B_5 rfl) (g := j_150) rfl rfl (lenOf pd_2 rfl) rfl (D 23 rfl) (W := 1) rfl rfl (by decide)
  have N_6' := Fr.app N_5' N_6
  rw [hh_6] at e_6
  let j_151 := (mkF m 48 #[vR a1, vR a2, vI 0, vI 1, .val .null, vR cb_5] [(.int 1), (.ref a1)])
  refine Go.s T_6 j_151 st_6 ?_
  have F_7 := (Fc.keep K_5 nin0)
  have F_8 := (E1.keep K_5)
  obtain ⟨T_9, h_9, X_9, e_9, W_9, st_9⟩ := putF X_6 hx hZ hown (host := "") (Or.inl (hq hw 42 rfl)) Via.refl e_6 F_7 F_8 (Or.inr ⟨(hq hw 13 rfl), rfl, hnm⟩) (hq hw 10 rfl) (ty := .byte) (by decide) rfl rfl (g := j_151) rfl rfl (D 24 rfl)
  have N_9 := Fr.snoc X_9 N_6' (by omega)
  have z_9 := W_9.size
  have F_9 := F_7.same W_9
  let j_152 := (mkF m 54 #[vR a1, vR a2, vI 0, vI 1, .val .null, vR cb_5] [(.ref cb_5), (.ref a1)])
  refine Go.s T_9 j_152 (fun _ hr => st_9 _ (yb X_9 hx (D 25 rfl) rfl rfl (ya X_9 hx (D 26 rfl) rfl rfl hr))) ?_
  have F_10 := ((Fv.keep K_5 nin0).other W_9 (Or.inr (slot_ne (t := (.array .byte)) (t' := .byte) (Or.inr (hq hw 12 rfl)) (Or.inr (hq hw 13 rfl)) (by decide) (by decide) (by decide))))
  have F_11 := (F_8.wr W_9)
  obtain ⟨T_12, h_12, X_12, e_12, W_12, st_12⟩ := putF X_9 hx hZ hown (host := "") (Or.inl (hq hw 43 rfl)) Via.refl e_9 F_10 F_11 (Or.inr ⟨(hq hw 12 rfl), rfl, hnm⟩) (hq hw 10 rfl) (ty := (.array .byte)) (by decide) rfl rfl (g := j_152) rfl rfl (D 27 rfl)
  have N_12 := Fr.snoc X_12 N_9 (by omega)
  have z_12 := W_12.size
  have F_12 := F_10.same W_12
  refine Go.s T_12 (mkF m 57 #[vR a1, vR a2, vI 0, vI 1, .val .null, vR cb_5] []) st_12 ?_
  refine Go.retV X_12 hx hlk hret (D 28 rfl) (by decide) (by decide) ?_
  try rw [e_12]
  have F_13 := (F_9.other W_12 (Or.inr (slot_ne (t := .byte) (t' := (.array .byte)) (Or.inr (hq hw 13 rfl)) (Or.inr (hq hw 12 rfl)) (by decide) (by decide) (by decide))))
  have F_14 := ((B_5.other W_9 (own_ne (by omega))).other W_12 (own_ne (by omega)))
  exact ⟨rfl, N_12, ((((Keep.refl h0 [a1]).trans K_5 all0).wr W_9 (Or.inl (by simp))).wr W_12 (Or.inl (by simp))), cb_5, by omega, F_12, F_13, F_14⟩
theorem rmS1U1 (hw : own_W a0 Z) (a1 : Nat) (a2 : Nat) (h0 : Heap) (n0 : Nat) (Z0 : n0 ≤ h0.size) (vcs : Int32) (hcs : ¬ vcs = 0) (O0 : Old Z n0 h0) (SCS : sCS Z vcs) (SAD : sAD Z) (SHI : sHI Z) (SLO : sLO Z) (E1 : Exa Z h0 a1 "java/lang/String") (Fv : fV Z h0 a1 .null) (Fc : fC Z h0 a1 (.int 0)) (g1 : n0 ≤ a1) (Ac : Ary Z h0 a2 .char [(.int 65279)])  (hne : a1 ≠ a2) :
    Con l Z ⟨"java/lang/String", "<init>", "([C)V"⟩ jdk_42_method_3_code 2 none ⟨5, 2, 3, 74⟩ #[(.ref a1), (.ref a2)] h0 (fun v h L => v = none ∧ Fr n0 L ∧ Keep h0 h [a1] ∧ ∃ vb : Nat, h0.size ≤ vb ∧ fV Z h a1 (.ref vb) ∧ fC Z h a1 (.int 1) ∧ Ary Z h vb .byte [(.int (own_lo 65279)), (.int (own_hi 65279))]) := by
  refine Con.o (L := #[vR a1, vR a2]) n0 d8 pf_7 (by simp [argsToLocals, Value.category]) ?_
  intro p e s m _ _ c T0 X0 hx hby hml hZ hown hnm hret hlk e0 N0 D
  have lt_1 := own_ltE E1
  have lt_2 := own_ltA Ac
  let j_153 := (mkF m 4 #[vR a1, vR a2] [(.ref a2), (.int 0), (.ref a2), (.ref a1)])
  refine Go.s T0 j_153 (fun _ hr => yb X0 hx (D 0 rfl) rfl rfl (yb X0 hx (D 1 rfl) rfl rfl (yc X0 hx (D 2 rfl) (yb X0 hx (D 3 rfl) rfl rfl hr)))) ?_
  let j_154 := (mkF m 6 #[vR a1, vR a2] [.null, (.int 1), (.int 0), (.ref a2), (.ref a1)])
  refine Go.s T0 j_154 (fun _ hr => (own_len X0 hx hZ e0 Ac (g := j_153) rfl rfl (D 4 rfl)) _ (yz X0 hx (D 5 rfl) hr)) ?_
  obtain ⟨v_3, T_3, h_3, L_3, X_3, e_3, ⟨rfl, N_3, K_3, vb_3, g_3, F1_3, F2_3, B_3⟩, st_3⟩ := cN X0 hx hZ hown (hq hw 24 rfl) (hq hw 25 rfl) (hq hw 9 rfl) (hq hw 27 rfl) e0 rfl hml (rmS4U1 l Z a0 hw a1 a2 h0 n0 Z0 vcs hcs O0 SCS SAD SHI SLO E1 Fv Fc g1  Ac  hne) (g := j_154) rfl rfl (lenOf pd_3 rfl) rfl (D 6 rfl) (W := 0) rfl rfl (by decide)
  have N_3' := Fr.app N0 N_3
  have z_3 := K_3.1
  refine Go.s T_3 (mkF m 9 #[vR a1, vR a2] []) st_3 ?_
  refine Go.retV X_3 hx hlk hret (D 7 rfl) (by decide) (by decide) ?_
  try rw [e_3]
  exact ⟨rfl, N_3', ((Keep.refl h0 [a1]).trans K_3 (own_t1 (by first | exact Or.inr (by omega) | exact Or.inl (by simp)))), vb_3, by omega, F1_3, F2_3, B_3⟩
theorem rmNL2 (hw : own_W a0 Z)  (h0 : Heap) (n0 : Nat) (Z0 : n0 ≤ h0.size)  :
    Con l Z ⟨"java/lang/StringUTF16", "newBytesLength", "(I)I"⟩ jdk_52_method_3_code 1 (some .int) ⟨0, 0, 0, 0⟩ #[(.int 2)] h0 (fun v h L => v = some (.int 4) ∧ Fr n0 L ∧ h = h0) := by
  refine Con.o (L := #[vI 2]) n0 d22 pf_10 (by simp [argsToLocals, Value.category]) ?_
  intro p e s m _ _ c T0 X0 hx hby hml hZ hown hnm hret hlk e0 N0 D
  let j_155 := (mkF m 13 #[vI 2] [(.int 2)])
  refine Go.s T0 j_155 (fun _ hr => yj X0 hx (D 0 rfl) rfl (yX X0 hx (D 1 rfl) (pc' := 12) (XT.i0_ge_t (by decide)) rfl (yj X0 hx (D 2 rfl) rfl hr))) ?_
  refine Go.s T0 (mkF m 58 #[vI 2] [(.int ((2 : Int32) <<< ((1 : Int32) &&& 31)))]) (fun _ hr => (own_ldc X0 hx hZ hown (index := 20) (x := 1073741823) (hq hw 230 rfl) (g := j_155) rfl (D 3 rfl)) _ (yY X0 hx (D 4 rfl) (pc' := 55) (XT.ii_lt_t (by decide)) rfl (yj X0 hx (D 5 rfl) rfl (yc X0 hx (D 6 rfl) (y5 X0 hx (D 7 rfl) hr))))) ?_
  refine Go.retI X0 hx hlk hret (D 8 rfl) (by decide) (by decide) ?_
  try rw [e0]
  exact ⟨congrArg (fun z => some (Value.int z)) (by decide), N0, rfl⟩
theorem rmNF2 (hw : own_W a0 Z)  (h0 : Heap) (n0 : Nat) (Z0 : n0 ≤ h0.size)  :
    Con l Z ⟨"java/lang/StringUTF16", "newBytesFor", "(I)[B"⟩ jdk_52_method_2_code 1 (some (.array .byte)) ⟨1, 1, 4, 12⟩ #[(.int 2)] h0 (fun v h L => ∃ a : Nat, v = some (.ref a) ∧ Fr n0 L ∧ Keep h0 h [] ∧ h0.size ≤ a ∧ Ary Z h a .byte [(.int 0), (.int 0), (.int 0), (.int 0)]) := by
  refine Con.o (L := #[vI 2]) n0 d23 pf_11 (by simp [argsToLocals, Value.category]) ?_
  intro p e s m _ _ c T0 X0 hx hby hml hZ hown hnm hret hlk e0 N0 D
  let j_156 := (mkF m 1 #[vI 2] [(.int 2)])
  refine Go.s T0 j_156 (fun _ hr => yj X0 hx (D 0 rfl) rfl hr) ?_
  obtain ⟨v_1, T_1, h_1, L_1, X_1, e_1, ⟨rfl, N_1, hh_1⟩, st_1⟩ := cS X0 hx hZ hown (hq hw 227 rfl) (hq hw 228 rfl) (hq hw 34 rfl) (hq hw 229 rfl) e0 hml (rmNL2 l Z a0 hw h0 n0 Z0) (g := j_156) rfl rfl (lenOf pd_4 rfl) rfl (D 1 rfl) (W := 0) rfl rfl (by decide)
  have N_1' := Fr.app N0 N_1
  rw [hh_1] at e_1
  let j_157 := (mkF m 4 #[vI 2] [(.int 4)])
  refine Go.s T_1 j_157 st_1 ?_
  obtain ⟨T_2, h_2, X_2, e_2, E_2, A_2, st_2⟩ := own_newP X_1 hx hZ (ty := .byte) rfl (hq hw 11 rfl) e_1 (g := j_157) rfl (D 2 rfl) rfl (by decide) (cap := 4) (by decide) (by decide) (by decide) (by decide)
  obtain ⟨ad_2, g_2⟩ : ∃ z, z = h0.size := ⟨_, rfl⟩
  rw [← g_2] at A_2 st_2
  have z_2 := E_2.1
  have y_2 := own_ltA A_2
  have B_2 : Ary Z h_2 ad_2 .byte [(.int 0), (.int 0), (.int 0), (.int 0)] := A_2
  refine Go.s T_2 (mkF m 6 #[vI 2] [(.ref ad_2)]) st_2 ?_
  refine Go.retA X_2 hx hlk (t := (.array .byte)) hret rfl rfl (D 3 rfl) (by decide) (by decide) ?_
  try rw [e_2]
  exact ⟨ad_2, rfl, N_1', ((Keep.refl h0 []).ext E_2), by omega, B_2⟩
theorem rmTB2 (hw : own_W a0 Z) (a1 : Nat) (h0 : Heap) (n0 : Nat) (Z0 : n0 ≤ h0.size) (O0 : Old Z n0 h0) (SAD : sAD Z) (SHI : sHI Z) (SLO : sLO Z) (c0 : Int32) (Ac : Ary Z h0 a1 .char [(.int 65279), (.int c0)]) (q0 : own_rg c0) :
    Con l Z ⟨"java/lang/StringUTF16", "toBytes", "([CII)[B"⟩ jdk_52_method_14_code 5 (some (.array .byte)) ⟨2, 1, 4, 24⟩ #[(.ref a1), (.int 0), (.int 2)] h0 (fun v h L => ∃ a : Nat, v = some (.ref a) ∧ Fr n0 L ∧ Keep h0 h [] ∧ h0.size ≤ a ∧ Ary Z h a .byte [(.int (own_lo 65279)), (.int (own_hi 65279)), (.int (own_lo c0)), (.int (own_hi c0))]) := by
  refine Con.o (L := #[vR a1, vI 0, vI 2, vU, vU]) n0 d24 pf_12 (by simp [argsToLocals, Value.category]) ?_
  intro p e s m _ _ c T0 X0 hx hby hml hZ hown hnm hret hlk e0 N0 D
  have lt_1 := own_ltA Ac
  let j_158 := (mkF m 1 #[vR a1, vI 0, vI 2, vU, vU] [(.int 2)])
  refine Go.s T0 j_158 (fun _ hr => yj X0 hx (D 0 rfl) rfl hr) ?_
  obtain ⟨v_2, T_2, h_2, L_2, X_2, e_2, ⟨nf_2, rfl, N_2, K_2, g_2, B_2⟩, st_2⟩ := cS X0 hx hZ hown (hq hw 224 rfl) (hq hw 225 rfl) (hq hw 34 rfl) (hq hw 226 rfl) e0 hml (rmNF2 l Z a0 hw h0 n0 Z0) (g := j_158) rfl rfl (lenOf pd_5 rfl) rfl (D 1 rfl) (W := 0) rfl rfl (by decide)
  have N_2' := Fr.app N0 N_2
  have z_2 := K_2.1
  have yy_2 := own_ltA B_2
  let j_159 := (mkF m 19 #[vR a1, vI 0, vI 2, vR nf_2, vI 0] [(.int 0), (.ref a1), (.int 0), (.ref nf_2)])
  refine Go.s T_2 j_159 (fun _ hr => st_2 _ (yn X_2 hx (D 2 rfl) rfl rfl (yc X_2 hx (D 3 rfl) (yk X_2 hx (D 4 rfl) rfl (yi X_2 hx (D 5 rfl) rfl (yj X_2 hx (D 6 rfl) rfl (yN X_2 hx (D 7 rfl) (XT.ii_ge_f (by decide)) (yb X_2 hx (D 8 rfl) rfl rfl (yi X_2 hx (D 9 rfl) rfl (yb X_2 hx (D 10 rfl) rfl rfl (yj X_2 hx (D 11 rfl) rfl hr))))))))))) ?_
  have F_3 := (Ac.keep K_2 nin0)
  let j_160 := (mkF m 20 #[vR a1, vI 0, vI 2, vR nf_2, vI 0] [(.int 65279), (.int 0), (.ref nf_2)])
  refine Go.s T_2 j_160 (own_ldC X_2 hx hZ e_2 F_3 (j := 0) (v := (.int 65279)) (by decide) (by simp +decide) rfl (g := j_159) rfl rfl (D 12 rfl)) ?_
  have F_4 := (O0.keep K_2 all0)
  obtain ⟨v_5, T_5, h_5, L_5, X_5, e_5, ⟨rfl, N_5, K_5, A_5⟩, st_5⟩ := cS X_2 hx hZ hown (hq hw 231 rfl) (hq hw 232 rfl) (hq hw 34 rfl) (hq hw 233 rfl) e_2 hml (rmPut l Z a0 hw nf_2 (0 : Int32) (65279 : Int32) h_2 n0 (by omega) F_4 SAD SHI SLO [(.int 0), (.int 0), (.int 0), (.int 0)] 0 rfl (by decide) B_2 (by simp +decide) (by omega)) (g := j_160) rfl rfl (lenOf pd_6 rfl) rfl (D 13 rfl) (W := 0) rfl rfl (by decide)
  have N_5' := Fr.app N_2' N_5
  have z_5 := K_5.1
  have B_5 : Ary Z h_5 nf_2 .byte [(.int (own_lo 65279)), (.int (own_hi 65279)), (.int 0), (.int 0)] := A_5
  let j_161 := (mkF m 19 #[vR a1, vI 1, vI 2, vR nf_2, vI 1] [(.int 1), (.ref a1), (.int 1), (.ref nf_2)])
  refine Go.s T_5 j_161 (fun _ hr => st_5 _ (yf X_5 hx (D 14 rfl) rfl rfl (yf X_5 hx (D 15 rfl) rfl rfl (yg X_5 hx (D 16 rfl) (pc' := 8) rfl (yi X_5 hx (D 5 rfl) rfl (yj X_5 hx (D 6 rfl) rfl (yN X_5 hx (D 7 rfl) (XT.ii_ge_f (by decide)) (yb X_5 hx (D 8 rfl) rfl rfl (yi X_5 hx (D 9 rfl) rfl (yb X_5 hx (D 10 rfl) rfl rfl (yj X_5 hx (D 11 rfl) rfl hr))))))))))) ?_
  have F_6 := (F_3.keep K_5 (own_n1 (by omega)))
  let j_162 := (mkF m 20 #[vR a1, vI 1, vI 2, vR nf_2, vI 1] [(.int c0), (.int 1), (.ref nf_2)])
  refine Go.s T_5 j_162 (own_ldC X_5 hx hZ e_5 F_6 (j := 1) (v := (.int c0)) (by decide) (by simp +decide) rfl (g := j_161) rfl rfl (D 12 rfl)) ?_
  have F_7 := (F_4.keep K_5 (own_o1 (by omega)))
  obtain ⟨v_8, T_8, h_8, L_8, X_8, e_8, ⟨rfl, N_8, K_8, A_8⟩, st_8⟩ := cS X_5 hx hZ hown (hq hw 231 rfl) (hq hw 232 rfl) (hq hw 34 rfl) (hq hw 233 rfl) e_5 hml (rmPut l Z a0 hw nf_2 (1 : Int32) c0 h_5 n0 (by omega) F_7 SAD SHI SLO [(.int (own_lo 65279)), (.int (own_hi 65279)), (.int 0), (.int 0)] 1 rfl (by decide) B_5 (by simp +decide) (by omega)) (g := j_162) rfl rfl (lenOf pd_6 rfl) rfl (D 13 rfl) (W := 0) rfl rfl (by decide)
  have N_8' := Fr.app N_5' N_8
  have z_8 := K_8.1
  have B_8 : Ary Z h_8 nf_2 .byte [(.int (own_lo 65279)), (.int (own_hi 65279)), (.int (own_lo c0)), (.int (own_hi c0))] := A_8
  refine Go.s T_8 (mkF m 33 #[vR a1, vI 2, vI 2, vR nf_2, vI 2] [(.ref nf_2)]) (fun _ hr => st_8 _ (yf X_8 hx (D 14 rfl) rfl rfl (yf X_8 hx (D 15 rfl) rfl rfl (yg X_8 hx (D 16 rfl) (pc' := 8) rfl (yi X_8 hx (D 5 rfl) rfl (yj X_8 hx (D 6 rfl) rfl (yY X_8 hx (D 7 rfl) (pc' := 32) (XT.ii_ge_t (by decide)) rfl (yb X_8 hx (D 17 rfl) rfl rfl hr)))))))) ?_
  refine Go.retA X_8 hx hlk (t := (.array .byte)) hret rfl rfl (D 18 rfl) (by decide) (by decide) ?_
  try rw [e_8]
  exact ⟨nf_2, rfl, N_8', ((((Keep.refl h0 []).trans K_2 all0).trans K_5 (own_t1 (by first | exact Or.inr (by omega) | exact Or.inl (by simp)))).trans K_8 (own_t1 (by first | exact Or.inr (by omega) | exact Or.inl (by simp)))), by omega, B_8⟩
theorem rmCU2 (hw : own_W a0 Z) (a1 : Nat) (a3 : Nat) (h0 : Heap) (n0 : Nat) (Z0 : n0 ≤ h0.size) (c0 : Int32) (Ac : Ary Z h0 a1 .char [(.int 65279), (.int c0)]) (q0 : own_rg c0) :
    Con l Z ⟨"java/lang/StringUTF16", "compress", "([CI[BII)I"⟩ jdk_52_method_21_code 7 (some .int) ⟨0, 0, 0, 0⟩ #[(.ref a1), (.int 0), (.ref a3), (.int 0), (.int 2)] h0 (fun v h L => v = some (.int 0) ∧ Fr n0 L ∧ h = h0) := by
  refine Con.o (L := #[vR a1, vI 0, vR a3, vI 0, vI 2, vU, vU]) n0 d4 pf_3 (by simp [argsToLocals, Value.category]) ?_
  intro p e s m _ _ c T0 X0 hx hby hml hZ hown hnm hret hlk e0 N0 D
  have lt_1 := own_ltA Ac
  let j_163 := (mkF m 12 #[vR a1, vI 0, vR a3, vI 0, vI 2, vI 0, vU] [(.int 0), (.ref a1)])
  refine Go.s T0 j_163 (fun _ hr => yc X0 hx (D 0 rfl) (yk X0 hx (D 1 rfl) rfl (yi X0 hx (D 2 rfl) rfl (yi X0 hx (D 3 rfl) rfl (yN X0 hx (D 4 rfl) (XT.ii_ge_f (by decide)) (yb X0 hx (D 5 rfl) rfl rfl (yj X0 hx (D 6 rfl) rfl hr))))))) ?_
  refine Go.s T0 (mkF m 25 #[vR a1, vI 0, vR a3, vI 0, vI 2, vI 0, vI 65279] [(.int 0)]) (fun _ hr => (own_ldC X0 hx hZ e0 Ac (j := 0) (v := (.int 65279)) (by decide) (by simp +decide) rfl (g := j_163) rfl rfl (D 7 rfl)) _ (yk X0 hx (D 8 rfl) rfl (yi X0 hx (D 9 rfl) rfl (yq X0 hx (D 10 rfl) (yN X0 hx (D 11 rfl) (XT.ii_le_f (by decide)) (yi X0 hx (D 12 rfl) rfl hr)))))) ?_
  refine Go.retI X0 hx hlk hret (D 13 rfl) (by decide) (by decide) ?_
  try rw [e0]
  exact ⟨rfl, N0, rfl⟩
theorem rmC2U2 (hw : own_W a0 Z) (a1 : Nat) (h0 : Heap) (n0 : Nat) (Z0 : n0 ≤ h0.size) (O0 : Old Z n0 h0) (SAD : sAD Z) (SHI : sHI Z) (SLO : sLO Z) (c0 : Int32) (Ac : Ary Z h0 a1 .char [(.int 65279), (.int c0)]) (q0 : own_rg c0) :
    Con l Z ⟨"java/lang/StringUTF16", "compress", "([CII)[B"⟩ jdk_52_method_16_code 6 (some (.array .byte)) ⟨3, 2, 6, 40⟩ #[(.ref a1), (.int 0), (.int 2)] h0 (fun v h L => ∃ a : Nat, v = some (.ref a) ∧ Fr n0 L ∧ Keep h0 h [] ∧ h0.size ≤ a ∧ Ary Z h a .byte [(.int (own_lo 65279)), (.int (own_hi 65279)), (.int (own_lo c0)), (.int (own_hi c0))]) := by
  refine Con.o (L := #[vR a1, vI 0, vI 2, vU, vU, vU]) n0 d5 pf_4 (by simp [argsToLocals, Value.category]) ?_
  intro p e s m _ _ c T0 X0 hx hby hml hZ hown hnm hret hlk e0 N0 D
  have lt_1 := own_ltA Ac
  let j_164 := (mkF m 1 #[vR a1, vI 0, vI 2, vU, vU, vU] [(.int 2)])
  refine Go.s T0 j_164 (fun _ hr => yj X0 hx (D 0 rfl) rfl hr) ?_
  obtain ⟨T_2, h_2, X_2, e_2, E_2, A_2, st_2⟩ := own_newP X0 hx hZ (ty := .byte) rfl (hq hw 11 rfl) e0 (g := j_164) rfl (D 1 rfl) rfl (by decide) (cap := 2) (by decide) (by decide) (by decide) (by decide)
  obtain ⟨ad_2, g_2⟩ : ∃ z, z = h0.size := ⟨_, rfl⟩
  rw [← g_2] at A_2 st_2
  have z_2 := E_2.1
  have y_2 := own_ltA A_2
  have B_2 : Ary Z h_2 ad_2 .byte [(.int 0), (.int 0)] := A_2
  let j_165 := (mkF m 9 #[vR a1, vI 0, vI 2, vR ad_2, vU, vU] [(.int 2), (.int 0), (.ref ad_2), (.int 0), (.ref a1)])
  refine Go.s T_2 j_165 (fun _ hr => st_2 _ (yn X_2 hx (D 2 rfl) rfl rfl (yb X_2 hx (D 3 rfl) rfl rfl (yj X_2 hx (D 4 rfl) rfl (yb X_2 hx (D 5 rfl) rfl rfl (yc X_2 hx (D 6 rfl) (yj X_2 hx (D 7 rfl) rfl hr))))))) ?_
  have F_4 := (Ac.ext E_2)
  obtain ⟨v_3, T_3, h_3, L_3, X_3, e_3, ⟨rfl, N_3, hh_3⟩, st_3⟩ := cS X_2 hx hZ hown (hq hw 36 rfl) (hq hw 37 rfl) (hq hw 34 rfl) (hq hw 38 rfl) e_2 hml (rmCU2 l Z a0 hw a1 ad_2 h_2 n0 (by omega) c0 F_4 q0) (g := j_165) rfl rfl (lenOf pd_0 rfl) rfl (D 8 rfl) (W := 0) rfl rfl (by decide)
  have N_3' := Fr.app N0 N_3
  rw [hh_3] at e_3
  let j_166 := (mkF m 23 #[vR a1, vI 0, vI 2, vR ad_2, vI 0, vU] [(.int 2), (.int 0), (.ref a1)])
  refine Go.s T_3 j_166 (fun _ hr => st_3 _ (yk X_3 hx (D 9 rfl) rfl (yi X_3 hx (D 10 rfl) rfl (yj X_3 hx (D 11 rfl) rfl (yN X_3 hx (D 12 rfl) (XT.ii_eq_f (by decide)) (yb X_3 hx (D 13 rfl) rfl rfl (yj X_3 hx (D 14 rfl) rfl (yj X_3 hx (D 15 rfl) rfl hr)))))))) ?_
  have F_6 := (O0.ext E_2)
  obtain ⟨v_5, T_5, h_5, L_5, X_5, e_5, ⟨tb_5, rfl, N_5, K_5, g_5, B_5⟩, st_5⟩ := cS X_3 hx hZ hown (hq hw 221 rfl) (hq hw 222 rfl) (hq hw 34 rfl) (hq hw 223 rfl) e_3 hml (rmTB2 l Z a0 hw a1 h_2 n0 (by omega) F_6 SAD SHI SLO c0 F_4 q0) (g := j_166) rfl rfl (lenOf pd_1 rfl) rfl (D 16 rfl) (W := 0) rfl rfl (by decide)
  have N_5' := Fr.app N_3' N_5
  have z_5 := K_5.1
  have yy_5 := own_ltA B_5
  let j_167 := (mkF m 32 #[vR a1, vI 0, vI 2, vR ad_2, vI 0, vR tb_5] [(.int 0), (.ref tb_5)])
  refine Go.s T_5 j_167 (fun _ hr => st_5 _ (ym X_5 hx (D 17 rfl) rfl rfl (ya X_5 hx (D 18 rfl) rfl rfl (yi X_5 hx (D 19 rfl) rfl hr)))) ?_
  have F_8 := (F_6.keep K_5 all0)
  obtain ⟨v_7, T_7, h_7, L_7, X_7, e_7, ⟨rfl, N_7, hh_7⟩, st_7⟩ := cS X_5 hx hZ hown (hq hw 237 rfl) (hq hw 238 rfl) (hq hw 34 rfl) (hq hw 239 rfl) e_5 hml (rmGet l Z a0 hw tb_5 (0 : Int32) h_5 n0 (by omega) F_8 SAD SHI SLO [(.int (own_lo 65279)), (.int (own_hi 65279)), (.int (own_lo c0)), (.int (own_hi c0))] 0 rfl (by decide) B_5 (by simp +decide) (65279 : Int32) (by decide) (by decide) rfl rfl) (g := j_167) rfl rfl (lenOf pd_7 rfl) rfl (D 20 rfl) (W := 0) rfl rfl (by decide)
  have N_7' := Fr.app N_5' N_7
  rw [hh_7] at e_7
  refine Go.s T_7 (mkF m 56 #[vR a1, vI 0, vI 2, vR ad_2, vI 0, vR tb_5] [(.ref tb_5)]) (fun _ hr => st_7 _ (yq X_7 hx (D 21 rfl) (yY X_7 hx (D 22 rfl) (pc' := 54) (XT.ii_gt_t (by decide)) rfl (ya X_7 hx (D 23 rfl) rfl rfl hr)))) ?_
  refine Go.retA X_7 hx hlk (t := (.array .byte)) hret rfl rfl (D 24 rfl) (by decide) (by decide) ?_
  try rw [e_7]
  exact ⟨tb_5, rfl, N_7', (((Keep.refl h0 []).ext E_2).trans K_5 all0), by omega, B_5⟩
theorem rmCFU2 (hw : own_W a0 Z) (a1 : Nat) (h0 : Heap) (n0 : Nat) (Z0 : n0 ≤ h0.size) (bs : List Value) (Ab : Ary Z h0 a1 .byte bs) (lb : bs.length = 4) :
    Con l Z ⟨"java/lang/StringUTF16", "coderFromArrayLen", "([BI)B"⟩ jdk_52_method_15_code 2 (some .byte) ⟨0, 0, 0, 0⟩ #[(.ref a1), (.int 2)] h0 (fun v h L => v = some (.int 1) ∧ Fr n0 L ∧ h = h0) := by
  refine Con.o (L := #[vR a1, vI 2]) n0 d6 pf_5 (by simp [argsToLocals, Value.category]) ?_
  intro p e s m _ _ c T0 X0 hx hby hml hZ hown hnm hret hlk e0 N0 D
  have lt_1 := own_ltA Ab
  let j_168 := (mkF m 2 #[vR a1, vI 2] [(.ref a1), (.int 2)])
  refine Go.s T0 j_168 (fun _ hr => yj X0 hx (D 0 rfl) rfl (yb X0 hx (D 1 rfl) rfl rfl hr)) ?_
  refine Go.s T0 (mkF m 3 #[vR a1, vI 2] [(.int (bs).length.toInt32), (.int 2)]) (own_len X0 hx hZ e0 Ab (g := j_168) rfl rfl (D 2 rfl)) ?_
  refine Go.cast (g' := (mkF m 3 #[vR a1, vI 2] [(.int 4), (.int 2)])) (by rw [show (bs).length.toInt32 = 4 from (by rw [lb]; rfl)]) ?_
  refine Go.s T0 (mkF m 8 #[vR a1, vI 2] [(.int ((XT.ushr (-2 : Int32) (31 : Int32)).toInt8.toInt32))]) (fun _ hr => y2 X0 hx (D 3 rfl) (yp X0 hx (D 4 rfl) (y7 X0 hx (D 5 rfl) (y8 X0 hx (D 6 rfl) hr)))) ?_
  refine Go.retN X0 hx hlk (t := .byte) hret (by simp) (D 7 rfl) (by decide) (by decide) ?_
  try rw [e0]
  exact ⟨congrArg (fun z => some (Value.int z)) own_coderU2, N0, rfl⟩
theorem rmS4U2 (hw : own_W a0 Z) (a1 : Nat) (a2 : Nat) (h0 : Heap) (n0 : Nat) (Z0 : n0 ≤ h0.size) (vcs : Int32) (hcs : ¬ vcs = 0) (O0 : Old Z n0 h0) (SCS : sCS Z vcs) (SAD : sAD Z) (SHI : sHI Z) (SLO : sLO Z) (E1 : Exa Z h0 a1 "java/lang/String") (Fv : fV Z h0 a1 .null) (Fc : fC Z h0 a1 (.int 0)) (g1 : n0 ≤ a1) (c0 : Int32) (Ac : Ary Z h0 a2 .char [(.int 65279), (.int c0)]) (q0 : own_rg c0) (hne : a1 ≠ a2) :
    Con l Z ⟨"java/lang/String", "<init>", "([CIILjava/lang/Void;)V"⟩ jdk_42_method_149_code 6 none ⟨4, 2, 6, 57⟩ #[(.ref a1), (.ref a2), (.int 0), (.int 2), .null] h0 (fun v h L => v = none ∧ Fr n0 L ∧ Keep h0 h [a1] ∧ ∃ vb : Nat, h0.size ≤ vb ∧ fV Z h a1 (.ref vb) ∧ fC Z h a1 (.int 1) ∧ Ary Z h vb .byte [(.int (own_lo 65279)), (.int (own_hi 65279)), (.int (own_lo c0)), (.int (own_hi c0))]) := by
  refine Con.o (L := #[vR a1, vR a2, vI 0, vI 2, .val .null, vU]) n0 d7 pf_6 (by simp [argsToLocals, Value.category]) ?_
  intro p e s m _ _ c T0 X0 hx hby hml hZ hown hnm hret hlk e0 N0 D
  have lt_1 := own_ltE E1
  have lt_2 := own_ltA Ac
  let j_169 := (mkF m 1 #[vR a1, vR a2, vI 0, vI 2, .val .null, vU] [(.ref a1)])
  refine Go.s T0 j_169 (fun _ hr => yb X0 hx (D 0 rfl) rfl rfl hr) ?_
  obtain ⟨T_3, X_3, e_3, st_3⟩ := initO X0 hx hZ hown (hq hw 28 rfl) (hq hw 29 rfl) (hq hw 30 rfl) e0 (g := j_169) rfl (by rw [hml]; rfl) rfl (D 1 rfl) (by decide) (W := 0) (by show 2 * 0 + _ ≤ _; exact Nat.le_of_eq rfl) (by decide)
  let j_170 := (mkF m 27 #[vR a1, vR a2, vI 0, vI 2, .val .null, vU] [])
  refine Go.s T_3 j_170 (fun _ hr => st_3 _ (yj X_3 hx (D 2 rfl) rfl (yX X_3 hx (D 3 rfl) (pc' := 27) (XT.i0_ne_t (by decide)) rfl hr))) ?_
  obtain ⟨T_4, X_4, e_4, st_4⟩ := getS2 X_3 hx hZ hown (host := "") (Or.inl (hq hw 31 rfl)) Via.refl e_3 (SCS.ext O0.2) (g := j_170) rfl (D 13 rfl)
  let j_171 := (mkF m 36 #[vR a1, vR a2, vI 0, vI 2, .val .null, vU] [(.int 2), (.int 0), (.ref a2)])
  refine Go.s T_4 j_171 (fun _ hr => st_4 _ (yM X_4 hx (D 14 rfl) (XT.i0_eq_f hcs) (yb X_4 hx (D 15 rfl) rfl rfl (yj X_4 hx (D 16 rfl) rfl (yj X_4 hx (D 17 rfl) rfl hr))))) ?_
  obtain ⟨v_5, T_5, h_5, L_5, X_5, e_5, ⟨cb_5, rfl, N_5, K_5, g_5, B_5⟩, st_5⟩ := cS X_4 hx hZ hown (hq hw 32 rfl) (hq hw 33 rfl) (hq hw 34 rfl) (hq hw 35 rfl) e_4 hml (rmC2U2 l Z a0 hw a2 h0 n0 (by omega) O0 SAD SHI SLO c0 Ac q0) (g := j_171) rfl rfl (lenOf pd_1 rfl) rfl (D 18 rfl) (W := 0) rfl rfl (by decide)
  have N_5' := Fr.app N0 N_5
  have z_5 := K_5.1
  have yy_5 := own_ltA B_5
  let j_172 := (mkF m 45 #[vR a1, vR a2, vI 0, vI 2, .val .null, vR cb_5] [(.int 2), (.ref cb_5), (.ref a1)])
  refine Go.s T_5 j_172 (fun _ hr => st_5 _ (ym X_5 hx (D 19 rfl) rfl rfl (yb X_5 hx (D 20 rfl) rfl rfl (ya X_5 hx (D 21 rfl) rfl rfl (yj X_5 hx (D 22 rfl) rfl hr))))) ?_
  obtain ⟨v_6, T_6, h_6, L_6, X_6, e_6, ⟨rfl, N_6, hh_6⟩, st_6⟩ := cS X_5 hx hZ hown (hq hw 39 rfl) (hq hw 40 rfl) (hq hw 34 rfl) (hq hw 41 rfl) e_5 hml (rmCFU2 l Z a0 hw cb_5 h_5 n0 (by omega) [(.int (own_lo 65279)), (.int (own_hi 65279)), (.int (own_lo c0)), (.int (own_hi c0))] B_5 rfl) (g := j_172) rfl rfl (lenOf pd_2 rfl) rfl (D 23 rfl) (W := 1) rfl rfl (by decide)
  have N_6' := Fr.app N_5' N_6
  rw [hh_6] at e_6
  let j_173 := (mkF m 48 #[vR a1, vR a2, vI 0, vI 2, .val .null, vR cb_5] [(.int 1), (.ref a1)])
  refine Go.s T_6 j_173 st_6 ?_
  have F_7 := (Fc.keep K_5 nin0)
  have F_8 := (E1.keep K_5)
  obtain ⟨T_9, h_9, X_9, e_9, W_9, st_9⟩ := putF X_6 hx hZ hown (host := "") (Or.inl (hq hw 42 rfl)) Via.refl e_6 F_7 F_8 (Or.inr ⟨(hq hw 13 rfl), rfl, hnm⟩) (hq hw 10 rfl) (ty := .byte) (by decide) rfl rfl (g := j_173) rfl rfl (D 24 rfl)
  have N_9 := Fr.snoc X_9 N_6' (by omega)
  have z_9 := W_9.size
  have F_9 := F_7.same W_9
  let j_174 := (mkF m 54 #[vR a1, vR a2, vI 0, vI 2, .val .null, vR cb_5] [(.ref cb_5), (.ref a1)])
  refine Go.s T_9 j_174 (fun _ hr => st_9 _ (yb X_9 hx (D 25 rfl) rfl rfl (ya X_9 hx (D 26 rfl) rfl rfl hr))) ?_
  have F_10 := ((Fv.keep K_5 nin0).other W_9 (Or.inr (slot_ne (t := (.array .byte)) (t' := .byte) (Or.inr (hq hw 12 rfl)) (Or.inr (hq hw 13 rfl)) (by decide) (by decide) (by decide))))
  have F_11 := (F_8.wr W_9)
  obtain ⟨T_12, h_12, X_12, e_12, W_12, st_12⟩ := putF X_9 hx hZ hown (host := "") (Or.inl (hq hw 43 rfl)) Via.refl e_9 F_10 F_11 (Or.inr ⟨(hq hw 12 rfl), rfl, hnm⟩) (hq hw 10 rfl) (ty := (.array .byte)) (by decide) rfl rfl (g := j_174) rfl rfl (D 27 rfl)
  have N_12 := Fr.snoc X_12 N_9 (by omega)
  have z_12 := W_12.size
  have F_12 := F_10.same W_12
  refine Go.s T_12 (mkF m 57 #[vR a1, vR a2, vI 0, vI 2, .val .null, vR cb_5] []) st_12 ?_
  refine Go.retV X_12 hx hlk hret (D 28 rfl) (by decide) (by decide) ?_
  try rw [e_12]
  have F_13 := (F_9.other W_12 (Or.inr (slot_ne (t := .byte) (t' := (.array .byte)) (Or.inr (hq hw 13 rfl)) (Or.inr (hq hw 12 rfl)) (by decide) (by decide) (by decide))))
  have F_14 := ((B_5.other W_9 (own_ne (by omega))).other W_12 (own_ne (by omega)))
  exact ⟨rfl, N_12, ((((Keep.refl h0 [a1]).trans K_5 all0).wr W_9 (Or.inl (by simp))).wr W_12 (Or.inl (by simp))), cb_5, by omega, F_12, F_13, F_14⟩
theorem rmS1U2 (hw : own_W a0 Z) (a1 : Nat) (a2 : Nat) (h0 : Heap) (n0 : Nat) (Z0 : n0 ≤ h0.size) (vcs : Int32) (hcs : ¬ vcs = 0) (O0 : Old Z n0 h0) (SCS : sCS Z vcs) (SAD : sAD Z) (SHI : sHI Z) (SLO : sLO Z) (E1 : Exa Z h0 a1 "java/lang/String") (Fv : fV Z h0 a1 .null) (Fc : fC Z h0 a1 (.int 0)) (g1 : n0 ≤ a1) (c0 : Int32) (Ac : Ary Z h0 a2 .char [(.int 65279), (.int c0)]) (q0 : own_rg c0) (hne : a1 ≠ a2) :
    Con l Z ⟨"java/lang/String", "<init>", "([C)V"⟩ jdk_42_method_3_code 2 none ⟨5, 2, 6, 74⟩ #[(.ref a1), (.ref a2)] h0 (fun v h L => v = none ∧ Fr n0 L ∧ Keep h0 h [a1] ∧ ∃ vb : Nat, h0.size ≤ vb ∧ fV Z h a1 (.ref vb) ∧ fC Z h a1 (.int 1) ∧ Ary Z h vb .byte [(.int (own_lo 65279)), (.int (own_hi 65279)), (.int (own_lo c0)), (.int (own_hi c0))]) := by
  refine Con.o (L := #[vR a1, vR a2]) n0 d8 pf_7 (by simp [argsToLocals, Value.category]) ?_
  intro p e s m _ _ c T0 X0 hx hby hml hZ hown hnm hret hlk e0 N0 D
  have lt_1 := own_ltE E1
  have lt_2 := own_ltA Ac
  let j_175 := (mkF m 4 #[vR a1, vR a2] [(.ref a2), (.int 0), (.ref a2), (.ref a1)])
  refine Go.s T0 j_175 (fun _ hr => yb X0 hx (D 0 rfl) rfl rfl (yb X0 hx (D 1 rfl) rfl rfl (yc X0 hx (D 2 rfl) (yb X0 hx (D 3 rfl) rfl rfl hr)))) ?_
  let j_176 := (mkF m 6 #[vR a1, vR a2] [.null, (.int 2), (.int 0), (.ref a2), (.ref a1)])
  refine Go.s T0 j_176 (fun _ hr => (own_len X0 hx hZ e0 Ac (g := j_175) rfl rfl (D 4 rfl)) _ (yz X0 hx (D 5 rfl) hr)) ?_
  obtain ⟨v_3, T_3, h_3, L_3, X_3, e_3, ⟨rfl, N_3, K_3, vb_3, g_3, F1_3, F2_3, B_3⟩, st_3⟩ := cN X0 hx hZ hown (hq hw 24 rfl) (hq hw 25 rfl) (hq hw 9 rfl) (hq hw 27 rfl) e0 rfl hml (rmS4U2 l Z a0 hw a1 a2 h0 n0 Z0 vcs hcs O0 SCS SAD SHI SLO E1 Fv Fc g1 c0 Ac q0 hne) (g := j_176) rfl rfl (lenOf pd_3 rfl) rfl (D 6 rfl) (W := 0) rfl rfl (by decide)
  have N_3' := Fr.app N0 N_3
  have z_3 := K_3.1
  refine Go.s T_3 (mkF m 9 #[vR a1, vR a2] []) st_3 ?_
  refine Go.retV X_3 hx hlk hret (D 7 rfl) (by decide) (by decide) ?_
  try rw [e_3]
  exact ⟨rfl, N_3', ((Keep.refl h0 [a1]).trans K_3 (own_t1 (by first | exact Or.inr (by omega) | exact Or.inl (by simp)))), vb_3, by omega, F1_3, F2_3, B_3⟩
theorem rmNL3 (hw : own_W a0 Z)  (h0 : Heap) (n0 : Nat) (Z0 : n0 ≤ h0.size)  :
    Con l Z ⟨"java/lang/StringUTF16", "newBytesLength", "(I)I"⟩ jdk_52_method_3_code 1 (some .int) ⟨0, 0, 0, 0⟩ #[(.int 3)] h0 (fun v h L => v = some (.int 6) ∧ Fr n0 L ∧ h = h0) := by
  refine Con.o (L := #[vI 3]) n0 d22 pf_10 (by simp [argsToLocals, Value.category]) ?_
  intro p e s m _ _ c T0 X0 hx hby hml hZ hown hnm hret hlk e0 N0 D
  let j_177 := (mkF m 13 #[vI 3] [(.int 3)])
  refine Go.s T0 j_177 (fun _ hr => yj X0 hx (D 0 rfl) rfl (yX X0 hx (D 1 rfl) (pc' := 12) (XT.i0_ge_t (by decide)) rfl (yj X0 hx (D 2 rfl) rfl hr))) ?_
  refine Go.s T0 (mkF m 58 #[vI 3] [(.int ((3 : Int32) <<< ((1 : Int32) &&& 31)))]) (fun _ hr => (own_ldc X0 hx hZ hown (index := 20) (x := 1073741823) (hq hw 230 rfl) (g := j_177) rfl (D 3 rfl)) _ (yY X0 hx (D 4 rfl) (pc' := 55) (XT.ii_lt_t (by decide)) rfl (yj X0 hx (D 5 rfl) rfl (yc X0 hx (D 6 rfl) (y5 X0 hx (D 7 rfl) hr))))) ?_
  refine Go.retI X0 hx hlk hret (D 8 rfl) (by decide) (by decide) ?_
  try rw [e0]
  exact ⟨congrArg (fun z => some (Value.int z)) (by decide), N0, rfl⟩
theorem rmNF3 (hw : own_W a0 Z)  (h0 : Heap) (n0 : Nat) (Z0 : n0 ≤ h0.size)  :
    Con l Z ⟨"java/lang/StringUTF16", "newBytesFor", "(I)[B"⟩ jdk_52_method_2_code 1 (some (.array .byte)) ⟨1, 1, 6, 12⟩ #[(.int 3)] h0 (fun v h L => ∃ a : Nat, v = some (.ref a) ∧ Fr n0 L ∧ Keep h0 h [] ∧ h0.size ≤ a ∧ Ary Z h a .byte [(.int 0), (.int 0), (.int 0), (.int 0), (.int 0), (.int 0)]) := by
  refine Con.o (L := #[vI 3]) n0 d23 pf_11 (by simp [argsToLocals, Value.category]) ?_
  intro p e s m _ _ c T0 X0 hx hby hml hZ hown hnm hret hlk e0 N0 D
  let j_178 := (mkF m 1 #[vI 3] [(.int 3)])
  refine Go.s T0 j_178 (fun _ hr => yj X0 hx (D 0 rfl) rfl hr) ?_
  obtain ⟨v_1, T_1, h_1, L_1, X_1, e_1, ⟨rfl, N_1, hh_1⟩, st_1⟩ := cS X0 hx hZ hown (hq hw 227 rfl) (hq hw 228 rfl) (hq hw 34 rfl) (hq hw 229 rfl) e0 hml (rmNL3 l Z a0 hw h0 n0 Z0) (g := j_178) rfl rfl (lenOf pd_4 rfl) rfl (D 1 rfl) (W := 0) rfl rfl (by decide)
  have N_1' := Fr.app N0 N_1
  rw [hh_1] at e_1
  let j_179 := (mkF m 4 #[vI 3] [(.int 6)])
  refine Go.s T_1 j_179 st_1 ?_
  obtain ⟨T_2, h_2, X_2, e_2, E_2, A_2, st_2⟩ := own_newP X_1 hx hZ (ty := .byte) rfl (hq hw 11 rfl) e_1 (g := j_179) rfl (D 2 rfl) rfl (by decide) (cap := 6) (by decide) (by decide) (by decide) (by decide)
  obtain ⟨ad_2, g_2⟩ : ∃ z, z = h0.size := ⟨_, rfl⟩
  rw [← g_2] at A_2 st_2
  have z_2 := E_2.1
  have y_2 := own_ltA A_2
  have B_2 : Ary Z h_2 ad_2 .byte [(.int 0), (.int 0), (.int 0), (.int 0), (.int 0), (.int 0)] := A_2
  refine Go.s T_2 (mkF m 6 #[vI 3] [(.ref ad_2)]) st_2 ?_
  refine Go.retA X_2 hx hlk (t := (.array .byte)) hret rfl rfl (D 3 rfl) (by decide) (by decide) ?_
  try rw [e_2]
  exact ⟨ad_2, rfl, N_1', ((Keep.refl h0 []).ext E_2), by omega, B_2⟩
theorem rmTB3 (hw : own_W a0 Z) (a1 : Nat) (h0 : Heap) (n0 : Nat) (Z0 : n0 ≤ h0.size) (O0 : Old Z n0 h0) (SAD : sAD Z) (SHI : sHI Z) (SLO : sLO Z) (c0 c1 : Int32) (Ac : Ary Z h0 a1 .char [(.int 65279), (.int c0), (.int c1)]) (q0 : own_rg c0) (q1 : own_rg c1) :
    Con l Z ⟨"java/lang/StringUTF16", "toBytes", "([CII)[B"⟩ jdk_52_method_14_code 5 (some (.array .byte)) ⟨2, 1, 6, 24⟩ #[(.ref a1), (.int 0), (.int 3)] h0 (fun v h L => ∃ a : Nat, v = some (.ref a) ∧ Fr n0 L ∧ Keep h0 h [] ∧ h0.size ≤ a ∧ Ary Z h a .byte [(.int (own_lo 65279)), (.int (own_hi 65279)), (.int (own_lo c0)), (.int (own_hi c0)), (.int (own_lo c1)), (.int (own_hi c1))]) := by
  refine Con.o (L := #[vR a1, vI 0, vI 3, vU, vU]) n0 d24 pf_12 (by simp [argsToLocals, Value.category]) ?_
  intro p e s m _ _ c T0 X0 hx hby hml hZ hown hnm hret hlk e0 N0 D
  have lt_1 := own_ltA Ac
  let j_180 := (mkF m 1 #[vR a1, vI 0, vI 3, vU, vU] [(.int 3)])
  refine Go.s T0 j_180 (fun _ hr => yj X0 hx (D 0 rfl) rfl hr) ?_
  obtain ⟨v_2, T_2, h_2, L_2, X_2, e_2, ⟨nf_2, rfl, N_2, K_2, g_2, B_2⟩, st_2⟩ := cS X0 hx hZ hown (hq hw 224 rfl) (hq hw 225 rfl) (hq hw 34 rfl) (hq hw 226 rfl) e0 hml (rmNF3 l Z a0 hw h0 n0 Z0) (g := j_180) rfl rfl (lenOf pd_5 rfl) rfl (D 1 rfl) (W := 0) rfl rfl (by decide)
  have N_2' := Fr.app N0 N_2
  have z_2 := K_2.1
  have yy_2 := own_ltA B_2
  let j_181 := (mkF m 19 #[vR a1, vI 0, vI 3, vR nf_2, vI 0] [(.int 0), (.ref a1), (.int 0), (.ref nf_2)])
  refine Go.s T_2 j_181 (fun _ hr => st_2 _ (yn X_2 hx (D 2 rfl) rfl rfl (yc X_2 hx (D 3 rfl) (yk X_2 hx (D 4 rfl) rfl (yi X_2 hx (D 5 rfl) rfl (yj X_2 hx (D 6 rfl) rfl (yN X_2 hx (D 7 rfl) (XT.ii_ge_f (by decide)) (yb X_2 hx (D 8 rfl) rfl rfl (yi X_2 hx (D 9 rfl) rfl (yb X_2 hx (D 10 rfl) rfl rfl (yj X_2 hx (D 11 rfl) rfl hr))))))))))) ?_
  have F_3 := (Ac.keep K_2 nin0)
  let j_182 := (mkF m 20 #[vR a1, vI 0, vI 3, vR nf_2, vI 0] [(.int 65279), (.int 0), (.ref nf_2)])
  refine Go.s T_2 j_182 (own_ldC X_2 hx hZ e_2 F_3 (j := 0) (v := (.int 65279)) (by decide) (by simp +decide) rfl (g := j_181) rfl rfl (D 12 rfl)) ?_
  have F_4 := (O0.keep K_2 all0)
  obtain ⟨v_5, T_5, h_5, L_5, X_5, e_5, ⟨rfl, N_5, K_5, A_5⟩, st_5⟩ := cS X_2 hx hZ hown (hq hw 231 rfl) (hq hw 232 rfl) (hq hw 34 rfl) (hq hw 233 rfl) e_2 hml (rmPut l Z a0 hw nf_2 (0 : Int32) (65279 : Int32) h_2 n0 (by omega) F_4 SAD SHI SLO [(.int 0), (.int 0), (.int 0), (.int 0), (.int 0), (.int 0)] 0 rfl (by decide) B_2 (by simp +decide) (by omega)) (g := j_182) rfl rfl (lenOf pd_6 rfl) rfl (D 13 rfl) (W := 0) rfl rfl (by decide)
  have N_5' := Fr.app N_2' N_5
  have z_5 := K_5.1
  have B_5 : Ary Z h_5 nf_2 .byte [(.int (own_lo 65279)), (.int (own_hi 65279)), (.int 0), (.int 0), (.int 0), (.int 0)] := A_5
  let j_183 := (mkF m 19 #[vR a1, vI 1, vI 3, vR nf_2, vI 1] [(.int 1), (.ref a1), (.int 1), (.ref nf_2)])
  refine Go.s T_5 j_183 (fun _ hr => st_5 _ (yf X_5 hx (D 14 rfl) rfl rfl (yf X_5 hx (D 15 rfl) rfl rfl (yg X_5 hx (D 16 rfl) (pc' := 8) rfl (yi X_5 hx (D 5 rfl) rfl (yj X_5 hx (D 6 rfl) rfl (yN X_5 hx (D 7 rfl) (XT.ii_ge_f (by decide)) (yb X_5 hx (D 8 rfl) rfl rfl (yi X_5 hx (D 9 rfl) rfl (yb X_5 hx (D 10 rfl) rfl rfl (yj X_5 hx (D 11 rfl) rfl hr))))))))))) ?_
  have F_6 := (F_3.keep K_5 (own_n1 (by omega)))
  let j_184 := (mkF m 20 #[vR a1, vI 1, vI 3, vR nf_2, vI 1] [(.int c0), (.int 1), (.ref nf_2)])
  refine Go.s T_5 j_184 (own_ldC X_5 hx hZ e_5 F_6 (j := 1) (v := (.int c0)) (by decide) (by simp +decide) rfl (g := j_183) rfl rfl (D 12 rfl)) ?_
  have F_7 := (F_4.keep K_5 (own_o1 (by omega)))
  obtain ⟨v_8, T_8, h_8, L_8, X_8, e_8, ⟨rfl, N_8, K_8, A_8⟩, st_8⟩ := cS X_5 hx hZ hown (hq hw 231 rfl) (hq hw 232 rfl) (hq hw 34 rfl) (hq hw 233 rfl) e_5 hml (rmPut l Z a0 hw nf_2 (1 : Int32) c0 h_5 n0 (by omega) F_7 SAD SHI SLO [(.int (own_lo 65279)), (.int (own_hi 65279)), (.int 0), (.int 0), (.int 0), (.int 0)] 1 rfl (by decide) B_5 (by simp +decide) (by omega)) (g := j_184) rfl rfl (lenOf pd_6 rfl) rfl (D 13 rfl) (W := 0) rfl rfl (by decide)
  have N_8' := Fr.app N_5' N_8
  have z_8 := K_8.1
  have B_8 : Ary Z h_8 nf_2 .byte [(.int (own_lo 65279)), (.int (own_hi 65279)), (.int (own_lo c0)), (.int (own_hi c0)), (.int 0), (.int 0)] := A_8
  let j_185 := (mkF m 19 #[vR a1, vI 2, vI 3, vR nf_2, vI 2] [(.int 2), (.ref a1), (.int 2), (.ref nf_2)])
  refine Go.s T_8 j_185 (fun _ hr => st_8 _ (yf X_8 hx (D 14 rfl) rfl rfl (yf X_8 hx (D 15 rfl) rfl rfl (yg X_8 hx (D 16 rfl) (pc' := 8) rfl (yi X_8 hx (D 5 rfl) rfl (yj X_8 hx (D 6 rfl) rfl (yN X_8 hx (D 7 rfl) (XT.ii_ge_f (by decide)) (yb X_8 hx (D 8 rfl) rfl rfl (yi X_8 hx (D 9 rfl) rfl (yb X_8 hx (D 10 rfl) rfl rfl (yj X_8 hx (D 11 rfl) rfl hr))))))))))) ?_
  have F_9 := (F_6.keep K_8 (own_n1 (by omega)))
  let j_186 := (mkF m 20 #[vR a1, vI 2, vI 3, vR nf_2, vI 2] [(.int c1), (.int 2), (.ref nf_2)])
  refine Go.s T_8 j_186 (own_ldC X_8 hx hZ e_8 F_9 (j := 2) (v := (.int c1)) (by decide) (by simp +decide) rfl (g := j_185) rfl rfl (D 12 rfl)) ?_
  have F_10 := (F_7.keep K_8 (own_o1 (by omega)))
  obtain ⟨v_11, T_11, h_11, L_11, X_11, e_11, ⟨rfl, N_11, K_11, A_11⟩, st_11⟩ := cS X_8 hx hZ hown (hq hw 231 rfl) (hq hw 232 rfl) (hq hw 34 rfl) (hq hw 233 rfl) e_8 hml (rmPut l Z a0 hw nf_2 (2 : Int32) c1 h_8 n0 (by omega) F_10 SAD SHI SLO [(.int (own_lo 65279)), (.int (own_hi 65279)), (.int (own_lo c0)), (.int (own_hi c0)), (.int 0), (.int 0)] 2 rfl (by decide) B_8 (by simp +decide) (by omega)) (g := j_186) rfl rfl (lenOf pd_6 rfl) rfl (D 13 rfl) (W := 0) rfl rfl (by decide)
  have N_11' := Fr.app N_8' N_11
  have z_11 := K_11.1
  have B_11 : Ary Z h_11 nf_2 .byte [(.int (own_lo 65279)), (.int (own_hi 65279)), (.int (own_lo c0)), (.int (own_hi c0)), (.int (own_lo c1)), (.int (own_hi c1))] := A_11
  refine Go.s T_11 (mkF m 33 #[vR a1, vI 3, vI 3, vR nf_2, vI 3] [(.ref nf_2)]) (fun _ hr => st_11 _ (yf X_11 hx (D 14 rfl) rfl rfl (yf X_11 hx (D 15 rfl) rfl rfl (yg X_11 hx (D 16 rfl) (pc' := 8) rfl (yi X_11 hx (D 5 rfl) rfl (yj X_11 hx (D 6 rfl) rfl (yY X_11 hx (D 7 rfl) (pc' := 32) (XT.ii_ge_t (by decide)) rfl (yb X_11 hx (D 17 rfl) rfl rfl hr)))))))) ?_
  refine Go.retA X_11 hx hlk (t := (.array .byte)) hret rfl rfl (D 18 rfl) (by decide) (by decide) ?_
  try rw [e_11]
  exact ⟨nf_2, rfl, N_11', (((((Keep.refl h0 []).trans K_2 all0).trans K_5 (own_t1 (by first | exact Or.inr (by omega) | exact Or.inl (by simp)))).trans K_8 (own_t1 (by first | exact Or.inr (by omega) | exact Or.inl (by simp)))).trans K_11 (own_t1 (by first | exact Or.inr (by omega) | exact Or.inl (by simp)))), by omega, B_11⟩
theorem rmCU3 (hw : own_W a0 Z) (a1 : Nat) (a3 : Nat) (h0 : Heap) (n0 : Nat) (Z0 : n0 ≤ h0.size) (c0 c1 : Int32) (Ac : Ary Z h0 a1 .char [(.int 65279), (.int c0), (.int c1)]) (q0 : own_rg c0) (q1 : own_rg c1) :
    Con l Z ⟨"java/lang/StringUTF16", "compress", "([CI[BII)I"⟩ jdk_52_method_21_code 7 (some .int) ⟨0, 0, 0, 0⟩ #[(.ref a1), (.int 0), (.ref a3), (.int 0), (.int 3)] h0 (fun v h L => v = some (.int 0) ∧ Fr n0 L ∧ h = h0) := by
  refine Con.o (L := #[vR a1, vI 0, vR a3, vI 0, vI 3, vU, vU]) n0 d4 pf_3 (by simp [argsToLocals, Value.category]) ?_
  intro p e s m _ _ c T0 X0 hx hby hml hZ hown hnm hret hlk e0 N0 D
  have lt_1 := own_ltA Ac
  let j_187 := (mkF m 12 #[vR a1, vI 0, vR a3, vI 0, vI 3, vI 0, vU] [(.int 0), (.ref a1)])
  refine Go.s T0 j_187 (fun _ hr => yc X0 hx (D 0 rfl) (yk X0 hx (D 1 rfl) rfl (yi X0 hx (D 2 rfl) rfl (yi X0 hx (D 3 rfl) rfl (yN X0 hx (D 4 rfl) (XT.ii_ge_f (by decide)) (yb X0 hx (D 5 rfl) rfl rfl (yj X0 hx (D 6 rfl) rfl hr))))))) ?_
  refine Go.s T0 (mkF m 25 #[vR a1, vI 0, vR a3, vI 0, vI 3, vI 0, vI 65279] [(.int 0)]) (fun _ hr => (own_ldC X0 hx hZ e0 Ac (j := 0) (v := (.int 65279)) (by decide) (by simp +decide) rfl (g := j_187) rfl rfl (D 7 rfl)) _ (yk X0 hx (D 8 rfl) rfl (yi X0 hx (D 9 rfl) rfl (yq X0 hx (D 10 rfl) (yN X0 hx (D 11 rfl) (XT.ii_le_f (by decide)) (yi X0 hx (D 12 rfl) rfl hr)))))) ?_
  refine Go.retI X0 hx hlk hret (D 13 rfl) (by decide) (by decide) ?_
  try rw [e0]
  exact ⟨rfl, N0, rfl⟩
theorem rmC2U3 (hw : own_W a0 Z) (a1 : Nat) (h0 : Heap) (n0 : Nat) (Z0 : n0 ≤ h0.size) (O0 : Old Z n0 h0) (SAD : sAD Z) (SHI : sHI Z) (SLO : sLO Z) (c0 c1 : Int32) (Ac : Ary Z h0 a1 .char [(.int 65279), (.int c0), (.int c1)]) (q0 : own_rg c0) (q1 : own_rg c1) :
    Con l Z ⟨"java/lang/StringUTF16", "compress", "([CII)[B"⟩ jdk_52_method_16_code 6 (some (.array .byte)) ⟨3, 2, 9, 40⟩ #[(.ref a1), (.int 0), (.int 3)] h0 (fun v h L => ∃ a : Nat, v = some (.ref a) ∧ Fr n0 L ∧ Keep h0 h [] ∧ h0.size ≤ a ∧ Ary Z h a .byte [(.int (own_lo 65279)), (.int (own_hi 65279)), (.int (own_lo c0)), (.int (own_hi c0)), (.int (own_lo c1)), (.int (own_hi c1))]) := by
  refine Con.o (L := #[vR a1, vI 0, vI 3, vU, vU, vU]) n0 d5 pf_4 (by simp [argsToLocals, Value.category]) ?_
  intro p e s m _ _ c T0 X0 hx hby hml hZ hown hnm hret hlk e0 N0 D
  have lt_1 := own_ltA Ac
  let j_188 := (mkF m 1 #[vR a1, vI 0, vI 3, vU, vU, vU] [(.int 3)])
  refine Go.s T0 j_188 (fun _ hr => yj X0 hx (D 0 rfl) rfl hr) ?_
  obtain ⟨T_2, h_2, X_2, e_2, E_2, A_2, st_2⟩ := own_newP X0 hx hZ (ty := .byte) rfl (hq hw 11 rfl) e0 (g := j_188) rfl (D 1 rfl) rfl (by decide) (cap := 3) (by decide) (by decide) (by decide) (by decide)
  obtain ⟨ad_2, g_2⟩ : ∃ z, z = h0.size := ⟨_, rfl⟩
  rw [← g_2] at A_2 st_2
  have z_2 := E_2.1
  have y_2 := own_ltA A_2
  have B_2 : Ary Z h_2 ad_2 .byte [(.int 0), (.int 0), (.int 0)] := A_2
  let j_189 := (mkF m 9 #[vR a1, vI 0, vI 3, vR ad_2, vU, vU] [(.int 3), (.int 0), (.ref ad_2), (.int 0), (.ref a1)])
  refine Go.s T_2 j_189 (fun _ hr => st_2 _ (yn X_2 hx (D 2 rfl) rfl rfl (yb X_2 hx (D 3 rfl) rfl rfl (yj X_2 hx (D 4 rfl) rfl (yb X_2 hx (D 5 rfl) rfl rfl (yc X_2 hx (D 6 rfl) (yj X_2 hx (D 7 rfl) rfl hr))))))) ?_
  have F_4 := (Ac.ext E_2)
  obtain ⟨v_3, T_3, h_3, L_3, X_3, e_3, ⟨rfl, N_3, hh_3⟩, st_3⟩ := cS X_2 hx hZ hown (hq hw 36 rfl) (hq hw 37 rfl) (hq hw 34 rfl) (hq hw 38 rfl) e_2 hml (rmCU3 l Z a0 hw a1 ad_2 h_2 n0 (by omega) c0 c1 F_4 q0 q1) (g := j_189) rfl rfl (lenOf pd_0 rfl) rfl (D 8 rfl) (W := 0) rfl rfl (by decide)
  have N_3' := Fr.app N0 N_3
  rw [hh_3] at e_3
  let j_190 := (mkF m 23 #[vR a1, vI 0, vI 3, vR ad_2, vI 0, vU] [(.int 3), (.int 0), (.ref a1)])
  refine Go.s T_3 j_190 (fun _ hr => st_3 _ (yk X_3 hx (D 9 rfl) rfl (yi X_3 hx (D 10 rfl) rfl (yj X_3 hx (D 11 rfl) rfl (yN X_3 hx (D 12 rfl) (XT.ii_eq_f (by decide)) (yb X_3 hx (D 13 rfl) rfl rfl (yj X_3 hx (D 14 rfl) rfl (yj X_3 hx (D 15 rfl) rfl hr)))))))) ?_
  have F_6 := (O0.ext E_2)
  obtain ⟨v_5, T_5, h_5, L_5, X_5, e_5, ⟨tb_5, rfl, N_5, K_5, g_5, B_5⟩, st_5⟩ := cS X_3 hx hZ hown (hq hw 221 rfl) (hq hw 222 rfl) (hq hw 34 rfl) (hq hw 223 rfl) e_3 hml (rmTB3 l Z a0 hw a1 h_2 n0 (by omega) F_6 SAD SHI SLO c0 c1 F_4 q0 q1) (g := j_190) rfl rfl (lenOf pd_1 rfl) rfl (D 16 rfl) (W := 0) rfl rfl (by decide)
  have N_5' := Fr.app N_3' N_5
  have z_5 := K_5.1
  have yy_5 := own_ltA B_5
  let j_191 := (mkF m 32 #[vR a1, vI 0, vI 3, vR ad_2, vI 0, vR tb_5] [(.int 0), (.ref tb_5)])
  refine Go.s T_5 j_191 (fun _ hr => st_5 _ (ym X_5 hx (D 17 rfl) rfl rfl (ya X_5 hx (D 18 rfl) rfl rfl (yi X_5 hx (D 19 rfl) rfl hr)))) ?_
  have F_8 := (F_6.keep K_5 all0)
  obtain ⟨v_7, T_7, h_7, L_7, X_7, e_7, ⟨rfl, N_7, hh_7⟩, st_7⟩ := cS X_5 hx hZ hown (hq hw 237 rfl) (hq hw 238 rfl) (hq hw 34 rfl) (hq hw 239 rfl) e_5 hml (rmGet l Z a0 hw tb_5 (0 : Int32) h_5 n0 (by omega) F_8 SAD SHI SLO [(.int (own_lo 65279)), (.int (own_hi 65279)), (.int (own_lo c0)), (.int (own_hi c0)), (.int (own_lo c1)), (.int (own_hi c1))] 0 rfl (by decide) B_5 (by simp +decide) (65279 : Int32) (by decide) (by decide) rfl rfl) (g := j_191) rfl rfl (lenOf pd_7 rfl) rfl (D 20 rfl) (W := 0) rfl rfl (by decide)
  have N_7' := Fr.app N_5' N_7
  rw [hh_7] at e_7
  refine Go.s T_7 (mkF m 56 #[vR a1, vI 0, vI 3, vR ad_2, vI 0, vR tb_5] [(.ref tb_5)]) (fun _ hr => st_7 _ (yq X_7 hx (D 21 rfl) (yY X_7 hx (D 22 rfl) (pc' := 54) (XT.ii_gt_t (by decide)) rfl (ya X_7 hx (D 23 rfl) rfl rfl hr)))) ?_
  refine Go.retA X_7 hx hlk (t := (.array .byte)) hret rfl rfl (D 24 rfl) (by decide) (by decide) ?_
  try rw [e_7]
  exact ⟨tb_5, rfl, N_7', (((Keep.refl h0 []).ext E_2).trans K_5 all0), by omega, B_5⟩
theorem rmCFU3 (hw : own_W a0 Z) (a1 : Nat) (h0 : Heap) (n0 : Nat) (Z0 : n0 ≤ h0.size) (bs : List Value) (Ab : Ary Z h0 a1 .byte bs) (lb : bs.length = 6) :
    Con l Z ⟨"java/lang/StringUTF16", "coderFromArrayLen", "([BI)B"⟩ jdk_52_method_15_code 2 (some .byte) ⟨0, 0, 0, 0⟩ #[(.ref a1), (.int 3)] h0 (fun v h L => v = some (.int 1) ∧ Fr n0 L ∧ h = h0) := by
  refine Con.o (L := #[vR a1, vI 3]) n0 d6 pf_5 (by simp [argsToLocals, Value.category]) ?_
  intro p e s m _ _ c T0 X0 hx hby hml hZ hown hnm hret hlk e0 N0 D
  have lt_1 := own_ltA Ab
  let j_192 := (mkF m 2 #[vR a1, vI 3] [(.ref a1), (.int 3)])
  refine Go.s T0 j_192 (fun _ hr => yj X0 hx (D 0 rfl) rfl (yb X0 hx (D 1 rfl) rfl rfl hr)) ?_
  refine Go.s T0 (mkF m 3 #[vR a1, vI 3] [(.int (bs).length.toInt32), (.int 3)]) (own_len X0 hx hZ e0 Ab (g := j_192) rfl rfl (D 2 rfl)) ?_
  refine Go.cast (g' := (mkF m 3 #[vR a1, vI 3] [(.int 6), (.int 3)])) (by rw [show (bs).length.toInt32 = 6 from (by rw [lb]; rfl)]) ?_
  refine Go.s T0 (mkF m 8 #[vR a1, vI 3] [(.int ((XT.ushr (-3 : Int32) (31 : Int32)).toInt8.toInt32))]) (fun _ hr => y2 X0 hx (D 3 rfl) (yp X0 hx (D 4 rfl) (y7 X0 hx (D 5 rfl) (y8 X0 hx (D 6 rfl) hr)))) ?_
  refine Go.retN X0 hx hlk (t := .byte) hret (by simp) (D 7 rfl) (by decide) (by decide) ?_
  try rw [e0]
  exact ⟨congrArg (fun z => some (Value.int z)) own_coderU3, N0, rfl⟩
theorem rmS4U3 (hw : own_W a0 Z) (a1 : Nat) (a2 : Nat) (h0 : Heap) (n0 : Nat) (Z0 : n0 ≤ h0.size) (vcs : Int32) (hcs : ¬ vcs = 0) (O0 : Old Z n0 h0) (SCS : sCS Z vcs) (SAD : sAD Z) (SHI : sHI Z) (SLO : sLO Z) (E1 : Exa Z h0 a1 "java/lang/String") (Fv : fV Z h0 a1 .null) (Fc : fC Z h0 a1 (.int 0)) (g1 : n0 ≤ a1) (c0 c1 : Int32) (Ac : Ary Z h0 a2 .char [(.int 65279), (.int c0), (.int c1)]) (q0 : own_rg c0) (q1 : own_rg c1) (hne : a1 ≠ a2) :
    Con l Z ⟨"java/lang/String", "<init>", "([CIILjava/lang/Void;)V"⟩ jdk_42_method_149_code 6 none ⟨4, 2, 9, 57⟩ #[(.ref a1), (.ref a2), (.int 0), (.int 3), .null] h0 (fun v h L => v = none ∧ Fr n0 L ∧ Keep h0 h [a1] ∧ ∃ vb : Nat, h0.size ≤ vb ∧ fV Z h a1 (.ref vb) ∧ fC Z h a1 (.int 1) ∧ Ary Z h vb .byte [(.int (own_lo 65279)), (.int (own_hi 65279)), (.int (own_lo c0)), (.int (own_hi c0)), (.int (own_lo c1)), (.int (own_hi c1))]) := by
  refine Con.o (L := #[vR a1, vR a2, vI 0, vI 3, .val .null, vU]) n0 d7 pf_6 (by simp [argsToLocals, Value.category]) ?_
  intro p e s m _ _ c T0 X0 hx hby hml hZ hown hnm hret hlk e0 N0 D
  have lt_1 := own_ltE E1
  have lt_2 := own_ltA Ac
  let j_193 := (mkF m 1 #[vR a1, vR a2, vI 0, vI 3, .val .null, vU] [(.ref a1)])
  refine Go.s T0 j_193 (fun _ hr => yb X0 hx (D 0 rfl) rfl rfl hr) ?_
  obtain ⟨T_3, X_3, e_3, st_3⟩ := initO X0 hx hZ hown (hq hw 28 rfl) (hq hw 29 rfl) (hq hw 30 rfl) e0 (g := j_193) rfl (by rw [hml]; rfl) rfl (D 1 rfl) (by decide) (W := 0) (by show 2 * 0 + _ ≤ _; exact Nat.le_of_eq rfl) (by decide)
  let j_194 := (mkF m 27 #[vR a1, vR a2, vI 0, vI 3, .val .null, vU] [])
  refine Go.s T_3 j_194 (fun _ hr => st_3 _ (yj X_3 hx (D 2 rfl) rfl (yX X_3 hx (D 3 rfl) (pc' := 27) (XT.i0_ne_t (by decide)) rfl hr))) ?_
  obtain ⟨T_4, X_4, e_4, st_4⟩ := getS2 X_3 hx hZ hown (host := "") (Or.inl (hq hw 31 rfl)) Via.refl e_3 (SCS.ext O0.2) (g := j_194) rfl (D 13 rfl)
  let j_195 := (mkF m 36 #[vR a1, vR a2, vI 0, vI 3, .val .null, vU] [(.int 3), (.int 0), (.ref a2)])
  refine Go.s T_4 j_195 (fun _ hr => st_4 _ (yM X_4 hx (D 14 rfl) (XT.i0_eq_f hcs) (yb X_4 hx (D 15 rfl) rfl rfl (yj X_4 hx (D 16 rfl) rfl (yj X_4 hx (D 17 rfl) rfl hr))))) ?_
  obtain ⟨v_5, T_5, h_5, L_5, X_5, e_5, ⟨cb_5, rfl, N_5, K_5, g_5, B_5⟩, st_5⟩ := cS X_4 hx hZ hown (hq hw 32 rfl) (hq hw 33 rfl) (hq hw 34 rfl) (hq hw 35 rfl) e_4 hml (rmC2U3 l Z a0 hw a2 h0 n0 (by omega) O0 SAD SHI SLO c0 c1 Ac q0 q1) (g := j_195) rfl rfl (lenOf pd_1 rfl) rfl (D 18 rfl) (W := 0) rfl rfl (by decide)
  have N_5' := Fr.app N0 N_5
  have z_5 := K_5.1
  have yy_5 := own_ltA B_5
  let j_196 := (mkF m 45 #[vR a1, vR a2, vI 0, vI 3, .val .null, vR cb_5] [(.int 3), (.ref cb_5), (.ref a1)])
  refine Go.s T_5 j_196 (fun _ hr => st_5 _ (ym X_5 hx (D 19 rfl) rfl rfl (yb X_5 hx (D 20 rfl) rfl rfl (ya X_5 hx (D 21 rfl) rfl rfl (yj X_5 hx (D 22 rfl) rfl hr))))) ?_
  obtain ⟨v_6, T_6, h_6, L_6, X_6, e_6, ⟨rfl, N_6, hh_6⟩, st_6⟩ := cS X_5 hx hZ hown (hq hw 39 rfl) (hq hw 40 rfl) (hq hw 34 rfl) (hq hw 41 rfl) e_5 hml (rmCFU3 l Z a0 hw cb_5 h_5 n0 (by omega) [(.int (own_lo 65279)), (.int (own_hi 65279)), (.int (own_lo c0)), (.int (own_hi c0)), (.int (own_lo c1)), (.int (own_hi c1))] B_5 rfl) (g := j_196) rfl rfl (lenOf pd_2 rfl) rfl (D 23 rfl) (W := 1) rfl rfl (by decide)
  have N_6' := Fr.app N_5' N_6
  rw [hh_6] at e_6
  let j_197 := (mkF m 48 #[vR a1, vR a2, vI 0, vI 3, .val .null, vR cb_5] [(.int 1), (.ref a1)])
  refine Go.s T_6 j_197 st_6 ?_
  have F_7 := (Fc.keep K_5 nin0)
  have F_8 := (E1.keep K_5)
  obtain ⟨T_9, h_9, X_9, e_9, W_9, st_9⟩ := putF X_6 hx hZ hown (host := "") (Or.inl (hq hw 42 rfl)) Via.refl e_6 F_7 F_8 (Or.inr ⟨(hq hw 13 rfl), rfl, hnm⟩) (hq hw 10 rfl) (ty := .byte) (by decide) rfl rfl (g := j_197) rfl rfl (D 24 rfl)
  have N_9 := Fr.snoc X_9 N_6' (by omega)
  have z_9 := W_9.size
  have F_9 := F_7.same W_9
  let j_198 := (mkF m 54 #[vR a1, vR a2, vI 0, vI 3, .val .null, vR cb_5] [(.ref cb_5), (.ref a1)])
  refine Go.s T_9 j_198 (fun _ hr => st_9 _ (yb X_9 hx (D 25 rfl) rfl rfl (ya X_9 hx (D 26 rfl) rfl rfl hr))) ?_
  have F_10 := ((Fv.keep K_5 nin0).other W_9 (Or.inr (slot_ne (t := (.array .byte)) (t' := .byte) (Or.inr (hq hw 12 rfl)) (Or.inr (hq hw 13 rfl)) (by decide) (by decide) (by decide))))
  have F_11 := (F_8.wr W_9)
  obtain ⟨T_12, h_12, X_12, e_12, W_12, st_12⟩ := putF X_9 hx hZ hown (host := "") (Or.inl (hq hw 43 rfl)) Via.refl e_9 F_10 F_11 (Or.inr ⟨(hq hw 12 rfl), rfl, hnm⟩) (hq hw 10 rfl) (ty := (.array .byte)) (by decide) rfl rfl (g := j_198) rfl rfl (D 27 rfl)
  have N_12 := Fr.snoc X_12 N_9 (by omega)
  have z_12 := W_12.size
  have F_12 := F_10.same W_12
  refine Go.s T_12 (mkF m 57 #[vR a1, vR a2, vI 0, vI 3, .val .null, vR cb_5] []) st_12 ?_
  refine Go.retV X_12 hx hlk hret (D 28 rfl) (by decide) (by decide) ?_
  try rw [e_12]
  have F_13 := (F_9.other W_12 (Or.inr (slot_ne (t := .byte) (t' := (.array .byte)) (Or.inr (hq hw 13 rfl)) (Or.inr (hq hw 12 rfl)) (by decide) (by decide) (by decide))))
  have F_14 := ((B_5.other W_9 (own_ne (by omega))).other W_12 (own_ne (by omega)))
  exact ⟨rfl, N_12, ((((Keep.refl h0 [a1]).trans K_5 all0).wr W_9 (Or.inl (by simp))).wr W_12 (Or.inl (by simp))), cb_5, by omega, F_12, F_13, F_14⟩
theorem rmS1U3 (hw : own_W a0 Z) (a1 : Nat) (a2 : Nat) (h0 : Heap) (n0 : Nat) (Z0 : n0 ≤ h0.size) (vcs : Int32) (hcs : ¬ vcs = 0) (O0 : Old Z n0 h0) (SCS : sCS Z vcs) (SAD : sAD Z) (SHI : sHI Z) (SLO : sLO Z) (E1 : Exa Z h0 a1 "java/lang/String") (Fv : fV Z h0 a1 .null) (Fc : fC Z h0 a1 (.int 0)) (g1 : n0 ≤ a1) (c0 c1 : Int32) (Ac : Ary Z h0 a2 .char [(.int 65279), (.int c0), (.int c1)]) (q0 : own_rg c0) (q1 : own_rg c1) (hne : a1 ≠ a2) :
    Con l Z ⟨"java/lang/String", "<init>", "([C)V"⟩ jdk_42_method_3_code 2 none ⟨5, 2, 9, 74⟩ #[(.ref a1), (.ref a2)] h0 (fun v h L => v = none ∧ Fr n0 L ∧ Keep h0 h [a1] ∧ ∃ vb : Nat, h0.size ≤ vb ∧ fV Z h a1 (.ref vb) ∧ fC Z h a1 (.int 1) ∧ Ary Z h vb .byte [(.int (own_lo 65279)), (.int (own_hi 65279)), (.int (own_lo c0)), (.int (own_hi c0)), (.int (own_lo c1)), (.int (own_hi c1))]) := by
  refine Con.o (L := #[vR a1, vR a2]) n0 d8 pf_7 (by simp [argsToLocals, Value.category]) ?_
  intro p e s m _ _ c T0 X0 hx hby hml hZ hown hnm hret hlk e0 N0 D
  have lt_1 := own_ltE E1
  have lt_2 := own_ltA Ac
  let j_199 := (mkF m 4 #[vR a1, vR a2] [(.ref a2), (.int 0), (.ref a2), (.ref a1)])
  refine Go.s T0 j_199 (fun _ hr => yb X0 hx (D 0 rfl) rfl rfl (yb X0 hx (D 1 rfl) rfl rfl (yc X0 hx (D 2 rfl) (yb X0 hx (D 3 rfl) rfl rfl hr)))) ?_
  let j_200 := (mkF m 6 #[vR a1, vR a2] [.null, (.int 3), (.int 0), (.ref a2), (.ref a1)])
  refine Go.s T0 j_200 (fun _ hr => (own_len X0 hx hZ e0 Ac (g := j_199) rfl rfl (D 4 rfl)) _ (yz X0 hx (D 5 rfl) hr)) ?_
  obtain ⟨v_3, T_3, h_3, L_3, X_3, e_3, ⟨rfl, N_3, K_3, vb_3, g_3, F1_3, F2_3, B_3⟩, st_3⟩ := cN X0 hx hZ hown (hq hw 24 rfl) (hq hw 25 rfl) (hq hw 9 rfl) (hq hw 27 rfl) e0 rfl hml (rmS4U3 l Z a0 hw a1 a2 h0 n0 Z0 vcs hcs O0 SCS SAD SHI SLO E1 Fv Fc g1 c0 c1 Ac q0 q1 hne) (g := j_200) rfl rfl (lenOf pd_3 rfl) rfl (D 6 rfl) (W := 0) rfl rfl (by decide)
  have N_3' := Fr.app N0 N_3
  have z_3 := K_3.1
  refine Go.s T_3 (mkF m 9 #[vR a1, vR a2] []) st_3 ?_
  refine Go.retV X_3 hx hlk hret (D 7 rfl) (by decide) (by decide) ?_
  try rw [e_3]
  exact ⟨rfl, N_3', ((Keep.refl h0 [a1]).trans K_3 (own_t1 (by first | exact Or.inr (by omega) | exact Or.inl (by simp)))), vb_3, by omega, F1_3, F2_3, B_3⟩
theorem rmNL4 (hw : own_W a0 Z)  (h0 : Heap) (n0 : Nat) (Z0 : n0 ≤ h0.size)  :
    Con l Z ⟨"java/lang/StringUTF16", "newBytesLength", "(I)I"⟩ jdk_52_method_3_code 1 (some .int) ⟨0, 0, 0, 0⟩ #[(.int 4)] h0 (fun v h L => v = some (.int 8) ∧ Fr n0 L ∧ h = h0) := by
  refine Con.o (L := #[vI 4]) n0 d22 pf_10 (by simp [argsToLocals, Value.category]) ?_
  intro p e s m _ _ c T0 X0 hx hby hml hZ hown hnm hret hlk e0 N0 D
  let j_201 := (mkF m 13 #[vI 4] [(.int 4)])
  refine Go.s T0 j_201 (fun _ hr => yj X0 hx (D 0 rfl) rfl (yX X0 hx (D 1 rfl) (pc' := 12) (XT.i0_ge_t (by decide)) rfl (yj X0 hx (D 2 rfl) rfl hr))) ?_
  refine Go.s T0 (mkF m 58 #[vI 4] [(.int ((4 : Int32) <<< ((1 : Int32) &&& 31)))]) (fun _ hr => (own_ldc X0 hx hZ hown (index := 20) (x := 1073741823) (hq hw 230 rfl) (g := j_201) rfl (D 3 rfl)) _ (yY X0 hx (D 4 rfl) (pc' := 55) (XT.ii_lt_t (by decide)) rfl (yj X0 hx (D 5 rfl) rfl (yc X0 hx (D 6 rfl) (y5 X0 hx (D 7 rfl) hr))))) ?_
  refine Go.retI X0 hx hlk hret (D 8 rfl) (by decide) (by decide) ?_
  try rw [e0]
  exact ⟨congrArg (fun z => some (Value.int z)) (by decide), N0, rfl⟩
theorem rmNF4 (hw : own_W a0 Z)  (h0 : Heap) (n0 : Nat) (Z0 : n0 ≤ h0.size)  :
    Con l Z ⟨"java/lang/StringUTF16", "newBytesFor", "(I)[B"⟩ jdk_52_method_2_code 1 (some (.array .byte)) ⟨1, 1, 8, 12⟩ #[(.int 4)] h0 (fun v h L => ∃ a : Nat, v = some (.ref a) ∧ Fr n0 L ∧ Keep h0 h [] ∧ h0.size ≤ a ∧ Ary Z h a .byte [(.int 0), (.int 0), (.int 0), (.int 0), (.int 0), (.int 0), (.int 0), (.int 0)]) := by
  refine Con.o (L := #[vI 4]) n0 d23 pf_11 (by simp [argsToLocals, Value.category]) ?_
  intro p e s m _ _ c T0 X0 hx hby hml hZ hown hnm hret hlk e0 N0 D
  let j_202 := (mkF m 1 #[vI 4] [(.int 4)])
  refine Go.s T0 j_202 (fun _ hr => yj X0 hx (D 0 rfl) rfl hr) ?_
  obtain ⟨v_1, T_1, h_1, L_1, X_1, e_1, ⟨rfl, N_1, hh_1⟩, st_1⟩ := cS X0 hx hZ hown (hq hw 227 rfl) (hq hw 228 rfl) (hq hw 34 rfl) (hq hw 229 rfl) e0 hml (rmNL4 l Z a0 hw h0 n0 Z0) (g := j_202) rfl rfl (lenOf pd_4 rfl) rfl (D 1 rfl) (W := 0) rfl rfl (by decide)
  have N_1' := Fr.app N0 N_1
  rw [hh_1] at e_1
  let j_203 := (mkF m 4 #[vI 4] [(.int 8)])
  refine Go.s T_1 j_203 st_1 ?_
  obtain ⟨T_2, h_2, X_2, e_2, E_2, A_2, st_2⟩ := own_newP X_1 hx hZ (ty := .byte) rfl (hq hw 11 rfl) e_1 (g := j_203) rfl (D 2 rfl) rfl (by decide) (cap := 8) (by decide) (by decide) (by decide) (by decide)
  obtain ⟨ad_2, g_2⟩ : ∃ z, z = h0.size := ⟨_, rfl⟩
  rw [← g_2] at A_2 st_2
  have z_2 := E_2.1
  have y_2 := own_ltA A_2
  have B_2 : Ary Z h_2 ad_2 .byte [(.int 0), (.int 0), (.int 0), (.int 0), (.int 0), (.int 0), (.int 0), (.int 0)] := A_2
  refine Go.s T_2 (mkF m 6 #[vI 4] [(.ref ad_2)]) st_2 ?_
  refine Go.retA X_2 hx hlk (t := (.array .byte)) hret rfl rfl (D 3 rfl) (by decide) (by decide) ?_
  try rw [e_2]
  exact ⟨ad_2, rfl, N_1', ((Keep.refl h0 []).ext E_2), by omega, B_2⟩
theorem rmTB4 (hw : own_W a0 Z) (a1 : Nat) (h0 : Heap) (n0 : Nat) (Z0 : n0 ≤ h0.size) (O0 : Old Z n0 h0) (SAD : sAD Z) (SHI : sHI Z) (SLO : sLO Z) (c0 c1 c2 : Int32) (Ac : Ary Z h0 a1 .char [(.int 65279), (.int c0), (.int c1), (.int c2)]) (q0 : own_rg c0) (q1 : own_rg c1) (q2 : own_rg c2) :
    Con l Z ⟨"java/lang/StringUTF16", "toBytes", "([CII)[B"⟩ jdk_52_method_14_code 5 (some (.array .byte)) ⟨2, 1, 8, 24⟩ #[(.ref a1), (.int 0), (.int 4)] h0 (fun v h L => ∃ a : Nat, v = some (.ref a) ∧ Fr n0 L ∧ Keep h0 h [] ∧ h0.size ≤ a ∧ Ary Z h a .byte [(.int (own_lo 65279)), (.int (own_hi 65279)), (.int (own_lo c0)), (.int (own_hi c0)), (.int (own_lo c1)), (.int (own_hi c1)), (.int (own_lo c2)), (.int (own_hi c2))]) := by
  refine Con.o (L := #[vR a1, vI 0, vI 4, vU, vU]) n0 d24 pf_12 (by simp [argsToLocals, Value.category]) ?_
  intro p e s m _ _ c T0 X0 hx hby hml hZ hown hnm hret hlk e0 N0 D
  have lt_1 := own_ltA Ac
  let j_204 := (mkF m 1 #[vR a1, vI 0, vI 4, vU, vU] [(.int 4)])
  refine Go.s T0 j_204 (fun _ hr => yj X0 hx (D 0 rfl) rfl hr) ?_
  obtain ⟨v_2, T_2, h_2, L_2, X_2, e_2, ⟨nf_2, rfl, N_2, K_2, g_2, B_2⟩, st_2⟩ := cS X0 hx hZ hown (hq hw 224 rfl) (hq hw 225 rfl) (hq hw 34 rfl) (hq hw 226 rfl) e0 hml (rmNF4 l Z a0 hw h0 n0 Z0) (g := j_204) rfl rfl (lenOf pd_5 rfl) rfl (D 1 rfl) (W := 0) rfl rfl (by decide)
  have N_2' := Fr.app N0 N_2
  have z_2 := K_2.1
  have yy_2 := own_ltA B_2
  let j_205 := (mkF m 19 #[vR a1, vI 0, vI 4, vR nf_2, vI 0] [(.int 0), (.ref a1), (.int 0), (.ref nf_2)])
  refine Go.s T_2 j_205 (fun _ hr => st_2 _ (yn X_2 hx (D 2 rfl) rfl rfl (yc X_2 hx (D 3 rfl) (yk X_2 hx (D 4 rfl) rfl (yi X_2 hx (D 5 rfl) rfl (yj X_2 hx (D 6 rfl) rfl (yN X_2 hx (D 7 rfl) (XT.ii_ge_f (by decide)) (yb X_2 hx (D 8 rfl) rfl rfl (yi X_2 hx (D 9 rfl) rfl (yb X_2 hx (D 10 rfl) rfl rfl (yj X_2 hx (D 11 rfl) rfl hr))))))))))) ?_
  have F_3 := (Ac.keep K_2 nin0)
  let j_206 := (mkF m 20 #[vR a1, vI 0, vI 4, vR nf_2, vI 0] [(.int 65279), (.int 0), (.ref nf_2)])
  refine Go.s T_2 j_206 (own_ldC X_2 hx hZ e_2 F_3 (j := 0) (v := (.int 65279)) (by decide) (by simp +decide) rfl (g := j_205) rfl rfl (D 12 rfl)) ?_
  have F_4 := (O0.keep K_2 all0)
  obtain ⟨v_5, T_5, h_5, L_5, X_5, e_5, ⟨rfl, N_5, K_5, A_5⟩, st_5⟩ := cS X_2 hx hZ hown (hq hw 231 rfl) (hq hw 232 rfl) (hq hw 34 rfl) (hq hw 233 rfl) e_2 hml (rmPut l Z a0 hw nf_2 (0 : Int32) (65279 : Int32) h_2 n0 (by omega) F_4 SAD SHI SLO [(.int 0), (.int 0), (.int 0), (.int 0), (.int 0), (.int 0), (.int 0), (.int 0)] 0 rfl (by decide) B_2 (by simp +decide) (by omega)) (g := j_206) rfl rfl (lenOf pd_6 rfl) rfl (D 13 rfl) (W := 0) rfl rfl (by decide)
  have N_5' := Fr.app N_2' N_5
  have z_5 := K_5.1
  have B_5 : Ary Z h_5 nf_2 .byte [(.int (own_lo 65279)), (.int (own_hi 65279)), (.int 0), (.int 0), (.int 0), (.int 0), (.int 0), (.int 0)] := A_5
  let j_207 := (mkF m 19 #[vR a1, vI 1, vI 4, vR nf_2, vI 1] [(.int 1), (.ref a1), (.int 1), (.ref nf_2)])
  refine Go.s T_5 j_207 (fun _ hr => st_5 _ (yf X_5 hx (D 14 rfl) rfl rfl (yf X_5 hx (D 15 rfl) rfl rfl (yg X_5 hx (D 16 rfl) (pc' := 8) rfl (yi X_5 hx (D 5 rfl) rfl (yj X_5 hx (D 6 rfl) rfl (yN X_5 hx (D 7 rfl) (XT.ii_ge_f (by decide)) (yb X_5 hx (D 8 rfl) rfl rfl (yi X_5 hx (D 9 rfl) rfl (yb X_5 hx (D 10 rfl) rfl rfl (yj X_5 hx (D 11 rfl) rfl hr))))))))))) ?_
  have F_6 := (F_3.keep K_5 (own_n1 (by omega)))
  let j_208 := (mkF m 20 #[vR a1, vI 1, vI 4, vR nf_2, vI 1] [(.int c0), (.int 1), (.ref nf_2)])
  refine Go.s T_5 j_208 (own_ldC X_5 hx hZ e_5 F_6 (j := 1) (v := (.int c0)) (by decide) (by simp +decide) rfl (g := j_207) rfl rfl (D 12 rfl)) ?_
  have F_7 := (F_4.keep K_5 (own_o1 (by omega)))
  obtain ⟨v_8, T_8, h_8, L_8, X_8, e_8, ⟨rfl, N_8, K_8, A_8⟩, st_8⟩ := cS X_5 hx hZ hown (hq hw 231 rfl) (hq hw 232 rfl) (hq hw 34 rfl) (hq hw 233 rfl) e_5 hml (rmPut l Z a0 hw nf_2 (1 : Int32) c0 h_5 n0 (by omega) F_7 SAD SHI SLO [(.int (own_lo 65279)), (.int (own_hi 65279)), (.int 0), (.int 0), (.int 0), (.int 0), (.int 0), (.int 0)] 1 rfl (by decide) B_5 (by simp +decide) (by omega)) (g := j_208) rfl rfl (lenOf pd_6 rfl) rfl (D 13 rfl) (W := 0) rfl rfl (by decide)
  have N_8' := Fr.app N_5' N_8
  have z_8 := K_8.1
  have B_8 : Ary Z h_8 nf_2 .byte [(.int (own_lo 65279)), (.int (own_hi 65279)), (.int (own_lo c0)), (.int (own_hi c0)), (.int 0), (.int 0), (.int 0), (.int 0)] := A_8
  let j_209 := (mkF m 19 #[vR a1, vI 2, vI 4, vR nf_2, vI 2] [(.int 2), (.ref a1), (.int 2), (.ref nf_2)])
  refine Go.s T_8 j_209 (fun _ hr => st_8 _ (yf X_8 hx (D 14 rfl) rfl rfl (yf X_8 hx (D 15 rfl) rfl rfl (yg X_8 hx (D 16 rfl) (pc' := 8) rfl (yi X_8 hx (D 5 rfl) rfl (yj X_8 hx (D 6 rfl) rfl (yN X_8 hx (D 7 rfl) (XT.ii_ge_f (by decide)) (yb X_8 hx (D 8 rfl) rfl rfl (yi X_8 hx (D 9 rfl) rfl (yb X_8 hx (D 10 rfl) rfl rfl (yj X_8 hx (D 11 rfl) rfl hr))))))))))) ?_
  have F_9 := (F_6.keep K_8 (own_n1 (by omega)))
  let j_210 := (mkF m 20 #[vR a1, vI 2, vI 4, vR nf_2, vI 2] [(.int c1), (.int 2), (.ref nf_2)])
  refine Go.s T_8 j_210 (own_ldC X_8 hx hZ e_8 F_9 (j := 2) (v := (.int c1)) (by decide) (by simp +decide) rfl (g := j_209) rfl rfl (D 12 rfl)) ?_
  have F_10 := (F_7.keep K_8 (own_o1 (by omega)))
  obtain ⟨v_11, T_11, h_11, L_11, X_11, e_11, ⟨rfl, N_11, K_11, A_11⟩, st_11⟩ := cS X_8 hx hZ hown (hq hw 231 rfl) (hq hw 232 rfl) (hq hw 34 rfl) (hq hw 233 rfl) e_8 hml (rmPut l Z a0 hw nf_2 (2 : Int32) c1 h_8 n0 (by omega) F_10 SAD SHI SLO [(.int (own_lo 65279)), (.int (own_hi 65279)), (.int (own_lo c0)), (.int (own_hi c0)), (.int 0), (.int 0), (.int 0), (.int 0)] 2 rfl (by decide) B_8 (by simp +decide) (by omega)) (g := j_210) rfl rfl (lenOf pd_6 rfl) rfl (D 13 rfl) (W := 0) rfl rfl (by decide)
  have N_11' := Fr.app N_8' N_11
  have z_11 := K_11.1
  have B_11 : Ary Z h_11 nf_2 .byte [(.int (own_lo 65279)), (.int (own_hi 65279)), (.int (own_lo c0)), (.int (own_hi c0)), (.int (own_lo c1)), (.int (own_hi c1)), (.int 0), (.int 0)] := A_11
  let j_211 := (mkF m 19 #[vR a1, vI 3, vI 4, vR nf_2, vI 3] [(.int 3), (.ref a1), (.int 3), (.ref nf_2)])
  refine Go.s T_11 j_211 (fun _ hr => st_11 _ (yf X_11 hx (D 14 rfl) rfl rfl (yf X_11 hx (D 15 rfl) rfl rfl (yg X_11 hx (D 16 rfl) (pc' := 8) rfl (yi X_11 hx (D 5 rfl) rfl (yj X_11 hx (D 6 rfl) rfl (yN X_11 hx (D 7 rfl) (XT.ii_ge_f (by decide)) (yb X_11 hx (D 8 rfl) rfl rfl (yi X_11 hx (D 9 rfl) rfl (yb X_11 hx (D 10 rfl) rfl rfl (yj X_11 hx (D 11 rfl) rfl hr))))))))))) ?_
  have F_12 := (F_9.keep K_11 (own_n1 (by omega)))
  let j_212 := (mkF m 20 #[vR a1, vI 3, vI 4, vR nf_2, vI 3] [(.int c2), (.int 3), (.ref nf_2)])
  refine Go.s T_11 j_212 (own_ldC X_11 hx hZ e_11 F_12 (j := 3) (v := (.int c2)) (by decide) (by simp +decide) rfl (g := j_211) rfl rfl (D 12 rfl)) ?_
  have F_13 := (F_10.keep K_11 (own_o1 (by omega)))
  obtain ⟨v_14, T_14, h_14, L_14, X_14, e_14, ⟨rfl, N_14, K_14, A_14⟩, st_14⟩ := cS X_11 hx hZ hown (hq hw 231 rfl) (hq hw 232 rfl) (hq hw 34 rfl) (hq hw 233 rfl) e_11 hml (rmPut l Z a0 hw nf_2 (3 : Int32) c2 h_11 n0 (by omega) F_13 SAD SHI SLO [(.int (own_lo 65279)), (.int (own_hi 65279)), (.int (own_lo c0)), (.int (own_hi c0)), (.int (own_lo c1)), (.int (own_hi c1)), (.int 0), (.int 0)] 3 rfl (by decide) B_11 (by simp +decide) (by omega)) (g := j_212) rfl rfl (lenOf pd_6 rfl) rfl (D 13 rfl) (W := 0) rfl rfl (by decide)
  have N_14' := Fr.app N_11' N_14
  have z_14 := K_14.1
  have B_14 : Ary Z h_14 nf_2 .byte [(.int (own_lo 65279)), (.int (own_hi 65279)), (.int (own_lo c0)), (.int (own_hi c0)), (.int (own_lo c1)), (.int (own_hi c1)), (.int (own_lo c2)), (.int (own_hi c2))] := A_14
  refine Go.s T_14 (mkF m 33 #[vR a1, vI 4, vI 4, vR nf_2, vI 4] [(.ref nf_2)]) (fun _ hr => st_14 _ (yf X_14 hx (D 14 rfl) rfl rfl (yf X_14 hx (D 15 rfl) rfl rfl (yg X_14 hx (D 16 rfl) (pc' := 8) rfl (yi X_14 hx (D 5 rfl) rfl (yj X_14 hx (D 6 rfl) rfl (yY X_14 hx (D 7 rfl) (pc' := 32) (XT.ii_ge_t (by decide)) rfl (yb X_14 hx (D 17 rfl) rfl rfl hr)))))))) ?_
  refine Go.retA X_14 hx hlk (t := (.array .byte)) hret rfl rfl (D 18 rfl) (by decide) (by decide) ?_
  try rw [e_14]
  exact ⟨nf_2, rfl, N_14', ((((((Keep.refl h0 []).trans K_2 all0).trans K_5 (own_t1 (by first | exact Or.inr (by omega) | exact Or.inl (by simp)))).trans K_8 (own_t1 (by first | exact Or.inr (by omega) | exact Or.inl (by simp)))).trans K_11 (own_t1 (by first | exact Or.inr (by omega) | exact Or.inl (by simp)))).trans K_14 (own_t1 (by first | exact Or.inr (by omega) | exact Or.inl (by simp)))), by omega, B_14⟩
theorem rmCU4 (hw : own_W a0 Z) (a1 : Nat) (a3 : Nat) (h0 : Heap) (n0 : Nat) (Z0 : n0 ≤ h0.size) (c0 c1 c2 : Int32) (Ac : Ary Z h0 a1 .char [(.int 65279), (.int c0), (.int c1), (.int c2)]) (q0 : own_rg c0) (q1 : own_rg c1) (q2 : own_rg c2) :
    Con l Z ⟨"java/lang/StringUTF16", "compress", "([CI[BII)I"⟩ jdk_52_method_21_code 7 (some .int) ⟨0, 0, 0, 0⟩ #[(.ref a1), (.int 0), (.ref a3), (.int 0), (.int 4)] h0 (fun v h L => v = some (.int 0) ∧ Fr n0 L ∧ h = h0) := by
  refine Con.o (L := #[vR a1, vI 0, vR a3, vI 0, vI 4, vU, vU]) n0 d4 pf_3 (by simp [argsToLocals, Value.category]) ?_
  intro p e s m _ _ c T0 X0 hx hby hml hZ hown hnm hret hlk e0 N0 D
  have lt_1 := own_ltA Ac
  let j_213 := (mkF m 12 #[vR a1, vI 0, vR a3, vI 0, vI 4, vI 0, vU] [(.int 0), (.ref a1)])
  refine Go.s T0 j_213 (fun _ hr => yc X0 hx (D 0 rfl) (yk X0 hx (D 1 rfl) rfl (yi X0 hx (D 2 rfl) rfl (yi X0 hx (D 3 rfl) rfl (yN X0 hx (D 4 rfl) (XT.ii_ge_f (by decide)) (yb X0 hx (D 5 rfl) rfl rfl (yj X0 hx (D 6 rfl) rfl hr))))))) ?_
  refine Go.s T0 (mkF m 25 #[vR a1, vI 0, vR a3, vI 0, vI 4, vI 0, vI 65279] [(.int 0)]) (fun _ hr => (own_ldC X0 hx hZ e0 Ac (j := 0) (v := (.int 65279)) (by decide) (by simp +decide) rfl (g := j_213) rfl rfl (D 7 rfl)) _ (yk X0 hx (D 8 rfl) rfl (yi X0 hx (D 9 rfl) rfl (yq X0 hx (D 10 rfl) (yN X0 hx (D 11 rfl) (XT.ii_le_f (by decide)) (yi X0 hx (D 12 rfl) rfl hr)))))) ?_
  refine Go.retI X0 hx hlk hret (D 13 rfl) (by decide) (by decide) ?_
  try rw [e0]
  exact ⟨rfl, N0, rfl⟩
theorem rmC2U4 (hw : own_W a0 Z) (a1 : Nat) (h0 : Heap) (n0 : Nat) (Z0 : n0 ≤ h0.size) (O0 : Old Z n0 h0) (SAD : sAD Z) (SHI : sHI Z) (SLO : sLO Z) (c0 c1 c2 : Int32) (Ac : Ary Z h0 a1 .char [(.int 65279), (.int c0), (.int c1), (.int c2)]) (q0 : own_rg c0) (q1 : own_rg c1) (q2 : own_rg c2) :
    Con l Z ⟨"java/lang/StringUTF16", "compress", "([CII)[B"⟩ jdk_52_method_16_code 6 (some (.array .byte)) ⟨3, 2, 12, 40⟩ #[(.ref a1), (.int 0), (.int 4)] h0 (fun v h L => ∃ a : Nat, v = some (.ref a) ∧ Fr n0 L ∧ Keep h0 h [] ∧ h0.size ≤ a ∧ Ary Z h a .byte [(.int (own_lo 65279)), (.int (own_hi 65279)), (.int (own_lo c0)), (.int (own_hi c0)), (.int (own_lo c1)), (.int (own_hi c1)), (.int (own_lo c2)), (.int (own_hi c2))]) := by
  refine Con.o (L := #[vR a1, vI 0, vI 4, vU, vU, vU]) n0 d5 pf_4 (by simp [argsToLocals, Value.category]) ?_
  intro p e s m _ _ c T0 X0 hx hby hml hZ hown hnm hret hlk e0 N0 D
  have lt_1 := own_ltA Ac
  let j_214 := (mkF m 1 #[vR a1, vI 0, vI 4, vU, vU, vU] [(.int 4)])
  refine Go.s T0 j_214 (fun _ hr => yj X0 hx (D 0 rfl) rfl hr) ?_
  obtain ⟨T_2, h_2, X_2, e_2, E_2, A_2, st_2⟩ := own_newP X0 hx hZ (ty := .byte) rfl (hq hw 11 rfl) e0 (g := j_214) rfl (D 1 rfl) rfl (by decide) (cap := 4) (by decide) (by decide) (by decide) (by decide)
  obtain ⟨ad_2, g_2⟩ : ∃ z, z = h0.size := ⟨_, rfl⟩
  rw [← g_2] at A_2 st_2
  have z_2 := E_2.1
  have y_2 := own_ltA A_2
  have B_2 : Ary Z h_2 ad_2 .byte [(.int 0), (.int 0), (.int 0), (.int 0)] := A_2
  let j_215 := (mkF m 9 #[vR a1, vI 0, vI 4, vR ad_2, vU, vU] [(.int 4), (.int 0), (.ref ad_2), (.int 0), (.ref a1)])
  refine Go.s T_2 j_215 (fun _ hr => st_2 _ (yn X_2 hx (D 2 rfl) rfl rfl (yb X_2 hx (D 3 rfl) rfl rfl (yj X_2 hx (D 4 rfl) rfl (yb X_2 hx (D 5 rfl) rfl rfl (yc X_2 hx (D 6 rfl) (yj X_2 hx (D 7 rfl) rfl hr))))))) ?_
  have F_4 := (Ac.ext E_2)
  obtain ⟨v_3, T_3, h_3, L_3, X_3, e_3, ⟨rfl, N_3, hh_3⟩, st_3⟩ := cS X_2 hx hZ hown (hq hw 36 rfl) (hq hw 37 rfl) (hq hw 34 rfl) (hq hw 38 rfl) e_2 hml (rmCU4 l Z a0 hw a1 ad_2 h_2 n0 (by omega) c0 c1 c2 F_4 q0 q1 q2) (g := j_215) rfl rfl (lenOf pd_0 rfl) rfl (D 8 rfl) (W := 0) rfl rfl (by decide)
  have N_3' := Fr.app N0 N_3
  rw [hh_3] at e_3
  let j_216 := (mkF m 23 #[vR a1, vI 0, vI 4, vR ad_2, vI 0, vU] [(.int 4), (.int 0), (.ref a1)])
  refine Go.s T_3 j_216 (fun _ hr => st_3 _ (yk X_3 hx (D 9 rfl) rfl (yi X_3 hx (D 10 rfl) rfl (yj X_3 hx (D 11 rfl) rfl (yN X_3 hx (D 12 rfl) (XT.ii_eq_f (by decide)) (yb X_3 hx (D 13 rfl) rfl rfl (yj X_3 hx (D 14 rfl) rfl (yj X_3 hx (D 15 rfl) rfl hr)))))))) ?_
  have F_6 := (O0.ext E_2)
  obtain ⟨v_5, T_5, h_5, L_5, X_5, e_5, ⟨tb_5, rfl, N_5, K_5, g_5, B_5⟩, st_5⟩ := cS X_3 hx hZ hown (hq hw 221 rfl) (hq hw 222 rfl) (hq hw 34 rfl) (hq hw 223 rfl) e_3 hml (rmTB4 l Z a0 hw a1 h_2 n0 (by omega) F_6 SAD SHI SLO c0 c1 c2 F_4 q0 q1 q2) (g := j_216) rfl rfl (lenOf pd_1 rfl) rfl (D 16 rfl) (W := 0) rfl rfl (by decide)
  have N_5' := Fr.app N_3' N_5
  have z_5 := K_5.1
  have yy_5 := own_ltA B_5
  let j_217 := (mkF m 32 #[vR a1, vI 0, vI 4, vR ad_2, vI 0, vR tb_5] [(.int 0), (.ref tb_5)])
  refine Go.s T_5 j_217 (fun _ hr => st_5 _ (ym X_5 hx (D 17 rfl) rfl rfl (ya X_5 hx (D 18 rfl) rfl rfl (yi X_5 hx (D 19 rfl) rfl hr)))) ?_
  have F_8 := (F_6.keep K_5 all0)
  obtain ⟨v_7, T_7, h_7, L_7, X_7, e_7, ⟨rfl, N_7, hh_7⟩, st_7⟩ := cS X_5 hx hZ hown (hq hw 237 rfl) (hq hw 238 rfl) (hq hw 34 rfl) (hq hw 239 rfl) e_5 hml (rmGet l Z a0 hw tb_5 (0 : Int32) h_5 n0 (by omega) F_8 SAD SHI SLO [(.int (own_lo 65279)), (.int (own_hi 65279)), (.int (own_lo c0)), (.int (own_hi c0)), (.int (own_lo c1)), (.int (own_hi c1)), (.int (own_lo c2)), (.int (own_hi c2))] 0 rfl (by decide) B_5 (by simp +decide) (65279 : Int32) (by decide) (by decide) rfl rfl) (g := j_217) rfl rfl (lenOf pd_7 rfl) rfl (D 20 rfl) (W := 0) rfl rfl (by decide)
  have N_7' := Fr.app N_5' N_7
  rw [hh_7] at e_7
  refine Go.s T_7 (mkF m 56 #[vR a1, vI 0, vI 4, vR ad_2, vI 0, vR tb_5] [(.ref tb_5)]) (fun _ hr => st_7 _ (yq X_7 hx (D 21 rfl) (yY X_7 hx (D 22 rfl) (pc' := 54) (XT.ii_gt_t (by decide)) rfl (ya X_7 hx (D 23 rfl) rfl rfl hr)))) ?_
  refine Go.retA X_7 hx hlk (t := (.array .byte)) hret rfl rfl (D 24 rfl) (by decide) (by decide) ?_
  try rw [e_7]
  exact ⟨tb_5, rfl, N_7', (((Keep.refl h0 []).ext E_2).trans K_5 all0), by omega, B_5⟩
theorem rmCFU4 (hw : own_W a0 Z) (a1 : Nat) (h0 : Heap) (n0 : Nat) (Z0 : n0 ≤ h0.size) (bs : List Value) (Ab : Ary Z h0 a1 .byte bs) (lb : bs.length = 8) :
    Con l Z ⟨"java/lang/StringUTF16", "coderFromArrayLen", "([BI)B"⟩ jdk_52_method_15_code 2 (some .byte) ⟨0, 0, 0, 0⟩ #[(.ref a1), (.int 4)] h0 (fun v h L => v = some (.int 1) ∧ Fr n0 L ∧ h = h0) := by
  refine Con.o (L := #[vR a1, vI 4]) n0 d6 pf_5 (by simp [argsToLocals, Value.category]) ?_
  intro p e s m _ _ c T0 X0 hx hby hml hZ hown hnm hret hlk e0 N0 D
  have lt_1 := own_ltA Ab
  let j_218 := (mkF m 2 #[vR a1, vI 4] [(.ref a1), (.int 4)])
  refine Go.s T0 j_218 (fun _ hr => yj X0 hx (D 0 rfl) rfl (yb X0 hx (D 1 rfl) rfl rfl hr)) ?_
  refine Go.s T0 (mkF m 3 #[vR a1, vI 4] [(.int (bs).length.toInt32), (.int 4)]) (own_len X0 hx hZ e0 Ab (g := j_218) rfl rfl (D 2 rfl)) ?_
  refine Go.cast (g' := (mkF m 3 #[vR a1, vI 4] [(.int 8), (.int 4)])) (by rw [show (bs).length.toInt32 = 8 from (by rw [lb]; rfl)]) ?_
  refine Go.s T0 (mkF m 8 #[vR a1, vI 4] [(.int ((XT.ushr (-4 : Int32) (31 : Int32)).toInt8.toInt32))]) (fun _ hr => y2 X0 hx (D 3 rfl) (yp X0 hx (D 4 rfl) (y7 X0 hx (D 5 rfl) (y8 X0 hx (D 6 rfl) hr)))) ?_
  refine Go.retN X0 hx hlk (t := .byte) hret (by simp) (D 7 rfl) (by decide) (by decide) ?_
  try rw [e0]
  exact ⟨congrArg (fun z => some (Value.int z)) own_coderU4, N0, rfl⟩
theorem rmS4U4 (hw : own_W a0 Z) (a1 : Nat) (a2 : Nat) (h0 : Heap) (n0 : Nat) (Z0 : n0 ≤ h0.size) (vcs : Int32) (hcs : ¬ vcs = 0) (O0 : Old Z n0 h0) (SCS : sCS Z vcs) (SAD : sAD Z) (SHI : sHI Z) (SLO : sLO Z) (E1 : Exa Z h0 a1 "java/lang/String") (Fv : fV Z h0 a1 .null) (Fc : fC Z h0 a1 (.int 0)) (g1 : n0 ≤ a1) (c0 c1 c2 : Int32) (Ac : Ary Z h0 a2 .char [(.int 65279), (.int c0), (.int c1), (.int c2)]) (q0 : own_rg c0) (q1 : own_rg c1) (q2 : own_rg c2) (hne : a1 ≠ a2) :
    Con l Z ⟨"java/lang/String", "<init>", "([CIILjava/lang/Void;)V"⟩ jdk_42_method_149_code 6 none ⟨4, 2, 12, 57⟩ #[(.ref a1), (.ref a2), (.int 0), (.int 4), .null] h0 (fun v h L => v = none ∧ Fr n0 L ∧ Keep h0 h [a1] ∧ ∃ vb : Nat, h0.size ≤ vb ∧ fV Z h a1 (.ref vb) ∧ fC Z h a1 (.int 1) ∧ Ary Z h vb .byte [(.int (own_lo 65279)), (.int (own_hi 65279)), (.int (own_lo c0)), (.int (own_hi c0)), (.int (own_lo c1)), (.int (own_hi c1)), (.int (own_lo c2)), (.int (own_hi c2))]) := by
  refine Con.o (L := #[vR a1, vR a2, vI 0, vI 4, .val .null, vU]) n0 d7 pf_6 (by simp [argsToLocals, Value.category]) ?_
  intro p e s m _ _ c T0 X0 hx hby hml hZ hown hnm hret hlk e0 N0 D
  have lt_1 := own_ltE E1
  have lt_2 := own_ltA Ac
  let j_219 := (mkF m 1 #[vR a1, vR a2, vI 0, vI 4, .val .null, vU] [(.ref a1)])
  refine Go.s T0 j_219 (fun _ hr => yb X0 hx (D 0 rfl) rfl rfl hr) ?_
  obtain ⟨T_3, X_3, e_3, st_3⟩ := initO X0 hx hZ hown (hq hw 28 rfl) (hq hw 29 rfl) (hq hw 30 rfl) e0 (g := j_219) rfl (by rw [hml]; rfl) rfl (D 1 rfl) (by decide) (W := 0) (by show 2 * 0 + _ ≤ _; exact Nat.le_of_eq rfl) (by decide)
  let j_220 := (mkF m 27 #[vR a1, vR a2, vI 0, vI 4, .val .null, vU] [])
  refine Go.s T_3 j_220 (fun _ hr => st_3 _ (yj X_3 hx (D 2 rfl) rfl (yX X_3 hx (D 3 rfl) (pc' := 27) (XT.i0_ne_t (by decide)) rfl hr))) ?_
  obtain ⟨T_4, X_4, e_4, st_4⟩ := getS2 X_3 hx hZ hown (host := "") (Or.inl (hq hw 31 rfl)) Via.refl e_3 (SCS.ext O0.2) (g := j_220) rfl (D 13 rfl)
  let j_221 := (mkF m 36 #[vR a1, vR a2, vI 0, vI 4, .val .null, vU] [(.int 4), (.int 0), (.ref a2)])
  refine Go.s T_4 j_221 (fun _ hr => st_4 _ (yM X_4 hx (D 14 rfl) (XT.i0_eq_f hcs) (yb X_4 hx (D 15 rfl) rfl rfl (yj X_4 hx (D 16 rfl) rfl (yj X_4 hx (D 17 rfl) rfl hr))))) ?_
  obtain ⟨v_5, T_5, h_5, L_5, X_5, e_5, ⟨cb_5, rfl, N_5, K_5, g_5, B_5⟩, st_5⟩ := cS X_4 hx hZ hown (hq hw 32 rfl) (hq hw 33 rfl) (hq hw 34 rfl) (hq hw 35 rfl) e_4 hml (rmC2U4 l Z a0 hw a2 h0 n0 (by omega) O0 SAD SHI SLO c0 c1 c2 Ac q0 q1 q2) (g := j_221) rfl rfl (lenOf pd_1 rfl) rfl (D 18 rfl) (W := 0) rfl rfl (by decide)
  have N_5' := Fr.app N0 N_5
  have z_5 := K_5.1
  have yy_5 := own_ltA B_5
  let j_222 := (mkF m 45 #[vR a1, vR a2, vI 0, vI 4, .val .null, vR cb_5] [(.int 4), (.ref cb_5), (.ref a1)])
  refine Go.s T_5 j_222 (fun _ hr => st_5 _ (ym X_5 hx (D 19 rfl) rfl rfl (yb X_5 hx (D 20 rfl) rfl rfl (ya X_5 hx (D 21 rfl) rfl rfl (yj X_5 hx (D 22 rfl) rfl hr))))) ?_
  obtain ⟨v_6, T_6, h_6, L_6, X_6, e_6, ⟨rfl, N_6, hh_6⟩, st_6⟩ := cS X_5 hx hZ hown (hq hw 39 rfl) (hq hw 40 rfl) (hq hw 34 rfl) (hq hw 41 rfl) e_5 hml (rmCFU4 l Z a0 hw cb_5 h_5 n0 (by omega) [(.int (own_lo 65279)), (.int (own_hi 65279)), (.int (own_lo c0)), (.int (own_hi c0)), (.int (own_lo c1)), (.int (own_hi c1)), (.int (own_lo c2)), (.int (own_hi c2))] B_5 rfl) (g := j_222) rfl rfl (lenOf pd_2 rfl) rfl (D 23 rfl) (W := 1) rfl rfl (by decide)
  have N_6' := Fr.app N_5' N_6
  rw [hh_6] at e_6
  let j_223 := (mkF m 48 #[vR a1, vR a2, vI 0, vI 4, .val .null, vR cb_5] [(.int 1), (.ref a1)])
  refine Go.s T_6 j_223 st_6 ?_
  have F_7 := (Fc.keep K_5 nin0)
  have F_8 := (E1.keep K_5)
  obtain ⟨T_9, h_9, X_9, e_9, W_9, st_9⟩ := putF X_6 hx hZ hown (host := "") (Or.inl (hq hw 42 rfl)) Via.refl e_6 F_7 F_8 (Or.inr ⟨(hq hw 13 rfl), rfl, hnm⟩) (hq hw 10 rfl) (ty := .byte) (by decide) rfl rfl (g := j_223) rfl rfl (D 24 rfl)
  have N_9 := Fr.snoc X_9 N_6' (by omega)
  have z_9 := W_9.size
  have F_9 := F_7.same W_9
  let j_224 := (mkF m 54 #[vR a1, vR a2, vI 0, vI 4, .val .null, vR cb_5] [(.ref cb_5), (.ref a1)])
  refine Go.s T_9 j_224 (fun _ hr => st_9 _ (yb X_9 hx (D 25 rfl) rfl rfl (ya X_9 hx (D 26 rfl) rfl rfl hr))) ?_
  have F_10 := ((Fv.keep K_5 nin0).other W_9 (Or.inr (slot_ne (t := (.array .byte)) (t' := .byte) (Or.inr (hq hw 12 rfl)) (Or.inr (hq hw 13 rfl)) (by decide) (by decide) (by decide))))
  have F_11 := (F_8.wr W_9)
  obtain ⟨T_12, h_12, X_12, e_12, W_12, st_12⟩ := putF X_9 hx hZ hown (host := "") (Or.inl (hq hw 43 rfl)) Via.refl e_9 F_10 F_11 (Or.inr ⟨(hq hw 12 rfl), rfl, hnm⟩) (hq hw 10 rfl) (ty := (.array .byte)) (by decide) rfl rfl (g := j_224) rfl rfl (D 27 rfl)
  have N_12 := Fr.snoc X_12 N_9 (by omega)
  have z_12 := W_12.size
  have F_12 := F_10.same W_12
  refine Go.s T_12 (mkF m 57 #[vR a1, vR a2, vI 0, vI 4, .val .null, vR cb_5] []) st_12 ?_
  refine Go.retV X_12 hx hlk hret (D 28 rfl) (by decide) (by decide) ?_
  try rw [e_12]
  have F_13 := (F_9.other W_12 (Or.inr (slot_ne (t := .byte) (t' := (.array .byte)) (Or.inr (hq hw 13 rfl)) (Or.inr (hq hw 12 rfl)) (by decide) (by decide) (by decide))))
  have F_14 := ((B_5.other W_9 (own_ne (by omega))).other W_12 (own_ne (by omega)))
  exact ⟨rfl, N_12, ((((Keep.refl h0 [a1]).trans K_5 all0).wr W_9 (Or.inl (by simp))).wr W_12 (Or.inl (by simp))), cb_5, by omega, F_12, F_13, F_14⟩
theorem rmS1U4 (hw : own_W a0 Z) (a1 : Nat) (a2 : Nat) (h0 : Heap) (n0 : Nat) (Z0 : n0 ≤ h0.size) (vcs : Int32) (hcs : ¬ vcs = 0) (O0 : Old Z n0 h0) (SCS : sCS Z vcs) (SAD : sAD Z) (SHI : sHI Z) (SLO : sLO Z) (E1 : Exa Z h0 a1 "java/lang/String") (Fv : fV Z h0 a1 .null) (Fc : fC Z h0 a1 (.int 0)) (g1 : n0 ≤ a1) (c0 c1 c2 : Int32) (Ac : Ary Z h0 a2 .char [(.int 65279), (.int c0), (.int c1), (.int c2)]) (q0 : own_rg c0) (q1 : own_rg c1) (q2 : own_rg c2) (hne : a1 ≠ a2) :
    Con l Z ⟨"java/lang/String", "<init>", "([C)V"⟩ jdk_42_method_3_code 2 none ⟨5, 2, 12, 74⟩ #[(.ref a1), (.ref a2)] h0 (fun v h L => v = none ∧ Fr n0 L ∧ Keep h0 h [a1] ∧ ∃ vb : Nat, h0.size ≤ vb ∧ fV Z h a1 (.ref vb) ∧ fC Z h a1 (.int 1) ∧ Ary Z h vb .byte [(.int (own_lo 65279)), (.int (own_hi 65279)), (.int (own_lo c0)), (.int (own_hi c0)), (.int (own_lo c1)), (.int (own_hi c1)), (.int (own_lo c2)), (.int (own_hi c2))]) := by
  refine Con.o (L := #[vR a1, vR a2]) n0 d8 pf_7 (by simp [argsToLocals, Value.category]) ?_
  intro p e s m _ _ c T0 X0 hx hby hml hZ hown hnm hret hlk e0 N0 D
  have lt_1 := own_ltE E1
  have lt_2 := own_ltA Ac
  let j_225 := (mkF m 4 #[vR a1, vR a2] [(.ref a2), (.int 0), (.ref a2), (.ref a1)])
  refine Go.s T0 j_225 (fun _ hr => yb X0 hx (D 0 rfl) rfl rfl (yb X0 hx (D 1 rfl) rfl rfl (yc X0 hx (D 2 rfl) (yb X0 hx (D 3 rfl) rfl rfl hr)))) ?_
  let j_226 := (mkF m 6 #[vR a1, vR a2] [.null, (.int 4), (.int 0), (.ref a2), (.ref a1)])
  refine Go.s T0 j_226 (fun _ hr => (own_len X0 hx hZ e0 Ac (g := j_225) rfl rfl (D 4 rfl)) _ (yz X0 hx (D 5 rfl) hr)) ?_
  obtain ⟨v_3, T_3, h_3, L_3, X_3, e_3, ⟨rfl, N_3, K_3, vb_3, g_3, F1_3, F2_3, B_3⟩, st_3⟩ := cN X0 hx hZ hown (hq hw 24 rfl) (hq hw 25 rfl) (hq hw 9 rfl) (hq hw 27 rfl) e0 rfl hml (rmS4U4 l Z a0 hw a1 a2 h0 n0 Z0 vcs hcs O0 SCS SAD SHI SLO E1 Fv Fc g1 c0 c1 c2 Ac q0 q1 q2 hne) (g := j_226) rfl rfl (lenOf pd_3 rfl) rfl (D 6 rfl) (W := 0) rfl rfl (by decide)
  have N_3' := Fr.app N0 N_3
  have z_3 := K_3.1
  refine Go.s T_3 (mkF m 9 #[vR a1, vR a2] []) st_3 ?_
  refine Go.retV X_3 hx hlk hret (D 7 rfl) (by decide) (by decide) ?_
  try rw [e_3]
  exact ⟨rfl, N_3', ((Keep.refl h0 [a1]).trans K_3 (own_t1 (by first | exact Or.inr (by omega) | exact Or.inl (by simp)))), vb_3, by omega, F1_3, F2_3, B_3⟩
theorem rmNL5 (hw : own_W a0 Z)  (h0 : Heap) (n0 : Nat) (Z0 : n0 ≤ h0.size)  :
    Con l Z ⟨"java/lang/StringUTF16", "newBytesLength", "(I)I"⟩ jdk_52_method_3_code 1 (some .int) ⟨0, 0, 0, 0⟩ #[(.int 5)] h0 (fun v h L => v = some (.int 10) ∧ Fr n0 L ∧ h = h0) := by
  refine Con.o (L := #[vI 5]) n0 d22 pf_10 (by simp [argsToLocals, Value.category]) ?_
  intro p e s m _ _ c T0 X0 hx hby hml hZ hown hnm hret hlk e0 N0 D
  let j_227 := (mkF m 13 #[vI 5] [(.int 5)])
  refine Go.s T0 j_227 (fun _ hr => yj X0 hx (D 0 rfl) rfl (yX X0 hx (D 1 rfl) (pc' := 12) (XT.i0_ge_t (by decide)) rfl (yj X0 hx (D 2 rfl) rfl hr))) ?_
  refine Go.s T0 (mkF m 58 #[vI 5] [(.int ((5 : Int32) <<< ((1 : Int32) &&& 31)))]) (fun _ hr => (own_ldc X0 hx hZ hown (index := 20) (x := 1073741823) (hq hw 230 rfl) (g := j_227) rfl (D 3 rfl)) _ (yY X0 hx (D 4 rfl) (pc' := 55) (XT.ii_lt_t (by decide)) rfl (yj X0 hx (D 5 rfl) rfl (yc X0 hx (D 6 rfl) (y5 X0 hx (D 7 rfl) hr))))) ?_
  refine Go.retI X0 hx hlk hret (D 8 rfl) (by decide) (by decide) ?_
  try rw [e0]
  exact ⟨congrArg (fun z => some (Value.int z)) (by decide), N0, rfl⟩
theorem rmNF5 (hw : own_W a0 Z)  (h0 : Heap) (n0 : Nat) (Z0 : n0 ≤ h0.size)  :
    Con l Z ⟨"java/lang/StringUTF16", "newBytesFor", "(I)[B"⟩ jdk_52_method_2_code 1 (some (.array .byte)) ⟨1, 1, 10, 12⟩ #[(.int 5)] h0 (fun v h L => ∃ a : Nat, v = some (.ref a) ∧ Fr n0 L ∧ Keep h0 h [] ∧ h0.size ≤ a ∧ Ary Z h a .byte [(.int 0), (.int 0), (.int 0), (.int 0), (.int 0), (.int 0), (.int 0), (.int 0), (.int 0), (.int 0)]) := by
  refine Con.o (L := #[vI 5]) n0 d23 pf_11 (by simp [argsToLocals, Value.category]) ?_
  intro p e s m _ _ c T0 X0 hx hby hml hZ hown hnm hret hlk e0 N0 D
  let j_228 := (mkF m 1 #[vI 5] [(.int 5)])
  refine Go.s T0 j_228 (fun _ hr => yj X0 hx (D 0 rfl) rfl hr) ?_
  obtain ⟨v_1, T_1, h_1, L_1, X_1, e_1, ⟨rfl, N_1, hh_1⟩, st_1⟩ := cS X0 hx hZ hown (hq hw 227 rfl) (hq hw 228 rfl) (hq hw 34 rfl) (hq hw 229 rfl) e0 hml (rmNL5 l Z a0 hw h0 n0 Z0) (g := j_228) rfl rfl (lenOf pd_4 rfl) rfl (D 1 rfl) (W := 0) rfl rfl (by decide)
  have N_1' := Fr.app N0 N_1
  rw [hh_1] at e_1
  let j_229 := (mkF m 4 #[vI 5] [(.int 10)])
  refine Go.s T_1 j_229 st_1 ?_
  obtain ⟨T_2, h_2, X_2, e_2, E_2, A_2, st_2⟩ := own_newP X_1 hx hZ (ty := .byte) rfl (hq hw 11 rfl) e_1 (g := j_229) rfl (D 2 rfl) rfl (by decide) (cap := 10) (by decide) (by decide) (by decide) (by decide)
  obtain ⟨ad_2, g_2⟩ : ∃ z, z = h0.size := ⟨_, rfl⟩
  rw [← g_2] at A_2 st_2
  have z_2 := E_2.1
  have y_2 := own_ltA A_2
  have B_2 : Ary Z h_2 ad_2 .byte [(.int 0), (.int 0), (.int 0), (.int 0), (.int 0), (.int 0), (.int 0), (.int 0), (.int 0), (.int 0)] := A_2
  refine Go.s T_2 (mkF m 6 #[vI 5] [(.ref ad_2)]) st_2 ?_
  refine Go.retA X_2 hx hlk (t := (.array .byte)) hret rfl rfl (D 3 rfl) (by decide) (by decide) ?_
  try rw [e_2]
  exact ⟨ad_2, rfl, N_1', ((Keep.refl h0 []).ext E_2), by omega, B_2⟩
theorem rmTB5 (hw : own_W a0 Z) (a1 : Nat) (h0 : Heap) (n0 : Nat) (Z0 : n0 ≤ h0.size) (O0 : Old Z n0 h0) (SAD : sAD Z) (SHI : sHI Z) (SLO : sLO Z) (c0 c1 c2 c3 : Int32) (Ac : Ary Z h0 a1 .char [(.int 65279), (.int c0), (.int c1), (.int c2), (.int c3)]) (q0 : own_rg c0) (q1 : own_rg c1) (q2 : own_rg c2) (q3 : own_rg c3) :
    Con l Z ⟨"java/lang/StringUTF16", "toBytes", "([CII)[B"⟩ jdk_52_method_14_code 5 (some (.array .byte)) ⟨2, 1, 10, 24⟩ #[(.ref a1), (.int 0), (.int 5)] h0 (fun v h L => ∃ a : Nat, v = some (.ref a) ∧ Fr n0 L ∧ Keep h0 h [] ∧ h0.size ≤ a ∧ Ary Z h a .byte [(.int (own_lo 65279)), (.int (own_hi 65279)), (.int (own_lo c0)), (.int (own_hi c0)), (.int (own_lo c1)), (.int (own_hi c1)), (.int (own_lo c2)), (.int (own_hi c2)), (.int (own_lo c3)), (.int (own_hi c3))]) := by
  refine Con.o (L := #[vR a1, vI 0, vI 5, vU, vU]) n0 d24 pf_12 (by simp [argsToLocals, Value.category]) ?_
  intro p e s m _ _ c T0 X0 hx hby hml hZ hown hnm hret hlk e0 N0 D
  have lt_1 := own_ltA Ac
  let j_230 := (mkF m 1 #[vR a1, vI 0, vI 5, vU, vU] [(.int 5)])
  refine Go.s T0 j_230 (fun _ hr => yj X0 hx (D 0 rfl) rfl hr) ?_
  obtain ⟨v_2, T_2, h_2, L_2, X_2, e_2, ⟨nf_2, rfl, N_2, K_2, g_2, B_2⟩, st_2⟩ := cS X0 hx hZ hown (hq hw 224 rfl) (hq hw 225 rfl) (hq hw 34 rfl) (hq hw 226 rfl) e0 hml (rmNF5 l Z a0 hw h0 n0 Z0) (g := j_230) rfl rfl (lenOf pd_5 rfl) rfl (D 1 rfl) (W := 0) rfl rfl (by decide)
  have N_2' := Fr.app N0 N_2
  have z_2 := K_2.1
  have yy_2 := own_ltA B_2
  let j_231 := (mkF m 19 #[vR a1, vI 0, vI 5, vR nf_2, vI 0] [(.int 0), (.ref a1), (.int 0), (.ref nf_2)])
  refine Go.s T_2 j_231 (fun _ hr => st_2 _ (yn X_2 hx (D 2 rfl) rfl rfl (yc X_2 hx (D 3 rfl) (yk X_2 hx (D 4 rfl) rfl (yi X_2 hx (D 5 rfl) rfl (yj X_2 hx (D 6 rfl) rfl (yN X_2 hx (D 7 rfl) (XT.ii_ge_f (by decide)) (yb X_2 hx (D 8 rfl) rfl rfl (yi X_2 hx (D 9 rfl) rfl (yb X_2 hx (D 10 rfl) rfl rfl (yj X_2 hx (D 11 rfl) rfl hr))))))))))) ?_
  have F_3 := (Ac.keep K_2 nin0)
  let j_232 := (mkF m 20 #[vR a1, vI 0, vI 5, vR nf_2, vI 0] [(.int 65279), (.int 0), (.ref nf_2)])
  refine Go.s T_2 j_232 (own_ldC X_2 hx hZ e_2 F_3 (j := 0) (v := (.int 65279)) (by decide) (by simp +decide) rfl (g := j_231) rfl rfl (D 12 rfl)) ?_
  have F_4 := (O0.keep K_2 all0)
  obtain ⟨v_5, T_5, h_5, L_5, X_5, e_5, ⟨rfl, N_5, K_5, A_5⟩, st_5⟩ := cS X_2 hx hZ hown (hq hw 231 rfl) (hq hw 232 rfl) (hq hw 34 rfl) (hq hw 233 rfl) e_2 hml (rmPut l Z a0 hw nf_2 (0 : Int32) (65279 : Int32) h_2 n0 (by omega) F_4 SAD SHI SLO [(.int 0), (.int 0), (.int 0), (.int 0), (.int 0), (.int 0), (.int 0), (.int 0), (.int 0), (.int 0)] 0 rfl (by decide) B_2 (by simp +decide) (by omega)) (g := j_232) rfl rfl (lenOf pd_6 rfl) rfl (D 13 rfl) (W := 0) rfl rfl (by decide)
  have N_5' := Fr.app N_2' N_5
  have z_5 := K_5.1
  have B_5 : Ary Z h_5 nf_2 .byte [(.int (own_lo 65279)), (.int (own_hi 65279)), (.int 0), (.int 0), (.int 0), (.int 0), (.int 0), (.int 0), (.int 0), (.int 0)] := A_5
  let j_233 := (mkF m 19 #[vR a1, vI 1, vI 5, vR nf_2, vI 1] [(.int 1), (.ref a1), (.int 1), (.ref nf_2)])
  refine Go.s T_5 j_233 (fun _ hr => st_5 _ (yf X_5 hx (D 14 rfl) rfl rfl (yf X_5 hx (D 15 rfl) rfl rfl (yg X_5 hx (D 16 rfl) (pc' := 8) rfl (yi X_5 hx (D 5 rfl) rfl (yj X_5 hx (D 6 rfl) rfl (yN X_5 hx (D 7 rfl) (XT.ii_ge_f (by decide)) (yb X_5 hx (D 8 rfl) rfl rfl (yi X_5 hx (D 9 rfl) rfl (yb X_5 hx (D 10 rfl) rfl rfl (yj X_5 hx (D 11 rfl) rfl hr))))))))))) ?_
  have F_6 := (F_3.keep K_5 (own_n1 (by omega)))
  let j_234 := (mkF m 20 #[vR a1, vI 1, vI 5, vR nf_2, vI 1] [(.int c0), (.int 1), (.ref nf_2)])
  refine Go.s T_5 j_234 (own_ldC X_5 hx hZ e_5 F_6 (j := 1) (v := (.int c0)) (by decide) (by simp +decide) rfl (g := j_233) rfl rfl (D 12 rfl)) ?_
  have F_7 := (F_4.keep K_5 (own_o1 (by omega)))
  obtain ⟨v_8, T_8, h_8, L_8, X_8, e_8, ⟨rfl, N_8, K_8, A_8⟩, st_8⟩ := cS X_5 hx hZ hown (hq hw 231 rfl) (hq hw 232 rfl) (hq hw 34 rfl) (hq hw 233 rfl) e_5 hml (rmPut l Z a0 hw nf_2 (1 : Int32) c0 h_5 n0 (by omega) F_7 SAD SHI SLO [(.int (own_lo 65279)), (.int (own_hi 65279)), (.int 0), (.int 0), (.int 0), (.int 0), (.int 0), (.int 0), (.int 0), (.int 0)] 1 rfl (by decide) B_5 (by simp +decide) (by omega)) (g := j_234) rfl rfl (lenOf pd_6 rfl) rfl (D 13 rfl) (W := 0) rfl rfl (by decide)
  have N_8' := Fr.app N_5' N_8
  have z_8 := K_8.1
  have B_8 : Ary Z h_8 nf_2 .byte [(.int (own_lo 65279)), (.int (own_hi 65279)), (.int (own_lo c0)), (.int (own_hi c0)), (.int 0), (.int 0), (.int 0), (.int 0), (.int 0), (.int 0)] := A_8
  let j_235 := (mkF m 19 #[vR a1, vI 2, vI 5, vR nf_2, vI 2] [(.int 2), (.ref a1), (.int 2), (.ref nf_2)])
  refine Go.s T_8 j_235 (fun _ hr => st_8 _ (yf X_8 hx (D 14 rfl) rfl rfl (yf X_8 hx (D 15 rfl) rfl rfl (yg X_8 hx (D 16 rfl) (pc' := 8) rfl (yi X_8 hx (D 5 rfl) rfl (yj X_8 hx (D 6 rfl) rfl (yN X_8 hx (D 7 rfl) (XT.ii_ge_f (by decide)) (yb X_8 hx (D 8 rfl) rfl rfl (yi X_8 hx (D 9 rfl) rfl (yb X_8 hx (D 10 rfl) rfl rfl (yj X_8 hx (D 11 rfl) rfl hr))))))))))) ?_
  have F_9 := (F_6.keep K_8 (own_n1 (by omega)))
  let j_236 := (mkF m 20 #[vR a1, vI 2, vI 5, vR nf_2, vI 2] [(.int c1), (.int 2), (.ref nf_2)])
  refine Go.s T_8 j_236 (own_ldC X_8 hx hZ e_8 F_9 (j := 2) (v := (.int c1)) (by decide) (by simp +decide) rfl (g := j_235) rfl rfl (D 12 rfl)) ?_
  have F_10 := (F_7.keep K_8 (own_o1 (by omega)))
  obtain ⟨v_11, T_11, h_11, L_11, X_11, e_11, ⟨rfl, N_11, K_11, A_11⟩, st_11⟩ := cS X_8 hx hZ hown (hq hw 231 rfl) (hq hw 232 rfl) (hq hw 34 rfl) (hq hw 233 rfl) e_8 hml (rmPut l Z a0 hw nf_2 (2 : Int32) c1 h_8 n0 (by omega) F_10 SAD SHI SLO [(.int (own_lo 65279)), (.int (own_hi 65279)), (.int (own_lo c0)), (.int (own_hi c0)), (.int 0), (.int 0), (.int 0), (.int 0), (.int 0), (.int 0)] 2 rfl (by decide) B_8 (by simp +decide) (by omega)) (g := j_236) rfl rfl (lenOf pd_6 rfl) rfl (D 13 rfl) (W := 0) rfl rfl (by decide)
  have N_11' := Fr.app N_8' N_11
  have z_11 := K_11.1
  have B_11 : Ary Z h_11 nf_2 .byte [(.int (own_lo 65279)), (.int (own_hi 65279)), (.int (own_lo c0)), (.int (own_hi c0)), (.int (own_lo c1)), (.int (own_hi c1)), (.int 0), (.int 0), (.int 0), (.int 0)] := A_11
  let j_237 := (mkF m 19 #[vR a1, vI 3, vI 5, vR nf_2, vI 3] [(.int 3), (.ref a1), (.int 3), (.ref nf_2)])
  refine Go.s T_11 j_237 (fun _ hr => st_11 _ (yf X_11 hx (D 14 rfl) rfl rfl (yf X_11 hx (D 15 rfl) rfl rfl (yg X_11 hx (D 16 rfl) (pc' := 8) rfl (yi X_11 hx (D 5 rfl) rfl (yj X_11 hx (D 6 rfl) rfl (yN X_11 hx (D 7 rfl) (XT.ii_ge_f (by decide)) (yb X_11 hx (D 8 rfl) rfl rfl (yi X_11 hx (D 9 rfl) rfl (yb X_11 hx (D 10 rfl) rfl rfl (yj X_11 hx (D 11 rfl) rfl hr))))))))))) ?_
  have F_12 := (F_9.keep K_11 (own_n1 (by omega)))
  let j_238 := (mkF m 20 #[vR a1, vI 3, vI 5, vR nf_2, vI 3] [(.int c2), (.int 3), (.ref nf_2)])
  refine Go.s T_11 j_238 (own_ldC X_11 hx hZ e_11 F_12 (j := 3) (v := (.int c2)) (by decide) (by simp +decide) rfl (g := j_237) rfl rfl (D 12 rfl)) ?_
  have F_13 := (F_10.keep K_11 (own_o1 (by omega)))
  obtain ⟨v_14, T_14, h_14, L_14, X_14, e_14, ⟨rfl, N_14, K_14, A_14⟩, st_14⟩ := cS X_11 hx hZ hown (hq hw 231 rfl) (hq hw 232 rfl) (hq hw 34 rfl) (hq hw 233 rfl) e_11 hml (rmPut l Z a0 hw nf_2 (3 : Int32) c2 h_11 n0 (by omega) F_13 SAD SHI SLO [(.int (own_lo 65279)), (.int (own_hi 65279)), (.int (own_lo c0)), (.int (own_hi c0)), (.int (own_lo c1)), (.int (own_hi c1)), (.int 0), (.int 0), (.int 0), (.int 0)] 3 rfl (by decide) B_11 (by simp +decide) (by omega)) (g := j_238) rfl rfl (lenOf pd_6 rfl) rfl (D 13 rfl) (W := 0) rfl rfl (by decide)
  have N_14' := Fr.app N_11' N_14
  have z_14 := K_14.1
  have B_14 : Ary Z h_14 nf_2 .byte [(.int (own_lo 65279)), (.int (own_hi 65279)), (.int (own_lo c0)), (.int (own_hi c0)), (.int (own_lo c1)), (.int (own_hi c1)), (.int (own_lo c2)), (.int (own_hi c2)), (.int 0), (.int 0)] := A_14
  let j_239 := (mkF m 19 #[vR a1, vI 4, vI 5, vR nf_2, vI 4] [(.int 4), (.ref a1), (.int 4), (.ref nf_2)])
  refine Go.s T_14 j_239 (fun _ hr => st_14 _ (yf X_14 hx (D 14 rfl) rfl rfl (yf X_14 hx (D 15 rfl) rfl rfl (yg X_14 hx (D 16 rfl) (pc' := 8) rfl (yi X_14 hx (D 5 rfl) rfl (yj X_14 hx (D 6 rfl) rfl (yN X_14 hx (D 7 rfl) (XT.ii_ge_f (by decide)) (yb X_14 hx (D 8 rfl) rfl rfl (yi X_14 hx (D 9 rfl) rfl (yb X_14 hx (D 10 rfl) rfl rfl (yj X_14 hx (D 11 rfl) rfl hr))))))))))) ?_
  have F_15 := (F_12.keep K_14 (own_n1 (by omega)))
  let j_240 := (mkF m 20 #[vR a1, vI 4, vI 5, vR nf_2, vI 4] [(.int c3), (.int 4), (.ref nf_2)])
  refine Go.s T_14 j_240 (own_ldC X_14 hx hZ e_14 F_15 (j := 4) (v := (.int c3)) (by decide) (by simp +decide) rfl (g := j_239) rfl rfl (D 12 rfl)) ?_
  have F_16 := (F_13.keep K_14 (own_o1 (by omega)))
  obtain ⟨v_17, T_17, h_17, L_17, X_17, e_17, ⟨rfl, N_17, K_17, A_17⟩, st_17⟩ := cS X_14 hx hZ hown (hq hw 231 rfl) (hq hw 232 rfl) (hq hw 34 rfl) (hq hw 233 rfl) e_14 hml (rmPut l Z a0 hw nf_2 (4 : Int32) c3 h_14 n0 (by omega) F_16 SAD SHI SLO [(.int (own_lo 65279)), (.int (own_hi 65279)), (.int (own_lo c0)), (.int (own_hi c0)), (.int (own_lo c1)), (.int (own_hi c1)), (.int (own_lo c2)), (.int (own_hi c2)), (.int 0), (.int 0)] 4 rfl (by decide) B_14 (by simp +decide) (by omega)) (g := j_240) rfl rfl (lenOf pd_6 rfl) rfl (D 13 rfl) (W := 0) rfl rfl (by decide)
  have N_17' := Fr.app N_14' N_17
  have z_17 := K_17.1
  have B_17 : Ary Z h_17 nf_2 .byte [(.int (own_lo 65279)), (.int (own_hi 65279)), (.int (own_lo c0)), (.int (own_hi c0)), (.int (own_lo c1)), (.int (own_hi c1)), (.int (own_lo c2)), (.int (own_hi c2)), (.int (own_lo c3)), (.int (own_hi c3))] := A_17
  refine Go.s T_17 (mkF m 33 #[vR a1, vI 5, vI 5, vR nf_2, vI 5] [(.ref nf_2)]) (fun _ hr => st_17 _ (yf X_17 hx (D 14 rfl) rfl rfl (yf X_17 hx (D 15 rfl) rfl rfl (yg X_17 hx (D 16 rfl) (pc' := 8) rfl (yi X_17 hx (D 5 rfl) rfl (yj X_17 hx (D 6 rfl) rfl (yY X_17 hx (D 7 rfl) (pc' := 32) (XT.ii_ge_t (by decide)) rfl (yb X_17 hx (D 17 rfl) rfl rfl hr)))))))) ?_
  refine Go.retA X_17 hx hlk (t := (.array .byte)) hret rfl rfl (D 18 rfl) (by decide) (by decide) ?_
  try rw [e_17]
  exact ⟨nf_2, rfl, N_17', (((((((Keep.refl h0 []).trans K_2 all0).trans K_5 (own_t1 (by first | exact Or.inr (by omega) | exact Or.inl (by simp)))).trans K_8 (own_t1 (by first | exact Or.inr (by omega) | exact Or.inl (by simp)))).trans K_11 (own_t1 (by first | exact Or.inr (by omega) | exact Or.inl (by simp)))).trans K_14 (own_t1 (by first | exact Or.inr (by omega) | exact Or.inl (by simp)))).trans K_17 (own_t1 (by first | exact Or.inr (by omega) | exact Or.inl (by simp)))), by omega, B_17⟩
theorem rmCU5 (hw : own_W a0 Z) (a1 : Nat) (a3 : Nat) (h0 : Heap) (n0 : Nat) (Z0 : n0 ≤ h0.size) (c0 c1 c2 c3 : Int32) (Ac : Ary Z h0 a1 .char [(.int 65279), (.int c0), (.int c1), (.int c2), (.int c3)]) (q0 : own_rg c0) (q1 : own_rg c1) (q2 : own_rg c2) (q3 : own_rg c3) :
    Con l Z ⟨"java/lang/StringUTF16", "compress", "([CI[BII)I"⟩ jdk_52_method_21_code 7 (some .int) ⟨0, 0, 0, 0⟩ #[(.ref a1), (.int 0), (.ref a3), (.int 0), (.int 5)] h0 (fun v h L => v = some (.int 0) ∧ Fr n0 L ∧ h = h0) := by
  refine Con.o (L := #[vR a1, vI 0, vR a3, vI 0, vI 5, vU, vU]) n0 d4 pf_3 (by simp [argsToLocals, Value.category]) ?_
  intro p e s m _ _ c T0 X0 hx hby hml hZ hown hnm hret hlk e0 N0 D
  have lt_1 := own_ltA Ac
  let j_241 := (mkF m 12 #[vR a1, vI 0, vR a3, vI 0, vI 5, vI 0, vU] [(.int 0), (.ref a1)])
  refine Go.s T0 j_241 (fun _ hr => yc X0 hx (D 0 rfl) (yk X0 hx (D 1 rfl) rfl (yi X0 hx (D 2 rfl) rfl (yi X0 hx (D 3 rfl) rfl (yN X0 hx (D 4 rfl) (XT.ii_ge_f (by decide)) (yb X0 hx (D 5 rfl) rfl rfl (yj X0 hx (D 6 rfl) rfl hr))))))) ?_
  refine Go.s T0 (mkF m 25 #[vR a1, vI 0, vR a3, vI 0, vI 5, vI 0, vI 65279] [(.int 0)]) (fun _ hr => (own_ldC X0 hx hZ e0 Ac (j := 0) (v := (.int 65279)) (by decide) (by simp +decide) rfl (g := j_241) rfl rfl (D 7 rfl)) _ (yk X0 hx (D 8 rfl) rfl (yi X0 hx (D 9 rfl) rfl (yq X0 hx (D 10 rfl) (yN X0 hx (D 11 rfl) (XT.ii_le_f (by decide)) (yi X0 hx (D 12 rfl) rfl hr)))))) ?_
  refine Go.retI X0 hx hlk hret (D 13 rfl) (by decide) (by decide) ?_
  try rw [e0]
  exact ⟨rfl, N0, rfl⟩
theorem rmC2U5 (hw : own_W a0 Z) (a1 : Nat) (h0 : Heap) (n0 : Nat) (Z0 : n0 ≤ h0.size) (O0 : Old Z n0 h0) (SAD : sAD Z) (SHI : sHI Z) (SLO : sLO Z) (c0 c1 c2 c3 : Int32) (Ac : Ary Z h0 a1 .char [(.int 65279), (.int c0), (.int c1), (.int c2), (.int c3)]) (q0 : own_rg c0) (q1 : own_rg c1) (q2 : own_rg c2) (q3 : own_rg c3) :
    Con l Z ⟨"java/lang/StringUTF16", "compress", "([CII)[B"⟩ jdk_52_method_16_code 6 (some (.array .byte)) ⟨3, 2, 15, 40⟩ #[(.ref a1), (.int 0), (.int 5)] h0 (fun v h L => ∃ a : Nat, v = some (.ref a) ∧ Fr n0 L ∧ Keep h0 h [] ∧ h0.size ≤ a ∧ Ary Z h a .byte [(.int (own_lo 65279)), (.int (own_hi 65279)), (.int (own_lo c0)), (.int (own_hi c0)), (.int (own_lo c1)), (.int (own_hi c1)), (.int (own_lo c2)), (.int (own_hi c2)), (.int (own_lo c3)), (.int (own_hi c3))]) := by
  refine Con.o (L := #[vR a1, vI 0, vI 5, vU, vU, vU]) n0 d5 pf_4 (by simp [argsToLocals, Value.category]) ?_
  intro p e s m _ _ c T0 X0 hx hby hml hZ hown hnm hret hlk e0 N0 D
  have lt_1 := own_ltA Ac
  let j_242 := (mkF m 1 #[vR a1, vI 0, vI 5, vU, vU, vU] [(.int 5)])
  refine Go.s T0 j_242 (fun _ hr => yj X0 hx (D 0 rfl) rfl hr) ?_
  obtain ⟨T_2, h_2, X_2, e_2, E_2, A_2, st_2⟩ := own_newP X0 hx hZ (ty := .byte) rfl (hq hw 11 rfl) e0 (g := j_242) rfl (D 1 rfl) rfl (by decide) (cap := 5) (by decide) (by decide) (by decide) (by decide)
  obtain ⟨ad_2, g_2⟩ : ∃ z, z = h0.size := ⟨_, rfl⟩
  rw [← g_2] at A_2 st_2
  have z_2 := E_2.1
  have y_2 := own_ltA A_2
  have B_2 : Ary Z h_2 ad_2 .byte [(.int 0), (.int 0), (.int 0), (.int 0), (.int 0)] := A_2
  let j_243 := (mkF m 9 #[vR a1, vI 0, vI 5, vR ad_2, vU, vU] [(.int 5), (.int 0), (.ref ad_2), (.int 0), (.ref a1)])
  refine Go.s T_2 j_243 (fun _ hr => st_2 _ (yn X_2 hx (D 2 rfl) rfl rfl (yb X_2 hx (D 3 rfl) rfl rfl (yj X_2 hx (D 4 rfl) rfl (yb X_2 hx (D 5 rfl) rfl rfl (yc X_2 hx (D 6 rfl) (yj X_2 hx (D 7 rfl) rfl hr))))))) ?_
  have F_4 := (Ac.ext E_2)
  obtain ⟨v_3, T_3, h_3, L_3, X_3, e_3, ⟨rfl, N_3, hh_3⟩, st_3⟩ := cS X_2 hx hZ hown (hq hw 36 rfl) (hq hw 37 rfl) (hq hw 34 rfl) (hq hw 38 rfl) e_2 hml (rmCU5 l Z a0 hw a1 ad_2 h_2 n0 (by omega) c0 c1 c2 c3 F_4 q0 q1 q2 q3) (g := j_243) rfl rfl (lenOf pd_0 rfl) rfl (D 8 rfl) (W := 0) rfl rfl (by decide)
  have N_3' := Fr.app N0 N_3
  rw [hh_3] at e_3
  let j_244 := (mkF m 23 #[vR a1, vI 0, vI 5, vR ad_2, vI 0, vU] [(.int 5), (.int 0), (.ref a1)])
  refine Go.s T_3 j_244 (fun _ hr => st_3 _ (yk X_3 hx (D 9 rfl) rfl (yi X_3 hx (D 10 rfl) rfl (yj X_3 hx (D 11 rfl) rfl (yN X_3 hx (D 12 rfl) (XT.ii_eq_f (by decide)) (yb X_3 hx (D 13 rfl) rfl rfl (yj X_3 hx (D 14 rfl) rfl (yj X_3 hx (D 15 rfl) rfl hr)))))))) ?_
  have F_6 := (O0.ext E_2)
  obtain ⟨v_5, T_5, h_5, L_5, X_5, e_5, ⟨tb_5, rfl, N_5, K_5, g_5, B_5⟩, st_5⟩ := cS X_3 hx hZ hown (hq hw 221 rfl) (hq hw 222 rfl) (hq hw 34 rfl) (hq hw 223 rfl) e_3 hml (rmTB5 l Z a0 hw a1 h_2 n0 (by omega) F_6 SAD SHI SLO c0 c1 c2 c3 F_4 q0 q1 q2 q3) (g := j_244) rfl rfl (lenOf pd_1 rfl) rfl (D 16 rfl) (W := 0) rfl rfl (by decide)
  have N_5' := Fr.app N_3' N_5
  have z_5 := K_5.1
  have yy_5 := own_ltA B_5
  let j_245 := (mkF m 32 #[vR a1, vI 0, vI 5, vR ad_2, vI 0, vR tb_5] [(.int 0), (.ref tb_5)])
  refine Go.s T_5 j_245 (fun _ hr => st_5 _ (ym X_5 hx (D 17 rfl) rfl rfl (ya X_5 hx (D 18 rfl) rfl rfl (yi X_5 hx (D 19 rfl) rfl hr)))) ?_
  have F_8 := (F_6.keep K_5 all0)
  obtain ⟨v_7, T_7, h_7, L_7, X_7, e_7, ⟨rfl, N_7, hh_7⟩, st_7⟩ := cS X_5 hx hZ hown (hq hw 237 rfl) (hq hw 238 rfl) (hq hw 34 rfl) (hq hw 239 rfl) e_5 hml (rmGet l Z a0 hw tb_5 (0 : Int32) h_5 n0 (by omega) F_8 SAD SHI SLO [(.int (own_lo 65279)), (.int (own_hi 65279)), (.int (own_lo c0)), (.int (own_hi c0)), (.int (own_lo c1)), (.int (own_hi c1)), (.int (own_lo c2)), (.int (own_hi c2)), (.int (own_lo c3)), (.int (own_hi c3))] 0 rfl (by decide) B_5 (by simp +decide) (65279 : Int32) (by decide) (by decide) rfl rfl) (g := j_245) rfl rfl (lenOf pd_7 rfl) rfl (D 20 rfl) (W := 0) rfl rfl (by decide)
  have N_7' := Fr.app N_5' N_7
  rw [hh_7] at e_7
  refine Go.s T_7 (mkF m 56 #[vR a1, vI 0, vI 5, vR ad_2, vI 0, vR tb_5] [(.ref tb_5)]) (fun _ hr => st_7 _ (yq X_7 hx (D 21 rfl) (yY X_7 hx (D 22 rfl) (pc' := 54) (XT.ii_gt_t (by decide)) rfl (ya X_7 hx (D 23 rfl) rfl rfl hr)))) ?_
  refine Go.retA X_7 hx hlk (t := (.array .byte)) hret rfl rfl (D 24 rfl) (by decide) (by decide) ?_
  try rw [e_7]
  exact ⟨tb_5, rfl, N_7', (((Keep.refl h0 []).ext E_2).trans K_5 all0), by omega, B_5⟩
theorem rmCFU5 (hw : own_W a0 Z) (a1 : Nat) (h0 : Heap) (n0 : Nat) (Z0 : n0 ≤ h0.size) (bs : List Value) (Ab : Ary Z h0 a1 .byte bs) (lb : bs.length = 10) :
    Con l Z ⟨"java/lang/StringUTF16", "coderFromArrayLen", "([BI)B"⟩ jdk_52_method_15_code 2 (some .byte) ⟨0, 0, 0, 0⟩ #[(.ref a1), (.int 5)] h0 (fun v h L => v = some (.int 1) ∧ Fr n0 L ∧ h = h0) := by
  refine Con.o (L := #[vR a1, vI 5]) n0 d6 pf_5 (by simp [argsToLocals, Value.category]) ?_
  intro p e s m _ _ c T0 X0 hx hby hml hZ hown hnm hret hlk e0 N0 D
  have lt_1 := own_ltA Ab
  let j_246 := (mkF m 2 #[vR a1, vI 5] [(.ref a1), (.int 5)])
  refine Go.s T0 j_246 (fun _ hr => yj X0 hx (D 0 rfl) rfl (yb X0 hx (D 1 rfl) rfl rfl hr)) ?_
  refine Go.s T0 (mkF m 3 #[vR a1, vI 5] [(.int (bs).length.toInt32), (.int 5)]) (own_len X0 hx hZ e0 Ab (g := j_246) rfl rfl (D 2 rfl)) ?_
  refine Go.cast (g' := (mkF m 3 #[vR a1, vI 5] [(.int 10), (.int 5)])) (by rw [show (bs).length.toInt32 = 10 from (by rw [lb]; rfl)]) ?_
  refine Go.s T0 (mkF m 8 #[vR a1, vI 5] [(.int ((XT.ushr (-5 : Int32) (31 : Int32)).toInt8.toInt32))]) (fun _ hr => y2 X0 hx (D 3 rfl) (yp X0 hx (D 4 rfl) (y7 X0 hx (D 5 rfl) (y8 X0 hx (D 6 rfl) hr)))) ?_
  refine Go.retN X0 hx hlk (t := .byte) hret (by simp) (D 7 rfl) (by decide) (by decide) ?_
  try rw [e0]
  exact ⟨congrArg (fun z => some (Value.int z)) own_coderU5, N0, rfl⟩
theorem rmS4U5 (hw : own_W a0 Z) (a1 : Nat) (a2 : Nat) (h0 : Heap) (n0 : Nat) (Z0 : n0 ≤ h0.size) (vcs : Int32) (hcs : ¬ vcs = 0) (O0 : Old Z n0 h0) (SCS : sCS Z vcs) (SAD : sAD Z) (SHI : sHI Z) (SLO : sLO Z) (E1 : Exa Z h0 a1 "java/lang/String") (Fv : fV Z h0 a1 .null) (Fc : fC Z h0 a1 (.int 0)) (g1 : n0 ≤ a1) (c0 c1 c2 c3 : Int32) (Ac : Ary Z h0 a2 .char [(.int 65279), (.int c0), (.int c1), (.int c2), (.int c3)]) (q0 : own_rg c0) (q1 : own_rg c1) (q2 : own_rg c2) (q3 : own_rg c3) (hne : a1 ≠ a2) :
    Con l Z ⟨"java/lang/String", "<init>", "([CIILjava/lang/Void;)V"⟩ jdk_42_method_149_code 6 none ⟨4, 2, 15, 57⟩ #[(.ref a1), (.ref a2), (.int 0), (.int 5), .null] h0 (fun v h L => v = none ∧ Fr n0 L ∧ Keep h0 h [a1] ∧ ∃ vb : Nat, h0.size ≤ vb ∧ fV Z h a1 (.ref vb) ∧ fC Z h a1 (.int 1) ∧ Ary Z h vb .byte [(.int (own_lo 65279)), (.int (own_hi 65279)), (.int (own_lo c0)), (.int (own_hi c0)), (.int (own_lo c1)), (.int (own_hi c1)), (.int (own_lo c2)), (.int (own_hi c2)), (.int (own_lo c3)), (.int (own_hi c3))]) := by
  refine Con.o (L := #[vR a1, vR a2, vI 0, vI 5, .val .null, vU]) n0 d7 pf_6 (by simp [argsToLocals, Value.category]) ?_
  intro p e s m _ _ c T0 X0 hx hby hml hZ hown hnm hret hlk e0 N0 D
  have lt_1 := own_ltE E1
  have lt_2 := own_ltA Ac
  let j_247 := (mkF m 1 #[vR a1, vR a2, vI 0, vI 5, .val .null, vU] [(.ref a1)])
  refine Go.s T0 j_247 (fun _ hr => yb X0 hx (D 0 rfl) rfl rfl hr) ?_
  obtain ⟨T_3, X_3, e_3, st_3⟩ := initO X0 hx hZ hown (hq hw 28 rfl) (hq hw 29 rfl) (hq hw 30 rfl) e0 (g := j_247) rfl (by rw [hml]; rfl) rfl (D 1 rfl) (by decide) (W := 0) (by show 2 * 0 + _ ≤ _; exact Nat.le_of_eq rfl) (by decide)
  let j_248 := (mkF m 27 #[vR a1, vR a2, vI 0, vI 5, .val .null, vU] [])
  refine Go.s T_3 j_248 (fun _ hr => st_3 _ (yj X_3 hx (D 2 rfl) rfl (yX X_3 hx (D 3 rfl) (pc' := 27) (XT.i0_ne_t (by decide)) rfl hr))) ?_
  obtain ⟨T_4, X_4, e_4, st_4⟩ := getS2 X_3 hx hZ hown (host := "") (Or.inl (hq hw 31 rfl)) Via.refl e_3 (SCS.ext O0.2) (g := j_248) rfl (D 13 rfl)
  let j_249 := (mkF m 36 #[vR a1, vR a2, vI 0, vI 5, .val .null, vU] [(.int 5), (.int 0), (.ref a2)])
  refine Go.s T_4 j_249 (fun _ hr => st_4 _ (yM X_4 hx (D 14 rfl) (XT.i0_eq_f hcs) (yb X_4 hx (D 15 rfl) rfl rfl (yj X_4 hx (D 16 rfl) rfl (yj X_4 hx (D 17 rfl) rfl hr))))) ?_
  obtain ⟨v_5, T_5, h_5, L_5, X_5, e_5, ⟨cb_5, rfl, N_5, K_5, g_5, B_5⟩, st_5⟩ := cS X_4 hx hZ hown (hq hw 32 rfl) (hq hw 33 rfl) (hq hw 34 rfl) (hq hw 35 rfl) e_4 hml (rmC2U5 l Z a0 hw a2 h0 n0 (by omega) O0 SAD SHI SLO c0 c1 c2 c3 Ac q0 q1 q2 q3) (g := j_249) rfl rfl (lenOf pd_1 rfl) rfl (D 18 rfl) (W := 0) rfl rfl (by decide)
  have N_5' := Fr.app N0 N_5
  have z_5 := K_5.1
  have yy_5 := own_ltA B_5
  let j_250 := (mkF m 45 #[vR a1, vR a2, vI 0, vI 5, .val .null, vR cb_5] [(.int 5), (.ref cb_5), (.ref a1)])
  refine Go.s T_5 j_250 (fun _ hr => st_5 _ (ym X_5 hx (D 19 rfl) rfl rfl (yb X_5 hx (D 20 rfl) rfl rfl (ya X_5 hx (D 21 rfl) rfl rfl (yj X_5 hx (D 22 rfl) rfl hr))))) ?_
  obtain ⟨v_6, T_6, h_6, L_6, X_6, e_6, ⟨rfl, N_6, hh_6⟩, st_6⟩ := cS X_5 hx hZ hown (hq hw 39 rfl) (hq hw 40 rfl) (hq hw 34 rfl) (hq hw 41 rfl) e_5 hml (rmCFU5 l Z a0 hw cb_5 h_5 n0 (by omega) [(.int (own_lo 65279)), (.int (own_hi 65279)), (.int (own_lo c0)), (.int (own_hi c0)), (.int (own_lo c1)), (.int (own_hi c1)), (.int (own_lo c2)), (.int (own_hi c2)), (.int (own_lo c3)), (.int (own_hi c3))] B_5 rfl) (g := j_250) rfl rfl (lenOf pd_2 rfl) rfl (D 23 rfl) (W := 1) rfl rfl (by decide)
  have N_6' := Fr.app N_5' N_6
  rw [hh_6] at e_6
  let j_251 := (mkF m 48 #[vR a1, vR a2, vI 0, vI 5, .val .null, vR cb_5] [(.int 1), (.ref a1)])
  refine Go.s T_6 j_251 st_6 ?_
  have F_7 := (Fc.keep K_5 nin0)
  have F_8 := (E1.keep K_5)
  obtain ⟨T_9, h_9, X_9, e_9, W_9, st_9⟩ := putF X_6 hx hZ hown (host := "") (Or.inl (hq hw 42 rfl)) Via.refl e_6 F_7 F_8 (Or.inr ⟨(hq hw 13 rfl), rfl, hnm⟩) (hq hw 10 rfl) (ty := .byte) (by decide) rfl rfl (g := j_251) rfl rfl (D 24 rfl)
  have N_9 := Fr.snoc X_9 N_6' (by omega)
  have z_9 := W_9.size
  have F_9 := F_7.same W_9
  let j_252 := (mkF m 54 #[vR a1, vR a2, vI 0, vI 5, .val .null, vR cb_5] [(.ref cb_5), (.ref a1)])
  refine Go.s T_9 j_252 (fun _ hr => st_9 _ (yb X_9 hx (D 25 rfl) rfl rfl (ya X_9 hx (D 26 rfl) rfl rfl hr))) ?_
  have F_10 := ((Fv.keep K_5 nin0).other W_9 (Or.inr (slot_ne (t := (.array .byte)) (t' := .byte) (Or.inr (hq hw 12 rfl)) (Or.inr (hq hw 13 rfl)) (by decide) (by decide) (by decide))))
  have F_11 := (F_8.wr W_9)
  obtain ⟨T_12, h_12, X_12, e_12, W_12, st_12⟩ := putF X_9 hx hZ hown (host := "") (Or.inl (hq hw 43 rfl)) Via.refl e_9 F_10 F_11 (Or.inr ⟨(hq hw 12 rfl), rfl, hnm⟩) (hq hw 10 rfl) (ty := (.array .byte)) (by decide) rfl rfl (g := j_252) rfl rfl (D 27 rfl)
  have N_12 := Fr.snoc X_12 N_9 (by omega)
  have z_12 := W_12.size
  have F_12 := F_10.same W_12
  refine Go.s T_12 (mkF m 57 #[vR a1, vR a2, vI 0, vI 5, .val .null, vR cb_5] []) st_12 ?_
  refine Go.retV X_12 hx hlk hret (D 28 rfl) (by decide) (by decide) ?_
  try rw [e_12]
  have F_13 := (F_9.other W_12 (Or.inr (slot_ne (t := .byte) (t' := (.array .byte)) (Or.inr (hq hw 13 rfl)) (Or.inr (hq hw 12 rfl)) (by decide) (by decide) (by decide))))
  have F_14 := ((B_5.other W_9 (own_ne (by omega))).other W_12 (own_ne (by omega)))
  exact ⟨rfl, N_12, ((((Keep.refl h0 [a1]).trans K_5 all0).wr W_9 (Or.inl (by simp))).wr W_12 (Or.inl (by simp))), cb_5, by omega, F_12, F_13, F_14⟩
theorem rmS1U5 (hw : own_W a0 Z) (a1 : Nat) (a2 : Nat) (h0 : Heap) (n0 : Nat) (Z0 : n0 ≤ h0.size) (vcs : Int32) (hcs : ¬ vcs = 0) (O0 : Old Z n0 h0) (SCS : sCS Z vcs) (SAD : sAD Z) (SHI : sHI Z) (SLO : sLO Z) (E1 : Exa Z h0 a1 "java/lang/String") (Fv : fV Z h0 a1 .null) (Fc : fC Z h0 a1 (.int 0)) (g1 : n0 ≤ a1) (c0 c1 c2 c3 : Int32) (Ac : Ary Z h0 a2 .char [(.int 65279), (.int c0), (.int c1), (.int c2), (.int c3)]) (q0 : own_rg c0) (q1 : own_rg c1) (q2 : own_rg c2) (q3 : own_rg c3) (hne : a1 ≠ a2) :
    Con l Z ⟨"java/lang/String", "<init>", "([C)V"⟩ jdk_42_method_3_code 2 none ⟨5, 2, 15, 74⟩ #[(.ref a1), (.ref a2)] h0 (fun v h L => v = none ∧ Fr n0 L ∧ Keep h0 h [a1] ∧ ∃ vb : Nat, h0.size ≤ vb ∧ fV Z h a1 (.ref vb) ∧ fC Z h a1 (.int 1) ∧ Ary Z h vb .byte [(.int (own_lo 65279)), (.int (own_hi 65279)), (.int (own_lo c0)), (.int (own_hi c0)), (.int (own_lo c1)), (.int (own_hi c1)), (.int (own_lo c2)), (.int (own_hi c2)), (.int (own_lo c3)), (.int (own_hi c3))]) := by
  refine Con.o (L := #[vR a1, vR a2]) n0 d8 pf_7 (by simp [argsToLocals, Value.category]) ?_
  intro p e s m _ _ c T0 X0 hx hby hml hZ hown hnm hret hlk e0 N0 D
  have lt_1 := own_ltE E1
  have lt_2 := own_ltA Ac
  let j_253 := (mkF m 4 #[vR a1, vR a2] [(.ref a2), (.int 0), (.ref a2), (.ref a1)])
  refine Go.s T0 j_253 (fun _ hr => yb X0 hx (D 0 rfl) rfl rfl (yb X0 hx (D 1 rfl) rfl rfl (yc X0 hx (D 2 rfl) (yb X0 hx (D 3 rfl) rfl rfl hr)))) ?_
  let j_254 := (mkF m 6 #[vR a1, vR a2] [.null, (.int 5), (.int 0), (.ref a2), (.ref a1)])
  refine Go.s T0 j_254 (fun _ hr => (own_len X0 hx hZ e0 Ac (g := j_253) rfl rfl (D 4 rfl)) _ (yz X0 hx (D 5 rfl) hr)) ?_
  obtain ⟨v_3, T_3, h_3, L_3, X_3, e_3, ⟨rfl, N_3, K_3, vb_3, g_3, F1_3, F2_3, B_3⟩, st_3⟩ := cN X0 hx hZ hown (hq hw 24 rfl) (hq hw 25 rfl) (hq hw 9 rfl) (hq hw 27 rfl) e0 rfl hml (rmS4U5 l Z a0 hw a1 a2 h0 n0 Z0 vcs hcs O0 SCS SAD SHI SLO E1 Fv Fc g1 c0 c1 c2 c3 Ac q0 q1 q2 q3 hne) (g := j_254) rfl rfl (lenOf pd_3 rfl) rfl (D 6 rfl) (W := 0) rfl rfl (by decide)
  have N_3' := Fr.app N0 N_3
  have z_3 := K_3.1
  refine Go.s T_3 (mkF m 9 #[vR a1, vR a2] []) st_3 ?_
  refine Go.retV X_3 hx hlk hret (D 7 rfl) (by decide) (by decide) ?_
  try rw [e_3]
  exact ⟨rfl, N_3', ((Keep.refl h0 [a1]).trans K_3 (own_t1 (by first | exact Or.inr (by omega) | exact Or.inl (by simp)))), vb_3, by omega, F1_3, F2_3, B_3⟩
theorem ef_rmPCIV (m : MethodId) (p1 : Int32) (p2 : Int32) (v3 : Value) (r3 : v3.isRef = true) : entryFrame m #[(.int p1), (.int p2), v3] 3 = mkF m 0 #[vI p1, vI p2, .val v3] [] := by
  rcases ref_cases r3 with rfl | ⟨_, rfl⟩
  all_goals rfl
theorem pf_13 : plainFor (⟨"jdk/internal/util/Preconditions", "checkIndex", "(IILjava/util/function/BiFunction;)I"⟩ : MethodName) = true := plainFor_of_name (by first | (simp [plainName, overriddenIn]; done) | decide +kernel)
theorem rmPCIV (hw : own_W a0 Z) (p1 : Int32) (p2 : Int32) (v3 : Value) (h0 : Heap) (n0 : Nat) (Z0 : n0 ≤ h0.size) (k1 : ¬ p1 < 0) (k2 : p1 < p2) (r3 : v3.isRef = true) :
    Con l Z ⟨"jdk/internal/util/Preconditions", "checkIndex", "(IILjava/util/function/BiFunction;)I"⟩ jdk_41_method_11_code 3 (some .int) ⟨0, 0, 0, 0⟩ #[(.int p1), (.int p2), v3] h0 (fun v h L => v = some (.int p1) ∧ Fr n0 L ∧ h = h0) := by
  refine Con.o n0 d30 pf_13 (congrArg JFrame.locals (ef_rmPCIV ⟨0, 0⟩ p1 p2 v3 r3)) ?_
  intro p e s m _ _ c T0 X0 hx hby hml hZ hown hnm hret hlk e0 N0 D
  refine Go.s T0 (mkF m 17 #[vI p1, vI p2, .val v3] [(.int p1)]) (fun _ hr => yj X0 hx (D 0 rfl) rfl (yM X0 hx (D 1 rfl) (XT.i0_lt_f k1) (yj X0 hx (D 2 rfl) rfl (yj X0 hx (D 3 rfl) rfl (yY X0 hx (D 4 rfl) (pc' := 16) (XT.ii_lt_t k2) rfl (yj X0 hx (D 5 rfl) rfl hr)))))) ?_
  refine Go.retI X0 hx hlk hret (D 6 rfl) (by decide) (by decide) ?_
  try rw [e0]
  exact ⟨rfl, N0, rfl⟩
theorem rmPCIN (hw : own_W a0 Z) (p1 : Int32) (p2 : Int32) (h0 : Heap) (n0 : Nat) (Z0 : n0 ≤ h0.size) (k1 : ¬ p1 < 0) (k2 : p1 < p2) :
    Con l Z ⟨"jdk/internal/util/Preconditions", "checkIndex", "(IILjava/util/function/BiFunction;)I"⟩ jdk_41_method_11_code 3 (some .int) ⟨0, 0, 0, 0⟩ #[(.int p1), (.int p2), .null] h0 (fun v h L => v = some (.int p1) ∧ Fr n0 L ∧ h = h0) := by
  refine Con.o (L := #[vI p1, vI p2, .val .null]) n0 d30 pf_13 (by simp [argsToLocals, Value.category]) ?_
  intro p e s m _ _ c T0 X0 hx hby hml hZ hown hnm hret hlk e0 N0 D
  refine Go.s T0 (mkF m 17 #[vI p1, vI p2, .val .null] [(.int p1)]) (fun _ hr => yj X0 hx (D 0 rfl) rfl (yM X0 hx (D 1 rfl) (XT.i0_lt_f k1) (yj X0 hx (D 2 rfl) rfl (yj X0 hx (D 3 rfl) rfl (yY X0 hx (D 4 rfl) (pc' := 16) (XT.ii_lt_t k2) rfl (yj X0 hx (D 5 rfl) rfl hr)))))) ?_
  refine Go.retI X0 hx hlk hret (D 6 rfl) (by decide) (by decide) ?_
  try rw [e0]
  exact ⟨rfl, N0, rfl⟩
theorem pf_14 : plainFor (⟨"java/lang/String", "checkIndex", "(II)V"⟩ : MethodName) = true := plainFor_of_name (by first | (simp [plainName, overriddenIn]; done) | decide +kernel)
theorem pd_8 : parseMethodDescriptor "(IILjava/util/function/BiFunction;)I" = some ⟨[.int, .int, (.object "java/util/function/BiFunction")], some .int⟩ := by decide +kernel
theorem rmSCI (hw : own_W a0 Z) (p1 : Int32) (p2 : Int32) (h0 : Heap) (n0 : Nat) (Z0 : n0 ≤ h0.size) (O0 : Old Z n0 h0) (vfm : Value) (rfm : vfm.isRef = true) (SFM : sFM Z vfm) (k1 : ¬ p1 < 0) (k2 : p1 < p2) :
    Con l Z ⟨"java/lang/String", "checkIndex", "(II)V"⟩ jdk_42_method_155_code 2 none ⟨1, 0, 0, 14⟩ #[(.int p1), (.int p2)] h0 (fun v h L => v = none ∧ Fr n0 L ∧ h = h0) := by
  refine Con.o (L := #[vI p1, vI p2]) n0 d31 pf_14 (by simp [argsToLocals, Value.category]) ?_
  intro p e s m _ _ c T0 X0 hx hby hml hZ hown hnm hret hlk e0 N0 D
  let j_255 := (mkF m 2 #[vI p1, vI p2] [(.int p2), (.int p1)])
  refine Go.s T0 j_255 (fun _ hr => yj X0 hx (D 0 rfl) rfl (yj X0 hx (D 1 rfl) rfl hr)) ?_
  obtain ⟨T_1, X_1, e_1, st_1⟩ := getS2 X0 hx hZ hown (host := "") (Or.inl (hq hw 72 rfl)) Via.refl e0 (SFM.ext O0.2) (g := j_255) rfl (D 2 rfl)
  let j_256 := (mkF m 5 #[vI p1, vI p2] [vfm, (.int p2), (.int p1)])
  refine Go.s T_1 j_256 st_1 ?_
  obtain ⟨v_2, T_2, h_2, L_2, X_2, e_2, ⟨rfl, N_2, hh_2⟩, st_2⟩ := cS X_1 hx hZ hown (hq hw 74 rfl) (hq hw 75 rfl) (hq hw 73 rfl) (hq hw 76 rfl) e_1 hml (rmPCIV l Z a0 hw p1 p2 vfm h0 n0 Z0 k1 k2 rfm) (g := j_256) rfl rfl (lenOf pd_8 rfl) rfl (D 3 rfl) (W := 0) rfl rfl (by decide)
  have N_2' := Fr.app N0 N_2
  rw [hh_2] at e_2
  refine Go.s T_2 (mkF m 9 #[vI p1, vI p2] []) (fun _ hr => st_2 _ (y0 X_2 hx (D 4 rfl) rfl hr)) ?_
  refine Go.retV X_2 hx hlk hret (D 5 rfl) (by decide) (by decide) ?_
  try rw [e_2]
  exact ⟨rfl, N_2', rfl⟩
theorem pf_15 : plainFor (⟨"java/util/Objects", "checkIndex", "(II)I"⟩ : MethodName) = true := plainFor_of_name (by first | (simp [plainName, overriddenIn]; done) | decide +kernel)
theorem rmOCI (hw : own_W a0 Z) (p1 : Int32) (p2 : Int32) (h0 : Heap) (n0 : Nat) (Z0 : n0 ≤ h0.size) (k1 : ¬ p1 < 0) (k2 : p1 < p2) :
    Con l Z ⟨"java/util/Objects", "checkIndex", "(II)I"⟩ jdk_31_method_17_code 2 (some .int) ⟨1, 0, 0, 14⟩ #[(.int p1), (.int p2)] h0 (fun v h L => v = some (.int p1) ∧ Fr n0 L ∧ h = h0) := by
  refine Con.o (L := #[vI p1, vI p2]) n0 d32 pf_15 (by simp [argsToLocals, Value.category]) ?_
  intro p e s m _ _ c T0 X0 hx hby hml hZ hown hnm hret hlk e0 N0 D
  let j_257 := (mkF m 3 #[vI p1, vI p2] [.null, (.int p2), (.int p1)])
  refine Go.s T0 j_257 (fun _ hr => yj X0 hx (D 0 rfl) rfl (yj X0 hx (D 1 rfl) rfl (yz X0 hx (D 2 rfl) hr))) ?_
  obtain ⟨v_1, T_1, h_1, L_1, X_1, e_1, ⟨rfl, N_1, hh_1⟩, st_1⟩ := cS X0 hx hZ hown (hq hw 196 rfl) (hq hw 75 rfl) (hq hw 73 rfl) (hq hw 76 rfl) e0 hml (rmPCIN l Z a0 hw p1 p2 h0 n0 Z0 k1 k2) (g := j_257) rfl rfl (lenOf pd_8 rfl) rfl (D 3 rfl) (W := 0) rfl rfl (by decide)
  have N_1' := Fr.app N0 N_1
  rw [hh_1] at e_1
  refine Go.s T_1 (mkF m 6 #[vI p1, vI p2] [(.int p1)]) st_1 ?_
  refine Go.retI X_1 hx hlk hret (D 4 rfl) (by decide) (by decide) ?_
  try rw [e_1]
  exact ⟨rfl, N_1', rfl⟩
theorem ef_rmCFT (m : MethodId) (p1 : Int32) (p2 : Int32) (p3 : Int32) (v4 : Value) (r4 : v4.isRef = true) : entryFrame m #[(.int p1), (.int p2), (.int p3), v4] 4 = mkF m 0 #[vI p1, vI p2, vI p3, .val v4] [] := by
  rcases ref_cases r4 with rfl | ⟨_, rfl⟩
  all_goals rfl
theorem pf_16 : plainFor (⟨"jdk/internal/util/Preconditions", "checkFromToIndex", "(IIILjava/util/function/BiFunction;)I"⟩ : MethodName) = true := plainFor_of_name (by first | (simp [plainName, overriddenIn]; done) | decide +kernel)
theorem rmCFT (hw : own_W a0 Z) (p1 : Int32) (p2 : Int32) (p3 : Int32) (v4 : Value) (h0 : Heap) (n0 : Nat) (Z0 : n0 ≤ h0.size) (r4 : v4.isRef = true) (k1 : ¬ p1 < 0) (k2 : ¬ p2 < p1) (k3 : ¬ p3 < p2) :
    Con l Z ⟨"jdk/internal/util/Preconditions", "checkFromToIndex", "(IIILjava/util/function/BiFunction;)I"⟩ jdk_41_method_12_code 4 (some .int) ⟨0, 0, 0, 0⟩ #[(.int p1), (.int p2), (.int p3), v4] h0 (fun v h L => v = some (.int p1) ∧ Fr n0 L ∧ h = h0) := by
  refine Con.o n0 d33 pf_16 (congrArg JFrame.locals (ef_rmCFT ⟨0, 0⟩ p1 p2 p3 v4 r4)) ?_
  intro p e s m _ _ c T0 X0 hx hby hml hZ hown hnm hret hlk e0 N0 D
  refine Go.s T0 (mkF m 23 #[vI p1, vI p2, vI p3, .val v4] [(.int p1)]) (fun _ hr => yj X0 hx (D 0 rfl) rfl (yM X0 hx (D 1 rfl) (XT.i0_lt_f k1) (yj X0 hx (D 2 rfl) rfl (yj X0 hx (D 3 rfl) rfl (yN X0 hx (D 4 rfl) (XT.ii_gt_f k2) (yj X0 hx (D 5 rfl) rfl (yj X0 hx (D 6 rfl) rfl (yY X0 hx (D 7 rfl) (pc' := 22) (XT.ii_le_t k3) rfl (yj X0 hx (D 8 rfl) rfl hr))))))))) ?_
  refine Go.retI X0 hx hlk hret (D 9 rfl) (by decide) (by decide) ?_
  try rw [e0]
  exact ⟨rfl, N0, rfl⟩
theorem pf_17 : plainFor (⟨"java/lang/String", "checkBoundsBeginEnd", "(III)V"⟩ : MethodName) = true := plainFor_of_name (by first | (simp [plainName, overriddenIn]; done) | decide +kernel)
theorem pd_9 : parseMethodDescriptor "(IIILjava/util/function/BiFunction;)I" = some ⟨[.int, .int, .int, (.object "java/util/function/BiFunction")], some .int⟩ := by decide +kernel
theorem rmCBB (hw : own_W a0 Z) (p1 : Int32) (p2 : Int32) (p3 : Int32) (h0 : Heap) (n0 : Nat) (Z0 : n0 ≤ h0.size) (O0 : Old Z n0 h0) (vfm : Value) (rfm : vfm.isRef = true) (SFM : sFM Z vfm) (k1 : ¬ p1 < 0) (k2 : ¬ p2 < p1) (k3 : ¬ p3 < p2) :
    Con l Z ⟨"java/lang/String", "checkBoundsBeginEnd", "(III)V"⟩ jdk_42_method_158_code 3 none ⟨1, 0, 0, 15⟩ #[(.int p1), (.int p2), (.int p3)] h0 (fun v h L => v = none ∧ Fr n0 L ∧ h = h0) := by
  refine Con.o (L := #[vI p1, vI p2, vI p3]) n0 d34 pf_17 (by simp [argsToLocals, Value.category]) ?_
  intro p e s m _ _ c T0 X0 hx hby hml hZ hown hnm hret hlk e0 N0 D
  let j_258 := (mkF m 3 #[vI p1, vI p2, vI p3] [(.int p3), (.int p2), (.int p1)])
  refine Go.s T0 j_258 (fun _ hr => yj X0 hx (D 0 rfl) rfl (yj X0 hx (D 1 rfl) rfl (yj X0 hx (D 2 rfl) rfl hr))) ?_
  obtain ⟨T_1, X_1, e_1, st_1⟩ := getS2 X0 hx hZ hown (host := "") (Or.inl (hq hw 72 rfl)) Via.refl e0 (SFM.ext O0.2) (g := j_258) rfl (D 3 rfl)
  let j_259 := (mkF m 6 #[vI p1, vI p2, vI p3] [vfm, (.int p3), (.int p2), (.int p1)])
  refine Go.s T_1 j_259 st_1 ?_
  obtain ⟨v_2, T_2, h_2, L_2, X_2, e_2, ⟨rfl, N_2, hh_2⟩, st_2⟩ := cS X_1 hx hZ hown (hq hw 264 rfl) (hq hw 265 rfl) (hq hw 73 rfl) (hq hw 266 rfl) e_1 hml (rmCFT l Z a0 hw p1 p2 p3 vfm h0 n0 Z0 rfm k1 k2 k3) (g := j_259) rfl rfl (lenOf pd_9 rfl) rfl (D 4 rfl) (W := 0) rfl rfl (by decide)
  have N_2' := Fr.app N0 N_2
  rw [hh_2] at e_2
  refine Go.s T_2 (mkF m 10 #[vI p1, vI p2, vI p3] []) (fun _ hr => st_2 _ (y0 X_2 hx (D 5 rfl) rfl hr)) ?_
  refine Go.retV X_2 hx hlk hret (D 6 rfl) (by decide) (by decide) ?_
  try rw [e_2]
  exact ⟨rfl, N_2', rfl⟩
theorem ef_rmCFS (m : MethodId) (p1 : Int32) (p2 : Int32) (p3 : Int32) (v4 : Value) (r4 : v4.isRef = true) : entryFrame m #[(.int p1), (.int p2), (.int p3), v4] 4 = mkF m 0 #[vI p1, vI p2, vI p3, .val v4] [] := by
  rcases ref_cases r4 with rfl | ⟨_, rfl⟩
  all_goals rfl
theorem pf_18 : plainFor (⟨"jdk/internal/util/Preconditions", "checkFromIndexSize", "(IIILjava/util/function/BiFunction;)I"⟩ : MethodName) = true := plainFor_of_name (by first | (simp [plainName, overriddenIn]; done) | decide +kernel)
theorem rmCFS (hw : own_W a0 Z) (p1 : Int32) (p2 : Int32) (p3 : Int32) (v4 : Value) (h0 : Heap) (n0 : Nat) (Z0 : n0 ≤ h0.size) (r4 : v4.isRef = true) (k1 : ¬ (((p3 ||| p1) ||| p2) < 0)) (k2 : ¬ (p3 - p1) < p2) :
    Con l Z ⟨"jdk/internal/util/Preconditions", "checkFromIndexSize", "(IIILjava/util/function/BiFunction;)I"⟩ jdk_41_method_13_code 4 (some .int) ⟨0, 0, 0, 0⟩ #[(.int p1), (.int p2), (.int p3), v4] h0 (fun v h L => v = some (.int p1) ∧ Fr n0 L ∧ h = h0) := by
  refine Con.o n0 d35 pf_18 (congrArg JFrame.locals (ef_rmCFS ⟨0, 0⟩ p1 p2 p3 v4 r4)) ?_
  intro p e s m _ _ c T0 X0 hx hby hml hZ hown hnm hret hlk e0 N0 D
  refine Go.s T0 (mkF m 24 #[vI p1, vI p2, vI p3, .val v4] [(.int p1)]) (fun _ hr => yj X0 hx (D 0 rfl) rfl (yj X0 hx (D 1 rfl) rfl (y4 X0 hx (D 2 rfl) (yj X0 hx (D 3 rfl) rfl (y4 X0 hx (D 4 rfl) (yM X0 hx (D 5 rfl) (XT.i0_lt_f k1) (yj X0 hx (D 6 rfl) rfl (yj X0 hx (D 7 rfl) rfl (yj X0 hx (D 8 rfl) rfl (y2 X0 hx (D 9 rfl) (yY X0 hx (D 10 rfl) (pc' := 23) (XT.ii_le_t k2) rfl (yj X0 hx (D 11 rfl) rfl hr)))))))))))) ?_
  refine Go.retI X0 hx hlk hret (D 12 rfl) (by decide) (by decide) ?_
  try rw [e0]
  exact ⟨rfl, N0, rfl⟩
theorem pf_19 : plainFor (⟨"java/lang/String", "checkBoundsOffCount", "(III)I"⟩ : MethodName) = true := plainFor_of_name (by first | (simp [plainName, overriddenIn]; done) | decide +kernel)
theorem rmCBO (hw : own_W a0 Z) (p1 : Int32) (p2 : Int32) (p3 : Int32) (h0 : Heap) (n0 : Nat) (Z0 : n0 ≤ h0.size) (O0 : Old Z n0 h0) (vfm : Value) (rfm : vfm.isRef = true) (SFM : sFM Z vfm) (k1 : ¬ (((p3 ||| p1) ||| p2) < 0)) (k2 : ¬ (p3 - p1) < p2) :
    Con l Z ⟨"java/lang/String", "checkBoundsOffCount", "(III)I"⟩ jdk_42_method_157_code 3 (some .int) ⟨1, 0, 0, 15⟩ #[(.int p1), (.int p2), (.int p3)] h0 (fun v h L => v = some (.int p1) ∧ Fr n0 L ∧ h = h0) := by
  refine Con.o (L := #[vI p1, vI p2, vI p3]) n0 d36 pf_19 (by simp [argsToLocals, Value.category]) ?_
  intro p e s m _ _ c T0 X0 hx hby hml hZ hown hnm hret hlk e0 N0 D
  let j_260 := (mkF m 3 #[vI p1, vI p2, vI p3] [(.int p3), (.int p2), (.int p1)])
  refine Go.s T0 j_260 (fun _ hr => yj X0 hx (D 0 rfl) rfl (yj X0 hx (D 1 rfl) rfl (yj X0 hx (D 2 rfl) rfl hr))) ?_
  obtain ⟨T_1, X_1, e_1, st_1⟩ := getS2 X0 hx hZ hown (host := "") (Or.inl (hq hw 72 rfl)) Via.refl e0 (SFM.ext O0.2) (g := j_260) rfl (D 3 rfl)
  let j_261 := (mkF m 6 #[vI p1, vI p2, vI p3] [vfm, (.int p3), (.int p2), (.int p1)])
  refine Go.s T_1 j_261 st_1 ?_
  obtain ⟨v_2, T_2, h_2, L_2, X_2, e_2, ⟨rfl, N_2, hh_2⟩, st_2⟩ := cS X_1 hx hZ hown (hq hw 284 rfl) (hq hw 285 rfl) (hq hw 73 rfl) (hq hw 286 rfl) e_1 hml (rmCFS l Z a0 hw p1 p2 p3 vfm h0 n0 Z0 rfm k1 k2) (g := j_261) rfl rfl (lenOf pd_9 rfl) rfl (D 4 rfl) (W := 0) rfl rfl (by decide)
  have N_2' := Fr.app N0 N_2
  rw [hh_2] at e_2
  refine Go.s T_2 (mkF m 9 #[vI p1, vI p2, vI p3] [(.int p1)]) st_2 ?_
  refine Go.retI X_2 hx hlk hret (D 5 rfl) (by decide) (by decide) ?_
  try rw [e_2]
  exact ⟨rfl, N_2', rfl⟩
theorem pf_20 : plainFor (⟨"java/lang/String", "isLatin1", "()Z"⟩ : MethodName) = true := plainFor_of_name (by first | (simp [plainName, overriddenIn]; done) | decide +kernel)
theorem rmIL0 (hw : own_W a0 Z) (a1 : Nat) (h0 : Heap) (n0 : Nat) (Z0 : n0 ≤ h0.size) (vcs : Int32) (hcs : ¬ vcs = 0) (O0 : Old Z n0 h0) (SCS : sCS Z vcs) (vb : Nat) (E1 : Exa Z h0 a1 "java/lang/String") (Fv : fV Z h0 a1 (.ref vb)) (Fc : fC Z h0 a1 (.int 0)) (bs : List Value) (Ab : Ary Z h0 vb .byte bs) :
    Con l Z ⟨"java/lang/String", "isLatin1", "()Z"⟩ jdk_42_method_154_code 1 (some .boolean) ⟨0, 0, 0, 0⟩ #[(.ref a1)] h0 (fun v h L => v = some (.int 1) ∧ Fr n0 L ∧ h = h0) := by
  refine Con.o (L := #[vR a1]) n0 d37 pf_20 (by simp [argsToLocals, Value.category]) ?_
  intro p e s m _ _ c T0 X0 hx hby hml hZ hown hnm hret hlk e0 N0 D
  have lt_1 := own_ltE E1
  have lt_2 := own_ltA Ab
  obtain ⟨T_3, X_3, e_3, st_3⟩ := getS2 X0 hx hZ hown (host := "") (Or.inl (hq hw 31 rfl)) Via.refl e0 (SCS.ext O0.2) (g := (mkF m 0 #[vR a1] [])) rfl (D 0 rfl)
  let j_262 := (mkF m 7 #[vR a1] [(.ref a1)])
  refine Go.s T_3 j_262 (fun _ hr => st_3 _ (yM X_3 hx (D 1 rfl) (XT.i0_eq_f hcs) (yb X_3 hx (D 2 rfl) rfl rfl hr))) ?_
  obtain ⟨T_4, X_4, e_4, st_4⟩ := getF X_3 hx hZ hown (host := "") (Or.inl (hq hw 42 rfl)) Via.refl e_3 Fc (g := j_262) rfl rfl (D 3 rfl)
  refine Go.s T_4 (mkF m 18 #[vR a1] [(.int 1)]) (fun _ hr => st_4 _ (yM X_4 hx (D 4 rfl) (XT.i0_ne_f (by decide)) (yc X_4 hx (D 5 rfl) (yg X_4 hx (D 6 rfl) (pc' := 18) rfl hr)))) ?_
  refine Go.retN X_4 hx hlk (t := .boolean) hret (by simp) (D 8 rfl) (by decide) (by decide) ?_
  try rw [e_4]
  exact ⟨rfl, N0, rfl⟩
theorem pf_21 : plainFor (⟨"java/lang/String", "coder", "()B"⟩ : MethodName) = true := plainFor_of_name (by first | (simp [plainName, overriddenIn]; done) | decide +kernel)
theorem rmCd0 (hw : own_W a0 Z) (a1 : Nat) (h0 : Heap) (n0 : Nat) (Z0 : n0 ≤ h0.size) (vcs : Int32) (hcs : ¬ vcs = 0) (O0 : Old Z n0 h0) (SCS : sCS Z vcs) (vb : Nat) (E1 : Exa Z h0 a1 "java/lang/String") (Fv : fV Z h0 a1 (.ref vb)) (Fc : fC Z h0 a1 (.int 0)) (bs : List Value) (Ab : Ary Z h0 vb .byte bs) :
    Con l Z ⟨"java/lang/String", "coder", "()B"⟩ jdk_42_method_152_code 1 (some .byte) ⟨0, 0, 0, 0⟩ #[(.ref a1)] h0 (fun v h L => v = some (.int 0) ∧ Fr n0 L ∧ h = h0) := by
  refine Con.o (L := #[vR a1]) n0 d38 pf_21 (by simp [argsToLocals, Value.category]) ?_
  intro p e s m _ _ c T0 X0 hx hby hml hZ hown hnm hret hlk e0 N0 D
  have lt_1 := own_ltE E1
  have lt_2 := own_ltA Ab
  obtain ⟨T_3, X_3, e_3, st_3⟩ := getS2 X0 hx hZ hown (host := "") (Or.inl (hq hw 31 rfl)) Via.refl e0 (SCS.ext O0.2) (g := (mkF m 0 #[vR a1] [])) rfl (D 0 rfl)
  let j_263 := (mkF m 7 #[vR a1] [(.ref a1)])
  refine Go.s T_3 j_263 (fun _ hr => st_3 _ (yM X_3 hx (D 1 rfl) (XT.i0_eq_f hcs) (yb X_3 hx (D 2 rfl) rfl rfl hr))) ?_
  obtain ⟨T_4, X_4, e_4, st_4⟩ := getF X_3 hx hZ hown (host := "") (Or.inl (hq hw 42 rfl)) Via.refl e_3 Fc (g := j_263) rfl rfl (D 3 rfl)
  refine Go.s T_4 (mkF m 14 #[vR a1] [(.int 0)]) (fun _ hr => st_4 _ (yg X_4 hx (D 4 rfl) (pc' := 14) rfl hr)) ?_
  refine Go.retN X_4 hx hlk (t := .byte) hret (by simp) (D 5 rfl) (by decide) (by decide) ?_
  try rw [e_4]
  exact ⟨rfl, N0, rfl⟩
theorem rmIL1 (hw : own_W a0 Z) (a1 : Nat) (h0 : Heap) (n0 : Nat) (Z0 : n0 ≤ h0.size) (vcs : Int32) (hcs : ¬ vcs = 0) (O0 : Old Z n0 h0) (SCS : sCS Z vcs) (vb : Nat) (E1 : Exa Z h0 a1 "java/lang/String") (Fv : fV Z h0 a1 (.ref vb)) (Fc : fC Z h0 a1 (.int 1)) (bs : List Value) (Ab : Ary Z h0 vb .byte bs) :
    Con l Z ⟨"java/lang/String", "isLatin1", "()Z"⟩ jdk_42_method_154_code 1 (some .boolean) ⟨0, 0, 0, 0⟩ #[(.ref a1)] h0 (fun v h L => v = some (.int 0) ∧ Fr n0 L ∧ h = h0) := by
  refine Con.o (L := #[vR a1]) n0 d37 pf_20 (by simp [argsToLocals, Value.category]) ?_
  intro p e s m _ _ c T0 X0 hx hby hml hZ hown hnm hret hlk e0 N0 D
  have lt_1 := own_ltE E1
  have lt_2 := own_ltA Ab
  obtain ⟨T_3, X_3, e_3, st_3⟩ := getS2 X0 hx hZ hown (host := "") (Or.inl (hq hw 31 rfl)) Via.refl e0 (SCS.ext O0.2) (g := (mkF m 0 #[vR a1] [])) rfl (D 0 rfl)
  let j_264 := (mkF m 7 #[vR a1] [(.ref a1)])
  refine Go.s T_3 j_264 (fun _ hr => st_3 _ (yM X_3 hx (D 1 rfl) (XT.i0_eq_f hcs) (yb X_3 hx (D 2 rfl) rfl rfl hr))) ?_
  obtain ⟨T_4, X_4, e_4, st_4⟩ := getF X_3 hx hZ hown (host := "") (Or.inl (hq hw 42 rfl)) Via.refl e_3 Fc (g := j_264) rfl rfl (D 3 rfl)
  refine Go.s T_4 (mkF m 18 #[vR a1] [(.int 0)]) (fun _ hr => st_4 _ (yX X_4 hx (D 4 rfl) (pc' := 17) (XT.i0_ne_t (by decide)) rfl (yc X_4 hx (D 7 rfl) hr))) ?_
  refine Go.retN X_4 hx hlk (t := .boolean) hret (by simp) (D 8 rfl) (by decide) (by decide) ?_
  try rw [e_4]
  exact ⟨rfl, N0, rfl⟩
theorem rmCd1 (hw : own_W a0 Z) (a1 : Nat) (h0 : Heap) (n0 : Nat) (Z0 : n0 ≤ h0.size) (vcs : Int32) (hcs : ¬ vcs = 0) (O0 : Old Z n0 h0) (SCS : sCS Z vcs) (vb : Nat) (E1 : Exa Z h0 a1 "java/lang/String") (Fv : fV Z h0 a1 (.ref vb)) (Fc : fC Z h0 a1 (.int 1)) (bs : List Value) (Ab : Ary Z h0 vb .byte bs) :
    Con l Z ⟨"java/lang/String", "coder", "()B"⟩ jdk_42_method_152_code 1 (some .byte) ⟨0, 0, 0, 0⟩ #[(.ref a1)] h0 (fun v h L => v = some (.int 1) ∧ Fr n0 L ∧ h = h0) := by
  refine Con.o (L := #[vR a1]) n0 d38 pf_21 (by simp [argsToLocals, Value.category]) ?_
  intro p e s m _ _ c T0 X0 hx hby hml hZ hown hnm hret hlk e0 N0 D
  have lt_1 := own_ltE E1
  have lt_2 := own_ltA Ab
  obtain ⟨T_3, X_3, e_3, st_3⟩ := getS2 X0 hx hZ hown (host := "") (Or.inl (hq hw 31 rfl)) Via.refl e0 (SCS.ext O0.2) (g := (mkF m 0 #[vR a1] [])) rfl (D 0 rfl)
  let j_265 := (mkF m 7 #[vR a1] [(.ref a1)])
  refine Go.s T_3 j_265 (fun _ hr => st_3 _ (yM X_3 hx (D 1 rfl) (XT.i0_eq_f hcs) (yb X_3 hx (D 2 rfl) rfl rfl hr))) ?_
  obtain ⟨T_4, X_4, e_4, st_4⟩ := getF X_3 hx hZ hown (host := "") (Or.inl (hq hw 42 rfl)) Via.refl e_3 Fc (g := j_265) rfl rfl (D 3 rfl)
  refine Go.s T_4 (mkF m 14 #[vR a1] [(.int 1)]) (fun _ hr => st_4 _ (yg X_4 hx (D 4 rfl) (pc' := 14) rfl hr)) ?_
  refine Go.retN X_4 hx hlk (t := .byte) hret (by simp) (D 5 rfl) (by decide) (by decide) ?_
  try rw [e_4]
  exact ⟨rfl, N0, rfl⟩
theorem pf_22 : plainFor (⟨"java/lang/String", "length", "()I"⟩ : MethodName) = true := plainFor_of_name (by first | (simp [plainName, overriddenIn]; done) | decide +kernel)
theorem pd_10 : parseMethodDescriptor "()B" = some ⟨[], some .byte⟩ := by decide +kernel
theorem rmLen (hw : own_W a0 Z) (a1 : Nat) (h0 : Heap) (n0 : Nat) (Z0 : n0 ≤ h0.size) (vcs : Int32) (hcs : ¬ vcs = 0) (O0 : Old Z n0 h0) (SCS : sCS Z vcs) (vb : Nat) (E1 : Exa Z h0 a1 "java/lang/String") (Fv : fV Z h0 a1 (.ref vb)) (Fc : fC Z h0 a1 (.int 0)) (cs : List Int32) (Ab : Ary Z h0 vb .byte (cs.map own_bv)) (hl1 : own_l1 cs) :
    Con l Z ⟨"java/lang/String", "length", "()I"⟩ jdk_42_method_54_code 1 (some .int) ⟨1, 0, 0, 13⟩ #[(.ref a1)] h0 (fun v h L => ∃ r : Int32, v = some (.int r) ∧ Fr n0 L ∧ h = h0 ∧ r.toInt = cs.length) := by
  refine Con.o (L := #[vR a1]) n0 d39 pf_22 (by simp [argsToLocals, Value.category]) ?_
  intro p e s m _ _ c T0 X0 hx hby hml hZ hown hnm hret hlk e0 N0 D
  have hlc := hl1.2
  obtain ⟨vl, hvl⟩ : ∃ z : Int32, z = (cs.map own_bv).length.toInt32 := ⟨_, rfl⟩
  have hvl2 := own_lenI hvl (by omega)
  have lt_1 := own_ltE E1
  have lt_2 := own_ltA Ab
  let j_266 := (mkF m 1 #[vR a1] [(.ref a1)])
  refine Go.s T0 j_266 (fun _ hr => yb X0 hx (D 0 rfl) rfl rfl hr) ?_
  obtain ⟨T_3, X_3, e_3, st_3⟩ := getF X0 hx hZ hown (host := "") (Or.inl (hq hw 43 rfl)) Via.refl e0 Fv (g := j_266) rfl rfl (D 1 rfl)
  let j_267 := (mkF m 4 #[vR a1] [(.ref vb)])
  refine Go.s T_3 j_267 st_3 ?_
  refine Go.s T_3 (mkF m 5 #[vR a1] [(.int ((cs.map own_bv)).length.toInt32)]) (own_len X_3 hx hZ e_3 Ab (g := j_267) rfl rfl (D 2 rfl)) ?_
  refine Go.cast (g' := (mkF m 5 #[vR a1] [(.int vl)])) (by rw [show ((cs.map own_bv)).length.toInt32 = vl from hvl.symm]) ?_
  let j_268 := (mkF m 6 #[vR a1] [(.ref a1), (.int vl)])
  refine Go.s T_3 j_268 (fun _ hr => yb X_3 hx (D 3 rfl) rfl rfl hr) ?_
  obtain ⟨v_4, T_4, h_4, L_4, X_4, e_4, ⟨rfl, N_4, hh_4⟩, st_4⟩ := cV X_3 hx hZ hown (hq hw 154 rfl) (hq hw 155 rfl) (hq hw 157 rfl) (hq hw 157 rfl) (hq hw 156 rfl) (hq hw 9 rfl) (hq hw 158 rfl) e_3 E1 hml (rmCd0 l Z a0 hw a1 h0 n0 (by omega) vcs hcs O0 SCS vb E1 Fv Fc (cs.map own_bv) Ab) (g := j_268) rfl rfl (lenOf pd_10 rfl) rfl (D 4 rfl) (W := 1) rfl rfl (by decide)
  have N_4' := Fr.app N0 N_4
  rw [hh_4] at e_4
  refine Go.s T_4 (mkF m 10 #[vR a1] [(.int (vl >>> ((0 : Int32) &&& 31)))]) (fun _ hr => st_4 _ (y6 X_4 hx (D 5 rfl) hr)) ?_
  refine Go.retI X_4 hx hlk hret (D 6 rfl) (by decide) (by decide) ?_
  try rw [e_4]
  exact ⟨_, rfl, N_4', rfl, own_sh0 hvl2⟩
theorem pf_23 : plainFor (⟨"java/lang/StringLatin1", "charAt", "([BI)C"⟩ : MethodName) = true := plainFor_of_name (by first | (simp [plainName, overriddenIn]; done) | decide +kernel)
theorem pd_11 : parseMethodDescriptor "(II)V" = some ⟨[.int, .int], none⟩ := by decide +kernel
theorem rmLCA (hw : own_W a0 Z) (a1 : Nat) (vi : Int32) (h0 : Heap) (n0 : Nat) (Z0 : n0 ≤ h0.size) (O0 : Old Z n0 h0) (vfm : Value) (rfm : vfm.isRef = true) (SFM : sFM Z vfm) (cs : List Int32) (Ab : Ary Z h0 a1 .byte (cs.map own_bv)) (hl1 : own_l1 cs) (i : Nat) (hi : vi.toInt = i) (hic : i < cs.length) :
    Con l Z ⟨"java/lang/StringLatin1", "charAt", "([BI)C"⟩ jdk_43_method_2_code 2 (some .char) ⟨2, 0, 0, 27⟩ #[(.ref a1), (.int vi)] h0 (fun v h L => v = some (.int (cs.getD i 0)) ∧ Fr n0 L ∧ h = h0) := by
  refine Con.o (L := #[vR a1, vI vi]) n0 d40 pf_23 (by simp [argsToLocals, Value.category]) ?_
  intro p e s m _ _ c T0 X0 hx hby hml hZ hown hnm hret hlk e0 N0 D
  have hlc := hl1.2
  obtain ⟨vl, hvl⟩ : ∃ z : Int32, z = (cs.map own_bv).length.toInt32 := ⟨_, rfl⟩
  have hvl2 := own_lenI hvl (by omega)
  have lt_1 := own_ltA Ab
  let j_269 := (mkF m 2 #[vR a1, vI vi] [(.ref a1), (.int vi)])
  refine Go.s T0 j_269 (fun _ hr => yj X0 hx (D 0 rfl) rfl (yb X0 hx (D 1 rfl) rfl rfl hr)) ?_
  refine Go.s T0 (mkF m 3 #[vR a1, vI vi] [(.int ((cs.map own_bv)).length.toInt32), (.int vi)]) (own_len X0 hx hZ e0 Ab (g := j_269) rfl rfl (D 2 rfl)) ?_
  refine Go.cast (g' := (mkF m 3 #[vR a1, vI vi] [(.int vl), (.int vi)])) (by rw [show ((cs.map own_bv)).length.toInt32 = vl from hvl.symm]) ?_
  obtain ⟨v_2, T_2, h_2, L_2, X_2, e_2, ⟨rfl, N_2, hh_2⟩, st_2⟩ := cS X0 hx hZ hown (hq hw 69 rfl) (hq hw 70 rfl) (hq hw 9 rfl) (hq hw 71 rfl) e0 hml (rmSCI l Z a0 hw vi vl h0 n0 Z0 O0 vfm rfm SFM (by rw [Int32.lt_iff_toInt_lt]; have z : (0 : Int32).toInt = 0 := rfl; omega) (by rw [Int32.lt_iff_toInt_lt]; omega)) (g := (mkF m 3 #[vR a1, vI vi] [(.int vl), (.int vi)])) rfl rfl (lenOf pd_11 rfl) rfl (D 3 rfl) (W := 0) rfl rfl (by decide)
  have N_2' := Fr.app N0 N_2
  rw [hh_2] at e_2
  let j_270 := (mkF m 8 #[vR a1, vI vi] [(.int vi), (.ref a1)])
  refine Go.s T_2 j_270 (fun _ hr => st_2 _ (yb X_2 hx (D 4 rfl) rfl rfl (yj X_2 hx (D 5 rfl) rfl hr))) ?_
  refine Go.s T_2 (mkF m 14 #[vR a1, vI vi] [(.int (((cs.getD i 0).toInt8.toInt32 &&& 255).toUInt32.toUInt16.toUInt32.toInt32))]) (fun _ hr => (own_ldB X_2 hx hZ e_2 Ab (j := vi) (v := (.int (cs.getD i 0).toInt8.toInt32)) (by omega) (by simp only [List.length_map]; omega) (by rw [own_toN hi]; exact own_bv_at hic) (g := j_270) rfl rfl (D 6 rfl)) _ (yq X_2 hx (D 7 rfl) (y3 X_2 hx (D 8 rfl) (y9 X_2 hx (D 9 rfl) hr)))) ?_
  refine Go.retN X_2 hx hlk (t := .char) hret (by simp) (D 10 rfl) (by decide) (by decide) ?_
  try rw [e_2]
  exact ⟨by rw [own_b255 (own_l1_at hl1 hic), own_rg_c (own_l1_at hl1 hic)], N_2', rfl⟩
theorem pf_24 : plainFor (⟨"java/lang/String", "charAt", "(I)C"⟩ : MethodName) = true := plainFor_of_name (by first | (simp [plainName, overriddenIn]; done) | decide +kernel)
theorem pd_12 : parseMethodDescriptor "()Z" = some ⟨[], some .boolean⟩ := by decide +kernel
theorem rmCA (hw : own_W a0 Z) (a1 : Nat) (vi : Int32) (h0 : Heap) (n0 : Nat) (Z0 : n0 ≤ h0.size) (vcs : Int32) (hcs : ¬ vcs = 0) (O0 : Old Z n0 h0) (SCS : sCS Z vcs) (vb : Nat) (E1 : Exa Z h0 a1 "java/lang/String") (Fv : fV Z h0 a1 (.ref vb)) (Fc : fC Z h0 a1 (.int 0)) (cs : List Int32) (Ab : Ary Z h0 vb .byte (cs.map own_bv)) (hl1 : own_l1 cs) (vfm : Value) (rfm : vfm.isRef = true) (SFM : sFM Z vfm) (i : Nat) (hi : vi.toInt = i) (hic : i < cs.length) :
    Con l Z ⟨"java/lang/String", "charAt", "(I)C"⟩ jdk_42_method_56_code 2 (some .char) ⟨3, 0, 0, 40⟩ #[(.ref a1), (.int vi)] h0 (fun v h L => v = some (.int (cs.getD i 0)) ∧ Fr n0 L ∧ h = h0) := by
  refine Con.o (L := #[vR a1, vI vi]) n0 d41 pf_24 (by simp [argsToLocals, Value.category]) ?_
  intro p e s m _ _ c T0 X0 hx hby hml hZ hown hnm hret hlk e0 N0 D
  have lt_1 := own_ltE E1
  have lt_2 := own_ltA Ab
  let j_271 := (mkF m 1 #[vR a1, vI vi] [(.ref a1)])
  refine Go.s T0 j_271 (fun _ hr => yb X0 hx (D 0 rfl) rfl rfl hr) ?_
  obtain ⟨v_3, T_3, h_3, L_3, X_3, e_3, ⟨rfl, N_3, hh_3⟩, st_3⟩ := cV X0 hx hZ hown (hq hw 60 rfl) (hq hw 61 rfl) (hq hw 63 rfl) (hq hw 63 rfl) (hq hw 62 rfl) (hq hw 9 rfl) (hq hw 64 rfl) e0 E1 hml (rmIL0 l Z a0 hw a1 h0 n0 (by omega) vcs hcs O0 SCS vb E1 Fv Fc (cs.map own_bv) Ab) (g := j_271) rfl rfl (lenOf pd_12 rfl) rfl (D 1 rfl) (W := 0) rfl rfl (by decide)
  have N_3' := Fr.app N0 N_3
  rw [hh_3] at e_3
  let j_272 := (mkF m 8 #[vR a1, vI vi] [(.ref a1)])
  refine Go.s T_3 j_272 (fun _ hr => st_3 _ (yM X_3 hx (D 2 rfl) (XT.i0_eq_f (by decide)) (yb X_3 hx (D 3 rfl) rfl rfl hr))) ?_
  obtain ⟨T_4, X_4, e_4, st_4⟩ := getF X_3 hx hZ hown (host := "") (Or.inl (hq hw 43 rfl)) Via.refl e_3 Fv (g := j_272) rfl rfl (D 4 rfl)
  let j_273 := (mkF m 12 #[vR a1, vI vi] [(.int vi), (.ref vb)])
  refine Go.s T_4 j_273 (fun _ hr => st_4 _ (yj X_4 hx (D 5 rfl) rfl hr)) ?_
  obtain ⟨v_5, T_5, h_5, L_5, X_5, e_5, ⟨rfl, N_5, hh_5⟩, st_5⟩ := cS X_4 hx hZ hown (hq hw 65 rfl) (hq hw 66 rfl) (hq hw 67 rfl) (hq hw 68 rfl) e_4 hml (rmLCA l Z a0 hw vb vi h0 n0 (by omega) O0 vfm rfm SFM cs Ab hl1 i hi hic) (g := j_273) rfl rfl (lenOf pd_7 rfl) rfl (D 6 rfl) (W := 0) rfl rfl (by decide)
  have N_5' := Fr.app N_3' N_5
  rw [hh_5] at e_5
  refine Go.s T_5 (mkF m 15 #[vR a1, vI vi] [(.int (cs.getD i 0))]) st_5 ?_
  refine Go.retN X_5 hx hlk (t := .char) hret (by simp) (D 7 rfl) (by decide) (by decide) ?_
  try rw [e_5]
  exact ⟨by rw [own_rg_c (own_l1_at hl1 hic)], N_5', rfl⟩
theorem pf_25 : plainFor (⟨"java/lang/String", "isEmpty", "()Z"⟩ : MethodName) = true := plainFor_of_name (by first | (simp [plainName, overriddenIn]; done) | decide +kernel)
theorem rmEm0 (hw : own_W a0 Z) (a1 : Nat) (h0 : Heap) (n0 : Nat) (Z0 : n0 ≤ h0.size) (vb : Nat) (Fv : fV Z h0 a1 (.ref vb)) (bs : List Value) (Ab : Ary Z h0 vb .byte bs) (hbl : bs.length = 0) :
    Con l Z ⟨"java/lang/String", "isEmpty", "()Z"⟩ jdk_42_method_55_code 1 (some .boolean) ⟨0, 0, 0, 0⟩ #[(.ref a1)] h0 (fun v h L => v = some (.int 1) ∧ Fr n0 L ∧ h = h0) := by
  refine Con.o (L := #[vR a1]) n0 d42 pf_25 (by simp [argsToLocals, Value.category]) ?_
  intro p e s m _ _ c T0 X0 hx hby hml hZ hown hnm hret hlk e0 N0 D
  have lt_1 := own_ltF Fv
  have lt_2 := own_ltA Ab
  let j_274 := (mkF m 1 #[vR a1] [(.ref a1)])
  refine Go.s T0 j_274 (fun _ hr => yb X0 hx (D 0 rfl) rfl rfl hr) ?_
  obtain ⟨T_3, X_3, e_3, st_3⟩ := getF X0 hx hZ hown (host := "") (Or.inl (hq hw 43 rfl)) Via.refl e0 Fv (g := j_274) rfl rfl (D 1 rfl)
  let j_275 := (mkF m 4 #[vR a1] [(.ref vb)])
  refine Go.s T_3 j_275 st_3 ?_
  refine Go.s T_3 (mkF m 13 #[vR a1] [(.int 1)]) (fun _ hr => (own_len X_3 hx hZ e_3 Ab (g := j_275) rfl rfl (D 2 rfl)) _ (yM X_3 hx (D 3 rfl) (XT.i0_ne_f (own_len0 hbl)) (yc X_3 hx (D 4 rfl) (yg X_3 hx (D 5 rfl) (pc' := 13) rfl hr)))) ?_
  refine Go.retN X_3 hx hlk (t := .boolean) hret (by simp) (D 7 rfl) (by decide) (by decide) ?_
  try rw [e_3]
  exact ⟨rfl, N0, rfl⟩
theorem rmEm1 (hw : own_W a0 Z) (a1 : Nat) (h0 : Heap) (n0 : Nat) (Z0 : n0 ≤ h0.size) (vb : Nat) (Fv : fV Z h0 a1 (.ref vb)) (bs : List Value) (Ab : Ary Z h0 vb .byte bs) (hbl : bs.length ≠ 0) (hbl2 : bs.length < 1000) :
    Con l Z ⟨"java/lang/String", "isEmpty", "()Z"⟩ jdk_42_method_55_code 1 (some .boolean) ⟨0, 0, 0, 0⟩ #[(.ref a1)] h0 (fun v h L => v = some (.int 0) ∧ Fr n0 L ∧ h = h0) := by
  refine Con.o (L := #[vR a1]) n0 d42 pf_25 (by simp [argsToLocals, Value.category]) ?_
  intro p e s m _ _ c T0 X0 hx hby hml hZ hown hnm hret hlk e0 N0 D
  have lt_1 := own_ltF Fv
  have lt_2 := own_ltA Ab
  let j_276 := (mkF m 1 #[vR a1] [(.ref a1)])
  refine Go.s T0 j_276 (fun _ hr => yb X0 hx (D 0 rfl) rfl rfl hr) ?_
  obtain ⟨T_3, X_3, e_3, st_3⟩ := getF X0 hx hZ hown (host := "") (Or.inl (hq hw 43 rfl)) Via.refl e0 Fv (g := j_276) rfl rfl (D 1 rfl)
  let j_277 := (mkF m 4 #[vR a1] [(.ref vb)])
  refine Go.s T_3 j_277 st_3 ?_
  refine Go.s T_3 (mkF m 13 #[vR a1] [(.int 0)]) (fun _ hr => (own_len X_3 hx hZ e_3 Ab (g := j_277) rfl rfl (D 2 rfl)) _ (yX X_3 hx (D 3 rfl) (pc' := 12) (XT.i0_ne_t (own_len1 hbl hbl2)) rfl (yc X_3 hx (D 6 rfl) hr))) ?_
  refine Go.retN X_3 hx hlk (t := .boolean) hret (by simp) (D 7 rfl) (by decide) (by decide) ?_
  try rw [e_3]
  exact ⟨rfl, N0, rfl⟩
theorem pf_26 : plainFor (⟨"java/lang/StringUTF16", "length", "([B)I"⟩ : MethodName) = true := plainFor_of_name (by first | (simp [plainName, overriddenIn]; done) | decide +kernel)
theorem rmUL1 (hw : own_W a0 Z) (a1 : Nat) (h0 : Heap) (n0 : Nat) (Z0 : n0 ≤ h0.size) (Ab : Ary Z h0 a1 .byte [(.int (own_lo 65279)), (.int (own_hi 65279))])  :
    Con l Z ⟨"java/lang/StringUTF16", "length", "([B)I"⟩ jdk_52_method_6_code 1 (some .int) ⟨0, 0, 0, 0⟩ #[(.ref a1)] h0 (fun v h L => v = some (.int 1) ∧ Fr n0 L ∧ h = h0) := by
  refine Con.o (L := #[vR a1]) n0 d43 pf_26 (by simp [argsToLocals, Value.category]) ?_
  intro p e s m _ _ c T0 X0 hx hby hml hZ hown hnm hret hlk e0 N0 D
  have lt_1 := own_ltA Ab
  let j_278 := (mkF m 1 #[vR a1] [(.ref a1)])
  refine Go.s T0 j_278 (fun _ hr => yb X0 hx (D 0 rfl) rfl rfl hr) ?_
  refine Go.s T0 (mkF m 4 #[vR a1] [(.int ((2 : Int32) >>> ((1 : Int32) &&& 31)))]) (fun _ hr => (own_len X0 hx hZ e0 Ab (g := j_278) rfl rfl (D 1 rfl)) _ (yc X0 hx (D 2 rfl) (y6 X0 hx (D 3 rfl) hr))) ?_
  refine Go.retI X0 hx hlk hret (D 4 rfl) (by decide) (by decide) ?_
  try rw [e0]
  exact ⟨congrArg (fun z => some (Value.int z)) own_uh1, N0, rfl⟩
theorem pf_27 : plainFor (⟨"java/lang/StringUTF16", "checkIndex", "(I[B)V"⟩ : MethodName) = true := plainFor_of_name (by first | (simp [plainName, overriddenIn]; done) | decide +kernel)
theorem pd_13 : parseMethodDescriptor "([B)I" = some ⟨[(.array .byte)], some .int⟩ := by decide +kernel
theorem rmUCI1 (hw : own_W a0 Z) (a1 : Nat) (h0 : Heap) (n0 : Nat) (Z0 : n0 ≤ h0.size) (O0 : Old Z n0 h0) (vfm : Value) (rfm : vfm.isRef = true) (SFM : sFM Z vfm) (Ab : Ary Z h0 a1 .byte [(.int (own_lo 65279)), (.int (own_hi 65279))])  :
    Con l Z ⟨"java/lang/StringUTF16", "checkIndex", "(I[B)V"⟩ jdk_52_method_91_code 2 none ⟨2, 0, 0, 27⟩ #[(.int 0), (.ref a1)] h0 (fun v h L => v = none ∧ Fr n0 L ∧ h = h0) := by
  refine Con.o (L := #[vI 0, vR a1]) n0 d44 pf_27 (by simp [argsToLocals, Value.category]) ?_
  intro p e s m _ _ c T0 X0 hx hby hml hZ hown hnm hret hlk e0 N0 D
  have lt_1 := own_ltA Ab
  let j_279 := (mkF m 2 #[vI 0, vR a1] [(.ref a1), (.int 0)])
  refine Go.s T0 j_279 (fun _ hr => yj X0 hx (D 0 rfl) rfl (yb X0 hx (D 1 rfl) rfl rfl hr)) ?_
  obtain ⟨v_2, T_2, h_2, L_2, X_2, e_2, ⟨rfl, N_2, hh_2⟩, st_2⟩ := cS X0 hx hZ hown (hq hw 246 rfl) (hq hw 247 rfl) (hq hw 34 rfl) (hq hw 248 rfl) e0 hml (rmUL1 l Z a0 hw a1 h0 n0 (by omega)  Ab ) (g := j_279) rfl rfl (lenOf pd_13 rfl) rfl (D 2 rfl) (W := 1) rfl rfl (by decide)
  have N_2' := Fr.app N0 N_2
  rw [hh_2] at e_2
  let j_280 := (mkF m 5 #[vI 0, vR a1] [(.int 1), (.int 0)])
  refine Go.s T_2 j_280 st_2 ?_
  obtain ⟨v_3, T_3, h_3, L_3, X_3, e_3, ⟨rfl, N_3, hh_3⟩, st_3⟩ := cS X_2 hx hZ hown (hq hw 249 rfl) (hq hw 70 rfl) (hq hw 9 rfl) (hq hw 71 rfl) e_2 hml (rmSCI l Z a0 hw 0 1 h0 n0 (by omega) O0 vfm rfm SFM (by decide) (by decide)) (g := j_280) rfl rfl (lenOf pd_11 rfl) rfl (D 3 rfl) (W := 0) rfl rfl (by decide)
  have N_3' := Fr.app N_2' N_3
  rw [hh_3] at e_3
  refine Go.s T_3 (mkF m 8 #[vI 0, vR a1] []) st_3 ?_
  refine Go.retV X_3 hx hlk hret (D 4 rfl) (by decide) (by decide) ?_
  try rw [e_3]
  exact ⟨rfl, N_3', rfl⟩
theorem pf_28 : plainFor (⟨"java/lang/StringUTF16", "charAt", "([BI)C"⟩ : MethodName) = true := plainFor_of_name (by first | (simp [plainName, overriddenIn]; done) | decide +kernel)
theorem pd_14 : parseMethodDescriptor "(I[B)V" = some ⟨[.int, (.array .byte)], none⟩ := by decide +kernel
theorem rmUCA1 (hw : own_W a0 Z) (a1 : Nat) (h0 : Heap) (n0 : Nat) (Z0 : n0 ≤ h0.size) (O0 : Old Z n0 h0) (SAD : sAD Z) (SHI : sHI Z) (SLO : sLO Z) (vfm : Value) (rfm : vfm.isRef = true) (SFM : sFM Z vfm) (Ab : Ary Z h0 a1 .byte [(.int (own_lo 65279)), (.int (own_hi 65279))])  :
    Con l Z ⟨"java/lang/StringUTF16", "charAt", "([BI)C"⟩ jdk_52_method_83_code 2 (some .char) ⟨3, 0, 0, 40⟩ #[(.ref a1), (.int 0)] h0 (fun v h L => v = some (.int 65279) ∧ Fr n0 L ∧ h = h0) := by
  refine Con.o (L := #[vR a1, vI 0]) n0 d45 pf_28 (by simp [argsToLocals, Value.category]) ?_
  intro p e s m _ _ c T0 X0 hx hby hml hZ hown hnm hret hlk e0 N0 D
  have lt_1 := own_ltA Ab
  let j_281 := (mkF m 2 #[vR a1, vI 0] [(.ref a1), (.int 0)])
  refine Go.s T0 j_281 (fun _ hr => yj X0 hx (D 0 rfl) rfl (yb X0 hx (D 1 rfl) rfl rfl hr)) ?_
  obtain ⟨v_2, T_2, h_2, L_2, X_2, e_2, ⟨rfl, N_2, hh_2⟩, st_2⟩ := cS X0 hx hZ hown (hq hw 243 rfl) (hq hw 244 rfl) (hq hw 34 rfl) (hq hw 245 rfl) e0 hml (rmUCI1 l Z a0 hw a1 h0 n0 (by omega) O0 vfm rfm SFM  Ab ) (g := j_281) rfl rfl (lenOf pd_14 rfl) rfl (D 2 rfl) (W := 0) rfl rfl (by decide)
  have N_2' := Fr.app N0 N_2
  rw [hh_2] at e_2
  let j_282 := (mkF m 7 #[vR a1, vI 0] [(.int 0), (.ref a1)])
  refine Go.s T_2 j_282 (fun _ hr => st_2 _ (yb X_2 hx (D 3 rfl) rfl rfl (yj X_2 hx (D 4 rfl) rfl hr))) ?_
  obtain ⟨v_3, T_3, h_3, L_3, X_3, e_3, ⟨rfl, N_3, hh_3⟩, st_3⟩ := cS X_2 hx hZ hown (hq hw 237 rfl) (hq hw 238 rfl) (hq hw 34 rfl) (hq hw 239 rfl) e_2 hml (rmGet l Z a0 hw a1 (0 : Int32) h0 n0 (by omega) O0 SAD SHI SLO [(.int (own_lo 65279)), (.int (own_hi 65279))] 0 rfl (by decide) Ab (by simp +decide) (65279 : Int32) (by decide) (by decide) rfl rfl) (g := j_282) rfl rfl (lenOf pd_7 rfl) rfl (D 5 rfl) (W := 0) rfl rfl (by decide)
  have N_3' := Fr.app N_2' N_3
  rw [hh_3] at e_3
  refine Go.s T_3 (mkF m 10 #[vR a1, vI 0] [(.int 65279)]) st_3 ?_
  refine Go.retN X_3 hx hlk (t := .char) hret (by simp) (D 6 rfl) (by decide) (by decide) ?_
  try rw [e_3]
  exact ⟨congrArg (fun z => some (Value.int z)) (by decide), N_3', rfl⟩
theorem rmCAU1 (hw : own_W a0 Z) (a1 : Nat) (h0 : Heap) (n0 : Nat) (Z0 : n0 ≤ h0.size) (vcs : Int32) (hcs : ¬ vcs = 0) (O0 : Old Z n0 h0) (SCS : sCS Z vcs) (SAD : sAD Z) (SHI : sHI Z) (SLO : sLO Z) (vfm : Value) (rfm : vfm.isRef = true) (SFM : sFM Z vfm) (vb : Nat) (E1 : Exa Z h0 a1 "java/lang/String") (Fv : fV Z h0 a1 (.ref vb)) (Fc : fC Z h0 a1 (.int 1)) (Ab : Ary Z h0 vb .byte [(.int (own_lo 65279)), (.int (own_hi 65279))])  :
    Con l Z ⟨"java/lang/String", "charAt", "(I)C"⟩ jdk_42_method_56_code 2 (some .char) ⟨4, 0, 0, 53⟩ #[(.ref a1), (.int 0)] h0 (fun v h L => v = some (.int 65279) ∧ Fr n0 L ∧ h = h0) := by
  refine Con.o (L := #[vR a1, vI 0]) n0 d41 pf_24 (by simp [argsToLocals, Value.category]) ?_
  intro p e s m _ _ c T0 X0 hx hby hml hZ hown hnm hret hlk e0 N0 D
  have lt_1 := own_ltE E1
  have lt_2 := own_ltA Ab
  let j_283 := (mkF m 1 #[vR a1, vI 0] [(.ref a1)])
  refine Go.s T0 j_283 (fun _ hr => yb X0 hx (D 0 rfl) rfl rfl hr) ?_
  obtain ⟨v_3, T_3, h_3, L_3, X_3, e_3, ⟨rfl, N_3, hh_3⟩, st_3⟩ := cV X0 hx hZ hown (hq hw 60 rfl) (hq hw 61 rfl) (hq hw 63 rfl) (hq hw 63 rfl) (hq hw 62 rfl) (hq hw 9 rfl) (hq hw 64 rfl) e0 E1 hml (rmIL1 l Z a0 hw a1 h0 n0 (by omega) vcs hcs O0 SCS vb E1 Fv Fc [(.int (own_lo 65279)), (.int (own_hi 65279))] Ab) (g := j_283) rfl rfl (lenOf pd_12 rfl) rfl (D 1 rfl) (W := 0) rfl rfl (by decide)
  have N_3' := Fr.app N0 N_3
  rw [hh_3] at e_3
  let j_284 := (mkF m 17 #[vR a1, vI 0] [(.ref a1)])
  refine Go.s T_3 j_284 (fun _ hr => st_3 _ (yX X_3 hx (D 2 rfl) (pc' := 16) (XT.i0_eq_t (by decide)) rfl (yb X_3 hx (D 8 rfl) rfl rfl hr))) ?_
  obtain ⟨T_4, X_4, e_4, st_4⟩ := getF X_3 hx hZ hown (host := "") (Or.inl (hq hw 43 rfl)) Via.refl e_3 Fv (g := j_284) rfl rfl (D 9 rfl)
  let j_285 := (mkF m 21 #[vR a1, vI 0] [(.int 0), (.ref vb)])
  refine Go.s T_4 j_285 (fun _ hr => st_4 _ (yj X_4 hx (D 10 rfl) rfl hr)) ?_
  obtain ⟨v_5, T_5, h_5, L_5, X_5, e_5, ⟨rfl, N_5, hh_5⟩, st_5⟩ := cS X_4 hx hZ hown (hq hw 240 rfl) (hq hw 241 rfl) (hq hw 34 rfl) (hq hw 242 rfl) e_4 hml (rmUCA1 l Z a0 hw vb h0 n0 (by omega) O0 SAD SHI SLO vfm rfm SFM  Ab ) (g := j_285) rfl rfl (lenOf pd_7 rfl) rfl (D 11 rfl) (W := 0) rfl rfl (by decide)
  have N_5' := Fr.app N_3' N_5
  rw [hh_5] at e_5
  refine Go.s T_5 (mkF m 24 #[vR a1, vI 0] [(.int 65279)]) st_5 ?_
  refine Go.retN X_5 hx hlk (t := .char) hret (by simp) (D 12 rfl) (by decide) (by decide) ?_
  try rw [e_5]
  exact ⟨congrArg (fun z => some (Value.int z)) (by decide), N_5', rfl⟩
theorem rmLnU1 (hw : own_W a0 Z) (a1 : Nat) (h0 : Heap) (n0 : Nat) (Z0 : n0 ≤ h0.size) (vcs : Int32) (hcs : ¬ vcs = 0) (O0 : Old Z n0 h0) (SCS : sCS Z vcs) (SAD : sAD Z) (SHI : sHI Z) (SLO : sLO Z) (vfm : Value) (rfm : vfm.isRef = true) (SFM : sFM Z vfm) (vb : Nat) (E1 : Exa Z h0 a1 "java/lang/String") (Fv : fV Z h0 a1 (.ref vb)) (Fc : fC Z h0 a1 (.int 1)) (Ab : Ary Z h0 vb .byte [(.int (own_lo 65279)), (.int (own_hi 65279))])  :
    Con l Z ⟨"java/lang/String", "length", "()I"⟩ jdk_42_method_54_code 1 (some .int) ⟨1, 0, 0, 13⟩ #[(.ref a1)] h0 (fun v h L => v = some (.int 1) ∧ Fr n0 L ∧ h = h0) := by
  refine Con.o (L := #[vR a1]) n0 d39 pf_22 (by simp [argsToLocals, Value.category]) ?_
  intro p e s m _ _ c T0 X0 hx hby hml hZ hown hnm hret hlk e0 N0 D
  have lt_1 := own_ltE E1
  have lt_2 := own_ltA Ab
  let j_286 := (mkF m 1 #[vR a1] [(.ref a1)])
  refine Go.s T0 j_286 (fun _ hr => yb X0 hx (D 0 rfl) rfl rfl hr) ?_
  obtain ⟨T_3, X_3, e_3, st_3⟩ := getF X0 hx hZ hown (host := "") (Or.inl (hq hw 43 rfl)) Via.refl e0 Fv (g := j_286) rfl rfl (D 1 rfl)
  let j_287 := (mkF m 4 #[vR a1] [(.ref vb)])
  refine Go.s T_3 j_287 st_3 ?_
  let j_288 := (mkF m 6 #[vR a1] [(.ref a1), (.int 2)])
  refine Go.s T_3 j_288 (fun _ hr => (own_len X_3 hx hZ e_3 Ab (g := j_287) rfl rfl (D 2 rfl)) _ (yb X_3 hx (D 3 rfl) rfl rfl hr)) ?_
  obtain ⟨v_4, T_4, h_4, L_4, X_4, e_4, ⟨rfl, N_4, hh_4⟩, st_4⟩ := cV X_3 hx hZ hown (hq hw 154 rfl) (hq hw 155 rfl) (hq hw 157 rfl) (hq hw 157 rfl) (hq hw 156 rfl) (hq hw 9 rfl) (hq hw 158 rfl) e_3 E1 hml (rmCd1 l Z a0 hw a1 h0 n0 (by omega) vcs hcs O0 SCS vb E1 Fv Fc [(.int (own_lo 65279)), (.int (own_hi 65279))] Ab) (g := j_288) rfl rfl (lenOf pd_10 rfl) rfl (D 4 rfl) (W := 1) rfl rfl (by decide)
  have N_4' := Fr.app N0 N_4
  rw [hh_4] at e_4
  refine Go.s T_4 (mkF m 10 #[vR a1] [(.int ((2 : Int32) >>> ((1 : Int32) &&& 31)))]) (fun _ hr => st_4 _ (y6 X_4 hx (D 5 rfl) hr)) ?_
  refine Go.retI X_4 hx hlk hret (D 6 rfl) (by decide) (by decide) ?_
  try rw [e_4]
  exact ⟨congrArg (fun z => some (Value.int z)) own_uh1, N_4', rfl⟩
theorem rmUL2 (hw : own_W a0 Z) (a1 : Nat) (h0 : Heap) (n0 : Nat) (Z0 : n0 ≤ h0.size) (c0 : Int32) (Ab : Ary Z h0 a1 .byte [(.int (own_lo 65279)), (.int (own_hi 65279)), (.int (own_lo c0)), (.int (own_hi c0))]) (q0 : own_rg c0) :
    Con l Z ⟨"java/lang/StringUTF16", "length", "([B)I"⟩ jdk_52_method_6_code 1 (some .int) ⟨0, 0, 0, 0⟩ #[(.ref a1)] h0 (fun v h L => v = some (.int 2) ∧ Fr n0 L ∧ h = h0) := by
  refine Con.o (L := #[vR a1]) n0 d43 pf_26 (by simp [argsToLocals, Value.category]) ?_
  intro p e s m _ _ c T0 X0 hx hby hml hZ hown hnm hret hlk e0 N0 D
  have lt_1 := own_ltA Ab
  let j_289 := (mkF m 1 #[vR a1] [(.ref a1)])
  refine Go.s T0 j_289 (fun _ hr => yb X0 hx (D 0 rfl) rfl rfl hr) ?_
  refine Go.s T0 (mkF m 4 #[vR a1] [(.int ((4 : Int32) >>> ((1 : Int32) &&& 31)))]) (fun _ hr => (own_len X0 hx hZ e0 Ab (g := j_289) rfl rfl (D 1 rfl)) _ (yc X0 hx (D 2 rfl) (y6 X0 hx (D 3 rfl) hr))) ?_
  refine Go.retI X0 hx hlk hret (D 4 rfl) (by decide) (by decide) ?_
  try rw [e0]
  exact ⟨congrArg (fun z => some (Value.int z)) own_uh2, N0, rfl⟩
theorem rmUCI2 (hw : own_W a0 Z) (a1 : Nat) (h0 : Heap) (n0 : Nat) (Z0 : n0 ≤ h0.size) (O0 : Old Z n0 h0) (vfm : Value) (rfm : vfm.isRef = true) (SFM : sFM Z vfm) (c0 : Int32) (Ab : Ary Z h0 a1 .byte [(.int (own_lo 65279)), (.int (own_hi 65279)), (.int (own_lo c0)), (.int (own_hi c0))]) (q0 : own_rg c0) :
    Con l Z ⟨"java/lang/StringUTF16", "checkIndex", "(I[B)V"⟩ jdk_52_method_91_code 2 none ⟨2, 0, 0, 27⟩ #[(.int 0), (.ref a1)] h0 (fun v h L => v = none ∧ Fr n0 L ∧ h = h0) := by
  refine Con.o (L := #[vI 0, vR a1]) n0 d44 pf_27 (by simp [argsToLocals, Value.category]) ?_
  intro p e s m _ _ c T0 X0 hx hby hml hZ hown hnm hret hlk e0 N0 D
  have lt_1 := own_ltA Ab
  let j_290 := (mkF m 2 #[vI 0, vR a1] [(.ref a1), (.int 0)])
  refine Go.s T0 j_290 (fun _ hr => yj X0 hx (D 0 rfl) rfl (yb X0 hx (D 1 rfl) rfl rfl hr)) ?_
  obtain ⟨v_2, T_2, h_2, L_2, X_2, e_2, ⟨rfl, N_2, hh_2⟩, st_2⟩ := cS X0 hx hZ hown (hq hw 246 rfl) (hq hw 247 rfl) (hq hw 34 rfl) (hq hw 248 rfl) e0 hml (rmUL2 l Z a0 hw a1 h0 n0 (by omega) c0 Ab q0) (g := j_290) rfl rfl (lenOf pd_13 rfl) rfl (D 2 rfl) (W := 1) rfl rfl (by decide)
  have N_2' := Fr.app N0 N_2
  rw [hh_2] at e_2
  let j_291 := (mkF m 5 #[vI 0, vR a1] [(.int 2), (.int 0)])
  refine Go.s T_2 j_291 st_2 ?_
  obtain ⟨v_3, T_3, h_3, L_3, X_3, e_3, ⟨rfl, N_3, hh_3⟩, st_3⟩ := cS X_2 hx hZ hown (hq hw 249 rfl) (hq hw 70 rfl) (hq hw 9 rfl) (hq hw 71 rfl) e_2 hml (rmSCI l Z a0 hw 0 2 h0 n0 (by omega) O0 vfm rfm SFM (by decide) (by decide)) (g := j_291) rfl rfl (lenOf pd_11 rfl) rfl (D 3 rfl) (W := 0) rfl rfl (by decide)
  have N_3' := Fr.app N_2' N_3
  rw [hh_3] at e_3
  refine Go.s T_3 (mkF m 8 #[vI 0, vR a1] []) st_3 ?_
  refine Go.retV X_3 hx hlk hret (D 4 rfl) (by decide) (by decide) ?_
  try rw [e_3]
  exact ⟨rfl, N_3', rfl⟩
theorem rmUCA2 (hw : own_W a0 Z) (a1 : Nat) (h0 : Heap) (n0 : Nat) (Z0 : n0 ≤ h0.size) (O0 : Old Z n0 h0) (SAD : sAD Z) (SHI : sHI Z) (SLO : sLO Z) (vfm : Value) (rfm : vfm.isRef = true) (SFM : sFM Z vfm) (c0 : Int32) (Ab : Ary Z h0 a1 .byte [(.int (own_lo 65279)), (.int (own_hi 65279)), (.int (own_lo c0)), (.int (own_hi c0))]) (q0 : own_rg c0) :
    Con l Z ⟨"java/lang/StringUTF16", "charAt", "([BI)C"⟩ jdk_52_method_83_code 2 (some .char) ⟨3, 0, 0, 40⟩ #[(.ref a1), (.int 0)] h0 (fun v h L => v = some (.int 65279) ∧ Fr n0 L ∧ h = h0) := by
  refine Con.o (L := #[vR a1, vI 0]) n0 d45 pf_28 (by simp [argsToLocals, Value.category]) ?_
  intro p e s m _ _ c T0 X0 hx hby hml hZ hown hnm hret hlk e0 N0 D
  have lt_1 := own_ltA Ab
  let j_292 := (mkF m 2 #[vR a1, vI 0] [(.ref a1), (.int 0)])
  refine Go.s T0 j_292 (fun _ hr => yj X0 hx (D 0 rfl) rfl (yb X0 hx (D 1 rfl) rfl rfl hr)) ?_
  obtain ⟨v_2, T_2, h_2, L_2, X_2, e_2, ⟨rfl, N_2, hh_2⟩, st_2⟩ := cS X0 hx hZ hown (hq hw 243 rfl) (hq hw 244 rfl) (hq hw 34 rfl) (hq hw 245 rfl) e0 hml (rmUCI2 l Z a0 hw a1 h0 n0 (by omega) O0 vfm rfm SFM c0 Ab q0) (g := j_292) rfl rfl (lenOf pd_14 rfl) rfl (D 2 rfl) (W := 0) rfl rfl (by decide)
  have N_2' := Fr.app N0 N_2
  rw [hh_2] at e_2
  let j_293 := (mkF m 7 #[vR a1, vI 0] [(.int 0), (.ref a1)])
  refine Go.s T_2 j_293 (fun _ hr => st_2 _ (yb X_2 hx (D 3 rfl) rfl rfl (yj X_2 hx (D 4 rfl) rfl hr))) ?_
  obtain ⟨v_3, T_3, h_3, L_3, X_3, e_3, ⟨rfl, N_3, hh_3⟩, st_3⟩ := cS X_2 hx hZ hown (hq hw 237 rfl) (hq hw 238 rfl) (hq hw 34 rfl) (hq hw 239 rfl) e_2 hml (rmGet l Z a0 hw a1 (0 : Int32) h0 n0 (by omega) O0 SAD SHI SLO [(.int (own_lo 65279)), (.int (own_hi 65279)), (.int (own_lo c0)), (.int (own_hi c0))] 0 rfl (by decide) Ab (by simp +decide) (65279 : Int32) (by decide) (by decide) rfl rfl) (g := j_293) rfl rfl (lenOf pd_7 rfl) rfl (D 5 rfl) (W := 0) rfl rfl (by decide)
  have N_3' := Fr.app N_2' N_3
  rw [hh_3] at e_3
  refine Go.s T_3 (mkF m 10 #[vR a1, vI 0] [(.int 65279)]) st_3 ?_
  refine Go.retN X_3 hx hlk (t := .char) hret (by simp) (D 6 rfl) (by decide) (by decide) ?_
  try rw [e_3]
  exact ⟨congrArg (fun z => some (Value.int z)) (by decide), N_3', rfl⟩
theorem rmCAU2 (hw : own_W a0 Z) (a1 : Nat) (h0 : Heap) (n0 : Nat) (Z0 : n0 ≤ h0.size) (vcs : Int32) (hcs : ¬ vcs = 0) (O0 : Old Z n0 h0) (SCS : sCS Z vcs) (SAD : sAD Z) (SHI : sHI Z) (SLO : sLO Z) (vfm : Value) (rfm : vfm.isRef = true) (SFM : sFM Z vfm) (vb : Nat) (E1 : Exa Z h0 a1 "java/lang/String") (Fv : fV Z h0 a1 (.ref vb)) (Fc : fC Z h0 a1 (.int 1)) (c0 : Int32) (Ab : Ary Z h0 vb .byte [(.int (own_lo 65279)), (.int (own_hi 65279)), (.int (own_lo c0)), (.int (own_hi c0))]) (q0 : own_rg c0) :
    Con l Z ⟨"java/lang/String", "charAt", "(I)C"⟩ jdk_42_method_56_code 2 (some .char) ⟨4, 0, 0, 53⟩ #[(.ref a1), (.int 0)] h0 (fun v h L => v = some (.int 65279) ∧ Fr n0 L ∧ h = h0) := by
  refine Con.o (L := #[vR a1, vI 0]) n0 d41 pf_24 (by simp [argsToLocals, Value.category]) ?_
  intro p e s m _ _ c T0 X0 hx hby hml hZ hown hnm hret hlk e0 N0 D
  have lt_1 := own_ltE E1
  have lt_2 := own_ltA Ab
  let j_294 := (mkF m 1 #[vR a1, vI 0] [(.ref a1)])
  refine Go.s T0 j_294 (fun _ hr => yb X0 hx (D 0 rfl) rfl rfl hr) ?_
  obtain ⟨v_3, T_3, h_3, L_3, X_3, e_3, ⟨rfl, N_3, hh_3⟩, st_3⟩ := cV X0 hx hZ hown (hq hw 60 rfl) (hq hw 61 rfl) (hq hw 63 rfl) (hq hw 63 rfl) (hq hw 62 rfl) (hq hw 9 rfl) (hq hw 64 rfl) e0 E1 hml (rmIL1 l Z a0 hw a1 h0 n0 (by omega) vcs hcs O0 SCS vb E1 Fv Fc [(.int (own_lo 65279)), (.int (own_hi 65279)), (.int (own_lo c0)), (.int (own_hi c0))] Ab) (g := j_294) rfl rfl (lenOf pd_12 rfl) rfl (D 1 rfl) (W := 0) rfl rfl (by decide)
  have N_3' := Fr.app N0 N_3
  rw [hh_3] at e_3
  let j_295 := (mkF m 17 #[vR a1, vI 0] [(.ref a1)])
  refine Go.s T_3 j_295 (fun _ hr => st_3 _ (yX X_3 hx (D 2 rfl) (pc' := 16) (XT.i0_eq_t (by decide)) rfl (yb X_3 hx (D 8 rfl) rfl rfl hr))) ?_
  obtain ⟨T_4, X_4, e_4, st_4⟩ := getF X_3 hx hZ hown (host := "") (Or.inl (hq hw 43 rfl)) Via.refl e_3 Fv (g := j_295) rfl rfl (D 9 rfl)
  let j_296 := (mkF m 21 #[vR a1, vI 0] [(.int 0), (.ref vb)])
  refine Go.s T_4 j_296 (fun _ hr => st_4 _ (yj X_4 hx (D 10 rfl) rfl hr)) ?_
  obtain ⟨v_5, T_5, h_5, L_5, X_5, e_5, ⟨rfl, N_5, hh_5⟩, st_5⟩ := cS X_4 hx hZ hown (hq hw 240 rfl) (hq hw 241 rfl) (hq hw 34 rfl) (hq hw 242 rfl) e_4 hml (rmUCA2 l Z a0 hw vb h0 n0 (by omega) O0 SAD SHI SLO vfm rfm SFM c0 Ab q0) (g := j_296) rfl rfl (lenOf pd_7 rfl) rfl (D 11 rfl) (W := 0) rfl rfl (by decide)
  have N_5' := Fr.app N_3' N_5
  rw [hh_5] at e_5
  refine Go.s T_5 (mkF m 24 #[vR a1, vI 0] [(.int 65279)]) st_5 ?_
  refine Go.retN X_5 hx hlk (t := .char) hret (by simp) (D 12 rfl) (by decide) (by decide) ?_
  try rw [e_5]
  exact ⟨congrArg (fun z => some (Value.int z)) (by decide), N_5', rfl⟩
theorem rmLnU2 (hw : own_W a0 Z) (a1 : Nat) (h0 : Heap) (n0 : Nat) (Z0 : n0 ≤ h0.size) (vcs : Int32) (hcs : ¬ vcs = 0) (O0 : Old Z n0 h0) (SCS : sCS Z vcs) (SAD : sAD Z) (SHI : sHI Z) (SLO : sLO Z) (vfm : Value) (rfm : vfm.isRef = true) (SFM : sFM Z vfm) (vb : Nat) (E1 : Exa Z h0 a1 "java/lang/String") (Fv : fV Z h0 a1 (.ref vb)) (Fc : fC Z h0 a1 (.int 1)) (c0 : Int32) (Ab : Ary Z h0 vb .byte [(.int (own_lo 65279)), (.int (own_hi 65279)), (.int (own_lo c0)), (.int (own_hi c0))]) (q0 : own_rg c0) :
    Con l Z ⟨"java/lang/String", "length", "()I"⟩ jdk_42_method_54_code 1 (some .int) ⟨1, 0, 0, 13⟩ #[(.ref a1)] h0 (fun v h L => v = some (.int 2) ∧ Fr n0 L ∧ h = h0) := by
  refine Con.o (L := #[vR a1]) n0 d39 pf_22 (by simp [argsToLocals, Value.category]) ?_
  intro p e s m _ _ c T0 X0 hx hby hml hZ hown hnm hret hlk e0 N0 D
  have lt_1 := own_ltE E1
  have lt_2 := own_ltA Ab
  let j_297 := (mkF m 1 #[vR a1] [(.ref a1)])
  refine Go.s T0 j_297 (fun _ hr => yb X0 hx (D 0 rfl) rfl rfl hr) ?_
  obtain ⟨T_3, X_3, e_3, st_3⟩ := getF X0 hx hZ hown (host := "") (Or.inl (hq hw 43 rfl)) Via.refl e0 Fv (g := j_297) rfl rfl (D 1 rfl)
  let j_298 := (mkF m 4 #[vR a1] [(.ref vb)])
  refine Go.s T_3 j_298 st_3 ?_
  let j_299 := (mkF m 6 #[vR a1] [(.ref a1), (.int 4)])
  refine Go.s T_3 j_299 (fun _ hr => (own_len X_3 hx hZ e_3 Ab (g := j_298) rfl rfl (D 2 rfl)) _ (yb X_3 hx (D 3 rfl) rfl rfl hr)) ?_
  obtain ⟨v_4, T_4, h_4, L_4, X_4, e_4, ⟨rfl, N_4, hh_4⟩, st_4⟩ := cV X_3 hx hZ hown (hq hw 154 rfl) (hq hw 155 rfl) (hq hw 157 rfl) (hq hw 157 rfl) (hq hw 156 rfl) (hq hw 9 rfl) (hq hw 158 rfl) e_3 E1 hml (rmCd1 l Z a0 hw a1 h0 n0 (by omega) vcs hcs O0 SCS vb E1 Fv Fc [(.int (own_lo 65279)), (.int (own_hi 65279)), (.int (own_lo c0)), (.int (own_hi c0))] Ab) (g := j_299) rfl rfl (lenOf pd_10 rfl) rfl (D 4 rfl) (W := 1) rfl rfl (by decide)
  have N_4' := Fr.app N0 N_4
  rw [hh_4] at e_4
  refine Go.s T_4 (mkF m 10 #[vR a1] [(.int ((4 : Int32) >>> ((1 : Int32) &&& 31)))]) (fun _ hr => st_4 _ (y6 X_4 hx (D 5 rfl) hr)) ?_
  refine Go.retI X_4 hx hlk hret (D 6 rfl) (by decide) (by decide) ?_
  try rw [e_4]
  exact ⟨congrArg (fun z => some (Value.int z)) own_uh2, N_4', rfl⟩
theorem rmUL3 (hw : own_W a0 Z) (a1 : Nat) (h0 : Heap) (n0 : Nat) (Z0 : n0 ≤ h0.size) (c0 c1 : Int32) (Ab : Ary Z h0 a1 .byte [(.int (own_lo 65279)), (.int (own_hi 65279)), (.int (own_lo c0)), (.int (own_hi c0)), (.int (own_lo c1)), (.int (own_hi c1))]) (q0 : own_rg c0) (q1 : own_rg c1) :
    Con l Z ⟨"java/lang/StringUTF16", "length", "([B)I"⟩ jdk_52_method_6_code 1 (some .int) ⟨0, 0, 0, 0⟩ #[(.ref a1)] h0 (fun v h L => v = some (.int 3) ∧ Fr n0 L ∧ h = h0) := by
  refine Con.o (L := #[vR a1]) n0 d43 pf_26 (by simp [argsToLocals, Value.category]) ?_
  intro p e s m _ _ c T0 X0 hx hby hml hZ hown hnm hret hlk e0 N0 D
  have lt_1 := own_ltA Ab
  let j_300 := (mkF m 1 #[vR a1] [(.ref a1)])
  refine Go.s T0 j_300 (fun _ hr => yb X0 hx (D 0 rfl) rfl rfl hr) ?_
  refine Go.s T0 (mkF m 4 #[vR a1] [(.int ((6 : Int32) >>> ((1 : Int32) &&& 31)))]) (fun _ hr => (own_len X0 hx hZ e0 Ab (g := j_300) rfl rfl (D 1 rfl)) _ (yc X0 hx (D 2 rfl) (y6 X0 hx (D 3 rfl) hr))) ?_
  refine Go.retI X0 hx hlk hret (D 4 rfl) (by decide) (by decide) ?_
  try rw [e0]
  exact ⟨congrArg (fun z => some (Value.int z)) own_uh3, N0, rfl⟩
theorem rmUCI3 (hw : own_W a0 Z) (a1 : Nat) (h0 : Heap) (n0 : Nat) (Z0 : n0 ≤ h0.size) (O0 : Old Z n0 h0) (vfm : Value) (rfm : vfm.isRef = true) (SFM : sFM Z vfm) (c0 c1 : Int32) (Ab : Ary Z h0 a1 .byte [(.int (own_lo 65279)), (.int (own_hi 65279)), (.int (own_lo c0)), (.int (own_hi c0)), (.int (own_lo c1)), (.int (own_hi c1))]) (q0 : own_rg c0) (q1 : own_rg c1) :
    Con l Z ⟨"java/lang/StringUTF16", "checkIndex", "(I[B)V"⟩ jdk_52_method_91_code 2 none ⟨2, 0, 0, 27⟩ #[(.int 0), (.ref a1)] h0 (fun v h L => v = none ∧ Fr n0 L ∧ h = h0) := by
  refine Con.o (L := #[vI 0, vR a1]) n0 d44 pf_27 (by simp [argsToLocals, Value.category]) ?_
  intro p e s m _ _ c T0 X0 hx hby hml hZ hown hnm hret hlk e0 N0 D
  have lt_1 := own_ltA Ab
  let j_301 := (mkF m 2 #[vI 0, vR a1] [(.ref a1), (.int 0)])
  refine Go.s T0 j_301 (fun _ hr => yj X0 hx (D 0 rfl) rfl (yb X0 hx (D 1 rfl) rfl rfl hr)) ?_
  obtain ⟨v_2, T_2, h_2, L_2, X_2, e_2, ⟨rfl, N_2, hh_2⟩, st_2⟩ := cS X0 hx hZ hown (hq hw 246 rfl) (hq hw 247 rfl) (hq hw 34 rfl) (hq hw 248 rfl) e0 hml (rmUL3 l Z a0 hw a1 h0 n0 (by omega) c0 c1 Ab q0 q1) (g := j_301) rfl rfl (lenOf pd_13 rfl) rfl (D 2 rfl) (W := 1) rfl rfl (by decide)
  have N_2' := Fr.app N0 N_2
  rw [hh_2] at e_2
  let j_302 := (mkF m 5 #[vI 0, vR a1] [(.int 3), (.int 0)])
  refine Go.s T_2 j_302 st_2 ?_
  obtain ⟨v_3, T_3, h_3, L_3, X_3, e_3, ⟨rfl, N_3, hh_3⟩, st_3⟩ := cS X_2 hx hZ hown (hq hw 249 rfl) (hq hw 70 rfl) (hq hw 9 rfl) (hq hw 71 rfl) e_2 hml (rmSCI l Z a0 hw 0 3 h0 n0 (by omega) O0 vfm rfm SFM (by decide) (by decide)) (g := j_302) rfl rfl (lenOf pd_11 rfl) rfl (D 3 rfl) (W := 0) rfl rfl (by decide)
  have N_3' := Fr.app N_2' N_3
  rw [hh_3] at e_3
  refine Go.s T_3 (mkF m 8 #[vI 0, vR a1] []) st_3 ?_
  refine Go.retV X_3 hx hlk hret (D 4 rfl) (by decide) (by decide) ?_
  try rw [e_3]
  exact ⟨rfl, N_3', rfl⟩
theorem rmUCA3 (hw : own_W a0 Z) (a1 : Nat) (h0 : Heap) (n0 : Nat) (Z0 : n0 ≤ h0.size) (O0 : Old Z n0 h0) (SAD : sAD Z) (SHI : sHI Z) (SLO : sLO Z) (vfm : Value) (rfm : vfm.isRef = true) (SFM : sFM Z vfm) (c0 c1 : Int32) (Ab : Ary Z h0 a1 .byte [(.int (own_lo 65279)), (.int (own_hi 65279)), (.int (own_lo c0)), (.int (own_hi c0)), (.int (own_lo c1)), (.int (own_hi c1))]) (q0 : own_rg c0) (q1 : own_rg c1) :
    Con l Z ⟨"java/lang/StringUTF16", "charAt", "([BI)C"⟩ jdk_52_method_83_code 2 (some .char) ⟨3, 0, 0, 40⟩ #[(.ref a1), (.int 0)] h0 (fun v h L => v = some (.int 65279) ∧ Fr n0 L ∧ h = h0) := by
  refine Con.o (L := #[vR a1, vI 0]) n0 d45 pf_28 (by simp [argsToLocals, Value.category]) ?_
  intro p e s m _ _ c T0 X0 hx hby hml hZ hown hnm hret hlk e0 N0 D
  have lt_1 := own_ltA Ab
  let j_303 := (mkF m 2 #[vR a1, vI 0] [(.ref a1), (.int 0)])
  refine Go.s T0 j_303 (fun _ hr => yj X0 hx (D 0 rfl) rfl (yb X0 hx (D 1 rfl) rfl rfl hr)) ?_
  obtain ⟨v_2, T_2, h_2, L_2, X_2, e_2, ⟨rfl, N_2, hh_2⟩, st_2⟩ := cS X0 hx hZ hown (hq hw 243 rfl) (hq hw 244 rfl) (hq hw 34 rfl) (hq hw 245 rfl) e0 hml (rmUCI3 l Z a0 hw a1 h0 n0 (by omega) O0 vfm rfm SFM c0 c1 Ab q0 q1) (g := j_303) rfl rfl (lenOf pd_14 rfl) rfl (D 2 rfl) (W := 0) rfl rfl (by decide)
  have N_2' := Fr.app N0 N_2
  rw [hh_2] at e_2
  let j_304 := (mkF m 7 #[vR a1, vI 0] [(.int 0), (.ref a1)])
  refine Go.s T_2 j_304 (fun _ hr => st_2 _ (yb X_2 hx (D 3 rfl) rfl rfl (yj X_2 hx (D 4 rfl) rfl hr))) ?_
  obtain ⟨v_3, T_3, h_3, L_3, X_3, e_3, ⟨rfl, N_3, hh_3⟩, st_3⟩ := cS X_2 hx hZ hown (hq hw 237 rfl) (hq hw 238 rfl) (hq hw 34 rfl) (hq hw 239 rfl) e_2 hml (rmGet l Z a0 hw a1 (0 : Int32) h0 n0 (by omega) O0 SAD SHI SLO [(.int (own_lo 65279)), (.int (own_hi 65279)), (.int (own_lo c0)), (.int (own_hi c0)), (.int (own_lo c1)), (.int (own_hi c1))] 0 rfl (by decide) Ab (by simp +decide) (65279 : Int32) (by decide) (by decide) rfl rfl) (g := j_304) rfl rfl (lenOf pd_7 rfl) rfl (D 5 rfl) (W := 0) rfl rfl (by decide)
  have N_3' := Fr.app N_2' N_3
  rw [hh_3] at e_3
  refine Go.s T_3 (mkF m 10 #[vR a1, vI 0] [(.int 65279)]) st_3 ?_
  refine Go.retN X_3 hx hlk (t := .char) hret (by simp) (D 6 rfl) (by decide) (by decide) ?_
  try rw [e_3]
  exact ⟨congrArg (fun z => some (Value.int z)) (by decide), N_3', rfl⟩
theorem rmCAU3 (hw : own_W a0 Z) (a1 : Nat) (h0 : Heap) (n0 : Nat) (Z0 : n0 ≤ h0.size) (vcs : Int32) (hcs : ¬ vcs = 0) (O0 : Old Z n0 h0) (SCS : sCS Z vcs) (SAD : sAD Z) (SHI : sHI Z) (SLO : sLO Z) (vfm : Value) (rfm : vfm.isRef = true) (SFM : sFM Z vfm) (vb : Nat) (E1 : Exa Z h0 a1 "java/lang/String") (Fv : fV Z h0 a1 (.ref vb)) (Fc : fC Z h0 a1 (.int 1)) (c0 c1 : Int32) (Ab : Ary Z h0 vb .byte [(.int (own_lo 65279)), (.int (own_hi 65279)), (.int (own_lo c0)), (.int (own_hi c0)), (.int (own_lo c1)), (.int (own_hi c1))]) (q0 : own_rg c0) (q1 : own_rg c1) :
    Con l Z ⟨"java/lang/String", "charAt", "(I)C"⟩ jdk_42_method_56_code 2 (some .char) ⟨4, 0, 0, 53⟩ #[(.ref a1), (.int 0)] h0 (fun v h L => v = some (.int 65279) ∧ Fr n0 L ∧ h = h0) := by
  refine Con.o (L := #[vR a1, vI 0]) n0 d41 pf_24 (by simp [argsToLocals, Value.category]) ?_
  intro p e s m _ _ c T0 X0 hx hby hml hZ hown hnm hret hlk e0 N0 D
  have lt_1 := own_ltE E1
  have lt_2 := own_ltA Ab
  let j_305 := (mkF m 1 #[vR a1, vI 0] [(.ref a1)])
  refine Go.s T0 j_305 (fun _ hr => yb X0 hx (D 0 rfl) rfl rfl hr) ?_
  obtain ⟨v_3, T_3, h_3, L_3, X_3, e_3, ⟨rfl, N_3, hh_3⟩, st_3⟩ := cV X0 hx hZ hown (hq hw 60 rfl) (hq hw 61 rfl) (hq hw 63 rfl) (hq hw 63 rfl) (hq hw 62 rfl) (hq hw 9 rfl) (hq hw 64 rfl) e0 E1 hml (rmIL1 l Z a0 hw a1 h0 n0 (by omega) vcs hcs O0 SCS vb E1 Fv Fc [(.int (own_lo 65279)), (.int (own_hi 65279)), (.int (own_lo c0)), (.int (own_hi c0)), (.int (own_lo c1)), (.int (own_hi c1))] Ab) (g := j_305) rfl rfl (lenOf pd_12 rfl) rfl (D 1 rfl) (W := 0) rfl rfl (by decide)
  have N_3' := Fr.app N0 N_3
  rw [hh_3] at e_3
  let j_306 := (mkF m 17 #[vR a1, vI 0] [(.ref a1)])
  refine Go.s T_3 j_306 (fun _ hr => st_3 _ (yX X_3 hx (D 2 rfl) (pc' := 16) (XT.i0_eq_t (by decide)) rfl (yb X_3 hx (D 8 rfl) rfl rfl hr))) ?_
  obtain ⟨T_4, X_4, e_4, st_4⟩ := getF X_3 hx hZ hown (host := "") (Or.inl (hq hw 43 rfl)) Via.refl e_3 Fv (g := j_306) rfl rfl (D 9 rfl)
  let j_307 := (mkF m 21 #[vR a1, vI 0] [(.int 0), (.ref vb)])
  refine Go.s T_4 j_307 (fun _ hr => st_4 _ (yj X_4 hx (D 10 rfl) rfl hr)) ?_
  obtain ⟨v_5, T_5, h_5, L_5, X_5, e_5, ⟨rfl, N_5, hh_5⟩, st_5⟩ := cS X_4 hx hZ hown (hq hw 240 rfl) (hq hw 241 rfl) (hq hw 34 rfl) (hq hw 242 rfl) e_4 hml (rmUCA3 l Z a0 hw vb h0 n0 (by omega) O0 SAD SHI SLO vfm rfm SFM c0 c1 Ab q0 q1) (g := j_307) rfl rfl (lenOf pd_7 rfl) rfl (D 11 rfl) (W := 0) rfl rfl (by decide)
  have N_5' := Fr.app N_3' N_5
  rw [hh_5] at e_5
  refine Go.s T_5 (mkF m 24 #[vR a1, vI 0] [(.int 65279)]) st_5 ?_
  refine Go.retN X_5 hx hlk (t := .char) hret (by simp) (D 12 rfl) (by decide) (by decide) ?_
  try rw [e_5]
  exact ⟨congrArg (fun z => some (Value.int z)) (by decide), N_5', rfl⟩
theorem rmLnU3 (hw : own_W a0 Z) (a1 : Nat) (h0 : Heap) (n0 : Nat) (Z0 : n0 ≤ h0.size) (vcs : Int32) (hcs : ¬ vcs = 0) (O0 : Old Z n0 h0) (SCS : sCS Z vcs) (SAD : sAD Z) (SHI : sHI Z) (SLO : sLO Z) (vfm : Value) (rfm : vfm.isRef = true) (SFM : sFM Z vfm) (vb : Nat) (E1 : Exa Z h0 a1 "java/lang/String") (Fv : fV Z h0 a1 (.ref vb)) (Fc : fC Z h0 a1 (.int 1)) (c0 c1 : Int32) (Ab : Ary Z h0 vb .byte [(.int (own_lo 65279)), (.int (own_hi 65279)), (.int (own_lo c0)), (.int (own_hi c0)), (.int (own_lo c1)), (.int (own_hi c1))]) (q0 : own_rg c0) (q1 : own_rg c1) :
    Con l Z ⟨"java/lang/String", "length", "()I"⟩ jdk_42_method_54_code 1 (some .int) ⟨1, 0, 0, 13⟩ #[(.ref a1)] h0 (fun v h L => v = some (.int 3) ∧ Fr n0 L ∧ h = h0) := by
  refine Con.o (L := #[vR a1]) n0 d39 pf_22 (by simp [argsToLocals, Value.category]) ?_
  intro p e s m _ _ c T0 X0 hx hby hml hZ hown hnm hret hlk e0 N0 D
  have lt_1 := own_ltE E1
  have lt_2 := own_ltA Ab
  let j_308 := (mkF m 1 #[vR a1] [(.ref a1)])
  refine Go.s T0 j_308 (fun _ hr => yb X0 hx (D 0 rfl) rfl rfl hr) ?_
  obtain ⟨T_3, X_3, e_3, st_3⟩ := getF X0 hx hZ hown (host := "") (Or.inl (hq hw 43 rfl)) Via.refl e0 Fv (g := j_308) rfl rfl (D 1 rfl)
  let j_309 := (mkF m 4 #[vR a1] [(.ref vb)])
  refine Go.s T_3 j_309 st_3 ?_
  let j_310 := (mkF m 6 #[vR a1] [(.ref a1), (.int 6)])
  refine Go.s T_3 j_310 (fun _ hr => (own_len X_3 hx hZ e_3 Ab (g := j_309) rfl rfl (D 2 rfl)) _ (yb X_3 hx (D 3 rfl) rfl rfl hr)) ?_
  obtain ⟨v_4, T_4, h_4, L_4, X_4, e_4, ⟨rfl, N_4, hh_4⟩, st_4⟩ := cV X_3 hx hZ hown (hq hw 154 rfl) (hq hw 155 rfl) (hq hw 157 rfl) (hq hw 157 rfl) (hq hw 156 rfl) (hq hw 9 rfl) (hq hw 158 rfl) e_3 E1 hml (rmCd1 l Z a0 hw a1 h0 n0 (by omega) vcs hcs O0 SCS vb E1 Fv Fc [(.int (own_lo 65279)), (.int (own_hi 65279)), (.int (own_lo c0)), (.int (own_hi c0)), (.int (own_lo c1)), (.int (own_hi c1))] Ab) (g := j_310) rfl rfl (lenOf pd_10 rfl) rfl (D 4 rfl) (W := 1) rfl rfl (by decide)
  have N_4' := Fr.app N0 N_4
  rw [hh_4] at e_4
  refine Go.s T_4 (mkF m 10 #[vR a1] [(.int ((6 : Int32) >>> ((1 : Int32) &&& 31)))]) (fun _ hr => st_4 _ (y6 X_4 hx (D 5 rfl) hr)) ?_
  refine Go.retI X_4 hx hlk hret (D 6 rfl) (by decide) (by decide) ?_
  try rw [e_4]
  exact ⟨congrArg (fun z => some (Value.int z)) own_uh3, N_4', rfl⟩
theorem rmUL4 (hw : own_W a0 Z) (a1 : Nat) (h0 : Heap) (n0 : Nat) (Z0 : n0 ≤ h0.size) (c0 c1 c2 : Int32) (Ab : Ary Z h0 a1 .byte [(.int (own_lo 65279)), (.int (own_hi 65279)), (.int (own_lo c0)), (.int (own_hi c0)), (.int (own_lo c1)), (.int (own_hi c1)), (.int (own_lo c2)), (.int (own_hi c2))]) (q0 : own_rg c0) (q1 : own_rg c1) (q2 : own_rg c2) :
    Con l Z ⟨"java/lang/StringUTF16", "length", "([B)I"⟩ jdk_52_method_6_code 1 (some .int) ⟨0, 0, 0, 0⟩ #[(.ref a1)] h0 (fun v h L => v = some (.int 4) ∧ Fr n0 L ∧ h = h0) := by
  refine Con.o (L := #[vR a1]) n0 d43 pf_26 (by simp [argsToLocals, Value.category]) ?_
  intro p e s m _ _ c T0 X0 hx hby hml hZ hown hnm hret hlk e0 N0 D
  have lt_1 := own_ltA Ab
  let j_311 := (mkF m 1 #[vR a1] [(.ref a1)])
  refine Go.s T0 j_311 (fun _ hr => yb X0 hx (D 0 rfl) rfl rfl hr) ?_
  refine Go.s T0 (mkF m 4 #[vR a1] [(.int ((8 : Int32) >>> ((1 : Int32) &&& 31)))]) (fun _ hr => (own_len X0 hx hZ e0 Ab (g := j_311) rfl rfl (D 1 rfl)) _ (yc X0 hx (D 2 rfl) (y6 X0 hx (D 3 rfl) hr))) ?_
  refine Go.retI X0 hx hlk hret (D 4 rfl) (by decide) (by decide) ?_
  try rw [e0]
  exact ⟨congrArg (fun z => some (Value.int z)) own_uh4, N0, rfl⟩
theorem rmUCI4 (hw : own_W a0 Z) (a1 : Nat) (h0 : Heap) (n0 : Nat) (Z0 : n0 ≤ h0.size) (O0 : Old Z n0 h0) (vfm : Value) (rfm : vfm.isRef = true) (SFM : sFM Z vfm) (c0 c1 c2 : Int32) (Ab : Ary Z h0 a1 .byte [(.int (own_lo 65279)), (.int (own_hi 65279)), (.int (own_lo c0)), (.int (own_hi c0)), (.int (own_lo c1)), (.int (own_hi c1)), (.int (own_lo c2)), (.int (own_hi c2))]) (q0 : own_rg c0) (q1 : own_rg c1) (q2 : own_rg c2) :
    Con l Z ⟨"java/lang/StringUTF16", "checkIndex", "(I[B)V"⟩ jdk_52_method_91_code 2 none ⟨2, 0, 0, 27⟩ #[(.int 0), (.ref a1)] h0 (fun v h L => v = none ∧ Fr n0 L ∧ h = h0) := by
  refine Con.o (L := #[vI 0, vR a1]) n0 d44 pf_27 (by simp [argsToLocals, Value.category]) ?_
  intro p e s m _ _ c T0 X0 hx hby hml hZ hown hnm hret hlk e0 N0 D
  have lt_1 := own_ltA Ab
  let j_312 := (mkF m 2 #[vI 0, vR a1] [(.ref a1), (.int 0)])
  refine Go.s T0 j_312 (fun _ hr => yj X0 hx (D 0 rfl) rfl (yb X0 hx (D 1 rfl) rfl rfl hr)) ?_
  obtain ⟨v_2, T_2, h_2, L_2, X_2, e_2, ⟨rfl, N_2, hh_2⟩, st_2⟩ := cS X0 hx hZ hown (hq hw 246 rfl) (hq hw 247 rfl) (hq hw 34 rfl) (hq hw 248 rfl) e0 hml (rmUL4 l Z a0 hw a1 h0 n0 (by omega) c0 c1 c2 Ab q0 q1 q2) (g := j_312) rfl rfl (lenOf pd_13 rfl) rfl (D 2 rfl) (W := 1) rfl rfl (by decide)
  have N_2' := Fr.app N0 N_2
  rw [hh_2] at e_2
  let j_313 := (mkF m 5 #[vI 0, vR a1] [(.int 4), (.int 0)])
  refine Go.s T_2 j_313 st_2 ?_
  obtain ⟨v_3, T_3, h_3, L_3, X_3, e_3, ⟨rfl, N_3, hh_3⟩, st_3⟩ := cS X_2 hx hZ hown (hq hw 249 rfl) (hq hw 70 rfl) (hq hw 9 rfl) (hq hw 71 rfl) e_2 hml (rmSCI l Z a0 hw 0 4 h0 n0 (by omega) O0 vfm rfm SFM (by decide) (by decide)) (g := j_313) rfl rfl (lenOf pd_11 rfl) rfl (D 3 rfl) (W := 0) rfl rfl (by decide)
  have N_3' := Fr.app N_2' N_3
  rw [hh_3] at e_3
  refine Go.s T_3 (mkF m 8 #[vI 0, vR a1] []) st_3 ?_
  refine Go.retV X_3 hx hlk hret (D 4 rfl) (by decide) (by decide) ?_
  try rw [e_3]
  exact ⟨rfl, N_3', rfl⟩
theorem rmUCA4 (hw : own_W a0 Z) (a1 : Nat) (h0 : Heap) (n0 : Nat) (Z0 : n0 ≤ h0.size) (O0 : Old Z n0 h0) (SAD : sAD Z) (SHI : sHI Z) (SLO : sLO Z) (vfm : Value) (rfm : vfm.isRef = true) (SFM : sFM Z vfm) (c0 c1 c2 : Int32) (Ab : Ary Z h0 a1 .byte [(.int (own_lo 65279)), (.int (own_hi 65279)), (.int (own_lo c0)), (.int (own_hi c0)), (.int (own_lo c1)), (.int (own_hi c1)), (.int (own_lo c2)), (.int (own_hi c2))]) (q0 : own_rg c0) (q1 : own_rg c1) (q2 : own_rg c2) :
    Con l Z ⟨"java/lang/StringUTF16", "charAt", "([BI)C"⟩ jdk_52_method_83_code 2 (some .char) ⟨3, 0, 0, 40⟩ #[(.ref a1), (.int 0)] h0 (fun v h L => v = some (.int 65279) ∧ Fr n0 L ∧ h = h0) := by
  refine Con.o (L := #[vR a1, vI 0]) n0 d45 pf_28 (by simp [argsToLocals, Value.category]) ?_
  intro p e s m _ _ c T0 X0 hx hby hml hZ hown hnm hret hlk e0 N0 D
  have lt_1 := own_ltA Ab
  let j_314 := (mkF m 2 #[vR a1, vI 0] [(.ref a1), (.int 0)])
  refine Go.s T0 j_314 (fun _ hr => yj X0 hx (D 0 rfl) rfl (yb X0 hx (D 1 rfl) rfl rfl hr)) ?_
  obtain ⟨v_2, T_2, h_2, L_2, X_2, e_2, ⟨rfl, N_2, hh_2⟩, st_2⟩ := cS X0 hx hZ hown (hq hw 243 rfl) (hq hw 244 rfl) (hq hw 34 rfl) (hq hw 245 rfl) e0 hml (rmUCI4 l Z a0 hw a1 h0 n0 (by omega) O0 vfm rfm SFM c0 c1 c2 Ab q0 q1 q2) (g := j_314) rfl rfl (lenOf pd_14 rfl) rfl (D 2 rfl) (W := 0) rfl rfl (by decide)
  have N_2' := Fr.app N0 N_2
  rw [hh_2] at e_2
  let j_315 := (mkF m 7 #[vR a1, vI 0] [(.int 0), (.ref a1)])
  refine Go.s T_2 j_315 (fun _ hr => st_2 _ (yb X_2 hx (D 3 rfl) rfl rfl (yj X_2 hx (D 4 rfl) rfl hr))) ?_
  obtain ⟨v_3, T_3, h_3, L_3, X_3, e_3, ⟨rfl, N_3, hh_3⟩, st_3⟩ := cS X_2 hx hZ hown (hq hw 237 rfl) (hq hw 238 rfl) (hq hw 34 rfl) (hq hw 239 rfl) e_2 hml (rmGet l Z a0 hw a1 (0 : Int32) h0 n0 (by omega) O0 SAD SHI SLO [(.int (own_lo 65279)), (.int (own_hi 65279)), (.int (own_lo c0)), (.int (own_hi c0)), (.int (own_lo c1)), (.int (own_hi c1)), (.int (own_lo c2)), (.int (own_hi c2))] 0 rfl (by decide) Ab (by simp +decide) (65279 : Int32) (by decide) (by decide) rfl rfl) (g := j_315) rfl rfl (lenOf pd_7 rfl) rfl (D 5 rfl) (W := 0) rfl rfl (by decide)
  have N_3' := Fr.app N_2' N_3
  rw [hh_3] at e_3
  refine Go.s T_3 (mkF m 10 #[vR a1, vI 0] [(.int 65279)]) st_3 ?_
  refine Go.retN X_3 hx hlk (t := .char) hret (by simp) (D 6 rfl) (by decide) (by decide) ?_
  try rw [e_3]
  exact ⟨congrArg (fun z => some (Value.int z)) (by decide), N_3', rfl⟩
theorem rmCAU4 (hw : own_W a0 Z) (a1 : Nat) (h0 : Heap) (n0 : Nat) (Z0 : n0 ≤ h0.size) (vcs : Int32) (hcs : ¬ vcs = 0) (O0 : Old Z n0 h0) (SCS : sCS Z vcs) (SAD : sAD Z) (SHI : sHI Z) (SLO : sLO Z) (vfm : Value) (rfm : vfm.isRef = true) (SFM : sFM Z vfm) (vb : Nat) (E1 : Exa Z h0 a1 "java/lang/String") (Fv : fV Z h0 a1 (.ref vb)) (Fc : fC Z h0 a1 (.int 1)) (c0 c1 c2 : Int32) (Ab : Ary Z h0 vb .byte [(.int (own_lo 65279)), (.int (own_hi 65279)), (.int (own_lo c0)), (.int (own_hi c0)), (.int (own_lo c1)), (.int (own_hi c1)), (.int (own_lo c2)), (.int (own_hi c2))]) (q0 : own_rg c0) (q1 : own_rg c1) (q2 : own_rg c2) :
    Con l Z ⟨"java/lang/String", "charAt", "(I)C"⟩ jdk_42_method_56_code 2 (some .char) ⟨4, 0, 0, 53⟩ #[(.ref a1), (.int 0)] h0 (fun v h L => v = some (.int 65279) ∧ Fr n0 L ∧ h = h0) := by
  refine Con.o (L := #[vR a1, vI 0]) n0 d41 pf_24 (by simp [argsToLocals, Value.category]) ?_
  intro p e s m _ _ c T0 X0 hx hby hml hZ hown hnm hret hlk e0 N0 D
  have lt_1 := own_ltE E1
  have lt_2 := own_ltA Ab
  let j_316 := (mkF m 1 #[vR a1, vI 0] [(.ref a1)])
  refine Go.s T0 j_316 (fun _ hr => yb X0 hx (D 0 rfl) rfl rfl hr) ?_
  obtain ⟨v_3, T_3, h_3, L_3, X_3, e_3, ⟨rfl, N_3, hh_3⟩, st_3⟩ := cV X0 hx hZ hown (hq hw 60 rfl) (hq hw 61 rfl) (hq hw 63 rfl) (hq hw 63 rfl) (hq hw 62 rfl) (hq hw 9 rfl) (hq hw 64 rfl) e0 E1 hml (rmIL1 l Z a0 hw a1 h0 n0 (by omega) vcs hcs O0 SCS vb E1 Fv Fc [(.int (own_lo 65279)), (.int (own_hi 65279)), (.int (own_lo c0)), (.int (own_hi c0)), (.int (own_lo c1)), (.int (own_hi c1)), (.int (own_lo c2)), (.int (own_hi c2))] Ab) (g := j_316) rfl rfl (lenOf pd_12 rfl) rfl (D 1 rfl) (W := 0) rfl rfl (by decide)
  have N_3' := Fr.app N0 N_3
  rw [hh_3] at e_3
  let j_317 := (mkF m 17 #[vR a1, vI 0] [(.ref a1)])
  refine Go.s T_3 j_317 (fun _ hr => st_3 _ (yX X_3 hx (D 2 rfl) (pc' := 16) (XT.i0_eq_t (by decide)) rfl (yb X_3 hx (D 8 rfl) rfl rfl hr))) ?_
  obtain ⟨T_4, X_4, e_4, st_4⟩ := getF X_3 hx hZ hown (host := "") (Or.inl (hq hw 43 rfl)) Via.refl e_3 Fv (g := j_317) rfl rfl (D 9 rfl)
  let j_318 := (mkF m 21 #[vR a1, vI 0] [(.int 0), (.ref vb)])
  refine Go.s T_4 j_318 (fun _ hr => st_4 _ (yj X_4 hx (D 10 rfl) rfl hr)) ?_
  obtain ⟨v_5, T_5, h_5, L_5, X_5, e_5, ⟨rfl, N_5, hh_5⟩, st_5⟩ := cS X_4 hx hZ hown (hq hw 240 rfl) (hq hw 241 rfl) (hq hw 34 rfl) (hq hw 242 rfl) e_4 hml (rmUCA4 l Z a0 hw vb h0 n0 (by omega) O0 SAD SHI SLO vfm rfm SFM c0 c1 c2 Ab q0 q1 q2) (g := j_318) rfl rfl (lenOf pd_7 rfl) rfl (D 11 rfl) (W := 0) rfl rfl (by decide)
  have N_5' := Fr.app N_3' N_5
  rw [hh_5] at e_5
  refine Go.s T_5 (mkF m 24 #[vR a1, vI 0] [(.int 65279)]) st_5 ?_
  refine Go.retN X_5 hx hlk (t := .char) hret (by simp) (D 12 rfl) (by decide) (by decide) ?_
  try rw [e_5]
  exact ⟨congrArg (fun z => some (Value.int z)) (by decide), N_5', rfl⟩
theorem rmLnU4 (hw : own_W a0 Z) (a1 : Nat) (h0 : Heap) (n0 : Nat) (Z0 : n0 ≤ h0.size) (vcs : Int32) (hcs : ¬ vcs = 0) (O0 : Old Z n0 h0) (SCS : sCS Z vcs) (SAD : sAD Z) (SHI : sHI Z) (SLO : sLO Z) (vfm : Value) (rfm : vfm.isRef = true) (SFM : sFM Z vfm) (vb : Nat) (E1 : Exa Z h0 a1 "java/lang/String") (Fv : fV Z h0 a1 (.ref vb)) (Fc : fC Z h0 a1 (.int 1)) (c0 c1 c2 : Int32) (Ab : Ary Z h0 vb .byte [(.int (own_lo 65279)), (.int (own_hi 65279)), (.int (own_lo c0)), (.int (own_hi c0)), (.int (own_lo c1)), (.int (own_hi c1)), (.int (own_lo c2)), (.int (own_hi c2))]) (q0 : own_rg c0) (q1 : own_rg c1) (q2 : own_rg c2) :
    Con l Z ⟨"java/lang/String", "length", "()I"⟩ jdk_42_method_54_code 1 (some .int) ⟨1, 0, 0, 13⟩ #[(.ref a1)] h0 (fun v h L => v = some (.int 4) ∧ Fr n0 L ∧ h = h0) := by
  refine Con.o (L := #[vR a1]) n0 d39 pf_22 (by simp [argsToLocals, Value.category]) ?_
  intro p e s m _ _ c T0 X0 hx hby hml hZ hown hnm hret hlk e0 N0 D
  have lt_1 := own_ltE E1
  have lt_2 := own_ltA Ab
  let j_319 := (mkF m 1 #[vR a1] [(.ref a1)])
  refine Go.s T0 j_319 (fun _ hr => yb X0 hx (D 0 rfl) rfl rfl hr) ?_
  obtain ⟨T_3, X_3, e_3, st_3⟩ := getF X0 hx hZ hown (host := "") (Or.inl (hq hw 43 rfl)) Via.refl e0 Fv (g := j_319) rfl rfl (D 1 rfl)
  let j_320 := (mkF m 4 #[vR a1] [(.ref vb)])
  refine Go.s T_3 j_320 st_3 ?_
  let j_321 := (mkF m 6 #[vR a1] [(.ref a1), (.int 8)])
  refine Go.s T_3 j_321 (fun _ hr => (own_len X_3 hx hZ e_3 Ab (g := j_320) rfl rfl (D 2 rfl)) _ (yb X_3 hx (D 3 rfl) rfl rfl hr)) ?_
  obtain ⟨v_4, T_4, h_4, L_4, X_4, e_4, ⟨rfl, N_4, hh_4⟩, st_4⟩ := cV X_3 hx hZ hown (hq hw 154 rfl) (hq hw 155 rfl) (hq hw 157 rfl) (hq hw 157 rfl) (hq hw 156 rfl) (hq hw 9 rfl) (hq hw 158 rfl) e_3 E1 hml (rmCd1 l Z a0 hw a1 h0 n0 (by omega) vcs hcs O0 SCS vb E1 Fv Fc [(.int (own_lo 65279)), (.int (own_hi 65279)), (.int (own_lo c0)), (.int (own_hi c0)), (.int (own_lo c1)), (.int (own_hi c1)), (.int (own_lo c2)), (.int (own_hi c2))] Ab) (g := j_321) rfl rfl (lenOf pd_10 rfl) rfl (D 4 rfl) (W := 1) rfl rfl (by decide)
  have N_4' := Fr.app N0 N_4
  rw [hh_4] at e_4
  refine Go.s T_4 (mkF m 10 #[vR a1] [(.int ((8 : Int32) >>> ((1 : Int32) &&& 31)))]) (fun _ hr => st_4 _ (y6 X_4 hx (D 5 rfl) hr)) ?_
  refine Go.retI X_4 hx hlk hret (D 6 rfl) (by decide) (by decide) ?_
  try rw [e_4]
  exact ⟨congrArg (fun z => some (Value.int z)) own_uh4, N_4', rfl⟩
theorem rmUL5 (hw : own_W a0 Z) (a1 : Nat) (h0 : Heap) (n0 : Nat) (Z0 : n0 ≤ h0.size) (c0 c1 c2 c3 : Int32) (Ab : Ary Z h0 a1 .byte [(.int (own_lo 65279)), (.int (own_hi 65279)), (.int (own_lo c0)), (.int (own_hi c0)), (.int (own_lo c1)), (.int (own_hi c1)), (.int (own_lo c2)), (.int (own_hi c2)), (.int (own_lo c3)), (.int (own_hi c3))]) (q0 : own_rg c0) (q1 : own_rg c1) (q2 : own_rg c2) (q3 : own_rg c3) :
    Con l Z ⟨"java/lang/StringUTF16", "length", "([B)I"⟩ jdk_52_method_6_code 1 (some .int) ⟨0, 0, 0, 0⟩ #[(.ref a1)] h0 (fun v h L => v = some (.int 5) ∧ Fr n0 L ∧ h = h0) := by
  refine Con.o (L := #[vR a1]) n0 d43 pf_26 (by simp [argsToLocals, Value.category]) ?_
  intro p e s m _ _ c T0 X0 hx hby hml hZ hown hnm hret hlk e0 N0 D
  have lt_1 := own_ltA Ab
  let j_322 := (mkF m 1 #[vR a1] [(.ref a1)])
  refine Go.s T0 j_322 (fun _ hr => yb X0 hx (D 0 rfl) rfl rfl hr) ?_
  refine Go.s T0 (mkF m 4 #[vR a1] [(.int ((10 : Int32) >>> ((1 : Int32) &&& 31)))]) (fun _ hr => (own_len X0 hx hZ e0 Ab (g := j_322) rfl rfl (D 1 rfl)) _ (yc X0 hx (D 2 rfl) (y6 X0 hx (D 3 rfl) hr))) ?_
  refine Go.retI X0 hx hlk hret (D 4 rfl) (by decide) (by decide) ?_
  try rw [e0]
  exact ⟨congrArg (fun z => some (Value.int z)) own_uh5, N0, rfl⟩
theorem rmUCI5 (hw : own_W a0 Z) (a1 : Nat) (h0 : Heap) (n0 : Nat) (Z0 : n0 ≤ h0.size) (O0 : Old Z n0 h0) (vfm : Value) (rfm : vfm.isRef = true) (SFM : sFM Z vfm) (c0 c1 c2 c3 : Int32) (Ab : Ary Z h0 a1 .byte [(.int (own_lo 65279)), (.int (own_hi 65279)), (.int (own_lo c0)), (.int (own_hi c0)), (.int (own_lo c1)), (.int (own_hi c1)), (.int (own_lo c2)), (.int (own_hi c2)), (.int (own_lo c3)), (.int (own_hi c3))]) (q0 : own_rg c0) (q1 : own_rg c1) (q2 : own_rg c2) (q3 : own_rg c3) :
    Con l Z ⟨"java/lang/StringUTF16", "checkIndex", "(I[B)V"⟩ jdk_52_method_91_code 2 none ⟨2, 0, 0, 27⟩ #[(.int 0), (.ref a1)] h0 (fun v h L => v = none ∧ Fr n0 L ∧ h = h0) := by
  refine Con.o (L := #[vI 0, vR a1]) n0 d44 pf_27 (by simp [argsToLocals, Value.category]) ?_
  intro p e s m _ _ c T0 X0 hx hby hml hZ hown hnm hret hlk e0 N0 D
  have lt_1 := own_ltA Ab
  let j_323 := (mkF m 2 #[vI 0, vR a1] [(.ref a1), (.int 0)])
  refine Go.s T0 j_323 (fun _ hr => yj X0 hx (D 0 rfl) rfl (yb X0 hx (D 1 rfl) rfl rfl hr)) ?_
  obtain ⟨v_2, T_2, h_2, L_2, X_2, e_2, ⟨rfl, N_2, hh_2⟩, st_2⟩ := cS X0 hx hZ hown (hq hw 246 rfl) (hq hw 247 rfl) (hq hw 34 rfl) (hq hw 248 rfl) e0 hml (rmUL5 l Z a0 hw a1 h0 n0 (by omega) c0 c1 c2 c3 Ab q0 q1 q2 q3) (g := j_323) rfl rfl (lenOf pd_13 rfl) rfl (D 2 rfl) (W := 1) rfl rfl (by decide)
  have N_2' := Fr.app N0 N_2
  rw [hh_2] at e_2
  let j_324 := (mkF m 5 #[vI 0, vR a1] [(.int 5), (.int 0)])
  refine Go.s T_2 j_324 st_2 ?_
  obtain ⟨v_3, T_3, h_3, L_3, X_3, e_3, ⟨rfl, N_3, hh_3⟩, st_3⟩ := cS X_2 hx hZ hown (hq hw 249 rfl) (hq hw 70 rfl) (hq hw 9 rfl) (hq hw 71 rfl) e_2 hml (rmSCI l Z a0 hw 0 5 h0 n0 (by omega) O0 vfm rfm SFM (by decide) (by decide)) (g := j_324) rfl rfl (lenOf pd_11 rfl) rfl (D 3 rfl) (W := 0) rfl rfl (by decide)
  have N_3' := Fr.app N_2' N_3
  rw [hh_3] at e_3
  refine Go.s T_3 (mkF m 8 #[vI 0, vR a1] []) st_3 ?_
  refine Go.retV X_3 hx hlk hret (D 4 rfl) (by decide) (by decide) ?_
  try rw [e_3]
  exact ⟨rfl, N_3', rfl⟩
theorem rmUCA5 (hw : own_W a0 Z) (a1 : Nat) (h0 : Heap) (n0 : Nat) (Z0 : n0 ≤ h0.size) (O0 : Old Z n0 h0) (SAD : sAD Z) (SHI : sHI Z) (SLO : sLO Z) (vfm : Value) (rfm : vfm.isRef = true) (SFM : sFM Z vfm) (c0 c1 c2 c3 : Int32) (Ab : Ary Z h0 a1 .byte [(.int (own_lo 65279)), (.int (own_hi 65279)), (.int (own_lo c0)), (.int (own_hi c0)), (.int (own_lo c1)), (.int (own_hi c1)), (.int (own_lo c2)), (.int (own_hi c2)), (.int (own_lo c3)), (.int (own_hi c3))]) (q0 : own_rg c0) (q1 : own_rg c1) (q2 : own_rg c2) (q3 : own_rg c3) :
    Con l Z ⟨"java/lang/StringUTF16", "charAt", "([BI)C"⟩ jdk_52_method_83_code 2 (some .char) ⟨3, 0, 0, 40⟩ #[(.ref a1), (.int 0)] h0 (fun v h L => v = some (.int 65279) ∧ Fr n0 L ∧ h = h0) := by
  refine Con.o (L := #[vR a1, vI 0]) n0 d45 pf_28 (by simp [argsToLocals, Value.category]) ?_
  intro p e s m _ _ c T0 X0 hx hby hml hZ hown hnm hret hlk e0 N0 D
  have lt_1 := own_ltA Ab
  let j_325 := (mkF m 2 #[vR a1, vI 0] [(.ref a1), (.int 0)])
  refine Go.s T0 j_325 (fun _ hr => yj X0 hx (D 0 rfl) rfl (yb X0 hx (D 1 rfl) rfl rfl hr)) ?_
  obtain ⟨v_2, T_2, h_2, L_2, X_2, e_2, ⟨rfl, N_2, hh_2⟩, st_2⟩ := cS X0 hx hZ hown (hq hw 243 rfl) (hq hw 244 rfl) (hq hw 34 rfl) (hq hw 245 rfl) e0 hml (rmUCI5 l Z a0 hw a1 h0 n0 (by omega) O0 vfm rfm SFM c0 c1 c2 c3 Ab q0 q1 q2 q3) (g := j_325) rfl rfl (lenOf pd_14 rfl) rfl (D 2 rfl) (W := 0) rfl rfl (by decide)
  have N_2' := Fr.app N0 N_2
  rw [hh_2] at e_2
  let j_326 := (mkF m 7 #[vR a1, vI 0] [(.int 0), (.ref a1)])
  refine Go.s T_2 j_326 (fun _ hr => st_2 _ (yb X_2 hx (D 3 rfl) rfl rfl (yj X_2 hx (D 4 rfl) rfl hr))) ?_
  obtain ⟨v_3, T_3, h_3, L_3, X_3, e_3, ⟨rfl, N_3, hh_3⟩, st_3⟩ := cS X_2 hx hZ hown (hq hw 237 rfl) (hq hw 238 rfl) (hq hw 34 rfl) (hq hw 239 rfl) e_2 hml (rmGet l Z a0 hw a1 (0 : Int32) h0 n0 (by omega) O0 SAD SHI SLO [(.int (own_lo 65279)), (.int (own_hi 65279)), (.int (own_lo c0)), (.int (own_hi c0)), (.int (own_lo c1)), (.int (own_hi c1)), (.int (own_lo c2)), (.int (own_hi c2)), (.int (own_lo c3)), (.int (own_hi c3))] 0 rfl (by decide) Ab (by simp +decide) (65279 : Int32) (by decide) (by decide) rfl rfl) (g := j_326) rfl rfl (lenOf pd_7 rfl) rfl (D 5 rfl) (W := 0) rfl rfl (by decide)
  have N_3' := Fr.app N_2' N_3
  rw [hh_3] at e_3
  refine Go.s T_3 (mkF m 10 #[vR a1, vI 0] [(.int 65279)]) st_3 ?_
  refine Go.retN X_3 hx hlk (t := .char) hret (by simp) (D 6 rfl) (by decide) (by decide) ?_
  try rw [e_3]
  exact ⟨congrArg (fun z => some (Value.int z)) (by decide), N_3', rfl⟩
theorem rmCAU5 (hw : own_W a0 Z) (a1 : Nat) (h0 : Heap) (n0 : Nat) (Z0 : n0 ≤ h0.size) (vcs : Int32) (hcs : ¬ vcs = 0) (O0 : Old Z n0 h0) (SCS : sCS Z vcs) (SAD : sAD Z) (SHI : sHI Z) (SLO : sLO Z) (vfm : Value) (rfm : vfm.isRef = true) (SFM : sFM Z vfm) (vb : Nat) (E1 : Exa Z h0 a1 "java/lang/String") (Fv : fV Z h0 a1 (.ref vb)) (Fc : fC Z h0 a1 (.int 1)) (c0 c1 c2 c3 : Int32) (Ab : Ary Z h0 vb .byte [(.int (own_lo 65279)), (.int (own_hi 65279)), (.int (own_lo c0)), (.int (own_hi c0)), (.int (own_lo c1)), (.int (own_hi c1)), (.int (own_lo c2)), (.int (own_hi c2)), (.int (own_lo c3)), (.int (own_hi c3))]) (q0 : own_rg c0) (q1 : own_rg c1) (q2 : own_rg c2) (q3 : own_rg c3) :
    Con l Z ⟨"java/lang/String", "charAt", "(I)C"⟩ jdk_42_method_56_code 2 (some .char) ⟨4, 0, 0, 53⟩ #[(.ref a1), (.int 0)] h0 (fun v h L => v = some (.int 65279) ∧ Fr n0 L ∧ h = h0) := by
  refine Con.o (L := #[vR a1, vI 0]) n0 d41 pf_24 (by simp [argsToLocals, Value.category]) ?_
  intro p e s m _ _ c T0 X0 hx hby hml hZ hown hnm hret hlk e0 N0 D
  have lt_1 := own_ltE E1
  have lt_2 := own_ltA Ab
  let j_327 := (mkF m 1 #[vR a1, vI 0] [(.ref a1)])
  refine Go.s T0 j_327 (fun _ hr => yb X0 hx (D 0 rfl) rfl rfl hr) ?_
  obtain ⟨v_3, T_3, h_3, L_3, X_3, e_3, ⟨rfl, N_3, hh_3⟩, st_3⟩ := cV X0 hx hZ hown (hq hw 60 rfl) (hq hw 61 rfl) (hq hw 63 rfl) (hq hw 63 rfl) (hq hw 62 rfl) (hq hw 9 rfl) (hq hw 64 rfl) e0 E1 hml (rmIL1 l Z a0 hw a1 h0 n0 (by omega) vcs hcs O0 SCS vb E1 Fv Fc [(.int (own_lo 65279)), (.int (own_hi 65279)), (.int (own_lo c0)), (.int (own_hi c0)), (.int (own_lo c1)), (.int (own_hi c1)), (.int (own_lo c2)), (.int (own_hi c2)), (.int (own_lo c3)), (.int (own_hi c3))] Ab) (g := j_327) rfl rfl (lenOf pd_12 rfl) rfl (D 1 rfl) (W := 0) rfl rfl (by decide)
  have N_3' := Fr.app N0 N_3
  rw [hh_3] at e_3
  let j_328 := (mkF m 17 #[vR a1, vI 0] [(.ref a1)])
  refine Go.s T_3 j_328 (fun _ hr => st_3 _ (yX X_3 hx (D 2 rfl) (pc' := 16) (XT.i0_eq_t (by decide)) rfl (yb X_3 hx (D 8 rfl) rfl rfl hr))) ?_
  obtain ⟨T_4, X_4, e_4, st_4⟩ := getF X_3 hx hZ hown (host := "") (Or.inl (hq hw 43 rfl)) Via.refl e_3 Fv (g := j_328) rfl rfl (D 9 rfl)
  let j_329 := (mkF m 21 #[vR a1, vI 0] [(.int 0), (.ref vb)])
  refine Go.s T_4 j_329 (fun _ hr => st_4 _ (yj X_4 hx (D 10 rfl) rfl hr)) ?_
  obtain ⟨v_5, T_5, h_5, L_5, X_5, e_5, ⟨rfl, N_5, hh_5⟩, st_5⟩ := cS X_4 hx hZ hown (hq hw 240 rfl) (hq hw 241 rfl) (hq hw 34 rfl) (hq hw 242 rfl) e_4 hml (rmUCA5 l Z a0 hw vb h0 n0 (by omega) O0 SAD SHI SLO vfm rfm SFM c0 c1 c2 c3 Ab q0 q1 q2 q3) (g := j_329) rfl rfl (lenOf pd_7 rfl) rfl (D 11 rfl) (W := 0) rfl rfl (by decide)
  have N_5' := Fr.app N_3' N_5
  rw [hh_5] at e_5
  refine Go.s T_5 (mkF m 24 #[vR a1, vI 0] [(.int 65279)]) st_5 ?_
  refine Go.retN X_5 hx hlk (t := .char) hret (by simp) (D 12 rfl) (by decide) (by decide) ?_
  try rw [e_5]
  exact ⟨congrArg (fun z => some (Value.int z)) (by decide), N_5', rfl⟩
theorem rmLnU5 (hw : own_W a0 Z) (a1 : Nat) (h0 : Heap) (n0 : Nat) (Z0 : n0 ≤ h0.size) (vcs : Int32) (hcs : ¬ vcs = 0) (O0 : Old Z n0 h0) (SCS : sCS Z vcs) (SAD : sAD Z) (SHI : sHI Z) (SLO : sLO Z) (vfm : Value) (rfm : vfm.isRef = true) (SFM : sFM Z vfm) (vb : Nat) (E1 : Exa Z h0 a1 "java/lang/String") (Fv : fV Z h0 a1 (.ref vb)) (Fc : fC Z h0 a1 (.int 1)) (c0 c1 c2 c3 : Int32) (Ab : Ary Z h0 vb .byte [(.int (own_lo 65279)), (.int (own_hi 65279)), (.int (own_lo c0)), (.int (own_hi c0)), (.int (own_lo c1)), (.int (own_hi c1)), (.int (own_lo c2)), (.int (own_hi c2)), (.int (own_lo c3)), (.int (own_hi c3))]) (q0 : own_rg c0) (q1 : own_rg c1) (q2 : own_rg c2) (q3 : own_rg c3) :
    Con l Z ⟨"java/lang/String", "length", "()I"⟩ jdk_42_method_54_code 1 (some .int) ⟨1, 0, 0, 13⟩ #[(.ref a1)] h0 (fun v h L => v = some (.int 5) ∧ Fr n0 L ∧ h = h0) := by
  refine Con.o (L := #[vR a1]) n0 d39 pf_22 (by simp [argsToLocals, Value.category]) ?_
  intro p e s m _ _ c T0 X0 hx hby hml hZ hown hnm hret hlk e0 N0 D
  have lt_1 := own_ltE E1
  have lt_2 := own_ltA Ab
  let j_330 := (mkF m 1 #[vR a1] [(.ref a1)])
  refine Go.s T0 j_330 (fun _ hr => yb X0 hx (D 0 rfl) rfl rfl hr) ?_
  obtain ⟨T_3, X_3, e_3, st_3⟩ := getF X0 hx hZ hown (host := "") (Or.inl (hq hw 43 rfl)) Via.refl e0 Fv (g := j_330) rfl rfl (D 1 rfl)
  let j_331 := (mkF m 4 #[vR a1] [(.ref vb)])
  refine Go.s T_3 j_331 st_3 ?_
  let j_332 := (mkF m 6 #[vR a1] [(.ref a1), (.int 10)])
  refine Go.s T_3 j_332 (fun _ hr => (own_len X_3 hx hZ e_3 Ab (g := j_331) rfl rfl (D 2 rfl)) _ (yb X_3 hx (D 3 rfl) rfl rfl hr)) ?_
  obtain ⟨v_4, T_4, h_4, L_4, X_4, e_4, ⟨rfl, N_4, hh_4⟩, st_4⟩ := cV X_3 hx hZ hown (hq hw 154 rfl) (hq hw 155 rfl) (hq hw 157 rfl) (hq hw 157 rfl) (hq hw 156 rfl) (hq hw 9 rfl) (hq hw 158 rfl) e_3 E1 hml (rmCd1 l Z a0 hw a1 h0 n0 (by omega) vcs hcs O0 SCS vb E1 Fv Fc [(.int (own_lo 65279)), (.int (own_hi 65279)), (.int (own_lo c0)), (.int (own_hi c0)), (.int (own_lo c1)), (.int (own_hi c1)), (.int (own_lo c2)), (.int (own_hi c2)), (.int (own_lo c3)), (.int (own_hi c3))] Ab) (g := j_332) rfl rfl (lenOf pd_10 rfl) rfl (D 4 rfl) (W := 1) rfl rfl (by decide)
  have N_4' := Fr.app N0 N_4
  rw [hh_4] at e_4
  refine Go.s T_4 (mkF m 10 #[vR a1] [(.int ((10 : Int32) >>> ((1 : Int32) &&& 31)))]) (fun _ hr => st_4 _ (y6 X_4 hx (D 5 rfl) hr)) ?_
  refine Go.retI X_4 hx hlk hret (D 6 rfl) (by decide) (by decide) ?_
  try rw [e_4]
  exact ⟨congrArg (fun z => some (Value.int z)) own_uh5, N_4', rfl⟩
theorem pf_29 : plainFor (⟨"java/lang/String", "<init>", "([BB)V"⟩ : MethodName) = true := plainFor_of_name (by first | (simp [plainName, overriddenIn]; done) | decide +kernel)
theorem rmSB (hw : own_W a0 Z) (a1 : Nat) (a2 : Nat) (h0 : Heap) (n0 : Nat) (Z0 : n0 ≤ h0.size) (E1 : Exa Z h0 a1 "java/lang/String") (Fv : fV Z h0 a1 .null) (Fc : fC Z h0 a1 (.int 0)) (g1 : n0 ≤ a1) :
    Con l Z ⟨"java/lang/String", "<init>", "([BB)V"⟩ jdk_42_method_151_code 3 none ⟨1, 0, 0, 12⟩ #[(.ref a1), (.ref a2), (.int 0)] h0 (fun v h L => v = none ∧ Fr n0 L ∧ Keep h0 h [a1] ∧ fV Z h a1 (.ref a2) ∧ fC Z h a1 (.int 0)) := by
  refine Con.o (L := #[vR a1, vR a2, vI 0]) n0 d50 pf_29 (by simp [argsToLocals, Value.category]) ?_
  intro p e s m _ _ c T0 X0 hx hby hml hZ hown hnm hret hlk e0 N0 D
  have lt_1 := own_ltE E1
  let j_333 := (mkF m 1 #[vR a1, vR a2, vI 0] [(.ref a1)])
  refine Go.s T0 j_333 (fun _ hr => yb X0 hx (D 0 rfl) rfl rfl hr) ?_
  obtain ⟨T_2, X_2, e_2, st_2⟩ := initO X0 hx hZ hown (hq hw 28 rfl) (hq hw 29 rfl) (hq hw 30 rfl) e0 (g := j_333) rfl (by rw [hml]; rfl) rfl (D 1 rfl) (by decide) (W := 0) (by show 2 * 0 + _ ≤ _; exact Nat.le_of_eq rfl) (by decide)
  let j_334 := (mkF m 6 #[vR a1, vR a2, vI 0] [(.ref a2), (.ref a1)])
  refine Go.s T_2 j_334 (fun _ hr => st_2 _ (yb X_2 hx (D 2 rfl) rfl rfl (yb X_2 hx (D 3 rfl) rfl rfl hr))) ?_
  obtain ⟨T_3, h_3, X_3, e_3, W_3, st_3⟩ := putF X_2 hx hZ hown (host := "") (Or.inl (hq hw 43 rfl)) Via.refl e_2 Fv E1 (Or.inr ⟨(hq hw 12 rfl), rfl, hnm⟩) (hq hw 10 rfl) (ty := (.array .byte)) (by decide) rfl rfl (g := j_334) rfl rfl (D 4 rfl)
  have N_3 := Fr.snoc X_3 N0 (by omega)
  have z_3 := W_3.size
  have F_3 := Fv.same W_3
  let j_335 := (mkF m 11 #[vR a1, vR a2, vI 0] [(.int 0), (.ref a1)])
  refine Go.s T_3 j_335 (fun _ hr => st_3 _ (yb X_3 hx (D 5 rfl) rfl rfl (yj X_3 hx (D 6 rfl) rfl hr))) ?_
  have F_4 := (Fc.other W_3 (Or.inr (slot_ne (t := .byte) (t' := (.array .byte)) (Or.inr (hq hw 13 rfl)) (Or.inr (hq hw 12 rfl)) (by decide) (by decide) (by decide))))
  have F_5 := (E1.wr W_3)
  obtain ⟨T_6, h_6, X_6, e_6, W_6, st_6⟩ := putF X_3 hx hZ hown (host := "") (Or.inl (hq hw 42 rfl)) Via.refl e_3 F_4 F_5 (Or.inr ⟨(hq hw 13 rfl), rfl, hnm⟩) (hq hw 10 rfl) (ty := .byte) (by decide) rfl rfl (g := j_335) rfl rfl (D 7 rfl)
  have N_6 := Fr.snoc X_6 N_3 (by omega)
  have z_6 := W_6.size
  have F_6 := F_4.same W_6
  refine Go.s T_6 (mkF m 14 #[vR a1, vR a2, vI 0] []) st_6 ?_
  refine Go.retV X_6 hx hlk hret (D 8 rfl) (by decide) (by decide) ?_
  try rw [e_6]
  have F_7 := (F_3.other W_6 (Or.inr (slot_ne (t := (.array .byte)) (t' := .byte) (Or.inr (hq hw 12 rfl)) (Or.inr (hq hw 13 rfl)) (by decide) (by decide) (by decide))))
  exact ⟨rfl, N_6, (((Keep.refl h0 [a1]).wr W_3 (Or.inl (by simp))).wr W_6 (Or.inl (by simp))), F_7, F_6⟩
theorem pf_30 : plainFor (⟨"java/lang/StringUTF16", "checkBoundsOffCount", "(II[B)V"⟩ : MethodName) = true := plainFor_of_name (by first | (simp [plainName, overriddenIn]; done) | decide +kernel)
theorem pd_15 : parseMethodDescriptor "(III)I" = some ⟨[.int, .int, .int], some .int⟩ := by decide +kernel
theorem rmBO2 (hw : own_W a0 Z) (a1 : Nat) (h0 : Heap) (n0 : Nat) (Z0 : n0 ≤ h0.size) (O0 : Old Z n0 h0) (vfm : Value) (rfm : vfm.isRef = true) (SFM : sFM Z vfm) (c0 : Int32) (Ab : Ary Z h0 a1 .byte [(.int (own_lo 65279)), (.int (own_hi 65279)), (.int (own_lo c0)), (.int (own_hi c0))]) (q0 : own_rg c0) :
    Con l Z ⟨"java/lang/StringUTF16", "checkBoundsOffCount", "(II[B)V"⟩ jdk_52_method_94_code 3 none ⟨2, 0, 0, 29⟩ #[(.int 1), (.int 1), (.ref a1)] h0 (fun v h L => v = none ∧ Fr n0 L ∧ h = h0) := by
  refine Con.o (L := #[vI 1, vI 1, vR a1]) n0 d51 pf_30 (by simp [argsToLocals, Value.category]) ?_
  intro p e s m _ _ c T0 X0 hx hby hml hZ hown hnm hret hlk e0 N0 D
  have lt_1 := own_ltA Ab
  let j_336 := (mkF m 3 #[vI 1, vI 1, vR a1] [(.ref a1), (.int 1), (.int 1)])
  refine Go.s T0 j_336 (fun _ hr => yj X0 hx (D 0 rfl) rfl (yj X0 hx (D 1 rfl) rfl (yb X0 hx (D 2 rfl) rfl rfl hr))) ?_
  obtain ⟨v_2, T_2, h_2, L_2, X_2, e_2, ⟨rfl, N_2, hh_2⟩, st_2⟩ := cS X0 hx hZ hown (hq hw 246 rfl) (hq hw 247 rfl) (hq hw 34 rfl) (hq hw 248 rfl) e0 hml (rmUL2 l Z a0 hw a1 h0 n0 (by omega) c0 Ab q0) (g := j_336) rfl rfl (lenOf pd_13 rfl) rfl (D 3 rfl) (W := 2) rfl rfl (by decide)
  have N_2' := Fr.app N0 N_2
  rw [hh_2] at e_2
  let j_337 := (mkF m 6 #[vI 1, vI 1, vR a1] [(.int 2), (.int 1), (.int 1)])
  refine Go.s T_2 j_337 st_2 ?_
  obtain ⟨v_3, T_3, h_3, L_3, X_3, e_3, ⟨rfl, N_3, hh_3⟩, st_3⟩ := cS X_2 hx hZ hown (hq hw 281 rfl) (hq hw 282 rfl) (hq hw 9 rfl) (hq hw 283 rfl) e_2 hml (rmCBO l Z a0 hw 1 1 2 h0 n0 (by omega) O0 vfm rfm SFM (by decide) (by decide)) (g := j_337) rfl rfl (lenOf pd_15 rfl) rfl (D 4 rfl) (W := 0) rfl rfl (by decide)
  have N_3' := Fr.app N_2' N_3
  rw [hh_3] at e_3
  refine Go.s T_3 (mkF m 10 #[vI 1, vI 1, vR a1] []) (fun _ hr => st_3 _ (y0 X_3 hx (D 5 rfl) rfl hr)) ?_
  refine Go.retV X_3 hx hlk hret (D 6 rfl) (by decide) (by decide) ?_
  try rw [e_3]
  exact ⟨rfl, N_3', rfl⟩
theorem pf_31 : plainFor (⟨"java/lang/StringUTF16", "compress", "([BI[BII)I"⟩ : MethodName) = true := plainFor_of_name (by first | (simp [plainName, overriddenIn]; done) | decide +kernel)
theorem pd_16 : parseMethodDescriptor "(II[B)V" = some ⟨[.int, .int, (.array .byte)], none⟩ := by decide +kernel
theorem rmCB2 (hw : own_W a0 Z) (a1 : Nat) (a3 : Nat) (h0 : Heap) (n0 : Nat) (Z0 : n0 ≤ h0.size) (O0 : Old Z n0 h0) (SAD : sAD Z) (SHI : sHI Z) (SLO : sLO Z) (vfm : Value) (rfm : vfm.isRef = true) (SFM : sFM Z vfm) (c0 : Int32) (Ab : Ary Z h0 a1 .byte [(.int (own_lo 65279)), (.int (own_hi 65279)), (.int (own_lo c0)), (.int (own_hi c0))]) (q0 : own_rg c0) (Ad : Ary Z h0 a3 .byte [(.int 0)]) (g3 : n0 ≤ a3) (hne : a1 ≠ a3) :
    Con l Z ⟨"java/lang/StringUTF16", "compress", "([BI[BII)I"⟩ jdk_52_method_22_code 7 (some .int) ⟨3, 0, 0, 43⟩ #[(.ref a1), (.int 1), (.ref a3), (.int 0), (.int 1)] h0 (fun v h L => v = some (.int 1) ∧ Fr n0 L ∧ Keep h0 h [a3] ∧ Ary Z h a3 .byte [(.int c0.toInt8.toInt32)]) := by
  refine Con.o (L := #[vR a1, vI 1, vR a3, vI 0, vI 1, vU, vU]) n0 d52 pf_31 (by simp [argsToLocals, Value.category]) ?_
  intro p e s m _ _ c T0 X0 hx hby hml hZ hown hnm hret hlk e0 N0 D
  have lt_1 := own_ltA Ab
  have lt_2 := own_ltA Ad
  let j_338 := (mkF m 4 #[vR a1, vI 1, vR a3, vI 0, vI 1, vU, vU] [(.ref a1), (.int 1), (.int 1)])
  refine Go.s T0 j_338 (fun _ hr => yj X0 hx (D 0 rfl) rfl (yi X0 hx (D 1 rfl) rfl (yb X0 hx (D 2 rfl) rfl rfl hr))) ?_
  obtain ⟨v_3, T_3, h_3, L_3, X_3, e_3, ⟨rfl, N_3, hh_3⟩, st_3⟩ := cS X0 hx hZ hown (hq hw 278 rfl) (hq hw 279 rfl) (hq hw 34 rfl) (hq hw 280 rfl) e0 hml (rmBO2 l Z a0 hw a1 h0 n0 (by omega) O0 vfm rfm SFM c0 Ab q0) (g := j_338) rfl rfl (lenOf pd_16 rfl) rfl (D 3 rfl) (W := 0) rfl rfl (by decide)
  have N_3' := Fr.app N0 N_3
  rw [hh_3] at e_3
  let j_339 := (mkF m 19 #[vR a1, vI 1, vR a3, vI 0, vI 1, vI 0, vU] [(.int 1), (.ref a1)])
  refine Go.s T_3 j_339 (fun _ hr => st_3 _ (yc X_3 hx (D 4 rfl) (yk X_3 hx (D 5 rfl) rfl (yi X_3 hx (D 6 rfl) rfl (yi X_3 hx (D 7 rfl) rfl (yN X_3 hx (D 8 rfl) (XT.ii_ge_f (by decide)) (yb X_3 hx (D 9 rfl) rfl rfl (yj X_3 hx (D 10 rfl) rfl hr)))))))) ?_
  obtain ⟨v_4, T_4, h_4, L_4, X_4, e_4, ⟨rfl, N_4, hh_4⟩, st_4⟩ := cS X_3 hx hZ hown (hq hw 237 rfl) (hq hw 238 rfl) (hq hw 34 rfl) (hq hw 239 rfl) e_3 hml (rmGet l Z a0 hw a1 (1 : Int32) h0 n0 (by omega) O0 SAD SHI SLO [(.int (own_lo 65279)), (.int (own_hi 65279)), (.int (own_lo c0)), (.int (own_hi c0))] 1 rfl (by decide) Ab (by simp +decide) c0 q0.1 (by have := q0.2; omega) rfl rfl) (g := j_339) rfl rfl (lenOf pd_7 rfl) rfl (D 11 rfl) (W := 0) rfl rfl (by decide)
  have N_4' := Fr.app N_3' N_4
  rw [hh_4] at e_4
  let j_340 := (mkF m 40 #[vR a1, vI 1, vR a3, vI 0, vI 1, vI 0, vI c0] [(.int (c0.toInt8.toInt32)), (.int 0), (.ref a3)])
  refine Go.s T_4 j_340 (fun _ hr => st_4 _ (yk X_4 hx (D 12 rfl) rfl (yi X_4 hx (D 13 rfl) rfl (yq X_4 hx (D 14 rfl) (yY X_4 hx (D 15 rfl) (pc' := 35) (XT.ii_le_t (own_rg_n q0)) rfl (yb X_4 hx (D 16 rfl) rfl rfl (yj X_4 hx (D 17 rfl) rfl (yi X_4 hx (D 18 rfl) rfl (y8 X_4 hx (D 19 rfl) hr))))))))) ?_
  obtain ⟨T_5, h_5, X_5, e_5, W_5, A_5, st_5⟩ := own_stB X_4 hx hZ e_4 Ad (j := 0) (by decide) (by simp +decide) (g := j_340) rfl rfl (D 20 rfl)
  have N_5 := Fr.snoc X_5 N_4' (by omega)
  have z_5 := W_5.size
  rw [show nar .byte (c0.toInt8.toInt32) = (c0.toInt8.toInt32) from (own_idemB c0)] at A_5
  have B_5 : Ary Z h_5 a3 .byte [(.int (c0.toInt8.toInt32))] := A_5
  refine Go.s T_5 (mkF m 55 #[vR a1, vI 2, vR a3, vI 1, vI 1, vI 1, vI c0] [(.int 1)]) (fun _ hr => st_5 _ (yf X_5 hx (D 21 rfl) rfl rfl (yf X_5 hx (D 22 rfl) rfl rfl (yf X_5 hx (D 23 rfl) rfl rfl (yg X_5 hx (D 24 rfl) (pc' := 10) rfl (yi X_5 hx (D 6 rfl) rfl (yi X_5 hx (D 7 rfl) rfl (yY X_5 hx (D 8 rfl) (pc' := 53) (XT.ii_ge_t (by decide)) rfl (yi X_5 hx (D 25 rfl) rfl hr))))))))) ?_
  refine Go.retI X_5 hx hlk hret (D 26 rfl) (by decide) (by decide) ?_
  try rw [e_5]
  exact ⟨rfl, N_5, ((Keep.refl h0 [a3]).wr W_5 (Or.inl (by simp))), B_5⟩
theorem pf_32 : plainFor (⟨"java/lang/StringUTF16", "compress", "([BII)[B"⟩ : MethodName) = true := plainFor_of_name (by first | (simp [plainName, overriddenIn]; done) | decide +kernel)
theorem pd_17 : parseMethodDescriptor "([BI[BII)I" = some ⟨[(.array .byte), .int, (.array .byte), .int, .int], some .int⟩ := by decide +kernel
theorem rmCBA2 (hw : own_W a0 Z) (a1 : Nat) (h0 : Heap) (n0 : Nat) (Z0 : n0 ≤ h0.size) (O0 : Old Z n0 h0) (SAD : sAD Z) (SHI : sHI Z) (SLO : sLO Z) (vfm : Value) (rfm : vfm.isRef = true) (SFM : sFM Z vfm) (c0 : Int32) (Ab : Ary Z h0 a1 .byte [(.int (own_lo 65279)), (.int (own_hi 65279)), (.int (own_lo c0)), (.int (own_hi c0))]) (q0 : own_rg c0) :
    Con l Z ⟨"java/lang/StringUTF16", "compress", "([BII)[B"⟩ jdk_52_method_17_code 6 (some (.array .byte)) ⟨4, 1, 1, 61⟩ #[(.ref a1), (.int 1), (.int 1)] h0 (fun v h L => ∃ a : Nat, v = some (.ref a) ∧ Fr n0 L ∧ Keep h0 h [] ∧ h0.size ≤ a ∧ Ary Z h a .byte [(.int c0.toInt8.toInt32)]) := by
  refine Con.o (L := #[vR a1, vI 1, vI 1, vU, vU, vU]) n0 d53 pf_32 (by simp [argsToLocals, Value.category]) ?_
  intro p e s m _ _ c T0 X0 hx hby hml hZ hown hnm hret hlk e0 N0 D
  have lt_1 := own_ltA Ab
  let j_341 := (mkF m 1 #[vR a1, vI 1, vI 1, vU, vU, vU] [(.int 1)])
  refine Go.s T0 j_341 (fun _ hr => yj X0 hx (D 0 rfl) rfl hr) ?_
  obtain ⟨T_2, h_2, X_2, e_2, E_2, A_2, st_2⟩ := own_newP X0 hx hZ (ty := .byte) rfl (hq hw 11 rfl) e0 (g := j_341) rfl (D 1 rfl) rfl (by decide) (cap := 1) (by decide) (by decide) (by decide) (by decide)
  obtain ⟨ad_2, g_2⟩ : ∃ z, z = h0.size := ⟨_, rfl⟩
  rw [← g_2] at A_2 st_2
  have z_2 := E_2.1
  have y_2 := own_ltA A_2
  have B_2 : Ary Z h_2 ad_2 .byte [(.int 0)] := A_2
  let j_342 := (mkF m 9 #[vR a1, vI 1, vI 1, vR ad_2, vU, vU] [(.int 1), (.int 0), (.ref ad_2), (.int 1), (.ref a1)])
  refine Go.s T_2 j_342 (fun _ hr => st_2 _ (yn X_2 hx (D 2 rfl) rfl rfl (yb X_2 hx (D 3 rfl) rfl rfl (yj X_2 hx (D 4 rfl) rfl (yb X_2 hx (D 5 rfl) rfl rfl (yc X_2 hx (D 6 rfl) (yj X_2 hx (D 7 rfl) rfl hr))))))) ?_
  have F_4 := (O0.ext E_2)
  have F_5 := (Ab.ext E_2)
  obtain ⟨v_3, T_3, h_3, L_3, X_3, e_3, ⟨rfl, N_3, K_3, B_3⟩, st_3⟩ := cS X_2 hx hZ hown (hq hw 275 rfl) (hq hw 276 rfl) (hq hw 34 rfl) (hq hw 277 rfl) e_2 hml (rmCB2 l Z a0 hw a1 ad_2 h_2 n0 (by omega) F_4 SAD SHI SLO vfm rfm SFM c0 F_5 q0 B_2 (by omega) (own_ne (by omega))) (g := j_342) rfl rfl (lenOf pd_17 rfl) rfl (D 8 rfl) (W := 0) rfl rfl (by decide)
  have N_3' := Fr.app N0 N_3
  have z_3 := K_3.1
  refine Go.s T_3 (mkF m 65 #[vR a1, vI 1, vI 1, vR ad_2, vI 1, vU] [(.ref ad_2)]) (fun _ hr => st_3 _ (yk X_3 hx (D 9 rfl) rfl (yi X_3 hx (D 10 rfl) rfl (yj X_3 hx (D 11 rfl) rfl (yY X_3 hx (D 12 rfl) (pc' := 64) (XT.ii_eq_t (by decide)) rfl (yb X_3 hx (D 13 rfl) rfl rfl hr)))))) ?_
  refine Go.retA X_3 hx hlk (t := (.array .byte)) hret rfl rfl (D 14 rfl) (by decide) (by decide) ?_
  try rw [e_3]
  exact ⟨ad_2, rfl, N_3', (((Keep.refl h0 []).ext E_2).trans K_3 (own_t1 (by first | exact Or.inr (by omega) | exact Or.inl (by simp)))), by omega, B_3⟩
theorem pf_33 : plainFor (⟨"java/lang/StringUTF16", "newString", "([BII)Ljava/lang/String;"⟩ : MethodName) = true := plainFor_of_name (by first | (simp [plainName, overriddenIn]; done) | decide +kernel)
theorem pd_18 : parseMethodDescriptor "([BII)[B" = some ⟨[(.array .byte), .int, .int], some (.array .byte)⟩ := by decide +kernel
theorem pd_19 : parseMethodDescriptor "([BB)V" = some ⟨[(.array .byte), .byte], none⟩ := by decide +kernel
theorem rmNS2 (hw : own_W a0 Z) (a1 : Nat) (h0 : Heap) (n0 : Nat) (Z0 : n0 ≤ h0.size) (vcs : Int32) (hcs : ¬ vcs = 0) (O0 : Old Z n0 h0) (SCS : sCS Z vcs) (SAD : sAD Z) (SHI : sHI Z) (SLO : sLO Z) (vfm : Value) (rfm : vfm.isRef = true) (SFM : sFM Z vfm) (c0 : Int32) (Ab : Ary Z h0 a1 .byte [(.int (own_lo 65279)), (.int (own_hi 65279)), (.int (own_lo c0)), (.int (own_hi c0))]) (q0 : own_rg c0) :
    Con l Z ⟨"java/lang/StringUTF16", "newString", "([BII)Ljava/lang/String;"⟩ jdk_52_method_69_code 5 (some (.object "java/lang/String")) ⟨5, 2, 5, 78⟩ #[(.ref a1), (.int 1), (.int 1)] h0 (fun v h L => ∃ sa : Nat, v = some (.ref sa) ∧ Fr n0 L ∧ Keep h0 h [] ∧ h0.size ≤ sa ∧ Exa Z h sa "java/lang/String" ∧ ∃ vb : Nat, h0.size ≤ vb ∧ fV Z h sa (.ref vb) ∧ fC Z h sa (.int 0) ∧ Ary Z h vb .byte [(.int c0.toInt8.toInt32)]) := by
  refine Con.o (L := #[vR a1, vI 1, vI 1, vU, vU]) n0 d54 pf_33 (by simp [argsToLocals, Value.category]) ?_
  intro p e s m _ _ c T0 X0 hx hby hml hZ hown hnm hret hlk e0 N0 D
  have lt_1 := own_ltA Ab
  let j_343 := (mkF m 8 #[vR a1, vI 1, vI 1, vU, vU] [])
  refine Go.s T0 j_343 (fun _ hr => yj X0 hx (D 0 rfl) rfl (yX X0 hx (D 1 rfl) (pc' := 8) (XT.i0_ne_t (by decide)) rfl hr)) ?_
  obtain ⟨T_2, X_2, e_2, st_2⟩ := getS2 X0 hx hZ hown (host := "") (Or.inl (hq hw 271 rfl)) Via.refl e0 (SCS.ext O0.2) (g := j_343) rfl (D 4 rfl)
  let j_344 := (mkF m 17 #[vR a1, vI 1, vI 1, vU, vU] [(.int 1), (.int 1), (.ref a1)])
  refine Go.s T_2 j_344 (fun _ hr => st_2 _ (yM X_2 hx (D 5 rfl) (XT.i0_eq_f hcs) (yb X_2 hx (D 6 rfl) rfl rfl (yj X_2 hx (D 7 rfl) rfl (yj X_2 hx (D 8 rfl) rfl hr))))) ?_
  obtain ⟨v_3, T_3, h_3, L_3, X_3, e_3, ⟨cb_3, rfl, N_3, K_3, g_3, B_3⟩, st_3⟩ := cS X_2 hx hZ hown (hq hw 272 rfl) (hq hw 273 rfl) (hq hw 34 rfl) (hq hw 274 rfl) e_2 hml (rmCBA2 l Z a0 hw a1 h0 n0 (by omega) O0 SAD SHI SLO vfm rfm SFM c0 Ab q0) (g := j_344) rfl rfl (lenOf pd_18 rfl) rfl (D 9 rfl) (W := 0) rfl rfl (by decide)
  have N_3' := Fr.app N0 N_3
  have z_3 := K_3.1
  have yy_3 := own_ltA B_3
  let j_345 := (mkF m 23 #[vR a1, vI 1, vI 1, vR cb_3, vU] [(.int 1), (.ref cb_3)])
  refine Go.s T_3 j_345 (fun _ hr => st_3 _ (yn X_3 hx (D 10 rfl) rfl rfl (yb X_3 hx (D 11 rfl) rfl rfl (yj X_3 hx (D 12 rfl) rfl hr)))) ?_
  obtain ⟨v_4, T_4, h_4, L_4, X_4, e_4, ⟨rfl, N_4, hh_4⟩, st_4⟩ := cS X_3 hx hZ hown (hq hw 287 rfl) (hq hw 40 rfl) (hq hw 34 rfl) (hq hw 41 rfl) e_3 hml (rmCF1 l Z a0 hw cb_3 h_3 n0 (by omega) [(.int c0.toInt8.toInt32)] B_3 rfl) (g := j_345) rfl rfl (lenOf pd_2 rfl) rfl (D 13 rfl) (W := 0) rfl rfl (by decide)
  have N_4' := Fr.app N_3' N_4
  rw [hh_4] at e_4
  let j_346 := (mkF m 28 #[vR a1, vI 1, vI 1, vR cb_3, vI 0] [])
  refine Go.s T_4 j_346 (fun _ hr => st_4 _ (yk X_4 hx (D 14 rfl) rfl hr)) ?_
  obtain ⟨T_5, h_5, X_5, e_5, E_5, A_5, D_5, -, st_5⟩ := newO X_4 hx hZ hown (hq hw 288 rfl) (hq hw 10 rfl) (hq hw 9 rfl) e_4 (g := j_346) rfl (D 15 rfl) (by decide) (by decide)
  obtain ⟨ad_5, g_5⟩ : ∃ z, z = h_3.size := ⟨_, rfl⟩
  rw [← g_5] at A_5 D_5 st_5
  have z_5 := E_5.1
  have y_5 := own_ltE A_5
  have F_5_value : fV Z h_5 ad_5 .null := D_5 (Or.inr (hq hw 12 rfl)) (ty := (.array .byte)) (by decide)
  have F_5_coder : fC Z h_5 ad_5 (.int 0) := D_5 (Or.inr (hq hw 13 rfl)) (ty := .byte) (by decide)
  let j_347 := (mkF m 35 #[vR a1, vI 1, vI 1, vR cb_3, vI 0] [(.int 0), (.ref cb_3), (.ref ad_5), (.ref ad_5)])
  refine Go.s T_5 j_347 (fun _ hr => st_5 _ (yd X_5 hx (D 16 rfl) rfl (yb X_5 hx (D 17 rfl) rfl rfl (yi X_5 hx (D 18 rfl) rfl hr)))) ?_
  obtain ⟨v_6, T_6, h_6, L_6, X_6, e_6, ⟨rfl, N_6, K_6, F1_6, F2_6⟩, st_6⟩ := cN X_5 hx hZ hown (hq hw 289 rfl) (hq hw 290 rfl) (hq hw 9 rfl) (hq hw 291 rfl) e_5 rfl hml (rmSB l Z a0 hw ad_5 cb_3 h_5 n0 (by omega) A_5 F_5_value F_5_coder (by omega)) (g := j_347) rfl rfl (lenOf pd_19 rfl) rfl (D 19 rfl) (W := 1) rfl rfl (by decide)
  have N_6' := Fr.app N_4' N_6
  have z_6 := K_6.1
  refine Go.s T_6 (mkF m 38 #[vR a1, vI 1, vI 1, vR cb_3, vI 0] [(.ref ad_5)]) st_6 ?_
  refine Go.retA X_6 hx hlk (t := (.object "java/lang/String")) hret rfl rfl (D 20 rfl) (by decide) (by decide) ?_
  try rw [e_6]
  have F_7 := (A_5.keep K_6)
  have F_8 := ((B_3.ext E_5).keep K_6 (own_n1 (by omega)))
  exact ⟨ad_5, rfl, N_6', ((((Keep.refl h0 []).trans K_3 all0).ext E_5).trans K_6 (own_t1 (by first | exact Or.inr (by omega) | exact Or.inl (by simp)))), by omega, F_7, cb_3, by omega, F1_6, F2_6, F_8⟩
theorem pf_34 : plainFor (⟨"java/lang/String", "substring", "(II)Ljava/lang/String;"⟩ : MethodName) = true := plainFor_of_name (by first | (simp [plainName, overriddenIn]; done) | decide +kernel)
theorem pd_20 : parseMethodDescriptor "()I" = some ⟨[], some .int⟩ := by decide +kernel
theorem pd_21 : parseMethodDescriptor "(III)V" = some ⟨[.int, .int, .int], none⟩ := by decide +kernel
theorem pd_22 : parseMethodDescriptor "([BII)Ljava/lang/String;" = some ⟨[(.array .byte), .int, .int], some (.object "java/lang/String")⟩ := by decide +kernel
theorem rmSubB2 (hw : own_W a0 Z) (a1 : Nat) (h0 : Heap) (n0 : Nat) (Z0 : n0 ≤ h0.size) (vcs : Int32) (hcs : ¬ vcs = 0) (O0 : Old Z n0 h0) (SCS : sCS Z vcs) (SAD : sAD Z) (SHI : sHI Z) (SLO : sLO Z) (vfm : Value) (rfm : vfm.isRef = true) (SFM : sFM Z vfm) (vb : Nat) (E1 : Exa Z h0 a1 "java/lang/String") (Fv : fV Z h0 a1 (.ref vb)) (Fc : fC Z h0 a1 (.int 1)) (c0 : Int32) (Ab : Ary Z h0 vb .byte [(.int (own_lo 65279)), (.int (own_hi 65279)), (.int (own_lo c0)), (.int (own_hi c0))]) (q0 : own_rg c0) :
    Con l Z ⟨"java/lang/String", "substring", "(II)Ljava/lang/String;"⟩ jdk_42_method_92_code 5 (some (.object "java/lang/String")) ⟨6, 2, 5, 94⟩ #[(.ref a1), (.int 1), (.int 2)] h0 (fun v h L => ∃ sa : Nat, v = some (.ref sa) ∧ Fr n0 L ∧ Keep h0 h [] ∧ h0.size ≤ sa ∧ Exa Z h sa "java/lang/String" ∧ ∃ vb : Nat, h0.size ≤ vb ∧ fV Z h sa (.ref vb) ∧ fC Z h sa (.int 0) ∧ Ary Z h vb .byte [(.int c0.toInt8.toInt32)]) := by
  refine Con.o (L := #[vR a1, vI 1, vI 2, vU, vU]) n0 d55 pf_34 (by simp [argsToLocals, Value.category]) ?_
  intro p e s m _ _ c T0 X0 hx hby hml hZ hown hnm hret hlk e0 N0 D
  have lt_1 := own_ltE E1
  have lt_2 := own_ltA Ab
  let j_348 := (mkF m 1 #[vR a1, vI 1, vI 2, vU, vU] [(.ref a1)])
  refine Go.s T0 j_348 (fun _ hr => yb X0 hx (D 0 rfl) rfl rfl hr) ?_
  obtain ⟨v_3, T_3, h_3, L_3, X_3, e_3, ⟨rfl, N_3, hh_3⟩, st_3⟩ := cV X0 hx hZ hown (hq hw 255 rfl) (hq hw 150 rfl) (hq hw 152 rfl) (hq hw 152 rfl) (hq hw 151 rfl) (hq hw 9 rfl) (hq hw 153 rfl) e0 E1 hml (rmLnU2 l Z a0 hw a1 h0 n0 (by omega) vcs hcs O0 SCS SAD SHI SLO vfm rfm SFM vb E1 Fv Fc c0 Ab q0) (g := j_348) rfl rfl (lenOf pd_20 rfl) rfl (D 1 rfl) (W := 0) rfl rfl (by decide)
  have N_3' := Fr.app N0 N_3
  rw [hh_3] at e_3
  let j_349 := (mkF m 8 #[vR a1, vI 1, vI 2, vI 2, vU] [(.int 2), (.int 2), (.int 1)])
  refine Go.s T_3 j_349 (fun _ hr => st_3 _ (yl X_3 hx (D 2 rfl) rfl (yj X_3 hx (D 3 rfl) rfl (yj X_3 hx (D 4 rfl) rfl (yj X_3 hx (D 5 rfl) rfl hr))))) ?_
  obtain ⟨v_4, T_4, h_4, L_4, X_4, e_4, ⟨rfl, N_4, hh_4⟩, st_4⟩ := cS X_3 hx hZ hown (hq hw 261 rfl) (hq hw 262 rfl) (hq hw 9 rfl) (hq hw 263 rfl) e_3 hml (rmCBB l Z a0 hw 1 2 2 h0 n0 (by omega) O0 vfm rfm SFM (by decide) (by decide) (by decide)) (g := j_349) rfl rfl (lenOf pd_21 rfl) rfl (D 6 rfl) (W := 0) rfl rfl (by decide)
  have N_4' := Fr.app N_3' N_4
  rw [hh_4] at e_4
  refine Go.s T_4 (mkF m 24 #[vR a1, vI 1, vI 2, vI 2, vU] [(.int 1), (.int 2)]) (fun _ hr => st_4 _ (yj X_4 hx (D 7 rfl) rfl (yX X_4 hx (D 8 rfl) (pc' := 22) (XT.i0_ne_t (by decide)) rfl (yj X_4 hx (D 9 rfl) rfl (yj X_4 hx (D 10 rfl) rfl hr))))) ?_
  let j_350 := (mkF m 28 #[vR a1, vI 1, vI 2, vI 2, vI 1] [(.ref a1)])
  refine Go.s T_4 j_350 (fun _ hr => y2 X_4 hx (D 11 rfl) (yk X_4 hx (D 12 rfl) rfl (yb X_4 hx (D 13 rfl) rfl rfl hr))) ?_
  obtain ⟨v_5, T_5, h_5, L_5, X_5, e_5, ⟨rfl, N_5, hh_5⟩, st_5⟩ := cV X_4 hx hZ hown (hq hw 60 rfl) (hq hw 61 rfl) (hq hw 63 rfl) (hq hw 63 rfl) (hq hw 62 rfl) (hq hw 9 rfl) (hq hw 64 rfl) e_4 E1 hml (rmIL1 l Z a0 hw a1 h0 n0 (by omega) vcs hcs O0 SCS vb E1 Fv Fc [(.int (own_lo 65279)), (.int (own_hi 65279)), (.int (own_lo c0)), (.int (own_hi c0))] Ab) (g := j_350) rfl rfl (lenOf pd_12 rfl) rfl (D 14 rfl) (W := 0) rfl rfl (by decide)
  have N_5' := Fr.app N_4' N_5
  rw [hh_5] at e_5
  let j_351 := (mkF m 48 #[vR a1, vI 1, vI 2, vI 2, vI 1] [(.ref a1)])
  refine Go.s T_5 j_351 (fun _ hr => st_5 _ (yX X_5 hx (D 15 rfl) (pc' := 47) (XT.i0_eq_t (by decide)) rfl (yb X_5 hx (D 16 rfl) rfl rfl hr))) ?_
  obtain ⟨T_6, X_6, e_6, st_6⟩ := getF X_5 hx hZ hown (host := "") (Or.inl (hq hw 43 rfl)) Via.refl e_5 Fv (g := j_351) rfl rfl (D 17 rfl)
  let j_352 := (mkF m 54 #[vR a1, vI 1, vI 2, vI 2, vI 1] [(.int 1), (.int 1), (.ref vb)])
  refine Go.s T_6 j_352 (fun _ hr => st_6 _ (yj X_6 hx (D 18 rfl) rfl (yi X_6 hx (D 19 rfl) rfl hr))) ?_
  obtain ⟨v_7, T_7, h_7, L_7, X_7, e_7, ⟨sa_7, rfl, N_7, K_7, g_7, E1_7, vb_7, gg_7, F1_7, F2_7, B_7⟩, st_7⟩ := cS X_6 hx hZ hown (hq hw 267 rfl) (hq hw 268 rfl) (hq hw 34 rfl) (hq hw 269 rfl) e_6 hml (rmNS2 l Z a0 hw vb h0 n0 (by omega) vcs hcs O0 SCS SAD SHI SLO vfm rfm SFM c0 Ab q0) (g := j_352) rfl rfl (lenOf pd_22 rfl) rfl (D 20 rfl) (W := 0) rfl rfl (by decide)
  have N_7' := Fr.app N_5' N_7
  have z_7 := K_7.1
  have yv_7 := own_ltA B_7
  have ys_7 := own_ltE E1_7
  refine Go.s T_7 (mkF m 57 #[vR a1, vI 1, vI 2, vI 2, vI 1] [(.ref sa_7)]) st_7 ?_
  refine Go.retA X_7 hx hlk (t := (.object "java/lang/String")) hret rfl rfl (D 21 rfl) (by decide) (by decide) ?_
  try rw [e_7]
  exact ⟨sa_7, rfl, N_7', ((Keep.refl h0 []).trans K_7 all0), by omega, E1_7, vb_7, by omega, F1_7, F2_7, B_7⟩
theorem pf_35 : plainFor (⟨"java/lang/String", "substring", "(I)Ljava/lang/String;"⟩ : MethodName) = true := plainFor_of_name (by first | (simp [plainName, overriddenIn]; done) | decide +kernel)
theorem pd_23 : parseMethodDescriptor "(II)Ljava/lang/String;" = some ⟨[.int, .int], some (.object "java/lang/String")⟩ := by decide +kernel
theorem rmSubA2 (hw : own_W a0 Z) (a1 : Nat) (h0 : Heap) (n0 : Nat) (Z0 : n0 ≤ h0.size) (vcs : Int32) (hcs : ¬ vcs = 0) (O0 : Old Z n0 h0) (SCS : sCS Z vcs) (SAD : sAD Z) (SHI : sHI Z) (SLO : sLO Z) (vfm : Value) (rfm : vfm.isRef = true) (SFM : sFM Z vfm) (vb : Nat) (E1 : Exa Z h0 a1 "java/lang/String") (Fv : fV Z h0 a1 (.ref vb)) (Fc : fC Z h0 a1 (.int 1)) (c0 : Int32) (Ab : Ary Z h0 vb .byte [(.int (own_lo 65279)), (.int (own_hi 65279)), (.int (own_lo c0)), (.int (own_hi c0))]) (q0 : own_rg c0) :
    Con l Z ⟨"java/lang/String", "substring", "(I)Ljava/lang/String;"⟩ jdk_42_method_91_code 2 (some (.object "java/lang/String")) ⟨7, 2, 5, 110⟩ #[(.ref a1), (.int 1)] h0 (fun v h L => ∃ sa : Nat, v = some (.ref sa) ∧ Fr n0 L ∧ Keep h0 h [] ∧ h0.size ≤ sa ∧ Exa Z h sa "java/lang/String" ∧ ∃ vb : Nat, h0.size ≤ vb ∧ fV Z h sa (.ref vb) ∧ fC Z h sa (.int 0) ∧ Ary Z h vb .byte [(.int c0.toInt8.toInt32)]) := by
  refine Con.o (L := #[vR a1, vI 1]) n0 d56 pf_35 (by simp [argsToLocals, Value.category]) ?_
  intro p e s m _ _ c T0 X0 hx hby hml hZ hown hnm hret hlk e0 N0 D
  have lt_1 := own_ltE E1
  have lt_2 := own_ltA Ab
  let j_353 := (mkF m 3 #[vR a1, vI 1] [(.ref a1), (.int 1), (.ref a1)])
  refine Go.s T0 j_353 (fun _ hr => yb X0 hx (D 0 rfl) rfl rfl (yj X0 hx (D 1 rfl) rfl (yb X0 hx (D 2 rfl) rfl rfl hr))) ?_
  obtain ⟨v_3, T_3, h_3, L_3, X_3, e_3, ⟨rfl, N_3, hh_3⟩, st_3⟩ := cV X0 hx hZ hown (hq hw 255 rfl) (hq hw 150 rfl) (hq hw 152 rfl) (hq hw 152 rfl) (hq hw 151 rfl) (hq hw 9 rfl) (hq hw 153 rfl) e0 E1 hml (rmLnU2 l Z a0 hw a1 h0 n0 (by omega) vcs hcs O0 SCS SAD SHI SLO vfm rfm SFM vb E1 Fv Fc c0 Ab q0) (g := j_353) rfl rfl (lenOf pd_20 rfl) rfl (D 3 rfl) (W := 2) rfl rfl (by decide)
  have N_3' := Fr.app N0 N_3
  rw [hh_3] at e_3
  let j_354 := (mkF m 6 #[vR a1, vI 1] [(.int 2), (.int 1), (.ref a1)])
  refine Go.s T_3 j_354 st_3 ?_
  obtain ⟨v_4, T_4, h_4, L_4, X_4, e_4, ⟨sa_4, rfl, N_4, K_4, g_4, E1_4, vb_4, gg_4, F1_4, F2_4, B_4⟩, st_4⟩ := cV X_3 hx hZ hown (hq hw 256 rfl) (hq hw 257 rfl) (hq hw 259 rfl) (hq hw 259 rfl) (hq hw 258 rfl) (hq hw 9 rfl) (hq hw 260 rfl) e_3 E1 hml (rmSubB2 l Z a0 hw a1 h0 n0 (by omega) vcs hcs O0 SCS SAD SHI SLO vfm rfm SFM vb E1 Fv Fc c0 Ab q0) (g := j_354) rfl rfl (lenOf pd_23 rfl) rfl (D 4 rfl) (W := 0) rfl rfl (by decide)
  have N_4' := Fr.app N_3' N_4
  have z_4 := K_4.1
  have yv_4 := own_ltA B_4
  have ys_4 := own_ltE E1_4
  refine Go.s T_4 (mkF m 9 #[vR a1, vI 1] [(.ref sa_4)]) st_4 ?_
  refine Go.retA X_4 hx hlk (t := (.object "java/lang/String")) hret rfl rfl (D 5 rfl) (by decide) (by decide) ?_
  try rw [e_4]
  exact ⟨sa_4, rfl, N_4', ((Keep.refl h0 []).trans K_4 all0), by omega, E1_4, vb_4, by omega, F1_4, F2_4, B_4⟩
theorem rmBO3 (hw : own_W a0 Z) (a1 : Nat) (h0 : Heap) (n0 : Nat) (Z0 : n0 ≤ h0.size) (O0 : Old Z n0 h0) (vfm : Value) (rfm : vfm.isRef = true) (SFM : sFM Z vfm) (c0 c1 : Int32) (Ab : Ary Z h0 a1 .byte [(.int (own_lo 65279)), (.int (own_hi 65279)), (.int (own_lo c0)), (.int (own_hi c0)), (.int (own_lo c1)), (.int (own_hi c1))]) (q0 : own_rg c0) (q1 : own_rg c1) :
    Con l Z ⟨"java/lang/StringUTF16", "checkBoundsOffCount", "(II[B)V"⟩ jdk_52_method_94_code 3 none ⟨2, 0, 0, 29⟩ #[(.int 1), (.int 2), (.ref a1)] h0 (fun v h L => v = none ∧ Fr n0 L ∧ h = h0) := by
  refine Con.o (L := #[vI 1, vI 2, vR a1]) n0 d51 pf_30 (by simp [argsToLocals, Value.category]) ?_
  intro p e s m _ _ c T0 X0 hx hby hml hZ hown hnm hret hlk e0 N0 D
  have lt_1 := own_ltA Ab
  let j_355 := (mkF m 3 #[vI 1, vI 2, vR a1] [(.ref a1), (.int 2), (.int 1)])
  refine Go.s T0 j_355 (fun _ hr => yj X0 hx (D 0 rfl) rfl (yj X0 hx (D 1 rfl) rfl (yb X0 hx (D 2 rfl) rfl rfl hr))) ?_
  obtain ⟨v_2, T_2, h_2, L_2, X_2, e_2, ⟨rfl, N_2, hh_2⟩, st_2⟩ := cS X0 hx hZ hown (hq hw 246 rfl) (hq hw 247 rfl) (hq hw 34 rfl) (hq hw 248 rfl) e0 hml (rmUL3 l Z a0 hw a1 h0 n0 (by omega) c0 c1 Ab q0 q1) (g := j_355) rfl rfl (lenOf pd_13 rfl) rfl (D 3 rfl) (W := 2) rfl rfl (by decide)
  have N_2' := Fr.app N0 N_2
  rw [hh_2] at e_2
  let j_356 := (mkF m 6 #[vI 1, vI 2, vR a1] [(.int 3), (.int 2), (.int 1)])
  refine Go.s T_2 j_356 st_2 ?_
  obtain ⟨v_3, T_3, h_3, L_3, X_3, e_3, ⟨rfl, N_3, hh_3⟩, st_3⟩ := cS X_2 hx hZ hown (hq hw 281 rfl) (hq hw 282 rfl) (hq hw 9 rfl) (hq hw 283 rfl) e_2 hml (rmCBO l Z a0 hw 1 2 3 h0 n0 (by omega) O0 vfm rfm SFM (by decide) (by decide)) (g := j_356) rfl rfl (lenOf pd_15 rfl) rfl (D 4 rfl) (W := 0) rfl rfl (by decide)
  have N_3' := Fr.app N_2' N_3
  rw [hh_3] at e_3
  refine Go.s T_3 (mkF m 10 #[vI 1, vI 2, vR a1] []) (fun _ hr => st_3 _ (y0 X_3 hx (D 5 rfl) rfl hr)) ?_
  refine Go.retV X_3 hx hlk hret (D 6 rfl) (by decide) (by decide) ?_
  try rw [e_3]
  exact ⟨rfl, N_3', rfl⟩
theorem rmCB3 (hw : own_W a0 Z) (a1 : Nat) (a3 : Nat) (h0 : Heap) (n0 : Nat) (Z0 : n0 ≤ h0.size) (O0 : Old Z n0 h0) (SAD : sAD Z) (SHI : sHI Z) (SLO : sLO Z) (vfm : Value) (rfm : vfm.isRef = true) (SFM : sFM Z vfm) (c0 c1 : Int32) (Ab : Ary Z h0 a1 .byte [(.int (own_lo 65279)), (.int (own_hi 65279)), (.int (own_lo c0)), (.int (own_hi c0)), (.int (own_lo c1)), (.int (own_hi c1))]) (q0 : own_rg c0) (q1 : own_rg c1) (Ad : Ary Z h0 a3 .byte [(.int 0), (.int 0)]) (g3 : n0 ≤ a3) (hne : a1 ≠ a3) :
    Con l Z ⟨"java/lang/StringUTF16", "compress", "([BI[BII)I"⟩ jdk_52_method_22_code 7 (some .int) ⟨3, 0, 0, 43⟩ #[(.ref a1), (.int 1), (.ref a3), (.int 0), (.int 2)] h0 (fun v h L => v = some (.int 2) ∧ Fr n0 L ∧ Keep h0 h [a3] ∧ Ary Z h a3 .byte [(.int c0.toInt8.toInt32), (.int c1.toInt8.toInt32)]) := by
  refine Con.o (L := #[vR a1, vI 1, vR a3, vI 0, vI 2, vU, vU]) n0 d52 pf_31 (by simp [argsToLocals, Value.category]) ?_
  intro p e s m _ _ c T0 X0 hx hby hml hZ hown hnm hret hlk e0 N0 D
  have lt_1 := own_ltA Ab
  have lt_2 := own_ltA Ad
  let j_357 := (mkF m 4 #[vR a1, vI 1, vR a3, vI 0, vI 2, vU, vU] [(.ref a1), (.int 2), (.int 1)])
  refine Go.s T0 j_357 (fun _ hr => yj X0 hx (D 0 rfl) rfl (yi X0 hx (D 1 rfl) rfl (yb X0 hx (D 2 rfl) rfl rfl hr))) ?_
  obtain ⟨v_3, T_3, h_3, L_3, X_3, e_3, ⟨rfl, N_3, hh_3⟩, st_3⟩ := cS X0 hx hZ hown (hq hw 278 rfl) (hq hw 279 rfl) (hq hw 34 rfl) (hq hw 280 rfl) e0 hml (rmBO3 l Z a0 hw a1 h0 n0 (by omega) O0 vfm rfm SFM c0 c1 Ab q0 q1) (g := j_357) rfl rfl (lenOf pd_16 rfl) rfl (D 3 rfl) (W := 0) rfl rfl (by decide)
  have N_3' := Fr.app N0 N_3
  rw [hh_3] at e_3
  let j_358 := (mkF m 19 #[vR a1, vI 1, vR a3, vI 0, vI 2, vI 0, vU] [(.int 1), (.ref a1)])
  refine Go.s T_3 j_358 (fun _ hr => st_3 _ (yc X_3 hx (D 4 rfl) (yk X_3 hx (D 5 rfl) rfl (yi X_3 hx (D 6 rfl) rfl (yi X_3 hx (D 7 rfl) rfl (yN X_3 hx (D 8 rfl) (XT.ii_ge_f (by decide)) (yb X_3 hx (D 9 rfl) rfl rfl (yj X_3 hx (D 10 rfl) rfl hr)))))))) ?_
  obtain ⟨v_4, T_4, h_4, L_4, X_4, e_4, ⟨rfl, N_4, hh_4⟩, st_4⟩ := cS X_3 hx hZ hown (hq hw 237 rfl) (hq hw 238 rfl) (hq hw 34 rfl) (hq hw 239 rfl) e_3 hml (rmGet l Z a0 hw a1 (1 : Int32) h0 n0 (by omega) O0 SAD SHI SLO [(.int (own_lo 65279)), (.int (own_hi 65279)), (.int (own_lo c0)), (.int (own_hi c0)), (.int (own_lo c1)), (.int (own_hi c1))] 1 rfl (by decide) Ab (by simp +decide) c0 q0.1 (by have := q0.2; omega) rfl rfl) (g := j_358) rfl rfl (lenOf pd_7 rfl) rfl (D 11 rfl) (W := 0) rfl rfl (by decide)
  have N_4' := Fr.app N_3' N_4
  rw [hh_4] at e_4
  let j_359 := (mkF m 40 #[vR a1, vI 1, vR a3, vI 0, vI 2, vI 0, vI c0] [(.int (c0.toInt8.toInt32)), (.int 0), (.ref a3)])
  refine Go.s T_4 j_359 (fun _ hr => st_4 _ (yk X_4 hx (D 12 rfl) rfl (yi X_4 hx (D 13 rfl) rfl (yq X_4 hx (D 14 rfl) (yY X_4 hx (D 15 rfl) (pc' := 35) (XT.ii_le_t (own_rg_n q0)) rfl (yb X_4 hx (D 16 rfl) rfl rfl (yj X_4 hx (D 17 rfl) rfl (yi X_4 hx (D 18 rfl) rfl (y8 X_4 hx (D 19 rfl) hr))))))))) ?_
  obtain ⟨T_5, h_5, X_5, e_5, W_5, A_5, st_5⟩ := own_stB X_4 hx hZ e_4 Ad (j := 0) (by decide) (by simp +decide) (g := j_359) rfl rfl (D 20 rfl)
  have N_5 := Fr.snoc X_5 N_4' (by omega)
  have z_5 := W_5.size
  rw [show nar .byte (c0.toInt8.toInt32) = (c0.toInt8.toInt32) from (own_idemB c0)] at A_5
  have B_5 : Ary Z h_5 a3 .byte [(.int (c0.toInt8.toInt32)), (.int 0)] := A_5
  let j_360 := (mkF m 19 #[vR a1, vI 2, vR a3, vI 1, vI 2, vI 1, vI c0] [(.int 2), (.ref a1)])
  refine Go.s T_5 j_360 (fun _ hr => st_5 _ (yf X_5 hx (D 21 rfl) rfl rfl (yf X_5 hx (D 22 rfl) rfl rfl (yf X_5 hx (D 23 rfl) rfl rfl (yg X_5 hx (D 24 rfl) (pc' := 10) rfl (yi X_5 hx (D 6 rfl) rfl (yi X_5 hx (D 7 rfl) rfl (yN X_5 hx (D 8 rfl) (XT.ii_ge_f (by decide)) (yb X_5 hx (D 9 rfl) rfl rfl (yj X_5 hx (D 10 rfl) rfl hr)))))))))) ?_
  have F_7 := (O0.wr W_5 (by omega))
  have F_8 := (Ab.other W_5 (own_ne (by omega)))
  obtain ⟨v_6, T_6, h_6, L_6, X_6, e_6, ⟨rfl, N_6, hh_6⟩, st_6⟩ := cS X_5 hx hZ hown (hq hw 237 rfl) (hq hw 238 rfl) (hq hw 34 rfl) (hq hw 239 rfl) e_5 hml (rmGet l Z a0 hw a1 (2 : Int32) h_5 n0 (by omega) F_7 SAD SHI SLO [(.int (own_lo 65279)), (.int (own_hi 65279)), (.int (own_lo c0)), (.int (own_hi c0)), (.int (own_lo c1)), (.int (own_hi c1))] 2 rfl (by decide) F_8 (by simp +decide) c1 q1.1 (by have := q1.2; omega) rfl rfl) (g := j_360) rfl rfl (lenOf pd_7 rfl) rfl (D 11 rfl) (W := 0) rfl rfl (by decide)
  have N_6' := Fr.app N_5 N_6
  rw [hh_6] at e_6
  let j_361 := (mkF m 40 #[vR a1, vI 2, vR a3, vI 1, vI 2, vI 1, vI c1] [(.int (c1.toInt8.toInt32)), (.int 1), (.ref a3)])
  refine Go.s T_6 j_361 (fun _ hr => st_6 _ (yk X_6 hx (D 12 rfl) rfl (yi X_6 hx (D 13 rfl) rfl (yq X_6 hx (D 14 rfl) (yY X_6 hx (D 15 rfl) (pc' := 35) (XT.ii_le_t (own_rg_n q1)) rfl (yb X_6 hx (D 16 rfl) rfl rfl (yj X_6 hx (D 17 rfl) rfl (yi X_6 hx (D 18 rfl) rfl (y8 X_6 hx (D 19 rfl) hr))))))))) ?_
  obtain ⟨T_9, h_9, X_9, e_9, W_9, A_9, st_9⟩ := own_stB X_6 hx hZ e_6 B_5 (j := 1) (by decide) (by simp +decide) (g := j_361) rfl rfl (D 20 rfl)
  have N_9 := Fr.snoc X_9 N_6' (by omega)
  have z_9 := W_9.size
  rw [show nar .byte (c1.toInt8.toInt32) = (c1.toInt8.toInt32) from (own_idemB c1)] at A_9
  have B_9 : Ary Z h_9 a3 .byte [(.int (c0.toInt8.toInt32)), (.int (c1.toInt8.toInt32))] := A_9
  refine Go.s T_9 (mkF m 55 #[vR a1, vI 3, vR a3, vI 2, vI 2, vI 2, vI c1] [(.int 2)]) (fun _ hr => st_9 _ (yf X_9 hx (D 21 rfl) rfl rfl (yf X_9 hx (D 22 rfl) rfl rfl (yf X_9 hx (D 23 rfl) rfl rfl (yg X_9 hx (D 24 rfl) (pc' := 10) rfl (yi X_9 hx (D 6 rfl) rfl (yi X_9 hx (D 7 rfl) rfl (yY X_9 hx (D 8 rfl) (pc' := 53) (XT.ii_ge_t (by decide)) rfl (yi X_9 hx (D 25 rfl) rfl hr))))))))) ?_
  refine Go.retI X_9 hx hlk hret (D 26 rfl) (by decide) (by decide) ?_
  try rw [e_9]
  exact ⟨rfl, N_9, (((Keep.refl h0 [a3]).wr W_5 (Or.inl (by simp))).wr W_9 (Or.inl (by simp))), B_9⟩
theorem rmCBA3 (hw : own_W a0 Z) (a1 : Nat) (h0 : Heap) (n0 : Nat) (Z0 : n0 ≤ h0.size) (O0 : Old Z n0 h0) (SAD : sAD Z) (SHI : sHI Z) (SLO : sLO Z) (vfm : Value) (rfm : vfm.isRef = true) (SFM : sFM Z vfm) (c0 c1 : Int32) (Ab : Ary Z h0 a1 .byte [(.int (own_lo 65279)), (.int (own_hi 65279)), (.int (own_lo c0)), (.int (own_hi c0)), (.int (own_lo c1)), (.int (own_hi c1))]) (q0 : own_rg c0) (q1 : own_rg c1) :
    Con l Z ⟨"java/lang/StringUTF16", "compress", "([BII)[B"⟩ jdk_52_method_17_code 6 (some (.array .byte)) ⟨4, 1, 2, 61⟩ #[(.ref a1), (.int 1), (.int 2)] h0 (fun v h L => ∃ a : Nat, v = some (.ref a) ∧ Fr n0 L ∧ Keep h0 h [] ∧ h0.size ≤ a ∧ Ary Z h a .byte [(.int c0.toInt8.toInt32), (.int c1.toInt8.toInt32)]) := by
  refine Con.o (L := #[vR a1, vI 1, vI 2, vU, vU, vU]) n0 d53 pf_32 (by simp [argsToLocals, Value.category]) ?_
  intro p e s m _ _ c T0 X0 hx hby hml hZ hown hnm hret hlk e0 N0 D
  have lt_1 := own_ltA Ab
  let j_362 := (mkF m 1 #[vR a1, vI 1, vI 2, vU, vU, vU] [(.int 2)])
  refine Go.s T0 j_362 (fun _ hr => yj X0 hx (D 0 rfl) rfl hr) ?_
  obtain ⟨T_2, h_2, X_2, e_2, E_2, A_2, st_2⟩ := own_newP X0 hx hZ (ty := .byte) rfl (hq hw 11 rfl) e0 (g := j_362) rfl (D 1 rfl) rfl (by decide) (cap := 2) (by decide) (by decide) (by decide) (by decide)
  obtain ⟨ad_2, g_2⟩ : ∃ z, z = h0.size := ⟨_, rfl⟩
  rw [← g_2] at A_2 st_2
  have z_2 := E_2.1
  have y_2 := own_ltA A_2
  have B_2 : Ary Z h_2 ad_2 .byte [(.int 0), (.int 0)] := A_2
  let j_363 := (mkF m 9 #[vR a1, vI 1, vI 2, vR ad_2, vU, vU] [(.int 2), (.int 0), (.ref ad_2), (.int 1), (.ref a1)])
  refine Go.s T_2 j_363 (fun _ hr => st_2 _ (yn X_2 hx (D 2 rfl) rfl rfl (yb X_2 hx (D 3 rfl) rfl rfl (yj X_2 hx (D 4 rfl) rfl (yb X_2 hx (D 5 rfl) rfl rfl (yc X_2 hx (D 6 rfl) (yj X_2 hx (D 7 rfl) rfl hr))))))) ?_
  have F_4 := (O0.ext E_2)
  have F_5 := (Ab.ext E_2)
  obtain ⟨v_3, T_3, h_3, L_3, X_3, e_3, ⟨rfl, N_3, K_3, B_3⟩, st_3⟩ := cS X_2 hx hZ hown (hq hw 275 rfl) (hq hw 276 rfl) (hq hw 34 rfl) (hq hw 277 rfl) e_2 hml (rmCB3 l Z a0 hw a1 ad_2 h_2 n0 (by omega) F_4 SAD SHI SLO vfm rfm SFM c0 c1 F_5 q0 q1 B_2 (by omega) (own_ne (by omega))) (g := j_363) rfl rfl (lenOf pd_17 rfl) rfl (D 8 rfl) (W := 0) rfl rfl (by decide)
  have N_3' := Fr.app N0 N_3
  have z_3 := K_3.1
  refine Go.s T_3 (mkF m 65 #[vR a1, vI 1, vI 2, vR ad_2, vI 2, vU] [(.ref ad_2)]) (fun _ hr => st_3 _ (yk X_3 hx (D 9 rfl) rfl (yi X_3 hx (D 10 rfl) rfl (yj X_3 hx (D 11 rfl) rfl (yY X_3 hx (D 12 rfl) (pc' := 64) (XT.ii_eq_t (by decide)) rfl (yb X_3 hx (D 13 rfl) rfl rfl hr)))))) ?_
  refine Go.retA X_3 hx hlk (t := (.array .byte)) hret rfl rfl (D 14 rfl) (by decide) (by decide) ?_
  try rw [e_3]
  exact ⟨ad_2, rfl, N_3', (((Keep.refl h0 []).ext E_2).trans K_3 (own_t1 (by first | exact Or.inr (by omega) | exact Or.inl (by simp)))), by omega, B_3⟩
theorem rmNS3 (hw : own_W a0 Z) (a1 : Nat) (h0 : Heap) (n0 : Nat) (Z0 : n0 ≤ h0.size) (vcs : Int32) (hcs : ¬ vcs = 0) (O0 : Old Z n0 h0) (SCS : sCS Z vcs) (SAD : sAD Z) (SHI : sHI Z) (SLO : sLO Z) (vfm : Value) (rfm : vfm.isRef = true) (SFM : sFM Z vfm) (c0 c1 : Int32) (Ab : Ary Z h0 a1 .byte [(.int (own_lo 65279)), (.int (own_hi 65279)), (.int (own_lo c0)), (.int (own_hi c0)), (.int (own_lo c1)), (.int (own_hi c1))]) (q0 : own_rg c0) (q1 : own_rg c1) :
    Con l Z ⟨"java/lang/StringUTF16", "newString", "([BII)Ljava/lang/String;"⟩ jdk_52_method_69_code 5 (some (.object "java/lang/String")) ⟨5, 2, 6, 78⟩ #[(.ref a1), (.int 1), (.int 2)] h0 (fun v h L => ∃ sa : Nat, v = some (.ref sa) ∧ Fr n0 L ∧ Keep h0 h [] ∧ h0.size ≤ sa ∧ Exa Z h sa "java/lang/String" ∧ ∃ vb : Nat, h0.size ≤ vb ∧ fV Z h sa (.ref vb) ∧ fC Z h sa (.int 0) ∧ Ary Z h vb .byte [(.int c0.toInt8.toInt32), (.int c1.toInt8.toInt32)]) := by
  refine Con.o (L := #[vR a1, vI 1, vI 2, vU, vU]) n0 d54 pf_33 (by simp [argsToLocals, Value.category]) ?_
  intro p e s m _ _ c T0 X0 hx hby hml hZ hown hnm hret hlk e0 N0 D
  have lt_1 := own_ltA Ab
  let j_364 := (mkF m 8 #[vR a1, vI 1, vI 2, vU, vU] [])
  refine Go.s T0 j_364 (fun _ hr => yj X0 hx (D 0 rfl) rfl (yX X0 hx (D 1 rfl) (pc' := 8) (XT.i0_ne_t (by decide)) rfl hr)) ?_
  obtain ⟨T_2, X_2, e_2, st_2⟩ := getS2 X0 hx hZ hown (host := "") (Or.inl (hq hw 271 rfl)) Via.refl e0 (SCS.ext O0.2) (g := j_364) rfl (D 4 rfl)
  let j_365 := (mkF m 17 #[vR a1, vI 1, vI 2, vU, vU] [(.int 2), (.int 1), (.ref a1)])
  refine Go.s T_2 j_365 (fun _ hr => st_2 _ (yM X_2 hx (D 5 rfl) (XT.i0_eq_f hcs) (yb X_2 hx (D 6 rfl) rfl rfl (yj X_2 hx (D 7 rfl) rfl (yj X_2 hx (D 8 rfl) rfl hr))))) ?_
  obtain ⟨v_3, T_3, h_3, L_3, X_3, e_3, ⟨cb_3, rfl, N_3, K_3, g_3, B_3⟩, st_3⟩ := cS X_2 hx hZ hown (hq hw 272 rfl) (hq hw 273 rfl) (hq hw 34 rfl) (hq hw 274 rfl) e_2 hml (rmCBA3 l Z a0 hw a1 h0 n0 (by omega) O0 SAD SHI SLO vfm rfm SFM c0 c1 Ab q0 q1) (g := j_365) rfl rfl (lenOf pd_18 rfl) rfl (D 9 rfl) (W := 0) rfl rfl (by decide)
  have N_3' := Fr.app N0 N_3
  have z_3 := K_3.1
  have yy_3 := own_ltA B_3
  let j_366 := (mkF m 23 #[vR a1, vI 1, vI 2, vR cb_3, vU] [(.int 2), (.ref cb_3)])
  refine Go.s T_3 j_366 (fun _ hr => st_3 _ (yn X_3 hx (D 10 rfl) rfl rfl (yb X_3 hx (D 11 rfl) rfl rfl (yj X_3 hx (D 12 rfl) rfl hr)))) ?_
  obtain ⟨v_4, T_4, h_4, L_4, X_4, e_4, ⟨rfl, N_4, hh_4⟩, st_4⟩ := cS X_3 hx hZ hown (hq hw 287 rfl) (hq hw 40 rfl) (hq hw 34 rfl) (hq hw 41 rfl) e_3 hml (rmCF2 l Z a0 hw cb_3 h_3 n0 (by omega) [(.int c0.toInt8.toInt32), (.int c1.toInt8.toInt32)] B_3 rfl) (g := j_366) rfl rfl (lenOf pd_2 rfl) rfl (D 13 rfl) (W := 0) rfl rfl (by decide)
  have N_4' := Fr.app N_3' N_4
  rw [hh_4] at e_4
  let j_367 := (mkF m 28 #[vR a1, vI 1, vI 2, vR cb_3, vI 0] [])
  refine Go.s T_4 j_367 (fun _ hr => st_4 _ (yk X_4 hx (D 14 rfl) rfl hr)) ?_
  obtain ⟨T_5, h_5, X_5, e_5, E_5, A_5, D_5, -, st_5⟩ := newO X_4 hx hZ hown (hq hw 288 rfl) (hq hw 10 rfl) (hq hw 9 rfl) e_4 (g := j_367) rfl (D 15 rfl) (by decide) (by decide)
  obtain ⟨ad_5, g_5⟩ : ∃ z, z = h_3.size := ⟨_, rfl⟩
  rw [← g_5] at A_5 D_5 st_5
  have z_5 := E_5.1
  have y_5 := own_ltE A_5
  have F_5_value : fV Z h_5 ad_5 .null := D_5 (Or.inr (hq hw 12 rfl)) (ty := (.array .byte)) (by decide)
  have F_5_coder : fC Z h_5 ad_5 (.int 0) := D_5 (Or.inr (hq hw 13 rfl)) (ty := .byte) (by decide)
  let j_368 := (mkF m 35 #[vR a1, vI 1, vI 2, vR cb_3, vI 0] [(.int 0), (.ref cb_3), (.ref ad_5), (.ref ad_5)])
  refine Go.s T_5 j_368 (fun _ hr => st_5 _ (yd X_5 hx (D 16 rfl) rfl (yb X_5 hx (D 17 rfl) rfl rfl (yi X_5 hx (D 18 rfl) rfl hr)))) ?_
  obtain ⟨v_6, T_6, h_6, L_6, X_6, e_6, ⟨rfl, N_6, K_6, F1_6, F2_6⟩, st_6⟩ := cN X_5 hx hZ hown (hq hw 289 rfl) (hq hw 290 rfl) (hq hw 9 rfl) (hq hw 291 rfl) e_5 rfl hml (rmSB l Z a0 hw ad_5 cb_3 h_5 n0 (by omega) A_5 F_5_value F_5_coder (by omega)) (g := j_368) rfl rfl (lenOf pd_19 rfl) rfl (D 19 rfl) (W := 1) rfl rfl (by decide)
  have N_6' := Fr.app N_4' N_6
  have z_6 := K_6.1
  refine Go.s T_6 (mkF m 38 #[vR a1, vI 1, vI 2, vR cb_3, vI 0] [(.ref ad_5)]) st_6 ?_
  refine Go.retA X_6 hx hlk (t := (.object "java/lang/String")) hret rfl rfl (D 20 rfl) (by decide) (by decide) ?_
  try rw [e_6]
  have F_7 := (A_5.keep K_6)
  have F_8 := ((B_3.ext E_5).keep K_6 (own_n1 (by omega)))
  exact ⟨ad_5, rfl, N_6', ((((Keep.refl h0 []).trans K_3 all0).ext E_5).trans K_6 (own_t1 (by first | exact Or.inr (by omega) | exact Or.inl (by simp)))), by omega, F_7, cb_3, by omega, F1_6, F2_6, F_8⟩
theorem rmSubB3 (hw : own_W a0 Z) (a1 : Nat) (h0 : Heap) (n0 : Nat) (Z0 : n0 ≤ h0.size) (vcs : Int32) (hcs : ¬ vcs = 0) (O0 : Old Z n0 h0) (SCS : sCS Z vcs) (SAD : sAD Z) (SHI : sHI Z) (SLO : sLO Z) (vfm : Value) (rfm : vfm.isRef = true) (SFM : sFM Z vfm) (vb : Nat) (E1 : Exa Z h0 a1 "java/lang/String") (Fv : fV Z h0 a1 (.ref vb)) (Fc : fC Z h0 a1 (.int 1)) (c0 c1 : Int32) (Ab : Ary Z h0 vb .byte [(.int (own_lo 65279)), (.int (own_hi 65279)), (.int (own_lo c0)), (.int (own_hi c0)), (.int (own_lo c1)), (.int (own_hi c1))]) (q0 : own_rg c0) (q1 : own_rg c1) :
    Con l Z ⟨"java/lang/String", "substring", "(II)Ljava/lang/String;"⟩ jdk_42_method_92_code 5 (some (.object "java/lang/String")) ⟨6, 2, 6, 94⟩ #[(.ref a1), (.int 1), (.int 3)] h0 (fun v h L => ∃ sa : Nat, v = some (.ref sa) ∧ Fr n0 L ∧ Keep h0 h [] ∧ h0.size ≤ sa ∧ Exa Z h sa "java/lang/String" ∧ ∃ vb : Nat, h0.size ≤ vb ∧ fV Z h sa (.ref vb) ∧ fC Z h sa (.int 0) ∧ Ary Z h vb .byte [(.int c0.toInt8.toInt32), (.int c1.toInt8.toInt32)]) := by
  refine Con.o (L := #[vR a1, vI 1, vI 3, vU, vU]) n0 d55 pf_34 (by simp [argsToLocals, Value.category]) ?_
  intro p e s m _ _ c T0 X0 hx hby hml hZ hown hnm hret hlk e0 N0 D
  have lt_1 := own_ltE E1
  have lt_2 := own_ltA Ab
  let j_369 := (mkF m 1 #[vR a1, vI 1, vI 3, vU, vU] [(.ref a1)])
  refine Go.s T0 j_369 (fun _ hr => yb X0 hx (D 0 rfl) rfl rfl hr) ?_
  obtain ⟨v_3, T_3, h_3, L_3, X_3, e_3, ⟨rfl, N_3, hh_3⟩, st_3⟩ := cV X0 hx hZ hown (hq hw 255 rfl) (hq hw 150 rfl) (hq hw 152 rfl) (hq hw 152 rfl) (hq hw 151 rfl) (hq hw 9 rfl) (hq hw 153 rfl) e0 E1 hml (rmLnU3 l Z a0 hw a1 h0 n0 (by omega) vcs hcs O0 SCS SAD SHI SLO vfm rfm SFM vb E1 Fv Fc c0 c1 Ab q0 q1) (g := j_369) rfl rfl (lenOf pd_20 rfl) rfl (D 1 rfl) (W := 0) rfl rfl (by decide)
  have N_3' := Fr.app N0 N_3
  rw [hh_3] at e_3
  let j_370 := (mkF m 8 #[vR a1, vI 1, vI 3, vI 3, vU] [(.int 3), (.int 3), (.int 1)])
  refine Go.s T_3 j_370 (fun _ hr => st_3 _ (yl X_3 hx (D 2 rfl) rfl (yj X_3 hx (D 3 rfl) rfl (yj X_3 hx (D 4 rfl) rfl (yj X_3 hx (D 5 rfl) rfl hr))))) ?_
  obtain ⟨v_4, T_4, h_4, L_4, X_4, e_4, ⟨rfl, N_4, hh_4⟩, st_4⟩ := cS X_3 hx hZ hown (hq hw 261 rfl) (hq hw 262 rfl) (hq hw 9 rfl) (hq hw 263 rfl) e_3 hml (rmCBB l Z a0 hw 1 3 3 h0 n0 (by omega) O0 vfm rfm SFM (by decide) (by decide) (by decide)) (g := j_370) rfl rfl (lenOf pd_21 rfl) rfl (D 6 rfl) (W := 0) rfl rfl (by decide)
  have N_4' := Fr.app N_3' N_4
  rw [hh_4] at e_4
  refine Go.s T_4 (mkF m 24 #[vR a1, vI 1, vI 3, vI 3, vU] [(.int 1), (.int 3)]) (fun _ hr => st_4 _ (yj X_4 hx (D 7 rfl) rfl (yX X_4 hx (D 8 rfl) (pc' := 22) (XT.i0_ne_t (by decide)) rfl (yj X_4 hx (D 9 rfl) rfl (yj X_4 hx (D 10 rfl) rfl hr))))) ?_
  let j_371 := (mkF m 28 #[vR a1, vI 1, vI 3, vI 3, vI 2] [(.ref a1)])
  refine Go.s T_4 j_371 (fun _ hr => y2 X_4 hx (D 11 rfl) (yk X_4 hx (D 12 rfl) rfl (yb X_4 hx (D 13 rfl) rfl rfl hr))) ?_
  obtain ⟨v_5, T_5, h_5, L_5, X_5, e_5, ⟨rfl, N_5, hh_5⟩, st_5⟩ := cV X_4 hx hZ hown (hq hw 60 rfl) (hq hw 61 rfl) (hq hw 63 rfl) (hq hw 63 rfl) (hq hw 62 rfl) (hq hw 9 rfl) (hq hw 64 rfl) e_4 E1 hml (rmIL1 l Z a0 hw a1 h0 n0 (by omega) vcs hcs O0 SCS vb E1 Fv Fc [(.int (own_lo 65279)), (.int (own_hi 65279)), (.int (own_lo c0)), (.int (own_hi c0)), (.int (own_lo c1)), (.int (own_hi c1))] Ab) (g := j_371) rfl rfl (lenOf pd_12 rfl) rfl (D 14 rfl) (W := 0) rfl rfl (by decide)
  have N_5' := Fr.app N_4' N_5
  rw [hh_5] at e_5
  let j_372 := (mkF m 48 #[vR a1, vI 1, vI 3, vI 3, vI 2] [(.ref a1)])
  refine Go.s T_5 j_372 (fun _ hr => st_5 _ (yX X_5 hx (D 15 rfl) (pc' := 47) (XT.i0_eq_t (by decide)) rfl (yb X_5 hx (D 16 rfl) rfl rfl hr))) ?_
  obtain ⟨T_6, X_6, e_6, st_6⟩ := getF X_5 hx hZ hown (host := "") (Or.inl (hq hw 43 rfl)) Via.refl e_5 Fv (g := j_372) rfl rfl (D 17 rfl)
  let j_373 := (mkF m 54 #[vR a1, vI 1, vI 3, vI 3, vI 2] [(.int 2), (.int 1), (.ref vb)])
  refine Go.s T_6 j_373 (fun _ hr => st_6 _ (yj X_6 hx (D 18 rfl) rfl (yi X_6 hx (D 19 rfl) rfl hr))) ?_
  obtain ⟨v_7, T_7, h_7, L_7, X_7, e_7, ⟨sa_7, rfl, N_7, K_7, g_7, E1_7, vb_7, gg_7, F1_7, F2_7, B_7⟩, st_7⟩ := cS X_6 hx hZ hown (hq hw 267 rfl) (hq hw 268 rfl) (hq hw 34 rfl) (hq hw 269 rfl) e_6 hml (rmNS3 l Z a0 hw vb h0 n0 (by omega) vcs hcs O0 SCS SAD SHI SLO vfm rfm SFM c0 c1 Ab q0 q1) (g := j_373) rfl rfl (lenOf pd_22 rfl) rfl (D 20 rfl) (W := 0) rfl rfl (by decide)
  have N_7' := Fr.app N_5' N_7
  have z_7 := K_7.1
  have yv_7 := own_ltA B_7
  have ys_7 := own_ltE E1_7
  refine Go.s T_7 (mkF m 57 #[vR a1, vI 1, vI 3, vI 3, vI 2] [(.ref sa_7)]) st_7 ?_
  refine Go.retA X_7 hx hlk (t := (.object "java/lang/String")) hret rfl rfl (D 21 rfl) (by decide) (by decide) ?_
  try rw [e_7]
  exact ⟨sa_7, rfl, N_7', ((Keep.refl h0 []).trans K_7 all0), by omega, E1_7, vb_7, by omega, F1_7, F2_7, B_7⟩
theorem rmSubA3 (hw : own_W a0 Z) (a1 : Nat) (h0 : Heap) (n0 : Nat) (Z0 : n0 ≤ h0.size) (vcs : Int32) (hcs : ¬ vcs = 0) (O0 : Old Z n0 h0) (SCS : sCS Z vcs) (SAD : sAD Z) (SHI : sHI Z) (SLO : sLO Z) (vfm : Value) (rfm : vfm.isRef = true) (SFM : sFM Z vfm) (vb : Nat) (E1 : Exa Z h0 a1 "java/lang/String") (Fv : fV Z h0 a1 (.ref vb)) (Fc : fC Z h0 a1 (.int 1)) (c0 c1 : Int32) (Ab : Ary Z h0 vb .byte [(.int (own_lo 65279)), (.int (own_hi 65279)), (.int (own_lo c0)), (.int (own_hi c0)), (.int (own_lo c1)), (.int (own_hi c1))]) (q0 : own_rg c0) (q1 : own_rg c1) :
    Con l Z ⟨"java/lang/String", "substring", "(I)Ljava/lang/String;"⟩ jdk_42_method_91_code 2 (some (.object "java/lang/String")) ⟨7, 2, 6, 110⟩ #[(.ref a1), (.int 1)] h0 (fun v h L => ∃ sa : Nat, v = some (.ref sa) ∧ Fr n0 L ∧ Keep h0 h [] ∧ h0.size ≤ sa ∧ Exa Z h sa "java/lang/String" ∧ ∃ vb : Nat, h0.size ≤ vb ∧ fV Z h sa (.ref vb) ∧ fC Z h sa (.int 0) ∧ Ary Z h vb .byte [(.int c0.toInt8.toInt32), (.int c1.toInt8.toInt32)]) := by
  refine Con.o (L := #[vR a1, vI 1]) n0 d56 pf_35 (by simp [argsToLocals, Value.category]) ?_
  intro p e s m _ _ c T0 X0 hx hby hml hZ hown hnm hret hlk e0 N0 D
  have lt_1 := own_ltE E1
  have lt_2 := own_ltA Ab
  let j_374 := (mkF m 3 #[vR a1, vI 1] [(.ref a1), (.int 1), (.ref a1)])
  refine Go.s T0 j_374 (fun _ hr => yb X0 hx (D 0 rfl) rfl rfl (yj X0 hx (D 1 rfl) rfl (yb X0 hx (D 2 rfl) rfl rfl hr))) ?_
  obtain ⟨v_3, T_3, h_3, L_3, X_3, e_3, ⟨rfl, N_3, hh_3⟩, st_3⟩ := cV X0 hx hZ hown (hq hw 255 rfl) (hq hw 150 rfl) (hq hw 152 rfl) (hq hw 152 rfl) (hq hw 151 rfl) (hq hw 9 rfl) (hq hw 153 rfl) e0 E1 hml (rmLnU3 l Z a0 hw a1 h0 n0 (by omega) vcs hcs O0 SCS SAD SHI SLO vfm rfm SFM vb E1 Fv Fc c0 c1 Ab q0 q1) (g := j_374) rfl rfl (lenOf pd_20 rfl) rfl (D 3 rfl) (W := 2) rfl rfl (by decide)
  have N_3' := Fr.app N0 N_3
  rw [hh_3] at e_3
  let j_375 := (mkF m 6 #[vR a1, vI 1] [(.int 3), (.int 1), (.ref a1)])
  refine Go.s T_3 j_375 st_3 ?_
  obtain ⟨v_4, T_4, h_4, L_4, X_4, e_4, ⟨sa_4, rfl, N_4, K_4, g_4, E1_4, vb_4, gg_4, F1_4, F2_4, B_4⟩, st_4⟩ := cV X_3 hx hZ hown (hq hw 256 rfl) (hq hw 257 rfl) (hq hw 259 rfl) (hq hw 259 rfl) (hq hw 258 rfl) (hq hw 9 rfl) (hq hw 260 rfl) e_3 E1 hml (rmSubB3 l Z a0 hw a1 h0 n0 (by omega) vcs hcs O0 SCS SAD SHI SLO vfm rfm SFM vb E1 Fv Fc c0 c1 Ab q0 q1) (g := j_375) rfl rfl (lenOf pd_23 rfl) rfl (D 4 rfl) (W := 0) rfl rfl (by decide)
  have N_4' := Fr.app N_3' N_4
  have z_4 := K_4.1
  have yv_4 := own_ltA B_4
  have ys_4 := own_ltE E1_4
  refine Go.s T_4 (mkF m 9 #[vR a1, vI 1] [(.ref sa_4)]) st_4 ?_
  refine Go.retA X_4 hx hlk (t := (.object "java/lang/String")) hret rfl rfl (D 5 rfl) (by decide) (by decide) ?_
  try rw [e_4]
  exact ⟨sa_4, rfl, N_4', ((Keep.refl h0 []).trans K_4 all0), by omega, E1_4, vb_4, by omega, F1_4, F2_4, B_4⟩
theorem rmBO4 (hw : own_W a0 Z) (a1 : Nat) (h0 : Heap) (n0 : Nat) (Z0 : n0 ≤ h0.size) (O0 : Old Z n0 h0) (vfm : Value) (rfm : vfm.isRef = true) (SFM : sFM Z vfm) (c0 c1 c2 : Int32) (Ab : Ary Z h0 a1 .byte [(.int (own_lo 65279)), (.int (own_hi 65279)), (.int (own_lo c0)), (.int (own_hi c0)), (.int (own_lo c1)), (.int (own_hi c1)), (.int (own_lo c2)), (.int (own_hi c2))]) (q0 : own_rg c0) (q1 : own_rg c1) (q2 : own_rg c2) :
    Con l Z ⟨"java/lang/StringUTF16", "checkBoundsOffCount", "(II[B)V"⟩ jdk_52_method_94_code 3 none ⟨2, 0, 0, 29⟩ #[(.int 1), (.int 3), (.ref a1)] h0 (fun v h L => v = none ∧ Fr n0 L ∧ h = h0) := by
  refine Con.o (L := #[vI 1, vI 3, vR a1]) n0 d51 pf_30 (by simp [argsToLocals, Value.category]) ?_
  intro p e s m _ _ c T0 X0 hx hby hml hZ hown hnm hret hlk e0 N0 D
  have lt_1 := own_ltA Ab
  let j_376 := (mkF m 3 #[vI 1, vI 3, vR a1] [(.ref a1), (.int 3), (.int 1)])
  refine Go.s T0 j_376 (fun _ hr => yj X0 hx (D 0 rfl) rfl (yj X0 hx (D 1 rfl) rfl (yb X0 hx (D 2 rfl) rfl rfl hr))) ?_
  obtain ⟨v_2, T_2, h_2, L_2, X_2, e_2, ⟨rfl, N_2, hh_2⟩, st_2⟩ := cS X0 hx hZ hown (hq hw 246 rfl) (hq hw 247 rfl) (hq hw 34 rfl) (hq hw 248 rfl) e0 hml (rmUL4 l Z a0 hw a1 h0 n0 (by omega) c0 c1 c2 Ab q0 q1 q2) (g := j_376) rfl rfl (lenOf pd_13 rfl) rfl (D 3 rfl) (W := 2) rfl rfl (by decide)
  have N_2' := Fr.app N0 N_2
  rw [hh_2] at e_2
  let j_377 := (mkF m 6 #[vI 1, vI 3, vR a1] [(.int 4), (.int 3), (.int 1)])
  refine Go.s T_2 j_377 st_2 ?_
  obtain ⟨v_3, T_3, h_3, L_3, X_3, e_3, ⟨rfl, N_3, hh_3⟩, st_3⟩ := cS X_2 hx hZ hown (hq hw 281 rfl) (hq hw 282 rfl) (hq hw 9 rfl) (hq hw 283 rfl) e_2 hml (rmCBO l Z a0 hw 1 3 4 h0 n0 (by omega) O0 vfm rfm SFM (by decide) (by decide)) (g := j_377) rfl rfl (lenOf pd_15 rfl) rfl (D 4 rfl) (W := 0) rfl rfl (by decide)
  have N_3' := Fr.app N_2' N_3
  rw [hh_3] at e_3
  refine Go.s T_3 (mkF m 10 #[vI 1, vI 3, vR a1] []) (fun _ hr => st_3 _ (y0 X_3 hx (D 5 rfl) rfl hr)) ?_
  refine Go.retV X_3 hx hlk hret (D 6 rfl) (by decide) (by decide) ?_
  try rw [e_3]
  exact ⟨rfl, N_3', rfl⟩
theorem rmCB4 (hw : own_W a0 Z) (a1 : Nat) (a3 : Nat) (h0 : Heap) (n0 : Nat) (Z0 : n0 ≤ h0.size) (O0 : Old Z n0 h0) (SAD : sAD Z) (SHI : sHI Z) (SLO : sLO Z) (vfm : Value) (rfm : vfm.isRef = true) (SFM : sFM Z vfm) (c0 c1 c2 : Int32) (Ab : Ary Z h0 a1 .byte [(.int (own_lo 65279)), (.int (own_hi 65279)), (.int (own_lo c0)), (.int (own_hi c0)), (.int (own_lo c1)), (.int (own_hi c1)), (.int (own_lo c2)), (.int (own_hi c2))]) (q0 : own_rg c0) (q1 : own_rg c1) (q2 : own_rg c2) (Ad : Ary Z h0 a3 .byte [(.int 0), (.int 0), (.int 0)]) (g3 : n0 ≤ a3) (hne : a1 ≠ a3) :
    Con l Z ⟨"java/lang/StringUTF16", "compress", "([BI[BII)I"⟩ jdk_52_method_22_code 7 (some .int) ⟨3, 0, 0, 43⟩ #[(.ref a1), (.int 1), (.ref a3), (.int 0), (.int 3)] h0 (fun v h L => v = some (.int 3) ∧ Fr n0 L ∧ Keep h0 h [a3] ∧ Ary Z h a3 .byte [(.int c0.toInt8.toInt32), (.int c1.toInt8.toInt32), (.int c2.toInt8.toInt32)]) := by
  refine Con.o (L := #[vR a1, vI 1, vR a3, vI 0, vI 3, vU, vU]) n0 d52 pf_31 (by simp [argsToLocals, Value.category]) ?_
  intro p e s m _ _ c T0 X0 hx hby hml hZ hown hnm hret hlk e0 N0 D
  have lt_1 := own_ltA Ab
  have lt_2 := own_ltA Ad
  let j_378 := (mkF m 4 #[vR a1, vI 1, vR a3, vI 0, vI 3, vU, vU] [(.ref a1), (.int 3), (.int 1)])
  refine Go.s T0 j_378 (fun _ hr => yj X0 hx (D 0 rfl) rfl (yi X0 hx (D 1 rfl) rfl (yb X0 hx (D 2 rfl) rfl rfl hr))) ?_
  obtain ⟨v_3, T_3, h_3, L_3, X_3, e_3, ⟨rfl, N_3, hh_3⟩, st_3⟩ := cS X0 hx hZ hown (hq hw 278 rfl) (hq hw 279 rfl) (hq hw 34 rfl) (hq hw 280 rfl) e0 hml (rmBO4 l Z a0 hw a1 h0 n0 (by omega) O0 vfm rfm SFM c0 c1 c2 Ab q0 q1 q2) (g := j_378) rfl rfl (lenOf pd_16 rfl) rfl (D 3 rfl) (W := 0) rfl rfl (by decide)
  have N_3' := Fr.app N0 N_3
  rw [hh_3] at e_3
  let j_379 := (mkF m 19 #[vR a1, vI 1, vR a3, vI 0, vI 3, vI 0, vU] [(.int 1), (.ref a1)])
  refine Go.s T_3 j_379 (fun _ hr => st_3 _ (yc X_3 hx (D 4 rfl) (yk X_3 hx (D 5 rfl) rfl (yi X_3 hx (D 6 rfl) rfl (yi X_3 hx (D 7 rfl) rfl (yN X_3 hx (D 8 rfl) (XT.ii_ge_f (by decide)) (yb X_3 hx (D 9 rfl) rfl rfl (yj X_3 hx (D 10 rfl) rfl hr)))))))) ?_
  obtain ⟨v_4, T_4, h_4, L_4, X_4, e_4, ⟨rfl, N_4, hh_4⟩, st_4⟩ := cS X_3 hx hZ hown (hq hw 237 rfl) (hq hw 238 rfl) (hq hw 34 rfl) (hq hw 239 rfl) e_3 hml (rmGet l Z a0 hw a1 (1 : Int32) h0 n0 (by omega) O0 SAD SHI SLO [(.int (own_lo 65279)), (.int (own_hi 65279)), (.int (own_lo c0)), (.int (own_hi c0)), (.int (own_lo c1)), (.int (own_hi c1)), (.int (own_lo c2)), (.int (own_hi c2))] 1 rfl (by decide) Ab (by simp +decide) c0 q0.1 (by have := q0.2; omega) rfl rfl) (g := j_379) rfl rfl (lenOf pd_7 rfl) rfl (D 11 rfl) (W := 0) rfl rfl (by decide)
  have N_4' := Fr.app N_3' N_4
  rw [hh_4] at e_4
  let j_380 := (mkF m 40 #[vR a1, vI 1, vR a3, vI 0, vI 3, vI 0, vI c0] [(.int (c0.toInt8.toInt32)), (.int 0), (.ref a3)])
  refine Go.s T_4 j_380 (fun _ hr => st_4 _ (yk X_4 hx (D 12 rfl) rfl (yi X_4 hx (D 13 rfl) rfl (yq X_4 hx (D 14 rfl) (yY X_4 hx (D 15 rfl) (pc' := 35) (XT.ii_le_t (own_rg_n q0)) rfl (yb X_4 hx (D 16 rfl) rfl rfl (yj X_4 hx (D 17 rfl) rfl (yi X_4 hx (D 18 rfl) rfl (y8 X_4 hx (D 19 rfl) hr))))))))) ?_
  obtain ⟨T_5, h_5, X_5, e_5, W_5, A_5, st_5⟩ := own_stB X_4 hx hZ e_4 Ad (j := 0) (by decide) (by simp +decide) (g := j_380) rfl rfl (D 20 rfl)
  have N_5 := Fr.snoc X_5 N_4' (by omega)
  have z_5 := W_5.size
  rw [show nar .byte (c0.toInt8.toInt32) = (c0.toInt8.toInt32) from (own_idemB c0)] at A_5
  have B_5 : Ary Z h_5 a3 .byte [(.int (c0.toInt8.toInt32)), (.int 0), (.int 0)] := A_5
  let j_381 := (mkF m 19 #[vR a1, vI 2, vR a3, vI 1, vI 3, vI 1, vI c0] [(.int 2), (.ref a1)])
  refine Go.s T_5 j_381 (fun _ hr => st_5 _ (yf X_5 hx (D 21 rfl) rfl rfl (yf X_5 hx (D 22 rfl) rfl rfl (yf X_5 hx (D 23 rfl) rfl rfl (yg X_5 hx (D 24 rfl) (pc' := 10) rfl (yi X_5 hx (D 6 rfl) rfl (yi X_5 hx (D 7 rfl) rfl (yN X_5 hx (D 8 rfl) (XT.ii_ge_f (by decide)) (yb X_5 hx (D 9 rfl) rfl rfl (yj X_5 hx (D 10 rfl) rfl hr)))))))))) ?_
  have F_7 := (O0.wr W_5 (by omega))
  have F_8 := (Ab.other W_5 (own_ne (by omega)))
  obtain ⟨v_6, T_6, h_6, L_6, X_6, e_6, ⟨rfl, N_6, hh_6⟩, st_6⟩ := cS X_5 hx hZ hown (hq hw 237 rfl) (hq hw 238 rfl) (hq hw 34 rfl) (hq hw 239 rfl) e_5 hml (rmGet l Z a0 hw a1 (2 : Int32) h_5 n0 (by omega) F_7 SAD SHI SLO [(.int (own_lo 65279)), (.int (own_hi 65279)), (.int (own_lo c0)), (.int (own_hi c0)), (.int (own_lo c1)), (.int (own_hi c1)), (.int (own_lo c2)), (.int (own_hi c2))] 2 rfl (by decide) F_8 (by simp +decide) c1 q1.1 (by have := q1.2; omega) rfl rfl) (g := j_381) rfl rfl (lenOf pd_7 rfl) rfl (D 11 rfl) (W := 0) rfl rfl (by decide)
  have N_6' := Fr.app N_5 N_6
  rw [hh_6] at e_6
  let j_382 := (mkF m 40 #[vR a1, vI 2, vR a3, vI 1, vI 3, vI 1, vI c1] [(.int (c1.toInt8.toInt32)), (.int 1), (.ref a3)])
  refine Go.s T_6 j_382 (fun _ hr => st_6 _ (yk X_6 hx (D 12 rfl) rfl (yi X_6 hx (D 13 rfl) rfl (yq X_6 hx (D 14 rfl) (yY X_6 hx (D 15 rfl) (pc' := 35) (XT.ii_le_t (own_rg_n q1)) rfl (yb X_6 hx (D 16 rfl) rfl rfl (yj X_6 hx (D 17 rfl) rfl (yi X_6 hx (D 18 rfl) rfl (y8 X_6 hx (D 19 rfl) hr))))))))) ?_
  obtain ⟨T_9, h_9, X_9, e_9, W_9, A_9, st_9⟩ := own_stB X_6 hx hZ e_6 B_5 (j := 1) (by decide) (by simp +decide) (g := j_382) rfl rfl (D 20 rfl)
  have N_9 := Fr.snoc X_9 N_6' (by omega)
  have z_9 := W_9.size
  rw [show nar .byte (c1.toInt8.toInt32) = (c1.toInt8.toInt32) from (own_idemB c1)] at A_9
  have B_9 : Ary Z h_9 a3 .byte [(.int (c0.toInt8.toInt32)), (.int (c1.toInt8.toInt32)), (.int 0)] := A_9
  let j_383 := (mkF m 19 #[vR a1, vI 3, vR a3, vI 2, vI 3, vI 2, vI c1] [(.int 3), (.ref a1)])
  refine Go.s T_9 j_383 (fun _ hr => st_9 _ (yf X_9 hx (D 21 rfl) rfl rfl (yf X_9 hx (D 22 rfl) rfl rfl (yf X_9 hx (D 23 rfl) rfl rfl (yg X_9 hx (D 24 rfl) (pc' := 10) rfl (yi X_9 hx (D 6 rfl) rfl (yi X_9 hx (D 7 rfl) rfl (yN X_9 hx (D 8 rfl) (XT.ii_ge_f (by decide)) (yb X_9 hx (D 9 rfl) rfl rfl (yj X_9 hx (D 10 rfl) rfl hr)))))))))) ?_
  have F_11 := (F_7.wr W_9 (by omega))
  have F_12 := (F_8.other W_9 (own_ne (by omega)))
  obtain ⟨v_10, T_10, h_10, L_10, X_10, e_10, ⟨rfl, N_10, hh_10⟩, st_10⟩ := cS X_9 hx hZ hown (hq hw 237 rfl) (hq hw 238 rfl) (hq hw 34 rfl) (hq hw 239 rfl) e_9 hml (rmGet l Z a0 hw a1 (3 : Int32) h_9 n0 (by omega) F_11 SAD SHI SLO [(.int (own_lo 65279)), (.int (own_hi 65279)), (.int (own_lo c0)), (.int (own_hi c0)), (.int (own_lo c1)), (.int (own_hi c1)), (.int (own_lo c2)), (.int (own_hi c2))] 3 rfl (by decide) F_12 (by simp +decide) c2 q2.1 (by have := q2.2; omega) rfl rfl) (g := j_383) rfl rfl (lenOf pd_7 rfl) rfl (D 11 rfl) (W := 0) rfl rfl (by decide)
  have N_10' := Fr.app N_9 N_10
  rw [hh_10] at e_10
  let j_384 := (mkF m 40 #[vR a1, vI 3, vR a3, vI 2, vI 3, vI 2, vI c2] [(.int (c2.toInt8.toInt32)), (.int 2), (.ref a3)])
  refine Go.s T_10 j_384 (fun _ hr => st_10 _ (yk X_10 hx (D 12 rfl) rfl (yi X_10 hx (D 13 rfl) rfl (yq X_10 hx (D 14 rfl) (yY X_10 hx (D 15 rfl) (pc' := 35) (XT.ii_le_t (own_rg_n q2)) rfl (yb X_10 hx (D 16 rfl) rfl rfl (yj X_10 hx (D 17 rfl) rfl (yi X_10 hx (D 18 rfl) rfl (y8 X_10 hx (D 19 rfl) hr))))))))) ?_
  obtain ⟨T_13, h_13, X_13, e_13, W_13, A_13, st_13⟩ := own_stB X_10 hx hZ e_10 B_9 (j := 2) (by decide) (by simp +decide) (g := j_384) rfl rfl (D 20 rfl)
  have N_13 := Fr.snoc X_13 N_10' (by omega)
  have z_13 := W_13.size
  rw [show nar .byte (c2.toInt8.toInt32) = (c2.toInt8.toInt32) from (own_idemB c2)] at A_13
  have B_13 : Ary Z h_13 a3 .byte [(.int (c0.toInt8.toInt32)), (.int (c1.toInt8.toInt32)), (.int (c2.toInt8.toInt32))] := A_13
  refine Go.s T_13 (mkF m 55 #[vR a1, vI 4, vR a3, vI 3, vI 3, vI 3, vI c2] [(.int 3)]) (fun _ hr => st_13 _ (yf X_13 hx (D 21 rfl) rfl rfl (yf X_13 hx (D 22 rfl) rfl rfl (yf X_13 hx (D 23 rfl) rfl rfl (yg X_13 hx (D 24 rfl) (pc' := 10) rfl (yi X_13 hx (D 6 rfl) rfl (yi X_13 hx (D 7 rfl) rfl (yY X_13 hx (D 8 rfl) (pc' := 53) (XT.ii_ge_t (by decide)) rfl (yi X_13 hx (D 25 rfl) rfl hr))))))))) ?_
  refine Go.retI X_13 hx hlk hret (D 26 rfl) (by decide) (by decide) ?_
  try rw [e_13]
  exact ⟨rfl, N_13, ((((Keep.refl h0 [a3]).wr W_5 (Or.inl (by simp))).wr W_9 (Or.inl (by simp))).wr W_13 (Or.inl (by simp))), B_13⟩
theorem rmCBA4 (hw : own_W a0 Z) (a1 : Nat) (h0 : Heap) (n0 : Nat) (Z0 : n0 ≤ h0.size) (O0 : Old Z n0 h0) (SAD : sAD Z) (SHI : sHI Z) (SLO : sLO Z) (vfm : Value) (rfm : vfm.isRef = true) (SFM : sFM Z vfm) (c0 c1 c2 : Int32) (Ab : Ary Z h0 a1 .byte [(.int (own_lo 65279)), (.int (own_hi 65279)), (.int (own_lo c0)), (.int (own_hi c0)), (.int (own_lo c1)), (.int (own_hi c1)), (.int (own_lo c2)), (.int (own_hi c2))]) (q0 : own_rg c0) (q1 : own_rg c1) (q2 : own_rg c2) :
    Con l Z ⟨"java/lang/StringUTF16", "compress", "([BII)[B"⟩ jdk_52_method_17_code 6 (some (.array .byte)) ⟨4, 1, 3, 61⟩ #[(.ref a1), (.int 1), (.int 3)] h0 (fun v h L => ∃ a : Nat, v = some (.ref a) ∧ Fr n0 L ∧ Keep h0 h [] ∧ h0.size ≤ a ∧ Ary Z h a .byte [(.int c0.toInt8.toInt32), (.int c1.toInt8.toInt32), (.int c2.toInt8.toInt32)]) := by
  refine Con.o (L := #[vR a1, vI 1, vI 3, vU, vU, vU]) n0 d53 pf_32 (by simp [argsToLocals, Value.category]) ?_
  intro p e s m _ _ c T0 X0 hx hby hml hZ hown hnm hret hlk e0 N0 D
  have lt_1 := own_ltA Ab
  let j_385 := (mkF m 1 #[vR a1, vI 1, vI 3, vU, vU, vU] [(.int 3)])
  refine Go.s T0 j_385 (fun _ hr => yj X0 hx (D 0 rfl) rfl hr) ?_
  obtain ⟨T_2, h_2, X_2, e_2, E_2, A_2, st_2⟩ := own_newP X0 hx hZ (ty := .byte) rfl (hq hw 11 rfl) e0 (g := j_385) rfl (D 1 rfl) rfl (by decide) (cap := 3) (by decide) (by decide) (by decide) (by decide)
  obtain ⟨ad_2, g_2⟩ : ∃ z, z = h0.size := ⟨_, rfl⟩
  rw [← g_2] at A_2 st_2
  have z_2 := E_2.1
  have y_2 := own_ltA A_2
  have B_2 : Ary Z h_2 ad_2 .byte [(.int 0), (.int 0), (.int 0)] := A_2
  let j_386 := (mkF m 9 #[vR a1, vI 1, vI 3, vR ad_2, vU, vU] [(.int 3), (.int 0), (.ref ad_2), (.int 1), (.ref a1)])
  refine Go.s T_2 j_386 (fun _ hr => st_2 _ (yn X_2 hx (D 2 rfl) rfl rfl (yb X_2 hx (D 3 rfl) rfl rfl (yj X_2 hx (D 4 rfl) rfl (yb X_2 hx (D 5 rfl) rfl rfl (yc X_2 hx (D 6 rfl) (yj X_2 hx (D 7 rfl) rfl hr))))))) ?_
  have F_4 := (O0.ext E_2)
  have F_5 := (Ab.ext E_2)
  obtain ⟨v_3, T_3, h_3, L_3, X_3, e_3, ⟨rfl, N_3, K_3, B_3⟩, st_3⟩ := cS X_2 hx hZ hown (hq hw 275 rfl) (hq hw 276 rfl) (hq hw 34 rfl) (hq hw 277 rfl) e_2 hml (rmCB4 l Z a0 hw a1 ad_2 h_2 n0 (by omega) F_4 SAD SHI SLO vfm rfm SFM c0 c1 c2 F_5 q0 q1 q2 B_2 (by omega) (own_ne (by omega))) (g := j_386) rfl rfl (lenOf pd_17 rfl) rfl (D 8 rfl) (W := 0) rfl rfl (by decide)
  have N_3' := Fr.app N0 N_3
  have z_3 := K_3.1
  refine Go.s T_3 (mkF m 65 #[vR a1, vI 1, vI 3, vR ad_2, vI 3, vU] [(.ref ad_2)]) (fun _ hr => st_3 _ (yk X_3 hx (D 9 rfl) rfl (yi X_3 hx (D 10 rfl) rfl (yj X_3 hx (D 11 rfl) rfl (yY X_3 hx (D 12 rfl) (pc' := 64) (XT.ii_eq_t (by decide)) rfl (yb X_3 hx (D 13 rfl) rfl rfl hr)))))) ?_
  refine Go.retA X_3 hx hlk (t := (.array .byte)) hret rfl rfl (D 14 rfl) (by decide) (by decide) ?_
  try rw [e_3]
  exact ⟨ad_2, rfl, N_3', (((Keep.refl h0 []).ext E_2).trans K_3 (own_t1 (by first | exact Or.inr (by omega) | exact Or.inl (by simp)))), by omega, B_3⟩
theorem rmNS4 (hw : own_W a0 Z) (a1 : Nat) (h0 : Heap) (n0 : Nat) (Z0 : n0 ≤ h0.size) (vcs : Int32) (hcs : ¬ vcs = 0) (O0 : Old Z n0 h0) (SCS : sCS Z vcs) (SAD : sAD Z) (SHI : sHI Z) (SLO : sLO Z) (vfm : Value) (rfm : vfm.isRef = true) (SFM : sFM Z vfm) (c0 c1 c2 : Int32) (Ab : Ary Z h0 a1 .byte [(.int (own_lo 65279)), (.int (own_hi 65279)), (.int (own_lo c0)), (.int (own_hi c0)), (.int (own_lo c1)), (.int (own_hi c1)), (.int (own_lo c2)), (.int (own_hi c2))]) (q0 : own_rg c0) (q1 : own_rg c1) (q2 : own_rg c2) :
    Con l Z ⟨"java/lang/StringUTF16", "newString", "([BII)Ljava/lang/String;"⟩ jdk_52_method_69_code 5 (some (.object "java/lang/String")) ⟨5, 2, 7, 78⟩ #[(.ref a1), (.int 1), (.int 3)] h0 (fun v h L => ∃ sa : Nat, v = some (.ref sa) ∧ Fr n0 L ∧ Keep h0 h [] ∧ h0.size ≤ sa ∧ Exa Z h sa "java/lang/String" ∧ ∃ vb : Nat, h0.size ≤ vb ∧ fV Z h sa (.ref vb) ∧ fC Z h sa (.int 0) ∧ Ary Z h vb .byte [(.int c0.toInt8.toInt32), (.int c1.toInt8.toInt32), (.int c2.toInt8.toInt32)]) := by
  refine Con.o (L := #[vR a1, vI 1, vI 3, vU, vU]) n0 d54 pf_33 (by simp [argsToLocals, Value.category]) ?_
  intro p e s m _ _ c T0 X0 hx hby hml hZ hown hnm hret hlk e0 N0 D
  have lt_1 := own_ltA Ab
  let j_387 := (mkF m 8 #[vR a1, vI 1, vI 3, vU, vU] [])
  refine Go.s T0 j_387 (fun _ hr => yj X0 hx (D 0 rfl) rfl (yX X0 hx (D 1 rfl) (pc' := 8) (XT.i0_ne_t (by decide)) rfl hr)) ?_
  obtain ⟨T_2, X_2, e_2, st_2⟩ := getS2 X0 hx hZ hown (host := "") (Or.inl (hq hw 271 rfl)) Via.refl e0 (SCS.ext O0.2) (g := j_387) rfl (D 4 rfl)
  let j_388 := (mkF m 17 #[vR a1, vI 1, vI 3, vU, vU] [(.int 3), (.int 1), (.ref a1)])
  refine Go.s T_2 j_388 (fun _ hr => st_2 _ (yM X_2 hx (D 5 rfl) (XT.i0_eq_f hcs) (yb X_2 hx (D 6 rfl) rfl rfl (yj X_2 hx (D 7 rfl) rfl (yj X_2 hx (D 8 rfl) rfl hr))))) ?_
  obtain ⟨v_3, T_3, h_3, L_3, X_3, e_3, ⟨cb_3, rfl, N_3, K_3, g_3, B_3⟩, st_3⟩ := cS X_2 hx hZ hown (hq hw 272 rfl) (hq hw 273 rfl) (hq hw 34 rfl) (hq hw 274 rfl) e_2 hml (rmCBA4 l Z a0 hw a1 h0 n0 (by omega) O0 SAD SHI SLO vfm rfm SFM c0 c1 c2 Ab q0 q1 q2) (g := j_388) rfl rfl (lenOf pd_18 rfl) rfl (D 9 rfl) (W := 0) rfl rfl (by decide)
  have N_3' := Fr.app N0 N_3
  have z_3 := K_3.1
  have yy_3 := own_ltA B_3
  let j_389 := (mkF m 23 #[vR a1, vI 1, vI 3, vR cb_3, vU] [(.int 3), (.ref cb_3)])
  refine Go.s T_3 j_389 (fun _ hr => st_3 _ (yn X_3 hx (D 10 rfl) rfl rfl (yb X_3 hx (D 11 rfl) rfl rfl (yj X_3 hx (D 12 rfl) rfl hr)))) ?_
  obtain ⟨v_4, T_4, h_4, L_4, X_4, e_4, ⟨rfl, N_4, hh_4⟩, st_4⟩ := cS X_3 hx hZ hown (hq hw 287 rfl) (hq hw 40 rfl) (hq hw 34 rfl) (hq hw 41 rfl) e_3 hml (rmCF3 l Z a0 hw cb_3 h_3 n0 (by omega) [(.int c0.toInt8.toInt32), (.int c1.toInt8.toInt32), (.int c2.toInt8.toInt32)] B_3 rfl) (g := j_389) rfl rfl (lenOf pd_2 rfl) rfl (D 13 rfl) (W := 0) rfl rfl (by decide)
  have N_4' := Fr.app N_3' N_4
  rw [hh_4] at e_4
  let j_390 := (mkF m 28 #[vR a1, vI 1, vI 3, vR cb_3, vI 0] [])
  refine Go.s T_4 j_390 (fun _ hr => st_4 _ (yk X_4 hx (D 14 rfl) rfl hr)) ?_
  obtain ⟨T_5, h_5, X_5, e_5, E_5, A_5, D_5, -, st_5⟩ := newO X_4 hx hZ hown (hq hw 288 rfl) (hq hw 10 rfl) (hq hw 9 rfl) e_4 (g := j_390) rfl (D 15 rfl) (by decide) (by decide)
  obtain ⟨ad_5, g_5⟩ : ∃ z, z = h_3.size := ⟨_, rfl⟩
  rw [← g_5] at A_5 D_5 st_5
  have z_5 := E_5.1
  have y_5 := own_ltE A_5
  have F_5_value : fV Z h_5 ad_5 .null := D_5 (Or.inr (hq hw 12 rfl)) (ty := (.array .byte)) (by decide)
  have F_5_coder : fC Z h_5 ad_5 (.int 0) := D_5 (Or.inr (hq hw 13 rfl)) (ty := .byte) (by decide)
  let j_391 := (mkF m 35 #[vR a1, vI 1, vI 3, vR cb_3, vI 0] [(.int 0), (.ref cb_3), (.ref ad_5), (.ref ad_5)])
  refine Go.s T_5 j_391 (fun _ hr => st_5 _ (yd X_5 hx (D 16 rfl) rfl (yb X_5 hx (D 17 rfl) rfl rfl (yi X_5 hx (D 18 rfl) rfl hr)))) ?_
  obtain ⟨v_6, T_6, h_6, L_6, X_6, e_6, ⟨rfl, N_6, K_6, F1_6, F2_6⟩, st_6⟩ := cN X_5 hx hZ hown (hq hw 289 rfl) (hq hw 290 rfl) (hq hw 9 rfl) (hq hw 291 rfl) e_5 rfl hml (rmSB l Z a0 hw ad_5 cb_3 h_5 n0 (by omega) A_5 F_5_value F_5_coder (by omega)) (g := j_391) rfl rfl (lenOf pd_19 rfl) rfl (D 19 rfl) (W := 1) rfl rfl (by decide)
  have N_6' := Fr.app N_4' N_6
  have z_6 := K_6.1
  refine Go.s T_6 (mkF m 38 #[vR a1, vI 1, vI 3, vR cb_3, vI 0] [(.ref ad_5)]) st_6 ?_
  refine Go.retA X_6 hx hlk (t := (.object "java/lang/String")) hret rfl rfl (D 20 rfl) (by decide) (by decide) ?_
  try rw [e_6]
  have F_7 := (A_5.keep K_6)
  have F_8 := ((B_3.ext E_5).keep K_6 (own_n1 (by omega)))
  exact ⟨ad_5, rfl, N_6', ((((Keep.refl h0 []).trans K_3 all0).ext E_5).trans K_6 (own_t1 (by first | exact Or.inr (by omega) | exact Or.inl (by simp)))), by omega, F_7, cb_3, by omega, F1_6, F2_6, F_8⟩
theorem rmSubB4 (hw : own_W a0 Z) (a1 : Nat) (h0 : Heap) (n0 : Nat) (Z0 : n0 ≤ h0.size) (vcs : Int32) (hcs : ¬ vcs = 0) (O0 : Old Z n0 h0) (SCS : sCS Z vcs) (SAD : sAD Z) (SHI : sHI Z) (SLO : sLO Z) (vfm : Value) (rfm : vfm.isRef = true) (SFM : sFM Z vfm) (vb : Nat) (E1 : Exa Z h0 a1 "java/lang/String") (Fv : fV Z h0 a1 (.ref vb)) (Fc : fC Z h0 a1 (.int 1)) (c0 c1 c2 : Int32) (Ab : Ary Z h0 vb .byte [(.int (own_lo 65279)), (.int (own_hi 65279)), (.int (own_lo c0)), (.int (own_hi c0)), (.int (own_lo c1)), (.int (own_hi c1)), (.int (own_lo c2)), (.int (own_hi c2))]) (q0 : own_rg c0) (q1 : own_rg c1) (q2 : own_rg c2) :
    Con l Z ⟨"java/lang/String", "substring", "(II)Ljava/lang/String;"⟩ jdk_42_method_92_code 5 (some (.object "java/lang/String")) ⟨6, 2, 7, 94⟩ #[(.ref a1), (.int 1), (.int 4)] h0 (fun v h L => ∃ sa : Nat, v = some (.ref sa) ∧ Fr n0 L ∧ Keep h0 h [] ∧ h0.size ≤ sa ∧ Exa Z h sa "java/lang/String" ∧ ∃ vb : Nat, h0.size ≤ vb ∧ fV Z h sa (.ref vb) ∧ fC Z h sa (.int 0) ∧ Ary Z h vb .byte [(.int c0.toInt8.toInt32), (.int c1.toInt8.toInt32), (.int c2.toInt8.toInt32)]) := by
  refine Con.o (L := #[vR a1, vI 1, vI 4, vU, vU]) n0 d55 pf_34 (by simp [argsToLocals, Value.category]) ?_
  intro p e s m _ _ c T0 X0 hx hby hml hZ hown hnm hret hlk e0 N0 D
  have lt_1 := own_ltE E1
  have lt_2 := own_ltA Ab
  let j_392 := (mkF m 1 #[vR a1, vI 1, vI 4, vU, vU] [(.ref a1)])
  refine Go.s T0 j_392 (fun _ hr => yb X0 hx (D 0 rfl) rfl rfl hr) ?_
  obtain ⟨v_3, T_3, h_3, L_3, X_3, e_3, ⟨rfl, N_3, hh_3⟩, st_3⟩ := cV X0 hx hZ hown (hq hw 255 rfl) (hq hw 150 rfl) (hq hw 152 rfl) (hq hw 152 rfl) (hq hw 151 rfl) (hq hw 9 rfl) (hq hw 153 rfl) e0 E1 hml (rmLnU4 l Z a0 hw a1 h0 n0 (by omega) vcs hcs O0 SCS SAD SHI SLO vfm rfm SFM vb E1 Fv Fc c0 c1 c2 Ab q0 q1 q2) (g := j_392) rfl rfl (lenOf pd_20 rfl) rfl (D 1 rfl) (W := 0) rfl rfl (by decide)
  have N_3' := Fr.app N0 N_3
  rw [hh_3] at e_3
  let j_393 := (mkF m 8 #[vR a1, vI 1, vI 4, vI 4, vU] [(.int 4), (.int 4), (.int 1)])
  refine Go.s T_3 j_393 (fun _ hr => st_3 _ (yl X_3 hx (D 2 rfl) rfl (yj X_3 hx (D 3 rfl) rfl (yj X_3 hx (D 4 rfl) rfl (yj X_3 hx (D 5 rfl) rfl hr))))) ?_
  obtain ⟨v_4, T_4, h_4, L_4, X_4, e_4, ⟨rfl, N_4, hh_4⟩, st_4⟩ := cS X_3 hx hZ hown (hq hw 261 rfl) (hq hw 262 rfl) (hq hw 9 rfl) (hq hw 263 rfl) e_3 hml (rmCBB l Z a0 hw 1 4 4 h0 n0 (by omega) O0 vfm rfm SFM (by decide) (by decide) (by decide)) (g := j_393) rfl rfl (lenOf pd_21 rfl) rfl (D 6 rfl) (W := 0) rfl rfl (by decide)
  have N_4' := Fr.app N_3' N_4
  rw [hh_4] at e_4
  refine Go.s T_4 (mkF m 24 #[vR a1, vI 1, vI 4, vI 4, vU] [(.int 1), (.int 4)]) (fun _ hr => st_4 _ (yj X_4 hx (D 7 rfl) rfl (yX X_4 hx (D 8 rfl) (pc' := 22) (XT.i0_ne_t (by decide)) rfl (yj X_4 hx (D 9 rfl) rfl (yj X_4 hx (D 10 rfl) rfl hr))))) ?_
  let j_394 := (mkF m 28 #[vR a1, vI 1, vI 4, vI 4, vI 3] [(.ref a1)])
  refine Go.s T_4 j_394 (fun _ hr => y2 X_4 hx (D 11 rfl) (yk X_4 hx (D 12 rfl) rfl (yb X_4 hx (D 13 rfl) rfl rfl hr))) ?_
  obtain ⟨v_5, T_5, h_5, L_5, X_5, e_5, ⟨rfl, N_5, hh_5⟩, st_5⟩ := cV X_4 hx hZ hown (hq hw 60 rfl) (hq hw 61 rfl) (hq hw 63 rfl) (hq hw 63 rfl) (hq hw 62 rfl) (hq hw 9 rfl) (hq hw 64 rfl) e_4 E1 hml (rmIL1 l Z a0 hw a1 h0 n0 (by omega) vcs hcs O0 SCS vb E1 Fv Fc [(.int (own_lo 65279)), (.int (own_hi 65279)), (.int (own_lo c0)), (.int (own_hi c0)), (.int (own_lo c1)), (.int (own_hi c1)), (.int (own_lo c2)), (.int (own_hi c2))] Ab) (g := j_394) rfl rfl (lenOf pd_12 rfl) rfl (D 14 rfl) (W := 0) rfl rfl (by decide)
  have N_5' := Fr.app N_4' N_5
  rw [hh_5] at e_5
  let j_395 := (mkF m 48 #[vR a1, vI 1, vI 4, vI 4, vI 3] [(.ref a1)])
  refine Go.s T_5 j_395 (fun _ hr => st_5 _ (yX X_5 hx (D 15 rfl) (pc' := 47) (XT.i0_eq_t (by decide)) rfl (yb X_5 hx (D 16 rfl) rfl rfl hr))) ?_
  obtain ⟨T_6, X_6, e_6, st_6⟩ := getF X_5 hx hZ hown (host := "") (Or.inl (hq hw 43 rfl)) Via.refl e_5 Fv (g := j_395) rfl rfl (D 17 rfl)
  let j_396 := (mkF m 54 #[vR a1, vI 1, vI 4, vI 4, vI 3] [(.int 3), (.int 1), (.ref vb)])
  refine Go.s T_6 j_396 (fun _ hr => st_6 _ (yj X_6 hx (D 18 rfl) rfl (yi X_6 hx (D 19 rfl) rfl hr))) ?_
  obtain ⟨v_7, T_7, h_7, L_7, X_7, e_7, ⟨sa_7, rfl, N_7, K_7, g_7, E1_7, vb_7, gg_7, F1_7, F2_7, B_7⟩, st_7⟩ := cS X_6 hx hZ hown (hq hw 267 rfl) (hq hw 268 rfl) (hq hw 34 rfl) (hq hw 269 rfl) e_6 hml (rmNS4 l Z a0 hw vb h0 n0 (by omega) vcs hcs O0 SCS SAD SHI SLO vfm rfm SFM c0 c1 c2 Ab q0 q1 q2) (g := j_396) rfl rfl (lenOf pd_22 rfl) rfl (D 20 rfl) (W := 0) rfl rfl (by decide)
  have N_7' := Fr.app N_5' N_7
  have z_7 := K_7.1
  have yv_7 := own_ltA B_7
  have ys_7 := own_ltE E1_7
  refine Go.s T_7 (mkF m 57 #[vR a1, vI 1, vI 4, vI 4, vI 3] [(.ref sa_7)]) st_7 ?_
  refine Go.retA X_7 hx hlk (t := (.object "java/lang/String")) hret rfl rfl (D 21 rfl) (by decide) (by decide) ?_
  try rw [e_7]
  exact ⟨sa_7, rfl, N_7', ((Keep.refl h0 []).trans K_7 all0), by omega, E1_7, vb_7, by omega, F1_7, F2_7, B_7⟩
theorem rmSubA4 (hw : own_W a0 Z) (a1 : Nat) (h0 : Heap) (n0 : Nat) (Z0 : n0 ≤ h0.size) (vcs : Int32) (hcs : ¬ vcs = 0) (O0 : Old Z n0 h0) (SCS : sCS Z vcs) (SAD : sAD Z) (SHI : sHI Z) (SLO : sLO Z) (vfm : Value) (rfm : vfm.isRef = true) (SFM : sFM Z vfm) (vb : Nat) (E1 : Exa Z h0 a1 "java/lang/String") (Fv : fV Z h0 a1 (.ref vb)) (Fc : fC Z h0 a1 (.int 1)) (c0 c1 c2 : Int32) (Ab : Ary Z h0 vb .byte [(.int (own_lo 65279)), (.int (own_hi 65279)), (.int (own_lo c0)), (.int (own_hi c0)), (.int (own_lo c1)), (.int (own_hi c1)), (.int (own_lo c2)), (.int (own_hi c2))]) (q0 : own_rg c0) (q1 : own_rg c1) (q2 : own_rg c2) :
    Con l Z ⟨"java/lang/String", "substring", "(I)Ljava/lang/String;"⟩ jdk_42_method_91_code 2 (some (.object "java/lang/String")) ⟨7, 2, 7, 110⟩ #[(.ref a1), (.int 1)] h0 (fun v h L => ∃ sa : Nat, v = some (.ref sa) ∧ Fr n0 L ∧ Keep h0 h [] ∧ h0.size ≤ sa ∧ Exa Z h sa "java/lang/String" ∧ ∃ vb : Nat, h0.size ≤ vb ∧ fV Z h sa (.ref vb) ∧ fC Z h sa (.int 0) ∧ Ary Z h vb .byte [(.int c0.toInt8.toInt32), (.int c1.toInt8.toInt32), (.int c2.toInt8.toInt32)]) := by
  refine Con.o (L := #[vR a1, vI 1]) n0 d56 pf_35 (by simp [argsToLocals, Value.category]) ?_
  intro p e s m _ _ c T0 X0 hx hby hml hZ hown hnm hret hlk e0 N0 D
  have lt_1 := own_ltE E1
  have lt_2 := own_ltA Ab
  let j_397 := (mkF m 3 #[vR a1, vI 1] [(.ref a1), (.int 1), (.ref a1)])
  refine Go.s T0 j_397 (fun _ hr => yb X0 hx (D 0 rfl) rfl rfl (yj X0 hx (D 1 rfl) rfl (yb X0 hx (D 2 rfl) rfl rfl hr))) ?_
  obtain ⟨v_3, T_3, h_3, L_3, X_3, e_3, ⟨rfl, N_3, hh_3⟩, st_3⟩ := cV X0 hx hZ hown (hq hw 255 rfl) (hq hw 150 rfl) (hq hw 152 rfl) (hq hw 152 rfl) (hq hw 151 rfl) (hq hw 9 rfl) (hq hw 153 rfl) e0 E1 hml (rmLnU4 l Z a0 hw a1 h0 n0 (by omega) vcs hcs O0 SCS SAD SHI SLO vfm rfm SFM vb E1 Fv Fc c0 c1 c2 Ab q0 q1 q2) (g := j_397) rfl rfl (lenOf pd_20 rfl) rfl (D 3 rfl) (W := 2) rfl rfl (by decide)
  have N_3' := Fr.app N0 N_3
  rw [hh_3] at e_3
  let j_398 := (mkF m 6 #[vR a1, vI 1] [(.int 4), (.int 1), (.ref a1)])
  refine Go.s T_3 j_398 st_3 ?_
  obtain ⟨v_4, T_4, h_4, L_4, X_4, e_4, ⟨sa_4, rfl, N_4, K_4, g_4, E1_4, vb_4, gg_4, F1_4, F2_4, B_4⟩, st_4⟩ := cV X_3 hx hZ hown (hq hw 256 rfl) (hq hw 257 rfl) (hq hw 259 rfl) (hq hw 259 rfl) (hq hw 258 rfl) (hq hw 9 rfl) (hq hw 260 rfl) e_3 E1 hml (rmSubB4 l Z a0 hw a1 h0 n0 (by omega) vcs hcs O0 SCS SAD SHI SLO vfm rfm SFM vb E1 Fv Fc c0 c1 c2 Ab q0 q1 q2) (g := j_398) rfl rfl (lenOf pd_23 rfl) rfl (D 4 rfl) (W := 0) rfl rfl (by decide)
  have N_4' := Fr.app N_3' N_4
  have z_4 := K_4.1
  have yv_4 := own_ltA B_4
  have ys_4 := own_ltE E1_4
  refine Go.s T_4 (mkF m 9 #[vR a1, vI 1] [(.ref sa_4)]) st_4 ?_
  refine Go.retA X_4 hx hlk (t := (.object "java/lang/String")) hret rfl rfl (D 5 rfl) (by decide) (by decide) ?_
  try rw [e_4]
  exact ⟨sa_4, rfl, N_4', ((Keep.refl h0 []).trans K_4 all0), by omega, E1_4, vb_4, by omega, F1_4, F2_4, B_4⟩
theorem rmBO5 (hw : own_W a0 Z) (a1 : Nat) (h0 : Heap) (n0 : Nat) (Z0 : n0 ≤ h0.size) (O0 : Old Z n0 h0) (vfm : Value) (rfm : vfm.isRef = true) (SFM : sFM Z vfm) (c0 c1 c2 c3 : Int32) (Ab : Ary Z h0 a1 .byte [(.int (own_lo 65279)), (.int (own_hi 65279)), (.int (own_lo c0)), (.int (own_hi c0)), (.int (own_lo c1)), (.int (own_hi c1)), (.int (own_lo c2)), (.int (own_hi c2)), (.int (own_lo c3)), (.int (own_hi c3))]) (q0 : own_rg c0) (q1 : own_rg c1) (q2 : own_rg c2) (q3 : own_rg c3) :
    Con l Z ⟨"java/lang/StringUTF16", "checkBoundsOffCount", "(II[B)V"⟩ jdk_52_method_94_code 3 none ⟨2, 0, 0, 29⟩ #[(.int 1), (.int 4), (.ref a1)] h0 (fun v h L => v = none ∧ Fr n0 L ∧ h = h0) := by
  refine Con.o (L := #[vI 1, vI 4, vR a1]) n0 d51 pf_30 (by simp [argsToLocals, Value.category]) ?_
  intro p e s m _ _ c T0 X0 hx hby hml hZ hown hnm hret hlk e0 N0 D
  have lt_1 := own_ltA Ab
  let j_399 := (mkF m 3 #[vI 1, vI 4, vR a1] [(.ref a1), (.int 4), (.int 1)])
  refine Go.s T0 j_399 (fun _ hr => yj X0 hx (D 0 rfl) rfl (yj X0 hx (D 1 rfl) rfl (yb X0 hx (D 2 rfl) rfl rfl hr))) ?_
  obtain ⟨v_2, T_2, h_2, L_2, X_2, e_2, ⟨rfl, N_2, hh_2⟩, st_2⟩ := cS X0 hx hZ hown (hq hw 246 rfl) (hq hw 247 rfl) (hq hw 34 rfl) (hq hw 248 rfl) e0 hml (rmUL5 l Z a0 hw a1 h0 n0 (by omega) c0 c1 c2 c3 Ab q0 q1 q2 q3) (g := j_399) rfl rfl (lenOf pd_13 rfl) rfl (D 3 rfl) (W := 2) rfl rfl (by decide)
  have N_2' := Fr.app N0 N_2
  rw [hh_2] at e_2
  let j_400 := (mkF m 6 #[vI 1, vI 4, vR a1] [(.int 5), (.int 4), (.int 1)])
  refine Go.s T_2 j_400 st_2 ?_
  obtain ⟨v_3, T_3, h_3, L_3, X_3, e_3, ⟨rfl, N_3, hh_3⟩, st_3⟩ := cS X_2 hx hZ hown (hq hw 281 rfl) (hq hw 282 rfl) (hq hw 9 rfl) (hq hw 283 rfl) e_2 hml (rmCBO l Z a0 hw 1 4 5 h0 n0 (by omega) O0 vfm rfm SFM (by decide) (by decide)) (g := j_400) rfl rfl (lenOf pd_15 rfl) rfl (D 4 rfl) (W := 0) rfl rfl (by decide)
  have N_3' := Fr.app N_2' N_3
  rw [hh_3] at e_3
  refine Go.s T_3 (mkF m 10 #[vI 1, vI 4, vR a1] []) (fun _ hr => st_3 _ (y0 X_3 hx (D 5 rfl) rfl hr)) ?_
  refine Go.retV X_3 hx hlk hret (D 6 rfl) (by decide) (by decide) ?_
  try rw [e_3]
  exact ⟨rfl, N_3', rfl⟩
theorem rmCB5 (hw : own_W a0 Z) (a1 : Nat) (a3 : Nat) (h0 : Heap) (n0 : Nat) (Z0 : n0 ≤ h0.size) (O0 : Old Z n0 h0) (SAD : sAD Z) (SHI : sHI Z) (SLO : sLO Z) (vfm : Value) (rfm : vfm.isRef = true) (SFM : sFM Z vfm) (c0 c1 c2 c3 : Int32) (Ab : Ary Z h0 a1 .byte [(.int (own_lo 65279)), (.int (own_hi 65279)), (.int (own_lo c0)), (.int (own_hi c0)), (.int (own_lo c1)), (.int (own_hi c1)), (.int (own_lo c2)), (.int (own_hi c2)), (.int (own_lo c3)), (.int (own_hi c3))]) (q0 : own_rg c0) (q1 : own_rg c1) (q2 : own_rg c2) (q3 : own_rg c3) (Ad : Ary Z h0 a3 .byte [(.int 0), (.int 0), (.int 0), (.int 0)]) (g3 : n0 ≤ a3) (hne : a1 ≠ a3) :
    Con l Z ⟨"java/lang/StringUTF16", "compress", "([BI[BII)I"⟩ jdk_52_method_22_code 7 (some .int) ⟨3, 0, 0, 43⟩ #[(.ref a1), (.int 1), (.ref a3), (.int 0), (.int 4)] h0 (fun v h L => v = some (.int 4) ∧ Fr n0 L ∧ Keep h0 h [a3] ∧ Ary Z h a3 .byte [(.int c0.toInt8.toInt32), (.int c1.toInt8.toInt32), (.int c2.toInt8.toInt32), (.int c3.toInt8.toInt32)]) := by
  refine Con.o (L := #[vR a1, vI 1, vR a3, vI 0, vI 4, vU, vU]) n0 d52 pf_31 (by simp [argsToLocals, Value.category]) ?_
  intro p e s m _ _ c T0 X0 hx hby hml hZ hown hnm hret hlk e0 N0 D
  have lt_1 := own_ltA Ab
  have lt_2 := own_ltA Ad
  let j_401 := (mkF m 4 #[vR a1, vI 1, vR a3, vI 0, vI 4, vU, vU] [(.ref a1), (.int 4), (.int 1)])
  refine Go.s T0 j_401 (fun _ hr => yj X0 hx (D 0 rfl) rfl (yi X0 hx (D 1 rfl) rfl (yb X0 hx (D 2 rfl) rfl rfl hr))) ?_
  obtain ⟨v_3, T_3, h_3, L_3, X_3, e_3, ⟨rfl, N_3, hh_3⟩, st_3⟩ := cS X0 hx hZ hown (hq hw 278 rfl) (hq hw 279 rfl) (hq hw 34 rfl) (hq hw 280 rfl) e0 hml (rmBO5 l Z a0 hw a1 h0 n0 (by omega) O0 vfm rfm SFM c0 c1 c2 c3 Ab q0 q1 q2 q3) (g := j_401) rfl rfl (lenOf pd_16 rfl) rfl (D 3 rfl) (W := 0) rfl rfl (by decide)
  have N_3' := Fr.app N0 N_3
  rw [hh_3] at e_3
  let j_402 := (mkF m 19 #[vR a1, vI 1, vR a3, vI 0, vI 4, vI 0, vU] [(.int 1), (.ref a1)])
  refine Go.s T_3 j_402 (fun _ hr => st_3 _ (yc X_3 hx (D 4 rfl) (yk X_3 hx (D 5 rfl) rfl (yi X_3 hx (D 6 rfl) rfl (yi X_3 hx (D 7 rfl) rfl (yN X_3 hx (D 8 rfl) (XT.ii_ge_f (by decide)) (yb X_3 hx (D 9 rfl) rfl rfl (yj X_3 hx (D 10 rfl) rfl hr)))))))) ?_
  obtain ⟨v_4, T_4, h_4, L_4, X_4, e_4, ⟨rfl, N_4, hh_4⟩, st_4⟩ := cS X_3 hx hZ hown (hq hw 237 rfl) (hq hw 238 rfl) (hq hw 34 rfl) (hq hw 239 rfl) e_3 hml (rmGet l Z a0 hw a1 (1 : Int32) h0 n0 (by omega) O0 SAD SHI SLO [(.int (own_lo 65279)), (.int (own_hi 65279)), (.int (own_lo c0)), (.int (own_hi c0)), (.int (own_lo c1)), (.int (own_hi c1)), (.int (own_lo c2)), (.int (own_hi c2)), (.int (own_lo c3)), (.int (own_hi c3))] 1 rfl (by decide) Ab (by simp +decide) c0 q0.1 (by have := q0.2; omega) rfl rfl) (g := j_402) rfl rfl (lenOf pd_7 rfl) rfl (D 11 rfl) (W := 0) rfl rfl (by decide)
  have N_4' := Fr.app N_3' N_4
  rw [hh_4] at e_4
  let j_403 := (mkF m 40 #[vR a1, vI 1, vR a3, vI 0, vI 4, vI 0, vI c0] [(.int (c0.toInt8.toInt32)), (.int 0), (.ref a3)])
  refine Go.s T_4 j_403 (fun _ hr => st_4 _ (yk X_4 hx (D 12 rfl) rfl (yi X_4 hx (D 13 rfl) rfl (yq X_4 hx (D 14 rfl) (yY X_4 hx (D 15 rfl) (pc' := 35) (XT.ii_le_t (own_rg_n q0)) rfl (yb X_4 hx (D 16 rfl) rfl rfl (yj X_4 hx (D 17 rfl) rfl (yi X_4 hx (D 18 rfl) rfl (y8 X_4 hx (D 19 rfl) hr))))))))) ?_
  obtain ⟨T_5, h_5, X_5, e_5, W_5, A_5, st_5⟩ := own_stB X_4 hx hZ e_4 Ad (j := 0) (by decide) (by simp +decide) (g := j_403) rfl rfl (D 20 rfl)
  have N_5 := Fr.snoc X_5 N_4' (by omega)
  have z_5 := W_5.size
  rw [show nar .byte (c0.toInt8.toInt32) = (c0.toInt8.toInt32) from (own_idemB c0)] at A_5
  have B_5 : Ary Z h_5 a3 .byte [(.int (c0.toInt8.toInt32)), (.int 0), (.int 0), (.int 0)] := A_5
  let j_404 := (mkF m 19 #[vR a1, vI 2, vR a3, vI 1, vI 4, vI 1, vI c0] [(.int 2), (.ref a1)])
  refine Go.s T_5 j_404 (fun _ hr => st_5 _ (yf X_5 hx (D 21 rfl) rfl rfl (yf X_5 hx (D 22 rfl) rfl rfl (yf X_5 hx (D 23 rfl) rfl rfl (yg X_5 hx (D 24 rfl) (pc' := 10) rfl (yi X_5 hx (D 6 rfl) rfl (yi X_5 hx (D 7 rfl) rfl (yN X_5 hx (D 8 rfl) (XT.ii_ge_f (by decide)) (yb X_5 hx (D 9 rfl) rfl rfl (yj X_5 hx (D 10 rfl) rfl hr)))))))))) ?_
  have F_7 := (O0.wr W_5 (by omega))
  have F_8 := (Ab.other W_5 (own_ne (by omega)))
  obtain ⟨v_6, T_6, h_6, L_6, X_6, e_6, ⟨rfl, N_6, hh_6⟩, st_6⟩ := cS X_5 hx hZ hown (hq hw 237 rfl) (hq hw 238 rfl) (hq hw 34 rfl) (hq hw 239 rfl) e_5 hml (rmGet l Z a0 hw a1 (2 : Int32) h_5 n0 (by omega) F_7 SAD SHI SLO [(.int (own_lo 65279)), (.int (own_hi 65279)), (.int (own_lo c0)), (.int (own_hi c0)), (.int (own_lo c1)), (.int (own_hi c1)), (.int (own_lo c2)), (.int (own_hi c2)), (.int (own_lo c3)), (.int (own_hi c3))] 2 rfl (by decide) F_8 (by simp +decide) c1 q1.1 (by have := q1.2; omega) rfl rfl) (g := j_404) rfl rfl (lenOf pd_7 rfl) rfl (D 11 rfl) (W := 0) rfl rfl (by decide)
  have N_6' := Fr.app N_5 N_6
  rw [hh_6] at e_6
  let j_405 := (mkF m 40 #[vR a1, vI 2, vR a3, vI 1, vI 4, vI 1, vI c1] [(.int (c1.toInt8.toInt32)), (.int 1), (.ref a3)])
  refine Go.s T_6 j_405 (fun _ hr => st_6 _ (yk X_6 hx (D 12 rfl) rfl (yi X_6 hx (D 13 rfl) rfl (yq X_6 hx (D 14 rfl) (yY X_6 hx (D 15 rfl) (pc' := 35) (XT.ii_le_t (own_rg_n q1)) rfl (yb X_6 hx (D 16 rfl) rfl rfl (yj X_6 hx (D 17 rfl) rfl (yi X_6 hx (D 18 rfl) rfl (y8 X_6 hx (D 19 rfl) hr))))))))) ?_
  obtain ⟨T_9, h_9, X_9, e_9, W_9, A_9, st_9⟩ := own_stB X_6 hx hZ e_6 B_5 (j := 1) (by decide) (by simp +decide) (g := j_405) rfl rfl (D 20 rfl)
  have N_9 := Fr.snoc X_9 N_6' (by omega)
  have z_9 := W_9.size
  rw [show nar .byte (c1.toInt8.toInt32) = (c1.toInt8.toInt32) from (own_idemB c1)] at A_9
  have B_9 : Ary Z h_9 a3 .byte [(.int (c0.toInt8.toInt32)), (.int (c1.toInt8.toInt32)), (.int 0), (.int 0)] := A_9
  let j_406 := (mkF m 19 #[vR a1, vI 3, vR a3, vI 2, vI 4, vI 2, vI c1] [(.int 3), (.ref a1)])
  refine Go.s T_9 j_406 (fun _ hr => st_9 _ (yf X_9 hx (D 21 rfl) rfl rfl (yf X_9 hx (D 22 rfl) rfl rfl (yf X_9 hx (D 23 rfl) rfl rfl (yg X_9 hx (D 24 rfl) (pc' := 10) rfl (yi X_9 hx (D 6 rfl) rfl (yi X_9 hx (D 7 rfl) rfl (yN X_9 hx (D 8 rfl) (XT.ii_ge_f (by decide)) (yb X_9 hx (D 9 rfl) rfl rfl (yj X_9 hx (D 10 rfl) rfl hr)))))))))) ?_
  have F_11 := (F_7.wr W_9 (by omega))
  have F_12 := (F_8.other W_9 (own_ne (by omega)))
  obtain ⟨v_10, T_10, h_10, L_10, X_10, e_10, ⟨rfl, N_10, hh_10⟩, st_10⟩ := cS X_9 hx hZ hown (hq hw 237 rfl) (hq hw 238 rfl) (hq hw 34 rfl) (hq hw 239 rfl) e_9 hml (rmGet l Z a0 hw a1 (3 : Int32) h_9 n0 (by omega) F_11 SAD SHI SLO [(.int (own_lo 65279)), (.int (own_hi 65279)), (.int (own_lo c0)), (.int (own_hi c0)), (.int (own_lo c1)), (.int (own_hi c1)), (.int (own_lo c2)), (.int (own_hi c2)), (.int (own_lo c3)), (.int (own_hi c3))] 3 rfl (by decide) F_12 (by simp +decide) c2 q2.1 (by have := q2.2; omega) rfl rfl) (g := j_406) rfl rfl (lenOf pd_7 rfl) rfl (D 11 rfl) (W := 0) rfl rfl (by decide)
  have N_10' := Fr.app N_9 N_10
  rw [hh_10] at e_10
  let j_407 := (mkF m 40 #[vR a1, vI 3, vR a3, vI 2, vI 4, vI 2, vI c2] [(.int (c2.toInt8.toInt32)), (.int 2), (.ref a3)])
  refine Go.s T_10 j_407 (fun _ hr => st_10 _ (yk X_10 hx (D 12 rfl) rfl (yi X_10 hx (D 13 rfl) rfl (yq X_10 hx (D 14 rfl) (yY X_10 hx (D 15 rfl) (pc' := 35) (XT.ii_le_t (own_rg_n q2)) rfl (yb X_10 hx (D 16 rfl) rfl rfl (yj X_10 hx (D 17 rfl) rfl (yi X_10 hx (D 18 rfl) rfl (y8 X_10 hx (D 19 rfl) hr))))))))) ?_
  obtain ⟨T_13, h_13, X_13, e_13, W_13, A_13, st_13⟩ := own_stB X_10 hx hZ e_10 B_9 (j := 2) (by decide) (by simp +decide) (g := j_407) rfl rfl (D 20 rfl)
  have N_13 := Fr.snoc X_13 N_10' (by omega)
  have z_13 := W_13.size
  rw [show nar .byte (c2.toInt8.toInt32) = (c2.toInt8.toInt32) from (own_idemB c2)] at A_13
  have B_13 : Ary Z h_13 a3 .byte [(.int (c0.toInt8.toInt32)), (.int (c1.toInt8.toInt32)), (.int (c2.toInt8.toInt32)), (.int 0)] := A_13
  let j_408 := (mkF m 19 #[vR a1, vI 4, vR a3, vI 3, vI 4, vI 3, vI c2] [(.int 4), (.ref a1)])
  refine Go.s T_13 j_408 (fun _ hr => st_13 _ (yf X_13 hx (D 21 rfl) rfl rfl (yf X_13 hx (D 22 rfl) rfl rfl (yf X_13 hx (D 23 rfl) rfl rfl (yg X_13 hx (D 24 rfl) (pc' := 10) rfl (yi X_13 hx (D 6 rfl) rfl (yi X_13 hx (D 7 rfl) rfl (yN X_13 hx (D 8 rfl) (XT.ii_ge_f (by decide)) (yb X_13 hx (D 9 rfl) rfl rfl (yj X_13 hx (D 10 rfl) rfl hr)))))))))) ?_
  have F_15 := (F_11.wr W_13 (by omega))
  have F_16 := (F_12.other W_13 (own_ne (by omega)))
  obtain ⟨v_14, T_14, h_14, L_14, X_14, e_14, ⟨rfl, N_14, hh_14⟩, st_14⟩ := cS X_13 hx hZ hown (hq hw 237 rfl) (hq hw 238 rfl) (hq hw 34 rfl) (hq hw 239 rfl) e_13 hml (rmGet l Z a0 hw a1 (4 : Int32) h_13 n0 (by omega) F_15 SAD SHI SLO [(.int (own_lo 65279)), (.int (own_hi 65279)), (.int (own_lo c0)), (.int (own_hi c0)), (.int (own_lo c1)), (.int (own_hi c1)), (.int (own_lo c2)), (.int (own_hi c2)), (.int (own_lo c3)), (.int (own_hi c3))] 4 rfl (by decide) F_16 (by simp +decide) c3 q3.1 (by have := q3.2; omega) rfl rfl) (g := j_408) rfl rfl (lenOf pd_7 rfl) rfl (D 11 rfl) (W := 0) rfl rfl (by decide)
  have N_14' := Fr.app N_13 N_14
  rw [hh_14] at e_14
  let j_409 := (mkF m 40 #[vR a1, vI 4, vR a3, vI 3, vI 4, vI 3, vI c3] [(.int (c3.toInt8.toInt32)), (.int 3), (.ref a3)])
  refine Go.s T_14 j_409 (fun _ hr => st_14 _ (yk X_14 hx (D 12 rfl) rfl (yi X_14 hx (D 13 rfl) rfl (yq X_14 hx (D 14 rfl) (yY X_14 hx (D 15 rfl) (pc' := 35) (XT.ii_le_t (own_rg_n q3)) rfl (yb X_14 hx (D 16 rfl) rfl rfl (yj X_14 hx (D 17 rfl) rfl (yi X_14 hx (D 18 rfl) rfl (y8 X_14 hx (D 19 rfl) hr))))))))) ?_
  obtain ⟨T_17, h_17, X_17, e_17, W_17, A_17, st_17⟩ := own_stB X_14 hx hZ e_14 B_13 (j := 3) (by decide) (by simp +decide) (g := j_409) rfl rfl (D 20 rfl)
  have N_17 := Fr.snoc X_17 N_14' (by omega)
  have z_17 := W_17.size
  rw [show nar .byte (c3.toInt8.toInt32) = (c3.toInt8.toInt32) from (own_idemB c3)] at A_17
  have B_17 : Ary Z h_17 a3 .byte [(.int (c0.toInt8.toInt32)), (.int (c1.toInt8.toInt32)), (.int (c2.toInt8.toInt32)), (.int (c3.toInt8.toInt32))] := A_17
  refine Go.s T_17 (mkF m 55 #[vR a1, vI 5, vR a3, vI 4, vI 4, vI 4, vI c3] [(.int 4)]) (fun _ hr => st_17 _ (yf X_17 hx (D 21 rfl) rfl rfl (yf X_17 hx (D 22 rfl) rfl rfl (yf X_17 hx (D 23 rfl) rfl rfl (yg X_17 hx (D 24 rfl) (pc' := 10) rfl (yi X_17 hx (D 6 rfl) rfl (yi X_17 hx (D 7 rfl) rfl (yY X_17 hx (D 8 rfl) (pc' := 53) (XT.ii_ge_t (by decide)) rfl (yi X_17 hx (D 25 rfl) rfl hr))))))))) ?_
  refine Go.retI X_17 hx hlk hret (D 26 rfl) (by decide) (by decide) ?_
  try rw [e_17]
  exact ⟨rfl, N_17, (((((Keep.refl h0 [a3]).wr W_5 (Or.inl (by simp))).wr W_9 (Or.inl (by simp))).wr W_13 (Or.inl (by simp))).wr W_17 (Or.inl (by simp))), B_17⟩
theorem rmCBA5 (hw : own_W a0 Z) (a1 : Nat) (h0 : Heap) (n0 : Nat) (Z0 : n0 ≤ h0.size) (O0 : Old Z n0 h0) (SAD : sAD Z) (SHI : sHI Z) (SLO : sLO Z) (vfm : Value) (rfm : vfm.isRef = true) (SFM : sFM Z vfm) (c0 c1 c2 c3 : Int32) (Ab : Ary Z h0 a1 .byte [(.int (own_lo 65279)), (.int (own_hi 65279)), (.int (own_lo c0)), (.int (own_hi c0)), (.int (own_lo c1)), (.int (own_hi c1)), (.int (own_lo c2)), (.int (own_hi c2)), (.int (own_lo c3)), (.int (own_hi c3))]) (q0 : own_rg c0) (q1 : own_rg c1) (q2 : own_rg c2) (q3 : own_rg c3) :
    Con l Z ⟨"java/lang/StringUTF16", "compress", "([BII)[B"⟩ jdk_52_method_17_code 6 (some (.array .byte)) ⟨4, 1, 4, 61⟩ #[(.ref a1), (.int 1), (.int 4)] h0 (fun v h L => ∃ a : Nat, v = some (.ref a) ∧ Fr n0 L ∧ Keep h0 h [] ∧ h0.size ≤ a ∧ Ary Z h a .byte [(.int c0.toInt8.toInt32), (.int c1.toInt8.toInt32), (.int c2.toInt8.toInt32), (.int c3.toInt8.toInt32)]) := by
  refine Con.o (L := #[vR a1, vI 1, vI 4, vU, vU, vU]) n0 d53 pf_32 (by simp [argsToLocals, Value.category]) ?_
  intro p e s m _ _ c T0 X0 hx hby hml hZ hown hnm hret hlk e0 N0 D
  have lt_1 := own_ltA Ab
  let j_410 := (mkF m 1 #[vR a1, vI 1, vI 4, vU, vU, vU] [(.int 4)])
  refine Go.s T0 j_410 (fun _ hr => yj X0 hx (D 0 rfl) rfl hr) ?_
  obtain ⟨T_2, h_2, X_2, e_2, E_2, A_2, st_2⟩ := own_newP X0 hx hZ (ty := .byte) rfl (hq hw 11 rfl) e0 (g := j_410) rfl (D 1 rfl) rfl (by decide) (cap := 4) (by decide) (by decide) (by decide) (by decide)
  obtain ⟨ad_2, g_2⟩ : ∃ z, z = h0.size := ⟨_, rfl⟩
  rw [← g_2] at A_2 st_2
  have z_2 := E_2.1
  have y_2 := own_ltA A_2
  have B_2 : Ary Z h_2 ad_2 .byte [(.int 0), (.int 0), (.int 0), (.int 0)] := A_2
  let j_411 := (mkF m 9 #[vR a1, vI 1, vI 4, vR ad_2, vU, vU] [(.int 4), (.int 0), (.ref ad_2), (.int 1), (.ref a1)])
  refine Go.s T_2 j_411 (fun _ hr => st_2 _ (yn X_2 hx (D 2 rfl) rfl rfl (yb X_2 hx (D 3 rfl) rfl rfl (yj X_2 hx (D 4 rfl) rfl (yb X_2 hx (D 5 rfl) rfl rfl (yc X_2 hx (D 6 rfl) (yj X_2 hx (D 7 rfl) rfl hr))))))) ?_
  have F_4 := (O0.ext E_2)
  have F_5 := (Ab.ext E_2)
  obtain ⟨v_3, T_3, h_3, L_3, X_3, e_3, ⟨rfl, N_3, K_3, B_3⟩, st_3⟩ := cS X_2 hx hZ hown (hq hw 275 rfl) (hq hw 276 rfl) (hq hw 34 rfl) (hq hw 277 rfl) e_2 hml (rmCB5 l Z a0 hw a1 ad_2 h_2 n0 (by omega) F_4 SAD SHI SLO vfm rfm SFM c0 c1 c2 c3 F_5 q0 q1 q2 q3 B_2 (by omega) (own_ne (by omega))) (g := j_411) rfl rfl (lenOf pd_17 rfl) rfl (D 8 rfl) (W := 0) rfl rfl (by decide)
  have N_3' := Fr.app N0 N_3
  have z_3 := K_3.1
  refine Go.s T_3 (mkF m 65 #[vR a1, vI 1, vI 4, vR ad_2, vI 4, vU] [(.ref ad_2)]) (fun _ hr => st_3 _ (yk X_3 hx (D 9 rfl) rfl (yi X_3 hx (D 10 rfl) rfl (yj X_3 hx (D 11 rfl) rfl (yY X_3 hx (D 12 rfl) (pc' := 64) (XT.ii_eq_t (by decide)) rfl (yb X_3 hx (D 13 rfl) rfl rfl hr)))))) ?_
  refine Go.retA X_3 hx hlk (t := (.array .byte)) hret rfl rfl (D 14 rfl) (by decide) (by decide) ?_
  try rw [e_3]
  exact ⟨ad_2, rfl, N_3', (((Keep.refl h0 []).ext E_2).trans K_3 (own_t1 (by first | exact Or.inr (by omega) | exact Or.inl (by simp)))), by omega, B_3⟩
theorem rmNS5 (hw : own_W a0 Z) (a1 : Nat) (h0 : Heap) (n0 : Nat) (Z0 : n0 ≤ h0.size) (vcs : Int32) (hcs : ¬ vcs = 0) (O0 : Old Z n0 h0) (SCS : sCS Z vcs) (SAD : sAD Z) (SHI : sHI Z) (SLO : sLO Z) (vfm : Value) (rfm : vfm.isRef = true) (SFM : sFM Z vfm) (c0 c1 c2 c3 : Int32) (Ab : Ary Z h0 a1 .byte [(.int (own_lo 65279)), (.int (own_hi 65279)), (.int (own_lo c0)), (.int (own_hi c0)), (.int (own_lo c1)), (.int (own_hi c1)), (.int (own_lo c2)), (.int (own_hi c2)), (.int (own_lo c3)), (.int (own_hi c3))]) (q0 : own_rg c0) (q1 : own_rg c1) (q2 : own_rg c2) (q3 : own_rg c3) :
    Con l Z ⟨"java/lang/StringUTF16", "newString", "([BII)Ljava/lang/String;"⟩ jdk_52_method_69_code 5 (some (.object "java/lang/String")) ⟨5, 2, 8, 78⟩ #[(.ref a1), (.int 1), (.int 4)] h0 (fun v h L => ∃ sa : Nat, v = some (.ref sa) ∧ Fr n0 L ∧ Keep h0 h [] ∧ h0.size ≤ sa ∧ Exa Z h sa "java/lang/String" ∧ ∃ vb : Nat, h0.size ≤ vb ∧ fV Z h sa (.ref vb) ∧ fC Z h sa (.int 0) ∧ Ary Z h vb .byte [(.int c0.toInt8.toInt32), (.int c1.toInt8.toInt32), (.int c2.toInt8.toInt32), (.int c3.toInt8.toInt32)]) := by
  refine Con.o (L := #[vR a1, vI 1, vI 4, vU, vU]) n0 d54 pf_33 (by simp [argsToLocals, Value.category]) ?_
  intro p e s m _ _ c T0 X0 hx hby hml hZ hown hnm hret hlk e0 N0 D
  have lt_1 := own_ltA Ab
  let j_412 := (mkF m 8 #[vR a1, vI 1, vI 4, vU, vU] [])
  refine Go.s T0 j_412 (fun _ hr => yj X0 hx (D 0 rfl) rfl (yX X0 hx (D 1 rfl) (pc' := 8) (XT.i0_ne_t (by decide)) rfl hr)) ?_
  obtain ⟨T_2, X_2, e_2, st_2⟩ := getS2 X0 hx hZ hown (host := "") (Or.inl (hq hw 271 rfl)) Via.refl e0 (SCS.ext O0.2) (g := j_412) rfl (D 4 rfl)
  let j_413 := (mkF m 17 #[vR a1, vI 1, vI 4, vU, vU] [(.int 4), (.int 1), (.ref a1)])
  refine Go.s T_2 j_413 (fun _ hr => st_2 _ (yM X_2 hx (D 5 rfl) (XT.i0_eq_f hcs) (yb X_2 hx (D 6 rfl) rfl rfl (yj X_2 hx (D 7 rfl) rfl (yj X_2 hx (D 8 rfl) rfl hr))))) ?_
  obtain ⟨v_3, T_3, h_3, L_3, X_3, e_3, ⟨cb_3, rfl, N_3, K_3, g_3, B_3⟩, st_3⟩ := cS X_2 hx hZ hown (hq hw 272 rfl) (hq hw 273 rfl) (hq hw 34 rfl) (hq hw 274 rfl) e_2 hml (rmCBA5 l Z a0 hw a1 h0 n0 (by omega) O0 SAD SHI SLO vfm rfm SFM c0 c1 c2 c3 Ab q0 q1 q2 q3) (g := j_413) rfl rfl (lenOf pd_18 rfl) rfl (D 9 rfl) (W := 0) rfl rfl (by decide)
  have N_3' := Fr.app N0 N_3
  have z_3 := K_3.1
  have yy_3 := own_ltA B_3
  let j_414 := (mkF m 23 #[vR a1, vI 1, vI 4, vR cb_3, vU] [(.int 4), (.ref cb_3)])
  refine Go.s T_3 j_414 (fun _ hr => st_3 _ (yn X_3 hx (D 10 rfl) rfl rfl (yb X_3 hx (D 11 rfl) rfl rfl (yj X_3 hx (D 12 rfl) rfl hr)))) ?_
  obtain ⟨v_4, T_4, h_4, L_4, X_4, e_4, ⟨rfl, N_4, hh_4⟩, st_4⟩ := cS X_3 hx hZ hown (hq hw 287 rfl) (hq hw 40 rfl) (hq hw 34 rfl) (hq hw 41 rfl) e_3 hml (rmCF4 l Z a0 hw cb_3 h_3 n0 (by omega) [(.int c0.toInt8.toInt32), (.int c1.toInt8.toInt32), (.int c2.toInt8.toInt32), (.int c3.toInt8.toInt32)] B_3 rfl) (g := j_414) rfl rfl (lenOf pd_2 rfl) rfl (D 13 rfl) (W := 0) rfl rfl (by decide)
  have N_4' := Fr.app N_3' N_4
  rw [hh_4] at e_4
  let j_415 := (mkF m 28 #[vR a1, vI 1, vI 4, vR cb_3, vI 0] [])
  refine Go.s T_4 j_415 (fun _ hr => st_4 _ (yk X_4 hx (D 14 rfl) rfl hr)) ?_
  obtain ⟨T_5, h_5, X_5, e_5, E_5, A_5, D_5, -, st_5⟩ := newO X_4 hx hZ hown (hq hw 288 rfl) (hq hw 10 rfl) (hq hw 9 rfl) e_4 (g := j_415) rfl (D 15 rfl) (by decide) (by decide)
  obtain ⟨ad_5, g_5⟩ : ∃ z, z = h_3.size := ⟨_, rfl⟩
  rw [← g_5] at A_5 D_5 st_5
  have z_5 := E_5.1
  have y_5 := own_ltE A_5
  have F_5_value : fV Z h_5 ad_5 .null := D_5 (Or.inr (hq hw 12 rfl)) (ty := (.array .byte)) (by decide)
  have F_5_coder : fC Z h_5 ad_5 (.int 0) := D_5 (Or.inr (hq hw 13 rfl)) (ty := .byte) (by decide)
  let j_416 := (mkF m 35 #[vR a1, vI 1, vI 4, vR cb_3, vI 0] [(.int 0), (.ref cb_3), (.ref ad_5), (.ref ad_5)])
  refine Go.s T_5 j_416 (fun _ hr => st_5 _ (yd X_5 hx (D 16 rfl) rfl (yb X_5 hx (D 17 rfl) rfl rfl (yi X_5 hx (D 18 rfl) rfl hr)))) ?_
  obtain ⟨v_6, T_6, h_6, L_6, X_6, e_6, ⟨rfl, N_6, K_6, F1_6, F2_6⟩, st_6⟩ := cN X_5 hx hZ hown (hq hw 289 rfl) (hq hw 290 rfl) (hq hw 9 rfl) (hq hw 291 rfl) e_5 rfl hml (rmSB l Z a0 hw ad_5 cb_3 h_5 n0 (by omega) A_5 F_5_value F_5_coder (by omega)) (g := j_416) rfl rfl (lenOf pd_19 rfl) rfl (D 19 rfl) (W := 1) rfl rfl (by decide)
  have N_6' := Fr.app N_4' N_6
  have z_6 := K_6.1
  refine Go.s T_6 (mkF m 38 #[vR a1, vI 1, vI 4, vR cb_3, vI 0] [(.ref ad_5)]) st_6 ?_
  refine Go.retA X_6 hx hlk (t := (.object "java/lang/String")) hret rfl rfl (D 20 rfl) (by decide) (by decide) ?_
  try rw [e_6]
  have F_7 := (A_5.keep K_6)
  have F_8 := ((B_3.ext E_5).keep K_6 (own_n1 (by omega)))
  exact ⟨ad_5, rfl, N_6', ((((Keep.refl h0 []).trans K_3 all0).ext E_5).trans K_6 (own_t1 (by first | exact Or.inr (by omega) | exact Or.inl (by simp)))), by omega, F_7, cb_3, by omega, F1_6, F2_6, F_8⟩
theorem rmSubB5 (hw : own_W a0 Z) (a1 : Nat) (h0 : Heap) (n0 : Nat) (Z0 : n0 ≤ h0.size) (vcs : Int32) (hcs : ¬ vcs = 0) (O0 : Old Z n0 h0) (SCS : sCS Z vcs) (SAD : sAD Z) (SHI : sHI Z) (SLO : sLO Z) (vfm : Value) (rfm : vfm.isRef = true) (SFM : sFM Z vfm) (vb : Nat) (E1 : Exa Z h0 a1 "java/lang/String") (Fv : fV Z h0 a1 (.ref vb)) (Fc : fC Z h0 a1 (.int 1)) (c0 c1 c2 c3 : Int32) (Ab : Ary Z h0 vb .byte [(.int (own_lo 65279)), (.int (own_hi 65279)), (.int (own_lo c0)), (.int (own_hi c0)), (.int (own_lo c1)), (.int (own_hi c1)), (.int (own_lo c2)), (.int (own_hi c2)), (.int (own_lo c3)), (.int (own_hi c3))]) (q0 : own_rg c0) (q1 : own_rg c1) (q2 : own_rg c2) (q3 : own_rg c3) :
    Con l Z ⟨"java/lang/String", "substring", "(II)Ljava/lang/String;"⟩ jdk_42_method_92_code 5 (some (.object "java/lang/String")) ⟨6, 2, 8, 94⟩ #[(.ref a1), (.int 1), (.int 5)] h0 (fun v h L => ∃ sa : Nat, v = some (.ref sa) ∧ Fr n0 L ∧ Keep h0 h [] ∧ h0.size ≤ sa ∧ Exa Z h sa "java/lang/String" ∧ ∃ vb : Nat, h0.size ≤ vb ∧ fV Z h sa (.ref vb) ∧ fC Z h sa (.int 0) ∧ Ary Z h vb .byte [(.int c0.toInt8.toInt32), (.int c1.toInt8.toInt32), (.int c2.toInt8.toInt32), (.int c3.toInt8.toInt32)]) := by
  refine Con.o (L := #[vR a1, vI 1, vI 5, vU, vU]) n0 d55 pf_34 (by simp [argsToLocals, Value.category]) ?_
  intro p e s m _ _ c T0 X0 hx hby hml hZ hown hnm hret hlk e0 N0 D
  have lt_1 := own_ltE E1
  have lt_2 := own_ltA Ab
  let j_417 := (mkF m 1 #[vR a1, vI 1, vI 5, vU, vU] [(.ref a1)])
  refine Go.s T0 j_417 (fun _ hr => yb X0 hx (D 0 rfl) rfl rfl hr) ?_
  obtain ⟨v_3, T_3, h_3, L_3, X_3, e_3, ⟨rfl, N_3, hh_3⟩, st_3⟩ := cV X0 hx hZ hown (hq hw 255 rfl) (hq hw 150 rfl) (hq hw 152 rfl) (hq hw 152 rfl) (hq hw 151 rfl) (hq hw 9 rfl) (hq hw 153 rfl) e0 E1 hml (rmLnU5 l Z a0 hw a1 h0 n0 (by omega) vcs hcs O0 SCS SAD SHI SLO vfm rfm SFM vb E1 Fv Fc c0 c1 c2 c3 Ab q0 q1 q2 q3) (g := j_417) rfl rfl (lenOf pd_20 rfl) rfl (D 1 rfl) (W := 0) rfl rfl (by decide)
  have N_3' := Fr.app N0 N_3
  rw [hh_3] at e_3
  let j_418 := (mkF m 8 #[vR a1, vI 1, vI 5, vI 5, vU] [(.int 5), (.int 5), (.int 1)])
  refine Go.s T_3 j_418 (fun _ hr => st_3 _ (yl X_3 hx (D 2 rfl) rfl (yj X_3 hx (D 3 rfl) rfl (yj X_3 hx (D 4 rfl) rfl (yj X_3 hx (D 5 rfl) rfl hr))))) ?_
  obtain ⟨v_4, T_4, h_4, L_4, X_4, e_4, ⟨rfl, N_4, hh_4⟩, st_4⟩ := cS X_3 hx hZ hown (hq hw 261 rfl) (hq hw 262 rfl) (hq hw 9 rfl) (hq hw 263 rfl) e_3 hml (rmCBB l Z a0 hw 1 5 5 h0 n0 (by omega) O0 vfm rfm SFM (by decide) (by decide) (by decide)) (g := j_418) rfl rfl (lenOf pd_21 rfl) rfl (D 6 rfl) (W := 0) rfl rfl (by decide)
  have N_4' := Fr.app N_3' N_4
  rw [hh_4] at e_4
  refine Go.s T_4 (mkF m 24 #[vR a1, vI 1, vI 5, vI 5, vU] [(.int 1), (.int 5)]) (fun _ hr => st_4 _ (yj X_4 hx (D 7 rfl) rfl (yX X_4 hx (D 8 rfl) (pc' := 22) (XT.i0_ne_t (by decide)) rfl (yj X_4 hx (D 9 rfl) rfl (yj X_4 hx (D 10 rfl) rfl hr))))) ?_
  let j_419 := (mkF m 28 #[vR a1, vI 1, vI 5, vI 5, vI 4] [(.ref a1)])
  refine Go.s T_4 j_419 (fun _ hr => y2 X_4 hx (D 11 rfl) (yk X_4 hx (D 12 rfl) rfl (yb X_4 hx (D 13 rfl) rfl rfl hr))) ?_
  obtain ⟨v_5, T_5, h_5, L_5, X_5, e_5, ⟨rfl, N_5, hh_5⟩, st_5⟩ := cV X_4 hx hZ hown (hq hw 60 rfl) (hq hw 61 rfl) (hq hw 63 rfl) (hq hw 63 rfl) (hq hw 62 rfl) (hq hw 9 rfl) (hq hw 64 rfl) e_4 E1 hml (rmIL1 l Z a0 hw a1 h0 n0 (by omega) vcs hcs O0 SCS vb E1 Fv Fc [(.int (own_lo 65279)), (.int (own_hi 65279)), (.int (own_lo c0)), (.int (own_hi c0)), (.int (own_lo c1)), (.int (own_hi c1)), (.int (own_lo c2)), (.int (own_hi c2)), (.int (own_lo c3)), (.int (own_hi c3))] Ab) (g := j_419) rfl rfl (lenOf pd_12 rfl) rfl (D 14 rfl) (W := 0) rfl rfl (by decide)
  have N_5' := Fr.app N_4' N_5
  rw [hh_5] at e_5
  let j_420 := (mkF m 48 #[vR a1, vI 1, vI 5, vI 5, vI 4] [(.ref a1)])
  refine Go.s T_5 j_420 (fun _ hr => st_5 _ (yX X_5 hx (D 15 rfl) (pc' := 47) (XT.i0_eq_t (by decide)) rfl (yb X_5 hx (D 16 rfl) rfl rfl hr))) ?_
  obtain ⟨T_6, X_6, e_6, st_6⟩ := getF X_5 hx hZ hown (host := "") (Or.inl (hq hw 43 rfl)) Via.refl e_5 Fv (g := j_420) rfl rfl (D 17 rfl)
  let j_421 := (mkF m 54 #[vR a1, vI 1, vI 5, vI 5, vI 4] [(.int 4), (.int 1), (.ref vb)])
  refine Go.s T_6 j_421 (fun _ hr => st_6 _ (yj X_6 hx (D 18 rfl) rfl (yi X_6 hx (D 19 rfl) rfl hr))) ?_
  obtain ⟨v_7, T_7, h_7, L_7, X_7, e_7, ⟨sa_7, rfl, N_7, K_7, g_7, E1_7, vb_7, gg_7, F1_7, F2_7, B_7⟩, st_7⟩ := cS X_6 hx hZ hown (hq hw 267 rfl) (hq hw 268 rfl) (hq hw 34 rfl) (hq hw 269 rfl) e_6 hml (rmNS5 l Z a0 hw vb h0 n0 (by omega) vcs hcs O0 SCS SAD SHI SLO vfm rfm SFM c0 c1 c2 c3 Ab q0 q1 q2 q3) (g := j_421) rfl rfl (lenOf pd_22 rfl) rfl (D 20 rfl) (W := 0) rfl rfl (by decide)
  have N_7' := Fr.app N_5' N_7
  have z_7 := K_7.1
  have yv_7 := own_ltA B_7
  have ys_7 := own_ltE E1_7
  refine Go.s T_7 (mkF m 57 #[vR a1, vI 1, vI 5, vI 5, vI 4] [(.ref sa_7)]) st_7 ?_
  refine Go.retA X_7 hx hlk (t := (.object "java/lang/String")) hret rfl rfl (D 21 rfl) (by decide) (by decide) ?_
  try rw [e_7]
  exact ⟨sa_7, rfl, N_7', ((Keep.refl h0 []).trans K_7 all0), by omega, E1_7, vb_7, by omega, F1_7, F2_7, B_7⟩
theorem rmSubA5 (hw : own_W a0 Z) (a1 : Nat) (h0 : Heap) (n0 : Nat) (Z0 : n0 ≤ h0.size) (vcs : Int32) (hcs : ¬ vcs = 0) (O0 : Old Z n0 h0) (SCS : sCS Z vcs) (SAD : sAD Z) (SHI : sHI Z) (SLO : sLO Z) (vfm : Value) (rfm : vfm.isRef = true) (SFM : sFM Z vfm) (vb : Nat) (E1 : Exa Z h0 a1 "java/lang/String") (Fv : fV Z h0 a1 (.ref vb)) (Fc : fC Z h0 a1 (.int 1)) (c0 c1 c2 c3 : Int32) (Ab : Ary Z h0 vb .byte [(.int (own_lo 65279)), (.int (own_hi 65279)), (.int (own_lo c0)), (.int (own_hi c0)), (.int (own_lo c1)), (.int (own_hi c1)), (.int (own_lo c2)), (.int (own_hi c2)), (.int (own_lo c3)), (.int (own_hi c3))]) (q0 : own_rg c0) (q1 : own_rg c1) (q2 : own_rg c2) (q3 : own_rg c3) :
    Con l Z ⟨"java/lang/String", "substring", "(I)Ljava/lang/String;"⟩ jdk_42_method_91_code 2 (some (.object "java/lang/String")) ⟨7, 2, 8, 110⟩ #[(.ref a1), (.int 1)] h0 (fun v h L => ∃ sa : Nat, v = some (.ref sa) ∧ Fr n0 L ∧ Keep h0 h [] ∧ h0.size ≤ sa ∧ Exa Z h sa "java/lang/String" ∧ ∃ vb : Nat, h0.size ≤ vb ∧ fV Z h sa (.ref vb) ∧ fC Z h sa (.int 0) ∧ Ary Z h vb .byte [(.int c0.toInt8.toInt32), (.int c1.toInt8.toInt32), (.int c2.toInt8.toInt32), (.int c3.toInt8.toInt32)]) := by
  refine Con.o (L := #[vR a1, vI 1]) n0 d56 pf_35 (by simp [argsToLocals, Value.category]) ?_
  intro p e s m _ _ c T0 X0 hx hby hml hZ hown hnm hret hlk e0 N0 D
  have lt_1 := own_ltE E1
  have lt_2 := own_ltA Ab
  let j_422 := (mkF m 3 #[vR a1, vI 1] [(.ref a1), (.int 1), (.ref a1)])
  refine Go.s T0 j_422 (fun _ hr => yb X0 hx (D 0 rfl) rfl rfl (yj X0 hx (D 1 rfl) rfl (yb X0 hx (D 2 rfl) rfl rfl hr))) ?_
  obtain ⟨v_3, T_3, h_3, L_3, X_3, e_3, ⟨rfl, N_3, hh_3⟩, st_3⟩ := cV X0 hx hZ hown (hq hw 255 rfl) (hq hw 150 rfl) (hq hw 152 rfl) (hq hw 152 rfl) (hq hw 151 rfl) (hq hw 9 rfl) (hq hw 153 rfl) e0 E1 hml (rmLnU5 l Z a0 hw a1 h0 n0 (by omega) vcs hcs O0 SCS SAD SHI SLO vfm rfm SFM vb E1 Fv Fc c0 c1 c2 c3 Ab q0 q1 q2 q3) (g := j_422) rfl rfl (lenOf pd_20 rfl) rfl (D 3 rfl) (W := 2) rfl rfl (by decide)
  have N_3' := Fr.app N0 N_3
  rw [hh_3] at e_3
  let j_423 := (mkF m 6 #[vR a1, vI 1] [(.int 5), (.int 1), (.ref a1)])
  refine Go.s T_3 j_423 st_3 ?_
  obtain ⟨v_4, T_4, h_4, L_4, X_4, e_4, ⟨sa_4, rfl, N_4, K_4, g_4, E1_4, vb_4, gg_4, F1_4, F2_4, B_4⟩, st_4⟩ := cV X_3 hx hZ hown (hq hw 256 rfl) (hq hw 257 rfl) (hq hw 259 rfl) (hq hw 259 rfl) (hq hw 258 rfl) (hq hw 9 rfl) (hq hw 260 rfl) e_3 E1 hml (rmSubB5 l Z a0 hw a1 h0 n0 (by omega) vcs hcs O0 SCS SAD SHI SLO vfm rfm SFM vb E1 Fv Fc c0 c1 c2 c3 Ab q0 q1 q2 q3) (g := j_423) rfl rfl (lenOf pd_23 rfl) rfl (D 4 rfl) (W := 0) rfl rfl (by decide)
  have N_4' := Fr.app N_3' N_4
  have z_4 := K_4.1
  have yv_4 := own_ltA B_4
  have ys_4 := own_ltE E1_4
  refine Go.s T_4 (mkF m 9 #[vR a1, vI 1] [(.ref sa_4)]) st_4 ?_
  refine Go.retA X_4 hx hlk (t := (.object "java/lang/String")) hret rfl rfl (D 5 rfl) (by decide) (by decide) ?_
  try rw [e_4]
  exact ⟨sa_4, rfl, N_4', ((Keep.refl h0 []).trans K_4 all0), by omega, E1_4, vb_4, by omega, F1_4, F2_4, B_4⟩
theorem pf_36 : plainFor (⟨cX, "lineBreakLength", "(Ljava/lang/CharSequence;I)I"⟩ : MethodName) = true := plainFor_of_name (by first | (simp [plainName, overriddenIn]; done) | decide +kernel)
theorem pd_24 : parseMethodDescriptor "(I)C" = some ⟨[.int], some .char⟩ := by decide +kernel
theorem rmLB (hw : own_W a0 Z) (a1 : Nat) (vi : Int32) (h0 : Heap) (n0 : Nat) (Z0 : n0 ≤ h0.size) (vcs : Int32) (hcs : ¬ vcs = 0) (O0 : Old Z n0 h0) (SCS : sCS Z vcs) (vb : Nat) (E1 : Exa Z h0 a1 "java/lang/String") (Fv : fV Z h0 a1 (.ref vb)) (Fc : fC Z h0 a1 (.int 0)) (cs : List Int32) (Ab : Ary Z h0 vb .byte (cs.map own_bv)) (hl1 : own_l1 cs) (vfm : Value) (rfm : vfm.isRef = true) (SFM : sFM Z vfm) (i : Nat) (hi : vi.toInt = i) (hic : i < cs.length) :
    Con l Z ⟨cX, "lineBreakLength", "(Ljava/lang/CharSequence;I)I"⟩ prog_195_method_3_code 4 (some .int) ⟨4, 0, 0, 53⟩ #[(.ref a1), (.int vi)] h0 (fun v h L => ∃ r : Int32, v = some (.int r) ∧ Fr n0 L ∧ h = h0 ∧ r.toInt = own_lb cs i) := by
  refine Con.o (L := #[vR a1, vI vi, vU, vU]) n0 d57 pf_36 (by simp [argsToLocals, Value.category]) ?_
  intro p e s m _ _ c T0 X0 hx hby hml hZ hown hnm hret hlk e0 N0 D
  have hlc := hl1.2
  have lt_1 := own_ltE E1
  have lt_2 := own_ltA Ab
  let j_424 := (mkF m 2 #[vR a1, vI vi, vU, vU] [(.int vi), (.ref a1)])
  refine Go.s T0 j_424 (fun _ hr => yb X0 hx (D 0 rfl) rfl rfl (yj X0 hx (D 1 rfl) rfl hr)) ?_
  obtain ⟨v_3, T_3, h_3, L_3, X_3, e_3, ⟨rfl, N_3, hh_3⟩, st_3⟩ := own_callI X0 hx hZ (C := "java/lang/String") (xi := ⟨"java/lang/CharSequence", "charAt", "(I)C"⟩) (y := ⟨"java/lang/String", "charAt", "(I)C"⟩) hown (hq hw 162 rfl) (hq hw 163 rfl) (hq hw 164 rfl) (hq hw 165 rfl) (hq hw 57 rfl) (hq hw 166 rfl) (hq hw 167 rfl) (hq hw 168 rfl) (hq hw 9 rfl) (hq hw 59 rfl) (by decide) e0 (a := a1) E1 (argsL := [(.int vi)]) (rest := []) (rmCA l Z a0 hw a1 vi h0 n0 (by omega) vcs hcs O0 SCS vb E1 Fv Fc cs Ab hl1 vfm rfm SFM (i) hi hic) (g := j_424) rfl (by rw [hml]; rfl) (lenOf pd_24 rfl) rfl (D 2 rfl) (W := 0) (by show 2 * 0 + _ ≤ _; exact Nat.le_of_eq rfl) (by decide) (by decide) (by decide) (by decide)
  have N_3' := Fr.app N0 N_3
  rw [hh_3] at e_3
  refine Go.s T_3 (mkF m 11 #[vR a1, vI vi, vI (cs.getD i 0), vU] [(.int 13), (.int (cs.getD i 0))]) (fun _ hr => st_3 _ (yl X_3 hx (D 3 rfl) rfl (yj X_3 hx (D 4 rfl) rfl (yp X_3 hx (D 5 rfl) hr)))) ?_
  by_cases hc4 : (cs.getD i 0) = 13
  · let j_425 := (mkF m 18 #[vR a1, vI vi, vI (cs.getD i 0), vU] [(.ref a1), (.int (vi + 1))])
    refine Go.s T_3 j_425 (fun _ hr => yN X_3 hx (D 6 rfl) (XT.ii_ne_f hc4) (yj X_3 hx (D 7 rfl) rfl (yc X_3 hx (D 8 rfl) (y1 X_3 hx (D 9 rfl) (yb X_3 hx (D 10 rfl) rfl rfl hr))))) ?_
    obtain ⟨v_5, T_5, h_5, L_5, X_5, e_5, ⟨r_5, rfl, N_5, hh_5, hr_5⟩, st_5⟩ := own_callI X_3 hx hZ (C := "java/lang/String") (xi := ⟨"java/lang/CharSequence", "length", "()I"⟩) (y := ⟨"java/lang/String", "length", "()I"⟩) hown (hq hw 169 rfl) (hq hw 170 rfl) (hq hw 171 rfl) (hq hw 172 rfl) (hq hw 151 rfl) (hq hw 173 rfl) (hq hw 174 rfl) (hq hw 168 rfl) (hq hw 9 rfl) (hq hw 153 rfl) (by decide) e_3 (a := a1) E1 (argsL := []) (rest := [(.int (vi + 1))]) (rmLen l Z a0 hw a1 h0 n0 (by omega) vcs hcs O0 SCS vb E1 Fv Fc cs Ab hl1) (g := j_425) rfl (by rw [hml]; rfl) (lenOf pd_20 rfl) rfl (D 11 rfl) (W := 1) (by show 2 * 0 + _ ≤ _; exact Nat.le_of_eq rfl) (by decide) (by decide) (by decide) (by decide)
    have N_5' := Fr.app N_3' N_5
    rw [hh_5] at e_5
    refine Go.s T_5 (mkF m 23 #[vR a1, vI vi, vI (cs.getD i 0), vU] [(.int r_5), (.int (vi + 1))]) st_5 ?_
    by_cases hc6 : (vi + 1) < r_5
    · refine Go.s T_5 (mkF m 26 #[vR a1, vI vi, vI (cs.getD i 0), vU] []) (fun _ hr => yN X_5 hx (D 12 rfl) (XT.ii_ge_f hc6) hr) ?_
      have hi1 := own_up hi (by omega)
      have hic1 : i + 1 < cs.length := by
        have q := hc6
        rw [Int32.lt_iff_toInt_lt] at q; omega
      let j_426 := (mkF m 30 #[vR a1, vI vi, vI (cs.getD i 0), vU] [(.int (vi + 1)), (.ref a1)])
      refine Go.s T_5 j_426 (fun _ hr => yb X_5 hx (D 13 rfl) rfl rfl (yj X_5 hx (D 14 rfl) rfl (yc X_5 hx (D 15 rfl) (y1 X_5 hx (D 16 rfl) hr)))) ?_
      obtain ⟨v_7, T_7, h_7, L_7, X_7, e_7, ⟨rfl, N_7, hh_7⟩, st_7⟩ := own_callI X_5 hx hZ (C := "java/lang/String") (xi := ⟨"java/lang/CharSequence", "charAt", "(I)C"⟩) (y := ⟨"java/lang/String", "charAt", "(I)C"⟩) hown (hq hw 162 rfl) (hq hw 163 rfl) (hq hw 164 rfl) (hq hw 165 rfl) (hq hw 57 rfl) (hq hw 166 rfl) (hq hw 167 rfl) (hq hw 168 rfl) (hq hw 9 rfl) (hq hw 59 rfl) (by decide) e_5 (a := a1) E1 (argsL := [(.int (vi + 1))]) (rest := []) (rmCA l Z a0 hw a1 (vi + 1) h0 n0 (by omega) vcs hcs O0 SCS vb E1 Fv Fc cs Ab hl1 vfm rfm SFM (i + 1) hi1 hic1) (g := j_426) rfl (by rw [hml]; rfl) (lenOf pd_24 rfl) rfl (D 17 rfl) (W := 0) (by show 2 * 0 + _ ≤ _; exact Nat.le_of_eq rfl) (by decide) (by decide) (by decide) (by decide)
      have N_7' := Fr.app N_5' N_7
      rw [hh_7] at e_7
      refine Go.s T_7 (mkF m 37 #[vR a1, vI vi, vI (cs.getD i 0), vU] [(.int 10), (.int (cs.getD (i + 1) 0))]) (fun _ hr => st_7 _ (yp X_7 hx (D 18 rfl) hr)) ?_
      by_cases hc8 : (cs.getD (i + 1) 0) = 10
      · refine Go.s T_7 (mkF m 65 #[vR a1, vI vi, vI (cs.getD i 0), vI 2] [(.int 2)]) (fun _ hr => yN X_7 hx (D 19 rfl) (XT.ii_ne_f hc8) (yc X_7 hx (D 20 rfl) (yl X_7 hx (D 21 rfl) rfl (yg X_7 hx (D 22 rfl) (pc' := 64) rfl (yj X_7 hx (D 34 rfl) rfl hr))))) ?_
        refine Go.retI X_7 hx hlk hret (D 35 rfl) (by decide) (by decide) ?_
        try rw [e_7]
        have hz : i + 1 < cs.length := by
          have hi1 := own_up hi (by omega)
          have q := hc6
          rw [Int32.lt_iff_toInt_lt] at q; omega
        exact ⟨(2 : Int32), rfl, N_7', rfl, by rw [own_lb, if_pos hc4, if_pos hz, if_pos hc8]; rfl⟩
      refine Go.s T_7 (mkF m 65 #[vR a1, vI vi, vI (cs.getD i 0), vI 1] [(.int 1)]) (fun _ hr => yY X_7 hx (D 19 rfl) (pc' := 45) (XT.ii_ne_t hc8) rfl (yj X_7 hx (D 23 rfl) rfl (yp X_7 hx (D 24 rfl) (yY X_7 hx (D 25 rfl) (pc' := 57) (XT.ii_eq_t hc4) rfl (yc X_7 hx (D 29 rfl) (yl X_7 hx (D 30 rfl) rfl (yg X_7 hx (D 31 rfl) (pc' := 64) rfl (yj X_7 hx (D 34 rfl) rfl hr)))))))) ?_
      refine Go.retI X_7 hx hlk hret (D 35 rfl) (by decide) (by decide) ?_
      try rw [e_7]
      have hz : i + 1 < cs.length := by
        have hi1 := own_up hi (by omega)
        have q := hc6
        rw [Int32.lt_iff_toInt_lt] at q; omega
      exact ⟨(1 : Int32), rfl, N_7', rfl, by rw [own_lb, if_pos hc4, if_pos hz, if_neg hc8]; rfl⟩
    refine Go.s T_5 (mkF m 65 #[vR a1, vI vi, vI (cs.getD i 0), vI 1] [(.int 1)]) (fun _ hr => yY X_5 hx (D 12 rfl) (pc' := 45) (XT.ii_ge_t hc6) rfl (yj X_5 hx (D 23 rfl) rfl (yp X_5 hx (D 24 rfl) (yY X_5 hx (D 25 rfl) (pc' := 57) (XT.ii_eq_t hc4) rfl (yc X_5 hx (D 29 rfl) (yl X_5 hx (D 30 rfl) rfl (yg X_5 hx (D 31 rfl) (pc' := 64) rfl (yj X_5 hx (D 34 rfl) rfl hr)))))))) ?_
    refine Go.retI X_5 hx hlk hret (D 35 rfl) (by decide) (by decide) ?_
    try rw [e_5]
    have hz : ¬ i + 1 < cs.length := by
      have hi1 := own_up hi (by omega)
      have q := hc6
      rw [Int32.lt_iff_toInt_lt] at q; omega
    exact ⟨(1 : Int32), rfl, N_5', rfl, by rw [own_lb, if_pos hc4, if_neg hz]; rfl⟩
  refine Go.s T_3 (mkF m 54 #[vR a1, vI vi, vI (cs.getD i 0), vU] [(.int 10), (.int (cs.getD i 0))]) (fun _ hr => yY X_3 hx (D 6 rfl) (pc' := 45) (XT.ii_ne_t hc4) rfl (yj X_3 hx (D 23 rfl) rfl (yp X_3 hx (D 24 rfl) (yN X_3 hx (D 25 rfl) (XT.ii_eq_f hc4) (yj X_3 hx (D 26 rfl) rfl (yp X_3 hx (D 27 rfl) hr)))))) ?_
  by_cases hc9 : (cs.getD i 0) = 10
  · refine Go.s T_3 (mkF m 65 #[vR a1, vI vi, vI (cs.getD i 0), vI 1] [(.int 1)]) (fun _ hr => yN X_3 hx (D 28 rfl) (XT.ii_ne_f hc9) (yc X_3 hx (D 29 rfl) (yl X_3 hx (D 30 rfl) rfl (yg X_3 hx (D 31 rfl) (pc' := 64) rfl (yj X_3 hx (D 34 rfl) rfl hr))))) ?_
    refine Go.retI X_3 hx hlk hret (D 35 rfl) (by decide) (by decide) ?_
    try rw [e_3]
    exact ⟨(1 : Int32), rfl, N_3', rfl, by rw [own_lb, if_neg hc4, if_pos hc9]; rfl⟩
  refine Go.s T_3 (mkF m 65 #[vR a1, vI vi, vI (cs.getD i 0), vI 0] [(.int 0)]) (fun _ hr => yY X_3 hx (D 28 rfl) (pc' := 62) (XT.ii_ne_t hc9) rfl (yc X_3 hx (D 32 rfl) (yl X_3 hx (D 33 rfl) rfl (yj X_3 hx (D 34 rfl) rfl hr)))) ?_
  refine Go.retI X_3 hx hlk hret (D 35 rfl) (by decide) (by decide) ?_
  try rw [e_3]
  exact ⟨(0 : Int32), rfl, N_3', rfl, by rw [own_lb, if_neg hc4, if_neg hc9]; rfl⟩
theorem pf_37 : plainFor (⟨"java/lang/Integer", "valueOf", "(I)Ljava/lang/Integer;"⟩ : MethodName) = true := plainFor_of_name (by first | (simp [plainName, overriddenIn]; done) | decide +kernel)
theorem rmVO (hw : own_W a0 Z) (vi : Int32) (h0 : Heap) (n0 : Nat) (Z0 : n0 ≤ h0.size) (O0 : Old Z n0 h0) (ica : Nat) (ivs : List Value) (SIH : sIH Z) (SIC : sIC Z ica) (AIC : Ary Z Z.heap ica (.object "java/lang/Integer") ivs) (hi256 : ivs.length = 256) (hIC : pIC Z ivs) (i : Nat) (hi : vi.toInt = i) (hi5 : i < 5) :
    Con l Z ⟨"java/lang/Integer", "valueOf", "(I)Ljava/lang/Integer;"⟩ jdk_33_method_22_code 1 (some (.object "java/lang/Integer")) ⟨0, 0, 0, 0⟩ #[(.int vi)] h0 (fun v h L => ∃ x : Nat, v = some (.ref x) ∧ Fr n0 L ∧ h = h0 ∧ Exa Z Z.heap x "java/lang/Integer" ∧ Fld Z Z.heap x "java/lang/Integer" "value" "I" (.int vi)) := by
  refine Con.o (L := #[vI vi]) n0 d60 pf_37 (by simp [argsToLocals, Value.category]) ?_
  intro p e s m _ _ c T0 X0 hx hby hml hZ hown hnm hret hlk e0 N0 D
  let j_427 := (mkF m 7 #[vI vi] [(.int vi)])
  refine Go.s T0 j_427 (fun _ hr => yj X0 hx (D 0 rfl) rfl (yp X0 hx (D 1 rfl) (yN X0 hx (D 2 rfl) (XT.ii_lt_f (show ¬ vi < -128 by rw [Int32.lt_iff_toInt_lt, own_m128]; omega)) (yj X0 hx (D 3 rfl) rfl hr)))) ?_
  obtain ⟨T_1, X_1, e_1, st_1⟩ := getS2 X0 hx hZ hown (host := "") (Or.inl (hq hw 111 rfl)) Via.refl e0 (SIH.ext O0.2) (g := j_427) rfl (D 4 rfl)
  let j_428 := (mkF m 13 #[vI vi] [])
  refine Go.s T_1 j_428 (fun _ hr => st_1 _ (yN X_1 hx (D 5 rfl) (XT.ii_gt_f (by rw [Int32.lt_iff_toInt_lt, own_127]; omega)) hr)) ?_
  obtain ⟨T_2, X_2, e_2, st_2⟩ := getS2 X_1 hx hZ hown (host := "") (Or.inl (hq hw 113 rfl)) Via.refl e_1 (SIC.ext O0.2) (g := j_428) rfl (D 6 rfl)
  let j_429 := (mkF m 21 #[vI vi] [(.int (vi + 128)), (.ref ica)])
  refine Go.s T_2 j_429 (fun _ hr => st_2 _ (yj X_2 hx (D 7 rfl) rfl (yq X_2 hx (D 8 rfl) (y1 X_2 hx (D 9 rfl) hr)))) ?_
  obtain ⟨x, hx1, Ex, Fx⟩ := hIC i hi5
  have e128 := own_p128 hi (by omega)
  rw [own_eqI hi (by omega)] at Fx
  refine Go.s T_2 (mkF m 22 #[vI vi] [(.ref x)]) (own_ldR X_2 hx hZ e_2 (AIC.ext O0.2) rfl (j := (vi + 128)) (v := (.ref x)) (by omega) (by omega) (by rw [own_toN e128]; exact hx1) (g := j_429) rfl rfl (D 10 rfl)) ?_
  refine Go.retA X_2 hx hlk (t := (.object "java/lang/Integer")) hret rfl rfl (D 11 rfl) (by decide) (by decide) ?_
  try rw [e_2]
  exact ⟨x, rfl, N0, rfl, Ex, Fx⟩
theorem pf_38 : plainFor (⟨"java/lang/Integer", "intValue", "()I"⟩ : MethodName) = true := plainFor_of_name (by first | (simp [plainName, overriddenIn]; done) | decide +kernel)
theorem rmIV (hw : own_W a0 Z) (a1 : Nat) (h0 : Heap) (n0 : Nat) (Z0 : n0 ≤ h0.size) (p1 : Int32) (Fx : Fld Z h0 a1 "java/lang/Integer" "value" "I" (.int p1)) :
    Con l Z ⟨"java/lang/Integer", "intValue", "()I"⟩ jdk_33_method_27_code 1 (some .int) ⟨0, 0, 0, 0⟩ #[(.ref a1)] h0 (fun v h L => v = some (.int p1) ∧ Fr n0 L ∧ h = h0) := by
  refine Con.o (L := #[vR a1]) n0 d61 pf_38 (by simp [argsToLocals, Value.category]) ?_
  intro p e s m _ _ c T0 X0 hx hby hml hZ hown hnm hret hlk e0 N0 D
  have lt_1 := own_ltF Fx
  let j_430 := (mkF m 1 #[vR a1] [(.ref a1)])
  refine Go.s T0 j_430 (fun _ hr => yb X0 hx (D 0 rfl) rfl rfl hr) ?_
  obtain ⟨T_2, X_2, e_2, st_2⟩ := getF X0 hx hZ hown (host := "") (Or.inl (hq hw 209 rfl)) Via.refl e0 Fx (g := j_430) rfl rfl (D 1 rfl)
  refine Go.s T_2 (mkF m 4 #[vR a1] [(.int p1)]) st_2 ?_
  refine Go.retI X_2 hx hlk hret (D 2 rfl) (by decide) (by decide) ?_
  try rw [e_2]
  exact ⟨rfl, N0, rfl⟩
theorem pf_39 : plainFor (⟨"java/util/AbstractCollection", "<init>", "()V"⟩ : MethodName) = true := plainFor_of_name (by first | (simp [plainName, overriddenIn]; done) | decide +kernel)
theorem rmABC (hw : own_W a0 Z) (a1 : Nat) (h0 : Heap) (n0 : Nat) (Z0 : n0 ≤ h0.size)  :
    Con l Z ⟨"java/util/AbstractCollection", "<init>", "()V"⟩ jdk_22_method_1_code 1 none ⟨1, 0, 0, 12⟩ #[(.ref a1)] h0 (fun v h L => v = none ∧ Fr n0 L ∧ h = h0) := by
  refine Con.o (L := #[vR a1]) n0 d62 pf_39 (by simp [argsToLocals, Value.category]) ?_
  intro p e s m _ _ c T0 X0 hx hby hml hZ hown hnm hret hlk e0 N0 D
  let j_431 := (mkF m 1 #[vR a1] [(.ref a1)])
  refine Go.s T0 j_431 (fun _ hr => yb X0 hx (D 0 rfl) rfl rfl hr) ?_
  obtain ⟨T_1, X_1, e_1, st_1⟩ := initO X0 hx hZ hown (hq hw 101 rfl) (hq hw 29 rfl) (hq hw 30 rfl) e0 (g := j_431) rfl (by rw [hml]; rfl) rfl (D 1 rfl) (by decide) (W := 0) (by show 2 * 0 + _ ≤ _; exact Nat.le_of_eq rfl) (by decide)
  refine Go.s T_1 (mkF m 4 #[vR a1] []) st_1 ?_
  refine Go.retV X_1 hx hlk hret (D 2 rfl) (by decide) (by decide) ?_
  try rw [e_1]
  exact ⟨rfl, N0, rfl⟩
theorem pf_40 : plainFor (⟨"java/util/AbstractList", "<init>", "()V"⟩ : MethodName) = true := plainFor_of_name (by first | (simp [plainName, overriddenIn]; done) | decide +kernel)
theorem pd_25 : parseMethodDescriptor "()V" = some ⟨[], none⟩ := by decide +kernel
theorem rmABL (hw : own_W a0 Z) (a1 : Nat) (h0 : Heap) (n0 : Nat) (Z0 : n0 ≤ h0.size) (E1 : Exa Z h0 a1 "java/util/ArrayList") (Fm : fM Z h0 a1 (.int 0)) (Fd : fE Z h0 a1 .null) (Fs : fS Z h0 a1 (.int 0)) (g1 : n0 ≤ a1) :
    Con l Z ⟨"java/util/AbstractList", "<init>", "()V"⟩ jdk_39_method_1_code 1 none ⟨2, 0, 0, 24⟩ #[(.ref a1)] h0 (fun v h L => v = none ∧ Fr n0 L ∧ Keep h0 h [a1] ∧ fM Z h a1 (.int 0) ∧ fE Z h a1 .null ∧ fS Z h a1 (.int 0)) := by
  refine Con.o (L := #[vR a1]) n0 d63 pf_40 (by simp [argsToLocals, Value.category]) ?_
  intro p e s m _ _ c T0 X0 hx hby hml hZ hown hnm hret hlk e0 N0 D
  have lt_1 := own_ltE E1
  let j_432 := (mkF m 1 #[vR a1] [(.ref a1)])
  refine Go.s T0 j_432 (fun _ hr => yb X0 hx (D 0 rfl) rfl rfl hr) ?_
  obtain ⟨v_2, T_2, h_2, L_2, X_2, e_2, ⟨rfl, N_2, hh_2⟩, st_2⟩ := cN X0 hx hZ hown (hq hw 95 rfl) (hq hw 96 rfl) (hq hw 99 rfl) (hq hw 100 rfl) e0 rfl hml (rmABC l Z a0 hw a1 h0 n0 Z0) (g := j_432) rfl rfl (lenOf pd_25 rfl) rfl (D 1 rfl) (W := 0) rfl rfl (by decide)
  have N_2' := Fr.app N0 N_2
  rw [hh_2] at e_2
  let j_433 := (mkF m 6 #[vR a1] [(.int 0), (.ref a1)])
  refine Go.s T_2 j_433 (fun _ hr => st_2 _ (yb X_2 hx (D 2 rfl) rfl rfl (yc X_2 hx (D 3 rfl) hr))) ?_
  obtain ⟨T_3, h_3, X_3, e_3, W_3, st_3⟩ := putF X_2 hx hZ hown (host := "") (Or.inl (hq hw 102 rfl)) Via.refl e_2 Fm E1 (Or.inl (hq hw 103 rfl)) (hq hw 84 rfl) (ty := .int) (by decide) rfl rfl (g := j_433) rfl rfl (D 4 rfl)
  have N_3 := Fr.snoc X_3 N_2' (by omega)
  have z_3 := W_3.size
  have F_3 := Fm.same W_3
  refine Go.s T_3 (mkF m 9 #[vR a1] []) st_3 ?_
  refine Go.retV X_3 hx hlk hret (D 5 rfl) (by decide) (by decide) ?_
  try rw [e_3]
  have F_4 := (Fd.other W_3 (Or.inr (slot_ne (t := (.array (.object "java/lang/Object"))) (t' := .int) (Or.inl (hq hw 106 rfl)) (Or.inl (hq hw 103 rfl)) (by decide) (by decide) (by decide))))
  have F_5 := (Fs.other W_3 (Or.inr (slot_ne (t := .int) (t' := .int) (Or.inl (hq hw 126 rfl)) (Or.inl (hq hw 103 rfl)) (by decide) (by decide) (by decide))))
  exact ⟨rfl, N_3, ((Keep.refl h0 [a1]).wr W_3 (Or.inl (by simp))), F_3, F_4, F_5⟩
theorem pf_41 : plainFor (⟨"java/util/ArrayList", "<init>", "()V"⟩ : MethodName) = true := plainFor_of_name (by first | (simp [plainName, overriddenIn]; done) | decide +kernel)
theorem rmAL (hw : own_W a0 Z) (a1 : Nat) (h0 : Heap) (n0 : Nat) (Z0 : n0 ≤ h0.size) (O0 : Old Z n0 h0) (vd : Nat) (SDV : sDV Z vd) (ADV : Ary Z Z.heap vd (.object "java/lang/Object") []) (E1 : Exa Z h0 a1 "java/util/ArrayList") (Fm : fM Z h0 a1 (.int 0)) (Fd : fE Z h0 a1 .null) (Fs : fS Z h0 a1 (.int 0)) (g1 : n0 ≤ a1) :
    Con l Z ⟨"java/util/ArrayList", "<init>", "()V"⟩ jdk_38_method_2_code 1 none ⟨3, 0, 0, 36⟩ #[(.ref a1)] h0 (fun v h L => v = none ∧ Fr n0 L ∧ Keep h0 h [a1] ∧ fM Z h a1 (.int 0) ∧ fE Z h a1 (.ref vd) ∧ fS Z h a1 (.int 0)) := by
  refine Con.o (L := #[vR a1]) n0 d64 pf_41 (by simp [argsToLocals, Value.category]) ?_
  intro p e s m _ _ c T0 X0 hx hby hml hZ hown hnm hret hlk e0 N0 D
  have lt_1 := own_ltE E1
  let j_434 := (mkF m 1 #[vR a1] [(.ref a1)])
  refine Go.s T0 j_434 (fun _ hr => yb X0 hx (D 0 rfl) rfl rfl hr) ?_
  obtain ⟨v_2, T_2, h_2, L_2, X_2, e_2, ⟨rfl, N_2, K_2, F1_2, F2_2, F3_2⟩, st_2⟩ := cN X0 hx hZ hown (hq hw 89 rfl) (hq hw 90 rfl) (hq hw 93 rfl) (hq hw 94 rfl) e0 rfl hml (rmABL l Z a0 hw a1 h0 n0 Z0 E1 Fm Fd Fs g1) (g := j_434) rfl rfl (lenOf pd_25 rfl) rfl (D 1 rfl) (W := 0) rfl rfl (by decide)
  have N_2' := Fr.app N0 N_2
  have z_2 := K_2.1
  let j_435 := (mkF m 5 #[vR a1] [(.ref a1)])
  refine Go.s T_2 j_435 (fun _ hr => st_2 _ (yb X_2 hx (D 2 rfl) rfl rfl hr)) ?_
  have F_3 := (O0.keep K_2 (own_o1 (by omega)))
  obtain ⟨T_4, X_4, e_4, st_4⟩ := getS2 X_2 hx hZ hown (host := "") (Or.inl (hq hw 104 rfl)) Via.refl e_2 (SDV.ext F_3.2) (g := j_435) rfl (D 3 rfl)
  let j_436 := (mkF m 8 #[vR a1] [(.ref vd), (.ref a1)])
  refine Go.s T_4 j_436 st_4 ?_
  have F_5 := (E1.keep K_2)
  obtain ⟨T_6, h_6, X_6, e_6, W_6, st_6⟩ := putF X_4 hx hZ hown (host := "") (Or.inl (hq hw 105 rfl)) Via.refl e_4 F2_2 F_5 (Or.inl (hq hw 106 rfl)) (hq hw 84 rfl) (ty := (.array (.object "java/lang/Object"))) (by decide) rfl rfl (g := j_436) rfl rfl (D 4 rfl)
  have N_6 := Fr.snoc X_6 N_2' (by omega)
  have z_6 := W_6.size
  have F_6 := F2_2.same W_6
  refine Go.s T_6 (mkF m 11 #[vR a1] []) st_6 ?_
  refine Go.retV X_6 hx hlk hret (D 5 rfl) (by decide) (by decide) ?_
  try rw [e_6]
  have F_7 := (F1_2.other W_6 (Or.inr (slot_ne (t := .int) (t' := (.array (.object "java/lang/Object"))) (Or.inl (hq hw 103 rfl)) (Or.inl (hq hw 106 rfl)) (by decide) (by decide) (by decide))))
  have F_8 := (F3_2.other W_6 (Or.inr (slot_ne (t := .int) (t' := (.array (.object "java/lang/Object"))) (Or.inl (hq hw 126 rfl)) (Or.inl (hq hw 106 rfl)) (by decide) (by decide) (by decide))))
  exact ⟨rfl, N_6, (((Keep.refl h0 [a1]).trans K_2 (own_t1 (by first | exact Or.inr (by omega) | exact Or.inl (by simp)))).wr W_6 (Or.inl (by simp))), F_7, F_6, F_8⟩
theorem pf_42 : plainFor (⟨"java/lang/Math", "max", "(II)I"⟩ : MethodName) = true := by decide +kernel
theorem rmMx (hw : own_W a0 Z) (p1 : Int32) (p2 : Int32) (h0 : Heap) (n0 : Nat) (Z0 : n0 ≤ h0.size)  :
    Con l Z ⟨"java/lang/Math", "max", "(II)I"⟩ jdk_29_method_65_code 2 (some .int) ⟨0, 0, 0, 0⟩ #[(.int p1), (.int p2)] h0 (fun v h L => v = some (.int (own_max p1 p2)) ∧ Fr n0 L ∧ h = h0) := by
  refine Con.o (L := #[vI p1, vI p2]) n0 d65 pf_42 (by simp [argsToLocals, Value.category]) ?_
  intro p e s m _ _ c T0 X0 hx hby hml hZ hown hnm hret hlk e0 N0 D
  refine Go.s T0 (mkF m 2 #[vI p1, vI p2] [(.int p2), (.int p1)]) (fun _ hr => yj X0 hx (D 0 rfl) rfl (yj X0 hx (D 1 rfl) rfl hr)) ?_
  by_cases hc1 : p1 < p2
  · refine Go.s T0 (mkF m 10 #[vI p1, vI p2] [(.int p2)]) (fun _ hr => yY X0 hx (D 2 rfl) (pc' := 9) (XT.ii_lt_t hc1) rfl (yj X0 hx (D 5 rfl) rfl hr)) ?_
    refine Go.retI X0 hx hlk hret (D 6 rfl) (by decide) (by decide) ?_
    try rw [e0]
    exact ⟨by simp [own_max, hc1], N0, rfl⟩
  refine Go.s T0 (mkF m 10 #[vI p1, vI p2] [(.int p1)]) (fun _ hr => yN X0 hx (D 2 rfl) (XT.ii_lt_f hc1) (yj X0 hx (D 3 rfl) rfl (yg X0 hx (D 4 rfl) (pc' := 10) rfl hr))) ?_
  refine Go.retI X0 hx hlk hret (D 6 rfl) (by decide) (by decide) ?_
  try rw [e0]
  exact ⟨by simp [own_max, hc1], N0, rfl⟩
theorem pf_43 : plainFor (⟨"java/util/ArrayList", "grow", "(I)[Ljava/lang/Object;"⟩ : MethodName) = true := plainFor_of_name (by first | (simp [plainName, overriddenIn]; done) | decide +kernel)
theorem pd_26 : parseMethodDescriptor "(II)I" = some ⟨[.int, .int], some .int⟩ := by decide +kernel
theorem rmG1 (hw : own_W a0 Z) (a1 : Nat) (h0 : Heap) (n0 : Nat) (Z0 : n0 ≤ h0.size) (O0 : Old Z n0 h0) (vd : Nat) (SDV : sDV Z vd) (ADV : Ary Z Z.heap vd (.object "java/lang/Object") []) (p1 : Int32) (E1 : Exa Z h0 a1 "java/util/ArrayList") (Fm : fM Z h0 a1 (.int p1)) (Fd : fE Z h0 a1 (.ref vd)) (Fs : fS Z h0 a1 (.int 0)) (g1 : n0 ≤ a1) :
    Con l Z ⟨"java/util/ArrayList", "grow", "(I)[Ljava/lang/Object;"⟩ jdk_38_method_6_code 4 (some (.array (.object "java/lang/Object"))) ⟨1, 1, 10, 14⟩ #[(.ref a1), (.int 1)] h0 (fun v h L => ∃ ed : Nat, v = some (.ref ed) ∧ Fr n0 L ∧ Keep h0 h [a1] ∧ h0.size ≤ ed ∧ fM Z h a1 (.int p1) ∧ fE Z h a1 (.ref ed) ∧ fS Z h a1 (.int 0) ∧ Ary Z h ed (.object "java/lang/Object") [.null, .null, .null, .null, .null, .null, .null, .null, .null, .null] ∧ Ovy Z h ed "java/lang/Object") := by
  refine Con.o (L := #[vR a1, vI 1, vU, vU]) n0 d66 pf_43 (by simp [argsToLocals, Value.category]) ?_
  intro p e s m _ _ c T0 X0 hx hby hml hZ hown hnm hret hlk e0 N0 D
  have lt_1 := own_ltE E1
  let j_437 := (mkF m 1 #[vR a1, vI 1, vU, vU] [(.ref a1)])
  refine Go.s T0 j_437 (fun _ hr => yb X0 hx (D 0 rfl) rfl rfl hr) ?_
  obtain ⟨T_2, X_2, e_2, st_2⟩ := getF X0 hx hZ hown (host := "") (Or.inl (hq hw 105 rfl)) Via.refl e0 Fd (g := j_437) rfl rfl (D 1 rfl)
  let j_438 := (mkF m 4 #[vR a1, vI 1, vU, vU] [(.ref vd)])
  refine Go.s T_2 j_438 st_2 ?_
  let j_439 := (mkF m 11 #[vR a1, vI 1, vI 0, vU] [(.ref a1)])
  refine Go.s T_2 j_439 (fun _ hr => (own_len X_2 hx hZ e_2 (ADV.ext O0.2) (g := j_438) rfl rfl (D 2 rfl)) _ (yl X_2 hx (D 3 rfl) rfl (yj X_2 hx (D 4 rfl) rfl (yM X_2 hx (D 5 rfl) (XT.i0_gt_f (by decide)) (yb X_2 hx (D 6 rfl) rfl rfl hr))))) ?_
  obtain ⟨T_3, X_3, e_3, st_3⟩ := getF X_2 hx hZ hown (host := "") (Or.inl (hq hw 105 rfl)) Via.refl e_2 Fd (g := j_439) rfl rfl (D 7 rfl)
  let j_440 := (mkF m 14 #[vR a1, vI 1, vI 0, vU] [(.ref vd)])
  refine Go.s T_3 j_440 st_3 ?_
  obtain ⟨T_4, X_4, e_4, st_4⟩ := getS2 X_3 hx hZ hown (host := "") (Or.inl (hq hw 104 rfl)) Via.refl e_3 (SDV.ext O0.2) (g := j_440) rfl (D 8 rfl)
  refine Go.s T_4 (mkF m 17 #[vR a1, vI 1, vI 0, vU] [(.ref vd), (.ref vd)]) st_4 ?_
  refine Go.s T_4 (mkF m 45 #[vR a1, vI 1, vI 0, vU] []) (fun t hr => XT.acmpYes X_4.here hx rfl (pc0 := 17) (pc' := 45) rfl (D 9 rfl) rfl rfl rfl (XT.aa_eq_t rfl) (by decide) (by decide) hr) ?_
  let j_441 := (mkF m 49 #[vR a1, vI 1, vI 0, vU] [(.int 1), (.int 10), (.ref a1)])
  refine Go.s T_4 j_441 (fun _ hr => yb X_4 hx (D 10 rfl) rfl rfl (yp X_4 hx (D 11 rfl) (yj X_4 hx (D 12 rfl) rfl hr))) ?_
  obtain ⟨v_5, T_5, h_5, L_5, X_5, e_5, ⟨rfl, N_5, hh_5⟩, st_5⟩ := cS X_4 hx hZ hown (hq hw 142 rfl) (hq hw 143 rfl) (hq hw 144 rfl) (hq hw 145 rfl) e_4 hml (rmMx l Z a0 hw 10 1 h0 n0 (by omega)) (g := j_441) rfl rfl (lenOf pd_26 rfl) rfl (D 13 rfl) (W := 1) rfl rfl (by decide)
  have N_5' := Fr.app N0 N_5
  rw [hh_5] at e_5
  let j_442 := (mkF m 52 #[vR a1, vI 1, vI 0, vU] [(.int 10), (.ref a1)])
  refine Go.s T_5 j_442 st_5 ?_
  obtain ⟨T_6, h_6, X_6, e_6, E_6, A_6, O_6, st_6⟩ := own_newR X_5 hx hZ hown (hq hw 146 rfl) (hq hw 147 rfl) e_5 (g := j_442) rfl (D 14 rfl) rfl (by decide) (cap := 10) (by decide) (by decide) (by decide) (by decide)
  obtain ⟨ad_6, g_6⟩ : ∃ z, z = h0.size := ⟨_, rfl⟩
  rw [← g_6] at A_6 O_6 st_6
  have z_6 := E_6.1
  have y_6 := own_ltA A_6
  have B_6 : Ary Z h_6 ad_6 (.object "java/lang/Object") [.null, .null, .null, .null, .null, .null, .null, .null, .null, .null] := A_6
  refine Go.s T_6 (mkF m 55 #[vR a1, vI 1, vI 0, vU] [(.ref ad_6), (.ref a1)]) st_6 ?_
  let j_443 := (mkF m 56 #[vR a1, vI 1, vI 0, vU] [(.ref ad_6), (.ref a1), (.ref ad_6)])
  refine Go.s T_6 j_443 (fun t hr => XT.dupX1 X_6.here hx rfl (D 15 rfl) rfl rfl rfl hr) ?_
  have F_7 := (Fd.ext E_6)
  have F_8 := (E1.ext E_6)
  obtain ⟨T_9, h_9, X_9, e_9, W_9, st_9⟩ := putF X_6 hx hZ hown (host := "") (Or.inl (hq hw 105 rfl)) Via.refl e_6 F_7 F_8 (Or.inl (hq hw 106 rfl)) (hq hw 84 rfl) (ty := (.array (.object "java/lang/Object"))) (by decide) rfl rfl (g := j_443) rfl rfl (D 16 rfl)
  have N_9 := Fr.snoc X_9 N_5' (by omega)
  have z_9 := W_9.size
  have F_9 := F_7.same W_9
  refine Go.s T_9 (mkF m 59 #[vR a1, vI 1, vI 0, vU] [(.ref ad_6)]) st_9 ?_
  refine Go.retA X_9 hx hlk (t := (.array (.object "java/lang/Object"))) hret rfl rfl (D 17 rfl) (by decide) (by decide) ?_
  try rw [e_9]
  have F_10 := ((Fm.ext E_6).other W_9 (Or.inr (slot_ne (t := .int) (t' := (.array (.object "java/lang/Object"))) (Or.inl (hq hw 103 rfl)) (Or.inl (hq hw 106 rfl)) (by decide) (by decide) (by decide))))
  have F_11 := ((Fs.ext E_6).other W_9 (Or.inr (slot_ne (t := .int) (t' := (.array (.object "java/lang/Object"))) (Or.inl (hq hw 126 rfl)) (Or.inl (hq hw 106 rfl)) (by decide) (by decide) (by decide))))
  have F_12 := (B_6.other W_9 (own_ne (by omega)))
  have F_13 := (O_6.wr W_9)
  exact ⟨ad_6, rfl, N_9, (((Keep.refl h0 [a1]).ext E_6).wr W_9 (Or.inl (by simp))), by omega, F_10, F_9, F_11, F_12, F_13⟩
theorem pf_44 : plainFor (⟨"java/util/ArrayList", "grow", "()[Ljava/lang/Object;"⟩ : MethodName) = true := plainFor_of_name (by first | (simp [plainName, overriddenIn]; done) | decide +kernel)
theorem pd_27 : parseMethodDescriptor "(I)[Ljava/lang/Object;" = some ⟨[.int], some (.array (.object "java/lang/Object"))⟩ := by decide +kernel
theorem rmG0 (hw : own_W a0 Z) (a1 : Nat) (h0 : Heap) (n0 : Nat) (Z0 : n0 ≤ h0.size) (O0 : Old Z n0 h0) (vd : Nat) (SDV : sDV Z vd) (ADV : Ary Z Z.heap vd (.object "java/lang/Object") []) (p1 : Int32) (E1 : Exa Z h0 a1 "java/util/ArrayList") (Fm : fM Z h0 a1 (.int p1)) (Fd : fE Z h0 a1 (.ref vd)) (Fs : fS Z h0 a1 (.int 0)) (g1 : n0 ≤ a1) :
    Con l Z ⟨"java/util/ArrayList", "grow", "()[Ljava/lang/Object;"⟩ jdk_38_method_7_code 1 (some (.array (.object "java/lang/Object"))) ⟨2, 1, 10, 29⟩ #[(.ref a1)] h0 (fun v h L => ∃ ed : Nat, v = some (.ref ed) ∧ Fr n0 L ∧ Keep h0 h [a1] ∧ h0.size ≤ ed ∧ fM Z h a1 (.int p1) ∧ fE Z h a1 (.ref ed) ∧ fS Z h a1 (.int 0) ∧ Ary Z h ed (.object "java/lang/Object") [.null, .null, .null, .null, .null, .null, .null, .null, .null, .null] ∧ Ovy Z h ed "java/lang/Object") := by
  refine Con.o (L := #[vR a1]) n0 d67 pf_44 (by simp [argsToLocals, Value.category]) ?_
  intro p e s m _ _ c T0 X0 hx hby hml hZ hown hnm hret hlk e0 N0 D
  have lt_1 := own_ltE E1
  let j_444 := (mkF m 2 #[vR a1] [(.ref a1), (.ref a1)])
  refine Go.s T0 j_444 (fun _ hr => yb X0 hx (D 0 rfl) rfl rfl (yb X0 hx (D 1 rfl) rfl rfl hr)) ?_
  obtain ⟨T_2, X_2, e_2, st_2⟩ := getF X0 hx hZ hown (host := "") (Or.inl (hq hw 125 rfl)) Via.refl e0 Fs (g := j_444) rfl rfl (D 2 rfl)
  refine Go.s T_2 (mkF m 6 #[vR a1] [(.int 1), (.int 0), (.ref a1)]) (fun _ hr => st_2 _ (yc X_2 hx (D 3 rfl) hr)) ?_
  let j_445 := (mkF m 7 #[vR a1] [(.int 1), (.ref a1)])
  refine Go.s T_2 j_445 (fun _ hr => y1 X_2 hx (D 4 rfl) hr) ?_
  obtain ⟨v_3, T_3, h_3, L_3, X_3, e_3, ⟨ed_3, rfl, N_3, K_3, g_3, F1_3, F2_3, F3_3, B_3, O_3⟩, st_3⟩ := cP X_2 hx hZ hown (hq hw 137 rfl) (hq hw 138 rfl) (hq hw 140 rfl) (hq hw 139 rfl) (hq hw 85 rfl) (hq hw 141 rfl) e_2 E1 hml (rmG1 l Z a0 hw a1 h0 n0 (by omega) O0 vd SDV ADV p1 E1 Fm Fd Fs (by omega)) (g := j_445) rfl rfl (lenOf pd_27 rfl) rfl (D 5 rfl) (W := 0) rfl rfl (by decide)
  have N_3' := Fr.app N0 N_3
  have z_3 := K_3.1
  have yy_3 := own_ltA B_3
  refine Go.s T_3 (mkF m 10 #[vR a1] [(.ref ed_3)]) st_3 ?_
  refine Go.retA X_3 hx hlk (t := (.array (.object "java/lang/Object"))) hret rfl rfl (D 6 rfl) (by decide) (by decide) ?_
  try rw [e_3]
  exact ⟨ed_3, rfl, N_3', ((Keep.refl h0 [a1]).trans K_3 (own_t1 (by first | exact Or.inr (by omega) | exact Or.inl (by simp)))), by omega, F1_3, F2_3, F3_3, B_3, O_3⟩
theorem pf_45 : plainFor (⟨"java/util/ArrayList", "add", "(Ljava/lang/Object;[Ljava/lang/Object;I)V"⟩ : MethodName) = true := plainFor_of_name (by first | (simp [plainName, overriddenIn]; done) | decide +kernel)
theorem pd_28 : parseMethodDescriptor "()[Ljava/lang/Object;" = some ⟨[], some (.array (.object "java/lang/Object"))⟩ := by decide +kernel
theorem rmAd0 (hw : own_W a0 Z) (a1 : Nat) (a2 : Nat) (vd : Nat) (h0 : Heap) (n0 : Nat) (Z0 : n0 ≤ h0.size) (O0 : Old Z n0 h0) (SDV : sDV Z vd) (ADV : Ary Z Z.heap vd (.object "java/lang/Object") []) (p1 : Int32) (E1 : Exa Z h0 a1 "java/util/ArrayList") (Fm : fM Z h0 a1 (.int p1)) (Fd : fE Z h0 a1 (.ref vd)) (Fs : fS Z h0 a1 (.int 0)) (g1 : n0 ≤ a1) (Ex : Exa Z Z.heap a2 "java/lang/Integer") :
    Con l Z ⟨"java/util/ArrayList", "add", "(Ljava/lang/Object;[Ljava/lang/Object;I)V"⟩ jdk_38_method_24_code 4 none ⟨3, 1, 10, 41⟩ #[(.ref a1), (.ref a2), (.ref vd), (.int 0)] h0 (fun v h L => v = none ∧ Fr n0 L ∧ Keep h0 h [a1] ∧ ∃ ed : Nat, h0.size ≤ ed ∧ fM Z h a1 (.int p1) ∧ fE Z h a1 (.ref ed) ∧ fS Z h a1 (.int 1) ∧ Ary Z h ed (.object "java/lang/Object") [(.ref a2), .null, .null, .null, .null, .null, .null, .null, .null, .null] ∧ Ovy Z h ed "java/lang/Object") := by
  refine Con.o (L := #[vR a1, vR a2, vR vd, vI 0]) n0 d68 pf_45 (by simp [argsToLocals, Value.category]) ?_
  intro p e s m _ _ c T0 X0 hx hby hml hZ hown hnm hret hlk e0 N0 D
  have lt_1 := own_ltE E1
  let j_446 := (mkF m 2 #[vR a1, vR a2, vR vd, vI 0] [(.ref vd), (.int 0)])
  refine Go.s T0 j_446 (fun _ hr => yj X0 hx (D 0 rfl) rfl (yb X0 hx (D 1 rfl) rfl rfl hr)) ?_
  let j_447 := (mkF m 7 #[vR a1, vR a2, vR vd, vI 0] [(.ref a1)])
  refine Go.s T0 j_447 (fun _ hr => (own_len X0 hx hZ e0 (ADV.ext O0.2) (g := j_446) rfl rfl (D 2 rfl)) _ (yN X0 hx (D 3 rfl) (XT.ii_ne_f (by decide)) (yb X0 hx (D 4 rfl) rfl rfl hr))) ?_
  obtain ⟨v_2, T_2, h_2, L_2, X_2, e_2, ⟨ed_2, rfl, N_2, K_2, g_2, F1_2, F2_2, F3_2, B_2, O_2⟩, st_2⟩ := cP X0 hx hZ hown (hq hw 132 rfl) (hq hw 133 rfl) (hq hw 135 rfl) (hq hw 134 rfl) (hq hw 85 rfl) (hq hw 136 rfl) e0 E1 hml (rmG0 l Z a0 hw a1 h0 n0 (by omega) O0 vd SDV ADV p1 E1 Fm Fd Fs (by omega)) (g := j_447) rfl rfl (lenOf pd_28 rfl) rfl (D 5 rfl) (W := 0) rfl rfl (by decide)
  have N_2' := Fr.app N0 N_2
  have z_2 := K_2.1
  have yy_2 := own_ltA B_2
  let j_448 := (mkF m 14 #[vR a1, vR a2, vR ed_2, vI 0] [(.ref a2), (.int 0), (.ref ed_2)])
  refine Go.s T_2 j_448 (fun _ hr => st_2 _ (yn X_2 hx (D 6 rfl) rfl rfl (yb X_2 hx (D 7 rfl) rfl rfl (yj X_2 hx (D 8 rfl) rfl (yb X_2 hx (D 9 rfl) rfl rfl hr))))) ?_
  have F_3 := (O0.keep K_2 (own_o1 (by omega)))
  obtain ⟨T_4, h_4, X_4, e_4, W_4, A_4, st_4⟩ := own_stR X_2 hx hZ e_2 B_2 rfl (own_sto B_2 O_2 (Ins.of_exa (Ex.ext F_3.2) (hq hw 148 rfl))) (j := 0) (by decide) (by simp +decide) (g := j_448) rfl rfl (D 10 rfl)
  have N_4 := Fr.snoc X_4 N_2' (by omega)
  have z_4 := W_4.size
  have B_4 : Ary Z h_4 ed_2 (.object "java/lang/Object") [(.ref a2), .null, .null, .null, .null, .null, .null, .null, .null, .null] := A_4
  refine Go.s T_4 (mkF m 18 #[vR a1, vR a2, vR ed_2, vI 0] [(.int 1), (.int 0), (.ref a1)]) (fun _ hr => st_4 _ (yb X_4 hx (D 11 rfl) rfl rfl (yj X_4 hx (D 12 rfl) rfl (yc X_4 hx (D 13 rfl) hr)))) ?_
  let j_449 := (mkF m 19 #[vR a1, vR a2, vR ed_2, vI 0] [(.int 1), (.ref a1)])
  refine Go.s T_4 j_449 (fun _ hr => y1 X_4 hx (D 14 rfl) hr) ?_
  have F_5 := (F3_2.other W_4 (Or.inl (own_ne (by omega))))
  have F_6 := ((E1.keep K_2).wr W_4)
  obtain ⟨T_7, h_7, X_7, e_7, W_7, st_7⟩ := putF X_4 hx hZ hown (host := "") (Or.inl (hq hw 125 rfl)) Via.refl e_4 F_5 F_6 (Or.inl (hq hw 126 rfl)) (hq hw 84 rfl) (ty := .int) (by decide) rfl rfl (g := j_449) rfl rfl (D 15 rfl)
  have N_7 := Fr.snoc X_7 N_4 (by omega)
  have z_7 := W_7.size
  have F_7 := F_5.same W_7
  refine Go.s T_7 (mkF m 22 #[vR a1, vR a2, vR ed_2, vI 0] []) st_7 ?_
  refine Go.retV X_7 hx hlk hret (D 16 rfl) (by decide) (by decide) ?_
  try rw [e_7]
  have F_8 := ((F1_2.other W_4 (Or.inl (own_ne (by omega)))).other W_7 (Or.inr (slot_ne (t := .int) (t' := .int) (Or.inl (hq hw 103 rfl)) (Or.inl (hq hw 126 rfl)) (by decide) (by decide) (by decide))))
  have F_9 := ((F2_2.other W_4 (Or.inl (own_ne (by omega)))).other W_7 (Or.inr (slot_ne (t := (.array (.object "java/lang/Object"))) (t' := .int) (Or.inl (hq hw 106 rfl)) (Or.inl (hq hw 126 rfl)) (by decide) (by decide) (by decide))))
  have F_10 := (B_4.other W_7 (own_ne (by omega)))
  have F_11 := ((O_2.wr W_4).wr W_7)
  exact ⟨rfl, N_7, ((((Keep.refl h0 [a1]).trans K_2 (own_t1 (by first | exact Or.inr (by omega) | exact Or.inl (by simp)))).wr W_4 (Or.inr (by omega))).wr W_7 (Or.inl (by simp))), ed_2, by omega, F_8, F_9, F_7, F_10, F_11⟩
theorem pf_46 : plainFor (⟨"java/util/ArrayList", "add", "(Ljava/lang/Object;)Z"⟩ : MethodName) = true := plainFor_of_name (by first | (simp [plainName, overriddenIn]; done) | decide +kernel)
theorem pd_29 : parseMethodDescriptor "(Ljava/lang/Object;[Ljava/lang/Object;I)V" = some ⟨[(.object "java/lang/Object"), (.array (.object "java/lang/Object")), .int], none⟩ := by decide +kernel
theorem rmAdd0 (hw : own_W a0 Z) (a1 : Nat) (a2 : Nat) (h0 : Heap) (n0 : Nat) (Z0 : n0 ≤ h0.size) (O0 : Old Z n0 h0) (vd : Nat) (SDV : sDV Z vd) (ADV : Ary Z Z.heap vd (.object "java/lang/Object") []) (p1 : Int32) (E1 : Exa Z h0 a1 "java/util/ArrayList") (Fm : fM Z h0 a1 (.int p1)) (Fd : fE Z h0 a1 (.ref vd)) (Fs : fS Z h0 a1 (.int 0)) (g1 : n0 ≤ a1) (Ex : Exa Z Z.heap a2 "java/lang/Integer") :
    Con l Z ⟨"java/util/ArrayList", "add", "(Ljava/lang/Object;)Z"⟩ jdk_38_method_25_code 2 (some .boolean) ⟨4, 1, 10, 56⟩ #[(.ref a1), (.ref a2)] h0 (fun v h L => v = some (.int 1) ∧ Fr n0 L ∧ Keep h0 h [a1] ∧ ∃ ed : Nat, h0.size ≤ ed ∧ fM Z h a1 (.int (p1 + 1)) ∧ fE Z h a1 (.ref ed) ∧ fS Z h a1 (.int 1) ∧ Ary Z h ed (.object "java/lang/Object") [(.ref a2), .null, .null, .null, .null, .null, .null, .null, .null, .null] ∧ Ovy Z h ed "java/lang/Object") := by
  refine Con.o (L := #[vR a1, vR a2]) n0 d69 pf_46 (by simp [argsToLocals, Value.category]) ?_
  intro p e s m _ _ c T0 X0 hx hby hml hZ hown hnm hret hlk e0 N0 D
  have lt_1 := own_ltE E1
  let j_450 := (mkF m 2 #[vR a1, vR a2] [(.ref a1), (.ref a1)])
  refine Go.s T0 j_450 (fun _ hr => yb X0 hx (D 0 rfl) rfl rfl (yd X0 hx (D 1 rfl) rfl hr)) ?_
  obtain ⟨T_2, X_2, e_2, st_2⟩ := getF X0 hx hZ hown (host := "") (Or.inl (hq hw 123 rfl)) (Via.of (hq hw 124 rfl)) e0 Fm (g := j_450) rfl rfl (D 2 rfl)
  let j_451 := (mkF m 7 #[vR a1, vR a2] [(.int (p1 + 1)), (.ref a1)])
  refine Go.s T_2 j_451 (fun _ hr => st_2 _ (yc X_2 hx (D 3 rfl) (y1 X_2 hx (D 4 rfl) hr))) ?_
  obtain ⟨T_3, h_3, X_3, e_3, W_3, st_3⟩ := putF X_2 hx hZ hown (host := "") (Or.inl (hq hw 123 rfl)) (Via.of (hq hw 124 rfl)) e_2 Fm E1 (Or.inl (hq hw 103 rfl)) (hq hw 84 rfl) (ty := .int) (by decide) rfl rfl (g := j_451) rfl rfl (D 5 rfl)
  have N_3 := Fr.snoc X_3 N0 (by omega)
  have z_3 := W_3.size
  have F_3 := Fm.same W_3
  let j_452 := (mkF m 13 #[vR a1, vR a2] [(.ref a1), (.ref a2), (.ref a1)])
  refine Go.s T_3 j_452 (fun _ hr => st_3 _ (yb X_3 hx (D 6 rfl) rfl rfl (yb X_3 hx (D 7 rfl) rfl rfl (yb X_3 hx (D 8 rfl) rfl rfl hr)))) ?_
  have F_4 := (Fd.other W_3 (Or.inr (slot_ne (t := (.array (.object "java/lang/Object"))) (t' := .int) (Or.inl (hq hw 106 rfl)) (Or.inl (hq hw 103 rfl)) (by decide) (by decide) (by decide))))
  obtain ⟨T_5, X_5, e_5, st_5⟩ := getF X_3 hx hZ hown (host := "") (Or.inl (hq hw 105 rfl)) Via.refl e_3 F_4 (g := j_452) rfl rfl (D 9 rfl)
  let j_453 := (mkF m 17 #[vR a1, vR a2] [(.ref a1), (.ref vd), (.ref a2), (.ref a1)])
  refine Go.s T_5 j_453 (fun _ hr => st_5 _ (yb X_5 hx (D 10 rfl) rfl rfl hr)) ?_
  have F_6 := (Fs.other W_3 (Or.inr (slot_ne (t := .int) (t' := .int) (Or.inl (hq hw 126 rfl)) (Or.inl (hq hw 103 rfl)) (by decide) (by decide) (by decide))))
  obtain ⟨T_7, X_7, e_7, st_7⟩ := getF X_5 hx hZ hown (host := "") (Or.inl (hq hw 125 rfl)) Via.refl e_5 F_6 (g := j_453) rfl rfl (D 11 rfl)
  let j_454 := (mkF m 20 #[vR a1, vR a2] [(.int 0), (.ref vd), (.ref a2), (.ref a1)])
  refine Go.s T_7 j_454 st_7 ?_
  have F_9 := (O0.wr W_3 (by omega))
  have F_10 := (E1.wr W_3)
  obtain ⟨v_8, T_8, h_8, L_8, X_8, e_8, ⟨rfl, N_8, K_8, ed_8, g_8, F1_8, F2_8, F3_8, B_8, O_8⟩, st_8⟩ := cP X_7 hx hZ hown (hq hw 127 rfl) (hq hw 128 rfl) (hq hw 130 rfl) (hq hw 129 rfl) (hq hw 85 rfl) (hq hw 131 rfl) e_7 F_10 hml (rmAd0 l Z a0 hw a1 a2 vd h_3 n0 (by omega) F_9 SDV ADV (p1 + 1) F_10 F_3 F_4 F_6 (by omega) Ex) (g := j_454) rfl rfl (lenOf pd_29 rfl) rfl (D 12 rfl) (W := 0) rfl rfl (by decide)
  have N_8' := Fr.app N_3 N_8
  have z_8 := K_8.1
  have yy_8 := own_ltA B_8
  refine Go.s T_8 (mkF m 24 #[vR a1, vR a2] [(.int 1)]) (fun _ hr => st_8 _ (yc X_8 hx (D 13 rfl) hr)) ?_
  refine Go.retN X_8 hx hlk (t := .boolean) hret (by simp) (D 14 rfl) (by decide) (by decide) ?_
  try rw [e_8]
  exact ⟨rfl, N_8', (((Keep.refl h0 [a1]).wr W_3 (Or.inl (by simp))).trans K_8 (own_t1 (by first | exact Or.inr (by omega) | exact Or.inl (by simp)))), ed_8, by omega, F1_8, F2_8, F3_8, B_8, O_8⟩
theorem rmAdK (hw : own_W a0 Z) (a1 : Nat) (a2 : Nat) (ed : Nat) (vk : Int32) (h0 : Heap) (n0 : Nat) (Z0 : n0 ≤ h0.size) (O0 : Old Z n0 h0) (p1 : Int32) (E1 : Exa Z h0 a1 "java/util/ArrayList") (Fm : fM Z h0 a1 (.int p1)) (Fd : fE Z h0 a1 (.ref ed)) (Fs : fS Z h0 a1 (.int vk)) (g1 : n0 ≤ a1) (es : List Value) (Ve : Ary Z h0 ed (.object "java/lang/Object") es) (Oe : Ovy Z h0 ed "java/lang/Object") (le : es.length = 10) (k : Nat) (hk : vk.toInt = k) (hk9 : k < 9) (ge : n0 ≤ ed) (hne : a1 ≠ ed) (Ex : Exa Z Z.heap a2 "java/lang/Integer") :
    Con l Z ⟨"java/util/ArrayList", "add", "(Ljava/lang/Object;[Ljava/lang/Object;I)V"⟩ jdk_38_method_24_code 4 none ⟨0, 0, 0, 0⟩ #[(.ref a1), (.ref a2), (.ref ed), (.int vk)] h0 (fun v h L => v = none ∧ Fr n0 L ∧ Keep h0 h [a1, ed] ∧ fM Z h a1 (.int p1) ∧ fE Z h a1 (.ref ed) ∧ fS Z h a1 (.int (vk + 1)) ∧ Ary Z h ed (.object "java/lang/Object") (es.set k (.ref a2))) := by
  refine Con.o (L := #[vR a1, vR a2, vR ed, vI vk]) n0 d68 pf_45 (by simp [argsToLocals, Value.category]) ?_
  intro p e s m _ _ c T0 X0 hx hby hml hZ hown hnm hret hlk e0 N0 D
  have lt_1 := own_ltE E1
  have lt_2 := own_ltA Ve
  let j_455 := (mkF m 2 #[vR a1, vR a2, vR ed, vI vk] [(.ref ed), (.int vk)])
  refine Go.s T0 j_455 (fun _ hr => yj X0 hx (D 0 rfl) rfl (yb X0 hx (D 1 rfl) rfl rfl hr)) ?_
  refine Go.s T0 (mkF m 3 #[vR a1, vR a2, vR ed, vI vk] [(.int (es).length.toInt32), (.int vk)]) (own_len X0 hx hZ e0 Ve (g := j_455) rfl rfl (D 2 rfl)) ?_
  refine Go.cast (g' := (mkF m 3 #[vR a1, vR a2, vR ed, vI vk] [(.int 10), (.int vk)])) (by rw [show (es).length.toInt32 = 10 from (by rw [le]; rfl)]) ?_
  have hk10 : ¬ vk = 10 := by
    have z : (10 : Int32).toInt = 10 := by decide
    rw [← Int32.toInt_inj]; omega
  let j_456 := (mkF m 14 #[vR a1, vR a2, vR ed, vI vk] [(.ref a2), (.int vk), (.ref ed)])
  refine Go.s T0 j_456 (fun _ hr => yY X0 hx (D 3 rfl) (pc' := 11) (XT.ii_ne_t hk10) rfl (yb X0 hx (D 7 rfl) rfl rfl (yj X0 hx (D 8 rfl) rfl (yb X0 hx (D 9 rfl) rfl rfl hr)))) ?_
  obtain ⟨T_3, h_3, X_3, e_3, W_3, A_3, st_3⟩ := own_stR X0 hx hZ e0 Ve rfl (own_sto Ve Oe (Ins.of_exa (Ex.ext O0.2) (hq hw 148 rfl))) (j := vk) (by omega) (by omega) (g := j_456) rfl rfl (D 10 rfl)
  have N_3 := Fr.snoc X_3 N0 (by omega)
  have z_3 := W_3.size
  let j_457 := (mkF m 19 #[vR a1, vR a2, vR ed, vI vk] [(.int (vk + 1)), (.ref a1)])
  refine Go.s T_3 j_457 (fun _ hr => st_3 _ (yb X_3 hx (D 11 rfl) rfl rfl (yj X_3 hx (D 12 rfl) rfl (yc X_3 hx (D 13 rfl) (y1 X_3 hx (D 14 rfl) hr))))) ?_
  have F_4 := (Fs.other W_3 (Or.inl (own_ne (by omega))))
  have F_5 := (E1.wr W_3)
  obtain ⟨T_6, h_6, X_6, e_6, W_6, st_6⟩ := putF X_3 hx hZ hown (host := "") (Or.inl (hq hw 125 rfl)) Via.refl e_3 F_4 F_5 (Or.inl (hq hw 126 rfl)) (hq hw 84 rfl) (ty := .int) (by decide) rfl rfl (g := j_457) rfl rfl (D 15 rfl)
  have N_6 := Fr.snoc X_6 N_3 (by omega)
  have z_6 := W_6.size
  have F_6 := F_4.same W_6
  refine Go.s T_6 (mkF m 22 #[vR a1, vR a2, vR ed, vI vk] []) st_6 ?_
  refine Go.retV X_6 hx hlk hret (D 16 rfl) (by decide) (by decide) ?_
  try rw [e_6]
  have F_7 := (A_3.other W_6 (own_ne (by omega)))
  have F_8 := ((Fm.other W_3 (Or.inl (own_ne (by omega)))).other W_6 (Or.inr (slot_ne (t := .int) (t' := .int) (Or.inl (hq hw 103 rfl)) (Or.inl (hq hw 126 rfl)) (by decide) (by decide) (by decide))))
  have F_9 := ((Fd.other W_3 (Or.inl (own_ne (by omega)))).other W_6 (Or.inr (slot_ne (t := (.array (.object "java/lang/Object"))) (t' := .int) (Or.inl (hq hw 106 rfl)) (Or.inl (hq hw 126 rfl)) (by decide) (by decide) (by decide))))
  have A' := F_7
  rw [own_toN hk] at A'
  exact ⟨rfl, N_6, (((Keep.refl h0 [a1, ed]).wr W_3 (Or.inl (by simp))).wr W_6 (Or.inl (by simp))), F_8, F_9, F_6, A'⟩
theorem rmAddK (hw : own_W a0 Z) (a1 : Nat) (a2 : Nat) (h0 : Heap) (n0 : Nat) (Z0 : n0 ≤ h0.size) (O0 : Old Z n0 h0) (ed : Nat) (p1 vk : Int32) (E1 : Exa Z h0 a1 "java/util/ArrayList") (Fm : fM Z h0 a1 (.int p1)) (Fd : fE Z h0 a1 (.ref ed)) (Fs : fS Z h0 a1 (.int vk)) (g1 : n0 ≤ a1) (es : List Value) (Ve : Ary Z h0 ed (.object "java/lang/Object") es) (Oe : Ovy Z h0 ed "java/lang/Object") (le : es.length = 10) (k : Nat) (hk : vk.toInt = k) (hk9 : k < 9) (ge : n0 ≤ ed) (hne : a1 ≠ ed) (Ex : Exa Z Z.heap a2 "java/lang/Integer") :
    Con l Z ⟨"java/util/ArrayList", "add", "(Ljava/lang/Object;)Z"⟩ jdk_38_method_25_code 2 (some .boolean) ⟨1, 0, 0, 15⟩ #[(.ref a1), (.ref a2)] h0 (fun v h L => v = some (.int 1) ∧ Fr n0 L ∧ Keep h0 h [a1, ed] ∧ fM Z h a1 (.int (p1 + 1)) ∧ fE Z h a1 (.ref ed) ∧ fS Z h a1 (.int (vk + 1)) ∧ Ary Z h ed (.object "java/lang/Object") (es.set k (.ref a2))) := by
  refine Con.o (L := #[vR a1, vR a2]) n0 d69 pf_46 (by simp [argsToLocals, Value.category]) ?_
  intro p e s m _ _ c T0 X0 hx hby hml hZ hown hnm hret hlk e0 N0 D
  have lt_1 := own_ltE E1
  have lt_2 := own_ltA Ve
  let j_458 := (mkF m 2 #[vR a1, vR a2] [(.ref a1), (.ref a1)])
  refine Go.s T0 j_458 (fun _ hr => yb X0 hx (D 0 rfl) rfl rfl (yd X0 hx (D 1 rfl) rfl hr)) ?_
  obtain ⟨T_3, X_3, e_3, st_3⟩ := getF X0 hx hZ hown (host := "") (Or.inl (hq hw 123 rfl)) (Via.of (hq hw 124 rfl)) e0 Fm (g := j_458) rfl rfl (D 2 rfl)
  let j_459 := (mkF m 7 #[vR a1, vR a2] [(.int (p1 + 1)), (.ref a1)])
  refine Go.s T_3 j_459 (fun _ hr => st_3 _ (yc X_3 hx (D 3 rfl) (y1 X_3 hx (D 4 rfl) hr))) ?_
  obtain ⟨T_4, h_4, X_4, e_4, W_4, st_4⟩ := putF X_3 hx hZ hown (host := "") (Or.inl (hq hw 123 rfl)) (Via.of (hq hw 124 rfl)) e_3 Fm E1 (Or.inl (hq hw 103 rfl)) (hq hw 84 rfl) (ty := .int) (by decide) rfl rfl (g := j_459) rfl rfl (D 5 rfl)
  have N_4 := Fr.snoc X_4 N0 (by omega)
  have z_4 := W_4.size
  have F_4 := Fm.same W_4
  let j_460 := (mkF m 13 #[vR a1, vR a2] [(.ref a1), (.ref a2), (.ref a1)])
  refine Go.s T_4 j_460 (fun _ hr => st_4 _ (yb X_4 hx (D 6 rfl) rfl rfl (yb X_4 hx (D 7 rfl) rfl rfl (yb X_4 hx (D 8 rfl) rfl rfl hr)))) ?_
  have F_5 := (Fd.other W_4 (Or.inr (slot_ne (t := (.array (.object "java/lang/Object"))) (t' := .int) (Or.inl (hq hw 106 rfl)) (Or.inl (hq hw 103 rfl)) (by decide) (by decide) (by decide))))
  obtain ⟨T_6, X_6, e_6, st_6⟩ := getF X_4 hx hZ hown (host := "") (Or.inl (hq hw 105 rfl)) Via.refl e_4 F_5 (g := j_460) rfl rfl (D 9 rfl)
  let j_461 := (mkF m 17 #[vR a1, vR a2] [(.ref a1), (.ref ed), (.ref a2), (.ref a1)])
  refine Go.s T_6 j_461 (fun _ hr => st_6 _ (yb X_6 hx (D 10 rfl) rfl rfl hr)) ?_
  have F_7 := (Fs.other W_4 (Or.inr (slot_ne (t := .int) (t' := .int) (Or.inl (hq hw 126 rfl)) (Or.inl (hq hw 103 rfl)) (by decide) (by decide) (by decide))))
  obtain ⟨T_8, X_8, e_8, st_8⟩ := getF X_6 hx hZ hown (host := "") (Or.inl (hq hw 125 rfl)) Via.refl e_6 F_7 (g := j_461) rfl rfl (D 11 rfl)
  let j_462 := (mkF m 20 #[vR a1, vR a2] [(.int vk), (.ref ed), (.ref a2), (.ref a1)])
  refine Go.s T_8 j_462 st_8 ?_
  have F_10 := (O0.wr W_4 (by omega))
  have F_11 := (E1.wr W_4)
  have F_12 := (Ve.other W_4 (own_ne (by omega)))
  have F_13 := (Oe.wr W_4)
  obtain ⟨v_9, T_9, h_9, L_9, X_9, e_9, ⟨rfl, N_9, K_9, F1_9, F2_9, F3_9, B_9⟩, st_9⟩ := cP X_8 hx hZ hown (hq hw 127 rfl) (hq hw 128 rfl) (hq hw 130 rfl) (hq hw 129 rfl) (hq hw 85 rfl) (hq hw 131 rfl) e_8 F_11 hml (rmAdK l Z a0 hw a1 a2 ed vk h_4 n0 (by omega) F_10 (p1 + 1) F_11 F_4 F_5 F_7 (by omega) es F_12 F_13 le k hk hk9 ge hne Ex) (g := j_462) rfl rfl (lenOf pd_29 rfl) rfl (D 12 rfl) (W := 0) rfl rfl (by decide)
  have N_9' := Fr.app N_4 N_9
  have z_9 := K_9.1
  refine Go.s T_9 (mkF m 24 #[vR a1, vR a2] [(.int 1)]) (fun _ hr => st_9 _ (yc X_9 hx (D 13 rfl) hr)) ?_
  refine Go.retN X_9 hx hlk (t := .boolean) hret (by simp) (D 14 rfl) (by decide) (by decide) ?_
  try rw [e_9]
  have A' := B_9
  exact ⟨rfl, N_9', (((Keep.refl h0 [a1, ed]).wr W_4 (Or.inl (by simp))).trans K_9 (by intro x hxx; simp only [List.mem_cons, List.not_mem_nil, or_false] at hxx; rcases hxx with rfl | rfl <;> first | exact Or.inr (by omega) | exact Or.inl (by simp))), F1_9, F2_9, F3_9, A'⟩
theorem pf_47 : plainFor (⟨"java/util/ArrayList", "size", "()I"⟩ : MethodName) = true := plainFor_of_name (by first | (simp [plainName, overriddenIn]; done) | decide +kernel)
theorem rmSz (hw : own_W a0 Z) (a1 : Nat) (h0 : Heap) (n0 : Nat) (Z0 : n0 ≤ h0.size) (vk : Int32) (Fs : fS Z h0 a1 (.int vk)) :
    Con l Z ⟨"java/util/ArrayList", "size", "()I"⟩ jdk_38_method_8_code 1 (some .int) ⟨0, 0, 0, 0⟩ #[(.ref a1)] h0 (fun v h L => v = some (.int vk) ∧ Fr n0 L ∧ h = h0) := by
  refine Con.o (L := #[vR a1]) n0 d70 pf_47 (by simp [argsToLocals, Value.category]) ?_
  intro p e s m _ _ c T0 X0 hx hby hml hZ hown hnm hret hlk e0 N0 D
  have lt_1 := own_ltF Fs
  let j_463 := (mkF m 1 #[vR a1] [(.ref a1)])
  refine Go.s T0 j_463 (fun _ hr => yb X0 hx (D 0 rfl) rfl rfl hr) ?_
  obtain ⟨T_2, X_2, e_2, st_2⟩ := getF X0 hx hZ hown (host := "") (Or.inl (hq hw 125 rfl)) Via.refl e0 Fs (g := j_463) rfl rfl (D 1 rfl)
  refine Go.s T_2 (mkF m 4 #[vR a1] [(.int vk)]) st_2 ?_
  refine Go.retI X_2 hx hlk hret (D 2 rfl) (by decide) (by decide) ?_
  try rw [e_2]
  exact ⟨rfl, N0, rfl⟩
theorem pf_48 : plainFor (⟨"java/util/ArrayList", "elementData", "(I)Ljava/lang/Object;"⟩ : MethodName) = true := plainFor_of_name (by first | (simp [plainName, overriddenIn]; done) | decide +kernel)
theorem rmEd (hw : own_W a0 Z) (a1 : Nat) (vj : Int32) (h0 : Heap) (n0 : Nat) (Z0 : n0 ≤ h0.size) (ed : Nat) (E1 : Exa Z h0 a1 "java/util/ArrayList") (Fd : fE Z h0 a1 (.ref ed)) (es : List Value) (Ve : Ary Z h0 ed (.object "java/lang/Object") es) (j : Nat) (hj : vj.toInt = j) (hj10 : j < es.length) (x : Nat) (hv : es[j]? = some (.ref x)) :
    Con l Z ⟨"java/util/ArrayList", "elementData", "(I)Ljava/lang/Object;"⟩ jdk_38_method_18_code 2 (some (.object "java/lang/Object")) ⟨0, 0, 0, 0⟩ #[(.ref a1), (.int vj)] h0 (fun v h L => v = some (.ref x) ∧ Fr n0 L ∧ h = h0) := by
  refine Con.o (L := #[vR a1, vI vj]) n0 d71 pf_48 (by simp [argsToLocals, Value.category]) ?_
  intro p e s m _ _ c T0 X0 hx hby hml hZ hown hnm hret hlk e0 N0 D
  have lt_1 := own_ltE E1
  have lt_2 := own_ltA Ve
  let j_464 := (mkF m 1 #[vR a1, vI vj] [(.ref a1)])
  refine Go.s T0 j_464 (fun _ hr => yb X0 hx (D 0 rfl) rfl rfl hr) ?_
  obtain ⟨T_3, X_3, e_3, st_3⟩ := getF X0 hx hZ hown (host := "") (Or.inl (hq hw 105 rfl)) Via.refl e0 Fd (g := j_464) rfl rfl (D 1 rfl)
  let j_465 := (mkF m 5 #[vR a1, vI vj] [(.int vj), (.ref ed)])
  refine Go.s T_3 j_465 (fun _ hr => st_3 _ (yj X_3 hx (D 2 rfl) rfl hr)) ?_
  refine Go.s T_3 (mkF m 6 #[vR a1, vI vj] [(.ref x)]) (own_ldR X_3 hx hZ e_3 Ve rfl (j := vj) (v := (.ref x)) (by omega) (by omega) (by rw [own_toN hj]; exact hv) (g := j_465) rfl rfl (D 3 rfl)) ?_
  refine Go.retA X_3 hx hlk (t := (.object "java/lang/Object")) hret rfl rfl (D 4 rfl) (by decide) (by decide) ?_
  try rw [e_3]
  exact ⟨rfl, N0, rfl⟩
theorem pf_49 : plainFor (⟨"java/util/ArrayList", "get", "(I)Ljava/lang/Object;"⟩ : MethodName) = true := plainFor_of_name (by first | (simp [plainName, overriddenIn]; done) | decide +kernel)
theorem pd_30 : parseMethodDescriptor "(I)Ljava/lang/Object;" = some ⟨[.int], some (.object "java/lang/Object")⟩ := by decide +kernel
theorem rmGt (hw : own_W a0 Z) (a1 : Nat) (vj : Int32) (h0 : Heap) (n0 : Nat) (Z0 : n0 ≤ h0.size) (vk : Int32) (Fs : fS Z h0 a1 (.int vk)) (k : Nat) (hk : vk.toInt = k) (ed : Nat) (E1 : Exa Z h0 a1 "java/util/ArrayList") (Fd : fE Z h0 a1 (.ref ed)) (es : List Value) (Ve : Ary Z h0 ed (.object "java/lang/Object") es) (j : Nat) (hj : vj.toInt = j) (hj10 : j < es.length) (x : Nat) (hv : es[j]? = some (.ref x)) (hjk : j < k) :
    Con l Z ⟨"java/util/ArrayList", "get", "(I)Ljava/lang/Object;"⟩ jdk_38_method_20_code 2 (some (.object "java/lang/Object")) ⟨2, 0, 0, 27⟩ #[(.ref a1), (.int vj)] h0 (fun v h L => v = some (.ref x) ∧ Fr n0 L ∧ h = h0) := by
  refine Con.o (L := #[vR a1, vI vj]) n0 d72 pf_49 (by simp [argsToLocals, Value.category]) ?_
  intro p e s m _ _ c T0 X0 hx hby hml hZ hown hnm hret hlk e0 N0 D
  have lt_1 := own_ltF Fs
  have lt_2 := own_ltA Ve
  let j_466 := (mkF m 2 #[vR a1, vI vj] [(.ref a1), (.int vj)])
  refine Go.s T0 j_466 (fun _ hr => yj X0 hx (D 0 rfl) rfl (yb X0 hx (D 1 rfl) rfl rfl hr)) ?_
  obtain ⟨T_3, X_3, e_3, st_3⟩ := getF X0 hx hZ hown (host := "") (Or.inl (hq hw 125 rfl)) Via.refl e0 Fs (g := j_466) rfl rfl (D 2 rfl)
  let j_467 := (mkF m 5 #[vR a1, vI vj] [(.int vk), (.int vj)])
  refine Go.s T_3 j_467 st_3 ?_
  obtain ⟨v_4, T_4, h_4, L_4, X_4, e_4, ⟨rfl, N_4, hh_4⟩, st_4⟩ := cS X_3 hx hZ hown (hq hw 192 rfl) (hq hw 193 rfl) (hq hw 194 rfl) (hq hw 195 rfl) e_3 hml (rmOCI l Z a0 hw vj vk h0 n0 Z0 (by rw [Int32.lt_iff_toInt_lt]; have z : (0 : Int32).toInt = 0 := rfl; omega) (by rw [Int32.lt_iff_toInt_lt]; omega)) (g := j_467) rfl rfl (lenOf pd_26 rfl) rfl (D 3 rfl) (W := 0) rfl rfl (by decide)
  have N_4' := Fr.app N0 N_4
  rw [hh_4] at e_4
  let j_468 := (mkF m 11 #[vR a1, vI vj] [(.int vj), (.ref a1)])
  refine Go.s T_4 j_468 (fun _ hr => st_4 _ (y0 X_4 hx (D 4 rfl) rfl (yb X_4 hx (D 5 rfl) rfl rfl (yj X_4 hx (D 6 rfl) rfl hr)))) ?_
  obtain ⟨v_5, T_5, h_5, L_5, X_5, e_5, ⟨rfl, N_5, hh_5⟩, st_5⟩ := cV X_4 hx hZ hown (hq hw 197 rfl) (hq hw 198 rfl) (hq hw 200 rfl) (hq hw 200 rfl) (hq hw 199 rfl) (hq hw 85 rfl) (hq hw 201 rfl) e_4 E1 hml (rmEd l Z a0 hw a1 vj h0 n0 (by omega) ed E1 Fd es Ve j hj hj10 x hv) (g := j_468) rfl rfl (lenOf pd_30 rfl) rfl (D 7 rfl) (W := 0) rfl rfl (by decide)
  have N_5' := Fr.app N_4' N_5
  rw [hh_5] at e_5
  refine Go.s T_5 (mkF m 14 #[vR a1, vI vj] [(.ref x)]) st_5 ?_
  refine Go.retA X_5 hx hlk (t := (.object "java/lang/Object")) hret rfl rfl (D 8 rfl) (by decide) (by decide) ?_
  try rw [e_5]
  exact ⟨rfl, N_5', rfl⟩
theorem lsB {p : Program} {l : Launch} {e : Env} {s : State} {m : MethodId} {args : Array Value} {below : List Frame} {meth : Method} {c : Code} (Z : State) (a0 : Array Value) (hw : own_W a0 Z) (n0 : Nat) (hx : p.tables.exec = Jvm.exec) (hby : c.code = prog_195_method_2_code) (hml : c.maxLocals = 5) (hZ : Z.Warmed39 s.vm) (hown : s.vm.findClass cX = some m.cls) (hnm : meth.name = "lineStarts") (hret : meth.sig.returnType = some (.array .int)) (hlk : meth.locks = false) (a1 al ed oa : Nat) (vi vk : Int32) (es : List Value) (xs : List Nat) (k : Nat) (hk : vk.toInt = k) (hkx : k = xs.length) (hk5 : k ≤ 5) (hes : own_es Z es xs) (hB : Heap) (hBo : hB.size ≤ oa) (gal : n0 ≤ oa) (heo : ed < oa) (hao : al < oa) (n : Nat) :
    ∀ (j : Nat) (vj : Int32) (vs : List Value) (T0 : State) (locs0 : List Loc) (h0 : Heap) (Z0 : n0 ≤ h0.size) (X0 : Stand p l e ⟨5, 3, 18, 80⟩ s m args below meth c T0 locs0 3 18) (e0 : T0.heap = h0) (N0 : Fr n0 locs0) (O0 : Old Z n0 h0) (KB : Keep hB h0 []) (EA : Exa Z h0 al "java/util/ArrayList") (FD : fE Z h0 al (.ref ed)) (FS : fS Z h0 al (.int vk)) (Ve : Ary Z h0 ed (.object "java/lang/Object") es) (Ao : Ary Z h0 oa .int vs) (lv : vs.length = k) (hdone : ∀ q, q < j → vs[q]? = some (own_iv (xs.getD q 0))) (hj : vj.toInt = j) (hjn : j + n = k), Go p e below s 3 18 (fun v h L => ∃ la : Nat, v = some (.ref la) ∧ Fr n0 L ∧ Keep hB h [] ∧ hB.size ≤ la ∧ Ary Z h la .int (List.map own_iv xs)) (T0.setTop (mkF m 75 #[vR a1, vR al, vI vi, vR oa, vI vj] [])) := by
  induction n with
  | zero =>
    intro j vj vs T0 locs0 h0 Z0 X0 e0 N0 O0 KB EA FD FS Ve Ao lv hdone hj hjn
    have D := @hd _ _ _ hby d80
    have yo := own_ltA Ao
    let j_469 := (mkF m 78 #[vR a1, vR al, vI vi, vR oa, vI vj] [(.ref oa), (.int vj)])
    refine Go.s T0 j_469 (fun _ hr => yi X0 hx (D 39 rfl) rfl (yb X0 hx (D 40 rfl) rfl rfl hr)) ?_
    refine Go.s T0 (mkF m 79 #[vR a1, vR al, vI vi, vR oa, vI vj] [(.int (vs).length.toInt32), (.int vj)]) (own_len X0 hx hZ e0 Ao (g := j_469) rfl rfl (D 41 rfl)) ?_
    refine Go.cast (g' := (mkF m 79 #[vR a1, vR al, vI vi, vR oa, vI vj] [(.int vk), (.int vj)])) (by rw [show (vs).length.toInt32 = vk from (by rw [lv]; exact own_eqI hk (by omega))]) ?_
    refine Go.s T0 (mkF m 107 #[vR a1, vR al, vI vi, vR oa, vI vj] [(.ref oa)]) (fun _ hr => yY X0 hx (D 42 rfl) (pc' := 106) (XT.ii_ge_t (by rw [Int32.lt_iff_toInt_lt]; omega)) rfl (yb X0 hx (D 53 rfl) rfl rfl hr)) ?_
    refine Go.retA X0 hx hlk (t := (.array .int)) hret rfl rfl (D 54 rfl) (by decide) (by decide) ?_
    try rw [e0]
    have hfin := own_outEq (vs := vs) (xs := xs) (by omega) (fun q hq => hdone q (by omega))
    exact ⟨oa, rfl, N0, KB, hBo, hfin ▸ Ao⟩
  | succ n ih =>
    intro j vj vs T0 locs0 h0 Z0 X0 e0 N0 O0 KB EA FD FS Ve Ao lv hdone hj hjn
    have D := @hd _ _ _ hby d80
    have yo := own_ltA Ao
    obtain ⟨x, hx1, Ex, Fx⟩ := hes.2 j (by omega)
    have le := hes.1
    let j_470 := (mkF m 78 #[vR a1, vR al, vI vi, vR oa, vI vj] [(.ref oa), (.int vj)])
    refine Go.s T0 j_470 (fun _ hr => yi X0 hx (D 39 rfl) rfl (yb X0 hx (D 40 rfl) rfl rfl hr)) ?_
    refine Go.s T0 (mkF m 79 #[vR a1, vR al, vI vi, vR oa, vI vj] [(.int (vs).length.toInt32), (.int vj)]) (own_len X0 hx hZ e0 Ao (g := j_470) rfl rfl (D 41 rfl)) ?_
    refine Go.cast (g' := (mkF m 79 #[vR a1, vR al, vI vi, vR oa, vI vj] [(.int vk), (.int vj)])) (by rw [show (vs).length.toInt32 = vk from (by rw [lv]; exact own_eqI hk (by omega))]) ?_
    let j_471 := (mkF m 88 #[vR a1, vR al, vI vi, vR oa, vI vj] [(.int vj), (.ref al), (.int vj), (.ref oa)])
    refine Go.s T0 j_471 (fun _ hr => yN X0 hx (D 42 rfl) (XT.ii_ge_f (by rw [Int32.lt_iff_toInt_lt]; omega)) (yb X0 hx (D 43 rfl) rfl rfl (yi X0 hx (D 44 rfl) rfl (yb X0 hx (D 45 rfl) rfl rfl (yi X0 hx (D 46 rfl) rfl hr))))) ?_
    obtain ⟨v_1, T_1, h_1, L_1, X_1, e_1, ⟨rfl, N_1, hh_1⟩, st_1⟩ := own_callI X0 hx hZ (C := "java/util/ArrayList") (xi := ⟨"java/util/List", "get", "(I)Ljava/lang/Object;"⟩) (y := ⟨"java/util/ArrayList", "get", "(I)Ljava/lang/Object;"⟩) hown (hq hw 184 rfl) (hq hw 185 rfl) (hq hw 186 rfl) (hq hw 187 rfl) (hq hw 188 rfl) (hq hw 189 rfl) (hq hw 190 rfl) (hq hw 121 rfl) (hq hw 85 rfl) (hq hw 191 rfl) (by decide) e0 (a := al) EA (argsL := [(.int vj)]) (rest := [(.int vj), (.ref oa)]) (rmGt l Z a0 hw al vj h0 n0 (by omega) vk FS k hk ed EA FD es Ve j hj (by omega) x hx1 (by omega)) (g := j_471) rfl (by rw [hml]; rfl) (lenOf pd_30 rfl) rfl (D 47 rfl) (W := 2) (by show 2 * 0 + _ ≤ _; exact Nat.le_of_eq rfl) (by decide) (by decide) (by decide) (by decide)
    have N_1' := Fr.app N0 N_1
    rw [hh_1] at e_1
    let j_472 := (mkF m 93 #[vR a1, vR al, vI vi, vR oa, vI vj] [(.ref x), (.int vj), (.ref oa)])
    refine Go.s T_1 j_472 st_1 ?_
    obtain ⟨T_2, X_2, e_2, st_2⟩ := castY X_1 hx hZ hown (hq hw 202 rfl) e_1 (Ins.self (Ex.ext O0.2)) (g := j_472) rfl rfl (D 48 rfl)
    let j_473 := (mkF m 96 #[vR a1, vR al, vI vi, vR oa, vI vj] [(.ref x), (.int vj), (.ref oa)])
    refine Go.s T_2 j_473 st_2 ?_
    obtain ⟨v_3, T_3, h_3, L_3, X_3, e_3, ⟨rfl, N_3, hh_3⟩, st_3⟩ := cV X_2 hx hZ hown (hq hw 204 rfl) (hq hw 205 rfl) (hq hw 207 rfl) (hq hw 207 rfl) (hq hw 206 rfl) (hq hw 109 rfl) (hq hw 208 rfl) e_2 (Ex.ext O0.2) hml (rmIV l Z a0 hw x h0 n0 (by omega) _ (Fx.ext O0.2)) (g := j_473) rfl rfl (lenOf pd_20 rfl) rfl (D 49 rfl) (W := 2) rfl rfl (by decide)
    have N_3' := Fr.app N_1' N_3
    rw [hh_3] at e_3
    let j_474 := (mkF m 99 #[vR a1, vR al, vI vi, vR oa, vI vj] [(.int (xs.getD j 0).toInt32), (.int vj), (.ref oa)])
    refine Go.s T_3 j_474 st_3 ?_
    obtain ⟨T_4, h_4, X_4, e_4, W_4, A_4, st_4⟩ := own_stI X_3 hx hZ e_3 Ao (j := vj) (by omega) (by omega) (g := j_474) rfl rfl (D 50 rfl)
    have N_4 := Fr.snoc X_4 N_3' (by omega)
    have z_4 := W_4.size
    refine Go.s T_4 (mkF m 100 #[vR a1, vR al, vI vi, vR oa, vI vj] []) st_4 ?_
    obtain ⟨wj, hwj⟩ : ∃ z : Int32, z = (vj + 1) := ⟨_, rfl⟩
    refine Go.s T_4 (mkF m 103 #[vR a1, vR al, vI vi, vR oa, vI wj] []) (fun t hr => by subst hwj; exact XS.iinc X_4.here hx rfl (D 51 rfl) rfl (l' := _) rfl hr) ?_
    refine Go.s T_4 (mkF m 75 #[vR a1, vR al, vI vi, vR oa, vI wj] []) (fun _ hr => yg X_4 hx (D 52 rfl) (pc' := 75) rfl hr) ?_
    have A' := A_4
    rw [own_toN hj] at A'
    have F_5 := (O0.wr W_4 (by omega))
    have F_6 := (EA.wr W_4)
    have F_7 := (FD.other W_4 (Or.inl (own_ne (by omega))))
    have F_8 := (FS.other W_4 (Or.inl (own_ne (by omega))))
    have F_9 := (Ve.other W_4 (own_ne (by omega)))
    exact ih (j + 1) wj (vs.set j (.int (xs.getD j 0).toInt32)) T_4 _ h_4 (by omega) X_4 e_4 N_4 F_5 (KB.wr W_4 (Or.inr (by omega))) F_6 F_7 F_8 F_9 A' (by simpa using lv) (fun q hq => by
      by_cases e : q = j
      · subst e; rw [List.getElem?_set_self (by omega)]; rfl
      · rw [List.getElem?_set_ne (fun z => e z.symm)]; exact hdone q (by omega)) (by rw [hwj]; exact own_up hj (by omega)) (by omega)
theorem pd_31 : parseMethodDescriptor "(Ljava/lang/CharSequence;I)I" = some ⟨[(.object "java/lang/CharSequence"), .int], some .int⟩ := by decide +kernel
theorem pd_32 : parseMethodDescriptor "(I)Ljava/lang/Integer;" = some ⟨[.int], some (.object "java/lang/Integer")⟩ := by decide +kernel
theorem pd_33 : parseMethodDescriptor "(Ljava/lang/Object;)Z" = some ⟨[(.object "java/lang/Object")], some .boolean⟩ := by decide +kernel
theorem lsA {p : Program} {l : Launch} {e : Env} {s : State} {m : MethodId} {args : Array Value} {below : List Frame} {meth : Method} {c : Code} (Z : State) (a0 : Array Value) (hw : own_W a0 Z) (n0 : Nat) (hx : p.tables.exec = Jvm.exec) (hby : c.code = prog_195_method_2_code) (hml : c.maxLocals = 5) (hZ : Z.Warmed39 s.vm) (hown : s.vm.findClass cX = some m.cls) (hnm : meth.name = "lineStarts") (hret : meth.sig.returnType = some (.array .int)) (hlk : meth.locks = false) (vcs : Int32) (hcs : ¬ vcs = 0) (SCS : sCS Z vcs) (vfm : Value) (rfm : vfm.isRef = true) (SFM : sFM Z vfm) (ica : Nat) (ivs : List Value) (SIH : sIH Z) (SIC : sIC Z ica) (AIC : Ary Z Z.heap ica (.object "java/lang/Integer") ivs) (hi256 : ivs.length = 256) (hIC : pIC Z ivs) (a1 vb al ed : Nat) (cs : List Int32) (hl1 : own_l1 cs) (hB : Heap) (ha1 : a1 < al) (hvb : vb < al) (hae : al < ed) (hBa : hB.size ≤ al) (gal : n0 ≤ al) (res : List Nat) (n : Nat) :
    ∀ (i : Nat) (vi : Int32) (mc : Int32) (vk : Int32) (es : List Value) (xs : List Nat) (s3 : Slot) (T0 : State) (locs0 : List Loc) (h0 : Heap) (Z0 : n0 ≤ h0.size) (X0 : Stand p l e ⟨5, 3, 18, 80⟩ s m args below meth c T0 locs0 2 13) (e0 : T0.heap = h0) (N0 : Fr n0 locs0) (O0 : Old Z n0 h0) (KB : Keep hB h0 []) (E1 : Exa Z h0 a1 "java/lang/String") (Fv : fV Z h0 a1 (.ref vb)) (Fc : fC Z h0 a1 (.int 0)) (Ab : Ary Z h0 vb .byte (cs.map own_bv)) (EA : Exa Z h0 al "java/util/ArrayList") (FM : fM Z h0 al (.int mc)) (FD : fE Z h0 al (.ref ed)) (FS : fS Z h0 al (.int vk)) (Ve : Ary Z h0 ed (.object "java/lang/Object") es) (Oe : Ovy Z h0 ed "java/lang/Object") (hes : own_es Z es xs) (hk : vk.toInt = xs.length) (hx1 : 1 ≤ xs.length) (hxi : xs.length ≤ i + 1) (hi : vi.toInt = i) (hil : i ≤ cs.length) (hn : cs.length ≤ i + n) (hres : own_go cs n i xs = res) (hs3 : One s3), Go p e below s 3 18 (fun v h L => ∃ la : Nat, v = some (.ref la) ∧ Fr n0 L ∧ Keep hB h [] ∧ hB.size ≤ la ∧ Ary Z h la .int (List.map own_iv res)) (T0.setTop (mkF m 21 #[vR a1, vR al, vI vi, s3, vU] [])) := by
  induction n with
  | zero =>
    intro i vi mc vk es xs s3 T0 locs0 h0 Z0 X0 e0 N0 O0 KB E1 Fv Fc Ab EA FM FD FS Ve Oe hes hk hx1 hxi hi hil hn hres hs3
    have D := @hd _ _ _ hby d80
    have hlc := hl1.2
    have ye := own_ltA Ve
    let j_475 := (mkF m 23 #[vR a1, vR al, vI vi, s3, vU] [(.ref a1), (.int vi)])
    refine Go.s T0 j_475 (fun _ hr => yj X0 hx (D 11 rfl) rfl (yb X0 hx (D 12 rfl) rfl rfl hr)) ?_
    obtain ⟨v_1, T_1, h_1, L_1, X_1, e_1, ⟨r_1, rfl, N_1, hh_1, hr_1⟩, st_1⟩ := cV X0 hx hZ hown (hq hw 149 rfl) (hq hw 150 rfl) (hq hw 152 rfl) (hq hw 152 rfl) (hq hw 151 rfl) (hq hw 9 rfl) (hq hw 153 rfl) e0 E1 hml (rmLen l Z a0 hw a1 h0 n0 (by omega) vcs hcs O0 SCS vb E1 Fv Fc cs Ab hl1) (g := j_475) rfl rfl (lenOf pd_20 rfl) rfl (D 13 rfl) (W := 1) rfl rfl (by decide)
    have N_1' := Fr.app N0 N_1
    rw [hh_1] at e_1
    let j_476 := (mkF m 64 #[vR a1, vR al, vI vi, s3, vU] [(.ref al)])
    refine Go.s T_1 j_476 (fun _ hr => st_1 _ (yY X_1 hx (D 14 rfl) (pc' := 63) (XT.ii_ge_t (by rw [Int32.lt_iff_toInt_lt]; omega)) rfl (yb X_1 hx (D 33 rfl) rfl rfl hr))) ?_
    obtain ⟨v_2, T_2, h_2, L_2, X_2, e_2, ⟨rfl, N_2, hh_2⟩, st_2⟩ := own_callI X_1 hx hZ (C := "java/util/ArrayList") (xi := ⟨"java/util/List", "size", "()I"⟩) (y := ⟨"java/util/ArrayList", "size", "()I"⟩) hown (hq hw 175 rfl) (hq hw 176 rfl) (hq hw 177 rfl) (hq hw 178 rfl) (hq hw 179 rfl) (hq hw 180 rfl) (hq hw 181 rfl) (hq hw 121 rfl) (hq hw 85 rfl) (hq hw 182 rfl) (by decide) e_1 (a := al) EA (argsL := []) (rest := []) (rmSz l Z a0 hw al h0 n0 (by omega) vk FS) (g := j_476) rfl (by rw [hml]; rfl) (lenOf pd_20 rfl) rfl (D 34 rfl) (W := 0) (by show 2 * 0 + _ ≤ _; exact Nat.le_of_eq rfl) (by decide) (by decide) (by decide) (by decide)
    have N_2' := Fr.app N_1' N_2
    rw [hh_2] at e_2
    let j_477 := (mkF m 69 #[vR a1, vR al, vI vi, s3, vU] [(.int vk)])
    refine Go.s T_2 j_477 st_2 ?_
    obtain ⟨T_3, h_3, X_3, e_3, E_3, A_3, st_3⟩ := own_newP X_2 hx hZ (ty := .int) rfl (hq hw 183 rfl) e_2 (g := j_477) rfl (D 35 rfl) rfl (by omega) (cap := 5) (by omega) (by decide) (by decide) (by decide)
    obtain ⟨ad_3, g_3⟩ : ∃ z, z = h0.size := ⟨_, rfl⟩
    rw [← g_3] at A_3 st_3
    have z_3 := E_3.1
    have y_3 := own_ltA A_3
    refine Go.s T_3 (mkF m 75 #[vR a1, vR al, vI vi, vR ad_3, vI 0] []) (fun _ hr => st_3 _ (yn X_3 hx (D 36 rfl) rfl (XS.store1 rfl hs3 rfl) (yc X_3 hx (D 37 rfl) (yk X_3 hx (D 38 rfl) rfl hr)))) ?_
    have hres : xs = res := hres
    have F_4 := (O0.ext E_3)
    have F_5 := (EA.ext E_3)
    have F_6 := (FD.ext E_3)
    have F_7 := (FS.ext E_3)
    have F_8 := (Ve.ext E_3)
    subst hres
    exact lsB Z a0 hw n0 hx hby hml hZ hown hnm hret hlk a1 al ed ad_3 vi vk es xs xs.length hk rfl (by omega) hes hB (by omega) (by omega) (by omega) (by omega) xs.length 0 0 _ T_3 _ h_3 (by omega) X_3 e_3 N_2' F_4 (KB.ext E_3) F_5 F_6 F_7 F_8 A_3 (by rw [List.length_replicate]; exact own_toN hk) (fun q hq => absurd hq (Nat.not_lt_zero q)) rfl (by omega)
  | succ n ih =>
    intro i vi mc vk es xs s3 T0 locs0 h0 Z0 X0 e0 N0 O0 KB E1 Fv Fc Ab EA FM FD FS Ve Oe hes hk hx1 hxi hi hil hn hres hs3
    have D := @hd _ _ _ hby d80
    have hlc := hl1.2
    have ye := own_ltA Ve
    let j_478 := (mkF m 23 #[vR a1, vR al, vI vi, s3, vU] [(.ref a1), (.int vi)])
    refine Go.s T0 j_478 (fun _ hr => yj X0 hx (D 11 rfl) rfl (yb X0 hx (D 12 rfl) rfl rfl hr)) ?_
    obtain ⟨v_1, T_1, h_1, L_1, X_1, e_1, ⟨r_1, rfl, N_1, hh_1, hr_1⟩, st_1⟩ := cV X0 hx hZ hown (hq hw 149 rfl) (hq hw 150 rfl) (hq hw 152 rfl) (hq hw 152 rfl) (hq hw 151 rfl) (hq hw 9 rfl) (hq hw 153 rfl) e0 E1 hml (rmLen l Z a0 hw a1 h0 n0 (by omega) vcs hcs O0 SCS vb E1 Fv Fc cs Ab hl1) (g := j_478) rfl rfl (lenOf pd_20 rfl) rfl (D 13 rfl) (W := 1) rfl rfl (by decide)
    have N_1' := Fr.app N0 N_1
    rw [hh_1] at e_1
    refine Go.s T_1 (mkF m 26 #[vR a1, vR al, vI vi, s3, vU] [(.int r_1), (.int vi)]) st_1 ?_
    by_cases hc2 : vi < r_1
    · let j_479 := (mkF m 31 #[vR a1, vR al, vI vi, s3, vU] [(.int vi), (.ref a1)])
      refine Go.s T_1 j_479 (fun _ hr => yN X_1 hx (D 14 rfl) (XT.ii_ge_f hc2) (yb X_1 hx (D 15 rfl) rfl rfl (yj X_1 hx (D 16 rfl) rfl hr))) ?_
      have hic : i < cs.length := by
        have q := hc2
        rw [Int32.lt_iff_toInt_lt] at q; omega
      have hble := own_lb_le hic
      obtain ⟨v_3, T_3, h_3, L_3, X_3, e_3, ⟨r_3, rfl, N_3, hh_3, hr_3⟩, st_3⟩ := cS X_1 hx hZ hown (hq hw 159 rfl) (hq hw 160 rfl) (hq hw 7 rfl) (hq hw 161 rfl) e_1 hml (rmLB l Z a0 hw a1 vi h0 n0 (by omega) vcs hcs O0 SCS vb E1 Fv Fc cs Ab hl1 vfm rfm SFM i hi hic) (g := j_479) rfl rfl (lenOf pd_31 rfl) rfl (D 17 rfl) (W := 0) rfl rfl (by decide)
      have N_3' := Fr.app N_1' N_3
      rw [hh_3] at e_3
      refine Go.s T_3 (mkF m 36 #[vR a1, vR al, vI vi, vI r_3, vU] [(.int r_3)]) (fun _ hr => st_3 _ (yl X_3 hx (D 18 rfl) (XS.store1 rfl hs3 rfl) (yj X_3 hx (D 19 rfl) rfl hr))) ?_
      by_cases hc4 : 0 < r_3
      · refine Go.s T_3 (mkF m 42 #[vR a1, vR al, vI vi, vI r_3, vU] [(.int (vi + r_3))]) (fun _ hr => yM X_3 hx (D 20 rfl) (XT.i0_le_f hc4) (yj X_3 hx (D 21 rfl) rfl (yj X_3 hx (D 22 rfl) rfl (y1 X_3 hx (D 23 rfl) hr)))) ?_
        obtain ⟨w2, hw2⟩ : ∃ z : Int32, z = (vi + r_3) := ⟨_, rfl⟩
        refine Go.s T_3 (mkF m 43 #[vR a1, vR al, vI w2, vI r_3, vU] []) (fun t hr => by subst hw2; exact XS.istoreN X_3.here hx rfl (D 24 rfl) rfl (l' := _) rfl hr) ?_
        have hpos : 0 < own_lb cs i := by
          have q := hc4
          rw [Int32.lt_iff_toInt_lt] at q; have z : (0 : Int32).toInt = 0 := rfl; omega
        have hw2i : w2.toInt = (i + own_lb cs i : Nat) := by
          have q := c_iadd vi r_3; have q2 := rng32 (vi + r_3); rw [hw2]; omega
        let j_480 := (mkF m 45 #[vR a1, vR al, vI w2, vI r_3, vU] [(.int w2), (.ref al)])
        refine Go.s T_3 j_480 (fun _ hr => yb X_3 hx (D 25 rfl) rfl rfl (yj X_3 hx (D 26 rfl) rfl hr)) ?_
        obtain ⟨v_5, T_5, h_5, L_5, X_5, e_5, ⟨x_5, rfl, N_5, hh_5, EE_5, FF_5⟩, st_5⟩ := cS X_3 hx hZ hown (hq hw 107 rfl) (hq hw 108 rfl) (hq hw 109 rfl) (hq hw 110 rfl) e_3 hml (rmVO l Z a0 hw w2 h0 n0 (by omega) O0 ica ivs SIH SIC AIC hi256 hIC (i + own_lb cs i) hw2i (by omega)) (g := j_480) rfl rfl (lenOf pd_32 rfl) rfl (D 27 rfl) (W := 1) rfl rfl (by decide)
        have N_5' := Fr.app N_3' N_5
        rw [hh_5] at e_5
        let j_481 := (mkF m 48 #[vR a1, vR al, vI w2, vI r_3, vU] [(.ref x_5), (.ref al)])
        refine Go.s T_5 j_481 st_5 ?_
        obtain ⟨v_6, T_6, h_6, L_6, X_6, e_6, ⟨rfl, N_6, K_6, F1_6, F2_6, F3_6, B_6⟩, st_6⟩ := own_callI X_5 hx hZ (C := "java/util/ArrayList") (xi := ⟨"java/util/List", "add", "(Ljava/lang/Object;)Z"⟩) (y := ⟨"java/util/ArrayList", "add", "(Ljava/lang/Object;)Z"⟩) hown (hq hw 114 rfl) (hq hw 115 rfl) (hq hw 116 rfl) (hq hw 117 rfl) (hq hw 118 rfl) (hq hw 119 rfl) (hq hw 120 rfl) (hq hw 121 rfl) (hq hw 85 rfl) (hq hw 122 rfl) (by decide) e_5 (a := al) EA (argsL := [(.ref x_5)]) (rest := []) (rmAddK l Z a0 hw al x_5 h0 n0 (by omega) O0 ed mc vk EA FM FD FS (by omega) es Ve Oe hes.1 xs.length hk (by omega) (by omega) (own_ne (by omega)) EE_5) (g := j_481) rfl (by rw [hml]; rfl) (lenOf pd_33 rfl) rfl (D 28 rfl) (W := 0) (by show 2 * 0 + _ ≤ _; exact Nat.le_of_eq rfl) (by decide) (by decide) (by decide) (by decide)
        have N_6' := Fr.app N_5' N_6
        have z_6 := K_6.1
        refine Go.s T_6 (mkF m 21 #[vR a1, vR al, vI w2, vI r_3, vU] []) (fun _ hr => st_6 _ (y0 X_6 hx (D 29 rfl) rfl (yg X_6 hx (D 30 rfl) (pc' := 60) rfl (yg X_6 hx (D 32 rfl) (pc' := 21) rfl hr)))) ?_
        have hres2 : own_go cs n (i + own_lb cs i) (xs ++ [i + own_lb cs i]) = res := by rw [← hres, own_go, if_pos hic, if_pos hpos]
        have F_7 := (O0.keep K_6 (by intro x hxx; simp only [List.mem_cons, List.not_mem_nil, or_false] at hxx; rcases hxx with rfl | rfl <;> omega))
        have F_8 := (E1.keep K_6)
        have F_9 := (Fv.keep K_6 (by simp only [List.mem_cons, List.not_mem_nil, or_false, not_or]; exact ⟨own_ne (by omega), own_ne (by omega)⟩))
        have F_10 := (Fc.keep K_6 (by simp only [List.mem_cons, List.not_mem_nil, or_false, not_or]; exact ⟨own_ne (by omega), own_ne (by omega)⟩))
        have F_11 := (Ab.keep K_6 (by simp only [List.mem_cons, List.not_mem_nil, or_false, not_or]; exact ⟨own_ne (by omega), own_ne (by omega)⟩))
        have F_12 := (EA.keep K_6)
        have F_13 := (Oe.keep K_6)
        exact ih (i + own_lb cs i) w2 (mc + 1) (vk + 1) (es.set xs.length (.ref x_5)) (xs ++ [i + own_lb cs i]) (vI r_3) T_6 _ h_6 (by omega) X_6 e_6 N_6' F_7 (KB.trans K_6 (by intro x hxx; simp only [List.mem_cons, List.not_mem_nil, or_false] at hxx; rcases hxx with rfl | rfl <;> exact Or.inr (by omega))) F_8 F_9 F_10 F_11 F_12 F1_6 F2_6 F3_6 B_6 F_13 (own_es_add hes (by omega) EE_5 FF_5 (own_eqI hw2i (by omega))) (by rw [List.length_append]; exact own_up hk (by omega)) (by rw [List.length_append]; omega) (by simp only [List.length_append, List.length_cons, List.length_nil]; omega) hw2i hble (by omega) hres2 (One.val rfl)
      refine Go.s T_3 (mkF m 57 #[vR a1, vR al, vI vi, vI r_3, vU] []) (fun _ hr => yX X_3 hx (D 20 rfl) (pc' := 57) (XT.i0_le_t hc4) rfl hr) ?_
      obtain ⟨wb, hwb⟩ : ∃ z : Int32, z = (vi + 1) := ⟨_, rfl⟩
      refine Go.s T_3 (mkF m 60 #[vR a1, vR al, vI wb, vI r_3, vU] []) (fun t hr => by subst hwb; exact XS.iinc X_3.here hx rfl (D 31 rfl) rfl (l' := _) rfl hr) ?_
      refine Go.s T_3 (mkF m 21 #[vR a1, vR al, vI wb, vI r_3, vU] []) (fun _ hr => yg X_3 hx (D 32 rfl) (pc' := 21) rfl hr) ?_
      have hnp : ¬ 0 < own_lb cs i := by
        have q := hc4
        rw [Int32.lt_iff_toInt_lt] at q; have z : (0 : Int32).toInt = 0 := rfl; omega
      have hres2 : own_go cs n (i + 1) xs = res := by rw [← hres, own_go, if_pos hic, if_neg hnp]
      exact ih (i + 1) wb mc vk es xs (vI r_3) T_3 _ h0 (by omega) X_3 e_3 N_3' O0 KB E1 Fv Fc Ab EA FM FD FS Ve Oe hes hk hx1 (by omega) (by rw [hwb]; exact own_up hi (by omega)) (by omega) (by omega) hres2 (One.val rfl)
    let j_482 := (mkF m 64 #[vR a1, vR al, vI vi, s3, vU] [(.ref al)])
    refine Go.s T_1 j_482 (fun _ hr => yY X_1 hx (D 14 rfl) (pc' := 63) (XT.ii_ge_t hc2) rfl (yb X_1 hx (D 33 rfl) rfl rfl hr)) ?_
    obtain ⟨v_14, T_14, h_14, L_14, X_14, e_14, ⟨rfl, N_14, hh_14⟩, st_14⟩ := own_callI X_1 hx hZ (C := "java/util/ArrayList") (xi := ⟨"java/util/List", "size", "()I"⟩) (y := ⟨"java/util/ArrayList", "size", "()I"⟩) hown (hq hw 175 rfl) (hq hw 176 rfl) (hq hw 177 rfl) (hq hw 178 rfl) (hq hw 179 rfl) (hq hw 180 rfl) (hq hw 181 rfl) (hq hw 121 rfl) (hq hw 85 rfl) (hq hw 182 rfl) (by decide) e_1 (a := al) EA (argsL := []) (rest := []) (rmSz l Z a0 hw al h0 n0 (by omega) vk FS) (g := j_482) rfl (by rw [hml]; rfl) (lenOf pd_20 rfl) rfl (D 34 rfl) (W := 0) (by show 2 * 0 + _ ≤ _; exact Nat.le_of_eq rfl) (by decide) (by decide) (by decide) (by decide)
    have N_14' := Fr.app N_1' N_14
    rw [hh_14] at e_14
    let j_483 := (mkF m 69 #[vR a1, vR al, vI vi, s3, vU] [(.int vk)])
    refine Go.s T_14 j_483 st_14 ?_
    obtain ⟨T_15, h_15, X_15, e_15, E_15, A_15, st_15⟩ := own_newP X_14 hx hZ (ty := .int) rfl (hq hw 183 rfl) e_14 (g := j_483) rfl (D 35 rfl) rfl (by omega) (cap := 5) (by omega) (by decide) (by decide) (by decide)
    obtain ⟨ad_15, g_15⟩ : ∃ z, z = h0.size := ⟨_, rfl⟩
    rw [← g_15] at A_15 st_15
    have z_15 := E_15.1
    have y_15 := own_ltA A_15
    refine Go.s T_15 (mkF m 75 #[vR a1, vR al, vI vi, vR ad_15, vI 0] []) (fun _ hr => st_15 _ (yn X_15 hx (D 36 rfl) rfl (XS.store1 rfl hs3 rfl) (yc X_15 hx (D 37 rfl) (yk X_15 hx (D 38 rfl) rfl hr)))) ?_
    have hnl : ¬ i < cs.length := by
      have q := hc2
      rw [Int32.lt_iff_toInt_lt] at q; omega
    have hres : xs = res := by rw [← hres, own_go, if_neg hnl]
    have F_16 := (O0.ext E_15)
    have F_17 := (EA.ext E_15)
    have F_18 := (FD.ext E_15)
    have F_19 := (FS.ext E_15)
    have F_20 := (Ve.ext E_15)
    subst hres
    exact lsB Z a0 hw n0 hx hby hml hZ hown hnm hret hlk a1 al ed ad_15 vi vk es xs xs.length hk rfl (by omega) hes hB (by omega) (by omega) (by omega) (by omega) xs.length 0 0 _ T_15 _ h_15 (by omega) X_15 e_15 N_14' F_16 (KB.ext E_15) F_17 F_18 F_19 F_20 A_15 (by rw [List.length_replicate]; exact own_toN hk) (fun q hq => absurd hq (Nat.not_lt_zero q)) rfl (by omega)
theorem pf_50 : plainFor (⟨cX, "lineStarts", "(Ljava/lang/String;)[I"⟩ : MethodName) = true := plainFor_of_name (by first | (simp [plainName, overriddenIn]; done) | decide +kernel)
theorem rmLS (hw : own_W a0 Z) (a1 : Nat) (h0 : Heap) (n0 : Nat) (Z0 : n0 ≤ h0.size) (vcs : Int32) (hcs : ¬ vcs = 0) (O0 : Old Z n0 h0) (SCS : sCS Z vcs) (vb : Nat) (E1 : Exa Z h0 a1 "java/lang/String") (Fv : fV Z h0 a1 (.ref vb)) (Fc : fC Z h0 a1 (.int 0)) (cs : List Int32) (Ab : Ary Z h0 vb .byte (cs.map own_bv)) (hl1 : own_l1 cs) (vfm : Value) (rfm : vfm.isRef = true) (SFM : sFM Z vfm) (ica : Nat) (ivs : List Value) (SIH : sIH Z) (SIC : sIC Z ica) (AIC : Ary Z Z.heap ica (.object "java/lang/Integer") ivs) (hi256 : ivs.length = 256) (hIC : pIC Z ivs) (vd : Nat) (SDV : sDV Z vd) (ADV : Ary Z Z.heap vd (.object "java/lang/Object") []) :
    Con l Z ⟨cX, "lineStarts", "(Ljava/lang/String;)[I"⟩ prog_195_method_2_code 5 (some (.array .int)) ⟨5, 3, 18, 80⟩ #[(.ref a1)] h0 (fun v h L => ∃ la : Nat, v = some (.ref la) ∧ Fr n0 L ∧ Keep h0 h [] ∧ h0.size ≤ la ∧ Ary Z h la .int (List.map own_iv (own_ls cs))) := by
  refine Con.o (L := #[vR a1, vU, vU, vU, vU]) n0 d80 pf_50 (by simp [argsToLocals, Value.category]) ?_
  intro p e s m _ _ c T0 X0 hx hby hml hZ hown hnm hret hlk e0 N0 D
  have lt_1 := own_ltE E1
  have lt_2 := own_ltA Ab
  obtain ⟨T_3, h_3, X_3, e_3, E_3, A_3, D_3, -, st_3⟩ := newO X0 hx hZ hown (hq hw 83 rfl) (hq hw 84 rfl) (hq hw 85 rfl) e0 (g := (mkF m 0 #[vR a1, vU, vU, vU, vU] [])) rfl (D 0 rfl) (by decide) (by decide)
  obtain ⟨ad_3, g_3⟩ : ∃ z, z = h0.size := ⟨_, rfl⟩
  rw [← g_3] at A_3 D_3 st_3
  have z_3 := E_3.1
  have y_3 := own_ltE A_3
  have F_3_modCount : fM Z h_3 ad_3 (.int 0) := D_3 (Or.inl (hq hw 103 rfl)) (ty := .int) (by decide)
  have F_3_elementData : fE Z h_3 ad_3 .null := D_3 (Or.inl (hq hw 106 rfl)) (ty := (.array (.object "java/lang/Object"))) (by decide)
  have F_3_size : fS Z h_3 ad_3 (.int 0) := D_3 (Or.inl (hq hw 126 rfl)) (ty := .int) (by decide)
  let j_484 := (mkF m 4 #[vR a1, vU, vU, vU, vU] [(.ref ad_3), (.ref ad_3)])
  refine Go.s T_3 j_484 (fun _ hr => st_3 _ (yd X_3 hx (D 1 rfl) rfl hr)) ?_
  have F_5 := (O0.ext E_3)
  obtain ⟨v_4, T_4, h_4, L_4, X_4, e_4, ⟨rfl, N_4, K_4, F1_4, F2_4, F3_4⟩, st_4⟩ := cN X_3 hx hZ hown (hq hw 86 rfl) (hq hw 87 rfl) (hq hw 85 rfl) (hq hw 88 rfl) e_3 rfl hml (rmAL l Z a0 hw ad_3 h_3 n0 (by omega) F_5 vd SDV ADV A_3 F_3_modCount F_3_elementData F_3_size (by omega)) (g := j_484) rfl rfl (lenOf pd_25 rfl) rfl (D 2 rfl) (W := 1) rfl rfl (by decide)
  have N_4' := Fr.app N0 N_4
  have z_4 := K_4.1
  let j_485 := (mkF m 10 #[vR a1, vR ad_3, vU, vU, vU] [(.int 0), (.ref ad_3)])
  refine Go.s T_4 j_485 (fun _ hr => st_4 _ (yn X_4 hx (D 3 rfl) rfl rfl (yb X_4 hx (D 4 rfl) rfl rfl (yc X_4 hx (D 5 rfl) hr)))) ?_
  have F_7 := (F_5.keep K_4 (own_o1 (by omega)))
  obtain ⟨v_6, T_6, h_6, L_6, X_6, e_6, ⟨x_6, rfl, N_6, hh_6, EE_6, FF_6⟩, st_6⟩ := cS X_4 hx hZ hown (hq hw 107 rfl) (hq hw 108 rfl) (hq hw 109 rfl) (hq hw 110 rfl) e_4 hml (rmVO l Z a0 hw 0 h_4 n0 (by omega) F_7 ica ivs SIH SIC AIC hi256 hIC 0 rfl (by decide)) (g := j_485) rfl rfl (lenOf pd_32 rfl) rfl (D 6 rfl) (W := 1) rfl rfl (by decide)
  have N_6' := Fr.app N_4' N_6
  rw [hh_6] at e_6
  let j_486 := (mkF m 13 #[vR a1, vR ad_3, vU, vU, vU] [(.ref x_6), (.ref ad_3)])
  refine Go.s T_6 j_486 st_6 ?_
  have F_9 := (A_3.keep K_4)
  obtain ⟨v_8, T_8, h_8, L_8, X_8, e_8, ⟨rfl, N_8, K_8, ed_8, g_8, F1_8, F2_8, F3_8, B_8, O_8⟩, st_8⟩ := own_callI X_6 hx hZ (C := "java/util/ArrayList") (xi := ⟨"java/util/List", "add", "(Ljava/lang/Object;)Z"⟩) (y := ⟨"java/util/ArrayList", "add", "(Ljava/lang/Object;)Z"⟩) hown (hq hw 114 rfl) (hq hw 115 rfl) (hq hw 116 rfl) (hq hw 117 rfl) (hq hw 118 rfl) (hq hw 119 rfl) (hq hw 120 rfl) (hq hw 121 rfl) (hq hw 85 rfl) (hq hw 122 rfl) (by decide) e_6 (a := ad_3) F_9 (argsL := [(.ref x_6)]) (rest := []) (rmAdd0 l Z a0 hw ad_3 x_6 h_4 n0 (by omega) F_7 vd SDV ADV 0 F_9 F1_4 F2_4 F3_4 (by omega) EE_6) (g := j_486) rfl (by rw [hml]; rfl) (lenOf pd_33 rfl) rfl (D 7 rfl) (W := 0) (by show 2 * 0 + _ ≤ _; exact Nat.le_of_eq rfl) (by decide) (by decide) (by decide) (by decide)
  have N_8' := Fr.app N_6' N_8
  have z_8 := K_8.1
  have yy_8 := own_ltA B_8
  refine Go.s T_8 (mkF m 21 #[vR a1, vR ad_3, vI 0, vU, vU] []) (fun _ hr => st_8 _ (y0 X_8 hx (D 8 rfl) rfl (yc X_8 hx (D 9 rfl) (yl X_8 hx (D 10 rfl) rfl hr)))) ?_
  have F_10 := (F_7.keep K_8 (own_o1 (by omega)))
  have F_11 := (((E1.ext E_3).keep K_4).keep K_8)
  have F_12 := (((Fv.ext E_3).keep K_4 (own_n1 (by omega))).keep K_8 (own_n1 (by omega)))
  have F_13 := (((Fc.ext E_3).keep K_4 (own_n1 (by omega))).keep K_8 (own_n1 (by omega)))
  have F_14 := (((Ab.ext E_3).keep K_4 (own_n1 (by omega))).keep K_8 (own_n1 (by omega)))
  have F_15 := (F_9.keep K_8)
  exact lsA Z a0 hw n0 hx hby hml hZ hown hnm hret hlk vcs hcs SCS vfm rfm SFM ica ivs SIH SIC AIC hi256 hIC a1 vb ad_3 ed_8 cs hl1 h0 (by omega) (by omega) (by omega) (by omega) (by omega) (own_ls cs) cs.length 0 0 _ 1 _ [0] vU T_8 _ h_8 (by omega) X_8 e_8 N_8' F_10 ((((Keep.refl h0 []).ext E_3).trans K_4 (own_t1 (by first | exact Or.inr (by omega) | exact Or.inl (by simp)))).trans K_8 (own_t1 (by first | exact Or.inr (by omega) | exact Or.inl (by simp)))) F_11 F_12 F_13 F_14 F_15 F1_8 F2_8 F3_8 B_8 O_8 (own_es_one EE_6 FF_6) rfl (by decide) (by decide) rfl (Nat.zero_le _) (by omega) rfl One.u
theorem pf_51 : plainFor (⟨cX, "line", "(I)I"⟩ : MethodName) = true := plainFor_of_name (by first | (simp [plainName, overriddenIn]; done) | decide +kernel)
theorem rmLine1 (hw : own_W a0 Z) (a1 : Nat) (p2 : Int32) (h0 : Heap) (n0 : Nat) (Z0 : n0 ≤ h0.size) (la : Nat) (Fl : fX Z h0 a1 (.ref la)) (s0 : Int32) (Al : Ary Z h0 la .int [(.int s0)]) :
    Con l Z ⟨cX, "line", "(I)I"⟩ prog_195_method_6_code 5 (some .int) ⟨0, 0, 0, 0⟩ #[(.ref a1), (.int p2)] h0 (fun v h L => ∃ r : Int32, v = some (.int r) ∧ Fr n0 L ∧ h = h0 ∧ r.toInt = 1 + (0 : Int)) := by
  refine Con.o (L := #[vR a1, vI p2, vU, vU, vU]) n0 d81 pf_51 (by simp [argsToLocals, Value.category]) ?_
  intro p e s m _ _ c T0 X0 hx hby hml hZ hown hnm hret hlk e0 N0 D
  have lt_1 := own_ltF Fl
  have lt_2 := own_ltA Al
  let j_487 := (mkF m 3 #[vR a1, vI p2, vI 0, vU, vU] [(.ref a1)])
  refine Go.s T0 j_487 (fun _ hr => yc X0 hx (D 0 rfl) (yl X0 hx (D 1 rfl) rfl (yb X0 hx (D 2 rfl) rfl rfl hr))) ?_
  obtain ⟨T_3, X_3, e_3, st_3⟩ := getF X0 hx hZ hown (host := "") (Or.inl (hq hw 211 rfl)) Via.refl e0 Fl (g := j_487) rfl rfl (D 3 rfl)
  let j_488 := (mkF m 6 #[vR a1, vI p2, vI 0, vU, vU] [(.ref la)])
  refine Go.s T_3 j_488 st_3 ?_
  refine Go.s T_3 (mkF m 8 #[vR a1, vI p2, vI 0, vU, vU] [(.int 1), (.int 1)]) (fun _ hr => (own_len X_3 hx hZ e_3 Al (g := j_488) rfl rfl (D 4 rfl)) _ (yc X_3 hx (D 5 rfl) hr)) ?_
  refine Go.s T_3 (mkF m 51 #[vR a1, vI p2, vI 0, vI 0, vU] [(.int 1), (.int 0)]) (fun _ hr => y2 X_3 hx (D 6 rfl) (yl X_3 hx (D 7 rfl) rfl (yj X_3 hx (D 8 rfl) rfl (yj X_3 hx (D 9 rfl) rfl (yY X_3 hx (D 10 rfl) (pc' := 49) (XT.ii_ge_t (by decide)) rfl (yj X_3 hx (D 33 rfl) rfl (yc X_3 hx (D 34 rfl) hr))))))) ?_
  refine Go.s T_3 (mkF m 52 #[vR a1, vI p2, vI 0, vI 0, vU] [(.int 1)]) (fun _ hr => y1 X_3 hx (D 35 rfl) hr) ?_
  refine Go.retI X_3 hx hlk hret (D 36 rfl) (by decide) (by decide) ?_
  try rw [e_3]
  refine ⟨(1 : Int32), rfl, N0, rfl, ?_⟩
  show (1 : Int) = _
  try rfl
theorem rmLine2 (hw : own_W a0 Z) (a1 : Nat) (p2 : Int32) (h0 : Heap) (n0 : Nat) (Z0 : n0 ≤ h0.size) (la : Nat) (Fl : fX Z h0 a1 (.ref la)) (s0 s1 : Int32) (Al : Ary Z h0 la .int [(.int s0), (.int s1)]) (o0 : s0.toInt < s1.toInt) :
    Con l Z ⟨cX, "line", "(I)I"⟩ prog_195_method_6_code 5 (some .int) ⟨0, 0, 0, 0⟩ #[(.ref a1), (.int p2)] h0 (fun v h L => ∃ r : Int32, v = some (.int r) ∧ Fr n0 L ∧ h = h0 ∧ r.toInt = 1 + ((if s1.toInt ≤ p2.toInt then 1 else 0) : Int)) := by
  refine Con.o (L := #[vR a1, vI p2, vU, vU, vU]) n0 d81 pf_51 (by simp [argsToLocals, Value.category]) ?_
  intro p e s m _ _ c T0 X0 hx hby hml hZ hown hnm hret hlk e0 N0 D
  have lt_1 := own_ltF Fl
  have lt_2 := own_ltA Al
  let j_489 := (mkF m 3 #[vR a1, vI p2, vI 0, vU, vU] [(.ref a1)])
  refine Go.s T0 j_489 (fun _ hr => yc X0 hx (D 0 rfl) (yl X0 hx (D 1 rfl) rfl (yb X0 hx (D 2 rfl) rfl rfl hr))) ?_
  obtain ⟨T_3, X_3, e_3, st_3⟩ := getF X0 hx hZ hown (host := "") (Or.inl (hq hw 211 rfl)) Via.refl e0 Fl (g := j_489) rfl rfl (D 3 rfl)
  let j_490 := (mkF m 6 #[vR a1, vI p2, vI 0, vU, vU] [(.ref la)])
  refine Go.s T_3 j_490 st_3 ?_
  refine Go.s T_3 (mkF m 8 #[vR a1, vI p2, vI 0, vU, vU] [(.int 1), (.int 2)]) (fun _ hr => (own_len X_3 hx hZ e_3 Al (g := j_490) rfl rfl (D 4 rfl)) _ (yc X_3 hx (D 5 rfl) hr)) ?_
  refine Go.s T_3 (mkF m 17 #[vR a1, vI p2, vI 0, vI 1, vU] [(.int 1), (.int 0)]) (fun _ hr => y2 X_3 hx (D 6 rfl) (yl X_3 hx (D 7 rfl) rfl (yj X_3 hx (D 8 rfl) rfl (yj X_3 hx (D 9 rfl) rfl (yN X_3 hx (D 10 rfl) (XT.ii_ge_f (by decide)) (yj X_3 hx (D 11 rfl) rfl (yj X_3 hx (D 12 rfl) rfl hr))))))) ?_
  refine Go.s T_3 (mkF m 19 #[vR a1, vI p2, vI 0, vI 1, vU] [(.int 1), (.int 1)]) (fun _ hr => y1 X_3 hx (D 13 rfl) (yc X_3 hx (D 14 rfl) hr)) ?_
  refine Go.s T_3 (mkF m 21 #[vR a1, vI p2, vI 0, vI 1, vU] [(.int 1), (.int 2)]) (fun _ hr => y1 X_3 hx (D 15 rfl) (yc X_3 hx (D 16 rfl) hr)) ?_
  let j_491 := (mkF m 25 #[vR a1, vI p2, vI 0, vI 1, vI 1] [(.ref a1)])
  refine Go.s T_3 j_491 (fun _ hr => y7 X_3 hx (D 17 rfl) (yk X_3 hx (D 18 rfl) rfl (yb X_3 hx (D 19 rfl) rfl rfl hr))) ?_
  obtain ⟨T_4, X_4, e_4, st_4⟩ := getF X_3 hx hZ hown (host := "") (Or.inl (hq hw 211 rfl)) Via.refl e_3 Fl (g := j_491) rfl rfl (D 20 rfl)
  let j_492 := (mkF m 30 #[vR a1, vI p2, vI 0, vI 1, vI 1] [(.int 1), (.ref la)])
  refine Go.s T_4 j_492 (fun _ hr => st_4 _ (yi X_4 hx (D 21 rfl) rfl hr)) ?_
  refine Go.s T_4 (mkF m 32 #[vR a1, vI p2, vI 0, vI 1, vI 1] [(.int p2), (.int s1)]) (fun _ hr => (own_ldI X_4 hx hZ e_4 Al (j := 1) (v := (.int s1)) (by decide) (by simp +decide) rfl (g := j_492) rfl rfl (D 22 rfl)) _ (yj X_4 hx (D 23 rfl) rfl hr)) ?_
  by_cases hc5 : p2 < s1
  · refine Go.s T_4 (mkF m 44 #[vR a1, vI p2, vI 0, vI 1, vI 1] [(.int 1), (.int 1)]) (fun _ hr => yY X_4 hx (D 24 rfl) (pc' := 41) (XT.ii_gt_t hc5) rfl (yi X_4 hx (D 28 rfl) rfl (yc X_4 hx (D 29 rfl) hr))) ?_
    refine Go.s T_4 (mkF m 51 #[vR a1, vI p2, vI 0, vI 0, vI 1] [(.int 1), (.int 0)]) (fun _ hr => y2 X_4 hx (D 30 rfl) (yl X_4 hx (D 31 rfl) rfl (yg X_4 hx (D 32 rfl) (pc' := 10) rfl (yj X_4 hx (D 8 rfl) rfl (yj X_4 hx (D 9 rfl) rfl (yY X_4 hx (D 10 rfl) (pc' := 49) (XT.ii_ge_t (by decide)) rfl (yj X_4 hx (D 33 rfl) rfl (yc X_4 hx (D 34 rfl) hr)))))))) ?_
    refine Go.s T_4 (mkF m 52 #[vR a1, vI p2, vI 0, vI 0, vI 1] [(.int 1)]) (fun _ hr => y1 X_4 hx (D 35 rfl) hr) ?_
    refine Go.retI X_4 hx hlk hret (D 36 rfl) (by decide) (by decide) ?_
    try rw [e_4]
    simp only [Int32.lt_iff_toInt_lt] at hc5
    refine ⟨(1 : Int32), rfl, N0, rfl, ?_⟩
    show (1 : Int) = _
    rw [if_neg (by omega)]
    try rfl
  refine Go.s T_4 (mkF m 51 #[vR a1, vI p2, vI 1, vI 1, vI 1] [(.int 1), (.int 1)]) (fun _ hr => yN X_4 hx (D 24 rfl) (XT.ii_gt_f hc5) (yi X_4 hx (D 25 rfl) rfl (yl X_4 hx (D 26 rfl) rfl (yg X_4 hx (D 27 rfl) (pc' := 46) rfl (yg X_4 hx (D 32 rfl) (pc' := 10) rfl (yj X_4 hx (D 8 rfl) rfl (yj X_4 hx (D 9 rfl) rfl (yY X_4 hx (D 10 rfl) (pc' := 49) (XT.ii_ge_t (by decide)) rfl (yj X_4 hx (D 33 rfl) rfl (yc X_4 hx (D 34 rfl) hr)))))))))) ?_
  refine Go.s T_4 (mkF m 52 #[vR a1, vI p2, vI 1, vI 1, vI 1] [(.int 2)]) (fun _ hr => y1 X_4 hx (D 35 rfl) hr) ?_
  refine Go.retI X_4 hx hlk hret (D 36 rfl) (by decide) (by decide) ?_
  try rw [e_4]
  simp only [Int32.lt_iff_toInt_lt] at hc5
  refine ⟨(2 : Int32), rfl, N0, rfl, ?_⟩
  show (2 : Int) = _
  rw [if_pos (by omega)]
  try rfl
theorem rmLine3 (hw : own_W a0 Z) (a1 : Nat) (p2 : Int32) (h0 : Heap) (n0 : Nat) (Z0 : n0 ≤ h0.size) (la : Nat) (Fl : fX Z h0 a1 (.ref la)) (s0 s1 s2 : Int32) (Al : Ary Z h0 la .int [(.int s0), (.int s1), (.int s2)]) (o0 : s0.toInt < s1.toInt)  (o1 : s1.toInt < s2.toInt) :
    Con l Z ⟨cX, "line", "(I)I"⟩ prog_195_method_6_code 5 (some .int) ⟨0, 0, 0, 0⟩ #[(.ref a1), (.int p2)] h0 (fun v h L => ∃ r : Int32, v = some (.int r) ∧ Fr n0 L ∧ h = h0 ∧ r.toInt = 1 + ((if s1.toInt ≤ p2.toInt then 1 else 0) + (if s2.toInt ≤ p2.toInt then 1 else 0) : Int)) := by
  refine Con.o (L := #[vR a1, vI p2, vU, vU, vU]) n0 d81 pf_51 (by simp [argsToLocals, Value.category]) ?_
  intro p e s m _ _ c T0 X0 hx hby hml hZ hown hnm hret hlk e0 N0 D
  have lt_1 := own_ltF Fl
  have lt_2 := own_ltA Al
  let j_493 := (mkF m 3 #[vR a1, vI p2, vI 0, vU, vU] [(.ref a1)])
  refine Go.s T0 j_493 (fun _ hr => yc X0 hx (D 0 rfl) (yl X0 hx (D 1 rfl) rfl (yb X0 hx (D 2 rfl) rfl rfl hr))) ?_
  obtain ⟨T_3, X_3, e_3, st_3⟩ := getF X0 hx hZ hown (host := "") (Or.inl (hq hw 211 rfl)) Via.refl e0 Fl (g := j_493) rfl rfl (D 3 rfl)
  let j_494 := (mkF m 6 #[vR a1, vI p2, vI 0, vU, vU] [(.ref la)])
  refine Go.s T_3 j_494 st_3 ?_
  refine Go.s T_3 (mkF m 8 #[vR a1, vI p2, vI 0, vU, vU] [(.int 1), (.int 3)]) (fun _ hr => (own_len X_3 hx hZ e_3 Al (g := j_494) rfl rfl (D 4 rfl)) _ (yc X_3 hx (D 5 rfl) hr)) ?_
  refine Go.s T_3 (mkF m 17 #[vR a1, vI p2, vI 0, vI 2, vU] [(.int 2), (.int 0)]) (fun _ hr => y2 X_3 hx (D 6 rfl) (yl X_3 hx (D 7 rfl) rfl (yj X_3 hx (D 8 rfl) rfl (yj X_3 hx (D 9 rfl) rfl (yN X_3 hx (D 10 rfl) (XT.ii_ge_f (by decide)) (yj X_3 hx (D 11 rfl) rfl (yj X_3 hx (D 12 rfl) rfl hr))))))) ?_
  refine Go.s T_3 (mkF m 19 #[vR a1, vI p2, vI 0, vI 2, vU] [(.int 1), (.int 2)]) (fun _ hr => y1 X_3 hx (D 13 rfl) (yc X_3 hx (D 14 rfl) hr)) ?_
  refine Go.s T_3 (mkF m 21 #[vR a1, vI p2, vI 0, vI 2, vU] [(.int 1), (.int 3)]) (fun _ hr => y1 X_3 hx (D 15 rfl) (yc X_3 hx (D 16 rfl) hr)) ?_
  let j_495 := (mkF m 25 #[vR a1, vI p2, vI 0, vI 2, vI 1] [(.ref a1)])
  refine Go.s T_3 j_495 (fun _ hr => y7 X_3 hx (D 17 rfl) (yk X_3 hx (D 18 rfl) rfl (yb X_3 hx (D 19 rfl) rfl rfl hr))) ?_
  obtain ⟨T_4, X_4, e_4, st_4⟩ := getF X_3 hx hZ hown (host := "") (Or.inl (hq hw 211 rfl)) Via.refl e_3 Fl (g := j_495) rfl rfl (D 20 rfl)
  let j_496 := (mkF m 30 #[vR a1, vI p2, vI 0, vI 2, vI 1] [(.int 1), (.ref la)])
  refine Go.s T_4 j_496 (fun _ hr => st_4 _ (yi X_4 hx (D 21 rfl) rfl hr)) ?_
  refine Go.s T_4 (mkF m 32 #[vR a1, vI p2, vI 0, vI 2, vI 1] [(.int p2), (.int s1)]) (fun _ hr => (own_ldI X_4 hx hZ e_4 Al (j := 1) (v := (.int s1)) (by decide) (by simp +decide) rfl (g := j_496) rfl rfl (D 22 rfl)) _ (yj X_4 hx (D 23 rfl) rfl hr)) ?_
  by_cases hc5 : p2 < s1
  · refine Go.s T_4 (mkF m 44 #[vR a1, vI p2, vI 0, vI 2, vI 1] [(.int 1), (.int 1)]) (fun _ hr => yY X_4 hx (D 24 rfl) (pc' := 41) (XT.ii_gt_t hc5) rfl (yi X_4 hx (D 28 rfl) rfl (yc X_4 hx (D 29 rfl) hr))) ?_
    refine Go.s T_4 (mkF m 51 #[vR a1, vI p2, vI 0, vI 0, vI 1] [(.int 1), (.int 0)]) (fun _ hr => y2 X_4 hx (D 30 rfl) (yl X_4 hx (D 31 rfl) rfl (yg X_4 hx (D 32 rfl) (pc' := 10) rfl (yj X_4 hx (D 8 rfl) rfl (yj X_4 hx (D 9 rfl) rfl (yY X_4 hx (D 10 rfl) (pc' := 49) (XT.ii_ge_t (by decide)) rfl (yj X_4 hx (D 33 rfl) rfl (yc X_4 hx (D 34 rfl) hr)))))))) ?_
    refine Go.s T_4 (mkF m 52 #[vR a1, vI p2, vI 0, vI 0, vI 1] [(.int 1)]) (fun _ hr => y1 X_4 hx (D 35 rfl) hr) ?_
    refine Go.retI X_4 hx hlk hret (D 36 rfl) (by decide) (by decide) ?_
    try rw [e_4]
    simp only [Int32.lt_iff_toInt_lt] at hc5
    refine ⟨(1 : Int32), rfl, N0, rfl, ?_⟩
    show (1 : Int) = _
    rw [if_neg (by omega), if_neg (by omega)]
    try rfl
  refine Go.s T_4 (mkF m 17 #[vR a1, vI p2, vI 1, vI 2, vI 1] [(.int 2), (.int 1)]) (fun _ hr => yN X_4 hx (D 24 rfl) (XT.ii_gt_f hc5) (yi X_4 hx (D 25 rfl) rfl (yl X_4 hx (D 26 rfl) rfl (yg X_4 hx (D 27 rfl) (pc' := 46) rfl (yg X_4 hx (D 32 rfl) (pc' := 10) rfl (yj X_4 hx (D 8 rfl) rfl (yj X_4 hx (D 9 rfl) rfl (yN X_4 hx (D 10 rfl) (XT.ii_ge_f (by decide)) (yj X_4 hx (D 11 rfl) rfl (yj X_4 hx (D 12 rfl) rfl hr)))))))))) ?_
  refine Go.s T_4 (mkF m 19 #[vR a1, vI p2, vI 1, vI 2, vI 1] [(.int 1), (.int 3)]) (fun _ hr => y1 X_4 hx (D 13 rfl) (yc X_4 hx (D 14 rfl) hr)) ?_
  refine Go.s T_4 (mkF m 21 #[vR a1, vI p2, vI 1, vI 2, vI 1] [(.int 1), (.int 4)]) (fun _ hr => y1 X_4 hx (D 15 rfl) (yc X_4 hx (D 16 rfl) hr)) ?_
  let j_497 := (mkF m 25 #[vR a1, vI p2, vI 1, vI 2, vI 2] [(.ref a1)])
  refine Go.s T_4 j_497 (fun _ hr => y7 X_4 hx (D 17 rfl) (yk X_4 hx (D 18 rfl) rfl (yb X_4 hx (D 19 rfl) rfl rfl hr))) ?_
  obtain ⟨T_6, X_6, e_6, st_6⟩ := getF X_4 hx hZ hown (host := "") (Or.inl (hq hw 211 rfl)) Via.refl e_4 Fl (g := j_497) rfl rfl (D 20 rfl)
  let j_498 := (mkF m 30 #[vR a1, vI p2, vI 1, vI 2, vI 2] [(.int 2), (.ref la)])
  refine Go.s T_6 j_498 (fun _ hr => st_6 _ (yi X_6 hx (D 21 rfl) rfl hr)) ?_
  refine Go.s T_6 (mkF m 32 #[vR a1, vI p2, vI 1, vI 2, vI 2] [(.int p2), (.int s2)]) (fun _ hr => (own_ldI X_6 hx hZ e_6 Al (j := 2) (v := (.int s2)) (by decide) (by simp +decide) rfl (g := j_498) rfl rfl (D 22 rfl)) _ (yj X_6 hx (D 23 rfl) rfl hr)) ?_
  by_cases hc7 : p2 < s2
  · refine Go.s T_6 (mkF m 44 #[vR a1, vI p2, vI 1, vI 2, vI 2] [(.int 1), (.int 2)]) (fun _ hr => yY X_6 hx (D 24 rfl) (pc' := 41) (XT.ii_gt_t hc7) rfl (yi X_6 hx (D 28 rfl) rfl (yc X_6 hx (D 29 rfl) hr))) ?_
    refine Go.s T_6 (mkF m 51 #[vR a1, vI p2, vI 1, vI 1, vI 2] [(.int 1), (.int 1)]) (fun _ hr => y2 X_6 hx (D 30 rfl) (yl X_6 hx (D 31 rfl) rfl (yg X_6 hx (D 32 rfl) (pc' := 10) rfl (yj X_6 hx (D 8 rfl) rfl (yj X_6 hx (D 9 rfl) rfl (yY X_6 hx (D 10 rfl) (pc' := 49) (XT.ii_ge_t (by decide)) rfl (yj X_6 hx (D 33 rfl) rfl (yc X_6 hx (D 34 rfl) hr)))))))) ?_
    refine Go.s T_6 (mkF m 52 #[vR a1, vI p2, vI 1, vI 1, vI 2] [(.int 2)]) (fun _ hr => y1 X_6 hx (D 35 rfl) hr) ?_
    refine Go.retI X_6 hx hlk hret (D 36 rfl) (by decide) (by decide) ?_
    try rw [e_6]
    simp only [Int32.lt_iff_toInt_lt] at hc5 hc7
    refine ⟨(2 : Int32), rfl, N0, rfl, ?_⟩
    show (2 : Int) = _
    rw [if_pos (by omega), if_neg (by omega)]
    try rfl
  refine Go.s T_6 (mkF m 51 #[vR a1, vI p2, vI 2, vI 2, vI 2] [(.int 1), (.int 2)]) (fun _ hr => yN X_6 hx (D 24 rfl) (XT.ii_gt_f hc7) (yi X_6 hx (D 25 rfl) rfl (yl X_6 hx (D 26 rfl) rfl (yg X_6 hx (D 27 rfl) (pc' := 46) rfl (yg X_6 hx (D 32 rfl) (pc' := 10) rfl (yj X_6 hx (D 8 rfl) rfl (yj X_6 hx (D 9 rfl) rfl (yY X_6 hx (D 10 rfl) (pc' := 49) (XT.ii_ge_t (by decide)) rfl (yj X_6 hx (D 33 rfl) rfl (yc X_6 hx (D 34 rfl) hr)))))))))) ?_
  refine Go.s T_6 (mkF m 52 #[vR a1, vI p2, vI 2, vI 2, vI 2] [(.int 3)]) (fun _ hr => y1 X_6 hx (D 35 rfl) hr) ?_
  refine Go.retI X_6 hx hlk hret (D 36 rfl) (by decide) (by decide) ?_
  try rw [e_6]
  simp only [Int32.lt_iff_toInt_lt] at hc5 hc7
  refine ⟨(3 : Int32), rfl, N0, rfl, ?_⟩
  show (3 : Int) = _
  rw [if_pos (by omega), if_pos (by omega)]
  try rfl
theorem rmLine4 (hw : own_W a0 Z) (a1 : Nat) (p2 : Int32) (h0 : Heap) (n0 : Nat) (Z0 : n0 ≤ h0.size) (la : Nat) (Fl : fX Z h0 a1 (.ref la)) (s0 s1 s2 s3 : Int32) (Al : Ary Z h0 la .int [(.int s0), (.int s1), (.int s2), (.int s3)]) (o0 : s0.toInt < s1.toInt)  (o1 : s1.toInt < s2.toInt)  (o2 : s2.toInt < s3.toInt) :
    Con l Z ⟨cX, "line", "(I)I"⟩ prog_195_method_6_code 5 (some .int) ⟨0, 0, 0, 0⟩ #[(.ref a1), (.int p2)] h0 (fun v h L => ∃ r : Int32, v = some (.int r) ∧ Fr n0 L ∧ h = h0 ∧ r.toInt = 1 + ((if s1.toInt ≤ p2.toInt then 1 else 0) + (if s2.toInt ≤ p2.toInt then 1 else 0) + (if s3.toInt ≤ p2.toInt then 1 else 0) : Int)) := by
  refine Con.o (L := #[vR a1, vI p2, vU, vU, vU]) n0 d81 pf_51 (by simp [argsToLocals, Value.category]) ?_
  intro p e s m _ _ c T0 X0 hx hby hml hZ hown hnm hret hlk e0 N0 D
  have lt_1 := own_ltF Fl
  have lt_2 := own_ltA Al
  let j_499 := (mkF m 3 #[vR a1, vI p2, vI 0, vU, vU] [(.ref a1)])
  refine Go.s T0 j_499 (fun _ hr => yc X0 hx (D 0 rfl) (yl X0 hx (D 1 rfl) rfl (yb X0 hx (D 2 rfl) rfl rfl hr))) ?_
  obtain ⟨T_3, X_3, e_3, st_3⟩ := getF X0 hx hZ hown (host := "") (Or.inl (hq hw 211 rfl)) Via.refl e0 Fl (g := j_499) rfl rfl (D 3 rfl)
  let j_500 := (mkF m 6 #[vR a1, vI p2, vI 0, vU, vU] [(.ref la)])
  refine Go.s T_3 j_500 st_3 ?_
  refine Go.s T_3 (mkF m 8 #[vR a1, vI p2, vI 0, vU, vU] [(.int 1), (.int 4)]) (fun _ hr => (own_len X_3 hx hZ e_3 Al (g := j_500) rfl rfl (D 4 rfl)) _ (yc X_3 hx (D 5 rfl) hr)) ?_
  refine Go.s T_3 (mkF m 17 #[vR a1, vI p2, vI 0, vI 3, vU] [(.int 3), (.int 0)]) (fun _ hr => y2 X_3 hx (D 6 rfl) (yl X_3 hx (D 7 rfl) rfl (yj X_3 hx (D 8 rfl) rfl (yj X_3 hx (D 9 rfl) rfl (yN X_3 hx (D 10 rfl) (XT.ii_ge_f (by decide)) (yj X_3 hx (D 11 rfl) rfl (yj X_3 hx (D 12 rfl) rfl hr))))))) ?_
  refine Go.s T_3 (mkF m 19 #[vR a1, vI p2, vI 0, vI 3, vU] [(.int 1), (.int 3)]) (fun _ hr => y1 X_3 hx (D 13 rfl) (yc X_3 hx (D 14 rfl) hr)) ?_
  refine Go.s T_3 (mkF m 21 #[vR a1, vI p2, vI 0, vI 3, vU] [(.int 1), (.int 4)]) (fun _ hr => y1 X_3 hx (D 15 rfl) (yc X_3 hx (D 16 rfl) hr)) ?_
  let j_501 := (mkF m 25 #[vR a1, vI p2, vI 0, vI 3, vI 2] [(.ref a1)])
  refine Go.s T_3 j_501 (fun _ hr => y7 X_3 hx (D 17 rfl) (yk X_3 hx (D 18 rfl) rfl (yb X_3 hx (D 19 rfl) rfl rfl hr))) ?_
  obtain ⟨T_4, X_4, e_4, st_4⟩ := getF X_3 hx hZ hown (host := "") (Or.inl (hq hw 211 rfl)) Via.refl e_3 Fl (g := j_501) rfl rfl (D 20 rfl)
  let j_502 := (mkF m 30 #[vR a1, vI p2, vI 0, vI 3, vI 2] [(.int 2), (.ref la)])
  refine Go.s T_4 j_502 (fun _ hr => st_4 _ (yi X_4 hx (D 21 rfl) rfl hr)) ?_
  refine Go.s T_4 (mkF m 32 #[vR a1, vI p2, vI 0, vI 3, vI 2] [(.int p2), (.int s2)]) (fun _ hr => (own_ldI X_4 hx hZ e_4 Al (j := 2) (v := (.int s2)) (by decide) (by simp +decide) rfl (g := j_502) rfl rfl (D 22 rfl)) _ (yj X_4 hx (D 23 rfl) rfl hr)) ?_
  by_cases hc5 : p2 < s2
  · refine Go.s T_4 (mkF m 44 #[vR a1, vI p2, vI 0, vI 3, vI 2] [(.int 1), (.int 2)]) (fun _ hr => yY X_4 hx (D 24 rfl) (pc' := 41) (XT.ii_gt_t hc5) rfl (yi X_4 hx (D 28 rfl) rfl (yc X_4 hx (D 29 rfl) hr))) ?_
    refine Go.s T_4 (mkF m 17 #[vR a1, vI p2, vI 0, vI 1, vI 2] [(.int 1), (.int 0)]) (fun _ hr => y2 X_4 hx (D 30 rfl) (yl X_4 hx (D 31 rfl) rfl (yg X_4 hx (D 32 rfl) (pc' := 10) rfl (yj X_4 hx (D 8 rfl) rfl (yj X_4 hx (D 9 rfl) rfl (yN X_4 hx (D 10 rfl) (XT.ii_ge_f (by decide)) (yj X_4 hx (D 11 rfl) rfl (yj X_4 hx (D 12 rfl) rfl hr)))))))) ?_
    refine Go.s T_4 (mkF m 19 #[vR a1, vI p2, vI 0, vI 1, vI 2] [(.int 1), (.int 1)]) (fun _ hr => y1 X_4 hx (D 13 rfl) (yc X_4 hx (D 14 rfl) hr)) ?_
    refine Go.s T_4 (mkF m 21 #[vR a1, vI p2, vI 0, vI 1, vI 2] [(.int 1), (.int 2)]) (fun _ hr => y1 X_4 hx (D 15 rfl) (yc X_4 hx (D 16 rfl) hr)) ?_
    let j_503 := (mkF m 25 #[vR a1, vI p2, vI 0, vI 1, vI 1] [(.ref a1)])
    refine Go.s T_4 j_503 (fun _ hr => y7 X_4 hx (D 17 rfl) (yk X_4 hx (D 18 rfl) rfl (yb X_4 hx (D 19 rfl) rfl rfl hr))) ?_
    obtain ⟨T_6, X_6, e_6, st_6⟩ := getF X_4 hx hZ hown (host := "") (Or.inl (hq hw 211 rfl)) Via.refl e_4 Fl (g := j_503) rfl rfl (D 20 rfl)
    let j_504 := (mkF m 30 #[vR a1, vI p2, vI 0, vI 1, vI 1] [(.int 1), (.ref la)])
    refine Go.s T_6 j_504 (fun _ hr => st_6 _ (yi X_6 hx (D 21 rfl) rfl hr)) ?_
    refine Go.s T_6 (mkF m 32 #[vR a1, vI p2, vI 0, vI 1, vI 1] [(.int p2), (.int s1)]) (fun _ hr => (own_ldI X_6 hx hZ e_6 Al (j := 1) (v := (.int s1)) (by decide) (by simp +decide) rfl (g := j_504) rfl rfl (D 22 rfl)) _ (yj X_6 hx (D 23 rfl) rfl hr)) ?_
    by_cases hc7 : p2 < s1
    · refine Go.s T_6 (mkF m 44 #[vR a1, vI p2, vI 0, vI 1, vI 1] [(.int 1), (.int 1)]) (fun _ hr => yY X_6 hx (D 24 rfl) (pc' := 41) (XT.ii_gt_t hc7) rfl (yi X_6 hx (D 28 rfl) rfl (yc X_6 hx (D 29 rfl) hr))) ?_
      refine Go.s T_6 (mkF m 51 #[vR a1, vI p2, vI 0, vI 0, vI 1] [(.int 1), (.int 0)]) (fun _ hr => y2 X_6 hx (D 30 rfl) (yl X_6 hx (D 31 rfl) rfl (yg X_6 hx (D 32 rfl) (pc' := 10) rfl (yj X_6 hx (D 8 rfl) rfl (yj X_6 hx (D 9 rfl) rfl (yY X_6 hx (D 10 rfl) (pc' := 49) (XT.ii_ge_t (by decide)) rfl (yj X_6 hx (D 33 rfl) rfl (yc X_6 hx (D 34 rfl) hr)))))))) ?_
      refine Go.s T_6 (mkF m 52 #[vR a1, vI p2, vI 0, vI 0, vI 1] [(.int 1)]) (fun _ hr => y1 X_6 hx (D 35 rfl) hr) ?_
      refine Go.retI X_6 hx hlk hret (D 36 rfl) (by decide) (by decide) ?_
      try rw [e_6]
      simp only [Int32.lt_iff_toInt_lt] at hc5 hc7
      refine ⟨(1 : Int32), rfl, N0, rfl, ?_⟩
      show (1 : Int) = _
      rw [if_neg (by omega), if_neg (by omega), if_neg (by omega)]
      try rfl
    refine Go.s T_6 (mkF m 51 #[vR a1, vI p2, vI 1, vI 1, vI 1] [(.int 1), (.int 1)]) (fun _ hr => yN X_6 hx (D 24 rfl) (XT.ii_gt_f hc7) (yi X_6 hx (D 25 rfl) rfl (yl X_6 hx (D 26 rfl) rfl (yg X_6 hx (D 27 rfl) (pc' := 46) rfl (yg X_6 hx (D 32 rfl) (pc' := 10) rfl (yj X_6 hx (D 8 rfl) rfl (yj X_6 hx (D 9 rfl) rfl (yY X_6 hx (D 10 rfl) (pc' := 49) (XT.ii_ge_t (by decide)) rfl (yj X_6 hx (D 33 rfl) rfl (yc X_6 hx (D 34 rfl) hr)))))))))) ?_
    refine Go.s T_6 (mkF m 52 #[vR a1, vI p2, vI 1, vI 1, vI 1] [(.int 2)]) (fun _ hr => y1 X_6 hx (D 35 rfl) hr) ?_
    refine Go.retI X_6 hx hlk hret (D 36 rfl) (by decide) (by decide) ?_
    try rw [e_6]
    simp only [Int32.lt_iff_toInt_lt] at hc5 hc7
    refine ⟨(2 : Int32), rfl, N0, rfl, ?_⟩
    show (2 : Int) = _
    rw [if_pos (by omega), if_neg (by omega), if_neg (by omega)]
    try rfl
  refine Go.s T_4 (mkF m 17 #[vR a1, vI p2, vI 2, vI 3, vI 2] [(.int 3), (.int 2)]) (fun _ hr => yN X_4 hx (D 24 rfl) (XT.ii_gt_f hc5) (yi X_4 hx (D 25 rfl) rfl (yl X_4 hx (D 26 rfl) rfl (yg X_4 hx (D 27 rfl) (pc' := 46) rfl (yg X_4 hx (D 32 rfl) (pc' := 10) rfl (yj X_4 hx (D 8 rfl) rfl (yj X_4 hx (D 9 rfl) rfl (yN X_4 hx (D 10 rfl) (XT.ii_ge_f (by decide)) (yj X_4 hx (D 11 rfl) rfl (yj X_4 hx (D 12 rfl) rfl hr)))))))))) ?_
  refine Go.s T_4 (mkF m 19 #[vR a1, vI p2, vI 2, vI 3, vI 2] [(.int 1), (.int 5)]) (fun _ hr => y1 X_4 hx (D 13 rfl) (yc X_4 hx (D 14 rfl) hr)) ?_
  refine Go.s T_4 (mkF m 21 #[vR a1, vI p2, vI 2, vI 3, vI 2] [(.int 1), (.int 6)]) (fun _ hr => y1 X_4 hx (D 15 rfl) (yc X_4 hx (D 16 rfl) hr)) ?_
  let j_505 := (mkF m 25 #[vR a1, vI p2, vI 2, vI 3, vI 3] [(.ref a1)])
  refine Go.s T_4 j_505 (fun _ hr => y7 X_4 hx (D 17 rfl) (yk X_4 hx (D 18 rfl) rfl (yb X_4 hx (D 19 rfl) rfl rfl hr))) ?_
  obtain ⟨T_8, X_8, e_8, st_8⟩ := getF X_4 hx hZ hown (host := "") (Or.inl (hq hw 211 rfl)) Via.refl e_4 Fl (g := j_505) rfl rfl (D 20 rfl)
  let j_506 := (mkF m 30 #[vR a1, vI p2, vI 2, vI 3, vI 3] [(.int 3), (.ref la)])
  refine Go.s T_8 j_506 (fun _ hr => st_8 _ (yi X_8 hx (D 21 rfl) rfl hr)) ?_
  refine Go.s T_8 (mkF m 32 #[vR a1, vI p2, vI 2, vI 3, vI 3] [(.int p2), (.int s3)]) (fun _ hr => (own_ldI X_8 hx hZ e_8 Al (j := 3) (v := (.int s3)) (by decide) (by simp +decide) rfl (g := j_506) rfl rfl (D 22 rfl)) _ (yj X_8 hx (D 23 rfl) rfl hr)) ?_
  by_cases hc9 : p2 < s3
  · refine Go.s T_8 (mkF m 44 #[vR a1, vI p2, vI 2, vI 3, vI 3] [(.int 1), (.int 3)]) (fun _ hr => yY X_8 hx (D 24 rfl) (pc' := 41) (XT.ii_gt_t hc9) rfl (yi X_8 hx (D 28 rfl) rfl (yc X_8 hx (D 29 rfl) hr))) ?_
    refine Go.s T_8 (mkF m 51 #[vR a1, vI p2, vI 2, vI 2, vI 3] [(.int 1), (.int 2)]) (fun _ hr => y2 X_8 hx (D 30 rfl) (yl X_8 hx (D 31 rfl) rfl (yg X_8 hx (D 32 rfl) (pc' := 10) rfl (yj X_8 hx (D 8 rfl) rfl (yj X_8 hx (D 9 rfl) rfl (yY X_8 hx (D 10 rfl) (pc' := 49) (XT.ii_ge_t (by decide)) rfl (yj X_8 hx (D 33 rfl) rfl (yc X_8 hx (D 34 rfl) hr)))))))) ?_
    refine Go.s T_8 (mkF m 52 #[vR a1, vI p2, vI 2, vI 2, vI 3] [(.int 3)]) (fun _ hr => y1 X_8 hx (D 35 rfl) hr) ?_
    refine Go.retI X_8 hx hlk hret (D 36 rfl) (by decide) (by decide) ?_
    try rw [e_8]
    simp only [Int32.lt_iff_toInt_lt] at hc5 hc9
    refine ⟨(3 : Int32), rfl, N0, rfl, ?_⟩
    show (3 : Int) = _
    rw [if_pos (by omega), if_pos (by omega), if_neg (by omega)]
    try rfl
  refine Go.s T_8 (mkF m 51 #[vR a1, vI p2, vI 3, vI 3, vI 3] [(.int 1), (.int 3)]) (fun _ hr => yN X_8 hx (D 24 rfl) (XT.ii_gt_f hc9) (yi X_8 hx (D 25 rfl) rfl (yl X_8 hx (D 26 rfl) rfl (yg X_8 hx (D 27 rfl) (pc' := 46) rfl (yg X_8 hx (D 32 rfl) (pc' := 10) rfl (yj X_8 hx (D 8 rfl) rfl (yj X_8 hx (D 9 rfl) rfl (yY X_8 hx (D 10 rfl) (pc' := 49) (XT.ii_ge_t (by decide)) rfl (yj X_8 hx (D 33 rfl) rfl (yc X_8 hx (D 34 rfl) hr)))))))))) ?_
  refine Go.s T_8 (mkF m 52 #[vR a1, vI p2, vI 3, vI 3, vI 3] [(.int 4)]) (fun _ hr => y1 X_8 hx (D 35 rfl) hr) ?_
  refine Go.retI X_8 hx hlk hret (D 36 rfl) (by decide) (by decide) ?_
  try rw [e_8]
  simp only [Int32.lt_iff_toInt_lt] at hc5 hc9
  refine ⟨(4 : Int32), rfl, N0, rfl, ?_⟩
  show (4 : Int) = _
  rw [if_pos (by omega), if_pos (by omega), if_pos (by omega)]
  try rfl
theorem rmLine5 (hw : own_W a0 Z) (a1 : Nat) (p2 : Int32) (h0 : Heap) (n0 : Nat) (Z0 : n0 ≤ h0.size) (la : Nat) (Fl : fX Z h0 a1 (.ref la)) (s0 s1 s2 s3 s4 : Int32) (Al : Ary Z h0 la .int [(.int s0), (.int s1), (.int s2), (.int s3), (.int s4)]) (o0 : s0.toInt < s1.toInt)  (o1 : s1.toInt < s2.toInt)  (o2 : s2.toInt < s3.toInt)  (o3 : s3.toInt < s4.toInt) :
    Con l Z ⟨cX, "line", "(I)I"⟩ prog_195_method_6_code 5 (some .int) ⟨0, 0, 0, 0⟩ #[(.ref a1), (.int p2)] h0 (fun v h L => ∃ r : Int32, v = some (.int r) ∧ Fr n0 L ∧ h = h0 ∧ r.toInt = 1 + ((if s1.toInt ≤ p2.toInt then 1 else 0) + (if s2.toInt ≤ p2.toInt then 1 else 0) + (if s3.toInt ≤ p2.toInt then 1 else 0) + (if s4.toInt ≤ p2.toInt then 1 else 0) : Int)) := by
  refine Con.o (L := #[vR a1, vI p2, vU, vU, vU]) n0 d81 pf_51 (by simp [argsToLocals, Value.category]) ?_
  intro p e s m _ _ c T0 X0 hx hby hml hZ hown hnm hret hlk e0 N0 D
  have lt_1 := own_ltF Fl
  have lt_2 := own_ltA Al
  let j_507 := (mkF m 3 #[vR a1, vI p2, vI 0, vU, vU] [(.ref a1)])
  refine Go.s T0 j_507 (fun _ hr => yc X0 hx (D 0 rfl) (yl X0 hx (D 1 rfl) rfl (yb X0 hx (D 2 rfl) rfl rfl hr))) ?_
  obtain ⟨T_3, X_3, e_3, st_3⟩ := getF X0 hx hZ hown (host := "") (Or.inl (hq hw 211 rfl)) Via.refl e0 Fl (g := j_507) rfl rfl (D 3 rfl)
  let j_508 := (mkF m 6 #[vR a1, vI p2, vI 0, vU, vU] [(.ref la)])
  refine Go.s T_3 j_508 st_3 ?_
  refine Go.s T_3 (mkF m 8 #[vR a1, vI p2, vI 0, vU, vU] [(.int 1), (.int 5)]) (fun _ hr => (own_len X_3 hx hZ e_3 Al (g := j_508) rfl rfl (D 4 rfl)) _ (yc X_3 hx (D 5 rfl) hr)) ?_
  refine Go.s T_3 (mkF m 17 #[vR a1, vI p2, vI 0, vI 4, vU] [(.int 4), (.int 0)]) (fun _ hr => y2 X_3 hx (D 6 rfl) (yl X_3 hx (D 7 rfl) rfl (yj X_3 hx (D 8 rfl) rfl (yj X_3 hx (D 9 rfl) rfl (yN X_3 hx (D 10 rfl) (XT.ii_ge_f (by decide)) (yj X_3 hx (D 11 rfl) rfl (yj X_3 hx (D 12 rfl) rfl hr))))))) ?_
  refine Go.s T_3 (mkF m 19 #[vR a1, vI p2, vI 0, vI 4, vU] [(.int 1), (.int 4)]) (fun _ hr => y1 X_3 hx (D 13 rfl) (yc X_3 hx (D 14 rfl) hr)) ?_
  refine Go.s T_3 (mkF m 21 #[vR a1, vI p2, vI 0, vI 4, vU] [(.int 1), (.int 5)]) (fun _ hr => y1 X_3 hx (D 15 rfl) (yc X_3 hx (D 16 rfl) hr)) ?_
  let j_509 := (mkF m 25 #[vR a1, vI p2, vI 0, vI 4, vI 2] [(.ref a1)])
  refine Go.s T_3 j_509 (fun _ hr => y7 X_3 hx (D 17 rfl) (yk X_3 hx (D 18 rfl) rfl (yb X_3 hx (D 19 rfl) rfl rfl hr))) ?_
  obtain ⟨T_4, X_4, e_4, st_4⟩ := getF X_3 hx hZ hown (host := "") (Or.inl (hq hw 211 rfl)) Via.refl e_3 Fl (g := j_509) rfl rfl (D 20 rfl)
  let j_510 := (mkF m 30 #[vR a1, vI p2, vI 0, vI 4, vI 2] [(.int 2), (.ref la)])
  refine Go.s T_4 j_510 (fun _ hr => st_4 _ (yi X_4 hx (D 21 rfl) rfl hr)) ?_
  refine Go.s T_4 (mkF m 32 #[vR a1, vI p2, vI 0, vI 4, vI 2] [(.int p2), (.int s2)]) (fun _ hr => (own_ldI X_4 hx hZ e_4 Al (j := 2) (v := (.int s2)) (by decide) (by simp +decide) rfl (g := j_510) rfl rfl (D 22 rfl)) _ (yj X_4 hx (D 23 rfl) rfl hr)) ?_
  by_cases hc5 : p2 < s2
  · refine Go.s T_4 (mkF m 44 #[vR a1, vI p2, vI 0, vI 4, vI 2] [(.int 1), (.int 2)]) (fun _ hr => yY X_4 hx (D 24 rfl) (pc' := 41) (XT.ii_gt_t hc5) rfl (yi X_4 hx (D 28 rfl) rfl (yc X_4 hx (D 29 rfl) hr))) ?_
    refine Go.s T_4 (mkF m 17 #[vR a1, vI p2, vI 0, vI 1, vI 2] [(.int 1), (.int 0)]) (fun _ hr => y2 X_4 hx (D 30 rfl) (yl X_4 hx (D 31 rfl) rfl (yg X_4 hx (D 32 rfl) (pc' := 10) rfl (yj X_4 hx (D 8 rfl) rfl (yj X_4 hx (D 9 rfl) rfl (yN X_4 hx (D 10 rfl) (XT.ii_ge_f (by decide)) (yj X_4 hx (D 11 rfl) rfl (yj X_4 hx (D 12 rfl) rfl hr)))))))) ?_
    refine Go.s T_4 (mkF m 19 #[vR a1, vI p2, vI 0, vI 1, vI 2] [(.int 1), (.int 1)]) (fun _ hr => y1 X_4 hx (D 13 rfl) (yc X_4 hx (D 14 rfl) hr)) ?_
    refine Go.s T_4 (mkF m 21 #[vR a1, vI p2, vI 0, vI 1, vI 2] [(.int 1), (.int 2)]) (fun _ hr => y1 X_4 hx (D 15 rfl) (yc X_4 hx (D 16 rfl) hr)) ?_
    let j_511 := (mkF m 25 #[vR a1, vI p2, vI 0, vI 1, vI 1] [(.ref a1)])
    refine Go.s T_4 j_511 (fun _ hr => y7 X_4 hx (D 17 rfl) (yk X_4 hx (D 18 rfl) rfl (yb X_4 hx (D 19 rfl) rfl rfl hr))) ?_
    obtain ⟨T_6, X_6, e_6, st_6⟩ := getF X_4 hx hZ hown (host := "") (Or.inl (hq hw 211 rfl)) Via.refl e_4 Fl (g := j_511) rfl rfl (D 20 rfl)
    let j_512 := (mkF m 30 #[vR a1, vI p2, vI 0, vI 1, vI 1] [(.int 1), (.ref la)])
    refine Go.s T_6 j_512 (fun _ hr => st_6 _ (yi X_6 hx (D 21 rfl) rfl hr)) ?_
    refine Go.s T_6 (mkF m 32 #[vR a1, vI p2, vI 0, vI 1, vI 1] [(.int p2), (.int s1)]) (fun _ hr => (own_ldI X_6 hx hZ e_6 Al (j := 1) (v := (.int s1)) (by decide) (by simp +decide) rfl (g := j_512) rfl rfl (D 22 rfl)) _ (yj X_6 hx (D 23 rfl) rfl hr)) ?_
    by_cases hc7 : p2 < s1
    · refine Go.s T_6 (mkF m 44 #[vR a1, vI p2, vI 0, vI 1, vI 1] [(.int 1), (.int 1)]) (fun _ hr => yY X_6 hx (D 24 rfl) (pc' := 41) (XT.ii_gt_t hc7) rfl (yi X_6 hx (D 28 rfl) rfl (yc X_6 hx (D 29 rfl) hr))) ?_
      refine Go.s T_6 (mkF m 51 #[vR a1, vI p2, vI 0, vI 0, vI 1] [(.int 1), (.int 0)]) (fun _ hr => y2 X_6 hx (D 30 rfl) (yl X_6 hx (D 31 rfl) rfl (yg X_6 hx (D 32 rfl) (pc' := 10) rfl (yj X_6 hx (D 8 rfl) rfl (yj X_6 hx (D 9 rfl) rfl (yY X_6 hx (D 10 rfl) (pc' := 49) (XT.ii_ge_t (by decide)) rfl (yj X_6 hx (D 33 rfl) rfl (yc X_6 hx (D 34 rfl) hr)))))))) ?_
      refine Go.s T_6 (mkF m 52 #[vR a1, vI p2, vI 0, vI 0, vI 1] [(.int 1)]) (fun _ hr => y1 X_6 hx (D 35 rfl) hr) ?_
      refine Go.retI X_6 hx hlk hret (D 36 rfl) (by decide) (by decide) ?_
      try rw [e_6]
      simp only [Int32.lt_iff_toInt_lt] at hc5 hc7
      refine ⟨(1 : Int32), rfl, N0, rfl, ?_⟩
      show (1 : Int) = _
      rw [if_neg (by omega), if_neg (by omega), if_neg (by omega), if_neg (by omega)]
      try rfl
    refine Go.s T_6 (mkF m 51 #[vR a1, vI p2, vI 1, vI 1, vI 1] [(.int 1), (.int 1)]) (fun _ hr => yN X_6 hx (D 24 rfl) (XT.ii_gt_f hc7) (yi X_6 hx (D 25 rfl) rfl (yl X_6 hx (D 26 rfl) rfl (yg X_6 hx (D 27 rfl) (pc' := 46) rfl (yg X_6 hx (D 32 rfl) (pc' := 10) rfl (yj X_6 hx (D 8 rfl) rfl (yj X_6 hx (D 9 rfl) rfl (yY X_6 hx (D 10 rfl) (pc' := 49) (XT.ii_ge_t (by decide)) rfl (yj X_6 hx (D 33 rfl) rfl (yc X_6 hx (D 34 rfl) hr)))))))))) ?_
    refine Go.s T_6 (mkF m 52 #[vR a1, vI p2, vI 1, vI 1, vI 1] [(.int 2)]) (fun _ hr => y1 X_6 hx (D 35 rfl) hr) ?_
    refine Go.retI X_6 hx hlk hret (D 36 rfl) (by decide) (by decide) ?_
    try rw [e_6]
    simp only [Int32.lt_iff_toInt_lt] at hc5 hc7
    refine ⟨(2 : Int32), rfl, N0, rfl, ?_⟩
    show (2 : Int) = _
    rw [if_pos (by omega), if_neg (by omega), if_neg (by omega), if_neg (by omega)]
    try rfl
  refine Go.s T_4 (mkF m 17 #[vR a1, vI p2, vI 2, vI 4, vI 2] [(.int 4), (.int 2)]) (fun _ hr => yN X_4 hx (D 24 rfl) (XT.ii_gt_f hc5) (yi X_4 hx (D 25 rfl) rfl (yl X_4 hx (D 26 rfl) rfl (yg X_4 hx (D 27 rfl) (pc' := 46) rfl (yg X_4 hx (D 32 rfl) (pc' := 10) rfl (yj X_4 hx (D 8 rfl) rfl (yj X_4 hx (D 9 rfl) rfl (yN X_4 hx (D 10 rfl) (XT.ii_ge_f (by decide)) (yj X_4 hx (D 11 rfl) rfl (yj X_4 hx (D 12 rfl) rfl hr)))))))))) ?_
  refine Go.s T_4 (mkF m 19 #[vR a1, vI p2, vI 2, vI 4, vI 2] [(.int 1), (.int 6)]) (fun _ hr => y1 X_4 hx (D 13 rfl) (yc X_4 hx (D 14 rfl) hr)) ?_
  refine Go.s T_4 (mkF m 21 #[vR a1, vI p2, vI 2, vI 4, vI 2] [(.int 1), (.int 7)]) (fun _ hr => y1 X_4 hx (D 15 rfl) (yc X_4 hx (D 16 rfl) hr)) ?_
  let j_513 := (mkF m 25 #[vR a1, vI p2, vI 2, vI 4, vI 3] [(.ref a1)])
  refine Go.s T_4 j_513 (fun _ hr => y7 X_4 hx (D 17 rfl) (yk X_4 hx (D 18 rfl) rfl (yb X_4 hx (D 19 rfl) rfl rfl hr))) ?_
  obtain ⟨T_8, X_8, e_8, st_8⟩ := getF X_4 hx hZ hown (host := "") (Or.inl (hq hw 211 rfl)) Via.refl e_4 Fl (g := j_513) rfl rfl (D 20 rfl)
  let j_514 := (mkF m 30 #[vR a1, vI p2, vI 2, vI 4, vI 3] [(.int 3), (.ref la)])
  refine Go.s T_8 j_514 (fun _ hr => st_8 _ (yi X_8 hx (D 21 rfl) rfl hr)) ?_
  refine Go.s T_8 (mkF m 32 #[vR a1, vI p2, vI 2, vI 4, vI 3] [(.int p2), (.int s3)]) (fun _ hr => (own_ldI X_8 hx hZ e_8 Al (j := 3) (v := (.int s3)) (by decide) (by simp +decide) rfl (g := j_514) rfl rfl (D 22 rfl)) _ (yj X_8 hx (D 23 rfl) rfl hr)) ?_
  by_cases hc9 : p2 < s3
  · refine Go.s T_8 (mkF m 44 #[vR a1, vI p2, vI 2, vI 4, vI 3] [(.int 1), (.int 3)]) (fun _ hr => yY X_8 hx (D 24 rfl) (pc' := 41) (XT.ii_gt_t hc9) rfl (yi X_8 hx (D 28 rfl) rfl (yc X_8 hx (D 29 rfl) hr))) ?_
    refine Go.s T_8 (mkF m 51 #[vR a1, vI p2, vI 2, vI 2, vI 3] [(.int 1), (.int 2)]) (fun _ hr => y2 X_8 hx (D 30 rfl) (yl X_8 hx (D 31 rfl) rfl (yg X_8 hx (D 32 rfl) (pc' := 10) rfl (yj X_8 hx (D 8 rfl) rfl (yj X_8 hx (D 9 rfl) rfl (yY X_8 hx (D 10 rfl) (pc' := 49) (XT.ii_ge_t (by decide)) rfl (yj X_8 hx (D 33 rfl) rfl (yc X_8 hx (D 34 rfl) hr)))))))) ?_
    refine Go.s T_8 (mkF m 52 #[vR a1, vI p2, vI 2, vI 2, vI 3] [(.int 3)]) (fun _ hr => y1 X_8 hx (D 35 rfl) hr) ?_
    refine Go.retI X_8 hx hlk hret (D 36 rfl) (by decide) (by decide) ?_
    try rw [e_8]
    simp only [Int32.lt_iff_toInt_lt] at hc5 hc9
    refine ⟨(3 : Int32), rfl, N0, rfl, ?_⟩
    show (3 : Int) = _
    rw [if_pos (by omega), if_pos (by omega), if_neg (by omega), if_neg (by omega)]
    try rfl
  refine Go.s T_8 (mkF m 17 #[vR a1, vI p2, vI 3, vI 4, vI 3] [(.int 4), (.int 3)]) (fun _ hr => yN X_8 hx (D 24 rfl) (XT.ii_gt_f hc9) (yi X_8 hx (D 25 rfl) rfl (yl X_8 hx (D 26 rfl) rfl (yg X_8 hx (D 27 rfl) (pc' := 46) rfl (yg X_8 hx (D 32 rfl) (pc' := 10) rfl (yj X_8 hx (D 8 rfl) rfl (yj X_8 hx (D 9 rfl) rfl (yN X_8 hx (D 10 rfl) (XT.ii_ge_f (by decide)) (yj X_8 hx (D 11 rfl) rfl (yj X_8 hx (D 12 rfl) rfl hr)))))))))) ?_
  refine Go.s T_8 (mkF m 19 #[vR a1, vI p2, vI 3, vI 4, vI 3] [(.int 1), (.int 7)]) (fun _ hr => y1 X_8 hx (D 13 rfl) (yc X_8 hx (D 14 rfl) hr)) ?_
  refine Go.s T_8 (mkF m 21 #[vR a1, vI p2, vI 3, vI 4, vI 3] [(.int 1), (.int 8)]) (fun _ hr => y1 X_8 hx (D 15 rfl) (yc X_8 hx (D 16 rfl) hr)) ?_
  let j_515 := (mkF m 25 #[vR a1, vI p2, vI 3, vI 4, vI 4] [(.ref a1)])
  refine Go.s T_8 j_515 (fun _ hr => y7 X_8 hx (D 17 rfl) (yk X_8 hx (D 18 rfl) rfl (yb X_8 hx (D 19 rfl) rfl rfl hr))) ?_
  obtain ⟨T_10, X_10, e_10, st_10⟩ := getF X_8 hx hZ hown (host := "") (Or.inl (hq hw 211 rfl)) Via.refl e_8 Fl (g := j_515) rfl rfl (D 20 rfl)
  let j_516 := (mkF m 30 #[vR a1, vI p2, vI 3, vI 4, vI 4] [(.int 4), (.ref la)])
  refine Go.s T_10 j_516 (fun _ hr => st_10 _ (yi X_10 hx (D 21 rfl) rfl hr)) ?_
  refine Go.s T_10 (mkF m 32 #[vR a1, vI p2, vI 3, vI 4, vI 4] [(.int p2), (.int s4)]) (fun _ hr => (own_ldI X_10 hx hZ e_10 Al (j := 4) (v := (.int s4)) (by decide) (by simp +decide) rfl (g := j_516) rfl rfl (D 22 rfl)) _ (yj X_10 hx (D 23 rfl) rfl hr)) ?_
  by_cases hc11 : p2 < s4
  · refine Go.s T_10 (mkF m 44 #[vR a1, vI p2, vI 3, vI 4, vI 4] [(.int 1), (.int 4)]) (fun _ hr => yY X_10 hx (D 24 rfl) (pc' := 41) (XT.ii_gt_t hc11) rfl (yi X_10 hx (D 28 rfl) rfl (yc X_10 hx (D 29 rfl) hr))) ?_
    refine Go.s T_10 (mkF m 51 #[vR a1, vI p2, vI 3, vI 3, vI 4] [(.int 1), (.int 3)]) (fun _ hr => y2 X_10 hx (D 30 rfl) (yl X_10 hx (D 31 rfl) rfl (yg X_10 hx (D 32 rfl) (pc' := 10) rfl (yj X_10 hx (D 8 rfl) rfl (yj X_10 hx (D 9 rfl) rfl (yY X_10 hx (D 10 rfl) (pc' := 49) (XT.ii_ge_t (by decide)) rfl (yj X_10 hx (D 33 rfl) rfl (yc X_10 hx (D 34 rfl) hr)))))))) ?_
    refine Go.s T_10 (mkF m 52 #[vR a1, vI p2, vI 3, vI 3, vI 4] [(.int 4)]) (fun _ hr => y1 X_10 hx (D 35 rfl) hr) ?_
    refine Go.retI X_10 hx hlk hret (D 36 rfl) (by decide) (by decide) ?_
    try rw [e_10]
    simp only [Int32.lt_iff_toInt_lt] at hc5 hc9 hc11
    refine ⟨(4 : Int32), rfl, N0, rfl, ?_⟩
    show (4 : Int) = _
    rw [if_pos (by omega), if_pos (by omega), if_pos (by omega), if_neg (by omega)]
    try rfl
  refine Go.s T_10 (mkF m 51 #[vR a1, vI p2, vI 4, vI 4, vI 4] [(.int 1), (.int 4)]) (fun _ hr => yN X_10 hx (D 24 rfl) (XT.ii_gt_f hc11) (yi X_10 hx (D 25 rfl) rfl (yl X_10 hx (D 26 rfl) rfl (yg X_10 hx (D 27 rfl) (pc' := 46) rfl (yg X_10 hx (D 32 rfl) (pc' := 10) rfl (yj X_10 hx (D 8 rfl) rfl (yj X_10 hx (D 9 rfl) rfl (yY X_10 hx (D 10 rfl) (pc' := 49) (XT.ii_ge_t (by decide)) rfl (yj X_10 hx (D 33 rfl) rfl (yc X_10 hx (D 34 rfl) hr)))))))))) ?_
  refine Go.s T_10 (mkF m 52 #[vR a1, vI p2, vI 4, vI 4, vI 4] [(.int 5)]) (fun _ hr => y1 X_10 hx (D 35 rfl) hr) ?_
  refine Go.retI X_10 hx hlk hret (D 36 rfl) (by decide) (by decide) ?_
  try rw [e_10]
  simp only [Int32.lt_iff_toInt_lt] at hc5 hc9 hc11
  refine ⟨(5 : Int32), rfl, N0, rfl, ?_⟩
  show (5 : Int) = _
  rw [if_pos (by omega), if_pos (by omega), if_pos (by omega), if_pos (by omega)]
  try rfl
theorem pf_52 : plainFor (⟨cX, "<init>", "(Ljava/lang/String;Ljava/lang/String;)V"⟩ : MethodName) = true := plainFor_of_name (by first | (simp [plainName, overriddenIn]; done) | decide +kernel)
theorem pd_34 : parseMethodDescriptor "(Ljava/lang/String;)[I" = some ⟨[(.object "java/lang/String")], some (.array .int)⟩ := by decide +kernel
theorem rmSXL (hw : own_W a0 Z) (ax : Nat) (a2 : Nat) (a1 : Nat) (h0 : Heap) (n0 : Nat) (Z0 : n0 ≤ h0.size) (vcs : Int32) (hcs : ¬ vcs = 0) (O0 : Old Z n0 h0) (SCS : sCS Z vcs) (vb : Nat) (E1 : Exa Z h0 a1 "java/lang/String") (Fv : fV Z h0 a1 (.ref vb)) (Fc : fC Z h0 a1 (.int 0)) (cs : List Int32) (Ab : Ary Z h0 vb .byte (cs.map own_bv)) (hl1 : own_l1 cs) (vfm : Value) (rfm : vfm.isRef = true) (SFM : sFM Z vfm) (ica : Nat) (ivs : List Value) (SIH : sIH Z) (SIC : sIC Z ica) (AIC : Ary Z Z.heap ica (.object "java/lang/Integer") ivs) (hi256 : ivs.length = 256) (hIC : pIC Z ivs) (vd : Nat) (SDV : sDV Z vd) (ADV : Ary Z Z.heap vd (.object "java/lang/Object") []) (EX : Exa Z h0 ax cX) (gx : n0 ≤ ax) (Fpath : fP Z h0 ax .null) (Ftext : fT Z h0 ax .null) (FlineStarts : fX Z h0 ax .null) (hne : cs.length ≠ 0) (hxs : ax ≠ a1) (hxv : ax ≠ vb) :
    Con l Z ⟨cX, "<init>", "(Ljava/lang/String;Ljava/lang/String;)V"⟩ prog_195_method_1_code 3 none ⟨6, 3, 18, 97⟩ #[(.ref ax), (.ref a2), (.ref a1)] h0 (fun v h L => v = none ∧ Fr n0 L ∧ Keep h0 h [ax] ∧ ∃ la : Nat, h0.size ≤ la ∧ fX Z h ax (.ref la) ∧ Ary Z h la .int (List.map own_iv (own_ls cs))) := by
  refine Con.o (L := #[vR ax, vR a2, vR a1]) n0 d82 pf_52 (by simp [argsToLocals, Value.category]) ?_
  intro p e s m _ _ c T0 X0 hx hby hml hZ hown hnm hret hlk e0 N0 D
  have hlc := hl1.2
  have hml2 : (cs.map own_bv).length = cs.length := List.length_map ..
  have lt_1 := own_ltE E1
  have lt_2 := own_ltA Ab
  have lt_3 := own_ltE EX
  let j_517 := (mkF m 1 #[vR ax, vR a2, vR a1] [(.ref ax)])
  refine Go.s T0 j_517 (fun _ hr => yb X0 hx (D 0 rfl) rfl rfl hr) ?_
  obtain ⟨T_4, X_4, e_4, st_4⟩ := initO X0 hx hZ hown (hq hw 47 rfl) (hq hw 29 rfl) (hq hw 30 rfl) e0 (g := j_517) rfl (by rw [hml]; rfl) rfl (D 1 rfl) (by decide) (W := 0) (by show 2 * 0 + _ ≤ _; exact Nat.le_of_eq rfl) (by decide)
  let j_518 := (mkF m 6 #[vR ax, vR a2, vR a1] [(.ref a2), (.ref ax)])
  refine Go.s T_4 j_518 (fun _ hr => st_4 _ (yb X_4 hx (D 2 rfl) rfl rfl (yb X_4 hx (D 3 rfl) rfl rfl hr))) ?_
  obtain ⟨T_5, h_5, X_5, e_5, W_5, st_5⟩ := putF X_4 hx hZ hown (host := "") (Or.inl (hq hw 48 rfl)) Via.refl e_4 Fpath EX (Or.inr ⟨(hq hw 49 rfl), rfl, hnm⟩) (hq hw 6 rfl) (ty := (.object "java/lang/String")) (by decide) rfl rfl (g := j_518) rfl rfl (D 4 rfl)
  have N_5 := Fr.snoc X_5 N0 (by omega)
  have z_5 := W_5.size
  have F_5 := Fpath.same W_5
  let j_519 := (mkF m 11 #[vR ax, vR a2, vR a1] [(.ref a1), (.ref ax)])
  refine Go.s T_5 j_519 (fun _ hr => st_5 _ (yb X_5 hx (D 5 rfl) rfl rfl (yb X_5 hx (D 6 rfl) rfl rfl hr))) ?_
  have F_7 := (Fv.other W_5 (Or.inl (own_ne (by omega))))
  have F_8 := (Ab.other W_5 (own_ne (by omega)))
  have F_9 := (E1.wr W_5)
  obtain ⟨v_6, T_6, h_6, L_6, X_6, e_6, ⟨rfl, N_6, hh_6⟩, st_6⟩ := cV X_5 hx hZ hown (hq hw 50 rfl) (hq hw 51 rfl) (hq hw 53 rfl) (hq hw 53 rfl) (hq hw 52 rfl) (hq hw 9 rfl) (hq hw 54 rfl) e_5 F_9 hml (rmEm1 l Z a0 hw a1 h_5 n0 (by omega) vb F_7 _ F_8 (by omega) (by omega)) (g := j_519) rfl rfl (lenOf pd_12 rfl) rfl (D 7 rfl) (W := 1) rfl rfl (by decide)
  have N_6' := Fr.app N_5 N_6
  rw [hh_6] at e_6
  let j_520 := (mkF m 19 #[vR ax, vR a2, vR a1] [(.int 0), (.ref a1), (.ref ax)])
  refine Go.s T_6 j_520 (fun _ hr => st_6 _ (yM X_6 hx (D 8 rfl) (XT.i0_ne_f (by decide)) (yb X_6 hx (D 9 rfl) rfl rfl (yc X_6 hx (D 10 rfl) hr)))) ?_
  have F_11 := (O0.wr W_5 (by omega))
  have F_12 := (Fc.other W_5 (Or.inl (own_ne (by omega))))
  obtain ⟨v_10, T_10, h_10, L_10, X_10, e_10, ⟨rfl, N_10, hh_10⟩, st_10⟩ := cV X_6 hx hZ hown (hq hw 55 rfl) (hq hw 56 rfl) (hq hw 58 rfl) (hq hw 58 rfl) (hq hw 57 rfl) (hq hw 9 rfl) (hq hw 59 rfl) e_6 F_9 hml (rmCA l Z a0 hw a1 0 h_5 n0 (by omega) vcs hcs F_11 SCS vb F_9 F_7 F_12 cs F_8 hl1 vfm rfm SFM 0 rfl (by omega)) (g := j_520) rfl rfl (lenOf pd_24 rfl) rfl (D 11 rfl) (W := 1) rfl rfl (by decide)
  have N_10' := Fr.app N_6' N_10
  rw [hh_10] at e_10
  let j_521 := (mkF m 22 #[vR ax, vR a2, vR a1] [(.int (cs.getD 0 0)), (.ref ax)])
  refine Go.s T_10 j_521 st_10 ?_
  let j_522 := (mkF m 36 #[vR ax, vR a2, vR a1] [(.ref a1), (.ref ax)])
  refine Go.s T_10 j_522 (fun _ hr => (own_ldc X_10 hx hZ hown (index := 23) (x := 65279) (hq hw 77 rfl) (g := j_521) rfl (D 12 rfl)) _ (yY X_10 hx (D 13 rfl) (pc' := 35) (XT.ii_ne_t (own_bom (own_l1_at hl1 (by omega)))) rfl (yb X_10 hx (D 18 rfl) rfl rfl hr))) ?_
  have F_13 := (Ftext.other W_5 (Or.inr (slot_ne (t := (.object "java/lang/String")) (t' := (.object "java/lang/String")) (Or.inr (hq hw 79 rfl)) (Or.inr (hq hw 49 rfl)) (by decide) (by decide) (by decide))))
  have F_14 := (EX.wr W_5)
  obtain ⟨T_15, h_15, X_15, e_15, W_15, st_15⟩ := putF X_10 hx hZ hown (host := "") (Or.inl (hq hw 78 rfl)) Via.refl e_10 F_13 F_14 (Or.inr ⟨(hq hw 79 rfl), rfl, hnm⟩) (hq hw 6 rfl) (ty := (.object "java/lang/String")) (by decide) rfl rfl (g := j_522) rfl rfl (D 19 rfl)
  have N_15 := Fr.snoc X_15 N_10' (by omega)
  have z_15 := W_15.size
  have F_15 := F_13.same W_15
  let j_523 := (mkF m 41 #[vR ax, vR a2, vR a1] [(.ref ax), (.ref ax)])
  refine Go.s T_15 j_523 (fun _ hr => st_15 _ (yb X_15 hx (D 20 rfl) rfl rfl (yb X_15 hx (D 21 rfl) rfl rfl hr))) ?_
  obtain ⟨T_16, X_16, e_16, st_16⟩ := getF X_15 hx hZ hown (host := "") (Or.inl (hq hw 78 rfl)) Via.refl e_15 F_15 (g := j_523) rfl rfl (D 22 rfl)
  let j_524 := (mkF m 44 #[vR ax, vR a2, vR a1] [(.ref a1), (.ref ax)])
  refine Go.s T_16 j_524 st_16 ?_
  have F_18 := (F_11.wr W_15 (by omega))
  have F_19 := (F_9.wr W_15)
  have F_20 := (F_7.other W_15 (Or.inl (own_ne (by omega))))
  have F_21 := (F_12.other W_15 (Or.inl (own_ne (by omega))))
  have F_22 := (F_8.other W_15 (own_ne (by omega)))
  obtain ⟨v_17, T_17, h_17, L_17, X_17, e_17, ⟨la_17, rfl, N_17, K_17, g_17, B_17⟩, st_17⟩ := cS X_16 hx hZ hown (hq hw 80 rfl) (hq hw 81 rfl) (hq hw 7 rfl) (hq hw 82 rfl) e_16 hml (rmLS l Z a0 hw a1 h_15 n0 (by omega) vcs hcs F_18 SCS vb F_19 F_20 F_21 cs F_22 hl1 vfm rfm SFM ica ivs SIH SIC AIC hi256 hIC vd SDV ADV) (g := j_524) rfl rfl (lenOf pd_34 rfl) rfl (D 23 rfl) (W := 1) rfl rfl (by decide)
  have N_17' := Fr.app N_15 N_17
  have z_17 := K_17.1
  have yl_17 := own_ltA B_17
  let j_525 := (mkF m 47 #[vR ax, vR a2, vR a1] [(.ref la_17), (.ref ax)])
  refine Go.s T_17 j_525 st_17 ?_
  have F_23 := (((FlineStarts.other W_5 (Or.inr (slot_ne (t := (.array .int)) (t' := (.object "java/lang/String")) (Or.inr (hq hw 212 rfl)) (Or.inr (hq hw 49 rfl)) (by decide) (by decide) (by decide)))).other W_15 (Or.inr (slot_ne (t := (.array .int)) (t' := (.object "java/lang/String")) (Or.inr (hq hw 212 rfl)) (Or.inr (hq hw 79 rfl)) (by decide) (by decide) (by decide)))).keep K_17 nin0)
  have F_24 := ((F_14.wr W_15).keep K_17)
  obtain ⟨T_25, h_25, X_25, e_25, W_25, st_25⟩ := putF X_17 hx hZ hown (host := "") (Or.inl (hq hw 211 rfl)) Via.refl e_17 F_23 F_24 (Or.inr ⟨(hq hw 212 rfl), rfl, hnm⟩) (hq hw 6 rfl) (ty := (.array .int)) (by decide) rfl rfl (g := j_525) rfl rfl (D 24 rfl)
  have N_25 := Fr.snoc X_25 N_17' (by omega)
  have z_25 := W_25.size
  have F_25 := F_23.same W_25
  refine Go.s T_25 (mkF m 50 #[vR ax, vR a2, vR a1] []) st_25 ?_
  refine Go.retV X_25 hx hlk hret (D 25 rfl) (by decide) (by decide) ?_
  try rw [e_25]
  have F_26 := (B_17.other W_25 (own_ne (by omega)))
  exact ⟨rfl, N_25, (((((Keep.refl h0 [ax]).wr W_5 (Or.inl (by simp))).wr W_15 (Or.inl (by simp))).trans K_17 all0).wr W_25 (Or.inl (by simp))), la_17, by omega, F_25, F_26⟩
theorem rmSXE (hw : own_W a0 Z) (ax : Nat) (a2 : Nat) (a1 : Nat) (h0 : Heap) (n0 : Nat) (Z0 : n0 ≤ h0.size) (vcs : Int32) (hcs : ¬ vcs = 0) (O0 : Old Z n0 h0) (SCS : sCS Z vcs) (vb : Nat) (E1 : Exa Z h0 a1 "java/lang/String") (Fv : fV Z h0 a1 (.ref vb)) (Fc : fC Z h0 a1 (.int 0)) (cs : List Int32) (Ab : Ary Z h0 vb .byte (cs.map own_bv)) (hl1 : own_l1 cs) (vfm : Value) (rfm : vfm.isRef = true) (SFM : sFM Z vfm) (ica : Nat) (ivs : List Value) (SIH : sIH Z) (SIC : sIC Z ica) (AIC : Ary Z Z.heap ica (.object "java/lang/Integer") ivs) (hi256 : ivs.length = 256) (hIC : pIC Z ivs) (vd : Nat) (SDV : sDV Z vd) (ADV : Ary Z Z.heap vd (.object "java/lang/Object") []) (EX : Exa Z h0 ax cX) (gx : n0 ≤ ax) (Fpath : fP Z h0 ax .null) (Ftext : fT Z h0 ax .null) (FlineStarts : fX Z h0 ax .null) (hne : cs.length = 0) (hxs : ax ≠ a1) (hxv : ax ≠ vb) :
    Con l Z ⟨cX, "<init>", "(Ljava/lang/String;Ljava/lang/String;)V"⟩ prog_195_method_1_code 3 none ⟨6, 3, 18, 97⟩ #[(.ref ax), (.ref a2), (.ref a1)] h0 (fun v h L => v = none ∧ Fr n0 L ∧ Keep h0 h [ax] ∧ ∃ la : Nat, h0.size ≤ la ∧ fX Z h ax (.ref la) ∧ Ary Z h la .int (List.map own_iv (own_ls cs))) := by
  refine Con.o (L := #[vR ax, vR a2, vR a1]) n0 d82 pf_52 (by simp [argsToLocals, Value.category]) ?_
  intro p e s m _ _ c T0 X0 hx hby hml hZ hown hnm hret hlk e0 N0 D
  have hlc := hl1.2
  have hml2 : (cs.map own_bv).length = cs.length := List.length_map ..
  have lt_1 := own_ltE E1
  have lt_2 := own_ltA Ab
  have lt_3 := own_ltE EX
  let j_526 := (mkF m 1 #[vR ax, vR a2, vR a1] [(.ref ax)])
  refine Go.s T0 j_526 (fun _ hr => yb X0 hx (D 0 rfl) rfl rfl hr) ?_
  obtain ⟨T_4, X_4, e_4, st_4⟩ := initO X0 hx hZ hown (hq hw 47 rfl) (hq hw 29 rfl) (hq hw 30 rfl) e0 (g := j_526) rfl (by rw [hml]; rfl) rfl (D 1 rfl) (by decide) (W := 0) (by show 2 * 0 + _ ≤ _; exact Nat.le_of_eq rfl) (by decide)
  let j_527 := (mkF m 6 #[vR ax, vR a2, vR a1] [(.ref a2), (.ref ax)])
  refine Go.s T_4 j_527 (fun _ hr => st_4 _ (yb X_4 hx (D 2 rfl) rfl rfl (yb X_4 hx (D 3 rfl) rfl rfl hr))) ?_
  obtain ⟨T_5, h_5, X_5, e_5, W_5, st_5⟩ := putF X_4 hx hZ hown (host := "") (Or.inl (hq hw 48 rfl)) Via.refl e_4 Fpath EX (Or.inr ⟨(hq hw 49 rfl), rfl, hnm⟩) (hq hw 6 rfl) (ty := (.object "java/lang/String")) (by decide) rfl rfl (g := j_527) rfl rfl (D 4 rfl)
  have N_5 := Fr.snoc X_5 N0 (by omega)
  have z_5 := W_5.size
  have F_5 := Fpath.same W_5
  let j_528 := (mkF m 11 #[vR ax, vR a2, vR a1] [(.ref a1), (.ref ax)])
  refine Go.s T_5 j_528 (fun _ hr => st_5 _ (yb X_5 hx (D 5 rfl) rfl rfl (yb X_5 hx (D 6 rfl) rfl rfl hr))) ?_
  have F_7 := (Fv.other W_5 (Or.inl (own_ne (by omega))))
  have F_8 := (Ab.other W_5 (own_ne (by omega)))
  have F_9 := (E1.wr W_5)
  obtain ⟨v_6, T_6, h_6, L_6, X_6, e_6, ⟨rfl, N_6, hh_6⟩, st_6⟩ := cV X_5 hx hZ hown (hq hw 50 rfl) (hq hw 51 rfl) (hq hw 53 rfl) (hq hw 53 rfl) (hq hw 52 rfl) (hq hw 9 rfl) (hq hw 54 rfl) e_5 F_9 hml (rmEm0 l Z a0 hw a1 h_5 n0 (by omega) vb F_7 _ F_8 (by omega)) (g := j_528) rfl rfl (lenOf pd_12 rfl) rfl (D 7 rfl) (W := 1) rfl rfl (by decide)
  have N_6' := Fr.app N_5 N_6
  rw [hh_6] at e_6
  let j_529 := (mkF m 36 #[vR ax, vR a2, vR a1] [(.ref a1), (.ref ax)])
  refine Go.s T_6 j_529 (fun _ hr => st_6 _ (yX X_6 hx (D 8 rfl) (pc' := 35) (XT.i0_ne_t (by decide)) rfl (yb X_6 hx (D 18 rfl) rfl rfl hr))) ?_
  have F_10 := (Ftext.other W_5 (Or.inr (slot_ne (t := (.object "java/lang/String")) (t' := (.object "java/lang/String")) (Or.inr (hq hw 79 rfl)) (Or.inr (hq hw 49 rfl)) (by decide) (by decide) (by decide))))
  have F_11 := (EX.wr W_5)
  obtain ⟨T_12, h_12, X_12, e_12, W_12, st_12⟩ := putF X_6 hx hZ hown (host := "") (Or.inl (hq hw 78 rfl)) Via.refl e_6 F_10 F_11 (Or.inr ⟨(hq hw 79 rfl), rfl, hnm⟩) (hq hw 6 rfl) (ty := (.object "java/lang/String")) (by decide) rfl rfl (g := j_529) rfl rfl (D 19 rfl)
  have N_12 := Fr.snoc X_12 N_6' (by omega)
  have z_12 := W_12.size
  have F_12 := F_10.same W_12
  let j_530 := (mkF m 41 #[vR ax, vR a2, vR a1] [(.ref ax), (.ref ax)])
  refine Go.s T_12 j_530 (fun _ hr => st_12 _ (yb X_12 hx (D 20 rfl) rfl rfl (yb X_12 hx (D 21 rfl) rfl rfl hr))) ?_
  obtain ⟨T_13, X_13, e_13, st_13⟩ := getF X_12 hx hZ hown (host := "") (Or.inl (hq hw 78 rfl)) Via.refl e_12 F_12 (g := j_530) rfl rfl (D 22 rfl)
  let j_531 := (mkF m 44 #[vR ax, vR a2, vR a1] [(.ref a1), (.ref ax)])
  refine Go.s T_13 j_531 st_13 ?_
  have F_15 := ((O0.wr W_5 (by omega)).wr W_12 (by omega))
  have F_16 := (F_9.wr W_12)
  have F_17 := (F_7.other W_12 (Or.inl (own_ne (by omega))))
  have F_18 := ((Fc.other W_5 (Or.inl (own_ne (by omega)))).other W_12 (Or.inl (own_ne (by omega))))
  have F_19 := (F_8.other W_12 (own_ne (by omega)))
  obtain ⟨v_14, T_14, h_14, L_14, X_14, e_14, ⟨la_14, rfl, N_14, K_14, g_14, B_14⟩, st_14⟩ := cS X_13 hx hZ hown (hq hw 80 rfl) (hq hw 81 rfl) (hq hw 7 rfl) (hq hw 82 rfl) e_13 hml (rmLS l Z a0 hw a1 h_12 n0 (by omega) vcs hcs F_15 SCS vb F_16 F_17 F_18 cs F_19 hl1 vfm rfm SFM ica ivs SIH SIC AIC hi256 hIC vd SDV ADV) (g := j_531) rfl rfl (lenOf pd_34 rfl) rfl (D 23 rfl) (W := 1) rfl rfl (by decide)
  have N_14' := Fr.app N_12 N_14
  have z_14 := K_14.1
  have yl_14 := own_ltA B_14
  let j_532 := (mkF m 47 #[vR ax, vR a2, vR a1] [(.ref la_14), (.ref ax)])
  refine Go.s T_14 j_532 st_14 ?_
  have F_20 := (((FlineStarts.other W_5 (Or.inr (slot_ne (t := (.array .int)) (t' := (.object "java/lang/String")) (Or.inr (hq hw 212 rfl)) (Or.inr (hq hw 49 rfl)) (by decide) (by decide) (by decide)))).other W_12 (Or.inr (slot_ne (t := (.array .int)) (t' := (.object "java/lang/String")) (Or.inr (hq hw 212 rfl)) (Or.inr (hq hw 79 rfl)) (by decide) (by decide) (by decide)))).keep K_14 nin0)
  have F_21 := ((F_11.wr W_12).keep K_14)
  obtain ⟨T_22, h_22, X_22, e_22, W_22, st_22⟩ := putF X_14 hx hZ hown (host := "") (Or.inl (hq hw 211 rfl)) Via.refl e_14 F_20 F_21 (Or.inr ⟨(hq hw 212 rfl), rfl, hnm⟩) (hq hw 6 rfl) (ty := (.array .int)) (by decide) rfl rfl (g := j_532) rfl rfl (D 24 rfl)
  have N_22 := Fr.snoc X_22 N_14' (by omega)
  have z_22 := W_22.size
  have F_22 := F_20.same W_22
  refine Go.s T_22 (mkF m 50 #[vR ax, vR a2, vR a1] []) st_22 ?_
  refine Go.retV X_22 hx hlk hret (D 25 rfl) (by decide) (by decide) ?_
  try rw [e_22]
  have F_23 := (B_14.other W_22 (own_ne (by omega)))
  exact ⟨rfl, N_22, (((((Keep.refl h0 [ax]).wr W_5 (Or.inl (by simp))).wr W_12 (Or.inl (by simp))).trans K_14 all0).wr W_22 (Or.inl (by simp))), la_14, by omega, F_22, F_23⟩
theorem pd_35 : parseMethodDescriptor "(I)Ljava/lang/String;" = some ⟨[.int], some (.object "java/lang/String")⟩ := by decide +kernel
theorem rmSXU2 (hw : own_W a0 Z) (ax : Nat) (a2 : Nat) (a1 : Nat) (h0 : Heap) (n0 : Nat) (Z0 : n0 ≤ h0.size) (vcs : Int32) (hcs : ¬ vcs = 0) (O0 : Old Z n0 h0) (SCS : sCS Z vcs) (SAD : sAD Z) (SHI : sHI Z) (SLO : sLO Z) (vfm : Value) (rfm : vfm.isRef = true) (SFM : sFM Z vfm) (vb : Nat) (E1 : Exa Z h0 a1 "java/lang/String") (Fv : fV Z h0 a1 (.ref vb)) (Fc : fC Z h0 a1 (.int 1)) (c0 : Int32) (Ab : Ary Z h0 vb .byte [(.int (own_lo 65279)), (.int (own_hi 65279)), (.int (own_lo c0)), (.int (own_hi c0))]) (q0 : own_rg c0) (ica : Nat) (ivs : List Value) (SIH : sIH Z) (SIC : sIC Z ica) (AIC : Ary Z Z.heap ica (.object "java/lang/Integer") ivs) (hi256 : ivs.length = 256) (hIC : pIC Z ivs) (vd : Nat) (SDV : sDV Z vd) (ADV : Ary Z Z.heap vd (.object "java/lang/Object") []) (EX : Exa Z h0 ax cX) (gx : n0 ≤ ax) (Fpath : fP Z h0 ax .null) (Ftext : fT Z h0 ax .null) (FlineStarts : fX Z h0 ax .null) (hxs : ax ≠ a1) (hxv : ax ≠ vb) :
    Con l Z ⟨cX, "<init>", "(Ljava/lang/String;Ljava/lang/String;)V"⟩ prog_195_method_1_code 3 none ⟨8, 5, 23, 124⟩ #[(.ref ax), (.ref a2), (.ref a1)] h0 (fun v h L => v = none ∧ Fr n0 L ∧ Keep h0 h [ax] ∧ ∃ la : Nat, h0.size ≤ la ∧ fX Z h ax (.ref la) ∧ Ary Z h la .int (List.map own_iv (own_ls [c0]))) := by
  refine Con.o (L := #[vR ax, vR a2, vR a1]) n0 d82 pf_52 (by simp [argsToLocals, Value.category]) ?_
  intro p e s m _ _ c T0 X0 hx hby hml hZ hown hnm hret hlk e0 N0 D
  have lt_1 := own_ltE E1
  have lt_2 := own_ltA Ab
  have lt_3 := own_ltE EX
  let j_533 := (mkF m 1 #[vR ax, vR a2, vR a1] [(.ref ax)])
  refine Go.s T0 j_533 (fun _ hr => yb X0 hx (D 0 rfl) rfl rfl hr) ?_
  obtain ⟨T_4, X_4, e_4, st_4⟩ := initO X0 hx hZ hown (hq hw 47 rfl) (hq hw 29 rfl) (hq hw 30 rfl) e0 (g := j_533) rfl (by rw [hml]; rfl) rfl (D 1 rfl) (by decide) (W := 0) (by show 2 * 0 + _ ≤ _; exact Nat.le_of_eq rfl) (by decide)
  let j_534 := (mkF m 6 #[vR ax, vR a2, vR a1] [(.ref a2), (.ref ax)])
  refine Go.s T_4 j_534 (fun _ hr => st_4 _ (yb X_4 hx (D 2 rfl) rfl rfl (yb X_4 hx (D 3 rfl) rfl rfl hr))) ?_
  obtain ⟨T_5, h_5, X_5, e_5, W_5, st_5⟩ := putF X_4 hx hZ hown (host := "") (Or.inl (hq hw 48 rfl)) Via.refl e_4 Fpath EX (Or.inr ⟨(hq hw 49 rfl), rfl, hnm⟩) (hq hw 6 rfl) (ty := (.object "java/lang/String")) (by decide) rfl rfl (g := j_534) rfl rfl (D 4 rfl)
  have N_5 := Fr.snoc X_5 N0 (by omega)
  have z_5 := W_5.size
  have F_5 := Fpath.same W_5
  let j_535 := (mkF m 11 #[vR ax, vR a2, vR a1] [(.ref a1), (.ref ax)])
  refine Go.s T_5 j_535 (fun _ hr => st_5 _ (yb X_5 hx (D 5 rfl) rfl rfl (yb X_5 hx (D 6 rfl) rfl rfl hr))) ?_
  have F_7 := (Fv.other W_5 (Or.inl (own_ne (by omega))))
  have F_8 := (Ab.other W_5 (own_ne (by omega)))
  have F_9 := (E1.wr W_5)
  obtain ⟨v_6, T_6, h_6, L_6, X_6, e_6, ⟨rfl, N_6, hh_6⟩, st_6⟩ := cV X_5 hx hZ hown (hq hw 50 rfl) (hq hw 51 rfl) (hq hw 53 rfl) (hq hw 53 rfl) (hq hw 52 rfl) (hq hw 9 rfl) (hq hw 54 rfl) e_5 F_9 hml (rmEm1 l Z a0 hw a1 h_5 n0 (by omega) vb F_7 _ F_8 (by simp +decide) (by simp +decide)) (g := j_535) rfl rfl (lenOf pd_12 rfl) rfl (D 7 rfl) (W := 1) rfl rfl (by decide)
  have N_6' := Fr.app N_5 N_6
  rw [hh_6] at e_6
  let j_536 := (mkF m 19 #[vR ax, vR a2, vR a1] [(.int 0), (.ref a1), (.ref ax)])
  refine Go.s T_6 j_536 (fun _ hr => st_6 _ (yM X_6 hx (D 8 rfl) (XT.i0_ne_f (by decide)) (yb X_6 hx (D 9 rfl) rfl rfl (yc X_6 hx (D 10 rfl) hr)))) ?_
  have F_11 := (O0.wr W_5 (by omega))
  have F_12 := (Fc.other W_5 (Or.inl (own_ne (by omega))))
  obtain ⟨v_10, T_10, h_10, L_10, X_10, e_10, ⟨rfl, N_10, hh_10⟩, st_10⟩ := cV X_6 hx hZ hown (hq hw 55 rfl) (hq hw 56 rfl) (hq hw 58 rfl) (hq hw 58 rfl) (hq hw 57 rfl) (hq hw 9 rfl) (hq hw 59 rfl) e_6 F_9 hml (rmCAU2 l Z a0 hw a1 h_5 n0 (by omega) vcs hcs F_11 SCS SAD SHI SLO vfm rfm SFM vb F_9 F_7 F_12 c0 F_8 q0) (g := j_536) rfl rfl (lenOf pd_24 rfl) rfl (D 11 rfl) (W := 1) rfl rfl (by decide)
  have N_10' := Fr.app N_6' N_10
  rw [hh_10] at e_10
  let j_537 := (mkF m 22 #[vR ax, vR a2, vR a1] [(.int 65279), (.ref ax)])
  refine Go.s T_10 j_537 st_10 ?_
  let j_538 := (mkF m 29 #[vR ax, vR a2, vR a1] [(.int 1), (.ref a1), (.ref ax)])
  refine Go.s T_10 j_538 (fun _ hr => (own_ldc X_10 hx hZ hown (index := 23) (x := 65279) (hq hw 77 rfl) (g := j_537) rfl (D 12 rfl)) _ (yN X_10 hx (D 13 rfl) (XT.ii_ne_f (by decide)) (yb X_10 hx (D 14 rfl) rfl rfl (yc X_10 hx (D 15 rfl) hr)))) ?_
  obtain ⟨v_13, T_13, h_13, L_13, X_13, e_13, ⟨sa_13, rfl, N_13, K_13, g_13, E1_13, vb_13, gg_13, F1_13, F2_13, B_13⟩, st_13⟩ := cV X_10 hx hZ hown (hq hw 250 rfl) (hq hw 251 rfl) (hq hw 253 rfl) (hq hw 253 rfl) (hq hw 252 rfl) (hq hw 9 rfl) (hq hw 254 rfl) e_10 F_9 hml (rmSubA2 l Z a0 hw a1 h_5 n0 (by omega) vcs hcs F_11 SCS SAD SHI SLO vfm rfm SFM vb F_9 F_7 F_12 c0 F_8 q0) (g := j_538) rfl rfl (lenOf pd_35 rfl) rfl (D 16 rfl) (W := 1) rfl rfl (by decide)
  have N_13' := Fr.app N_10' N_13
  have z_13 := K_13.1
  have B_13' : Ary Z h_13 vb_13 .byte ([c0].map own_bv) := B_13
  have yv_13 := own_ltA B_13
  have ys_13 := own_ltE E1_13
  let j_539 := (mkF m 36 #[vR ax, vR a2, vR a1] [(.ref sa_13), (.ref ax)])
  refine Go.s T_13 j_539 (fun _ hr => st_13 _ (yg X_13 hx (D 17 rfl) (pc' := 36) rfl hr)) ?_
  have F_14 := ((Ftext.other W_5 (Or.inr (slot_ne (t := (.object "java/lang/String")) (t' := (.object "java/lang/String")) (Or.inr (hq hw 79 rfl)) (Or.inr (hq hw 49 rfl)) (by decide) (by decide) (by decide)))).keep K_13 nin0)
  have F_15 := ((EX.wr W_5).keep K_13)
  obtain ⟨T_16, h_16, X_16, e_16, W_16, st_16⟩ := putF X_13 hx hZ hown (host := "") (Or.inl (hq hw 78 rfl)) Via.refl e_13 F_14 F_15 (Or.inr ⟨(hq hw 79 rfl), rfl, hnm⟩) (hq hw 6 rfl) (ty := (.object "java/lang/String")) (by decide) rfl rfl (g := j_539) rfl rfl (D 19 rfl)
  have N_16 := Fr.snoc X_16 N_13' (by omega)
  have z_16 := W_16.size
  have F_16 := F_14.same W_16
  let j_540 := (mkF m 41 #[vR ax, vR a2, vR a1] [(.ref ax), (.ref ax)])
  refine Go.s T_16 j_540 (fun _ hr => st_16 _ (yb X_16 hx (D 20 rfl) rfl rfl (yb X_16 hx (D 21 rfl) rfl rfl hr))) ?_
  obtain ⟨T_17, X_17, e_17, st_17⟩ := getF X_16 hx hZ hown (host := "") (Or.inl (hq hw 78 rfl)) Via.refl e_16 F_16 (g := j_540) rfl rfl (D 22 rfl)
  let j_541 := (mkF m 44 #[vR ax, vR a2, vR a1] [(.ref sa_13), (.ref ax)])
  refine Go.s T_17 j_541 st_17 ?_
  have F_19 := ((F_11.keep K_13 all0).wr W_16 (by omega))
  have F_20 := (E1_13.wr W_16)
  have F_21 := (F1_13.other W_16 (Or.inl (own_ne (by omega))))
  have F_22 := (F2_13.other W_16 (Or.inl (own_ne (by omega))))
  have F_23 := (B_13'.other W_16 (own_ne (by omega)))
  obtain ⟨v_18, T_18, h_18, L_18, X_18, e_18, ⟨la_18, rfl, N_18, K_18, g_18, B_18⟩, st_18⟩ := cS X_17 hx hZ hown (hq hw 80 rfl) (hq hw 81 rfl) (hq hw 7 rfl) (hq hw 82 rfl) e_17 hml (rmLS l Z a0 hw sa_13 h_16 n0 (by omega) vcs hcs F_19 SCS vb_13 F_20 F_21 F_22 [c0] F_23 (own_l1_1 q0) vfm rfm SFM ica ivs SIH SIC AIC hi256 hIC vd SDV ADV) (g := j_541) rfl rfl (lenOf pd_34 rfl) rfl (D 23 rfl) (W := 1) rfl rfl (by decide)
  have N_18' := Fr.app N_16 N_18
  have z_18 := K_18.1
  have yl_18 := own_ltA B_18
  let j_542 := (mkF m 47 #[vR ax, vR a2, vR a1] [(.ref la_18), (.ref ax)])
  refine Go.s T_18 j_542 st_18 ?_
  have F_24 := ((((FlineStarts.other W_5 (Or.inr (slot_ne (t := (.array .int)) (t' := (.object "java/lang/String")) (Or.inr (hq hw 212 rfl)) (Or.inr (hq hw 49 rfl)) (by decide) (by decide) (by decide)))).keep K_13 nin0).other W_16 (Or.inr (slot_ne (t := (.array .int)) (t' := (.object "java/lang/String")) (Or.inr (hq hw 212 rfl)) (Or.inr (hq hw 79 rfl)) (by decide) (by decide) (by decide)))).keep K_18 nin0)
  have F_25 := ((F_15.wr W_16).keep K_18)
  obtain ⟨T_26, h_26, X_26, e_26, W_26, st_26⟩ := putF X_18 hx hZ hown (host := "") (Or.inl (hq hw 211 rfl)) Via.refl e_18 F_24 F_25 (Or.inr ⟨(hq hw 212 rfl), rfl, hnm⟩) (hq hw 6 rfl) (ty := (.array .int)) (by decide) rfl rfl (g := j_542) rfl rfl (D 24 rfl)
  have N_26 := Fr.snoc X_26 N_18' (by omega)
  have z_26 := W_26.size
  have F_26 := F_24.same W_26
  refine Go.s T_26 (mkF m 50 #[vR ax, vR a2, vR a1] []) st_26 ?_
  refine Go.retV X_26 hx hlk hret (D 25 rfl) (by decide) (by decide) ?_
  try rw [e_26]
  have F_27 := (B_18.other W_26 (own_ne (by omega)))
  exact ⟨rfl, N_26, ((((((Keep.refl h0 [ax]).wr W_5 (Or.inl (by simp))).trans K_13 all0).wr W_16 (Or.inl (by simp))).trans K_18 all0).wr W_26 (Or.inl (by simp))), la_18, by omega, F_26, F_27⟩
theorem rmSXU3 (hw : own_W a0 Z) (ax : Nat) (a2 : Nat) (a1 : Nat) (h0 : Heap) (n0 : Nat) (Z0 : n0 ≤ h0.size) (vcs : Int32) (hcs : ¬ vcs = 0) (O0 : Old Z n0 h0) (SCS : sCS Z vcs) (SAD : sAD Z) (SHI : sHI Z) (SLO : sLO Z) (vfm : Value) (rfm : vfm.isRef = true) (SFM : sFM Z vfm) (vb : Nat) (E1 : Exa Z h0 a1 "java/lang/String") (Fv : fV Z h0 a1 (.ref vb)) (Fc : fC Z h0 a1 (.int 1)) (c0 c1 : Int32) (Ab : Ary Z h0 vb .byte [(.int (own_lo 65279)), (.int (own_hi 65279)), (.int (own_lo c0)), (.int (own_hi c0)), (.int (own_lo c1)), (.int (own_hi c1))]) (q0 : own_rg c0) (q1 : own_rg c1) (ica : Nat) (ivs : List Value) (SIH : sIH Z) (SIC : sIC Z ica) (AIC : Ary Z Z.heap ica (.object "java/lang/Integer") ivs) (hi256 : ivs.length = 256) (hIC : pIC Z ivs) (vd : Nat) (SDV : sDV Z vd) (ADV : Ary Z Z.heap vd (.object "java/lang/Object") []) (EX : Exa Z h0 ax cX) (gx : n0 ≤ ax) (Fpath : fP Z h0 ax .null) (Ftext : fT Z h0 ax .null) (FlineStarts : fX Z h0 ax .null) (hxs : ax ≠ a1) (hxv : ax ≠ vb) :
    Con l Z ⟨cX, "<init>", "(Ljava/lang/String;Ljava/lang/String;)V"⟩ prog_195_method_1_code 3 none ⟨8, 5, 24, 124⟩ #[(.ref ax), (.ref a2), (.ref a1)] h0 (fun v h L => v = none ∧ Fr n0 L ∧ Keep h0 h [ax] ∧ ∃ la : Nat, h0.size ≤ la ∧ fX Z h ax (.ref la) ∧ Ary Z h la .int (List.map own_iv (own_ls [c0, c1]))) := by
  refine Con.o (L := #[vR ax, vR a2, vR a1]) n0 d82 pf_52 (by simp [argsToLocals, Value.category]) ?_
  intro p e s m _ _ c T0 X0 hx hby hml hZ hown hnm hret hlk e0 N0 D
  have lt_1 := own_ltE E1
  have lt_2 := own_ltA Ab
  have lt_3 := own_ltE EX
  let j_543 := (mkF m 1 #[vR ax, vR a2, vR a1] [(.ref ax)])
  refine Go.s T0 j_543 (fun _ hr => yb X0 hx (D 0 rfl) rfl rfl hr) ?_
  obtain ⟨T_4, X_4, e_4, st_4⟩ := initO X0 hx hZ hown (hq hw 47 rfl) (hq hw 29 rfl) (hq hw 30 rfl) e0 (g := j_543) rfl (by rw [hml]; rfl) rfl (D 1 rfl) (by decide) (W := 0) (by show 2 * 0 + _ ≤ _; exact Nat.le_of_eq rfl) (by decide)
  let j_544 := (mkF m 6 #[vR ax, vR a2, vR a1] [(.ref a2), (.ref ax)])
  refine Go.s T_4 j_544 (fun _ hr => st_4 _ (yb X_4 hx (D 2 rfl) rfl rfl (yb X_4 hx (D 3 rfl) rfl rfl hr))) ?_
  obtain ⟨T_5, h_5, X_5, e_5, W_5, st_5⟩ := putF X_4 hx hZ hown (host := "") (Or.inl (hq hw 48 rfl)) Via.refl e_4 Fpath EX (Or.inr ⟨(hq hw 49 rfl), rfl, hnm⟩) (hq hw 6 rfl) (ty := (.object "java/lang/String")) (by decide) rfl rfl (g := j_544) rfl rfl (D 4 rfl)
  have N_5 := Fr.snoc X_5 N0 (by omega)
  have z_5 := W_5.size
  have F_5 := Fpath.same W_5
  let j_545 := (mkF m 11 #[vR ax, vR a2, vR a1] [(.ref a1), (.ref ax)])
  refine Go.s T_5 j_545 (fun _ hr => st_5 _ (yb X_5 hx (D 5 rfl) rfl rfl (yb X_5 hx (D 6 rfl) rfl rfl hr))) ?_
  have F_7 := (Fv.other W_5 (Or.inl (own_ne (by omega))))
  have F_8 := (Ab.other W_5 (own_ne (by omega)))
  have F_9 := (E1.wr W_5)
  obtain ⟨v_6, T_6, h_6, L_6, X_6, e_6, ⟨rfl, N_6, hh_6⟩, st_6⟩ := cV X_5 hx hZ hown (hq hw 50 rfl) (hq hw 51 rfl) (hq hw 53 rfl) (hq hw 53 rfl) (hq hw 52 rfl) (hq hw 9 rfl) (hq hw 54 rfl) e_5 F_9 hml (rmEm1 l Z a0 hw a1 h_5 n0 (by omega) vb F_7 _ F_8 (by simp +decide) (by simp +decide)) (g := j_545) rfl rfl (lenOf pd_12 rfl) rfl (D 7 rfl) (W := 1) rfl rfl (by decide)
  have N_6' := Fr.app N_5 N_6
  rw [hh_6] at e_6
  let j_546 := (mkF m 19 #[vR ax, vR a2, vR a1] [(.int 0), (.ref a1), (.ref ax)])
  refine Go.s T_6 j_546 (fun _ hr => st_6 _ (yM X_6 hx (D 8 rfl) (XT.i0_ne_f (by decide)) (yb X_6 hx (D 9 rfl) rfl rfl (yc X_6 hx (D 10 rfl) hr)))) ?_
  have F_11 := (O0.wr W_5 (by omega))
  have F_12 := (Fc.other W_5 (Or.inl (own_ne (by omega))))
  obtain ⟨v_10, T_10, h_10, L_10, X_10, e_10, ⟨rfl, N_10, hh_10⟩, st_10⟩ := cV X_6 hx hZ hown (hq hw 55 rfl) (hq hw 56 rfl) (hq hw 58 rfl) (hq hw 58 rfl) (hq hw 57 rfl) (hq hw 9 rfl) (hq hw 59 rfl) e_6 F_9 hml (rmCAU3 l Z a0 hw a1 h_5 n0 (by omega) vcs hcs F_11 SCS SAD SHI SLO vfm rfm SFM vb F_9 F_7 F_12 c0 c1 F_8 q0 q1) (g := j_546) rfl rfl (lenOf pd_24 rfl) rfl (D 11 rfl) (W := 1) rfl rfl (by decide)
  have N_10' := Fr.app N_6' N_10
  rw [hh_10] at e_10
  let j_547 := (mkF m 22 #[vR ax, vR a2, vR a1] [(.int 65279), (.ref ax)])
  refine Go.s T_10 j_547 st_10 ?_
  let j_548 := (mkF m 29 #[vR ax, vR a2, vR a1] [(.int 1), (.ref a1), (.ref ax)])
  refine Go.s T_10 j_548 (fun _ hr => (own_ldc X_10 hx hZ hown (index := 23) (x := 65279) (hq hw 77 rfl) (g := j_547) rfl (D 12 rfl)) _ (yN X_10 hx (D 13 rfl) (XT.ii_ne_f (by decide)) (yb X_10 hx (D 14 rfl) rfl rfl (yc X_10 hx (D 15 rfl) hr)))) ?_
  obtain ⟨v_13, T_13, h_13, L_13, X_13, e_13, ⟨sa_13, rfl, N_13, K_13, g_13, E1_13, vb_13, gg_13, F1_13, F2_13, B_13⟩, st_13⟩ := cV X_10 hx hZ hown (hq hw 250 rfl) (hq hw 251 rfl) (hq hw 253 rfl) (hq hw 253 rfl) (hq hw 252 rfl) (hq hw 9 rfl) (hq hw 254 rfl) e_10 F_9 hml (rmSubA3 l Z a0 hw a1 h_5 n0 (by omega) vcs hcs F_11 SCS SAD SHI SLO vfm rfm SFM vb F_9 F_7 F_12 c0 c1 F_8 q0 q1) (g := j_548) rfl rfl (lenOf pd_35 rfl) rfl (D 16 rfl) (W := 1) rfl rfl (by decide)
  have N_13' := Fr.app N_10' N_13
  have z_13 := K_13.1
  have B_13' : Ary Z h_13 vb_13 .byte ([c0, c1].map own_bv) := B_13
  have yv_13 := own_ltA B_13
  have ys_13 := own_ltE E1_13
  let j_549 := (mkF m 36 #[vR ax, vR a2, vR a1] [(.ref sa_13), (.ref ax)])
  refine Go.s T_13 j_549 (fun _ hr => st_13 _ (yg X_13 hx (D 17 rfl) (pc' := 36) rfl hr)) ?_
  have F_14 := ((Ftext.other W_5 (Or.inr (slot_ne (t := (.object "java/lang/String")) (t' := (.object "java/lang/String")) (Or.inr (hq hw 79 rfl)) (Or.inr (hq hw 49 rfl)) (by decide) (by decide) (by decide)))).keep K_13 nin0)
  have F_15 := ((EX.wr W_5).keep K_13)
  obtain ⟨T_16, h_16, X_16, e_16, W_16, st_16⟩ := putF X_13 hx hZ hown (host := "") (Or.inl (hq hw 78 rfl)) Via.refl e_13 F_14 F_15 (Or.inr ⟨(hq hw 79 rfl), rfl, hnm⟩) (hq hw 6 rfl) (ty := (.object "java/lang/String")) (by decide) rfl rfl (g := j_549) rfl rfl (D 19 rfl)
  have N_16 := Fr.snoc X_16 N_13' (by omega)
  have z_16 := W_16.size
  have F_16 := F_14.same W_16
  let j_550 := (mkF m 41 #[vR ax, vR a2, vR a1] [(.ref ax), (.ref ax)])
  refine Go.s T_16 j_550 (fun _ hr => st_16 _ (yb X_16 hx (D 20 rfl) rfl rfl (yb X_16 hx (D 21 rfl) rfl rfl hr))) ?_
  obtain ⟨T_17, X_17, e_17, st_17⟩ := getF X_16 hx hZ hown (host := "") (Or.inl (hq hw 78 rfl)) Via.refl e_16 F_16 (g := j_550) rfl rfl (D 22 rfl)
  let j_551 := (mkF m 44 #[vR ax, vR a2, vR a1] [(.ref sa_13), (.ref ax)])
  refine Go.s T_17 j_551 st_17 ?_
  have F_19 := ((F_11.keep K_13 all0).wr W_16 (by omega))
  have F_20 := (E1_13.wr W_16)
  have F_21 := (F1_13.other W_16 (Or.inl (own_ne (by omega))))
  have F_22 := (F2_13.other W_16 (Or.inl (own_ne (by omega))))
  have F_23 := (B_13'.other W_16 (own_ne (by omega)))
  obtain ⟨v_18, T_18, h_18, L_18, X_18, e_18, ⟨la_18, rfl, N_18, K_18, g_18, B_18⟩, st_18⟩ := cS X_17 hx hZ hown (hq hw 80 rfl) (hq hw 81 rfl) (hq hw 7 rfl) (hq hw 82 rfl) e_17 hml (rmLS l Z a0 hw sa_13 h_16 n0 (by omega) vcs hcs F_19 SCS vb_13 F_20 F_21 F_22 [c0, c1] F_23 (own_l1_2 q0 q1) vfm rfm SFM ica ivs SIH SIC AIC hi256 hIC vd SDV ADV) (g := j_551) rfl rfl (lenOf pd_34 rfl) rfl (D 23 rfl) (W := 1) rfl rfl (by decide)
  have N_18' := Fr.app N_16 N_18
  have z_18 := K_18.1
  have yl_18 := own_ltA B_18
  let j_552 := (mkF m 47 #[vR ax, vR a2, vR a1] [(.ref la_18), (.ref ax)])
  refine Go.s T_18 j_552 st_18 ?_
  have F_24 := ((((FlineStarts.other W_5 (Or.inr (slot_ne (t := (.array .int)) (t' := (.object "java/lang/String")) (Or.inr (hq hw 212 rfl)) (Or.inr (hq hw 49 rfl)) (by decide) (by decide) (by decide)))).keep K_13 nin0).other W_16 (Or.inr (slot_ne (t := (.array .int)) (t' := (.object "java/lang/String")) (Or.inr (hq hw 212 rfl)) (Or.inr (hq hw 79 rfl)) (by decide) (by decide) (by decide)))).keep K_18 nin0)
  have F_25 := ((F_15.wr W_16).keep K_18)
  obtain ⟨T_26, h_26, X_26, e_26, W_26, st_26⟩ := putF X_18 hx hZ hown (host := "") (Or.inl (hq hw 211 rfl)) Via.refl e_18 F_24 F_25 (Or.inr ⟨(hq hw 212 rfl), rfl, hnm⟩) (hq hw 6 rfl) (ty := (.array .int)) (by decide) rfl rfl (g := j_552) rfl rfl (D 24 rfl)
  have N_26 := Fr.snoc X_26 N_18' (by omega)
  have z_26 := W_26.size
  have F_26 := F_24.same W_26
  refine Go.s T_26 (mkF m 50 #[vR ax, vR a2, vR a1] []) st_26 ?_
  refine Go.retV X_26 hx hlk hret (D 25 rfl) (by decide) (by decide) ?_
  try rw [e_26]
  have F_27 := (B_18.other W_26 (own_ne (by omega)))
  exact ⟨rfl, N_26, ((((((Keep.refl h0 [ax]).wr W_5 (Or.inl (by simp))).trans K_13 all0).wr W_16 (Or.inl (by simp))).trans K_18 all0).wr W_26 (Or.inl (by simp))), la_18, by omega, F_26, F_27⟩
theorem rmSXU4 (hw : own_W a0 Z) (ax : Nat) (a2 : Nat) (a1 : Nat) (h0 : Heap) (n0 : Nat) (Z0 : n0 ≤ h0.size) (vcs : Int32) (hcs : ¬ vcs = 0) (O0 : Old Z n0 h0) (SCS : sCS Z vcs) (SAD : sAD Z) (SHI : sHI Z) (SLO : sLO Z) (vfm : Value) (rfm : vfm.isRef = true) (SFM : sFM Z vfm) (vb : Nat) (E1 : Exa Z h0 a1 "java/lang/String") (Fv : fV Z h0 a1 (.ref vb)) (Fc : fC Z h0 a1 (.int 1)) (c0 c1 c2 : Int32) (Ab : Ary Z h0 vb .byte [(.int (own_lo 65279)), (.int (own_hi 65279)), (.int (own_lo c0)), (.int (own_hi c0)), (.int (own_lo c1)), (.int (own_hi c1)), (.int (own_lo c2)), (.int (own_hi c2))]) (q0 : own_rg c0) (q1 : own_rg c1) (q2 : own_rg c2) (ica : Nat) (ivs : List Value) (SIH : sIH Z) (SIC : sIC Z ica) (AIC : Ary Z Z.heap ica (.object "java/lang/Integer") ivs) (hi256 : ivs.length = 256) (hIC : pIC Z ivs) (vd : Nat) (SDV : sDV Z vd) (ADV : Ary Z Z.heap vd (.object "java/lang/Object") []) (EX : Exa Z h0 ax cX) (gx : n0 ≤ ax) (Fpath : fP Z h0 ax .null) (Ftext : fT Z h0 ax .null) (FlineStarts : fX Z h0 ax .null) (hxs : ax ≠ a1) (hxv : ax ≠ vb) :
    Con l Z ⟨cX, "<init>", "(Ljava/lang/String;Ljava/lang/String;)V"⟩ prog_195_method_1_code 3 none ⟨8, 5, 25, 124⟩ #[(.ref ax), (.ref a2), (.ref a1)] h0 (fun v h L => v = none ∧ Fr n0 L ∧ Keep h0 h [ax] ∧ ∃ la : Nat, h0.size ≤ la ∧ fX Z h ax (.ref la) ∧ Ary Z h la .int (List.map own_iv (own_ls [c0, c1, c2]))) := by
  refine Con.o (L := #[vR ax, vR a2, vR a1]) n0 d82 pf_52 (by simp [argsToLocals, Value.category]) ?_
  intro p e s m _ _ c T0 X0 hx hby hml hZ hown hnm hret hlk e0 N0 D
  have lt_1 := own_ltE E1
  have lt_2 := own_ltA Ab
  have lt_3 := own_ltE EX
  let j_553 := (mkF m 1 #[vR ax, vR a2, vR a1] [(.ref ax)])
  refine Go.s T0 j_553 (fun _ hr => yb X0 hx (D 0 rfl) rfl rfl hr) ?_
  obtain ⟨T_4, X_4, e_4, st_4⟩ := initO X0 hx hZ hown (hq hw 47 rfl) (hq hw 29 rfl) (hq hw 30 rfl) e0 (g := j_553) rfl (by rw [hml]; rfl) rfl (D 1 rfl) (by decide) (W := 0) (by show 2 * 0 + _ ≤ _; exact Nat.le_of_eq rfl) (by decide)
  let j_554 := (mkF m 6 #[vR ax, vR a2, vR a1] [(.ref a2), (.ref ax)])
  refine Go.s T_4 j_554 (fun _ hr => st_4 _ (yb X_4 hx (D 2 rfl) rfl rfl (yb X_4 hx (D 3 rfl) rfl rfl hr))) ?_
  obtain ⟨T_5, h_5, X_5, e_5, W_5, st_5⟩ := putF X_4 hx hZ hown (host := "") (Or.inl (hq hw 48 rfl)) Via.refl e_4 Fpath EX (Or.inr ⟨(hq hw 49 rfl), rfl, hnm⟩) (hq hw 6 rfl) (ty := (.object "java/lang/String")) (by decide) rfl rfl (g := j_554) rfl rfl (D 4 rfl)
  have N_5 := Fr.snoc X_5 N0 (by omega)
  have z_5 := W_5.size
  have F_5 := Fpath.same W_5
  let j_555 := (mkF m 11 #[vR ax, vR a2, vR a1] [(.ref a1), (.ref ax)])
  refine Go.s T_5 j_555 (fun _ hr => st_5 _ (yb X_5 hx (D 5 rfl) rfl rfl (yb X_5 hx (D 6 rfl) rfl rfl hr))) ?_
  have F_7 := (Fv.other W_5 (Or.inl (own_ne (by omega))))
  have F_8 := (Ab.other W_5 (own_ne (by omega)))
  have F_9 := (E1.wr W_5)
  obtain ⟨v_6, T_6, h_6, L_6, X_6, e_6, ⟨rfl, N_6, hh_6⟩, st_6⟩ := cV X_5 hx hZ hown (hq hw 50 rfl) (hq hw 51 rfl) (hq hw 53 rfl) (hq hw 53 rfl) (hq hw 52 rfl) (hq hw 9 rfl) (hq hw 54 rfl) e_5 F_9 hml (rmEm1 l Z a0 hw a1 h_5 n0 (by omega) vb F_7 _ F_8 (by simp +decide) (by simp +decide)) (g := j_555) rfl rfl (lenOf pd_12 rfl) rfl (D 7 rfl) (W := 1) rfl rfl (by decide)
  have N_6' := Fr.app N_5 N_6
  rw [hh_6] at e_6
  let j_556 := (mkF m 19 #[vR ax, vR a2, vR a1] [(.int 0), (.ref a1), (.ref ax)])
  refine Go.s T_6 j_556 (fun _ hr => st_6 _ (yM X_6 hx (D 8 rfl) (XT.i0_ne_f (by decide)) (yb X_6 hx (D 9 rfl) rfl rfl (yc X_6 hx (D 10 rfl) hr)))) ?_
  have F_11 := (O0.wr W_5 (by omega))
  have F_12 := (Fc.other W_5 (Or.inl (own_ne (by omega))))
  obtain ⟨v_10, T_10, h_10, L_10, X_10, e_10, ⟨rfl, N_10, hh_10⟩, st_10⟩ := cV X_6 hx hZ hown (hq hw 55 rfl) (hq hw 56 rfl) (hq hw 58 rfl) (hq hw 58 rfl) (hq hw 57 rfl) (hq hw 9 rfl) (hq hw 59 rfl) e_6 F_9 hml (rmCAU4 l Z a0 hw a1 h_5 n0 (by omega) vcs hcs F_11 SCS SAD SHI SLO vfm rfm SFM vb F_9 F_7 F_12 c0 c1 c2 F_8 q0 q1 q2) (g := j_556) rfl rfl (lenOf pd_24 rfl) rfl (D 11 rfl) (W := 1) rfl rfl (by decide)
  have N_10' := Fr.app N_6' N_10
  rw [hh_10] at e_10
  let j_557 := (mkF m 22 #[vR ax, vR a2, vR a1] [(.int 65279), (.ref ax)])
  refine Go.s T_10 j_557 st_10 ?_
  let j_558 := (mkF m 29 #[vR ax, vR a2, vR a1] [(.int 1), (.ref a1), (.ref ax)])
  refine Go.s T_10 j_558 (fun _ hr => (own_ldc X_10 hx hZ hown (index := 23) (x := 65279) (hq hw 77 rfl) (g := j_557) rfl (D 12 rfl)) _ (yN X_10 hx (D 13 rfl) (XT.ii_ne_f (by decide)) (yb X_10 hx (D 14 rfl) rfl rfl (yc X_10 hx (D 15 rfl) hr)))) ?_
  obtain ⟨v_13, T_13, h_13, L_13, X_13, e_13, ⟨sa_13, rfl, N_13, K_13, g_13, E1_13, vb_13, gg_13, F1_13, F2_13, B_13⟩, st_13⟩ := cV X_10 hx hZ hown (hq hw 250 rfl) (hq hw 251 rfl) (hq hw 253 rfl) (hq hw 253 rfl) (hq hw 252 rfl) (hq hw 9 rfl) (hq hw 254 rfl) e_10 F_9 hml (rmSubA4 l Z a0 hw a1 h_5 n0 (by omega) vcs hcs F_11 SCS SAD SHI SLO vfm rfm SFM vb F_9 F_7 F_12 c0 c1 c2 F_8 q0 q1 q2) (g := j_558) rfl rfl (lenOf pd_35 rfl) rfl (D 16 rfl) (W := 1) rfl rfl (by decide)
  have N_13' := Fr.app N_10' N_13
  have z_13 := K_13.1
  have B_13' : Ary Z h_13 vb_13 .byte ([c0, c1, c2].map own_bv) := B_13
  have yv_13 := own_ltA B_13
  have ys_13 := own_ltE E1_13
  let j_559 := (mkF m 36 #[vR ax, vR a2, vR a1] [(.ref sa_13), (.ref ax)])
  refine Go.s T_13 j_559 (fun _ hr => st_13 _ (yg X_13 hx (D 17 rfl) (pc' := 36) rfl hr)) ?_
  have F_14 := ((Ftext.other W_5 (Or.inr (slot_ne (t := (.object "java/lang/String")) (t' := (.object "java/lang/String")) (Or.inr (hq hw 79 rfl)) (Or.inr (hq hw 49 rfl)) (by decide) (by decide) (by decide)))).keep K_13 nin0)
  have F_15 := ((EX.wr W_5).keep K_13)
  obtain ⟨T_16, h_16, X_16, e_16, W_16, st_16⟩ := putF X_13 hx hZ hown (host := "") (Or.inl (hq hw 78 rfl)) Via.refl e_13 F_14 F_15 (Or.inr ⟨(hq hw 79 rfl), rfl, hnm⟩) (hq hw 6 rfl) (ty := (.object "java/lang/String")) (by decide) rfl rfl (g := j_559) rfl rfl (D 19 rfl)
  have N_16 := Fr.snoc X_16 N_13' (by omega)
  have z_16 := W_16.size
  have F_16 := F_14.same W_16
  let j_560 := (mkF m 41 #[vR ax, vR a2, vR a1] [(.ref ax), (.ref ax)])
  refine Go.s T_16 j_560 (fun _ hr => st_16 _ (yb X_16 hx (D 20 rfl) rfl rfl (yb X_16 hx (D 21 rfl) rfl rfl hr))) ?_
  obtain ⟨T_17, X_17, e_17, st_17⟩ := getF X_16 hx hZ hown (host := "") (Or.inl (hq hw 78 rfl)) Via.refl e_16 F_16 (g := j_560) rfl rfl (D 22 rfl)
  let j_561 := (mkF m 44 #[vR ax, vR a2, vR a1] [(.ref sa_13), (.ref ax)])
  refine Go.s T_17 j_561 st_17 ?_
  have F_19 := ((F_11.keep K_13 all0).wr W_16 (by omega))
  have F_20 := (E1_13.wr W_16)
  have F_21 := (F1_13.other W_16 (Or.inl (own_ne (by omega))))
  have F_22 := (F2_13.other W_16 (Or.inl (own_ne (by omega))))
  have F_23 := (B_13'.other W_16 (own_ne (by omega)))
  obtain ⟨v_18, T_18, h_18, L_18, X_18, e_18, ⟨la_18, rfl, N_18, K_18, g_18, B_18⟩, st_18⟩ := cS X_17 hx hZ hown (hq hw 80 rfl) (hq hw 81 rfl) (hq hw 7 rfl) (hq hw 82 rfl) e_17 hml (rmLS l Z a0 hw sa_13 h_16 n0 (by omega) vcs hcs F_19 SCS vb_13 F_20 F_21 F_22 [c0, c1, c2] F_23 (own_l1_3 q0 q1 q2) vfm rfm SFM ica ivs SIH SIC AIC hi256 hIC vd SDV ADV) (g := j_561) rfl rfl (lenOf pd_34 rfl) rfl (D 23 rfl) (W := 1) rfl rfl (by decide)
  have N_18' := Fr.app N_16 N_18
  have z_18 := K_18.1
  have yl_18 := own_ltA B_18
  let j_562 := (mkF m 47 #[vR ax, vR a2, vR a1] [(.ref la_18), (.ref ax)])
  refine Go.s T_18 j_562 st_18 ?_
  have F_24 := ((((FlineStarts.other W_5 (Or.inr (slot_ne (t := (.array .int)) (t' := (.object "java/lang/String")) (Or.inr (hq hw 212 rfl)) (Or.inr (hq hw 49 rfl)) (by decide) (by decide) (by decide)))).keep K_13 nin0).other W_16 (Or.inr (slot_ne (t := (.array .int)) (t' := (.object "java/lang/String")) (Or.inr (hq hw 212 rfl)) (Or.inr (hq hw 79 rfl)) (by decide) (by decide) (by decide)))).keep K_18 nin0)
  have F_25 := ((F_15.wr W_16).keep K_18)
  obtain ⟨T_26, h_26, X_26, e_26, W_26, st_26⟩ := putF X_18 hx hZ hown (host := "") (Or.inl (hq hw 211 rfl)) Via.refl e_18 F_24 F_25 (Or.inr ⟨(hq hw 212 rfl), rfl, hnm⟩) (hq hw 6 rfl) (ty := (.array .int)) (by decide) rfl rfl (g := j_562) rfl rfl (D 24 rfl)
  have N_26 := Fr.snoc X_26 N_18' (by omega)
  have z_26 := W_26.size
  have F_26 := F_24.same W_26
  refine Go.s T_26 (mkF m 50 #[vR ax, vR a2, vR a1] []) st_26 ?_
  refine Go.retV X_26 hx hlk hret (D 25 rfl) (by decide) (by decide) ?_
  try rw [e_26]
  have F_27 := (B_18.other W_26 (own_ne (by omega)))
  exact ⟨rfl, N_26, ((((((Keep.refl h0 [ax]).wr W_5 (Or.inl (by simp))).trans K_13 all0).wr W_16 (Or.inl (by simp))).trans K_18 all0).wr W_26 (Or.inl (by simp))), la_18, by omega, F_26, F_27⟩
theorem rmSXU5 (hw : own_W a0 Z) (ax : Nat) (a2 : Nat) (a1 : Nat) (h0 : Heap) (n0 : Nat) (Z0 : n0 ≤ h0.size) (vcs : Int32) (hcs : ¬ vcs = 0) (O0 : Old Z n0 h0) (SCS : sCS Z vcs) (SAD : sAD Z) (SHI : sHI Z) (SLO : sLO Z) (vfm : Value) (rfm : vfm.isRef = true) (SFM : sFM Z vfm) (vb : Nat) (E1 : Exa Z h0 a1 "java/lang/String") (Fv : fV Z h0 a1 (.ref vb)) (Fc : fC Z h0 a1 (.int 1)) (c0 c1 c2 c3 : Int32) (Ab : Ary Z h0 vb .byte [(.int (own_lo 65279)), (.int (own_hi 65279)), (.int (own_lo c0)), (.int (own_hi c0)), (.int (own_lo c1)), (.int (own_hi c1)), (.int (own_lo c2)), (.int (own_hi c2)), (.int (own_lo c3)), (.int (own_hi c3))]) (q0 : own_rg c0) (q1 : own_rg c1) (q2 : own_rg c2) (q3 : own_rg c3) (ica : Nat) (ivs : List Value) (SIH : sIH Z) (SIC : sIC Z ica) (AIC : Ary Z Z.heap ica (.object "java/lang/Integer") ivs) (hi256 : ivs.length = 256) (hIC : pIC Z ivs) (vd : Nat) (SDV : sDV Z vd) (ADV : Ary Z Z.heap vd (.object "java/lang/Object") []) (EX : Exa Z h0 ax cX) (gx : n0 ≤ ax) (Fpath : fP Z h0 ax .null) (Ftext : fT Z h0 ax .null) (FlineStarts : fX Z h0 ax .null) (hxs : ax ≠ a1) (hxv : ax ≠ vb) :
    Con l Z ⟨cX, "<init>", "(Ljava/lang/String;Ljava/lang/String;)V"⟩ prog_195_method_1_code 3 none ⟨8, 5, 26, 124⟩ #[(.ref ax), (.ref a2), (.ref a1)] h0 (fun v h L => v = none ∧ Fr n0 L ∧ Keep h0 h [ax] ∧ ∃ la : Nat, h0.size ≤ la ∧ fX Z h ax (.ref la) ∧ Ary Z h la .int (List.map own_iv (own_ls [c0, c1, c2, c3]))) := by
  refine Con.o (L := #[vR ax, vR a2, vR a1]) n0 d82 pf_52 (by simp [argsToLocals, Value.category]) ?_
  intro p e s m _ _ c T0 X0 hx hby hml hZ hown hnm hret hlk e0 N0 D
  have lt_1 := own_ltE E1
  have lt_2 := own_ltA Ab
  have lt_3 := own_ltE EX
  let j_563 := (mkF m 1 #[vR ax, vR a2, vR a1] [(.ref ax)])
  refine Go.s T0 j_563 (fun _ hr => yb X0 hx (D 0 rfl) rfl rfl hr) ?_
  obtain ⟨T_4, X_4, e_4, st_4⟩ := initO X0 hx hZ hown (hq hw 47 rfl) (hq hw 29 rfl) (hq hw 30 rfl) e0 (g := j_563) rfl (by rw [hml]; rfl) rfl (D 1 rfl) (by decide) (W := 0) (by show 2 * 0 + _ ≤ _; exact Nat.le_of_eq rfl) (by decide)
  let j_564 := (mkF m 6 #[vR ax, vR a2, vR a1] [(.ref a2), (.ref ax)])
  refine Go.s T_4 j_564 (fun _ hr => st_4 _ (yb X_4 hx (D 2 rfl) rfl rfl (yb X_4 hx (D 3 rfl) rfl rfl hr))) ?_
  obtain ⟨T_5, h_5, X_5, e_5, W_5, st_5⟩ := putF X_4 hx hZ hown (host := "") (Or.inl (hq hw 48 rfl)) Via.refl e_4 Fpath EX (Or.inr ⟨(hq hw 49 rfl), rfl, hnm⟩) (hq hw 6 rfl) (ty := (.object "java/lang/String")) (by decide) rfl rfl (g := j_564) rfl rfl (D 4 rfl)
  have N_5 := Fr.snoc X_5 N0 (by omega)
  have z_5 := W_5.size
  have F_5 := Fpath.same W_5
  let j_565 := (mkF m 11 #[vR ax, vR a2, vR a1] [(.ref a1), (.ref ax)])
  refine Go.s T_5 j_565 (fun _ hr => st_5 _ (yb X_5 hx (D 5 rfl) rfl rfl (yb X_5 hx (D 6 rfl) rfl rfl hr))) ?_
  have F_7 := (Fv.other W_5 (Or.inl (own_ne (by omega))))
  have F_8 := (Ab.other W_5 (own_ne (by omega)))
  have F_9 := (E1.wr W_5)
  obtain ⟨v_6, T_6, h_6, L_6, X_6, e_6, ⟨rfl, N_6, hh_6⟩, st_6⟩ := cV X_5 hx hZ hown (hq hw 50 rfl) (hq hw 51 rfl) (hq hw 53 rfl) (hq hw 53 rfl) (hq hw 52 rfl) (hq hw 9 rfl) (hq hw 54 rfl) e_5 F_9 hml (rmEm1 l Z a0 hw a1 h_5 n0 (by omega) vb F_7 _ F_8 (by simp +decide) (by simp +decide)) (g := j_565) rfl rfl (lenOf pd_12 rfl) rfl (D 7 rfl) (W := 1) rfl rfl (by decide)
  have N_6' := Fr.app N_5 N_6
  rw [hh_6] at e_6
  let j_566 := (mkF m 19 #[vR ax, vR a2, vR a1] [(.int 0), (.ref a1), (.ref ax)])
  refine Go.s T_6 j_566 (fun _ hr => st_6 _ (yM X_6 hx (D 8 rfl) (XT.i0_ne_f (by decide)) (yb X_6 hx (D 9 rfl) rfl rfl (yc X_6 hx (D 10 rfl) hr)))) ?_
  have F_11 := (O0.wr W_5 (by omega))
  have F_12 := (Fc.other W_5 (Or.inl (own_ne (by omega))))
  obtain ⟨v_10, T_10, h_10, L_10, X_10, e_10, ⟨rfl, N_10, hh_10⟩, st_10⟩ := cV X_6 hx hZ hown (hq hw 55 rfl) (hq hw 56 rfl) (hq hw 58 rfl) (hq hw 58 rfl) (hq hw 57 rfl) (hq hw 9 rfl) (hq hw 59 rfl) e_6 F_9 hml (rmCAU5 l Z a0 hw a1 h_5 n0 (by omega) vcs hcs F_11 SCS SAD SHI SLO vfm rfm SFM vb F_9 F_7 F_12 c0 c1 c2 c3 F_8 q0 q1 q2 q3) (g := j_566) rfl rfl (lenOf pd_24 rfl) rfl (D 11 rfl) (W := 1) rfl rfl (by decide)
  have N_10' := Fr.app N_6' N_10
  rw [hh_10] at e_10
  let j_567 := (mkF m 22 #[vR ax, vR a2, vR a1] [(.int 65279), (.ref ax)])
  refine Go.s T_10 j_567 st_10 ?_
  let j_568 := (mkF m 29 #[vR ax, vR a2, vR a1] [(.int 1), (.ref a1), (.ref ax)])
  refine Go.s T_10 j_568 (fun _ hr => (own_ldc X_10 hx hZ hown (index := 23) (x := 65279) (hq hw 77 rfl) (g := j_567) rfl (D 12 rfl)) _ (yN X_10 hx (D 13 rfl) (XT.ii_ne_f (by decide)) (yb X_10 hx (D 14 rfl) rfl rfl (yc X_10 hx (D 15 rfl) hr)))) ?_
  obtain ⟨v_13, T_13, h_13, L_13, X_13, e_13, ⟨sa_13, rfl, N_13, K_13, g_13, E1_13, vb_13, gg_13, F1_13, F2_13, B_13⟩, st_13⟩ := cV X_10 hx hZ hown (hq hw 250 rfl) (hq hw 251 rfl) (hq hw 253 rfl) (hq hw 253 rfl) (hq hw 252 rfl) (hq hw 9 rfl) (hq hw 254 rfl) e_10 F_9 hml (rmSubA5 l Z a0 hw a1 h_5 n0 (by omega) vcs hcs F_11 SCS SAD SHI SLO vfm rfm SFM vb F_9 F_7 F_12 c0 c1 c2 c3 F_8 q0 q1 q2 q3) (g := j_568) rfl rfl (lenOf pd_35 rfl) rfl (D 16 rfl) (W := 1) rfl rfl (by decide)
  have N_13' := Fr.app N_10' N_13
  have z_13 := K_13.1
  have B_13' : Ary Z h_13 vb_13 .byte ([c0, c1, c2, c3].map own_bv) := B_13
  have yv_13 := own_ltA B_13
  have ys_13 := own_ltE E1_13
  let j_569 := (mkF m 36 #[vR ax, vR a2, vR a1] [(.ref sa_13), (.ref ax)])
  refine Go.s T_13 j_569 (fun _ hr => st_13 _ (yg X_13 hx (D 17 rfl) (pc' := 36) rfl hr)) ?_
  have F_14 := ((Ftext.other W_5 (Or.inr (slot_ne (t := (.object "java/lang/String")) (t' := (.object "java/lang/String")) (Or.inr (hq hw 79 rfl)) (Or.inr (hq hw 49 rfl)) (by decide) (by decide) (by decide)))).keep K_13 nin0)
  have F_15 := ((EX.wr W_5).keep K_13)
  obtain ⟨T_16, h_16, X_16, e_16, W_16, st_16⟩ := putF X_13 hx hZ hown (host := "") (Or.inl (hq hw 78 rfl)) Via.refl e_13 F_14 F_15 (Or.inr ⟨(hq hw 79 rfl), rfl, hnm⟩) (hq hw 6 rfl) (ty := (.object "java/lang/String")) (by decide) rfl rfl (g := j_569) rfl rfl (D 19 rfl)
  have N_16 := Fr.snoc X_16 N_13' (by omega)
  have z_16 := W_16.size
  have F_16 := F_14.same W_16
  let j_570 := (mkF m 41 #[vR ax, vR a2, vR a1] [(.ref ax), (.ref ax)])
  refine Go.s T_16 j_570 (fun _ hr => st_16 _ (yb X_16 hx (D 20 rfl) rfl rfl (yb X_16 hx (D 21 rfl) rfl rfl hr))) ?_
  obtain ⟨T_17, X_17, e_17, st_17⟩ := getF X_16 hx hZ hown (host := "") (Or.inl (hq hw 78 rfl)) Via.refl e_16 F_16 (g := j_570) rfl rfl (D 22 rfl)
  let j_571 := (mkF m 44 #[vR ax, vR a2, vR a1] [(.ref sa_13), (.ref ax)])
  refine Go.s T_17 j_571 st_17 ?_
  have F_19 := ((F_11.keep K_13 all0).wr W_16 (by omega))
  have F_20 := (E1_13.wr W_16)
  have F_21 := (F1_13.other W_16 (Or.inl (own_ne (by omega))))
  have F_22 := (F2_13.other W_16 (Or.inl (own_ne (by omega))))
  have F_23 := (B_13'.other W_16 (own_ne (by omega)))
  obtain ⟨v_18, T_18, h_18, L_18, X_18, e_18, ⟨la_18, rfl, N_18, K_18, g_18, B_18⟩, st_18⟩ := cS X_17 hx hZ hown (hq hw 80 rfl) (hq hw 81 rfl) (hq hw 7 rfl) (hq hw 82 rfl) e_17 hml (rmLS l Z a0 hw sa_13 h_16 n0 (by omega) vcs hcs F_19 SCS vb_13 F_20 F_21 F_22 [c0, c1, c2, c3] F_23 (own_l1_4 q0 q1 q2 q3) vfm rfm SFM ica ivs SIH SIC AIC hi256 hIC vd SDV ADV) (g := j_571) rfl rfl (lenOf pd_34 rfl) rfl (D 23 rfl) (W := 1) rfl rfl (by decide)
  have N_18' := Fr.app N_16 N_18
  have z_18 := K_18.1
  have yl_18 := own_ltA B_18
  let j_572 := (mkF m 47 #[vR ax, vR a2, vR a1] [(.ref la_18), (.ref ax)])
  refine Go.s T_18 j_572 st_18 ?_
  have F_24 := ((((FlineStarts.other W_5 (Or.inr (slot_ne (t := (.array .int)) (t' := (.object "java/lang/String")) (Or.inr (hq hw 212 rfl)) (Or.inr (hq hw 49 rfl)) (by decide) (by decide) (by decide)))).keep K_13 nin0).other W_16 (Or.inr (slot_ne (t := (.array .int)) (t' := (.object "java/lang/String")) (Or.inr (hq hw 212 rfl)) (Or.inr (hq hw 79 rfl)) (by decide) (by decide) (by decide)))).keep K_18 nin0)
  have F_25 := ((F_15.wr W_16).keep K_18)
  obtain ⟨T_26, h_26, X_26, e_26, W_26, st_26⟩ := putF X_18 hx hZ hown (host := "") (Or.inl (hq hw 211 rfl)) Via.refl e_18 F_24 F_25 (Or.inr ⟨(hq hw 212 rfl), rfl, hnm⟩) (hq hw 6 rfl) (ty := (.array .int)) (by decide) rfl rfl (g := j_572) rfl rfl (D 24 rfl)
  have N_26 := Fr.snoc X_26 N_18' (by omega)
  have z_26 := W_26.size
  have F_26 := F_24.same W_26
  refine Go.s T_26 (mkF m 50 #[vR ax, vR a2, vR a1] []) st_26 ?_
  refine Go.retV X_26 hx hlk hret (D 25 rfl) (by decide) (by decide) ?_
  try rw [e_26]
  have F_27 := (B_18.other W_26 (own_ne (by omega)))
  exact ⟨rfl, N_26, ((((((Keep.refl h0 [ax]).wr W_5 (Or.inl (by simp))).trans K_13 all0).wr W_16 (Or.inl (by simp))).trans K_18 all0).wr W_26 (Or.inl (by simp))), la_18, by omega, F_26, F_27⟩
theorem rmS40 (hw : own_W a0 Z) (a1 : Nat) (a2 : Nat) (h0 : Heap) (n0 : Nat) (Z0 : n0 ≤ h0.size) (vcs : Int32) (hcs : ¬ vcs = 0) (O0 : Old Z n0 h0) (SCS : sCS Z vcs) (E1 : Exa Z h0 a1 "java/lang/String") (Fv : fV Z h0 a1 .null) (Fc : fC Z h0 a1 (.int 0)) (g1 : n0 ≤ a1) (Ac : Ary Z h0 a2 .char []) (hne : a1 ≠ a2) :
    ConH l Z ⟨"java/lang/String", "<init>", "([CIILjava/lang/Void;)V"⟩ jdk_42_method_149_code 6 none ⟨1, 4, 8, 12⟩ #[(.ref a1), (.ref a2), (.int 0), (.int 0), .null] h0 (fun v h L => v = none ∧ Fr n0 L ∧ Keep h0 h [a1] ∧ ∃ vb : Nat, fV Z h a1 (.ref vb) ∧ fC Z h a1 (.int 0) ∧ Ary Z h vb .byte []) := by
  refine ConH.o (L := #[vR a1, vR a2, vI 0, vI 0, .val .null, vU]) n0 d7 pf_6 (by simp [argsToLocals, Value.category]) ?_
  intro p e s m _ _ c T0 X0 hx hby hml hZ hown hnm hret hlk e0 H0 N0 D
  have c_0 := CHr.refl H0
  have ss0a1 := own_safeNull (EL := own_EL) hZ.alike E1 Fv
  have lt_1 := own_ltE E1
  have lt_2 := own_ltA Ac
  let j_573 := (mkF m 1 #[vR a1, vR a2, vI 0, vI 0, .val .null, vU] [(.ref a1)])
  refine GoH.s T0 j_573 (fun _ hr => yb X0 hx (D 0 rfl) rfl rfl hr) ?_
  obtain ⟨T_3, X_3, e_3, st_3⟩ := initO X0 hx hZ hown (hq hw 28 rfl) (hq hw 29 rfl) (hq hw 30 rfl) e0 (g := j_573) rfl (by rw [hml]; rfl) rfl (D 1 rfl) (by decide) (W := 0) (by show 2 * 0 + _ ≤ _; exact Nat.le_of_eq rfl) (by decide)
  let j_574 := (mkF m 9 #[vR a1, vR a2, vI 0, vI 0, .val .null, vU] [(.ref a1)])
  refine GoH.s T_3 j_574 (fun _ hr => st_3 _ (yj X_3 hx (D 2 rfl) rfl (yM X_3 hx (D 3 rfl) (XT.i0_ne_f (by decide)) (yb X_3 hx (D 4 rfl) rfl rfl hr)))) ?_
  obtain ⟨a_4, T_4, h_4, b_4, X_4, e_4, E_4, S_4, hZ_4, ho_4, Ex_4, Fc_4, Fv_4, A_4, C_4, sf_4, st_4⟩ := own_ldcH X_3 hx hZ hown (hq hw 292 rfl) (own_strA hw) e_3 (own_ew hw) (by decide) c_0.1 (g := j_574) rfl (D 5 rfl) (by decide) (by decide)
  have z_4 := E_4.1
  have la_4 := own_ltE Ex_4
  have lb_4 := own_ltA A_4
  let j_575 := (mkF m 11 #[vR a1, vR a2, vI 0, vI 0, .val .null, vU] [(.ref a_4), (.ref a1)])
  refine GoH.s T_4 j_575 st_4 ?_
  refine GoH.lift S_4 (Nat.le_refl _) (c_0.trans C_4) ?_
  have ss_4a1 := own_crS (c_0.trans C_4) (by omega) ss0a1
  have hZ : Z.Warmed39 (s.setVm T_4.vm).vm := hZ_4
  have hown := ho_4
  have c_4 := CHr.refl C_4.1
  have nn_4a1 := sf_4 a1 ss_4a1
  obtain ⟨T_5, X_5, e_5, st_5⟩ := getF X_4 hx hZ hown (host := "") (Or.inl (hq hw 43 rfl)) Via.refl e_4 Fv_4 (g := j_575) rfl rfl (D 6 rfl)
  let j_576 := (mkF m 14 #[vR a1, vR a2, vI 0, vI 0, .val .null, vU] [(.ref b_4), (.ref a1)])
  refine GoH.s T_5 j_576 st_5 ?_
  have F_6 := (Fv.ext E_4)
  have F_7 := (E1.ext E_4)
  obtain ⟨T_8, h_8, X_8, e_8, W_8, st_8⟩ := putF X_5 hx hZ hown (host := "") (Or.inl (hq hw 43 rfl)) Via.refl e_5 F_6 F_7 (Or.inr ⟨(hq hw 12 rfl), rfl, hnm⟩) (hq hw 10 rfl) (ty := (.array .byte)) (by decide) rfl rfl (g := j_576) rfl rfl (D 7 rfl)
  have N_8 := Fr.snoc X_8 N0 (by omega)
  have z_8 := W_8.size
  have F_8 := F_6.same W_8
  let j_577 := (mkF m 18 #[vR a1, vR a2, vI 0, vI 0, .val .null, vU] [(.ref a1)])
  refine GoH.s T_8 j_577 (fun _ hr => st_8 _ (yb X_8 hx (D 8 rfl) rfl rfl hr)) ?_
  have c_9 := c_4.trans (CHr.wr W_8 (own_crS c_4 (by omega) ss_4a1) c_4.1)
  obtain ⟨a_10, T_10, h_10, b_10, X_10, e_10, E_10, S_10, hZ_10, ho_10, Ex_10, Fc_10, Fv_10, A_10, C_10, sf_10, st_10⟩ := own_ldcH X_8 hx hZ hown (hq hw 292 rfl) (own_strA hw) e_8 (own_ew hw) (by decide) c_9.1 (g := j_577) rfl (D 9 rfl) (by decide) (by decide)
  have z_10 := E_10.1
  have la_10 := own_ltE Ex_10
  have lb_10 := own_ltA A_10
  let j_578 := (mkF m 20 #[vR a1, vR a2, vI 0, vI 0, .val .null, vU] [(.ref a_10), (.ref a1)])
  refine GoH.s T_10 j_578 st_10 ?_
  refine GoH.lift S_10 (Nat.le_refl _) (c_9.trans C_10) ?_
  have ss_10a1 := own_crS (c_9.trans C_10) (by omega) ss_4a1
  have hZ : Z.Warmed39 ((s.setVm T_4.vm).setVm T_10.vm).vm := hZ_10
  have hown := ho_10
  have c_10 := CHr.refl C_10.1
  have nn_10a1 := sf_10 a1 ss_10a1
  obtain ⟨T_11, X_11, e_11, st_11⟩ := getF X_10 hx hZ hown (host := "") (Or.inl (hq hw 42 rfl)) Via.refl e_10 Fc_10 (g := j_578) rfl rfl (D 10 rfl)
  let j_579 := (mkF m 23 #[vR a1, vR a2, vI 0, vI 0, .val .null, vU] [(.int 0), (.ref a1)])
  refine GoH.s T_11 j_579 st_11 ?_
  have F_12 := (((Fc.ext E_4).other W_8 (Or.inr (slot_ne (t := .byte) (t' := (.array .byte)) (Or.inr (hq hw 13 rfl)) (Or.inr (hq hw 12 rfl)) (by decide) (by decide) (by decide)))).ext E_10)
  have F_13 := ((F_7.wr W_8).ext E_10)
  obtain ⟨T_14, h_14, X_14, e_14, W_14, st_14⟩ := putF X_11 hx hZ hown (host := "") (Or.inl (hq hw 42 rfl)) Via.refl e_11 F_12 F_13 (Or.inr ⟨(hq hw 13 rfl), rfl, hnm⟩) (hq hw 10 rfl) (ty := .byte) (by decide) rfl (by simp [fits]) (g := j_579) rfl rfl (D 11 rfl)
  have N_14 := Fr.snoc X_14 N_8 (by omega)
  have z_14 := W_14.size
  have F_14 := F_12.same W_14
  refine GoH.s T_14 (mkF m 26 #[vR a1, vR a2, vI 0, vI 0, .val .null, vU] []) st_14 ?_
  refine GoH.retV X_14 hx hlk hret (D 12 rfl) (by decide) (by decide) ?_
  try rw [e_14]
  have c_15 := c_10.trans (CHr.wr W_14 (own_crS c_10 (by omega) ss_10a1) c_10.1)
  refine ⟨?_, hZ, ⟨a0, own_ew hw⟩, c_15⟩
  have F_16 := ((F_8.ext E_10).other W_14 (Or.inr (slot_ne (t := (.array .byte)) (t' := .byte) (Or.inr (hq hw 12 rfl)) (Or.inr (hq hw 13 rfl)) (by decide) (by decide) (by decide))))
  have F_17 := (((A_4.other W_8 (own_ne (by omega))).ext E_10).other W_14 (own_ne (by omega)))
  exact ⟨rfl, N_14, (((((Keep.refl h0 [a1]).ext E_4).wr W_8 (Or.inl (by simp))).ext E_10).wr W_14 (Or.inl (by simp))), b_4, F_16, F_14, F_17⟩
theorem rmS10 (hw : own_W a0 Z) (a1 : Nat) (a2 : Nat) (h0 : Heap) (n0 : Nat) (Z0 : n0 ≤ h0.size) (vcs : Int32) (hcs : ¬ vcs = 0) (O0 : Old Z n0 h0) (SCS : sCS Z vcs) (E1 : Exa Z h0 a1 "java/lang/String") (Fv : fV Z h0 a1 .null) (Fc : fC Z h0 a1 (.int 0)) (g1 : n0 ≤ a1) (Ac : Ary Z h0 a2 .char []) (hne : a1 ≠ a2) :
    ConH l Z ⟨"java/lang/String", "<init>", "([C)V"⟩ jdk_42_method_3_code 2 none ⟨2, 4, 8, 29⟩ #[(.ref a1), (.ref a2)] h0 (fun v h L => v = none ∧ Fr n0 L ∧ Keep h0 h [a1] ∧ ∃ vb : Nat, fV Z h a1 (.ref vb) ∧ fC Z h a1 (.int 0) ∧ Ary Z h vb .byte []) := by
  refine ConH.o (L := #[vR a1, vR a2]) n0 d8 pf_7 (by simp [argsToLocals, Value.category]) ?_
  intro p e s m _ _ c T0 X0 hx hby hml hZ hown hnm hret hlk e0 H0 N0 D
  have c_0 := CHr.refl H0
  have lt_1 := own_ltE E1
  have lt_2 := own_ltA Ac
  let j_580 := (mkF m 4 #[vR a1, vR a2] [(.ref a2), (.int 0), (.ref a2), (.ref a1)])
  refine GoH.s T0 j_580 (fun _ hr => yb X0 hx (D 0 rfl) rfl rfl (yb X0 hx (D 1 rfl) rfl rfl (yc X0 hx (D 2 rfl) (yb X0 hx (D 3 rfl) rfl rfl hr)))) ?_
  let j_581 := (mkF m 6 #[vR a1, vR a2] [.null, (.int 0), (.int 0), (.ref a2), (.ref a1)])
  refine GoH.s T0 j_581 (fun _ hr => (own_len X0 hx hZ e0 Ac (g := j_580) rfl rfl (D 4 rfl)) _ (yz X0 hx (D 5 rfl) hr)) ?_
  obtain ⟨v_3, T_3, h_3, L_3, X_3, e_3, ⟨rfl, N_3, K_3, vb_3, F1_3, F2_3, B_3⟩, S_3, hZ_3, ho_3, C_3, st_3⟩ := cNH X0 hx hZ hown (hq hw 24 rfl) (hq hw 25 rfl) (hq hw 9 rfl) (hq hw 27 rfl) e0 rfl hml (rmS40 l Z a0 hw a1 a2 h0 n0 Z0 vcs hcs O0 SCS E1 Fv Fc g1 Ac hne) (g := j_581) rfl rfl (lenOf pd_3 rfl) rfl (D 6 rfl) (W := 0) rfl rfl (by decide) (own_ew hw) c_0.1
  have N_3' := Fr.app N0 N_3
  have z_3 := K_3.1
  refine GoH.s T_3 (mkF m 9 #[vR a1, vR a2] []) st_3 ?_
  refine GoH.lift S_3 (Nat.le_refl _) (c_0.trans C_3) ?_
  have hZ : Z.Warmed39 (s.setVm T_3.vm).vm := hZ_3
  have hown := ho_3
  have c_3 := CHr.refl C_3.1
  refine GoH.retV X_3 hx hlk hret (D 7 rfl) (by decide) (by decide) ?_
  try rw [e_3]
  refine ⟨?_, hZ, ⟨a0, own_ew hw⟩, c_3⟩
  exact ⟨rfl, N_3', ((Keep.refl h0 [a1]).trans K_3 (own_t1 (by first | exact Or.inr (by omega) | exact Or.inl (by simp)))), vb_3, F1_3, F2_3, B_3⟩
theorem rmNS1 (hw : own_W a0 Z) (a1 : Nat) (h0 : Heap) (n0 : Nat) (Z0 : n0 ≤ h0.size)  :
    ConH l Z ⟨"java/lang/StringUTF16", "newString", "([BII)Ljava/lang/String;"⟩ jdk_52_method_69_code 5 (some (.object "java/lang/String")) ⟨0, 2, 4, 0⟩ #[(.ref a1), (.int 1), (.int 0)] h0 (fun v h L => ∃ sa : Nat, v = some (.ref sa) ∧ Fr n0 L ∧ Keep h0 h [] ∧ Exa Z h sa "java/lang/String" ∧ ∃ vb : Nat, fV Z h sa (.ref vb) ∧ fC Z h sa (.int 0) ∧ Ary Z h vb .byte []) := by
  refine ConH.o (L := #[vR a1, vI 1, vI 0, vU, vU]) n0 d54 pf_33 (by simp [argsToLocals, Value.category]) ?_
  intro p e s m _ _ c T0 X0 hx hby hml hZ hown hnm hret hlk e0 H0 N0 D
  have c_0 := CHr.refl H0
  let j_582 := (mkF m 4 #[vR a1, vI 1, vI 0, vU, vU] [])
  refine GoH.s T0 j_582 (fun _ hr => yj X0 hx (D 0 rfl) rfl (yM X0 hx (D 1 rfl) (XT.i0_ne_f (by decide)) hr)) ?_
  obtain ⟨a_1, T_1, h_1, b_1, X_1, e_1, E_1, S_1, hZ_1, ho_1, Ex_1, Fc_1, Fv_1, A_1, C_1, st_1⟩ := own_ldcW X0 hx hZ hown (hq hw 270 rfl) (own_strA hw) e0 (own_ew hw) (by decide) c_0.1 (g := j_582) rfl (D 2 rfl) (by decide) (by decide)
  have z_1 := E_1.1
  have la_1 := own_ltE Ex_1
  have lb_1 := own_ltA A_1
  refine GoH.s T_1 (mkF m 7 #[vR a1, vI 1, vI 0, vU, vU] [(.ref a_1)]) st_1 ?_
  refine GoH.lift S_1 (Nat.le_refl _) (c_0.trans C_1) ?_
  have hZ : Z.Warmed39 (s.setVm T_1.vm).vm := hZ_1
  have hown := ho_1
  have c_1 := CHr.refl C_1.1
  refine GoH.retA X_1 hx hlk (t := (.object "java/lang/String")) hret rfl rfl (D 3 rfl) (by decide) (by decide) ?_
  try rw [e_1]
  refine ⟨?_, hZ, ⟨a0, own_ew hw⟩, c_1⟩
  exact ⟨a_1, rfl, N0, ((Keep.refl h0 []).ext E_1), Ex_1, b_1, Fv_1, Fc_1, A_1⟩
theorem rmSubB1 (hw : own_W a0 Z) (a1 : Nat) (h0 : Heap) (n0 : Nat) (Z0 : n0 ≤ h0.size) (vcs : Int32) (hcs : ¬ vcs = 0) (O0 : Old Z n0 h0) (SCS : sCS Z vcs) (SAD : sAD Z) (SHI : sHI Z) (SLO : sLO Z) (vfm : Value) (rfm : vfm.isRef = true) (SFM : sFM Z vfm) (vb : Nat) (E1 : Exa Z h0 a1 "java/lang/String") (Fv : fV Z h0 a1 (.ref vb)) (Fc : fC Z h0 a1 (.int 1)) (Ab : Ary Z h0 vb .byte [(.int (own_lo 65279)), (.int (own_hi 65279))]) :
    ConH l Z ⟨"java/lang/String", "substring", "(II)Ljava/lang/String;"⟩ jdk_42_method_92_code 5 (some (.object "java/lang/String")) ⟨2, 2, 4, 29⟩ #[(.ref a1), (.int 1), (.int 1)] h0 (fun v h L => ∃ sa : Nat, v = some (.ref sa) ∧ Fr n0 L ∧ Keep h0 h [] ∧ Exa Z h sa "java/lang/String" ∧ ∃ vb : Nat, fV Z h sa (.ref vb) ∧ fC Z h sa (.int 0) ∧ Ary Z h vb .byte []) := by
  refine ConH.o (L := #[vR a1, vI 1, vI 1, vU, vU]) n0 d55 pf_34 (by simp [argsToLocals, Value.category]) ?_
  intro p e s m _ _ c T0 X0 hx hby hml hZ hown hnm hret hlk e0 H0 N0 D
  have c_0 := CHr.refl H0
  have lt_1 := own_ltE E1
  have lt_2 := own_ltA Ab
  let j_583 := (mkF m 1 #[vR a1, vI 1, vI 1, vU, vU] [(.ref a1)])
  refine GoH.s T0 j_583 (fun _ hr => yb X0 hx (D 0 rfl) rfl rfl hr) ?_
  obtain ⟨v_3, T_3, h_3, L_3, X_3, e_3, ⟨rfl, N_3, hh_3⟩, st_3⟩ := cV X0 hx hZ hown (hq hw 255 rfl) (hq hw 150 rfl) (hq hw 152 rfl) (hq hw 152 rfl) (hq hw 151 rfl) (hq hw 9 rfl) (hq hw 153 rfl) e0 E1 hml (rmLnU1 l Z a0 hw a1 h0 n0 (by omega) vcs hcs O0 SCS SAD SHI SLO vfm rfm SFM vb E1 Fv Fc Ab) (g := j_583) rfl rfl (lenOf pd_20 rfl) rfl (D 1 rfl) (W := 0) rfl rfl (by decide)
  have N_3' := Fr.app N0 N_3
  rw [hh_3] at e_3
  let j_584 := (mkF m 8 #[vR a1, vI 1, vI 1, vI 1, vU] [(.int 1), (.int 1), (.int 1)])
  refine GoH.s T_3 j_584 (fun _ hr => st_3 _ (yl X_3 hx (D 2 rfl) rfl (yj X_3 hx (D 3 rfl) rfl (yj X_3 hx (D 4 rfl) rfl (yj X_3 hx (D 5 rfl) rfl hr))))) ?_
  obtain ⟨v_4, T_4, h_4, L_4, X_4, e_4, ⟨rfl, N_4, hh_4⟩, st_4⟩ := cS X_3 hx hZ hown (hq hw 261 rfl) (hq hw 262 rfl) (hq hw 9 rfl) (hq hw 263 rfl) e_3 hml (rmCBB l Z a0 hw 1 1 1 h0 n0 (by omega) O0 vfm rfm SFM (by decide) (by decide) (by decide)) (g := j_584) rfl rfl (lenOf pd_21 rfl) rfl (D 6 rfl) (W := 0) rfl rfl (by decide)
  have N_4' := Fr.app N_3' N_4
  rw [hh_4] at e_4
  refine GoH.s T_4 (mkF m 24 #[vR a1, vI 1, vI 1, vI 1, vU] [(.int 1), (.int 1)]) (fun _ hr => st_4 _ (yj X_4 hx (D 7 rfl) rfl (yX X_4 hx (D 8 rfl) (pc' := 22) (XT.i0_ne_t (by decide)) rfl (yj X_4 hx (D 9 rfl) rfl (yj X_4 hx (D 10 rfl) rfl hr))))) ?_
  let j_585 := (mkF m 28 #[vR a1, vI 1, vI 1, vI 1, vI 0] [(.ref a1)])
  refine GoH.s T_4 j_585 (fun _ hr => y2 X_4 hx (D 11 rfl) (yk X_4 hx (D 12 rfl) rfl (yb X_4 hx (D 13 rfl) rfl rfl hr))) ?_
  obtain ⟨v_5, T_5, h_5, L_5, X_5, e_5, ⟨rfl, N_5, hh_5⟩, st_5⟩ := cV X_4 hx hZ hown (hq hw 60 rfl) (hq hw 61 rfl) (hq hw 63 rfl) (hq hw 63 rfl) (hq hw 62 rfl) (hq hw 9 rfl) (hq hw 64 rfl) e_4 E1 hml (rmIL1 l Z a0 hw a1 h0 n0 (by omega) vcs hcs O0 SCS vb E1 Fv Fc [(.int (own_lo 65279)), (.int (own_hi 65279))] Ab) (g := j_585) rfl rfl (lenOf pd_12 rfl) rfl (D 14 rfl) (W := 0) rfl rfl (by decide)
  have N_5' := Fr.app N_4' N_5
  rw [hh_5] at e_5
  let j_586 := (mkF m 48 #[vR a1, vI 1, vI 1, vI 1, vI 0] [(.ref a1)])
  refine GoH.s T_5 j_586 (fun _ hr => st_5 _ (yX X_5 hx (D 15 rfl) (pc' := 47) (XT.i0_eq_t (by decide)) rfl (yb X_5 hx (D 16 rfl) rfl rfl hr))) ?_
  obtain ⟨T_6, X_6, e_6, st_6⟩ := getF X_5 hx hZ hown (host := "") (Or.inl (hq hw 43 rfl)) Via.refl e_5 Fv (g := j_586) rfl rfl (D 17 rfl)
  let j_587 := (mkF m 54 #[vR a1, vI 1, vI 1, vI 1, vI 0] [(.int 0), (.int 1), (.ref vb)])
  refine GoH.s T_6 j_587 (fun _ hr => st_6 _ (yj X_6 hx (D 18 rfl) rfl (yi X_6 hx (D 19 rfl) rfl hr))) ?_
  obtain ⟨v_7, T_7, h_7, L_7, X_7, e_7, ⟨sa_7, rfl, N_7, K_7, E1_7, vb_7, F1_7, F2_7, B_7⟩, S_7, hZ_7, ho_7, C_7, st_7⟩ := cSH X_6 hx hZ hown (hq hw 267 rfl) (hq hw 268 rfl) (hq hw 34 rfl) (hq hw 269 rfl) e_6 hml (rmNS1 l Z a0 hw vb h0 n0 (by omega)) (g := j_587) rfl rfl (lenOf pd_22 rfl) rfl (D 20 rfl) (W := 0) rfl rfl (by decide) (own_ew hw) c_0.1
  have N_7' := Fr.app N_5' N_7
  have z_7 := K_7.1
  have yv_7 := own_ltA B_7
  have ys_7 := own_ltE E1_7
  refine GoH.s T_7 (mkF m 57 #[vR a1, vI 1, vI 1, vI 1, vI 0] [(.ref sa_7)]) st_7 ?_
  refine GoH.lift S_7 (Nat.le_refl _) (c_0.trans C_7) ?_
  have hZ : Z.Warmed39 (s.setVm T_7.vm).vm := hZ_7
  have hown := ho_7
  have c_7 := CHr.refl C_7.1
  refine GoH.retA X_7 hx hlk (t := (.object "java/lang/String")) hret rfl rfl (D 21 rfl) (by decide) (by decide) ?_
  try rw [e_7]
  refine ⟨?_, hZ, ⟨a0, own_ew hw⟩, c_7⟩
  exact ⟨sa_7, rfl, N_7', ((Keep.refl h0 []).trans K_7 all0), E1_7, vb_7, F1_7, F2_7, B_7⟩
theorem rmSubA1 (hw : own_W a0 Z) (a1 : Nat) (h0 : Heap) (n0 : Nat) (Z0 : n0 ≤ h0.size) (vcs : Int32) (hcs : ¬ vcs = 0) (O0 : Old Z n0 h0) (SCS : sCS Z vcs) (SAD : sAD Z) (SHI : sHI Z) (SLO : sLO Z) (vfm : Value) (rfm : vfm.isRef = true) (SFM : sFM Z vfm) (vb : Nat) (E1 : Exa Z h0 a1 "java/lang/String") (Fv : fV Z h0 a1 (.ref vb)) (Fc : fC Z h0 a1 (.int 1)) (Ab : Ary Z h0 vb .byte [(.int (own_lo 65279)), (.int (own_hi 65279))]) :
    ConH l Z ⟨"java/lang/String", "substring", "(I)Ljava/lang/String;"⟩ jdk_42_method_91_code 2 (some (.object "java/lang/String")) ⟨3, 2, 4, 45⟩ #[(.ref a1), (.int 1)] h0 (fun v h L => ∃ sa : Nat, v = some (.ref sa) ∧ Fr n0 L ∧ Keep h0 h [] ∧ Exa Z h sa "java/lang/String" ∧ ∃ vb : Nat, fV Z h sa (.ref vb) ∧ fC Z h sa (.int 0) ∧ Ary Z h vb .byte []) := by
  refine ConH.o (L := #[vR a1, vI 1]) n0 d56 pf_35 (by simp [argsToLocals, Value.category]) ?_
  intro p e s m _ _ c T0 X0 hx hby hml hZ hown hnm hret hlk e0 H0 N0 D
  have c_0 := CHr.refl H0
  have lt_1 := own_ltE E1
  have lt_2 := own_ltA Ab
  let j_588 := (mkF m 3 #[vR a1, vI 1] [(.ref a1), (.int 1), (.ref a1)])
  refine GoH.s T0 j_588 (fun _ hr => yb X0 hx (D 0 rfl) rfl rfl (yj X0 hx (D 1 rfl) rfl (yb X0 hx (D 2 rfl) rfl rfl hr))) ?_
  obtain ⟨v_3, T_3, h_3, L_3, X_3, e_3, ⟨rfl, N_3, hh_3⟩, st_3⟩ := cV X0 hx hZ hown (hq hw 255 rfl) (hq hw 150 rfl) (hq hw 152 rfl) (hq hw 152 rfl) (hq hw 151 rfl) (hq hw 9 rfl) (hq hw 153 rfl) e0 E1 hml (rmLnU1 l Z a0 hw a1 h0 n0 (by omega) vcs hcs O0 SCS SAD SHI SLO vfm rfm SFM vb E1 Fv Fc Ab) (g := j_588) rfl rfl (lenOf pd_20 rfl) rfl (D 3 rfl) (W := 2) rfl rfl (by decide)
  have N_3' := Fr.app N0 N_3
  rw [hh_3] at e_3
  let j_589 := (mkF m 6 #[vR a1, vI 1] [(.int 1), (.int 1), (.ref a1)])
  refine GoH.s T_3 j_589 st_3 ?_
  obtain ⟨v_4, T_4, h_4, L_4, X_4, e_4, ⟨sa_4, rfl, N_4, K_4, E1_4, vb_4, F1_4, F2_4, B_4⟩, S_4, hZ_4, ho_4, C_4, st_4⟩ := cVH X_3 hx hZ hown (hq hw 256 rfl) (hq hw 257 rfl) (hq hw 259 rfl) (hq hw 259 rfl) (hq hw 258 rfl) (hq hw 9 rfl) (hq hw 260 rfl) e_3 E1 hml (rmSubB1 l Z a0 hw a1 h0 n0 (by omega) vcs hcs O0 SCS SAD SHI SLO vfm rfm SFM vb E1 Fv Fc Ab) (g := j_589) rfl rfl (lenOf pd_23 rfl) rfl (D 4 rfl) (W := 0) rfl rfl (by decide) (own_ew hw) c_0.1
  have N_4' := Fr.app N_3' N_4
  have z_4 := K_4.1
  have yv_4 := own_ltA B_4
  have ys_4 := own_ltE E1_4
  refine GoH.s T_4 (mkF m 9 #[vR a1, vI 1] [(.ref sa_4)]) st_4 ?_
  refine GoH.lift S_4 (Nat.le_refl _) (c_0.trans C_4) ?_
  have hZ : Z.Warmed39 (s.setVm T_4.vm).vm := hZ_4
  have hown := ho_4
  have c_4 := CHr.refl C_4.1
  refine GoH.retA X_4 hx hlk (t := (.object "java/lang/String")) hret rfl rfl (D 5 rfl) (by decide) (by decide) ?_
  try rw [e_4]
  refine ⟨?_, hZ, ⟨a0, own_ew hw⟩, c_4⟩
  exact ⟨sa_4, rfl, N_4', ((Keep.refl h0 []).trans K_4 all0), E1_4, vb_4, F1_4, F2_4, B_4⟩
theorem rmSXU1 (hw : own_W a0 Z) (ax : Nat) (a2 : Nat) (a1 : Nat) (h0 : Heap) (n0 : Nat) (Z0 : n0 ≤ h0.size) (vcs : Int32) (hcs : ¬ vcs = 0) (O0 : Old Z n0 h0) (SCS : sCS Z vcs) (SAD : sAD Z) (SHI : sHI Z) (SLO : sLO Z) (vfm : Value) (rfm : vfm.isRef = true) (SFM : sFM Z vfm) (vb : Nat) (E1 : Exa Z h0 a1 "java/lang/String") (Fv : fV Z h0 a1 (.ref vb)) (Fc : fC Z h0 a1 (.int 1)) (Ab : Ary Z h0 vb .byte [(.int (own_lo 65279)), (.int (own_hi 65279))]) (ica : Nat) (ivs : List Value) (SIH : sIH Z) (SIC : sIC Z ica) (AIC : Ary Z Z.heap ica (.object "java/lang/Integer") ivs) (hi256 : ivs.length = 256) (hIC : pIC Z ivs) (vd : Nat) (SDV : sDV Z vd) (ADV : Ary Z Z.heap vd (.object "java/lang/Object") []) (EX : Exa Z h0 ax cX) (gx : n0 ≤ ax) (Fpath : fP Z h0 ax .null) (Ftext : fT Z h0 ax .null) (FlineStarts : fX Z h0 ax .null) (hxs : ax ≠ a1) (hxv : ax ≠ vb) :
    ConH l Z ⟨cX, "<init>", "(Ljava/lang/String;Ljava/lang/String;)V"⟩ prog_195_method_1_code 3 none ⟨6, 5, 22, 97⟩ #[(.ref ax), (.ref a2), (.ref a1)] h0 (fun v h L => v = none ∧ Fr n0 L ∧ Keep h0 h [ax] ∧ ∃ la : Nat, h0.size ≤ la ∧ fX Z h ax (.ref la) ∧ Ary Z h la .int (List.map own_iv (own_ls []))) := by
  refine ConH.o (L := #[vR ax, vR a2, vR a1]) n0 d82 pf_52 (by simp [argsToLocals, Value.category]) ?_
  intro p e s m _ _ c T0 X0 hx hby hml hZ hown hnm hret hlk e0 H0 N0 D
  have c_0 := CHr.refl H0
  have lt_1 := own_ltE E1
  have lt_2 := own_ltA Ab
  have lt_3 := own_ltE EX
  let j_590 := (mkF m 1 #[vR ax, vR a2, vR a1] [(.ref ax)])
  refine GoH.s T0 j_590 (fun _ hr => yb X0 hx (D 0 rfl) rfl rfl hr) ?_
  obtain ⟨T_4, X_4, e_4, st_4⟩ := initO X0 hx hZ hown (hq hw 47 rfl) (hq hw 29 rfl) (hq hw 30 rfl) e0 (g := j_590) rfl (by rw [hml]; rfl) rfl (D 1 rfl) (by decide) (W := 0) (by show 2 * 0 + _ ≤ _; exact Nat.le_of_eq rfl) (by decide)
  let j_591 := (mkF m 6 #[vR ax, vR a2, vR a1] [(.ref a2), (.ref ax)])
  refine GoH.s T_4 j_591 (fun _ hr => st_4 _ (yb X_4 hx (D 2 rfl) rfl rfl (yb X_4 hx (D 3 rfl) rfl rfl hr))) ?_
  obtain ⟨T_5, h_5, X_5, e_5, W_5, st_5⟩ := putF X_4 hx hZ hown (host := "") (Or.inl (hq hw 48 rfl)) Via.refl e_4 Fpath EX (Or.inr ⟨(hq hw 49 rfl), rfl, hnm⟩) (hq hw 6 rfl) (ty := (.object "java/lang/String")) (by decide) rfl rfl (g := j_591) rfl rfl (D 4 rfl)
  have N_5 := Fr.snoc X_5 N0 (by omega)
  have z_5 := W_5.size
  have F_5 := Fpath.same W_5
  let j_592 := (mkF m 11 #[vR ax, vR a2, vR a1] [(.ref a1), (.ref ax)])
  refine GoH.s T_5 j_592 (fun _ hr => st_5 _ (yb X_5 hx (D 5 rfl) rfl rfl (yb X_5 hx (D 6 rfl) rfl rfl hr))) ?_
  have F_7 := (Fv.other W_5 (Or.inl (own_ne (by omega))))
  have F_8 := (Ab.other W_5 (own_ne (by omega)))
  have F_9 := (E1.wr W_5)
  obtain ⟨v_6, T_6, h_6, L_6, X_6, e_6, ⟨rfl, N_6, hh_6⟩, st_6⟩ := cV X_5 hx hZ hown (hq hw 50 rfl) (hq hw 51 rfl) (hq hw 53 rfl) (hq hw 53 rfl) (hq hw 52 rfl) (hq hw 9 rfl) (hq hw 54 rfl) e_5 F_9 hml (rmEm1 l Z a0 hw a1 h_5 n0 (by omega) vb F_7 _ F_8 (by simp +decide) (by simp +decide)) (g := j_592) rfl rfl (lenOf pd_12 rfl) rfl (D 7 rfl) (W := 1) rfl rfl (by decide)
  have N_6' := Fr.app N_5 N_6
  rw [hh_6] at e_6
  let j_593 := (mkF m 19 #[vR ax, vR a2, vR a1] [(.int 0), (.ref a1), (.ref ax)])
  refine GoH.s T_6 j_593 (fun _ hr => st_6 _ (yM X_6 hx (D 8 rfl) (XT.i0_ne_f (by decide)) (yb X_6 hx (D 9 rfl) rfl rfl (yc X_6 hx (D 10 rfl) hr)))) ?_
  have F_11 := (O0.wr W_5 (by omega))
  have F_12 := (Fc.other W_5 (Or.inl (own_ne (by omega))))
  obtain ⟨v_10, T_10, h_10, L_10, X_10, e_10, ⟨rfl, N_10, hh_10⟩, st_10⟩ := cV X_6 hx hZ hown (hq hw 55 rfl) (hq hw 56 rfl) (hq hw 58 rfl) (hq hw 58 rfl) (hq hw 57 rfl) (hq hw 9 rfl) (hq hw 59 rfl) e_6 F_9 hml (rmCAU1 l Z a0 hw a1 h_5 n0 (by omega) vcs hcs F_11 SCS SAD SHI SLO vfm rfm SFM vb F_9 F_7 F_12 F_8) (g := j_593) rfl rfl (lenOf pd_24 rfl) rfl (D 11 rfl) (W := 1) rfl rfl (by decide)
  have N_10' := Fr.app N_6' N_10
  rw [hh_10] at e_10
  let j_594 := (mkF m 22 #[vR ax, vR a2, vR a1] [(.int 65279), (.ref ax)])
  refine GoH.s T_10 j_594 st_10 ?_
  let j_595 := (mkF m 29 #[vR ax, vR a2, vR a1] [(.int 1), (.ref a1), (.ref ax)])
  refine GoH.s T_10 j_595 (fun _ hr => (own_ldc X_10 hx hZ hown (index := 23) (x := 65279) (hq hw 77 rfl) (g := j_594) rfl (D 12 rfl)) _ (yN X_10 hx (D 13 rfl) (XT.ii_ne_f (by decide)) (yb X_10 hx (D 14 rfl) rfl rfl (yc X_10 hx (D 15 rfl) hr)))) ?_
  have c_13 := c_0.trans (CHr.wr W_5 (Safe.exa hZ.alike EX (by decide) (by decide)) c_0.1)
  obtain ⟨v_14, T_14, h_14, L_14, X_14, e_14, ⟨sa_14, rfl, N_14, K_14, E1_14, vb_14, F1_14, F2_14, B_14⟩, S_14, hZ_14, ho_14, C_14, st_14⟩ := cVH X_10 hx hZ hown (hq hw 250 rfl) (hq hw 251 rfl) (hq hw 253 rfl) (hq hw 253 rfl) (hq hw 252 rfl) (hq hw 9 rfl) (hq hw 254 rfl) e_10 F_9 hml (rmSubA1 l Z a0 hw a1 h_5 n0 (by omega) vcs hcs F_11 SCS SAD SHI SLO vfm rfm SFM vb F_9 F_7 F_12 F_8) (g := j_595) rfl rfl (lenOf pd_35 rfl) rfl (D 16 rfl) (W := 1) rfl rfl (by decide) (own_ew hw) c_13.1
  have N_14' := Fr.app N_10' N_14
  have z_14 := K_14.1
  have yv_14 := own_ltA B_14
  have ys_14 := own_ltE E1_14
  have F_15 := ((EX.wr W_5).keep K_14)
  have nv_14 := own_neEA (hq hw 6 rfl) F_15 B_14
  have ns_14 := own_neEE F_15 E1_14 (by decide)
  refine GoH.s T_14 (mkF m 32 #[vR ax, vR a2, vR a1] [(.ref sa_14), (.ref ax)]) st_14 ?_
  refine GoH.lift S_14 (Nat.le_refl _) (c_13.trans C_14) ?_
  have hZ : Z.Warmed39 (s.setVm T_14.vm).vm := hZ_14
  have hown := ho_14
  have c_14 := CHr.refl C_14.1
  let j_596 := (mkF m 36 #[vR ax, vR a2, vR a1] [(.ref sa_14), (.ref ax)])
  refine GoH.s T_14 j_596 (fun _ hr => yg X_14 hx (D 17 rfl) (pc' := 36) rfl hr) ?_
  have F_16 := ((Ftext.other W_5 (Or.inr (slot_ne (t := (.object "java/lang/String")) (t' := (.object "java/lang/String")) (Or.inr (hq hw 79 rfl)) (Or.inr (hq hw 49 rfl)) (by decide) (by decide) (by decide)))).keep K_14 nin0)
  obtain ⟨T_17, h_17, X_17, e_17, W_17, st_17⟩ := putF X_14 hx hZ hown (host := "") (Or.inl (hq hw 78 rfl)) Via.refl e_14 F_16 F_15 (Or.inr ⟨(hq hw 79 rfl), rfl, hnm⟩) (hq hw 6 rfl) (ty := (.object "java/lang/String")) (by decide) rfl rfl (g := j_596) rfl rfl (D 19 rfl)
  have N_17 := Fr.snoc X_17 N_14' (by omega)
  have z_17 := W_17.size
  have F_17 := F_16.same W_17
  let j_597 := (mkF m 41 #[vR ax, vR a2, vR a1] [(.ref ax), (.ref ax)])
  refine GoH.s T_17 j_597 (fun _ hr => st_17 _ (yb X_17 hx (D 20 rfl) rfl rfl (yb X_17 hx (D 21 rfl) rfl rfl hr))) ?_
  obtain ⟨T_18, X_18, e_18, st_18⟩ := getF X_17 hx hZ hown (host := "") (Or.inl (hq hw 78 rfl)) Via.refl e_17 F_17 (g := j_597) rfl rfl (D 22 rfl)
  let j_598 := (mkF m 44 #[vR ax, vR a2, vR a1] [(.ref sa_14), (.ref ax)])
  refine GoH.s T_18 j_598 st_18 ?_
  have F_20 := ((F_11.keep K_14 all0).wr W_17 (by omega))
  have F_21 := (E1_14.wr W_17)
  have F_22 := (F1_14.other W_17 (Or.inl (own_ne (by omega))))
  have F_23 := (F2_14.other W_17 (Or.inl (own_ne (by omega))))
  have F_24 := (B_14.other W_17 (own_ne (by omega)))
  obtain ⟨v_19, T_19, h_19, L_19, X_19, e_19, ⟨la_19, rfl, N_19, K_19, g_19, B_19⟩, st_19⟩ := cS X_18 hx hZ hown (hq hw 80 rfl) (hq hw 81 rfl) (hq hw 7 rfl) (hq hw 82 rfl) e_18 hml (rmLS l Z a0 hw sa_14 h_17 n0 (by omega) vcs hcs F_20 SCS vb_14 F_21 F_22 F_23 [] F_24 own_l1_0 vfm rfm SFM ica ivs SIH SIC AIC hi256 hIC vd SDV ADV) (g := j_598) rfl rfl (lenOf pd_34 rfl) rfl (D 23 rfl) (W := 1) rfl rfl (by decide)
  have N_19' := Fr.app N_17 N_19
  have z_19 := K_19.1
  have yl_19 := own_ltA B_19
  let j_599 := (mkF m 47 #[vR ax, vR a2, vR a1] [(.ref la_19), (.ref ax)])
  refine GoH.s T_19 j_599 st_19 ?_
  have F_25 := ((((FlineStarts.other W_5 (Or.inr (slot_ne (t := (.array .int)) (t' := (.object "java/lang/String")) (Or.inr (hq hw 212 rfl)) (Or.inr (hq hw 49 rfl)) (by decide) (by decide) (by decide)))).keep K_14 nin0).other W_17 (Or.inr (slot_ne (t := (.array .int)) (t' := (.object "java/lang/String")) (Or.inr (hq hw 212 rfl)) (Or.inr (hq hw 79 rfl)) (by decide) (by decide) (by decide)))).keep K_19 nin0)
  have F_26 := ((F_15.wr W_17).keep K_19)
  obtain ⟨T_27, h_27, X_27, e_27, W_27, st_27⟩ := putF X_19 hx hZ hown (host := "") (Or.inl (hq hw 211 rfl)) Via.refl e_19 F_25 F_26 (Or.inr ⟨(hq hw 212 rfl), rfl, hnm⟩) (hq hw 6 rfl) (ty := (.array .int)) (by decide) rfl rfl (g := j_599) rfl rfl (D 24 rfl)
  have N_27 := Fr.snoc X_27 N_19' (by omega)
  have z_27 := W_27.size
  have c_28 := c_14.trans (CHr.wr W_17 (Safe.exa hZ.alike F_15 (by decide) (by decide)) c_14.1)
  have c_29 := c_28.trans (CHr.keep K_19 all0 c_28.1)
  have F_27 := F_25.same W_27
  refine GoH.s T_27 (mkF m 50 #[vR ax, vR a2, vR a1] []) st_27 ?_
  refine GoH.retV X_27 hx hlk hret (D 25 rfl) (by decide) (by decide) ?_
  try rw [e_27]
  have c_30 := c_29.trans (CHr.wr W_27 (Safe.exa hZ.alike F_26 (by decide) (by decide)) c_29.1)
  refine ⟨?_, hZ, ⟨a0, own_ew hw⟩, c_30⟩
  have F_31 := (B_19.other W_27 (own_ne (by omega)))
  exact ⟨rfl, N_27, ((((((Keep.refl h0 [ax]).wr W_5 (Or.inl (by simp))).trans K_14 all0).wr W_17 (Or.inl (by simp))).trans K_19 all0).wr W_27 (Or.inl (by simp))), la_19, by omega, F_27, F_31⟩
theorem rmLineG (hw : own_W a0 Z) (a1 : Nat) (p2 : Int32) (h0 : Heap) (n0 : Nat) (Z0 : n0 ≤ h0.size) (la : Nat) (Fl : fX Z h0 a1 (.ref la)) (xs : List Nat) (ho : own_ok xs) (Al : Ary Z h0 la .int (List.map own_iv xs)) :
    Con l Z ⟨cX, "line", "(I)I"⟩ prog_195_method_6_code 5 (some .int) ⟨0, 0, 0, 0⟩ #[(.ref a1), (.int p2)] h0 (fun v h L => ∃ r : Int32, v = some (.int r) ∧ Fr n0 L ∧ h = h0 ∧ r.toInt = 1 + own_cnt xs.tail p2.toInt) := by
  obtain ⟨k1, k2, k3, k4⟩ := ho
  match xs, k1, k2, k3, k4, Al with
  | [], k1, _, _, _, _ => exact absurd k1 (by decide)
  | [x0], _, _, k3, k4, Al =>
    have e0 := own_ti (k3 x0 (by simp))
    refine Con.imp (rmLine1 l Z a0 hw a1 p2 h0 n0 Z0 la Fl x0.toInt32 Al) ?_
    rintro v h L ⟨r, h1, h2, h3, h4⟩
    refine ⟨r, h1, h2, h3, ?_⟩
    rw [h4]
    simp only [List.tail_cons, own_cnt, e0, Int.add_assoc, Int.add_zero]
  | [x0, x1], _, _, k3, k4, Al =>
    have e0 := own_ti (k3 x0 (by simp))
    have e1 := own_ti (k3 x1 (by simp))
    simp only [List.pairwise_cons, List.mem_cons, List.not_mem_nil, or_false, forall_eq_or_imp, forall_eq] at k4
    refine Con.imp (rmLine2 l Z a0 hw a1 p2 h0 n0 Z0 la Fl x0.toInt32 x1.toInt32 Al (by omega)) ?_
    rintro v h L ⟨r, h1, h2, h3, h4⟩
    refine ⟨r, h1, h2, h3, ?_⟩
    rw [h4]
    simp only [List.tail_cons, own_cnt, e0, e1, Int.add_assoc, Int.add_zero]
  | [x0, x1, x2], _, _, k3, k4, Al =>
    have e0 := own_ti (k3 x0 (by simp))
    have e1 := own_ti (k3 x1 (by simp))
    have e2 := own_ti (k3 x2 (by simp))
    simp only [List.pairwise_cons, List.mem_cons, List.not_mem_nil, or_false, forall_eq_or_imp, forall_eq] at k4
    refine Con.imp (rmLine3 l Z a0 hw a1 p2 h0 n0 Z0 la Fl x0.toInt32 x1.toInt32 x2.toInt32 Al (by omega) (by omega)) ?_
    rintro v h L ⟨r, h1, h2, h3, h4⟩
    refine ⟨r, h1, h2, h3, ?_⟩
    rw [h4]
    simp only [List.tail_cons, own_cnt, e0, e1, e2, Int.add_assoc, Int.add_zero]
  | [x0, x1, x2, x3], _, _, k3, k4, Al =>
    have e0 := own_ti (k3 x0 (by simp))
    have e1 := own_ti (k3 x1 (by simp))
    have e2 := own_ti (k3 x2 (by simp))
    have e3 := own_ti (k3 x3 (by simp))
    simp only [List.pairwise_cons, List.mem_cons, List.not_mem_nil, or_false, forall_eq_or_imp, forall_eq] at k4
    refine Con.imp (rmLine4 l Z a0 hw a1 p2 h0 n0 Z0 la Fl x0.toInt32 x1.toInt32 x2.toInt32 x3.toInt32 Al (by omega) (by omega) (by omega)) ?_
    rintro v h L ⟨r, h1, h2, h3, h4⟩
    refine ⟨r, h1, h2, h3, ?_⟩
    rw [h4]
    simp only [List.tail_cons, own_cnt, e0, e1, e2, e3, Int.add_assoc, Int.add_zero]
  | [x0, x1, x2, x3, x4], _, _, k3, k4, Al =>
    have e0 := own_ti (k3 x0 (by simp))
    have e1 := own_ti (k3 x1 (by simp))
    have e2 := own_ti (k3 x2 (by simp))
    have e3 := own_ti (k3 x3 (by simp))
    have e4 := own_ti (k3 x4 (by simp))
    simp only [List.pairwise_cons, List.mem_cons, List.not_mem_nil, or_false, forall_eq_or_imp, forall_eq] at k4
    refine Con.imp (rmLine5 l Z a0 hw a1 p2 h0 n0 Z0 la Fl x0.toInt32 x1.toInt32 x2.toInt32 x3.toInt32 x4.toInt32 Al (by omega) (by omega) (by omega) (by omega)) ?_
    rintro v h L ⟨r, h1, h2, h3, h4⟩
    refine ⟨r, h1, h2, h3, ?_⟩
    rw [h4]
    simp only [List.tail_cons, own_cnt, e0, e1, e2, e3, e4, Int.add_assoc, Int.add_zero]
  | _ :: _ :: _ :: _ :: _ :: _ :: _, _, k2, _, _, _ => exact absurd k2 (by simp only [List.length_cons]; omega)
theorem pd_36 : parseMethodDescriptor "([CIII)I" = some ⟨[(.array .char), .int, .int, .int], some .int⟩ := by decide +kernel
theorem tl {p : Program} {l : Launch} {e : Env} {s : State} {m : MethodId} {args : Array Value} {below : List Frame} {meth : Method} {c : Code} (Z : State) (a0 : Array Value) (hw : own_W a0 Z) (n0 : Nat) (hx : p.tables.exec = Jvm.exec) (hby : c.code = code) (hml : c.maxLocals = 10) (hZ : Z.Warmed39 s.vm) (hown : s.vm.findClass cL = some m.cls) (hnm : meth.name = "law") (hret : meth.sig.returnType = some .boolean) (hlk : meth.locks = false) (p1 p2 p3 p4 vn v5 off : Int32) (ea ax la : Nat) (c0 c1 c2 c3 : Int32) (hn4 : vn.toInt ≤ 4) (xs : List Nat) (hok : own_ok xs) (hlw : own_cnt xs.tail off.toInt = (((own_st [c0, c1, c2, c3] vn 1 off 0).toInt + (own_st [c0, c1, c2, c3] vn 2 off 1).toInt) + (own_st [c0, c1, c2, c3] vn 3 off 2).toInt) + (own_st [c0, c1, c2, c3] vn 4 off 3).toInt) :
    ∀  (T0 : State) (locs0 : List Loc) (h0 : Heap) (Z0 : n0 ≤ h0.size) (X0 : Stand p l e room_1 s m args below meth c T0 locs0 40 3264) (e0 : T0.heap = h0) (N0 : Fr n0 locs0) (Ae : Ary Z h0 ea .char [(.int c0), (.int c1), (.int c2), (.int c3)]) (EX : Exa Z h0 ax cX) (Fl : fX Z h0 ax (.ref la)) (Al : Ary Z h0 la .int (List.map own_iv xs)), Go p e below s room_1.cells room_1.slots (fun v h L => v = some (.int 1) ∧ Fr n0 L ∧ h = h0) (T0.setTop (mkF m 123 #[vI p1, vI p2, vI p3, vI p4, vI vn, vI v5, vI off, vR ea, vU, vU] [(.ref ax)])) := by
  intro  T0 locs0 h0 Z0 X0 e0 N0 Ae EX Fl Al
  have lt_1 := own_ltA Ae
  have lt_2 := own_ltE EX
  let j_600 := (mkF m 133 #[vI p1, vI p2, vI p3, vI p4, vI vn, vI v5, vI off, vR ea, vR ax, vU] [(.int off), (.int 1), (.int vn), (.ref ea), (.int 1)])
  refine Go.s T0 j_600 (fun _ hr => ym X0 hx (hb hby at_123) rfl rfl (yc X0 hx (hb hby at_125) (ya X0 hx (hb hby at_126) rfl rfl (yi X0 hx (hb hby at_128) rfl (yc X0 hx (hb hby at_130) (yi X0 hx (hb hby at_131) rfl hr)))))) ?_
  obtain ⟨v_3, T_3, h_3, L_3, X_3, e_3, ⟨rfl, N_3, hh_3⟩, st_3⟩ := cS X0 hx hZ hown (hq hw 213 rfl) (hq hw 214 rfl) (hq hw 3 rfl) (hq hw 215 rfl) e0 hml (rmSt1 l Z a0 hw ea vn off h0 n0 (by omega) c0 c1 c2 c3 Ae) (g := j_600) rfl rfl (lenOf pd_36 rfl) rfl (hb hby at_133) (W := 1) rfl rfl (by decide)
  have N_3' := Fr.app N0 N_3
  rw [hh_3] at e_3
  let j_601 := (mkF m 144 #[vI p1, vI p2, vI p3, vI p4, vI vn, vI v5, vI off, vR ea, vR ax, vU] [(.int off), (.int 2), (.int vn), (.ref ea), (.int ((1 : Int32) + (own_st [c0, c1, c2, c3] vn 1 off 0)))])
  refine Go.s T_3 j_601 (fun _ hr => st_3 _ (y1 X_3 hx (hb hby at_136) (ya X_3 hx (hb hby at_137) rfl rfl (yi X_3 hx (hb hby at_139) rfl (yc X_3 hx (hb hby at_141) (yi X_3 hx (hb hby at_142) rfl hr)))))) ?_
  obtain ⟨v_4, T_4, h_4, L_4, X_4, e_4, ⟨rfl, N_4, hh_4⟩, st_4⟩ := cS X_3 hx hZ hown (hq hw 213 rfl) (hq hw 214 rfl) (hq hw 3 rfl) (hq hw 215 rfl) e_3 hml (rmSt2 l Z a0 hw ea vn off h0 n0 (by omega) c0 c1 c2 c3 Ae) (g := j_601) rfl rfl (lenOf pd_36 rfl) rfl (hb hby at_144) (W := 1) rfl rfl (by decide)
  have N_4' := Fr.app N_3' N_4
  rw [hh_4] at e_4
  let j_602 := (mkF m 155 #[vI p1, vI p2, vI p3, vI p4, vI vn, vI v5, vI off, vR ea, vR ax, vU] [(.int off), (.int 3), (.int vn), (.ref ea), (.int (((1 : Int32) + (own_st [c0, c1, c2, c3] vn 1 off 0)) + (own_st [c0, c1, c2, c3] vn 2 off 1)))])
  refine Go.s T_4 j_602 (fun _ hr => st_4 _ (y1 X_4 hx (hb hby at_147) (ya X_4 hx (hb hby at_148) rfl rfl (yi X_4 hx (hb hby at_150) rfl (yc X_4 hx (hb hby at_152) (yi X_4 hx (hb hby at_153) rfl hr)))))) ?_
  obtain ⟨v_5, T_5, h_5, L_5, X_5, e_5, ⟨rfl, N_5, hh_5⟩, st_5⟩ := cS X_4 hx hZ hown (hq hw 213 rfl) (hq hw 214 rfl) (hq hw 3 rfl) (hq hw 215 rfl) e_4 hml (rmSt3 l Z a0 hw ea vn off h0 n0 (by omega) c0 c1 c2 c3 Ae) (g := j_602) rfl rfl (lenOf pd_36 rfl) rfl (hb hby at_155) (W := 1) rfl rfl (by decide)
  have N_5' := Fr.app N_4' N_5
  rw [hh_5] at e_5
  let j_603 := (mkF m 166 #[vI p1, vI p2, vI p3, vI p4, vI vn, vI v5, vI off, vR ea, vR ax, vU] [(.int off), (.int 4), (.int vn), (.ref ea), (.int ((((1 : Int32) + (own_st [c0, c1, c2, c3] vn 1 off 0)) + (own_st [c0, c1, c2, c3] vn 2 off 1)) + (own_st [c0, c1, c2, c3] vn 3 off 2)))])
  refine Go.s T_5 j_603 (fun _ hr => st_5 _ (y1 X_5 hx (hb hby at_158) (ya X_5 hx (hb hby at_159) rfl rfl (yi X_5 hx (hb hby at_161) rfl (yc X_5 hx (hb hby at_163) (yi X_5 hx (hb hby at_164) rfl hr)))))) ?_
  obtain ⟨v_6, T_6, h_6, L_6, X_6, e_6, ⟨rfl, N_6, hh_6⟩, st_6⟩ := cS X_5 hx hZ hown (hq hw 213 rfl) (hq hw 214 rfl) (hq hw 3 rfl) (hq hw 215 rfl) e_5 hml (rmSt4 l Z a0 hw ea vn off h0 n0 (by omega) c0 c1 c2 c3 Ae hn4) (g := j_603) rfl rfl (lenOf pd_36 rfl) rfl (hb hby at_166) (W := 1) rfl rfl (by decide)
  have N_6' := Fr.app N_5' N_6
  rw [hh_6] at e_6
  let j_604 := (mkF m 176 #[vI p1, vI p2, vI p3, vI p4, vI vn, vI v5, vI off, vR ea, vR ax, vI (((((1 : Int32) + (own_st [c0, c1, c2, c3] vn 1 off 0)) + (own_st [c0, c1, c2, c3] vn 2 off 1)) + (own_st [c0, c1, c2, c3] vn 3 off 2)) + (own_st [c0, c1, c2, c3] vn 4 off 3))] [(.int off), (.ref ax)])
  refine Go.s T_6 j_604 (fun _ hr => st_6 _ (y1 X_6 hx (hb hby at_169) (yk X_6 hx (hb hby at_170) rfl (ya X_6 hx (hb hby at_172) rfl rfl (yi X_6 hx (hb hby at_174) rfl hr))))) ?_
  obtain ⟨v_7, T_7, h_7, L_7, X_7, e_7, ⟨r_7, rfl, N_7, hh_7, hr_7⟩, st_7⟩ := cV X_6 hx hZ hown (hq hw 216 rfl) (hq hw 217 rfl) (hq hw 219 rfl) (hq hw 219 rfl) (hq hw 218 rfl) (hq hw 7 rfl) (hq hw 220 rfl) e_6 EX hml (rmLineG l Z a0 hw ax off h0 n0 (by omega) la Fl xs hok Al) (g := j_604) rfl rfl (lenOf pd_4 rfl) rfl (hb hby at_176) (W := 0) rfl rfl (by decide)
  have N_7' := Fr.app N_6' N_7
  rw [hh_7] at e_7
  refine Go.s T_7 (mkF m 189 #[vI p1, vI p2, vI p3, vI p4, vI vn, vI v5, vI off, vR ea, vR ax, vI (((((1 : Int32) + (own_st [c0, c1, c2, c3] vn 1 off 0)) + (own_st [c0, c1, c2, c3] vn 2 off 1)) + (own_st [c0, c1, c2, c3] vn 3 off 2)) + (own_st [c0, c1, c2, c3] vn 4 off 3))] [(.int 1)]) (fun _ hr => st_7 _ (yi X_7 hx (hb hby at_179) rfl (yN X_7 hx (hb hby at_181) (XT.ii_ne_f (own_fin hr_7 hlw (own_st_01 ..) (own_st_01 ..) (own_st_01 ..) (own_st_01 ..))) (yc X_7 hx (hb hby at_184) (yg X_7 hx (hb hby at_185) (pc' := 189) rfl hr))))) ?_
  refine Go.retN X_7 hx hlk (t := .boolean) hret (by simp) (hb hby at_189) (by decide) (by decide) ?_
  try rw [e_7]
  exact ⟨rfl, N_7', rfl⟩
theorem pd_37 : parseMethodDescriptor "(ZI[C)[C" = some ⟨[.boolean, .int, (.array .char)], some (.array .char)⟩ := by decide +kernel
theorem pd_38 : parseMethodDescriptor "([C)V" = some ⟨[(.array .char)], none⟩ := by decide +kernel
theorem pd_39 : parseMethodDescriptor "(Ljava/lang/String;Ljava/lang/String;)V" = some ⟨[(.object "java/lang/String"), (.object "java/lang/String")], none⟩ := by decide +kernel
theorem md00 {p : Program} {l : Launch} {e : Env} {s : State} {m : MethodId} {args : Array Value} {below : List Frame} {meth : Method} {c : Code} (Z : State) (a0 : Array Value) (hw : own_W a0 Z) (n0 : Nat) (hx : p.tables.exec = Jvm.exec) (hby : c.code = code) (hml : c.maxLocals = 10) (hZ : Z.Warmed39 s.vm) (hown : s.vm.findClass cL = some m.cls) (hnm : meth.name = "law") (hret : meth.sig.returnType = some .boolean) (hlk : meth.locks = false) (vcs : Int32) (hcs : ¬ vcs = 0) (SCS : sCS Z vcs) (SAD : sAD Z) (SHI : sHI Z) (SLO : sLO Z) (vfm : Value) (rfm : vfm.isRef = true) (SFM : sFM Z vfm) (ica : Nat) (ivs : List Value) (SIH : sIH Z) (SIC : sIC Z ica) (AIC : Ary Z Z.heap ica (.object "java/lang/Integer") ivs) (hi256 : ivs.length = 256) (hIC : pIC Z ivs) (vd : Nat) (SDV : sDV Z vd) (ADV : Ary Z Z.heap vd (.object "java/lang/Object") []) (p1 p2 p3 p4 off : Int32) (ea ax lit : Nat) (c0 c1 c2 c3 : Int32) (q0 : own_rg c0) (q1 : own_rg c1) (q2 : own_rg c2) (q3 : own_rg c3) :
    ∀  (T0 : State) (locs0 : List Loc) (h0 : Heap) (Z0 : n0 ≤ h0.size) (X0 : Stand p l e room_1 s m args below meth c T0 locs0 4 15) (e0 : T0.heap = h0) (N0 : Fr n0 locs0) (O0 : Old Z n0 h0) (H0 : CHv Z own_EL s.vm h0) (Ae : Ary Z h0 ea .char [(.int c0), (.int c1), (.int c2), (.int c3)]) (EX : Exa Z h0 ax cX) (gx : n0 ≤ ax) (Fpath : fP Z h0 ax .null) (Ftext : fT Z h0 ax .null) (FlineStarts : fX Z h0 ax .null), GoH Z h0 p e below s room_1.cells room_1.slots (fun v h L => v = some (.int 1) ∧ Fr n0 L) (T0.setTop (mkF m 104 #[vI p1, vI p2, vI p3, vI p4, vI 0, vI 0, vI off, vR ea, vU, vU] [(.ref lit), (.ref ax), (.ref ax)])) := by
  intro  T0 locs0 h0 Z0 X0 e0 N0 O0 H0 Ae EX gx Fpath Ftext FlineStarts
  have lt_1 := own_ltE EX
  have lt_2 := own_ltA Ae
  have c_0 := CHr.refl H0
  have nex := own_neEA (hq hw 6 rfl) EX Ae
  obtain ⟨T_3, h_3, X_3, e_3, E_3, A_3, D_3, -, st_3⟩ := newO X0 hx hZ hown (hq hw 16 rfl) (hq hw 10 rfl) (hq hw 9 rfl) e0 (g := (mkF m 104 #[vI p1, vI p2, vI p3, vI p4, vI 0, vI 0, vI off, vR ea, vU, vU] [(.ref lit), (.ref ax), (.ref ax)])) rfl (hb hby at_104) (by decide) (by decide)
  obtain ⟨ad_3, g_3⟩ : ∃ z, z = h0.size := ⟨_, rfl⟩
  rw [← g_3] at A_3 D_3 st_3
  have z_3 := E_3.1
  have y_3 := own_ltE A_3
  have F_3_value : fV Z h_3 ad_3 .null := D_3 (Or.inr (hq hw 12 rfl)) (ty := (.array .byte)) (by decide)
  have F_3_coder : fC Z h_3 ad_3 (.int 0) := D_3 (Or.inr (hq hw 13 rfl)) (ty := .byte) (by decide)
  let j_605 := (mkF m 114 #[vI p1, vI p2, vI p3, vI p4, vI 0, vI 0, vI off, vR ea, vU, vU] [(.ref ea), (.int 0), (.int 0), (.ref ad_3), (.ref ad_3), (.ref lit), (.ref ax), (.ref ax)])
  refine GoH.s T_3 j_605 (fun _ hr => st_3 _ (yd X_3 hx (hb hby at_107) rfl (yi X_3 hx (hb hby at_108) rfl (yi X_3 hx (hb hby at_110) rfl (ya X_3 hx (hb hby at_112) rfl rfl hr))))) ?_
  have F_5 := (Ae.ext E_3)
  obtain ⟨v_4, T_4, h_4, L_4, X_4, e_4, ⟨ra_4, rfl, N_4, K_4, g_4, B_4⟩, st_4⟩ := cS X_3 hx hZ hown (hq hw 17 rfl) (hq hw 18 rfl) (hq hw 3 rfl) (hq hw 19 rfl) e_3 hml (rmRaw00 l Z a0 hw ea h_3 n0 (by omega) c0 c1 c2 c3 F_5 (own_rg_c q0) (own_rg_c q1) (own_rg_c q2) (own_rg_c q3)) (g := j_605) rfl rfl (lenOf pd_37 rfl) rfl (hb hby at_114) (W := 5) rfl rfl (by decide)
  have N_4' := Fr.app N0 N_4
  have z_4 := K_4.1
  have yy_4 := own_ltA B_4
  let j_606 := (mkF m 117 #[vI p1, vI p2, vI p3, vI p4, vI 0, vI 0, vI off, vR ea, vU, vU] [(.ref ra_4), (.ref ad_3), (.ref ad_3), (.ref lit), (.ref ax), (.ref ax)])
  refine GoH.s T_4 j_606 st_4 ?_
  have F_6 := (A_3.keep K_4)
  have F_7 := (F_3_value.keep K_4 nin0)
  have F_8 := (F_3_coder.keep K_4 nin0)
  have F_9 := ((O0.ext E_3).keep K_4 all0)
  have sfS := own_safeNull (EL := own_EL) hZ.alike F_6 F_7
  have c_10 := c_0.trans (CHr.ext E_3 c_0.1)
  have c_11 := c_10.trans (CHr.keep K_4 all0 c_10.1)
  obtain ⟨v_12, T_12, h_12, L_12, X_12, e_12, ⟨rfl, N_12, K_12, vb_12, F1_12, F2_12, B_12⟩, S_12, hZ_12, ho_12, C_12, st_12⟩ := cNH X_4 hx hZ hown (hq hw 21 rfl) (hq hw 22 rfl) (hq hw 9 rfl) (hq hw 23 rfl) e_4 rfl hml (rmS10 l Z a0 hw ad_3 ra_4 h_4 n0 (by omega) vcs hcs F_9 SCS F_6 F_7 F_8 (by omega) B_4 (own_ne (by omega))) (g := j_606) rfl rfl (lenOf pd_38 rfl) rfl (hb hby at_117) (W := 4) rfl rfl (by decide) (own_ew hw) c_11.1
  have N_12' := Fr.app N_4' N_12
  have z_12 := K_12.1
  have B_12' : Ary Z h_12 vb_12 .byte (([] : List Int32).map own_bv) := B_12
  have yv_12 := own_ltA B_12
  refine GoH.s T_12 (mkF m 120 #[vI p1, vI p2, vI p3, vI p4, vI 0, vI 0, vI off, vR ea, vU, vU] [(.ref ad_3), (.ref lit), (.ref ax), (.ref ax)]) st_12 ?_
  refine GoH.lift S_12 (Nat.le_refl _) (c_11.trans C_12) ?_
  have hZ : Z.Warmed39 (s.setVm T_12.vm).vm := hZ_12
  have hown := ho_12
  have c_12 := CHr.refl C_12.1
  have F_13 := (F_6.keep K_12)
  have F_14 := (F_9.keep K_12 (own_o1 (by omega)))
  have F_15 := (((EX.ext E_3).keep K_4).keep K_12)
  have sfX : Safe Z own_EL (s.setVm T_12.vm).vm h_12 ax := Safe.exa hZ.alike F_15 (by decide) (by decide)
  have nxs := own_neEE F_15 F_13 (by decide)
  have nxv := own_neEA (hq hw 6 rfl) F_15 B_12'
  have F_16 := (((Fpath.ext E_3).keep K_4 nin0).keep K_12 (own_n1 (by omega)))
  have F_17 := (((Ftext.ext E_3).keep K_4 nin0).keep K_12 (own_n1 (by omega)))
  have F_18 := (((FlineStarts.ext E_3).keep K_4 nin0).keep K_12 (own_n1 (by omega)))
  obtain ⟨v_19, T_19, h_19, L_19, X_19, e_19, ⟨rfl, N_19, K_19, la_19, g_19, F1_19, B_19⟩, st_19⟩ := cN X_12 hx hZ hown (hq hw 44 rfl) (hq hw 45 rfl) (hq hw 7 rfl) (hq hw 46 rfl) e_12 rfl hml (rmSXE l Z a0 hw ax lit ad_3 h_12 n0 (by omega) vcs hcs F_14 SCS vb_12 F_13 F1_12 F2_12 [] B_12' (own_l1_0 ) vfm rfm SFM ica ivs SIH SIC AIC hi256 hIC vd SDV ADV F_15 gx F_16 F_17 F_18 rfl nxs nxv) (g := (mkF m 120 #[vI p1, vI p2, vI p3, vI p4, vI 0, vI 0, vI off, vR ea, vU, vU] [(.ref ad_3), (.ref lit), (.ref ax), (.ref ax)])) rfl rfl (lenOf pd_39 rfl) rfl (hb hby at_120) (W := 1) rfl rfl (by decide)
  have N_19' := Fr.app N_12' N_19
  have z_19 := K_19.1
  have yl_19 := own_ltA B_19
  refine GoH.s T_19 (mkF m 123 #[vI p1, vI p2, vI p3, vI p4, vI 0, vI 0, vI off, vR ea, vU, vU] [(.ref ax)]) st_19 ?_
  have F_20 := (((F_5.keep K_4 nin0).keep K_12 (own_n1 (by omega))).keep K_19 (own_n1 (by omega)))
  have F_21 := (F_15.keep K_19)
  have c_22 := c_12.trans (CHr.keep K_19 (List.forall_mem_singleton.mpr sfX) c_12.1)
  exact GoH.ofGo (tl Z a0 hw n0 hx hby hml hZ hown hnm hret hlk p1 p2 p3 p4 (0 : Int32) (0 : Int32) off ea ax la_19 c0 c1 c2 c3 (by decide) _ (own_law0 c0 c1 c2 c3 off).1 (own_law0 c0 c1 c2 c3 off).2 T_19 _ h_19 (by omega) (own_more X_19 (by decide) (by decide)) e_19 N_19' F_20 F_21 F1_19 B_19) (fun v h' L q => ⟨⟨q.1, q.2.1⟩, hZ, ⟨a0, own_ew hw⟩, by rw [q.2.2]; exact c_22⟩)
theorem md01 {p : Program} {l : Launch} {e : Env} {s : State} {m : MethodId} {args : Array Value} {below : List Frame} {meth : Method} {c : Code} (Z : State) (a0 : Array Value) (hw : own_W a0 Z) (n0 : Nat) (hx : p.tables.exec = Jvm.exec) (hby : c.code = code) (hml : c.maxLocals = 10) (hZ : Z.Warmed39 s.vm) (hown : s.vm.findClass cL = some m.cls) (hnm : meth.name = "law") (hret : meth.sig.returnType = some .boolean) (hlk : meth.locks = false) (vcs : Int32) (hcs : ¬ vcs = 0) (SCS : sCS Z vcs) (SAD : sAD Z) (SHI : sHI Z) (SLO : sLO Z) (vfm : Value) (rfm : vfm.isRef = true) (SFM : sFM Z vfm) (ica : Nat) (ivs : List Value) (SIH : sIH Z) (SIC : sIC Z ica) (AIC : Ary Z Z.heap ica (.object "java/lang/Integer") ivs) (hi256 : ivs.length = 256) (hIC : pIC Z ivs) (vd : Nat) (SDV : sDV Z vd) (ADV : Ary Z Z.heap vd (.object "java/lang/Object") []) (p1 p2 p3 p4 off : Int32) (ea ax lit : Nat) (c0 c1 c2 c3 : Int32) (q0 : own_rg c0) (q1 : own_rg c1) (q2 : own_rg c2) (q3 : own_rg c3) :
    ∀  (T0 : State) (locs0 : List Loc) (h0 : Heap) (Z0 : n0 ≤ h0.size) (X0 : Stand p l e room_1 s m args below meth c T0 locs0 4 15) (e0 : T0.heap = h0) (N0 : Fr n0 locs0) (O0 : Old Z n0 h0) (H0 : CHv Z own_EL s.vm h0) (Ae : Ary Z h0 ea .char [(.int c0), (.int c1), (.int c2), (.int c3)]) (EX : Exa Z h0 ax cX) (gx : n0 ≤ ax) (Fpath : fP Z h0 ax .null) (Ftext : fT Z h0 ax .null) (FlineStarts : fX Z h0 ax .null), GoH Z h0 p e below s room_1.cells room_1.slots (fun v h L => v = some (.int 1) ∧ Fr n0 L) (T0.setTop (mkF m 104 #[vI p1, vI p2, vI p3, vI p4, vI 0, vI 1, vI off, vR ea, vU, vU] [(.ref lit), (.ref ax), (.ref ax)])) := by
  intro  T0 locs0 h0 Z0 X0 e0 N0 O0 H0 Ae EX gx Fpath Ftext FlineStarts
  have lt_1 := own_ltE EX
  have lt_2 := own_ltA Ae
  have c_0 := CHr.refl H0
  have nex := own_neEA (hq hw 6 rfl) EX Ae
  obtain ⟨T_3, h_3, X_3, e_3, E_3, A_3, D_3, -, st_3⟩ := newO X0 hx hZ hown (hq hw 16 rfl) (hq hw 10 rfl) (hq hw 9 rfl) e0 (g := (mkF m 104 #[vI p1, vI p2, vI p3, vI p4, vI 0, vI 1, vI off, vR ea, vU, vU] [(.ref lit), (.ref ax), (.ref ax)])) rfl (hb hby at_104) (by decide) (by decide)
  obtain ⟨ad_3, g_3⟩ : ∃ z, z = h0.size := ⟨_, rfl⟩
  rw [← g_3] at A_3 D_3 st_3
  have z_3 := E_3.1
  have y_3 := own_ltE A_3
  have F_3_value : fV Z h_3 ad_3 .null := D_3 (Or.inr (hq hw 12 rfl)) (ty := (.array .byte)) (by decide)
  have F_3_coder : fC Z h_3 ad_3 (.int 0) := D_3 (Or.inr (hq hw 13 rfl)) (ty := .byte) (by decide)
  let j_607 := (mkF m 114 #[vI p1, vI p2, vI p3, vI p4, vI 0, vI 1, vI off, vR ea, vU, vU] [(.ref ea), (.int 0), (.int 1), (.ref ad_3), (.ref ad_3), (.ref lit), (.ref ax), (.ref ax)])
  refine GoH.s T_3 j_607 (fun _ hr => st_3 _ (yd X_3 hx (hb hby at_107) rfl (yi X_3 hx (hb hby at_108) rfl (yi X_3 hx (hb hby at_110) rfl (ya X_3 hx (hb hby at_112) rfl rfl hr))))) ?_
  have F_5 := (Ae.ext E_3)
  obtain ⟨v_4, T_4, h_4, L_4, X_4, e_4, ⟨ra_4, rfl, N_4, K_4, g_4, B_4⟩, st_4⟩ := cS X_3 hx hZ hown (hq hw 17 rfl) (hq hw 18 rfl) (hq hw 3 rfl) (hq hw 19 rfl) e_3 hml (rmRaw10 l Z a0 hw ea h_3 n0 (by omega) c0 c1 c2 c3 F_5 (own_rg_c q0) (own_rg_c q1) (own_rg_c q2) (own_rg_c q3)) (g := j_607) rfl rfl (lenOf pd_37 rfl) rfl (hb hby at_114) (W := 5) rfl rfl (by decide)
  have N_4' := Fr.app N0 N_4
  have z_4 := K_4.1
  have yy_4 := own_ltA B_4
  let j_608 := (mkF m 117 #[vI p1, vI p2, vI p3, vI p4, vI 0, vI 1, vI off, vR ea, vU, vU] [(.ref ra_4), (.ref ad_3), (.ref ad_3), (.ref lit), (.ref ax), (.ref ax)])
  refine GoH.s T_4 j_608 st_4 ?_
  have F_6 := (A_3.keep K_4)
  have F_7 := (F_3_value.keep K_4 nin0)
  have F_8 := (F_3_coder.keep K_4 nin0)
  have F_9 := ((O0.ext E_3).keep K_4 all0)
  have sfS := own_safeNull (EL := own_EL) hZ.alike F_6 F_7
  obtain ⟨v_10, T_10, h_10, L_10, X_10, e_10, ⟨rfl, N_10, K_10, vb_10, g_10, F1_10, F2_10, B_10⟩, st_10⟩ := cN X_4 hx hZ hown (hq hw 21 rfl) (hq hw 22 rfl) (hq hw 9 rfl) (hq hw 23 rfl) e_4 rfl hml (rmS1U1 l Z a0 hw ad_3 ra_4 h_4 n0 (by omega) vcs hcs F_9 SCS SAD SHI SLO F_6 F_7 F_8 (by omega)  B_4  (own_ne (by omega))) (g := j_608) rfl rfl (lenOf pd_38 rfl) rfl (hb hby at_117) (W := 4) rfl rfl (by decide)
  have N_10' := Fr.app N_4' N_10
  have z_10 := K_10.1
  have yv_10 := own_ltA B_10
  let j_609 := (mkF m 120 #[vI p1, vI p2, vI p3, vI p4, vI 0, vI 1, vI off, vR ea, vU, vU] [(.ref ad_3), (.ref lit), (.ref ax), (.ref ax)])
  refine GoH.s T_10 j_609 st_10 ?_
  have F_11 := (F_6.keep K_10)
  have F_12 := (F_9.keep K_10 (own_o1 (by omega)))
  have F_13 := (((EX.ext E_3).keep K_4).keep K_10)
  have sfX : Safe Z own_EL s.vm h_10 ax := Safe.exa hZ.alike F_13 (by decide) (by decide)
  have nxs := own_neEE F_13 F_11 (by decide)
  have nxv := own_neEA (hq hw 6 rfl) F_13 B_10
  have F_14 := (((Fpath.ext E_3).keep K_4 nin0).keep K_10 (own_n1 (by omega)))
  have F_15 := (((Ftext.ext E_3).keep K_4 nin0).keep K_10 (own_n1 (by omega)))
  have F_16 := (((FlineStarts.ext E_3).keep K_4 nin0).keep K_10 (own_n1 (by omega)))
  have c_17 := c_0.trans (CHr.ext E_3 c_0.1)
  have c_18 := c_17.trans (CHr.keep K_4 all0 c_17.1)
  have c_19 := c_18.trans (CHr.keep K_10 (List.forall_mem_singleton.mpr sfS) c_18.1)
  obtain ⟨v_20, T_20, h_20, L_20, X_20, e_20, ⟨rfl, N_20, K_20, la_20, g_20, F1_20, B_20⟩, S_20, hZ_20, ho_20, C_20, st_20⟩ := cNH X_10 hx hZ hown (hq hw 44 rfl) (hq hw 45 rfl) (hq hw 7 rfl) (hq hw 46 rfl) e_10 rfl hml (rmSXU1 l Z a0 hw ax lit ad_3 h_10 n0 (by omega) vcs hcs F_12 SCS SAD SHI SLO vfm rfm SFM vb_10 F_11 F1_10 F2_10  B_10  ica ivs SIH SIC AIC hi256 hIC vd SDV ADV F_13 gx F_14 F_15 F_16 nxs nxv) (g := j_609) rfl rfl (lenOf pd_39 rfl) rfl (hb hby at_120) (W := 1) rfl rfl (by decide) (own_ew hw) c_19.1
  have N_20' := Fr.app N_10' N_20
  have z_20 := K_20.1
  have yl_20 := own_ltA B_20
  refine GoH.s T_20 (mkF m 123 #[vI p1, vI p2, vI p3, vI p4, vI 0, vI 1, vI off, vR ea, vU, vU] [(.ref ax)]) st_20 ?_
  refine GoH.lift S_20 (Nat.le_refl _) (c_19.trans C_20) ?_
  have hZ : Z.Warmed39 (s.setVm T_20.vm).vm := hZ_20
  have hown := ho_20
  have c_20 := CHr.refl C_20.1
  have F_21 := (((F_5.keep K_4 nin0).keep K_10 (own_n1 (by omega))).keep K_20 (own_n1 (by omega)))
  have F_22 := (F_13.keep K_20)
  exact GoH.ofGo (tl Z a0 hw n0 hx hby hml hZ hown hnm hret hlk p1 p2 p3 p4 (0 : Int32) (1 : Int32) off ea ax la_20 c0 c1 c2 c3 (by decide) _ (own_law0 c0 c1 c2 c3 off).1 (own_law0 c0 c1 c2 c3 off).2 T_20 _ h_20 (by omega) (own_more X_20 (by decide) (by decide)) e_20 N_20' F_21 F_22 F1_20 B_20) (fun v h' L q => ⟨⟨q.1, q.2.1⟩, hZ, ⟨a0, own_ew hw⟩, by rw [q.2.2]; exact c_20⟩)
theorem md10 {p : Program} {l : Launch} {e : Env} {s : State} {m : MethodId} {args : Array Value} {below : List Frame} {meth : Method} {c : Code} (Z : State) (a0 : Array Value) (hw : own_W a0 Z) (n0 : Nat) (hx : p.tables.exec = Jvm.exec) (hby : c.code = code) (hml : c.maxLocals = 10) (hZ : Z.Warmed39 s.vm) (hown : s.vm.findClass cL = some m.cls) (hnm : meth.name = "law") (hret : meth.sig.returnType = some .boolean) (hlk : meth.locks = false) (vcs : Int32) (hcs : ¬ vcs = 0) (SCS : sCS Z vcs) (SAD : sAD Z) (SHI : sHI Z) (SLO : sLO Z) (vfm : Value) (rfm : vfm.isRef = true) (SFM : sFM Z vfm) (ica : Nat) (ivs : List Value) (SIH : sIH Z) (SIC : sIC Z ica) (AIC : Ary Z Z.heap ica (.object "java/lang/Integer") ivs) (hi256 : ivs.length = 256) (hIC : pIC Z ivs) (vd : Nat) (SDV : sDV Z vd) (ADV : Ary Z Z.heap vd (.object "java/lang/Object") []) (p1 p2 p3 p4 off : Int32) (ea ax lit : Nat) (c0 c1 c2 c3 : Int32) (q0 : own_rg c0) (q1 : own_rg c1) (q2 : own_rg c2) (q3 : own_rg c3) :
    ∀  (T0 : State) (locs0 : List Loc) (h0 : Heap) (Z0 : n0 ≤ h0.size) (X0 : Stand p l e room_1 s m args below meth c T0 locs0 4 15) (e0 : T0.heap = h0) (N0 : Fr n0 locs0) (O0 : Old Z n0 h0) (H0 : CHv Z own_EL s.vm h0) (Ae : Ary Z h0 ea .char [(.int c0), (.int c1), (.int c2), (.int c3)]) (EX : Exa Z h0 ax cX) (gx : n0 ≤ ax) (Fpath : fP Z h0 ax .null) (Ftext : fT Z h0 ax .null) (FlineStarts : fX Z h0 ax .null), GoH Z h0 p e below s room_1.cells room_1.slots (fun v h L => v = some (.int 1) ∧ Fr n0 L) (T0.setTop (mkF m 104 #[vI p1, vI p2, vI p3, vI p4, vI 1, vI 0, vI off, vR ea, vU, vU] [(.ref lit), (.ref ax), (.ref ax)])) := by
  intro  T0 locs0 h0 Z0 X0 e0 N0 O0 H0 Ae EX gx Fpath Ftext FlineStarts
  have lt_1 := own_ltE EX
  have lt_2 := own_ltA Ae
  have c_0 := CHr.refl H0
  have nex := own_neEA (hq hw 6 rfl) EX Ae
  obtain ⟨T_3, h_3, X_3, e_3, E_3, A_3, D_3, -, st_3⟩ := newO X0 hx hZ hown (hq hw 16 rfl) (hq hw 10 rfl) (hq hw 9 rfl) e0 (g := (mkF m 104 #[vI p1, vI p2, vI p3, vI p4, vI 1, vI 0, vI off, vR ea, vU, vU] [(.ref lit), (.ref ax), (.ref ax)])) rfl (hb hby at_104) (by decide) (by decide)
  obtain ⟨ad_3, g_3⟩ : ∃ z, z = h0.size := ⟨_, rfl⟩
  rw [← g_3] at A_3 D_3 st_3
  have z_3 := E_3.1
  have y_3 := own_ltE A_3
  have F_3_value : fV Z h_3 ad_3 .null := D_3 (Or.inr (hq hw 12 rfl)) (ty := (.array .byte)) (by decide)
  have F_3_coder : fC Z h_3 ad_3 (.int 0) := D_3 (Or.inr (hq hw 13 rfl)) (ty := .byte) (by decide)
  let j_610 := (mkF m 114 #[vI p1, vI p2, vI p3, vI p4, vI 1, vI 0, vI off, vR ea, vU, vU] [(.ref ea), (.int 1), (.int 0), (.ref ad_3), (.ref ad_3), (.ref lit), (.ref ax), (.ref ax)])
  refine GoH.s T_3 j_610 (fun _ hr => st_3 _ (yd X_3 hx (hb hby at_107) rfl (yi X_3 hx (hb hby at_108) rfl (yi X_3 hx (hb hby at_110) rfl (ya X_3 hx (hb hby at_112) rfl rfl hr))))) ?_
  have F_5 := (Ae.ext E_3)
  obtain ⟨v_4, T_4, h_4, L_4, X_4, e_4, ⟨ra_4, rfl, N_4, K_4, g_4, B_4⟩, st_4⟩ := cS X_3 hx hZ hown (hq hw 17 rfl) (hq hw 18 rfl) (hq hw 3 rfl) (hq hw 19 rfl) e_3 hml (rmRaw01 l Z a0 hw ea h_3 n0 (by omega) c0 c1 c2 c3 F_5 (own_rg_c q0) (own_rg_c q1) (own_rg_c q2) (own_rg_c q3)) (g := j_610) rfl rfl (lenOf pd_37 rfl) rfl (hb hby at_114) (W := 5) rfl rfl (by decide)
  have N_4' := Fr.app N0 N_4
  have z_4 := K_4.1
  have yy_4 := own_ltA B_4
  let j_611 := (mkF m 117 #[vI p1, vI p2, vI p3, vI p4, vI 1, vI 0, vI off, vR ea, vU, vU] [(.ref ra_4), (.ref ad_3), (.ref ad_3), (.ref lit), (.ref ax), (.ref ax)])
  refine GoH.s T_4 j_611 st_4 ?_
  have F_6 := (A_3.keep K_4)
  have F_7 := (F_3_value.keep K_4 nin0)
  have F_8 := (F_3_coder.keep K_4 nin0)
  have F_9 := ((O0.ext E_3).keep K_4 all0)
  have sfS := own_safeNull (EL := own_EL) hZ.alike F_6 F_7
  obtain ⟨v_10, T_10, h_10, L_10, X_10, e_10, ⟨rfl, N_10, K_10, vb_10, g_10, F1_10, F2_10, B_10⟩, st_10⟩ := cN X_4 hx hZ hown (hq hw 21 rfl) (hq hw 22 rfl) (hq hw 9 rfl) (hq hw 23 rfl) e_4 rfl hml (rmS11 l Z a0 hw ad_3 ra_4 h_4 n0 (by omega) vcs hcs F_9 SCS F_6 F_7 F_8 (by omega) c0 B_4 q0 (own_ne (by omega))) (g := j_611) rfl rfl (lenOf pd_38 rfl) rfl (hb hby at_117) (W := 4) rfl rfl (by decide)
  have N_10' := Fr.app N_4' N_10
  have z_10 := K_10.1
  have B_10' : Ary Z h_10 vb_10 .byte ([c0].map own_bv) := B_10
  have yv_10 := own_ltA B_10
  let j_612 := (mkF m 120 #[vI p1, vI p2, vI p3, vI p4, vI 1, vI 0, vI off, vR ea, vU, vU] [(.ref ad_3), (.ref lit), (.ref ax), (.ref ax)])
  refine GoH.s T_10 j_612 st_10 ?_
  have F_11 := (F_6.keep K_10)
  have F_12 := (F_9.keep K_10 (own_o1 (by omega)))
  have F_13 := (((EX.ext E_3).keep K_4).keep K_10)
  have sfX : Safe Z own_EL s.vm h_10 ax := Safe.exa hZ.alike F_13 (by decide) (by decide)
  have nxs := own_neEE F_13 F_11 (by decide)
  have nxv := own_neEA (hq hw 6 rfl) F_13 B_10'
  have F_14 := (((Fpath.ext E_3).keep K_4 nin0).keep K_10 (own_n1 (by omega)))
  have F_15 := (((Ftext.ext E_3).keep K_4 nin0).keep K_10 (own_n1 (by omega)))
  have F_16 := (((FlineStarts.ext E_3).keep K_4 nin0).keep K_10 (own_n1 (by omega)))
  obtain ⟨v_17, T_17, h_17, L_17, X_17, e_17, ⟨rfl, N_17, K_17, la_17, g_17, F1_17, B_17⟩, st_17⟩ := cN X_10 hx hZ hown (hq hw 44 rfl) (hq hw 45 rfl) (hq hw 7 rfl) (hq hw 46 rfl) e_10 rfl hml (rmSXL l Z a0 hw ax lit ad_3 h_10 n0 (by omega) vcs hcs F_12 SCS vb_10 F_11 F1_10 F2_10 [c0] B_10' (own_l1_1 q0) vfm rfm SFM ica ivs SIH SIC AIC hi256 hIC vd SDV ADV F_13 gx F_14 F_15 F_16 (by simp) nxs nxv) (g := j_612) rfl rfl (lenOf pd_39 rfl) rfl (hb hby at_120) (W := 1) rfl rfl (by decide)
  have N_17' := Fr.app N_10' N_17
  have z_17 := K_17.1
  have yl_17 := own_ltA B_17
  refine GoH.s T_17 (mkF m 123 #[vI p1, vI p2, vI p3, vI p4, vI 1, vI 0, vI off, vR ea, vU, vU] [(.ref ax)]) st_17 ?_
  have F_18 := (((F_5.keep K_4 nin0).keep K_10 (own_n1 (by omega))).keep K_17 (own_n1 (by omega)))
  have F_19 := (F_13.keep K_17)
  have c_20 := c_0.trans (CHr.ext E_3 c_0.1)
  have c_21 := c_20.trans (CHr.keep K_4 all0 c_20.1)
  have c_22 := c_21.trans (CHr.keep K_10 (List.forall_mem_singleton.mpr sfS) c_21.1)
  have c_23 := c_22.trans (CHr.keep K_17 (List.forall_mem_singleton.mpr sfX) c_22.1)
  exact GoH.ofGo (tl Z a0 hw n0 hx hby hml hZ hown hnm hret hlk p1 p2 p3 p4 (1 : Int32) (0 : Int32) off ea ax la_17 c0 c1 c2 c3 (by decide) _ (own_law1 c0 c1 c2 c3 off).1 (own_law1 c0 c1 c2 c3 off).2 T_17 _ h_17 (by omega) (own_more X_17 (by decide) (by decide)) e_17 N_17' F_18 F_19 F1_17 B_17) (fun v h' L q => ⟨⟨q.1, q.2.1⟩, hZ, ⟨a0, own_ew hw⟩, by rw [q.2.2]; exact c_23⟩)
theorem md11 {p : Program} {l : Launch} {e : Env} {s : State} {m : MethodId} {args : Array Value} {below : List Frame} {meth : Method} {c : Code} (Z : State) (a0 : Array Value) (hw : own_W a0 Z) (n0 : Nat) (hx : p.tables.exec = Jvm.exec) (hby : c.code = code) (hml : c.maxLocals = 10) (hZ : Z.Warmed39 s.vm) (hown : s.vm.findClass cL = some m.cls) (hnm : meth.name = "law") (hret : meth.sig.returnType = some .boolean) (hlk : meth.locks = false) (vcs : Int32) (hcs : ¬ vcs = 0) (SCS : sCS Z vcs) (SAD : sAD Z) (SHI : sHI Z) (SLO : sLO Z) (vfm : Value) (rfm : vfm.isRef = true) (SFM : sFM Z vfm) (ica : Nat) (ivs : List Value) (SIH : sIH Z) (SIC : sIC Z ica) (AIC : Ary Z Z.heap ica (.object "java/lang/Integer") ivs) (hi256 : ivs.length = 256) (hIC : pIC Z ivs) (vd : Nat) (SDV : sDV Z vd) (ADV : Ary Z Z.heap vd (.object "java/lang/Object") []) (p1 p2 p3 p4 off : Int32) (ea ax lit : Nat) (c0 c1 c2 c3 : Int32) (q0 : own_rg c0) (q1 : own_rg c1) (q2 : own_rg c2) (q3 : own_rg c3) :
    ∀  (T0 : State) (locs0 : List Loc) (h0 : Heap) (Z0 : n0 ≤ h0.size) (X0 : Stand p l e room_1 s m args below meth c T0 locs0 4 15) (e0 : T0.heap = h0) (N0 : Fr n0 locs0) (O0 : Old Z n0 h0) (H0 : CHv Z own_EL s.vm h0) (Ae : Ary Z h0 ea .char [(.int c0), (.int c1), (.int c2), (.int c3)]) (EX : Exa Z h0 ax cX) (gx : n0 ≤ ax) (Fpath : fP Z h0 ax .null) (Ftext : fT Z h0 ax .null) (FlineStarts : fX Z h0 ax .null), GoH Z h0 p e below s room_1.cells room_1.slots (fun v h L => v = some (.int 1) ∧ Fr n0 L) (T0.setTop (mkF m 104 #[vI p1, vI p2, vI p3, vI p4, vI 1, vI 1, vI off, vR ea, vU, vU] [(.ref lit), (.ref ax), (.ref ax)])) := by
  intro  T0 locs0 h0 Z0 X0 e0 N0 O0 H0 Ae EX gx Fpath Ftext FlineStarts
  have lt_1 := own_ltE EX
  have lt_2 := own_ltA Ae
  have c_0 := CHr.refl H0
  have nex := own_neEA (hq hw 6 rfl) EX Ae
  obtain ⟨T_3, h_3, X_3, e_3, E_3, A_3, D_3, -, st_3⟩ := newO X0 hx hZ hown (hq hw 16 rfl) (hq hw 10 rfl) (hq hw 9 rfl) e0 (g := (mkF m 104 #[vI p1, vI p2, vI p3, vI p4, vI 1, vI 1, vI off, vR ea, vU, vU] [(.ref lit), (.ref ax), (.ref ax)])) rfl (hb hby at_104) (by decide) (by decide)
  obtain ⟨ad_3, g_3⟩ : ∃ z, z = h0.size := ⟨_, rfl⟩
  rw [← g_3] at A_3 D_3 st_3
  have z_3 := E_3.1
  have y_3 := own_ltE A_3
  have F_3_value : fV Z h_3 ad_3 .null := D_3 (Or.inr (hq hw 12 rfl)) (ty := (.array .byte)) (by decide)
  have F_3_coder : fC Z h_3 ad_3 (.int 0) := D_3 (Or.inr (hq hw 13 rfl)) (ty := .byte) (by decide)
  let j_613 := (mkF m 114 #[vI p1, vI p2, vI p3, vI p4, vI 1, vI 1, vI off, vR ea, vU, vU] [(.ref ea), (.int 1), (.int 1), (.ref ad_3), (.ref ad_3), (.ref lit), (.ref ax), (.ref ax)])
  refine GoH.s T_3 j_613 (fun _ hr => st_3 _ (yd X_3 hx (hb hby at_107) rfl (yi X_3 hx (hb hby at_108) rfl (yi X_3 hx (hb hby at_110) rfl (ya X_3 hx (hb hby at_112) rfl rfl hr))))) ?_
  have F_5 := (Ae.ext E_3)
  obtain ⟨v_4, T_4, h_4, L_4, X_4, e_4, ⟨ra_4, rfl, N_4, K_4, g_4, B_4⟩, st_4⟩ := cS X_3 hx hZ hown (hq hw 17 rfl) (hq hw 18 rfl) (hq hw 3 rfl) (hq hw 19 rfl) e_3 hml (rmRaw11 l Z a0 hw ea h_3 n0 (by omega) c0 c1 c2 c3 F_5 (own_rg_c q0) (own_rg_c q1) (own_rg_c q2) (own_rg_c q3)) (g := j_613) rfl rfl (lenOf pd_37 rfl) rfl (hb hby at_114) (W := 5) rfl rfl (by decide)
  have N_4' := Fr.app N0 N_4
  have z_4 := K_4.1
  have yy_4 := own_ltA B_4
  let j_614 := (mkF m 117 #[vI p1, vI p2, vI p3, vI p4, vI 1, vI 1, vI off, vR ea, vU, vU] [(.ref ra_4), (.ref ad_3), (.ref ad_3), (.ref lit), (.ref ax), (.ref ax)])
  refine GoH.s T_4 j_614 st_4 ?_
  have F_6 := (A_3.keep K_4)
  have F_7 := (F_3_value.keep K_4 nin0)
  have F_8 := (F_3_coder.keep K_4 nin0)
  have F_9 := ((O0.ext E_3).keep K_4 all0)
  have sfS := own_safeNull (EL := own_EL) hZ.alike F_6 F_7
  obtain ⟨v_10, T_10, h_10, L_10, X_10, e_10, ⟨rfl, N_10, K_10, vb_10, g_10, F1_10, F2_10, B_10⟩, st_10⟩ := cN X_4 hx hZ hown (hq hw 21 rfl) (hq hw 22 rfl) (hq hw 9 rfl) (hq hw 23 rfl) e_4 rfl hml (rmS1U2 l Z a0 hw ad_3 ra_4 h_4 n0 (by omega) vcs hcs F_9 SCS SAD SHI SLO F_6 F_7 F_8 (by omega) c0 B_4 q0 (own_ne (by omega))) (g := j_614) rfl rfl (lenOf pd_38 rfl) rfl (hb hby at_117) (W := 4) rfl rfl (by decide)
  have N_10' := Fr.app N_4' N_10
  have z_10 := K_10.1
  have yv_10 := own_ltA B_10
  let j_615 := (mkF m 120 #[vI p1, vI p2, vI p3, vI p4, vI 1, vI 1, vI off, vR ea, vU, vU] [(.ref ad_3), (.ref lit), (.ref ax), (.ref ax)])
  refine GoH.s T_10 j_615 st_10 ?_
  have F_11 := (F_6.keep K_10)
  have F_12 := (F_9.keep K_10 (own_o1 (by omega)))
  have F_13 := (((EX.ext E_3).keep K_4).keep K_10)
  have sfX : Safe Z own_EL s.vm h_10 ax := Safe.exa hZ.alike F_13 (by decide) (by decide)
  have nxs := own_neEE F_13 F_11 (by decide)
  have nxv := own_neEA (hq hw 6 rfl) F_13 B_10
  have F_14 := (((Fpath.ext E_3).keep K_4 nin0).keep K_10 (own_n1 (by omega)))
  have F_15 := (((Ftext.ext E_3).keep K_4 nin0).keep K_10 (own_n1 (by omega)))
  have F_16 := (((FlineStarts.ext E_3).keep K_4 nin0).keep K_10 (own_n1 (by omega)))
  obtain ⟨v_17, T_17, h_17, L_17, X_17, e_17, ⟨rfl, N_17, K_17, la_17, g_17, F1_17, B_17⟩, st_17⟩ := cN X_10 hx hZ hown (hq hw 44 rfl) (hq hw 45 rfl) (hq hw 7 rfl) (hq hw 46 rfl) e_10 rfl hml (rmSXU2 l Z a0 hw ax lit ad_3 h_10 n0 (by omega) vcs hcs F_12 SCS SAD SHI SLO vfm rfm SFM vb_10 F_11 F1_10 F2_10 c0 B_10 q0 ica ivs SIH SIC AIC hi256 hIC vd SDV ADV F_13 gx F_14 F_15 F_16 nxs nxv) (g := j_615) rfl rfl (lenOf pd_39 rfl) rfl (hb hby at_120) (W := 1) rfl rfl (by decide)
  have N_17' := Fr.app N_10' N_17
  have z_17 := K_17.1
  have yl_17 := own_ltA B_17
  refine GoH.s T_17 (mkF m 123 #[vI p1, vI p2, vI p3, vI p4, vI 1, vI 1, vI off, vR ea, vU, vU] [(.ref ax)]) st_17 ?_
  have F_18 := (((F_5.keep K_4 nin0).keep K_10 (own_n1 (by omega))).keep K_17 (own_n1 (by omega)))
  have F_19 := (F_13.keep K_17)
  have c_20 := c_0.trans (CHr.ext E_3 c_0.1)
  have c_21 := c_20.trans (CHr.keep K_4 all0 c_20.1)
  have c_22 := c_21.trans (CHr.keep K_10 (List.forall_mem_singleton.mpr sfS) c_21.1)
  have c_23 := c_22.trans (CHr.keep K_17 (List.forall_mem_singleton.mpr sfX) c_22.1)
  exact GoH.ofGo (tl Z a0 hw n0 hx hby hml hZ hown hnm hret hlk p1 p2 p3 p4 (1 : Int32) (1 : Int32) off ea ax la_17 c0 c1 c2 c3 (by decide) _ (own_law1 c0 c1 c2 c3 off).1 (own_law1 c0 c1 c2 c3 off).2 T_17 _ h_17 (by omega) (own_more X_17 (by decide) (by decide)) e_17 N_17' F_18 F_19 F1_17 B_17) (fun v h' L q => ⟨⟨q.1, q.2.1⟩, hZ, ⟨a0, own_ew hw⟩, by rw [q.2.2]; exact c_23⟩)
theorem md20 {p : Program} {l : Launch} {e : Env} {s : State} {m : MethodId} {args : Array Value} {below : List Frame} {meth : Method} {c : Code} (Z : State) (a0 : Array Value) (hw : own_W a0 Z) (n0 : Nat) (hx : p.tables.exec = Jvm.exec) (hby : c.code = code) (hml : c.maxLocals = 10) (hZ : Z.Warmed39 s.vm) (hown : s.vm.findClass cL = some m.cls) (hnm : meth.name = "law") (hret : meth.sig.returnType = some .boolean) (hlk : meth.locks = false) (vcs : Int32) (hcs : ¬ vcs = 0) (SCS : sCS Z vcs) (SAD : sAD Z) (SHI : sHI Z) (SLO : sLO Z) (vfm : Value) (rfm : vfm.isRef = true) (SFM : sFM Z vfm) (ica : Nat) (ivs : List Value) (SIH : sIH Z) (SIC : sIC Z ica) (AIC : Ary Z Z.heap ica (.object "java/lang/Integer") ivs) (hi256 : ivs.length = 256) (hIC : pIC Z ivs) (vd : Nat) (SDV : sDV Z vd) (ADV : Ary Z Z.heap vd (.object "java/lang/Object") []) (p1 p2 p3 p4 off : Int32) (ea ax lit : Nat) (c0 c1 c2 c3 : Int32) (q0 : own_rg c0) (q1 : own_rg c1) (q2 : own_rg c2) (q3 : own_rg c3) :
    ∀  (T0 : State) (locs0 : List Loc) (h0 : Heap) (Z0 : n0 ≤ h0.size) (X0 : Stand p l e room_1 s m args below meth c T0 locs0 4 15) (e0 : T0.heap = h0) (N0 : Fr n0 locs0) (O0 : Old Z n0 h0) (H0 : CHv Z own_EL s.vm h0) (Ae : Ary Z h0 ea .char [(.int c0), (.int c1), (.int c2), (.int c3)]) (EX : Exa Z h0 ax cX) (gx : n0 ≤ ax) (Fpath : fP Z h0 ax .null) (Ftext : fT Z h0 ax .null) (FlineStarts : fX Z h0 ax .null), GoH Z h0 p e below s room_1.cells room_1.slots (fun v h L => v = some (.int 1) ∧ Fr n0 L) (T0.setTop (mkF m 104 #[vI p1, vI p2, vI p3, vI p4, vI 2, vI 0, vI off, vR ea, vU, vU] [(.ref lit), (.ref ax), (.ref ax)])) := by
  intro  T0 locs0 h0 Z0 X0 e0 N0 O0 H0 Ae EX gx Fpath Ftext FlineStarts
  have lt_1 := own_ltE EX
  have lt_2 := own_ltA Ae
  have c_0 := CHr.refl H0
  have nex := own_neEA (hq hw 6 rfl) EX Ae
  obtain ⟨T_3, h_3, X_3, e_3, E_3, A_3, D_3, -, st_3⟩ := newO X0 hx hZ hown (hq hw 16 rfl) (hq hw 10 rfl) (hq hw 9 rfl) e0 (g := (mkF m 104 #[vI p1, vI p2, vI p3, vI p4, vI 2, vI 0, vI off, vR ea, vU, vU] [(.ref lit), (.ref ax), (.ref ax)])) rfl (hb hby at_104) (by decide) (by decide)
  obtain ⟨ad_3, g_3⟩ : ∃ z, z = h0.size := ⟨_, rfl⟩
  rw [← g_3] at A_3 D_3 st_3
  have z_3 := E_3.1
  have y_3 := own_ltE A_3
  have F_3_value : fV Z h_3 ad_3 .null := D_3 (Or.inr (hq hw 12 rfl)) (ty := (.array .byte)) (by decide)
  have F_3_coder : fC Z h_3 ad_3 (.int 0) := D_3 (Or.inr (hq hw 13 rfl)) (ty := .byte) (by decide)
  let j_616 := (mkF m 114 #[vI p1, vI p2, vI p3, vI p4, vI 2, vI 0, vI off, vR ea, vU, vU] [(.ref ea), (.int 2), (.int 0), (.ref ad_3), (.ref ad_3), (.ref lit), (.ref ax), (.ref ax)])
  refine GoH.s T_3 j_616 (fun _ hr => st_3 _ (yd X_3 hx (hb hby at_107) rfl (yi X_3 hx (hb hby at_108) rfl (yi X_3 hx (hb hby at_110) rfl (ya X_3 hx (hb hby at_112) rfl rfl hr))))) ?_
  have F_5 := (Ae.ext E_3)
  obtain ⟨v_4, T_4, h_4, L_4, X_4, e_4, ⟨ra_4, rfl, N_4, K_4, g_4, B_4⟩, st_4⟩ := cS X_3 hx hZ hown (hq hw 17 rfl) (hq hw 18 rfl) (hq hw 3 rfl) (hq hw 19 rfl) e_3 hml (rmRaw02 l Z a0 hw ea h_3 n0 (by omega) c0 c1 c2 c3 F_5 (own_rg_c q0) (own_rg_c q1) (own_rg_c q2) (own_rg_c q3)) (g := j_616) rfl rfl (lenOf pd_37 rfl) rfl (hb hby at_114) (W := 5) rfl rfl (by decide)
  have N_4' := Fr.app N0 N_4
  have z_4 := K_4.1
  have yy_4 := own_ltA B_4
  let j_617 := (mkF m 117 #[vI p1, vI p2, vI p3, vI p4, vI 2, vI 0, vI off, vR ea, vU, vU] [(.ref ra_4), (.ref ad_3), (.ref ad_3), (.ref lit), (.ref ax), (.ref ax)])
  refine GoH.s T_4 j_617 st_4 ?_
  have F_6 := (A_3.keep K_4)
  have F_7 := (F_3_value.keep K_4 nin0)
  have F_8 := (F_3_coder.keep K_4 nin0)
  have F_9 := ((O0.ext E_3).keep K_4 all0)
  have sfS := own_safeNull (EL := own_EL) hZ.alike F_6 F_7
  obtain ⟨v_10, T_10, h_10, L_10, X_10, e_10, ⟨rfl, N_10, K_10, vb_10, g_10, F1_10, F2_10, B_10⟩, st_10⟩ := cN X_4 hx hZ hown (hq hw 21 rfl) (hq hw 22 rfl) (hq hw 9 rfl) (hq hw 23 rfl) e_4 rfl hml (rmS12 l Z a0 hw ad_3 ra_4 h_4 n0 (by omega) vcs hcs F_9 SCS F_6 F_7 F_8 (by omega) c0 c1 B_4 q0 q1 (own_ne (by omega))) (g := j_617) rfl rfl (lenOf pd_38 rfl) rfl (hb hby at_117) (W := 4) rfl rfl (by decide)
  have N_10' := Fr.app N_4' N_10
  have z_10 := K_10.1
  have B_10' : Ary Z h_10 vb_10 .byte ([c0, c1].map own_bv) := B_10
  have yv_10 := own_ltA B_10
  let j_618 := (mkF m 120 #[vI p1, vI p2, vI p3, vI p4, vI 2, vI 0, vI off, vR ea, vU, vU] [(.ref ad_3), (.ref lit), (.ref ax), (.ref ax)])
  refine GoH.s T_10 j_618 st_10 ?_
  have F_11 := (F_6.keep K_10)
  have F_12 := (F_9.keep K_10 (own_o1 (by omega)))
  have F_13 := (((EX.ext E_3).keep K_4).keep K_10)
  have sfX : Safe Z own_EL s.vm h_10 ax := Safe.exa hZ.alike F_13 (by decide) (by decide)
  have nxs := own_neEE F_13 F_11 (by decide)
  have nxv := own_neEA (hq hw 6 rfl) F_13 B_10'
  have F_14 := (((Fpath.ext E_3).keep K_4 nin0).keep K_10 (own_n1 (by omega)))
  have F_15 := (((Ftext.ext E_3).keep K_4 nin0).keep K_10 (own_n1 (by omega)))
  have F_16 := (((FlineStarts.ext E_3).keep K_4 nin0).keep K_10 (own_n1 (by omega)))
  obtain ⟨v_17, T_17, h_17, L_17, X_17, e_17, ⟨rfl, N_17, K_17, la_17, g_17, F1_17, B_17⟩, st_17⟩ := cN X_10 hx hZ hown (hq hw 44 rfl) (hq hw 45 rfl) (hq hw 7 rfl) (hq hw 46 rfl) e_10 rfl hml (rmSXL l Z a0 hw ax lit ad_3 h_10 n0 (by omega) vcs hcs F_12 SCS vb_10 F_11 F1_10 F2_10 [c0, c1] B_10' (own_l1_2 q0 q1) vfm rfm SFM ica ivs SIH SIC AIC hi256 hIC vd SDV ADV F_13 gx F_14 F_15 F_16 (by simp) nxs nxv) (g := j_618) rfl rfl (lenOf pd_39 rfl) rfl (hb hby at_120) (W := 1) rfl rfl (by decide)
  have N_17' := Fr.app N_10' N_17
  have z_17 := K_17.1
  have yl_17 := own_ltA B_17
  refine GoH.s T_17 (mkF m 123 #[vI p1, vI p2, vI p3, vI p4, vI 2, vI 0, vI off, vR ea, vU, vU] [(.ref ax)]) st_17 ?_
  have F_18 := (((F_5.keep K_4 nin0).keep K_10 (own_n1 (by omega))).keep K_17 (own_n1 (by omega)))
  have F_19 := (F_13.keep K_17)
  have c_20 := c_0.trans (CHr.ext E_3 c_0.1)
  have c_21 := c_20.trans (CHr.keep K_4 all0 c_20.1)
  have c_22 := c_21.trans (CHr.keep K_10 (List.forall_mem_singleton.mpr sfS) c_21.1)
  have c_23 := c_22.trans (CHr.keep K_17 (List.forall_mem_singleton.mpr sfX) c_22.1)
  exact GoH.ofGo (tl Z a0 hw n0 hx hby hml hZ hown hnm hret hlk p1 p2 p3 p4 (2 : Int32) (0 : Int32) off ea ax la_17 c0 c1 c2 c3 (by decide) _ (own_law2 c0 c1 c2 c3 off).1 (own_law2 c0 c1 c2 c3 off).2 T_17 _ h_17 (by omega) (own_more X_17 (by decide) (by decide)) e_17 N_17' F_18 F_19 F1_17 B_17) (fun v h' L q => ⟨⟨q.1, q.2.1⟩, hZ, ⟨a0, own_ew hw⟩, by rw [q.2.2]; exact c_23⟩)
theorem md21 {p : Program} {l : Launch} {e : Env} {s : State} {m : MethodId} {args : Array Value} {below : List Frame} {meth : Method} {c : Code} (Z : State) (a0 : Array Value) (hw : own_W a0 Z) (n0 : Nat) (hx : p.tables.exec = Jvm.exec) (hby : c.code = code) (hml : c.maxLocals = 10) (hZ : Z.Warmed39 s.vm) (hown : s.vm.findClass cL = some m.cls) (hnm : meth.name = "law") (hret : meth.sig.returnType = some .boolean) (hlk : meth.locks = false) (vcs : Int32) (hcs : ¬ vcs = 0) (SCS : sCS Z vcs) (SAD : sAD Z) (SHI : sHI Z) (SLO : sLO Z) (vfm : Value) (rfm : vfm.isRef = true) (SFM : sFM Z vfm) (ica : Nat) (ivs : List Value) (SIH : sIH Z) (SIC : sIC Z ica) (AIC : Ary Z Z.heap ica (.object "java/lang/Integer") ivs) (hi256 : ivs.length = 256) (hIC : pIC Z ivs) (vd : Nat) (SDV : sDV Z vd) (ADV : Ary Z Z.heap vd (.object "java/lang/Object") []) (p1 p2 p3 p4 off : Int32) (ea ax lit : Nat) (c0 c1 c2 c3 : Int32) (q0 : own_rg c0) (q1 : own_rg c1) (q2 : own_rg c2) (q3 : own_rg c3) :
    ∀  (T0 : State) (locs0 : List Loc) (h0 : Heap) (Z0 : n0 ≤ h0.size) (X0 : Stand p l e room_1 s m args below meth c T0 locs0 4 15) (e0 : T0.heap = h0) (N0 : Fr n0 locs0) (O0 : Old Z n0 h0) (H0 : CHv Z own_EL s.vm h0) (Ae : Ary Z h0 ea .char [(.int c0), (.int c1), (.int c2), (.int c3)]) (EX : Exa Z h0 ax cX) (gx : n0 ≤ ax) (Fpath : fP Z h0 ax .null) (Ftext : fT Z h0 ax .null) (FlineStarts : fX Z h0 ax .null), GoH Z h0 p e below s room_1.cells room_1.slots (fun v h L => v = some (.int 1) ∧ Fr n0 L) (T0.setTop (mkF m 104 #[vI p1, vI p2, vI p3, vI p4, vI 2, vI 1, vI off, vR ea, vU, vU] [(.ref lit), (.ref ax), (.ref ax)])) := by
  intro  T0 locs0 h0 Z0 X0 e0 N0 O0 H0 Ae EX gx Fpath Ftext FlineStarts
  have lt_1 := own_ltE EX
  have lt_2 := own_ltA Ae
  have c_0 := CHr.refl H0
  have nex := own_neEA (hq hw 6 rfl) EX Ae
  obtain ⟨T_3, h_3, X_3, e_3, E_3, A_3, D_3, -, st_3⟩ := newO X0 hx hZ hown (hq hw 16 rfl) (hq hw 10 rfl) (hq hw 9 rfl) e0 (g := (mkF m 104 #[vI p1, vI p2, vI p3, vI p4, vI 2, vI 1, vI off, vR ea, vU, vU] [(.ref lit), (.ref ax), (.ref ax)])) rfl (hb hby at_104) (by decide) (by decide)
  obtain ⟨ad_3, g_3⟩ : ∃ z, z = h0.size := ⟨_, rfl⟩
  rw [← g_3] at A_3 D_3 st_3
  have z_3 := E_3.1
  have y_3 := own_ltE A_3
  have F_3_value : fV Z h_3 ad_3 .null := D_3 (Or.inr (hq hw 12 rfl)) (ty := (.array .byte)) (by decide)
  have F_3_coder : fC Z h_3 ad_3 (.int 0) := D_3 (Or.inr (hq hw 13 rfl)) (ty := .byte) (by decide)
  let j_619 := (mkF m 114 #[vI p1, vI p2, vI p3, vI p4, vI 2, vI 1, vI off, vR ea, vU, vU] [(.ref ea), (.int 2), (.int 1), (.ref ad_3), (.ref ad_3), (.ref lit), (.ref ax), (.ref ax)])
  refine GoH.s T_3 j_619 (fun _ hr => st_3 _ (yd X_3 hx (hb hby at_107) rfl (yi X_3 hx (hb hby at_108) rfl (yi X_3 hx (hb hby at_110) rfl (ya X_3 hx (hb hby at_112) rfl rfl hr))))) ?_
  have F_5 := (Ae.ext E_3)
  obtain ⟨v_4, T_4, h_4, L_4, X_4, e_4, ⟨ra_4, rfl, N_4, K_4, g_4, B_4⟩, st_4⟩ := cS X_3 hx hZ hown (hq hw 17 rfl) (hq hw 18 rfl) (hq hw 3 rfl) (hq hw 19 rfl) e_3 hml (rmRaw12 l Z a0 hw ea h_3 n0 (by omega) c0 c1 c2 c3 F_5 (own_rg_c q0) (own_rg_c q1) (own_rg_c q2) (own_rg_c q3)) (g := j_619) rfl rfl (lenOf pd_37 rfl) rfl (hb hby at_114) (W := 5) rfl rfl (by decide)
  have N_4' := Fr.app N0 N_4
  have z_4 := K_4.1
  have yy_4 := own_ltA B_4
  let j_620 := (mkF m 117 #[vI p1, vI p2, vI p3, vI p4, vI 2, vI 1, vI off, vR ea, vU, vU] [(.ref ra_4), (.ref ad_3), (.ref ad_3), (.ref lit), (.ref ax), (.ref ax)])
  refine GoH.s T_4 j_620 st_4 ?_
  have F_6 := (A_3.keep K_4)
  have F_7 := (F_3_value.keep K_4 nin0)
  have F_8 := (F_3_coder.keep K_4 nin0)
  have F_9 := ((O0.ext E_3).keep K_4 all0)
  have sfS := own_safeNull (EL := own_EL) hZ.alike F_6 F_7
  obtain ⟨v_10, T_10, h_10, L_10, X_10, e_10, ⟨rfl, N_10, K_10, vb_10, g_10, F1_10, F2_10, B_10⟩, st_10⟩ := cN X_4 hx hZ hown (hq hw 21 rfl) (hq hw 22 rfl) (hq hw 9 rfl) (hq hw 23 rfl) e_4 rfl hml (rmS1U3 l Z a0 hw ad_3 ra_4 h_4 n0 (by omega) vcs hcs F_9 SCS SAD SHI SLO F_6 F_7 F_8 (by omega) c0 c1 B_4 q0 q1 (own_ne (by omega))) (g := j_620) rfl rfl (lenOf pd_38 rfl) rfl (hb hby at_117) (W := 4) rfl rfl (by decide)
  have N_10' := Fr.app N_4' N_10
  have z_10 := K_10.1
  have yv_10 := own_ltA B_10
  let j_621 := (mkF m 120 #[vI p1, vI p2, vI p3, vI p4, vI 2, vI 1, vI off, vR ea, vU, vU] [(.ref ad_3), (.ref lit), (.ref ax), (.ref ax)])
  refine GoH.s T_10 j_621 st_10 ?_
  have F_11 := (F_6.keep K_10)
  have F_12 := (F_9.keep K_10 (own_o1 (by omega)))
  have F_13 := (((EX.ext E_3).keep K_4).keep K_10)
  have sfX : Safe Z own_EL s.vm h_10 ax := Safe.exa hZ.alike F_13 (by decide) (by decide)
  have nxs := own_neEE F_13 F_11 (by decide)
  have nxv := own_neEA (hq hw 6 rfl) F_13 B_10
  have F_14 := (((Fpath.ext E_3).keep K_4 nin0).keep K_10 (own_n1 (by omega)))
  have F_15 := (((Ftext.ext E_3).keep K_4 nin0).keep K_10 (own_n1 (by omega)))
  have F_16 := (((FlineStarts.ext E_3).keep K_4 nin0).keep K_10 (own_n1 (by omega)))
  obtain ⟨v_17, T_17, h_17, L_17, X_17, e_17, ⟨rfl, N_17, K_17, la_17, g_17, F1_17, B_17⟩, st_17⟩ := cN X_10 hx hZ hown (hq hw 44 rfl) (hq hw 45 rfl) (hq hw 7 rfl) (hq hw 46 rfl) e_10 rfl hml (rmSXU3 l Z a0 hw ax lit ad_3 h_10 n0 (by omega) vcs hcs F_12 SCS SAD SHI SLO vfm rfm SFM vb_10 F_11 F1_10 F2_10 c0 c1 B_10 q0 q1 ica ivs SIH SIC AIC hi256 hIC vd SDV ADV F_13 gx F_14 F_15 F_16 nxs nxv) (g := j_621) rfl rfl (lenOf pd_39 rfl) rfl (hb hby at_120) (W := 1) rfl rfl (by decide)
  have N_17' := Fr.app N_10' N_17
  have z_17 := K_17.1
  have yl_17 := own_ltA B_17
  refine GoH.s T_17 (mkF m 123 #[vI p1, vI p2, vI p3, vI p4, vI 2, vI 1, vI off, vR ea, vU, vU] [(.ref ax)]) st_17 ?_
  have F_18 := (((F_5.keep K_4 nin0).keep K_10 (own_n1 (by omega))).keep K_17 (own_n1 (by omega)))
  have F_19 := (F_13.keep K_17)
  have c_20 := c_0.trans (CHr.ext E_3 c_0.1)
  have c_21 := c_20.trans (CHr.keep K_4 all0 c_20.1)
  have c_22 := c_21.trans (CHr.keep K_10 (List.forall_mem_singleton.mpr sfS) c_21.1)
  have c_23 := c_22.trans (CHr.keep K_17 (List.forall_mem_singleton.mpr sfX) c_22.1)
  exact GoH.ofGo (tl Z a0 hw n0 hx hby hml hZ hown hnm hret hlk p1 p2 p3 p4 (2 : Int32) (1 : Int32) off ea ax la_17 c0 c1 c2 c3 (by decide) _ (own_law2 c0 c1 c2 c3 off).1 (own_law2 c0 c1 c2 c3 off).2 T_17 _ h_17 (by omega) (own_more X_17 (by decide) (by decide)) e_17 N_17' F_18 F_19 F1_17 B_17) (fun v h' L q => ⟨⟨q.1, q.2.1⟩, hZ, ⟨a0, own_ew hw⟩, by rw [q.2.2]; exact c_23⟩)
theorem md30 {p : Program} {l : Launch} {e : Env} {s : State} {m : MethodId} {args : Array Value} {below : List Frame} {meth : Method} {c : Code} (Z : State) (a0 : Array Value) (hw : own_W a0 Z) (n0 : Nat) (hx : p.tables.exec = Jvm.exec) (hby : c.code = code) (hml : c.maxLocals = 10) (hZ : Z.Warmed39 s.vm) (hown : s.vm.findClass cL = some m.cls) (hnm : meth.name = "law") (hret : meth.sig.returnType = some .boolean) (hlk : meth.locks = false) (vcs : Int32) (hcs : ¬ vcs = 0) (SCS : sCS Z vcs) (SAD : sAD Z) (SHI : sHI Z) (SLO : sLO Z) (vfm : Value) (rfm : vfm.isRef = true) (SFM : sFM Z vfm) (ica : Nat) (ivs : List Value) (SIH : sIH Z) (SIC : sIC Z ica) (AIC : Ary Z Z.heap ica (.object "java/lang/Integer") ivs) (hi256 : ivs.length = 256) (hIC : pIC Z ivs) (vd : Nat) (SDV : sDV Z vd) (ADV : Ary Z Z.heap vd (.object "java/lang/Object") []) (p1 p2 p3 p4 off : Int32) (ea ax lit : Nat) (c0 c1 c2 c3 : Int32) (q0 : own_rg c0) (q1 : own_rg c1) (q2 : own_rg c2) (q3 : own_rg c3) :
    ∀  (T0 : State) (locs0 : List Loc) (h0 : Heap) (Z0 : n0 ≤ h0.size) (X0 : Stand p l e room_1 s m args below meth c T0 locs0 4 15) (e0 : T0.heap = h0) (N0 : Fr n0 locs0) (O0 : Old Z n0 h0) (H0 : CHv Z own_EL s.vm h0) (Ae : Ary Z h0 ea .char [(.int c0), (.int c1), (.int c2), (.int c3)]) (EX : Exa Z h0 ax cX) (gx : n0 ≤ ax) (Fpath : fP Z h0 ax .null) (Ftext : fT Z h0 ax .null) (FlineStarts : fX Z h0 ax .null), GoH Z h0 p e below s room_1.cells room_1.slots (fun v h L => v = some (.int 1) ∧ Fr n0 L) (T0.setTop (mkF m 104 #[vI p1, vI p2, vI p3, vI p4, vI 3, vI 0, vI off, vR ea, vU, vU] [(.ref lit), (.ref ax), (.ref ax)])) := by
  intro  T0 locs0 h0 Z0 X0 e0 N0 O0 H0 Ae EX gx Fpath Ftext FlineStarts
  have lt_1 := own_ltE EX
  have lt_2 := own_ltA Ae
  have c_0 := CHr.refl H0
  have nex := own_neEA (hq hw 6 rfl) EX Ae
  obtain ⟨T_3, h_3, X_3, e_3, E_3, A_3, D_3, -, st_3⟩ := newO X0 hx hZ hown (hq hw 16 rfl) (hq hw 10 rfl) (hq hw 9 rfl) e0 (g := (mkF m 104 #[vI p1, vI p2, vI p3, vI p4, vI 3, vI 0, vI off, vR ea, vU, vU] [(.ref lit), (.ref ax), (.ref ax)])) rfl (hb hby at_104) (by decide) (by decide)
  obtain ⟨ad_3, g_3⟩ : ∃ z, z = h0.size := ⟨_, rfl⟩
  rw [← g_3] at A_3 D_3 st_3
  have z_3 := E_3.1
  have y_3 := own_ltE A_3
  have F_3_value : fV Z h_3 ad_3 .null := D_3 (Or.inr (hq hw 12 rfl)) (ty := (.array .byte)) (by decide)
  have F_3_coder : fC Z h_3 ad_3 (.int 0) := D_3 (Or.inr (hq hw 13 rfl)) (ty := .byte) (by decide)
  let j_622 := (mkF m 114 #[vI p1, vI p2, vI p3, vI p4, vI 3, vI 0, vI off, vR ea, vU, vU] [(.ref ea), (.int 3), (.int 0), (.ref ad_3), (.ref ad_3), (.ref lit), (.ref ax), (.ref ax)])
  refine GoH.s T_3 j_622 (fun _ hr => st_3 _ (yd X_3 hx (hb hby at_107) rfl (yi X_3 hx (hb hby at_108) rfl (yi X_3 hx (hb hby at_110) rfl (ya X_3 hx (hb hby at_112) rfl rfl hr))))) ?_
  have F_5 := (Ae.ext E_3)
  obtain ⟨v_4, T_4, h_4, L_4, X_4, e_4, ⟨ra_4, rfl, N_4, K_4, g_4, B_4⟩, st_4⟩ := cS X_3 hx hZ hown (hq hw 17 rfl) (hq hw 18 rfl) (hq hw 3 rfl) (hq hw 19 rfl) e_3 hml (rmRaw03 l Z a0 hw ea h_3 n0 (by omega) c0 c1 c2 c3 F_5 (own_rg_c q0) (own_rg_c q1) (own_rg_c q2) (own_rg_c q3)) (g := j_622) rfl rfl (lenOf pd_37 rfl) rfl (hb hby at_114) (W := 5) rfl rfl (by decide)
  have N_4' := Fr.app N0 N_4
  have z_4 := K_4.1
  have yy_4 := own_ltA B_4
  let j_623 := (mkF m 117 #[vI p1, vI p2, vI p3, vI p4, vI 3, vI 0, vI off, vR ea, vU, vU] [(.ref ra_4), (.ref ad_3), (.ref ad_3), (.ref lit), (.ref ax), (.ref ax)])
  refine GoH.s T_4 j_623 st_4 ?_
  have F_6 := (A_3.keep K_4)
  have F_7 := (F_3_value.keep K_4 nin0)
  have F_8 := (F_3_coder.keep K_4 nin0)
  have F_9 := ((O0.ext E_3).keep K_4 all0)
  have sfS := own_safeNull (EL := own_EL) hZ.alike F_6 F_7
  obtain ⟨v_10, T_10, h_10, L_10, X_10, e_10, ⟨rfl, N_10, K_10, vb_10, g_10, F1_10, F2_10, B_10⟩, st_10⟩ := cN X_4 hx hZ hown (hq hw 21 rfl) (hq hw 22 rfl) (hq hw 9 rfl) (hq hw 23 rfl) e_4 rfl hml (rmS13 l Z a0 hw ad_3 ra_4 h_4 n0 (by omega) vcs hcs F_9 SCS F_6 F_7 F_8 (by omega) c0 c1 c2 B_4 q0 q1 q2 (own_ne (by omega))) (g := j_623) rfl rfl (lenOf pd_38 rfl) rfl (hb hby at_117) (W := 4) rfl rfl (by decide)
  have N_10' := Fr.app N_4' N_10
  have z_10 := K_10.1
  have B_10' : Ary Z h_10 vb_10 .byte ([c0, c1, c2].map own_bv) := B_10
  have yv_10 := own_ltA B_10
  let j_624 := (mkF m 120 #[vI p1, vI p2, vI p3, vI p4, vI 3, vI 0, vI off, vR ea, vU, vU] [(.ref ad_3), (.ref lit), (.ref ax), (.ref ax)])
  refine GoH.s T_10 j_624 st_10 ?_
  have F_11 := (F_6.keep K_10)
  have F_12 := (F_9.keep K_10 (own_o1 (by omega)))
  have F_13 := (((EX.ext E_3).keep K_4).keep K_10)
  have sfX : Safe Z own_EL s.vm h_10 ax := Safe.exa hZ.alike F_13 (by decide) (by decide)
  have nxs := own_neEE F_13 F_11 (by decide)
  have nxv := own_neEA (hq hw 6 rfl) F_13 B_10'
  have F_14 := (((Fpath.ext E_3).keep K_4 nin0).keep K_10 (own_n1 (by omega)))
  have F_15 := (((Ftext.ext E_3).keep K_4 nin0).keep K_10 (own_n1 (by omega)))
  have F_16 := (((FlineStarts.ext E_3).keep K_4 nin0).keep K_10 (own_n1 (by omega)))
  obtain ⟨v_17, T_17, h_17, L_17, X_17, e_17, ⟨rfl, N_17, K_17, la_17, g_17, F1_17, B_17⟩, st_17⟩ := cN X_10 hx hZ hown (hq hw 44 rfl) (hq hw 45 rfl) (hq hw 7 rfl) (hq hw 46 rfl) e_10 rfl hml (rmSXL l Z a0 hw ax lit ad_3 h_10 n0 (by omega) vcs hcs F_12 SCS vb_10 F_11 F1_10 F2_10 [c0, c1, c2] B_10' (own_l1_3 q0 q1 q2) vfm rfm SFM ica ivs SIH SIC AIC hi256 hIC vd SDV ADV F_13 gx F_14 F_15 F_16 (by simp) nxs nxv) (g := j_624) rfl rfl (lenOf pd_39 rfl) rfl (hb hby at_120) (W := 1) rfl rfl (by decide)
  have N_17' := Fr.app N_10' N_17
  have z_17 := K_17.1
  have yl_17 := own_ltA B_17
  refine GoH.s T_17 (mkF m 123 #[vI p1, vI p2, vI p3, vI p4, vI 3, vI 0, vI off, vR ea, vU, vU] [(.ref ax)]) st_17 ?_
  have F_18 := (((F_5.keep K_4 nin0).keep K_10 (own_n1 (by omega))).keep K_17 (own_n1 (by omega)))
  have F_19 := (F_13.keep K_17)
  have c_20 := c_0.trans (CHr.ext E_3 c_0.1)
  have c_21 := c_20.trans (CHr.keep K_4 all0 c_20.1)
  have c_22 := c_21.trans (CHr.keep K_10 (List.forall_mem_singleton.mpr sfS) c_21.1)
  have c_23 := c_22.trans (CHr.keep K_17 (List.forall_mem_singleton.mpr sfX) c_22.1)
  exact GoH.ofGo (tl Z a0 hw n0 hx hby hml hZ hown hnm hret hlk p1 p2 p3 p4 (3 : Int32) (0 : Int32) off ea ax la_17 c0 c1 c2 c3 (by decide) _ (own_law3 c0 c1 c2 c3 off).1 (own_law3 c0 c1 c2 c3 off).2 T_17 _ h_17 (by omega) (own_more X_17 (by decide) (by decide)) e_17 N_17' F_18 F_19 F1_17 B_17) (fun v h' L q => ⟨⟨q.1, q.2.1⟩, hZ, ⟨a0, own_ew hw⟩, by rw [q.2.2]; exact c_23⟩)
theorem md31 {p : Program} {l : Launch} {e : Env} {s : State} {m : MethodId} {args : Array Value} {below : List Frame} {meth : Method} {c : Code} (Z : State) (a0 : Array Value) (hw : own_W a0 Z) (n0 : Nat) (hx : p.tables.exec = Jvm.exec) (hby : c.code = code) (hml : c.maxLocals = 10) (hZ : Z.Warmed39 s.vm) (hown : s.vm.findClass cL = some m.cls) (hnm : meth.name = "law") (hret : meth.sig.returnType = some .boolean) (hlk : meth.locks = false) (vcs : Int32) (hcs : ¬ vcs = 0) (SCS : sCS Z vcs) (SAD : sAD Z) (SHI : sHI Z) (SLO : sLO Z) (vfm : Value) (rfm : vfm.isRef = true) (SFM : sFM Z vfm) (ica : Nat) (ivs : List Value) (SIH : sIH Z) (SIC : sIC Z ica) (AIC : Ary Z Z.heap ica (.object "java/lang/Integer") ivs) (hi256 : ivs.length = 256) (hIC : pIC Z ivs) (vd : Nat) (SDV : sDV Z vd) (ADV : Ary Z Z.heap vd (.object "java/lang/Object") []) (p1 p2 p3 p4 off : Int32) (ea ax lit : Nat) (c0 c1 c2 c3 : Int32) (q0 : own_rg c0) (q1 : own_rg c1) (q2 : own_rg c2) (q3 : own_rg c3) :
    ∀  (T0 : State) (locs0 : List Loc) (h0 : Heap) (Z0 : n0 ≤ h0.size) (X0 : Stand p l e room_1 s m args below meth c T0 locs0 4 15) (e0 : T0.heap = h0) (N0 : Fr n0 locs0) (O0 : Old Z n0 h0) (H0 : CHv Z own_EL s.vm h0) (Ae : Ary Z h0 ea .char [(.int c0), (.int c1), (.int c2), (.int c3)]) (EX : Exa Z h0 ax cX) (gx : n0 ≤ ax) (Fpath : fP Z h0 ax .null) (Ftext : fT Z h0 ax .null) (FlineStarts : fX Z h0 ax .null), GoH Z h0 p e below s room_1.cells room_1.slots (fun v h L => v = some (.int 1) ∧ Fr n0 L) (T0.setTop (mkF m 104 #[vI p1, vI p2, vI p3, vI p4, vI 3, vI 1, vI off, vR ea, vU, vU] [(.ref lit), (.ref ax), (.ref ax)])) := by
  intro  T0 locs0 h0 Z0 X0 e0 N0 O0 H0 Ae EX gx Fpath Ftext FlineStarts
  have lt_1 := own_ltE EX
  have lt_2 := own_ltA Ae
  have c_0 := CHr.refl H0
  have nex := own_neEA (hq hw 6 rfl) EX Ae
  obtain ⟨T_3, h_3, X_3, e_3, E_3, A_3, D_3, -, st_3⟩ := newO X0 hx hZ hown (hq hw 16 rfl) (hq hw 10 rfl) (hq hw 9 rfl) e0 (g := (mkF m 104 #[vI p1, vI p2, vI p3, vI p4, vI 3, vI 1, vI off, vR ea, vU, vU] [(.ref lit), (.ref ax), (.ref ax)])) rfl (hb hby at_104) (by decide) (by decide)
  obtain ⟨ad_3, g_3⟩ : ∃ z, z = h0.size := ⟨_, rfl⟩
  rw [← g_3] at A_3 D_3 st_3
  have z_3 := E_3.1
  have y_3 := own_ltE A_3
  have F_3_value : fV Z h_3 ad_3 .null := D_3 (Or.inr (hq hw 12 rfl)) (ty := (.array .byte)) (by decide)
  have F_3_coder : fC Z h_3 ad_3 (.int 0) := D_3 (Or.inr (hq hw 13 rfl)) (ty := .byte) (by decide)
  let j_625 := (mkF m 114 #[vI p1, vI p2, vI p3, vI p4, vI 3, vI 1, vI off, vR ea, vU, vU] [(.ref ea), (.int 3), (.int 1), (.ref ad_3), (.ref ad_3), (.ref lit), (.ref ax), (.ref ax)])
  refine GoH.s T_3 j_625 (fun _ hr => st_3 _ (yd X_3 hx (hb hby at_107) rfl (yi X_3 hx (hb hby at_108) rfl (yi X_3 hx (hb hby at_110) rfl (ya X_3 hx (hb hby at_112) rfl rfl hr))))) ?_
  have F_5 := (Ae.ext E_3)
  obtain ⟨v_4, T_4, h_4, L_4, X_4, e_4, ⟨ra_4, rfl, N_4, K_4, g_4, B_4⟩, st_4⟩ := cS X_3 hx hZ hown (hq hw 17 rfl) (hq hw 18 rfl) (hq hw 3 rfl) (hq hw 19 rfl) e_3 hml (rmRaw13 l Z a0 hw ea h_3 n0 (by omega) c0 c1 c2 c3 F_5 (own_rg_c q0) (own_rg_c q1) (own_rg_c q2) (own_rg_c q3)) (g := j_625) rfl rfl (lenOf pd_37 rfl) rfl (hb hby at_114) (W := 5) rfl rfl (by decide)
  have N_4' := Fr.app N0 N_4
  have z_4 := K_4.1
  have yy_4 := own_ltA B_4
  let j_626 := (mkF m 117 #[vI p1, vI p2, vI p3, vI p4, vI 3, vI 1, vI off, vR ea, vU, vU] [(.ref ra_4), (.ref ad_3), (.ref ad_3), (.ref lit), (.ref ax), (.ref ax)])
  refine GoH.s T_4 j_626 st_4 ?_
  have F_6 := (A_3.keep K_4)
  have F_7 := (F_3_value.keep K_4 nin0)
  have F_8 := (F_3_coder.keep K_4 nin0)
  have F_9 := ((O0.ext E_3).keep K_4 all0)
  have sfS := own_safeNull (EL := own_EL) hZ.alike F_6 F_7
  obtain ⟨v_10, T_10, h_10, L_10, X_10, e_10, ⟨rfl, N_10, K_10, vb_10, g_10, F1_10, F2_10, B_10⟩, st_10⟩ := cN X_4 hx hZ hown (hq hw 21 rfl) (hq hw 22 rfl) (hq hw 9 rfl) (hq hw 23 rfl) e_4 rfl hml (rmS1U4 l Z a0 hw ad_3 ra_4 h_4 n0 (by omega) vcs hcs F_9 SCS SAD SHI SLO F_6 F_7 F_8 (by omega) c0 c1 c2 B_4 q0 q1 q2 (own_ne (by omega))) (g := j_626) rfl rfl (lenOf pd_38 rfl) rfl (hb hby at_117) (W := 4) rfl rfl (by decide)
  have N_10' := Fr.app N_4' N_10
  have z_10 := K_10.1
  have yv_10 := own_ltA B_10
  let j_627 := (mkF m 120 #[vI p1, vI p2, vI p3, vI p4, vI 3, vI 1, vI off, vR ea, vU, vU] [(.ref ad_3), (.ref lit), (.ref ax), (.ref ax)])
  refine GoH.s T_10 j_627 st_10 ?_
  have F_11 := (F_6.keep K_10)
  have F_12 := (F_9.keep K_10 (own_o1 (by omega)))
  have F_13 := (((EX.ext E_3).keep K_4).keep K_10)
  have sfX : Safe Z own_EL s.vm h_10 ax := Safe.exa hZ.alike F_13 (by decide) (by decide)
  have nxs := own_neEE F_13 F_11 (by decide)
  have nxv := own_neEA (hq hw 6 rfl) F_13 B_10
  have F_14 := (((Fpath.ext E_3).keep K_4 nin0).keep K_10 (own_n1 (by omega)))
  have F_15 := (((Ftext.ext E_3).keep K_4 nin0).keep K_10 (own_n1 (by omega)))
  have F_16 := (((FlineStarts.ext E_3).keep K_4 nin0).keep K_10 (own_n1 (by omega)))
  obtain ⟨v_17, T_17, h_17, L_17, X_17, e_17, ⟨rfl, N_17, K_17, la_17, g_17, F1_17, B_17⟩, st_17⟩ := cN X_10 hx hZ hown (hq hw 44 rfl) (hq hw 45 rfl) (hq hw 7 rfl) (hq hw 46 rfl) e_10 rfl hml (rmSXU4 l Z a0 hw ax lit ad_3 h_10 n0 (by omega) vcs hcs F_12 SCS SAD SHI SLO vfm rfm SFM vb_10 F_11 F1_10 F2_10 c0 c1 c2 B_10 q0 q1 q2 ica ivs SIH SIC AIC hi256 hIC vd SDV ADV F_13 gx F_14 F_15 F_16 nxs nxv) (g := j_627) rfl rfl (lenOf pd_39 rfl) rfl (hb hby at_120) (W := 1) rfl rfl (by decide)
  have N_17' := Fr.app N_10' N_17
  have z_17 := K_17.1
  have yl_17 := own_ltA B_17
  refine GoH.s T_17 (mkF m 123 #[vI p1, vI p2, vI p3, vI p4, vI 3, vI 1, vI off, vR ea, vU, vU] [(.ref ax)]) st_17 ?_
  have F_18 := (((F_5.keep K_4 nin0).keep K_10 (own_n1 (by omega))).keep K_17 (own_n1 (by omega)))
  have F_19 := (F_13.keep K_17)
  have c_20 := c_0.trans (CHr.ext E_3 c_0.1)
  have c_21 := c_20.trans (CHr.keep K_4 all0 c_20.1)
  have c_22 := c_21.trans (CHr.keep K_10 (List.forall_mem_singleton.mpr sfS) c_21.1)
  have c_23 := c_22.trans (CHr.keep K_17 (List.forall_mem_singleton.mpr sfX) c_22.1)
  exact GoH.ofGo (tl Z a0 hw n0 hx hby hml hZ hown hnm hret hlk p1 p2 p3 p4 (3 : Int32) (1 : Int32) off ea ax la_17 c0 c1 c2 c3 (by decide) _ (own_law3 c0 c1 c2 c3 off).1 (own_law3 c0 c1 c2 c3 off).2 T_17 _ h_17 (by omega) (own_more X_17 (by decide) (by decide)) e_17 N_17' F_18 F_19 F1_17 B_17) (fun v h' L q => ⟨⟨q.1, q.2.1⟩, hZ, ⟨a0, own_ew hw⟩, by rw [q.2.2]; exact c_23⟩)
theorem md40 {p : Program} {l : Launch} {e : Env} {s : State} {m : MethodId} {args : Array Value} {below : List Frame} {meth : Method} {c : Code} (Z : State) (a0 : Array Value) (hw : own_W a0 Z) (n0 : Nat) (hx : p.tables.exec = Jvm.exec) (hby : c.code = code) (hml : c.maxLocals = 10) (hZ : Z.Warmed39 s.vm) (hown : s.vm.findClass cL = some m.cls) (hnm : meth.name = "law") (hret : meth.sig.returnType = some .boolean) (hlk : meth.locks = false) (vcs : Int32) (hcs : ¬ vcs = 0) (SCS : sCS Z vcs) (SAD : sAD Z) (SHI : sHI Z) (SLO : sLO Z) (vfm : Value) (rfm : vfm.isRef = true) (SFM : sFM Z vfm) (ica : Nat) (ivs : List Value) (SIH : sIH Z) (SIC : sIC Z ica) (AIC : Ary Z Z.heap ica (.object "java/lang/Integer") ivs) (hi256 : ivs.length = 256) (hIC : pIC Z ivs) (vd : Nat) (SDV : sDV Z vd) (ADV : Ary Z Z.heap vd (.object "java/lang/Object") []) (p1 p2 p3 p4 off : Int32) (ea ax lit : Nat) (c0 c1 c2 c3 : Int32) (q0 : own_rg c0) (q1 : own_rg c1) (q2 : own_rg c2) (q3 : own_rg c3) :
    ∀  (T0 : State) (locs0 : List Loc) (h0 : Heap) (Z0 : n0 ≤ h0.size) (X0 : Stand p l e room_1 s m args below meth c T0 locs0 4 15) (e0 : T0.heap = h0) (N0 : Fr n0 locs0) (O0 : Old Z n0 h0) (H0 : CHv Z own_EL s.vm h0) (Ae : Ary Z h0 ea .char [(.int c0), (.int c1), (.int c2), (.int c3)]) (EX : Exa Z h0 ax cX) (gx : n0 ≤ ax) (Fpath : fP Z h0 ax .null) (Ftext : fT Z h0 ax .null) (FlineStarts : fX Z h0 ax .null), GoH Z h0 p e below s room_1.cells room_1.slots (fun v h L => v = some (.int 1) ∧ Fr n0 L) (T0.setTop (mkF m 104 #[vI p1, vI p2, vI p3, vI p4, vI 4, vI 0, vI off, vR ea, vU, vU] [(.ref lit), (.ref ax), (.ref ax)])) := by
  intro  T0 locs0 h0 Z0 X0 e0 N0 O0 H0 Ae EX gx Fpath Ftext FlineStarts
  have lt_1 := own_ltE EX
  have lt_2 := own_ltA Ae
  have c_0 := CHr.refl H0
  have nex := own_neEA (hq hw 6 rfl) EX Ae
  obtain ⟨T_3, h_3, X_3, e_3, E_3, A_3, D_3, -, st_3⟩ := newO X0 hx hZ hown (hq hw 16 rfl) (hq hw 10 rfl) (hq hw 9 rfl) e0 (g := (mkF m 104 #[vI p1, vI p2, vI p3, vI p4, vI 4, vI 0, vI off, vR ea, vU, vU] [(.ref lit), (.ref ax), (.ref ax)])) rfl (hb hby at_104) (by decide) (by decide)
  obtain ⟨ad_3, g_3⟩ : ∃ z, z = h0.size := ⟨_, rfl⟩
  rw [← g_3] at A_3 D_3 st_3
  have z_3 := E_3.1
  have y_3 := own_ltE A_3
  have F_3_value : fV Z h_3 ad_3 .null := D_3 (Or.inr (hq hw 12 rfl)) (ty := (.array .byte)) (by decide)
  have F_3_coder : fC Z h_3 ad_3 (.int 0) := D_3 (Or.inr (hq hw 13 rfl)) (ty := .byte) (by decide)
  let j_628 := (mkF m 114 #[vI p1, vI p2, vI p3, vI p4, vI 4, vI 0, vI off, vR ea, vU, vU] [(.ref ea), (.int 4), (.int 0), (.ref ad_3), (.ref ad_3), (.ref lit), (.ref ax), (.ref ax)])
  refine GoH.s T_3 j_628 (fun _ hr => st_3 _ (yd X_3 hx (hb hby at_107) rfl (yi X_3 hx (hb hby at_108) rfl (yi X_3 hx (hb hby at_110) rfl (ya X_3 hx (hb hby at_112) rfl rfl hr))))) ?_
  have F_5 := (Ae.ext E_3)
  obtain ⟨v_4, T_4, h_4, L_4, X_4, e_4, ⟨ra_4, rfl, N_4, K_4, g_4, B_4⟩, st_4⟩ := cS X_3 hx hZ hown (hq hw 17 rfl) (hq hw 18 rfl) (hq hw 3 rfl) (hq hw 19 rfl) e_3 hml (rmRaw04 l Z a0 hw ea h_3 n0 (by omega) c0 c1 c2 c3 F_5 (own_rg_c q0) (own_rg_c q1) (own_rg_c q2) (own_rg_c q3)) (g := j_628) rfl rfl (lenOf pd_37 rfl) rfl (hb hby at_114) (W := 5) rfl rfl (by decide)
  have N_4' := Fr.app N0 N_4
  have z_4 := K_4.1
  have yy_4 := own_ltA B_4
  let j_629 := (mkF m 117 #[vI p1, vI p2, vI p3, vI p4, vI 4, vI 0, vI off, vR ea, vU, vU] [(.ref ra_4), (.ref ad_3), (.ref ad_3), (.ref lit), (.ref ax), (.ref ax)])
  refine GoH.s T_4 j_629 st_4 ?_
  have F_6 := (A_3.keep K_4)
  have F_7 := (F_3_value.keep K_4 nin0)
  have F_8 := (F_3_coder.keep K_4 nin0)
  have F_9 := ((O0.ext E_3).keep K_4 all0)
  have sfS := own_safeNull (EL := own_EL) hZ.alike F_6 F_7
  obtain ⟨v_10, T_10, h_10, L_10, X_10, e_10, ⟨rfl, N_10, K_10, vb_10, g_10, F1_10, F2_10, B_10⟩, st_10⟩ := cN X_4 hx hZ hown (hq hw 21 rfl) (hq hw 22 rfl) (hq hw 9 rfl) (hq hw 23 rfl) e_4 rfl hml (rmS14 l Z a0 hw ad_3 ra_4 h_4 n0 (by omega) vcs hcs F_9 SCS F_6 F_7 F_8 (by omega) c0 c1 c2 c3 B_4 q0 q1 q2 q3 (own_ne (by omega))) (g := j_629) rfl rfl (lenOf pd_38 rfl) rfl (hb hby at_117) (W := 4) rfl rfl (by decide)
  have N_10' := Fr.app N_4' N_10
  have z_10 := K_10.1
  have B_10' : Ary Z h_10 vb_10 .byte ([c0, c1, c2, c3].map own_bv) := B_10
  have yv_10 := own_ltA B_10
  let j_630 := (mkF m 120 #[vI p1, vI p2, vI p3, vI p4, vI 4, vI 0, vI off, vR ea, vU, vU] [(.ref ad_3), (.ref lit), (.ref ax), (.ref ax)])
  refine GoH.s T_10 j_630 st_10 ?_
  have F_11 := (F_6.keep K_10)
  have F_12 := (F_9.keep K_10 (own_o1 (by omega)))
  have F_13 := (((EX.ext E_3).keep K_4).keep K_10)
  have sfX : Safe Z own_EL s.vm h_10 ax := Safe.exa hZ.alike F_13 (by decide) (by decide)
  have nxs := own_neEE F_13 F_11 (by decide)
  have nxv := own_neEA (hq hw 6 rfl) F_13 B_10'
  have F_14 := (((Fpath.ext E_3).keep K_4 nin0).keep K_10 (own_n1 (by omega)))
  have F_15 := (((Ftext.ext E_3).keep K_4 nin0).keep K_10 (own_n1 (by omega)))
  have F_16 := (((FlineStarts.ext E_3).keep K_4 nin0).keep K_10 (own_n1 (by omega)))
  obtain ⟨v_17, T_17, h_17, L_17, X_17, e_17, ⟨rfl, N_17, K_17, la_17, g_17, F1_17, B_17⟩, st_17⟩ := cN X_10 hx hZ hown (hq hw 44 rfl) (hq hw 45 rfl) (hq hw 7 rfl) (hq hw 46 rfl) e_10 rfl hml (rmSXL l Z a0 hw ax lit ad_3 h_10 n0 (by omega) vcs hcs F_12 SCS vb_10 F_11 F1_10 F2_10 [c0, c1, c2, c3] B_10' (own_l1_4 q0 q1 q2 q3) vfm rfm SFM ica ivs SIH SIC AIC hi256 hIC vd SDV ADV F_13 gx F_14 F_15 F_16 (by simp) nxs nxv) (g := j_630) rfl rfl (lenOf pd_39 rfl) rfl (hb hby at_120) (W := 1) rfl rfl (by decide)
  have N_17' := Fr.app N_10' N_17
  have z_17 := K_17.1
  have yl_17 := own_ltA B_17
  refine GoH.s T_17 (mkF m 123 #[vI p1, vI p2, vI p3, vI p4, vI 4, vI 0, vI off, vR ea, vU, vU] [(.ref ax)]) st_17 ?_
  have F_18 := (((F_5.keep K_4 nin0).keep K_10 (own_n1 (by omega))).keep K_17 (own_n1 (by omega)))
  have F_19 := (F_13.keep K_17)
  have c_20 := c_0.trans (CHr.ext E_3 c_0.1)
  have c_21 := c_20.trans (CHr.keep K_4 all0 c_20.1)
  have c_22 := c_21.trans (CHr.keep K_10 (List.forall_mem_singleton.mpr sfS) c_21.1)
  have c_23 := c_22.trans (CHr.keep K_17 (List.forall_mem_singleton.mpr sfX) c_22.1)
  exact GoH.ofGo (tl Z a0 hw n0 hx hby hml hZ hown hnm hret hlk p1 p2 p3 p4 (4 : Int32) (0 : Int32) off ea ax la_17 c0 c1 c2 c3 (by decide) _ (own_law4 c0 c1 c2 c3 off).1 (own_law4 c0 c1 c2 c3 off).2 T_17 _ h_17 (by omega) (own_more X_17 (by decide) (by decide)) e_17 N_17' F_18 F_19 F1_17 B_17) (fun v h' L q => ⟨⟨q.1, q.2.1⟩, hZ, ⟨a0, own_ew hw⟩, by rw [q.2.2]; exact c_23⟩)
theorem md41 {p : Program} {l : Launch} {e : Env} {s : State} {m : MethodId} {args : Array Value} {below : List Frame} {meth : Method} {c : Code} (Z : State) (a0 : Array Value) (hw : own_W a0 Z) (n0 : Nat) (hx : p.tables.exec = Jvm.exec) (hby : c.code = code) (hml : c.maxLocals = 10) (hZ : Z.Warmed39 s.vm) (hown : s.vm.findClass cL = some m.cls) (hnm : meth.name = "law") (hret : meth.sig.returnType = some .boolean) (hlk : meth.locks = false) (vcs : Int32) (hcs : ¬ vcs = 0) (SCS : sCS Z vcs) (SAD : sAD Z) (SHI : sHI Z) (SLO : sLO Z) (vfm : Value) (rfm : vfm.isRef = true) (SFM : sFM Z vfm) (ica : Nat) (ivs : List Value) (SIH : sIH Z) (SIC : sIC Z ica) (AIC : Ary Z Z.heap ica (.object "java/lang/Integer") ivs) (hi256 : ivs.length = 256) (hIC : pIC Z ivs) (vd : Nat) (SDV : sDV Z vd) (ADV : Ary Z Z.heap vd (.object "java/lang/Object") []) (p1 p2 p3 p4 off : Int32) (ea ax lit : Nat) (c0 c1 c2 c3 : Int32) (q0 : own_rg c0) (q1 : own_rg c1) (q2 : own_rg c2) (q3 : own_rg c3) :
    ∀  (T0 : State) (locs0 : List Loc) (h0 : Heap) (Z0 : n0 ≤ h0.size) (X0 : Stand p l e room_1 s m args below meth c T0 locs0 4 15) (e0 : T0.heap = h0) (N0 : Fr n0 locs0) (O0 : Old Z n0 h0) (H0 : CHv Z own_EL s.vm h0) (Ae : Ary Z h0 ea .char [(.int c0), (.int c1), (.int c2), (.int c3)]) (EX : Exa Z h0 ax cX) (gx : n0 ≤ ax) (Fpath : fP Z h0 ax .null) (Ftext : fT Z h0 ax .null) (FlineStarts : fX Z h0 ax .null), GoH Z h0 p e below s room_1.cells room_1.slots (fun v h L => v = some (.int 1) ∧ Fr n0 L) (T0.setTop (mkF m 104 #[vI p1, vI p2, vI p3, vI p4, vI 4, vI 1, vI off, vR ea, vU, vU] [(.ref lit), (.ref ax), (.ref ax)])) := by
  intro  T0 locs0 h0 Z0 X0 e0 N0 O0 H0 Ae EX gx Fpath Ftext FlineStarts
  have lt_1 := own_ltE EX
  have lt_2 := own_ltA Ae
  have c_0 := CHr.refl H0
  have nex := own_neEA (hq hw 6 rfl) EX Ae
  obtain ⟨T_3, h_3, X_3, e_3, E_3, A_3, D_3, -, st_3⟩ := newO X0 hx hZ hown (hq hw 16 rfl) (hq hw 10 rfl) (hq hw 9 rfl) e0 (g := (mkF m 104 #[vI p1, vI p2, vI p3, vI p4, vI 4, vI 1, vI off, vR ea, vU, vU] [(.ref lit), (.ref ax), (.ref ax)])) rfl (hb hby at_104) (by decide) (by decide)
  obtain ⟨ad_3, g_3⟩ : ∃ z, z = h0.size := ⟨_, rfl⟩
  rw [← g_3] at A_3 D_3 st_3
  have z_3 := E_3.1
  have y_3 := own_ltE A_3
  have F_3_value : fV Z h_3 ad_3 .null := D_3 (Or.inr (hq hw 12 rfl)) (ty := (.array .byte)) (by decide)
  have F_3_coder : fC Z h_3 ad_3 (.int 0) := D_3 (Or.inr (hq hw 13 rfl)) (ty := .byte) (by decide)
  let j_631 := (mkF m 114 #[vI p1, vI p2, vI p3, vI p4, vI 4, vI 1, vI off, vR ea, vU, vU] [(.ref ea), (.int 4), (.int 1), (.ref ad_3), (.ref ad_3), (.ref lit), (.ref ax), (.ref ax)])
  refine GoH.s T_3 j_631 (fun _ hr => st_3 _ (yd X_3 hx (hb hby at_107) rfl (yi X_3 hx (hb hby at_108) rfl (yi X_3 hx (hb hby at_110) rfl (ya X_3 hx (hb hby at_112) rfl rfl hr))))) ?_
  have F_5 := (Ae.ext E_3)
  obtain ⟨v_4, T_4, h_4, L_4, X_4, e_4, ⟨ra_4, rfl, N_4, K_4, g_4, B_4⟩, st_4⟩ := cS X_3 hx hZ hown (hq hw 17 rfl) (hq hw 18 rfl) (hq hw 3 rfl) (hq hw 19 rfl) e_3 hml (rmRaw14 l Z a0 hw ea h_3 n0 (by omega) c0 c1 c2 c3 F_5 (own_rg_c q0) (own_rg_c q1) (own_rg_c q2) (own_rg_c q3)) (g := j_631) rfl rfl (lenOf pd_37 rfl) rfl (hb hby at_114) (W := 5) rfl rfl (by decide)
  have N_4' := Fr.app N0 N_4
  have z_4 := K_4.1
  have yy_4 := own_ltA B_4
  let j_632 := (mkF m 117 #[vI p1, vI p2, vI p3, vI p4, vI 4, vI 1, vI off, vR ea, vU, vU] [(.ref ra_4), (.ref ad_3), (.ref ad_3), (.ref lit), (.ref ax), (.ref ax)])
  refine GoH.s T_4 j_632 st_4 ?_
  have F_6 := (A_3.keep K_4)
  have F_7 := (F_3_value.keep K_4 nin0)
  have F_8 := (F_3_coder.keep K_4 nin0)
  have F_9 := ((O0.ext E_3).keep K_4 all0)
  have sfS := own_safeNull (EL := own_EL) hZ.alike F_6 F_7
  obtain ⟨v_10, T_10, h_10, L_10, X_10, e_10, ⟨rfl, N_10, K_10, vb_10, g_10, F1_10, F2_10, B_10⟩, st_10⟩ := cN X_4 hx hZ hown (hq hw 21 rfl) (hq hw 22 rfl) (hq hw 9 rfl) (hq hw 23 rfl) e_4 rfl hml (rmS1U5 l Z a0 hw ad_3 ra_4 h_4 n0 (by omega) vcs hcs F_9 SCS SAD SHI SLO F_6 F_7 F_8 (by omega) c0 c1 c2 c3 B_4 q0 q1 q2 q3 (own_ne (by omega))) (g := j_632) rfl rfl (lenOf pd_38 rfl) rfl (hb hby at_117) (W := 4) rfl rfl (by decide)
  have N_10' := Fr.app N_4' N_10
  have z_10 := K_10.1
  have yv_10 := own_ltA B_10
  let j_633 := (mkF m 120 #[vI p1, vI p2, vI p3, vI p4, vI 4, vI 1, vI off, vR ea, vU, vU] [(.ref ad_3), (.ref lit), (.ref ax), (.ref ax)])
  refine GoH.s T_10 j_633 st_10 ?_
  have F_11 := (F_6.keep K_10)
  have F_12 := (F_9.keep K_10 (own_o1 (by omega)))
  have F_13 := (((EX.ext E_3).keep K_4).keep K_10)
  have sfX : Safe Z own_EL s.vm h_10 ax := Safe.exa hZ.alike F_13 (by decide) (by decide)
  have nxs := own_neEE F_13 F_11 (by decide)
  have nxv := own_neEA (hq hw 6 rfl) F_13 B_10
  have F_14 := (((Fpath.ext E_3).keep K_4 nin0).keep K_10 (own_n1 (by omega)))
  have F_15 := (((Ftext.ext E_3).keep K_4 nin0).keep K_10 (own_n1 (by omega)))
  have F_16 := (((FlineStarts.ext E_3).keep K_4 nin0).keep K_10 (own_n1 (by omega)))
  obtain ⟨v_17, T_17, h_17, L_17, X_17, e_17, ⟨rfl, N_17, K_17, la_17, g_17, F1_17, B_17⟩, st_17⟩ := cN X_10 hx hZ hown (hq hw 44 rfl) (hq hw 45 rfl) (hq hw 7 rfl) (hq hw 46 rfl) e_10 rfl hml (rmSXU5 l Z a0 hw ax lit ad_3 h_10 n0 (by omega) vcs hcs F_12 SCS SAD SHI SLO vfm rfm SFM vb_10 F_11 F1_10 F2_10 c0 c1 c2 c3 B_10 q0 q1 q2 q3 ica ivs SIH SIC AIC hi256 hIC vd SDV ADV F_13 gx F_14 F_15 F_16 nxs nxv) (g := j_633) rfl rfl (lenOf pd_39 rfl) rfl (hb hby at_120) (W := 1) rfl rfl (by decide)
  have N_17' := Fr.app N_10' N_17
  have z_17 := K_17.1
  have yl_17 := own_ltA B_17
  refine GoH.s T_17 (mkF m 123 #[vI p1, vI p2, vI p3, vI p4, vI 4, vI 1, vI off, vR ea, vU, vU] [(.ref ax)]) st_17 ?_
  have F_18 := (((F_5.keep K_4 nin0).keep K_10 (own_n1 (by omega))).keep K_17 (own_n1 (by omega)))
  have F_19 := (F_13.keep K_17)
  have c_20 := c_0.trans (CHr.ext E_3 c_0.1)
  have c_21 := c_20.trans (CHr.keep K_4 all0 c_20.1)
  have c_22 := c_21.trans (CHr.keep K_10 (List.forall_mem_singleton.mpr sfS) c_21.1)
  have c_23 := c_22.trans (CHr.keep K_17 (List.forall_mem_singleton.mpr sfX) c_22.1)
  exact GoH.ofGo (tl Z a0 hw n0 hx hby hml hZ hown hnm hret hlk p1 p2 p3 p4 (4 : Int32) (1 : Int32) off ea ax la_17 c0 c1 c2 c3 (by decide) _ (own_law4 c0 c1 c2 c3 off).1 (own_law4 c0 c1 c2 c3 off).2 T_17 _ h_17 (by omega) (own_more X_17 (by decide) (by decide)) e_17 N_17' F_18 F_19 F1_17 B_17) (fun v h' L q => ⟨⟨q.1, q.2.1⟩, hZ, ⟨a0, own_ew hw⟩, by rw [q.2.2]; exact c_23⟩)
theorem pd_40 : parseMethodDescriptor "(II)C" = some ⟨[.int, .int], some .char⟩ := by decide +kernel
theorem p41 {p : Program} {l : Launch} {e : Env} {s : State} {m : MethodId} {args : Array Value} {below : List Frame} {meth : Method} {c : Code} (Z : State) (a0 : Array Value) (hw : own_W a0 Z) (n0 : Nat) (hx : p.tables.exec = Jvm.exec) (hby : c.code = code) (hml : c.maxLocals = 10) (hZ : Z.Warmed39 s.vm) (hown : s.vm.findClass cL = some m.cls) (hnm : meth.name = "law") (hret : meth.sig.returnType = some .boolean) (hlk : meth.locks = false) (vcs : Int32) (hcs : ¬ vcs = 0) (SCS : sCS Z vcs) (SAD : sAD Z) (SHI : sHI Z) (SLO : sLO Z) (vfm : Value) (rfm : vfm.isRef = true) (SFM : sFM Z vfm) (ica : Nat) (ivs : List Value) (SIH : sIH Z) (SIC : sIC Z ica) (AIC : Ary Z Z.heap ica (.object "java/lang/Integer") ivs) (hi256 : ivs.length = 256) (hIC : pIC Z ivs) (vd : Nat) (SDV : sDV Z vd) (ADV : Ary Z Z.heap vd (.object "java/lang/Object") []) (p1 p2 p3 p4 v4 v5 off : Int32) (hv4 : v4 = 0 ∨ v4 = 1 ∨ v4 = 2 ∨ v4 = 3 ∨ v4 = 4) (hv5 : v5 = 0 ∨ v5 = 1) :
    ∀  (T0 : State) (locs0 : List Loc) (h0 : Heap) (Z0 : n0 ≤ h0.size) (X0 : Stand p l e room_1 s m args below meth c T0 locs0 0 0) (e0 : T0.heap = h0) (N0 : Fr n0 locs0) (O0 : Old Z n0 h0) (H0 : CHv Z own_EL s.vm h0), GoH Z h0 p e below s room_1.cells room_1.slots (fun v h L => v = some (.int 1) ∧ Fr n0 L) (T0.setTop (mkF m 41 #[vI p1, vI p2, vI p3, vI p4, vI v4, vI v5, vI off, vU, vU, vU] [])) := by
  intro  T0 locs0 h0 Z0 X0 e0 N0 O0 H0
  have c_0 := CHr.refl H0
  let j_634 := (mkF m 42 #[vI p1, vI p2, vI p3, vI p4, vI v4, vI v5, vI off, vU, vU, vU] [(.int 4)])
  refine GoH.s T0 j_634 (fun _ hr => yc X0 hx (hb hby at_41) hr) ?_
  obtain ⟨T_1, h_1, X_1, e_1, E_1, A_1, st_1⟩ := own_newP X0 hx hZ (ty := .char) rfl (hq hw 0 rfl) e0 (g := j_634) rfl (hb hby at_42) rfl (by decide) (cap := 4) (by decide) (by decide) (by decide) (by decide)
  obtain ⟨ad_1, g_1⟩ : ∃ z, z = h0.size := ⟨_, rfl⟩
  rw [← g_1] at A_1 st_1
  have z_1 := E_1.1
  have y_1 := own_ltA A_1
  have B_1 : Ary Z h_1 ad_1 .char [(.int 0), (.int 0), (.int 0), (.int 0)] := A_1
  let j_635 := (mkF m 51 #[vI p1, vI p2, vI p3, vI p4, vI v4, vI v5, vI off, vR ad_1, vU, vU] [(.int p1), (.int p2), (.int 0), (.ref ad_1)])
  refine GoH.s T_1 j_635 (fun _ hr => st_1 _ (ym X_1 hx (hb hby at_44) rfl rfl (ya X_1 hx (hb hby at_46) rfl rfl (yc X_1 hx (hb hby at_48) (yj X_1 hx (hb hby at_49) rfl (yj X_1 hx (hb hby at_50) rfl hr)))))) ?_
  obtain ⟨v_2, T_2, h_2, L_2, X_2, e_2, ⟨c0, rfl, N_2, hh_2, q0⟩, st_2⟩ := cS X_1 hx hZ hown (hq hw 1 rfl) (hq hw 2 rfl) (hq hw 3 rfl) (hq hw 4 rfl) e_1 hml (rmPick l Z a0 hw p2 p1 h_1 n0 (by omega)) (g := j_635) rfl rfl (lenOf pd_40 rfl) rfl (hb hby at_51) (W := 2) rfl rfl (by decide)
  have N_2' := Fr.app N0 N_2
  rw [hh_2] at e_2
  let j_636 := (mkF m 54 #[vI p1, vI p2, vI p3, vI p4, vI v4, vI v5, vI off, vR ad_1, vU, vU] [(.int c0), (.int 0), (.ref ad_1)])
  refine GoH.s T_2 j_636 st_2 ?_
  obtain ⟨T_3, h_3, X_3, e_3, W_3, A_3, st_3⟩ := own_stC X_2 hx hZ e_2 B_1 (j := 0) (by decide) (by simp +decide) (g := j_636) rfl rfl (hb hby at_54)
  have N_3 := Fr.snoc X_3 N_2' (by omega)
  have z_3 := W_3.size
  rw [show nar .char c0 = c0 from (own_rg_c q0)] at A_3
  have B_3 : Ary Z h_3 ad_1 .char [(.int c0), (.int 0), (.int 0), (.int 0)] := A_3
  let j_637 := (mkF m 65 #[vI p1, vI p2, vI p3, vI p4, vI v4, vI v5, vI off, vR ad_1, vU, vU] [(.int (XT.ushr p1 (8 : Int32))), (.int (XT.ushr p2 (2 : Int32))), (.int 1), (.ref ad_1)])
  refine GoH.s T_3 j_637 (fun _ hr => st_3 _ (ya X_3 hx (hb hby at_55) rfl rfl (yc X_3 hx (hb hby at_57) (yj X_3 hx (hb hby at_58) rfl (yc X_3 hx (hb hby at_59) (y7 X_3 hx (hb hby at_60) (yj X_3 hx (hb hby at_61) rfl (yp X_3 hx (hb hby at_62) (y7 X_3 hx (hb hby at_64) hr))))))))) ?_
  obtain ⟨v_4, T_4, h_4, L_4, X_4, e_4, ⟨c1, rfl, N_4, hh_4, q1⟩, st_4⟩ := cS X_3 hx hZ hown (hq hw 1 rfl) (hq hw 2 rfl) (hq hw 3 rfl) (hq hw 4 rfl) e_3 hml (rmPick l Z a0 hw (XT.ushr p2 (2 : Int32)) (XT.ushr p1 (8 : Int32)) h_3 n0 (by omega)) (g := j_637) rfl rfl (lenOf pd_40 rfl) rfl (hb hby at_65) (W := 2) rfl rfl (by decide)
  have N_4' := Fr.app N_3 N_4
  rw [hh_4] at e_4
  let j_638 := (mkF m 68 #[vI p1, vI p2, vI p3, vI p4, vI v4, vI v5, vI off, vR ad_1, vU, vU] [(.int c1), (.int 1), (.ref ad_1)])
  refine GoH.s T_4 j_638 st_4 ?_
  obtain ⟨T_5, h_5, X_5, e_5, W_5, A_5, st_5⟩ := own_stC X_4 hx hZ e_4 B_3 (j := 1) (by decide) (by simp +decide) (g := j_638) rfl rfl (hb hby at_68)
  have N_5 := Fr.snoc X_5 N_4' (by omega)
  have z_5 := W_5.size
  rw [show nar .char c1 = c1 from (own_rg_c q1)] at A_5
  have B_5 : Ary Z h_5 ad_1 .char [(.int c0), (.int c1), (.int 0), (.int 0)] := A_5
  let j_639 := (mkF m 79 #[vI p1, vI p2, vI p3, vI p4, vI v4, vI v5, vI off, vR ad_1, vU, vU] [(.int (XT.ushr p1 (16 : Int32))), (.int (XT.ushr p2 (4 : Int32))), (.int 2), (.ref ad_1)])
  refine GoH.s T_5 j_639 (fun _ hr => st_5 _ (ya X_5 hx (hb hby at_69) rfl rfl (yc X_5 hx (hb hby at_71) (yj X_5 hx (hb hby at_72) rfl (yc X_5 hx (hb hby at_73) (y7 X_5 hx (hb hby at_74) (yj X_5 hx (hb hby at_75) rfl (yp X_5 hx (hb hby at_76) (y7 X_5 hx (hb hby at_78) hr))))))))) ?_
  obtain ⟨v_6, T_6, h_6, L_6, X_6, e_6, ⟨c2, rfl, N_6, hh_6, q2⟩, st_6⟩ := cS X_5 hx hZ hown (hq hw 1 rfl) (hq hw 2 rfl) (hq hw 3 rfl) (hq hw 4 rfl) e_5 hml (rmPick l Z a0 hw (XT.ushr p2 (4 : Int32)) (XT.ushr p1 (16 : Int32)) h_5 n0 (by omega)) (g := j_639) rfl rfl (lenOf pd_40 rfl) rfl (hb hby at_79) (W := 2) rfl rfl (by decide)
  have N_6' := Fr.app N_5 N_6
  rw [hh_6] at e_6
  let j_640 := (mkF m 82 #[vI p1, vI p2, vI p3, vI p4, vI v4, vI v5, vI off, vR ad_1, vU, vU] [(.int c2), (.int 2), (.ref ad_1)])
  refine GoH.s T_6 j_640 st_6 ?_
  obtain ⟨T_7, h_7, X_7, e_7, W_7, A_7, st_7⟩ := own_stC X_6 hx hZ e_6 B_5 (j := 2) (by decide) (by simp +decide) (g := j_640) rfl rfl (hb hby at_82)
  have N_7 := Fr.snoc X_7 N_6' (by omega)
  have z_7 := W_7.size
  rw [show nar .char c2 = c2 from (own_rg_c q2)] at A_7
  have B_7 : Ary Z h_7 ad_1 .char [(.int c0), (.int c1), (.int c2), (.int 0)] := A_7
  let j_641 := (mkF m 94 #[vI p1, vI p2, vI p3, vI p4, vI v4, vI v5, vI off, vR ad_1, vU, vU] [(.int (XT.ushr p1 (24 : Int32))), (.int (XT.ushr p2 (6 : Int32))), (.int 3), (.ref ad_1)])
  refine GoH.s T_7 j_641 (fun _ hr => st_7 _ (ya X_7 hx (hb hby at_83) rfl rfl (yc X_7 hx (hb hby at_85) (yj X_7 hx (hb hby at_86) rfl (yp X_7 hx (hb hby at_87) (y7 X_7 hx (hb hby at_89) (yj X_7 hx (hb hby at_90) rfl (yp X_7 hx (hb hby at_91) (y7 X_7 hx (hb hby at_93) hr))))))))) ?_
  obtain ⟨v_8, T_8, h_8, L_8, X_8, e_8, ⟨c3, rfl, N_8, hh_8, q3⟩, st_8⟩ := cS X_7 hx hZ hown (hq hw 1 rfl) (hq hw 2 rfl) (hq hw 3 rfl) (hq hw 4 rfl) e_7 hml (rmPick l Z a0 hw (XT.ushr p2 (6 : Int32)) (XT.ushr p1 (24 : Int32)) h_7 n0 (by omega)) (g := j_641) rfl rfl (lenOf pd_40 rfl) rfl (hb hby at_94) (W := 2) rfl rfl (by decide)
  have N_8' := Fr.app N_7 N_8
  rw [hh_8] at e_8
  let j_642 := (mkF m 97 #[vI p1, vI p2, vI p3, vI p4, vI v4, vI v5, vI off, vR ad_1, vU, vU] [(.int c3), (.int 3), (.ref ad_1)])
  refine GoH.s T_8 j_642 st_8 ?_
  obtain ⟨T_9, h_9, X_9, e_9, W_9, A_9, st_9⟩ := own_stC X_8 hx hZ e_8 B_7 (j := 3) (by decide) (by simp +decide) (g := j_642) rfl rfl (hb hby at_97)
  have N_9 := Fr.snoc X_9 N_8' (by omega)
  have z_9 := W_9.size
  rw [show nar .char c3 = c3 from (own_rg_c q3)] at A_9
  have B_9 : Ary Z h_9 ad_1 .char [(.int c0), (.int c1), (.int c2), (.int c3)] := A_9
  let j_643 := (mkF m 98 #[vI p1, vI p2, vI p3, vI p4, vI v4, vI v5, vI off, vR ad_1, vU, vU] [])
  refine GoH.s T_9 j_643 st_9 ?_
  obtain ⟨T_10, h_10, X_10, e_10, E_10, A_10, D_10, -, st_10⟩ := newO X_9 hx hZ hown (hq hw 5 rfl) (hq hw 6 rfl) (hq hw 7 rfl) e_9 (g := j_643) rfl (hb hby at_98) (by decide) (by decide)
  obtain ⟨ad_10, g_10⟩ : ∃ z, z = h_9.size := ⟨_, rfl⟩
  rw [← g_10] at A_10 D_10 st_10
  have z_10 := E_10.1
  have y_10 := own_ltE A_10
  have F_10_path : fP Z h_10 ad_10 .null := D_10 (Or.inr (hq hw 49 rfl)) (ty := (.object "java/lang/String")) (by decide)
  have F_10_text : fT Z h_10 ad_10 .null := D_10 (Or.inr (hq hw 79 rfl)) (ty := (.object "java/lang/String")) (by decide)
  have F_10_lineStarts : fX Z h_10 ad_10 .null := D_10 (Or.inr (hq hw 212 rfl)) (ty := (.array .int)) (by decide)
  let j_644 := (mkF m 102 #[vI p1, vI p2, vI p3, vI p4, vI v4, vI v5, vI off, vR ad_1, vU, vU] [(.ref ad_10), (.ref ad_10)])
  refine GoH.s T_10 j_644 (fun _ hr => st_10 _ (yd X_10 hx (hb hby at_101) rfl hr)) ?_
  have c_11 := c_0.trans (CHr.ext E_1 c_0.1)
  have c_12 := c_11.trans (CHr.wr W_3 (own_arS hZ.alike B_1 (by decide)) c_11.1)
  have c_13 := c_12.trans (CHr.wr W_5 (own_arS hZ.alike B_3 (by decide)) c_12.1)
  have c_14 := c_13.trans (CHr.wr W_7 (own_arS hZ.alike B_5 (by decide)) c_13.1)
  have c_15 := c_14.trans (CHr.wr W_9 (own_arS hZ.alike B_7 (by decide)) c_14.1)
  have c_16 := c_15.trans (CHr.ext E_10 c_15.1)
  obtain ⟨a_17, T_17, h_17, X_17, e_17, E_17, S_17, hZ_17, ho_17, C_17, st_17⟩ := own_ldcO X_10 hx hZ hown (hq hw 8 rfl) (own_strA hw) e_10 (own_ew hw) c_16.1 (g := j_644) rfl (hb hby at_102) (n := 4) (by decide) (by decide) (by decide) (by decide)
  have z_17 := E_17.1
  refine GoH.s T_17 (mkF m 104 #[vI p1, vI p2, vI p3, vI p4, vI v4, vI v5, vI off, vR ad_1, vU, vU] [(.ref a_17), (.ref ad_10), (.ref ad_10)]) st_17 ?_
  refine GoH.lift S_17 (Nat.le_refl _) (c_16.trans C_17) ?_
  have hZ : Z.Warmed39 (s.setVm T_17.vm).vm := hZ_17
  have hown := ho_17
  have c_17 := CHr.refl C_17.1
  have F_18 := (((((((O0.ext E_1).wr W_3 (by omega)).wr W_5 (by omega)).wr W_7 (by omega)).wr W_9 (by omega)).ext E_10).ext E_17)
  have F_19 := ((B_9.ext E_10).ext E_17)
  have F_20 := (A_10.ext E_17)
  have F_21 := (F_10_path.ext E_17)
  have F_22 := (F_10_text.ext E_17)
  have F_23 := (F_10_lineStarts.ext E_17)
  have gx : n0 ≤ ad_10 := by omega
  rcases hv4 with rfl | rfl | rfl | rfl | rfl
  · rcases hv5 with rfl | rfl
    · exact md00 Z a0 hw n0 hx hby hml hZ hown hnm hret hlk vcs hcs SCS SAD SHI SLO vfm rfm SFM ica ivs SIH SIC AIC hi256 hIC vd SDV ADV p1 p2 p3 p4 off ad_1 ad_10 a_17 c0 c1 c2 c3 q0 q1 q2 q3 T_17 _ h_17 (by omega) (own_more X_17 (by decide) (by decide)) e_17 N_9 F_18 c_17.1 F_19 F_20 gx F_21 F_22 F_23
    · exact md01 Z a0 hw n0 hx hby hml hZ hown hnm hret hlk vcs hcs SCS SAD SHI SLO vfm rfm SFM ica ivs SIH SIC AIC hi256 hIC vd SDV ADV p1 p2 p3 p4 off ad_1 ad_10 a_17 c0 c1 c2 c3 q0 q1 q2 q3 T_17 _ h_17 (by omega) (own_more X_17 (by decide) (by decide)) e_17 N_9 F_18 c_17.1 F_19 F_20 gx F_21 F_22 F_23
  · rcases hv5 with rfl | rfl
    · exact md10 Z a0 hw n0 hx hby hml hZ hown hnm hret hlk vcs hcs SCS SAD SHI SLO vfm rfm SFM ica ivs SIH SIC AIC hi256 hIC vd SDV ADV p1 p2 p3 p4 off ad_1 ad_10 a_17 c0 c1 c2 c3 q0 q1 q2 q3 T_17 _ h_17 (by omega) (own_more X_17 (by decide) (by decide)) e_17 N_9 F_18 c_17.1 F_19 F_20 gx F_21 F_22 F_23
    · exact md11 Z a0 hw n0 hx hby hml hZ hown hnm hret hlk vcs hcs SCS SAD SHI SLO vfm rfm SFM ica ivs SIH SIC AIC hi256 hIC vd SDV ADV p1 p2 p3 p4 off ad_1 ad_10 a_17 c0 c1 c2 c3 q0 q1 q2 q3 T_17 _ h_17 (by omega) (own_more X_17 (by decide) (by decide)) e_17 N_9 F_18 c_17.1 F_19 F_20 gx F_21 F_22 F_23
  · rcases hv5 with rfl | rfl
    · exact md20 Z a0 hw n0 hx hby hml hZ hown hnm hret hlk vcs hcs SCS SAD SHI SLO vfm rfm SFM ica ivs SIH SIC AIC hi256 hIC vd SDV ADV p1 p2 p3 p4 off ad_1 ad_10 a_17 c0 c1 c2 c3 q0 q1 q2 q3 T_17 _ h_17 (by omega) (own_more X_17 (by decide) (by decide)) e_17 N_9 F_18 c_17.1 F_19 F_20 gx F_21 F_22 F_23
    · exact md21 Z a0 hw n0 hx hby hml hZ hown hnm hret hlk vcs hcs SCS SAD SHI SLO vfm rfm SFM ica ivs SIH SIC AIC hi256 hIC vd SDV ADV p1 p2 p3 p4 off ad_1 ad_10 a_17 c0 c1 c2 c3 q0 q1 q2 q3 T_17 _ h_17 (by omega) (own_more X_17 (by decide) (by decide)) e_17 N_9 F_18 c_17.1 F_19 F_20 gx F_21 F_22 F_23
  · rcases hv5 with rfl | rfl
    · exact md30 Z a0 hw n0 hx hby hml hZ hown hnm hret hlk vcs hcs SCS SAD SHI SLO vfm rfm SFM ica ivs SIH SIC AIC hi256 hIC vd SDV ADV p1 p2 p3 p4 off ad_1 ad_10 a_17 c0 c1 c2 c3 q0 q1 q2 q3 T_17 _ h_17 (by omega) (own_more X_17 (by decide) (by decide)) e_17 N_9 F_18 c_17.1 F_19 F_20 gx F_21 F_22 F_23
    · exact md31 Z a0 hw n0 hx hby hml hZ hown hnm hret hlk vcs hcs SCS SAD SHI SLO vfm rfm SFM ica ivs SIH SIC AIC hi256 hIC vd SDV ADV p1 p2 p3 p4 off ad_1 ad_10 a_17 c0 c1 c2 c3 q0 q1 q2 q3 T_17 _ h_17 (by omega) (own_more X_17 (by decide) (by decide)) e_17 N_9 F_18 c_17.1 F_19 F_20 gx F_21 F_22 F_23
  · rcases hv5 with rfl | rfl
    · exact md40 Z a0 hw n0 hx hby hml hZ hown hnm hret hlk vcs hcs SCS SAD SHI SLO vfm rfm SFM ica ivs SIH SIC AIC hi256 hIC vd SDV ADV p1 p2 p3 p4 off ad_1 ad_10 a_17 c0 c1 c2 c3 q0 q1 q2 q3 T_17 _ h_17 (by omega) (own_more X_17 (by decide) (by decide)) e_17 N_9 F_18 c_17.1 F_19 F_20 gx F_21 F_22 F_23
    · exact md41 Z a0 hw n0 hx hby hml hZ hown hnm hret hlk vcs hcs SCS SAD SHI SLO vfm rfm SFM ica ivs SIH SIC AIC hi256 hIC vd SDV ADV p1 p2 p3 p4 off ad_1 ad_10 a_17 c0 c1 c2 c3 q0 q1 q2 q3 T_17 _ h_17 (by omega) (own_more X_17 (by decide) (by decide)) e_17 N_9 F_18 c_17.1 F_19 F_20 gx F_21 F_22 F_23
theorem pf_53 : plainFor x = true := plainFor_of_name (by first | (simp [plainName, overriddenIn, x]; done) | decide +kernel)
theorem rm0 (hw : own_W a0 Z) (p1 : Int32) (p2 : Int32) (p3 : Int32) (p4 : Int32) (h0 : Heap) (n0 : Nat) (Z0 : n0 ≤ h0.size) (O0 : Old Z n0 h0) (vcs : Int32) (hcs : ¬ vcs = 0) (SCS : sCS Z vcs) (SAD : sAD Z) (SHI : sHI Z) (SLO : sLO Z) (vfm : Value) (rfm : vfm.isRef = true) (SFM : sFM Z vfm) (ica : Nat) (ivs : List Value) (SIH : sIH Z) (SIC : sIC Z ica) (AIC : Ary Z Z.heap ica (.object "java/lang/Integer") ivs) (hi256 : ivs.length = 256) (hIC : pIC Z ivs) (vd : Nat) (SDV : sDV Z vd) (ADV : Ary Z Z.heap vd (.object "java/lang/Object") []) :
    ConT l Z x code maxLocals ret room_1 #[(.int p1), (.int p2), (.int p3), (.int p4)] h0 (fun v h L => v = some (.int 1) ∧ Fr n0 L) := by
  refine ConT.of pf_53 ?_
  intro p e s m below meth c T0 X0 hx hby hml hZ hown hnm hret hlk e0 H0
  have hown : s.vm.findClass cL = some m.cls := hown
  have hnm : meth.name = "law" := hnm
  have N0 := Fr.nil n0
  refine GoH.cast (g' := (mkF m 0 #[vI p1, vI p2, vI p3, vI p4, vU, vU, vU, vU, vU, vU] [])) (by simp [entryFrame, mkF, argsToLocals, Value.category, maxLocals]) ?_
  refine GoH.s T0 (mkF m 5 #[vI p1, vI p2, vI p3, vI p4, vU, vU, vU, vU, vU, vU] [(.int 5), (.int (p3 &&& 7))]) (fun _ hr => yj X0 hx (hb hby at_0) rfl (yp X0 hx (hb hby at_1) (y3 X0 hx (hb hby at_3) (yc X0 hx (hb hby at_4) hr)))) ?_
  refine GoH.s T0 (mkF m 6 #[vI p1, vI p2, vI p3, vI p4, vU, vU, vU, vU, vU, vU] [(.int ((p3 &&& 7) % (5 : Int32)))]) (fun t hr => iremM X0 hx rfl (hb hby at_5) rfl (by decide) hr) ?_
  obtain ⟨v4, hv4⟩ : ∃ z : Int32, z = ((p3 &&& 7) % (5 : Int32)) := ⟨_, rfl⟩
  refine GoH.s T0 (mkF m 8 #[vI p1, vI p2, vI p3, vI p4, vI v4, vU, vU, vU, vU, vU] []) (fun t hr => by subst hv4; exact XS.istore X0.here hx rfl (hb hby at_6) rfl (l' := _) rfl hr) ?_
  refine GoH.s T0 (mkF m 12 #[vI p1, vI p2, vI p3, vI p4, vI v4, vU, vU, vU, vU, vU] [(.int (p3 &&& 8))]) (fun _ hr => yj X0 hx (hb hby at_8) rfl (yp X0 hx (hb hby at_9) (y3 X0 hx (hb hby at_11) hr))) ?_
  by_cases hc1 : (p3 &&& 8) = 0
  · refine GoH.s T0 (mkF m 26 #[vI p1, vI p2, vI p3, vI p4, vI v4, vI 0, vU, vU, vU, vU] [(.int (p3 &&& 16))]) (fun _ hr => yX X0 hx (hb hby at_12) (pc' := 19) (XT.i0_eq_t hc1) rfl (yc X0 hx (hb hby at_19) (yk X0 hx (hb hby at_20) rfl (yj X0 hx (hb hby at_22) rfl (yp X0 hx (hb hby at_23) (y3 X0 hx (hb hby at_25) hr)))))) ?_
    by_cases hc2 : (p3 &&& 16) = 0
    · refine GoH.s T0 (mkF m 41 #[vI p1, vI p2, vI p3, vI p4, vI v4, vI 0, vI ((p4 &&& 7) - 1), vU, vU, vU] []) (fun _ hr => yX X0 hx (hb hby at_26) (pc' := 33) (XT.i0_eq_t hc2) rfl (yj X0 hx (hb hby at_33) rfl (yp X0 hx (hb hby at_34) (y3 X0 hx (hb hby at_36) (yc X0 hx (hb hby at_37) (y2 X0 hx (hb hby at_38) (yk X0 hx (hb hby at_39) rfl hr))))))) ?_
      exact p41 Z a0 hw n0 hx hby hml hZ hown hnm hret hlk vcs hcs SCS SAD SHI SLO vfm rfm SFM ica ivs SIH SIC AIC hi256 hIC vd SDV ADV p1 p2 p3 p4 v4 (0 : Int32) ((p4 &&& 7) - 1) (own_mod5 hv4) (Or.inl rfl) T0 _ h0 (by omega) X0 e0 N0 O0 H0
    refine GoH.s T0 (mkF m 41 #[vI p1, vI p2, vI p3, vI p4, vI v4, vI 0, vI p4, vU, vU, vU] []) (fun _ hr => yM X0 hx (hb hby at_26) (XT.i0_eq_f hc2) (yj X0 hx (hb hby at_29) rfl (yg X0 hx (hb hby at_30) (pc' := 39) rfl (yk X0 hx (hb hby at_39) rfl hr)))) ?_
    exact p41 Z a0 hw n0 hx hby hml hZ hown hnm hret hlk vcs hcs SCS SAD SHI SLO vfm rfm SFM ica ivs SIH SIC AIC hi256 hIC vd SDV ADV p1 p2 p3 p4 v4 (0 : Int32) p4 (own_mod5 hv4) (Or.inl rfl) T0 _ h0 (by omega) X0 e0 N0 O0 H0
  refine GoH.s T0 (mkF m 26 #[vI p1, vI p2, vI p3, vI p4, vI v4, vI 1, vU, vU, vU, vU] [(.int (p3 &&& 16))]) (fun _ hr => yM X0 hx (hb hby at_12) (XT.i0_eq_f hc1) (yc X0 hx (hb hby at_15) (yg X0 hx (hb hby at_16) (pc' := 20) rfl (yk X0 hx (hb hby at_20) rfl (yj X0 hx (hb hby at_22) rfl (yp X0 hx (hb hby at_23) (y3 X0 hx (hb hby at_25) hr))))))) ?_
  by_cases hc3 : (p3 &&& 16) = 0
  · refine GoH.s T0 (mkF m 41 #[vI p1, vI p2, vI p3, vI p4, vI v4, vI 1, vI ((p4 &&& 7) - 1), vU, vU, vU] []) (fun _ hr => yX X0 hx (hb hby at_26) (pc' := 33) (XT.i0_eq_t hc3) rfl (yj X0 hx (hb hby at_33) rfl (yp X0 hx (hb hby at_34) (y3 X0 hx (hb hby at_36) (yc X0 hx (hb hby at_37) (y2 X0 hx (hb hby at_38) (yk X0 hx (hb hby at_39) rfl hr))))))) ?_
    exact p41 Z a0 hw n0 hx hby hml hZ hown hnm hret hlk vcs hcs SCS SAD SHI SLO vfm rfm SFM ica ivs SIH SIC AIC hi256 hIC vd SDV ADV p1 p2 p3 p4 v4 (1 : Int32) ((p4 &&& 7) - 1) (own_mod5 hv4) (Or.inr rfl) T0 _ h0 (by omega) X0 e0 N0 O0 H0
  refine GoH.s T0 (mkF m 41 #[vI p1, vI p2, vI p3, vI p4, vI v4, vI 1, vI p4, vU, vU, vU] []) (fun _ hr => yM X0 hx (hb hby at_26) (XT.i0_eq_f hc3) (yj X0 hx (hb hby at_29) rfl (yg X0 hx (hb hby at_30) (pc' := 39) rfl (yk X0 hx (hb hby at_39) rfl hr)))) ?_
  exact p41 Z a0 hw n0 hx hby hml hZ hown hnm hret hlk vcs hcs SCS SAD SHI SLO vfm rfm SFM ica ivs SIH SIC AIC hi256 hIC vd SDV ADV p1 p2 p3 p4 v4 (1 : Int32) p4 (own_mod5 hv4) (Or.inr rfl) T0 _ h0 (by omega) X0 e0 N0 O0 H0
end Walks

set_option maxRecDepth 65536 in
set_option maxHeartbeats 1000000 in
theorem comes_1 {Post : Tables → Env → Array Value → State → Outcome → State → Prop} (hpost : ∀ tb e args s v u, (limb_1_1.after args s (.returned v) u = true ∧ limb_1_2.after args s (.returned v) u = true ∧ True) → ReturnedEndW s (.returned v) u (Jvm.fieldLocs frame_1_writes args s ++ Jvm.arrayLocs frame_1_arrays args s ++ Jvm.staticLocs frame_1_statics s) 40 3264 → Post tb e args s (.returned v) u) :
    ArmFor flags0 classFile x code maxLocals ret World_1 tables_1 room_1 Calls_1 rest_1 Pre_1 Post := by
  intro l hfl _ _ p e ha hc hk s m args below hf hA hF happ hP
  obtain ⟨hcalls, hrest, hpre⟩ := hP
  obtain ⟨-, -, -, hnamed, -, -, -, hat⟩ := (Spec.applies_iff hf).mp happ
  obtain ⟨hg, hn⟩ := and_e (Cond.before_iff.mp (show (Jvm.Cond.and given_1 narrow_1).before args s = true from hpre))
  obtain ⟨hcnt, gg0⟩ := and_e hg
  obtain ⟨w0, w1, w2, w3, rfl⟩ : ∃ w0 w1 w2 w3 : Value, args = #[w0, w1, w2, w3] := by
    have hs : args.size = 4 := by simpa [Cond.value, given_1] using hcnt
    obtain ⟨L⟩ := args
    match L, hs with
    | [w0, w1, w2, w3], _ => exact ⟨w0, w1, w2, w3, rfl⟩
  have hw := fun d (hd : d ∈ tables_1) => atoms_spec (ws := Jvm.Cond.code x code maxLocals ret :: tables_1) hat d (List.mem_cons_of_mem _ hd)
  obtain ⟨hsets, hown0⟩ := atoms_of _ (rest_1_c_eq ▸ (show rest_1_c.before _ s = true from hrest))
  have hr0 := Cond.before_iff.mp hown0
  have hfit : Fit s := fun {y c} hc i hi => by
    obtain ⟨ha, rfl⟩ := Array.getElem?_eq_some_iff.mp hc
    have q := List.all_eq_true.mp ((Array.all_eq_true_iff_forall_mem.mp hF) _ (Array.getElem_mem ha)) i (List.mem_range.mpr hi)
    simpa [Array.getElem?_eq_getElem hi] using q
  obtain ⟨ga0, gg1⟩ := and_e gg0
  obtain ⟨ga1, gg2⟩ := and_e gg1
  obtain ⟨ga2, gg3⟩ := and_e gg2
  obtain ⟨i0, ev0⟩ := is_v ga0
  obtain rfl : w0 = (.int i0) := Option.some.inj ev0
  obtain ⟨i1, ev1⟩ := is_v ga1
  obtain rfl : w1 = (.int i1) := Option.some.inj ev1
  obtain ⟨i2, ev2⟩ := is_v ga2
  obtain rfl : w2 = (.int i2) := Option.some.inj ev2
  obtain ⟨i3, ev3⟩ := is_v gg3
  obtain rfl : w3 = (.int i3) := Option.some.inj ev3
  have n5 := not_v (Cond.before_iff.mp (hsets _ (List.mem_of_getElem? (i := 2) rfl)))
  obtain ⟨vcs, ecs⟩ := is_v (Cond.before_iff.mp (hsets _ (List.mem_of_getElem? (i := 1) rfl)))
  have SCS : Sta s s.heap "java/lang/String" "COMPACT_STRINGS" "Z" (.int vcs) := Sta.start ecs (Or.inl (hsets _ (List.mem_of_getElem? (i := 0) rfl)))
  have hcs : ¬ (vcs = (0 : Int32)) := gotF (Cond.eq_ints ecs (Term.int_eval (0))) n5
  obtain ⟨vfm, efm, rfm⟩ := isR_v (Cond.before_iff.mp (hsets _ (List.mem_of_getElem? (i := 8) rfl)))
  have SFM : Sta s s.heap "jdk/internal/util/Preconditions" "SIOOBE_FORMATTER" "Ljava/util/function/BiFunction;" vfm := Sta.start efm (Or.inl (hsets _ (List.mem_of_getElem? (i := 7) rfl)))
  have SAD : Sta s s.heap "java/lang/StringUTF16" "$assertionsDisabled" "Z" (.int 1) := Sta.start (eqv_i (Term.int_eval 1) (Cond.before_iff.mp (hsets _ (List.mem_of_getElem? (i := 29) rfl)))) (Or.inl (hsets _ (List.mem_of_getElem? (i := 28) rfl)))
  have SHI : Sta s s.heap "java/lang/StringUTF16" "HI_BYTE_SHIFT" "I" (.int 0) := Sta.start (eqv_i (Term.int_eval 0) (Cond.before_iff.mp (hsets _ (List.mem_of_getElem? (i := 32) rfl)))) (Or.inl (hsets _ (List.mem_of_getElem? (i := 31) rfl)))
  have SLO : Sta s s.heap "java/lang/StringUTF16" "LO_BYTE_SHIFT" "I" (.int 8) := Sta.start (eqv_i (Term.int_eval 8) (Cond.before_iff.mp (hsets _ (List.mem_of_getElem? (i := 35) rfl)))) (Or.inl (hsets _ (List.mem_of_getElem? (i := 34) rfl)))
  have SIH : Sta s s.heap "java/lang/Integer$IntegerCache" "high" "I" (.int 127) := Sta.start (eqv_i (Term.int_eval 127) (Cond.before_iff.mp (hsets _ (List.mem_of_getElem? (i := 21) rfl)))) (Or.inl (hsets _ (List.mem_of_getElem? (i := 19) rfl)))
  obtain ⟨ica, eic⟩ := arr_v (Cond.before_iff.mp (hsets _ (List.mem_of_getElem? (i := 22) rfl)))
  have SIC : Sta s s.heap "java/lang/Integer$IntegerCache" "cache" "[Ljava/lang/Integer;" (.ref ica) := Sta.start eic (Or.inr ⟨(hw _ (List.mem_of_getElem? (i := 112) rfl)), (hsets _ (List.mem_of_getElem? (i := 20) rfl))⟩)
  obtain ⟨cic, Ric⟩ := Arr.start eic (Cond.before_iff.mp (hsets _ (List.mem_of_getElem? (i := 22) rfl)))
  obtain ⟨lic, tic⟩ := own_lenE (Cond.before_iff.mp (hsets _ (List.mem_of_getElem? (i := 24) rfl))) eic Ric
  have BX := Bxs.start (val := fun j => .int (j - 128)) (z := 256) (fun idx => (by simpa [Term.eval] using eic)) Ric lic tic (by decide) (Cond.before_iff.mp (hsets _ (List.mem_of_getElem? (i := 25) rfl))) (fun X j hj hh => eqv_i (Term.sub_int (idx_at hj) (Term.int_eval _)) hh)
  have AIC : Ary s s.heap ica (.object "java/lang/Integer") cic.slots.toList := ⟨cic, Ric, rfl, by simpa using lic⟩
  have hsz := own_szE (k := 256) lic tic (by decide)
  have hi256 : cic.slots.toList.length = 256 := by simpa using hsz
  have hIC : ∀ k, k < 5 → ∃ x : Nat, cic.slots.toList[k + 128]? = some (.ref x) ∧ Exa s s.heap x "java/lang/Integer" ∧ Fld s s.heap x "java/lang/Integer" "value" "I" (.int k.toInt32) := by
    intro k hk
    obtain ⟨j1, j2, j3⟩ := own_ivK (j := (k + 128 : Nat).toInt32) rfl hk
    obtain ⟨x, x1, x2, x3⟩ := BX.2.2.2 (k + 128 : Nat).toInt32 (fun q => q.elim j1 (fun q => by omega))
    rw [j2] at x1
    dsimp only at x3
    rw [show ((k + 128 : Nat).toInt32 - 128 : Int32) = k.toInt32 from j3] at x3
    exact ⟨x, by simpa using x1, x2, x3⟩
  obtain ⟨vd, evd⟩ := arr_v (Cond.before_iff.mp (hsets _ (List.mem_of_getElem? (i := 15) rfl)))
  obtain ⟨cd, Rd⟩ := Arr.start evd (Cond.before_iff.mp (hsets _ (List.mem_of_getElem? (i := 15) rfl)))
  obtain ⟨ld, td⟩ := own_lenE (Cond.before_iff.mp (hsets _ (List.mem_of_getElem? (i := 17) rfl))) evd Rd
  have SDV : Sta s s.heap "java/util/ArrayList" "DEFAULTCAPACITY_EMPTY_ELEMENTDATA" "[Ljava/lang/Object;" (.ref vd) := Sta.start evd (Or.inr ⟨(hw _ (List.mem_of_getElem? (i := 85) rfl)), (hsets _ (List.mem_of_getElem? (i := 11) rfl))⟩)
  have hsd := own_szE (k := 0) ld td (by decide)
  have ADV : Ary s s.heap vd (.object "java/lang/Object") [] := ⟨cd, Rd, by rw [Array.eq_empty_of_size_eq_zero hsd], by decide⟩
  have hh : ∀ p ∈ own_EL, Jvm.Lit.constHeld s p.1 p.2 := by
    intro p hp
    have q : ∀ p ∈ consts_1, Jvm.Lit.constHeld s p.1 p.2 := hcalls.1
    refine q p ?_
    simp only [own_EL, List.mem_cons, List.not_mem_nil, or_false] at hp
    rcases hp with rfl | rfl <;> simp [consts_1]
  have H0 : CHv s own_EL s.vm s.heap := CHv.start (own_ew hw) hh (hsets _ (List.mem_of_getElem? (i := 2) rfl)) (hw _ (List.mem_of_getElem? (i := 11) rfl)) (hw _ (List.mem_of_getElem? (i := 10) rfl))
  obtain ⟨n, o, h1, h2, h3, _, L, rfl, ⟨rfl, N⟩, hq⟩ := rm0 l s _ hw i0 i1 i2 i3 s.heap s.heap.size (Nat.le_refl _) (Old.start s) vcs hcs SCS SAD SHI SLO vfm rfm SFM ica cic.slots.toList SIH SIC AIC hi256 hIC vd SDV ADV tables_1 p e ha hc hk s m _ below hf ((Spec.applies_iff_loose hf).mp happ).1 ⟨rfl, State.Warmed39.refl s, rfl, H0⟩ trivial
  refine ⟨n, _, h1, h2, h3, hpost _ _ _ _ _ _ ⟨Cond.after_iff.mpr rfl, Cond.after_iff.mpr (eq_i res_at (Term.int_eval (1)) rfl), trivial⟩ ⟨hq.1, hq.2.1, hq.2.2.1, (hq.2.2.2.sift fun y hy => Or.inr (N y hy)).mono (by decide) (by decide)⟩⟩
theorem main_1_1 : Claimed_1_1 := comes_1 fun _ _ _ _ _ _ h hF => ⟨h.1, hF⟩
theorem main_1_2 : Claimed_1_2 := comes_1 fun _ _ _ _ _ _ h hF => ⟨h.2.1, hF⟩
end Jvm.Pilot.@@N@@
namespace Jvm.Pilot.@@N@@
open Jvm Jvm.ClassFile Sem Op Lib Jvm.Free Jvm.Stand Jvm.Pilot.@@N@@.Jvm.D

namespace start1
open Jvm.ClassFile
def u (s : String) : CpInfo := .utf8 (stringToUtf16 s)
def gap : Nat → List CpInfo → List CpInfo
  | 0, r => r
  | n + 1, r => .unusable :: gap n r
def poolList (es : List (Nat × CpInfo)) (last : Nat) : List CpInfo := es.foldr (fun e r => gap e.1 (e.2 :: r)) (gap last [])
def pool (es : List (Nat × CpInfo)) (last : Nat) : Array CpInfo := ⟨poolList es last⟩
def fileOf (pool : Array CpInfo) (this : Nat) (attrs : Array Attribute := #[]) (ms : Array MethodInfo := #[]) (fl : Nat := 33) (sup : Nat := 0) (ifs : Array Nat := #[]) (fds : Array FieldInfo := #[]) : ClassFile where
  minorVersion := 0
  majorVersion := 65
  constantPool := pool
  accessFlags := fl
  thisClass := this
  superClass := sup
  interfaces := ifs
  fields := fds
  methods := ms
  attributes := attrs
def plain (name : String) (sup : Option ClassId) : Class where
  name := name
  kind := .ordinary
  loader := none
  accessFlags := 33
  super := sup
  interfaces := #[]
  cf := none
  fields := #[]
  methods := #[]
  instanceTypes := #[]
  staticTypes := #[]
  resolved := #[]
  callSites := []
  init := .initialized
  statics := none
  mirror := none

def pool0 : Array CpInfo := pool [(5, u "<init>"), (0, u "()V"), (1, .class_ 10), (1, u "java/lang/Object")] 113

def k0c0 : Code := { maxStack := 0, maxLocals := 1, code := object_method_1_code, exceptionTable := #[], attributes := #[] }
def k0m0 : Method := { name := "<init>", desc := "()V", sig := { parameters := [], returnType := none }, accessFlags := 1, code := some k0c0 }
def k0 : Class := { plain "java/lang/Object" none with
  accessFlags := 33
  interfaces := #[]
  cf := some (fileOf pool0 8 #[] #[{ accessFlags := 1, nameIndex := 5, descriptorIndex := 6, attributes := #[] }] 33 0 #[] #[])
  fields := #[]
  methods := #[k0m0]
  instanceTypes := #[]
  staticTypes := #[]
  resolved := Array.replicate 124 none
  statics := none }

def pool1 : Array CpInfo := pool [(2, .class_ 4), (1, u "java/lang/Object"), (0, u "<init>"), (0, u "()V"), (0, .methodref 8 9), (0, .class_ 10), (0, .nameAndType 11 12), (0, u cL), (0, u "pick"), (0, u "(II)C"), (0, .class_ 14), (0, u cX), (0, .string 16), (0, u "p"), (0, .class_ 18), (0, u "java/lang/String"), (0, .methodref 8 20), (0, .nameAndType 21 22), (0, u "raw"), (0, u "(ZI[C)[C"), (0, .methodref 17 24), (0, .nameAndType 5 25), (0, u "([C)V"), (0, .methodref 13 27), (0, .nameAndType 5 28), (0, u "(Ljava/lang/String;Ljava/lang/String;)V"), (0, .methodref 8 30), (0, .nameAndType 31 32), (0, u "start"), (0, u "([CIII)I"), (0, .methodref 13 34), (0, .nameAndType 35 36), (0, u "line"), (0, u "(I)I"), (0, .integer 65279), (2, u "law"), (0, u "(IIII)Z")] 5

def k1m0 : Method := { name := "<init>", desc := "()V", sig := { parameters := [], returnType := none }, accessFlags := 1, code := none }
def k1c1 : Code := { maxStack := 8, maxLocals := 10, code := code, exceptionTable := #[], attributes := #[] }
def k1m1 : Method := { name := "law", desc := "(IIII)Z", sig := { parameters := [.int, .int, .int, .int], returnType := some .boolean }, accessFlags := 9, code := some k1c1 }
def k1c2 : Code := { maxStack := 2, maxLocals := 3, code := method_3_code, exceptionTable := #[], attributes := #[] }
def k1m2 : Method := { name := "pick", desc := "(II)C", sig := { parameters := [.int, .int], returnType := some .char }, accessFlags := 10, code := some k1c2 }
def k1c3 : Code := { maxStack := 3, maxLocals := 5, code := method_4_code, exceptionTable := #[], attributes := #[] }
def k1m3 : Method := { name := "start", desc := "([CIII)I", sig := { parameters := [(.array .char), .int, .int, .int], returnType := some .int }, accessFlags := 10, code := some k1c3 }
def k1c4 : Code := { maxStack := 5, maxLocals := 4, code := method_5_code, exceptionTable := #[], attributes := #[] }
def k1m4 : Method := { name := "raw", desc := "(ZI[C)[C", sig := { parameters := [.boolean, .int, (.array .char)], returnType := some (.array .char) }, accessFlags := 10, code := some k1c4 }
def k1 : Class := { plain cL (some 0) with
  accessFlags := 49
  interfaces := #[]
  cf := some (fileOf pool1 8 #[] #[{ accessFlags := 1, nameIndex := 5, descriptorIndex := 6, attributes := #[] }, { accessFlags := 9, nameIndex := 40, descriptorIndex := 41, attributes := #[] }, { accessFlags := 10, nameIndex := 11, descriptorIndex := 12, attributes := #[] }, { accessFlags := 10, nameIndex := 31, descriptorIndex := 32, attributes := #[] }, { accessFlags := 10, nameIndex := 21, descriptorIndex := 22, attributes := #[] }] 49 2 #[] #[])
  fields := #[]
  methods := #[k1m0, k1m1, k1m2, k1m3, k1m4]
  instanceTypes := #[]
  staticTypes := #[]
  resolved := Array.replicate 47 none
  statics := none }

def pool2 : Array CpInfo := pool [(1, .methodref 2 3), (0, .class_ 4), (0, .nameAndType 5 6), (0, u "java/lang/Object"), (0, u "<init>"), (0, u "()V"), (0, .fieldref 8 9), (0, .class_ 10), (0, .nameAndType 11 12), (0, u cX), (0, u "path"), (0, u "Ljava/lang/String;"), (0, .methodref 14 15), (0, .class_ 16), (0, .nameAndType 17 18), (0, u "java/lang/String"), (0, u "isEmpty"), (0, u "()Z"), (0, .methodref 14 20), (0, .nameAndType 21 22), (0, u "charAt"), (0, u "(I)C"), (0, .integer 65279), (0, .methodref 14 25), (0, .nameAndType 26 27), (0, u "substring"), (0, u "(I)Ljava/lang/String;"), (0, .fieldref 8 29), (0, .nameAndType 30 12), (0, u "text"), (0, .methodref 8 32), (0, .nameAndType 33 34), (0, u "lineStarts"), (0, u "(Ljava/lang/String;)[I"), (0, .fieldref 8 36), (0, .nameAndType 33 37), (0, u "[I"), (0, .class_ 39), (0, u "java/util/ArrayList"), (0, .methodref 38 3), (0, .methodref 42 43), (0, .class_ 44), (0, .nameAndType 45 46), (0, u "java/lang/Integer"), (0, u "valueOf"), (0, u "(I)Ljava/lang/Integer;"), (0, .interfaceMethodref 48 49), (0, .class_ 50), (0, .nameAndType 51 52), (0, u "java/util/List"), (0, u "add"), (0, u "(Ljava/lang/Object;)Z"), (0, .methodref 14 54), (0, .nameAndType 55 56), (0, u "length"), (0, u "()I"), (0, .methodref 8 58), (0, .nameAndType 59 60), (0, u "lineBreakLength"), (0, u "(Ljava/lang/CharSequence;I)I"), (0, .interfaceMethodref 48 62), (0, .nameAndType 63 56), (0, u "size"), (0, .interfaceMethodref 48 65), (0, .nameAndType 66 67), (0, u "get"), (0, u "(I)Ljava/lang/Object;"), (0, .methodref 42 69), (0, .nameAndType 70 56), (0, u "intValue"), (0, .interfaceMethodref 72 20), (0, .class_ 73), (0, u "java/lang/CharSequence"), (0, .interfaceMethodref 72 54), (2, u "line"), (0, u "(I)I"), (0, u "BYTE_ORDER_MARK"), (0, u "C"), (1, u "(Ljava/lang/String;Ljava/lang/String;)V")] 8

def k2c0 : Code := { maxStack := 3, maxLocals := 3, code := prog_195_method_1_code, exceptionTable := #[], attributes := #[] }
def k2m0 : Method := { name := "<init>", desc := "(Ljava/lang/String;Ljava/lang/String;)V", sig := { parameters := [(.object "java/lang/String"), (.object "java/lang/String")], returnType := none }, accessFlags := 1, code := some k2c0 }
def k2c1 : Code := { maxStack := 4, maxLocals := 5, code := prog_195_method_2_code, exceptionTable := #[], attributes := #[] }
def k2m1 : Method := { name := "lineStarts", desc := "(Ljava/lang/String;)[I", sig := { parameters := [(.object "java/lang/String")], returnType := some (.array .int) }, accessFlags := 10, code := some k2c1 }
def k2c2 : Code := { maxStack := 3, maxLocals := 4, code := prog_195_method_3_code, exceptionTable := #[], attributes := #[] }
def k2m2 : Method := { name := "lineBreakLength", desc := "(Ljava/lang/CharSequence;I)I", sig := { parameters := [(.object "java/lang/CharSequence"), .int], returnType := some .int }, accessFlags := 8, code := some k2c2 }
def k2c3 : Code := { maxStack := 2, maxLocals := 5, code := prog_195_method_6_code, exceptionTable := #[], attributes := #[] }
def k2m3 : Method := { name := "line", desc := "(I)I", sig := { parameters := [.int], returnType := some .int }, accessFlags := 1, code := some k2c3 }
def k2 : Class := { plain cX (some 0) with
  accessFlags := 49
  interfaces := #[]
  cf := some (fileOf pool2 8 #[] #[{ accessFlags := 1, nameIndex := 5, descriptorIndex := 82, attributes := #[] }, { accessFlags := 10, nameIndex := 33, descriptorIndex := 34, attributes := #[] }, { accessFlags := 8, nameIndex := 59, descriptorIndex := 60, attributes := #[] }, { accessFlags := 1, nameIndex := 77, descriptorIndex := 78, attributes := #[] }] 49 2 #[] #[{ accessFlags := 26, nameIndex := 79, descriptorIndex := 80, attributes := #[] }, { accessFlags := 18, nameIndex := 11, descriptorIndex := 12, attributes := #[] }, { accessFlags := 18, nameIndex := 30, descriptorIndex := 12, attributes := #[] }, { accessFlags := 18, nameIndex := 33, descriptorIndex := 37, attributes := #[] }])
  fields := #[{ name := "BYTE_ORDER_MARK", type := .char, accessFlags := 26, slot := 0, constantValue := 0 }, { name := "path", type := (.object "java/lang/String"), accessFlags := 18, slot := 0, constantValue := 0 }, { name := "text", type := (.object "java/lang/String"), accessFlags := 18, slot := 1, constantValue := 0 }, { name := "lineStarts", type := (.array .int), accessFlags := 18, slot := 2, constantValue := 0 }]
  methods := #[k2m0, k2m1, k2m2, k2m3]
  instanceTypes := #[(.object "java/lang/String"), (.object "java/lang/String"), (.array .int)]
  staticTypes := #[.char]
  resolved := Array.replicate 91 none
  statics := none }

def pool3 : Array CpInfo := pool [(1, .class_ 2), (0, u "java/io/Serializable"), (0, .class_ 4), (0, u "java/lang/Object")] 2

def k3 : Class := { plain "java/io/Serializable" (some 0) with
  accessFlags := 1537
  interfaces := #[]
  cf := some (fileOf pool3 1 #[] #[] 1537 3 #[] #[])
  fields := #[]
  methods := #[]
  instanceTypes := #[]
  staticTypes := #[]
  resolved := Array.replicate 7 none
  statics := none }

def pool4 : Array CpInfo := pool [(1, .class_ 2), (0, u "java/lang/Comparable"), (0, .class_ 4), (0, u "java/lang/Object")] 7

def k4 : Class := { plain "java/lang/Comparable" (some 0) with
  accessFlags := 1537
  interfaces := #[]
  cf := some (fileOf pool4 1 #[] #[] 1537 3 #[] #[])
  fields := #[]
  methods := #[]
  instanceTypes := #[]
  staticTypes := #[]
  resolved := Array.replicate 12 none
  statics := none }

def pool5 : Array CpInfo := pool [(2, .class_ 4), (1, u "java/lang/CharSequence"), (0, u "length"), (0, u "()I"), (38, u "charAt"), (0, u "(I)C"), (0, .class_ 48), (0, u "java/lang/CharSequence$1CodePointIterator"), (10, .class_ 60), (0, u "java/lang/CharSequence$1CharIterator"), (5, .class_ 67), (0, u "java/lang/Object")] 63

def k5m0 : Method := { name := "length", desc := "()I", sig := { parameters := [], returnType := some .int }, accessFlags := 1025, code := none }
def k5m1 : Method := { name := "charAt", desc := "(I)C", sig := { parameters := [.int], returnType := some .char }, accessFlags := 1025, code := none }
def k5 : Class := { plain "java/lang/CharSequence" (some 0) with
  accessFlags := 1537
  interfaces := #[]
  cf := some (fileOf pool5 2 #[.nestMembers #[47, 59]] #[{ accessFlags := 1025, nameIndex := 5, descriptorIndex := 6, attributes := #[] }, { accessFlags := 1025, nameIndex := 45, descriptorIndex := 46, attributes := #[] }] 1537 66 #[] #[])
  fields := #[]
  methods := #[k5m0, k5m1]
  instanceTypes := #[]
  staticTypes := #[]
  resolved := Array.replicate 131 none
  statics := none }

def pool6 : Array CpInfo := pool [(1, .class_ 2), (0, u "java/lang/constant/Constable"), (0, .class_ 4), (0, u "java/lang/Object")] 6

def k6 : Class := { plain "java/lang/constant/Constable" (some 0) with
  accessFlags := 1537
  interfaces := #[]
  cf := some (fileOf pool6 1 #[] #[] 1537 3 #[] #[])
  fields := #[]
  methods := #[]
  instanceTypes := #[]
  staticTypes := #[]
  resolved := Array.replicate 11 none
  statics := none }

def pool7 : Array CpInfo := pool [(1, .class_ 2), (0, u "java/lang/constant/ConstantDesc"), (0, .class_ 4), (0, u "java/lang/Object")] 32

def k7 : Class := { plain "java/lang/constant/ConstantDesc" (some 0) with
  accessFlags := 1537
  interfaces := #[]
  cf := some (fileOf pool7 1 #[] #[] 1537 3 #[] #[])
  fields := #[]
  methods := #[]
  instanceTypes := #[]
  staticTypes := #[]
  resolved := Array.replicate 37 none
  statics := none }

def pool8 : Array CpInfo := pool [(1, .methodref 2 3), (0, .class_ 4), (0, .nameAndType 5 6), (0, u "java/lang/Object"), (0, u "<init>"), (0, u "()V"), (0, .string 8), (0, u ""), (0, .fieldref 10 11), (0, .class_ 12), (0, .nameAndType 13 14), (0, u "java/lang/String"), (0, u "value"), (0, u "[B"), (0, .fieldref 10 16), (0, .nameAndType 17 18), (0, u "coder"), (0, u "B"), (2, u "hash"), (0, u "I"), (2, u "hashIsZero"), (0, u "Z"), (0, .methodref 10 28), (0, .nameAndType 5 29), (0, u "([CIILjava/lang/Void;)V"), (6, u "checkBoundsOffCount"), (0, u "(III)I"), (0, .fieldref 10 39), (0, .nameAndType 40 26), (0, u "COMPACT_STRINGS"), (1, .class_ 44), (1, u "java/lang/StringUTF16"), (0, u "compress"), (1, .methodref 42 48), (0, .nameAndType 49 50), (0, u "coderFromArrayLen"), (0, u "([BI)B"), (56, .class_ 109), (1, u "java/lang/StringLatin1"), (32, u "()Z"), (34, .methodref 42 178), (0, .nameAndType 45 179), (0, u "([CII)[B"), (31, u "([BB)V"), (122, u "()I"), (0, .methodref 10 336), (0, .nameAndType 17 337), (0, u "()B"), (25, u "([BI)C"), (27, u "(II)V"), (35, u "(I)C"), (64, .methodref 10 493), (0, .nameAndType 494 142), (0, u "isLatin1"), (0, .methodref 107 496), (0, .nameAndType 497 363), (0, u "charAt"), (0, .methodref 42 496), (2, u "checkIndex"), (3, .methodref 10 506), (0, .nameAndType 507 334), (0, u "length"), (5, u "checkFromToIndex"), (7, .methodref 10 522), (0, .nameAndType 523 524), (0, u "checkBoundsBeginEnd"), (0, u "(III)V"), (50, .class_ 576), (0, u "java/lang/CharSequence"), (22, u "CASE_INSENSITIVE_ORDER"), (0, u "Ljava/util/Comparator;"), (80, .methodref 10 682), (0, .nameAndType 683 684), (0, u "substring"), (0, u "(II)Ljava/lang/String;"), (1, .nameAndType 687 688), (0, u "newString"), (0, u "([BII)Ljava/lang/String;"), (0, .methodref 42 686), (2, u "isEmpty"), (199, u "(I)Ljava/lang/String;"), (117, u "([C)V"), (42, .fieldref 1054 1055), (0, .class_ 1056), (0, .nameAndType 1057 1058), (0, u "jdk/internal/util/Preconditions"), (0, u "SIOOBE_FORMATTER"), (0, u "Ljava/util/function/BiFunction;"), (0, .methodref 1054 1060), (0, .nameAndType 501 1061), (0, u "(IILjava/util/function/BiFunction;)I"), (0, .methodref 1054 1063), (0, .nameAndType 513 1064), (0, u "(IIILjava/util/function/BiFunction;)I"), (0, .methodref 1054 1066), (0, .nameAndType 1067 1064), (0, u "checkFromIndexSize"), (33, u "serialPersistentFields"), (0, u "[Ljava/io/ObjectStreamField;"), (0, .class_ 1104), (0, u "java/lang/String$CaseInsensitiveComparator"), (1, .class_ 1107), (0, u "java/io/Serializable"), (0, .class_ 1109), (0, u "java/lang/Comparable"), (0, .class_ 1111), (0, u "java/lang/constant/Constable"), (0, .class_ 1113), (0, u "java/lang/constant/ConstantDesc"), (2, u "serialVersionUID"), (0, u "J"), (3, u "REPL"), (0, u "C"), (2, u "LATIN1"), (1, u "UTF16")] 323

def k8m0 : Method := { name := "<init>", desc := "()V", sig := { parameters := [], returnType := none }, accessFlags := 1, code := none }
def k8c1 : Code := { maxStack := 5, maxLocals := 2, code := jdk_42_method_3_code, exceptionTable := #[], attributes := #[] }
def k8m1 : Method := { name := "<init>", desc := "([C)V", sig := { parameters := [(.array .char)], returnType := none }, accessFlags := 1, code := some k8c1 }
def k8c2 : Code := { maxStack := 2, maxLocals := 1, code := jdk_42_method_54_code, exceptionTable := #[], attributes := #[] }
def k8m2 : Method := { name := "length", desc := "()I", sig := { parameters := [], returnType := some .int }, accessFlags := 1, code := some k8c2 }
def k8c3 : Code := { maxStack := 1, maxLocals := 1, code := jdk_42_method_55_code, exceptionTable := #[], attributes := #[] }
def k8m3 : Method := { name := "isEmpty", desc := "()Z", sig := { parameters := [], returnType := some .boolean }, accessFlags := 1, code := some k8c3 }
def k8c4 : Code := { maxStack := 2, maxLocals := 2, code := jdk_42_method_56_code, exceptionTable := #[], attributes := #[] }
def k8m4 : Method := { name := "charAt", desc := "(I)C", sig := { parameters := [.int], returnType := some .char }, accessFlags := 1, code := some k8c4 }
def k8c5 : Code := { maxStack := 3, maxLocals := 2, code := jdk_42_method_91_code, exceptionTable := #[], attributes := #[] }
def k8m5 : Method := { name := "substring", desc := "(I)Ljava/lang/String;", sig := { parameters := [.int], returnType := some (.object "java/lang/String") }, accessFlags := 1, code := some k8c5 }
def k8c6 : Code := { maxStack := 3, maxLocals := 5, code := jdk_42_method_92_code, exceptionTable := #[], attributes := #[] }
def k8m6 : Method := { name := "substring", desc := "(II)Ljava/lang/String;", sig := { parameters := [.int, .int], returnType := some (.object "java/lang/String") }, accessFlags := 1, code := some k8c6 }
def k8c7 : Code := { maxStack := 4, maxLocals := 6, code := jdk_42_method_149_code, exceptionTable := #[], attributes := #[] }
def k8m7 : Method := { name := "<init>", desc := "([CIILjava/lang/Void;)V", sig := { parameters := [(.array .char), .int, .int, (.object "java/lang/Void")], returnType := none }, accessFlags := 2, code := some k8c7 }
def k8c8 : Code := { maxStack := 2, maxLocals := 3, code := jdk_42_method_151_code, exceptionTable := #[], attributes := #[] }
def k8m8 : Method := { name := "<init>", desc := "([BB)V", sig := { parameters := [(.array .byte), .byte], returnType := none }, accessFlags := 0, code := some k8c8 }
def k8c9 : Code := { maxStack := 1, maxLocals := 1, code := jdk_42_method_152_code, exceptionTable := #[], attributes := #[] }
def k8m9 : Method := { name := "coder", desc := "()B", sig := { parameters := [], returnType := some .byte }, accessFlags := 0, code := some k8c9 }
def k8c10 : Code := { maxStack := 1, maxLocals := 1, code := jdk_42_method_154_code, exceptionTable := #[], attributes := #[] }
def k8m10 : Method := { name := "isLatin1", desc := "()Z", sig := { parameters := [], returnType := some .boolean }, accessFlags := 0, code := some k8c10 }
def k8c11 : Code := { maxStack := 3, maxLocals := 2, code := jdk_42_method_155_code, exceptionTable := #[], attributes := #[] }
def k8m11 : Method := { name := "checkIndex", desc := "(II)V", sig := { parameters := [.int, .int], returnType := none }, accessFlags := 8, code := some k8c11 }
def k8c12 : Code := { maxStack := 4, maxLocals := 3, code := jdk_42_method_157_code, exceptionTable := #[], attributes := #[] }
def k8m12 : Method := { name := "checkBoundsOffCount", desc := "(III)I", sig := { parameters := [.int, .int, .int], returnType := some .int }, accessFlags := 8, code := some k8c12 }
def k8c13 : Code := { maxStack := 4, maxLocals := 3, code := jdk_42_method_158_code, exceptionTable := #[], attributes := #[] }
def k8m13 : Method := { name := "checkBoundsBeginEnd", desc := "(III)V", sig := { parameters := [.int, .int, .int], returnType := none }, accessFlags := 8, code := some k8c13 }
def k8 : Class := { plain "java/lang/String" (some 0) with
  accessFlags := 49
  interfaces := #[3, 4, 5, 6, 7]
  cf := some (fileOf pool8 10 #[.nestMembers #[1103]] #[{ accessFlags := 1, nameIndex := 5, descriptorIndex := 6, attributes := #[] }, { accessFlags := 1, nameIndex := 5, descriptorIndex := 1010, attributes := #[] }, { accessFlags := 1, nameIndex := 507, descriptorIndex := 334, attributes := #[] }, { accessFlags := 1, nameIndex := 692, descriptorIndex := 142, attributes := #[] }, { accessFlags := 1, nameIndex := 497, descriptorIndex := 427, attributes := #[] }, { accessFlags := 1, nameIndex := 683, descriptorIndex := 892, attributes := #[] }, { accessFlags := 1, nameIndex := 683, descriptorIndex := 684, attributes := #[] }, { accessFlags := 2, nameIndex := 5, descriptorIndex := 29, attributes := #[] }, { accessFlags := 0, nameIndex := 5, descriptorIndex := 211, attributes := #[] }, { accessFlags := 0, nameIndex := 17, descriptorIndex := 337, attributes := #[] }, { accessFlags := 0, nameIndex := 494, descriptorIndex := 142, attributes := #[] }, { accessFlags := 8, nameIndex := 501, descriptorIndex := 391, attributes := #[] }, { accessFlags := 8, nameIndex := 36, descriptorIndex := 37, attributes := #[] }, { accessFlags := 8, nameIndex := 523, descriptorIndex := 524, attributes := #[] }] 49 2 #[1106, 1108, 575, 1110, 1112] #[{ accessFlags := 18, nameIndex := 13, descriptorIndex := 14, attributes := #[] }, { accessFlags := 18, nameIndex := 17, descriptorIndex := 18, attributes := #[] }, { accessFlags := 2, nameIndex := 21, descriptorIndex := 22, attributes := #[] }, { accessFlags := 2, nameIndex := 25, descriptorIndex := 26, attributes := #[] }, { accessFlags := 26, nameIndex := 1116, descriptorIndex := 1117, attributes := #[] }, { accessFlags := 24, nameIndex := 40, descriptorIndex := 26, attributes := #[] }, { accessFlags := 26, nameIndex := 1101, descriptorIndex := 1102, attributes := #[] }, { accessFlags := 26, nameIndex := 1121, descriptorIndex := 1122, attributes := #[] }, { accessFlags := 25, nameIndex := 599, descriptorIndex := 600, attributes := #[] }, { accessFlags := 24, nameIndex := 1125, descriptorIndex := 18, attributes := #[] }, { accessFlags := 24, nameIndex := 1127, descriptorIndex := 18, attributes := #[] }])
  fields := #[{ name := "value", type := (.array .byte), accessFlags := 18, slot := 0, constantValue := 0 }, { name := "coder", type := .byte, accessFlags := 18, slot := 1, constantValue := 0 }, { name := "hash", type := .int, accessFlags := 2, slot := 2, constantValue := 0 }, { name := "hashIsZero", type := .boolean, accessFlags := 2, slot := 3, constantValue := 0 }, { name := "serialVersionUID", type := .long, accessFlags := 26, slot := 0, constantValue := 0 }, { name := "COMPACT_STRINGS", type := .boolean, accessFlags := 24, slot := 1, constantValue := 0 }, { name := "serialPersistentFields", type := (.array (.object "java/io/ObjectStreamField")), accessFlags := 26, slot := 2, constantValue := 0 }, { name := "REPL", type := .char, accessFlags := 26, slot := 3, constantValue := 0 }, { name := "CASE_INSENSITIVE_ORDER", type := (.object "java/util/Comparator"), accessFlags := 25, slot := 4, constantValue := 0 }, { name := "LATIN1", type := .byte, accessFlags := 24, slot := 5, constantValue := 0 }, { name := "UTF16", type := .byte, accessFlags := 24, slot := 6, constantValue := 0 }]
  methods := #[k8m0, k8m1, k8m2, k8m3, k8m4, k8m5, k8m6, k8m7, k8m8, k8m9, k8m10, k8m11, k8m12, k8m13]
  instanceTypes := #[(.array .byte), .byte, .int, .boolean]
  staticTypes := #[.long, .boolean, (.array (.object "java/io/ObjectStreamField")), .char, (.object "java/util/Comparator"), .byte, .byte]
  resolved := Array.replicate 1451 none
  statics := some 0 }

def pool9 : Array CpInfo := pool [(3, .class_ 4), (0, u "java/lang/String"), (1, .class_ 8), (1, u "java/lang/Object"), (0, u "<init>"), (0, u "()V"), (0, .methodref 12 13), (0, .class_ 14), (0, .nameAndType 15 16), (0, u "java/lang/StringUTF16"), (0, u "newBytesLength"), (0, u "(I)I"), (3, .integer 1073741823), (23, .fieldref 12 45), (0, .nameAndType 46 47), (0, u "$assertionsDisabled"), (0, u "Z"), (0, .methodref 12 49), (0, .nameAndType 50 51), (0, u "length"), (0, u "([B)I"), (7, .fieldref 12 60), (0, .nameAndType 61 62), (0, u "HI_BYTE_SHIFT"), (0, u "I"), (0, .fieldref 12 64), (0, .nameAndType 65 62), (0, u "LO_BYTE_SHIFT"), (1, .methodref 12 68), (0, .nameAndType 69 70), (0, u "checkIndex"), (0, u "(I[B)V"), (0, .methodref 12 72), (0, .nameAndType 73 74), (0, u "getChar"), (0, u "([BI)C"), (24, u "(II[B)V"), (7, .methodref 12 108), (0, .nameAndType 109 110), (0, u "newBytesFor"), (0, u "(I)[B"), (0, .methodref 12 112), (0, .nameAndType 113 114), (0, u "putChar"), (0, u "([BII)V"), (0, .methodref 12 116), (0, .nameAndType 117 118), (0, u "compress"), (0, u "([CI[BII)I"), (0, .methodref 12 120), (0, .nameAndType 121 122), (0, u "toBytes"), (0, u "([CII)[B"), (0, .methodref 12 124), (0, .nameAndType 117 125), (0, u "([BI[BII)I"), (5, u "([BII)[B"), (41, .methodref 12 174), (0, .nameAndType 175 99), (0, u "checkBoundsOffCount"), (75, .fieldref 3 252), (0, .nameAndType 253 47), (0, u "COMPACT_STRINGS"), (3, .methodref 12 258), (0, .nameAndType 117 131), (0, .methodref 12 260), (0, .nameAndType 261 262), (0, u "coderFromArrayLen"), (0, u "([BI)B"), (0, .methodref 3 264), (0, .nameAndType 9 265), (0, u "([BB)V"), (15, u "(III)I"), (13, .string 296), (0, u ""), (30, u "newString"), (0, u "([BII)Ljava/lang/String;"), (40, .class_ 371), (1, u "java/lang/StringUTF16$LinesSpliterator"), (20, u "charAt"), (21, .methodref 3 415), (0, .nameAndType 69 416), (0, u "(II)V"), (2, .methodref 3 420), (0, .nameAndType 175 281), (9, u "MAX_LENGTH"), (196, .class_ 628), (0, u "java/lang/StringUTF16$CodePointsSpliterator"), (0, .class_ 630), (0, u "java/lang/StringUTF16$CharsSpliterator")] 4

def k9m0 : Method := { name := "<init>", desc := "()V", sig := { parameters := [], returnType := none }, accessFlags := 0, code := none }
def k9c1 : Code := { maxStack := 1, maxLocals := 1, code := jdk_52_method_2_code, exceptionTable := #[], attributes := #[] }
def k9m1 : Method := { name := "newBytesFor", desc := "(I)[B", sig := { parameters := [.int], returnType := some (.array .byte) }, accessFlags := 9, code := some k9c1 }
def k9c2 : Code := { maxStack := 4, maxLocals := 1, code := jdk_52_method_3_code, exceptionTable := #[], attributes := #[] }
def k9m2 : Method := { name := "newBytesLength", desc := "(I)I", sig := { parameters := [.int], returnType := some .int }, accessFlags := 9, code := some k9c2 }
def k9c3 : Code := { maxStack := 4, maxLocals := 3, code := jdk_52_method_4_code, exceptionTable := #[], attributes := #[] }
def k9m3 : Method := { name := "putChar", desc := "([BII)V", sig := { parameters := [(.array .byte), .int, .int], returnType := none }, accessFlags := 8, code := some k9c3 }
def k9c4 : Code := { maxStack := 3, maxLocals := 2, code := jdk_52_method_5_code, exceptionTable := #[], attributes := #[] }
def k9m4 : Method := { name := "getChar", desc := "([BI)C", sig := { parameters := [(.array .byte), .int], returnType := some .char }, accessFlags := 8, code := some k9c4 }
def k9c5 : Code := { maxStack := 2, maxLocals := 1, code := jdk_52_method_6_code, exceptionTable := #[], attributes := #[] }
def k9m5 : Method := { name := "length", desc := "([B)I", sig := { parameters := [(.array .byte)], returnType := some .int }, accessFlags := 9, code := some k9c5 }
def k9c6 : Code := { maxStack := 4, maxLocals := 5, code := jdk_52_method_14_code, exceptionTable := #[], attributes := #[] }
def k9m6 : Method := { name := "toBytes", desc := "([CII)[B", sig := { parameters := [(.array .char), .int, .int], returnType := some (.array .byte) }, accessFlags := 9, code := some k9c6 }
def k9c7 : Code := { maxStack := 2, maxLocals := 2, code := jdk_52_method_15_code, exceptionTable := #[], attributes := #[] }
def k9m7 : Method := { name := "coderFromArrayLen", desc := "([BI)B", sig := { parameters := [(.array .byte), .int], returnType := some .byte }, accessFlags := 8, code := some k9c7 }
def k9c8 : Code := { maxStack := 5, maxLocals := 6, code := jdk_52_method_16_code, exceptionTable := #[], attributes := #[] }
def k9m8 : Method := { name := "compress", desc := "([CII)[B", sig := { parameters := [(.array .char), .int, .int], returnType := some (.array .byte) }, accessFlags := 9, code := some k9c8 }
def k9c9 : Code := { maxStack := 5, maxLocals := 6, code := jdk_52_method_17_code, exceptionTable := #[], attributes := #[] }
def k9m9 : Method := { name := "compress", desc := "([BII)[B", sig := { parameters := [(.array .byte), .int, .int], returnType := some (.array .byte) }, accessFlags := 9, code := some k9c9 }
def k9c10 : Code := { maxStack := 3, maxLocals := 7, code := jdk_52_method_21_code, exceptionTable := #[], attributes := #[] }
def k9m10 : Method := { name := "compress", desc := "([CI[BII)I", sig := { parameters := [(.array .char), .int, (.array .byte), .int, .int], returnType := some .int }, accessFlags := 9, code := some k9c10 }
def k9c11 : Code := { maxStack := 3, maxLocals := 7, code := jdk_52_method_22_code, exceptionTable := #[], attributes := #[] }
def k9m11 : Method := { name := "compress", desc := "([BI[BII)I", sig := { parameters := [(.array .byte), .int, (.array .byte), .int, .int], returnType := some .int }, accessFlags := 9, code := some k9c11 }
def k9c12 : Code := { maxStack := 6, maxLocals := 5, code := jdk_52_method_69_code, exceptionTable := #[], attributes := #[] }
def k9m12 : Method := { name := "newString", desc := "([BII)Ljava/lang/String;", sig := { parameters := [(.array .byte), .int, .int], returnType := some (.object "java/lang/String") }, accessFlags := 9, code := some k9c12 }
def k9c13 : Code := { maxStack := 2, maxLocals := 2, code := jdk_52_method_83_code, exceptionTable := #[], attributes := #[] }
def k9m13 : Method := { name := "charAt", desc := "([BI)C", sig := { parameters := [(.array .byte), .int], returnType := some .char }, accessFlags := 9, code := some k9c13 }
def k9c14 : Code := { maxStack := 2, maxLocals := 2, code := jdk_52_method_91_code, exceptionTable := #[], attributes := #[] }
def k9m14 : Method := { name := "checkIndex", desc := "(I[B)V", sig := { parameters := [.int, (.array .byte)], returnType := none }, accessFlags := 9, code := some k9c14 }
def k9c15 : Code := { maxStack := 3, maxLocals := 3, code := jdk_52_method_94_code, exceptionTable := #[], attributes := #[] }
def k9m15 : Method := { name := "checkBoundsOffCount", desc := "(II[B)V", sig := { parameters := [.int, .int, (.array .byte)], returnType := none }, accessFlags := 9, code := some k9c15 }
def k9 : Class := { plain "java/lang/StringUTF16" (some 0) with
  accessFlags := 48
  interfaces := #[]
  cf := some (fileOf pool9 12 #[.nestMembers #[627, 629, 369]] #[{ accessFlags := 0, nameIndex := 9, descriptorIndex := 10, attributes := #[] }, { accessFlags := 9, nameIndex := 109, descriptorIndex := 110, attributes := #[] }, { accessFlags := 9, nameIndex := 15, descriptorIndex := 16, attributes := #[] }, { accessFlags := 8, nameIndex := 113, descriptorIndex := 114, attributes := #[] }, { accessFlags := 8, nameIndex := 73, descriptorIndex := 74, attributes := #[] }, { accessFlags := 9, nameIndex := 50, descriptorIndex := 51, attributes := #[] }, { accessFlags := 9, nameIndex := 121, descriptorIndex := 122, attributes := #[] }, { accessFlags := 8, nameIndex := 261, descriptorIndex := 262, attributes := #[] }, { accessFlags := 9, nameIndex := 117, descriptorIndex := 122, attributes := #[] }, { accessFlags := 9, nameIndex := 117, descriptorIndex := 131, attributes := #[] }, { accessFlags := 9, nameIndex := 117, descriptorIndex := 118, attributes := #[] }, { accessFlags := 9, nameIndex := 117, descriptorIndex := 125, attributes := #[] }, { accessFlags := 9, nameIndex := 327, descriptorIndex := 328, attributes := #[] }, { accessFlags := 9, nameIndex := 392, descriptorIndex := 74, attributes := #[] }, { accessFlags := 9, nameIndex := 69, descriptorIndex := 70, attributes := #[] }, { accessFlags := 9, nameIndex := 175, descriptorIndex := 99, attributes := #[] }] 48 6 #[] #[{ accessFlags := 26, nameIndex := 61, descriptorIndex := 62, attributes := #[] }, { accessFlags := 26, nameIndex := 65, descriptorIndex := 62, attributes := #[] }, { accessFlags := 24, nameIndex := 430, descriptorIndex := 62, attributes := #[] }, { accessFlags := 4120, nameIndex := 46, descriptorIndex := 47, attributes := #[] }])
  fields := #[{ name := "HI_BYTE_SHIFT", type := .int, accessFlags := 26, slot := 0, constantValue := 0 }, { name := "LO_BYTE_SHIFT", type := .int, accessFlags := 26, slot := 1, constantValue := 0 }, { name := "MAX_LENGTH", type := .int, accessFlags := 24, slot := 2, constantValue := 0 }, { name := "$assertionsDisabled", type := .boolean, accessFlags := 4120, slot := 3, constantValue := 0 }]
  methods := #[k9m0, k9m1, k9m2, k9m3, k9m4, k9m5, k9m6, k9m7, k9m8, k9m9, k9m10, k9m11, k9m12, k9m13, k9m14, k9m15]
  instanceTypes := #[]
  staticTypes := #[.int, .int, .int, .boolean]
  resolved := Array.replicate 635 none
  statics := some 1 }

def pool10 : Array CpInfo := pool [(1, .class_ 2), (0, u "java/lang/String"), (1, .class_ 6), (1, u "java/lang/Object"), (0, u "<init>"), (0, u "()V"), (0, .methodref 1 10), (0, .nameAndType 11 12), (0, u "checkIndex"), (0, u "(II)V"), (1, .class_ 16), (1, u "java/lang/StringLatin1"), (36, u "([BI)C"), (67, u "$assertionsDisabled"), (0, u "Z"), (98, .class_ 223), (1, u "java/lang/StringLatin1$LinesSpliterator"), (28, u "charAt"), (137, .class_ 391), (0, u "java/lang/StringLatin1$CharsSpliterator")] 3

def k10m0 : Method := { name := "<init>", desc := "()V", sig := { parameters := [], returnType := none }, accessFlags := 0, code := none }
def k10c1 : Code := { maxStack := 2, maxLocals := 2, code := jdk_43_method_2_code, exceptionTable := #[], attributes := #[] }
def k10m1 : Method := { name := "charAt", desc := "([BI)C", sig := { parameters := [(.array .byte), .int], returnType := some .char }, accessFlags := 9, code := some k10c1 }
def k10 : Class := { plain "java/lang/StringLatin1" (some 0) with
  accessFlags := 48
  interfaces := #[]
  cf := some (fileOf pool10 14 #[.nestMembers #[390, 221]] #[{ accessFlags := 0, nameIndex := 7, descriptorIndex := 8, attributes := #[] }, { accessFlags := 9, nameIndex := 252, descriptorIndex := 53, attributes := #[] }] 48 4 #[] #[{ accessFlags := 4120, nameIndex := 121, descriptorIndex := 122, attributes := #[] }])
  fields := #[{ name := "$assertionsDisabled", type := .boolean, accessFlags := 4120, slot := 0, constantValue := 0 }]
  methods := #[k10m0, k10m1]
  instanceTypes := #[]
  staticTypes := #[.boolean]
  resolved := Array.replicate 395 none
  statics := none }

def pool11 : Array CpInfo := pool [(2, .class_ 4), (1, u "java/lang/Object"), (0, u "<init>"), (0, u "()V"), (17, .class_ 26), (1, u "jdk/internal/util/Preconditions"), (6, u "checkIndex"), (13, u "checkFromToIndex"), (1, u "checkFromIndexSize"), (5, .class_ 56), (0, u "jdk/internal/util/Preconditions$4"), (57, .class_ 115), (0, u "jdk/internal/util/Preconditions$1"), (7, u "SIOOBE_FORMATTER"), (0, u "Ljava/util/function/BiFunction;"), (0, .class_ 126), (0, u "jdk/internal/util/Preconditions$2"), (3, u "AIOOBE_FORMATTER"), (0, .class_ 132), (0, u "jdk/internal/util/Preconditions$3"), (3, u "IOOBE_FORMATTER"), (41, u "(IILjava/util/function/BiFunction;)I"), (4, u "(IIILjava/util/function/BiFunction;)I")] 10

def k11m0 : Method := { name := "<init>", desc := "()V", sig := { parameters := [], returnType := none }, accessFlags := 1, code := none }
def k11c1 : Code := { maxStack := 3, maxLocals := 3, code := jdk_41_method_11_code, exceptionTable := #[], attributes := #[] }
def k11m1 : Method := { name := "checkIndex", desc := "(IILjava/util/function/BiFunction;)I", sig := { parameters := [.int, .int, (.object "java/util/function/BiFunction")], returnType := some .int }, accessFlags := 9, code := some k11c1 }
def k11c2 : Code := { maxStack := 4, maxLocals := 4, code := jdk_41_method_12_code, exceptionTable := #[], attributes := #[] }
def k11m2 : Method := { name := "checkFromToIndex", desc := "(IIILjava/util/function/BiFunction;)I", sig := { parameters := [.int, .int, .int, (.object "java/util/function/BiFunction")], returnType := some .int }, accessFlags := 9, code := some k11c2 }
def k11c3 : Code := { maxStack := 4, maxLocals := 4, code := jdk_41_method_13_code, exceptionTable := #[], attributes := #[] }
def k11m3 : Method := { name := "checkFromIndexSize", desc := "(IIILjava/util/function/BiFunction;)I", sig := { parameters := [.int, .int, .int, (.object "java/util/function/BiFunction")], returnType := some .int }, accessFlags := 9, code := some k11c3 }
def k11 : Class := { plain "jdk/internal/util/Preconditions" (some 0) with
  accessFlags := 33
  interfaces := #[]
  cf := some (fileOf pool11 24 #[.nestMembers #[55, 131, 125, 114]] #[{ accessFlags := 1, nameIndex := 5, descriptorIndex := 6, attributes := #[] }, { accessFlags := 9, nameIndex := 33, descriptorIndex := 178, attributes := #[] }, { accessFlags := 9, nameIndex := 47, descriptorIndex := 183, attributes := #[] }, { accessFlags := 9, nameIndex := 49, descriptorIndex := 183, attributes := #[] }] 33 2 #[] #[{ accessFlags := 25, nameIndex := 123, descriptorIndex := 124, attributes := #[] }, { accessFlags := 25, nameIndex := 130, descriptorIndex := 124, attributes := #[] }, { accessFlags := 25, nameIndex := 136, descriptorIndex := 124, attributes := #[] }])
  fields := #[{ name := "SIOOBE_FORMATTER", type := (.object "java/util/function/BiFunction"), accessFlags := 25, slot := 0, constantValue := 0 }, { name := "AIOOBE_FORMATTER", type := (.object "java/util/function/BiFunction"), accessFlags := 25, slot := 1, constantValue := 0 }, { name := "IOOBE_FORMATTER", type := (.object "java/util/function/BiFunction"), accessFlags := 25, slot := 2, constantValue := 0 }]
  methods := #[k11m0, k11m1, k11m2, k11m3]
  instanceTypes := #[]
  staticTypes := #[(.object "java/util/function/BiFunction"), (.object "java/util/function/BiFunction"), (.object "java/util/function/BiFunction")]
  resolved := Array.replicate 194 none
  statics := some 2 }

def pool12 : Array CpInfo := pool [(8, .class_ 10), (1, u "java/lang/Iterable"), (24, .class_ 36), (0, u "java/lang/Object")] 25

def k12 : Class := { plain "java/lang/Iterable" (some 0) with
  accessFlags := 1537
  interfaces := #[]
  cf := some (fileOf pool12 8 #[] #[] 1537 35 #[] #[])
  fields := #[]
  methods := #[]
  instanceTypes := #[]
  staticTypes := #[]
  resolved := Array.replicate 62 none
  statics := none }

def pool13 : Array CpInfo := pool [(10, .class_ 12), (1, u "java/util/Collection"), (47, .class_ 61), (0, u "java/lang/Object"), (0, .class_ 63), (0, u "java/lang/Iterable")] 51

def k13 : Class := { plain "java/util/Collection" (some 0) with
  accessFlags := 1537
  interfaces := #[12]
  cf := some (fileOf pool13 10 #[] #[] 1537 60 #[62] #[])
  fields := #[]
  methods := #[]
  instanceTypes := #[]
  staticTypes := #[]
  resolved := Array.replicate 115 none
  statics := none }

def pool14 : Array CpInfo := pool [(1, .methodref 2 3), (0, .class_ 4), (0, .nameAndType 5 6), (0, u "java/lang/Object"), (0, u "<init>"), (0, u "()V"), (1, .class_ 10), (1, u "java/util/AbstractCollection"), (66, .class_ 78), (0, u "java/util/Collection")] 81

def k14c0 : Code := { maxStack := 1, maxLocals := 1, code := jdk_22_method_1_code, exceptionTable := #[], attributes := #[] }
def k14m0 : Method := { name := "<init>", desc := "()V", sig := { parameters := [], returnType := none }, accessFlags := 4, code := some k14c0 }
def k14 : Class := { plain "java/util/AbstractCollection" (some 0) with
  accessFlags := 1057
  interfaces := #[13]
  cf := some (fileOf pool14 8 #[] #[{ accessFlags := 4, nameIndex := 5, descriptorIndex := 6, attributes := #[] }] 1057 2 #[77] #[])
  fields := #[]
  methods := #[k14m0]
  instanceTypes := #[]
  staticTypes := #[]
  resolved := Array.replicate 160 none
  statics := none }

def pool15 : Array CpInfo := pool [(8, .class_ 10), (1, u "java/util/SequencedCollection"), (15, .class_ 27), (0, u "java/lang/Object"), (0, .class_ 29), (0, u "java/util/Collection")] 27

def k15 : Class := { plain "java/util/SequencedCollection" (some 0) with
  accessFlags := 1537
  interfaces := #[13]
  cf := some (fileOf pool15 8 #[] #[] 1537 26 #[28] #[])
  fields := #[]
  methods := #[]
  instanceTypes := #[]
  staticTypes := #[]
  resolved := Array.replicate 57 none
  statics := none }

def pool16 : Array CpInfo := pool [(8, .class_ 10), (1, u "java/util/List"), (49, u "add"), (3, u "(Ljava/lang/Object;)Z"), (10, u "get"), (0, u "(I)Ljava/lang/Object;"), (2, u "size"), (0, u "()I"), (22, .class_ 104), (0, u "java/lang/Object"), (15, .class_ 121), (0, u "java/util/SequencedCollection")] 129

def k16m0 : Method := { name := "size", desc := "()I", sig := { parameters := [], returnType := some .int }, accessFlags := 1025, code := none }
def k16m1 : Method := { name := "add", desc := "(Ljava/lang/Object;)Z", sig := { parameters := [(.object "java/lang/Object")], returnType := some .boolean }, accessFlags := 1025, code := none }
def k16m2 : Method := { name := "get", desc := "(I)Ljava/lang/Object;", sig := { parameters := [.int], returnType := some (.object "java/lang/Object") }, accessFlags := 1025, code := none }
def k16 : Class := { plain "java/util/List" (some 0) with
  accessFlags := 1537
  interfaces := #[15]
  cf := some (fileOf pool16 8 #[] #[{ accessFlags := 1025, nameIndex := 79, descriptorIndex := 80, attributes := #[] }, { accessFlags := 1025, nameIndex := 60, descriptorIndex := 64, attributes := #[] }, { accessFlags := 1025, nameIndex := 75, descriptorIndex := 76, attributes := #[] }] 1537 103 #[120] #[])
  fields := #[]
  methods := #[k16m0, k16m1, k16m2]
  instanceTypes := #[]
  staticTypes := #[]
  resolved := Array.replicate 251 none
  statics := none }

def pool17 : Array CpInfo := pool [(1, .methodref 2 3), (0, .class_ 4), (0, .nameAndType 5 6), (0, u "java/util/AbstractCollection"), (0, u "<init>"), (0, u "()V"), (0, .fieldref 8 9), (0, .class_ 10), (0, .nameAndType 11 12), (0, u "java/util/AbstractList"), (0, u "modCount"), (0, u "I"), (64, .class_ 78), (0, u "java/util/AbstractList$Itr"), (3, .class_ 83), (0, u "java/util/AbstractList$ListItr"), (9, .class_ 94), (0, u "java/util/AbstractList$RandomAccessSubList"), (3, .class_ 99), (0, u "java/util/AbstractList$SubList"), (33, .class_ 134), (0, u "java/util/List"), (73, .class_ 209), (0, u "java/util/AbstractList$SubList$1"), (0, .class_ 211), (0, u "java/util/AbstractList$RandomAccessSpliterator")] 6

def k17c0 : Code := { maxStack := 2, maxLocals := 1, code := jdk_39_method_1_code, exceptionTable := #[], attributes := #[] }
def k17m0 : Method := { name := "<init>", desc := "()V", sig := { parameters := [], returnType := none }, accessFlags := 4, code := some k17c0 }
def k17 : Class := { plain "java/util/AbstractList" (some 14) with
  accessFlags := 1057
  interfaces := #[16]
  cf := some (fileOf pool17 8 #[.nestMembers #[93, 98, 208, 210, 82, 77]] #[{ accessFlags := 4, nameIndex := 5, descriptorIndex := 6, attributes := #[] }] 1057 2 #[133] #[{ accessFlags := 132, nameIndex := 11, descriptorIndex := 12, attributes := #[] }])
  fields := #[{ name := "modCount", type := .int, accessFlags := 132, slot := 0, constantValue := 0 }]
  methods := #[k17m0]
  instanceTypes := #[.int]
  staticTypes := #[]
  resolved := Array.replicate 218 none
  statics := none }

def pool18 : Array CpInfo := pool [(1, .class_ 2), (0, u "java/util/RandomAccess"), (0, .class_ 4), (0, u "java/lang/Object")] 2

def k18 : Class := { plain "java/util/RandomAccess" (some 0) with
  accessFlags := 1537
  interfaces := #[]
  cf := some (fileOf pool18 1 #[] #[] 1537 3 #[] #[])
  fields := #[]
  methods := #[]
  instanceTypes := #[]
  staticTypes := #[]
  resolved := Array.replicate 7 none
  statics := none }

def pool19 : Array CpInfo := pool [(1, .class_ 2), (0, u "java/lang/Cloneable"), (0, .class_ 4), (0, u "java/lang/Object")] 2

def k19 : Class := { plain "java/lang/Cloneable" (some 0) with
  accessFlags := 1537
  interfaces := #[]
  cf := some (fileOf pool19 1 #[] #[] 1537 3 #[] #[])
  fields := #[]
  methods := #[]
  instanceTypes := #[]
  staticTypes := #[]
  resolved := Array.replicate 7 none
  statics := none }

def pool20 : Array CpInfo := pool [(1, .methodref 2 3), (0, .class_ 4), (0, .nameAndType 5 6), (0, u "java/util/AbstractList"), (0, u "<init>"), (0, u "()V"), (0, .class_ 8), (0, u "java/lang/Object"), (0, .fieldref 10 11), (0, .class_ 12), (0, .nameAndType 13 14), (0, u "java/util/ArrayList"), (0, u "elementData"), (0, u "[Ljava/lang/Object;"), (2, u "EMPTY_ELEMENTDATA"), (21, .fieldref 10 40), (0, .nameAndType 41 14), (0, u "DEFAULTCAPACITY_EMPTY_ELEMENTDATA"), (5, u "()[Ljava/lang/Object;"), (0, .fieldref 10 49), (0, .nameAndType 50 51), (0, u "size"), (0, u "I"), (11, .fieldref 10 64), (0, .nameAndType 65 51), (0, u "modCount"), (3, .methodref 10 70), (0, .nameAndType 71 72), (0, u "grow"), (0, u "(I)[Ljava/lang/Object;"), (6, .methodref 80 81), (0, .class_ 82), (0, .nameAndType 83 84), (0, u "java/lang/Math"), (0, u "max"), (0, u "(II)I"), (11, u "(Ljava/lang/Object;)Z"), (21, .methodref 119 120), (0, .class_ 121), (0, .nameAndType 122 84), (0, u "java/util/Objects"), (0, u "checkIndex"), (0, .methodref 10 124), (0, .nameAndType 13 125), (0, u "(I)Ljava/lang/Object;"), (3, .methodref 10 130), (0, .nameAndType 71 47), (0, .methodref 10 132), (0, .nameAndType 133 134), (0, u "add"), (0, u "(Ljava/lang/Object;[Ljava/lang/Object;I)V"), (13, .class_ 149), (0, u "java/util/List"), (36, u "()I"), (75, .class_ 263), (0, u "java/util/ArrayList$ListItr"), (3, .class_ 268), (0, u "java/util/ArrayList$Itr"), (7, .class_ 277), (0, u "java/util/ArrayList$SubList"), (12, .class_ 291), (0, u "java/util/ArrayList$ArrayListSpliterator"), (37, .class_ 330), (0, u "java/util/RandomAccess"), (0, .class_ 332), (0, u "java/lang/Cloneable"), (0, .class_ 334), (0, u "java/io/Serializable"), (0, u "serialVersionUID"), (0, u "J"), (3, u "DEFAULT_CAPACITY"), (40, u "get"), (118, .class_ 501), (0, u "java/util/ArrayList$SubList$2"), (0, .class_ 503), (0, u "java/util/ArrayList$SubList$1")] 5

def k20c0 : Code := { maxStack := 2, maxLocals := 1, code := jdk_38_method_2_code, exceptionTable := #[], attributes := #[] }
def k20m0 : Method := { name := "<init>", desc := "()V", sig := { parameters := [], returnType := none }, accessFlags := 1, code := some k20c0 }
def k20c1 : Code := { maxStack := 4, maxLocals := 4, code := jdk_38_method_6_code, exceptionTable := #[], attributes := #[] }
def k20m1 : Method := { name := "grow", desc := "(I)[Ljava/lang/Object;", sig := { parameters := [.int], returnType := some (.array (.object "java/lang/Object")) }, accessFlags := 2, code := some k20c1 }
def k20c2 : Code := { maxStack := 3, maxLocals := 1, code := jdk_38_method_7_code, exceptionTable := #[], attributes := #[] }
def k20m2 : Method := { name := "grow", desc := "()[Ljava/lang/Object;", sig := { parameters := [], returnType := some (.array (.object "java/lang/Object")) }, accessFlags := 2, code := some k20c2 }
def k20c3 : Code := { maxStack := 1, maxLocals := 1, code := jdk_38_method_8_code, exceptionTable := #[], attributes := #[] }
def k20m3 : Method := { name := "size", desc := "()I", sig := { parameters := [], returnType := some .int }, accessFlags := 1, code := some k20c3 }
def k20c4 : Code := { maxStack := 2, maxLocals := 2, code := jdk_38_method_18_code, exceptionTable := #[], attributes := #[] }
def k20m4 : Method := { name := "elementData", desc := "(I)Ljava/lang/Object;", sig := { parameters := [.int], returnType := some (.object "java/lang/Object") }, accessFlags := 0, code := some k20c4 }
def k20c5 : Code := { maxStack := 2, maxLocals := 2, code := jdk_38_method_20_code, exceptionTable := #[], attributes := #[] }
def k20m5 : Method := { name := "get", desc := "(I)Ljava/lang/Object;", sig := { parameters := [.int], returnType := some (.object "java/lang/Object") }, accessFlags := 1, code := some k20c5 }
def k20c6 : Code := { maxStack := 3, maxLocals := 4, code := jdk_38_method_24_code, exceptionTable := #[], attributes := #[] }
def k20m6 : Method := { name := "add", desc := "(Ljava/lang/Object;[Ljava/lang/Object;I)V", sig := { parameters := [(.object "java/lang/Object"), (.array (.object "java/lang/Object")), .int], returnType := none }, accessFlags := 2, code := some k20c6 }
def k20c7 : Code := { maxStack := 4, maxLocals := 2, code := jdk_38_method_25_code, exceptionTable := #[], attributes := #[] }
def k20m7 : Method := { name := "add", desc := "(Ljava/lang/Object;)Z", sig := { parameters := [(.object "java/lang/Object")], returnType := some .boolean }, accessFlags := 1, code := some k20c7 }
def k20 : Class := { plain "java/util/ArrayList" (some 17) with
  accessFlags := 33
  interfaces := #[16, 18, 19, 3]
  cf := some (fileOf pool20 10 #[.nestMembers #[290, 276, 500, 502, 262, 267]] #[{ accessFlags := 1, nameIndex := 5, descriptorIndex := 6, attributes := #[] }, { accessFlags := 2, nameIndex := 71, descriptorIndex := 72, attributes := #[] }, { accessFlags := 2, nameIndex := 71, descriptorIndex := 47, attributes := #[] }, { accessFlags := 1, nameIndex := 50, descriptorIndex := 186, attributes := #[] }, { accessFlags := 0, nameIndex := 13, descriptorIndex := 125, attributes := #[] }, { accessFlags := 1, nameIndex := 381, descriptorIndex := 125, attributes := #[] }, { accessFlags := 2, nameIndex := 133, descriptorIndex := 134, attributes := #[] }, { accessFlags := 1, nameIndex := 133, descriptorIndex := 96, attributes := #[] }] 33 2 #[148, 329, 331, 333] #[{ accessFlags := 26, nameIndex := 335, descriptorIndex := 336, attributes := #[] }, { accessFlags := 26, nameIndex := 340, descriptorIndex := 51, attributes := #[] }, { accessFlags := 26, nameIndex := 17, descriptorIndex := 14, attributes := #[] }, { accessFlags := 26, nameIndex := 41, descriptorIndex := 14, attributes := #[] }, { accessFlags := 128, nameIndex := 13, descriptorIndex := 14, attributes := #[] }, { accessFlags := 2, nameIndex := 50, descriptorIndex := 51, attributes := #[] }])
  fields := #[{ name := "serialVersionUID", type := .long, accessFlags := 26, slot := 0, constantValue := 0 }, { name := "DEFAULT_CAPACITY", type := .int, accessFlags := 26, slot := 1, constantValue := 0 }, { name := "EMPTY_ELEMENTDATA", type := (.array (.object "java/lang/Object")), accessFlags := 26, slot := 2, constantValue := 0 }, { name := "DEFAULTCAPACITY_EMPTY_ELEMENTDATA", type := (.array (.object "java/lang/Object")), accessFlags := 26, slot := 3, constantValue := 0 }, { name := "elementData", type := (.array (.object "java/lang/Object")), accessFlags := 128, slot := 1, constantValue := 0 }, { name := "size", type := .int, accessFlags := 2, slot := 2, constantValue := 0 }]
  methods := #[k20m0, k20m1, k20m2, k20m3, k20m4, k20m5, k20m6, k20m7]
  instanceTypes := #[.int, (.array (.object "java/lang/Object")), .int]
  staticTypes := #[.long, .int, (.array (.object "java/lang/Object")), (.array (.object "java/lang/Object"))]
  resolved := Array.replicate 509 none
  statics := some 3 }

def pool21 : Array CpInfo := pool [(2, .class_ 4), (1, u "java/lang/Object"), (0, u "<init>"), (0, u "()V"), (1, .class_ 10), (1, u "java/lang/Number"), (2, .class_ 14), (0, u "java/io/Serializable"), (0, u "serialVersionUID"), (0, u "J")] 20

def k21m0 : Method := { name := "<init>", desc := "()V", sig := { parameters := [], returnType := none }, accessFlags := 1, code := none }
def k21 : Class := { plain "java/lang/Number" (some 0) with
  accessFlags := 1057
  interfaces := #[3]
  cf := some (fileOf pool21 8 #[] #[{ accessFlags := 1, nameIndex := 5, descriptorIndex := 6, attributes := #[] }] 1057 2 #[13] #[{ accessFlags := 26, nameIndex := 15, descriptorIndex := 16, attributes := #[] }])
  fields := #[{ name := "serialVersionUID", type := .long, accessFlags := 26, slot := 0, constantValue := 0 }]
  methods := #[k21m0]
  instanceTypes := #[]
  staticTypes := #[.long]
  resolved := Array.replicate 37 none
  statics := none }

def pool22 : Array CpInfo := pool [(1, .class_ 2), (0, u "java/lang/Integer"), (16, u "digits"), (0, u "[C"), (64, u "DigitOnes"), (0, u "[B"), (2, u "DigitTens"), (31, u "()I"), (65, u "valueOf"), (0, u "(I)Ljava/lang/Integer;"), (0, .class_ 190), (0, u "java/lang/Integer$IntegerCache"), (0, .fieldref 189 192), (0, .nameAndType 193 194), (0, u "high"), (0, u "I"), (0, .fieldref 189 196), (0, .nameAndType 197 198), (0, u "cache"), (0, u "[Ljava/lang/Integer;"), (4, .class_ 204), (0, u "java/lang/Number"), (0, .fieldref 1 206), (0, .nameAndType 207 194), (0, u "value"), (5, u "intValue"), (88, u "TYPE"), (0, u "Ljava/lang/Class;"), (0, .class_ 305), (0, u "java/lang/Comparable"), (0, .class_ 307), (0, u "java/lang/constant/Constable"), (0, .class_ 309), (0, u "java/lang/constant/ConstantDesc"), (0, u "MIN_VALUE"), (1, u "MAX_VALUE"), (3, u "SIZE"), (1, u "BYTES"), (1, u "serialVersionUID"), (0, u "J")] 131

def k22c0 : Code := { maxStack := 3, maxLocals := 1, code := jdk_33_method_22_code, exceptionTable := #[], attributes := #[] }
def k22m0 : Method := { name := "valueOf", desc := "(I)Ljava/lang/Integer;", sig := { parameters := [.int], returnType := some (.object "java/lang/Integer") }, accessFlags := 9, code := some k22c0 }
def k22c1 : Code := { maxStack := 1, maxLocals := 1, code := jdk_33_method_27_code, exceptionTable := #[], attributes := #[] }
def k22m1 : Method := { name := "intValue", desc := "()I", sig := { parameters := [], returnType := some .int }, accessFlags := 1, code := some k22c1 }
def k22 : Class := { plain "java/lang/Integer" (some 21) with
  accessFlags := 49
  interfaces := #[4, 6, 7]
  cf := some (fileOf pool22 1 #[.nestMembers #[189]] #[{ accessFlags := 9, nameIndex := 187, descriptorIndex := 188, attributes := #[] }, { accessFlags := 1, nameIndex := 213, descriptorIndex := 121, attributes := #[] }] 49 203 #[304, 306, 308] #[{ accessFlags := 25, nameIndex := 310, descriptorIndex := 194, attributes := #[] }, { accessFlags := 25, nameIndex := 312, descriptorIndex := 194, attributes := #[] }, { accessFlags := 25, nameIndex := 302, descriptorIndex := 303, attributes := #[] }, { accessFlags := 24, nameIndex := 19, descriptorIndex := 20, attributes := #[] }, { accessFlags := 24, nameIndex := 89, descriptorIndex := 86, attributes := #[] }, { accessFlags := 24, nameIndex := 85, descriptorIndex := 86, attributes := #[] }, { accessFlags := 18, nameIndex := 207, descriptorIndex := 194, attributes := #[] }, { accessFlags := 25, nameIndex := 316, descriptorIndex := 194, attributes := #[] }, { accessFlags := 25, nameIndex := 318, descriptorIndex := 194, attributes := #[] }, { accessFlags := 26, nameIndex := 320, descriptorIndex := 321, attributes := #[] }])
  fields := #[{ name := "MIN_VALUE", type := .int, accessFlags := 25, slot := 0, constantValue := 0 }, { name := "MAX_VALUE", type := .int, accessFlags := 25, slot := 1, constantValue := 0 }, { name := "TYPE", type := (.object "java/lang/Class"), accessFlags := 25, slot := 2, constantValue := 0 }, { name := "digits", type := (.array .char), accessFlags := 24, slot := 3, constantValue := 0 }, { name := "DigitTens", type := (.array .byte), accessFlags := 24, slot := 4, constantValue := 0 }, { name := "DigitOnes", type := (.array .byte), accessFlags := 24, slot := 5, constantValue := 0 }, { name := "value", type := .int, accessFlags := 18, slot := 0, constantValue := 0 }, { name := "SIZE", type := .int, accessFlags := 25, slot := 6, constantValue := 0 }, { name := "BYTES", type := .int, accessFlags := 25, slot := 7, constantValue := 0 }, { name := "serialVersionUID", type := .long, accessFlags := 26, slot := 8, constantValue := 0 }]
  methods := #[k22m0, k22m1]
  instanceTypes := #[.int]
  staticTypes := #[.int, .int, (.object "java/lang/Class"), (.array .char), (.array .byte), (.array .byte), .int, .int, .long]
  resolved := Array.replicate 453 none
  statics := none }

def pool23 : Array CpInfo := pool [(2, .class_ 4), (1, u "java/lang/Object"), (0, u "<init>"), (0, u "()V"), (0, .class_ 8), (0, u "java/lang/Integer"), (7, .class_ 18), (1, u "java/lang/Integer$IntegerCache"), (0, u "$assertionsDisabled"), (0, u "Z"), (26, u "high"), (0, u "I"), (8, u "archivedCache"), (0, u "[Ljava/lang/Integer;"), (12, u "cache"), (0, u "low")] 27

def k23m0 : Method := { name := "<init>", desc := "()V", sig := { parameters := [], returnType := none }, accessFlags := 2, code := none }
def k23 : Class := { plain "java/lang/Integer$IntegerCache" (some 0) with
  accessFlags := 48
  interfaces := #[]
  cf := some (fileOf pool23 16 #[.nestHost 7] #[{ accessFlags := 2, nameIndex := 5, descriptorIndex := 6, attributes := #[] }] 48 2 #[] #[{ accessFlags := 24, nameIndex := 72, descriptorIndex := 48, attributes := #[] }, { accessFlags := 24, nameIndex := 47, descriptorIndex := 48, attributes := #[] }, { accessFlags := 24, nameIndex := 71, descriptorIndex := 58, attributes := #[] }, { accessFlags := 8, nameIndex := 57, descriptorIndex := 58, attributes := #[] }, { accessFlags := 4120, nameIndex := 19, descriptorIndex := 20, attributes := #[] }])
  fields := #[{ name := "low", type := .int, accessFlags := 24, slot := 0, constantValue := 0 }, { name := "high", type := .int, accessFlags := 24, slot := 1, constantValue := 0 }, { name := "cache", type := (.array (.object "java/lang/Integer")), accessFlags := 24, slot := 2, constantValue := 0 }, { name := "archivedCache", type := (.array (.object "java/lang/Integer")), accessFlags := 8, slot := 3, constantValue := 0 }, { name := "$assertionsDisabled", type := .boolean, accessFlags := 4120, slot := 4, constantValue := 0 }]
  methods := #[k23m0]
  instanceTypes := #[]
  staticTypes := #[.int, .int, (.array (.object "java/lang/Integer")), (.array (.object "java/lang/Integer")), .boolean]
  resolved := Array.replicate 100 none
  statics := some 4 }

def pool24 : Array CpInfo := pool [(1, .class_ 2), (0, u "java/lang/Math"), (1, .class_ 6), (1, u "java/lang/Object"), (0, u "<init>"), (0, u "()V"), (89, .class_ 100), (1, u "java/lang/Math$RandomNumberGeneratorHolder"), (71, u "negativeZeroFloatBits"), (0, u "J"), (2, u "negativeZeroDoubleBits"), (21, u "max"), (46, u "$assertionsDisabled"), (0, u "Z"), (88, u "(II)I"), (2, u "twoToTheDoubleScaleDown"), (0, u "D"), (4, u "twoToTheDoubleScaleUp"), (9, u "E"), (3, u "PI"), (2, u "TAU"), (2, u "DEGREES_TO_RADIANS"), (0, u "RADIANS_TO_DEGREES")] 94

def k24m0 : Method := { name := "<init>", desc := "()V", sig := { parameters := [], returnType := none }, accessFlags := 2, code := none }
def k24c1 : Code := { maxStack := 2, maxLocals := 2, code := jdk_29_method_65_code, exceptionTable := #[], attributes := #[] }
def k24m1 : Method := { name := "max", desc := "(II)I", sig := { parameters := [.int, .int], returnType := some .int }, accessFlags := 9, code := some k24c1 }
def k24 : Class := { plain "java/lang/Math" (some 0) with
  accessFlags := 49
  interfaces := #[]
  cf := some (fileOf pool24 1 #[.nestMembers #[98]] #[{ accessFlags := 2, nameIndex := 7, descriptorIndex := 8, attributes := #[] }, { accessFlags := 9, nameIndex := 198, descriptorIndex := 335, attributes := #[] }] 49 4 #[] #[{ accessFlags := 25, nameIndex := 354, descriptorIndex := 339, attributes := #[] }, { accessFlags := 25, nameIndex := 358, descriptorIndex := 339, attributes := #[] }, { accessFlags := 25, nameIndex := 361, descriptorIndex := 339, attributes := #[] }, { accessFlags := 26, nameIndex := 364, descriptorIndex := 339, attributes := #[] }, { accessFlags := 26, nameIndex := 365, descriptorIndex := 339, attributes := #[] }, { accessFlags := 26, nameIndex := 172, descriptorIndex := 173, attributes := #[] }, { accessFlags := 26, nameIndex := 176, descriptorIndex := 173, attributes := #[] }, { accessFlags := 8, nameIndex := 344, descriptorIndex := 339, attributes := #[] }, { accessFlags := 8, nameIndex := 338, descriptorIndex := 339, attributes := #[] }, { accessFlags := 4120, nameIndex := 245, descriptorIndex := 246, attributes := #[] }])
  fields := #[{ name := "E", type := .double, accessFlags := 25, slot := 0, constantValue := 0 }, { name := "PI", type := .double, accessFlags := 25, slot := 1, constantValue := 0 }, { name := "TAU", type := .double, accessFlags := 25, slot := 2, constantValue := 0 }, { name := "DEGREES_TO_RADIANS", type := .double, accessFlags := 26, slot := 3, constantValue := 0 }, { name := "RADIANS_TO_DEGREES", type := .double, accessFlags := 26, slot := 4, constantValue := 0 }, { name := "negativeZeroFloatBits", type := .long, accessFlags := 26, slot := 5, constantValue := 0 }, { name := "negativeZeroDoubleBits", type := .long, accessFlags := 26, slot := 6, constantValue := 0 }, { name := "twoToTheDoubleScaleUp", type := .double, accessFlags := 8, slot := 7, constantValue := 0 }, { name := "twoToTheDoubleScaleDown", type := .double, accessFlags := 8, slot := 8, constantValue := 0 }, { name := "$assertionsDisabled", type := .boolean, accessFlags := 4120, slot := 9, constantValue := 0 }]
  methods := #[k24m0, k24m1]
  instanceTypes := #[]
  staticTypes := #[.double, .double, .double, .double, .double, .long, .long, .double, .double, .boolean]
  resolved := Array.replicate 460 none
  statics := none }

def pool25 : Array CpInfo := pool [(2, .class_ 4), (1, u "java/lang/Object"), (0, u "<init>"), (0, u "()V"), (35, .class_ 44), (1, u "java/util/Objects"), (60, .methodref 106 107), (0, .class_ 108), (0, .nameAndType 109 110), (0, u "jdk/internal/util/Preconditions"), (0, u "checkIndex"), (0, u "(IILjava/util/function/BiFunction;)I"), (60, u "(II)I")] 12

def k25m0 : Method := { name := "<init>", desc := "()V", sig := { parameters := [], returnType := none }, accessFlags := 2, code := none }
def k25c1 : Code := { maxStack := 3, maxLocals := 2, code := jdk_31_method_17_code, exceptionTable := #[], attributes := #[] }
def k25m1 : Method := { name := "checkIndex", desc := "(II)I", sig := { parameters := [.int, .int], returnType := some .int }, accessFlags := 9, code := some k25c1 }
def k25 : Class := { plain "java/util/Objects" (some 0) with
  accessFlags := 49
  interfaces := #[]
  cf := some (fileOf pool25 42 #[] #[{ accessFlags := 2, nameIndex := 5, descriptorIndex := 6, attributes := #[] }, { accessFlags := 9, nameIndex := 109, descriptorIndex := 171, attributes := #[] }] 49 2 #[] #[])
  fields := #[]
  methods := #[k25m0, k25m1]
  instanceTypes := #[]
  staticTypes := #[]
  resolved := Array.replicate 184 none
  statics := none }

def pool26 : Array CpInfo := pool [(9, u "<init>"), (6, .class_ 18), (1, u "java/lang/Object"), (0, u "()V"), (1, .class_ 23), (1, u "jdk/internal/util/ArraysSupport"), (0, u "LOG2_ARRAY_LONG_INDEX_SCALE"), (0, u "I"), (2, u "U"), (0, u "Ljdk/internal/misc/Unsafe;"), (8, u "BIG_ENDIAN"), (0, u "Z"), (8, u "LOG2_BYTE_BIT_SIZE"), (4, u "LOG2_ARRAY_INT_INDEX_SCALE"), (54, u "JLA"), (0, u "Ljdk/internal/access/JavaLangAccess;"), (11, u "LOG2_ARRAY_BOOLEAN_INDEX_SCALE"), (9, u "LOG2_ARRAY_BYTE_INDEX_SCALE"), (5, u "LOG2_ARRAY_CHAR_INDEX_SCALE"), (5, u "LOG2_ARRAY_SHORT_INDEX_SCALE"), (18, u "LOG2_ARRAY_FLOAT_INDEX_SCALE"), (24, u "LOG2_ARRAY_DOUBLE_INDEX_SCALE"), (89, u "T_BOOLEAN"), (2, u "T_CHAR"), (1, u "T_FLOAT"), (1, u "T_DOUBLE"), (1, u "T_BYTE"), (1, u "T_SHORT"), (1, u "T_INT"), (1, u "T_LONG"), (1, u "SOFT_MAX_ARRAY_LENGTH")] 83

def k26m0 : Method := { name := "<init>", desc := "()V", sig := { parameters := [], returnType := none }, accessFlags := 2, code := none }
def k26 : Class := { plain "jdk/internal/util/ArraysSupport" (some 0) with
  accessFlags := 33
  interfaces := #[]
  cf := some (fileOf pool26 21 #[] #[{ accessFlags := 2, nameIndex := 9, descriptorIndex := 19, attributes := #[] }] 33 16 #[] #[{ accessFlags := 24, nameIndex := 28, descriptorIndex := 29, attributes := #[] }, { accessFlags := 26, nameIndex := 38, descriptorIndex := 39, attributes := #[] }, { accessFlags := 25, nameIndex := 121, descriptorIndex := 25, attributes := #[] }, { accessFlags := 25, nameIndex := 131, descriptorIndex := 25, attributes := #[] }, { accessFlags := 25, nameIndex := 137, descriptorIndex := 25, attributes := #[] }, { accessFlags := 25, nameIndex := 143, descriptorIndex := 25, attributes := #[] }, { accessFlags := 25, nameIndex := 53, descriptorIndex := 25, attributes := #[] }, { accessFlags := 25, nameIndex := 24, descriptorIndex := 25, attributes := #[] }, { accessFlags := 25, nameIndex := 162, descriptorIndex := 25, attributes := #[] }, { accessFlags := 25, nameIndex := 187, descriptorIndex := 25, attributes := #[] }, { accessFlags := 26, nameIndex := 48, descriptorIndex := 25, attributes := #[] }, { accessFlags := 25, nameIndex := 277, descriptorIndex := 25, attributes := #[] }, { accessFlags := 25, nameIndex := 280, descriptorIndex := 25, attributes := #[] }, { accessFlags := 25, nameIndex := 282, descriptorIndex := 25, attributes := #[] }, { accessFlags := 25, nameIndex := 284, descriptorIndex := 25, attributes := #[] }, { accessFlags := 25, nameIndex := 286, descriptorIndex := 25, attributes := #[] }, { accessFlags := 25, nameIndex := 288, descriptorIndex := 25, attributes := #[] }, { accessFlags := 25, nameIndex := 290, descriptorIndex := 25, attributes := #[] }, { accessFlags := 25, nameIndex := 292, descriptorIndex := 25, attributes := #[] }, { accessFlags := 26, nameIndex := 108, descriptorIndex := 109, attributes := #[] }, { accessFlags := 25, nameIndex := 294, descriptorIndex := 25, attributes := #[] }])
  fields := #[{ name := "U", type := (.object "jdk/internal/misc/Unsafe"), accessFlags := 24, slot := 0, constantValue := 0 }, { name := "BIG_ENDIAN", type := .boolean, accessFlags := 26, slot := 1, constantValue := 0 }, { name := "LOG2_ARRAY_BOOLEAN_INDEX_SCALE", type := .int, accessFlags := 25, slot := 2, constantValue := 0 }, { name := "LOG2_ARRAY_BYTE_INDEX_SCALE", type := .int, accessFlags := 25, slot := 3, constantValue := 0 }, { name := "LOG2_ARRAY_CHAR_INDEX_SCALE", type := .int, accessFlags := 25, slot := 4, constantValue := 0 }, { name := "LOG2_ARRAY_SHORT_INDEX_SCALE", type := .int, accessFlags := 25, slot := 5, constantValue := 0 }, { name := "LOG2_ARRAY_INT_INDEX_SCALE", type := .int, accessFlags := 25, slot := 6, constantValue := 0 }, { name := "LOG2_ARRAY_LONG_INDEX_SCALE", type := .int, accessFlags := 25, slot := 7, constantValue := 0 }, { name := "LOG2_ARRAY_FLOAT_INDEX_SCALE", type := .int, accessFlags := 25, slot := 8, constantValue := 0 }, { name := "LOG2_ARRAY_DOUBLE_INDEX_SCALE", type := .int, accessFlags := 25, slot := 9, constantValue := 0 }, { name := "LOG2_BYTE_BIT_SIZE", type := .int, accessFlags := 26, slot := 10, constantValue := 0 }, { name := "T_BOOLEAN", type := .int, accessFlags := 25, slot := 11, constantValue := 0 }, { name := "T_CHAR", type := .int, accessFlags := 25, slot := 12, constantValue := 0 }, { name := "T_FLOAT", type := .int, accessFlags := 25, slot := 13, constantValue := 0 }, { name := "T_DOUBLE", type := .int, accessFlags := 25, slot := 14, constantValue := 0 }, { name := "T_BYTE", type := .int, accessFlags := 25, slot := 15, constantValue := 0 }, { name := "T_SHORT", type := .int, accessFlags := 25, slot := 16, constantValue := 0 }, { name := "T_INT", type := .int, accessFlags := 25, slot := 17, constantValue := 0 }, { name := "T_LONG", type := .int, accessFlags := 25, slot := 18, constantValue := 0 }, { name := "JLA", type := (.object "jdk/internal/access/JavaLangAccess"), accessFlags := 26, slot := 19, constantValue := 0 }, { name := "SOFT_MAX_ARRAY_LENGTH", type := .int, accessFlags := 25, slot := 20, constantValue := 0 }]
  methods := #[k26m0]
  instanceTypes := #[]
  staticTypes := #[(.object "jdk/internal/misc/Unsafe"), .boolean, .int, .int, .int, .int, .int, .int, .int, .int, .int, .int, .int, .int, .int, .int, .int, .int, .int, (.object "jdk/internal/access/JavaLangAccess"), .int]
  resolved := Array.replicate 378 none
  statics := none }

def k27 : Class := { plain "byte" none with kind := .primitive 'B', accessFlags := 0x411 }
def k28 : Class := { plain "[B" (some 0) with kind := .array 27 .byte, interfaces := #[19, 3], accessFlags := 1041 }

def k29 : Class := { plain "char" none with kind := .primitive 'C', accessFlags := 0x411 }
def k30 : Class := { plain "[C" (some 0) with kind := .array 29 .char, interfaces := #[19, 3], accessFlags := 1041 }

def k31 : Class := { plain "int" none with kind := .primitive 'I', accessFlags := 0x411 }
def k32 : Class := { plain "[I" (some 0) with kind := .array 31 .int, interfaces := #[19, 3], accessFlags := 1041 }

def k33 : Class := { plain "[Ljava/lang/Integer;" (some 0) with kind := .array 22 (.object "java/lang/Integer"), interfaces := #[19, 3], accessFlags := 1041 }

def k34 : Class := { plain "[Ljava/lang/Object;" (some 0) with kind := .array 0 (.object "java/lang/Object"), interfaces := #[19, 3], accessFlags := 1041 }

def bI (x : Int32) : Cell := { cls := 22, slots := #[.int x], vm := .none }
def heap : Heap := #[{ cls := 8, slots := #[.long 0, .int 1, .null, .int 0, .null, .int 0, .int 0], vm := .statics 8 },
  { cls := 9, slots := #[.int 0, .int 8, .int 0, .int 1], vm := .statics 9 },
  { cls := 11, slots := #[.null, .null, .null], vm := .statics 11 },
  { cls := 20, slots := #[.long 0, .int 0, .ref 262, .ref 263], vm := .statics 20 },
  { cls := 23, slots := #[.int 0, .int 127, .ref 5, .null, .int 0], vm := .statics 23 },
  { cls := 33, slots := #[.ref 6, .ref 7, .ref 8, .ref 9, .ref 10, .ref 11, .ref 12, .ref 13, .ref 14, .ref 15, .ref 16, .ref 17, .ref 18, .ref 19, .ref 20, .ref 21, .ref 22, .ref 23, .ref 24, .ref 25, .ref 26, .ref 27, .ref 28, .ref 29, .ref 30, .ref 31, .ref 32, .ref 33, .ref 34, .ref 35, .ref 36, .ref 37, .ref 38, .ref 39, .ref 40, .ref 41, .ref 42, .ref 43, .ref 44, .ref 45, .ref 46, .ref 47, .ref 48, .ref 49, .ref 50, .ref 51, .ref 52, .ref 53, .ref 54, .ref 55, .ref 56, .ref 57, .ref 58, .ref 59, .ref 60, .ref 61, .ref 62, .ref 63, .ref 64, .ref 65, .ref 66, .ref 67, .ref 68, .ref 69, .ref 70, .ref 71, .ref 72, .ref 73, .ref 74, .ref 75, .ref 76, .ref 77, .ref 78, .ref 79, .ref 80, .ref 81, .ref 82, .ref 83, .ref 84, .ref 85, .ref 86, .ref 87, .ref 88, .ref 89, .ref 90, .ref 91, .ref 92, .ref 93, .ref 94, .ref 95, .ref 96, .ref 97, .ref 98, .ref 99, .ref 100, .ref 101, .ref 102, .ref 103, .ref 104, .ref 105, .ref 106, .ref 107, .ref 108, .ref 109, .ref 110, .ref 111, .ref 112, .ref 113, .ref 114, .ref 115, .ref 116, .ref 117, .ref 118, .ref 119, .ref 120, .ref 121, .ref 122, .ref 123, .ref 124, .ref 125, .ref 126, .ref 127, .ref 128, .ref 129, .ref 130, .ref 131, .ref 132, .ref 133, .ref 134, .ref 135, .ref 136, .ref 137, .ref 138, .ref 139, .ref 140, .ref 141, .ref 142, .ref 143, .ref 144, .ref 145, .ref 146, .ref 147, .ref 148, .ref 149, .ref 150, .ref 151, .ref 152, .ref 153, .ref 154, .ref 155, .ref 156, .ref 157, .ref 158, .ref 159, .ref 160, .ref 161, .ref 162, .ref 163, .ref 164, .ref 165, .ref 166, .ref 167, .ref 168, .ref 169, .ref 170, .ref 171, .ref 172, .ref 173, .ref 174, .ref 175, .ref 176, .ref 177, .ref 178, .ref 179, .ref 180, .ref 181, .ref 182, .ref 183, .ref 184, .ref 185, .ref 186, .ref 187, .ref 188, .ref 189, .ref 190, .ref 191, .ref 192, .ref 193, .ref 194, .ref 195, .ref 196, .ref 197, .ref 198, .ref 199, .ref 200, .ref 201, .ref 202, .ref 203, .ref 204, .ref 205, .ref 206, .ref 207, .ref 208, .ref 209, .ref 210, .ref 211, .ref 212, .ref 213, .ref 214, .ref 215, .ref 216, .ref 217, .ref 218, .ref 219, .ref 220, .ref 221, .ref 222, .ref 223, .ref 224, .ref 225, .ref 226, .ref 227, .ref 228, .ref 229, .ref 230, .ref 231, .ref 232, .ref 233, .ref 234, .ref 235, .ref 236, .ref 237, .ref 238, .ref 239, .ref 240, .ref 241, .ref 242, .ref 243, .ref 244, .ref 245, .ref 246, .ref 247, .ref 248, .ref 249, .ref 250, .ref 251, .ref 252, .ref 253, .ref 254, .ref 255, .ref 256, .ref 257, .ref 258, .ref 259, .ref 260, .ref 261], vm := .none },
  bI (-128),
  bI (-127),
  bI (-126),
  bI (-125),
  bI (-124),
  bI (-123),
  bI (-122),
  bI (-121),
  bI (-120),
  bI (-119),
  bI (-118),
  bI (-117),
  bI (-116),
  bI (-115),
  bI (-114),
  bI (-113),
  bI (-112),
  bI (-111),
  bI (-110),
  bI (-109),
  bI (-108),
  bI (-107),
  bI (-106),
  bI (-105),
  bI (-104),
  bI (-103),
  bI (-102),
  bI (-101),
  bI (-100),
  bI (-99),
  bI (-98),
  bI (-97),
  bI (-96),
  bI (-95),
  bI (-94),
  bI (-93),
  bI (-92),
  bI (-91),
  bI (-90),
  bI (-89),
  bI (-88),
  bI (-87),
  bI (-86),
  bI (-85),
  bI (-84),
  bI (-83),
  bI (-82),
  bI (-81),
  bI (-80),
  bI (-79),
  bI (-78),
  bI (-77),
  bI (-76),
  bI (-75),
  bI (-74),
  bI (-73),
  bI (-72),
  bI (-71),
  bI (-70),
  bI (-69),
  bI (-68),
  bI (-67),
  bI (-66),
  bI (-65),
  bI (-64),
  bI (-63),
  bI (-62),
  bI (-61),
  bI (-60),
  bI (-59),
  bI (-58),
  bI (-57),
  bI (-56),
  bI (-55),
  bI (-54),
  bI (-53),
  bI (-52),
  bI (-51),
  bI (-50),
  bI (-49),
  bI (-48),
  bI (-47),
  bI (-46),
  bI (-45),
  bI (-44),
  bI (-43),
  bI (-42),
  bI (-41),
  bI (-40),
  bI (-39),
  bI (-38),
  bI (-37),
  bI (-36),
  bI (-35),
  bI (-34),
  bI (-33),
  bI (-32),
  bI (-31),
  bI (-30),
  bI (-29),
  bI (-28),
  bI (-27),
  bI (-26),
  bI (-25),
  bI (-24),
  bI (-23),
  bI (-22),
  bI (-21),
  bI (-20),
  bI (-19),
  bI (-18),
  bI (-17),
  bI (-16),
  bI (-15),
  bI (-14),
  bI (-13),
  bI (-12),
  bI (-11),
  bI (-10),
  bI (-9),
  bI (-8),
  bI (-7),
  bI (-6),
  bI (-5),
  bI (-4),
  bI (-3),
  bI (-2),
  bI (-1),
  bI 0,
  bI 1,
  bI 2,
  bI 3,
  bI 4,
  bI 5,
  bI 6,
  bI 7,
  bI 8,
  bI 9,
  bI 10,
  bI 11,
  bI 12,
  bI 13,
  bI 14,
  bI 15,
  bI 16,
  bI 17,
  bI 18,
  bI 19,
  bI 20,
  bI 21,
  bI 22,
  bI 23,
  bI 24,
  bI 25,
  bI 26,
  bI 27,
  bI 28,
  bI 29,
  bI 30,
  bI 31,
  bI 32,
  bI 33,
  bI 34,
  bI 35,
  bI 36,
  bI 37,
  bI 38,
  bI 39,
  bI 40,
  bI 41,
  bI 42,
  bI 43,
  bI 44,
  bI 45,
  bI 46,
  bI 47,
  bI 48,
  bI 49,
  bI 50,
  bI 51,
  bI 52,
  bI 53,
  bI 54,
  bI 55,
  bI 56,
  bI 57,
  bI 58,
  bI 59,
  bI 60,
  bI 61,
  bI 62,
  bI 63,
  bI 64,
  bI 65,
  bI 66,
  bI 67,
  bI 68,
  bI 69,
  bI 70,
  bI 71,
  bI 72,
  bI 73,
  bI 74,
  bI 75,
  bI 76,
  bI 77,
  bI 78,
  bI 79,
  bI 80,
  bI 81,
  bI 82,
  bI 83,
  bI 84,
  bI 85,
  bI 86,
  bI 87,
  bI 88,
  bI 89,
  bI 90,
  bI 91,
  bI 92,
  bI 93,
  bI 94,
  bI 95,
  bI 96,
  bI 97,
  bI 98,
  bI 99,
  bI 100,
  bI 101,
  bI 102,
  bI 103,
  bI 104,
  bI 105,
  bI 106,
  bI 107,
  bI 108,
  bI 109,
  bI 110,
  bI 111,
  bI 112,
  bI 113,
  bI 114,
  bI 115,
  bI 116,
  bI 117,
  bI 118,
  bI 119,
  bI 120,
  bI 121,
  bI 122,
  bI 123,
  bI 124,
  bI 125,
  bI 126,
  bI 127,
  { cls := 34, slots := #[], vm := .none },
  { cls := 34, slots := #[], vm := .none }]
def classes : Array Class := #[k0, k1, k2, k3, k4, k5, k6, k7, k8, k9, k10, k11, k12, k13, k14, k15, k16, k17, k18, k19, k20, k21, k22, k23, k24, k25, k26, k27, k28, k29, k30, k31, k32, k33, k34]
def interned : List (Array UInt16 × Addr) := []
def slotsUsed : Nat := 535
def theMethod : MethodId := ⟨1, 1⟩
def args0 : Array Value := #[.int 5, .int 3, .int 9, .int 5]
def aboutOver (below : List Frame) : State where
  vm := { classes := classes, interned := interned.toArray }
  heap := heap
  slotsUsed := slotsUsed
  threads := #[{ frames := .invoking theMethod args0 :: below }]
def below0 : List Frame := [.native { method := ⟨0, 0⟩, args := #[] }]
def about1 : State := aboutOver below0
def p0 : Program := .bare "" "" ""
def e0 : Env := launch0.env 0 0 0
theorem w_frames : about1.frames = Frame.invoking theMethod args0 :: below0 := rfl
set_option maxRecDepth 65536 in
theorem w_args : argsFit about1.vm theMethod args0 = true := by decide +kernel
set_option maxRecDepth 65536 in
theorem w_heap : heapFits about1 = true := by decide +kernel
set_option maxRecDepth 65536 in
theorem w_runnable : about1.curStatus? = some .runnable := by decide +kernel
set_option maxRecDepth 65536 in
theorem w_alone : about1.alone = true := by decide +kernel
set_option maxRecDepth 65536 in
theorem w_named : about1.methodNamed? x = some theMethod := by decide +kernel
set_option maxRecDepth 65536 in
theorem w_hears : about1.hears theMethod below0 = true := by decide +kernel
set_option maxRecDepth 65536 in
theorem w_ripe : about1.ripe theMethod args0 below0 = true := by decide +kernel
theorem w_running : about1.status = .running := rfl
set_option maxRecDepth 65536 in
theorem w_room : about1.hasRoom e0.platform room_1 = true :=
  launch0.hasRoom_least _ room_1 (by decide +kernel) (by decide +kernel) (by decide +kernel) (by decide +kernel) (by decide +kernel) (by decide +kernel)
theorem allAtoms_all (ts : List Jvm.Cond) (a : Array Jvm.Value) (st : Jvm.State) : (allAtoms ts).before a st = ts.all (fun c => c.before a st) := by
  induction ts with
  | nil => rfl
  | cons c t ih =>
    show (Jvm.Cond.and c (allAtoms t)).before a st = _
    rw [Jvm.Cond.before_and, ih, List.all_cons]
def words1 : List Jvm.Cond := Jvm.Cond.code x code maxLocals ret :: tables_1
theorem code_word {y : MethodName} {bytes : ByteArray} {mx : Nat} {rt : Option FieldType} {a : Array Value} {s : State} {m : MethodId} {meth : Method} {c : Code} (h1 : s.methodNamed? y = some m) (h2 : s.vm.method? m = some meth) (h3 : meth.code = some c) (h4 : c.code = bytes)
    (h5 : (c.maxLocals == mx && c.exceptionTable.isEmpty && decide (c.maxStack ≤ mostOperands) && decide (meth.sig.returnType = rt) && !meth.locks && decide (parseMethodDescriptor y.desc = some meth.sig)) = true) : (Jvm.Cond.code y bytes mx rt).before a s = true := by
  simp only [Bool.and_eq_true, beq_iff_eq, Bool.not_eq_true', decide_eq_true_eq] at h5
  obtain ⟨⟨⟨⟨⟨g1, g2⟩, g3⟩, g4⟩, g5⟩, g6⟩ := h5
  simp [Cond.before, Cond.holds, Cond.value, h1, h2, h3, h4, g1, g2, g3, g4, g5, g6]
def isCode : Jvm.Cond → Bool
  | .code _ _ _ _ => true
  | _ => false
theorem all_split {L : List Jvm.Cond} {P : Jvm.Cond → Bool} (h1 : L.all (fun c => isCode c || P c) = true) (h2 : ∀ c ∈ L.filter isCode, P c = true) : L.all P = true := by
  refine List.all_eq_true.mpr fun c hc => ?_
  have h := List.all_eq_true.mp h1 c hc
  rcases Bool.eq_false_or_eq_true (isCode c) with hi | hi
  · exact h2 c (List.mem_filter.mpr ⟨hc, hi⟩)
  · simpa [hi] using h
set_option maxRecDepth 65536 in
theorem w_c0 : (Jvm.Cond.code x code maxLocals ret).before args0 about1 = true := code_word (m := ⟨1, 1⟩) (meth := k1m1) (c := k1c1) (by decide +kernel) rfl rfl rfl (by decide +kernel)
set_option maxRecDepth 65536 in
theorem w_c1 : (Jvm.Cond.code ⟨cL, "pick", "(II)C"⟩ method_3_code 3 (some .char)).before args0 about1 = true := code_word (m := ⟨1, 2⟩) (meth := k1m2) (c := k1c2) (by decide +kernel) rfl rfl rfl (by decide +kernel)
set_option maxRecDepth 65536 in
theorem w_c2 : (Jvm.Cond.code ⟨cL, "raw", "(ZI[C)[C"⟩ method_5_code 4 (some (.array .char))).before args0 about1 = true := code_word (m := ⟨1, 4⟩) (meth := k1m4) (c := k1c4) (by decide +kernel) rfl rfl rfl (by decide +kernel)
set_option maxRecDepth 65536 in
theorem w_c3 : (Jvm.Cond.code ⟨"java/lang/String", "<init>", "([C)V"⟩ jdk_42_method_3_code 2 none).before args0 about1 = true := code_word (m := ⟨8, 1⟩) (meth := k8m1) (c := k8c1) (by decide +kernel) rfl rfl rfl (by decide +kernel)
set_option maxRecDepth 65536 in
theorem w_c4 : (Jvm.Cond.code ⟨"java/lang/String", "<init>", "([CIILjava/lang/Void;)V"⟩ jdk_42_method_149_code 6 none).before args0 about1 = true := code_word (m := ⟨8, 7⟩) (meth := k8m7) (c := k8c7) (by decide +kernel) rfl rfl rfl (by decide +kernel)
set_option maxRecDepth 65536 in
theorem w_c5 : (Jvm.Cond.code ⟨"java/lang/Object", "<init>", "()V"⟩ object_method_1_code 1 none).before args0 about1 = true := code_word (m := ⟨0, 0⟩) (meth := k0m0) (c := k0c0) (by decide +kernel) rfl rfl rfl (by decide +kernel)
set_option maxRecDepth 65536 in
theorem w_c6 : (Jvm.Cond.code ⟨"java/lang/StringUTF16", "compress", "([CII)[B"⟩ jdk_52_method_16_code 6 (some (.array .byte))).before args0 about1 = true := code_word (m := ⟨9, 8⟩) (meth := k9m8) (c := k9c8) (by decide +kernel) rfl rfl rfl (by decide +kernel)
set_option maxRecDepth 65536 in
theorem w_c7 : (Jvm.Cond.code ⟨"java/lang/StringUTF16", "compress", "([CI[BII)I"⟩ jdk_52_method_21_code 7 (some .int)).before args0 about1 = true := code_word (m := ⟨9, 10⟩) (meth := k9m10) (c := k9c10) (by decide +kernel) rfl rfl rfl (by decide +kernel)
set_option maxRecDepth 65536 in
theorem w_c8 : (Jvm.Cond.code ⟨"java/lang/StringUTF16", "coderFromArrayLen", "([BI)B"⟩ jdk_52_method_15_code 2 (some .byte)).before args0 about1 = true := code_word (m := ⟨9, 7⟩) (meth := k9m7) (c := k9c7) (by decide +kernel) rfl rfl rfl (by decide +kernel)
set_option maxRecDepth 65536 in
theorem w_c9 : (Jvm.Cond.code ⟨cX, "<init>", "(Ljava/lang/String;Ljava/lang/String;)V"⟩ prog_195_method_1_code 3 none).before args0 about1 = true := code_word (m := ⟨2, 0⟩) (meth := k2m0) (c := k2c0) (by decide +kernel) rfl rfl rfl (by decide +kernel)
set_option maxRecDepth 65536 in
theorem w_c10 : (Jvm.Cond.code ⟨"java/lang/String", "isEmpty", "()Z"⟩ jdk_42_method_55_code 1 (some .boolean)).before args0 about1 = true := code_word (m := ⟨8, 3⟩) (meth := k8m3) (c := k8c3) (by decide +kernel) rfl rfl rfl (by decide +kernel)
set_option maxRecDepth 65536 in
theorem w_c11 : (Jvm.Cond.code ⟨"java/lang/String", "charAt", "(I)C"⟩ jdk_42_method_56_code 2 (some .char)).before args0 about1 = true := code_word (m := ⟨8, 4⟩) (meth := k8m4) (c := k8c4) (by decide +kernel) rfl rfl rfl (by decide +kernel)
set_option maxRecDepth 65536 in
theorem w_c12 : (Jvm.Cond.code ⟨"java/lang/String", "isLatin1", "()Z"⟩ jdk_42_method_154_code 1 (some .boolean)).before args0 about1 = true := code_word (m := ⟨8, 10⟩) (meth := k8m10) (c := k8c10) (by decide +kernel) rfl rfl rfl (by decide +kernel)
set_option maxRecDepth 65536 in
theorem w_c13 : (Jvm.Cond.code ⟨"java/lang/StringLatin1", "charAt", "([BI)C"⟩ jdk_43_method_2_code 2 (some .char)).before args0 about1 = true := code_word (m := ⟨10, 1⟩) (meth := k10m1) (c := k10c1) (by decide +kernel) rfl rfl rfl (by decide +kernel)
set_option maxRecDepth 65536 in
theorem w_c14 : (Jvm.Cond.code ⟨"java/lang/String", "checkIndex", "(II)V"⟩ jdk_42_method_155_code 2 none).before args0 about1 = true := code_word (m := ⟨8, 11⟩) (meth := k8m11) (c := k8c11) (by decide +kernel) rfl rfl rfl (by decide +kernel)
set_option maxRecDepth 65536 in
theorem w_c15 : (Jvm.Cond.code ⟨"jdk/internal/util/Preconditions", "checkIndex", "(IILjava/util/function/BiFunction;)I"⟩ jdk_41_method_11_code 3 (some .int)).before args0 about1 = true := code_word (m := ⟨11, 1⟩) (meth := k11m1) (c := k11c1) (by decide +kernel) rfl rfl rfl (by decide +kernel)
set_option maxRecDepth 65536 in
theorem w_c16 : (Jvm.Cond.code ⟨cX, "lineStarts", "(Ljava/lang/String;)[I"⟩ prog_195_method_2_code 5 (some (.array .int))).before args0 about1 = true := code_word (m := ⟨2, 1⟩) (meth := k2m1) (c := k2c1) (by decide +kernel) rfl rfl rfl (by decide +kernel)
set_option maxRecDepth 65536 in
theorem w_c17 : (Jvm.Cond.code ⟨"java/util/ArrayList", "<init>", "()V"⟩ jdk_38_method_2_code 1 none).before args0 about1 = true := code_word (m := ⟨20, 0⟩) (meth := k20m0) (c := k20c0) (by decide +kernel) rfl rfl rfl (by decide +kernel)
set_option maxRecDepth 65536 in
theorem w_c18 : (Jvm.Cond.code ⟨"java/util/AbstractList", "<init>", "()V"⟩ jdk_39_method_1_code 1 none).before args0 about1 = true := code_word (m := ⟨17, 0⟩) (meth := k17m0) (c := k17c0) (by decide +kernel) rfl rfl rfl (by decide +kernel)
set_option maxRecDepth 65536 in
theorem w_c19 : (Jvm.Cond.code ⟨"java/util/AbstractCollection", "<init>", "()V"⟩ jdk_22_method_1_code 1 none).before args0 about1 = true := code_word (m := ⟨14, 0⟩) (meth := k14m0) (c := k14c0) (by decide +kernel) rfl rfl rfl (by decide +kernel)
set_option maxRecDepth 65536 in
theorem w_c20 : (Jvm.Cond.code ⟨"java/lang/Integer", "valueOf", "(I)Ljava/lang/Integer;"⟩ jdk_33_method_22_code 1 (some (.object "java/lang/Integer"))).before args0 about1 = true := code_word (m := ⟨22, 0⟩) (meth := k22m0) (c := k22c0) (by decide +kernel) rfl rfl rfl (by decide +kernel)
set_option maxRecDepth 65536 in
theorem w_c21 : (Jvm.Cond.code ⟨"java/util/ArrayList", "add", "(Ljava/lang/Object;)Z"⟩ jdk_38_method_25_code 2 (some .boolean)).before args0 about1 = true := code_word (m := ⟨20, 7⟩) (meth := k20m7) (c := k20c7) (by decide +kernel) rfl rfl rfl (by decide +kernel)
set_option maxRecDepth 65536 in
theorem w_c22 : (Jvm.Cond.code ⟨"java/util/ArrayList", "add", "(Ljava/lang/Object;[Ljava/lang/Object;I)V"⟩ jdk_38_method_24_code 4 none).before args0 about1 = true := code_word (m := ⟨20, 6⟩) (meth := k20m6) (c := k20c6) (by decide +kernel) rfl rfl rfl (by decide +kernel)
set_option maxRecDepth 65536 in
theorem w_c23 : (Jvm.Cond.code ⟨"java/util/ArrayList", "grow", "()[Ljava/lang/Object;"⟩ jdk_38_method_7_code 1 (some (.array (.object "java/lang/Object")))).before args0 about1 = true := code_word (m := ⟨20, 2⟩) (meth := k20m2) (c := k20c2) (by decide +kernel) rfl rfl rfl (by decide +kernel)
set_option maxRecDepth 65536 in
theorem w_c24 : (Jvm.Cond.code ⟨"java/util/ArrayList", "grow", "(I)[Ljava/lang/Object;"⟩ jdk_38_method_6_code 4 (some (.array (.object "java/lang/Object")))).before args0 about1 = true := code_word (m := ⟨20, 1⟩) (meth := k20m1) (c := k20c1) (by decide +kernel) rfl rfl rfl (by decide +kernel)
set_option maxRecDepth 65536 in
theorem w_c25 : (Jvm.Cond.code ⟨"java/lang/Math", "max", "(II)I"⟩ jdk_29_method_65_code 2 (some .int)).before args0 about1 = true := code_word (m := ⟨24, 1⟩) (meth := k24m1) (c := k24c1) (by decide +kernel) rfl rfl rfl (by decide +kernel)
set_option maxRecDepth 65536 in
theorem w_c26 : (Jvm.Cond.code ⟨"java/lang/String", "length", "()I"⟩ jdk_42_method_54_code 1 (some .int)).before args0 about1 = true := code_word (m := ⟨8, 2⟩) (meth := k8m2) (c := k8c2) (by decide +kernel) rfl rfl rfl (by decide +kernel)
set_option maxRecDepth 65536 in
theorem w_c27 : (Jvm.Cond.code ⟨"java/lang/String", "coder", "()B"⟩ jdk_42_method_152_code 1 (some .byte)).before args0 about1 = true := code_word (m := ⟨8, 9⟩) (meth := k8m9) (c := k8c9) (by decide +kernel) rfl rfl rfl (by decide +kernel)
set_option maxRecDepth 65536 in
theorem w_c28 : (Jvm.Cond.code ⟨cX, "lineBreakLength", "(Ljava/lang/CharSequence;I)I"⟩ prog_195_method_3_code 4 (some .int)).before args0 about1 = true := code_word (m := ⟨2, 2⟩) (meth := k2m2) (c := k2c2) (by decide +kernel) rfl rfl rfl (by decide +kernel)
set_option maxRecDepth 65536 in
theorem w_c29 : (Jvm.Cond.code ⟨"java/util/ArrayList", "size", "()I"⟩ jdk_38_method_8_code 1 (some .int)).before args0 about1 = true := code_word (m := ⟨20, 3⟩) (meth := k20m3) (c := k20c3) (by decide +kernel) rfl rfl rfl (by decide +kernel)
set_option maxRecDepth 65536 in
theorem w_c30 : (Jvm.Cond.code ⟨"java/util/ArrayList", "get", "(I)Ljava/lang/Object;"⟩ jdk_38_method_20_code 2 (some (.object "java/lang/Object"))).before args0 about1 = true := code_word (m := ⟨20, 5⟩) (meth := k20m5) (c := k20c5) (by decide +kernel) rfl rfl rfl (by decide +kernel)
set_option maxRecDepth 65536 in
theorem w_c31 : (Jvm.Cond.code ⟨"java/util/Objects", "checkIndex", "(II)I"⟩ jdk_31_method_17_code 2 (some .int)).before args0 about1 = true := code_word (m := ⟨25, 1⟩) (meth := k25m1) (c := k25c1) (by decide +kernel) rfl rfl rfl (by decide +kernel)
set_option maxRecDepth 65536 in
theorem w_c32 : (Jvm.Cond.code ⟨"java/util/ArrayList", "elementData", "(I)Ljava/lang/Object;"⟩ jdk_38_method_18_code 2 (some (.object "java/lang/Object"))).before args0 about1 = true := code_word (m := ⟨20, 4⟩) (meth := k20m4) (c := k20c4) (by decide +kernel) rfl rfl rfl (by decide +kernel)
set_option maxRecDepth 65536 in
theorem w_c33 : (Jvm.Cond.code ⟨"java/lang/Integer", "intValue", "()I"⟩ jdk_33_method_27_code 1 (some .int)).before args0 about1 = true := code_word (m := ⟨22, 1⟩) (meth := k22m1) (c := k22c1) (by decide +kernel) rfl rfl rfl (by decide +kernel)
set_option maxRecDepth 65536 in
theorem w_c34 : (Jvm.Cond.code ⟨cL, "start", "([CIII)I"⟩ method_4_code 5 (some .int)).before args0 about1 = true := code_word (m := ⟨1, 3⟩) (meth := k1m3) (c := k1c3) (by decide +kernel) rfl rfl rfl (by decide +kernel)
set_option maxRecDepth 65536 in
theorem w_c35 : (Jvm.Cond.code ⟨cX, "line", "(I)I"⟩ prog_195_method_6_code 5 (some .int)).before args0 about1 = true := code_word (m := ⟨2, 3⟩) (meth := k2m3) (c := k2c3) (by decide +kernel) rfl rfl rfl (by decide +kernel)
set_option maxRecDepth 65536 in
theorem w_c36 : (Jvm.Cond.code ⟨"java/lang/StringUTF16", "toBytes", "([CII)[B"⟩ jdk_52_method_14_code 5 (some (.array .byte))).before args0 about1 = true := code_word (m := ⟨9, 6⟩) (meth := k9m6) (c := k9c6) (by decide +kernel) rfl rfl rfl (by decide +kernel)
set_option maxRecDepth 65536 in
theorem w_c37 : (Jvm.Cond.code ⟨"java/lang/StringUTF16", "newBytesFor", "(I)[B"⟩ jdk_52_method_2_code 1 (some (.array .byte))).before args0 about1 = true := code_word (m := ⟨9, 1⟩) (meth := k9m1) (c := k9c1) (by decide +kernel) rfl rfl rfl (by decide +kernel)
set_option maxRecDepth 65536 in
theorem w_c38 : (Jvm.Cond.code ⟨"java/lang/StringUTF16", "newBytesLength", "(I)I"⟩ jdk_52_method_3_code 1 (some .int)).before args0 about1 = true := code_word (m := ⟨9, 2⟩) (meth := k9m2) (c := k9c2) (by decide +kernel) rfl rfl rfl (by decide +kernel)
set_option maxRecDepth 65536 in
theorem w_c39 : (Jvm.Cond.code ⟨"java/lang/StringUTF16", "putChar", "([BII)V"⟩ jdk_52_method_4_code 3 none).before args0 about1 = true := code_word (m := ⟨9, 3⟩) (meth := k9m3) (c := k9c3) (by decide +kernel) rfl rfl rfl (by decide +kernel)
set_option maxRecDepth 65536 in
theorem w_c40 : (Jvm.Cond.code ⟨"java/lang/StringUTF16", "getChar", "([BI)C"⟩ jdk_52_method_5_code 2 (some .char)).before args0 about1 = true := code_word (m := ⟨9, 4⟩) (meth := k9m4) (c := k9c4) (by decide +kernel) rfl rfl rfl (by decide +kernel)
set_option maxRecDepth 65536 in
theorem w_c41 : (Jvm.Cond.code ⟨"java/lang/StringUTF16", "charAt", "([BI)C"⟩ jdk_52_method_83_code 2 (some .char)).before args0 about1 = true := code_word (m := ⟨9, 13⟩) (meth := k9m13) (c := k9c13) (by decide +kernel) rfl rfl rfl (by decide +kernel)
set_option maxRecDepth 65536 in
theorem w_c42 : (Jvm.Cond.code ⟨"java/lang/StringUTF16", "checkIndex", "(I[B)V"⟩ jdk_52_method_91_code 2 none).before args0 about1 = true := code_word (m := ⟨9, 14⟩) (meth := k9m14) (c := k9c14) (by decide +kernel) rfl rfl rfl (by decide +kernel)
set_option maxRecDepth 65536 in
theorem w_c43 : (Jvm.Cond.code ⟨"java/lang/StringUTF16", "length", "([B)I"⟩ jdk_52_method_6_code 1 (some .int)).before args0 about1 = true := code_word (m := ⟨9, 5⟩) (meth := k9m5) (c := k9c5) (by decide +kernel) rfl rfl rfl (by decide +kernel)
set_option maxRecDepth 65536 in
theorem w_c44 : (Jvm.Cond.code ⟨"java/lang/String", "substring", "(I)Ljava/lang/String;"⟩ jdk_42_method_91_code 2 (some (.object "java/lang/String"))).before args0 about1 = true := code_word (m := ⟨8, 5⟩) (meth := k8m5) (c := k8c5) (by decide +kernel) rfl rfl rfl (by decide +kernel)
set_option maxRecDepth 65536 in
theorem w_c45 : (Jvm.Cond.code ⟨"java/lang/String", "substring", "(II)Ljava/lang/String;"⟩ jdk_42_method_92_code 5 (some (.object "java/lang/String"))).before args0 about1 = true := code_word (m := ⟨8, 6⟩) (meth := k8m6) (c := k8c6) (by decide +kernel) rfl rfl rfl (by decide +kernel)
set_option maxRecDepth 65536 in
theorem w_c46 : (Jvm.Cond.code ⟨"java/lang/String", "checkBoundsBeginEnd", "(III)V"⟩ jdk_42_method_158_code 3 none).before args0 about1 = true := code_word (m := ⟨8, 13⟩) (meth := k8m13) (c := k8c13) (by decide +kernel) rfl rfl rfl (by decide +kernel)
set_option maxRecDepth 65536 in
theorem w_c47 : (Jvm.Cond.code ⟨"jdk/internal/util/Preconditions", "checkFromToIndex", "(IIILjava/util/function/BiFunction;)I"⟩ jdk_41_method_12_code 4 (some .int)).before args0 about1 = true := code_word (m := ⟨11, 2⟩) (meth := k11m2) (c := k11c2) (by decide +kernel) rfl rfl rfl (by decide +kernel)
set_option maxRecDepth 65536 in
theorem w_c48 : (Jvm.Cond.code ⟨"java/lang/StringUTF16", "newString", "([BII)Ljava/lang/String;"⟩ jdk_52_method_69_code 5 (some (.object "java/lang/String"))).before args0 about1 = true := code_word (m := ⟨9, 12⟩) (meth := k9m12) (c := k9c12) (by decide +kernel) rfl rfl rfl (by decide +kernel)
set_option maxRecDepth 65536 in
theorem w_c49 : (Jvm.Cond.code ⟨"java/lang/StringUTF16", "compress", "([BII)[B"⟩ jdk_52_method_17_code 6 (some (.array .byte))).before args0 about1 = true := code_word (m := ⟨9, 9⟩) (meth := k9m9) (c := k9c9) (by decide +kernel) rfl rfl rfl (by decide +kernel)
set_option maxRecDepth 65536 in
theorem w_c50 : (Jvm.Cond.code ⟨"java/lang/StringUTF16", "compress", "([BI[BII)I"⟩ jdk_52_method_22_code 7 (some .int)).before args0 about1 = true := code_word (m := ⟨9, 11⟩) (meth := k9m11) (c := k9c11) (by decide +kernel) rfl rfl rfl (by decide +kernel)
set_option maxRecDepth 65536 in
theorem w_c51 : (Jvm.Cond.code ⟨"java/lang/StringUTF16", "checkBoundsOffCount", "(II[B)V"⟩ jdk_52_method_94_code 3 none).before args0 about1 = true := code_word (m := ⟨9, 15⟩) (meth := k9m15) (c := k9c15) (by decide +kernel) rfl rfl rfl (by decide +kernel)
set_option maxRecDepth 65536 in
theorem w_c52 : (Jvm.Cond.code ⟨"java/lang/String", "checkBoundsOffCount", "(III)I"⟩ jdk_42_method_157_code 3 (some .int)).before args0 about1 = true := code_word (m := ⟨8, 12⟩) (meth := k8m12) (c := k8c12) (by decide +kernel) rfl rfl rfl (by decide +kernel)
set_option maxRecDepth 65536 in
theorem w_c53 : (Jvm.Cond.code ⟨"jdk/internal/util/Preconditions", "checkFromIndexSize", "(IIILjava/util/function/BiFunction;)I"⟩ jdk_41_method_13_code 4 (some .int)).before args0 about1 = true := code_word (m := ⟨11, 3⟩) (meth := k11m3) (c := k11c3) (by decide +kernel) rfl rfl rfl (by decide +kernel)
set_option maxRecDepth 65536 in
theorem w_c54 : (Jvm.Cond.code ⟨"java/lang/String", "<init>", "([BB)V"⟩ jdk_42_method_151_code 3 none).before args0 about1 = true := code_word (m := ⟨8, 8⟩) (meth := k8m8) (c := k8c8) (by decide +kernel) rfl rfl rfl (by decide +kernel)
def codes1 : List Jvm.Cond := [Jvm.Cond.code x code maxLocals ret, Jvm.Cond.code ⟨cL, "pick", "(II)C"⟩ method_3_code 3 (some .char), Jvm.Cond.code ⟨cL, "raw", "(ZI[C)[C"⟩ method_5_code 4 (some (.array .char)), Jvm.Cond.code ⟨"java/lang/String", "<init>", "([C)V"⟩ jdk_42_method_3_code 2 none, Jvm.Cond.code ⟨"java/lang/String", "<init>", "([CIILjava/lang/Void;)V"⟩ jdk_42_method_149_code 6 none, Jvm.Cond.code ⟨"java/lang/Object", "<init>", "()V"⟩ object_method_1_code 1 none, Jvm.Cond.code ⟨"java/lang/StringUTF16", "compress", "([CII)[B"⟩ jdk_52_method_16_code 6 (some (.array .byte)), Jvm.Cond.code ⟨"java/lang/StringUTF16", "compress", "([CI[BII)I"⟩ jdk_52_method_21_code 7 (some .int), Jvm.Cond.code ⟨"java/lang/StringUTF16", "coderFromArrayLen", "([BI)B"⟩ jdk_52_method_15_code 2 (some .byte), Jvm.Cond.code ⟨cX, "<init>", "(Ljava/lang/String;Ljava/lang/String;)V"⟩ prog_195_method_1_code 3 none, Jvm.Cond.code ⟨"java/lang/String", "isEmpty", "()Z"⟩ jdk_42_method_55_code 1 (some .boolean), Jvm.Cond.code ⟨"java/lang/String", "charAt", "(I)C"⟩ jdk_42_method_56_code 2 (some .char), Jvm.Cond.code ⟨"java/lang/String", "isLatin1", "()Z"⟩ jdk_42_method_154_code 1 (some .boolean), Jvm.Cond.code ⟨"java/lang/StringLatin1", "charAt", "([BI)C"⟩ jdk_43_method_2_code 2 (some .char), Jvm.Cond.code ⟨"java/lang/String", "checkIndex", "(II)V"⟩ jdk_42_method_155_code 2 none, Jvm.Cond.code ⟨"jdk/internal/util/Preconditions", "checkIndex", "(IILjava/util/function/BiFunction;)I"⟩ jdk_41_method_11_code 3 (some .int), Jvm.Cond.code ⟨cX, "lineStarts", "(Ljava/lang/String;)[I"⟩ prog_195_method_2_code 5 (some (.array .int)), Jvm.Cond.code ⟨"java/util/ArrayList", "<init>", "()V"⟩ jdk_38_method_2_code 1 none, Jvm.Cond.code ⟨"java/util/AbstractList", "<init>", "()V"⟩ jdk_39_method_1_code 1 none, Jvm.Cond.code ⟨"java/util/AbstractCollection", "<init>", "()V"⟩ jdk_22_method_1_code 1 none, Jvm.Cond.code ⟨"java/lang/Integer", "valueOf", "(I)Ljava/lang/Integer;"⟩ jdk_33_method_22_code 1 (some (.object "java/lang/Integer")), Jvm.Cond.code ⟨"java/util/ArrayList", "add", "(Ljava/lang/Object;)Z"⟩ jdk_38_method_25_code 2 (some .boolean), Jvm.Cond.code ⟨"java/util/ArrayList", "add", "(Ljava/lang/Object;[Ljava/lang/Object;I)V"⟩ jdk_38_method_24_code 4 none, Jvm.Cond.code ⟨"java/util/ArrayList", "grow", "()[Ljava/lang/Object;"⟩ jdk_38_method_7_code 1 (some (.array (.object "java/lang/Object"))), Jvm.Cond.code ⟨"java/util/ArrayList", "grow", "(I)[Ljava/lang/Object;"⟩ jdk_38_method_6_code 4 (some (.array (.object "java/lang/Object"))), Jvm.Cond.code ⟨"java/lang/Math", "max", "(II)I"⟩ jdk_29_method_65_code 2 (some .int), Jvm.Cond.code ⟨"java/lang/String", "length", "()I"⟩ jdk_42_method_54_code 1 (some .int), Jvm.Cond.code ⟨"java/lang/String", "coder", "()B"⟩ jdk_42_method_152_code 1 (some .byte), Jvm.Cond.code ⟨cX, "lineBreakLength", "(Ljava/lang/CharSequence;I)I"⟩ prog_195_method_3_code 4 (some .int), Jvm.Cond.code ⟨"java/util/ArrayList", "size", "()I"⟩ jdk_38_method_8_code 1 (some .int), Jvm.Cond.code ⟨"java/util/ArrayList", "get", "(I)Ljava/lang/Object;"⟩ jdk_38_method_20_code 2 (some (.object "java/lang/Object")), Jvm.Cond.code ⟨"java/util/Objects", "checkIndex", "(II)I"⟩ jdk_31_method_17_code 2 (some .int), Jvm.Cond.code ⟨"java/util/ArrayList", "elementData", "(I)Ljava/lang/Object;"⟩ jdk_38_method_18_code 2 (some (.object "java/lang/Object")), Jvm.Cond.code ⟨"java/lang/Integer", "intValue", "()I"⟩ jdk_33_method_27_code 1 (some .int), Jvm.Cond.code ⟨cL, "start", "([CIII)I"⟩ method_4_code 5 (some .int), Jvm.Cond.code ⟨cX, "line", "(I)I"⟩ prog_195_method_6_code 5 (some .int), Jvm.Cond.code ⟨"java/lang/StringUTF16", "toBytes", "([CII)[B"⟩ jdk_52_method_14_code 5 (some (.array .byte)), Jvm.Cond.code ⟨"java/lang/StringUTF16", "newBytesFor", "(I)[B"⟩ jdk_52_method_2_code 1 (some (.array .byte)), Jvm.Cond.code ⟨"java/lang/StringUTF16", "newBytesLength", "(I)I"⟩ jdk_52_method_3_code 1 (some .int), Jvm.Cond.code ⟨"java/lang/StringUTF16", "putChar", "([BII)V"⟩ jdk_52_method_4_code 3 none, Jvm.Cond.code ⟨"java/lang/StringUTF16", "getChar", "([BI)C"⟩ jdk_52_method_5_code 2 (some .char), Jvm.Cond.code ⟨"java/lang/StringUTF16", "charAt", "([BI)C"⟩ jdk_52_method_83_code 2 (some .char), Jvm.Cond.code ⟨"java/lang/StringUTF16", "checkIndex", "(I[B)V"⟩ jdk_52_method_91_code 2 none, Jvm.Cond.code ⟨"java/lang/StringUTF16", "length", "([B)I"⟩ jdk_52_method_6_code 1 (some .int), Jvm.Cond.code ⟨"java/lang/String", "substring", "(I)Ljava/lang/String;"⟩ jdk_42_method_91_code 2 (some (.object "java/lang/String")), Jvm.Cond.code ⟨"java/lang/String", "substring", "(II)Ljava/lang/String;"⟩ jdk_42_method_92_code 5 (some (.object "java/lang/String")), Jvm.Cond.code ⟨"java/lang/String", "checkBoundsBeginEnd", "(III)V"⟩ jdk_42_method_158_code 3 none, Jvm.Cond.code ⟨"jdk/internal/util/Preconditions", "checkFromToIndex", "(IIILjava/util/function/BiFunction;)I"⟩ jdk_41_method_12_code 4 (some .int), Jvm.Cond.code ⟨"java/lang/StringUTF16", "newString", "([BII)Ljava/lang/String;"⟩ jdk_52_method_69_code 5 (some (.object "java/lang/String")), Jvm.Cond.code ⟨"java/lang/StringUTF16", "compress", "([BII)[B"⟩ jdk_52_method_17_code 6 (some (.array .byte)), Jvm.Cond.code ⟨"java/lang/StringUTF16", "compress", "([BI[BII)I"⟩ jdk_52_method_22_code 7 (some .int), Jvm.Cond.code ⟨"java/lang/StringUTF16", "checkBoundsOffCount", "(II[B)V"⟩ jdk_52_method_94_code 3 none, Jvm.Cond.code ⟨"java/lang/String", "checkBoundsOffCount", "(III)I"⟩ jdk_42_method_157_code 3 (some .int), Jvm.Cond.code ⟨"jdk/internal/util/Preconditions", "checkFromIndexSize", "(IIILjava/util/function/BiFunction;)I"⟩ jdk_41_method_13_code 4 (some .int), Jvm.Cond.code ⟨"java/lang/String", "<init>", "([BB)V"⟩ jdk_42_method_151_code 3 none]
set_option maxRecDepth 65536 in
theorem codes_eq : words1.filter isCode = codes1 := rfl
theorem w_codes : ∀ c ∈ words1.filter isCode, c.before args0 about1 = true := by
  rw [codes_eq]
  intro c hc
  simp only [codes1, List.mem_cons, List.not_mem_nil, or_false] at hc
  rcases hc with rfl | rfl | rfl | rfl | rfl | rfl | rfl | rfl | rfl | rfl | rfl | rfl | rfl | rfl | rfl | rfl | rfl | rfl | rfl | rfl | rfl | rfl | rfl | rfl | rfl | rfl | rfl | rfl | rfl | rfl | rfl | rfl | rfl | rfl | rfl | rfl | rfl | rfl | rfl | rfl | rfl | rfl | rfl | rfl | rfl | rfl | rfl | rfl | rfl | rfl | rfl | rfl | rfl | rfl | rfl
  · exact w_c0
  · exact w_c1
  · exact w_c2
  · exact w_c3
  · exact w_c4
  · exact w_c5
  · exact w_c6
  · exact w_c7
  · exact w_c8
  · exact w_c9
  · exact w_c10
  · exact w_c11
  · exact w_c12
  · exact w_c13
  · exact w_c14
  · exact w_c15
  · exact w_c16
  · exact w_c17
  · exact w_c18
  · exact w_c19
  · exact w_c20
  · exact w_c21
  · exact w_c22
  · exact w_c23
  · exact w_c24
  · exact w_c25
  · exact w_c26
  · exact w_c27
  · exact w_c28
  · exact w_c29
  · exact w_c30
  · exact w_c31
  · exact w_c32
  · exact w_c33
  · exact w_c34
  · exact w_c35
  · exact w_c36
  · exact w_c37
  · exact w_c38
  · exact w_c39
  · exact w_c40
  · exact w_c41
  · exact w_c42
  · exact w_c43
  · exact w_c44
  · exact w_c45
  · exact w_c46
  · exact w_c47
  · exact w_c48
  · exact w_c49
  · exact w_c50
  · exact w_c51
  · exact w_c52
  · exact w_c53
  · exact w_c54
set_option maxRecDepth 65536 in
theorem w_t1 : (words1.take 24).all (fun c => isCode c || c.before args0 about1) = true := by decide +kernel
set_option maxRecDepth 65536 in
theorem w_t2 : ((words1.drop 24).take 24).all (fun c => isCode c || c.before args0 about1) = true := by decide +kernel
set_option maxRecDepth 65536 in
theorem w_t3 : (((words1.drop 24).drop 24).take 24).all (fun c => isCode c || c.before args0 about1) = true := by decide +kernel
set_option maxRecDepth 65536 in
theorem w_t4 : ((((words1.drop 24).drop 24).drop 24).take 24).all (fun c => isCode c || c.before args0 about1) = true := by decide +kernel
set_option maxRecDepth 65536 in
theorem w_t5 : (((((words1.drop 24).drop 24).drop 24).drop 24).take 24).all (fun c => isCode c || c.before args0 about1) = true := by decide +kernel
set_option maxRecDepth 65536 in
theorem w_t6 : ((((((words1.drop 24).drop 24).drop 24).drop 24).drop 24).take 24).all (fun c => isCode c || c.before args0 about1) = true := by decide +kernel
set_option maxRecDepth 65536 in
theorem w_t7 : (((((((words1.drop 24).drop 24).drop 24).drop 24).drop 24).drop 24).take 24).all (fun c => isCode c || c.before args0 about1) = true := by decide +kernel
set_option maxRecDepth 65536 in
theorem w_t8 : ((((((((words1.drop 24).drop 24).drop 24).drop 24).drop 24).drop 24).drop 24).take 24).all (fun c => isCode c || c.before args0 about1) = true := by decide +kernel
set_option maxRecDepth 65536 in
theorem w_t9 : (((((((((words1.drop 24).drop 24).drop 24).drop 24).drop 24).drop 24).drop 24).drop 24).take 24).all (fun c => isCode c || c.before args0 about1) = true := by decide +kernel
set_option maxRecDepth 65536 in
theorem w_t10 : ((((((((((words1.drop 24).drop 24).drop 24).drop 24).drop 24).drop 24).drop 24).drop 24).drop 24).take 24).all (fun c => isCode c || c.before args0 about1) = true := by decide +kernel
set_option maxRecDepth 65536 in
theorem w_t11 : (((((((((((words1.drop 24).drop 24).drop 24).drop 24).drop 24).drop 24).drop 24).drop 24).drop 24).drop 24).take 24).all (fun c => isCode c || c.before args0 about1) = true := by decide +kernel
set_option maxRecDepth 65536 in
theorem w_t12 : ((((((((((((words1.drop 24).drop 24).drop 24).drop 24).drop 24).drop 24).drop 24).drop 24).drop 24).drop 24).drop 24).take 24).all (fun c => isCode c || c.before args0 about1) = true := by decide +kernel
set_option maxRecDepth 65536 in
theorem w_t13 : ((((((((((((words1.drop 24).drop 24).drop 24).drop 24).drop 24).drop 24).drop 24).drop 24).drop 24).drop 24).drop 24).drop 24).all (fun c => isCode c || c.before args0 about1) = true := by decide +kernel
theorem w_tables : (allAtoms (Jvm.Cond.code x code maxLocals ret :: tables_1)).before args0 about1 = true := by
  rw [allAtoms_all]
  show words1.all (fun c => c.before args0 about1) = true
  refine all_split ?_ w_codes
  rw [← List.take_append_drop 24 words1, List.all_append, w_t1, ← List.take_append_drop 24 (words1.drop 24), List.all_append, w_t2, ← List.take_append_drop 24 ((words1.drop 24).drop 24), List.all_append, w_t3, ← List.take_append_drop 24 (((words1.drop 24).drop 24).drop 24), List.all_append, w_t4, ← List.take_append_drop 24 ((((words1.drop 24).drop 24).drop 24).drop 24), List.all_append, w_t5, ← List.take_append_drop 24 (((((words1.drop 24).drop 24).drop 24).drop 24).drop 24), List.all_append, w_t6, ← List.take_append_drop 24 ((((((words1.drop 24).drop 24).drop 24).drop 24).drop 24).drop 24), List.all_append, w_t7, ← List.take_append_drop 24 (((((((words1.drop 24).drop 24).drop 24).drop 24).drop 24).drop 24).drop 24), List.all_append, w_t8, ← List.take_append_drop 24 ((((((((words1.drop 24).drop 24).drop 24).drop 24).drop 24).drop 24).drop 24).drop 24), List.all_append, w_t9, ← List.take_append_drop 24 (((((((((words1.drop 24).drop 24).drop 24).drop 24).drop 24).drop 24).drop 24).drop 24).drop 24), List.all_append, w_t10, ← List.take_append_drop 24 ((((((((((words1.drop 24).drop 24).drop 24).drop 24).drop 24).drop 24).drop 24).drop 24).drop 24).drop 24), List.all_append, w_t11, ← List.take_append_drop 24 (((((((((((words1.drop 24).drop 24).drop 24).drop 24).drop 24).drop 24).drop 24).drop 24).drop 24).drop 24).drop 24), List.all_append, w_t12, w_t13]
  rfl
set_option maxRecDepth 65536 in
theorem w_rest : rest_1_c.before args0 about1 = true := by decide +kernel
set_option maxRecDepth 65536 in
theorem w_case : (Jvm.Cond.and given_1 narrow_1).before args0 about1 = true := by decide +kernel
set_option maxRecDepth 65536 in
theorem w_consts : constsHeld consts_1 about1 := Jvm.Lit.constsHeldB_iff.mp (by decide +kernel)
theorem w_applies : (headSpec (Jvm.Cond.code x code maxLocals ret :: tables_1) room_1).applies x e0.platform about1 = true :=
  (Spec.applies_iff w_frames).mpr ⟨w_running, w_runnable, w_alone, w_named, w_hears, w_ripe, w_room, w_tables⟩
theorem atStart : AtStart classFile x code maxLocals ret World_1 tables_1 room_1 Calls_1 rest_1 Pre_1 launch0 p0 e0 about1 theMethod args0 below0 :=
  ⟨lists_1, trivial, launch0.admits_env _ _ _, launch0.least_env, fairChoices_fair.cas, fairChoices_fair.clock, w_frames, w_args, w_heap, w_applies, ⟨w_consts, trivial⟩, w_rest, w_case⟩
end start1
theorem witness_1 : WitnessClaimed_1 := ⟨start1.p0, start1.e0, start1.about1, start1.theMethod, start1.args0, start1.below0, start1.atStart⟩
end Jvm.Pilot.@@N@@
