import JvmDerived
import JvmDerived.Pilot.@@N@@Statement
import JvmDerived.Pilot.@@N@@Code
set_option linter.unusedVariables false
set_option linter.unusedSimpArgs false
namespace Jvm.RoadKit
open Sem ClassFile Op Lib Jvm.Stand Jvm.Free Jvm.LawKit
section New
variable {p : Program} {l : Launch} {e : Env} {R : Room} {s : State} {m : MethodId} {args : Array Value} {below : List Frame} {meth : Method} {c : Code} {T : State} {locs : List Loc} {cells slots : Nat}
theorem retI (X : Stand p l e R s m args below meth c T locs cells slots) (hx : p.tables.exec = Jvm.exec) {pc : Nat} {Ls : Array Slot} {z : Int32} {rest : List Value} (hret : meth.sig.returnType = some .int) (hd : decode c.code pc = .ok (.ireturn, 1)) {fs : List Frame}
    (hl : ∀ (f : JFrame) (acts : List Action), f.method = m → f.locked = none → f.entered = [] → (doReturn e (T.setTop f) acts (some (.int z))).1 = T.setFrames fs) : Steps p.tables e below (T.setTop (mkF m pc Ls (.int z :: rest))) (T.setFrames fs) := by
  have hm' : T.vm.method? m = some meth := X.method'
  have hn : narrow .int (.int z) = .int z := rfl
  show Steps p.tables e below (T.setTop { method := m, pc := pc, locals := Ls, stack := _ :: rest, locked := none }) _
  jvm_step X.here [X.here.top, hx, hd, hm', hret, hn]
  first | (intro acts; rw [hl _ acts rfl rfl rfl]) | rw [hl _ _ rfl rfl rfl]
  exact Steps.refl _
end New
end Jvm.RoadKit
namespace Jvm.Pilot.@@N@@
open Jvm Jvm.ClassFile Sem Op Lib Jvm.Free Jvm.Stand Jvm.LawKit Jvm.RoadKit Bundle Jvm.Pilot.@@N@@.Jvm.D
/-! 0. the walk's goal: from the state S the body ends, and Q says what it leaves -/
def own_G (p : Program) (e : Env) (below : List Frame) (s : State) (Q : Option Value → Heap → List Loc → Prop) (k n : Nat) (S : State) : Prop :=
  ∃ s₂ o, Steps p.tables e below S s₂ ∧ s₂.status = .running ∧ Ended s₂ below o ∧ ∃ v L, o = .returned v ∧ Q v s₂.heap L ∧ FrameEnd s o s₂ L k n
theorem own_go {p : Program} {e : Env} {below : List Frame} {s : State} {Q : Option Value → Heap → List Loc → Prop} {k n : Nat} {S S' : State} (h : ∀ t, Steps p.tables e below S' t → Steps p.tables e below S t) (g : own_G p e below s Q k n S') : own_G p e below s Q k n S := by
  obtain ⟨t, o, h1, h2⟩ := g
  exact ⟨t, o, h t h1, h2⟩
theorem own_G0 {p : Program} {e : Env} {below : List Frame} {s : State} {Q : Option Value → Heap → List Loc → Prop} {k n : Nat} {S : State} (g : own_G p e below s Q k n S) :
    ∃ s₂ o, Steps p.tables e below S s₂ ∧ s₂.status = .running ∧ Ended s₂ below o ∧ ∃ v L, o = .returned v ∧ Q v s₂.heap L ∧ FrameEnd s o s₂ L k n := g
/-- a body that writes nothing and returns r -/
def own_Q (r : Option Value) (h0 : Heap) (v : Option Value) (h : Heap) (L : List Loc) : Prop := v = r ∧ L = [] ∧ h = h0
/-- Java's x % y, x >>> y on ints and longs, (char) x -/
def own_rem (x y : Int32) : Int32 := x - (x / y) * y
def own_us (x y : Int32) : Int32 := (x.toUInt32 >>> (y &&& 31).toUInt32).toInt32
def own_usL (x : Int64) (y : Int32) : Int64 := (x.toUInt64 >>> (y &&& 0x3f).toInt64.toUInt64).toInt64
def own_c (x : Int32) : Int32 := x.toUInt32.toUInt16.toUInt32.toInt32
theorem own_eq {p : Program} {e : Env} {below : List Frame} {s : State} {h0 : Heap} {k n : Nat} {S : State} {a b : Int32} (h : a = b) (g : own_G p e below s (own_Q (some (.int b)) h0) k n S) : own_G p e below s (own_Q (some (.int a)) h0) k n S := h ▸ g
section Own
variable {p : Program} {l : Launch} {e : Env} {R : Room} {s : State} {m : MethodId} {args : Array Value} {below : List Frame} {meth : Method} {c : Code} {T : State} {locs : List Loc} {cells slots : Nat} {Q : Option Value → Heap → List Loc → Prop} {k n : Nat}
theorem own_retI (X : Stand p l e R s m args below meth c T locs cells slots) (hx : p.tables.exec = Jvm.exec) (hlk : meth.locks = false) {pc : Nat} {Ls : Array Slot} {z : Int32} {rest : List Value} (hret : meth.sig.returnType = some .int) (hd : decode c.code pc = .ok (.ireturn, 1)) (hc : cells ≤ k) (hs : slots ≤ n) (hq : Q (some (.int z)) T.heap locs) :
    own_G p e below s Q k n (T.setTop (mkF m pc Ls (.int z :: rest))) := by
  obtain ⟨fs, hr, hrun, hended, hW, hsame⟩ := X.leave (v := some (.int z)) (fun h => by rw [hret] at h; cases h) hlk
  exact ⟨_, _, retI X hx hret hd hr, hrun, hended, _, _, rfl, hq, ⟨_, rfl⟩, hW, hsame.mono hc hs⟩
theorem own_retN (X : Stand p l e R s m args below meth c T locs cells slots) (hx : p.tables.exec = Jvm.exec) (hlk : meth.locks = false) {pc : Nat} {Ls : Array Slot} {z : Int32} {t : FieldType} {rest : List Value} (hret : meth.sig.returnType = some t) (ht : t = .boolean ∨ t = .byte ∨ t = .char ∨ t = .short) (hd : decode c.code pc = .ok (.ireturn, 1)) (hc : cells ≤ k) (hs : slots ≤ n) (hq : Q (some (.int (nar t z))) T.heap locs) :
    own_G p e below s Q k n (T.setTop (mkF m pc Ls (.int z :: rest))) := by
  obtain ⟨fs, hr, hrun, hended, hW, hsame⟩ := X.leave (v := some (.int (nar t z))) (fun h => by rw [hret] at h; cases h) hlk
  exact ⟨_, _, retN X hx hret ht hd hr, hrun, hended, _, _, rfl, hq, ⟨_, rfl⟩, hW, hsame.mono hc hs⟩
theorem own_retJ (X : Stand p l e R s m args below meth c T locs cells slots) (hx : p.tables.exec = Jvm.exec) (hlk : meth.locks = false) {pc : Nat} {Ls : Array Slot} {z : Int64} (hret : meth.sig.returnType = some .long) (hd : decode c.code pc = .ok (.lreturn, 1)) (hc : cells ≤ k) (hs : slots ≤ n) (hq : Q (some (.long z)) T.heap locs) :
    own_G p e below s Q k n (T.setTop (mkF m pc Ls [.long z])) := by
  obtain ⟨fs, hr, hrun, hended, hW, hsame⟩ := X.leave (v := some (.long z)) (fun h => by rw [hret] at h; cases h) hlk
  exact ⟨_, _, X.lreturnOut hx hret hd hr, hrun, hended, _, _, rfl, hq, ⟨_, rfl⟩, hW, hsame.mono hc hs⟩
theorem own_retA (X : Stand p l e R s m args below meth c T locs cells slots) (hx : p.tables.exec = Jvm.exec) (hlk : meth.locks = false) {pc : Nat} {Ls : Array Slot} {w : Value} {t : FieldType} (hw : w.isRef = true) (hret : meth.sig.returnType = some t) (ht : t.isReference = true) (hd : decode c.code pc = .ok (.areturn, 1)) (hc : cells ≤ k) (hs : slots ≤ n) (hq : Q (some w) T.heap locs) :
    own_G p e below s Q k n (T.setTop (mkF m pc Ls [w])) := by
  obtain ⟨fs, hr, hrun, hended, hW, hsame⟩ := X.leave (v := some w) (fun h => by rw [hret] at h; cases h) hlk
  exact ⟨_, _, X.areturnOut hx hw hret ht hd hr, hrun, hended, _, _, rfl, hq, ⟨_, rfl⟩, hW, hsame.mono hc hs⟩
theorem own_retV (X : Stand p l e R s m args below meth c T locs cells slots) (hx : p.tables.exec = Jvm.exec) (hlk : meth.locks = false) {pc : Nat} {Ls : Array Slot} (hret : meth.sig.returnType = none) (hd : decode c.code pc = .ok (.return_, 1)) (hc : cells ≤ k) (hs : slots ≤ n) (hq : Q none T.heap locs) :
    own_G p e below s Q k n (T.setTop (mkF m pc Ls [])) := by
  obtain ⟨fs, hr, hrun, hended, hW, hsame⟩ := X.leave (v := none) (fun _ => rfl) hlk
  exact ⟨_, _, X.returnOut hx hret hd hr, hrun, hended, _, _, rfl, hq, ⟨_, rfl⟩, hW, hsame.mono hc hs⟩
/-- a static call of a body that writes nothing -/
theorem own_call (X : Stand p l e R s m args below meth c T locs cells slots) (hx : p.tables.exec = Jvm.exec) {Z : State} (hZ : Z.Warmed39 s.vm) {a0 : Array Value} {own : String} {index : Nat} {y : MethodName} {bytes : ByteArray} {maxL : Nat} {ret : Option FieldType} {rm : Room} (hown : s.vm.findClass own = some m.cls)
    (w1 : (Cond.methodLink own index y).before a0 Z = true) (w2 : (Cond.static y).before a0 Z = true) (w3 : (Cond.initialized y.cls).before a0 Z = true) (w4 : (Cond.code y bytes maxL ret).before a0 Z = true) (hy : y.cls ≠ "java/lang/invoke/MethodHandle" ∧ y.cls ≠ "java/lang/invoke/VarHandle")
    {as' : Array Value} {h : Heap} {r : Option Value} (hM : MetFree l y (head1 [Cond.code y bytes maxL ret] rm) (fun a U => a = as' ∧ Z.Warmed39 U.vm ∧ U.heap = h) (fun _ _ _ _ _ => True) (fun _ U o U' => ∃ v L, o = .returned v ∧ own_Q r h v U'.heap L ∧ FrameEnd U o U' L rm.cells rm.slots)) (hc0 : rm.cells = 0) (hs0 : rm.slots = 0) (eT : T.heap = h)
    {W : Nat} (hf : rm.frames + 1 ≤ R.frames) (hl : W + (maxL + 11) + rm.locals ≤ R.locals) (hcR : cells ≤ R.cells) (hsR : slots ≤ R.slots) {g : JFrame} (hg : g.method = m) (hsize : g.locals.size = c.maxLocals) {argsL rest : List Value} (hlen : ∀ sig, parseMethodDescriptor y.desc = some sig → argsL.length = sig.parameters.length) (has : argsL.toArray = as') (hstack : g.stack = argsL.reverse ++ rest)
    (hW : 2 * g.monitorRoom + (rest.map fun v => v.category).sum ≤ W) (hdg : decode c.code g.pc = .ok (.invokestatic index, 3)) :
    ∃ T', Stand p l e R s m args below meth c T' locs cells slots ∧ T'.heap = h ∧ ∀ t, Steps p.tables e below (T'.setTop { g with pc := g.pc + 3, stack := r.toList ++ rest }) t → Steps p.tables e below (T.setTop g) t := by
  obtain ⟨_, _, ⟨T2, L2, k2, n2⟩, -, X2, ⟨Lc2, hQ2, l2, y2, z2⟩, st2⟩ := Jvm.LawKit.callS X hx hown (mvT hZ w1) (mvT hZ w2) (mvT hZ w3) (mvT hZ w4) hy (backOf (W := W) hM hZ w4 w3 hf hl) hg hsize hlen hstack hW hdg (fun _ _ => ⟨has, eT, (by show cells + rm.cells ≤ R.cells; rw [hc0]; exact hcR), (by show slots + rm.slots ≤ R.slots; rw [hs0]; exact hsR)⟩)
  dsimp only [Pt.U, Pt.locs, Pt.cells, Pt.slots] at X2 l2 y2 z2 st2 hQ2
  obtain ⟨rfl, rfl, e2⟩ := hQ2
  rw [hc0] at y2
  rw [hs0] at z2
  rw [List.append_nil] at l2
  subst l2 y2 z2
  exact ⟨T2, X2, e2, st2⟩
end Own

def own_QF (r : Option Value) (n0 : Nat) (v : Option Value) (h : Heap) (L : List Loc) : Prop := v = r ∧ Fr n0 L
theorem own_eqF {p : Program} {e : Env} {below : List Frame} {s : State} {n0 : Nat} {k n : Nat} {S : State} {a b : Int32} (h : a = b) (g : own_G p e below s (own_QF (some (.int b)) n0) k n S) : own_G p e below s (own_QF (some (.int a)) n0) k n S := h ▸ g
/-! arrays: at a stands an array of n values, the j-th f j -/
def own_A (Z : State) (h : Heap) (a : Addr) (ty : FieldType) (n : Int32) (f : Int32 → Int32) : Prop :=
  ∃ c : Cell, Arr Z h a c ty ∧ c.slots.size = n.toNatClampNeg ∧ ¬ n < 0 ∧ ∀ j : Int32, ¬ j < 0 → j < n → c.slots[j.toNatClampNeg]? = some (.int (f j))
def own_set (f : Int32 → Int32) (j v : Int32) (i : Int32) : Int32 := if i = j then v else f i
theorem own_clamp {j n : Int32} (h0 : ¬ j < 0) (h1 : j < n) : j.toNatClampNeg < n.toNatClampNeg := by
  rw [Int32.lt_iff_toInt_lt] at h0 h1
  have : (0 : Int32).toInt = 0 := rfl
  show j.toInt.toNat < n.toInt.toNat
  omega
theorem own_clinj {i j : Int32} (h0 : ¬ i < 0) (h1 : ¬ j < 0) (h : i.toNatClampNeg = j.toNatClampNeg) : i = j := by
  rw [Int32.lt_iff_toInt_lt] at h0 h1
  have z : (0 : Int32).toInt = 0 := rfl
  have e : i.toInt.toNat = j.toInt.toNat := h
  apply Int32.toInt_inj.mp
  omega
theorem own_A_new {Z : State} {h : Heap} {a : Addr} {k : ClassId} {ty : FieldType} {n : Int32} (A : Arr Z h a (newA k ty n) ty) (q : ¬ n < 0) (hd : defaultValue ty = .int 0) : own_A Z h a ty n (fun _ => 0) := by
  obtain ⟨c, h1, -, h3, h4, h5, -⟩ := Arv.new A q
  refine ⟨c, h1, h3, q, fun j h0 hj => ?_⟩
  have := h5 j.toNatClampNeg (by rw [h3]; exact own_clamp h0 hj)
  rw [this, hd]
  rfl
theorem own_A_set {Z : State} {h h' : Heap} {a : Addr} {ty : FieldType} {n j v : Int32} {f : Int32 → Int32} (A : own_A Z h a ty n f) (h0 : ¬ j < 0) (h1 : j < n) (W : Wr h h' a j.toNatClampNeg (.int v)) : own_A Z h' a ty n (own_set f j v) := by
  obtain ⟨c, A1, A2, A3, A4⟩ := A
  refine ⟨_, A1.same W, by rw [← A2]; simp [Cell.setSlot], A3, fun i i0 i1 => ?_⟩
  show (c.slots.setIfInBounds j.toNatClampNeg (.int v))[i.toNatClampNeg]? = _
  by_cases e : i = j
  · subst e
    rw [Array.getElem?_setIfInBounds_self_of_lt (by rw [A2]; exact own_clamp h0 h1)]
    simp [own_set]
  · rw [Array.getElem?_setIfInBounds_ne (fun q => e (own_clinj i0 h0 q.symm)), A4 i i0 i1]
    simp [own_set, e]
theorem own_A_other {Z : State} {h h' : Heap} {a b : Addr} {ty : FieldType} {n : Int32} {f : Int32 → Int32} {sl : Nat} {v : Value} (A : own_A Z h a ty n f) (W : Wr h h' b sl v) (q : a ≠ b) : own_A Z h' a ty n f := by
  obtain ⟨c, A1, A2⟩ := A
  exact ⟨c, A1.other W q, A2⟩
theorem own_A_ext {Z : State} {h h' : Heap} {a : Addr} {ty : FieldType} {n : Int32} {f : Int32 → Int32} (A : own_A Z h a ty n f) (E : Ext h h') : own_A Z h' a ty n f := by
  obtain ⟨c, A1, A2⟩ := A
  exact ⟨c, A1.ext E, A2⟩
theorem own_A_lt {Z : State} {h : Heap} {a : Addr} {ty : FieldType} {n : Int32} {f : Int32 → Int32} (A : own_A Z h a ty n f) : a < h.size := by
  obtain ⟨c, A1, A2⟩ := A
  exact A1.lt
section OwnA
variable {p : Program} {l : Launch} {e : Env} {R : Room} {s : State} {m : MethodId} {args : Array Value} {below : List Frame} {meth : Method} {c : Code} {T : State} {locs : List Loc} {cells slots : Nat} {Z : State} {h : Heap} {n0 : Nat}
theorem own_new (X : Stand p l e R s m args below meth c T locs cells slots) (hx : p.tables.exec = Jvm.exec) (hZ : Z.Warmed39 s.vm) {a0 : Array Value} {aty : ArrayType} (w : (Cond.arrayClass (newarray.typeOf aty)).before a0 Z = true) (eT : T.heap = h) (hn0 : n0 ≤ h.size) (hdv : defaultValue (newarray.typeOf aty) = .int 0) {g : JFrame} (hg : g.method = m) (hd : decode c.code g.pc = .ok (.newarray aty, 2)) {n : Int32} {rest : List Value} (hs : g.stack = .int n :: rest)
    (hn : ¬ n < 0) {cap : Nat} (hcap : n.toNatClampNeg ≤ cap) (hb : cap * 8 ≤ 536870912) (hc : cells + 1 ≤ R.cells) (hl : slots + cap ≤ R.slots) :
    ∃ T' h' a, Stand p l e R s m args below meth c T' locs (cells + 1) (slots + cap) ∧ T'.heap = h' ∧ Ext h h' ∧ a = h.size ∧ n0 ≤ a ∧ own_A Z h' a (newarray.typeOf aty) n (fun _ => 0) ∧
      ∀ target, Steps p.tables e below (T'.setTop { g with pc := g.pc + 2, stack := .ref a :: rest }) target → Steps p.tables e below (T.setTop g) target := by
  obtain ⟨T', h', cA, X', e', E', A', st⟩ := newP X hx hZ w eT hg hd hs hn hcap hb hc hl
  exact ⟨T', h', h.size, X', e', E', rfl, hn0, own_A_new A' hn hdv, st⟩
theorem own_stC (X : Stand p l e R s m args below meth c T locs cells slots) (hx : p.tables.exec = Jvm.exec) (hZ : Z.Warmed39 s.vm) (eT : T.heap = h) {a : Addr} {n : Int32} {f : Int32 → Int32} (A : own_A Z h a .char n f) (N : Fr n0 locs) (ha : n0 ≤ a) {j x : Int32} (h0 : ¬ j < 0) (h1 : j < n) {g : JFrame} (hg : g.method = m) {rest : List Value} (hs : g.stack = .int x :: .int j :: .ref a :: rest) (hd : decode c.code g.pc = .ok (.castore, 1)) :
    ∃ T' h' locs', Stand p l e R s m args below meth c T' locs' cells slots ∧ T'.heap = h' ∧ Fr n0 locs' ∧ own_A Z h' a .char n (own_set f j (nar .char x)) ∧ Wr h h' a j.toNatClampNeg (.int (nar .char x)) ∧
      ∀ target, Steps p.tables e below (T'.setTop { g with pc := g.pc + 1, stack := rest }) target → Steps p.tables e below (T.setTop g) target := by
  obtain ⟨cl, Ar, Sz, Hn, Hf⟩ := A
  obtain ⟨T', h', X', e', W', st⟩ := stC X hx hZ eT Ar (inb_of Sz ⟨h0, h1⟩) hg hs hd
  exact ⟨T', h', _, X', e', Fr.snoc X' N ha, own_A_set ⟨cl, Ar, Sz, Hn, Hf⟩ h0 h1 W', W', st⟩
theorem own_stI (X : Stand p l e R s m args below meth c T locs cells slots) (hx : p.tables.exec = Jvm.exec) (hZ : Z.Warmed39 s.vm) (eT : T.heap = h) {a : Addr} {n : Int32} {f : Int32 → Int32} (A : own_A Z h a .int n f) (N : Fr n0 locs) (ha : n0 ≤ a) {j x : Int32} (h0 : ¬ j < 0) (h1 : j < n) {g : JFrame} (hg : g.method = m) {rest : List Value} (hs : g.stack = .int x :: .int j :: .ref a :: rest) (hd : decode c.code g.pc = .ok (.iastore, 1)) :
    ∃ T' h' locs', Stand p l e R s m args below meth c T' locs' cells slots ∧ T'.heap = h' ∧ Fr n0 locs' ∧ own_A Z h' a .int n (own_set f j x) ∧ Wr h h' a j.toNatClampNeg (.int x) ∧
      ∀ target, Steps p.tables e below (T'.setTop { g with pc := g.pc + 1, stack := rest }) target → Steps p.tables e below (T.setTop g) target := by
  obtain ⟨cl, Ar, Sz, Hn, Hf⟩ := A
  obtain ⟨T', h', X', e', W', st⟩ := stI X hx hZ eT Ar (inb_of Sz ⟨h0, h1⟩) hg hs hd
  exact ⟨T', h', _, X', e', Fr.snoc X' N ha, own_A_set ⟨cl, Ar, Sz, Hn, Hf⟩ h0 h1 W', W', st⟩
theorem own_stB (X : Stand p l e R s m args below meth c T locs cells slots) (hx : p.tables.exec = Jvm.exec) (hZ : Z.Warmed39 s.vm) (eT : T.heap = h) {a : Addr} {n : Int32} {f : Int32 → Int32} (A : own_A Z h a .byte n f) (N : Fr n0 locs) (ha : n0 ≤ a) {j x : Int32} (h0 : ¬ j < 0) (h1 : j < n) {g : JFrame} (hg : g.method = m) {rest : List Value} (hs : g.stack = .int x :: .int j :: .ref a :: rest) (hd : decode c.code g.pc = .ok (.bastore, 1)) :
    ∃ T' h' locs', Stand p l e R s m args below meth c T' locs' cells slots ∧ T'.heap = h' ∧ Fr n0 locs' ∧ own_A Z h' a .byte n (own_set f j (nar .byte x)) ∧ Wr h h' a j.toNatClampNeg (.int (nar .byte x)) ∧
      ∀ target, Steps p.tables e below (T'.setTop { g with pc := g.pc + 1, stack := rest }) target → Steps p.tables e below (T.setTop g) target := by
  obtain ⟨cl, Ar, Sz, Hn, Hf⟩ := A
  obtain ⟨T', h', X', e', W', st⟩ := stB X hx hZ eT Ar (inb_of Sz ⟨h0, h1⟩) hg hs hd
  exact ⟨T', h', _, X', e', Fr.snoc X' N ha, own_A_set ⟨cl, Ar, Sz, Hn, Hf⟩ h0 h1 W', W', st⟩
theorem own_ldC (X : Stand p l e R s m args below meth c T locs cells slots) (hx : p.tables.exec = Jvm.exec) (hZ : Z.Warmed39 s.vm) (eT : T.heap = h) {a : Addr} {n : Int32} {f : Int32 → Int32} (A : own_A Z h a .char n f) {j : Int32} (h0 : ¬ j < 0) (h1 : j < n) {g : JFrame} (hg : g.method = m) {rest : List Value} (hs : g.stack = .int j :: .ref a :: rest) (hd : decode c.code g.pc = .ok (.caload, 1)) :
    ∀ target, Steps p.tables e below (T.setTop { g with pc := g.pc + 1, stack := .int (f j) :: rest }) target → Steps p.tables e below (T.setTop g) target := by
  obtain ⟨cl, Ar, Sz, Hn, Hf⟩ := A
  exact fun t k => X.caload hx (j := j) (v := .int (f j)) (by rw [eT]; exact Ar.1) (State.isArrayOf_alike hZ.alike Ar.2.1) Ar.2.2 (inb_of Sz ⟨h0, h1⟩) (Hf j h0 h1) hg hs hd t k
theorem own_ldI (X : Stand p l e R s m args below meth c T locs cells slots) (hx : p.tables.exec = Jvm.exec) (hZ : Z.Warmed39 s.vm) (eT : T.heap = h) {a : Addr} {n : Int32} {f : Int32 → Int32} (A : own_A Z h a .int n f) {j : Int32} (h0 : ¬ j < 0) (h1 : j < n) {g : JFrame} (hg : g.method = m) {rest : List Value} (hs : g.stack = .int j :: .ref a :: rest) (hd : decode c.code g.pc = .ok (.iaload, 1)) :
    ∀ target, Steps p.tables e below (T.setTop { g with pc := g.pc + 1, stack := .int (f j) :: rest }) target → Steps p.tables e below (T.setTop g) target := by
  obtain ⟨cl, Ar, Sz, Hn, Hf⟩ := A
  exact fun t k => X.iaload hx (j := j) (v := .int (f j)) (by rw [eT]; exact Ar.1) (State.isArrayOf_alike hZ.alike Ar.2.1) Ar.2.2 (inb_of Sz ⟨h0, h1⟩) (Hf j h0 h1) hg hs hd t k
theorem own_ldB (X : Stand p l e R s m args below meth c T locs cells slots) (hx : p.tables.exec = Jvm.exec) (hZ : Z.Warmed39 s.vm) (eT : T.heap = h) {a : Addr} {n : Int32} {f : Int32 → Int32} (A : own_A Z h a .byte n f) {j : Int32} (h0 : ¬ j < 0) (h1 : j < n) {g : JFrame} (hg : g.method = m) {rest : List Value} (hs : g.stack = .int j :: .ref a :: rest) (hd : decode c.code g.pc = .ok (.baload, 1)) :
    ∀ target, Steps p.tables e below (T.setTop { g with pc := g.pc + 1, stack := .int (f j) :: rest }) target → Steps p.tables e below (T.setTop g) target := by
  obtain ⟨cl, Ar, Sz, Hn, Hf⟩ := A
  exact fun t k => X.baloadBytes hx (j := j) (v := .int (f j)) (by rw [eT]; exact Ar.1) (State.isArrayOf_alike hZ.alike Ar.2.1) Ar.2.2 (inb_of Sz ⟨h0, h1⟩) (Hf j h0 h1) hg hs hd t k
theorem own_len (X : Stand p l e R s m args below meth c T locs cells slots) (hx : p.tables.exec = Jvm.exec) (hZ : Z.Warmed39 s.vm) (eT : T.heap = h) {a : Addr} {ty : FieldType} {n : Int32} {f : Int32 → Int32} (A : own_A Z h a ty n f) {g : JFrame} (hg : g.method = m) {rest : List Value} (hs : g.stack = .ref a :: rest) (hd : decode c.code g.pc = .ok (.arraylength, 1)) :
    ∀ target, Steps p.tables e below (T.setTop { g with pc := g.pc + 1, stack := .int n :: rest }) target → Steps p.tables e below (T.setTop g) target := by
  obtain ⟨cl, Ar, Sz, Hn, Hf⟩ := A
  intro t k
  refine X.arraylength hx (by rw [eT]; exact Ar.1) (State.isArrayOf_alike hZ.alike Ar.2.1) hg hs hd t ?_
  rw [len_of Sz Hn]
  exact k
end OwnA

/-! calls that write: what they return, that nothing old was written, and what P says of the heap they leave -/
def own_QE (r : Option Value) (n0 : Nat) (P : Heap → Prop) (v : Option Value) (h : Heap) (L : List Loc) : Prop := v = r ∧ Fr n0 L ∧ P h
section OwnO
variable {p : Program} {l : Launch} {e : Env} {R : Room} {s : State} {m : MethodId} {args : Array Value} {below : List Frame} {meth : Method} {c : Code} {T : State} {locs : List Loc} {cells slots : Nat} {Z : State} {h : Heap} {n0 : Nat} {a0 : Array Value}
theorem own_newO (X : Stand p l e R s m args below meth c T locs cells slots) (hx : p.tables.exec = Jvm.exec) (hZ : Z.Warmed39 s.vm) {own C : String} {index n : Nat} (hown : s.vm.findClass own = some m.cls) (w : (Cond.classLink own index C).before a0 Z = true) (wi : (Cond.instantiable C n).before a0 Z = true) (wz : (Cond.initialized C).before a0 Z = true) (eT : T.heap = h) (hn0 : n0 ≤ h.size)
    {g : JFrame} (hg : g.method = m) (hd : decode c.code g.pc = .ok (.new index, 3)) (hc : cells + 1 ≤ R.cells) (hl : slots + n ≤ R.slots) :
    ∃ T' h' a, Stand p l e R s m args below meth c T' locs (cells + 1) (slots + n) ∧ T'.heap = h' ∧ Ext h h' ∧ a = h.size ∧ n0 ≤ a ∧ n0 ≤ h'.size ∧ Exa Z h' a C ∧ (∀ {O nm d : String} {ty : FieldType}, Laid Z a0 C O nm d → parseFieldDescriptor d = some ty → Fld Z h' a O nm d (defaultValue ty)) ∧
      ∀ target, Steps p.tables e below (T'.setTop { g with pc := g.pc + 3, stack := .ref a :: g.stack }) target → Steps p.tables e below (T.setTop g) target := by
  obtain ⟨T', h', X', e', E', A', D', -, st⟩ := newO X hx hZ hown w wi wz eT hg hd hc hl
  exact ⟨T', h', h.size, X', e', E', rfl, hn0, Nat.le_trans hn0 E'.1, A', D', st⟩
theorem own_callI (X : Stand p l e R s m args below meth c T locs cells slots) (hx : p.tables.exec = Jvm.exec) (hZ : Z.Warmed39 s.vm) {own : String} {index : Nat} {y : MethodName} {bytes : ByteArray} {maxL : Nat} {rm : Room} (hy1 : y.name = "<init>") (hown : s.vm.findClass own = some m.cls)
    (w1 : (Cond.methodLink own index y).before a0 Z = true) (w2 : (Cond.instanceMethod y).before a0 Z = true) (w3 : (Cond.code y bytes maxL none).before a0 Z = true) (w4 : (Cond.initialized y.cls).before a0 Z = true) (hy : y.cls ≠ "java/lang/invoke/MethodHandle" ∧ y.cls ≠ "java/lang/invoke/VarHandle")
    {as' : Array Value} {P : Heap → Prop} (hM : MetFree l y (head1 [Cond.code y bytes maxL none] rm) (fun a U => a = as' ∧ Z.Warmed39 U.vm ∧ U.heap = h) (fun _ _ _ _ _ => True) (fun _ U o U' => ∃ v L, o = .returned v ∧ own_QE none n0 P v U'.heap L ∧ FrameEnd U o U' L rm.cells rm.slots)) (eT : T.heap = h) (N : Fr n0 locs)
    {W : Nat} (hf : rm.frames + 1 ≤ R.frames) (hl : W + (maxL + 11) + rm.locals ≤ R.locals) (hcR : cells + rm.cells ≤ R.cells) (hsR : slots + rm.slots ≤ R.slots) {g : JFrame} (hg : g.method = m) (hsize : g.locals.size = c.maxLocals) {b : Addr} {argsL rest : List Value} (hlen : ∀ sig, parseMethodDescriptor y.desc = some sig → argsL.length = sig.parameters.length) (has : (.ref b :: argsL).toArray = as') (hstack : g.stack = argsL.reverse ++ .ref b :: rest)
    (hW : 2 * g.monitorRoom + (rest.map fun v => v.category).sum ≤ W) (hdg : decode c.code g.pc = .ok (.invokespecial index, 3)) :
    ∃ T' h' locs', Stand p l e R s m args below meth c T' locs' (cells + rm.cells) (slots + rm.slots) ∧ T'.heap = h' ∧ Fr n0 locs' ∧ P h' ∧ ∀ t, Steps p.tables e below (T'.setTop { g with pc := g.pc + 3, stack := rest }) t → Steps p.tables e below (T.setTop g) t := by
  obtain ⟨_, _, ⟨T2, L2, k2, n2⟩, -, X2, ⟨Lc2, hQ2, l2, y2, z2⟩, st2⟩ := X.specialBack hx (y := y) hy1 hown (mvT hZ w1) (mvT hZ w2) (mvT hZ w3) hy (backOf (W := W) hM hZ w3 w4 hf hl) hg hsize (Steps.refl _) hlen hstack hW hdg (fun _ _ => ⟨has, eT, hcR, hsR⟩)
  dsimp only [Pt.U, Pt.locs, Pt.cells, Pt.slots] at X2 l2 y2 z2 st2 hQ2
  subst l2 y2 z2
  obtain ⟨rfl, N2, P2⟩ := hQ2
  exact ⟨T2, _, _, X2, rfl, Fr.app N N2, P2, fun t k => st2.trans k⟩
theorem own_callV (X : Stand p l e R s m args below meth c T locs cells slots) (hx : p.tables.exec = Jvm.exec) (hZ : Z.Warmed39 s.vm) {own C : String} {index : Nat} {y : MethodName} {bytes : ByteArray} {maxL : Nat} {ret : Option FieldType} {rm : Room} (hown : s.vm.findClass own = some m.cls)
    (w1 : (Cond.methodLink own index y).before a0 Z = true) (w2 : (Cond.declares y).before a0 Z = true) (w3 : (Cond.selects C y y).before a0 Z = true) (w4 : (Cond.instanceMethod y).before a0 Z = true) (w5 : (Cond.code y bytes maxL ret).before a0 Z = true) (w6 : (Cond.initialized y.cls).before a0 Z = true) (hy : y.cls ≠ "java/lang/invoke/MethodHandle" ∧ y.cls ≠ "java/lang/invoke/VarHandle")
    {as' : Array Value} {r : Option Value} (hM : MetFree l y (head1 [Cond.code y bytes maxL ret] rm) (fun a U => a = as' ∧ Z.Warmed39 U.vm ∧ U.heap = h) (fun _ _ _ _ _ => True) (fun _ U o U' => ∃ v L, o = .returned v ∧ own_Q r h v U'.heap L ∧ FrameEnd U o U' L rm.cells rm.slots)) (hc0 : rm.cells = 0) (hs0 : rm.slots = 0) (eT : T.heap = h) {b : Addr} (E : Exa Z h b C)
    {W : Nat} (hf : rm.frames + 1 ≤ R.frames) (hl : W + (maxL + 11) + rm.locals ≤ R.locals) (hcR : cells ≤ R.cells) (hsR : slots ≤ R.slots) {g : JFrame} (hg : g.method = m) (hsize : g.locals.size = c.maxLocals) {argsL rest : List Value} (hlen : ∀ sig, parseMethodDescriptor y.desc = some sig → argsL.length = sig.parameters.length) (has : (.ref b :: argsL).toArray = as') (hstack : g.stack = argsL.reverse ++ .ref b :: rest)
    (hW : 2 * g.monitorRoom + (rest.map fun v => v.category).sum ≤ W) (hdg : decode c.code g.pc = .ok (.invokevirtual index, 3)) :
    ∃ T', Stand p l e R s m args below meth c T' locs cells slots ∧ T'.heap = h ∧ ∀ t, Steps p.tables e below (T'.setTop { g with pc := g.pc + 3, stack := r.toList ++ rest }) t → Steps p.tables e below (T.setTop g) t := by
  obtain ⟨cB, kB, q1, -, q3⟩ := isOf hZ eT E
  obtain ⟨_, _, ⟨T2, L2, k2, n2⟩, -, X2, ⟨Lc2, hQ2, l2, y2, z2⟩, st2⟩ := X.virtualBack hx (y := y) (z := y) hown (mvT hZ w1) (mvT hZ w2) (notFace_of_selects (args := #[]) (mvT hZ w3)) (mvT hZ w3) (mvT hZ w4) hy (backOf (W := W) hM hZ w5 w6 hf hl) q1 q3 hg hsize (Steps.refl _) hlen hstack hW hdg (fun _ _ => ⟨has, eT, (by show cells + rm.cells ≤ R.cells; rw [hc0]; exact hcR), (by show slots + rm.slots ≤ R.slots; rw [hs0]; exact hsR)⟩)
  dsimp only [Pt.U, Pt.locs, Pt.cells, Pt.slots] at X2 l2 y2 z2 st2 hQ2
  obtain ⟨rfl, rfl, e2⟩ := hQ2
  rw [hc0] at y2
  rw [hs0] at z2
  rw [List.append_nil] at l2
  subst l2 y2 z2
  exact ⟨T2, X2, e2, fun t k => st2.trans k⟩
theorem own_callW (X : Stand p l e R s m args below meth c T locs cells slots) (hx : p.tables.exec = Jvm.exec) (hZ : Z.Warmed39 s.vm) {own C : String} {index : Nat} {y : MethodName} {bytes : ByteArray} {maxL : Nat} {ret : Option FieldType} {rm : Room} (hown : s.vm.findClass own = some m.cls)
    (w1 : (Cond.methodLink own index y).before a0 Z = true) (w2 : (Cond.declares y).before a0 Z = true) (w3 : (Cond.selects C y y).before a0 Z = true) (w4 : (Cond.instanceMethod y).before a0 Z = true) (w5 : (Cond.code y bytes maxL ret).before a0 Z = true) (w6 : (Cond.initialized y.cls).before a0 Z = true) (hy : y.cls ≠ "java/lang/invoke/MethodHandle" ∧ y.cls ≠ "java/lang/invoke/VarHandle")
    {as' : Array Value} {r : Option Value} {P : Heap → Prop} (hM : MetFree l y (head1 [Cond.code y bytes maxL ret] rm) (fun a U => a = as' ∧ Z.Warmed39 U.vm ∧ U.heap = h) (fun _ _ _ _ _ => True) (fun _ U o U' => ∃ v L, o = .returned v ∧ own_QE r n0 P v U'.heap L ∧ FrameEnd U o U' L rm.cells rm.slots)) (eT : T.heap = h) (N : Fr n0 locs) {b : Addr} (E : Exa Z h b C)
    {W : Nat} (hf : rm.frames + 1 ≤ R.frames) (hl : W + (maxL + 11) + rm.locals ≤ R.locals) (hcR : cells + rm.cells ≤ R.cells) (hsR : slots + rm.slots ≤ R.slots) {g : JFrame} (hg : g.method = m) (hsize : g.locals.size = c.maxLocals) {argsL rest : List Value} (hlen : ∀ sig, parseMethodDescriptor y.desc = some sig → argsL.length = sig.parameters.length) (has : (.ref b :: argsL).toArray = as') (hstack : g.stack = argsL.reverse ++ .ref b :: rest)
    (hW : 2 * g.monitorRoom + (rest.map fun v => v.category).sum ≤ W) (hdg : decode c.code g.pc = .ok (.invokevirtual index, 3)) :
    ∃ T' h' locs', Stand p l e R s m args below meth c T' locs' (cells + rm.cells) (slots + rm.slots) ∧ T'.heap = h' ∧ Fr n0 locs' ∧ P h' ∧ ∀ t, Steps p.tables e below (T'.setTop { g with pc := g.pc + 3, stack := r.toList ++ rest }) t → Steps p.tables e below (T.setTop g) t := by
  obtain ⟨cB, kB, q1, -, q3⟩ := isOf hZ eT E
  obtain ⟨_, _, ⟨T2, L2, k2, n2⟩, -, X2, ⟨Lc2, hQ2, l2, y2, z2⟩, st2⟩ := X.virtualBack hx (y := y) (z := y) hown (mvT hZ w1) (mvT hZ w2) (notFace_of_selects (args := #[]) (mvT hZ w3)) (mvT hZ w3) (mvT hZ w4) hy (backOf (W := W) hM hZ w5 w6 hf hl) q1 q3 hg hsize (Steps.refl _) hlen hstack hW hdg (fun _ _ => ⟨has, eT, hcR, hsR⟩)
  dsimp only [Pt.U, Pt.locs, Pt.cells, Pt.slots] at X2 l2 y2 z2 st2 hQ2
  subst l2 y2 z2
  obtain ⟨rfl, N2, P2⟩ := hQ2
  exact ⟨T2, _, _, X2, rfl, Fr.app N N2, P2, fun t k => st2.trans k⟩
theorem own_callSW (X : Stand p l e R s m args below meth c T locs cells slots) (hx : p.tables.exec = Jvm.exec) (hZ : Z.Warmed39 s.vm) {own : String} {index : Nat} {y : MethodName} {bytes : ByteArray} {maxL : Nat} {ret : Option FieldType} {rm : Room} (hown : s.vm.findClass own = some m.cls)
    (w1 : (Cond.methodLink own index y).before a0 Z = true) (w2 : (Cond.static y).before a0 Z = true) (w3 : (Cond.initialized y.cls).before a0 Z = true) (w4 : (Cond.code y bytes maxL ret).before a0 Z = true) (hy : y.cls ≠ "java/lang/invoke/MethodHandle" ∧ y.cls ≠ "java/lang/invoke/VarHandle")
    {as' : Array Value} {r : Option Value} {P : Heap → Prop} (hM : MetFree l y (head1 [Cond.code y bytes maxL ret] rm) (fun a U => a = as' ∧ Z.Warmed39 U.vm ∧ U.heap = h) (fun _ _ _ _ _ => True) (fun _ U o U' => ∃ v L, o = .returned v ∧ own_QE r n0 P v U'.heap L ∧ FrameEnd U o U' L rm.cells rm.slots)) (eT : T.heap = h) (N : Fr n0 locs)
    {W : Nat} (hf : rm.frames + 1 ≤ R.frames) (hl : W + (maxL + 11) + rm.locals ≤ R.locals) (hcR : cells + rm.cells ≤ R.cells) (hsR : slots + rm.slots ≤ R.slots) {g : JFrame} (hg : g.method = m) (hsize : g.locals.size = c.maxLocals) {argsL rest : List Value} (hlen : ∀ sig, parseMethodDescriptor y.desc = some sig → argsL.length = sig.parameters.length) (has : argsL.toArray = as') (hstack : g.stack = argsL.reverse ++ rest)
    (hW : 2 * g.monitorRoom + (rest.map fun v => v.category).sum ≤ W) (hdg : decode c.code g.pc = .ok (.invokestatic index, 3)) :
    ∃ T' h' locs', Stand p l e R s m args below meth c T' locs' (cells + rm.cells) (slots + rm.slots) ∧ T'.heap = h' ∧ Fr n0 locs' ∧ P h' ∧ ∀ t, Steps p.tables e below (T'.setTop { g with pc := g.pc + 3, stack := r.toList ++ rest }) t → Steps p.tables e below (T.setTop g) t := by
  obtain ⟨_, _, ⟨T2, L2, k2, n2⟩, -, X2, ⟨Lc2, hQ2, l2, y2, z2⟩, st2⟩ := Jvm.LawKit.callS X hx hown (mvT hZ w1) (mvT hZ w2) (mvT hZ w3) (mvT hZ w4) hy (backOf (W := W) hM hZ w4 w3 hf hl) hg hsize hlen hstack hW hdg (fun _ _ => ⟨has, eT, hcR, hsR⟩)
  dsimp only [Pt.U, Pt.locs, Pt.cells, Pt.slots] at X2 l2 y2 z2 st2 hQ2
  subst l2 y2 z2
  obtain ⟨rfl, N2, P2⟩ := hQ2
  exact ⟨T2, _, _, X2, rfl, Fr.app N N2, P2, st2⟩
end OwnO

theorem own_sta_keep0 {Z : State} {h h' : Heap} {C n d : String} {v : Value} (S : Sta Z h C n d v) (Kp : Keep h h' []) : Sta Z h' C n d v := by
  obtain ⟨cf, i, k, f, st, cell, h1, h2, h3, h4, h5, h6, h7⟩ := S
  exact ⟨cf, i, k, f, st, cell, h1, h2, h3, h4, Kp.2.1 st cell h5 (fun q => nomatch q), h6, h7⟩
theorem own_nar {v : Value} {c : String} (h : v.isRef = true) : narrow (.object c) v = v := by cases v <;> first | rfl | (simp [Value.isRef] at h)
theorem own_fit {v : Value} {c : String} (h : v.isRef = true) : fits (.object c) v = true := by cases v <;> first | rfl | (simp [Value.isRef] at h)
theorem own_sta_keep {Z : State} {h h' : Heap} {b : Addr} {C n d K : String} {v : Value} (S : Sta Z h C n d v) (E : Exa Z h b K) (Kp : Keep h h' [b]) : Sta Z h' C n d v := by
  obtain ⟨cf, i, k, f, st, cell, h1, h2, h3, h4, h5, h6, h7⟩ := S
  obtain ⟨c2, k2, g1, g2, g3, g4, g5⟩ := E
  have ne : st ≠ b := fun q => by
    subst q
    cases h5.symm.trans g1
    rw [h6] at g4
    cases g4
  exact ⟨cf, i, k, f, st, cell, h1, h2, h3, h4, Kp.2.1 st cell h5 (fun q => ne (List.mem_singleton.mp q)), h6, h7⟩
theorem own_A_keep {Z : State} {h h' : Heap} {a : Addr} {ty : FieldType} {n : Int32} {f : Int32 → Int32} {ws : List Addr} (A : own_A Z h a ty n f) (K : Keep h h' ws) (q : a ∉ ws) : own_A Z h' a ty n f := by
  obtain ⟨c, A1, A2⟩ := A
  exact ⟨c, ⟨K.2.1 a c A1.1 q, A1.2⟩, A2⟩

theorem own_m31 (x : Int32) : 0 ≤ (x &&& (2147483647 : Int32)).toInt := by
  have h : (x &&& (2147483647 : Int32)).toBitVec.msb = false := by
    rw [Int32.toBitVec_and, BitVec.msb_and, show (2147483647 : Int32).toBitVec.msb = false from rfl, Bool.and_false]
  rw [← Int32.toInt_toBitVec, BitVec.toInt_eq_msb_cond, h]
  simp
theorem own_rem_i {x y : Int32} (hx : 0 ≤ x.toInt) (hy : 0 < y.toInt) : (own_rem x y).toInt = x.toInt % y.toInt := by
  have lx := Int32.toInt_lt x
  have ly := Int32.toInt_lt y
  have e1 : (x / y).toInt = x.toInt / y.toInt := by
    rw [Int32.toInt_div, Int.tdiv_eq_ediv_of_nonneg hx]
    have a1 : 0 ≤ x.toInt / y.toInt := Int.ediv_nonneg hx (Int.le_of_lt hy)
    have a2 : x.toInt / y.toInt ≤ x.toInt := Int.ediv_le_self _ hx
    rw [Int.bmod_eq_of_le] <;> omega
  have b0 : 0 ≤ x.toInt / y.toInt := Int.ediv_nonneg hx (Int.le_of_lt hy)
  have b1 : x.toInt / y.toInt * y.toInt ≤ x.toInt := Int.ediv_mul_le _ (by omega)
  have b2 : 0 ≤ x.toInt / y.toInt * y.toInt := Int.mul_nonneg b0 (Int.le_of_lt hy)
  have e2 : (x / y * y).toInt = x.toInt / y.toInt * y.toInt := by
    rw [Int32.toInt_mul, e1, Int.bmod_eq_of_le] <;> omega
  have b3 : x.toInt % y.toInt = x.toInt - x.toInt / y.toInt * y.toInt := by
    have := Int.mul_ediv_add_emod x.toInt y.toInt
    rw [Int.mul_comm] at this
    omega
  rw [own_rem, Int32.toInt_sub, e2, Int.bmod_eq_of_le] <;> omega
theorem own_add_i {x y : Int32} (h1 : -2147483648 ≤ x.toInt + y.toInt) (h2 : x.toInt + y.toInt < 2147483648) : (x + y).toInt = x.toInt + y.toInt := by
  rw [Int32.toInt_add, Int.bmod_eq_of_le] <;> omega
theorem own_sub_i {x y : Int32} (h1 : -2147483648 ≤ x.toInt - y.toInt) (h2 : x.toInt - y.toInt < 2147483648) : (x - y).toInt = x.toInt - y.toInt := by
  rw [Int32.toInt_sub, Int.bmod_eq_of_le] <;> omega
theorem own_ne0 {y : Int32} (hy : 0 < y.toInt) : y ≠ 0 := fun h => by rw [h] at hy; exact absurd hy (by decide)
theorem own_mask (x m : Int32) (hm : 0 ≤ m.toInt) : 0 ≤ (x &&& m).toInt ∧ (x &&& m).toInt ≤ m.toInt := by
  have hm' : m.toBitVec.msb = false := by
    rw [← Int32.toInt_toBitVec] at hm
    exact BitVec.msb_eq_false_iff_two_mul_lt.mpr (by have := BitVec.toInt_eq_toNat_cond m.toBitVec; split at this <;> omega)
  have h1 : (x &&& m).toBitVec.msb = false := by rw [Int32.toBitVec_and, BitVec.msb_and, hm', Bool.and_false]
  have e1 : (x &&& m).toInt = ((x &&& m).toBitVec.toNat : Int) := by rw [← Int32.toInt_toBitVec, BitVec.toInt_eq_msb_cond, h1]; simp
  have e2 : m.toInt = (m.toBitVec.toNat : Int) := by rw [← Int32.toInt_toBitVec, BitVec.toInt_eq_msb_cond, hm']; simp
  have h2 : (x &&& m).toBitVec.toNat ≤ m.toBitVec.toNat := by rw [Int32.toBitVec_and, BitVec.toNat_and]; exact Nat.and_le_right
  omega
theorem own_lt {x y : Int32} : x < y ↔ x.toInt < y.toInt := Int32.lt_iff_toInt_lt
theorem own_inc {i n : Int32} (h : i < n) : (i + 1).toInt = i.toInt + 1 := by
  rw [own_lt] at h
  have a := Int32.toInt_lt n
  have b := Int32.le_toInt i
  have e : (1 : Int32).toInt = 1 := rfl
  rw [own_add_i (by omega) (by omega), e]
theorem own_of_i {x y : Int32} (h : x.toInt = y.toInt) : x = y := Int32.toInt_inj.mp h

theorem d1_0 : decode prog_54_method_1_code 0 = .ok (.aload_n 0, 1) := by decide +kernel
theorem d1_1 : decode prog_54_method_1_code 1 = .ok (.invokespecial 1, 3) := by decide +kernel
theorem d1_4 : decode prog_54_method_1_code 4 = .ok (.aload_n 0, 1) := by decide +kernel
theorem d1_5 : decode prog_54_method_1_code 5 = .ok (.aload_n 1, 1) := by decide +kernel
theorem d1_6 : decode prog_54_method_1_code 6 = .ok (.putfield 7, 3) := by decide +kernel
theorem d1_9 : decode prog_54_method_1_code 9 = .ok (.return_, 1) := by decide +kernel
theorem pn_1 : plainName "com/example/rolewright/rolewright/io/JsonCursor" = true := by first | (simp [plainName, overriddenIn]; done) | decide +kernel
theorem ef_1 (m : MethodId) (a : Addr) (ab : Addr) : entryFrame m #[(.ref a), (.ref ab)] 2 = mkF m 0 #[.val (.ref a), .val (.ref ab)] [] := by first | (simp [entryFrame, mkF, argsToLocals, Value.category]; done) | rfl
set_option maxRecDepth 65536 in
set_option maxHeartbeats 40000000 in
theorem rm1 (l : Launch) (Z : State) (a0 : Array Value) (hw : ∀ d ∈ tables_1, d.before a0 Z = true) (ws : List Jvm.Cond) (a : Addr) (ab : Addr) (h0 : Heap) (n0 : Nat) (Z0 : n0 ≤ h0.size) (ga : n0 ≤ a) (E : Exa Z h0 a "com/example/rolewright/rolewright/io/JsonCursor") {u_bytes : Value} (F_bytes : Fld Z h0 a "com/example/rolewright/rolewright/io/JsonCursor" "bytes" "[B" u_bytes) {u_start : Value} (F_start : Fld Z h0 a "com/example/rolewright/rolewright/io/JsonCursor" "start" "I" u_start) {u_limit : Value} (F_limit : Fld Z h0 a "com/example/rolewright/rolewright/io/JsonCursor" "limit" "I" u_limit) {u_line : Value} (F_line : Fld Z h0 a "com/example/rolewright/rolewright/io/JsonCursor" "line" "J" u_line) {u_index : Value} (F_index : Fld Z h0 a "com/example/rolewright/rolewright/io/JsonCursor" "index" "I" u_index)  :
    MetFree l (⟨"com/example/rolewright/rolewright/io/JsonCursor", "<init>", "([B)V"⟩ : MethodName) (head1 (Jvm.Cond.code (⟨"com/example/rolewright/rolewright/io/JsonCursor", "<init>", "([B)V"⟩ : MethodName) prog_54_method_1_code 2 none :: ws) ({ frames := 1, cells := 0, slots := 0, locals := 12 } : Room)) (fun aa U => aa = #[(.ref a), (.ref ab)] ∧ Z.Warmed39 U.vm ∧ U.heap = h0) (fun _ _ _ _ _ => True) (fun _ U o U' => ∃ v L, o = .returned v ∧ own_QE none n0 (fun h => Keep h0 h [a] ∧ Exa Z h a "com/example/rolewright/rolewright/io/JsonCursor" ∧ Fld Z h a "com/example/rolewright/rolewright/io/JsonCursor" "bytes" "[B" (.ref ab) ∧ Fld Z h a "com/example/rolewright/rolewright/io/JsonCursor" "start" "I" u_start ∧ Fld Z h a "com/example/rolewright/rolewright/io/JsonCursor" "limit" "I" u_limit ∧ Fld Z h a "com/example/rolewright/rolewright/io/JsonCursor" "line" "J" u_line ∧ Fld Z h a "com/example/rolewright/rolewright/io/JsonCursor" "index" "I" u_index) v U'.heap L ∧ FrameEnd U o U' L ({ frames := 1, cells := 0, slots := 0, locals := 12 } : Room).cells ({ frames := 1, cells := 0, slots := 0, locals := 12 } : Room).slots) := by
  refine MetFree.of_bodySF (plainFor_of_name pn_1) hisR ?_
  intro p e s m args below meth c s₁ Bd hml0 hP hK
  obtain ⟨rfl, hZ, hh⟩ := hP
  have hx := Bd.exec
  have hby := Bd.bytes
  have hml : c.maxLocals = 2 := hml0
  have hlk : meth.locks = false := Bd.notSynchronized
  have hown : s.vm.findClass "com/example/rolewright/rolewright/io/JsonCursor" = some m.cls := findClass_of_methodNamed Bd.named
  have X0 : Stand p l e ({ frames := 1, cells := 0, slots := 0, locals := 12 } : Room) s m #[(.ref a), (.ref ab)] below meth c s₁ [] 0 0 := Stand.of_body Bd
  have e0 : s₁.heap = h0 := by rw [← hh, Bd.state]; rfl
  have hnm := (name_of_methodNamed Bd.named Bd.method).1
  refine own_G0 (own_go (fun _ k => castTop (ef_1 m a ab) k) ?_)
  show own_G p e below s _ _ _ (s₁.setTop (mkF m 0 #[.val (.ref a), .val (.ref ab)] []))
  refine own_go (fun _ => XS.aloadN X0.here hx rfl (hb hby d1_0) rfl rfl) ?_
  show own_G p e below s _ _ _ (s₁.setTop (mkF m 1 #[.val (.ref a), .val (.ref ab)] [(.ref a)]))
  obtain ⟨T1, X1, e1, st1⟩ := initO X0 hx hZ hown (hw _ (List.mem_of_getElem? (i := 7) rfl)) (hw _ (List.mem_of_getElem? (i := 8) rfl)) (hw _ (List.mem_of_getElem? (i := 9) rfl)) e0 (g := (mkF m 1 #[.val (.ref a), .val (.ref ab)] [(.ref a)])) rfl (by rw [hml]; rfl) rfl (hb hby d1_1) (by decide) (W := 0) (by show 2 * 0 + _ ≤ _; exact Nat.le_of_eq rfl) (by decide)
  refine own_go (fun _ => st1 _) ?_
  show own_G p e below s _ _ _ (T1.setTop (mkF m 4 #[.val (.ref a), .val (.ref ab)] []))
  refine own_go (fun _ => XS.aloadN X1.here hx rfl (hb hby d1_4) rfl rfl) ?_
  show own_G p e below s _ _ _ (T1.setTop (mkF m 5 #[.val (.ref a), .val (.ref ab)] [(.ref a)]))
  refine own_go (fun _ => XS.aloadN X1.here hx rfl (hb hby d1_5) rfl rfl) ?_
  show own_G p e below s _ _ _ (T1.setTop (mkF m 6 #[.val (.ref a), .val (.ref ab)] [(.ref ab), (.ref a)]))
  obtain ⟨T2, h2, X2, e2, W2, st2⟩ := putF X1 hx hZ hown (host := "") (Or.inl (hw _ (List.mem_of_getElem? (i := 10) rfl))) Via.refl e1 F_bytes E (Or.inr ⟨(hw _ (List.mem_of_getElem? (i := 11) rfl)), rfl, hnm⟩) (hw _ (List.mem_of_getElem? (i := 2) rfl)) (ty := (.array .byte)) (by decide) rfl rfl (g := (mkF m 6 #[.val (.ref a), .val (.ref ab)] [(.ref ab), (.ref a)])) rfl rfl (hb hby d1_6)
  have N2 := Fr.snoc X2 (Fr.nil n0) ga
  have Ew3 := E.wr W2
  have Fw4 := F_bytes.same W2
  have Fw5 := F_start.other W2 (Or.inr (slot_ne (Or.inl (hw _ (List.mem_of_getElem? (i := 18) rfl))) (Or.inr (hw _ (List.mem_of_getElem? (i := 11) rfl))) (by decide) (t := .int) (t' := (.array .byte)) (by decide) (by decide)))
  have Fw6 := F_limit.other W2 (Or.inr (slot_ne (Or.inl (hw _ (List.mem_of_getElem? (i := 20) rfl))) (Or.inr (hw _ (List.mem_of_getElem? (i := 11) rfl))) (by decide) (t := .int) (t' := (.array .byte)) (by decide) (by decide)))
  have Fw7 := F_line.other W2 (Or.inr (slot_ne (Or.inl (hw _ (List.mem_of_getElem? (i := 27) rfl))) (Or.inr (hw _ (List.mem_of_getElem? (i := 11) rfl))) (by decide) (t := .long) (t' := (.array .byte)) (by decide) (by decide)))
  have Fw8 := F_index.other W2 (Or.inr (slot_ne (Or.inl (hw _ (List.mem_of_getElem? (i := 29) rfl))) (Or.inr (hw _ (List.mem_of_getElem? (i := 11) rfl))) (by decide) (t := .int) (t' := (.array .byte)) (by decide) (by decide)))
  have Kw9 := (Keep.refl h0 [a]).wr W2 (Or.inl (List.mem_of_getElem? (i := 0) rfl))
  refine own_go (fun _ => st2 _) ?_
  show own_G p e below s _ _ _ (T2.setTop (mkF m 9 #[.val (.ref a), .val (.ref ab)] []))
  exact own_retV X2 hx hlk Bd.returns (hb hby d1_9) (by decide) (by decide) ⟨rfl, N2, by rw [e2]; exact ⟨Kw9, Ew3, Fw4, Fw5, Fw6, Fw7, Fw8⟩⟩
theorem d4_0 : decode prog_54_method_2_code 0 = .ok (.aload_n 0, 1) := by decide +kernel
theorem d4_1 : decode prog_54_method_2_code 1 = .ok (.iload_n 1, 1) := by decide +kernel
theorem d4_2 : decode prog_54_method_2_code 2 = .ok (.putfield 13, 3) := by decide +kernel
theorem d4_5 : decode prog_54_method_2_code 5 = .ok (.aload_n 0, 1) := by decide +kernel
theorem d4_6 : decode prog_54_method_2_code 6 = .ok (.iload_n 2, 1) := by decide +kernel
theorem d4_7 : decode prog_54_method_2_code 7 = .ok (.putfield 17, 3) := by decide +kernel
theorem d4_10 : decode prog_54_method_2_code 10 = .ok (.aload_n 0, 1) := by decide +kernel
theorem d4_11 : decode prog_54_method_2_code 11 = .ok (.lload_n 3, 1) := by decide +kernel
theorem d4_12 : decode prog_54_method_2_code 12 = .ok (.putfield 20, 3) := by decide +kernel
theorem d4_15 : decode prog_54_method_2_code 15 = .ok (.aload_n 0, 1) := by decide +kernel
theorem d4_16 : decode prog_54_method_2_code 16 = .ok (.iload_n 1, 1) := by decide +kernel
theorem d4_17 : decode prog_54_method_2_code 17 = .ok (.putfield 24, 3) := by decide +kernel
theorem d4_20 : decode prog_54_method_2_code 20 = .ok (.return_, 1) := by decide +kernel
theorem pn_4 : plainName "com/example/rolewright/rolewright/io/JsonCursor" = true := by first | (simp [plainName, overriddenIn]; done) | decide +kernel
theorem ef_4 (m : MethodId) (a : Addr) (q1 : Int32) (q2 : Int32) (q3 : Int64) : entryFrame m #[(.ref a), (.int q1), (.int q2), (.long q3)] 5 = mkF m 0 #[.val (.ref a), .val (.int q1), .val (.int q2), .val (.long q3), .second] [] := by first | (simp [entryFrame, mkF, argsToLocals, Value.category]; done) | rfl
set_option maxRecDepth 65536 in
set_option maxHeartbeats 40000000 in
theorem rm4 (l : Launch) (Z : State) (a0 : Array Value) (hw : ∀ d ∈ tables_1, d.before a0 Z = true) (ws : List Jvm.Cond) (a : Addr) (q1 : Int32) (q2 : Int32) (q3 : Int64) (h0 : Heap) (n0 : Nat) (Z0 : n0 ≤ h0.size) (ga : n0 ≤ a) (E : Exa Z h0 a "com/example/rolewright/rolewright/io/JsonCursor") {u_bytes : Value} (F_bytes : Fld Z h0 a "com/example/rolewright/rolewright/io/JsonCursor" "bytes" "[B" u_bytes) {u_start : Value} (F_start : Fld Z h0 a "com/example/rolewright/rolewright/io/JsonCursor" "start" "I" u_start) {u_limit : Value} (F_limit : Fld Z h0 a "com/example/rolewright/rolewright/io/JsonCursor" "limit" "I" u_limit) {u_line : Value} (F_line : Fld Z h0 a "com/example/rolewright/rolewright/io/JsonCursor" "line" "J" u_line) {u_index : Value} (F_index : Fld Z h0 a "com/example/rolewright/rolewright/io/JsonCursor" "index" "I" u_index)  :
    MetFree l (⟨"com/example/rolewright/rolewright/io/JsonCursor", "start", "(IIJ)V"⟩ : MethodName) (head1 (Jvm.Cond.code (⟨"com/example/rolewright/rolewright/io/JsonCursor", "start", "(IIJ)V"⟩ : MethodName) prog_54_method_2_code 5 none :: ws) ({ frames := 0, cells := 0, slots := 0, locals := 0 } : Room)) (fun aa U => aa = #[(.ref a), (.int q1), (.int q2), (.long q3)] ∧ Z.Warmed39 U.vm ∧ U.heap = h0) (fun _ _ _ _ _ => True) (fun _ U o U' => ∃ v L, o = .returned v ∧ own_QE none n0 (fun h => Keep h0 h [a] ∧ Exa Z h a "com/example/rolewright/rolewright/io/JsonCursor" ∧ Fld Z h a "com/example/rolewright/rolewright/io/JsonCursor" "bytes" "[B" u_bytes ∧ Fld Z h a "com/example/rolewright/rolewright/io/JsonCursor" "start" "I" (.int q1) ∧ Fld Z h a "com/example/rolewright/rolewright/io/JsonCursor" "limit" "I" (.int q2) ∧ Fld Z h a "com/example/rolewright/rolewright/io/JsonCursor" "line" "J" (.long q3) ∧ Fld Z h a "com/example/rolewright/rolewright/io/JsonCursor" "index" "I" (.int q1)) v U'.heap L ∧ FrameEnd U o U' L ({ frames := 0, cells := 0, slots := 0, locals := 0 } : Room).cells ({ frames := 0, cells := 0, slots := 0, locals := 0 } : Room).slots) := by
  refine MetFree.of_bodySF (plainFor_of_name pn_4) hisR ?_
  intro p e s m args below meth c s₁ Bd hml0 hP hK
  obtain ⟨rfl, hZ, hh⟩ := hP
  have hx := Bd.exec
  have hby := Bd.bytes
  have hml : c.maxLocals = 5 := hml0
  have hlk : meth.locks = false := Bd.notSynchronized
  have hown : s.vm.findClass "com/example/rolewright/rolewright/io/JsonCursor" = some m.cls := findClass_of_methodNamed Bd.named
  have X0 : Stand p l e ({ frames := 0, cells := 0, slots := 0, locals := 0 } : Room) s m #[(.ref a), (.int q1), (.int q2), (.long q3)] below meth c s₁ [] 0 0 := Stand.of_body Bd
  have e0 : s₁.heap = h0 := by rw [← hh, Bd.state]; rfl
  refine own_G0 (own_go (fun _ k => castTop (ef_4 m a q1 q2 q3) k) ?_)
  show own_G p e below s _ _ _ (s₁.setTop (mkF m 0 #[.val (.ref a), .val (.int q1), .val (.int q2), .val (.long q3), .second] []))
  refine own_go (fun _ => XS.aloadN X0.here hx rfl (hb hby d4_0) rfl rfl) ?_
  show own_G p e below s _ _ _ (s₁.setTop (mkF m 1 #[.val (.ref a), .val (.int q1), .val (.int q2), .val (.long q3), .second] [(.ref a)]))
  refine own_go (fun _ => XS.iloadN X0.here hx rfl (hb hby d4_1) rfl) ?_
  show own_G p e below s _ _ _ (s₁.setTop (mkF m 2 #[.val (.ref a), .val (.int q1), .val (.int q2), .val (.long q3), .second] [(.int q1), (.ref a)]))
  obtain ⟨T1, h1, X1, e1, W1, st1⟩ := putF X0 hx hZ hown (host := "") (Or.inl (hw _ (List.mem_of_getElem? (i := 17) rfl))) Via.refl e0 F_start E (Or.inl (hw _ (List.mem_of_getElem? (i := 18) rfl))) (hw _ (List.mem_of_getElem? (i := 2) rfl)) (ty := .int) (by decide) rfl rfl (g := (mkF m 2 #[.val (.ref a), .val (.int q1), .val (.int q2), .val (.long q3), .second] [(.int q1), (.ref a)])) rfl rfl (hb hby d4_2)
  have N1 := Fr.snoc X1 (Fr.nil n0) ga
  have Ew2 := E.wr W1
  have Fw3 := F_bytes.other W1 (Or.inr (slot_ne (Or.inr (hw _ (List.mem_of_getElem? (i := 11) rfl))) (Or.inl (hw _ (List.mem_of_getElem? (i := 18) rfl))) (by decide) (t := (.array .byte)) (t' := .int) (by decide) (by decide)))
  have Fw4 := F_start.same W1
  have Fw5 := F_limit.other W1 (Or.inr (slot_ne (Or.inl (hw _ (List.mem_of_getElem? (i := 20) rfl))) (Or.inl (hw _ (List.mem_of_getElem? (i := 18) rfl))) (by decide) (t := .int) (t' := .int) (by decide) (by decide)))
  have Fw6 := F_line.other W1 (Or.inr (slot_ne (Or.inl (hw _ (List.mem_of_getElem? (i := 27) rfl))) (Or.inl (hw _ (List.mem_of_getElem? (i := 18) rfl))) (by decide) (t := .long) (t' := .int) (by decide) (by decide)))
  have Fw7 := F_index.other W1 (Or.inr (slot_ne (Or.inl (hw _ (List.mem_of_getElem? (i := 29) rfl))) (Or.inl (hw _ (List.mem_of_getElem? (i := 18) rfl))) (by decide) (t := .int) (t' := .int) (by decide) (by decide)))
  have Kw8 := (Keep.refl h0 [a]).wr W1 (Or.inl (List.mem_of_getElem? (i := 0) rfl))
  refine own_go (fun _ => st1 _) ?_
  show own_G p e below s _ _ _ (T1.setTop (mkF m 5 #[.val (.ref a), .val (.int q1), .val (.int q2), .val (.long q3), .second] []))
  refine own_go (fun _ => XS.aloadN X1.here hx rfl (hb hby d4_5) rfl rfl) ?_
  show own_G p e below s _ _ _ (T1.setTop (mkF m 6 #[.val (.ref a), .val (.int q1), .val (.int q2), .val (.long q3), .second] [(.ref a)]))
  refine own_go (fun _ => XS.iloadN X1.here hx rfl (hb hby d4_6) rfl) ?_
  show own_G p e below s _ _ _ (T1.setTop (mkF m 7 #[.val (.ref a), .val (.int q1), .val (.int q2), .val (.long q3), .second] [(.int q2), (.ref a)]))
  obtain ⟨T9, h9, X9, e9, W9, st9⟩ := putF X1 hx hZ hown (host := "") (Or.inl (hw _ (List.mem_of_getElem? (i := 19) rfl))) Via.refl e1 Fw5 Ew2 (Or.inl (hw _ (List.mem_of_getElem? (i := 20) rfl))) (hw _ (List.mem_of_getElem? (i := 2) rfl)) (ty := .int) (by decide) rfl rfl (g := (mkF m 7 #[.val (.ref a), .val (.int q1), .val (.int q2), .val (.long q3), .second] [(.int q2), (.ref a)])) rfl rfl (hb hby d4_7)
  have N9 := Fr.snoc X9 N1 ga
  have Ew10 := Ew2.wr W9
  have Fw11 := Fw3.other W9 (Or.inr (slot_ne (Or.inr (hw _ (List.mem_of_getElem? (i := 11) rfl))) (Or.inl (hw _ (List.mem_of_getElem? (i := 20) rfl))) (by decide) (t := (.array .byte)) (t' := .int) (by decide) (by decide)))
  have Fw12 := Fw4.other W9 (Or.inr (slot_ne (Or.inl (hw _ (List.mem_of_getElem? (i := 18) rfl))) (Or.inl (hw _ (List.mem_of_getElem? (i := 20) rfl))) (by decide) (t := .int) (t' := .int) (by decide) (by decide)))
  have Fw13 := Fw5.same W9
  have Fw14 := Fw6.other W9 (Or.inr (slot_ne (Or.inl (hw _ (List.mem_of_getElem? (i := 27) rfl))) (Or.inl (hw _ (List.mem_of_getElem? (i := 20) rfl))) (by decide) (t := .long) (t' := .int) (by decide) (by decide)))
  have Fw15 := Fw7.other W9 (Or.inr (slot_ne (Or.inl (hw _ (List.mem_of_getElem? (i := 29) rfl))) (Or.inl (hw _ (List.mem_of_getElem? (i := 20) rfl))) (by decide) (t := .int) (t' := .int) (by decide) (by decide)))
  have Kw16 := Kw8.wr W9 (Or.inl (List.mem_of_getElem? (i := 0) rfl))
  refine own_go (fun _ => st9 _) ?_
  show own_G p e below s _ _ _ (T9.setTop (mkF m 10 #[.val (.ref a), .val (.int q1), .val (.int q2), .val (.long q3), .second] []))
  refine own_go (fun _ => XS.aloadN X9.here hx rfl (hb hby d4_10) rfl rfl) ?_
  show own_G p e below s _ _ _ (T9.setTop (mkF m 11 #[.val (.ref a), .val (.int q1), .val (.int q2), .val (.long q3), .second] [(.ref a)]))
  refine own_go (fun _ => XS.lloadN X9.here hx rfl (hb hby d4_11) rfl) ?_
  show own_G p e below s _ _ _ (T9.setTop (mkF m 12 #[.val (.ref a), .val (.int q1), .val (.int q2), .val (.long q3), .second] [(.long q3), (.ref a)]))
  obtain ⟨T17, h17, X17, e17, W17, st17⟩ := putF X9 hx hZ hown (host := "") (Or.inl (hw _ (List.mem_of_getElem? (i := 26) rfl))) Via.refl e9 Fw14 Ew10 (Or.inl (hw _ (List.mem_of_getElem? (i := 27) rfl))) (hw _ (List.mem_of_getElem? (i := 2) rfl)) (ty := .long) (by decide) rfl rfl (g := (mkF m 12 #[.val (.ref a), .val (.int q1), .val (.int q2), .val (.long q3), .second] [(.long q3), (.ref a)])) rfl rfl (hb hby d4_12)
  have N17 := Fr.snoc X17 N9 ga
  have Ew18 := Ew10.wr W17
  have Fw19 := Fw11.other W17 (Or.inr (slot_ne (Or.inr (hw _ (List.mem_of_getElem? (i := 11) rfl))) (Or.inl (hw _ (List.mem_of_getElem? (i := 27) rfl))) (by decide) (t := (.array .byte)) (t' := .long) (by decide) (by decide)))
  have Fw20 := Fw12.other W17 (Or.inr (slot_ne (Or.inl (hw _ (List.mem_of_getElem? (i := 18) rfl))) (Or.inl (hw _ (List.mem_of_getElem? (i := 27) rfl))) (by decide) (t := .int) (t' := .long) (by decide) (by decide)))
  have Fw21 := Fw13.other W17 (Or.inr (slot_ne (Or.inl (hw _ (List.mem_of_getElem? (i := 20) rfl))) (Or.inl (hw _ (List.mem_of_getElem? (i := 27) rfl))) (by decide) (t := .int) (t' := .long) (by decide) (by decide)))
  have Fw22 := Fw14.same W17
  have Fw23 := Fw15.other W17 (Or.inr (slot_ne (Or.inl (hw _ (List.mem_of_getElem? (i := 29) rfl))) (Or.inl (hw _ (List.mem_of_getElem? (i := 27) rfl))) (by decide) (t := .int) (t' := .long) (by decide) (by decide)))
  have Kw24 := Kw16.wr W17 (Or.inl (List.mem_of_getElem? (i := 0) rfl))
  refine own_go (fun _ => st17 _) ?_
  show own_G p e below s _ _ _ (T17.setTop (mkF m 15 #[.val (.ref a), .val (.int q1), .val (.int q2), .val (.long q3), .second] []))
  refine own_go (fun _ => XS.aloadN X17.here hx rfl (hb hby d4_15) rfl rfl) ?_
  show own_G p e below s _ _ _ (T17.setTop (mkF m 16 #[.val (.ref a), .val (.int q1), .val (.int q2), .val (.long q3), .second] [(.ref a)]))
  refine own_go (fun _ => XS.iloadN X17.here hx rfl (hb hby d4_16) rfl) ?_
  show own_G p e below s _ _ _ (T17.setTop (mkF m 17 #[.val (.ref a), .val (.int q1), .val (.int q2), .val (.long q3), .second] [(.int q1), (.ref a)]))
  obtain ⟨T25, h25, X25, e25, W25, st25⟩ := putF X17 hx hZ hown (host := "") (Or.inl (hw _ (List.mem_of_getElem? (i := 28) rfl))) Via.refl e17 Fw23 Ew18 (Or.inl (hw _ (List.mem_of_getElem? (i := 29) rfl))) (hw _ (List.mem_of_getElem? (i := 2) rfl)) (ty := .int) (by decide) rfl rfl (g := (mkF m 17 #[.val (.ref a), .val (.int q1), .val (.int q2), .val (.long q3), .second] [(.int q1), (.ref a)])) rfl rfl (hb hby d4_17)
  have N25 := Fr.snoc X25 N17 ga
  have Ew26 := Ew18.wr W25
  have Fw27 := Fw19.other W25 (Or.inr (slot_ne (Or.inr (hw _ (List.mem_of_getElem? (i := 11) rfl))) (Or.inl (hw _ (List.mem_of_getElem? (i := 29) rfl))) (by decide) (t := (.array .byte)) (t' := .int) (by decide) (by decide)))
  have Fw28 := Fw20.other W25 (Or.inr (slot_ne (Or.inl (hw _ (List.mem_of_getElem? (i := 18) rfl))) (Or.inl (hw _ (List.mem_of_getElem? (i := 29) rfl))) (by decide) (t := .int) (t' := .int) (by decide) (by decide)))
  have Fw29 := Fw21.other W25 (Or.inr (slot_ne (Or.inl (hw _ (List.mem_of_getElem? (i := 20) rfl))) (Or.inl (hw _ (List.mem_of_getElem? (i := 29) rfl))) (by decide) (t := .int) (t' := .int) (by decide) (by decide)))
  have Fw30 := Fw22.other W25 (Or.inr (slot_ne (Or.inl (hw _ (List.mem_of_getElem? (i := 27) rfl))) (Or.inl (hw _ (List.mem_of_getElem? (i := 29) rfl))) (by decide) (t := .long) (t' := .int) (by decide) (by decide)))
  have Fw31 := Fw23.same W25
  have Kw32 := Kw24.wr W25 (Or.inl (List.mem_of_getElem? (i := 0) rfl))
  refine own_go (fun _ => st25 _) ?_
  show own_G p e below s _ _ _ (T25.setTop (mkF m 20 #[.val (.ref a), .val (.int q1), .val (.int q2), .val (.long q3), .second] []))
  exact own_retV X25 hx hlk Bd.returns (hb hby d4_20) (by decide) (by decide) ⟨rfl, N25, by rw [e25]; exact ⟨Kw32, Ew26, Fw27, Fw28, Fw29, Fw30, Fw31⟩⟩
theorem d3_0 : decode prog_54_method_3_code 0 = .ok (.aload_n 0, 1) := by decide +kernel
theorem d3_1 : decode prog_54_method_3_code 1 = .ok (.getfield 13, 3) := by decide +kernel
theorem d3_4 : decode prog_54_method_3_code 4 = .ok (.aload_n 0, 1) := by decide +kernel
theorem d3_5 : decode prog_54_method_3_code 5 = .ok (.getfield 17, 3) := by decide +kernel
theorem d3_8 : decode prog_54_method_3_code 8 = .ok (.if_icmp .ne 7, 3) := by decide +kernel
theorem d3_11 : decode prog_54_method_3_code 11 = .ok (.iconst 1, 1) := by decide +kernel
theorem d3_12 : decode prog_54_method_3_code 12 = .ok (.goto 4, 3) := by decide +kernel
theorem d3_15 : decode prog_54_method_3_code 15 = .ok (.iconst 0, 1) := by decide +kernel
theorem d3_16 : decode prog_54_method_3_code 16 = .ok (.ireturn, 1) := by decide +kernel
def own_v3_16 (t n : Int32)  (j16_S0 : Int32) : Int32 := (nar .boolean j16_S0)
def own_v3_0 (t n : Int32)  : Int32 := (if t = n then (own_v3_16 t n (1 : Int32)) else (own_v3_16 t n (0 : Int32)))
theorem pn_3 : plainName "com/example/rolewright/rolewright/io/JsonCursor" = true := by first | (simp [plainName, overriddenIn]; done) | decide +kernel
theorem ef_3 (m : MethodId) (a : Addr) : entryFrame m #[(.ref a)] 1 = mkF m 0 #[.val (.ref a)] [] := by first | (simp [entryFrame, mkF, argsToLocals, Value.category]; done) | rfl
set_option maxRecDepth 65536 in
set_option maxHeartbeats 40000000 in
theorem rm3 (l : Launch) (Z : State) (a0 : Array Value) (hw : ∀ d ∈ tables_1, d.before a0 Z = true) (ws : List Jvm.Cond) (a : Addr) (h0 : Heap) (t n : Int32) (F1 : Fld Z h0 a "com/example/rolewright/rolewright/io/JsonCursor" "start" "I" (.int t)) (F2 : Fld Z h0 a "com/example/rolewright/rolewright/io/JsonCursor" "limit" "I" (.int n)) :
    MetFree l (⟨"com/example/rolewright/rolewright/io/JsonCursor", "isEmpty", "()Z"⟩ : MethodName) (head1 (Jvm.Cond.code (⟨"com/example/rolewright/rolewright/io/JsonCursor", "isEmpty", "()Z"⟩ : MethodName) prog_54_method_3_code 1 (some .boolean) :: ws) ({ frames := 0, cells := 0, slots := 0, locals := 0 } : Room)) (fun aa U => aa = #[(.ref a)] ∧ Z.Warmed39 U.vm ∧ U.heap = h0) (fun _ _ _ _ _ => True) (fun _ U o U' => ∃ v L, o = .returned v ∧ own_Q (some (.int (own_v3_0 t n))) h0 v U'.heap L ∧ FrameEnd U o U' L ({ frames := 0, cells := 0, slots := 0, locals := 0 } : Room).cells ({ frames := 0, cells := 0, slots := 0, locals := 0 } : Room).slots) := by
  refine MetFree.of_bodySF (plainFor_of_name pn_3) hisR ?_
  intro p e s m args below meth c s₁ Bd hml0 hP hK
  obtain ⟨rfl, hZ, hh⟩ := hP
  have hx := Bd.exec
  have hby := Bd.bytes
  have hml : c.maxLocals = 1 := hml0
  have hlk : meth.locks = false := Bd.notSynchronized
  have hown : s.vm.findClass "com/example/rolewright/rolewright/io/JsonCursor" = some m.cls := findClass_of_methodNamed Bd.named
  have X0 : Stand p l e ({ frames := 0, cells := 0, slots := 0, locals := 0 } : Room) s m #[(.ref a)] below meth c s₁ [] 0 0 := Stand.of_body Bd
  have e0 : s₁.heap = h0 := by rw [← hh, Bd.state]; rfl
  have b16 : ∀ (T : State), Stand p l e ({ frames := 0, cells := 0, slots := 0, locals := 0 } : Room) s m #[(.ref a)] below meth c T [] 0 0 → T.heap = h0 → ∀ (j16_S0 : Int32), own_G p e below s (own_Q (some (.int (own_v3_16 t n j16_S0))) h0) ({ frames := 0, cells := 0, slots := 0, locals := 0 } : Room).cells ({ frames := 0, cells := 0, slots := 0, locals := 0 } : Room).slots (T.setTop (mkF m 16 #[.val (.ref a)] [(.int j16_S0)])) := by
    intro T X eT j16_S0
    show own_G p e below s (own_Q (some (.int (nar .boolean j16_S0))) h0) ({ frames := 0, cells := 0, slots := 0, locals := 0 } : Room).cells ({ frames := 0, cells := 0, slots := 0, locals := 0 } : Room).slots (T.setTop (mkF m 16 #[.val (.ref a)] [(.int j16_S0)]))
    exact own_retN X hx hlk (t := .boolean) Bd.returns (by simp) (hb hby d3_16) (by decide) (by decide) ⟨rfl, rfl, eT⟩
  refine own_G0 (own_go (fun _ k => castTop (ef_3 m a) k) ?_)
  show own_G p e below s (own_Q (some (.int (if t = n then (own_v3_16 t n (1 : Int32)) else (own_v3_16 t n (0 : Int32))))) h0) ({ frames := 0, cells := 0, slots := 0, locals := 0 } : Room).cells ({ frames := 0, cells := 0, slots := 0, locals := 0 } : Room).slots (s₁.setTop (mkF m 0 #[.val (.ref a)] []))
  refine own_go (fun _ => XS.aloadN X0.here hx rfl (hb hby d3_0) rfl rfl) ?_
  show own_G p e below s _ _ _ (s₁.setTop (mkF m 1 #[.val (.ref a)] [(.ref a)]))
  obtain ⟨T1, X1, e1, st1⟩ := getF X0 hx hZ hown (host := "") (Or.inl (hw _ (List.mem_of_getElem? (i := 17) rfl))) Via.refl e0 F1 (g := (mkF m 1 #[.val (.ref a)] [(.ref a)])) rfl rfl (hb hby d3_1)
  refine own_go (fun _ => st1 _) ?_
  show own_G p e below s _ _ _ (T1.setTop (mkF m 4 #[.val (.ref a)] [(.int t)]))
  refine own_go (fun _ => XS.aloadN X1.here hx rfl (hb hby d3_4) rfl rfl) ?_
  show own_G p e below s _ _ _ (T1.setTop (mkF m 5 #[.val (.ref a)] [(.ref a), (.int t)]))
  obtain ⟨T2, X2, e2, st2⟩ := getF X1 hx hZ hown (host := "") (Or.inl (hw _ (List.mem_of_getElem? (i := 19) rfl))) Via.refl e1 F2 (g := (mkF m 5 #[.val (.ref a)] [(.ref a), (.int t)])) rfl rfl (hb hby d3_5)
  refine own_go (fun _ => st2 _) ?_
  show own_G p e below s _ _ _ (T2.setTop (mkF m 8 #[.val (.ref a)] [(.int n), (.int t)]))
  by_cases hc8 : t = n
  · refine own_eq (if_pos hc8) ?_
    refine own_go (fun _ => XS.icmpNo X2.here hx rfl (hb hby d3_8) rfl (teq hc8).2) ?_
    show own_G p e below s _ _ _ (T2.setTop (mkF m 11 #[.val (.ref a)] []))
    refine own_go (fun _ => XS.iconst X2.here hx rfl (hb hby d3_11)) ?_
    show own_G p e below s _ _ _ (T2.setTop (mkF m 12 #[.val (.ref a)] [(.int (1 : Int32))]))
    refine own_go (fun _ => XS.goto X2.here hx rfl (pc0 := 12) (pc' := 16) rfl (hb hby d3_12) (by decide) (by decide)) ?_
    exact b16 T2 X2 e2 (1 : Int32)
  · refine own_eq (if_neg hc8) ?_
    refine own_go (fun _ => XS.icmpYes X2.here hx rfl (pc0 := 8) (pc' := 15) rfl (hb hby d3_8) rfl (feq hc8).2 (by decide) (by decide)) ?_
    show own_G p e below s _ _ _ (T2.setTop (mkF m 15 #[.val (.ref a)] []))
    refine own_go (fun _ => XS.iconst X2.here hx rfl (hb hby d3_15)) ?_
    exact b16 T2 X2 e2 (0 : Int32)
theorem d5_0 : decode jdk_29_method_69_code 0 = .ok (.iload_n 0, 1) := by decide +kernel
theorem d5_1 : decode jdk_29_method_69_code 1 = .ok (.iload_n 1, 1) := by decide +kernel
theorem d5_2 : decode jdk_29_method_69_code 2 = .ok (.if_icmp .gt 7, 3) := by decide +kernel
theorem d5_5 : decode jdk_29_method_69_code 5 = .ok (.iload_n 0, 1) := by decide +kernel
theorem d5_6 : decode jdk_29_method_69_code 6 = .ok (.goto 4, 3) := by decide +kernel
theorem d5_9 : decode jdk_29_method_69_code 9 = .ok (.iload_n 1, 1) := by decide +kernel
theorem d5_10 : decode jdk_29_method_69_code 10 = .ok (.ireturn, 1) := by decide +kernel
def own_v5_10 (q : Int32) (r : Int32) (j10_S0 : Int32) : Int32 := j10_S0
def own_v5_0 (q : Int32) (r : Int32) : Int32 := (if r < q then (own_v5_10 q r r) else (own_v5_10 q r q))
theorem ef_5 (m : MethodId) (q : Int32) (r : Int32) : entryFrame m #[(.int q), (.int r)] 2 = mkF m 0 #[.val (.int q), .val (.int r)] [] := by first | (simp [entryFrame, mkF, argsToLocals, Value.category]; done) | rfl
set_option maxRecDepth 65536 in
set_option maxHeartbeats 40000000 in
theorem rm5 (l : Launch) (Z : State) (a0 : Array Value) (hw : ∀ d ∈ tables_1, d.before a0 Z = true) (ws : List Jvm.Cond) (q : Int32) (r : Int32) (h0 : Heap)  :
    MetFree l (⟨"java/lang/Math", "min", "(II)I"⟩ : MethodName) (head1 (Jvm.Cond.code (⟨"java/lang/Math", "min", "(II)I"⟩ : MethodName) jdk_29_method_69_code 2 (some .int) :: ws) ({ frames := 0, cells := 0, slots := 0, locals := 0 } : Room)) (fun aa U => aa = #[(.int q), (.int r)] ∧ Z.Warmed39 U.vm ∧ U.heap = h0) (fun _ _ _ _ _ => True) (fun _ U o U' => ∃ v L, o = .returned v ∧ own_Q (some (.int (own_v5_0 q r))) h0 v U'.heap L ∧ FrameEnd U o U' L ({ frames := 0, cells := 0, slots := 0, locals := 0 } : Room).cells ({ frames := 0, cells := 0, slots := 0, locals := 0 } : Room).slots) := by
  refine MetFree.of_bodySF (Jvm.Free.JP.mathPlain rfl (by decide +kernel)) hisR ?_
  intro p e s m args below meth c s₁ Bd hml0 hP hK
  obtain ⟨rfl, hZ, hh⟩ := hP
  have hx := Bd.exec
  have hby := Bd.bytes
  have hml : c.maxLocals = 2 := hml0
  have hlk : meth.locks = false := Bd.notSynchronized
  have hown : s.vm.findClass "java/lang/Math" = some m.cls := findClass_of_methodNamed Bd.named
  have X0 : Stand p l e ({ frames := 0, cells := 0, slots := 0, locals := 0 } : Room) s m #[(.int q), (.int r)] below meth c s₁ [] 0 0 := Stand.of_body Bd
  have e0 : s₁.heap = h0 := by rw [← hh, Bd.state]; rfl
  have b10 : ∀ (T : State), Stand p l e ({ frames := 0, cells := 0, slots := 0, locals := 0 } : Room) s m #[(.int q), (.int r)] below meth c T [] 0 0 → T.heap = h0 → ∀ (j10_S0 : Int32), own_G p e below s (own_Q (some (.int (own_v5_10 q r j10_S0))) h0) ({ frames := 0, cells := 0, slots := 0, locals := 0 } : Room).cells ({ frames := 0, cells := 0, slots := 0, locals := 0 } : Room).slots (T.setTop (mkF m 10 #[.val (.int q), .val (.int r)] [(.int j10_S0)])) := by
    intro T X eT j10_S0
    show own_G p e below s (own_Q (some (.int j10_S0)) h0) ({ frames := 0, cells := 0, slots := 0, locals := 0 } : Room).cells ({ frames := 0, cells := 0, slots := 0, locals := 0 } : Room).slots (T.setTop (mkF m 10 #[.val (.int q), .val (.int r)] [(.int j10_S0)]))
    exact own_retI X hx hlk Bd.returns (hb hby d5_10) (by decide) (by decide) ⟨rfl, rfl, eT⟩
  refine own_G0 (own_go (fun _ k => castTop (ef_5 m q r) k) ?_)
  show own_G p e below s (own_Q (some (.int (if r < q then (own_v5_10 q r r) else (own_v5_10 q r q)))) h0) ({ frames := 0, cells := 0, slots := 0, locals := 0 } : Room).cells ({ frames := 0, cells := 0, slots := 0, locals := 0 } : Room).slots (s₁.setTop (mkF m 0 #[.val (.int q), .val (.int r)] []))
  refine own_go (fun _ => XS.iloadN X0.here hx rfl (hb hby d5_0) rfl) ?_
  show own_G p e below s _ _ _ (s₁.setTop (mkF m 1 #[.val (.int q), .val (.int r)] [(.int q)]))
  refine own_go (fun _ => XS.iloadN X0.here hx rfl (hb hby d5_1) rfl) ?_
  show own_G p e below s _ _ _ (s₁.setTop (mkF m 2 #[.val (.int q), .val (.int r)] [(.int r), (.int q)]))
  by_cases hc2 : r < q
  · refine own_eq (if_pos hc2) ?_
    refine own_go (fun _ => XS.icmpYes X0.here hx rfl (pc0 := 2) (pc' := 9) rfl (hb hby d5_2) rfl (tlt hc2).2.2.1 (by decide) (by decide)) ?_
    show own_G p e below s _ _ _ (s₁.setTop (mkF m 9 #[.val (.int q), .val (.int r)] []))
    refine own_go (fun _ => XS.iloadN X0.here hx rfl (hb hby d5_9) rfl) ?_
    exact b10 s₁ X0 e0 r
  · refine own_eq (if_neg hc2) ?_
    refine own_go (fun _ => XS.icmpNo X0.here hx rfl (hb hby d5_2) rfl (flt hc2).2.2.1) ?_
    show own_G p e below s _ _ _ (s₁.setTop (mkF m 5 #[.val (.int q), .val (.int r)] []))
    refine own_go (fun _ => XS.iloadN X0.here hx rfl (hb hby d5_5) rfl) ?_
    show own_G p e below s _ _ _ (s₁.setTop (mkF m 6 #[.val (.int q), .val (.int r)] [(.int q)]))
    refine own_go (fun _ => XS.goto X0.here hx rfl (pc0 := 6) (pc' := 10) rfl (hb hby d5_6) (by decide) (by decide)) ?_
    exact b10 s₁ X0 e0 q
theorem d7_0 : decode prog_54_method_35_code 0 = .ok (.iload_n 0, 1) := by decide +kernel
theorem d7_1 : decode prog_54_method_35_code 1 = .ok (.bipush 32, 2) := by decide +kernel
theorem d7_3 : decode prog_54_method_35_code 3 = .ok (.if_icmp .gt 31, 3) := by decide +kernel
theorem d7_6 : decode prog_54_method_35_code 6 = .ok (.iload_n 0, 1) := by decide +kernel
theorem d7_7 : decode prog_54_method_35_code 7 = .ok (.bipush 32, 2) := by decide +kernel
theorem d7_9 : decode prog_54_method_35_code 9 = .ok (.if_icmp .eq 21, 3) := by decide +kernel
theorem d7_12 : decode prog_54_method_35_code 12 = .ok (.iload_n 0, 1) := by decide +kernel
theorem d7_13 : decode prog_54_method_35_code 13 = .ok (.bipush 9, 2) := by decide +kernel
theorem d7_15 : decode prog_54_method_35_code 15 = .ok (.if_icmp .eq 15, 3) := by decide +kernel
theorem d7_18 : decode prog_54_method_35_code 18 = .ok (.iload_n 0, 1) := by decide +kernel
theorem d7_19 : decode prog_54_method_35_code 19 = .ok (.bipush 10, 2) := by decide +kernel
theorem d7_21 : decode prog_54_method_35_code 21 = .ok (.if_icmp .eq 9, 3) := by decide +kernel
theorem d7_24 : decode prog_54_method_35_code 24 = .ok (.iload_n 0, 1) := by decide +kernel
theorem d7_25 : decode prog_54_method_35_code 25 = .ok (.bipush 13, 2) := by decide +kernel
theorem d7_27 : decode prog_54_method_35_code 27 = .ok (.if_icmp .ne 7, 3) := by decide +kernel
theorem d7_30 : decode prog_54_method_35_code 30 = .ok (.iconst 1, 1) := by decide +kernel
theorem d7_31 : decode prog_54_method_35_code 31 = .ok (.goto 4, 3) := by decide +kernel
theorem d7_34 : decode prog_54_method_35_code 34 = .ok (.iconst 0, 1) := by decide +kernel
theorem d7_35 : decode prog_54_method_35_code 35 = .ok (.ireturn, 1) := by decide +kernel
def own_v7_35 (q : Int32) (j35_S0 : Int32) : Int32 := (nar .boolean j35_S0)
def own_v7_34 (q : Int32) : Int32 := (own_v7_35 q (0 : Int32))
def own_v7_30 (q : Int32) : Int32 := (own_v7_35 q (1 : Int32))
def own_v7_0 (q : Int32) : Int32 := (if (32 : Int32) < q then (own_v7_34 q) else (if q = (32 : Int32) then (own_v7_30 q) else (if q = (9 : Int32) then (own_v7_30 q) else (if q = (10 : Int32) then (own_v7_30 q) else (if q = (13 : Int32) then (own_v7_30 q) else (own_v7_34 q))))))
theorem pn_7 : plainName "com/example/rolewright/rolewright/io/JsonCursor" = true := by first | (simp [plainName, overriddenIn]; done) | decide +kernel
theorem ef_7 (m : MethodId) (q : Int32) : entryFrame m #[(.int q)] 1 = mkF m 0 #[.val (.int q)] [] := by first | (simp [entryFrame, mkF, argsToLocals, Value.category]; done) | rfl
set_option maxRecDepth 65536 in
set_option maxHeartbeats 40000000 in
theorem rm7 (l : Launch) (Z : State) (a0 : Array Value) (hw : ∀ d ∈ tables_1, d.before a0 Z = true) (ws : List Jvm.Cond) (q : Int32) (h0 : Heap)  :
    MetFree l (⟨"com/example/rolewright/rolewright/io/JsonCursor", "isWhitespace", "(B)Z"⟩ : MethodName) (head1 (Jvm.Cond.code (⟨"com/example/rolewright/rolewright/io/JsonCursor", "isWhitespace", "(B)Z"⟩ : MethodName) prog_54_method_35_code 1 (some .boolean) :: ws) ({ frames := 0, cells := 0, slots := 0, locals := 0 } : Room)) (fun aa U => aa = #[(.int q)] ∧ Z.Warmed39 U.vm ∧ U.heap = h0) (fun _ _ _ _ _ => True) (fun _ U o U' => ∃ v L, o = .returned v ∧ own_Q (some (.int (own_v7_0 q))) h0 v U'.heap L ∧ FrameEnd U o U' L ({ frames := 0, cells := 0, slots := 0, locals := 0 } : Room).cells ({ frames := 0, cells := 0, slots := 0, locals := 0 } : Room).slots) := by
  refine MetFree.of_bodySF (plainFor_of_name pn_7) hisR ?_
  intro p e s m args below meth c s₁ Bd hml0 hP hK
  obtain ⟨rfl, hZ, hh⟩ := hP
  have hx := Bd.exec
  have hby := Bd.bytes
  have hml : c.maxLocals = 1 := hml0
  have hlk : meth.locks = false := Bd.notSynchronized
  have hown : s.vm.findClass "com/example/rolewright/rolewright/io/JsonCursor" = some m.cls := findClass_of_methodNamed Bd.named
  have X0 : Stand p l e ({ frames := 0, cells := 0, slots := 0, locals := 0 } : Room) s m #[(.int q)] below meth c s₁ [] 0 0 := Stand.of_body Bd
  have e0 : s₁.heap = h0 := by rw [← hh, Bd.state]; rfl
  have b35 : ∀ (T : State), Stand p l e ({ frames := 0, cells := 0, slots := 0, locals := 0 } : Room) s m #[(.int q)] below meth c T [] 0 0 → T.heap = h0 → ∀ (j35_S0 : Int32), own_G p e below s (own_Q (some (.int (own_v7_35 q j35_S0))) h0) ({ frames := 0, cells := 0, slots := 0, locals := 0 } : Room).cells ({ frames := 0, cells := 0, slots := 0, locals := 0 } : Room).slots (T.setTop (mkF m 35 #[.val (.int q)] [(.int j35_S0)])) := by
    intro T X eT j35_S0
    show own_G p e below s (own_Q (some (.int (nar .boolean j35_S0))) h0) ({ frames := 0, cells := 0, slots := 0, locals := 0 } : Room).cells ({ frames := 0, cells := 0, slots := 0, locals := 0 } : Room).slots (T.setTop (mkF m 35 #[.val (.int q)] [(.int j35_S0)]))
    exact own_retN X hx hlk (t := .boolean) Bd.returns (by simp) (hb hby d7_35) (by decide) (by decide) ⟨rfl, rfl, eT⟩
  have b34 : ∀ (T : State), Stand p l e ({ frames := 0, cells := 0, slots := 0, locals := 0 } : Room) s m #[(.int q)] below meth c T [] 0 0 → T.heap = h0 → own_G p e below s (own_Q (some (.int (own_v7_34 q))) h0) ({ frames := 0, cells := 0, slots := 0, locals := 0 } : Room).cells ({ frames := 0, cells := 0, slots := 0, locals := 0 } : Room).slots (T.setTop (mkF m 34 #[.val (.int q)] [])) := by
    intro T X eT
    show own_G p e below s (own_Q (some (.int (own_v7_35 q (0 : Int32)))) h0) ({ frames := 0, cells := 0, slots := 0, locals := 0 } : Room).cells ({ frames := 0, cells := 0, slots := 0, locals := 0 } : Room).slots (T.setTop (mkF m 34 #[.val (.int q)] []))
    refine own_go (fun _ => XS.iconst X.here hx rfl (hb hby d7_34)) ?_
    exact b35 T X eT (0 : Int32)
  have b30 : ∀ (T : State), Stand p l e ({ frames := 0, cells := 0, slots := 0, locals := 0 } : Room) s m #[(.int q)] below meth c T [] 0 0 → T.heap = h0 → own_G p e below s (own_Q (some (.int (own_v7_30 q))) h0) ({ frames := 0, cells := 0, slots := 0, locals := 0 } : Room).cells ({ frames := 0, cells := 0, slots := 0, locals := 0 } : Room).slots (T.setTop (mkF m 30 #[.val (.int q)] [])) := by
    intro T X eT
    show own_G p e below s (own_Q (some (.int (own_v7_35 q (1 : Int32)))) h0) ({ frames := 0, cells := 0, slots := 0, locals := 0 } : Room).cells ({ frames := 0, cells := 0, slots := 0, locals := 0 } : Room).slots (T.setTop (mkF m 30 #[.val (.int q)] []))
    refine own_go (fun _ => XS.iconst X.here hx rfl (hb hby d7_30)) ?_
    show own_G p e below s _ _ _ (T.setTop (mkF m 31 #[.val (.int q)] [(.int (1 : Int32))]))
    refine own_go (fun _ => XS.goto X.here hx rfl (pc0 := 31) (pc' := 35) rfl (hb hby d7_31) (by decide) (by decide)) ?_
    exact b35 T X eT (1 : Int32)
  refine own_G0 (own_go (fun _ k => castTop (ef_7 m q) k) ?_)
  show own_G p e below s (own_Q (some (.int (if (32 : Int32) < q then (own_v7_34 q) else (if q = (32 : Int32) then (own_v7_30 q) else (if q = (9 : Int32) then (own_v7_30 q) else (if q = (10 : Int32) then (own_v7_30 q) else (if q = (13 : Int32) then (own_v7_30 q) else (own_v7_34 q)))))))) h0) ({ frames := 0, cells := 0, slots := 0, locals := 0 } : Room).cells ({ frames := 0, cells := 0, slots := 0, locals := 0 } : Room).slots (s₁.setTop (mkF m 0 #[.val (.int q)] []))
  refine own_go (fun _ => XS.iloadN X0.here hx rfl (hb hby d7_0) rfl) ?_
  show own_G p e below s _ _ _ (s₁.setTop (mkF m 1 #[.val (.int q)] [(.int q)]))
  refine own_go (fun _ => XS.bipush X0.here hx rfl (hb hby d7_1)) ?_
  show own_G p e below s _ _ _ (s₁.setTop (mkF m 3 #[.val (.int q)] [(.int (32 : Int32)), (.int q)]))
  by_cases hc3 : (32 : Int32) < q
  · refine own_eq (if_pos hc3) ?_
    refine own_go (fun _ => XS.icmpYes X0.here hx rfl (pc0 := 3) (pc' := 34) rfl (hb hby d7_3) rfl (tlt hc3).2.2.1 (by decide) (by decide)) ?_
    exact b34 s₁ X0 e0
  · refine own_eq (if_neg hc3) ?_
    refine own_go (fun _ => XS.icmpNo X0.here hx rfl (hb hby d7_3) rfl (flt hc3).2.2.1) ?_
    show own_G p e below s _ _ _ (s₁.setTop (mkF m 6 #[.val (.int q)] []))
    refine own_go (fun _ => XS.iloadN X0.here hx rfl (hb hby d7_6) rfl) ?_
    show own_G p e below s _ _ _ (s₁.setTop (mkF m 7 #[.val (.int q)] [(.int q)]))
    refine own_go (fun _ => XS.bipush X0.here hx rfl (hb hby d7_7)) ?_
    show own_G p e below s _ _ _ (s₁.setTop (mkF m 9 #[.val (.int q)] [(.int (32 : Int32)), (.int q)]))
    by_cases hc9 : q = (32 : Int32)
    · refine own_eq (if_pos hc9) ?_
      refine own_go (fun _ => XS.icmpYes X0.here hx rfl (pc0 := 9) (pc' := 30) rfl (hb hby d7_9) rfl (teq hc9).1 (by decide) (by decide)) ?_
      exact b30 s₁ X0 e0
    · refine own_eq (if_neg hc9) ?_
      refine own_go (fun _ => XS.icmpNo X0.here hx rfl (hb hby d7_9) rfl (feq hc9).1) ?_
      show own_G p e below s _ _ _ (s₁.setTop (mkF m 12 #[.val (.int q)] []))
      refine own_go (fun _ => XS.iloadN X0.here hx rfl (hb hby d7_12) rfl) ?_
      show own_G p e below s _ _ _ (s₁.setTop (mkF m 13 #[.val (.int q)] [(.int q)]))
      refine own_go (fun _ => XS.bipush X0.here hx rfl (hb hby d7_13)) ?_
      show own_G p e below s _ _ _ (s₁.setTop (mkF m 15 #[.val (.int q)] [(.int (9 : Int32)), (.int q)]))
      by_cases hc15 : q = (9 : Int32)
      · refine own_eq (if_pos hc15) ?_
        refine own_go (fun _ => XS.icmpYes X0.here hx rfl (pc0 := 15) (pc' := 30) rfl (hb hby d7_15) rfl (teq hc15).1 (by decide) (by decide)) ?_
        exact b30 s₁ X0 e0
      · refine own_eq (if_neg hc15) ?_
        refine own_go (fun _ => XS.icmpNo X0.here hx rfl (hb hby d7_15) rfl (feq hc15).1) ?_
        show own_G p e below s _ _ _ (s₁.setTop (mkF m 18 #[.val (.int q)] []))
        refine own_go (fun _ => XS.iloadN X0.here hx rfl (hb hby d7_18) rfl) ?_
        show own_G p e below s _ _ _ (s₁.setTop (mkF m 19 #[.val (.int q)] [(.int q)]))
        refine own_go (fun _ => XS.bipush X0.here hx rfl (hb hby d7_19)) ?_
        show own_G p e below s _ _ _ (s₁.setTop (mkF m 21 #[.val (.int q)] [(.int (10 : Int32)), (.int q)]))
        by_cases hc21 : q = (10 : Int32)
        · refine own_eq (if_pos hc21) ?_
          refine own_go (fun _ => XS.icmpYes X0.here hx rfl (pc0 := 21) (pc' := 30) rfl (hb hby d7_21) rfl (teq hc21).1 (by decide) (by decide)) ?_
          exact b30 s₁ X0 e0
        · refine own_eq (if_neg hc21) ?_
          refine own_go (fun _ => XS.icmpNo X0.here hx rfl (hb hby d7_21) rfl (feq hc21).1) ?_
          show own_G p e below s _ _ _ (s₁.setTop (mkF m 24 #[.val (.int q)] []))
          refine own_go (fun _ => XS.iloadN X0.here hx rfl (hb hby d7_24) rfl) ?_
          show own_G p e below s _ _ _ (s₁.setTop (mkF m 25 #[.val (.int q)] [(.int q)]))
          refine own_go (fun _ => XS.bipush X0.here hx rfl (hb hby d7_25)) ?_
          show own_G p e below s _ _ _ (s₁.setTop (mkF m 27 #[.val (.int q)] [(.int (13 : Int32)), (.int q)]))
          by_cases hc27 : q = (13 : Int32)
          · refine own_eq (if_pos hc27) ?_
            refine own_go (fun _ => XS.icmpNo X0.here hx rfl (hb hby d7_27) rfl (teq hc27).2) ?_
            exact b30 s₁ X0 e0
          · refine own_eq (if_neg hc27) ?_
            refine own_go (fun _ => XS.icmpYes X0.here hx rfl (pc0 := 27) (pc' := 34) rfl (hb hby d7_27) rfl (feq hc27).2 (by decide) (by decide)) ?_
            exact b34 s₁ X0 e0
def own_32 (f : Int32 → Int32) : Prop := ∀ j : Int32, ¬ j < 0 → j < (4 : Int32) → f j = 32
def own_fin (i n : Int32) : Int32 := if i < n then n else i
theorem own_eqE {p : Program} {e : Env} {below : List Frame} {s : State} {n0 : Nat} {P : Heap → Prop} {k n : Nat} {S : State} {a b : Int32} (h : a = b) (g : own_G p e below s (own_QE (some (.int b)) n0 P) k n S) : own_G p e below s (own_QE (some (.int a)) n0 P) k n S := h ▸ g
theorem own_lt4 {i n : Int32} (h : i < n) (hn : ¬ (4 : Int32) < n) : i < 4 := by
  rw [own_lt] at h hn ⊢
  omega
theorem own_up {i n : Int32} (hi : ¬ i < 0) (h : i < n) : ¬ (i + 1) < 0 := by
  have e := own_inc h
  rw [own_lt] at hi ⊢
  have z : (0 : Int32).toInt = 0 := rfl
  omega
theorem own_k {i n : Int32} {k : Nat} (h : i < n) (hk : n.toInt ≤ i.toInt + ((k + 1 : Nat) : Int)) : n.toInt ≤ (i + 1).toInt + (k : Int) := by
  have e := own_inc h
  omega
theorem own_k0 {i n : Int32} (hk : n.toInt ≤ i.toInt + ((0 : Nat) : Int)) : ¬ i < n := by
  rw [own_lt]
  omega
theorem own_fin1 {i n : Int32} (h : i < n) : own_fin i n = own_fin (i + 1) n := by
  have e := own_inc h
  rw [own_fin, own_fin, if_pos h]
  by_cases g : i + 1 < n
  · rw [if_pos g]
  · rw [if_neg g]
    apply Int32.toInt_inj.mp
    rw [own_lt] at g h
    omega
theorem own_sp {f : Int32 → Int32} {i : Int32} (h : own_32 f) (h0 : ¬ i < 0) (h4 : i < (4 : Int32)) : ¬ own_v7_0 (f i) = 0 := by
  rw [h i h0 h4]
  have m1 : nar .boolean (1 : Int32) = 1 := rfl
  simp only [own_v7_0, own_v7_30, own_v7_35, m1]
  decide
theorem d6_0 : decode prog_54_method_4_code 0 = .ok (.aload_n 0, 1) := by decide +kernel
theorem d6_1 : decode prog_54_method_4_code 1 = .ok (.getfield 24, 3) := by decide +kernel
theorem d6_4 : decode prog_54_method_4_code 4 = .ok (.aload_n 0, 1) := by decide +kernel
theorem d6_5 : decode prog_54_method_4_code 5 = .ok (.getfield 17, 3) := by decide +kernel
theorem d6_8 : decode prog_54_method_4_code 8 = .ok (.if_icmp .ge 31, 3) := by decide +kernel
theorem d6_11 : decode prog_54_method_4_code 11 = .ok (.aload_n 0, 1) := by decide +kernel
theorem d6_12 : decode prog_54_method_4_code 12 = .ok (.getfield 7, 3) := by decide +kernel
theorem d6_15 : decode prog_54_method_4_code 15 = .ok (.aload_n 0, 1) := by decide +kernel
theorem d6_16 : decode prog_54_method_4_code 16 = .ok (.getfield 24, 3) := by decide +kernel
theorem d6_19 : decode prog_54_method_4_code 19 = .ok (.baload, 1) := by decide +kernel
theorem d6_20 : decode prog_54_method_4_code 20 = .ok (.invokestatic 27, 3) := by decide +kernel
theorem d6_23 : decode prog_54_method_4_code 23 = .ok (.ifCond .eq 16, 3) := by decide +kernel
theorem d6_26 : decode prog_54_method_4_code 26 = .ok (.aload_n 0, 1) := by decide +kernel
theorem d6_27 : decode prog_54_method_4_code 27 = .ok (.dup, 1) := by decide +kernel
theorem d6_28 : decode prog_54_method_4_code 28 = .ok (.getfield 24, 3) := by decide +kernel
theorem d6_31 : decode prog_54_method_4_code 31 = .ok (.iconst 1, 1) := by decide +kernel
theorem d6_32 : decode prog_54_method_4_code 32 = .ok (.iadd, 1) := by decide +kernel
theorem d6_33 : decode prog_54_method_4_code 33 = .ok (.putfield 24, 3) := by decide +kernel
theorem d6_36 : decode prog_54_method_4_code 36 = .ok (.goto (-36), 3) := by decide +kernel
theorem d6_39 : decode prog_54_method_4_code 39 = .ok (.aload_n 0, 1) := by decide +kernel
theorem d6_40 : decode prog_54_method_4_code 40 = .ok (.getfield 24, 3) := by decide +kernel
theorem d6_43 : decode prog_54_method_4_code 43 = .ok (.ireturn, 1) := by decide +kernel
theorem pn_6 : plainName "com/example/rolewright/rolewright/io/JsonCursor" = true := by first | (simp [plainName, overriddenIn]; done) | decide +kernel
theorem ef_6 (m : MethodId) (a : Addr) : entryFrame m #[(.ref a)] 1 = mkF m 0 #[.val (.ref a)] [] := by first | (simp [entryFrame, mkF, argsToLocals, Value.category]; done) | rfl
set_option maxRecDepth 65536 in
set_option maxHeartbeats 40000000 in
theorem rm6 (l : Launch) (Z : State) (a0 : Array Value) (hw : ∀ d ∈ tables_1, d.before a0 Z = true) (ws : List Jvm.Cond) (a : Addr) (h0 : Heap) (n0 : Nat) (Z0 : n0 ≤ h0.size) (ga : n0 ≤ a) (ab : Addr) (t n : Int32) (jj : Int64) (i0 : Int32) (f : Int32 → Int32) (E0 : Exa Z h0 a "com/example/rolewright/rolewright/io/JsonCursor") (G_bytes : Fld Z h0 a "com/example/rolewright/rolewright/io/JsonCursor" "bytes" "[B" (.ref ab)) (G_start : Fld Z h0 a "com/example/rolewright/rolewright/io/JsonCursor" "start" "I" (.int t)) (G_limit : Fld Z h0 a "com/example/rolewright/rolewright/io/JsonCursor" "limit" "I" (.int n)) (G_line : Fld Z h0 a "com/example/rolewright/rolewright/io/JsonCursor" "line" "J" (.long jj)) (G_index : Fld Z h0 a "com/example/rolewright/rolewright/io/JsonCursor" "index" "I" (.int i0)) (A0 : own_A Z h0 ab .byte (4 : Int32) f) (h32 : own_32 f) (hne : ab ≠ a) (hi0 : ¬ i0 < 0) (hn : ¬ (4 : Int32) < n) (hk0 : n.toInt ≤ i0.toInt + 4) :
    MetFree l (⟨"com/example/rolewright/rolewright/io/JsonCursor", "skipWhitespace", "()I"⟩ : MethodName) (head1 (Jvm.Cond.code (⟨"com/example/rolewright/rolewright/io/JsonCursor", "skipWhitespace", "()I"⟩ : MethodName) prog_54_method_4_code 1 (some .int) :: ws) ({ frames := 1, cells := 0, slots := 0, locals := 12 } : Room)) (fun aa U => aa = #[(.ref a)] ∧ Z.Warmed39 U.vm ∧ U.heap = h0) (fun _ _ _ _ _ => True) (fun _ U o U' => ∃ v L, o = .returned v ∧ own_QE (some (.int (own_fin i0 n))) n0 (fun h => Keep h0 h [a] ∧ Exa Z h a "com/example/rolewright/rolewright/io/JsonCursor" ∧ Fld Z h a "com/example/rolewright/rolewright/io/JsonCursor" "bytes" "[B" (.ref ab) ∧ Fld Z h a "com/example/rolewright/rolewright/io/JsonCursor" "start" "I" (.int t) ∧ Fld Z h a "com/example/rolewright/rolewright/io/JsonCursor" "limit" "I" (.int n) ∧ Fld Z h a "com/example/rolewright/rolewright/io/JsonCursor" "line" "J" (.long jj) ∧ Fld Z h a "com/example/rolewright/rolewright/io/JsonCursor" "index" "I" (.int (own_fin i0 n))) v U'.heap L ∧ FrameEnd U o U' L ({ frames := 1, cells := 0, slots := 0, locals := 12 } : Room).cells ({ frames := 1, cells := 0, slots := 0, locals := 12 } : Room).slots) := by
  refine MetFree.of_bodySF (plainFor_of_name pn_6) hisR ?_
  intro p e s m args below meth c s₁ Bd hml0 hP hK
  obtain ⟨rfl, hZ, hh⟩ := hP
  have hx := Bd.exec
  have hby := Bd.bytes
  have hml : c.maxLocals = 1 := hml0
  have hlk : meth.locks = false := Bd.notSynchronized
  have hown : s.vm.findClass "com/example/rolewright/rolewright/io/JsonCursor" = some m.cls := findClass_of_methodNamed Bd.named
  have X0 : Stand p l e ({ frames := 1, cells := 0, slots := 0, locals := 12 } : Room) s m #[(.ref a)] below meth c s₁ [] 0 0 := Stand.of_body Bd
  have e0 : s₁.heap = h0 := by rw [← hh, Bd.state]; rfl
  have b39 : ∀ (T : State) (h : Heap) (Lc : List Loc) (i : Int32), Stand p l e ({ frames := 1, cells := 0, slots := 0, locals := 12 } : Room) s m #[(.ref a)] below meth c T Lc 0 0 → T.heap = h → Fr n0 Lc → Keep h0 h [a] → Exa Z h a "com/example/rolewright/rolewright/io/JsonCursor" → Fld Z h a "com/example/rolewright/rolewright/io/JsonCursor" "bytes" "[B" (.ref ab) → Fld Z h a "com/example/rolewright/rolewright/io/JsonCursor" "start" "I" (.int t) → Fld Z h a "com/example/rolewright/rolewright/io/JsonCursor" "limit" "I" (.int n) → Fld Z h a "com/example/rolewright/rolewright/io/JsonCursor" "line" "J" (.long jj) → Fld Z h a "com/example/rolewright/rolewright/io/JsonCursor" "index" "I" (.int i) → own_A Z h ab .byte (4 : Int32) f → ¬ i < 0 → ¬ i < n → own_fin i n = own_fin i0 n → own_G p e below s (own_QE (some (.int (own_fin i n))) n0 (fun h => Keep h0 h [a] ∧ Exa Z h a "com/example/rolewright/rolewright/io/JsonCursor" ∧ Fld Z h a "com/example/rolewright/rolewright/io/JsonCursor" "bytes" "[B" (.ref ab) ∧ Fld Z h a "com/example/rolewright/rolewright/io/JsonCursor" "start" "I" (.int t) ∧ Fld Z h a "com/example/rolewright/rolewright/io/JsonCursor" "limit" "I" (.int n) ∧ Fld Z h a "com/example/rolewright/rolewright/io/JsonCursor" "line" "J" (.long jj) ∧ Fld Z h a "com/example/rolewright/rolewright/io/JsonCursor" "index" "I" (.int (own_fin i0 n)))) ({ frames := 1, cells := 0, slots := 0, locals := 12 } : Room).cells ({ frames := 1, cells := 0, slots := 0, locals := 12 } : Room).slots (T.setTop (mkF m 39 #[.val (.ref a)] [])) := by
    intro T h Lc i X eT N K E F_bytes F_start F_limit F_line F_index A hi hin hfin
    have e1 : own_fin i n = i := by rw [own_fin, if_neg hin]
    have e2 : own_fin i0 n = i := by rw [← hfin, e1]
    rw [e1, e2]
    show own_G p e below s _ _ _ (T.setTop (mkF m 39 #[.val (.ref a)] []))
    refine own_go (fun _ => XS.aloadN X.here hx rfl (hb hby d6_39) rfl rfl) ?_
    show own_G p e below s _ _ _ (T.setTop (mkF m 40 #[.val (.ref a)] [(.ref a)]))
    obtain ⟨T1, X1, e1, st1⟩ := getF X hx hZ hown (host := "") (Or.inl (hw _ (List.mem_of_getElem? (i := 28) rfl))) Via.refl eT F_index (g := (mkF m 40 #[.val (.ref a)] [(.ref a)])) rfl rfl (hb hby d6_40)
    refine own_go (fun _ => st1 _) ?_
    show own_G p e below s _ _ _ (T1.setTop (mkF m 43 #[.val (.ref a)] [(.int i)]))
    exact own_retI X1 hx hlk Bd.returns (hb hby d6_43) (by decide) (by decide) ⟨rfl, N, by rw [e1]; exact ⟨K, E, F_bytes, F_start, F_limit, F_line, F_index⟩⟩
  have b0 : ∀ (k : Nat) (T : State) (h : Heap) (Lc : List Loc) (i : Int32), Stand p l e ({ frames := 1, cells := 0, slots := 0, locals := 12 } : Room) s m #[(.ref a)] below meth c T Lc 0 0 → T.heap = h → Fr n0 Lc → Keep h0 h [a] → Exa Z h a "com/example/rolewright/rolewright/io/JsonCursor" → Fld Z h a "com/example/rolewright/rolewright/io/JsonCursor" "bytes" "[B" (.ref ab) → Fld Z h a "com/example/rolewright/rolewright/io/JsonCursor" "start" "I" (.int t) → Fld Z h a "com/example/rolewright/rolewright/io/JsonCursor" "limit" "I" (.int n) → Fld Z h a "com/example/rolewright/rolewright/io/JsonCursor" "line" "J" (.long jj) → Fld Z h a "com/example/rolewright/rolewright/io/JsonCursor" "index" "I" (.int i) → own_A Z h ab .byte (4 : Int32) f → ¬ i < 0 → n.toInt ≤ i.toInt + (k : Int) → own_fin i n = own_fin i0 n → own_G p e below s (own_QE (some (.int (own_fin i n))) n0 (fun h => Keep h0 h [a] ∧ Exa Z h a "com/example/rolewright/rolewright/io/JsonCursor" ∧ Fld Z h a "com/example/rolewright/rolewright/io/JsonCursor" "bytes" "[B" (.ref ab) ∧ Fld Z h a "com/example/rolewright/rolewright/io/JsonCursor" "start" "I" (.int t) ∧ Fld Z h a "com/example/rolewright/rolewright/io/JsonCursor" "limit" "I" (.int n) ∧ Fld Z h a "com/example/rolewright/rolewright/io/JsonCursor" "line" "J" (.long jj) ∧ Fld Z h a "com/example/rolewright/rolewright/io/JsonCursor" "index" "I" (.int (own_fin i0 n)))) ({ frames := 1, cells := 0, slots := 0, locals := 12 } : Room).cells ({ frames := 1, cells := 0, slots := 0, locals := 12 } : Room).slots (T.setTop (mkF m 0 #[.val (.ref a)] [])) := by
    intro k
    induction k with
    | zero =>
      intro T h Lc i X eT N K E F_bytes F_start F_limit F_line F_index A hi hk hfin
      have hc8 := own_k0 hk
      show own_G p e below s _ _ _ (T.setTop (mkF m 0 #[.val (.ref a)] []))
      refine own_go (fun _ => XS.aloadN X.here hx rfl (hb hby d6_0) rfl rfl) ?_
      show own_G p e below s _ _ _ (T.setTop (mkF m 1 #[.val (.ref a)] [(.ref a)]))
      obtain ⟨T1, X1, e1, st1⟩ := getF X hx hZ hown (host := "") (Or.inl (hw _ (List.mem_of_getElem? (i := 28) rfl))) Via.refl eT F_index (g := (mkF m 1 #[.val (.ref a)] [(.ref a)])) rfl rfl (hb hby d6_1)
      refine own_go (fun _ => st1 _) ?_
      show own_G p e below s _ _ _ (T1.setTop (mkF m 4 #[.val (.ref a)] [(.int i)]))
      refine own_go (fun _ => XS.aloadN X1.here hx rfl (hb hby d6_4) rfl rfl) ?_
      show own_G p e below s _ _ _ (T1.setTop (mkF m 5 #[.val (.ref a)] [(.ref a), (.int i)]))
      obtain ⟨T2, X2, e2, st2⟩ := getF X1 hx hZ hown (host := "") (Or.inl (hw _ (List.mem_of_getElem? (i := 19) rfl))) Via.refl e1 F_limit (g := (mkF m 5 #[.val (.ref a)] [(.ref a), (.int i)])) rfl rfl (hb hby d6_5)
      refine own_go (fun _ => st2 _) ?_
      show own_G p e below s _ _ _ (T2.setTop (mkF m 8 #[.val (.ref a)] [(.int n), (.int i)]))
      refine own_go (fun _ => XS.icmpYes X2.here hx rfl (pc0 := 8) (pc' := 39) rfl (hb hby d6_8) rfl (flt hc8).2.1 (by decide) (by decide)) ?_
      exact b39 T2 h Lc i X2 e2 N K E F_bytes F_start F_limit F_line F_index A hi hc8 hfin
    | succ k ih =>
      intro T h Lc i X eT N K E F_bytes F_start F_limit F_line F_index A hi hk hfin
      by_cases hc8 : i < n
      · skip
        show own_G p e below s _ _ _ (T.setTop (mkF m 0 #[.val (.ref a)] []))
        refine own_go (fun _ => XS.aloadN X.here hx rfl (hb hby d6_0) rfl rfl) ?_
        show own_G p e below s _ _ _ (T.setTop (mkF m 1 #[.val (.ref a)] [(.ref a)]))
        obtain ⟨T1, X1, e1, st1⟩ := getF X hx hZ hown (host := "") (Or.inl (hw _ (List.mem_of_getElem? (i := 28) rfl))) Via.refl eT F_index (g := (mkF m 1 #[.val (.ref a)] [(.ref a)])) rfl rfl (hb hby d6_1)
        refine own_go (fun _ => st1 _) ?_
        show own_G p e below s _ _ _ (T1.setTop (mkF m 4 #[.val (.ref a)] [(.int i)]))
        refine own_go (fun _ => XS.aloadN X1.here hx rfl (hb hby d6_4) rfl rfl) ?_
        show own_G p e below s _ _ _ (T1.setTop (mkF m 5 #[.val (.ref a)] [(.ref a), (.int i)]))
        obtain ⟨T2, X2, e2, st2⟩ := getF X1 hx hZ hown (host := "") (Or.inl (hw _ (List.mem_of_getElem? (i := 19) rfl))) Via.refl e1 F_limit (g := (mkF m 5 #[.val (.ref a)] [(.ref a), (.int i)])) rfl rfl (hb hby d6_5)
        refine own_go (fun _ => st2 _) ?_
        show own_G p e below s _ _ _ (T2.setTop (mkF m 8 #[.val (.ref a)] [(.int n), (.int i)]))
        refine own_go (fun _ => XS.icmpNo X2.here hx rfl (hb hby d6_8) rfl (tlt hc8).2.1) ?_
        show own_G p e below s _ _ _ (T2.setTop (mkF m 11 #[.val (.ref a)] []))
        refine own_go (fun _ => XS.aloadN X2.here hx rfl (hb hby d6_11) rfl rfl) ?_
        show own_G p e below s _ _ _ (T2.setTop (mkF m 12 #[.val (.ref a)] [(.ref a)]))
        obtain ⟨T3, X3, e3, st3⟩ := getF X2 hx hZ hown (host := "") (Or.inl (hw _ (List.mem_of_getElem? (i := 10) rfl))) Via.refl e2 F_bytes (g := (mkF m 12 #[.val (.ref a)] [(.ref a)])) rfl rfl (hb hby d6_12)
        refine own_go (fun _ => st3 _) ?_
        show own_G p e below s _ _ _ (T3.setTop (mkF m 15 #[.val (.ref a)] [(.ref ab)]))
        refine own_go (fun _ => XS.aloadN X3.here hx rfl (hb hby d6_15) rfl rfl) ?_
        show own_G p e below s _ _ _ (T3.setTop (mkF m 16 #[.val (.ref a)] [(.ref a), (.ref ab)]))
        obtain ⟨T4, X4, e4, st4⟩ := getF X3 hx hZ hown (host := "") (Or.inl (hw _ (List.mem_of_getElem? (i := 28) rfl))) Via.refl e3 F_index (g := (mkF m 16 #[.val (.ref a)] [(.ref a), (.ref ab)])) rfl rfl (hb hby d6_16)
        refine own_go (fun _ => st4 _) ?_
        show own_G p e below s _ _ _ (T4.setTop (mkF m 19 #[.val (.ref a)] [(.int i), (.ref ab)]))
        refine own_go (fun _ => own_ldB X4 hx hZ e4 A hi (own_lt4 hc8 hn) (g := (mkF m 19 #[.val (.ref a)] [(.int i), (.ref ab)])) rfl rfl (hb hby d6_19) _) ?_
        show own_G p e below s _ _ _ (T4.setTop (mkF m 20 #[.val (.ref a)] [(.int (f i))]))
        obtain ⟨T5, X5, e5, st5⟩ := own_call X4 hx hZ hown (hw _ (List.mem_of_getElem? (i := 39) rfl)) (hw _ (List.mem_of_getElem? (i := 40) rfl)) (hw _ (List.mem_of_getElem? (i := 3) rfl)) (hw _ (List.mem_of_getElem? (i := 41) rfl)) (by decide) (rm7 l Z a0 hw [] (f i) h) rfl rfl e4 (W := 0) (by decide) (by decide) (by decide) (by decide) (g := (mkF m 20 #[.val (.ref a)] [(.int (f i))])) rfl (by rw [hml]; rfl) (argsL := [(.int (f i))]) (rest := []) (lenOf (by decide +kernel : parseMethodDescriptor "(B)Z" = some ⟨[.byte], some .boolean⟩) rfl) rfl rfl (by show 2 * 0 + _ ≤ _; exact Nat.le_of_eq rfl) (hb hby d6_20)
        refine own_go (fun _ => st5 _) ?_
        show own_G p e below s _ _ _ (T5.setTop (mkF m 23 #[.val (.ref a)] [(.int (own_v7_0 (f i)))]))
        refine own_go (fun _ => XS.ifNo X5.here hx rfl (hb hby d6_23) rfl ((if0 _ _).trans (feq (own_sp h32 hi (own_lt4 hc8 hn))).1)) ?_
        show own_G p e below s _ _ _ (T5.setTop (mkF m 26 #[.val (.ref a)] []))
        refine own_go (fun _ => XS.aloadN X5.here hx rfl (hb hby d6_26) rfl rfl) ?_
        show own_G p e below s _ _ _ (T5.setTop (mkF m 27 #[.val (.ref a)] [(.ref a)]))
        refine own_go (fun _ => XS.dup X5.here hx rfl (hb hby d6_27) rfl rfl) ?_
        show own_G p e below s _ _ _ (T5.setTop (mkF m 28 #[.val (.ref a)] [(.ref a), (.ref a)]))
        obtain ⟨T6, X6, e6, st6⟩ := getF X5 hx hZ hown (host := "") (Or.inl (hw _ (List.mem_of_getElem? (i := 28) rfl))) Via.refl e5 F_index (g := (mkF m 28 #[.val (.ref a)] [(.ref a), (.ref a)])) rfl rfl (hb hby d6_28)
        refine own_go (fun _ => st6 _) ?_
        show own_G p e below s _ _ _ (T6.setTop (mkF m 31 #[.val (.ref a)] [(.int i), (.ref a)]))
        refine own_go (fun _ => XS.iconst X6.here hx rfl (hb hby d6_31)) ?_
        show own_G p e below s _ _ _ (T6.setTop (mkF m 32 #[.val (.ref a)] [(.int (1 : Int32)), (.int i), (.ref a)]))
        refine own_go (fun _ => XS.iadd X6.here hx rfl (hb hby d6_32) rfl) ?_
        show own_G p e below s _ _ _ (T6.setTop (mkF m 33 #[.val (.ref a)] [(.int (i + (1 : Int32))), (.ref a)]))
        obtain ⟨T7, h7, X7, e7, W7, st7⟩ := putF X6 hx hZ hown (host := "") (Or.inl (hw _ (List.mem_of_getElem? (i := 28) rfl))) Via.refl e6 F_index E (Or.inl (hw _ (List.mem_of_getElem? (i := 29) rfl))) (hw _ (List.mem_of_getElem? (i := 2) rfl)) (ty := .int) (by decide) rfl rfl (g := (mkF m 33 #[.val (.ref a)] [(.int (i + (1 : Int32))), (.ref a)])) rfl rfl (hb hby d6_33)
        have N7 := Fr.snoc X7 N ga
        have Ew8 := E.wr W7
        have Fw9 := F_bytes.other W7 (Or.inr (slot_ne (Or.inr (hw _ (List.mem_of_getElem? (i := 11) rfl))) (Or.inl (hw _ (List.mem_of_getElem? (i := 29) rfl))) (by decide) (t := (.array .byte)) (t' := .int) (by decide) (by decide)))
        have Fw10 := F_start.other W7 (Or.inr (slot_ne (Or.inl (hw _ (List.mem_of_getElem? (i := 18) rfl))) (Or.inl (hw _ (List.mem_of_getElem? (i := 29) rfl))) (by decide) (t := .int) (t' := .int) (by decide) (by decide)))
        have Fw11 := F_limit.other W7 (Or.inr (slot_ne (Or.inl (hw _ (List.mem_of_getElem? (i := 20) rfl))) (Or.inl (hw _ (List.mem_of_getElem? (i := 29) rfl))) (by decide) (t := .int) (t' := .int) (by decide) (by decide)))
        have Fw12 := F_line.other W7 (Or.inr (slot_ne (Or.inl (hw _ (List.mem_of_getElem? (i := 27) rfl))) (Or.inl (hw _ (List.mem_of_getElem? (i := 29) rfl))) (by decide) (t := .long) (t' := .int) (by decide) (by decide)))
        have Fw13 := F_index.same W7
        have Aw14 := own_A_other A W7 hne
        have Kw15 := K.wr W7 (Or.inl (List.mem_of_getElem? (i := 0) rfl))
        refine own_go (fun _ => st7 _) ?_
        show own_G p e below s _ _ _ (T7.setTop (mkF m 36 #[.val (.ref a)] []))
        refine own_go (fun _ => XS.goto X7.here hx rfl (pc0 := 36) (pc' := 0) rfl (hb hby d6_36) (by decide) (by decide)) ?_
        refine own_eqE (own_fin1 hc8) ?_
        exact ih T7 h7 _ _ X7 e7 N7 Kw15 Ew8 Fw9 Fw10 Fw11 Fw12 Fw13 Aw14 (own_up hi hc8) (own_k hc8 hk) ((own_fin1 hc8).symm.trans hfin)
      · skip
        show own_G p e below s _ _ _ (T.setTop (mkF m 0 #[.val (.ref a)] []))
        refine own_go (fun _ => XS.aloadN X.here hx rfl (hb hby d6_0) rfl rfl) ?_
        show own_G p e below s _ _ _ (T.setTop (mkF m 1 #[.val (.ref a)] [(.ref a)]))
        obtain ⟨T1, X1, e1, st1⟩ := getF X hx hZ hown (host := "") (Or.inl (hw _ (List.mem_of_getElem? (i := 28) rfl))) Via.refl eT F_index (g := (mkF m 1 #[.val (.ref a)] [(.ref a)])) rfl rfl (hb hby d6_1)
        refine own_go (fun _ => st1 _) ?_
        show own_G p e below s _ _ _ (T1.setTop (mkF m 4 #[.val (.ref a)] [(.int i)]))
        refine own_go (fun _ => XS.aloadN X1.here hx rfl (hb hby d6_4) rfl rfl) ?_
        show own_G p e below s _ _ _ (T1.setTop (mkF m 5 #[.val (.ref a)] [(.ref a), (.int i)]))
        obtain ⟨T2, X2, e2, st2⟩ := getF X1 hx hZ hown (host := "") (Or.inl (hw _ (List.mem_of_getElem? (i := 19) rfl))) Via.refl e1 F_limit (g := (mkF m 5 #[.val (.ref a)] [(.ref a), (.int i)])) rfl rfl (hb hby d6_5)
        refine own_go (fun _ => st2 _) ?_
        show own_G p e below s _ _ _ (T2.setTop (mkF m 8 #[.val (.ref a)] [(.int n), (.int i)]))
        refine own_go (fun _ => XS.icmpYes X2.here hx rfl (pc0 := 8) (pc' := 39) rfl (hb hby d6_8) rfl (flt hc8).2.1 (by decide) (by decide)) ?_
        exact b39 T2 h Lc i X2 e2 N K E F_bytes F_start F_limit F_line F_index A hi hc8 hfin
  refine own_G0 (own_go (fun _ k => castTop (ef_6 m a) k) ?_)
  exact b0 4 s₁ h0 [] i0 X0 e0 (Fr.nil n0) (Keep.refl h0 [a]) E0 G_bytes G_start G_limit G_line G_index A0 hi0 hk0 rfl
def own_n0_f : Int32 → Int32 := (own_set (own_set (own_set (own_set (fun _ => 0) (0 : Int32) (nar .byte (32 : Int32))) (1 : Int32) (nar .byte (32 : Int32))) (2 : Int32) (nar .byte (32 : Int32))) (3 : Int32) (nar .byte (32 : Int32)))
def own_n0_41 : Int32 := (own_v3_0 (0 : Int32) (0 : Int32))
def own_n0_113 (q5 : Int32) : Int32 := ((own_us q5 (2 : Int32)) &&& (3 : Int32))
def own_n0_128 (q5 : Int32) : Int32 := (own_v5_0 (4 : Int32) ((own_n0_113 q5) + ((own_us q5 (4 : Int32)) &&& (3 : Int32))))
def own_n0_152 (q5 : Int32) : Int32 := (own_v3_0 (own_n0_113 q5) (own_n0_128 q5))
def own_v0_213 (f_a1 : Int32 → Int32) (q0 : Int32) (q1 : Int32) (q2 : Int32) (q3 : Int32) (q4 : Int64) (q5 : Int32) (j55_S0 : Int32) (j86_S0 : Int32) (j213_S0 : Int32) : Int32 := (nar .boolean j213_S0)
def own_v0_212 (f_a1 : Int32 → Int32) (q0 : Int32) (q1 : Int32) (q2 : Int32) (q3 : Int32) (q4 : Int64) (q5 : Int32) (j55_S0 : Int32) (j86_S0 : Int32) : Int32 := (own_v0_213 f_a1 q0 q1 q2 q3 q4 q5 j55_S0 j86_S0 (0 : Int32))
def own_v0_205 (f_a1 : Int32 → Int32) (q0 : Int32) (q1 : Int32) (q2 : Int32) (q3 : Int32) (q4 : Int64) (q5 : Int32) (j55_S0 : Int32) (j86_S0 : Int32) (j205_S0 : Int32) : Int32 := (if (own_n0_152 q5) = j205_S0 then (own_v0_213 f_a1 q0 q1 q2 q3 q4 q5 j55_S0 j86_S0 (1 : Int32)) else (own_v0_212 f_a1 q0 q1 q2 q3 q4 q5 j55_S0 j86_S0))
def own_v0_188 (f_a1 : Int32 → Int32) (q0 : Int32) (q1 : Int32) (q2 : Int32) (q3 : Int32) (q4 : Int64) (q5 : Int32) (j55_S0 : Int32) (j86_S0 : Int32) (j188_S0 : Int32) : Int32 := (if (own_v3_0 q2 j86_S0) = j188_S0 then (if (own_n0_113 q5) = (own_n0_128 q5) then (own_v0_205 f_a1 q0 q1 q2 q3 q4 q5 j55_S0 j86_S0 (1 : Int32)) else (own_v0_205 f_a1 q0 q1 q2 q3 q4 q5 j55_S0 j86_S0 (0 : Int32))) else (own_v0_212 f_a1 q0 q1 q2 q3 q4 q5 j55_S0 j86_S0))
def own_v0_172 (f_a1 : Int32 → Int32) (q0 : Int32) (q1 : Int32) (q2 : Int32) (q3 : Int32) (q4 : Int64) (q5 : Int32) (j55_S0 : Int32) (j86_S0 : Int32) (j172_S0 : Int32) : Int32 := (if (own_v3_0 q0 j55_S0) = j172_S0 then (if q2 = j86_S0 then (own_v0_188 f_a1 q0 q1 q2 q3 q4 q5 j55_S0 j86_S0 (1 : Int32)) else (own_v0_188 f_a1 q0 q1 q2 q3 q4 q5 j55_S0 j86_S0 (0 : Int32))) else (own_v0_212 f_a1 q0 q1 q2 q3 q4 q5 j55_S0 j86_S0))
def own_v0_86 (f_a1 : Int32 → Int32) (q0 : Int32) (q1 : Int32) (q2 : Int32) (q3 : Int32) (q4 : Int64) (q5 : Int32) (j55_S0 : Int32) (j86_S0 : Int32) : Int32 := (if own_n0_41 = (0 : Int32) then (own_v0_212 f_a1 q0 q1 q2 q3 q4 q5 j55_S0 j86_S0) else (if q0 = j55_S0 then (own_v0_172 f_a1 q0 q1 q2 q3 q4 q5 j55_S0 j86_S0 (1 : Int32)) else (own_v0_172 f_a1 q0 q1 q2 q3 q4 q5 j55_S0 j86_S0 (0 : Int32))))
def own_v0_55 (f_a1 : Int32 → Int32) (q0 : Int32) (q1 : Int32) (q2 : Int32) (q3 : Int32) (q4 : Int64) (q5 : Int32) (j55_S0 : Int32) : Int32 := (if (q5 &&& (2 : Int32)) = (0 : Int32) then (own_v0_86 f_a1 q0 q1 q2 q3 q4 q5 j55_S0 q3) else (own_v0_86 f_a1 q0 q1 q2 q3 q4 q5 j55_S0 q2))
def own_v0_43 (q0 : Int32) (q1 : Int32) (q2 : Int32) (q3 : Int32) (q4 : Int64) (q5 : Int32) : Int32 := (if (q5 &&& (1 : Int32)) = (0 : Int32) then (own_v0_55 own_n0_f q0 q1 q2 q3 q4 q5 q1) else (own_v0_55 own_n0_f q0 q1 q2 q3 q4 q5 q0))
theorem own_32f : own_32 own_n0_f := fun j h0 h4 => by
  have nb : nar .byte (32 : Int32) = 32 := rfl
  have e0 : (0 : Int32).toInt = 0 := rfl
  have e1 : (1 : Int32).toInt = 1 := rfl
  have e2 : (2 : Int32).toInt = 2 := rfl
  have e3 : (3 : Int32).toInt = 3 := rfl
  have e4 : (4 : Int32).toInt = 4 := rfl
  rw [own_lt] at h0 h4
  have c : j = 0 ∨ j = 1 ∨ j = 2 ∨ j = 3 := by
    simp only [← Int32.toInt_inj, e0, e1, e2, e3]
    omega
  rcases c with rfl | rfl | rfl | rfl <;> rfl
theorem own_s3_i (q : Int32) : 0 ≤ (own_n0_113 q).toInt ∧ (own_n0_113 q).toInt ≤ 3 := by
  have h := own_mask (own_us q (2 : Int32)) 3 (by decide)
  have e : (3 : Int32).toInt = 3 := rfl
  rw [own_n0_113]
  omega
theorem own_s3 (q : Int32) : ¬ own_n0_113 q < 0 := by
  have := own_s3_i q
  have e : (0 : Int32).toInt = 0 := rfl
  rw [own_lt]
  omega
theorem own_l3 (q : Int32) : ¬ (4 : Int32) < own_n0_128 q := by
  rw [own_n0_128, own_v5_0]
  split
  · rename_i h
    rw [own_v5_10]
    rw [own_lt] at h ⊢
    omega
  · rw [own_v5_10]
    decide
theorem own_sl (q : Int32) : (own_n0_128 q).toInt ≤ (own_n0_113 q).toInt + 4 := by
  have h := own_l3 q
  have h1 := own_s3_i q
  have e : (4 : Int32).toInt = 4 := rfl
  rw [own_lt] at h
  omega
theorem own_em (t n : Int32) : own_v3_0 t n = if t = n then 1 else 0 := by
  have k1 : own_v3_16 t n 1 = 1 := rfl
  have k0 : own_v3_16 t n 0 = 0 := rfl
  rw [own_v3_0, k1, k0]
theorem own_law2 (f : Int32 → Int32) (q0 q1 q2 q3 : Int32) (q4 : Int64) (q5 u v : Int32) : own_v0_86 f q0 q1 q2 q3 q4 q5 u v = 1 := by
  have t1 : ¬ own_n0_41 = 0 := by
    rw [own_n0_41, own_em, if_pos rfl]
    decide
  have e205 : own_v0_188 f q0 q1 q2 q3 q4 q5 u v (own_v3_0 q2 v) = 1 := by
    rw [own_v0_188, if_pos rfl]
    by_cases h : own_n0_113 q5 = own_n0_128 q5
    · rw [if_pos h, own_v0_205, if_pos (by rw [own_n0_152, own_em, if_pos h])]
      rfl
    · rw [if_neg h, own_v0_205, if_pos (by rw [own_n0_152, own_em, if_neg h])]
      rfl
  have e172 : own_v0_172 f q0 q1 q2 q3 q4 q5 u v (own_v3_0 q0 u) = 1 := by
    rw [own_v0_172, if_pos rfl]
    by_cases h : q2 = v
    · rw [if_pos h]
      rw [own_em, if_pos h] at e205
      exact e205
    · rw [if_neg h]
      rw [own_em, if_neg h] at e205
      exact e205
  rw [own_v0_86, if_neg t1]
  by_cases h : q0 = u
  · rw [if_pos h]
    rw [own_em, if_pos h] at e172
    exact e172
  · rw [if_neg h]
    rw [own_em, if_neg h] at e172
    exact e172
theorem own_law (q0 q1 q2 q3 : Int32) (q4 : Int64) (q5 : Int32) : own_v0_43 q0 q1 q2 q3 q4 q5 = 1 := by
  rw [own_v0_43]
  split <;> rw [own_v0_55] <;> split <;> exact own_law2 _ q0 q1 q2 q3 q4 q5 _ _

theorem pn_0 : plainName "com/example/rolewright/rolewright/io/JsonCursorIsEmptyPinLaw" = true := by first | (simp [plainName, overriddenIn]; done) | decide +kernel
theorem ef_0 (m : MethodId) (q0 : Int32) (q1 : Int32) (q2 : Int32) (q3 : Int32) (q4 : Int64) (q5 : Int32) : entryFrame m #[(.int q0), (.int q1), (.int q2), (.int q3), (.long q4), (.int q5)] maxLocals = mkF m 0 #[.val (.int q0), .val (.int q1), .val (.int q2), .val (.int q3), .val (.long q4), .second, .val (.int q5), .unset, .unset, .unset, .unset, .unset, .unset, .unset, .unset, .unset, .unset] [] := by first | (simp [entryFrame, mkF, argsToLocals, Value.category, maxLocals]; done) | rfl
set_option maxRecDepth 65536 in
set_option maxHeartbeats 40000000 in
theorem rm0 (l : Launch) (Z : State) (a0 : Array Value) (hw : ∀ d ∈ tables_1, d.before a0 Z = true) (ws : List Jvm.Cond) (q0 : Int32) (q1 : Int32) (q2 : Int32) (q3 : Int32) (q4 : Int64) (q5 : Int32) (h0 : Heap) (n0 : Nat) (Z0 : n0 ≤ h0.size)  :
    MetFree l x (head1 (Jvm.Cond.code x code maxLocals ret :: ws) room_1) (fun aa U => aa = #[(.int q0), (.int q1), (.int q2), (.int q3), (.long q4), (.int q5)] ∧ Z.Warmed39 U.vm ∧ U.heap = h0) (fun _ _ _ _ _ => True) (fun _ U o U' => ∃ v L, o = .returned v ∧ own_QF (some (.int (own_v0_43 q0 q1 q2 q3 q4 q5))) n0 v U'.heap L ∧ FrameEnd U o U' L room_1.cells room_1.slots) := by
  refine MetFree.of_bodySF (plainFor_of_name pn_0) hisR ?_
  intro p e s m args below meth c s₁ Bd hml0 hP hK
  obtain ⟨rfl, hZ, hh⟩ := hP
  have hx := Bd.exec
  have hby := Bd.bytes
  have hml : c.maxLocals = 17 := hml0
  have hlk : meth.locks = false := Bd.notSynchronized
  have hown : s.vm.findClass "com/example/rolewright/rolewright/io/JsonCursorIsEmptyPinLaw" = some m.cls := findClass_of_methodNamed Bd.named
  have X0 : Stand p l e room_1 s m #[(.int q0), (.int q1), (.int q2), (.int q3), (.long q4), (.int q5)] below meth c s₁ [] 0 0 := Stand.of_body Bd
  have e0 : s₁.heap = h0 := by rw [← hh, Bd.state]; rfl
  refine own_G0 (own_go (fun _ k => castTop (ef_0 m q0 q1 q2 q3 q4 q5) k) ?_)
  show own_G p e below s _ _ _ (s₁.setTop (mkF m 0 #[.val (.int q0), .val (.int q1), .val (.int q2), .val (.int q3), .val (.long q4), .second, .val (.int q5), .unset, .unset, .unset, .unset, .unset, .unset, .unset, .unset, .unset, .unset] []))
  refine own_go (fun _ => XS.iconst X0.here hx rfl (hb hby at_0)) ?_
  show own_G p e below s _ _ _ (s₁.setTop (mkF m 1 #[.val (.int q0), .val (.int q1), .val (.int q2), .val (.int q3), .val (.long q4), .second, .val (.int q5), .unset, .unset, .unset, .unset, .unset, .unset, .unset, .unset, .unset, .unset] [(.int (4 : Int32))]))
  obtain ⟨T1, h1, a1, X1, e1, E1, ga1, g1, A1, st1⟩ := own_new X0 hx hZ (hw _ (List.mem_of_getElem? (i := 0) rfl)) e0 Z0 rfl (g := (mkF m 1 #[.val (.int q0), .val (.int q1), .val (.int q2), .val (.int q3), .val (.long q4), .second, .val (.int q5), .unset, .unset, .unset, .unset, .unset, .unset, .unset, .unset, .unset, .unset] [(.int (4 : Int32))])) rfl (hb hby at_1) rfl (by decide) (cap := 4) (by decide) (by decide) (by decide) (by decide)
  have sz2 := Nat.le_trans Z0 E1.1
  refine own_go (fun _ => st1 _) ?_
  show own_G p e below s _ _ _ (T1.setTop (mkF m 3 #[.val (.int q0), .val (.int q1), .val (.int q2), .val (.int q3), .val (.long q4), .second, .val (.int q5), .unset, .unset, .unset, .unset, .unset, .unset, .unset, .unset, .unset, .unset] [(.ref a1)]))
  refine own_go (fun _ => XS.dup X1.here hx rfl (hb hby at_3) rfl rfl) ?_
  show own_G p e below s _ _ _ (T1.setTop (mkF m 4 #[.val (.int q0), .val (.int q1), .val (.int q2), .val (.int q3), .val (.long q4), .second, .val (.int q5), .unset, .unset, .unset, .unset, .unset, .unset, .unset, .unset, .unset, .unset] [(.ref a1), (.ref a1)]))
  refine own_go (fun _ => XS.iconst X1.here hx rfl (hb hby at_4)) ?_
  show own_G p e below s _ _ _ (T1.setTop (mkF m 5 #[.val (.int q0), .val (.int q1), .val (.int q2), .val (.int q3), .val (.long q4), .second, .val (.int q5), .unset, .unset, .unset, .unset, .unset, .unset, .unset, .unset, .unset, .unset] [(.int (0 : Int32)), (.ref a1), (.ref a1)]))
  refine own_go (fun _ => XS.bipush X1.here hx rfl (hb hby at_5)) ?_
  show own_G p e below s _ _ _ (T1.setTop (mkF m 7 #[.val (.int q0), .val (.int q1), .val (.int q2), .val (.int q3), .val (.long q4), .second, .val (.int q5), .unset, .unset, .unset, .unset, .unset, .unset, .unset, .unset, .unset, .unset] [(.int (32 : Int32)), (.int (0 : Int32)), (.ref a1), (.ref a1)]))
  obtain ⟨T3, h3, L3, X3, e3, N3, A3, W3, st3⟩ := own_stB X1 hx hZ e1 A1 (Fr.nil n0) g1 (by decide) (by decide) (g := (mkF m 7 #[.val (.int q0), .val (.int q1), .val (.int q2), .val (.int q3), .val (.long q4), .second, .val (.int q5), .unset, .unset, .unset, .unset, .unset, .unset, .unset, .unset, .unset, .unset] [(.int (32 : Int32)), (.int (0 : Int32)), (.ref a1), (.ref a1)])) rfl rfl (hb hby at_7)
  have sz4 := Nat.le_trans sz2 (Nat.le_of_eq (Wr.size W3).symm)
  refine own_go (fun _ => st3 _) ?_
  show own_G p e below s _ _ _ (T3.setTop (mkF m 8 #[.val (.int q0), .val (.int q1), .val (.int q2), .val (.int q3), .val (.long q4), .second, .val (.int q5), .unset, .unset, .unset, .unset, .unset, .unset, .unset, .unset, .unset, .unset] [(.ref a1)]))
  refine own_go (fun _ => XS.dup X3.here hx rfl (hb hby at_8) rfl rfl) ?_
  show own_G p e below s _ _ _ (T3.setTop (mkF m 9 #[.val (.int q0), .val (.int q1), .val (.int q2), .val (.int q3), .val (.long q4), .second, .val (.int q5), .unset, .unset, .unset, .unset, .unset, .unset, .unset, .unset, .unset, .unset] [(.ref a1), (.ref a1)]))
  refine own_go (fun _ => XS.iconst X3.here hx rfl (hb hby at_9)) ?_
  show own_G p e below s _ _ _ (T3.setTop (mkF m 10 #[.val (.int q0), .val (.int q1), .val (.int q2), .val (.int q3), .val (.long q4), .second, .val (.int q5), .unset, .unset, .unset, .unset, .unset, .unset, .unset, .unset, .unset, .unset] [(.int (1 : Int32)), (.ref a1), (.ref a1)]))
  refine own_go (fun _ => XS.bipush X3.here hx rfl (hb hby at_10)) ?_
  show own_G p e below s _ _ _ (T3.setTop (mkF m 12 #[.val (.int q0), .val (.int q1), .val (.int q2), .val (.int q3), .val (.long q4), .second, .val (.int q5), .unset, .unset, .unset, .unset, .unset, .unset, .unset, .unset, .unset, .unset] [(.int (32 : Int32)), (.int (1 : Int32)), (.ref a1), (.ref a1)]))
  obtain ⟨T5, h5, L5, X5, e5, N5, A5, W5, st5⟩ := own_stB X3 hx hZ e3 A3 N3 g1 (by decide) (by decide) (g := (mkF m 12 #[.val (.int q0), .val (.int q1), .val (.int q2), .val (.int q3), .val (.long q4), .second, .val (.int q5), .unset, .unset, .unset, .unset, .unset, .unset, .unset, .unset, .unset, .unset] [(.int (32 : Int32)), (.int (1 : Int32)), (.ref a1), (.ref a1)])) rfl rfl (hb hby at_12)
  have sz6 := Nat.le_trans sz4 (Nat.le_of_eq (Wr.size W5).symm)
  refine own_go (fun _ => st5 _) ?_
  show own_G p e below s _ _ _ (T5.setTop (mkF m 13 #[.val (.int q0), .val (.int q1), .val (.int q2), .val (.int q3), .val (.long q4), .second, .val (.int q5), .unset, .unset, .unset, .unset, .unset, .unset, .unset, .unset, .unset, .unset] [(.ref a1)]))
  refine own_go (fun _ => XS.dup X5.here hx rfl (hb hby at_13) rfl rfl) ?_
  show own_G p e below s _ _ _ (T5.setTop (mkF m 14 #[.val (.int q0), .val (.int q1), .val (.int q2), .val (.int q3), .val (.long q4), .second, .val (.int q5), .unset, .unset, .unset, .unset, .unset, .unset, .unset, .unset, .unset, .unset] [(.ref a1), (.ref a1)]))
  refine own_go (fun _ => XS.iconst X5.here hx rfl (hb hby at_14)) ?_
  show own_G p e below s _ _ _ (T5.setTop (mkF m 15 #[.val (.int q0), .val (.int q1), .val (.int q2), .val (.int q3), .val (.long q4), .second, .val (.int q5), .unset, .unset, .unset, .unset, .unset, .unset, .unset, .unset, .unset, .unset] [(.int (2 : Int32)), (.ref a1), (.ref a1)]))
  refine own_go (fun _ => XS.bipush X5.here hx rfl (hb hby at_15)) ?_
  show own_G p e below s _ _ _ (T5.setTop (mkF m 17 #[.val (.int q0), .val (.int q1), .val (.int q2), .val (.int q3), .val (.long q4), .second, .val (.int q5), .unset, .unset, .unset, .unset, .unset, .unset, .unset, .unset, .unset, .unset] [(.int (32 : Int32)), (.int (2 : Int32)), (.ref a1), (.ref a1)]))
  obtain ⟨T7, h7, L7, X7, e7, N7, A7, W7, st7⟩ := own_stB X5 hx hZ e5 A5 N5 g1 (by decide) (by decide) (g := (mkF m 17 #[.val (.int q0), .val (.int q1), .val (.int q2), .val (.int q3), .val (.long q4), .second, .val (.int q5), .unset, .unset, .unset, .unset, .unset, .unset, .unset, .unset, .unset, .unset] [(.int (32 : Int32)), (.int (2 : Int32)), (.ref a1), (.ref a1)])) rfl rfl (hb hby at_17)
  have sz8 := Nat.le_trans sz6 (Nat.le_of_eq (Wr.size W7).symm)
  refine own_go (fun _ => st7 _) ?_
  show own_G p e below s _ _ _ (T7.setTop (mkF m 18 #[.val (.int q0), .val (.int q1), .val (.int q2), .val (.int q3), .val (.long q4), .second, .val (.int q5), .unset, .unset, .unset, .unset, .unset, .unset, .unset, .unset, .unset, .unset] [(.ref a1)]))
  refine own_go (fun _ => XS.dup X7.here hx rfl (hb hby at_18) rfl rfl) ?_
  show own_G p e below s _ _ _ (T7.setTop (mkF m 19 #[.val (.int q0), .val (.int q1), .val (.int q2), .val (.int q3), .val (.long q4), .second, .val (.int q5), .unset, .unset, .unset, .unset, .unset, .unset, .unset, .unset, .unset, .unset] [(.ref a1), (.ref a1)]))
  refine own_go (fun _ => XS.iconst X7.here hx rfl (hb hby at_19)) ?_
  show own_G p e below s _ _ _ (T7.setTop (mkF m 20 #[.val (.int q0), .val (.int q1), .val (.int q2), .val (.int q3), .val (.long q4), .second, .val (.int q5), .unset, .unset, .unset, .unset, .unset, .unset, .unset, .unset, .unset, .unset] [(.int (3 : Int32)), (.ref a1), (.ref a1)]))
  refine own_go (fun _ => XS.bipush X7.here hx rfl (hb hby at_20)) ?_
  show own_G p e below s _ _ _ (T7.setTop (mkF m 22 #[.val (.int q0), .val (.int q1), .val (.int q2), .val (.int q3), .val (.long q4), .second, .val (.int q5), .unset, .unset, .unset, .unset, .unset, .unset, .unset, .unset, .unset, .unset] [(.int (32 : Int32)), (.int (3 : Int32)), (.ref a1), (.ref a1)]))
  obtain ⟨T9, h9, L9, X9, e9, N9, A9, W9, st9⟩ := own_stB X7 hx hZ e7 A7 N7 g1 (by decide) (by decide) (g := (mkF m 22 #[.val (.int q0), .val (.int q1), .val (.int q2), .val (.int q3), .val (.long q4), .second, .val (.int q5), .unset, .unset, .unset, .unset, .unset, .unset, .unset, .unset, .unset, .unset] [(.int (32 : Int32)), (.int (3 : Int32)), (.ref a1), (.ref a1)])) rfl rfl (hb hby at_22)
  have A9 : own_A Z h9 a1 .byte (4 : Int32) own_n0_f := A9
  have sz10 := Nat.le_trans sz8 (Nat.le_of_eq (Wr.size W9).symm)
  refine own_go (fun _ => st9 _) ?_
  show own_G p e below s _ _ _ (T9.setTop (mkF m 23 #[.val (.int q0), .val (.int q1), .val (.int q2), .val (.int q3), .val (.long q4), .second, .val (.int q5), .unset, .unset, .unset, .unset, .unset, .unset, .unset, .unset, .unset, .unset] [(.ref a1)]))
  refine own_go (fun _ => XS.astore X9.here hx rfl (hb hby at_23) rfl rfl (l' := #[.val (.int q0), .val (.int q1), .val (.int q2), .val (.int q3), .val (.long q4), .second, .val (.int q5), .val (.ref a1), .unset, .unset, .unset, .unset, .unset, .unset, .unset, .unset, .unset]) rfl) ?_
  show own_G p e below s _ _ _ (T9.setTop (mkF m 25 #[.val (.int q0), .val (.int q1), .val (.int q2), .val (.int q3), .val (.long q4), .second, .val (.int q5), .val (.ref a1), .unset, .unset, .unset, .unset, .unset, .unset, .unset, .unset, .unset] []))
  obtain ⟨T11, h11, b11, X11, e11, E11, ga11, g11, z11, A11, D11, st11⟩ := own_newO X9 hx hZ hown (hw _ (List.mem_of_getElem? (i := 1) rfl)) (hw _ (List.mem_of_getElem? (i := 2) rfl)) (hw _ (List.mem_of_getElem? (i := 3) rfl)) e9 sz10 (g := (mkF m 25 #[.val (.int q0), .val (.int q1), .val (.int q2), .val (.int q3), .val (.long q4), .second, .val (.int q5), .val (.ref a1), .unset, .unset, .unset, .unset, .unset, .unset, .unset, .unset, .unset] [])) rfl (hb hby at_25) (by decide) (by decide)
  have ne12 : a1 ≠ b11 := Nat.ne_of_lt (Nat.lt_of_lt_of_eq (own_A_lt A9) ga11.symm)
  have Ae13 := own_A_ext A9 E11
  have Fd14 : Fld Z h11 b11 "com/example/rolewright/rolewright/io/JsonCursor" "bytes" "[B" .null := D11 (Or.inr (hw _ (List.mem_of_getElem? (i := 11) rfl))) (ty := (.array .byte)) (by decide)
  have Fd15 : Fld Z h11 b11 "com/example/rolewright/rolewright/io/JsonCursor" "start" "I" (.int (0 : Int32)) := D11 (Or.inl (hw _ (List.mem_of_getElem? (i := 18) rfl))) (ty := .int) (by decide)
  have Fd16 : Fld Z h11 b11 "com/example/rolewright/rolewright/io/JsonCursor" "limit" "I" (.int (0 : Int32)) := D11 (Or.inl (hw _ (List.mem_of_getElem? (i := 20) rfl))) (ty := .int) (by decide)
  have Fd17 : Fld Z h11 b11 "com/example/rolewright/rolewright/io/JsonCursor" "line" "J" (.long (0 : Int64)) := D11 (Or.inl (hw _ (List.mem_of_getElem? (i := 27) rfl))) (ty := .long) (by decide)
  have Fd18 : Fld Z h11 b11 "com/example/rolewright/rolewright/io/JsonCursor" "index" "I" (.int (0 : Int32)) := D11 (Or.inl (hw _ (List.mem_of_getElem? (i := 29) rfl))) (ty := .int) (by decide)
  refine own_go (fun _ => st11 _) ?_
  show own_G p e below s _ _ _ (T11.setTop (mkF m 28 #[.val (.int q0), .val (.int q1), .val (.int q2), .val (.int q3), .val (.long q4), .second, .val (.int q5), .val (.ref a1), .unset, .unset, .unset, .unset, .unset, .unset, .unset, .unset, .unset] [(.ref b11)]))
  refine own_go (fun _ => XS.dup X11.here hx rfl (hb hby at_28) rfl rfl) ?_
  show own_G p e below s _ _ _ (T11.setTop (mkF m 29 #[.val (.int q0), .val (.int q1), .val (.int q2), .val (.int q3), .val (.long q4), .second, .val (.int q5), .val (.ref a1), .unset, .unset, .unset, .unset, .unset, .unset, .unset, .unset, .unset] [(.ref b11), (.ref b11)]))
  refine own_go (fun _ => XS.aload X11.here hx rfl (hb hby at_29) rfl rfl) ?_
  show own_G p e below s _ _ _ (T11.setTop (mkF m 31 #[.val (.int q0), .val (.int q1), .val (.int q2), .val (.int q3), .val (.long q4), .second, .val (.int q5), .val (.ref a1), .unset, .unset, .unset, .unset, .unset, .unset, .unset, .unset, .unset] [(.ref a1), (.ref b11), (.ref b11)]))
  obtain ⟨T19, h19, L19, X19, e19, N19, P19, st19⟩ := own_callI X11 hx hZ rfl hown (hw _ (List.mem_of_getElem? (i := 4) rfl)) (hw _ (List.mem_of_getElem? (i := 5) rfl)) (hw _ (List.mem_of_getElem? (i := 6) rfl)) (hw _ (List.mem_of_getElem? (i := 3) rfl)) (by decide) (rm1 l Z a0 hw [] b11 a1 h11 n0 z11 g11 A11 Fd14 Fd15 Fd16 Fd17 Fd18) e11 N9 (W := 1) (by decide) (by decide) (by decide) (by decide) (g := (mkF m 31 #[.val (.int q0), .val (.int q1), .val (.int q2), .val (.int q3), .val (.long q4), .second, .val (.int q5), .val (.ref a1), .unset, .unset, .unset, .unset, .unset, .unset, .unset, .unset, .unset] [(.ref a1), (.ref b11), (.ref b11)])) rfl (by rw [hml]; rfl) (argsL := [(.ref a1)]) (rest := [(.ref b11)]) (lenOf (by decide +kernel : parseMethodDescriptor "([B)V" = some ⟨[(.array .byte)], none⟩) rfl) rfl rfl (by show 2 * 0 + _ ≤ _; exact Nat.le_of_eq rfl) (hb hby at_31)
  obtain ⟨K19, Ec19, Fc19_0, Fc19_1, Fc19_2, Fc19_3, Fc19_4⟩ := P19
  have Ek20 := A11.keep K19
  have Ak21 := own_A_keep Ae13 K19 (fun q => ne12 (List.mem_singleton.mp q))
  have zk22 := Nat.le_trans z11 K19.1
  refine own_go (fun _ => st19 _) ?_
  show own_G p e below s _ _ _ (T19.setTop (mkF m 34 #[.val (.int q0), .val (.int q1), .val (.int q2), .val (.int q3), .val (.long q4), .second, .val (.int q5), .val (.ref a1), .unset, .unset, .unset, .unset, .unset, .unset, .unset, .unset, .unset] [(.ref b11)]))
  refine own_go (fun _ => XS.astore X19.here hx rfl (hb hby at_34) rfl rfl (l' := #[.val (.int q0), .val (.int q1), .val (.int q2), .val (.int q3), .val (.long q4), .second, .val (.int q5), .val (.ref a1), .val (.ref b11), .unset, .unset, .unset, .unset, .unset, .unset, .unset, .unset]) rfl) ?_
  show own_G p e below s _ _ _ (T19.setTop (mkF m 36 #[.val (.int q0), .val (.int q1), .val (.int q2), .val (.int q3), .val (.long q4), .second, .val (.int q5), .val (.ref a1), .val (.ref b11), .unset, .unset, .unset, .unset, .unset, .unset, .unset, .unset] []))
  refine own_go (fun _ => XS.aload X19.here hx rfl (hb hby at_36) rfl rfl) ?_
  show own_G p e below s _ _ _ (T19.setTop (mkF m 38 #[.val (.int q0), .val (.int q1), .val (.int q2), .val (.int q3), .val (.long q4), .second, .val (.int q5), .val (.ref a1), .val (.ref b11), .unset, .unset, .unset, .unset, .unset, .unset, .unset, .unset] [(.ref b11)]))
  obtain ⟨T23, X23, e23, st23⟩ := own_callV X19 hx hZ hown (hw _ (List.mem_of_getElem? (i := 12) rfl)) (hw _ (List.mem_of_getElem? (i := 13) rfl)) (hw _ (List.mem_of_getElem? (i := 15) rfl)) (hw _ (List.mem_of_getElem? (i := 14) rfl)) (hw _ (List.mem_of_getElem? (i := 16) rfl)) (hw _ (List.mem_of_getElem? (i := 3) rfl)) (by decide) (rm3 l Z a0 hw [] b11 h19 _ _ Fc19_1 Fc19_2) rfl rfl e19 Ec19 (W := 0) (by decide) (by decide) (by decide) (by decide) (g := (mkF m 38 #[.val (.int q0), .val (.int q1), .val (.int q2), .val (.int q3), .val (.long q4), .second, .val (.int q5), .val (.ref a1), .val (.ref b11), .unset, .unset, .unset, .unset, .unset, .unset, .unset, .unset] [(.ref b11)])) rfl (by rw [hml]; rfl) (argsL := []) (rest := []) (lenOf (by decide +kernel : parseMethodDescriptor "()Z" = some ⟨[], some .boolean⟩) rfl) rfl rfl (by show 2 * 0 + _ ≤ _; exact Nat.le_of_eq rfl) (hb hby at_38)
  refine own_go (fun _ => st23 _) ?_
  show own_G p e below s _ _ _ (T23.setTop (mkF m 41 #[.val (.int q0), .val (.int q1), .val (.int q2), .val (.int q3), .val (.long q4), .second, .val (.int q5), .val (.ref a1), .val (.ref b11), .unset, .unset, .unset, .unset, .unset, .unset, .unset, .unset] [(.int (own_v3_0 (0 : Int32) (0 : Int32)))]))
  refine own_go (fun _ => XS.istore X23.here hx rfl (hb hby at_41) rfl (l' := #[.val (.int q0), .val (.int q1), .val (.int q2), .val (.int q3), .val (.long q4), .second, .val (.int q5), .val (.ref a1), .val (.ref b11), .val (.int own_n0_41), .unset, .unset, .unset, .unset, .unset, .unset, .unset]) rfl) ?_
  have b213 : ∀ (T : State) (h : Heap) (Lc : List Loc), Stand p l e room_1 s m #[(.int q0), (.int q1), (.int q2), (.int q3), (.long q4), (.int q5)] below meth c T Lc (((((((0 + 1) + 1) + 0) + 0) + 0) + 0) + 0) (((((((0 + 4) + 5) + 0) + 0) + 0) + 0) + 0) → T.heap = h → Fr n0 Lc → ∀ (f_a1 : Int32 → Int32), own_A Z h a1 .byte (4 : Int32) f_a1 → ∀ (j55_S0 : Int32) (j86_S0 : Int32) (j213_S0 : Int32), own_G p e below s (own_QF (some (.int (own_v0_213 f_a1 q0 q1 q2 q3 q4 q5 j55_S0 j86_S0 j213_S0))) n0) room_1.cells room_1.slots (T.setTop (mkF m 213 #[.val (.int q0), .val (.int q1), .val (.int q2), .val (.int q3), .val (.long q4), .second, .val (.int q5), .val (.ref a1), .val (.ref b11), .val (.int own_n0_41), .val (.int j55_S0), .val (.int (own_v3_0 q0 j55_S0)), .val (.int j86_S0), .val (.int (own_v3_0 q2 j86_S0)), .val (.int (own_n0_113 q5)), .val (.int (own_n0_128 q5)), .val (.int (own_n0_152 q5))] [(.int j213_S0)])) := by
    intro T h Lc X eT N f_a1 A_a1 j55_S0 j86_S0 j213_S0
    show own_G p e below s (own_QF (some (.int (nar .boolean j213_S0))) n0) room_1.cells room_1.slots (T.setTop (mkF m 213 #[.val (.int q0), .val (.int q1), .val (.int q2), .val (.int q3), .val (.long q4), .second, .val (.int q5), .val (.ref a1), .val (.ref b11), .val (.int own_n0_41), .val (.int j55_S0), .val (.int (own_v3_0 q0 j55_S0)), .val (.int j86_S0), .val (.int (own_v3_0 q2 j86_S0)), .val (.int (own_n0_113 q5)), .val (.int (own_n0_128 q5)), .val (.int (own_n0_152 q5))] [(.int j213_S0)]))
    exact own_retN X hx hlk (t := .boolean) Bd.returns (by simp) (hb hby at_213) (by decide) (by decide) ⟨rfl, N⟩
  have b212 : ∀ (T : State) (h : Heap) (Lc : List Loc), Stand p l e room_1 s m #[(.int q0), (.int q1), (.int q2), (.int q3), (.long q4), (.int q5)] below meth c T Lc (((((((0 + 1) + 1) + 0) + 0) + 0) + 0) + 0) (((((((0 + 4) + 5) + 0) + 0) + 0) + 0) + 0) → T.heap = h → Fr n0 Lc → ∀ (f_a1 : Int32 → Int32), own_A Z h a1 .byte (4 : Int32) f_a1 → ∀ (j55_S0 : Int32) (j86_S0 : Int32), own_G p e below s (own_QF (some (.int (own_v0_212 f_a1 q0 q1 q2 q3 q4 q5 j55_S0 j86_S0))) n0) room_1.cells room_1.slots (T.setTop (mkF m 212 #[.val (.int q0), .val (.int q1), .val (.int q2), .val (.int q3), .val (.long q4), .second, .val (.int q5), .val (.ref a1), .val (.ref b11), .val (.int own_n0_41), .val (.int j55_S0), .val (.int (own_v3_0 q0 j55_S0)), .val (.int j86_S0), .val (.int (own_v3_0 q2 j86_S0)), .val (.int (own_n0_113 q5)), .val (.int (own_n0_128 q5)), .val (.int (own_n0_152 q5))] [])) := by
    intro T h Lc X eT N f_a1 A_a1 j55_S0 j86_S0
    show own_G p e below s (own_QF (some (.int (own_v0_213 f_a1 q0 q1 q2 q3 q4 q5 j55_S0 j86_S0 (0 : Int32)))) n0) room_1.cells room_1.slots (T.setTop (mkF m 212 #[.val (.int q0), .val (.int q1), .val (.int q2), .val (.int q3), .val (.long q4), .second, .val (.int q5), .val (.ref a1), .val (.ref b11), .val (.int own_n0_41), .val (.int j55_S0), .val (.int (own_v3_0 q0 j55_S0)), .val (.int j86_S0), .val (.int (own_v3_0 q2 j86_S0)), .val (.int (own_n0_113 q5)), .val (.int (own_n0_128 q5)), .val (.int (own_n0_152 q5))] []))
    refine own_go (fun _ => XS.iconst X.here hx rfl (hb hby at_212)) ?_
    exact b213 T h Lc X eT N f_a1 A_a1 j55_S0 j86_S0 (0 : Int32)
  have b205 : ∀ (T : State) (h : Heap) (Lc : List Loc), Stand p l e room_1 s m #[(.int q0), (.int q1), (.int q2), (.int q3), (.long q4), (.int q5)] below meth c T Lc (((((((0 + 1) + 1) + 0) + 0) + 0) + 0) + 0) (((((((0 + 4) + 5) + 0) + 0) + 0) + 0) + 0) → T.heap = h → Fr n0 Lc → ∀ (f_a1 : Int32 → Int32), own_A Z h a1 .byte (4 : Int32) f_a1 → ∀ (j55_S0 : Int32) (j86_S0 : Int32) (j205_S0 : Int32), own_G p e below s (own_QF (some (.int (own_v0_205 f_a1 q0 q1 q2 q3 q4 q5 j55_S0 j86_S0 j205_S0))) n0) room_1.cells room_1.slots (T.setTop (mkF m 205 #[.val (.int q0), .val (.int q1), .val (.int q2), .val (.int q3), .val (.long q4), .second, .val (.int q5), .val (.ref a1), .val (.ref b11), .val (.int own_n0_41), .val (.int j55_S0), .val (.int (own_v3_0 q0 j55_S0)), .val (.int j86_S0), .val (.int (own_v3_0 q2 j86_S0)), .val (.int (own_n0_113 q5)), .val (.int (own_n0_128 q5)), .val (.int (own_n0_152 q5))] [(.int j205_S0), (.int (own_n0_152 q5))])) := by
    intro T h Lc X eT N f_a1 A_a1 j55_S0 j86_S0 j205_S0
    show own_G p e below s (own_QF (some (.int (if (own_n0_152 q5) = j205_S0 then (own_v0_213 f_a1 q0 q1 q2 q3 q4 q5 j55_S0 j86_S0 (1 : Int32)) else (own_v0_212 f_a1 q0 q1 q2 q3 q4 q5 j55_S0 j86_S0)))) n0) room_1.cells room_1.slots (T.setTop (mkF m 205 #[.val (.int q0), .val (.int q1), .val (.int q2), .val (.int q3), .val (.long q4), .second, .val (.int q5), .val (.ref a1), .val (.ref b11), .val (.int own_n0_41), .val (.int j55_S0), .val (.int (own_v3_0 q0 j55_S0)), .val (.int j86_S0), .val (.int (own_v3_0 q2 j86_S0)), .val (.int (own_n0_113 q5)), .val (.int (own_n0_128 q5)), .val (.int (own_n0_152 q5))] [(.int j205_S0), (.int (own_n0_152 q5))]))
    by_cases hc205 : (own_n0_152 q5) = j205_S0
    · refine own_eqF (if_pos hc205) ?_
      refine own_go (fun _ => XS.icmpNo X.here hx rfl (hb hby at_205) rfl (teq hc205).2) ?_
      show own_G p e below s _ _ _ (T.setTop (mkF m 208 #[.val (.int q0), .val (.int q1), .val (.int q2), .val (.int q3), .val (.long q4), .second, .val (.int q5), .val (.ref a1), .val (.ref b11), .val (.int own_n0_41), .val (.int j55_S0), .val (.int (own_v3_0 q0 j55_S0)), .val (.int j86_S0), .val (.int (own_v3_0 q2 j86_S0)), .val (.int (own_n0_113 q5)), .val (.int (own_n0_128 q5)), .val (.int (own_n0_152 q5))] []))
      refine own_go (fun _ => XS.iconst X.here hx rfl (hb hby at_208)) ?_
      show own_G p e below s _ _ _ (T.setTop (mkF m 209 #[.val (.int q0), .val (.int q1), .val (.int q2), .val (.int q3), .val (.long q4), .second, .val (.int q5), .val (.ref a1), .val (.ref b11), .val (.int own_n0_41), .val (.int j55_S0), .val (.int (own_v3_0 q0 j55_S0)), .val (.int j86_S0), .val (.int (own_v3_0 q2 j86_S0)), .val (.int (own_n0_113 q5)), .val (.int (own_n0_128 q5)), .val (.int (own_n0_152 q5))] [(.int (1 : Int32))]))
      refine own_go (fun _ => XS.goto X.here hx rfl (pc0 := 209) (pc' := 213) rfl (hb hby at_209) (by decide) (by decide)) ?_
      exact b213 T h Lc X eT N f_a1 A_a1 j55_S0 j86_S0 (1 : Int32)
    · refine own_eqF (if_neg hc205) ?_
      refine own_go (fun _ => XS.icmpYes X.here hx rfl (pc0 := 205) (pc' := 212) rfl (hb hby at_205) rfl (feq hc205).2 (by decide) (by decide)) ?_
      exact b212 T h Lc X eT N f_a1 A_a1 j55_S0 j86_S0
  have b188 : ∀ (T : State) (h : Heap) (Lc : List Loc), Stand p l e room_1 s m #[(.int q0), (.int q1), (.int q2), (.int q3), (.long q4), (.int q5)] below meth c T Lc (((((((0 + 1) + 1) + 0) + 0) + 0) + 0) + 0) (((((((0 + 4) + 5) + 0) + 0) + 0) + 0) + 0) → T.heap = h → Fr n0 Lc → ∀ (f_a1 : Int32 → Int32), own_A Z h a1 .byte (4 : Int32) f_a1 → ∀ (j55_S0 : Int32) (j86_S0 : Int32) (j188_S0 : Int32), own_G p e below s (own_QF (some (.int (own_v0_188 f_a1 q0 q1 q2 q3 q4 q5 j55_S0 j86_S0 j188_S0))) n0) room_1.cells room_1.slots (T.setTop (mkF m 188 #[.val (.int q0), .val (.int q1), .val (.int q2), .val (.int q3), .val (.long q4), .second, .val (.int q5), .val (.ref a1), .val (.ref b11), .val (.int own_n0_41), .val (.int j55_S0), .val (.int (own_v3_0 q0 j55_S0)), .val (.int j86_S0), .val (.int (own_v3_0 q2 j86_S0)), .val (.int (own_n0_113 q5)), .val (.int (own_n0_128 q5)), .val (.int (own_n0_152 q5))] [(.int j188_S0), (.int (own_v3_0 q2 j86_S0))])) := by
    intro T h Lc X eT N f_a1 A_a1 j55_S0 j86_S0 j188_S0
    show own_G p e below s (own_QF (some (.int (if (own_v3_0 q2 j86_S0) = j188_S0 then (if (own_n0_113 q5) = (own_n0_128 q5) then (own_v0_205 f_a1 q0 q1 q2 q3 q4 q5 j55_S0 j86_S0 (1 : Int32)) else (own_v0_205 f_a1 q0 q1 q2 q3 q4 q5 j55_S0 j86_S0 (0 : Int32))) else (own_v0_212 f_a1 q0 q1 q2 q3 q4 q5 j55_S0 j86_S0)))) n0) room_1.cells room_1.slots (T.setTop (mkF m 188 #[.val (.int q0), .val (.int q1), .val (.int q2), .val (.int q3), .val (.long q4), .second, .val (.int q5), .val (.ref a1), .val (.ref b11), .val (.int own_n0_41), .val (.int j55_S0), .val (.int (own_v3_0 q0 j55_S0)), .val (.int j86_S0), .val (.int (own_v3_0 q2 j86_S0)), .val (.int (own_n0_113 q5)), .val (.int (own_n0_128 q5)), .val (.int (own_n0_152 q5))] [(.int j188_S0), (.int (own_v3_0 q2 j86_S0))]))
    by_cases hc188 : (own_v3_0 q2 j86_S0) = j188_S0
    · refine own_eqF (if_pos hc188) ?_
      refine own_go (fun _ => XS.icmpNo X.here hx rfl (hb hby at_188) rfl (teq hc188).2) ?_
      show own_G p e below s _ _ _ (T.setTop (mkF m 191 #[.val (.int q0), .val (.int q1), .val (.int q2), .val (.int q3), .val (.long q4), .second, .val (.int q5), .val (.ref a1), .val (.ref b11), .val (.int own_n0_41), .val (.int j55_S0), .val (.int (own_v3_0 q0 j55_S0)), .val (.int j86_S0), .val (.int (own_v3_0 q2 j86_S0)), .val (.int (own_n0_113 q5)), .val (.int (own_n0_128 q5)), .val (.int (own_n0_152 q5))] []))
      refine own_go (fun _ => XS.iload X.here hx rfl (hb hby at_191) rfl) ?_
      show own_G p e below s _ _ _ (T.setTop (mkF m 193 #[.val (.int q0), .val (.int q1), .val (.int q2), .val (.int q3), .val (.long q4), .second, .val (.int q5), .val (.ref a1), .val (.ref b11), .val (.int own_n0_41), .val (.int j55_S0), .val (.int (own_v3_0 q0 j55_S0)), .val (.int j86_S0), .val (.int (own_v3_0 q2 j86_S0)), .val (.int (own_n0_113 q5)), .val (.int (own_n0_128 q5)), .val (.int (own_n0_152 q5))] [(.int (own_n0_152 q5))]))
      refine own_go (fun _ => XS.iload X.here hx rfl (hb hby at_193) rfl) ?_
      show own_G p e below s _ _ _ (T.setTop (mkF m 195 #[.val (.int q0), .val (.int q1), .val (.int q2), .val (.int q3), .val (.long q4), .second, .val (.int q5), .val (.ref a1), .val (.ref b11), .val (.int own_n0_41), .val (.int j55_S0), .val (.int (own_v3_0 q0 j55_S0)), .val (.int j86_S0), .val (.int (own_v3_0 q2 j86_S0)), .val (.int (own_n0_113 q5)), .val (.int (own_n0_128 q5)), .val (.int (own_n0_152 q5))] [(.int (own_n0_113 q5)), (.int (own_n0_152 q5))]))
      refine own_go (fun _ => XS.iload X.here hx rfl (hb hby at_195) rfl) ?_
      show own_G p e below s _ _ _ (T.setTop (mkF m 197 #[.val (.int q0), .val (.int q1), .val (.int q2), .val (.int q3), .val (.long q4), .second, .val (.int q5), .val (.ref a1), .val (.ref b11), .val (.int own_n0_41), .val (.int j55_S0), .val (.int (own_v3_0 q0 j55_S0)), .val (.int j86_S0), .val (.int (own_v3_0 q2 j86_S0)), .val (.int (own_n0_113 q5)), .val (.int (own_n0_128 q5)), .val (.int (own_n0_152 q5))] [(.int (own_n0_128 q5)), (.int (own_n0_113 q5)), (.int (own_n0_152 q5))]))
      by_cases hc197 : (own_n0_113 q5) = (own_n0_128 q5)
      · refine own_eqF (if_pos hc197) ?_
        refine own_go (fun _ => XS.icmpNo X.here hx rfl (hb hby at_197) rfl (teq hc197).2) ?_
        show own_G p e below s _ _ _ (T.setTop (mkF m 200 #[.val (.int q0), .val (.int q1), .val (.int q2), .val (.int q3), .val (.long q4), .second, .val (.int q5), .val (.ref a1), .val (.ref b11), .val (.int own_n0_41), .val (.int j55_S0), .val (.int (own_v3_0 q0 j55_S0)), .val (.int j86_S0), .val (.int (own_v3_0 q2 j86_S0)), .val (.int (own_n0_113 q5)), .val (.int (own_n0_128 q5)), .val (.int (own_n0_152 q5))] [(.int (own_n0_152 q5))]))
        refine own_go (fun _ => XS.iconst X.here hx rfl (hb hby at_200)) ?_
        show own_G p e below s _ _ _ (T.setTop (mkF m 201 #[.val (.int q0), .val (.int q1), .val (.int q2), .val (.int q3), .val (.long q4), .second, .val (.int q5), .val (.ref a1), .val (.ref b11), .val (.int own_n0_41), .val (.int j55_S0), .val (.int (own_v3_0 q0 j55_S0)), .val (.int j86_S0), .val (.int (own_v3_0 q2 j86_S0)), .val (.int (own_n0_113 q5)), .val (.int (own_n0_128 q5)), .val (.int (own_n0_152 q5))] [(.int (1 : Int32)), (.int (own_n0_152 q5))]))
        refine own_go (fun _ => XS.goto X.here hx rfl (pc0 := 201) (pc' := 205) rfl (hb hby at_201) (by decide) (by decide)) ?_
        exact b205 T h Lc X eT N f_a1 A_a1 j55_S0 j86_S0 (1 : Int32)
      · refine own_eqF (if_neg hc197) ?_
        refine own_go (fun _ => XS.icmpYes X.here hx rfl (pc0 := 197) (pc' := 204) rfl (hb hby at_197) rfl (feq hc197).2 (by decide) (by decide)) ?_
        show own_G p e below s _ _ _ (T.setTop (mkF m 204 #[.val (.int q0), .val (.int q1), .val (.int q2), .val (.int q3), .val (.long q4), .second, .val (.int q5), .val (.ref a1), .val (.ref b11), .val (.int own_n0_41), .val (.int j55_S0), .val (.int (own_v3_0 q0 j55_S0)), .val (.int j86_S0), .val (.int (own_v3_0 q2 j86_S0)), .val (.int (own_n0_113 q5)), .val (.int (own_n0_128 q5)), .val (.int (own_n0_152 q5))] [(.int (own_n0_152 q5))]))
        refine own_go (fun _ => XS.iconst X.here hx rfl (hb hby at_204)) ?_
        exact b205 T h Lc X eT N f_a1 A_a1 j55_S0 j86_S0 (0 : Int32)
    · refine own_eqF (if_neg hc188) ?_
      refine own_go (fun _ => XS.icmpYes X.here hx rfl (pc0 := 188) (pc' := 212) rfl (hb hby at_188) rfl (feq hc188).2 (by decide) (by decide)) ?_
      exact b212 T h Lc X eT N f_a1 A_a1 j55_S0 j86_S0
  have b172 : ∀ (T : State) (h : Heap) (Lc : List Loc), Stand p l e room_1 s m #[(.int q0), (.int q1), (.int q2), (.int q3), (.long q4), (.int q5)] below meth c T Lc (((((((0 + 1) + 1) + 0) + 0) + 0) + 0) + 0) (((((((0 + 4) + 5) + 0) + 0) + 0) + 0) + 0) → T.heap = h → Fr n0 Lc → ∀ (f_a1 : Int32 → Int32), own_A Z h a1 .byte (4 : Int32) f_a1 → ∀ (j55_S0 : Int32) (j86_S0 : Int32) (j172_S0 : Int32), own_G p e below s (own_QF (some (.int (own_v0_172 f_a1 q0 q1 q2 q3 q4 q5 j55_S0 j86_S0 j172_S0))) n0) room_1.cells room_1.slots (T.setTop (mkF m 172 #[.val (.int q0), .val (.int q1), .val (.int q2), .val (.int q3), .val (.long q4), .second, .val (.int q5), .val (.ref a1), .val (.ref b11), .val (.int own_n0_41), .val (.int j55_S0), .val (.int (own_v3_0 q0 j55_S0)), .val (.int j86_S0), .val (.int (own_v3_0 q2 j86_S0)), .val (.int (own_n0_113 q5)), .val (.int (own_n0_128 q5)), .val (.int (own_n0_152 q5))] [(.int j172_S0), (.int (own_v3_0 q0 j55_S0))])) := by
    intro T h Lc X eT N f_a1 A_a1 j55_S0 j86_S0 j172_S0
    show own_G p e below s (own_QF (some (.int (if (own_v3_0 q0 j55_S0) = j172_S0 then (if q2 = j86_S0 then (own_v0_188 f_a1 q0 q1 q2 q3 q4 q5 j55_S0 j86_S0 (1 : Int32)) else (own_v0_188 f_a1 q0 q1 q2 q3 q4 q5 j55_S0 j86_S0 (0 : Int32))) else (own_v0_212 f_a1 q0 q1 q2 q3 q4 q5 j55_S0 j86_S0)))) n0) room_1.cells room_1.slots (T.setTop (mkF m 172 #[.val (.int q0), .val (.int q1), .val (.int q2), .val (.int q3), .val (.long q4), .second, .val (.int q5), .val (.ref a1), .val (.ref b11), .val (.int own_n0_41), .val (.int j55_S0), .val (.int (own_v3_0 q0 j55_S0)), .val (.int j86_S0), .val (.int (own_v3_0 q2 j86_S0)), .val (.int (own_n0_113 q5)), .val (.int (own_n0_128 q5)), .val (.int (own_n0_152 q5))] [(.int j172_S0), (.int (own_v3_0 q0 j55_S0))]))
    by_cases hc172 : (own_v3_0 q0 j55_S0) = j172_S0
    · refine own_eqF (if_pos hc172) ?_
      refine own_go (fun _ => XS.icmpNo X.here hx rfl (hb hby at_172) rfl (teq hc172).2) ?_
      show own_G p e below s _ _ _ (T.setTop (mkF m 175 #[.val (.int q0), .val (.int q1), .val (.int q2), .val (.int q3), .val (.long q4), .second, .val (.int q5), .val (.ref a1), .val (.ref b11), .val (.int own_n0_41), .val (.int j55_S0), .val (.int (own_v3_0 q0 j55_S0)), .val (.int j86_S0), .val (.int (own_v3_0 q2 j86_S0)), .val (.int (own_n0_113 q5)), .val (.int (own_n0_128 q5)), .val (.int (own_n0_152 q5))] []))
      refine own_go (fun _ => XS.iload X.here hx rfl (hb hby at_175) rfl) ?_
      show own_G p e below s _ _ _ (T.setTop (mkF m 177 #[.val (.int q0), .val (.int q1), .val (.int q2), .val (.int q3), .val (.long q4), .second, .val (.int q5), .val (.ref a1), .val (.ref b11), .val (.int own_n0_41), .val (.int j55_S0), .val (.int (own_v3_0 q0 j55_S0)), .val (.int j86_S0), .val (.int (own_v3_0 q2 j86_S0)), .val (.int (own_n0_113 q5)), .val (.int (own_n0_128 q5)), .val (.int (own_n0_152 q5))] [(.int (own_v3_0 q2 j86_S0))]))
      refine own_go (fun _ => XS.iloadN X.here hx rfl (hb hby at_177) rfl) ?_
      show own_G p e below s _ _ _ (T.setTop (mkF m 178 #[.val (.int q0), .val (.int q1), .val (.int q2), .val (.int q3), .val (.long q4), .second, .val (.int q5), .val (.ref a1), .val (.ref b11), .val (.int own_n0_41), .val (.int j55_S0), .val (.int (own_v3_0 q0 j55_S0)), .val (.int j86_S0), .val (.int (own_v3_0 q2 j86_S0)), .val (.int (own_n0_113 q5)), .val (.int (own_n0_128 q5)), .val (.int (own_n0_152 q5))] [(.int q2), (.int (own_v3_0 q2 j86_S0))]))
      refine own_go (fun _ => XS.iload X.here hx rfl (hb hby at_178) rfl) ?_
      show own_G p e below s _ _ _ (T.setTop (mkF m 180 #[.val (.int q0), .val (.int q1), .val (.int q2), .val (.int q3), .val (.long q4), .second, .val (.int q5), .val (.ref a1), .val (.ref b11), .val (.int own_n0_41), .val (.int j55_S0), .val (.int (own_v3_0 q0 j55_S0)), .val (.int j86_S0), .val (.int (own_v3_0 q2 j86_S0)), .val (.int (own_n0_113 q5)), .val (.int (own_n0_128 q5)), .val (.int (own_n0_152 q5))] [(.int j86_S0), (.int q2), (.int (own_v3_0 q2 j86_S0))]))
      by_cases hc180 : q2 = j86_S0
      · refine own_eqF (if_pos hc180) ?_
        refine own_go (fun _ => XS.icmpNo X.here hx rfl (hb hby at_180) rfl (teq hc180).2) ?_
        show own_G p e below s _ _ _ (T.setTop (mkF m 183 #[.val (.int q0), .val (.int q1), .val (.int q2), .val (.int q3), .val (.long q4), .second, .val (.int q5), .val (.ref a1), .val (.ref b11), .val (.int own_n0_41), .val (.int j55_S0), .val (.int (own_v3_0 q0 j55_S0)), .val (.int j86_S0), .val (.int (own_v3_0 q2 j86_S0)), .val (.int (own_n0_113 q5)), .val (.int (own_n0_128 q5)), .val (.int (own_n0_152 q5))] [(.int (own_v3_0 q2 j86_S0))]))
        refine own_go (fun _ => XS.iconst X.here hx rfl (hb hby at_183)) ?_
        show own_G p e below s _ _ _ (T.setTop (mkF m 184 #[.val (.int q0), .val (.int q1), .val (.int q2), .val (.int q3), .val (.long q4), .second, .val (.int q5), .val (.ref a1), .val (.ref b11), .val (.int own_n0_41), .val (.int j55_S0), .val (.int (own_v3_0 q0 j55_S0)), .val (.int j86_S0), .val (.int (own_v3_0 q2 j86_S0)), .val (.int (own_n0_113 q5)), .val (.int (own_n0_128 q5)), .val (.int (own_n0_152 q5))] [(.int (1 : Int32)), (.int (own_v3_0 q2 j86_S0))]))
        refine own_go (fun _ => XS.goto X.here hx rfl (pc0 := 184) (pc' := 188) rfl (hb hby at_184) (by decide) (by decide)) ?_
        exact b188 T h Lc X eT N f_a1 A_a1 j55_S0 j86_S0 (1 : Int32)
      · refine own_eqF (if_neg hc180) ?_
        refine own_go (fun _ => XS.icmpYes X.here hx rfl (pc0 := 180) (pc' := 187) rfl (hb hby at_180) rfl (feq hc180).2 (by decide) (by decide)) ?_
        show own_G p e below s _ _ _ (T.setTop (mkF m 187 #[.val (.int q0), .val (.int q1), .val (.int q2), .val (.int q3), .val (.long q4), .second, .val (.int q5), .val (.ref a1), .val (.ref b11), .val (.int own_n0_41), .val (.int j55_S0), .val (.int (own_v3_0 q0 j55_S0)), .val (.int j86_S0), .val (.int (own_v3_0 q2 j86_S0)), .val (.int (own_n0_113 q5)), .val (.int (own_n0_128 q5)), .val (.int (own_n0_152 q5))] [(.int (own_v3_0 q2 j86_S0))]))
        refine own_go (fun _ => XS.iconst X.here hx rfl (hb hby at_187)) ?_
        exact b188 T h Lc X eT N f_a1 A_a1 j55_S0 j86_S0 (0 : Int32)
    · refine own_eqF (if_neg hc172) ?_
      refine own_go (fun _ => XS.icmpYes X.here hx rfl (pc0 := 172) (pc' := 212) rfl (hb hby at_172) rfl (feq hc172).2 (by decide) (by decide)) ?_
      exact b212 T h Lc X eT N f_a1 A_a1 j55_S0 j86_S0
  have b86 : ∀ (T : State) (h : Heap) (Lc : List Loc), Stand p l e room_1 s m #[(.int q0), (.int q1), (.int q2), (.int q3), (.long q4), (.int q5)] below meth c T Lc ((((0 + 1) + 1) + 0) + 0) ((((0 + 4) + 5) + 0) + 0) → T.heap = h → Fr n0 Lc → ∀ (f_a1 : Int32 → Int32), own_A Z h a1 .byte (4 : Int32) f_a1 → ∀ (j55_S0 : Int32) (j86_S0 : Int32), n0 ≤ h.size → own_32 f_a1 → Exa Z h b11 "com/example/rolewright/rolewright/io/JsonCursor" → Fld Z h b11 "com/example/rolewright/rolewright/io/JsonCursor" "bytes" "[B" (.ref a1) → (∃ u, Fld Z h b11 "com/example/rolewright/rolewright/io/JsonCursor" "start" "I" u) → (∃ u, Fld Z h b11 "com/example/rolewright/rolewright/io/JsonCursor" "limit" "I" u) → (∃ u, Fld Z h b11 "com/example/rolewright/rolewright/io/JsonCursor" "line" "J" u) → (∃ u, Fld Z h b11 "com/example/rolewright/rolewright/io/JsonCursor" "index" "I" u) → own_G p e below s (own_QF (some (.int (own_v0_86 f_a1 q0 q1 q2 q3 q4 q5 j55_S0 j86_S0))) n0) room_1.cells room_1.slots (T.setTop (mkF m 86 #[.val (.int q0), .val (.int q1), .val (.int q2), .val (.int q3), .val (.long q4), .second, .val (.int q5), .val (.ref a1), .val (.ref b11), .val (.int own_n0_41), .val (.int j55_S0), .val (.int (own_v3_0 q0 j55_S0)), .unset, .unset, .unset, .unset, .unset] [(.int j86_S0)])) := by
    intro T h Lc X eT N f_a1 A_a1 j55_S0 j86_S0 SZ h32 E F_bytes F_start F_limit F_line F_index
    show own_G p e below s (own_QF (some (.int (if own_n0_41 = (0 : Int32) then (own_v0_212 f_a1 q0 q1 q2 q3 q4 q5 j55_S0 j86_S0) else (if q0 = j55_S0 then (own_v0_172 f_a1 q0 q1 q2 q3 q4 q5 j55_S0 j86_S0 (1 : Int32)) else (own_v0_172 f_a1 q0 q1 q2 q3 q4 q5 j55_S0 j86_S0 (0 : Int32)))))) n0) room_1.cells room_1.slots (T.setTop (mkF m 86 #[.val (.int q0), .val (.int q1), .val (.int q2), .val (.int q3), .val (.long q4), .second, .val (.int q5), .val (.ref a1), .val (.ref b11), .val (.int own_n0_41), .val (.int j55_S0), .val (.int (own_v3_0 q0 j55_S0)), .unset, .unset, .unset, .unset, .unset] [(.int j86_S0)]))
    refine own_go (fun _ => XS.istore X.here hx rfl (hb hby at_86) rfl (l' := #[.val (.int q0), .val (.int q1), .val (.int q2), .val (.int q3), .val (.long q4), .second, .val (.int q5), .val (.ref a1), .val (.ref b11), .val (.int own_n0_41), .val (.int j55_S0), .val (.int (own_v3_0 q0 j55_S0)), .val (.int j86_S0), .unset, .unset, .unset, .unset]) rfl) ?_
    show own_G p e below s _ _ _ (T.setTop (mkF m 88 #[.val (.int q0), .val (.int q1), .val (.int q2), .val (.int q3), .val (.long q4), .second, .val (.int q5), .val (.ref a1), .val (.ref b11), .val (.int own_n0_41), .val (.int j55_S0), .val (.int (own_v3_0 q0 j55_S0)), .val (.int j86_S0), .unset, .unset, .unset, .unset] []))
    refine own_go (fun _ => XS.aload X.here hx rfl (hb hby at_88) rfl rfl) ?_
    show own_G p e below s _ _ _ (T.setTop (mkF m 90 #[.val (.int q0), .val (.int q1), .val (.int q2), .val (.int q3), .val (.long q4), .second, .val (.int q5), .val (.ref a1), .val (.ref b11), .val (.int own_n0_41), .val (.int j55_S0), .val (.int (own_v3_0 q0 j55_S0)), .val (.int j86_S0), .unset, .unset, .unset, .unset] [(.ref b11)]))
    refine own_go (fun _ => XS.iloadN X.here hx rfl (hb hby at_90) rfl) ?_
    show own_G p e below s _ _ _ (T.setTop (mkF m 91 #[.val (.int q0), .val (.int q1), .val (.int q2), .val (.int q3), .val (.long q4), .second, .val (.int q5), .val (.ref a1), .val (.ref b11), .val (.int own_n0_41), .val (.int j55_S0), .val (.int (own_v3_0 q0 j55_S0)), .val (.int j86_S0), .unset, .unset, .unset, .unset] [(.int q2), (.ref b11)]))
    refine own_go (fun _ => XS.iload X.here hx rfl (hb hby at_91) rfl) ?_
    show own_G p e below s _ _ _ (T.setTop (mkF m 93 #[.val (.int q0), .val (.int q1), .val (.int q2), .val (.int q3), .val (.long q4), .second, .val (.int q5), .val (.ref a1), .val (.ref b11), .val (.int own_n0_41), .val (.int j55_S0), .val (.int (own_v3_0 q0 j55_S0)), .val (.int j86_S0), .unset, .unset, .unset, .unset] [(.int j86_S0), (.int q2), (.ref b11)]))
    refine own_go (fun _ => XS.lload X.here hx rfl (hb hby at_93) rfl) ?_
    show own_G p e below s _ _ _ (T.setTop (mkF m 95 #[.val (.int q0), .val (.int q1), .val (.int q2), .val (.int q3), .val (.long q4), .second, .val (.int q5), .val (.ref a1), .val (.ref b11), .val (.int own_n0_41), .val (.int j55_S0), .val (.int (own_v3_0 q0 j55_S0)), .val (.int j86_S0), .unset, .unset, .unset, .unset] [(.long q4), (.int j86_S0), (.int q2), (.ref b11)]))
    refine own_go (fun _ => XS.lconst X.here hx rfl (hb hby at_95)) ?_
    show own_G p e below s _ _ _ (T.setTop (mkF m 96 #[.val (.int q0), .val (.int q1), .val (.int q2), .val (.int q3), .val (.long q4), .second, .val (.int q5), .val (.ref a1), .val (.ref b11), .val (.int own_n0_41), .val (.int j55_S0), .val (.int (own_v3_0 q0 j55_S0)), .val (.int j86_S0), .unset, .unset, .unset, .unset] [(.long (1 : Int64)), (.long q4), (.int j86_S0), (.int q2), (.ref b11)]))
    refine own_go (fun _ => XS.ladd X.here hx rfl (hb hby at_96) rfl) ?_
    show own_G p e below s _ _ _ (T.setTop (mkF m 97 #[.val (.int q0), .val (.int q1), .val (.int q2), .val (.int q3), .val (.long q4), .second, .val (.int q5), .val (.ref a1), .val (.ref b11), .val (.int own_n0_41), .val (.int j55_S0), .val (.int (own_v3_0 q0 j55_S0)), .val (.int j86_S0), .unset, .unset, .unset, .unset] [(.long (q4 + (1 : Int64))), (.int j86_S0), (.int q2), (.ref b11)]))
    obtain ⟨T24, h24, L24, X24, e24, N24, P24, st24⟩ := own_callW X hx hZ hown (hw _ (List.mem_of_getElem? (i := 21) rfl)) (hw _ (List.mem_of_getElem? (i := 22) rfl)) (hw _ (List.mem_of_getElem? (i := 24) rfl)) (hw _ (List.mem_of_getElem? (i := 23) rfl)) (hw _ (List.mem_of_getElem? (i := 25) rfl)) (hw _ (List.mem_of_getElem? (i := 3) rfl)) (by decide) (rm4 l Z a0 hw [] b11 q2 j86_S0 (q4 + (1 : Int64)) h n0 SZ g11 E F_bytes F_start.choose_spec F_limit.choose_spec F_line.choose_spec F_index.choose_spec) eT N E (W := 0) (by decide) (by decide) (by decide) (by decide) (g := (mkF m 97 #[.val (.int q0), .val (.int q1), .val (.int q2), .val (.int q3), .val (.long q4), .second, .val (.int q5), .val (.ref a1), .val (.ref b11), .val (.int own_n0_41), .val (.int j55_S0), .val (.int (own_v3_0 q0 j55_S0)), .val (.int j86_S0), .unset, .unset, .unset, .unset] [(.long (q4 + (1 : Int64))), (.int j86_S0), (.int q2), (.ref b11)])) rfl (by rw [hml]; rfl) (argsL := [(.int q2), (.int j86_S0), (.long (q4 + (1 : Int64)))]) (rest := []) (lenOf (by decide +kernel : parseMethodDescriptor "(IIJ)V" = some ⟨[.int, .int, .long], none⟩) rfl) rfl rfl (by show 2 * 0 + _ ≤ _; exact Nat.le_of_eq rfl) (hb hby at_97)
    obtain ⟨K24, Ec24, Fc24_0, Fc24_1, Fc24_2, Fc24_3, Fc24_4⟩ := P24
    have Ek25 := E.keep K24
    have Ak26 := own_A_keep A_a1 K24 (fun q => ne12 (List.mem_singleton.mp q))
    have zk27 := Nat.le_trans SZ K24.1
    refine own_go (fun _ => st24 _) ?_
    show own_G p e below s _ _ _ (T24.setTop (mkF m 100 #[.val (.int q0), .val (.int q1), .val (.int q2), .val (.int q3), .val (.long q4), .second, .val (.int q5), .val (.ref a1), .val (.ref b11), .val (.int own_n0_41), .val (.int j55_S0), .val (.int (own_v3_0 q0 j55_S0)), .val (.int j86_S0), .unset, .unset, .unset, .unset] []))
    refine own_go (fun _ => XS.aload X24.here hx rfl (hb hby at_100) rfl rfl) ?_
    show own_G p e below s _ _ _ (T24.setTop (mkF m 102 #[.val (.int q0), .val (.int q1), .val (.int q2), .val (.int q3), .val (.long q4), .second, .val (.int q5), .val (.ref a1), .val (.ref b11), .val (.int own_n0_41), .val (.int j55_S0), .val (.int (own_v3_0 q0 j55_S0)), .val (.int j86_S0), .unset, .unset, .unset, .unset] [(.ref b11)]))
    obtain ⟨T28, X28, e28, st28⟩ := own_callV X24 hx hZ hown (hw _ (List.mem_of_getElem? (i := 12) rfl)) (hw _ (List.mem_of_getElem? (i := 13) rfl)) (hw _ (List.mem_of_getElem? (i := 15) rfl)) (hw _ (List.mem_of_getElem? (i := 14) rfl)) (hw _ (List.mem_of_getElem? (i := 16) rfl)) (hw _ (List.mem_of_getElem? (i := 3) rfl)) (by decide) (rm3 l Z a0 hw [] b11 h24 _ _ Fc24_1 Fc24_2) rfl rfl e24 Ec24 (W := 0) (by decide) (by decide) (by decide) (by decide) (g := (mkF m 102 #[.val (.int q0), .val (.int q1), .val (.int q2), .val (.int q3), .val (.long q4), .second, .val (.int q5), .val (.ref a1), .val (.ref b11), .val (.int own_n0_41), .val (.int j55_S0), .val (.int (own_v3_0 q0 j55_S0)), .val (.int j86_S0), .unset, .unset, .unset, .unset] [(.ref b11)])) rfl (by rw [hml]; rfl) (argsL := []) (rest := []) (lenOf (by decide +kernel : parseMethodDescriptor "()Z" = some ⟨[], some .boolean⟩) rfl) rfl rfl (by show 2 * 0 + _ ≤ _; exact Nat.le_of_eq rfl) (hb hby at_102)
    refine own_go (fun _ => st28 _) ?_
    show own_G p e below s _ _ _ (T28.setTop (mkF m 105 #[.val (.int q0), .val (.int q1), .val (.int q2), .val (.int q3), .val (.long q4), .second, .val (.int q5), .val (.ref a1), .val (.ref b11), .val (.int own_n0_41), .val (.int j55_S0), .val (.int (own_v3_0 q0 j55_S0)), .val (.int j86_S0), .unset, .unset, .unset, .unset] [(.int (own_v3_0 q2 j86_S0))]))
    refine own_go (fun _ => XS.istore X28.here hx rfl (hb hby at_105) rfl (l' := #[.val (.int q0), .val (.int q1), .val (.int q2), .val (.int q3), .val (.long q4), .second, .val (.int q5), .val (.ref a1), .val (.ref b11), .val (.int own_n0_41), .val (.int j55_S0), .val (.int (own_v3_0 q0 j55_S0)), .val (.int j86_S0), .val (.int (own_v3_0 q2 j86_S0)), .unset, .unset, .unset]) rfl) ?_
    show own_G p e below s _ _ _ (T28.setTop (mkF m 107 #[.val (.int q0), .val (.int q1), .val (.int q2), .val (.int q3), .val (.long q4), .second, .val (.int q5), .val (.ref a1), .val (.ref b11), .val (.int own_n0_41), .val (.int j55_S0), .val (.int (own_v3_0 q0 j55_S0)), .val (.int j86_S0), .val (.int (own_v3_0 q2 j86_S0)), .unset, .unset, .unset] []))
    refine own_go (fun _ => XS.iload X28.here hx rfl (hb hby at_107) rfl) ?_
    show own_G p e below s _ _ _ (T28.setTop (mkF m 109 #[.val (.int q0), .val (.int q1), .val (.int q2), .val (.int q3), .val (.long q4), .second, .val (.int q5), .val (.ref a1), .val (.ref b11), .val (.int own_n0_41), .val (.int j55_S0), .val (.int (own_v3_0 q0 j55_S0)), .val (.int j86_S0), .val (.int (own_v3_0 q2 j86_S0)), .unset, .unset, .unset] [(.int q5)]))
    refine own_go (fun _ => XS.iconst X28.here hx rfl (hb hby at_109)) ?_
    show own_G p e below s _ _ _ (T28.setTop (mkF m 110 #[.val (.int q0), .val (.int q1), .val (.int q2), .val (.int q3), .val (.long q4), .second, .val (.int q5), .val (.ref a1), .val (.ref b11), .val (.int own_n0_41), .val (.int j55_S0), .val (.int (own_v3_0 q0 j55_S0)), .val (.int j86_S0), .val (.int (own_v3_0 q2 j86_S0)), .unset, .unset, .unset] [(.int (2 : Int32)), (.int q5)]))
    refine own_go (fun _ => XS.iushr X28.here hx rfl (hb hby at_110) rfl) ?_
    show own_G p e below s _ _ _ (T28.setTop (mkF m 111 #[.val (.int q0), .val (.int q1), .val (.int q2), .val (.int q3), .val (.long q4), .second, .val (.int q5), .val (.ref a1), .val (.ref b11), .val (.int own_n0_41), .val (.int j55_S0), .val (.int (own_v3_0 q0 j55_S0)), .val (.int j86_S0), .val (.int (own_v3_0 q2 j86_S0)), .unset, .unset, .unset] [(.int (own_us q5 (2 : Int32)))]))
    refine own_go (fun _ => XS.iconst X28.here hx rfl (hb hby at_111)) ?_
    show own_G p e below s _ _ _ (T28.setTop (mkF m 112 #[.val (.int q0), .val (.int q1), .val (.int q2), .val (.int q3), .val (.long q4), .second, .val (.int q5), .val (.ref a1), .val (.ref b11), .val (.int own_n0_41), .val (.int j55_S0), .val (.int (own_v3_0 q0 j55_S0)), .val (.int j86_S0), .val (.int (own_v3_0 q2 j86_S0)), .unset, .unset, .unset] [(.int (3 : Int32)), (.int (own_us q5 (2 : Int32)))]))
    refine own_go (fun _ => XS.iand X28.here hx rfl (hb hby at_112) rfl) ?_
    show own_G p e below s _ _ _ (T28.setTop (mkF m 113 #[.val (.int q0), .val (.int q1), .val (.int q2), .val (.int q3), .val (.long q4), .second, .val (.int q5), .val (.ref a1), .val (.ref b11), .val (.int own_n0_41), .val (.int j55_S0), .val (.int (own_v3_0 q0 j55_S0)), .val (.int j86_S0), .val (.int (own_v3_0 q2 j86_S0)), .unset, .unset, .unset] [(.int ((own_us q5 (2 : Int32)) &&& (3 : Int32)))]))
    refine own_go (fun _ => XS.istore X28.here hx rfl (hb hby at_113) rfl (l' := #[.val (.int q0), .val (.int q1), .val (.int q2), .val (.int q3), .val (.long q4), .second, .val (.int q5), .val (.ref a1), .val (.ref b11), .val (.int own_n0_41), .val (.int j55_S0), .val (.int (own_v3_0 q0 j55_S0)), .val (.int j86_S0), .val (.int (own_v3_0 q2 j86_S0)), .val (.int (own_n0_113 q5)), .unset, .unset]) rfl) ?_
    show own_G p e below s _ _ _ (T28.setTop (mkF m 115 #[.val (.int q0), .val (.int q1), .val (.int q2), .val (.int q3), .val (.long q4), .second, .val (.int q5), .val (.ref a1), .val (.ref b11), .val (.int own_n0_41), .val (.int j55_S0), .val (.int (own_v3_0 q0 j55_S0)), .val (.int j86_S0), .val (.int (own_v3_0 q2 j86_S0)), .val (.int (own_n0_113 q5)), .unset, .unset] []))
    refine own_go (fun _ => XS.iconst X28.here hx rfl (hb hby at_115)) ?_
    show own_G p e below s _ _ _ (T28.setTop (mkF m 116 #[.val (.int q0), .val (.int q1), .val (.int q2), .val (.int q3), .val (.long q4), .second, .val (.int q5), .val (.ref a1), .val (.ref b11), .val (.int own_n0_41), .val (.int j55_S0), .val (.int (own_v3_0 q0 j55_S0)), .val (.int j86_S0), .val (.int (own_v3_0 q2 j86_S0)), .val (.int (own_n0_113 q5)), .unset, .unset] [(.int (4 : Int32))]))
    refine own_go (fun _ => XS.iload X28.here hx rfl (hb hby at_116) rfl) ?_
    show own_G p e below s _ _ _ (T28.setTop (mkF m 118 #[.val (.int q0), .val (.int q1), .val (.int q2), .val (.int q3), .val (.long q4), .second, .val (.int q5), .val (.ref a1), .val (.ref b11), .val (.int own_n0_41), .val (.int j55_S0), .val (.int (own_v3_0 q0 j55_S0)), .val (.int j86_S0), .val (.int (own_v3_0 q2 j86_S0)), .val (.int (own_n0_113 q5)), .unset, .unset] [(.int (own_n0_113 q5)), (.int (4 : Int32))]))
    refine own_go (fun _ => XS.iload X28.here hx rfl (hb hby at_118) rfl) ?_
    show own_G p e below s _ _ _ (T28.setTop (mkF m 120 #[.val (.int q0), .val (.int q1), .val (.int q2), .val (.int q3), .val (.long q4), .second, .val (.int q5), .val (.ref a1), .val (.ref b11), .val (.int own_n0_41), .val (.int j55_S0), .val (.int (own_v3_0 q0 j55_S0)), .val (.int j86_S0), .val (.int (own_v3_0 q2 j86_S0)), .val (.int (own_n0_113 q5)), .unset, .unset] [(.int q5), (.int (own_n0_113 q5)), (.int (4 : Int32))]))
    refine own_go (fun _ => XS.iconst X28.here hx rfl (hb hby at_120)) ?_
    show own_G p e below s _ _ _ (T28.setTop (mkF m 121 #[.val (.int q0), .val (.int q1), .val (.int q2), .val (.int q3), .val (.long q4), .second, .val (.int q5), .val (.ref a1), .val (.ref b11), .val (.int own_n0_41), .val (.int j55_S0), .val (.int (own_v3_0 q0 j55_S0)), .val (.int j86_S0), .val (.int (own_v3_0 q2 j86_S0)), .val (.int (own_n0_113 q5)), .unset, .unset] [(.int (4 : Int32)), (.int q5), (.int (own_n0_113 q5)), (.int (4 : Int32))]))
    refine own_go (fun _ => XS.iushr X28.here hx rfl (hb hby at_121) rfl) ?_
    show own_G p e below s _ _ _ (T28.setTop (mkF m 122 #[.val (.int q0), .val (.int q1), .val (.int q2), .val (.int q3), .val (.long q4), .second, .val (.int q5), .val (.ref a1), .val (.ref b11), .val (.int own_n0_41), .val (.int j55_S0), .val (.int (own_v3_0 q0 j55_S0)), .val (.int j86_S0), .val (.int (own_v3_0 q2 j86_S0)), .val (.int (own_n0_113 q5)), .unset, .unset] [(.int (own_us q5 (4 : Int32))), (.int (own_n0_113 q5)), (.int (4 : Int32))]))
    refine own_go (fun _ => XS.iconst X28.here hx rfl (hb hby at_122)) ?_
    show own_G p e below s _ _ _ (T28.setTop (mkF m 123 #[.val (.int q0), .val (.int q1), .val (.int q2), .val (.int q3), .val (.long q4), .second, .val (.int q5), .val (.ref a1), .val (.ref b11), .val (.int own_n0_41), .val (.int j55_S0), .val (.int (own_v3_0 q0 j55_S0)), .val (.int j86_S0), .val (.int (own_v3_0 q2 j86_S0)), .val (.int (own_n0_113 q5)), .unset, .unset] [(.int (3 : Int32)), (.int (own_us q5 (4 : Int32))), (.int (own_n0_113 q5)), (.int (4 : Int32))]))
    refine own_go (fun _ => XS.iand X28.here hx rfl (hb hby at_123) rfl) ?_
    show own_G p e below s _ _ _ (T28.setTop (mkF m 124 #[.val (.int q0), .val (.int q1), .val (.int q2), .val (.int q3), .val (.long q4), .second, .val (.int q5), .val (.ref a1), .val (.ref b11), .val (.int own_n0_41), .val (.int j55_S0), .val (.int (own_v3_0 q0 j55_S0)), .val (.int j86_S0), .val (.int (own_v3_0 q2 j86_S0)), .val (.int (own_n0_113 q5)), .unset, .unset] [(.int ((own_us q5 (4 : Int32)) &&& (3 : Int32))), (.int (own_n0_113 q5)), (.int (4 : Int32))]))
    refine own_go (fun _ => XS.iadd X28.here hx rfl (hb hby at_124) rfl) ?_
    show own_G p e below s _ _ _ (T28.setTop (mkF m 125 #[.val (.int q0), .val (.int q1), .val (.int q2), .val (.int q3), .val (.long q4), .second, .val (.int q5), .val (.ref a1), .val (.ref b11), .val (.int own_n0_41), .val (.int j55_S0), .val (.int (own_v3_0 q0 j55_S0)), .val (.int j86_S0), .val (.int (own_v3_0 q2 j86_S0)), .val (.int (own_n0_113 q5)), .unset, .unset] [(.int ((own_n0_113 q5) + ((own_us q5 (4 : Int32)) &&& (3 : Int32)))), (.int (4 : Int32))]))
    obtain ⟨T29, X29, e29, st29⟩ := own_call X28 hx hZ hown (hw _ (List.mem_of_getElem? (i := 30) rfl)) (hw _ (List.mem_of_getElem? (i := 31) rfl)) (hw _ (List.mem_of_getElem? (i := 32) rfl)) (hw _ (List.mem_of_getElem? (i := 33) rfl)) (by decide) (rm5 l Z a0 hw [] (4 : Int32) ((own_n0_113 q5) + ((own_us q5 (4 : Int32)) &&& (3 : Int32))) h24) rfl rfl e28 (W := 0) (by decide) (by decide) (by decide) (by decide) (g := (mkF m 125 #[.val (.int q0), .val (.int q1), .val (.int q2), .val (.int q3), .val (.long q4), .second, .val (.int q5), .val (.ref a1), .val (.ref b11), .val (.int own_n0_41), .val (.int j55_S0), .val (.int (own_v3_0 q0 j55_S0)), .val (.int j86_S0), .val (.int (own_v3_0 q2 j86_S0)), .val (.int (own_n0_113 q5)), .unset, .unset] [(.int ((own_n0_113 q5) + ((own_us q5 (4 : Int32)) &&& (3 : Int32)))), (.int (4 : Int32))])) rfl (by rw [hml]; rfl) (argsL := [(.int (4 : Int32)), (.int ((own_n0_113 q5) + ((own_us q5 (4 : Int32)) &&& (3 : Int32))))]) (rest := []) (lenOf (by decide +kernel : parseMethodDescriptor "(II)I" = some ⟨[.int, .int], some .int⟩) rfl) rfl rfl (by show 2 * 0 + _ ≤ _; exact Nat.le_of_eq rfl) (hb hby at_125)
    refine own_go (fun _ => st29 _) ?_
    show own_G p e below s _ _ _ (T29.setTop (mkF m 128 #[.val (.int q0), .val (.int q1), .val (.int q2), .val (.int q3), .val (.long q4), .second, .val (.int q5), .val (.ref a1), .val (.ref b11), .val (.int own_n0_41), .val (.int j55_S0), .val (.int (own_v3_0 q0 j55_S0)), .val (.int j86_S0), .val (.int (own_v3_0 q2 j86_S0)), .val (.int (own_n0_113 q5)), .unset, .unset] [(.int (own_v5_0 (4 : Int32) ((own_n0_113 q5) + ((own_us q5 (4 : Int32)) &&& (3 : Int32)))))]))
    refine own_go (fun _ => XS.istore X29.here hx rfl (hb hby at_128) rfl (l' := #[.val (.int q0), .val (.int q1), .val (.int q2), .val (.int q3), .val (.long q4), .second, .val (.int q5), .val (.ref a1), .val (.ref b11), .val (.int own_n0_41), .val (.int j55_S0), .val (.int (own_v3_0 q0 j55_S0)), .val (.int j86_S0), .val (.int (own_v3_0 q2 j86_S0)), .val (.int (own_n0_113 q5)), .val (.int (own_n0_128 q5)), .unset]) rfl) ?_
    show own_G p e below s _ _ _ (T29.setTop (mkF m 130 #[.val (.int q0), .val (.int q1), .val (.int q2), .val (.int q3), .val (.long q4), .second, .val (.int q5), .val (.ref a1), .val (.ref b11), .val (.int own_n0_41), .val (.int j55_S0), .val (.int (own_v3_0 q0 j55_S0)), .val (.int j86_S0), .val (.int (own_v3_0 q2 j86_S0)), .val (.int (own_n0_113 q5)), .val (.int (own_n0_128 q5)), .unset] []))
    refine own_go (fun _ => XS.aload X29.here hx rfl (hb hby at_130) rfl rfl) ?_
    show own_G p e below s _ _ _ (T29.setTop (mkF m 132 #[.val (.int q0), .val (.int q1), .val (.int q2), .val (.int q3), .val (.long q4), .second, .val (.int q5), .val (.ref a1), .val (.ref b11), .val (.int own_n0_41), .val (.int j55_S0), .val (.int (own_v3_0 q0 j55_S0)), .val (.int j86_S0), .val (.int (own_v3_0 q2 j86_S0)), .val (.int (own_n0_113 q5)), .val (.int (own_n0_128 q5)), .unset] [(.ref b11)]))
    refine own_go (fun _ => XS.iload X29.here hx rfl (hb hby at_132) rfl) ?_
    show own_G p e below s _ _ _ (T29.setTop (mkF m 134 #[.val (.int q0), .val (.int q1), .val (.int q2), .val (.int q3), .val (.long q4), .second, .val (.int q5), .val (.ref a1), .val (.ref b11), .val (.int own_n0_41), .val (.int j55_S0), .val (.int (own_v3_0 q0 j55_S0)), .val (.int j86_S0), .val (.int (own_v3_0 q2 j86_S0)), .val (.int (own_n0_113 q5)), .val (.int (own_n0_128 q5)), .unset] [(.int (own_n0_113 q5)), (.ref b11)]))
    refine own_go (fun _ => XS.iload X29.here hx rfl (hb hby at_134) rfl) ?_
    show own_G p e below s _ _ _ (T29.setTop (mkF m 136 #[.val (.int q0), .val (.int q1), .val (.int q2), .val (.int q3), .val (.long q4), .second, .val (.int q5), .val (.ref a1), .val (.ref b11), .val (.int own_n0_41), .val (.int j55_S0), .val (.int (own_v3_0 q0 j55_S0)), .val (.int j86_S0), .val (.int (own_v3_0 q2 j86_S0)), .val (.int (own_n0_113 q5)), .val (.int (own_n0_128 q5)), .unset] [(.int (own_n0_128 q5)), (.int (own_n0_113 q5)), (.ref b11)]))
    refine own_go (fun _ => XS.lload X29.here hx rfl (hb hby at_136) rfl) ?_
    show own_G p e below s _ _ _ (T29.setTop (mkF m 138 #[.val (.int q0), .val (.int q1), .val (.int q2), .val (.int q3), .val (.long q4), .second, .val (.int q5), .val (.ref a1), .val (.ref b11), .val (.int own_n0_41), .val (.int j55_S0), .val (.int (own_v3_0 q0 j55_S0)), .val (.int j86_S0), .val (.int (own_v3_0 q2 j86_S0)), .val (.int (own_n0_113 q5)), .val (.int (own_n0_128 q5)), .unset] [(.long q4), (.int (own_n0_128 q5)), (.int (own_n0_113 q5)), (.ref b11)]))
    obtain ⟨T30, h30, L30, X30, e30, N30, P30, st30⟩ := own_callW X29 hx hZ hown (hw _ (List.mem_of_getElem? (i := 21) rfl)) (hw _ (List.mem_of_getElem? (i := 22) rfl)) (hw _ (List.mem_of_getElem? (i := 24) rfl)) (hw _ (List.mem_of_getElem? (i := 23) rfl)) (hw _ (List.mem_of_getElem? (i := 25) rfl)) (hw _ (List.mem_of_getElem? (i := 3) rfl)) (by decide) (rm4 l Z a0 hw [] b11 (own_n0_113 q5) (own_n0_128 q5) q4 h24 n0 zk27 g11 Ec24 Fc24_0 Fc24_1 Fc24_2 Fc24_3 Fc24_4) e29 N24 Ec24 (W := 0) (by decide) (by decide) (by decide) (by decide) (g := (mkF m 138 #[.val (.int q0), .val (.int q1), .val (.int q2), .val (.int q3), .val (.long q4), .second, .val (.int q5), .val (.ref a1), .val (.ref b11), .val (.int own_n0_41), .val (.int j55_S0), .val (.int (own_v3_0 q0 j55_S0)), .val (.int j86_S0), .val (.int (own_v3_0 q2 j86_S0)), .val (.int (own_n0_113 q5)), .val (.int (own_n0_128 q5)), .unset] [(.long q4), (.int (own_n0_128 q5)), (.int (own_n0_113 q5)), (.ref b11)])) rfl (by rw [hml]; rfl) (argsL := [(.int (own_n0_113 q5)), (.int (own_n0_128 q5)), (.long q4)]) (rest := []) (lenOf (by decide +kernel : parseMethodDescriptor "(IIJ)V" = some ⟨[.int, .int, .long], none⟩) rfl) rfl rfl (by show 2 * 0 + _ ≤ _; exact Nat.le_of_eq rfl) (hb hby at_138)
    obtain ⟨K30, Ec30, Fc30_0, Fc30_1, Fc30_2, Fc30_3, Fc30_4⟩ := P30
    have Ek31 := Ec24.keep K30
    have Ak32 := own_A_keep Ak26 K30 (fun q => ne12 (List.mem_singleton.mp q))
    have zk33 := Nat.le_trans zk27 K30.1
    refine own_go (fun _ => st30 _) ?_
    show own_G p e below s _ _ _ (T30.setTop (mkF m 141 #[.val (.int q0), .val (.int q1), .val (.int q2), .val (.int q3), .val (.long q4), .second, .val (.int q5), .val (.ref a1), .val (.ref b11), .val (.int own_n0_41), .val (.int j55_S0), .val (.int (own_v3_0 q0 j55_S0)), .val (.int j86_S0), .val (.int (own_v3_0 q2 j86_S0)), .val (.int (own_n0_113 q5)), .val (.int (own_n0_128 q5)), .unset] []))
    refine own_go (fun _ => XS.aload X30.here hx rfl (hb hby at_141) rfl rfl) ?_
    show own_G p e below s _ _ _ (T30.setTop (mkF m 143 #[.val (.int q0), .val (.int q1), .val (.int q2), .val (.int q3), .val (.long q4), .second, .val (.int q5), .val (.ref a1), .val (.ref b11), .val (.int own_n0_41), .val (.int j55_S0), .val (.int (own_v3_0 q0 j55_S0)), .val (.int j86_S0), .val (.int (own_v3_0 q2 j86_S0)), .val (.int (own_n0_113 q5)), .val (.int (own_n0_128 q5)), .unset] [(.ref b11)]))
    obtain ⟨T34, h34, L34, X34, e34, N34, P34, st34⟩ := own_callW X30 hx hZ hown (hw _ (List.mem_of_getElem? (i := 34) rfl)) (hw _ (List.mem_of_getElem? (i := 35) rfl)) (hw _ (List.mem_of_getElem? (i := 37) rfl)) (hw _ (List.mem_of_getElem? (i := 36) rfl)) (hw _ (List.mem_of_getElem? (i := 38) rfl)) (hw _ (List.mem_of_getElem? (i := 3) rfl)) (by decide) (rm6 l Z a0 hw [] b11 h30 n0 zk33 g11 a1 _ _ _ _ _ Ec30 Fc30_0 Fc30_1 Fc30_2 Fc30_3 Fc30_4 Ak32 h32 ne12 (own_s3 q5) (own_l3 q5) (own_sl q5)) e30 N30 Ec30 (W := 0) (by decide) (by decide) (by decide) (by decide) (g := (mkF m 143 #[.val (.int q0), .val (.int q1), .val (.int q2), .val (.int q3), .val (.long q4), .second, .val (.int q5), .val (.ref a1), .val (.ref b11), .val (.int own_n0_41), .val (.int j55_S0), .val (.int (own_v3_0 q0 j55_S0)), .val (.int j86_S0), .val (.int (own_v3_0 q2 j86_S0)), .val (.int (own_n0_113 q5)), .val (.int (own_n0_128 q5)), .unset] [(.ref b11)])) rfl (by rw [hml]; rfl) (argsL := []) (rest := []) (lenOf (by decide +kernel : parseMethodDescriptor "()I" = some ⟨[], some .int⟩) rfl) rfl rfl (by show 2 * 0 + _ ≤ _; exact Nat.le_of_eq rfl) (hb hby at_143)
    obtain ⟨K34, Ec34, Fc34_0, Fc34_1, Fc34_2, Fc34_3, Fc34_4⟩ := P34
    have Ek35 := Ec30.keep K34
    have Ak36 := own_A_keep Ak32 K34 (fun q => ne12 (List.mem_singleton.mp q))
    have zk37 := Nat.le_trans zk33 K34.1
    refine own_go (fun _ => st34 _) ?_
    show own_G p e below s _ _ _ (T34.setTop (mkF m 146 #[.val (.int q0), .val (.int q1), .val (.int q2), .val (.int q3), .val (.long q4), .second, .val (.int q5), .val (.ref a1), .val (.ref b11), .val (.int own_n0_41), .val (.int j55_S0), .val (.int (own_v3_0 q0 j55_S0)), .val (.int j86_S0), .val (.int (own_v3_0 q2 j86_S0)), .val (.int (own_n0_113 q5)), .val (.int (own_n0_128 q5)), .unset] [(.int (own_fin (own_n0_113 q5) (own_n0_128 q5)))]))
    refine own_go (fun _ => XS.pop X34.here hx rfl (hb hby at_146) rfl rfl) ?_
    show own_G p e below s _ _ _ (T34.setTop (mkF m 147 #[.val (.int q0), .val (.int q1), .val (.int q2), .val (.int q3), .val (.long q4), .second, .val (.int q5), .val (.ref a1), .val (.ref b11), .val (.int own_n0_41), .val (.int j55_S0), .val (.int (own_v3_0 q0 j55_S0)), .val (.int j86_S0), .val (.int (own_v3_0 q2 j86_S0)), .val (.int (own_n0_113 q5)), .val (.int (own_n0_128 q5)), .unset] []))
    refine own_go (fun _ => XS.aload X34.here hx rfl (hb hby at_147) rfl rfl) ?_
    show own_G p e below s _ _ _ (T34.setTop (mkF m 149 #[.val (.int q0), .val (.int q1), .val (.int q2), .val (.int q3), .val (.long q4), .second, .val (.int q5), .val (.ref a1), .val (.ref b11), .val (.int own_n0_41), .val (.int j55_S0), .val (.int (own_v3_0 q0 j55_S0)), .val (.int j86_S0), .val (.int (own_v3_0 q2 j86_S0)), .val (.int (own_n0_113 q5)), .val (.int (own_n0_128 q5)), .unset] [(.ref b11)]))
    obtain ⟨T38, X38, e38, st38⟩ := own_callV X34 hx hZ hown (hw _ (List.mem_of_getElem? (i := 12) rfl)) (hw _ (List.mem_of_getElem? (i := 13) rfl)) (hw _ (List.mem_of_getElem? (i := 15) rfl)) (hw _ (List.mem_of_getElem? (i := 14) rfl)) (hw _ (List.mem_of_getElem? (i := 16) rfl)) (hw _ (List.mem_of_getElem? (i := 3) rfl)) (by decide) (rm3 l Z a0 hw [] b11 h34 _ _ Fc34_1 Fc34_2) rfl rfl e34 Ec34 (W := 0) (by decide) (by decide) (by decide) (by decide) (g := (mkF m 149 #[.val (.int q0), .val (.int q1), .val (.int q2), .val (.int q3), .val (.long q4), .second, .val (.int q5), .val (.ref a1), .val (.ref b11), .val (.int own_n0_41), .val (.int j55_S0), .val (.int (own_v3_0 q0 j55_S0)), .val (.int j86_S0), .val (.int (own_v3_0 q2 j86_S0)), .val (.int (own_n0_113 q5)), .val (.int (own_n0_128 q5)), .unset] [(.ref b11)])) rfl (by rw [hml]; rfl) (argsL := []) (rest := []) (lenOf (by decide +kernel : parseMethodDescriptor "()Z" = some ⟨[], some .boolean⟩) rfl) rfl rfl (by show 2 * 0 + _ ≤ _; exact Nat.le_of_eq rfl) (hb hby at_149)
    refine own_go (fun _ => st38 _) ?_
    show own_G p e below s _ _ _ (T38.setTop (mkF m 152 #[.val (.int q0), .val (.int q1), .val (.int q2), .val (.int q3), .val (.long q4), .second, .val (.int q5), .val (.ref a1), .val (.ref b11), .val (.int own_n0_41), .val (.int j55_S0), .val (.int (own_v3_0 q0 j55_S0)), .val (.int j86_S0), .val (.int (own_v3_0 q2 j86_S0)), .val (.int (own_n0_113 q5)), .val (.int (own_n0_128 q5)), .unset] [(.int (own_v3_0 (own_n0_113 q5) (own_n0_128 q5)))]))
    refine own_go (fun _ => XS.istore X38.here hx rfl (hb hby at_152) rfl (l' := #[.val (.int q0), .val (.int q1), .val (.int q2), .val (.int q3), .val (.long q4), .second, .val (.int q5), .val (.ref a1), .val (.ref b11), .val (.int own_n0_41), .val (.int j55_S0), .val (.int (own_v3_0 q0 j55_S0)), .val (.int j86_S0), .val (.int (own_v3_0 q2 j86_S0)), .val (.int (own_n0_113 q5)), .val (.int (own_n0_128 q5)), .val (.int (own_n0_152 q5))]) rfl) ?_
    show own_G p e below s _ _ _ (T38.setTop (mkF m 154 #[.val (.int q0), .val (.int q1), .val (.int q2), .val (.int q3), .val (.long q4), .second, .val (.int q5), .val (.ref a1), .val (.ref b11), .val (.int own_n0_41), .val (.int j55_S0), .val (.int (own_v3_0 q0 j55_S0)), .val (.int j86_S0), .val (.int (own_v3_0 q2 j86_S0)), .val (.int (own_n0_113 q5)), .val (.int (own_n0_128 q5)), .val (.int (own_n0_152 q5))] []))
    refine own_go (fun _ => XS.iload X38.here hx rfl (hb hby at_154) rfl) ?_
    show own_G p e below s _ _ _ (T38.setTop (mkF m 156 #[.val (.int q0), .val (.int q1), .val (.int q2), .val (.int q3), .val (.long q4), .second, .val (.int q5), .val (.ref a1), .val (.ref b11), .val (.int own_n0_41), .val (.int j55_S0), .val (.int (own_v3_0 q0 j55_S0)), .val (.int j86_S0), .val (.int (own_v3_0 q2 j86_S0)), .val (.int (own_n0_113 q5)), .val (.int (own_n0_128 q5)), .val (.int (own_n0_152 q5))] [(.int own_n0_41)]))
    by_cases hc156 : own_n0_41 = (0 : Int32)
    · refine own_eqF (if_pos hc156) ?_
      refine own_go (fun _ => XS.ifYes X38.here hx rfl (pc0 := 156) (pc' := 212) rfl (hb hby at_156) rfl ((if0 _ _).trans (teq hc156).1) (by decide) (by decide)) ?_
      exact b212 T38 h34 L34 X38 e38 N34 f_a1 Ak36 j55_S0 j86_S0
    · refine own_eqF (if_neg hc156) ?_
      refine own_go (fun _ => XS.ifNo X38.here hx rfl (hb hby at_156) rfl ((if0 _ _).trans (feq hc156).1)) ?_
      show own_G p e below s _ _ _ (T38.setTop (mkF m 159 #[.val (.int q0), .val (.int q1), .val (.int q2), .val (.int q3), .val (.long q4), .second, .val (.int q5), .val (.ref a1), .val (.ref b11), .val (.int own_n0_41), .val (.int j55_S0), .val (.int (own_v3_0 q0 j55_S0)), .val (.int j86_S0), .val (.int (own_v3_0 q2 j86_S0)), .val (.int (own_n0_113 q5)), .val (.int (own_n0_128 q5)), .val (.int (own_n0_152 q5))] []))
      refine own_go (fun _ => XS.iload X38.here hx rfl (hb hby at_159) rfl) ?_
      show own_G p e below s _ _ _ (T38.setTop (mkF m 161 #[.val (.int q0), .val (.int q1), .val (.int q2), .val (.int q3), .val (.long q4), .second, .val (.int q5), .val (.ref a1), .val (.ref b11), .val (.int own_n0_41), .val (.int j55_S0), .val (.int (own_v3_0 q0 j55_S0)), .val (.int j86_S0), .val (.int (own_v3_0 q2 j86_S0)), .val (.int (own_n0_113 q5)), .val (.int (own_n0_128 q5)), .val (.int (own_n0_152 q5))] [(.int (own_v3_0 q0 j55_S0))]))
      refine own_go (fun _ => XS.iloadN X38.here hx rfl (hb hby at_161) rfl) ?_
      show own_G p e below s _ _ _ (T38.setTop (mkF m 162 #[.val (.int q0), .val (.int q1), .val (.int q2), .val (.int q3), .val (.long q4), .second, .val (.int q5), .val (.ref a1), .val (.ref b11), .val (.int own_n0_41), .val (.int j55_S0), .val (.int (own_v3_0 q0 j55_S0)), .val (.int j86_S0), .val (.int (own_v3_0 q2 j86_S0)), .val (.int (own_n0_113 q5)), .val (.int (own_n0_128 q5)), .val (.int (own_n0_152 q5))] [(.int q0), (.int (own_v3_0 q0 j55_S0))]))
      refine own_go (fun _ => XS.iload X38.here hx rfl (hb hby at_162) rfl) ?_
      show own_G p e below s _ _ _ (T38.setTop (mkF m 164 #[.val (.int q0), .val (.int q1), .val (.int q2), .val (.int q3), .val (.long q4), .second, .val (.int q5), .val (.ref a1), .val (.ref b11), .val (.int own_n0_41), .val (.int j55_S0), .val (.int (own_v3_0 q0 j55_S0)), .val (.int j86_S0), .val (.int (own_v3_0 q2 j86_S0)), .val (.int (own_n0_113 q5)), .val (.int (own_n0_128 q5)), .val (.int (own_n0_152 q5))] [(.int j55_S0), (.int q0), (.int (own_v3_0 q0 j55_S0))]))
      by_cases hc164 : q0 = j55_S0
      · refine own_eqF (if_pos hc164) ?_
        refine own_go (fun _ => XS.icmpNo X38.here hx rfl (hb hby at_164) rfl (teq hc164).2) ?_
        show own_G p e below s _ _ _ (T38.setTop (mkF m 167 #[.val (.int q0), .val (.int q1), .val (.int q2), .val (.int q3), .val (.long q4), .second, .val (.int q5), .val (.ref a1), .val (.ref b11), .val (.int own_n0_41), .val (.int j55_S0), .val (.int (own_v3_0 q0 j55_S0)), .val (.int j86_S0), .val (.int (own_v3_0 q2 j86_S0)), .val (.int (own_n0_113 q5)), .val (.int (own_n0_128 q5)), .val (.int (own_n0_152 q5))] [(.int (own_v3_0 q0 j55_S0))]))
        refine own_go (fun _ => XS.iconst X38.here hx rfl (hb hby at_167)) ?_
        show own_G p e below s _ _ _ (T38.setTop (mkF m 168 #[.val (.int q0), .val (.int q1), .val (.int q2), .val (.int q3), .val (.long q4), .second, .val (.int q5), .val (.ref a1), .val (.ref b11), .val (.int own_n0_41), .val (.int j55_S0), .val (.int (own_v3_0 q0 j55_S0)), .val (.int j86_S0), .val (.int (own_v3_0 q2 j86_S0)), .val (.int (own_n0_113 q5)), .val (.int (own_n0_128 q5)), .val (.int (own_n0_152 q5))] [(.int (1 : Int32)), (.int (own_v3_0 q0 j55_S0))]))
        refine own_go (fun _ => XS.goto X38.here hx rfl (pc0 := 168) (pc' := 172) rfl (hb hby at_168) (by decide) (by decide)) ?_
        exact b172 T38 h34 L34 X38 e38 N34 f_a1 Ak36 j55_S0 j86_S0 (1 : Int32)
      · refine own_eqF (if_neg hc164) ?_
        refine own_go (fun _ => XS.icmpYes X38.here hx rfl (pc0 := 164) (pc' := 171) rfl (hb hby at_164) rfl (feq hc164).2 (by decide) (by decide)) ?_
        show own_G p e below s _ _ _ (T38.setTop (mkF m 171 #[.val (.int q0), .val (.int q1), .val (.int q2), .val (.int q3), .val (.long q4), .second, .val (.int q5), .val (.ref a1), .val (.ref b11), .val (.int own_n0_41), .val (.int j55_S0), .val (.int (own_v3_0 q0 j55_S0)), .val (.int j86_S0), .val (.int (own_v3_0 q2 j86_S0)), .val (.int (own_n0_113 q5)), .val (.int (own_n0_128 q5)), .val (.int (own_n0_152 q5))] [(.int (own_v3_0 q0 j55_S0))]))
        refine own_go (fun _ => XS.iconst X38.here hx rfl (hb hby at_171)) ?_
        exact b172 T38 h34 L34 X38 e38 N34 f_a1 Ak36 j55_S0 j86_S0 (0 : Int32)
  have b55 : ∀ (T : State) (h : Heap) (Lc : List Loc), Stand p l e room_1 s m #[(.int q0), (.int q1), (.int q2), (.int q3), (.long q4), (.int q5)] below meth c T Lc (((0 + 1) + 1) + 0) (((0 + 4) + 5) + 0) → T.heap = h → Fr n0 Lc → ∀ (f_a1 : Int32 → Int32), own_A Z h a1 .byte (4 : Int32) f_a1 → ∀ (j55_S0 : Int32), n0 ≤ h.size → own_32 f_a1 → Exa Z h b11 "com/example/rolewright/rolewright/io/JsonCursor" → Fld Z h b11 "com/example/rolewright/rolewright/io/JsonCursor" "bytes" "[B" (.ref a1) → (∃ u, Fld Z h b11 "com/example/rolewright/rolewright/io/JsonCursor" "start" "I" u) → (∃ u, Fld Z h b11 "com/example/rolewright/rolewright/io/JsonCursor" "limit" "I" u) → (∃ u, Fld Z h b11 "com/example/rolewright/rolewright/io/JsonCursor" "line" "J" u) → (∃ u, Fld Z h b11 "com/example/rolewright/rolewright/io/JsonCursor" "index" "I" u) → own_G p e below s (own_QF (some (.int (own_v0_55 f_a1 q0 q1 q2 q3 q4 q5 j55_S0))) n0) room_1.cells room_1.slots (T.setTop (mkF m 55 #[.val (.int q0), .val (.int q1), .val (.int q2), .val (.int q3), .val (.long q4), .second, .val (.int q5), .val (.ref a1), .val (.ref b11), .val (.int own_n0_41), .unset, .unset, .unset, .unset, .unset, .unset, .unset] [(.int j55_S0)])) := by
    intro T h Lc X eT N f_a1 A_a1 j55_S0 SZ h32 E F_bytes F_start F_limit F_line F_index
    show own_G p e below s (own_QF (some (.int (if (q5 &&& (2 : Int32)) = (0 : Int32) then (own_v0_86 f_a1 q0 q1 q2 q3 q4 q5 j55_S0 q3) else (own_v0_86 f_a1 q0 q1 q2 q3 q4 q5 j55_S0 q2)))) n0) room_1.cells room_1.slots (T.setTop (mkF m 55 #[.val (.int q0), .val (.int q1), .val (.int q2), .val (.int q3), .val (.long q4), .second, .val (.int q5), .val (.ref a1), .val (.ref b11), .val (.int own_n0_41), .unset, .unset, .unset, .unset, .unset, .unset, .unset] [(.int j55_S0)]))
    refine own_go (fun _ => XS.istore X.here hx rfl (hb hby at_55) rfl (l' := #[.val (.int q0), .val (.int q1), .val (.int q2), .val (.int q3), .val (.long q4), .second, .val (.int q5), .val (.ref a1), .val (.ref b11), .val (.int own_n0_41), .val (.int j55_S0), .unset, .unset, .unset, .unset, .unset, .unset]) rfl) ?_
    show own_G p e below s _ _ _ (T.setTop (mkF m 57 #[.val (.int q0), .val (.int q1), .val (.int q2), .val (.int q3), .val (.long q4), .second, .val (.int q5), .val (.ref a1), .val (.ref b11), .val (.int own_n0_41), .val (.int j55_S0), .unset, .unset, .unset, .unset, .unset, .unset] []))
    refine own_go (fun _ => XS.aload X.here hx rfl (hb hby at_57) rfl rfl) ?_
    show own_G p e below s _ _ _ (T.setTop (mkF m 59 #[.val (.int q0), .val (.int q1), .val (.int q2), .val (.int q3), .val (.long q4), .second, .val (.int q5), .val (.ref a1), .val (.ref b11), .val (.int own_n0_41), .val (.int j55_S0), .unset, .unset, .unset, .unset, .unset, .unset] [(.ref b11)]))
    refine own_go (fun _ => XS.iloadN X.here hx rfl (hb hby at_59) rfl) ?_
    show own_G p e below s _ _ _ (T.setTop (mkF m 60 #[.val (.int q0), .val (.int q1), .val (.int q2), .val (.int q3), .val (.long q4), .second, .val (.int q5), .val (.ref a1), .val (.ref b11), .val (.int own_n0_41), .val (.int j55_S0), .unset, .unset, .unset, .unset, .unset, .unset] [(.int q0), (.ref b11)]))
    refine own_go (fun _ => XS.iload X.here hx rfl (hb hby at_60) rfl) ?_
    show own_G p e below s _ _ _ (T.setTop (mkF m 62 #[.val (.int q0), .val (.int q1), .val (.int q2), .val (.int q3), .val (.long q4), .second, .val (.int q5), .val (.ref a1), .val (.ref b11), .val (.int own_n0_41), .val (.int j55_S0), .unset, .unset, .unset, .unset, .unset, .unset] [(.int j55_S0), (.int q0), (.ref b11)]))
    refine own_go (fun _ => XS.lload X.here hx rfl (hb hby at_62) rfl) ?_
    show own_G p e below s _ _ _ (T.setTop (mkF m 64 #[.val (.int q0), .val (.int q1), .val (.int q2), .val (.int q3), .val (.long q4), .second, .val (.int q5), .val (.ref a1), .val (.ref b11), .val (.int own_n0_41), .val (.int j55_S0), .unset, .unset, .unset, .unset, .unset, .unset] [(.long q4), (.int j55_S0), (.int q0), (.ref b11)]))
    obtain ⟨T24, h24, L24, X24, e24, N24, P24, st24⟩ := own_callW X hx hZ hown (hw _ (List.mem_of_getElem? (i := 21) rfl)) (hw _ (List.mem_of_getElem? (i := 22) rfl)) (hw _ (List.mem_of_getElem? (i := 24) rfl)) (hw _ (List.mem_of_getElem? (i := 23) rfl)) (hw _ (List.mem_of_getElem? (i := 25) rfl)) (hw _ (List.mem_of_getElem? (i := 3) rfl)) (by decide) (rm4 l Z a0 hw [] b11 q0 j55_S0 q4 h n0 SZ g11 E F_bytes F_start.choose_spec F_limit.choose_spec F_line.choose_spec F_index.choose_spec) eT N E (W := 0) (by decide) (by decide) (by decide) (by decide) (g := (mkF m 64 #[.val (.int q0), .val (.int q1), .val (.int q2), .val (.int q3), .val (.long q4), .second, .val (.int q5), .val (.ref a1), .val (.ref b11), .val (.int own_n0_41), .val (.int j55_S0), .unset, .unset, .unset, .unset, .unset, .unset] [(.long q4), (.int j55_S0), (.int q0), (.ref b11)])) rfl (by rw [hml]; rfl) (argsL := [(.int q0), (.int j55_S0), (.long q4)]) (rest := []) (lenOf (by decide +kernel : parseMethodDescriptor "(IIJ)V" = some ⟨[.int, .int, .long], none⟩) rfl) rfl rfl (by show 2 * 0 + _ ≤ _; exact Nat.le_of_eq rfl) (hb hby at_64)
    obtain ⟨K24, Ec24, Fc24_0, Fc24_1, Fc24_2, Fc24_3, Fc24_4⟩ := P24
    have Ek25 := E.keep K24
    have Ak26 := own_A_keep A_a1 K24 (fun q => ne12 (List.mem_singleton.mp q))
    have zk27 := Nat.le_trans SZ K24.1
    refine own_go (fun _ => st24 _) ?_
    show own_G p e below s _ _ _ (T24.setTop (mkF m 67 #[.val (.int q0), .val (.int q1), .val (.int q2), .val (.int q3), .val (.long q4), .second, .val (.int q5), .val (.ref a1), .val (.ref b11), .val (.int own_n0_41), .val (.int j55_S0), .unset, .unset, .unset, .unset, .unset, .unset] []))
    refine own_go (fun _ => XS.aload X24.here hx rfl (hb hby at_67) rfl rfl) ?_
    show own_G p e below s _ _ _ (T24.setTop (mkF m 69 #[.val (.int q0), .val (.int q1), .val (.int q2), .val (.int q3), .val (.long q4), .second, .val (.int q5), .val (.ref a1), .val (.ref b11), .val (.int own_n0_41), .val (.int j55_S0), .unset, .unset, .unset, .unset, .unset, .unset] [(.ref b11)]))
    obtain ⟨T28, X28, e28, st28⟩ := own_callV X24 hx hZ hown (hw _ (List.mem_of_getElem? (i := 12) rfl)) (hw _ (List.mem_of_getElem? (i := 13) rfl)) (hw _ (List.mem_of_getElem? (i := 15) rfl)) (hw _ (List.mem_of_getElem? (i := 14) rfl)) (hw _ (List.mem_of_getElem? (i := 16) rfl)) (hw _ (List.mem_of_getElem? (i := 3) rfl)) (by decide) (rm3 l Z a0 hw [] b11 h24 _ _ Fc24_1 Fc24_2) rfl rfl e24 Ec24 (W := 0) (by decide) (by decide) (by decide) (by decide) (g := (mkF m 69 #[.val (.int q0), .val (.int q1), .val (.int q2), .val (.int q3), .val (.long q4), .second, .val (.int q5), .val (.ref a1), .val (.ref b11), .val (.int own_n0_41), .val (.int j55_S0), .unset, .unset, .unset, .unset, .unset, .unset] [(.ref b11)])) rfl (by rw [hml]; rfl) (argsL := []) (rest := []) (lenOf (by decide +kernel : parseMethodDescriptor "()Z" = some ⟨[], some .boolean⟩) rfl) rfl rfl (by show 2 * 0 + _ ≤ _; exact Nat.le_of_eq rfl) (hb hby at_69)
    refine own_go (fun _ => st28 _) ?_
    show own_G p e below s _ _ _ (T28.setTop (mkF m 72 #[.val (.int q0), .val (.int q1), .val (.int q2), .val (.int q3), .val (.long q4), .second, .val (.int q5), .val (.ref a1), .val (.ref b11), .val (.int own_n0_41), .val (.int j55_S0), .unset, .unset, .unset, .unset, .unset, .unset] [(.int (own_v3_0 q0 j55_S0))]))
    refine own_go (fun _ => XS.istore X28.here hx rfl (hb hby at_72) rfl (l' := #[.val (.int q0), .val (.int q1), .val (.int q2), .val (.int q3), .val (.long q4), .second, .val (.int q5), .val (.ref a1), .val (.ref b11), .val (.int own_n0_41), .val (.int j55_S0), .val (.int (own_v3_0 q0 j55_S0)), .unset, .unset, .unset, .unset, .unset]) rfl) ?_
    show own_G p e below s _ _ _ (T28.setTop (mkF m 74 #[.val (.int q0), .val (.int q1), .val (.int q2), .val (.int q3), .val (.long q4), .second, .val (.int q5), .val (.ref a1), .val (.ref b11), .val (.int own_n0_41), .val (.int j55_S0), .val (.int (own_v3_0 q0 j55_S0)), .unset, .unset, .unset, .unset, .unset] []))
    refine own_go (fun _ => XS.iload X28.here hx rfl (hb hby at_74) rfl) ?_
    show own_G p e below s _ _ _ (T28.setTop (mkF m 76 #[.val (.int q0), .val (.int q1), .val (.int q2), .val (.int q3), .val (.long q4), .second, .val (.int q5), .val (.ref a1), .val (.ref b11), .val (.int own_n0_41), .val (.int j55_S0), .val (.int (own_v3_0 q0 j55_S0)), .unset, .unset, .unset, .unset, .unset] [(.int q5)]))
    refine own_go (fun _ => XS.iconst X28.here hx rfl (hb hby at_76)) ?_
    show own_G p e below s _ _ _ (T28.setTop (mkF m 77 #[.val (.int q0), .val (.int q1), .val (.int q2), .val (.int q3), .val (.long q4), .second, .val (.int q5), .val (.ref a1), .val (.ref b11), .val (.int own_n0_41), .val (.int j55_S0), .val (.int (own_v3_0 q0 j55_S0)), .unset, .unset, .unset, .unset, .unset] [(.int (2 : Int32)), (.int q5)]))
    refine own_go (fun _ => XS.iand X28.here hx rfl (hb hby at_77) rfl) ?_
    show own_G p e below s _ _ _ (T28.setTop (mkF m 78 #[.val (.int q0), .val (.int q1), .val (.int q2), .val (.int q3), .val (.long q4), .second, .val (.int q5), .val (.ref a1), .val (.ref b11), .val (.int own_n0_41), .val (.int j55_S0), .val (.int (own_v3_0 q0 j55_S0)), .unset, .unset, .unset, .unset, .unset] [(.int (q5 &&& (2 : Int32)))]))
    by_cases hc78 : (q5 &&& (2 : Int32)) = (0 : Int32)
    · refine own_eqF (if_pos hc78) ?_
      refine own_go (fun _ => XS.ifYes X28.here hx rfl (pc0 := 78) (pc' := 85) rfl (hb hby at_78) rfl ((if0 _ _).trans (teq hc78).1) (by decide) (by decide)) ?_
      show own_G p e below s _ _ _ (T28.setTop (mkF m 85 #[.val (.int q0), .val (.int q1), .val (.int q2), .val (.int q3), .val (.long q4), .second, .val (.int q5), .val (.ref a1), .val (.ref b11), .val (.int own_n0_41), .val (.int j55_S0), .val (.int (own_v3_0 q0 j55_S0)), .unset, .unset, .unset, .unset, .unset] []))
      refine own_go (fun _ => XS.iloadN X28.here hx rfl (hb hby at_85) rfl) ?_
      exact b86 T28 h24 L24 X28 e28 N24 f_a1 Ak26 j55_S0 q3 zk27 h32 Ec24 Fc24_0 ⟨_, Fc24_1⟩ ⟨_, Fc24_2⟩ ⟨_, Fc24_3⟩ ⟨_, Fc24_4⟩
    · refine own_eqF (if_neg hc78) ?_
      refine own_go (fun _ => XS.ifNo X28.here hx rfl (hb hby at_78) rfl ((if0 _ _).trans (feq hc78).1)) ?_
      show own_G p e below s _ _ _ (T28.setTop (mkF m 81 #[.val (.int q0), .val (.int q1), .val (.int q2), .val (.int q3), .val (.long q4), .second, .val (.int q5), .val (.ref a1), .val (.ref b11), .val (.int own_n0_41), .val (.int j55_S0), .val (.int (own_v3_0 q0 j55_S0)), .unset, .unset, .unset, .unset, .unset] []))
      refine own_go (fun _ => XS.iloadN X28.here hx rfl (hb hby at_81) rfl) ?_
      show own_G p e below s _ _ _ (T28.setTop (mkF m 82 #[.val (.int q0), .val (.int q1), .val (.int q2), .val (.int q3), .val (.long q4), .second, .val (.int q5), .val (.ref a1), .val (.ref b11), .val (.int own_n0_41), .val (.int j55_S0), .val (.int (own_v3_0 q0 j55_S0)), .unset, .unset, .unset, .unset, .unset] [(.int q2)]))
      refine own_go (fun _ => XS.goto X28.here hx rfl (pc0 := 82) (pc' := 86) rfl (hb hby at_82) (by decide) (by decide)) ?_
      exact b86 T28 h24 L24 X28 e28 N24 f_a1 Ak26 j55_S0 q2 zk27 h32 Ec24 Fc24_0 ⟨_, Fc24_1⟩ ⟨_, Fc24_2⟩ ⟨_, Fc24_3⟩ ⟨_, Fc24_4⟩
  show own_G p e below s (own_QF (some (.int (if (q5 &&& (1 : Int32)) = (0 : Int32) then (own_v0_55 own_n0_f q0 q1 q2 q3 q4 q5 q1) else (own_v0_55 own_n0_f q0 q1 q2 q3 q4 q5 q0)))) n0) room_1.cells room_1.slots (T23.setTop (mkF m 43 #[.val (.int q0), .val (.int q1), .val (.int q2), .val (.int q3), .val (.long q4), .second, .val (.int q5), .val (.ref a1), .val (.ref b11), .val (.int own_n0_41), .unset, .unset, .unset, .unset, .unset, .unset, .unset] []))
  refine own_go (fun _ => XS.iload X23.here hx rfl (hb hby at_43) rfl) ?_
  show own_G p e below s _ _ _ (T23.setTop (mkF m 45 #[.val (.int q0), .val (.int q1), .val (.int q2), .val (.int q3), .val (.long q4), .second, .val (.int q5), .val (.ref a1), .val (.ref b11), .val (.int own_n0_41), .unset, .unset, .unset, .unset, .unset, .unset, .unset] [(.int q5)]))
  refine own_go (fun _ => XS.iconst X23.here hx rfl (hb hby at_45)) ?_
  show own_G p e below s _ _ _ (T23.setTop (mkF m 46 #[.val (.int q0), .val (.int q1), .val (.int q2), .val (.int q3), .val (.long q4), .second, .val (.int q5), .val (.ref a1), .val (.ref b11), .val (.int own_n0_41), .unset, .unset, .unset, .unset, .unset, .unset, .unset] [(.int (1 : Int32)), (.int q5)]))
  refine own_go (fun _ => XS.iand X23.here hx rfl (hb hby at_46) rfl) ?_
  show own_G p e below s _ _ _ (T23.setTop (mkF m 47 #[.val (.int q0), .val (.int q1), .val (.int q2), .val (.int q3), .val (.long q4), .second, .val (.int q5), .val (.ref a1), .val (.ref b11), .val (.int own_n0_41), .unset, .unset, .unset, .unset, .unset, .unset, .unset] [(.int (q5 &&& (1 : Int32)))]))
  by_cases hc47 : (q5 &&& (1 : Int32)) = (0 : Int32)
  · refine own_eqF (if_pos hc47) ?_
    refine own_go (fun _ => XS.ifYes X23.here hx rfl (pc0 := 47) (pc' := 54) rfl (hb hby at_47) rfl ((if0 _ _).trans (teq hc47).1) (by decide) (by decide)) ?_
    show own_G p e below s _ _ _ (T23.setTop (mkF m 54 #[.val (.int q0), .val (.int q1), .val (.int q2), .val (.int q3), .val (.long q4), .second, .val (.int q5), .val (.ref a1), .val (.ref b11), .val (.int own_n0_41), .unset, .unset, .unset, .unset, .unset, .unset, .unset] []))
    refine own_go (fun _ => XS.iloadN X23.here hx rfl (hb hby at_54) rfl) ?_
    exact b55 T23 h19 L19 X23 e23 N19 own_n0_f Ak21 q1 zk22 own_32f Ec19 Fc19_0 ⟨_, Fc19_1⟩ ⟨_, Fc19_2⟩ ⟨_, Fc19_3⟩ ⟨_, Fc19_4⟩
  · refine own_eqF (if_neg hc47) ?_
    refine own_go (fun _ => XS.ifNo X23.here hx rfl (hb hby at_47) rfl ((if0 _ _).trans (feq hc47).1)) ?_
    show own_G p e below s _ _ _ (T23.setTop (mkF m 50 #[.val (.int q0), .val (.int q1), .val (.int q2), .val (.int q3), .val (.long q4), .second, .val (.int q5), .val (.ref a1), .val (.ref b11), .val (.int own_n0_41), .unset, .unset, .unset, .unset, .unset, .unset, .unset] []))
    refine own_go (fun _ => XS.iloadN X23.here hx rfl (hb hby at_50) rfl) ?_
    show own_G p e below s _ _ _ (T23.setTop (mkF m 51 #[.val (.int q0), .val (.int q1), .val (.int q2), .val (.int q3), .val (.long q4), .second, .val (.int q5), .val (.ref a1), .val (.ref b11), .val (.int own_n0_41), .unset, .unset, .unset, .unset, .unset, .unset, .unset] [(.int q0)]))
    refine own_go (fun _ => XS.goto X23.here hx rfl (pc0 := 51) (pc' := 55) rfl (hb hby at_51) (by decide) (by decide)) ?_
    exact b55 T23 h19 L19 X23 e23 N19 own_n0_f Ak21 q0 zk22 own_32f Ec19 Fc19_0 ⟨_, Fc19_1⟩ ⟨_, Fc19_2⟩ ⟨_, Fc19_3⟩ ⟨_, Fc19_4⟩
set_option maxRecDepth 65536 in
set_option maxHeartbeats 40000000 in
theorem comes_1 {Post : Tables → Env → Array Value → State → Outcome → State → Prop} (hpost : ∀ tb e args s v u, (limb_1_1.after args s (.returned v) u = true ∧ limb_1_2.after args s (.returned v) u = true ∧ True) → FrameEnd s (.returned v) u (Jvm.fieldLocs frame_1_writes args s ++ Jvm.arrayLocs frame_1_arrays args s ++ Jvm.staticLocs frame_1_statics s) 16 128 → Post tb e args s (.returned v) u) :
    ArmFor flags0 classFile x code maxLocals ret World_1 tables_1 room_1 Calls_1 rest_1 Pre_1 Post := by
  intro l hfl _ _ p e ha hc hk s m args below hf hA hF happ hP
  obtain ⟨hcalls, hrest, hpre⟩ := hP
  obtain ⟨-, -, -, hnamed, -, -, -, hat⟩ := (Spec.applies_iff hf).mp happ
  obtain ⟨hg, hn⟩ := and_e (Cond.before_iff.mp (show (Jvm.Cond.and given_1 narrow_1).before args s = true from hpre))
  obtain ⟨cg0, cq0⟩ := and_e hg
  obtain ⟨w0, w1, w2, w3, w4, w5, rfl⟩ : ∃ w0 w1 w2 w3 w4 w5 : Value, args = #[w0, w1, w2, w3, w4, w5] := by
    have hs : args.size = 6 := by simpa [Cond.value, given_1] using cg0
    obtain ⟨L⟩ := args
    match L, hs with
    | [w0, w1, w2, w3, w4, w5], _ => exact ⟨w0, w1, w2, w3, w4, w5, rfl⟩
  have hw := fun d (hd : d ∈ tables_1) => atoms_spec (ws := Jvm.Cond.code x code maxLocals ret :: tables_1) hat d (List.mem_cons_of_mem _ hd)
  obtain ⟨ca0, cq1⟩ := and_e cq0
  obtain ⟨q0, eq0⟩ := is_v ca0
  obtain rfl : w0 = (.int q0) := Option.some.inj eq0
  obtain ⟨ca1, cq2⟩ := and_e cq1
  obtain ⟨q1, eq1⟩ := is_v ca1
  obtain rfl : w1 = (.int q1) := Option.some.inj eq1
  obtain ⟨ca2, cq3⟩ := and_e cq2
  obtain ⟨q2, eq2⟩ := is_v ca2
  obtain rfl : w2 = (.int q2) := Option.some.inj eq2
  obtain ⟨ca3, cq4⟩ := and_e cq3
  obtain ⟨q3, eq3⟩ := is_v ca3
  obtain rfl : w3 = (.int q3) := Option.some.inj eq3
  obtain ⟨ca4, cq5⟩ := and_e cq4
  obtain ⟨q4, eq4⟩ := isL_v ca4
  obtain rfl : w4 = (.long q4) := Option.some.inj eq4
  obtain ⟨q5, eq5⟩ := is_v cq5
  obtain rfl : w5 = (.int q5) := Option.some.inj eq5
  obtain ⟨n, o, h1, h2, h3, _, L, rfl, ⟨hv, N⟩, hq⟩ := rm0 l s _ hw tables_1 q0 q1 q2 q3 q4 q5 s.heap s.heap.size (Nat.le_refl _)  p e ha hc hk s m _ below hf ((Spec.applies_iff_loose hf).mp happ).1 ⟨rfl, State.Warmed39.refl s, rfl⟩ trivial
  rw [own_law] at hv
  subst hv
  refine ⟨n, _, h1, h2, h3, hpost _ _ _ _ _ _ ⟨Cond.after_iff.mpr rfl, Cond.after_iff.mpr (eq_i res_at (Term.int_eval (1)) rfl), trivial⟩ ⟨hq.1, hq.2.1, (hq.2.2.sift fun y hy => Or.inr (N y hy)).mono (by decide) (by decide)⟩⟩
theorem main_1_1 : Claimed_1_1 := comes_1 fun _ _ _ _ _ _ h hF => ⟨h.1, hF⟩
theorem main_1_2 : Claimed_1_2 := comes_1 fun _ _ _ _ _ _ h hF => ⟨h.2.1, hF⟩
end Jvm.Pilot.@@N@@
namespace Jvm.Pilot.@@N@@
open Jvm Jvm.ClassFile Sem Op Lib Jvm.Free Jvm.Stand Jvm.Pilot.@@N@@.Jvm.D
/-! MADE BY PROGRAM (witnessworld.py) out of the Statement's table words and the real class files: 10 classes; the members and pool entries that the words name. The judged class is class 1, her method 1. -/
namespace start1
open Jvm.ClassFile
def u (s : String) : CpInfo := .utf8 (stringToUtf16 s)
/-- a pool by its gaps: so many unusable entries, then the entry; so many at the end -/
def gap : Nat → List CpInfo → List CpInfo
  | 0, r => r
  | n + 1, r => .unusable :: gap n r
def poolList (es : List (Nat × CpInfo)) (last : Nat) : List CpInfo := es.foldr (fun e r => gap e.1 (e.2 :: r)) (gap last [])
def pool (es : List (Nat × CpInfo)) (last : Nat) : Array CpInfo := ⟨poolList es last⟩
def fileOf (pool : Array CpInfo) (this : Nat) (attrs : Array Attribute := #[]) (ms : Array MethodInfo := #[]) (fl : Nat := 33) (sup : Nat := 0) (ifs : Array Nat := #[]) (fds : Array FieldInfo := #[]) : ClassFile where
  minorVersion := 0
  majorVersion := 65
  constantPool := pool
  accessFlags := fl
  thisClass := this
  superClass := sup
  interfaces := ifs
  fields := fds
  methods := ms
  attributes := attrs
def plain (name : String) (sup : Option ClassId) : Class where
  name := name
  kind := .ordinary
  loader := none
  accessFlags := 33
  super := sup
  interfaces := #[]
  cf := none
  fields := #[]
  methods := #[]
  instanceTypes := #[]
  staticTypes := #[]
  resolved := #[]
  callSites := []
  init := .initialized
  statics := none
  mirror := none

def pool0 : Array CpInfo := pool [(5, u "<init>"), (0, u "()V"), (1, .class_ 10), (1, u "java/lang/Object")] 113

def k0c0 : Code := { maxStack := 0, maxLocals := 1, code := object_method_1_code, exceptionTable := #[], attributes := #[] }
def k0m0 : Method := { name := "<init>", desc := "()V", sig := { parameters := [], returnType := none }, accessFlags := 1, code := some k0c0 }
/-- java/lang/Object -/
def k0 : Class := { plain "java/lang/Object" none with
  accessFlags := 33
  interfaces := #[]
  cf := some (fileOf pool0 8 #[] #[{ accessFlags := 1, nameIndex := 5, descriptorIndex := 6, attributes := #[] }] 33 0 #[] #[])
  fields := #[]
  methods := #[k0m0]
  instanceTypes := #[]
  staticTypes := #[]
  resolved := Array.replicate 124 none
  statics := none }

def pool1 : Array CpInfo := pool [(2, .class_ 4), (1, u "java/lang/Object"), (0, u "<init>"), (0, u "()V"), (0, .class_ 8), (0, u "com/example/rolewright/rolewright/io/JsonCursor"), (0, .methodref 7 10), (0, .nameAndType 5 11), (0, u "([B)V"), (0, .methodref 7 13), (0, .nameAndType 14 15), (0, u "isEmpty"), (0, u "()Z"), (0, .methodref 7 17), (0, .nameAndType 18 19), (0, u "start"), (0, u "(IIJ)V"), (0, .methodref 21 22), (0, .class_ 23), (0, .nameAndType 24 25), (0, u "java/lang/Math"), (0, u "min"), (0, u "(II)I"), (0, .methodref 7 27), (0, .nameAndType 28 29), (0, u "skipWhitespace"), (0, u "()I"), (0, .class_ 31), (0, u "com/example/rolewright/rolewright/io/JsonCursorIsEmptyPinLaw"), (2, u "law"), (0, u "(IIIIJI)Z")] 5

def k1m0 : Method := { name := "<init>", desc := "()V", sig := { parameters := [], returnType := none }, accessFlags := 2, code := none }
def k1c1 : Code := { maxStack := 7, maxLocals := 17, code := code, exceptionTable := #[], attributes := #[] }
def k1m1 : Method := { name := "law", desc := "(IIIIJI)Z", sig := { parameters := [.int, .int, .int, .int, .long, .int], returnType := some .boolean }, accessFlags := 9, code := some k1c1 }
/-- com/example/rolewright/rolewright/io/JsonCursorIsEmptyPinLaw -/
def k1 : Class := { plain "com/example/rolewright/rolewright/io/JsonCursorIsEmptyPinLaw" (some 0) with
  accessFlags := 49
  interfaces := #[]
  cf := some (fileOf pool1 30 #[] #[{ accessFlags := 2, nameIndex := 5, descriptorIndex := 6, attributes := #[] }, { accessFlags := 9, nameIndex := 34, descriptorIndex := 35, attributes := #[] }] 49 2 #[] #[])
  fields := #[]
  methods := #[k1m0, k1m1]
  instanceTypes := #[]
  staticTypes := #[]
  resolved := Array.replicate 41 none
  statics := none }

def pool2 : Array CpInfo := pool [(1, .methodref 2 3), (0, .class_ 4), (0, .nameAndType 5 6), (0, u "java/lang/Object"), (0, u "<init>"), (0, u "()V"), (0, .fieldref 8 9), (0, .class_ 10), (0, .nameAndType 11 12), (0, u "com/example/rolewright/rolewright/io/JsonCursor"), (0, u "bytes"), (0, u "[B"), (0, .fieldref 8 14), (0, .nameAndType 15 16), (0, u "start"), (0, u "I"), (0, .fieldref 8 18), (0, .nameAndType 19 16), (0, u "limit"), (0, .fieldref 8 21), (0, .nameAndType 22 23), (0, u "line"), (0, u "J"), (0, .fieldref 8 25), (0, .nameAndType 26 16), (0, u "index"), (0, .methodref 8 28), (0, .nameAndType 29 30), (0, u "isWhitespace"), (0, u "(B)Z"), (10, u "skipWhitespace"), (0, u "()I"), (215, u "LITERALS"), (0, u "Ljava/util/List;"), (23, u "()Z"), (41, u "NOT_UTF_8"), (0, u "Ljava/lang/String;"), (1, u "([B)V"), (2, u "(IIJ)V"), (0, u "isEmpty")] 52

def k2c0 : Code := { maxStack := 2, maxLocals := 2, code := prog_54_method_1_code, exceptionTable := #[], attributes := #[] }
def k2m0 : Method := { name := "<init>", desc := "([B)V", sig := { parameters := [(.array .byte)], returnType := none }, accessFlags := 0, code := some k2c0 }
def k2c1 : Code := { maxStack := 3, maxLocals := 5, code := prog_54_method_2_code, exceptionTable := #[], attributes := #[] }
def k2m1 : Method := { name := "start", desc := "(IIJ)V", sig := { parameters := [.int, .int, .long], returnType := none }, accessFlags := 0, code := some k2c1 }
def k2c2 : Code := { maxStack := 2, maxLocals := 1, code := prog_54_method_3_code, exceptionTable := #[], attributes := #[] }
def k2m2 : Method := { name := "isEmpty", desc := "()Z", sig := { parameters := [], returnType := some .boolean }, accessFlags := 0, code := some k2c2 }
def k2c3 : Code := { maxStack := 3, maxLocals := 1, code := prog_54_method_4_code, exceptionTable := #[], attributes := #[] }
def k2m3 : Method := { name := "skipWhitespace", desc := "()I", sig := { parameters := [], returnType := some .int }, accessFlags := 0, code := some k2c3 }
def k2c4 : Code := { maxStack := 2, maxLocals := 1, code := prog_54_method_35_code, exceptionTable := #[], attributes := #[] }
def k2m4 : Method := { name := "isWhitespace", desc := "(B)Z", sig := { parameters := [.byte], returnType := some .boolean }, accessFlags := 10, code := some k2c4 }
/-- com/example/rolewright/rolewright/io/JsonCursor -/
def k2 : Class := { plain "com/example/rolewright/rolewright/io/JsonCursor" (some 0) with
  accessFlags := 32
  interfaces := #[]
  cf := some (fileOf pool2 8 #[] #[{ accessFlags := 0, nameIndex := 5, descriptorIndex := 328, attributes := #[] }, { accessFlags := 0, nameIndex := 15, descriptorIndex := 331, attributes := #[] }, { accessFlags := 0, nameIndex := 332, descriptorIndex := 283, attributes := #[] }, { accessFlags := 0, nameIndex := 41, descriptorIndex := 42, attributes := #[] }, { accessFlags := 10, nameIndex := 29, descriptorIndex := 30, attributes := #[] }] 32 2 #[] #[{ accessFlags := 26, nameIndex := 258, descriptorIndex := 259, attributes := #[] }, { accessFlags := 26, nameIndex := 325, descriptorIndex := 326, attributes := #[] }, { accessFlags := 18, nameIndex := 11, descriptorIndex := 12, attributes := #[] }, { accessFlags := 2, nameIndex := 15, descriptorIndex := 16, attributes := #[] }, { accessFlags := 2, nameIndex := 19, descriptorIndex := 16, attributes := #[] }, { accessFlags := 2, nameIndex := 22, descriptorIndex := 23, attributes := #[] }, { accessFlags := 2, nameIndex := 26, descriptorIndex := 16, attributes := #[] }])
  fields := #[{ name := "LITERALS", type := (.object "java/util/List"), accessFlags := 26, slot := 0, constantValue := 0 }, { name := "NOT_UTF_8", type := (.object "java/lang/String"), accessFlags := 26, slot := 1, constantValue := 0 }, { name := "bytes", type := (.array .byte), accessFlags := 18, slot := 0, constantValue := 0 }, { name := "start", type := .int, accessFlags := 2, slot := 1, constantValue := 0 }, { name := "limit", type := .int, accessFlags := 2, slot := 2, constantValue := 0 }, { name := "line", type := .long, accessFlags := 2, slot := 3, constantValue := 0 }, { name := "index", type := .int, accessFlags := 2, slot := 4, constantValue := 0 }]
  methods := #[k2m0, k2m1, k2m2, k2m3, k2m4]
  instanceTypes := #[(.array .byte), .int, .int, .long, .int]
  staticTypes := #[(.object "java/util/List"), (.object "java/lang/String")]
  resolved := Array.replicate 385 none
  statics := none }

def pool3 : Array CpInfo := pool [(1, .class_ 2), (0, u "java/lang/Math"), (1, .class_ 6), (1, u "java/lang/Object"), (0, u "<init>"), (0, u "()V"), (89, .class_ 100), (1, u "java/lang/Math$RandomNumberGeneratorHolder"), (71, u "negativeZeroFloatBits"), (0, u "J"), (2, u "negativeZeroDoubleBits"), (24, u "min"), (43, u "$assertionsDisabled"), (0, u "Z"), (88, u "(II)I"), (2, u "twoToTheDoubleScaleDown"), (0, u "D"), (4, u "twoToTheDoubleScaleUp"), (9, u "E"), (3, u "PI"), (2, u "TAU"), (2, u "DEGREES_TO_RADIANS"), (0, u "RADIANS_TO_DEGREES")] 94

def k3m0 : Method := { name := "<init>", desc := "()V", sig := { parameters := [], returnType := none }, accessFlags := 2, code := none }
def k3c1 : Code := { maxStack := 2, maxLocals := 2, code := jdk_29_method_69_code, exceptionTable := #[], attributes := #[] }
def k3m1 : Method := { name := "min", desc := "(II)I", sig := { parameters := [.int, .int], returnType := some .int }, accessFlags := 9, code := some k3c1 }
/-- java/lang/Math -/
def k3 : Class := { plain "java/lang/Math" (some 0) with
  accessFlags := 49
  interfaces := #[]
  cf := some (fileOf pool3 1 #[.nestMembers #[98]] #[{ accessFlags := 2, nameIndex := 7, descriptorIndex := 8, attributes := #[] }, { accessFlags := 9, nameIndex := 201, descriptorIndex := 335, attributes := #[] }] 49 4 #[] #[{ accessFlags := 25, nameIndex := 354, descriptorIndex := 339, attributes := #[] }, { accessFlags := 25, nameIndex := 358, descriptorIndex := 339, attributes := #[] }, { accessFlags := 25, nameIndex := 361, descriptorIndex := 339, attributes := #[] }, { accessFlags := 26, nameIndex := 364, descriptorIndex := 339, attributes := #[] }, { accessFlags := 26, nameIndex := 365, descriptorIndex := 339, attributes := #[] }, { accessFlags := 26, nameIndex := 172, descriptorIndex := 173, attributes := #[] }, { accessFlags := 26, nameIndex := 176, descriptorIndex := 173, attributes := #[] }, { accessFlags := 8, nameIndex := 344, descriptorIndex := 339, attributes := #[] }, { accessFlags := 8, nameIndex := 338, descriptorIndex := 339, attributes := #[] }, { accessFlags := 4120, nameIndex := 245, descriptorIndex := 246, attributes := #[] }])
  fields := #[{ name := "E", type := .double, accessFlags := 25, slot := 0, constantValue := 0 }, { name := "PI", type := .double, accessFlags := 25, slot := 1, constantValue := 0 }, { name := "TAU", type := .double, accessFlags := 25, slot := 2, constantValue := 0 }, { name := "DEGREES_TO_RADIANS", type := .double, accessFlags := 26, slot := 3, constantValue := 0 }, { name := "RADIANS_TO_DEGREES", type := .double, accessFlags := 26, slot := 4, constantValue := 0 }, { name := "negativeZeroFloatBits", type := .long, accessFlags := 26, slot := 5, constantValue := 0 }, { name := "negativeZeroDoubleBits", type := .long, accessFlags := 26, slot := 6, constantValue := 0 }, { name := "twoToTheDoubleScaleUp", type := .double, accessFlags := 8, slot := 7, constantValue := 0 }, { name := "twoToTheDoubleScaleDown", type := .double, accessFlags := 8, slot := 8, constantValue := 0 }, { name := "$assertionsDisabled", type := .boolean, accessFlags := 4120, slot := 9, constantValue := 0 }]
  methods := #[k3m0, k3m1]
  instanceTypes := #[]
  staticTypes := #[.double, .double, .double, .double, .double, .long, .long, .double, .double, .boolean]
  resolved := Array.replicate 460 none
  statics := none }

def pool4 : Array CpInfo := pool [(1, u "java/lang/Cloneable"), (0, .class_ 1), (0, u "java/lang/Object"), (0, .class_ 3)] 3

/-- java/lang/Cloneable -/
def k4 : Class := { plain "java/lang/Cloneable" (some 0) with
  accessFlags := 1537
  interfaces := #[]
  cf := some (fileOf pool4 2 #[] #[] 1537 4 #[] #[])
  fields := #[]
  methods := #[]
  instanceTypes := #[]
  staticTypes := #[]
  resolved := Array.replicate 8 none
  statics := none }

def pool5 : Array CpInfo := pool [(1, u "java/io/Serializable"), (0, .class_ 1), (0, u "java/lang/Object"), (0, .class_ 3)] 3

/-- java/io/Serializable -/
def k5 : Class := { plain "java/io/Serializable" (some 0) with
  accessFlags := 1537
  interfaces := #[]
  cf := some (fileOf pool5 2 #[] #[] 1537 4 #[] #[])
  fields := #[]
  methods := #[]
  instanceTypes := #[]
  staticTypes := #[]
  resolved := Array.replicate 8 none
  statics := none }

/-- the primitive byte -/
def k6 : Class := { plain "byte" none with kind := .primitive 'B', accessFlags := 0x411 }
/-- [B -/
def k7 : Class := { plain "[B" (some 0) with kind := .array 6 .byte, interfaces := #[4, 5], accessFlags := 1041 }

/-- the primitive int -/
def k8 : Class := { plain "int" none with kind := .primitive 'I', accessFlags := 0x411 }
/-- [I -/
def k9 : Class := { plain "[I" (some 0) with kind := .array 8 .int, interfaces := #[4, 5], accessFlags := 1041 }

def heap : Heap := #[]
def classes : Array Class := #[k0, k1, k2, k3, k4, k5, k6, k7, k8, k9]
def interned : List (Array UInt16 × Addr) := []
def slotsUsed : Nat := 0
def theMethod : MethodId := ⟨1, 1⟩
def args0 : Array Value := #[.int 5, .int 3, .int 1, .int 2, .long 4, .int 3]
def aboutOver (below : List Frame) : State where
  vm := { classes := classes, interned := interned.toArray }
  heap := heap
  slotsUsed := slotsUsed
  threads := #[{ frames := .invoking theMethod args0 :: below }]
def below0 : List Frame := [.native { method := ⟨0, 0⟩, args := #[] }]
def about1 : State := aboutOver below0
def p0 : Program := .bare "" "" ""
def e0 : Env := launch0.env 0 0 0
theorem w_frames : about1.frames = Frame.invoking theMethod args0 :: below0 := rfl
set_option maxRecDepth 65536 in
theorem w_args : argsFit about1.vm theMethod args0 = true := by decide +kernel
set_option maxRecDepth 65536 in
theorem w_heap : heapFits about1 = true := by decide +kernel
set_option maxRecDepth 65536 in
theorem w_runnable : about1.curStatus? = some .runnable := by decide +kernel
set_option maxRecDepth 65536 in
theorem w_alone : about1.alone = true := by decide +kernel
set_option maxRecDepth 65536 in
theorem w_named : about1.methodNamed? x = some theMethod := by decide +kernel
set_option maxRecDepth 65536 in
theorem w_hears : about1.hears theMethod below0 = true := by decide +kernel
set_option maxRecDepth 65536 in
theorem w_ripe : about1.ripe theMethod args0 below0 = true := by decide +kernel
theorem w_running : about1.status = .running := rfl
set_option maxRecDepth 65536 in
theorem w_room : about1.hasRoom e0.platform room_1 = true :=
  launch0.hasRoom_least _ room_1 (by decide +kernel) (by decide +kernel) (by decide +kernel) (by decide +kernel) (by decide +kernel) (by decide +kernel)
theorem allAtoms_all (ts : List Jvm.Cond) (a : Array Jvm.Value) (st : Jvm.State) : (allAtoms ts).before a st = ts.all (fun c => c.before a st) := by
  induction ts with
  | nil => rfl
  | cons c t ih =>
    show (Jvm.Cond.and c (allAtoms t)).before a st = _
    rw [Jvm.Cond.before_and, ih, List.all_cons]
def words1 : List Jvm.Cond := Jvm.Cond.code x code maxLocals ret :: tables_1
/-- a 'code' word, met by the world's own term for the bytes: nothing is compared byte by byte -/
theorem code_word {y : MethodName} {bytes : ByteArray} {mx : Nat} {rt : Option FieldType} {a : Array Value} {s : State} {m : MethodId} {meth : Method} {c : Code} (h1 : s.methodNamed? y = some m) (h2 : s.vm.method? m = some meth) (h3 : meth.code = some c) (h4 : c.code = bytes)
    (h5 : (c.maxLocals == mx && c.exceptionTable.isEmpty && decide (c.maxStack ≤ mostOperands) && decide (meth.sig.returnType = rt) && !meth.locks && decide (parseMethodDescriptor y.desc = some meth.sig)) = true) : (Jvm.Cond.code y bytes mx rt).before a s = true := by
  simp only [Bool.and_eq_true, beq_iff_eq, Bool.not_eq_true', decide_eq_true_eq] at h5
  obtain ⟨⟨⟨⟨⟨g1, g2⟩, g3⟩, g4⟩, g5⟩, g6⟩ := h5
  simp [Cond.before, Cond.holds, Cond.value, h1, h2, h3, h4, g1, g2, g3, g4, g5, g6]
def isCode : Jvm.Cond → Bool
  | .code _ _ _ _ => true
  | _ => false
theorem all_split {L : List Jvm.Cond} {P : Jvm.Cond → Bool} (h1 : L.all (fun c => isCode c || P c) = true) (h2 : ∀ c ∈ L.filter isCode, P c = true) : L.all P = true := by
  refine List.all_eq_true.mpr fun c hc => ?_
  have h := List.all_eq_true.mp h1 c hc
  rcases Bool.eq_false_or_eq_true (isCode c) with hi | hi
  · exact h2 c (List.mem_filter.mpr ⟨hc, hi⟩)
  · simpa [hi] using h
set_option maxRecDepth 65536 in
theorem w_c0 : (Jvm.Cond.code x code maxLocals ret).before args0 about1 = true := code_word (m := ⟨1, 1⟩) (meth := k1m1) (c := k1c1) (by decide +kernel) rfl rfl rfl (by decide +kernel)
set_option maxRecDepth 65536 in
theorem w_c1 : (Jvm.Cond.code ({ cls := "com/example/rolewright/rolewright/io/JsonCursor", name := "<init>", desc := "([B)V" } : Jvm.MethodName) prog_54_method_1_code (2 : Nat) (Option.none : Option Jvm.ClassFile.FieldType)).before args0 about1 = true := code_word (m := ⟨2, 0⟩) (meth := k2m0) (c := k2c0) (by decide +kernel) rfl rfl rfl (by decide +kernel)
set_option maxRecDepth 65536 in
theorem w_c2 : (Jvm.Cond.code ({ cls := "java/lang/Object", name := "<init>", desc := "()V" } : Jvm.MethodName) object_method_1_code (1 : Nat) (Option.none : Option Jvm.ClassFile.FieldType)).before args0 about1 = true := code_word (m := ⟨0, 0⟩) (meth := k0m0) (c := k0c0) (by decide +kernel) rfl rfl rfl (by decide +kernel)
set_option maxRecDepth 65536 in
theorem w_c3 : (Jvm.Cond.code ({ cls := "com/example/rolewright/rolewright/io/JsonCursor", name := "isEmpty", desc := "()Z" } : Jvm.MethodName) prog_54_method_3_code (1 : Nat) (Option.some Jvm.ClassFile.FieldType.boolean)).before args0 about1 = true := code_word (m := ⟨2, 2⟩) (meth := k2m2) (c := k2c2) (by decide +kernel) rfl rfl rfl (by decide +kernel)
set_option maxRecDepth 65536 in
theorem w_c4 : (Jvm.Cond.code ({ cls := "com/example/rolewright/rolewright/io/JsonCursor", name := "start", desc := "(IIJ)V" } : Jvm.MethodName) prog_54_method_2_code (5 : Nat) (Option.none : Option Jvm.ClassFile.FieldType)).before args0 about1 = true := code_word (m := ⟨2, 1⟩) (meth := k2m1) (c := k2c1) (by decide +kernel) rfl rfl rfl (by decide +kernel)
set_option maxRecDepth 65536 in
theorem w_c5 : (Jvm.Cond.code ({ cls := "java/lang/Math", name := "min", desc := "(II)I" } : Jvm.MethodName) jdk_29_method_69_code (2 : Nat) (Option.some Jvm.ClassFile.FieldType.int)).before args0 about1 = true := code_word (m := ⟨3, 1⟩) (meth := k3m1) (c := k3c1) (by decide +kernel) rfl rfl rfl (by decide +kernel)
set_option maxRecDepth 65536 in
theorem w_c6 : (Jvm.Cond.code ({ cls := "com/example/rolewright/rolewright/io/JsonCursor", name := "skipWhitespace", desc := "()I" } : Jvm.MethodName) prog_54_method_4_code (1 : Nat) (Option.some Jvm.ClassFile.FieldType.int)).before args0 about1 = true := code_word (m := ⟨2, 3⟩) (meth := k2m3) (c := k2c3) (by decide +kernel) rfl rfl rfl (by decide +kernel)
set_option maxRecDepth 65536 in
theorem w_c7 : (Jvm.Cond.code ({ cls := "com/example/rolewright/rolewright/io/JsonCursor", name := "isWhitespace", desc := "(B)Z" } : Jvm.MethodName) prog_54_method_35_code (1 : Nat) (Option.some Jvm.ClassFile.FieldType.boolean)).before args0 about1 = true := code_word (m := ⟨2, 4⟩) (meth := k2m4) (c := k2c4) (by decide +kernel) rfl rfl rfl (by decide +kernel)
def codes1 : List Jvm.Cond := [Jvm.Cond.code x code maxLocals ret, Jvm.Cond.code ({ cls := "com/example/rolewright/rolewright/io/JsonCursor", name := "<init>", desc := "([B)V" } : Jvm.MethodName) prog_54_method_1_code (2 : Nat) (Option.none : Option Jvm.ClassFile.FieldType), Jvm.Cond.code ({ cls := "java/lang/Object", name := "<init>", desc := "()V" } : Jvm.MethodName) object_method_1_code (1 : Nat) (Option.none : Option Jvm.ClassFile.FieldType), Jvm.Cond.code ({ cls := "com/example/rolewright/rolewright/io/JsonCursor", name := "isEmpty", desc := "()Z" } : Jvm.MethodName) prog_54_method_3_code (1 : Nat) (Option.some Jvm.ClassFile.FieldType.boolean), Jvm.Cond.code ({ cls := "com/example/rolewright/rolewright/io/JsonCursor", name := "start", desc := "(IIJ)V" } : Jvm.MethodName) prog_54_method_2_code (5 : Nat) (Option.none : Option Jvm.ClassFile.FieldType), Jvm.Cond.code ({ cls := "java/lang/Math", name := "min", desc := "(II)I" } : Jvm.MethodName) jdk_29_method_69_code (2 : Nat) (Option.some Jvm.ClassFile.FieldType.int), Jvm.Cond.code ({ cls := "com/example/rolewright/rolewright/io/JsonCursor", name := "skipWhitespace", desc := "()I" } : Jvm.MethodName) prog_54_method_4_code (1 : Nat) (Option.some Jvm.ClassFile.FieldType.int), Jvm.Cond.code ({ cls := "com/example/rolewright/rolewright/io/JsonCursor", name := "isWhitespace", desc := "(B)Z" } : Jvm.MethodName) prog_54_method_35_code (1 : Nat) (Option.some Jvm.ClassFile.FieldType.boolean)]
set_option maxRecDepth 65536 in
theorem codes_eq : words1.filter isCode = codes1 := rfl
theorem w_codes : ∀ c ∈ words1.filter isCode, c.before args0 about1 = true := by
  rw [codes_eq]
  intro c hc
  simp only [codes1, List.mem_cons, List.not_mem_nil, or_false] at hc
  rcases hc with rfl | rfl | rfl | rfl | rfl | rfl | rfl | rfl
  · exact w_c0
  · exact w_c1
  · exact w_c2
  · exact w_c3
  · exact w_c4
  · exact w_c5
  · exact w_c6
  · exact w_c7
set_option maxRecDepth 65536 in
theorem w_t1 : (words1.take 24).all (fun c => isCode c || c.before args0 about1) = true := by decide +kernel
set_option maxRecDepth 65536 in
theorem w_t2 : (words1.drop 24).all (fun c => isCode c || c.before args0 about1) = true := by decide +kernel
theorem w_tables : (allAtoms (Jvm.Cond.code x code maxLocals ret :: tables_1)).before args0 about1 = true := by
  rw [allAtoms_all]
  show words1.all (fun c => c.before args0 about1) = true
  refine all_split ?_ w_codes
  rw [← List.take_append_drop 24 words1, List.all_append, w_t1, w_t2]
  rfl
set_option maxRecDepth 65536 in
theorem w_case : (Jvm.Cond.and given_1 narrow_1).before args0 about1 = true := by decide +kernel
theorem w_applies : (headSpec (Jvm.Cond.code x code maxLocals ret :: tables_1) room_1).applies x e0.platform about1 = true :=
  (Spec.applies_iff w_frames).mpr ⟨w_running, w_runnable, w_alone, w_named, w_hears, w_ripe, w_room, w_tables⟩
theorem atStart : AtStart classFile x code maxLocals ret World_1 tables_1 room_1 Calls_1 rest_1 Pre_1 launch0 p0 e0 about1 theMethod args0 below0 :=
  ⟨lists_1, trivial, launch0.admits_env _ _ _, launch0.least_env, fairChoices_fair.cas, fairChoices_fair.clock, w_frames, w_args, w_heap, w_applies, trivial, trivial, w_case⟩
end start1
theorem witness_1 : WitnessClaimed_1 := ⟨start1.p0, start1.e0, start1.about1, start1.theMethod, start1.args0, start1.below0, start1.atStart⟩
end Jvm.Pilot.@@N@@
