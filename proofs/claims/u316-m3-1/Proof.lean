import JvmDerived
import JvmDerived.Pilot.@@N@@Statement
import JvmDerived.Pilot.@@N@@Code
set_option linter.unusedVariables false
set_option linter.unusedSimpArgs false
namespace Jvm.RoadKit
open Sem ClassFile Op Lib Jvm.Stand Jvm.Free Jvm.LawKit
section New
variable {p : Program} {l : Launch} {e : Env} {R : Room} {s : State} {m : MethodId} {args : Array Value} {below : List Frame} {meth : Method} {c : Code} {T : State} {locs : List Loc} {cells slots : Nat}
theorem retI (X : Stand p l e R s m args below meth c T locs cells slots) (hx : p.tables.exec = Jvm.exec) {pc : Nat} {Ls : Array Slot} {z : Int32} {rest : List Value} (hret : meth.sig.returnType = some .int) (hd : decode c.code pc = .ok (.ireturn, 1)) {fs : List Frame}
    (hl : ∀ (f : JFrame) (acts : List Action), f.method = m → f.locked = none → f.entered = [] → (doReturn e (T.setTop f) acts (some (.int z))).1 = T.setFrames fs) : Steps p.tables e below (T.setTop (mkF m pc Ls (.int z :: rest))) (T.setFrames fs) := by
  have hm' : T.vm.method? m = some meth := X.method'
  have hn : narrow .int (.int z) = .int z := rfl
  show Steps p.tables e below (T.setTop { method := m, pc := pc, locals := Ls, stack := _ :: rest, locked := none }) _
  jvm_step X.here [X.here.top, hx, hd, hm', hret, hn]
  first | (intro acts; rw [hl _ acts rfl rfl rfl]) | rw [hl _ _ rfl rfl rfl]
  exact Steps.refl _
end New
end Jvm.RoadKit
namespace Jvm.Pilot.@@N@@
open Jvm Jvm.ClassFile Sem Op Lib Jvm.Free Jvm.Stand Jvm.LawKit Jvm.RoadKit Bundle Jvm.Pilot.@@N@@.Jvm.D
/-! 0. the walk's goal: from the state S the body ends, and Q says what it leaves -/
def own_G (p : Program) (e : Env) (below : List Frame) (s : State) (Q : Option Value → Heap → List Loc → Prop) (k n : Nat) (S : State) : Prop :=
  ∃ s₂ o, Steps p.tables e below S s₂ ∧ s₂.status = .running ∧ Ended s₂ below o ∧ ∃ v L, o = .returned v ∧ Q v s₂.heap L ∧ FrameEnd s o s₂ L k n
theorem own_go {p : Program} {e : Env} {below : List Frame} {s : State} {Q : Option Value → Heap → List Loc → Prop} {k n : Nat} {S S' : State} (h : ∀ t, Steps p.tables e below S' t → Steps p.tables e below S t) (g : own_G p e below s Q k n S') : own_G p e below s Q k n S := by
  obtain ⟨t, o, h1, h2⟩ := g
  exact ⟨t, o, h t h1, h2⟩
theorem own_G0 {p : Program} {e : Env} {below : List Frame} {s : State} {Q : Option Value → Heap → List Loc → Prop} {k n : Nat} {S : State} (g : own_G p e below s Q k n S) :
    ∃ s₂ o, Steps p.tables e below S s₂ ∧ s₂.status = .running ∧ Ended s₂ below o ∧ ∃ v L, o = .returned v ∧ Q v s₂.heap L ∧ FrameEnd s o s₂ L k n := g
/-- a body that writes nothing and returns r -/
def own_Q (r : Option Value) (h0 : Heap) (v : Option Value) (h : Heap) (L : List Loc) : Prop := v = r ∧ L = [] ∧ h = h0
/-- Java's x % y, x >>> y on ints and longs, (char) x -/
def own_rem (x y : Int32) : Int32 := x - (x / y) * y
def own_us (x y : Int32) : Int32 := (x.toUInt32 >>> (y &&& 31).toUInt32).toInt32
def own_usL (x : Int64) (y : Int32) : Int64 := (x.toUInt64 >>> (y &&& 0x3f).toInt64.toUInt64).toInt64
def own_c (x : Int32) : Int32 := x.toUInt32.toUInt16.toUInt32.toInt32
theorem own_eq {p : Program} {e : Env} {below : List Frame} {s : State} {h0 : Heap} {k n : Nat} {S : State} {a b : Int32} (h : a = b) (g : own_G p e below s (own_Q (some (.int b)) h0) k n S) : own_G p e below s (own_Q (some (.int a)) h0) k n S := h ▸ g
section Own
variable {p : Program} {l : Launch} {e : Env} {R : Room} {s : State} {m : MethodId} {args : Array Value} {below : List Frame} {meth : Method} {c : Code} {T : State} {locs : List Loc} {cells slots : Nat} {Q : Option Value → Heap → List Loc → Prop} {k n : Nat}
theorem own_retI (X : Stand p l e R s m args below meth c T locs cells slots) (hx : p.tables.exec = Jvm.exec) (hlk : meth.locks = false) {pc : Nat} {Ls : Array Slot} {z : Int32} {rest : List Value} (hret : meth.sig.returnType = some .int) (hd : decode c.code pc = .ok (.ireturn, 1)) (hc : cells ≤ k) (hs : slots ≤ n) (hq : Q (some (.int z)) T.heap locs) :
    own_G p e below s Q k n (T.setTop (mkF m pc Ls (.int z :: rest))) := by
  obtain ⟨fs, hr, hrun, hended, hW, hsame⟩ := X.leave (v := some (.int z)) (fun h => by rw [hret] at h; cases h) hlk
  exact ⟨_, _, retI X hx hret hd hr, hrun, hended, _, _, rfl, hq, ⟨_, rfl⟩, hW, hsame.mono hc hs⟩
theorem own_retN (X : Stand p l e R s m args below meth c T locs cells slots) (hx : p.tables.exec = Jvm.exec) (hlk : meth.locks = false) {pc : Nat} {Ls : Array Slot} {z : Int32} {t : FieldType} {rest : List Value} (hret : meth.sig.returnType = some t) (ht : t = .boolean ∨ t = .byte ∨ t = .char ∨ t = .short) (hd : decode c.code pc = .ok (.ireturn, 1)) (hc : cells ≤ k) (hs : slots ≤ n) (hq : Q (some (.int (nar t z))) T.heap locs) :
    own_G p e below s Q k n (T.setTop (mkF m pc Ls (.int z :: rest))) := by
  obtain ⟨fs, hr, hrun, hended, hW, hsame⟩ := X.leave (v := some (.int (nar t z))) (fun h => by rw [hret] at h; cases h) hlk
  exact ⟨_, _, retN X hx hret ht hd hr, hrun, hended, _, _, rfl, hq, ⟨_, rfl⟩, hW, hsame.mono hc hs⟩
theorem own_retJ (X : Stand p l e R s m args below meth c T locs cells slots) (hx : p.tables.exec = Jvm.exec) (hlk : meth.locks = false) {pc : Nat} {Ls : Array Slot} {z : Int64} (hret : meth.sig.returnType = some .long) (hd : decode c.code pc = .ok (.lreturn, 1)) (hc : cells ≤ k) (hs : slots ≤ n) (hq : Q (some (.long z)) T.heap locs) :
    own_G p e below s Q k n (T.setTop (mkF m pc Ls [.long z])) := by
  obtain ⟨fs, hr, hrun, hended, hW, hsame⟩ := X.leave (v := some (.long z)) (fun h => by rw [hret] at h; cases h) hlk
  exact ⟨_, _, X.lreturnOut hx hret hd hr, hrun, hended, _, _, rfl, hq, ⟨_, rfl⟩, hW, hsame.mono hc hs⟩
theorem own_retA (X : Stand p l e R s m args below meth c T locs cells slots) (hx : p.tables.exec = Jvm.exec) (hlk : meth.locks = false) {pc : Nat} {Ls : Array Slot} {w : Value} {t : FieldType} (hw : w.isRef = true) (hret : meth.sig.returnType = some t) (ht : t.isReference = true) (hd : decode c.code pc = .ok (.areturn, 1)) (hc : cells ≤ k) (hs : slots ≤ n) (hq : Q (some w) T.heap locs) :
    own_G p e below s Q k n (T.setTop (mkF m pc Ls [w])) := by
  obtain ⟨fs, hr, hrun, hended, hW, hsame⟩ := X.leave (v := some w) (fun h => by rw [hret] at h; cases h) hlk
  exact ⟨_, _, X.areturnOut hx hw hret ht hd hr, hrun, hended, _, _, rfl, hq, ⟨_, rfl⟩, hW, hsame.mono hc hs⟩
theorem own_retV (X : Stand p l e R s m args below meth c T locs cells slots) (hx : p.tables.exec = Jvm.exec) (hlk : meth.locks = false) {pc : Nat} {Ls : Array Slot} (hret : meth.sig.returnType = none) (hd : decode c.code pc = .ok (.return_, 1)) (hc : cells ≤ k) (hs : slots ≤ n) (hq : Q none T.heap locs) :
    own_G p e below s Q k n (T.setTop (mkF m pc Ls [])) := by
  obtain ⟨fs, hr, hrun, hended, hW, hsame⟩ := X.leave (v := none) (fun _ => rfl) hlk
  exact ⟨_, _, X.returnOut hx hret hd hr, hrun, hended, _, _, rfl, hq, ⟨_, rfl⟩, hW, hsame.mono hc hs⟩
/-- a static call of a body that writes nothing -/
theorem own_call (X : Stand p l e R s m args below meth c T locs cells slots) (hx : p.tables.exec = Jvm.exec) {Z : State} (hZ : Z.Warmed39 s.vm) {a0 : Array Value} {own : String} {index : Nat} {y : MethodName} {bytes : ByteArray} {maxL : Nat} {ret : Option FieldType} {rm : Room} (hown : s.vm.findClass own = some m.cls)
    (w1 : (Cond.methodLink own index y).before a0 Z = true) (w2 : (Cond.static y).before a0 Z = true) (w3 : (Cond.initialized y.cls).before a0 Z = true) (w4 : (Cond.code y bytes maxL ret).before a0 Z = true) (hy : y.cls ≠ "java/lang/invoke/MethodHandle" ∧ y.cls ≠ "java/lang/invoke/VarHandle")
    {as' : Array Value} {h : Heap} {r : Option Value} (hM : MetFree l y (head1 [Cond.code y bytes maxL ret] rm) (fun a U => a = as' ∧ Z.Warmed39 U.vm ∧ U.heap = h) (fun _ _ _ _ _ => True) (fun _ U o U' => ∃ v L, o = .returned v ∧ own_Q r h v U'.heap L ∧ FrameEnd U o U' L rm.cells rm.slots)) (hc0 : rm.cells = 0) (hs0 : rm.slots = 0) (eT : T.heap = h)
    {W : Nat} (hf : rm.frames + 1 ≤ R.frames) (hl : W + (maxL + 11) + rm.locals ≤ R.locals) (hcR : cells ≤ R.cells) (hsR : slots ≤ R.slots) {g : JFrame} (hg : g.method = m) (hsize : g.locals.size = c.maxLocals) {argsL rest : List Value} (hlen : ∀ sig, parseMethodDescriptor y.desc = some sig → argsL.length = sig.parameters.length) (has : argsL.toArray = as') (hstack : g.stack = argsL.reverse ++ rest)
    (hW : 2 * g.monitorRoom + (rest.map fun v => v.category).sum ≤ W) (hdg : decode c.code g.pc = .ok (.invokestatic index, 3)) :
    ∃ T', Stand p l e R s m args below meth c T' locs cells slots ∧ T'.heap = h ∧ ∀ t, Steps p.tables e below (T'.setTop { g with pc := g.pc + 3, stack := r.toList ++ rest }) t → Steps p.tables e below (T.setTop g) t := by
  obtain ⟨_, _, ⟨T2, L2, k2, n2⟩, -, X2, ⟨Lc2, hQ2, l2, y2, z2⟩, st2⟩ := Jvm.LawKit.callS X hx hown (mvT hZ w1) (mvT hZ w2) (mvT hZ w3) (mvT hZ w4) hy (backOf (W := W) hM hZ w4 w3 hf hl) hg hsize hlen hstack hW hdg (fun _ _ => ⟨has, eT, (by show cells + rm.cells ≤ R.cells; rw [hc0]; exact hcR), (by show slots + rm.slots ≤ R.slots; rw [hs0]; exact hsR)⟩)
  dsimp only [Pt.U, Pt.locs, Pt.cells, Pt.slots] at X2 l2 y2 z2 st2 hQ2
  obtain ⟨rfl, rfl, e2⟩ := hQ2
  rw [hc0] at y2
  rw [hs0] at z2
  rw [List.append_nil] at l2
  subst l2 y2 z2
  exact ⟨T2, X2, e2, st2⟩
end Own

def own_QF (r : Option Value) (n0 : Nat) (v : Option Value) (h : Heap) (L : List Loc) : Prop := v = r ∧ Fr n0 L
theorem own_eqF {p : Program} {e : Env} {below : List Frame} {s : State} {n0 : Nat} {k n : Nat} {S : State} {a b : Int32} (h : a = b) (g : own_G p e below s (own_QF (some (.int b)) n0) k n S) : own_G p e below s (own_QF (some (.int a)) n0) k n S := h ▸ g
/-! arrays: at a stands an array of n values, the j-th f j -/
def own_A (Z : State) (h : Heap) (a : Addr) (ty : FieldType) (n : Int32) (f : Int32 → Int32) : Prop :=
  ∃ c : Cell, Arr Z h a c ty ∧ c.slots.size = n.toNatClampNeg ∧ ¬ n < 0 ∧ ∀ j : Int32, ¬ j < 0 → j < n → c.slots[j.toNatClampNeg]? = some (.int (f j))
def own_set (f : Int32 → Int32) (j v : Int32) (i : Int32) : Int32 := if i = j then v else f i
theorem own_clamp {j n : Int32} (h0 : ¬ j < 0) (h1 : j < n) : j.toNatClampNeg < n.toNatClampNeg := by
  rw [Int32.lt_iff_toInt_lt] at h0 h1
  have : (0 : Int32).toInt = 0 := rfl
  show j.toInt.toNat < n.toInt.toNat
  omega
theorem own_clinj {i j : Int32} (h0 : ¬ i < 0) (h1 : ¬ j < 0) (h : i.toNatClampNeg = j.toNatClampNeg) : i = j := by
  rw [Int32.lt_iff_toInt_lt] at h0 h1
  have z : (0 : Int32).toInt = 0 := rfl
  have e : i.toInt.toNat = j.toInt.toNat := h
  apply Int32.toInt_inj.mp
  omega
theorem own_A_new {Z : State} {h : Heap} {a : Addr} {k : ClassId} {ty : FieldType} {n : Int32} (A : Arr Z h a (newA k ty n) ty) (q : ¬ n < 0) (hd : defaultValue ty = .int 0) : own_A Z h a ty n (fun _ => 0) := by
  obtain ⟨c, h1, -, h3, h4, h5, -⟩ := Arv.new A q
  refine ⟨c, h1, h3, q, fun j h0 hj => ?_⟩
  have := h5 j.toNatClampNeg (by rw [h3]; exact own_clamp h0 hj)
  rw [this, hd]
  rfl
theorem own_A_set {Z : State} {h h' : Heap} {a : Addr} {ty : FieldType} {n j v : Int32} {f : Int32 → Int32} (A : own_A Z h a ty n f) (h0 : ¬ j < 0) (h1 : j < n) (W : Wr h h' a j.toNatClampNeg (.int v)) : own_A Z h' a ty n (own_set f j v) := by
  obtain ⟨c, A1, A2, A3, A4⟩ := A
  refine ⟨_, A1.same W, by rw [← A2]; simp [Cell.setSlot], A3, fun i i0 i1 => ?_⟩
  show (c.slots.setIfInBounds j.toNatClampNeg (.int v))[i.toNatClampNeg]? = _
  by_cases e : i = j
  · subst e
    rw [Array.getElem?_setIfInBounds_self_of_lt (by rw [A2]; exact own_clamp h0 h1)]
    simp [own_set]
  · rw [Array.getElem?_setIfInBounds_ne (fun q => e (own_clinj i0 h0 q.symm)), A4 i i0 i1]
    simp [own_set, e]
theorem own_A_other {Z : State} {h h' : Heap} {a b : Addr} {ty : FieldType} {n : Int32} {f : Int32 → Int32} {sl : Nat} {v : Value} (A : own_A Z h a ty n f) (W : Wr h h' b sl v) (q : a ≠ b) : own_A Z h' a ty n f := by
  obtain ⟨c, A1, A2⟩ := A
  exact ⟨c, A1.other W q, A2⟩
theorem own_A_ext {Z : State} {h h' : Heap} {a : Addr} {ty : FieldType} {n : Int32} {f : Int32 → Int32} (A : own_A Z h a ty n f) (E : Ext h h') : own_A Z h' a ty n f := by
  obtain ⟨c, A1, A2⟩ := A
  exact ⟨c, A1.ext E, A2⟩
theorem own_A_lt {Z : State} {h : Heap} {a : Addr} {ty : FieldType} {n : Int32} {f : Int32 → Int32} (A : own_A Z h a ty n f) : a < h.size := by
  obtain ⟨c, A1, A2⟩ := A
  exact A1.lt
section OwnA
variable {p : Program} {l : Launch} {e : Env} {R : Room} {s : State} {m : MethodId} {args : Array Value} {below : List Frame} {meth : Method} {c : Code} {T : State} {locs : List Loc} {cells slots : Nat} {Z : State} {h : Heap} {n0 : Nat}
theorem own_new (X : Stand p l e R s m args below meth c T locs cells slots) (hx : p.tables.exec = Jvm.exec) (hZ : Z.Warmed39 s.vm) {a0 : Array Value} {aty : ArrayType} (w : (Cond.arrayClass (newarray.typeOf aty)).before a0 Z = true) (eT : T.heap = h) (hn0 : n0 ≤ h.size) (hdv : defaultValue (newarray.typeOf aty) = .int 0) {g : JFrame} (hg : g.method = m) (hd : decode c.code g.pc = .ok (.newarray aty, 2)) {n : Int32} {rest : List Value} (hs : g.stack = .int n :: rest)
    (hn : ¬ n < 0) {cap : Nat} (hcap : n.toNatClampNeg ≤ cap) (hb : cap * 8 ≤ 536870912) (hc : cells + 1 ≤ R.cells) (hl : slots + cap ≤ R.slots) :
    ∃ T' h' a, Stand p l e R s m args below meth c T' locs (cells + 1) (slots + cap) ∧ T'.heap = h' ∧ Ext h h' ∧ a = h.size ∧ n0 ≤ a ∧ own_A Z h' a (newarray.typeOf aty) n (fun _ => 0) ∧
      ∀ target, Steps p.tables e below (T'.setTop { g with pc := g.pc + 2, stack := .ref a :: rest }) target → Steps p.tables e below (T.setTop g) target := by
  obtain ⟨T', h', cA, X', e', E', A', st⟩ := newP X hx hZ w eT hg hd hs hn hcap hb hc hl
  exact ⟨T', h', h.size, X', e', E', rfl, hn0, own_A_new A' hn hdv, st⟩
theorem own_stC (X : Stand p l e R s m args below meth c T locs cells slots) (hx : p.tables.exec = Jvm.exec) (hZ : Z.Warmed39 s.vm) (eT : T.heap = h) {a : Addr} {n : Int32} {f : Int32 → Int32} (A : own_A Z h a .char n f) (N : Fr n0 locs) (ha : n0 ≤ a) {j x : Int32} (h0 : ¬ j < 0) (h1 : j < n) {g : JFrame} (hg : g.method = m) {rest : List Value} (hs : g.stack = .int x :: .int j :: .ref a :: rest) (hd : decode c.code g.pc = .ok (.castore, 1)) :
    ∃ T' h' locs', Stand p l e R s m args below meth c T' locs' cells slots ∧ T'.heap = h' ∧ Fr n0 locs' ∧ own_A Z h' a .char n (own_set f j (nar .char x)) ∧ Wr h h' a j.toNatClampNeg (.int (nar .char x)) ∧
      ∀ target, Steps p.tables e below (T'.setTop { g with pc := g.pc + 1, stack := rest }) target → Steps p.tables e below (T.setTop g) target := by
  obtain ⟨cl, Ar, Sz, Hn, Hf⟩ := A
  obtain ⟨T', h', X', e', W', st⟩ := stC X hx hZ eT Ar (inb_of Sz ⟨h0, h1⟩) hg hs hd
  exact ⟨T', h', _, X', e', Fr.snoc X' N ha, own_A_set ⟨cl, Ar, Sz, Hn, Hf⟩ h0 h1 W', W', st⟩
theorem own_stI (X : Stand p l e R s m args below meth c T locs cells slots) (hx : p.tables.exec = Jvm.exec) (hZ : Z.Warmed39 s.vm) (eT : T.heap = h) {a : Addr} {n : Int32} {f : Int32 → Int32} (A : own_A Z h a .int n f) (N : Fr n0 locs) (ha : n0 ≤ a) {j x : Int32} (h0 : ¬ j < 0) (h1 : j < n) {g : JFrame} (hg : g.method = m) {rest : List Value} (hs : g.stack = .int x :: .int j :: .ref a :: rest) (hd : decode c.code g.pc = .ok (.iastore, 1)) :
    ∃ T' h' locs', Stand p l e R s m args below meth c T' locs' cells slots ∧ T'.heap = h' ∧ Fr n0 locs' ∧ own_A Z h' a .int n (own_set f j x) ∧ Wr h h' a j.toNatClampNeg (.int x) ∧
      ∀ target, Steps p.tables e below (T'.setTop { g with pc := g.pc + 1, stack := rest }) target → Steps p.tables e below (T.setTop g) target := by
  obtain ⟨cl, Ar, Sz, Hn, Hf⟩ := A
  obtain ⟨T', h', X', e', W', st⟩ := stI X hx hZ eT Ar (inb_of Sz ⟨h0, h1⟩) hg hs hd
  exact ⟨T', h', _, X', e', Fr.snoc X' N ha, own_A_set ⟨cl, Ar, Sz, Hn, Hf⟩ h0 h1 W', W', st⟩
theorem own_stB (X : Stand p l e R s m args below meth c T locs cells slots) (hx : p.tables.exec = Jvm.exec) (hZ : Z.Warmed39 s.vm) (eT : T.heap = h) {a : Addr} {n : Int32} {f : Int32 → Int32} (A : own_A Z h a .byte n f) (N : Fr n0 locs) (ha : n0 ≤ a) {j x : Int32} (h0 : ¬ j < 0) (h1 : j < n) {g : JFrame} (hg : g.method = m) {rest : List Value} (hs : g.stack = .int x :: .int j :: .ref a :: rest) (hd : decode c.code g.pc = .ok (.bastore, 1)) :
    ∃ T' h' locs', Stand p l e R s m args below meth c T' locs' cells slots ∧ T'.heap = h' ∧ Fr n0 locs' ∧ own_A Z h' a .byte n (own_set f j (nar .byte x)) ∧ Wr h h' a j.toNatClampNeg (.int (nar .byte x)) ∧
      ∀ target, Steps p.tables e below (T'.setTop { g with pc := g.pc + 1, stack := rest }) target → Steps p.tables e below (T.setTop g) target := by
  obtain ⟨cl, Ar, Sz, Hn, Hf⟩ := A
  obtain ⟨T', h', X', e', W', st⟩ := stB X hx hZ eT Ar (inb_of Sz ⟨h0, h1⟩) hg hs hd
  exact ⟨T', h', _, X', e', Fr.snoc X' N ha, own_A_set ⟨cl, Ar, Sz, Hn, Hf⟩ h0 h1 W', W', st⟩
theorem own_ldC (X : Stand p l e R s m args below meth c T locs cells slots) (hx : p.tables.exec = Jvm.exec) (hZ : Z.Warmed39 s.vm) (eT : T.heap = h) {a : Addr} {n : Int32} {f : Int32 → Int32} (A : own_A Z h a .char n f) {j : Int32} (h0 : ¬ j < 0) (h1 : j < n) {g : JFrame} (hg : g.method = m) {rest : List Value} (hs : g.stack = .int j :: .ref a :: rest) (hd : decode c.code g.pc = .ok (.caload, 1)) :
    ∀ target, Steps p.tables e below (T.setTop { g with pc := g.pc + 1, stack := .int (f j) :: rest }) target → Steps p.tables e below (T.setTop g) target := by
  obtain ⟨cl, Ar, Sz, Hn, Hf⟩ := A
  exact fun t k => X.caload hx (j := j) (v := .int (f j)) (by rw [eT]; exact Ar.1) (State.isArrayOf_alike hZ.alike Ar.2.1) Ar.2.2 (inb_of Sz ⟨h0, h1⟩) (Hf j h0 h1) hg hs hd t k
theorem own_ldI (X : Stand p l e R s m args below meth c T locs cells slots) (hx : p.tables.exec = Jvm.exec) (hZ : Z.Warmed39 s.vm) (eT : T.heap = h) {a : Addr} {n : Int32} {f : Int32 → Int32} (A : own_A Z h a .int n f) {j : Int32} (h0 : ¬ j < 0) (h1 : j < n) {g : JFrame} (hg : g.method = m) {rest : List Value} (hs : g.stack = .int j :: .ref a :: rest) (hd : decode c.code g.pc = .ok (.iaload, 1)) :
    ∀ target, Steps p.tables e below (T.setTop { g with pc := g.pc + 1, stack := .int (f j) :: rest }) target → Steps p.tables e below (T.setTop g) target := by
  obtain ⟨cl, Ar, Sz, Hn, Hf⟩ := A
  exact fun t k => X.iaload hx (j := j) (v := .int (f j)) (by rw [eT]; exact Ar.1) (State.isArrayOf_alike hZ.alike Ar.2.1) Ar.2.2 (inb_of Sz ⟨h0, h1⟩) (Hf j h0 h1) hg hs hd t k
theorem own_ldB (X : Stand p l e R s m args below meth c T locs cells slots) (hx : p.tables.exec = Jvm.exec) (hZ : Z.Warmed39 s.vm) (eT : T.heap = h) {a : Addr} {n : Int32} {f : Int32 → Int32} (A : own_A Z h a .byte n f) {j : Int32} (h0 : ¬ j < 0) (h1 : j < n) {g : JFrame} (hg : g.method = m) {rest : List Value} (hs : g.stack = .int j :: .ref a :: rest) (hd : decode c.code g.pc = .ok (.baload, 1)) :
    ∀ target, Steps p.tables e below (T.setTop { g with pc := g.pc + 1, stack := .int (f j) :: rest }) target → Steps p.tables e below (T.setTop g) target := by
  obtain ⟨cl, Ar, Sz, Hn, Hf⟩ := A
  exact fun t k => X.baloadBytes hx (j := j) (v := .int (f j)) (by rw [eT]; exact Ar.1) (State.isArrayOf_alike hZ.alike Ar.2.1) Ar.2.2 (inb_of Sz ⟨h0, h1⟩) (Hf j h0 h1) hg hs hd t k
theorem own_len (X : Stand p l e R s m args below meth c T locs cells slots) (hx : p.tables.exec = Jvm.exec) (hZ : Z.Warmed39 s.vm) (eT : T.heap = h) {a : Addr} {ty : FieldType} {n : Int32} {f : Int32 → Int32} (A : own_A Z h a ty n f) {g : JFrame} (hg : g.method = m) {rest : List Value} (hs : g.stack = .ref a :: rest) (hd : decode c.code g.pc = .ok (.arraylength, 1)) :
    ∀ target, Steps p.tables e below (T.setTop { g with pc := g.pc + 1, stack := .int n :: rest }) target → Steps p.tables e below (T.setTop g) target := by
  obtain ⟨cl, Ar, Sz, Hn, Hf⟩ := A
  intro t k
  refine X.arraylength hx (by rw [eT]; exact Ar.1) (State.isArrayOf_alike hZ.alike Ar.2.1) hg hs hd t ?_
  rw [len_of Sz Hn]
  exact k
end OwnA

/-! calls that write: what they return, that nothing old was written, and what P says of the heap they leave -/
def own_QE (r : Option Value) (n0 : Nat) (P : Heap → Prop) (v : Option Value) (h : Heap) (L : List Loc) : Prop := v = r ∧ Fr n0 L ∧ P h
section OwnO
variable {p : Program} {l : Launch} {e : Env} {R : Room} {s : State} {m : MethodId} {args : Array Value} {below : List Frame} {meth : Method} {c : Code} {T : State} {locs : List Loc} {cells slots : Nat} {Z : State} {h : Heap} {n0 : Nat} {a0 : Array Value}
theorem own_newO (X : Stand p l e R s m args below meth c T locs cells slots) (hx : p.tables.exec = Jvm.exec) (hZ : Z.Warmed39 s.vm) {own C : String} {index n : Nat} (hown : s.vm.findClass own = some m.cls) (w : (Cond.classLink own index C).before a0 Z = true) (wi : (Cond.instantiable C n).before a0 Z = true) (wz : (Cond.initialized C).before a0 Z = true) (eT : T.heap = h) (hn0 : n0 ≤ h.size)
    {g : JFrame} (hg : g.method = m) (hd : decode c.code g.pc = .ok (.new index, 3)) (hc : cells + 1 ≤ R.cells) (hl : slots + n ≤ R.slots) :
    ∃ T' h' a, Stand p l e R s m args below meth c T' locs (cells + 1) (slots + n) ∧ T'.heap = h' ∧ Ext h h' ∧ a = h.size ∧ n0 ≤ a ∧ n0 ≤ h'.size ∧ Exa Z h' a C ∧ (∀ {O nm d : String} {ty : FieldType}, Laid Z a0 C O nm d → parseFieldDescriptor d = some ty → Fld Z h' a O nm d (defaultValue ty)) ∧
      ∀ target, Steps p.tables e below (T'.setTop { g with pc := g.pc + 3, stack := .ref a :: g.stack }) target → Steps p.tables e below (T.setTop g) target := by
  obtain ⟨T', h', X', e', E', A', D', -, st⟩ := newO X hx hZ hown w wi wz eT hg hd hc hl
  exact ⟨T', h', h.size, X', e', E', rfl, hn0, Nat.le_trans hn0 E'.1, A', D', st⟩
theorem own_callI (X : Stand p l e R s m args below meth c T locs cells slots) (hx : p.tables.exec = Jvm.exec) (hZ : Z.Warmed39 s.vm) {own : String} {index : Nat} {y : MethodName} {bytes : ByteArray} {maxL : Nat} {rm : Room} (hy1 : y.name = "<init>") (hown : s.vm.findClass own = some m.cls)
    (w1 : (Cond.methodLink own index y).before a0 Z = true) (w2 : (Cond.instanceMethod y).before a0 Z = true) (w3 : (Cond.code y bytes maxL none).before a0 Z = true) (w4 : (Cond.initialized y.cls).before a0 Z = true) (hy : y.cls ≠ "java/lang/invoke/MethodHandle" ∧ y.cls ≠ "java/lang/invoke/VarHandle")
    {as' : Array Value} {P : Heap → Prop} (hM : MetFree l y (head1 [Cond.code y bytes maxL none] rm) (fun a U => a = as' ∧ Z.Warmed39 U.vm ∧ U.heap = h) (fun _ _ _ _ _ => True) (fun _ U o U' => ∃ v L, o = .returned v ∧ own_QE none n0 P v U'.heap L ∧ FrameEnd U o U' L rm.cells rm.slots)) (eT : T.heap = h) (N : Fr n0 locs)
    {W : Nat} (hf : rm.frames + 1 ≤ R.frames) (hl : W + (maxL + 11) + rm.locals ≤ R.locals) (hcR : cells + rm.cells ≤ R.cells) (hsR : slots + rm.slots ≤ R.slots) {g : JFrame} (hg : g.method = m) (hsize : g.locals.size = c.maxLocals) {b : Addr} {argsL rest : List Value} (hlen : ∀ sig, parseMethodDescriptor y.desc = some sig → argsL.length = sig.parameters.length) (has : (.ref b :: argsL).toArray = as') (hstack : g.stack = argsL.reverse ++ .ref b :: rest)
    (hW : 2 * g.monitorRoom + (rest.map fun v => v.category).sum ≤ W) (hdg : decode c.code g.pc = .ok (.invokespecial index, 3)) :
    ∃ T' h' locs', Stand p l e R s m args below meth c T' locs' (cells + rm.cells) (slots + rm.slots) ∧ T'.heap = h' ∧ Fr n0 locs' ∧ P h' ∧ ∀ t, Steps p.tables e below (T'.setTop { g with pc := g.pc + 3, stack := rest }) t → Steps p.tables e below (T.setTop g) t := by
  obtain ⟨_, _, ⟨T2, L2, k2, n2⟩, -, X2, ⟨Lc2, hQ2, l2, y2, z2⟩, st2⟩ := X.specialBack hx (y := y) hy1 hown (mvT hZ w1) (mvT hZ w2) (mvT hZ w3) hy (backOf (W := W) hM hZ w3 w4 hf hl) hg hsize (Steps.refl _) hlen hstack hW hdg (fun _ _ => ⟨has, eT, hcR, hsR⟩)
  dsimp only [Pt.U, Pt.locs, Pt.cells, Pt.slots] at X2 l2 y2 z2 st2 hQ2
  subst l2 y2 z2
  obtain ⟨rfl, N2, P2⟩ := hQ2
  exact ⟨T2, _, _, X2, rfl, Fr.app N N2, P2, fun t k => st2.trans k⟩
theorem own_callV (X : Stand p l e R s m args below meth c T locs cells slots) (hx : p.tables.exec = Jvm.exec) (hZ : Z.Warmed39 s.vm) {own C : String} {index : Nat} {y : MethodName} {bytes : ByteArray} {maxL : Nat} {ret : Option FieldType} {rm : Room} (hown : s.vm.findClass own = some m.cls)
    (w1 : (Cond.methodLink own index y).before a0 Z = true) (w2 : (Cond.declares y).before a0 Z = true) (w3 : (Cond.selects C y y).before a0 Z = true) (w4 : (Cond.instanceMethod y).before a0 Z = true) (w5 : (Cond.code y bytes maxL ret).before a0 Z = true) (w6 : (Cond.initialized y.cls).before a0 Z = true) (hy : y.cls ≠ "java/lang/invoke/MethodHandle" ∧ y.cls ≠ "java/lang/invoke/VarHandle")
    {as' : Array Value} {r : Option Value} (hM : MetFree l y (head1 [Cond.code y bytes maxL ret] rm) (fun a U => a = as' ∧ Z.Warmed39 U.vm ∧ U.heap = h) (fun _ _ _ _ _ => True) (fun _ U o U' => ∃ v L, o = .returned v ∧ own_Q r h v U'.heap L ∧ FrameEnd U o U' L rm.cells rm.slots)) (hc0 : rm.cells = 0) (hs0 : rm.slots = 0) (eT : T.heap = h) {b : Addr} (E : Exa Z h b C)
    {W : Nat} (hf : rm.frames + 1 ≤ R.frames) (hl : W + (maxL + 11) + rm.locals ≤ R.locals) (hcR : cells ≤ R.cells) (hsR : slots ≤ R.slots) {g : JFrame} (hg : g.method = m) (hsize : g.locals.size = c.maxLocals) {argsL rest : List Value} (hlen : ∀ sig, parseMethodDescriptor y.desc = some sig → argsL.length = sig.parameters.length) (has : (.ref b :: argsL).toArray = as') (hstack : g.stack = argsL.reverse ++ .ref b :: rest)
    (hW : 2 * g.monitorRoom + (rest.map fun v => v.category).sum ≤ W) (hdg : decode c.code g.pc = .ok (.invokevirtual index, 3)) :
    ∃ T', Stand p l e R s m args below meth c T' locs cells slots ∧ T'.heap = h ∧ ∀ t, Steps p.tables e below (T'.setTop { g with pc := g.pc + 3, stack := r.toList ++ rest }) t → Steps p.tables e below (T.setTop g) t := by
  obtain ⟨cB, kB, q1, -, q3⟩ := isOf hZ eT E
  obtain ⟨_, _, ⟨T2, L2, k2, n2⟩, -, X2, ⟨Lc2, hQ2, l2, y2, z2⟩, st2⟩ := X.virtualBack hx (y := y) (z := y) hown (mvT hZ w1) (mvT hZ w2) (notFace_of_selects (args := #[]) (mvT hZ w3)) (mvT hZ w3) (mvT hZ w4) hy (backOf (W := W) hM hZ w5 w6 hf hl) q1 q3 hg hsize (Steps.refl _) hlen hstack hW hdg (fun _ _ => ⟨has, eT, (by show cells + rm.cells ≤ R.cells; rw [hc0]; exact hcR), (by show slots + rm.slots ≤ R.slots; rw [hs0]; exact hsR)⟩)
  dsimp only [Pt.U, Pt.locs, Pt.cells, Pt.slots] at X2 l2 y2 z2 st2 hQ2
  obtain ⟨rfl, rfl, e2⟩ := hQ2
  rw [hc0] at y2
  rw [hs0] at z2
  rw [List.append_nil] at l2
  subst l2 y2 z2
  exact ⟨T2, X2, e2, fun t k => st2.trans k⟩
theorem own_callW (X : Stand p l e R s m args below meth c T locs cells slots) (hx : p.tables.exec = Jvm.exec) (hZ : Z.Warmed39 s.vm) {own C : String} {index : Nat} {y : MethodName} {bytes : ByteArray} {maxL : Nat} {ret : Option FieldType} {rm : Room} (hown : s.vm.findClass own = some m.cls)
    (w1 : (Cond.methodLink own index y).before a0 Z = true) (w2 : (Cond.declares y).before a0 Z = true) (w3 : (Cond.selects C y y).before a0 Z = true) (w4 : (Cond.instanceMethod y).before a0 Z = true) (w5 : (Cond.code y bytes maxL ret).before a0 Z = true) (w6 : (Cond.initialized y.cls).before a0 Z = true) (hy : y.cls ≠ "java/lang/invoke/MethodHandle" ∧ y.cls ≠ "java/lang/invoke/VarHandle")
    {as' : Array Value} {r : Option Value} {P : Heap → Prop} (hM : MetFree l y (head1 [Cond.code y bytes maxL ret] rm) (fun a U => a = as' ∧ Z.Warmed39 U.vm ∧ U.heap = h) (fun _ _ _ _ _ => True) (fun _ U o U' => ∃ v L, o = .returned v ∧ own_QE r n0 P v U'.heap L ∧ FrameEnd U o U' L rm.cells rm.slots)) (eT : T.heap = h) (N : Fr n0 locs) {b : Addr} (E : Exa Z h b C)
    {W : Nat} (hf : rm.frames + 1 ≤ R.frames) (hl : W + (maxL + 11) + rm.locals ≤ R.locals) (hcR : cells + rm.cells ≤ R.cells) (hsR : slots + rm.slots ≤ R.slots) {g : JFrame} (hg : g.method = m) (hsize : g.locals.size = c.maxLocals) {argsL rest : List Value} (hlen : ∀ sig, parseMethodDescriptor y.desc = some sig → argsL.length = sig.parameters.length) (has : (.ref b :: argsL).toArray = as') (hstack : g.stack = argsL.reverse ++ .ref b :: rest)
    (hW : 2 * g.monitorRoom + (rest.map fun v => v.category).sum ≤ W) (hdg : decode c.code g.pc = .ok (.invokevirtual index, 3)) :
    ∃ T' h' locs', Stand p l e R s m args below meth c T' locs' (cells + rm.cells) (slots + rm.slots) ∧ T'.heap = h' ∧ Fr n0 locs' ∧ P h' ∧ ∀ t, Steps p.tables e below (T'.setTop { g with pc := g.pc + 3, stack := r.toList ++ rest }) t → Steps p.tables e below (T.setTop g) t := by
  obtain ⟨cB, kB, q1, -, q3⟩ := isOf hZ eT E
  obtain ⟨_, _, ⟨T2, L2, k2, n2⟩, -, X2, ⟨Lc2, hQ2, l2, y2, z2⟩, st2⟩ := X.virtualBack hx (y := y) (z := y) hown (mvT hZ w1) (mvT hZ w2) (notFace_of_selects (args := #[]) (mvT hZ w3)) (mvT hZ w3) (mvT hZ w4) hy (backOf (W := W) hM hZ w5 w6 hf hl) q1 q3 hg hsize (Steps.refl _) hlen hstack hW hdg (fun _ _ => ⟨has, eT, hcR, hsR⟩)
  dsimp only [Pt.U, Pt.locs, Pt.cells, Pt.slots] at X2 l2 y2 z2 st2 hQ2
  subst l2 y2 z2
  obtain ⟨rfl, N2, P2⟩ := hQ2
  exact ⟨T2, _, _, X2, rfl, Fr.app N N2, P2, fun t k => st2.trans k⟩
theorem own_callSW (X : Stand p l e R s m args below meth c T locs cells slots) (hx : p.tables.exec = Jvm.exec) (hZ : Z.Warmed39 s.vm) {own : String} {index : Nat} {y : MethodName} {bytes : ByteArray} {maxL : Nat} {ret : Option FieldType} {rm : Room} (hown : s.vm.findClass own = some m.cls)
    (w1 : (Cond.methodLink own index y).before a0 Z = true) (w2 : (Cond.static y).before a0 Z = true) (w3 : (Cond.initialized y.cls).before a0 Z = true) (w4 : (Cond.code y bytes maxL ret).before a0 Z = true) (hy : y.cls ≠ "java/lang/invoke/MethodHandle" ∧ y.cls ≠ "java/lang/invoke/VarHandle")
    {as' : Array Value} {r : Option Value} {P : Heap → Prop} (hM : MetFree l y (head1 [Cond.code y bytes maxL ret] rm) (fun a U => a = as' ∧ Z.Warmed39 U.vm ∧ U.heap = h) (fun _ _ _ _ _ => True) (fun _ U o U' => ∃ v L, o = .returned v ∧ own_QE r n0 P v U'.heap L ∧ FrameEnd U o U' L rm.cells rm.slots)) (eT : T.heap = h) (N : Fr n0 locs)
    {W : Nat} (hf : rm.frames + 1 ≤ R.frames) (hl : W + (maxL + 11) + rm.locals ≤ R.locals) (hcR : cells + rm.cells ≤ R.cells) (hsR : slots + rm.slots ≤ R.slots) {g : JFrame} (hg : g.method = m) (hsize : g.locals.size = c.maxLocals) {argsL rest : List Value} (hlen : ∀ sig, parseMethodDescriptor y.desc = some sig → argsL.length = sig.parameters.length) (has : argsL.toArray = as') (hstack : g.stack = argsL.reverse ++ rest)
    (hW : 2 * g.monitorRoom + (rest.map fun v => v.category).sum ≤ W) (hdg : decode c.code g.pc = .ok (.invokestatic index, 3)) :
    ∃ T' h' locs', Stand p l e R s m args below meth c T' locs' (cells + rm.cells) (slots + rm.slots) ∧ T'.heap = h' ∧ Fr n0 locs' ∧ P h' ∧ ∀ t, Steps p.tables e below (T'.setTop { g with pc := g.pc + 3, stack := r.toList ++ rest }) t → Steps p.tables e below (T.setTop g) t := by
  obtain ⟨_, _, ⟨T2, L2, k2, n2⟩, -, X2, ⟨Lc2, hQ2, l2, y2, z2⟩, st2⟩ := Jvm.LawKit.callS X hx hown (mvT hZ w1) (mvT hZ w2) (mvT hZ w3) (mvT hZ w4) hy (backOf (W := W) hM hZ w4 w3 hf hl) hg hsize hlen hstack hW hdg (fun _ _ => ⟨has, eT, hcR, hsR⟩)
  dsimp only [Pt.U, Pt.locs, Pt.cells, Pt.slots] at X2 l2 y2 z2 st2 hQ2
  subst l2 y2 z2
  obtain ⟨rfl, N2, P2⟩ := hQ2
  exact ⟨T2, _, _, X2, rfl, Fr.app N N2, P2, st2⟩
end OwnO

theorem own_sta_keep0 {Z : State} {h h' : Heap} {C n d : String} {v : Value} (S : Sta Z h C n d v) (Kp : Keep h h' []) : Sta Z h' C n d v := by
  obtain ⟨cf, i, k, f, st, cell, h1, h2, h3, h4, h5, h6, h7⟩ := S
  exact ⟨cf, i, k, f, st, cell, h1, h2, h3, h4, Kp.2.1 st cell h5 (fun q => nomatch q), h6, h7⟩
theorem own_nar {v : Value} {c : String} (h : v.isRef = true) : narrow (.object c) v = v := by cases v <;> first | rfl | (simp [Value.isRef] at h)
theorem own_fit {v : Value} {c : String} (h : v.isRef = true) : fits (.object c) v = true := by cases v <;> first | rfl | (simp [Value.isRef] at h)
theorem own_sta_keep {Z : State} {h h' : Heap} {b : Addr} {C n d K : String} {v : Value} (S : Sta Z h C n d v) (E : Exa Z h b K) (Kp : Keep h h' [b]) : Sta Z h' C n d v := by
  obtain ⟨cf, i, k, f, st, cell, h1, h2, h3, h4, h5, h6, h7⟩ := S
  obtain ⟨c2, k2, g1, g2, g3, g4, g5⟩ := E
  have ne : st ≠ b := fun q => by
    subst q
    cases h5.symm.trans g1
    rw [h6] at g4
    cases g4
  exact ⟨cf, i, k, f, st, cell, h1, h2, h3, h4, Kp.2.1 st cell h5 (fun q => ne (List.mem_singleton.mp q)), h6, h7⟩
theorem own_A_keep {Z : State} {h h' : Heap} {a : Addr} {ty : FieldType} {n : Int32} {f : Int32 → Int32} {ws : List Addr} (A : own_A Z h a ty n f) (K : Keep h h' ws) (q : a ∉ ws) : own_A Z h' a ty n f := by
  obtain ⟨c, A1, A2⟩ := A
  exact ⟨c, ⟨K.2.1 a c A1.1 q, A1.2⟩, A2⟩

theorem d1_0 : decode prog_48_method_1_code 0 = .ok (.aload_n 0, 1) := by decide +kernel
theorem d1_1 : decode prog_48_method_1_code 1 = .ok (.invokespecial 1, 3) := by decide +kernel
theorem d1_4 : decode prog_48_method_1_code 4 = .ok (.aload_n 0, 1) := by decide +kernel
theorem d1_5 : decode prog_48_method_1_code 5 = .ok (.iload_n 1, 1) := by decide +kernel
theorem d1_6 : decode prog_48_method_1_code 6 = .ok (.putfield 7, 3) := by decide +kernel
theorem d1_9 : decode prog_48_method_1_code 9 = .ok (.return_, 1) := by decide +kernel
theorem pn_1 : plainName "com/example/rolewright/rolewright/expression/Term$LineBreak" = true := by first | (simp [plainName, overriddenIn]; done) | decide +kernel
theorem ef_1 (m : MethodId) (a : Addr) (q : Int32) : entryFrame m #[(.ref a), (.int q)] 2 = mkF m 0 #[.val (.ref a), .val (.int q)] [] := by first | (simp [entryFrame, mkF, argsToLocals, Value.category]; done) | rfl
set_option maxRecDepth 65536 in
set_option maxHeartbeats 40000000 in
theorem rm1 (l : Launch) (Z : State) (a0 : Array Value) (hw : ∀ d ∈ tables_1, d.before a0 Z = true) (ws : List Jvm.Cond) (a : Addr) (q : Int32) (h0 : Heap) (n0 : Nat) (Z0 : n0 ≤ h0.size) (ga : n0 ≤ a) (E : Exa Z h0 a "com/example/rolewright/rolewright/expression/Term$LineBreak") {u_endsRound : Value} (F_endsRound : Fld Z h0 a "com/example/rolewright/rolewright/expression/Term$LineBreak" "endsRound" "Z" u_endsRound)  :
    MetFree l (⟨"com/example/rolewright/rolewright/expression/Term$LineBreak", "<init>", "(Z)V"⟩ : MethodName) (head1 (Jvm.Cond.code (⟨"com/example/rolewright/rolewright/expression/Term$LineBreak", "<init>", "(Z)V"⟩ : MethodName) prog_48_method_1_code 2 none :: ws) ({ frames := 1, cells := 0, slots := 0, locals := 12 } : Room)) (fun aa U => aa = #[(.ref a), (.int q)] ∧ Z.Warmed39 U.vm ∧ U.heap = h0) (fun _ _ _ _ _ => True) (fun _ U o U' => ∃ v L, o = .returned v ∧ own_QE none n0 (fun h => Keep h0 h [a] ∧ Exa Z h a "com/example/rolewright/rolewright/expression/Term$LineBreak" ∧ Fld Z h a "com/example/rolewright/rolewright/expression/Term$LineBreak" "endsRound" "Z" (.int (nar .boolean q))) v U'.heap L ∧ FrameEnd U o U' L ({ frames := 1, cells := 0, slots := 0, locals := 12 } : Room).cells ({ frames := 1, cells := 0, slots := 0, locals := 12 } : Room).slots) := by
  refine MetFree.of_bodySF (plainFor_of_name pn_1) hisR ?_
  intro p e s m args below meth c s₁ Bd hml0 hP hK
  obtain ⟨rfl, hZ, hh⟩ := hP
  have hx := Bd.exec
  have hby := Bd.bytes
  have hml : c.maxLocals = 2 := hml0
  have hlk : meth.locks = false := Bd.notSynchronized
  have hown : s.vm.findClass "com/example/rolewright/rolewright/expression/Term$LineBreak" = some m.cls := findClass_of_methodNamed Bd.named
  have X0 : Stand p l e ({ frames := 1, cells := 0, slots := 0, locals := 12 } : Room) s m #[(.ref a), (.int q)] below meth c s₁ [] 0 0 := Stand.of_body Bd
  have e0 : s₁.heap = h0 := by rw [← hh, Bd.state]; rfl
  have hnm := (name_of_methodNamed Bd.named Bd.method).1
  refine own_G0 (own_go (fun _ k => castTop (ef_1 m a q) k) ?_)
  show own_G p e below s _ _ _ (s₁.setTop (mkF m 0 #[.val (.ref a), .val (.int q)] []))
  refine own_go (fun _ => XS.aloadN X0.here hx rfl (hb hby d1_0) rfl rfl) ?_
  show own_G p e below s _ _ _ (s₁.setTop (mkF m 1 #[.val (.ref a), .val (.int q)] [(.ref a)]))
  obtain ⟨T1, X1, e1, st1⟩ := initO X0 hx hZ hown (hw _ (List.mem_of_getElem? (i := 6) rfl)) (hw _ (List.mem_of_getElem? (i := 7) rfl)) (hw _ (List.mem_of_getElem? (i := 8) rfl)) e0 (g := (mkF m 1 #[.val (.ref a), .val (.int q)] [(.ref a)])) rfl (by rw [hml]; rfl) rfl (hb hby d1_1) (by decide) (W := 0) (by show 2 * 0 + _ ≤ _; exact Nat.le_of_eq rfl) (by decide)
  refine own_go (fun _ => st1 _) ?_
  show own_G p e below s _ _ _ (T1.setTop (mkF m 4 #[.val (.ref a), .val (.int q)] []))
  refine own_go (fun _ => XS.aloadN X1.here hx rfl (hb hby d1_4) rfl rfl) ?_
  show own_G p e below s _ _ _ (T1.setTop (mkF m 5 #[.val (.ref a), .val (.int q)] [(.ref a)]))
  refine own_go (fun _ => XS.iloadN X1.here hx rfl (hb hby d1_5) rfl) ?_
  show own_G p e below s _ _ _ (T1.setTop (mkF m 6 #[.val (.ref a), .val (.int q)] [(.int q), (.ref a)]))
  obtain ⟨T2, h2, X2, e2, W2, st2⟩ := putFN X1 hx hZ hown (hw _ (List.mem_of_getElem? (i := 9) rfl)) Via.refl e1 F_endsRound E (Or.inr ⟨(hw _ (List.mem_of_getElem? (i := 10) rfl)), rfl, hnm⟩) (hw _ (List.mem_of_getElem? (i := 1) rfl)) (ty := .boolean) (v' := (.int (nar .boolean q))) (by decide) rfl (fits_nar_bool _) (g := (mkF m 6 #[.val (.ref a), .val (.int q)] [(.int q), (.ref a)])) rfl rfl (hb hby d1_6)
  have N2 := Fr.snoc X2 (Fr.nil n0) ga
  have Ew3 := E.wr W2
  have Fw4 := F_endsRound.same W2
  have Kw5 := (Keep.refl h0 [a]).wr W2 (Or.inl (List.mem_of_getElem? (i := 0) rfl))
  refine own_go (fun _ => st2 _) ?_
  show own_G p e below s _ _ _ (T2.setTop (mkF m 9 #[.val (.ref a), .val (.int q)] []))
  exact own_retV X2 hx hlk Bd.returns (hb hby d1_9) (by decide) (by decide) ⟨rfl, N2, by rw [e2]; exact ⟨Kw5, Ew3, Fw4⟩⟩
theorem d3_0 : decode prog_48_method_4_code 0 = .ok (.iload_n 1, 1) := by decide +kernel
theorem d3_1 : decode prog_48_method_4_code 1 = .ok (.iconst 2, 1) := by decide +kernel
theorem d3_2 : decode prog_48_method_4_code 2 = .ok (.iand, 1) := by decide +kernel
theorem d3_3 : decode prog_48_method_4_code 3 = .ok (.ifCond .eq 9, 3) := by decide +kernel
theorem d3_6 : decode prog_48_method_4_code 6 = .ok (.iload_n 1, 1) := by decide +kernel
theorem d3_7 : decode prog_48_method_4_code 7 = .ok (.iconst 1, 1) := by decide +kernel
theorem d3_8 : decode prog_48_method_4_code 8 = .ok (.ior, 1) := by decide +kernel
theorem d3_9 : decode prog_48_method_4_code 9 = .ok (.goto 4, 3) := by decide +kernel
theorem d3_12 : decode prog_48_method_4_code 12 = .ok (.iload_n 1, 1) := by decide +kernel
theorem d3_13 : decode prog_48_method_4_code 13 = .ok (.ireturn, 1) := by decide +kernel
def own_v3_13 (q : Int32) (j13_S0 : Int32) : Int32 := j13_S0
def own_v3_0 (q : Int32) : Int32 := (if (q &&& (2 : Int32)) = (0 : Int32) then (own_v3_13 q q) else (own_v3_13 q (q ||| (1 : Int32))))
theorem pn_3 : plainName "com/example/rolewright/rolewright/expression/Term$LineBreak" = true := by first | (simp [plainName, overriddenIn]; done) | decide +kernel
theorem ef_3 (m : MethodId) (a : Addr) (q : Int32) : entryFrame m #[(.ref a), (.int q)] 2 = mkF m 0 #[.val (.ref a), .val (.int q)] [] := by first | (simp [entryFrame, mkF, argsToLocals, Value.category]; done) | rfl
set_option maxRecDepth 65536 in
set_option maxHeartbeats 40000000 in
theorem rm3 (l : Launch) (Z : State) (a0 : Array Value) (hw : ∀ d ∈ tables_1, d.before a0 Z = true) (ws : List Jvm.Cond) (a : Addr) (q : Int32) (h0 : Heap)  :
    MetFree l (⟨"com/example/rolewright/rolewright/expression/Term$LineBreak", "check", "(I)I"⟩ : MethodName) (head1 (Jvm.Cond.code (⟨"com/example/rolewright/rolewright/expression/Term$LineBreak", "check", "(I)I"⟩ : MethodName) prog_48_method_4_code 2 (some .int) :: ws) ({ frames := 0, cells := 0, slots := 0, locals := 0 } : Room)) (fun aa U => aa = #[(.ref a), (.int q)] ∧ Z.Warmed39 U.vm ∧ U.heap = h0) (fun _ _ _ _ _ => True) (fun _ U o U' => ∃ v L, o = .returned v ∧ own_Q (some (.int (own_v3_0 q))) h0 v U'.heap L ∧ FrameEnd U o U' L ({ frames := 0, cells := 0, slots := 0, locals := 0 } : Room).cells ({ frames := 0, cells := 0, slots := 0, locals := 0 } : Room).slots) := by
  refine MetFree.of_bodySF (plainFor_of_name pn_3) hisR ?_
  intro p e s m args below meth c s₁ Bd hml0 hP hK
  obtain ⟨rfl, hZ, hh⟩ := hP
  have hx := Bd.exec
  have hby := Bd.bytes
  have hml : c.maxLocals = 2 := hml0
  have hlk : meth.locks = false := Bd.notSynchronized
  have hown : s.vm.findClass "com/example/rolewright/rolewright/expression/Term$LineBreak" = some m.cls := findClass_of_methodNamed Bd.named
  have X0 : Stand p l e ({ frames := 0, cells := 0, slots := 0, locals := 0 } : Room) s m #[(.ref a), (.int q)] below meth c s₁ [] 0 0 := Stand.of_body Bd
  have e0 : s₁.heap = h0 := by rw [← hh, Bd.state]; rfl
  have b13 : ∀ (T : State), Stand p l e ({ frames := 0, cells := 0, slots := 0, locals := 0 } : Room) s m #[(.ref a), (.int q)] below meth c T [] 0 0 → T.heap = h0 → ∀ (j13_S0 : Int32), own_G p e below s (own_Q (some (.int (own_v3_13 q j13_S0))) h0) ({ frames := 0, cells := 0, slots := 0, locals := 0 } : Room).cells ({ frames := 0, cells := 0, slots := 0, locals := 0 } : Room).slots (T.setTop (mkF m 13 #[.val (.ref a), .val (.int q)] [(.int j13_S0)])) := by
    intro T X eT j13_S0
    show own_G p e below s (own_Q (some (.int j13_S0)) h0) ({ frames := 0, cells := 0, slots := 0, locals := 0 } : Room).cells ({ frames := 0, cells := 0, slots := 0, locals := 0 } : Room).slots (T.setTop (mkF m 13 #[.val (.ref a), .val (.int q)] [(.int j13_S0)]))
    exact own_retI X hx hlk Bd.returns (hb hby d3_13) (by decide) (by decide) ⟨rfl, rfl, eT⟩
  refine own_G0 (own_go (fun _ k => castTop (ef_3 m a q) k) ?_)
  show own_G p e below s (own_Q (some (.int (if (q &&& (2 : Int32)) = (0 : Int32) then (own_v3_13 q q) else (own_v3_13 q (q ||| (1 : Int32)))))) h0) ({ frames := 0, cells := 0, slots := 0, locals := 0 } : Room).cells ({ frames := 0, cells := 0, slots := 0, locals := 0 } : Room).slots (s₁.setTop (mkF m 0 #[.val (.ref a), .val (.int q)] []))
  refine own_go (fun _ => XS.iloadN X0.here hx rfl (hb hby d3_0) rfl) ?_
  show own_G p e below s _ _ _ (s₁.setTop (mkF m 1 #[.val (.ref a), .val (.int q)] [(.int q)]))
  refine own_go (fun _ => XS.iconst X0.here hx rfl (hb hby d3_1)) ?_
  show own_G p e below s _ _ _ (s₁.setTop (mkF m 2 #[.val (.ref a), .val (.int q)] [(.int (2 : Int32)), (.int q)]))
  refine own_go (fun _ => XS.iand X0.here hx rfl (hb hby d3_2) rfl) ?_
  show own_G p e below s _ _ _ (s₁.setTop (mkF m 3 #[.val (.ref a), .val (.int q)] [(.int (q &&& (2 : Int32)))]))
  by_cases hc3 : (q &&& (2 : Int32)) = (0 : Int32)
  · refine own_eq (if_pos hc3) ?_
    refine own_go (fun _ => XS.ifYes X0.here hx rfl (pc0 := 3) (pc' := 12) rfl (hb hby d3_3) rfl ((if0 _ _).trans (teq hc3).1) (by decide) (by decide)) ?_
    show own_G p e below s _ _ _ (s₁.setTop (mkF m 12 #[.val (.ref a), .val (.int q)] []))
    refine own_go (fun _ => XS.iloadN X0.here hx rfl (hb hby d3_12) rfl) ?_
    exact b13 s₁ X0 e0 q
  · refine own_eq (if_neg hc3) ?_
    refine own_go (fun _ => XS.ifNo X0.here hx rfl (hb hby d3_3) rfl ((if0 _ _).trans (feq hc3).1)) ?_
    show own_G p e below s _ _ _ (s₁.setTop (mkF m 6 #[.val (.ref a), .val (.int q)] []))
    refine own_go (fun _ => XS.iloadN X0.here hx rfl (hb hby d3_6) rfl) ?_
    show own_G p e below s _ _ _ (s₁.setTop (mkF m 7 #[.val (.ref a), .val (.int q)] [(.int q)]))
    refine own_go (fun _ => XS.iconst X0.here hx rfl (hb hby d3_7)) ?_
    show own_G p e below s _ _ _ (s₁.setTop (mkF m 8 #[.val (.ref a), .val (.int q)] [(.int (1 : Int32)), (.int q)]))
    refine own_go (fun _ => XS.ior X0.here hx rfl (hb hby d3_8) rfl) ?_
    show own_G p e below s _ _ _ (s₁.setTop (mkF m 9 #[.val (.ref a), .val (.int q)] [(.int (q ||| (1 : Int32)))]))
    refine own_go (fun _ => XS.goto X0.here hx rfl (pc0 := 9) (pc' := 13) rfl (hb hby d3_9) (by decide) (by decide)) ?_
    exact b13 s₁ X0 e0 (q ||| (1 : Int32))
def own_n0_44 (q0 : Int32) : Int32 := (own_v3_0 q0)
def own_n0_52 (q0 : Int32) : Int32 := (own_v3_0 q0)
def own_v0_178 (q0 : Int32) (q1 : Int32) (j54_L2 : Int32) (j81_S0 : Int32) (j119_S0 : Int32) (j133_S0 : Int32) (j151_S0 : Int32) (j178_S0 : Int32) : Int32 := (nar .boolean j178_S0)
def own_v0_177 (q0 : Int32) (q1 : Int32) (j54_L2 : Int32) (j81_S0 : Int32) (j119_S0 : Int32) (j133_S0 : Int32) (j151_S0 : Int32) : Int32 := (own_v0_178 q0 q1 j54_L2 j81_S0 j119_S0 j133_S0 j151_S0 (0 : Int32))
def own_v0_151 (q0 : Int32) (q1 : Int32) (j54_L2 : Int32) (j81_S0 : Int32) (j119_S0 : Int32) (j133_S0 : Int32) (j151_S0 : Int32) : Int32 := (if j81_S0 = (0 : Int32) then (own_v0_177 q0 q1 j54_L2 j81_S0 j119_S0 j133_S0 j151_S0) else (if j119_S0 = (0 : Int32) then (own_v0_177 q0 q1 j54_L2 j81_S0 j119_S0 j133_S0 j151_S0) else (if j133_S0 = (0 : Int32) then (own_v0_177 q0 q1 j54_L2 j81_S0 j119_S0 j133_S0 j151_S0) else (if j151_S0 = (0 : Int32) then (own_v0_177 q0 q1 j54_L2 j81_S0 j119_S0 j133_S0 j151_S0) else (own_v0_178 q0 q1 j54_L2 j81_S0 j119_S0 j133_S0 j151_S0 (1 : Int32))))))
def own_v0_133 (q0 : Int32) (q1 : Int32) (j54_L2 : Int32) (j81_S0 : Int32) (j119_S0 : Int32) (j133_S0 : Int32) : Int32 := (if (own_v3_0 (own_n0_44 q0)) = (own_n0_44 q0) then (own_v0_151 q0 q1 j54_L2 j81_S0 j119_S0 j133_S0 (1 : Int32)) else (own_v0_151 q0 q1 j54_L2 j81_S0 j119_S0 j133_S0 (0 : Int32)))
def own_v0_119 (q0 : Int32) (q1 : Int32) (j54_L2 : Int32) (j81_S0 : Int32) (j119_S0 : Int32) : Int32 := (if (own_n0_44 q0) = (own_n0_52 q0) then (own_v0_133 q0 q1 j54_L2 j81_S0 j119_S0 (1 : Int32)) else (own_v0_133 q0 q1 j54_L2 j81_S0 j119_S0 (0 : Int32)))
def own_v0_111 (q0 : Int32) (q1 : Int32) (j54_L2 : Int32) (j81_S0 : Int32) (j111_S0 : Int32) (j96_S0 : Int32) : Int32 := (if j96_S0 = j111_S0 then (own_v0_119 q0 q1 j54_L2 j81_S0 (1 : Int32)) else (own_v0_119 q0 q1 j54_L2 j81_S0 (0 : Int32)))
def own_v0_96 (q0 : Int32) (q1 : Int32) (j54_L2 : Int32) (j81_S0 : Int32) (j96_S0 : Int32) : Int32 := (if (q0 &&& ((1 : Int32) ||| (2 : Int32))) = (0 : Int32) then (own_v0_111 q0 q1 j54_L2 j81_S0 (0 : Int32) j96_S0) else (own_v0_111 q0 q1 j54_L2 j81_S0 (1 : Int32) j96_S0))
def own_v0_81 (q0 : Int32) (q1 : Int32) (j54_L2 : Int32) (j81_S0 : Int32) : Int32 := (if ((own_n0_44 q0) &&& (1 : Int32)) = (0 : Int32) then (own_v0_96 q0 q1 j54_L2 j81_S0 (0 : Int32)) else (own_v0_96 q0 q1 j54_L2 j81_S0 (1 : Int32)))
def own_v0_54 (q0 : Int32) (q1 : Int32) (j54_L2 : Int32) : Int32 := (if ((own_n0_44 q0) &&& ((1 : Int32) ^^^ (-1 : Int32))) = (q0 &&& ((1 : Int32) ^^^ (-1 : Int32))) then (own_v0_81 q0 q1 j54_L2 (1 : Int32)) else (own_v0_81 q0 q1 j54_L2 (0 : Int32)))
def own_v0_0 (q0 : Int32) (q1 : Int32) : Int32 := (if (q1 &&& (1 : Int32)) = (0 : Int32) then (own_v0_54 q0 q1 (0 : Int32)) else (own_v0_54 q0 q1 (1 : Int32)))
theorem own_dl (x y z : Int32) : (x ||| y) &&& z = (x &&& z) ||| (y &&& z) := by
  apply Int32.toBitVec_inj.mp
  rw [Int32.toBitVec_and, Int32.toBitVec_or, Int32.toBitVec_or, Int32.toBitVec_and, Int32.toBitVec_and]
  exact BitVec.and_or_distrib_right
theorem own_dr (z x y : Int32) : z &&& (x ||| y) = (z &&& x) ||| (z &&& y) := by
  apply Int32.toBitVec_inj.mp
  rw [Int32.toBitVec_and, Int32.toBitVec_or, Int32.toBitVec_or, Int32.toBitVec_and, Int32.toBitVec_and]
  exact BitVec.and_or_distrib_left
theorem own_keep (q : Int32) : (own_v3_0 q &&& ((1 : Int32) ^^^ (-1 : Int32))) = (q &&& ((1 : Int32) ^^^ (-1 : Int32))) := by
  rw [own_v3_0]
  split
  · rfl
  · rw [own_v3_13, own_dl, show (1 : Int32) &&& ((1 : Int32) ^^^ (-1 : Int32)) = 0 from by decide, Int32.or_zero]
theorem own_one (q : Int32) : ¬ ((q ||| 1) &&& (1 : Int32)) = 0 := fun h => by
  rw [own_dl, show (1 : Int32) &&& (1 : Int32) = 1 from by decide] at h
  have h2 := congrArg (fun x : Int32 => x &&& 1) h
  simp only [own_dl, Int32.and_assoc, show (1 : Int32) &&& (1 : Int32) = 1 from by decide, show (0 : Int32) &&& (1 : Int32) = 0 from by decide] at h2
  have h3 := congrArg (fun x : Int32 => x.toBitVec.getLsbD 0) h2
  simp [Int32.toBitVec_or] at h3
theorem own_two (q : Int32) (h : (q &&& ((1 : Int32) ||| (2 : Int32))) = 0) : (q &&& (2 : Int32)) = 0 := by
  have h2 := congrArg (fun x : Int32 => x &&& 2) h
  simp only [Int32.and_assoc] at h2
  rw [show ((1 : Int32) ||| (2 : Int32)) &&& (2 : Int32) = 2 from by decide, show (0 : Int32) &&& (2 : Int32) = 0 from by decide] at h2
  exact h2
theorem own_both (q : Int32) : ((own_v3_0 q &&& (1 : Int32)) = 0) ↔ ((q &&& ((1 : Int32) ||| (2 : Int32))) = 0) := by
  rw [own_v3_0]
  by_cases h : (q &&& (2 : Int32)) = 0
  · rw [if_pos h, own_v3_13, own_dr, h, Int32.or_zero]
  · rw [if_neg h, own_v3_13]
    exact ⟨fun g => absurd g (own_one q), fun g => absurd (own_two q g) h⟩
theorem own_stays (q : Int32) : own_v3_0 (own_v3_0 q) = own_v3_0 q := by
  by_cases h : (q &&& (2 : Int32)) = 0
  · have e : own_v3_0 q = q := by rw [own_v3_0, if_pos h]; rfl
    rw [e, e]
  · have e : own_v3_0 q = q ||| 1 := by rw [own_v3_0, if_neg h]; rfl
    have g : ¬ ((q ||| 1) &&& (2 : Int32)) = 0 := by
      rw [own_dl, show (1 : Int32) &&& (2 : Int32) = 0 from by decide, Int32.or_zero]
      exact h
    rw [e, own_v3_0, if_neg g, own_v3_13, Int32.or_assoc, Int32.or_self]
theorem own_law2 (q0 q1 j : Int32) : own_v0_54 q0 q1 j = 1 := by
  have t1 : ¬ (1 : Int32) = 0 := by decide
  have k : own_n0_44 q0 = own_v3_0 q0 := rfl
  have k2 : own_n0_52 q0 = own_v3_0 q0 := rfl
  have e151 : own_v0_151 q0 q1 j 1 1 1 1 = 1 := by
    rw [own_v0_151, if_neg t1, if_neg t1, if_neg t1, if_neg t1]
    rfl
  have e119 : own_v0_119 q0 q1 j 1 1 = 1 := by
    rw [own_v0_119, k, k2, if_pos rfl, own_v0_133, k, if_pos (own_stays q0)]
    exact e151
  rw [own_v0_54, k, if_pos (own_keep q0), own_v0_81, k]
  by_cases h : (own_v3_0 q0 &&& (1 : Int32)) = 0
  · rw [if_pos h, own_v0_96, if_pos ((own_both q0).mp h), own_v0_111, if_pos rfl]
    exact e119
  · rw [if_neg h, own_v0_96, if_neg (fun g => h ((own_both q0).mpr g)), own_v0_111, if_pos rfl]
    exact e119
theorem own_law (q0 q1 : Int32) : own_v0_0 q0 q1 = 1 := by
  rw [own_v0_0]
  split
  · exact own_law2 q0 q1 _
  · exact own_law2 q0 q1 _

theorem pn_0 : plainName "com/example/rolewright/rolewright/expression/LineBreakCheckPinLaw" = true := by first | (simp [plainName, overriddenIn]; done) | decide +kernel
theorem ef_0 (m : MethodId) (q0 : Int32) (q1 : Int32) : entryFrame m #[(.int q0), (.int q1)] maxLocals = mkF m 0 #[.val (.int q0), .val (.int q1), .unset, .unset, .unset, .unset, .unset, .unset, .unset, .unset, .unset, .unset, .unset] [] := by first | (simp [entryFrame, mkF, argsToLocals, Value.category, maxLocals]; done) | rfl
set_option maxRecDepth 65536 in
set_option maxHeartbeats 40000000 in
theorem rm0 (l : Launch) (Z : State) (a0 : Array Value) (hw : ∀ d ∈ tables_1, d.before a0 Z = true) (ws : List Jvm.Cond) (q0 : Int32) (q1 : Int32) (h0 : Heap) (n0 : Nat) (Z0 : n0 ≤ h0.size)  :
    MetFree l x (head1 (Jvm.Cond.code x code maxLocals ret :: ws) room_1) (fun aa U => aa = #[(.int q0), (.int q1)] ∧ Z.Warmed39 U.vm ∧ U.heap = h0) (fun _ _ _ _ _ => True) (fun _ U o U' => ∃ v L, o = .returned v ∧ own_QF (some (.int (own_v0_0 q0 q1))) n0 v U'.heap L ∧ FrameEnd U o U' L room_1.cells room_1.slots) := by
  refine MetFree.of_bodySF (plainFor_of_name pn_0) hisR ?_
  intro p e s m args below meth c s₁ Bd hml0 hP hK
  obtain ⟨rfl, hZ, hh⟩ := hP
  have hx := Bd.exec
  have hby := Bd.bytes
  have hml : c.maxLocals = 13 := hml0
  have hlk : meth.locks = false := Bd.notSynchronized
  have hown : s.vm.findClass "com/example/rolewright/rolewright/expression/LineBreakCheckPinLaw" = some m.cls := findClass_of_methodNamed Bd.named
  have X0 : Stand p l e room_1 s m #[(.int q0), (.int q1)] below meth c s₁ [] 0 0 := Stand.of_body Bd
  have e0 : s₁.heap = h0 := by rw [← hh, Bd.state]; rfl
  have b178 : ∀ (T : State) (h : Heap) (Lc : List Loc), Stand p l e room_1 s m #[(.int q0), (.int q1)] below meth c T Lc ((((0 + 1) + 0) + 1) + 0) ((((0 + 1) + 0) + 1) + 0) → T.heap = h → Fr n0 Lc → ∀ (j54_L2 : Int32) (j178_L3 : Addr) (j178_L4 : Addr) (j81_S0 : Int32) (j119_S0 : Int32) (j133_S0 : Int32) (j151_S0 : Int32) (j178_S0 : Int32), own_G p e below s (own_QF (some (.int (own_v0_178 q0 q1 j54_L2 j81_S0 j119_S0 j133_S0 j151_S0 j178_S0))) n0) room_1.cells room_1.slots (T.setTop (mkF m 178 #[.val (.int q0), .val (.int q1), .val (.int j54_L2), .val (.ref j178_L3), .val (.ref j178_L4), .val (.int (own_n0_44 q0)), .val (.int (own_n0_52 q0)), .val (.int (1 : Int32)), .val (.int (2 : Int32)), .val (.int j81_S0), .val (.int j119_S0), .val (.int j133_S0), .val (.int j151_S0)] [(.int j178_S0)])) := by
    intro T h Lc X eT N j54_L2 j178_L3 j178_L4 j81_S0 j119_S0 j133_S0 j151_S0 j178_S0
    show own_G p e below s (own_QF (some (.int (nar .boolean j178_S0))) n0) room_1.cells room_1.slots (T.setTop (mkF m 178 #[.val (.int q0), .val (.int q1), .val (.int j54_L2), .val (.ref j178_L3), .val (.ref j178_L4), .val (.int (own_n0_44 q0)), .val (.int (own_n0_52 q0)), .val (.int (1 : Int32)), .val (.int (2 : Int32)), .val (.int j81_S0), .val (.int j119_S0), .val (.int j133_S0), .val (.int j151_S0)] [(.int j178_S0)]))
    exact own_retN X hx hlk (t := .boolean) Bd.returns (by simp) (hb hby at_178) (by decide) (by decide) ⟨rfl, N⟩
  have b177 : ∀ (T : State) (h : Heap) (Lc : List Loc), Stand p l e room_1 s m #[(.int q0), (.int q1)] below meth c T Lc ((((0 + 1) + 0) + 1) + 0) ((((0 + 1) + 0) + 1) + 0) → T.heap = h → Fr n0 Lc → ∀ (j54_L2 : Int32) (j177_L3 : Addr) (j177_L4 : Addr) (j81_S0 : Int32) (j119_S0 : Int32) (j133_S0 : Int32) (j151_S0 : Int32), own_G p e below s (own_QF (some (.int (own_v0_177 q0 q1 j54_L2 j81_S0 j119_S0 j133_S0 j151_S0))) n0) room_1.cells room_1.slots (T.setTop (mkF m 177 #[.val (.int q0), .val (.int q1), .val (.int j54_L2), .val (.ref j177_L3), .val (.ref j177_L4), .val (.int (own_n0_44 q0)), .val (.int (own_n0_52 q0)), .val (.int (1 : Int32)), .val (.int (2 : Int32)), .val (.int j81_S0), .val (.int j119_S0), .val (.int j133_S0), .val (.int j151_S0)] [])) := by
    intro T h Lc X eT N j54_L2 j177_L3 j177_L4 j81_S0 j119_S0 j133_S0 j151_S0
    show own_G p e below s (own_QF (some (.int (own_v0_178 q0 q1 j54_L2 j81_S0 j119_S0 j133_S0 j151_S0 (0 : Int32)))) n0) room_1.cells room_1.slots (T.setTop (mkF m 177 #[.val (.int q0), .val (.int q1), .val (.int j54_L2), .val (.ref j177_L3), .val (.ref j177_L4), .val (.int (own_n0_44 q0)), .val (.int (own_n0_52 q0)), .val (.int (1 : Int32)), .val (.int (2 : Int32)), .val (.int j81_S0), .val (.int j119_S0), .val (.int j133_S0), .val (.int j151_S0)] []))
    refine own_go (fun _ => XS.iconst X.here hx rfl (hb hby at_177)) ?_
    exact b178 T h Lc X eT N j54_L2 j177_L3 j177_L4 j81_S0 j119_S0 j133_S0 j151_S0 (0 : Int32)
  have b151 : ∀ (T : State) (h : Heap) (Lc : List Loc), Stand p l e room_1 s m #[(.int q0), (.int q1)] below meth c T Lc ((((0 + 1) + 0) + 1) + 0) ((((0 + 1) + 0) + 1) + 0) → T.heap = h → Fr n0 Lc → ∀ (j54_L2 : Int32) (j151_L3 : Addr) (j151_L4 : Addr) (j81_S0 : Int32) (j119_S0 : Int32) (j133_S0 : Int32) (j151_S0 : Int32), own_G p e below s (own_QF (some (.int (own_v0_151 q0 q1 j54_L2 j81_S0 j119_S0 j133_S0 j151_S0))) n0) room_1.cells room_1.slots (T.setTop (mkF m 151 #[.val (.int q0), .val (.int q1), .val (.int j54_L2), .val (.ref j151_L3), .val (.ref j151_L4), .val (.int (own_n0_44 q0)), .val (.int (own_n0_52 q0)), .val (.int (1 : Int32)), .val (.int (2 : Int32)), .val (.int j81_S0), .val (.int j119_S0), .val (.int j133_S0), .unset] [(.int j151_S0)])) := by
    intro T h Lc X eT N j54_L2 j151_L3 j151_L4 j81_S0 j119_S0 j133_S0 j151_S0
    show own_G p e below s (own_QF (some (.int (if j81_S0 = (0 : Int32) then (own_v0_177 q0 q1 j54_L2 j81_S0 j119_S0 j133_S0 j151_S0) else (if j119_S0 = (0 : Int32) then (own_v0_177 q0 q1 j54_L2 j81_S0 j119_S0 j133_S0 j151_S0) else (if j133_S0 = (0 : Int32) then (own_v0_177 q0 q1 j54_L2 j81_S0 j119_S0 j133_S0 j151_S0) else (if j151_S0 = (0 : Int32) then (own_v0_177 q0 q1 j54_L2 j81_S0 j119_S0 j133_S0 j151_S0) else (own_v0_178 q0 q1 j54_L2 j81_S0 j119_S0 j133_S0 j151_S0 (1 : Int32)))))))) n0) room_1.cells room_1.slots (T.setTop (mkF m 151 #[.val (.int q0), .val (.int q1), .val (.int j54_L2), .val (.ref j151_L3), .val (.ref j151_L4), .val (.int (own_n0_44 q0)), .val (.int (own_n0_52 q0)), .val (.int (1 : Int32)), .val (.int (2 : Int32)), .val (.int j81_S0), .val (.int j119_S0), .val (.int j133_S0), .unset] [(.int j151_S0)]))
    refine own_go (fun _ => XS.istore X.here hx rfl (hb hby at_151) rfl (l' := #[.val (.int q0), .val (.int q1), .val (.int j54_L2), .val (.ref j151_L3), .val (.ref j151_L4), .val (.int (own_n0_44 q0)), .val (.int (own_n0_52 q0)), .val (.int (1 : Int32)), .val (.int (2 : Int32)), .val (.int j81_S0), .val (.int j119_S0), .val (.int j133_S0), .val (.int j151_S0)]) rfl) ?_
    show own_G p e below s _ _ _ (T.setTop (mkF m 153 #[.val (.int q0), .val (.int q1), .val (.int j54_L2), .val (.ref j151_L3), .val (.ref j151_L4), .val (.int (own_n0_44 q0)), .val (.int (own_n0_52 q0)), .val (.int (1 : Int32)), .val (.int (2 : Int32)), .val (.int j81_S0), .val (.int j119_S0), .val (.int j133_S0), .val (.int j151_S0)] []))
    refine own_go (fun _ => XS.iload X.here hx rfl (hb hby at_153) rfl) ?_
    show own_G p e below s _ _ _ (T.setTop (mkF m 155 #[.val (.int q0), .val (.int q1), .val (.int j54_L2), .val (.ref j151_L3), .val (.ref j151_L4), .val (.int (own_n0_44 q0)), .val (.int (own_n0_52 q0)), .val (.int (1 : Int32)), .val (.int (2 : Int32)), .val (.int j81_S0), .val (.int j119_S0), .val (.int j133_S0), .val (.int j151_S0)] [(.int j81_S0)]))
    by_cases hc155 : j81_S0 = (0 : Int32)
    · refine own_eqF (if_pos hc155) ?_
      refine own_go (fun _ => XS.ifYes X.here hx rfl (pc0 := 155) (pc' := 177) rfl (hb hby at_155) rfl ((if0 _ _).trans (teq hc155).1) (by decide) (by decide)) ?_
      exact b177 T h Lc X eT N j54_L2 j151_L3 j151_L4 j81_S0 j119_S0 j133_S0 j151_S0
    · refine own_eqF (if_neg hc155) ?_
      refine own_go (fun _ => XS.ifNo X.here hx rfl (hb hby at_155) rfl ((if0 _ _).trans (feq hc155).1)) ?_
      show own_G p e below s _ _ _ (T.setTop (mkF m 158 #[.val (.int q0), .val (.int q1), .val (.int j54_L2), .val (.ref j151_L3), .val (.ref j151_L4), .val (.int (own_n0_44 q0)), .val (.int (own_n0_52 q0)), .val (.int (1 : Int32)), .val (.int (2 : Int32)), .val (.int j81_S0), .val (.int j119_S0), .val (.int j133_S0), .val (.int j151_S0)] []))
      refine own_go (fun _ => XS.iload X.here hx rfl (hb hby at_158) rfl) ?_
      show own_G p e below s _ _ _ (T.setTop (mkF m 160 #[.val (.int q0), .val (.int q1), .val (.int j54_L2), .val (.ref j151_L3), .val (.ref j151_L4), .val (.int (own_n0_44 q0)), .val (.int (own_n0_52 q0)), .val (.int (1 : Int32)), .val (.int (2 : Int32)), .val (.int j81_S0), .val (.int j119_S0), .val (.int j133_S0), .val (.int j151_S0)] [(.int j119_S0)]))
      by_cases hc160 : j119_S0 = (0 : Int32)
      · refine own_eqF (if_pos hc160) ?_
        refine own_go (fun _ => XS.ifYes X.here hx rfl (pc0 := 160) (pc' := 177) rfl (hb hby at_160) rfl ((if0 _ _).trans (teq hc160).1) (by decide) (by decide)) ?_
        exact b177 T h Lc X eT N j54_L2 j151_L3 j151_L4 j81_S0 j119_S0 j133_S0 j151_S0
      · refine own_eqF (if_neg hc160) ?_
        refine own_go (fun _ => XS.ifNo X.here hx rfl (hb hby at_160) rfl ((if0 _ _).trans (feq hc160).1)) ?_
        show own_G p e below s _ _ _ (T.setTop (mkF m 163 #[.val (.int q0), .val (.int q1), .val (.int j54_L2), .val (.ref j151_L3), .val (.ref j151_L4), .val (.int (own_n0_44 q0)), .val (.int (own_n0_52 q0)), .val (.int (1 : Int32)), .val (.int (2 : Int32)), .val (.int j81_S0), .val (.int j119_S0), .val (.int j133_S0), .val (.int j151_S0)] []))
        refine own_go (fun _ => XS.iload X.here hx rfl (hb hby at_163) rfl) ?_
        show own_G p e below s _ _ _ (T.setTop (mkF m 165 #[.val (.int q0), .val (.int q1), .val (.int j54_L2), .val (.ref j151_L3), .val (.ref j151_L4), .val (.int (own_n0_44 q0)), .val (.int (own_n0_52 q0)), .val (.int (1 : Int32)), .val (.int (2 : Int32)), .val (.int j81_S0), .val (.int j119_S0), .val (.int j133_S0), .val (.int j151_S0)] [(.int j133_S0)]))
        by_cases hc165 : j133_S0 = (0 : Int32)
        · refine own_eqF (if_pos hc165) ?_
          refine own_go (fun _ => XS.ifYes X.here hx rfl (pc0 := 165) (pc' := 177) rfl (hb hby at_165) rfl ((if0 _ _).trans (teq hc165).1) (by decide) (by decide)) ?_
          exact b177 T h Lc X eT N j54_L2 j151_L3 j151_L4 j81_S0 j119_S0 j133_S0 j151_S0
        · refine own_eqF (if_neg hc165) ?_
          refine own_go (fun _ => XS.ifNo X.here hx rfl (hb hby at_165) rfl ((if0 _ _).trans (feq hc165).1)) ?_
          show own_G p e below s _ _ _ (T.setTop (mkF m 168 #[.val (.int q0), .val (.int q1), .val (.int j54_L2), .val (.ref j151_L3), .val (.ref j151_L4), .val (.int (own_n0_44 q0)), .val (.int (own_n0_52 q0)), .val (.int (1 : Int32)), .val (.int (2 : Int32)), .val (.int j81_S0), .val (.int j119_S0), .val (.int j133_S0), .val (.int j151_S0)] []))
          refine own_go (fun _ => XS.iload X.here hx rfl (hb hby at_168) rfl) ?_
          show own_G p e below s _ _ _ (T.setTop (mkF m 170 #[.val (.int q0), .val (.int q1), .val (.int j54_L2), .val (.ref j151_L3), .val (.ref j151_L4), .val (.int (own_n0_44 q0)), .val (.int (own_n0_52 q0)), .val (.int (1 : Int32)), .val (.int (2 : Int32)), .val (.int j81_S0), .val (.int j119_S0), .val (.int j133_S0), .val (.int j151_S0)] [(.int j151_S0)]))
          by_cases hc170 : j151_S0 = (0 : Int32)
          · refine own_eqF (if_pos hc170) ?_
            refine own_go (fun _ => XS.ifYes X.here hx rfl (pc0 := 170) (pc' := 177) rfl (hb hby at_170) rfl ((if0 _ _).trans (teq hc170).1) (by decide) (by decide)) ?_
            exact b177 T h Lc X eT N j54_L2 j151_L3 j151_L4 j81_S0 j119_S0 j133_S0 j151_S0
          · refine own_eqF (if_neg hc170) ?_
            refine own_go (fun _ => XS.ifNo X.here hx rfl (hb hby at_170) rfl ((if0 _ _).trans (feq hc170).1)) ?_
            show own_G p e below s _ _ _ (T.setTop (mkF m 173 #[.val (.int q0), .val (.int q1), .val (.int j54_L2), .val (.ref j151_L3), .val (.ref j151_L4), .val (.int (own_n0_44 q0)), .val (.int (own_n0_52 q0)), .val (.int (1 : Int32)), .val (.int (2 : Int32)), .val (.int j81_S0), .val (.int j119_S0), .val (.int j133_S0), .val (.int j151_S0)] []))
            refine own_go (fun _ => XS.iconst X.here hx rfl (hb hby at_173)) ?_
            show own_G p e below s _ _ _ (T.setTop (mkF m 174 #[.val (.int q0), .val (.int q1), .val (.int j54_L2), .val (.ref j151_L3), .val (.ref j151_L4), .val (.int (own_n0_44 q0)), .val (.int (own_n0_52 q0)), .val (.int (1 : Int32)), .val (.int (2 : Int32)), .val (.int j81_S0), .val (.int j119_S0), .val (.int j133_S0), .val (.int j151_S0)] [(.int (1 : Int32))]))
            refine own_go (fun _ => XS.goto X.here hx rfl (pc0 := 174) (pc' := 178) rfl (hb hby at_174) (by decide) (by decide)) ?_
            exact b178 T h Lc X eT N j54_L2 j151_L3 j151_L4 j81_S0 j119_S0 j133_S0 j151_S0 (1 : Int32)
  have b133 : ∀ (T : State) (h : Heap) (Lc : List Loc), Stand p l e room_1 s m #[(.int q0), (.int q1)] below meth c T Lc ((((0 + 1) + 0) + 1) + 0) ((((0 + 1) + 0) + 1) + 0) → T.heap = h → Fr n0 Lc → ∀ (j54_L2 : Int32) (j133_L3 : Addr) (j133_L4 : Addr) (j81_S0 : Int32) (j119_S0 : Int32) (j133_S0 : Int32), Exa Z h j133_L3 "com/example/rolewright/rolewright/expression/Term$LineBreak" → own_G p e below s (own_QF (some (.int (own_v0_133 q0 q1 j54_L2 j81_S0 j119_S0 j133_S0))) n0) room_1.cells room_1.slots (T.setTop (mkF m 133 #[.val (.int q0), .val (.int q1), .val (.int j54_L2), .val (.ref j133_L3), .val (.ref j133_L4), .val (.int (own_n0_44 q0)), .val (.int (own_n0_52 q0)), .val (.int (1 : Int32)), .val (.int (2 : Int32)), .val (.int j81_S0), .val (.int j119_S0), .unset, .unset] [(.int j133_S0)])) := by
    intro T h Lc X eT N j54_L2 j133_L3 j133_L4 j81_S0 j119_S0 j133_S0 EL
    show own_G p e below s (own_QF (some (.int (if (own_v3_0 (own_n0_44 q0)) = (own_n0_44 q0) then (own_v0_151 q0 q1 j54_L2 j81_S0 j119_S0 j133_S0 (1 : Int32)) else (own_v0_151 q0 q1 j54_L2 j81_S0 j119_S0 j133_S0 (0 : Int32))))) n0) room_1.cells room_1.slots (T.setTop (mkF m 133 #[.val (.int q0), .val (.int q1), .val (.int j54_L2), .val (.ref j133_L3), .val (.ref j133_L4), .val (.int (own_n0_44 q0)), .val (.int (own_n0_52 q0)), .val (.int (1 : Int32)), .val (.int (2 : Int32)), .val (.int j81_S0), .val (.int j119_S0), .unset, .unset] [(.int j133_S0)]))
    refine own_go (fun _ => XS.istore X.here hx rfl (hb hby at_133) rfl (l' := #[.val (.int q0), .val (.int q1), .val (.int j54_L2), .val (.ref j133_L3), .val (.ref j133_L4), .val (.int (own_n0_44 q0)), .val (.int (own_n0_52 q0)), .val (.int (1 : Int32)), .val (.int (2 : Int32)), .val (.int j81_S0), .val (.int j119_S0), .val (.int j133_S0), .unset]) rfl) ?_
    show own_G p e below s _ _ _ (T.setTop (mkF m 135 #[.val (.int q0), .val (.int q1), .val (.int j54_L2), .val (.ref j133_L3), .val (.ref j133_L4), .val (.int (own_n0_44 q0)), .val (.int (own_n0_52 q0)), .val (.int (1 : Int32)), .val (.int (2 : Int32)), .val (.int j81_S0), .val (.int j119_S0), .val (.int j133_S0), .unset] []))
    refine own_go (fun _ => XS.aloadN X.here hx rfl (hb hby at_135) rfl rfl) ?_
    show own_G p e below s _ _ _ (T.setTop (mkF m 136 #[.val (.int q0), .val (.int q1), .val (.int j54_L2), .val (.ref j133_L3), .val (.ref j133_L4), .val (.int (own_n0_44 q0)), .val (.int (own_n0_52 q0)), .val (.int (1 : Int32)), .val (.int (2 : Int32)), .val (.int j81_S0), .val (.int j119_S0), .val (.int j133_S0), .unset] [(.ref j133_L3)]))
    refine own_go (fun _ => XS.iload X.here hx rfl (hb hby at_136) rfl) ?_
    show own_G p e below s _ _ _ (T.setTop (mkF m 138 #[.val (.int q0), .val (.int q1), .val (.int j54_L2), .val (.ref j133_L3), .val (.ref j133_L4), .val (.int (own_n0_44 q0)), .val (.int (own_n0_52 q0)), .val (.int (1 : Int32)), .val (.int (2 : Int32)), .val (.int j81_S0), .val (.int j119_S0), .val (.int j133_S0), .unset] [(.int (own_n0_44 q0)), (.ref j133_L3)]))
    obtain ⟨T1, X1, e1, st1⟩ := own_callV X hx hZ hown (hw _ (List.mem_of_getElem? (i := 11) rfl)) (hw _ (List.mem_of_getElem? (i := 12) rfl)) (hw _ (List.mem_of_getElem? (i := 14) rfl)) (hw _ (List.mem_of_getElem? (i := 13) rfl)) (hw _ (List.mem_of_getElem? (i := 15) rfl)) (hw _ (List.mem_of_getElem? (i := 2) rfl)) (by decide) (rm3 l Z a0 hw [] j133_L3 (own_n0_44 q0) h) rfl rfl eT EL (W := 0) (by decide) (by decide) (by decide) (by decide) (g := (mkF m 138 #[.val (.int q0), .val (.int q1), .val (.int j54_L2), .val (.ref j133_L3), .val (.ref j133_L4), .val (.int (own_n0_44 q0)), .val (.int (own_n0_52 q0)), .val (.int (1 : Int32)), .val (.int (2 : Int32)), .val (.int j81_S0), .val (.int j119_S0), .val (.int j133_S0), .unset] [(.int (own_n0_44 q0)), (.ref j133_L3)])) rfl (by rw [hml]; rfl) (argsL := [(.int (own_n0_44 q0))]) (rest := []) (lenOf (by decide +kernel : parseMethodDescriptor "(I)I" = some ⟨[.int], some .int⟩) rfl) rfl rfl (by show 2 * 0 + _ ≤ _; exact Nat.le_of_eq rfl) (hb hby at_138)
    refine own_go (fun _ => st1 _) ?_
    show own_G p e below s _ _ _ (T1.setTop (mkF m 141 #[.val (.int q0), .val (.int q1), .val (.int j54_L2), .val (.ref j133_L3), .val (.ref j133_L4), .val (.int (own_n0_44 q0)), .val (.int (own_n0_52 q0)), .val (.int (1 : Int32)), .val (.int (2 : Int32)), .val (.int j81_S0), .val (.int j119_S0), .val (.int j133_S0), .unset] [(.int (own_v3_0 (own_n0_44 q0)))]))
    refine own_go (fun _ => XS.iload X1.here hx rfl (hb hby at_141) rfl) ?_
    show own_G p e below s _ _ _ (T1.setTop (mkF m 143 #[.val (.int q0), .val (.int q1), .val (.int j54_L2), .val (.ref j133_L3), .val (.ref j133_L4), .val (.int (own_n0_44 q0)), .val (.int (own_n0_52 q0)), .val (.int (1 : Int32)), .val (.int (2 : Int32)), .val (.int j81_S0), .val (.int j119_S0), .val (.int j133_S0), .unset] [(.int (own_n0_44 q0)), (.int (own_v3_0 (own_n0_44 q0)))]))
    by_cases hc143 : (own_v3_0 (own_n0_44 q0)) = (own_n0_44 q0)
    · refine own_eqF (if_pos hc143) ?_
      refine own_go (fun _ => XS.icmpNo X1.here hx rfl (hb hby at_143) rfl (teq hc143).2) ?_
      show own_G p e below s _ _ _ (T1.setTop (mkF m 146 #[.val (.int q0), .val (.int q1), .val (.int j54_L2), .val (.ref j133_L3), .val (.ref j133_L4), .val (.int (own_n0_44 q0)), .val (.int (own_n0_52 q0)), .val (.int (1 : Int32)), .val (.int (2 : Int32)), .val (.int j81_S0), .val (.int j119_S0), .val (.int j133_S0), .unset] []))
      refine own_go (fun _ => XS.iconst X1.here hx rfl (hb hby at_146)) ?_
      show own_G p e below s _ _ _ (T1.setTop (mkF m 147 #[.val (.int q0), .val (.int q1), .val (.int j54_L2), .val (.ref j133_L3), .val (.ref j133_L4), .val (.int (own_n0_44 q0)), .val (.int (own_n0_52 q0)), .val (.int (1 : Int32)), .val (.int (2 : Int32)), .val (.int j81_S0), .val (.int j119_S0), .val (.int j133_S0), .unset] [(.int (1 : Int32))]))
      refine own_go (fun _ => XS.goto X1.here hx rfl (pc0 := 147) (pc' := 151) rfl (hb hby at_147) (by decide) (by decide)) ?_
      exact b151 T1 h Lc X1 e1 N j54_L2 j133_L3 j133_L4 j81_S0 j119_S0 j133_S0 (1 : Int32)
    · refine own_eqF (if_neg hc143) ?_
      refine own_go (fun _ => XS.icmpYes X1.here hx rfl (pc0 := 143) (pc' := 150) rfl (hb hby at_143) rfl (feq hc143).2 (by decide) (by decide)) ?_
      show own_G p e below s _ _ _ (T1.setTop (mkF m 150 #[.val (.int q0), .val (.int q1), .val (.int j54_L2), .val (.ref j133_L3), .val (.ref j133_L4), .val (.int (own_n0_44 q0)), .val (.int (own_n0_52 q0)), .val (.int (1 : Int32)), .val (.int (2 : Int32)), .val (.int j81_S0), .val (.int j119_S0), .val (.int j133_S0), .unset] []))
      refine own_go (fun _ => XS.iconst X1.here hx rfl (hb hby at_150)) ?_
      exact b151 T1 h Lc X1 e1 N j54_L2 j133_L3 j133_L4 j81_S0 j119_S0 j133_S0 (0 : Int32)
  have b119 : ∀ (T : State) (h : Heap) (Lc : List Loc), Stand p l e room_1 s m #[(.int q0), (.int q1)] below meth c T Lc ((((0 + 1) + 0) + 1) + 0) ((((0 + 1) + 0) + 1) + 0) → T.heap = h → Fr n0 Lc → ∀ (j54_L2 : Int32) (j119_L3 : Addr) (j119_L4 : Addr) (j81_S0 : Int32) (j119_S0 : Int32), Exa Z h j119_L3 "com/example/rolewright/rolewright/expression/Term$LineBreak" → own_G p e below s (own_QF (some (.int (own_v0_119 q0 q1 j54_L2 j81_S0 j119_S0))) n0) room_1.cells room_1.slots (T.setTop (mkF m 119 #[.val (.int q0), .val (.int q1), .val (.int j54_L2), .val (.ref j119_L3), .val (.ref j119_L4), .val (.int (own_n0_44 q0)), .val (.int (own_n0_52 q0)), .val (.int (1 : Int32)), .val (.int (2 : Int32)), .val (.int j81_S0), .unset, .unset, .unset] [(.int j119_S0)])) := by
    intro T h Lc X eT N j54_L2 j119_L3 j119_L4 j81_S0 j119_S0 EL
    show own_G p e below s (own_QF (some (.int (if (own_n0_44 q0) = (own_n0_52 q0) then (own_v0_133 q0 q1 j54_L2 j81_S0 j119_S0 (1 : Int32)) else (own_v0_133 q0 q1 j54_L2 j81_S0 j119_S0 (0 : Int32))))) n0) room_1.cells room_1.slots (T.setTop (mkF m 119 #[.val (.int q0), .val (.int q1), .val (.int j54_L2), .val (.ref j119_L3), .val (.ref j119_L4), .val (.int (own_n0_44 q0)), .val (.int (own_n0_52 q0)), .val (.int (1 : Int32)), .val (.int (2 : Int32)), .val (.int j81_S0), .unset, .unset, .unset] [(.int j119_S0)]))
    refine own_go (fun _ => XS.istore X.here hx rfl (hb hby at_119) rfl (l' := #[.val (.int q0), .val (.int q1), .val (.int j54_L2), .val (.ref j119_L3), .val (.ref j119_L4), .val (.int (own_n0_44 q0)), .val (.int (own_n0_52 q0)), .val (.int (1 : Int32)), .val (.int (2 : Int32)), .val (.int j81_S0), .val (.int j119_S0), .unset, .unset]) rfl) ?_
    show own_G p e below s _ _ _ (T.setTop (mkF m 121 #[.val (.int q0), .val (.int q1), .val (.int j54_L2), .val (.ref j119_L3), .val (.ref j119_L4), .val (.int (own_n0_44 q0)), .val (.int (own_n0_52 q0)), .val (.int (1 : Int32)), .val (.int (2 : Int32)), .val (.int j81_S0), .val (.int j119_S0), .unset, .unset] []))
    refine own_go (fun _ => XS.iload X.here hx rfl (hb hby at_121) rfl) ?_
    show own_G p e below s _ _ _ (T.setTop (mkF m 123 #[.val (.int q0), .val (.int q1), .val (.int j54_L2), .val (.ref j119_L3), .val (.ref j119_L4), .val (.int (own_n0_44 q0)), .val (.int (own_n0_52 q0)), .val (.int (1 : Int32)), .val (.int (2 : Int32)), .val (.int j81_S0), .val (.int j119_S0), .unset, .unset] [(.int (own_n0_44 q0))]))
    refine own_go (fun _ => XS.iload X.here hx rfl (hb hby at_123) rfl) ?_
    show own_G p e below s _ _ _ (T.setTop (mkF m 125 #[.val (.int q0), .val (.int q1), .val (.int j54_L2), .val (.ref j119_L3), .val (.ref j119_L4), .val (.int (own_n0_44 q0)), .val (.int (own_n0_52 q0)), .val (.int (1 : Int32)), .val (.int (2 : Int32)), .val (.int j81_S0), .val (.int j119_S0), .unset, .unset] [(.int (own_n0_52 q0)), (.int (own_n0_44 q0))]))
    by_cases hc125 : (own_n0_44 q0) = (own_n0_52 q0)
    · refine own_eqF (if_pos hc125) ?_
      refine own_go (fun _ => XS.icmpNo X.here hx rfl (hb hby at_125) rfl (teq hc125).2) ?_
      show own_G p e below s _ _ _ (T.setTop (mkF m 128 #[.val (.int q0), .val (.int q1), .val (.int j54_L2), .val (.ref j119_L3), .val (.ref j119_L4), .val (.int (own_n0_44 q0)), .val (.int (own_n0_52 q0)), .val (.int (1 : Int32)), .val (.int (2 : Int32)), .val (.int j81_S0), .val (.int j119_S0), .unset, .unset] []))
      refine own_go (fun _ => XS.iconst X.here hx rfl (hb hby at_128)) ?_
      show own_G p e below s _ _ _ (T.setTop (mkF m 129 #[.val (.int q0), .val (.int q1), .val (.int j54_L2), .val (.ref j119_L3), .val (.ref j119_L4), .val (.int (own_n0_44 q0)), .val (.int (own_n0_52 q0)), .val (.int (1 : Int32)), .val (.int (2 : Int32)), .val (.int j81_S0), .val (.int j119_S0), .unset, .unset] [(.int (1 : Int32))]))
      refine own_go (fun _ => XS.goto X.here hx rfl (pc0 := 129) (pc' := 133) rfl (hb hby at_129) (by decide) (by decide)) ?_
      exact b133 T h Lc X eT N j54_L2 j119_L3 j119_L4 j81_S0 j119_S0 (1 : Int32) EL
    · refine own_eqF (if_neg hc125) ?_
      refine own_go (fun _ => XS.icmpYes X.here hx rfl (pc0 := 125) (pc' := 132) rfl (hb hby at_125) rfl (feq hc125).2 (by decide) (by decide)) ?_
      show own_G p e below s _ _ _ (T.setTop (mkF m 132 #[.val (.int q0), .val (.int q1), .val (.int j54_L2), .val (.ref j119_L3), .val (.ref j119_L4), .val (.int (own_n0_44 q0)), .val (.int (own_n0_52 q0)), .val (.int (1 : Int32)), .val (.int (2 : Int32)), .val (.int j81_S0), .val (.int j119_S0), .unset, .unset] []))
      refine own_go (fun _ => XS.iconst X.here hx rfl (hb hby at_132)) ?_
      exact b133 T h Lc X eT N j54_L2 j119_L3 j119_L4 j81_S0 j119_S0 (0 : Int32) EL
  have b111 : ∀ (T : State) (h : Heap) (Lc : List Loc), Stand p l e room_1 s m #[(.int q0), (.int q1)] below meth c T Lc ((((0 + 1) + 0) + 1) + 0) ((((0 + 1) + 0) + 1) + 0) → T.heap = h → Fr n0 Lc → ∀ (j54_L2 : Int32) (j111_L3 : Addr) (j111_L4 : Addr) (j81_S0 : Int32) (j111_S0 : Int32) (j96_S0 : Int32), Exa Z h j111_L3 "com/example/rolewright/rolewright/expression/Term$LineBreak" → own_G p e below s (own_QF (some (.int (own_v0_111 q0 q1 j54_L2 j81_S0 j111_S0 j96_S0))) n0) room_1.cells room_1.slots (T.setTop (mkF m 111 #[.val (.int q0), .val (.int q1), .val (.int j54_L2), .val (.ref j111_L3), .val (.ref j111_L4), .val (.int (own_n0_44 q0)), .val (.int (own_n0_52 q0)), .val (.int (1 : Int32)), .val (.int (2 : Int32)), .val (.int j81_S0), .unset, .unset, .unset] [(.int j111_S0), (.int j96_S0)])) := by
    intro T h Lc X eT N j54_L2 j111_L3 j111_L4 j81_S0 j111_S0 j96_S0 EL
    show own_G p e below s (own_QF (some (.int (if j96_S0 = j111_S0 then (own_v0_119 q0 q1 j54_L2 j81_S0 (1 : Int32)) else (own_v0_119 q0 q1 j54_L2 j81_S0 (0 : Int32))))) n0) room_1.cells room_1.slots (T.setTop (mkF m 111 #[.val (.int q0), .val (.int q1), .val (.int j54_L2), .val (.ref j111_L3), .val (.ref j111_L4), .val (.int (own_n0_44 q0)), .val (.int (own_n0_52 q0)), .val (.int (1 : Int32)), .val (.int (2 : Int32)), .val (.int j81_S0), .unset, .unset, .unset] [(.int j111_S0), (.int j96_S0)]))
    by_cases hc111 : j96_S0 = j111_S0
    · refine own_eqF (if_pos hc111) ?_
      refine own_go (fun _ => XS.icmpNo X.here hx rfl (hb hby at_111) rfl (teq hc111).2) ?_
      show own_G p e below s _ _ _ (T.setTop (mkF m 114 #[.val (.int q0), .val (.int q1), .val (.int j54_L2), .val (.ref j111_L3), .val (.ref j111_L4), .val (.int (own_n0_44 q0)), .val (.int (own_n0_52 q0)), .val (.int (1 : Int32)), .val (.int (2 : Int32)), .val (.int j81_S0), .unset, .unset, .unset] []))
      refine own_go (fun _ => XS.iconst X.here hx rfl (hb hby at_114)) ?_
      show own_G p e below s _ _ _ (T.setTop (mkF m 115 #[.val (.int q0), .val (.int q1), .val (.int j54_L2), .val (.ref j111_L3), .val (.ref j111_L4), .val (.int (own_n0_44 q0)), .val (.int (own_n0_52 q0)), .val (.int (1 : Int32)), .val (.int (2 : Int32)), .val (.int j81_S0), .unset, .unset, .unset] [(.int (1 : Int32))]))
      refine own_go (fun _ => XS.goto X.here hx rfl (pc0 := 115) (pc' := 119) rfl (hb hby at_115) (by decide) (by decide)) ?_
      exact b119 T h Lc X eT N j54_L2 j111_L3 j111_L4 j81_S0 (1 : Int32) EL
    · refine own_eqF (if_neg hc111) ?_
      refine own_go (fun _ => XS.icmpYes X.here hx rfl (pc0 := 111) (pc' := 118) rfl (hb hby at_111) rfl (feq hc111).2 (by decide) (by decide)) ?_
      show own_G p e below s _ _ _ (T.setTop (mkF m 118 #[.val (.int q0), .val (.int q1), .val (.int j54_L2), .val (.ref j111_L3), .val (.ref j111_L4), .val (.int (own_n0_44 q0)), .val (.int (own_n0_52 q0)), .val (.int (1 : Int32)), .val (.int (2 : Int32)), .val (.int j81_S0), .unset, .unset, .unset] []))
      refine own_go (fun _ => XS.iconst X.here hx rfl (hb hby at_118)) ?_
      exact b119 T h Lc X eT N j54_L2 j111_L3 j111_L4 j81_S0 (0 : Int32) EL
  have b96 : ∀ (T : State) (h : Heap) (Lc : List Loc), Stand p l e room_1 s m #[(.int q0), (.int q1)] below meth c T Lc ((((0 + 1) + 0) + 1) + 0) ((((0 + 1) + 0) + 1) + 0) → T.heap = h → Fr n0 Lc → ∀ (j54_L2 : Int32) (j96_L3 : Addr) (j96_L4 : Addr) (j81_S0 : Int32) (j96_S0 : Int32), Exa Z h j96_L3 "com/example/rolewright/rolewright/expression/Term$LineBreak" → own_G p e below s (own_QF (some (.int (own_v0_96 q0 q1 j54_L2 j81_S0 j96_S0))) n0) room_1.cells room_1.slots (T.setTop (mkF m 96 #[.val (.int q0), .val (.int q1), .val (.int j54_L2), .val (.ref j96_L3), .val (.ref j96_L4), .val (.int (own_n0_44 q0)), .val (.int (own_n0_52 q0)), .val (.int (1 : Int32)), .val (.int (2 : Int32)), .val (.int j81_S0), .unset, .unset, .unset] [(.int j96_S0)])) := by
    intro T h Lc X eT N j54_L2 j96_L3 j96_L4 j81_S0 j96_S0 EL
    show own_G p e below s (own_QF (some (.int (if (q0 &&& ((1 : Int32) ||| (2 : Int32))) = (0 : Int32) then (own_v0_111 q0 q1 j54_L2 j81_S0 (0 : Int32) j96_S0) else (own_v0_111 q0 q1 j54_L2 j81_S0 (1 : Int32) j96_S0)))) n0) room_1.cells room_1.slots (T.setTop (mkF m 96 #[.val (.int q0), .val (.int q1), .val (.int j54_L2), .val (.ref j96_L3), .val (.ref j96_L4), .val (.int (own_n0_44 q0)), .val (.int (own_n0_52 q0)), .val (.int (1 : Int32)), .val (.int (2 : Int32)), .val (.int j81_S0), .unset, .unset, .unset] [(.int j96_S0)]))
    refine own_go (fun _ => XS.iloadN X.here hx rfl (hb hby at_96) rfl) ?_
    show own_G p e below s _ _ _ (T.setTop (mkF m 97 #[.val (.int q0), .val (.int q1), .val (.int j54_L2), .val (.ref j96_L3), .val (.ref j96_L4), .val (.int (own_n0_44 q0)), .val (.int (own_n0_52 q0)), .val (.int (1 : Int32)), .val (.int (2 : Int32)), .val (.int j81_S0), .unset, .unset, .unset] [(.int q0), (.int j96_S0)]))
    refine own_go (fun _ => XS.iload X.here hx rfl (hb hby at_97) rfl) ?_
    show own_G p e below s _ _ _ (T.setTop (mkF m 99 #[.val (.int q0), .val (.int q1), .val (.int j54_L2), .val (.ref j96_L3), .val (.ref j96_L4), .val (.int (own_n0_44 q0)), .val (.int (own_n0_52 q0)), .val (.int (1 : Int32)), .val (.int (2 : Int32)), .val (.int j81_S0), .unset, .unset, .unset] [(.int (1 : Int32)), (.int q0), (.int j96_S0)]))
    refine own_go (fun _ => XS.iload X.here hx rfl (hb hby at_99) rfl) ?_
    show own_G p e below s _ _ _ (T.setTop (mkF m 101 #[.val (.int q0), .val (.int q1), .val (.int j54_L2), .val (.ref j96_L3), .val (.ref j96_L4), .val (.int (own_n0_44 q0)), .val (.int (own_n0_52 q0)), .val (.int (1 : Int32)), .val (.int (2 : Int32)), .val (.int j81_S0), .unset, .unset, .unset] [(.int (2 : Int32)), (.int (1 : Int32)), (.int q0), (.int j96_S0)]))
    refine own_go (fun _ => XS.ior X.here hx rfl (hb hby at_101) rfl) ?_
    show own_G p e below s _ _ _ (T.setTop (mkF m 102 #[.val (.int q0), .val (.int q1), .val (.int j54_L2), .val (.ref j96_L3), .val (.ref j96_L4), .val (.int (own_n0_44 q0)), .val (.int (own_n0_52 q0)), .val (.int (1 : Int32)), .val (.int (2 : Int32)), .val (.int j81_S0), .unset, .unset, .unset] [(.int ((1 : Int32) ||| (2 : Int32))), (.int q0), (.int j96_S0)]))
    refine own_go (fun _ => XS.iand X.here hx rfl (hb hby at_102) rfl) ?_
    show own_G p e below s _ _ _ (T.setTop (mkF m 103 #[.val (.int q0), .val (.int q1), .val (.int j54_L2), .val (.ref j96_L3), .val (.ref j96_L4), .val (.int (own_n0_44 q0)), .val (.int (own_n0_52 q0)), .val (.int (1 : Int32)), .val (.int (2 : Int32)), .val (.int j81_S0), .unset, .unset, .unset] [(.int (q0 &&& ((1 : Int32) ||| (2 : Int32)))), (.int j96_S0)]))
    by_cases hc103 : (q0 &&& ((1 : Int32) ||| (2 : Int32))) = (0 : Int32)
    · refine own_eqF (if_pos hc103) ?_
      refine own_go (fun _ => XS.ifYes X.here hx rfl (pc0 := 103) (pc' := 110) rfl (hb hby at_103) rfl ((if0 _ _).trans (teq hc103).1) (by decide) (by decide)) ?_
      show own_G p e below s _ _ _ (T.setTop (mkF m 110 #[.val (.int q0), .val (.int q1), .val (.int j54_L2), .val (.ref j96_L3), .val (.ref j96_L4), .val (.int (own_n0_44 q0)), .val (.int (own_n0_52 q0)), .val (.int (1 : Int32)), .val (.int (2 : Int32)), .val (.int j81_S0), .unset, .unset, .unset] [(.int j96_S0)]))
      refine own_go (fun _ => XS.iconst X.here hx rfl (hb hby at_110)) ?_
      exact b111 T h Lc X eT N j54_L2 j96_L3 j96_L4 j81_S0 (0 : Int32) j96_S0 EL
    · refine own_eqF (if_neg hc103) ?_
      refine own_go (fun _ => XS.ifNo X.here hx rfl (hb hby at_103) rfl ((if0 _ _).trans (feq hc103).1)) ?_
      show own_G p e below s _ _ _ (T.setTop (mkF m 106 #[.val (.int q0), .val (.int q1), .val (.int j54_L2), .val (.ref j96_L3), .val (.ref j96_L4), .val (.int (own_n0_44 q0)), .val (.int (own_n0_52 q0)), .val (.int (1 : Int32)), .val (.int (2 : Int32)), .val (.int j81_S0), .unset, .unset, .unset] [(.int j96_S0)]))
      refine own_go (fun _ => XS.iconst X.here hx rfl (hb hby at_106)) ?_
      show own_G p e below s _ _ _ (T.setTop (mkF m 107 #[.val (.int q0), .val (.int q1), .val (.int j54_L2), .val (.ref j96_L3), .val (.ref j96_L4), .val (.int (own_n0_44 q0)), .val (.int (own_n0_52 q0)), .val (.int (1 : Int32)), .val (.int (2 : Int32)), .val (.int j81_S0), .unset, .unset, .unset] [(.int (1 : Int32)), (.int j96_S0)]))
      refine own_go (fun _ => XS.goto X.here hx rfl (pc0 := 107) (pc' := 111) rfl (hb hby at_107) (by decide) (by decide)) ?_
      exact b111 T h Lc X eT N j54_L2 j96_L3 j96_L4 j81_S0 (1 : Int32) j96_S0 EL
  have b81 : ∀ (T : State) (h : Heap) (Lc : List Loc), Stand p l e room_1 s m #[(.int q0), (.int q1)] below meth c T Lc ((((0 + 1) + 0) + 1) + 0) ((((0 + 1) + 0) + 1) + 0) → T.heap = h → Fr n0 Lc → ∀ (j54_L2 : Int32) (j81_L3 : Addr) (j81_L4 : Addr) (j81_S0 : Int32), Exa Z h j81_L3 "com/example/rolewright/rolewright/expression/Term$LineBreak" → own_G p e below s (own_QF (some (.int (own_v0_81 q0 q1 j54_L2 j81_S0))) n0) room_1.cells room_1.slots (T.setTop (mkF m 81 #[.val (.int q0), .val (.int q1), .val (.int j54_L2), .val (.ref j81_L3), .val (.ref j81_L4), .val (.int (own_n0_44 q0)), .val (.int (own_n0_52 q0)), .val (.int (1 : Int32)), .val (.int (2 : Int32)), .unset, .unset, .unset, .unset] [(.int j81_S0)])) := by
    intro T h Lc X eT N j54_L2 j81_L3 j81_L4 j81_S0 EL
    show own_G p e below s (own_QF (some (.int (if ((own_n0_44 q0) &&& (1 : Int32)) = (0 : Int32) then (own_v0_96 q0 q1 j54_L2 j81_S0 (0 : Int32)) else (own_v0_96 q0 q1 j54_L2 j81_S0 (1 : Int32))))) n0) room_1.cells room_1.slots (T.setTop (mkF m 81 #[.val (.int q0), .val (.int q1), .val (.int j54_L2), .val (.ref j81_L3), .val (.ref j81_L4), .val (.int (own_n0_44 q0)), .val (.int (own_n0_52 q0)), .val (.int (1 : Int32)), .val (.int (2 : Int32)), .unset, .unset, .unset, .unset] [(.int j81_S0)]))
    refine own_go (fun _ => XS.istore X.here hx rfl (hb hby at_81) rfl (l' := #[.val (.int q0), .val (.int q1), .val (.int j54_L2), .val (.ref j81_L3), .val (.ref j81_L4), .val (.int (own_n0_44 q0)), .val (.int (own_n0_52 q0)), .val (.int (1 : Int32)), .val (.int (2 : Int32)), .val (.int j81_S0), .unset, .unset, .unset]) rfl) ?_
    show own_G p e below s _ _ _ (T.setTop (mkF m 83 #[.val (.int q0), .val (.int q1), .val (.int j54_L2), .val (.ref j81_L3), .val (.ref j81_L4), .val (.int (own_n0_44 q0)), .val (.int (own_n0_52 q0)), .val (.int (1 : Int32)), .val (.int (2 : Int32)), .val (.int j81_S0), .unset, .unset, .unset] []))
    refine own_go (fun _ => XS.iload X.here hx rfl (hb hby at_83) rfl) ?_
    show own_G p e below s _ _ _ (T.setTop (mkF m 85 #[.val (.int q0), .val (.int q1), .val (.int j54_L2), .val (.ref j81_L3), .val (.ref j81_L4), .val (.int (own_n0_44 q0)), .val (.int (own_n0_52 q0)), .val (.int (1 : Int32)), .val (.int (2 : Int32)), .val (.int j81_S0), .unset, .unset, .unset] [(.int (own_n0_44 q0))]))
    refine own_go (fun _ => XS.iload X.here hx rfl (hb hby at_85) rfl) ?_
    show own_G p e below s _ _ _ (T.setTop (mkF m 87 #[.val (.int q0), .val (.int q1), .val (.int j54_L2), .val (.ref j81_L3), .val (.ref j81_L4), .val (.int (own_n0_44 q0)), .val (.int (own_n0_52 q0)), .val (.int (1 : Int32)), .val (.int (2 : Int32)), .val (.int j81_S0), .unset, .unset, .unset] [(.int (1 : Int32)), (.int (own_n0_44 q0))]))
    refine own_go (fun _ => XS.iand X.here hx rfl (hb hby at_87) rfl) ?_
    show own_G p e below s _ _ _ (T.setTop (mkF m 88 #[.val (.int q0), .val (.int q1), .val (.int j54_L2), .val (.ref j81_L3), .val (.ref j81_L4), .val (.int (own_n0_44 q0)), .val (.int (own_n0_52 q0)), .val (.int (1 : Int32)), .val (.int (2 : Int32)), .val (.int j81_S0), .unset, .unset, .unset] [(.int ((own_n0_44 q0) &&& (1 : Int32)))]))
    by_cases hc88 : ((own_n0_44 q0) &&& (1 : Int32)) = (0 : Int32)
    · refine own_eqF (if_pos hc88) ?_
      refine own_go (fun _ => XS.ifYes X.here hx rfl (pc0 := 88) (pc' := 95) rfl (hb hby at_88) rfl ((if0 _ _).trans (teq hc88).1) (by decide) (by decide)) ?_
      show own_G p e below s _ _ _ (T.setTop (mkF m 95 #[.val (.int q0), .val (.int q1), .val (.int j54_L2), .val (.ref j81_L3), .val (.ref j81_L4), .val (.int (own_n0_44 q0)), .val (.int (own_n0_52 q0)), .val (.int (1 : Int32)), .val (.int (2 : Int32)), .val (.int j81_S0), .unset, .unset, .unset] []))
      refine own_go (fun _ => XS.iconst X.here hx rfl (hb hby at_95)) ?_
      exact b96 T h Lc X eT N j54_L2 j81_L3 j81_L4 j81_S0 (0 : Int32) EL
    · refine own_eqF (if_neg hc88) ?_
      refine own_go (fun _ => XS.ifNo X.here hx rfl (hb hby at_88) rfl ((if0 _ _).trans (feq hc88).1)) ?_
      show own_G p e below s _ _ _ (T.setTop (mkF m 91 #[.val (.int q0), .val (.int q1), .val (.int j54_L2), .val (.ref j81_L3), .val (.ref j81_L4), .val (.int (own_n0_44 q0)), .val (.int (own_n0_52 q0)), .val (.int (1 : Int32)), .val (.int (2 : Int32)), .val (.int j81_S0), .unset, .unset, .unset] []))
      refine own_go (fun _ => XS.iconst X.here hx rfl (hb hby at_91)) ?_
      show own_G p e below s _ _ _ (T.setTop (mkF m 92 #[.val (.int q0), .val (.int q1), .val (.int j54_L2), .val (.ref j81_L3), .val (.ref j81_L4), .val (.int (own_n0_44 q0)), .val (.int (own_n0_52 q0)), .val (.int (1 : Int32)), .val (.int (2 : Int32)), .val (.int j81_S0), .unset, .unset, .unset] [(.int (1 : Int32))]))
      refine own_go (fun _ => XS.goto X.here hx rfl (pc0 := 92) (pc' := 96) rfl (hb hby at_92) (by decide) (by decide)) ?_
      exact b96 T h Lc X eT N j54_L2 j81_L3 j81_L4 j81_S0 (1 : Int32) EL
  have b54 : ∀ (T : State) (h : Heap) (Lc : List Loc), Stand p l e room_1 s m #[(.int q0), (.int q1)] below meth c T Lc ((((0 + 1) + 0) + 1) + 0) ((((0 + 1) + 0) + 1) + 0) → T.heap = h → Fr n0 Lc → ∀ (j54_L2 : Int32) (j54_L3 : Addr) (j54_L4 : Addr), Exa Z h j54_L3 "com/example/rolewright/rolewright/expression/Term$LineBreak" → own_G p e below s (own_QF (some (.int (own_v0_54 q0 q1 j54_L2))) n0) room_1.cells room_1.slots (T.setTop (mkF m 54 #[.val (.int q0), .val (.int q1), .val (.int j54_L2), .val (.ref j54_L3), .val (.ref j54_L4), .val (.int (own_n0_44 q0)), .val (.int (own_n0_52 q0)), .unset, .unset, .unset, .unset, .unset, .unset] [])) := by
    intro T h Lc X eT N j54_L2 j54_L3 j54_L4 EL
    show own_G p e below s (own_QF (some (.int (if ((own_n0_44 q0) &&& ((1 : Int32) ^^^ (-1 : Int32))) = (q0 &&& ((1 : Int32) ^^^ (-1 : Int32))) then (own_v0_81 q0 q1 j54_L2 (1 : Int32)) else (own_v0_81 q0 q1 j54_L2 (0 : Int32))))) n0) room_1.cells room_1.slots (T.setTop (mkF m 54 #[.val (.int q0), .val (.int q1), .val (.int j54_L2), .val (.ref j54_L3), .val (.ref j54_L4), .val (.int (own_n0_44 q0)), .val (.int (own_n0_52 q0)), .unset, .unset, .unset, .unset, .unset, .unset] []))
    refine own_go (fun _ => XS.iconst X.here hx rfl (hb hby at_54)) ?_
    show own_G p e below s _ _ _ (T.setTop (mkF m 55 #[.val (.int q0), .val (.int q1), .val (.int j54_L2), .val (.ref j54_L3), .val (.ref j54_L4), .val (.int (own_n0_44 q0)), .val (.int (own_n0_52 q0)), .unset, .unset, .unset, .unset, .unset, .unset] [(.int (1 : Int32))]))
    refine own_go (fun _ => XS.istore X.here hx rfl (hb hby at_55) rfl (l' := #[.val (.int q0), .val (.int q1), .val (.int j54_L2), .val (.ref j54_L3), .val (.ref j54_L4), .val (.int (own_n0_44 q0)), .val (.int (own_n0_52 q0)), .val (.int (1 : Int32)), .unset, .unset, .unset, .unset, .unset]) rfl) ?_
    show own_G p e below s _ _ _ (T.setTop (mkF m 57 #[.val (.int q0), .val (.int q1), .val (.int j54_L2), .val (.ref j54_L3), .val (.ref j54_L4), .val (.int (own_n0_44 q0)), .val (.int (own_n0_52 q0)), .val (.int (1 : Int32)), .unset, .unset, .unset, .unset, .unset] []))
    refine own_go (fun _ => XS.iconst X.here hx rfl (hb hby at_57)) ?_
    show own_G p e below s _ _ _ (T.setTop (mkF m 58 #[.val (.int q0), .val (.int q1), .val (.int j54_L2), .val (.ref j54_L3), .val (.ref j54_L4), .val (.int (own_n0_44 q0)), .val (.int (own_n0_52 q0)), .val (.int (1 : Int32)), .unset, .unset, .unset, .unset, .unset] [(.int (2 : Int32))]))
    refine own_go (fun _ => XS.istore X.here hx rfl (hb hby at_58) rfl (l' := #[.val (.int q0), .val (.int q1), .val (.int j54_L2), .val (.ref j54_L3), .val (.ref j54_L4), .val (.int (own_n0_44 q0)), .val (.int (own_n0_52 q0)), .val (.int (1 : Int32)), .val (.int (2 : Int32)), .unset, .unset, .unset, .unset]) rfl) ?_
    show own_G p e below s _ _ _ (T.setTop (mkF m 60 #[.val (.int q0), .val (.int q1), .val (.int j54_L2), .val (.ref j54_L3), .val (.ref j54_L4), .val (.int (own_n0_44 q0)), .val (.int (own_n0_52 q0)), .val (.int (1 : Int32)), .val (.int (2 : Int32)), .unset, .unset, .unset, .unset] []))
    refine own_go (fun _ => XS.iload X.here hx rfl (hb hby at_60) rfl) ?_
    show own_G p e below s _ _ _ (T.setTop (mkF m 62 #[.val (.int q0), .val (.int q1), .val (.int j54_L2), .val (.ref j54_L3), .val (.ref j54_L4), .val (.int (own_n0_44 q0)), .val (.int (own_n0_52 q0)), .val (.int (1 : Int32)), .val (.int (2 : Int32)), .unset, .unset, .unset, .unset] [(.int (own_n0_44 q0))]))
    refine own_go (fun _ => XS.iload X.here hx rfl (hb hby at_62) rfl) ?_
    show own_G p e below s _ _ _ (T.setTop (mkF m 64 #[.val (.int q0), .val (.int q1), .val (.int j54_L2), .val (.ref j54_L3), .val (.ref j54_L4), .val (.int (own_n0_44 q0)), .val (.int (own_n0_52 q0)), .val (.int (1 : Int32)), .val (.int (2 : Int32)), .unset, .unset, .unset, .unset] [(.int (1 : Int32)), (.int (own_n0_44 q0))]))
    refine own_go (fun _ => XS.iconst X.here hx rfl (hb hby at_64)) ?_
    show own_G p e below s _ _ _ (T.setTop (mkF m 65 #[.val (.int q0), .val (.int q1), .val (.int j54_L2), .val (.ref j54_L3), .val (.ref j54_L4), .val (.int (own_n0_44 q0)), .val (.int (own_n0_52 q0)), .val (.int (1 : Int32)), .val (.int (2 : Int32)), .unset, .unset, .unset, .unset] [(.int (-1 : Int32)), (.int (1 : Int32)), (.int (own_n0_44 q0))]))
    refine own_go (fun _ => XS.ixor X.here hx rfl (hb hby at_65) rfl) ?_
    show own_G p e below s _ _ _ (T.setTop (mkF m 66 #[.val (.int q0), .val (.int q1), .val (.int j54_L2), .val (.ref j54_L3), .val (.ref j54_L4), .val (.int (own_n0_44 q0)), .val (.int (own_n0_52 q0)), .val (.int (1 : Int32)), .val (.int (2 : Int32)), .unset, .unset, .unset, .unset] [(.int ((1 : Int32) ^^^ (-1 : Int32))), (.int (own_n0_44 q0))]))
    refine own_go (fun _ => XS.iand X.here hx rfl (hb hby at_66) rfl) ?_
    show own_G p e below s _ _ _ (T.setTop (mkF m 67 #[.val (.int q0), .val (.int q1), .val (.int j54_L2), .val (.ref j54_L3), .val (.ref j54_L4), .val (.int (own_n0_44 q0)), .val (.int (own_n0_52 q0)), .val (.int (1 : Int32)), .val (.int (2 : Int32)), .unset, .unset, .unset, .unset] [(.int ((own_n0_44 q0) &&& ((1 : Int32) ^^^ (-1 : Int32))))]))
    refine own_go (fun _ => XS.iloadN X.here hx rfl (hb hby at_67) rfl) ?_
    show own_G p e below s _ _ _ (T.setTop (mkF m 68 #[.val (.int q0), .val (.int q1), .val (.int j54_L2), .val (.ref j54_L3), .val (.ref j54_L4), .val (.int (own_n0_44 q0)), .val (.int (own_n0_52 q0)), .val (.int (1 : Int32)), .val (.int (2 : Int32)), .unset, .unset, .unset, .unset] [(.int q0), (.int ((own_n0_44 q0) &&& ((1 : Int32) ^^^ (-1 : Int32))))]))
    refine own_go (fun _ => XS.iload X.here hx rfl (hb hby at_68) rfl) ?_
    show own_G p e below s _ _ _ (T.setTop (mkF m 70 #[.val (.int q0), .val (.int q1), .val (.int j54_L2), .val (.ref j54_L3), .val (.ref j54_L4), .val (.int (own_n0_44 q0)), .val (.int (own_n0_52 q0)), .val (.int (1 : Int32)), .val (.int (2 : Int32)), .unset, .unset, .unset, .unset] [(.int (1 : Int32)), (.int q0), (.int ((own_n0_44 q0) &&& ((1 : Int32) ^^^ (-1 : Int32))))]))
    refine own_go (fun _ => XS.iconst X.here hx rfl (hb hby at_70)) ?_
    show own_G p e below s _ _ _ (T.setTop (mkF m 71 #[.val (.int q0), .val (.int q1), .val (.int j54_L2), .val (.ref j54_L3), .val (.ref j54_L4), .val (.int (own_n0_44 q0)), .val (.int (own_n0_52 q0)), .val (.int (1 : Int32)), .val (.int (2 : Int32)), .unset, .unset, .unset, .unset] [(.int (-1 : Int32)), (.int (1 : Int32)), (.int q0), (.int ((own_n0_44 q0) &&& ((1 : Int32) ^^^ (-1 : Int32))))]))
    refine own_go (fun _ => XS.ixor X.here hx rfl (hb hby at_71) rfl) ?_
    show own_G p e below s _ _ _ (T.setTop (mkF m 72 #[.val (.int q0), .val (.int q1), .val (.int j54_L2), .val (.ref j54_L3), .val (.ref j54_L4), .val (.int (own_n0_44 q0)), .val (.int (own_n0_52 q0)), .val (.int (1 : Int32)), .val (.int (2 : Int32)), .unset, .unset, .unset, .unset] [(.int ((1 : Int32) ^^^ (-1 : Int32))), (.int q0), (.int ((own_n0_44 q0) &&& ((1 : Int32) ^^^ (-1 : Int32))))]))
    refine own_go (fun _ => XS.iand X.here hx rfl (hb hby at_72) rfl) ?_
    show own_G p e below s _ _ _ (T.setTop (mkF m 73 #[.val (.int q0), .val (.int q1), .val (.int j54_L2), .val (.ref j54_L3), .val (.ref j54_L4), .val (.int (own_n0_44 q0)), .val (.int (own_n0_52 q0)), .val (.int (1 : Int32)), .val (.int (2 : Int32)), .unset, .unset, .unset, .unset] [(.int (q0 &&& ((1 : Int32) ^^^ (-1 : Int32)))), (.int ((own_n0_44 q0) &&& ((1 : Int32) ^^^ (-1 : Int32))))]))
    by_cases hc73 : ((own_n0_44 q0) &&& ((1 : Int32) ^^^ (-1 : Int32))) = (q0 &&& ((1 : Int32) ^^^ (-1 : Int32)))
    · refine own_eqF (if_pos hc73) ?_
      refine own_go (fun _ => XS.icmpNo X.here hx rfl (hb hby at_73) rfl (teq hc73).2) ?_
      show own_G p e below s _ _ _ (T.setTop (mkF m 76 #[.val (.int q0), .val (.int q1), .val (.int j54_L2), .val (.ref j54_L3), .val (.ref j54_L4), .val (.int (own_n0_44 q0)), .val (.int (own_n0_52 q0)), .val (.int (1 : Int32)), .val (.int (2 : Int32)), .unset, .unset, .unset, .unset] []))
      refine own_go (fun _ => XS.iconst X.here hx rfl (hb hby at_76)) ?_
      show own_G p e below s _ _ _ (T.setTop (mkF m 77 #[.val (.int q0), .val (.int q1), .val (.int j54_L2), .val (.ref j54_L3), .val (.ref j54_L4), .val (.int (own_n0_44 q0)), .val (.int (own_n0_52 q0)), .val (.int (1 : Int32)), .val (.int (2 : Int32)), .unset, .unset, .unset, .unset] [(.int (1 : Int32))]))
      refine own_go (fun _ => XS.goto X.here hx rfl (pc0 := 77) (pc' := 81) rfl (hb hby at_77) (by decide) (by decide)) ?_
      exact b81 T h Lc X eT N j54_L2 j54_L3 j54_L4 (1 : Int32) EL
    · refine own_eqF (if_neg hc73) ?_
      refine own_go (fun _ => XS.icmpYes X.here hx rfl (pc0 := 73) (pc' := 80) rfl (hb hby at_73) rfl (feq hc73).2 (by decide) (by decide)) ?_
      show own_G p e below s _ _ _ (T.setTop (mkF m 80 #[.val (.int q0), .val (.int q1), .val (.int j54_L2), .val (.ref j54_L3), .val (.ref j54_L4), .val (.int (own_n0_44 q0)), .val (.int (own_n0_52 q0)), .val (.int (1 : Int32)), .val (.int (2 : Int32)), .unset, .unset, .unset, .unset] []))
      refine own_go (fun _ => XS.iconst X.here hx rfl (hb hby at_80)) ?_
      exact b81 T h Lc X eT N j54_L2 j54_L3 j54_L4 (0 : Int32) EL
  refine own_G0 (own_go (fun _ k => castTop (ef_0 m q0 q1) k) ?_)
  show own_G p e below s (own_QF (some (.int (if (q1 &&& (1 : Int32)) = (0 : Int32) then (own_v0_54 q0 q1 (0 : Int32)) else (own_v0_54 q0 q1 (1 : Int32))))) n0) room_1.cells room_1.slots (s₁.setTop (mkF m 0 #[.val (.int q0), .val (.int q1), .unset, .unset, .unset, .unset, .unset, .unset, .unset, .unset, .unset, .unset, .unset] []))
  refine own_go (fun _ => XS.iloadN X0.here hx rfl (hb hby at_0) rfl) ?_
  show own_G p e below s _ _ _ (s₁.setTop (mkF m 1 #[.val (.int q0), .val (.int q1), .unset, .unset, .unset, .unset, .unset, .unset, .unset, .unset, .unset, .unset, .unset] [(.int q1)]))
  refine own_go (fun _ => XS.iconst X0.here hx rfl (hb hby at_1)) ?_
  show own_G p e below s _ _ _ (s₁.setTop (mkF m 2 #[.val (.int q0), .val (.int q1), .unset, .unset, .unset, .unset, .unset, .unset, .unset, .unset, .unset, .unset, .unset] [(.int (1 : Int32)), (.int q1)]))
  refine own_go (fun _ => XS.iand X0.here hx rfl (hb hby at_2) rfl) ?_
  show own_G p e below s _ _ _ (s₁.setTop (mkF m 3 #[.val (.int q0), .val (.int q1), .unset, .unset, .unset, .unset, .unset, .unset, .unset, .unset, .unset, .unset, .unset] [(.int (q1 &&& (1 : Int32)))]))
  by_cases hc3 : (q1 &&& (1 : Int32)) = (0 : Int32)
  · refine own_eqF (if_pos hc3) ?_
    refine own_go (fun _ => XS.ifYes X0.here hx rfl (pc0 := 3) (pc' := 10) rfl (hb hby at_3) rfl ((if0 _ _).trans (teq hc3).1) (by decide) (by decide)) ?_
    show own_G p e below s _ _ _ (s₁.setTop (mkF m 10 #[.val (.int q0), .val (.int q1), .unset, .unset, .unset, .unset, .unset, .unset, .unset, .unset, .unset, .unset, .unset] []))
    refine own_go (fun _ => XS.iconst X0.here hx rfl (hb hby at_10)) ?_
    show own_G p e below s _ _ _ (s₁.setTop (mkF m 11 #[.val (.int q0), .val (.int q1), .unset, .unset, .unset, .unset, .unset, .unset, .unset, .unset, .unset, .unset, .unset] [(.int (0 : Int32))]))
    refine own_go (fun _ => XS.istoreN X0.here hx rfl (hb hby at_11) rfl (l' := #[.val (.int q0), .val (.int q1), .val (.int (0 : Int32)), .unset, .unset, .unset, .unset, .unset, .unset, .unset, .unset, .unset, .unset]) rfl) ?_
    show own_G p e below s _ _ _ (s₁.setTop (mkF m 12 #[.val (.int q0), .val (.int q1), .val (.int (0 : Int32)), .unset, .unset, .unset, .unset, .unset, .unset, .unset, .unset, .unset, .unset] []))
    obtain ⟨T1, h1, b1, X1, e1, E1, ga1, g1, z1, A1, D1, st1⟩ := own_newO X0 hx hZ hown (hw _ (List.mem_of_getElem? (i := 0) rfl)) (hw _ (List.mem_of_getElem? (i := 1) rfl)) (hw _ (List.mem_of_getElem? (i := 2) rfl)) e0 Z0 (g := (mkF m 12 #[.val (.int q0), .val (.int q1), .val (.int (0 : Int32)), .unset, .unset, .unset, .unset, .unset, .unset, .unset, .unset, .unset, .unset] [])) rfl (hb hby at_12) (by decide) (by decide)
    have Fd2 : Fld Z h1 b1 "com/example/rolewright/rolewright/expression/Term$LineBreak" "endsRound" "Z" (.int (0 : Int32)) := D1 (Or.inr (hw _ (List.mem_of_getElem? (i := 10) rfl))) (ty := .boolean) (by decide)
    refine own_go (fun _ => st1 _) ?_
    show own_G p e below s _ _ _ (T1.setTop (mkF m 15 #[.val (.int q0), .val (.int q1), .val (.int (0 : Int32)), .unset, .unset, .unset, .unset, .unset, .unset, .unset, .unset, .unset, .unset] [(.ref b1)]))
    refine own_go (fun _ => XS.dup X1.here hx rfl (hb hby at_15) rfl rfl) ?_
    show own_G p e below s _ _ _ (T1.setTop (mkF m 16 #[.val (.int q0), .val (.int q1), .val (.int (0 : Int32)), .unset, .unset, .unset, .unset, .unset, .unset, .unset, .unset, .unset, .unset] [(.ref b1), (.ref b1)]))
    refine own_go (fun _ => XS.iloadN X1.here hx rfl (hb hby at_16) rfl) ?_
    show own_G p e below s _ _ _ (T1.setTop (mkF m 17 #[.val (.int q0), .val (.int q1), .val (.int (0 : Int32)), .unset, .unset, .unset, .unset, .unset, .unset, .unset, .unset, .unset, .unset] [(.int (0 : Int32)), (.ref b1), (.ref b1)]))
    obtain ⟨T3, h3, L3, X3, e3, N3, P3, st3⟩ := own_callI X1 hx hZ rfl hown (hw _ (List.mem_of_getElem? (i := 3) rfl)) (hw _ (List.mem_of_getElem? (i := 4) rfl)) (hw _ (List.mem_of_getElem? (i := 5) rfl)) (hw _ (List.mem_of_getElem? (i := 2) rfl)) (by decide) (rm1 l Z a0 hw [] b1 (0 : Int32) h1 n0 z1 g1 A1 Fd2) e1 (Fr.nil n0) (W := 1) (by decide) (by decide) (by decide) (by decide) (g := (mkF m 17 #[.val (.int q0), .val (.int q1), .val (.int (0 : Int32)), .unset, .unset, .unset, .unset, .unset, .unset, .unset, .unset, .unset, .unset] [(.int (0 : Int32)), (.ref b1), (.ref b1)])) rfl (by rw [hml]; rfl) (argsL := [(.int (0 : Int32))]) (rest := [(.ref b1)]) (lenOf (by decide +kernel : parseMethodDescriptor "(Z)V" = some ⟨[.boolean], none⟩) rfl) rfl rfl (by show 2 * 0 + _ ≤ _; exact Nat.le_of_eq rfl) (hb hby at_17)
    obtain ⟨K3, Ec3, Fc3_0⟩ := P3
    have Ek4 := A1.keep K3
    have zk5 := Nat.le_trans z1 K3.1
    refine own_go (fun _ => st3 _) ?_
    show own_G p e below s _ _ _ (T3.setTop (mkF m 20 #[.val (.int q0), .val (.int q1), .val (.int (0 : Int32)), .unset, .unset, .unset, .unset, .unset, .unset, .unset, .unset, .unset, .unset] [(.ref b1)]))
    refine own_go (fun _ => XS.astoreN X3.here hx rfl (hb hby at_20) rfl rfl (l' := #[.val (.int q0), .val (.int q1), .val (.int (0 : Int32)), .val (.ref b1), .unset, .unset, .unset, .unset, .unset, .unset, .unset, .unset, .unset]) rfl) ?_
    show own_G p e below s _ _ _ (T3.setTop (mkF m 21 #[.val (.int q0), .val (.int q1), .val (.int (0 : Int32)), .val (.ref b1), .unset, .unset, .unset, .unset, .unset, .unset, .unset, .unset, .unset] []))
    obtain ⟨T6, h6, b6, X6, e6, E6, ga6, g6, z6, A6, D6, st6⟩ := own_newO X3 hx hZ hown (hw _ (List.mem_of_getElem? (i := 0) rfl)) (hw _ (List.mem_of_getElem? (i := 1) rfl)) (hw _ (List.mem_of_getElem? (i := 2) rfl)) e3 zk5 (g := (mkF m 21 #[.val (.int q0), .val (.int q1), .val (.int (0 : Int32)), .val (.ref b1), .unset, .unset, .unset, .unset, .unset, .unset, .unset, .unset, .unset] [])) rfl (hb hby at_21) (by decide) (by decide)
    have ne7 : b1 ≠ b6 := Nat.ne_of_lt (Nat.lt_of_lt_of_eq Ec3.lt ga6.symm)
    have Ee8 := Ec3.ext E6
    have Fe9 := Fc3_0.ext E6
    have Fd10 : Fld Z h6 b6 "com/example/rolewright/rolewright/expression/Term$LineBreak" "endsRound" "Z" (.int (0 : Int32)) := D6 (Or.inr (hw _ (List.mem_of_getElem? (i := 10) rfl))) (ty := .boolean) (by decide)
    refine own_go (fun _ => st6 _) ?_
    show own_G p e below s _ _ _ (T6.setTop (mkF m 24 #[.val (.int q0), .val (.int q1), .val (.int (0 : Int32)), .val (.ref b1), .unset, .unset, .unset, .unset, .unset, .unset, .unset, .unset, .unset] [(.ref b6)]))
    refine own_go (fun _ => XS.dup X6.here hx rfl (hb hby at_24) rfl rfl) ?_
    show own_G p e below s _ _ _ (T6.setTop (mkF m 25 #[.val (.int q0), .val (.int q1), .val (.int (0 : Int32)), .val (.ref b1), .unset, .unset, .unset, .unset, .unset, .unset, .unset, .unset, .unset] [(.ref b6), (.ref b6)]))
    refine own_go (fun _ => XS.iloadN X6.here hx rfl (hb hby at_25) rfl) ?_
    show own_G p e below s _ _ _ (T6.setTop (mkF m 26 #[.val (.int q0), .val (.int q1), .val (.int (0 : Int32)), .val (.ref b1), .unset, .unset, .unset, .unset, .unset, .unset, .unset, .unset, .unset] [(.int (0 : Int32)), (.ref b6), (.ref b6)]))
    refine own_go (fun _ => XS.ifNo X6.here hx rfl (hb hby at_26) rfl ((if0 _ _).trans (teq (by decide : (0 : Int32) = (0 : Int32))).2)) ?_
    show own_G p e below s _ _ _ (T6.setTop (mkF m 29 #[.val (.int q0), .val (.int q1), .val (.int (0 : Int32)), .val (.ref b1), .unset, .unset, .unset, .unset, .unset, .unset, .unset, .unset, .unset] [(.ref b6), (.ref b6)]))
    refine own_go (fun _ => XS.iconst X6.here hx rfl (hb hby at_29)) ?_
    show own_G p e below s _ _ _ (T6.setTop (mkF m 30 #[.val (.int q0), .val (.int q1), .val (.int (0 : Int32)), .val (.ref b1), .unset, .unset, .unset, .unset, .unset, .unset, .unset, .unset, .unset] [(.int (1 : Int32)), (.ref b6), (.ref b6)]))
    refine own_go (fun _ => XS.goto X6.here hx rfl (pc0 := 30) (pc' := 34) rfl (hb hby at_30) (by decide) (by decide)) ?_
    show own_G p e below s _ _ _ (T6.setTop (mkF m 34 #[.val (.int q0), .val (.int q1), .val (.int (0 : Int32)), .val (.ref b1), .unset, .unset, .unset, .unset, .unset, .unset, .unset, .unset, .unset] [(.int (1 : Int32)), (.ref b6), (.ref b6)]))
    obtain ⟨T11, h11, L11, X11, e11, N11, P11, st11⟩ := own_callI X6 hx hZ rfl hown (hw _ (List.mem_of_getElem? (i := 3) rfl)) (hw _ (List.mem_of_getElem? (i := 4) rfl)) (hw _ (List.mem_of_getElem? (i := 5) rfl)) (hw _ (List.mem_of_getElem? (i := 2) rfl)) (by decide) (rm1 l Z a0 hw [] b6 (1 : Int32) h6 n0 z6 g6 A6 Fd10) e6 N3 (W := 1) (by decide) (by decide) (by decide) (by decide) (g := (mkF m 34 #[.val (.int q0), .val (.int q1), .val (.int (0 : Int32)), .val (.ref b1), .unset, .unset, .unset, .unset, .unset, .unset, .unset, .unset, .unset] [(.int (1 : Int32)), (.ref b6), (.ref b6)])) rfl (by rw [hml]; rfl) (argsL := [(.int (1 : Int32))]) (rest := [(.ref b6)]) (lenOf (by decide +kernel : parseMethodDescriptor "(Z)V" = some ⟨[.boolean], none⟩) rfl) rfl rfl (by show 2 * 0 + _ ≤ _; exact Nat.le_of_eq rfl) (hb hby at_34)
    obtain ⟨K11, Ec11, Fc11_0⟩ := P11
    have Ek12 := Ee8.keep K11
    have Ek13 := A6.keep K11
    have Fk14 := Fe9.keep K11 (fun q => ne7 (List.mem_singleton.mp q))
    have zk15 := Nat.le_trans z6 K11.1
    refine own_go (fun _ => st11 _) ?_
    show own_G p e below s _ _ _ (T11.setTop (mkF m 37 #[.val (.int q0), .val (.int q1), .val (.int (0 : Int32)), .val (.ref b1), .unset, .unset, .unset, .unset, .unset, .unset, .unset, .unset, .unset] [(.ref b6)]))
    refine own_go (fun _ => XS.astore X11.here hx rfl (hb hby at_37) rfl rfl (l' := #[.val (.int q0), .val (.int q1), .val (.int (0 : Int32)), .val (.ref b1), .val (.ref b6), .unset, .unset, .unset, .unset, .unset, .unset, .unset, .unset]) rfl) ?_
    show own_G p e below s _ _ _ (T11.setTop (mkF m 39 #[.val (.int q0), .val (.int q1), .val (.int (0 : Int32)), .val (.ref b1), .val (.ref b6), .unset, .unset, .unset, .unset, .unset, .unset, .unset, .unset] []))
    refine own_go (fun _ => XS.aloadN X11.here hx rfl (hb hby at_39) rfl rfl) ?_
    show own_G p e below s _ _ _ (T11.setTop (mkF m 40 #[.val (.int q0), .val (.int q1), .val (.int (0 : Int32)), .val (.ref b1), .val (.ref b6), .unset, .unset, .unset, .unset, .unset, .unset, .unset, .unset] [(.ref b1)]))
    refine own_go (fun _ => XS.iloadN X11.here hx rfl (hb hby at_40) rfl) ?_
    show own_G p e below s _ _ _ (T11.setTop (mkF m 41 #[.val (.int q0), .val (.int q1), .val (.int (0 : Int32)), .val (.ref b1), .val (.ref b6), .unset, .unset, .unset, .unset, .unset, .unset, .unset, .unset] [(.int q0), (.ref b1)]))
    obtain ⟨T16, X16, e16, st16⟩ := own_callV X11 hx hZ hown (hw _ (List.mem_of_getElem? (i := 11) rfl)) (hw _ (List.mem_of_getElem? (i := 12) rfl)) (hw _ (List.mem_of_getElem? (i := 14) rfl)) (hw _ (List.mem_of_getElem? (i := 13) rfl)) (hw _ (List.mem_of_getElem? (i := 15) rfl)) (hw _ (List.mem_of_getElem? (i := 2) rfl)) (by decide) (rm3 l Z a0 hw [] b1 q0 h11) rfl rfl e11 Ek12 (W := 0) (by decide) (by decide) (by decide) (by decide) (g := (mkF m 41 #[.val (.int q0), .val (.int q1), .val (.int (0 : Int32)), .val (.ref b1), .val (.ref b6), .unset, .unset, .unset, .unset, .unset, .unset, .unset, .unset] [(.int q0), (.ref b1)])) rfl (by rw [hml]; rfl) (argsL := [(.int q0)]) (rest := []) (lenOf (by decide +kernel : parseMethodDescriptor "(I)I" = some ⟨[.int], some .int⟩) rfl) rfl rfl (by show 2 * 0 + _ ≤ _; exact Nat.le_of_eq rfl) (hb hby at_41)
    refine own_go (fun _ => st16 _) ?_
    show own_G p e below s _ _ _ (T16.setTop (mkF m 44 #[.val (.int q0), .val (.int q1), .val (.int (0 : Int32)), .val (.ref b1), .val (.ref b6), .unset, .unset, .unset, .unset, .unset, .unset, .unset, .unset] [(.int (own_v3_0 q0))]))
    refine own_go (fun _ => XS.istore X16.here hx rfl (hb hby at_44) rfl (l' := #[.val (.int q0), .val (.int q1), .val (.int (0 : Int32)), .val (.ref b1), .val (.ref b6), .val (.int (own_n0_44 q0)), .unset, .unset, .unset, .unset, .unset, .unset, .unset]) rfl) ?_
    show own_G p e below s _ _ _ (T16.setTop (mkF m 46 #[.val (.int q0), .val (.int q1), .val (.int (0 : Int32)), .val (.ref b1), .val (.ref b6), .val (.int (own_n0_44 q0)), .unset, .unset, .unset, .unset, .unset, .unset, .unset] []))
    refine own_go (fun _ => XS.aload X16.here hx rfl (hb hby at_46) rfl rfl) ?_
    show own_G p e below s _ _ _ (T16.setTop (mkF m 48 #[.val (.int q0), .val (.int q1), .val (.int (0 : Int32)), .val (.ref b1), .val (.ref b6), .val (.int (own_n0_44 q0)), .unset, .unset, .unset, .unset, .unset, .unset, .unset] [(.ref b6)]))
    refine own_go (fun _ => XS.iloadN X16.here hx rfl (hb hby at_48) rfl) ?_
    show own_G p e below s _ _ _ (T16.setTop (mkF m 49 #[.val (.int q0), .val (.int q1), .val (.int (0 : Int32)), .val (.ref b1), .val (.ref b6), .val (.int (own_n0_44 q0)), .unset, .unset, .unset, .unset, .unset, .unset, .unset] [(.int q0), (.ref b6)]))
    obtain ⟨T17, X17, e17, st17⟩ := own_callV X16 hx hZ hown (hw _ (List.mem_of_getElem? (i := 11) rfl)) (hw _ (List.mem_of_getElem? (i := 12) rfl)) (hw _ (List.mem_of_getElem? (i := 14) rfl)) (hw _ (List.mem_of_getElem? (i := 13) rfl)) (hw _ (List.mem_of_getElem? (i := 15) rfl)) (hw _ (List.mem_of_getElem? (i := 2) rfl)) (by decide) (rm3 l Z a0 hw [] b6 q0 h11) rfl rfl e16 Ec11 (W := 0) (by decide) (by decide) (by decide) (by decide) (g := (mkF m 49 #[.val (.int q0), .val (.int q1), .val (.int (0 : Int32)), .val (.ref b1), .val (.ref b6), .val (.int (own_n0_44 q0)), .unset, .unset, .unset, .unset, .unset, .unset, .unset] [(.int q0), (.ref b6)])) rfl (by rw [hml]; rfl) (argsL := [(.int q0)]) (rest := []) (lenOf (by decide +kernel : parseMethodDescriptor "(I)I" = some ⟨[.int], some .int⟩) rfl) rfl rfl (by show 2 * 0 + _ ≤ _; exact Nat.le_of_eq rfl) (hb hby at_49)
    refine own_go (fun _ => st17 _) ?_
    show own_G p e below s _ _ _ (T17.setTop (mkF m 52 #[.val (.int q0), .val (.int q1), .val (.int (0 : Int32)), .val (.ref b1), .val (.ref b6), .val (.int (own_n0_44 q0)), .unset, .unset, .unset, .unset, .unset, .unset, .unset] [(.int (own_v3_0 q0))]))
    refine own_go (fun _ => XS.istore X17.here hx rfl (hb hby at_52) rfl (l' := #[.val (.int q0), .val (.int q1), .val (.int (0 : Int32)), .val (.ref b1), .val (.ref b6), .val (.int (own_n0_44 q0)), .val (.int (own_n0_52 q0)), .unset, .unset, .unset, .unset, .unset, .unset]) rfl) ?_
    exact b54 T17 h11 L11 X17 e17 N11 (0 : Int32) b1 b6 Ek12
  · refine own_eqF (if_neg hc3) ?_
    refine own_go (fun _ => XS.ifNo X0.here hx rfl (hb hby at_3) rfl ((if0 _ _).trans (feq hc3).1)) ?_
    show own_G p e below s _ _ _ (s₁.setTop (mkF m 6 #[.val (.int q0), .val (.int q1), .unset, .unset, .unset, .unset, .unset, .unset, .unset, .unset, .unset, .unset, .unset] []))
    refine own_go (fun _ => XS.iconst X0.here hx rfl (hb hby at_6)) ?_
    show own_G p e below s _ _ _ (s₁.setTop (mkF m 7 #[.val (.int q0), .val (.int q1), .unset, .unset, .unset, .unset, .unset, .unset, .unset, .unset, .unset, .unset, .unset] [(.int (1 : Int32))]))
    refine own_go (fun _ => XS.goto X0.here hx rfl (pc0 := 7) (pc' := 11) rfl (hb hby at_7) (by decide) (by decide)) ?_
    show own_G p e below s _ _ _ (s₁.setTop (mkF m 11 #[.val (.int q0), .val (.int q1), .unset, .unset, .unset, .unset, .unset, .unset, .unset, .unset, .unset, .unset, .unset] [(.int (1 : Int32))]))
    refine own_go (fun _ => XS.istoreN X0.here hx rfl (hb hby at_11) rfl (l' := #[.val (.int q0), .val (.int q1), .val (.int (1 : Int32)), .unset, .unset, .unset, .unset, .unset, .unset, .unset, .unset, .unset, .unset]) rfl) ?_
    show own_G p e below s _ _ _ (s₁.setTop (mkF m 12 #[.val (.int q0), .val (.int q1), .val (.int (1 : Int32)), .unset, .unset, .unset, .unset, .unset, .unset, .unset, .unset, .unset, .unset] []))
    obtain ⟨T18, h18, b18, X18, e18, E18, ga18, g18, z18, A18, D18, st18⟩ := own_newO X0 hx hZ hown (hw _ (List.mem_of_getElem? (i := 0) rfl)) (hw _ (List.mem_of_getElem? (i := 1) rfl)) (hw _ (List.mem_of_getElem? (i := 2) rfl)) e0 Z0 (g := (mkF m 12 #[.val (.int q0), .val (.int q1), .val (.int (1 : Int32)), .unset, .unset, .unset, .unset, .unset, .unset, .unset, .unset, .unset, .unset] [])) rfl (hb hby at_12) (by decide) (by decide)
    have Fd19 : Fld Z h18 b18 "com/example/rolewright/rolewright/expression/Term$LineBreak" "endsRound" "Z" (.int (0 : Int32)) := D18 (Or.inr (hw _ (List.mem_of_getElem? (i := 10) rfl))) (ty := .boolean) (by decide)
    refine own_go (fun _ => st18 _) ?_
    show own_G p e below s _ _ _ (T18.setTop (mkF m 15 #[.val (.int q0), .val (.int q1), .val (.int (1 : Int32)), .unset, .unset, .unset, .unset, .unset, .unset, .unset, .unset, .unset, .unset] [(.ref b18)]))
    refine own_go (fun _ => XS.dup X18.here hx rfl (hb hby at_15) rfl rfl) ?_
    show own_G p e below s _ _ _ (T18.setTop (mkF m 16 #[.val (.int q0), .val (.int q1), .val (.int (1 : Int32)), .unset, .unset, .unset, .unset, .unset, .unset, .unset, .unset, .unset, .unset] [(.ref b18), (.ref b18)]))
    refine own_go (fun _ => XS.iloadN X18.here hx rfl (hb hby at_16) rfl) ?_
    show own_G p e below s _ _ _ (T18.setTop (mkF m 17 #[.val (.int q0), .val (.int q1), .val (.int (1 : Int32)), .unset, .unset, .unset, .unset, .unset, .unset, .unset, .unset, .unset, .unset] [(.int (1 : Int32)), (.ref b18), (.ref b18)]))
    obtain ⟨T20, h20, L20, X20, e20, N20, P20, st20⟩ := own_callI X18 hx hZ rfl hown (hw _ (List.mem_of_getElem? (i := 3) rfl)) (hw _ (List.mem_of_getElem? (i := 4) rfl)) (hw _ (List.mem_of_getElem? (i := 5) rfl)) (hw _ (List.mem_of_getElem? (i := 2) rfl)) (by decide) (rm1 l Z a0 hw [] b18 (1 : Int32) h18 n0 z18 g18 A18 Fd19) e18 (Fr.nil n0) (W := 1) (by decide) (by decide) (by decide) (by decide) (g := (mkF m 17 #[.val (.int q0), .val (.int q1), .val (.int (1 : Int32)), .unset, .unset, .unset, .unset, .unset, .unset, .unset, .unset, .unset, .unset] [(.int (1 : Int32)), (.ref b18), (.ref b18)])) rfl (by rw [hml]; rfl) (argsL := [(.int (1 : Int32))]) (rest := [(.ref b18)]) (lenOf (by decide +kernel : parseMethodDescriptor "(Z)V" = some ⟨[.boolean], none⟩) rfl) rfl rfl (by show 2 * 0 + _ ≤ _; exact Nat.le_of_eq rfl) (hb hby at_17)
    obtain ⟨K20, Ec20, Fc20_0⟩ := P20
    have Ek21 := A18.keep K20
    have zk22 := Nat.le_trans z18 K20.1
    refine own_go (fun _ => st20 _) ?_
    show own_G p e below s _ _ _ (T20.setTop (mkF m 20 #[.val (.int q0), .val (.int q1), .val (.int (1 : Int32)), .unset, .unset, .unset, .unset, .unset, .unset, .unset, .unset, .unset, .unset] [(.ref b18)]))
    refine own_go (fun _ => XS.astoreN X20.here hx rfl (hb hby at_20) rfl rfl (l' := #[.val (.int q0), .val (.int q1), .val (.int (1 : Int32)), .val (.ref b18), .unset, .unset, .unset, .unset, .unset, .unset, .unset, .unset, .unset]) rfl) ?_
    show own_G p e below s _ _ _ (T20.setTop (mkF m 21 #[.val (.int q0), .val (.int q1), .val (.int (1 : Int32)), .val (.ref b18), .unset, .unset, .unset, .unset, .unset, .unset, .unset, .unset, .unset] []))
    obtain ⟨T23, h23, b23, X23, e23, E23, ga23, g23, z23, A23, D23, st23⟩ := own_newO X20 hx hZ hown (hw _ (List.mem_of_getElem? (i := 0) rfl)) (hw _ (List.mem_of_getElem? (i := 1) rfl)) (hw _ (List.mem_of_getElem? (i := 2) rfl)) e20 zk22 (g := (mkF m 21 #[.val (.int q0), .val (.int q1), .val (.int (1 : Int32)), .val (.ref b18), .unset, .unset, .unset, .unset, .unset, .unset, .unset, .unset, .unset] [])) rfl (hb hby at_21) (by decide) (by decide)
    have ne24 : b18 ≠ b23 := Nat.ne_of_lt (Nat.lt_of_lt_of_eq Ec20.lt ga23.symm)
    have Ee25 := Ec20.ext E23
    have Fe26 := Fc20_0.ext E23
    have Fd27 : Fld Z h23 b23 "com/example/rolewright/rolewright/expression/Term$LineBreak" "endsRound" "Z" (.int (0 : Int32)) := D23 (Or.inr (hw _ (List.mem_of_getElem? (i := 10) rfl))) (ty := .boolean) (by decide)
    refine own_go (fun _ => st23 _) ?_
    show own_G p e below s _ _ _ (T23.setTop (mkF m 24 #[.val (.int q0), .val (.int q1), .val (.int (1 : Int32)), .val (.ref b18), .unset, .unset, .unset, .unset, .unset, .unset, .unset, .unset, .unset] [(.ref b23)]))
    refine own_go (fun _ => XS.dup X23.here hx rfl (hb hby at_24) rfl rfl) ?_
    show own_G p e below s _ _ _ (T23.setTop (mkF m 25 #[.val (.int q0), .val (.int q1), .val (.int (1 : Int32)), .val (.ref b18), .unset, .unset, .unset, .unset, .unset, .unset, .unset, .unset, .unset] [(.ref b23), (.ref b23)]))
    refine own_go (fun _ => XS.iloadN X23.here hx rfl (hb hby at_25) rfl) ?_
    show own_G p e below s _ _ _ (T23.setTop (mkF m 26 #[.val (.int q0), .val (.int q1), .val (.int (1 : Int32)), .val (.ref b18), .unset, .unset, .unset, .unset, .unset, .unset, .unset, .unset, .unset] [(.int (1 : Int32)), (.ref b23), (.ref b23)]))
    refine own_go (fun _ => XS.ifYes X23.here hx rfl (pc0 := 26) (pc' := 33) rfl (hb hby at_26) rfl ((if0 _ _).trans (feq (by decide : ¬ ((1 : Int32) = (0 : Int32)))).2) (by decide) (by decide)) ?_
    show own_G p e below s _ _ _ (T23.setTop (mkF m 33 #[.val (.int q0), .val (.int q1), .val (.int (1 : Int32)), .val (.ref b18), .unset, .unset, .unset, .unset, .unset, .unset, .unset, .unset, .unset] [(.ref b23), (.ref b23)]))
    refine own_go (fun _ => XS.iconst X23.here hx rfl (hb hby at_33)) ?_
    show own_G p e below s _ _ _ (T23.setTop (mkF m 34 #[.val (.int q0), .val (.int q1), .val (.int (1 : Int32)), .val (.ref b18), .unset, .unset, .unset, .unset, .unset, .unset, .unset, .unset, .unset] [(.int (0 : Int32)), (.ref b23), (.ref b23)]))
    obtain ⟨T28, h28, L28, X28, e28, N28, P28, st28⟩ := own_callI X23 hx hZ rfl hown (hw _ (List.mem_of_getElem? (i := 3) rfl)) (hw _ (List.mem_of_getElem? (i := 4) rfl)) (hw _ (List.mem_of_getElem? (i := 5) rfl)) (hw _ (List.mem_of_getElem? (i := 2) rfl)) (by decide) (rm1 l Z a0 hw [] b23 (0 : Int32) h23 n0 z23 g23 A23 Fd27) e23 N20 (W := 1) (by decide) (by decide) (by decide) (by decide) (g := (mkF m 34 #[.val (.int q0), .val (.int q1), .val (.int (1 : Int32)), .val (.ref b18), .unset, .unset, .unset, .unset, .unset, .unset, .unset, .unset, .unset] [(.int (0 : Int32)), (.ref b23), (.ref b23)])) rfl (by rw [hml]; rfl) (argsL := [(.int (0 : Int32))]) (rest := [(.ref b23)]) (lenOf (by decide +kernel : parseMethodDescriptor "(Z)V" = some ⟨[.boolean], none⟩) rfl) rfl rfl (by show 2 * 0 + _ ≤ _; exact Nat.le_of_eq rfl) (hb hby at_34)
    obtain ⟨K28, Ec28, Fc28_0⟩ := P28
    have Ek29 := Ee25.keep K28
    have Ek30 := A23.keep K28
    have Fk31 := Fe26.keep K28 (fun q => ne24 (List.mem_singleton.mp q))
    have zk32 := Nat.le_trans z23 K28.1
    refine own_go (fun _ => st28 _) ?_
    show own_G p e below s _ _ _ (T28.setTop (mkF m 37 #[.val (.int q0), .val (.int q1), .val (.int (1 : Int32)), .val (.ref b18), .unset, .unset, .unset, .unset, .unset, .unset, .unset, .unset, .unset] [(.ref b23)]))
    refine own_go (fun _ => XS.astore X28.here hx rfl (hb hby at_37) rfl rfl (l' := #[.val (.int q0), .val (.int q1), .val (.int (1 : Int32)), .val (.ref b18), .val (.ref b23), .unset, .unset, .unset, .unset, .unset, .unset, .unset, .unset]) rfl) ?_
    show own_G p e below s _ _ _ (T28.setTop (mkF m 39 #[.val (.int q0), .val (.int q1), .val (.int (1 : Int32)), .val (.ref b18), .val (.ref b23), .unset, .unset, .unset, .unset, .unset, .unset, .unset, .unset] []))
    refine own_go (fun _ => XS.aloadN X28.here hx rfl (hb hby at_39) rfl rfl) ?_
    show own_G p e below s _ _ _ (T28.setTop (mkF m 40 #[.val (.int q0), .val (.int q1), .val (.int (1 : Int32)), .val (.ref b18), .val (.ref b23), .unset, .unset, .unset, .unset, .unset, .unset, .unset, .unset] [(.ref b18)]))
    refine own_go (fun _ => XS.iloadN X28.here hx rfl (hb hby at_40) rfl) ?_
    show own_G p e below s _ _ _ (T28.setTop (mkF m 41 #[.val (.int q0), .val (.int q1), .val (.int (1 : Int32)), .val (.ref b18), .val (.ref b23), .unset, .unset, .unset, .unset, .unset, .unset, .unset, .unset] [(.int q0), (.ref b18)]))
    obtain ⟨T33, X33, e33, st33⟩ := own_callV X28 hx hZ hown (hw _ (List.mem_of_getElem? (i := 11) rfl)) (hw _ (List.mem_of_getElem? (i := 12) rfl)) (hw _ (List.mem_of_getElem? (i := 14) rfl)) (hw _ (List.mem_of_getElem? (i := 13) rfl)) (hw _ (List.mem_of_getElem? (i := 15) rfl)) (hw _ (List.mem_of_getElem? (i := 2) rfl)) (by decide) (rm3 l Z a0 hw [] b18 q0 h28) rfl rfl e28 Ek29 (W := 0) (by decide) (by decide) (by decide) (by decide) (g := (mkF m 41 #[.val (.int q0), .val (.int q1), .val (.int (1 : Int32)), .val (.ref b18), .val (.ref b23), .unset, .unset, .unset, .unset, .unset, .unset, .unset, .unset] [(.int q0), (.ref b18)])) rfl (by rw [hml]; rfl) (argsL := [(.int q0)]) (rest := []) (lenOf (by decide +kernel : parseMethodDescriptor "(I)I" = some ⟨[.int], some .int⟩) rfl) rfl rfl (by show 2 * 0 + _ ≤ _; exact Nat.le_of_eq rfl) (hb hby at_41)
    refine own_go (fun _ => st33 _) ?_
    show own_G p e below s _ _ _ (T33.setTop (mkF m 44 #[.val (.int q0), .val (.int q1), .val (.int (1 : Int32)), .val (.ref b18), .val (.ref b23), .unset, .unset, .unset, .unset, .unset, .unset, .unset, .unset] [(.int (own_v3_0 q0))]))
    refine own_go (fun _ => XS.istore X33.here hx rfl (hb hby at_44) rfl (l' := #[.val (.int q0), .val (.int q1), .val (.int (1 : Int32)), .val (.ref b18), .val (.ref b23), .val (.int (own_n0_44 q0)), .unset, .unset, .unset, .unset, .unset, .unset, .unset]) rfl) ?_
    show own_G p e below s _ _ _ (T33.setTop (mkF m 46 #[.val (.int q0), .val (.int q1), .val (.int (1 : Int32)), .val (.ref b18), .val (.ref b23), .val (.int (own_n0_44 q0)), .unset, .unset, .unset, .unset, .unset, .unset, .unset] []))
    refine own_go (fun _ => XS.aload X33.here hx rfl (hb hby at_46) rfl rfl) ?_
    show own_G p e below s _ _ _ (T33.setTop (mkF m 48 #[.val (.int q0), .val (.int q1), .val (.int (1 : Int32)), .val (.ref b18), .val (.ref b23), .val (.int (own_n0_44 q0)), .unset, .unset, .unset, .unset, .unset, .unset, .unset] [(.ref b23)]))
    refine own_go (fun _ => XS.iloadN X33.here hx rfl (hb hby at_48) rfl) ?_
    show own_G p e below s _ _ _ (T33.setTop (mkF m 49 #[.val (.int q0), .val (.int q1), .val (.int (1 : Int32)), .val (.ref b18), .val (.ref b23), .val (.int (own_n0_44 q0)), .unset, .unset, .unset, .unset, .unset, .unset, .unset] [(.int q0), (.ref b23)]))
    obtain ⟨T34, X34, e34, st34⟩ := own_callV X33 hx hZ hown (hw _ (List.mem_of_getElem? (i := 11) rfl)) (hw _ (List.mem_of_getElem? (i := 12) rfl)) (hw _ (List.mem_of_getElem? (i := 14) rfl)) (hw _ (List.mem_of_getElem? (i := 13) rfl)) (hw _ (List.mem_of_getElem? (i := 15) rfl)) (hw _ (List.mem_of_getElem? (i := 2) rfl)) (by decide) (rm3 l Z a0 hw [] b23 q0 h28) rfl rfl e33 Ec28 (W := 0) (by decide) (by decide) (by decide) (by decide) (g := (mkF m 49 #[.val (.int q0), .val (.int q1), .val (.int (1 : Int32)), .val (.ref b18), .val (.ref b23), .val (.int (own_n0_44 q0)), .unset, .unset, .unset, .unset, .unset, .unset, .unset] [(.int q0), (.ref b23)])) rfl (by rw [hml]; rfl) (argsL := [(.int q0)]) (rest := []) (lenOf (by decide +kernel : parseMethodDescriptor "(I)I" = some ⟨[.int], some .int⟩) rfl) rfl rfl (by show 2 * 0 + _ ≤ _; exact Nat.le_of_eq rfl) (hb hby at_49)
    refine own_go (fun _ => st34 _) ?_
    show own_G p e below s _ _ _ (T34.setTop (mkF m 52 #[.val (.int q0), .val (.int q1), .val (.int (1 : Int32)), .val (.ref b18), .val (.ref b23), .val (.int (own_n0_44 q0)), .unset, .unset, .unset, .unset, .unset, .unset, .unset] [(.int (own_v3_0 q0))]))
    refine own_go (fun _ => XS.istore X34.here hx rfl (hb hby at_52) rfl (l' := #[.val (.int q0), .val (.int q1), .val (.int (1 : Int32)), .val (.ref b18), .val (.ref b23), .val (.int (own_n0_44 q0)), .val (.int (own_n0_52 q0)), .unset, .unset, .unset, .unset, .unset, .unset]) rfl) ?_
    exact b54 T34 h28 L28 X34 e34 N28 (1 : Int32) b18 b23 Ek29
set_option maxRecDepth 65536 in
set_option maxHeartbeats 40000000 in
theorem comes_1 {Post : Tables → Env → Array Value → State → Outcome → State → Prop} (hpost : ∀ tb e args s v u, (limb_1_1.after args s (.returned v) u = true ∧ limb_1_2.after args s (.returned v) u = true ∧ True) → FrameEnd s (.returned v) u (Jvm.fieldLocs frame_1_writes args s ++ Jvm.arrayLocs frame_1_arrays args s ++ Jvm.staticLocs frame_1_statics s) 16 128 → Post tb e args s (.returned v) u) :
    ArmFor flags0 classFile x code maxLocals ret World_1 tables_1 room_1 Calls_1 rest_1 Pre_1 Post := by
  intro l hfl _ _ p e ha hc hk s m args below hf hA hF happ hP
  obtain ⟨hcalls, hrest, hpre⟩ := hP
  obtain ⟨-, -, -, hnamed, -, -, -, hat⟩ := (Spec.applies_iff hf).mp happ
  obtain ⟨hg, hn⟩ := and_e (Cond.before_iff.mp (show (Jvm.Cond.and given_1 narrow_1).before args s = true from hpre))
  obtain ⟨cg0, cq0⟩ := and_e hg
  obtain ⟨w0, w1, rfl⟩ : ∃ w0 w1 : Value, args = #[w0, w1] := by
    have hs : args.size = 2 := by simpa [Cond.value, given_1] using cg0
    obtain ⟨L⟩ := args
    match L, hs with
    | [w0, w1], _ => exact ⟨w0, w1, rfl⟩
  have hw := fun d (hd : d ∈ tables_1) => atoms_spec (ws := Jvm.Cond.code x code maxLocals ret :: tables_1) hat d (List.mem_cons_of_mem _ hd)
  obtain ⟨ca0, cq1⟩ := and_e cq0
  obtain ⟨q0, eq0⟩ := is_v ca0
  obtain rfl : w0 = (.int q0) := Option.some.inj eq0
  obtain ⟨q1, eq1⟩ := is_v cq1
  obtain rfl : w1 = (.int q1) := Option.some.inj eq1
  obtain ⟨n, o, h1, h2, h3, _, L, rfl, ⟨hv, N⟩, hq⟩ := rm0 l s _ hw tables_1 q0 q1 s.heap s.heap.size (Nat.le_refl _)  p e ha hc hk s m _ below hf ((Spec.applies_iff_loose hf).mp happ).1 ⟨rfl, State.Warmed39.refl s, rfl⟩ trivial
  rw [own_law] at hv
  subst hv
  refine ⟨n, _, h1, h2, h3, hpost _ _ _ _ _ _ ⟨Cond.after_iff.mpr rfl, Cond.after_iff.mpr (eq_i res_at (Term.int_eval (1)) rfl), trivial⟩ ⟨hq.1, hq.2.1, (hq.2.2.sift fun y hy => Or.inr (N y hy)).mono (by decide) (by decide)⟩⟩
theorem main_1_1 : Claimed_1_1 := comes_1 fun _ _ _ _ _ _ h hF => ⟨h.1, hF⟩
theorem main_1_2 : Claimed_1_2 := comes_1 fun _ _ _ _ _ _ h hF => ⟨h.2.1, hF⟩
end Jvm.Pilot.@@N@@
namespace Jvm.Pilot.@@N@@
open Jvm Jvm.ClassFile Sem Op Lib Jvm.Free Jvm.Stand Jvm.Pilot.@@N@@.Jvm.D
/-! MADE BY PROGRAM (witnessworld.py) out of the Statement's table words and the real class files: 10 classes; the members and pool entries that the words name. The judged class is class 1, her method 1. -/
namespace start1
open Jvm.ClassFile
def u (s : String) : CpInfo := .utf8 (stringToUtf16 s)
/-- a pool by its gaps: so many unusable entries, then the entry; so many at the end -/
def gap : Nat → List CpInfo → List CpInfo
  | 0, r => r
  | n + 1, r => .unusable :: gap n r
def poolList (es : List (Nat × CpInfo)) (last : Nat) : List CpInfo := es.foldr (fun e r => gap e.1 (e.2 :: r)) (gap last [])
def pool (es : List (Nat × CpInfo)) (last : Nat) : Array CpInfo := ⟨poolList es last⟩
def fileOf (pool : Array CpInfo) (this : Nat) (attrs : Array Attribute := #[]) (ms : Array MethodInfo := #[]) (fl : Nat := 33) (sup : Nat := 0) (ifs : Array Nat := #[]) (fds : Array FieldInfo := #[]) : ClassFile where
  minorVersion := 0
  majorVersion := 65
  constantPool := pool
  accessFlags := fl
  thisClass := this
  superClass := sup
  interfaces := ifs
  fields := fds
  methods := ms
  attributes := attrs
def plain (name : String) (sup : Option ClassId) : Class where
  name := name
  kind := .ordinary
  loader := none
  accessFlags := 33
  super := sup
  interfaces := #[]
  cf := none
  fields := #[]
  methods := #[]
  instanceTypes := #[]
  staticTypes := #[]
  resolved := #[]
  callSites := []
  init := .initialized
  statics := none
  mirror := none

def pool0 : Array CpInfo := pool [(5, u "<init>"), (0, u "()V"), (1, .class_ 10), (1, u "java/lang/Object")] 113

def k0c0 : Code := { maxStack := 0, maxLocals := 1, code := object_method_1_code, exceptionTable := #[], attributes := #[] }
def k0m0 : Method := { name := "<init>", desc := "()V", sig := { parameters := [], returnType := none }, accessFlags := 1, code := some k0c0 }
/-- java/lang/Object -/
def k0 : Class := { plain "java/lang/Object" none with
  accessFlags := 33
  interfaces := #[]
  cf := some (fileOf pool0 8 #[] #[{ accessFlags := 1, nameIndex := 5, descriptorIndex := 6, attributes := #[] }] 33 0 #[] #[])
  fields := #[]
  methods := #[k0m0]
  instanceTypes := #[]
  staticTypes := #[]
  resolved := Array.replicate 124 none
  statics := none }

def pool1 : Array CpInfo := pool [(2, .class_ 4), (1, u "java/lang/Object"), (0, u "<init>"), (0, u "()V"), (0, .class_ 8), (0, u "com/example/rolewright/rolewright/expression/Term$LineBreak"), (0, .methodref 7 10), (0, .nameAndType 5 11), (0, u "(Z)V"), (0, .methodref 7 13), (0, .nameAndType 14 15), (0, u "check"), (0, u "(I)I"), (2, .class_ 19), (0, u "com/example/rolewright/rolewright/expression/LineBreakCheckPinLaw"), (2, u "law"), (0, u "(II)Z")] 5

def k1m0 : Method := { name := "<init>", desc := "()V", sig := { parameters := [], returnType := none }, accessFlags := 1, code := none }
def k1c1 : Code := { maxStack := 4, maxLocals := 13, code := code, exceptionTable := #[], attributes := #[] }
def k1m1 : Method := { name := "law", desc := "(II)Z", sig := { parameters := [.int, .int], returnType := some .boolean }, accessFlags := 9, code := some k1c1 }
/-- com/example/rolewright/rolewright/expression/LineBreakCheckPinLaw -/
def k1 : Class := { plain "com/example/rolewright/rolewright/expression/LineBreakCheckPinLaw" (some 0) with
  accessFlags := 49
  interfaces := #[]
  cf := some (fileOf pool1 18 #[] #[{ accessFlags := 1, nameIndex := 5, descriptorIndex := 6, attributes := #[] }, { accessFlags := 9, nameIndex := 22, descriptorIndex := 23, attributes := #[] }] 49 2 #[] #[])
  fields := #[]
  methods := #[k1m0, k1m1]
  instanceTypes := #[]
  staticTypes := #[]
  resolved := Array.replicate 29 none
  statics := none }

def pool2 : Array CpInfo := pool [(11, .class_ 12), (0, u "com/example/rolewright/rolewright/expression/Term"), (0, .class_ 14), (0, u "com/example/rolewright/rolewright/expression/Term$Sequence"), (4, .class_ 20), (0, u "com/example/rolewright/rolewright/expression/Term$Choice"), (10, .class_ 32), (0, u "com/example/rolewright/rolewright/expression/Term$LineBreak"), (48, .class_ 82), (0, u "com/example/rolewright/rolewright/expression/Term$Symbol"), (10, .class_ 94), (0, u "com/example/rolewright/rolewright/expression/Term$Repeat"), (32, .class_ 128), (0, u "java/lang/Object"), (0, u "UNBOUNDED"), (0, u "I"), (2, u "AFTER_QUANTIFIER"), (1, u "QUANTIFIER_FOLLOWS"), (21, .class_ 158), (0, u "com/example/rolewright/rolewright/expression/Term$Cluster"), (0, .class_ 160), (0, u "com/example/rolewright/rolewright/expression/Term$Anchor"), (0, .class_ 162), (0, u "com/example/rolewright/rolewright/expression/Term$Empty")] 33

/-- com/example/rolewright/rolewright/expression/Term -/
def k2 : Class := { plain "com/example/rolewright/rolewright/expression/Term" (some 0) with
  accessFlags := 1536
  interfaces := #[]
  cf := some (fileOf pool2 11 #[.nestMembers #[93, 19, 13, 31, 157, 159, 81, 161]] #[] 1536 127 #[] #[{ accessFlags := 25, nameIndex := 129, descriptorIndex := 130, attributes := #[] }, { accessFlags := 25, nameIndex := 133, descriptorIndex := 130, attributes := #[] }, { accessFlags := 25, nameIndex := 135, descriptorIndex := 130, attributes := #[] }])
  fields := #[{ name := "UNBOUNDED", type := .int, accessFlags := 25, slot := 0, constantValue := 0 }, { name := "AFTER_QUANTIFIER", type := .int, accessFlags := 25, slot := 1, constantValue := 0 }, { name := "QUANTIFIER_FOLLOWS", type := .int, accessFlags := 25, slot := 2, constantValue := 0 }]
  methods := #[]
  instanceTypes := #[]
  staticTypes := #[.int, .int, .int]
  resolved := Array.replicate 196 none
  statics := none }

def pool3 : Array CpInfo := pool [(1, .methodref 2 3), (0, .class_ 4), (0, .nameAndType 5 6), (0, u "java/lang/Object"), (0, u "<init>"), (0, u "()V"), (0, .fieldref 8 9), (0, .class_ 10), (0, .nameAndType 11 12), (0, u "com/example/rolewright/rolewright/expression/Term$LineBreak"), (0, u "endsRound"), (0, u "Z"), (2, u "LINE_FEED"), (0, u "Lcom/example/rolewright/rolewright/expression/CharacterClass;"), (22, u "CARRIAGE_RETURN"), (2, u "OTHERS"), (0, .class_ 44), (0, u "com/example/rolewright/rolewright/expression/Term"), (25, u "(Z)V"), (3, u "(I)I"), (3, u "check")] 14

def k3c0 : Code := { maxStack := 2, maxLocals := 2, code := prog_48_method_1_code, exceptionTable := #[], attributes := #[] }
def k3m0 : Method := { name := "<init>", desc := "(Z)V", sig := { parameters := [.boolean], returnType := none }, accessFlags := 0, code := some k3c0 }
def k3c1 : Code := { maxStack := 2, maxLocals := 2, code := prog_48_method_4_code, exceptionTable := #[], attributes := #[] }
def k3m1 : Method := { name := "check", desc := "(I)I", sig := { parameters := [.int], returnType := some .int }, accessFlags := 1, code := some k3c1 }
/-- com/example/rolewright/rolewright/expression/Term$LineBreak -/
def k3 : Class := { plain "com/example/rolewright/rolewright/expression/Term$LineBreak" (some 0) with
  accessFlags := 49
  interfaces := #[2]
  cf := some (fileOf pool3 8 #[.nestHost 43] #[{ accessFlags := 0, nameIndex := 5, descriptorIndex := 70, attributes := #[] }, { accessFlags := 1, nameIndex := 78, descriptorIndex := 74, attributes := #[] }] 49 2 #[43] #[{ accessFlags := 26, nameIndex := 39, descriptorIndex := 16, attributes := #[] }, { accessFlags := 26, nameIndex := 15, descriptorIndex := 16, attributes := #[] }, { accessFlags := 26, nameIndex := 42, descriptorIndex := 16, attributes := #[] }, { accessFlags := 18, nameIndex := 11, descriptorIndex := 12, attributes := #[] }])
  fields := #[{ name := "CARRIAGE_RETURN", type := (.object "com/example/rolewright/rolewright/expression/CharacterClass"), accessFlags := 26, slot := 0, constantValue := 0 }, { name := "LINE_FEED", type := (.object "com/example/rolewright/rolewright/expression/CharacterClass"), accessFlags := 26, slot := 1, constantValue := 0 }, { name := "OTHERS", type := (.object "com/example/rolewright/rolewright/expression/CharacterClass"), accessFlags := 26, slot := 2, constantValue := 0 }, { name := "endsRound", type := .boolean, accessFlags := 18, slot := 0, constantValue := 0 }]
  methods := #[k3m0, k3m1]
  instanceTypes := #[.boolean]
  staticTypes := #[(.object "com/example/rolewright/rolewright/expression/CharacterClass"), (.object "com/example/rolewright/rolewright/expression/CharacterClass"), (.object "com/example/rolewright/rolewright/expression/CharacterClass")]
  resolved := Array.replicate 93 none
  statics := none }

def pool4 : Array CpInfo := pool [(1, u "java/lang/Cloneable"), (0, .class_ 1), (0, u "java/lang/Object"), (0, .class_ 3)] 3

/-- java/lang/Cloneable -/
def k4 : Class := { plain "java/lang/Cloneable" (some 0) with
  accessFlags := 1537
  interfaces := #[]
  cf := some (fileOf pool4 2 #[] #[] 1537 4 #[] #[])
  fields := #[]
  methods := #[]
  instanceTypes := #[]
  staticTypes := #[]
  resolved := Array.replicate 8 none
  statics := none }

def pool5 : Array CpInfo := pool [(1, u "java/io/Serializable"), (0, .class_ 1), (0, u "java/lang/Object"), (0, .class_ 3)] 3

/-- java/io/Serializable -/
def k5 : Class := { plain "java/io/Serializable" (some 0) with
  accessFlags := 1537
  interfaces := #[]
  cf := some (fileOf pool5 2 #[] #[] 1537 4 #[] #[])
  fields := #[]
  methods := #[]
  instanceTypes := #[]
  staticTypes := #[]
  resolved := Array.replicate 8 none
  statics := none }

/-- the primitive byte -/
def k6 : Class := { plain "byte" none with kind := .primitive 'B', accessFlags := 0x411 }
/-- [B -/
def k7 : Class := { plain "[B" (some 0) with kind := .array 6 .byte, interfaces := #[4, 5], accessFlags := 1041 }

/-- the primitive int -/
def k8 : Class := { plain "int" none with kind := .primitive 'I', accessFlags := 0x411 }
/-- [I -/
def k9 : Class := { plain "[I" (some 0) with kind := .array 8 .int, interfaces := #[4, 5], accessFlags := 1041 }

def heap : Heap := #[]
def classes : Array Class := #[k0, k1, k2, k3, k4, k5, k6, k7, k8, k9]
def interned : List (Array UInt16 × Addr) := []
def slotsUsed : Nat := 0
def theMethod : MethodId := ⟨1, 1⟩
def args0 : Array Value := #[.int 5, .int 3]
def aboutOver (below : List Frame) : State where
  vm := { classes := classes, interned := interned.toArray }
  heap := heap
  slotsUsed := slotsUsed
  threads := #[{ frames := .invoking theMethod args0 :: below }]
def below0 : List Frame := [.native { method := ⟨0, 0⟩, args := #[] }]
def about1 : State := aboutOver below0
def p0 : Program := .bare "" "" ""
def e0 : Env := launch0.env 0 0 0
theorem w_frames : about1.frames = Frame.invoking theMethod args0 :: below0 := rfl
set_option maxRecDepth 65536 in
theorem w_args : argsFit about1.vm theMethod args0 = true := by decide +kernel
set_option maxRecDepth 65536 in
theorem w_heap : heapFits about1 = true := by decide +kernel
set_option maxRecDepth 65536 in
theorem w_runnable : about1.curStatus? = some .runnable := by decide +kernel
set_option maxRecDepth 65536 in
theorem w_alone : about1.alone = true := by decide +kernel
set_option maxRecDepth 65536 in
theorem w_named : about1.methodNamed? x = some theMethod := by decide +kernel
set_option maxRecDepth 65536 in
theorem w_hears : about1.hears theMethod below0 = true := by decide +kernel
set_option maxRecDepth 65536 in
theorem w_ripe : about1.ripe theMethod args0 below0 = true := by decide +kernel
theorem w_running : about1.status = .running := rfl
set_option maxRecDepth 65536 in
theorem w_room : about1.hasRoom e0.platform room_1 = true :=
  launch0.hasRoom_least _ room_1 (by decide +kernel) (by decide +kernel) (by decide +kernel) (by decide +kernel) (by decide +kernel) (by decide +kernel)
theorem allAtoms_all (ts : List Jvm.Cond) (a : Array Jvm.Value) (st : Jvm.State) : (allAtoms ts).before a st = ts.all (fun c => c.before a st) := by
  induction ts with
  | nil => rfl
  | cons c t ih =>
    show (Jvm.Cond.and c (allAtoms t)).before a st = _
    rw [Jvm.Cond.before_and, ih, List.all_cons]
def words1 : List Jvm.Cond := Jvm.Cond.code x code maxLocals ret :: tables_1
/-- a 'code' word, met by the world's own term for the bytes: nothing is compared byte by byte -/
theorem code_word {y : MethodName} {bytes : ByteArray} {mx : Nat} {rt : Option FieldType} {a : Array Value} {s : State} {m : MethodId} {meth : Method} {c : Code} (h1 : s.methodNamed? y = some m) (h2 : s.vm.method? m = some meth) (h3 : meth.code = some c) (h4 : c.code = bytes)
    (h5 : (c.maxLocals == mx && c.exceptionTable.isEmpty && decide (c.maxStack ≤ mostOperands) && decide (meth.sig.returnType = rt) && !meth.locks && decide (parseMethodDescriptor y.desc = some meth.sig)) = true) : (Jvm.Cond.code y bytes mx rt).before a s = true := by
  simp only [Bool.and_eq_true, beq_iff_eq, Bool.not_eq_true', decide_eq_true_eq] at h5
  obtain ⟨⟨⟨⟨⟨g1, g2⟩, g3⟩, g4⟩, g5⟩, g6⟩ := h5
  simp [Cond.before, Cond.holds, Cond.value, h1, h2, h3, h4, g1, g2, g3, g4, g5, g6]
def isCode : Jvm.Cond → Bool
  | .code _ _ _ _ => true
  | _ => false
theorem all_split {L : List Jvm.Cond} {P : Jvm.Cond → Bool} (h1 : L.all (fun c => isCode c || P c) = true) (h2 : ∀ c ∈ L.filter isCode, P c = true) : L.all P = true := by
  refine List.all_eq_true.mpr fun c hc => ?_
  have h := List.all_eq_true.mp h1 c hc
  rcases Bool.eq_false_or_eq_true (isCode c) with hi | hi
  · exact h2 c (List.mem_filter.mpr ⟨hc, hi⟩)
  · simpa [hi] using h
set_option maxRecDepth 65536 in
theorem w_c0 : (Jvm.Cond.code x code maxLocals ret).before args0 about1 = true := code_word (m := ⟨1, 1⟩) (meth := k1m1) (c := k1c1) (by decide +kernel) rfl rfl rfl (by decide +kernel)
set_option maxRecDepth 65536 in
theorem w_c1 : (Jvm.Cond.code ({ cls := "com/example/rolewright/rolewright/expression/Term$LineBreak", name := "<init>", desc := "(Z)V" } : Jvm.MethodName) prog_48_method_1_code (2 : Nat) (Option.none : Option Jvm.ClassFile.FieldType)).before args0 about1 = true := code_word (m := ⟨3, 0⟩) (meth := k3m0) (c := k3c0) (by decide +kernel) rfl rfl rfl (by decide +kernel)
set_option maxRecDepth 65536 in
theorem w_c2 : (Jvm.Cond.code ({ cls := "java/lang/Object", name := "<init>", desc := "()V" } : Jvm.MethodName) object_method_1_code (1 : Nat) (Option.none : Option Jvm.ClassFile.FieldType)).before args0 about1 = true := code_word (m := ⟨0, 0⟩) (meth := k0m0) (c := k0c0) (by decide +kernel) rfl rfl rfl (by decide +kernel)
set_option maxRecDepth 65536 in
theorem w_c3 : (Jvm.Cond.code ({ cls := "com/example/rolewright/rolewright/expression/Term$LineBreak", name := "check", desc := "(I)I" } : Jvm.MethodName) prog_48_method_4_code (2 : Nat) (Option.some Jvm.ClassFile.FieldType.int)).before args0 about1 = true := code_word (m := ⟨3, 1⟩) (meth := k3m1) (c := k3c1) (by decide +kernel) rfl rfl rfl (by decide +kernel)
def codes1 : List Jvm.Cond := [Jvm.Cond.code x code maxLocals ret, Jvm.Cond.code ({ cls := "com/example/rolewright/rolewright/expression/Term$LineBreak", name := "<init>", desc := "(Z)V" } : Jvm.MethodName) prog_48_method_1_code (2 : Nat) (Option.none : Option Jvm.ClassFile.FieldType), Jvm.Cond.code ({ cls := "java/lang/Object", name := "<init>", desc := "()V" } : Jvm.MethodName) object_method_1_code (1 : Nat) (Option.none : Option Jvm.ClassFile.FieldType), Jvm.Cond.code ({ cls := "com/example/rolewright/rolewright/expression/Term$LineBreak", name := "check", desc := "(I)I" } : Jvm.MethodName) prog_48_method_4_code (2 : Nat) (Option.some Jvm.ClassFile.FieldType.int)]
set_option maxRecDepth 65536 in
theorem codes_eq : words1.filter isCode = codes1 := rfl
theorem w_codes : ∀ c ∈ words1.filter isCode, c.before args0 about1 = true := by
  rw [codes_eq]
  intro c hc
  simp only [codes1, List.mem_cons, List.not_mem_nil, or_false] at hc
  rcases hc with rfl | rfl | rfl | rfl
  · exact w_c0
  · exact w_c1
  · exact w_c2
  · exact w_c3
set_option maxRecDepth 65536 in
theorem w_t1 : words1.all (fun c => isCode c || c.before args0 about1) = true := by decide +kernel
theorem w_tables : (allAtoms (Jvm.Cond.code x code maxLocals ret :: tables_1)).before args0 about1 = true := by
  rw [allAtoms_all]
  show words1.all (fun c => c.before args0 about1) = true
  refine all_split ?_ w_codes
  rw [w_t1]
set_option maxRecDepth 65536 in
theorem w_case : (Jvm.Cond.and given_1 narrow_1).before args0 about1 = true := by decide +kernel
theorem w_applies : (headSpec (Jvm.Cond.code x code maxLocals ret :: tables_1) room_1).applies x e0.platform about1 = true :=
  (Spec.applies_iff w_frames).mpr ⟨w_running, w_runnable, w_alone, w_named, w_hears, w_ripe, w_room, w_tables⟩
theorem atStart : AtStart classFile x code maxLocals ret World_1 tables_1 room_1 Calls_1 rest_1 Pre_1 launch0 p0 e0 about1 theMethod args0 below0 :=
  ⟨lists_1, trivial, launch0.admits_env _ _ _, launch0.least_env, fairChoices_fair.cas, fairChoices_fair.clock, w_frames, w_args, w_heap, w_applies, trivial, trivial, w_case⟩
end start1
theorem witness_1 : WitnessClaimed_1 := ⟨start1.p0, start1.e0, start1.about1, start1.theMethod, start1.args0, start1.below0, start1.atStart⟩
end Jvm.Pilot.@@N@@
