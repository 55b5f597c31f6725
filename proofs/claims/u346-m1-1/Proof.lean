import JvmDerived
import JvmDerived.Pilot.@@N@@Statement
import JvmDerived.Pilot.@@N@@Code
set_option linter.unusedVariables false
set_option linter.unusedSimpArgs false
namespace Jvm.RoadKit
open Sem ClassFile Op Lib Jvm.Stand Jvm.Free Jvm.LawKit
section New
variable {p : Program} {l : Launch} {e : Env} {R : Room} {s : State} {m : MethodId} {args : Array Value} {below : List Frame} {meth : Method} {c : Code} {T : State} {locs : List Loc} {cells slots : Nat}
theorem retI (X : Stand p l e R s m args below meth c T locs cells slots) (hx : p.tables.exec = Jvm.exec) {pc : Nat} {Ls : Array Slot} {z : Int32} {rest : List Value} (hret : meth.sig.returnType = some .int) (hd : decode c.code pc = .ok (.ireturn, 1)) {fs : List Frame}
    (hl : ∀ (f : JFrame) (acts : List Action), f.method = m → f.locked = none → f.entered = [] → (doReturn e (T.setTop f) acts (some (.int z))).1 = T.setFrames fs) : Steps p.tables e below (T.setTop (mkF m pc Ls (.int z :: rest))) (T.setFrames fs) := by
  have hm' : T.vm.method? m = some meth := X.method'
  have hn : narrow .int (.int z) = .int z := rfl
  show Steps p.tables e below (T.setTop { method := m, pc := pc, locals := Ls, stack := _ :: rest, locked := none }) _
  jvm_step X.here [X.here.top, hx, hd, hm', hret, hn]
  first | (intro acts; rw [hl _ acts rfl rfl rfl]) | rw [hl _ _ rfl rfl rfl]
  exact Steps.refl _
end New
end Jvm.RoadKit
namespace Jvm.Pilot.@@N@@
open Jvm Jvm.ClassFile Sem Op Lib Jvm.Free Jvm.Stand Jvm.LawKit Jvm.RoadKit Bundle Jvm.Pilot.@@N@@.Jvm.D
/-! 0. the walk's goal: from the state S the body ends, and Q says what it leaves -/
def own_G (p : Program) (e : Env) (below : List Frame) (s : State) (Q : Option Value → Heap → List Loc → Prop) (k n : Nat) (S : State) : Prop :=
  ∃ s₂ o, Steps p.tables e below S s₂ ∧ s₂.status = .running ∧ Ended s₂ below o ∧ ∃ v L, o = .returned v ∧ Q v s₂.heap L ∧ FrameEnd s o s₂ L k n
theorem own_go {p : Program} {e : Env} {below : List Frame} {s : State} {Q : Option Value → Heap → List Loc → Prop} {k n : Nat} {S S' : State} (h : ∀ t, Steps p.tables e below S' t → Steps p.tables e below S t) (g : own_G p e below s Q k n S') : own_G p e below s Q k n S := by
  obtain ⟨t, o, h1, h2⟩ := g
  exact ⟨t, o, h t h1, h2⟩
theorem own_G0 {p : Program} {e : Env} {below : List Frame} {s : State} {Q : Option Value → Heap → List Loc → Prop} {k n : Nat} {S : State} (g : own_G p e below s Q k n S) :
    ∃ s₂ o, Steps p.tables e below S s₂ ∧ s₂.status = .running ∧ Ended s₂ below o ∧ ∃ v L, o = .returned v ∧ Q v s₂.heap L ∧ FrameEnd s o s₂ L k n := g
/-- a body that writes nothing and returns r -/
def own_Q (r : Option Value) (h0 : Heap) (v : Option Value) (h : Heap) (L : List Loc) : Prop := v = r ∧ L = [] ∧ h = h0
/-- Java's x % y, x >>> y on ints and longs, (char) x -/
def own_rem (x y : Int32) : Int32 := x - (x / y) * y
def own_us (x y : Int32) : Int32 := (x.toUInt32 >>> (y &&& 31).toUInt32).toInt32
def own_usL (x : Int64) (y : Int32) : Int64 := (x.toUInt64 >>> (y &&& 0x3f).toInt64.toUInt64).toInt64
def own_c (x : Int32) : Int32 := x.toUInt32.toUInt16.toUInt32.toInt32
theorem own_eq {p : Program} {e : Env} {below : List Frame} {s : State} {h0 : Heap} {k n : Nat} {S : State} {a b : Int32} (h : a = b) (g : own_G p e below s (own_Q (some (.int b)) h0) k n S) : own_G p e below s (own_Q (some (.int a)) h0) k n S := h ▸ g
section Own
variable {p : Program} {l : Launch} {e : Env} {R : Room} {s : State} {m : MethodId} {args : Array Value} {below : List Frame} {meth : Method} {c : Code} {T : State} {locs : List Loc} {cells slots : Nat} {Q : Option Value → Heap → List Loc → Prop} {k n : Nat}
theorem own_retI (X : Stand p l e R s m args below meth c T locs cells slots) (hx : p.tables.exec = Jvm.exec) (hlk : meth.locks = false) {pc : Nat} {Ls : Array Slot} {z : Int32} {rest : List Value} (hret : meth.sig.returnType = some .int) (hd : decode c.code pc = .ok (.ireturn, 1)) (hc : cells ≤ k) (hs : slots ≤ n) (hq : Q (some (.int z)) T.heap locs) :
    own_G p e below s Q k n (T.setTop (mkF m pc Ls (.int z :: rest))) := by
  obtain ⟨fs, hr, hrun, hended, hW, hsame⟩ := X.leave (v := some (.int z)) (fun h => by rw [hret] at h; cases h) hlk
  exact ⟨_, _, retI X hx hret hd hr, hrun, hended, _, _, rfl, hq, ⟨_, rfl⟩, hW, hsame.mono hc hs⟩
theorem own_retN (X : Stand p l e R s m args below meth c T locs cells slots) (hx : p.tables.exec = Jvm.exec) (hlk : meth.locks = false) {pc : Nat} {Ls : Array Slot} {z : Int32} {t : FieldType} {rest : List Value} (hret : meth.sig.returnType = some t) (ht : t = .boolean ∨ t = .byte ∨ t = .char ∨ t = .short) (hd : decode c.code pc = .ok (.ireturn, 1)) (hc : cells ≤ k) (hs : slots ≤ n) (hq : Q (some (.int (nar t z))) T.heap locs) :
    own_G p e below s Q k n (T.setTop (mkF m pc Ls (.int z :: rest))) := by
  obtain ⟨fs, hr, hrun, hended, hW, hsame⟩ := X.leave (v := some (.int (nar t z))) (fun h => by rw [hret] at h; cases h) hlk
  exact ⟨_, _, retN X hx hret ht hd hr, hrun, hended, _, _, rfl, hq, ⟨_, rfl⟩, hW, hsame.mono hc hs⟩
theorem own_retJ (X : Stand p l e R s m args below meth c T locs cells slots) (hx : p.tables.exec = Jvm.exec) (hlk : meth.locks = false) {pc : Nat} {Ls : Array Slot} {z : Int64} (hret : meth.sig.returnType = some .long) (hd : decode c.code pc = .ok (.lreturn, 1)) (hc : cells ≤ k) (hs : slots ≤ n) (hq : Q (some (.long z)) T.heap locs) :
    own_G p e below s Q k n (T.setTop (mkF m pc Ls [.long z])) := by
  obtain ⟨fs, hr, hrun, hended, hW, hsame⟩ := X.leave (v := some (.long z)) (fun h => by rw [hret] at h; cases h) hlk
  exact ⟨_, _, X.lreturnOut hx hret hd hr, hrun, hended, _, _, rfl, hq, ⟨_, rfl⟩, hW, hsame.mono hc hs⟩
theorem own_retA (X : Stand p l e R s m args below meth c T locs cells slots) (hx : p.tables.exec = Jvm.exec) (hlk : meth.locks = false) {pc : Nat} {Ls : Array Slot} {w : Value} {t : FieldType} (hw : w.isRef = true) (hret : meth.sig.returnType = some t) (ht : t.isReference = true) (hd : decode c.code pc = .ok (.areturn, 1)) (hc : cells ≤ k) (hs : slots ≤ n) (hq : Q (some w) T.heap locs) :
    own_G p e below s Q k n (T.setTop (mkF m pc Ls [w])) := by
  obtain ⟨fs, hr, hrun, hended, hW, hsame⟩ := X.leave (v := some w) (fun h => by rw [hret] at h; cases h) hlk
  exact ⟨_, _, X.areturnOut hx hw hret ht hd hr, hrun, hended, _, _, rfl, hq, ⟨_, rfl⟩, hW, hsame.mono hc hs⟩
theorem own_retV (X : Stand p l e R s m args below meth c T locs cells slots) (hx : p.tables.exec = Jvm.exec) (hlk : meth.locks = false) {pc : Nat} {Ls : Array Slot} (hret : meth.sig.returnType = none) (hd : decode c.code pc = .ok (.return_, 1)) (hc : cells ≤ k) (hs : slots ≤ n) (hq : Q none T.heap locs) :
    own_G p e below s Q k n (T.setTop (mkF m pc Ls [])) := by
  obtain ⟨fs, hr, hrun, hended, hW, hsame⟩ := X.leave (v := none) (fun _ => rfl) hlk
  exact ⟨_, _, X.returnOut hx hret hd hr, hrun, hended, _, _, rfl, hq, ⟨_, rfl⟩, hW, hsame.mono hc hs⟩
/-- a static call of a body that writes nothing -/
theorem own_call (X : Stand p l e R s m args below meth c T locs cells slots) (hx : p.tables.exec = Jvm.exec) {Z : State} (hZ : Z.Warmed39 s.vm) {a0 : Array Value} {own : String} {index : Nat} {y : MethodName} {bytes : ByteArray} {maxL : Nat} {ret : Option FieldType} {rm : Room} (hown : s.vm.findClass own = some m.cls)
    (w1 : (Cond.methodLink own index y).before a0 Z = true) (w2 : (Cond.static y).before a0 Z = true) (w3 : (Cond.initialized y.cls).before a0 Z = true) (w4 : (Cond.code y bytes maxL ret).before a0 Z = true) (hy : y.cls ≠ "java/lang/invoke/MethodHandle" ∧ y.cls ≠ "java/lang/invoke/VarHandle")
    {as' : Array Value} {h : Heap} {r : Option Value} (hM : MetFree l y (head1 [Cond.code y bytes maxL ret] rm) (fun a U => a = as' ∧ Z.Warmed39 U.vm ∧ U.heap = h) (fun _ _ _ _ _ => True) (fun _ U o U' => ∃ v L, o = .returned v ∧ own_Q r h v U'.heap L ∧ FrameEnd U o U' L rm.cells rm.slots)) (hc0 : rm.cells = 0) (hs0 : rm.slots = 0) (eT : T.heap = h)
    {W : Nat} (hf : rm.frames + 1 ≤ R.frames) (hl : W + (maxL + 11) + rm.locals ≤ R.locals) (hcR : cells ≤ R.cells) (hsR : slots ≤ R.slots) {g : JFrame} (hg : g.method = m) (hsize : g.locals.size = c.maxLocals) {argsL rest : List Value} (hlen : ∀ sig, parseMethodDescriptor y.desc = some sig → argsL.length = sig.parameters.length) (has : argsL.toArray = as') (hstack : g.stack = argsL.reverse ++ rest)
    (hW : 2 * g.monitorRoom + (rest.map fun v => v.category).sum ≤ W) (hdg : decode c.code g.pc = .ok (.invokestatic index, 3)) :
    ∃ T', Stand p l e R s m args below meth c T' locs cells slots ∧ T'.heap = h ∧ ∀ t, Steps p.tables e below (T'.setTop { g with pc := g.pc + 3, stack := r.toList ++ rest }) t → Steps p.tables e below (T.setTop g) t := by
  obtain ⟨_, _, ⟨T2, L2, k2, n2⟩, -, X2, ⟨Lc2, hQ2, l2, y2, z2⟩, st2⟩ := Jvm.LawKit.callS X hx hown (mvT hZ w1) (mvT hZ w2) (mvT hZ w3) (mvT hZ w4) hy (backOf (W := W) hM hZ w4 w3 hf hl) hg hsize hlen hstack hW hdg (fun _ _ => ⟨has, eT, (by show cells + rm.cells ≤ R.cells; rw [hc0]; exact hcR), (by show slots + rm.slots ≤ R.slots; rw [hs0]; exact hsR)⟩)
  dsimp only [Pt.U, Pt.locs, Pt.cells, Pt.slots] at X2 l2 y2 z2 st2 hQ2
  obtain ⟨rfl, rfl, e2⟩ := hQ2
  rw [hc0] at y2
  rw [hs0] at z2
  rw [List.append_nil] at l2
  subst l2 y2 z2
  exact ⟨T2, X2, e2, st2⟩
end Own

def own_QF (r : Option Value) (n0 : Nat) (v : Option Value) (h : Heap) (L : List Loc) : Prop := v = r ∧ Fr n0 L
theorem own_eqF {p : Program} {e : Env} {below : List Frame} {s : State} {n0 : Nat} {k n : Nat} {S : State} {a b : Int32} (h : a = b) (g : own_G p e below s (own_QF (some (.int b)) n0) k n S) : own_G p e below s (own_QF (some (.int a)) n0) k n S := h ▸ g
/-! arrays: at a stands an array of n values, the j-th f j -/
def own_A (Z : State) (h : Heap) (a : Addr) (ty : FieldType) (n : Int32) (f : Int32 → Int32) : Prop :=
  ∃ c : Cell, Arr Z h a c ty ∧ c.slots.size = n.toNatClampNeg ∧ ¬ n < 0 ∧ ∀ j : Int32, ¬ j < 0 → j < n → c.slots[j.toNatClampNeg]? = some (.int (f j))
def own_set (f : Int32 → Int32) (j v : Int32) (i : Int32) : Int32 := if i = j then v else f i
theorem own_clamp {j n : Int32} (h0 : ¬ j < 0) (h1 : j < n) : j.toNatClampNeg < n.toNatClampNeg := by
  rw [Int32.lt_iff_toInt_lt] at h0 h1
  have : (0 : Int32).toInt = 0 := rfl
  show j.toInt.toNat < n.toInt.toNat
  omega
theorem own_clinj {i j : Int32} (h0 : ¬ i < 0) (h1 : ¬ j < 0) (h : i.toNatClampNeg = j.toNatClampNeg) : i = j := by
  rw [Int32.lt_iff_toInt_lt] at h0 h1
  have z : (0 : Int32).toInt = 0 := rfl
  have e : i.toInt.toNat = j.toInt.toNat := h
  apply Int32.toInt_inj.mp
  omega
theorem own_A_new {Z : State} {h : Heap} {a : Addr} {k : ClassId} {ty : FieldType} {n : Int32} (A : Arr Z h a (newA k ty n) ty) (q : ¬ n < 0) (hd : defaultValue ty = .int 0) : own_A Z h a ty n (fun _ => 0) := by
  obtain ⟨c, h1, -, h3, h4, h5, -⟩ := Arv.new A q
  refine ⟨c, h1, h3, q, fun j h0 hj => ?_⟩
  have := h5 j.toNatClampNeg (by rw [h3]; exact own_clamp h0 hj)
  rw [this, hd]
  rfl
theorem own_A_set {Z : State} {h h' : Heap} {a : Addr} {ty : FieldType} {n j v : Int32} {f : Int32 → Int32} (A : own_A Z h a ty n f) (h0 : ¬ j < 0) (h1 : j < n) (W : Wr h h' a j.toNatClampNeg (.int v)) : own_A Z h' a ty n (own_set f j v) := by
  obtain ⟨c, A1, A2, A3, A4⟩ := A
  refine ⟨_, A1.same W, by rw [← A2]; simp [Cell.setSlot], A3, fun i i0 i1 => ?_⟩
  show (c.slots.setIfInBounds j.toNatClampNeg (.int v))[i.toNatClampNeg]? = _
  by_cases e : i = j
  · subst e
    rw [Array.getElem?_setIfInBounds_self_of_lt (by rw [A2]; exact own_clamp h0 h1)]
    simp [own_set]
  · rw [Array.getElem?_setIfInBounds_ne (fun q => e (own_clinj i0 h0 q.symm)), A4 i i0 i1]
    simp [own_set, e]
theorem own_A_other {Z : State} {h h' : Heap} {a b : Addr} {ty : FieldType} {n : Int32} {f : Int32 → Int32} {sl : Nat} {v : Value} (A : own_A Z h a ty n f) (W : Wr h h' b sl v) (q : a ≠ b) : own_A Z h' a ty n f := by
  obtain ⟨c, A1, A2⟩ := A
  exact ⟨c, A1.other W q, A2⟩
theorem own_A_ext {Z : State} {h h' : Heap} {a : Addr} {ty : FieldType} {n : Int32} {f : Int32 → Int32} (A : own_A Z h a ty n f) (E : Ext h h') : own_A Z h' a ty n f := by
  obtain ⟨c, A1, A2⟩ := A
  exact ⟨c, A1.ext E, A2⟩
theorem own_A_lt {Z : State} {h : Heap} {a : Addr} {ty : FieldType} {n : Int32} {f : Int32 → Int32} (A : own_A Z h a ty n f) : a < h.size := by
  obtain ⟨c, A1, A2⟩ := A
  exact A1.lt
section OwnA
variable {p : Program} {l : Launch} {e : Env} {R : Room} {s : State} {m : MethodId} {args : Array Value} {below : List Frame} {meth : Method} {c : Code} {T : State} {locs : List Loc} {cells slots : Nat} {Z : State} {h : Heap} {n0 : Nat}
theorem own_new (X : Stand p l e R s m args below meth c T locs cells slots) (hx : p.tables.exec = Jvm.exec) (hZ : Z.Warmed39 s.vm) {a0 : Array Value} {aty : ArrayType} (w : (Cond.arrayClass (newarray.typeOf aty)).before a0 Z = true) (eT : T.heap = h) (hn0 : n0 ≤ h.size) (hdv : defaultValue (newarray.typeOf aty) = .int 0) {g : JFrame} (hg : g.method = m) (hd : decode c.code g.pc = .ok (.newarray aty, 2)) {n : Int32} {rest : List Value} (hs : g.stack = .int n :: rest)
    (hn : ¬ n < 0) {cap : Nat} (hcap : n.toNatClampNeg ≤ cap) (hb : cap * 8 ≤ 536870912) (hc : cells + 1 ≤ R.cells) (hl : slots + cap ≤ R.slots) :
    ∃ T' h' a, Stand p l e R s m args below meth c T' locs (cells + 1) (slots + cap) ∧ T'.heap = h' ∧ Ext h h' ∧ a = h.size ∧ n0 ≤ a ∧ own_A Z h' a (newarray.typeOf aty) n (fun _ => 0) ∧
      ∀ target, Steps p.tables e below (T'.setTop { g with pc := g.pc + 2, stack := .ref a :: rest }) target → Steps p.tables e below (T.setTop g) target := by
  obtain ⟨T', h', cA, X', e', E', A', st⟩ := newP X hx hZ w eT hg hd hs hn hcap hb hc hl
  exact ⟨T', h', h.size, X', e', E', rfl, hn0, own_A_new A' hn hdv, st⟩
theorem own_stC (X : Stand p l e R s m args below meth c T locs cells slots) (hx : p.tables.exec = Jvm.exec) (hZ : Z.Warmed39 s.vm) (eT : T.heap = h) {a : Addr} {n : Int32} {f : Int32 → Int32} (A : own_A Z h a .char n f) (N : Fr n0 locs) (ha : n0 ≤ a) {j x : Int32} (h0 : ¬ j < 0) (h1 : j < n) {g : JFrame} (hg : g.method = m) {rest : List Value} (hs : g.stack = .int x :: .int j :: .ref a :: rest) (hd : decode c.code g.pc = .ok (.castore, 1)) :
    ∃ T' h' locs', Stand p l e R s m args below meth c T' locs' cells slots ∧ T'.heap = h' ∧ Fr n0 locs' ∧ own_A Z h' a .char n (own_set f j (nar .char x)) ∧ Wr h h' a j.toNatClampNeg (.int (nar .char x)) ∧
      ∀ target, Steps p.tables e below (T'.setTop { g with pc := g.pc + 1, stack := rest }) target → Steps p.tables e below (T.setTop g) target := by
  obtain ⟨cl, Ar, Sz, Hn, Hf⟩ := A
  obtain ⟨T', h', X', e', W', st⟩ := stC X hx hZ eT Ar (inb_of Sz ⟨h0, h1⟩) hg hs hd
  exact ⟨T', h', _, X', e', Fr.snoc X' N ha, own_A_set ⟨cl, Ar, Sz, Hn, Hf⟩ h0 h1 W', W', st⟩
theorem own_stI (X : Stand p l e R s m args below meth c T locs cells slots) (hx : p.tables.exec = Jvm.exec) (hZ : Z.Warmed39 s.vm) (eT : T.heap = h) {a : Addr} {n : Int32} {f : Int32 → Int32} (A : own_A Z h a .int n f) (N : Fr n0 locs) (ha : n0 ≤ a) {j x : Int32} (h0 : ¬ j < 0) (h1 : j < n) {g : JFrame} (hg : g.method = m) {rest : List Value} (hs : g.stack = .int x :: .int j :: .ref a :: rest) (hd : decode c.code g.pc = .ok (.iastore, 1)) :
    ∃ T' h' locs', Stand p l e R s m args below meth c T' locs' cells slots ∧ T'.heap = h' ∧ Fr n0 locs' ∧ own_A Z h' a .int n (own_set f j x) ∧ Wr h h' a j.toNatClampNeg (.int x) ∧
      ∀ target, Steps p.tables e below (T'.setTop { g with pc := g.pc + 1, stack := rest }) target → Steps p.tables e below (T.setTop g) target := by
  obtain ⟨cl, Ar, Sz, Hn, Hf⟩ := A
  obtain ⟨T', h', X', e', W', st⟩ := stI X hx hZ eT Ar (inb_of Sz ⟨h0, h1⟩) hg hs hd
  exact ⟨T', h', _, X', e', Fr.snoc X' N ha, own_A_set ⟨cl, Ar, Sz, Hn, Hf⟩ h0 h1 W', W', st⟩
theorem own_stB (X : Stand p l e R s m args below meth c T locs cells slots) (hx : p.tables.exec = Jvm.exec) (hZ : Z.Warmed39 s.vm) (eT : T.heap = h) {a : Addr} {n : Int32} {f : Int32 → Int32} (A : own_A Z h a .byte n f) (N : Fr n0 locs) (ha : n0 ≤ a) {j x : Int32} (h0 : ¬ j < 0) (h1 : j < n) {g : JFrame} (hg : g.method = m) {rest : List Value} (hs : g.stack = .int x :: .int j :: .ref a :: rest) (hd : decode c.code g.pc = .ok (.bastore, 1)) :
    ∃ T' h' locs', Stand p l e R s m args below meth c T' locs' cells slots ∧ T'.heap = h' ∧ Fr n0 locs' ∧ own_A Z h' a .byte n (own_set f j (nar .byte x)) ∧ Wr h h' a j.toNatClampNeg (.int (nar .byte x)) ∧
      ∀ target, Steps p.tables e below (T'.setTop { g with pc := g.pc + 1, stack := rest }) target → Steps p.tables e below (T.setTop g) target := by
  obtain ⟨cl, Ar, Sz, Hn, Hf⟩ := A
  obtain ⟨T', h', X', e', W', st⟩ := stB X hx hZ eT Ar (inb_of Sz ⟨h0, h1⟩) hg hs hd
  exact ⟨T', h', _, X', e', Fr.snoc X' N ha, own_A_set ⟨cl, Ar, Sz, Hn, Hf⟩ h0 h1 W', W', st⟩
theorem own_ldC (X : Stand p l e R s m args below meth c T locs cells slots) (hx : p.tables.exec = Jvm.exec) (hZ : Z.Warmed39 s.vm) (eT : T.heap = h) {a : Addr} {n : Int32} {f : Int32 → Int32} (A : own_A Z h a .char n f) {j : Int32} (h0 : ¬ j < 0) (h1 : j < n) {g : JFrame} (hg : g.method = m) {rest : List Value} (hs : g.stack = .int j :: .ref a :: rest) (hd : decode c.code g.pc = .ok (.caload, 1)) :
    ∀ target, Steps p.tables e below (T.setTop { g with pc := g.pc + 1, stack := .int (f j) :: rest }) target → Steps p.tables e below (T.setTop g) target := by
  obtain ⟨cl, Ar, Sz, Hn, Hf⟩ := A
  exact fun t k => X.caload hx (j := j) (v := .int (f j)) (by rw [eT]; exact Ar.1) (State.isArrayOf_alike hZ.alike Ar.2.1) Ar.2.2 (inb_of Sz ⟨h0, h1⟩) (Hf j h0 h1) hg hs hd t k
theorem own_ldI (X : Stand p l e R s m args below meth c T locs cells slots) (hx : p.tables.exec = Jvm.exec) (hZ : Z.Warmed39 s.vm) (eT : T.heap = h) {a : Addr} {n : Int32} {f : Int32 → Int32} (A : own_A Z h a .int n f) {j : Int32} (h0 : ¬ j < 0) (h1 : j < n) {g : JFrame} (hg : g.method = m) {rest : List Value} (hs : g.stack = .int j :: .ref a :: rest) (hd : decode c.code g.pc = .ok (.iaload, 1)) :
    ∀ target, Steps p.tables e below (T.setTop { g with pc := g.pc + 1, stack := .int (f j) :: rest }) target → Steps p.tables e below (T.setTop g) target := by
  obtain ⟨cl, Ar, Sz, Hn, Hf⟩ := A
  exact fun t k => X.iaload hx (j := j) (v := .int (f j)) (by rw [eT]; exact Ar.1) (State.isArrayOf_alike hZ.alike Ar.2.1) Ar.2.2 (inb_of Sz ⟨h0, h1⟩) (Hf j h0 h1) hg hs hd t k
theorem own_ldB (X : Stand p l e R s m args below meth c T locs cells slots) (hx : p.tables.exec = Jvm.exec) (hZ : Z.Warmed39 s.vm) (eT : T.heap = h) {a : Addr} {n : Int32} {f : Int32 → Int32} (A : own_A Z h a .byte n f) {j : Int32} (h0 : ¬ j < 0) (h1 : j < n) {g : JFrame} (hg : g.method = m) {rest : List Value} (hs : g.stack = .int j :: .ref a :: rest) (hd : decode c.code g.pc = .ok (.baload, 1)) :
    ∀ target, Steps p.tables e below (T.setTop { g with pc := g.pc + 1, stack := .int (f j) :: rest }) target → Steps p.tables e below (T.setTop g) target := by
  obtain ⟨cl, Ar, Sz, Hn, Hf⟩ := A
  exact fun t k => X.baloadBytes hx (j := j) (v := .int (f j)) (by rw [eT]; exact Ar.1) (State.isArrayOf_alike hZ.alike Ar.2.1) Ar.2.2 (inb_of Sz ⟨h0, h1⟩) (Hf j h0 h1) hg hs hd t k
theorem own_len (X : Stand p l e R s m args below meth c T locs cells slots) (hx : p.tables.exec = Jvm.exec) (hZ : Z.Warmed39 s.vm) (eT : T.heap = h) {a : Addr} {ty : FieldType} {n : Int32} {f : Int32 → Int32} (A : own_A Z h a ty n f) {g : JFrame} (hg : g.method = m) {rest : List Value} (hs : g.stack = .ref a :: rest) (hd : decode c.code g.pc = .ok (.arraylength, 1)) :
    ∀ target, Steps p.tables e below (T.setTop { g with pc := g.pc + 1, stack := .int n :: rest }) target → Steps p.tables e below (T.setTop g) target := by
  obtain ⟨cl, Ar, Sz, Hn, Hf⟩ := A
  intro t k
  refine X.arraylength hx (by rw [eT]; exact Ar.1) (State.isArrayOf_alike hZ.alike Ar.2.1) hg hs hd t ?_
  rw [len_of Sz Hn]
  exact k
end OwnA

/-! calls that write: what they return, that nothing old was written, and what P says of the heap they leave -/
def own_QE (r : Option Value) (n0 : Nat) (P : Heap → Prop) (v : Option Value) (h : Heap) (L : List Loc) : Prop := v = r ∧ Fr n0 L ∧ P h
section OwnO
variable {p : Program} {l : Launch} {e : Env} {R : Room} {s : State} {m : MethodId} {args : Array Value} {below : List Frame} {meth : Method} {c : Code} {T : State} {locs : List Loc} {cells slots : Nat} {Z : State} {h : Heap} {n0 : Nat} {a0 : Array Value}
theorem own_newO (X : Stand p l e R s m args below meth c T locs cells slots) (hx : p.tables.exec = Jvm.exec) (hZ : Z.Warmed39 s.vm) {own C : String} {index n : Nat} (hown : s.vm.findClass own = some m.cls) (w : (Cond.classLink own index C).before a0 Z = true) (wi : (Cond.instantiable C n).before a0 Z = true) (wz : (Cond.initialized C).before a0 Z = true) (eT : T.heap = h) (hn0 : n0 ≤ h.size)
    {g : JFrame} (hg : g.method = m) (hd : decode c.code g.pc = .ok (.new index, 3)) (hc : cells + 1 ≤ R.cells) (hl : slots + n ≤ R.slots) :
    ∃ T' h' a, Stand p l e R s m args below meth c T' locs (cells + 1) (slots + n) ∧ T'.heap = h' ∧ Ext h h' ∧ a = h.size ∧ n0 ≤ a ∧ n0 ≤ h'.size ∧ Exa Z h' a C ∧ (∀ {O nm d : String} {ty : FieldType}, Laid Z a0 C O nm d → parseFieldDescriptor d = some ty → Fld Z h' a O nm d (defaultValue ty)) ∧
      ∀ target, Steps p.tables e below (T'.setTop { g with pc := g.pc + 3, stack := .ref a :: g.stack }) target → Steps p.tables e below (T.setTop g) target := by
  obtain ⟨T', h', X', e', E', A', D', -, st⟩ := newO X hx hZ hown w wi wz eT hg hd hc hl
  exact ⟨T', h', h.size, X', e', E', rfl, hn0, Nat.le_trans hn0 E'.1, A', D', st⟩
theorem own_callI (X : Stand p l e R s m args below meth c T locs cells slots) (hx : p.tables.exec = Jvm.exec) (hZ : Z.Warmed39 s.vm) {own : String} {index : Nat} {y : MethodName} {bytes : ByteArray} {maxL : Nat} {rm : Room} (hy1 : y.name = "<init>") (hown : s.vm.findClass own = some m.cls)
    (w1 : (Cond.methodLink own index y).before a0 Z = true) (w2 : (Cond.instanceMethod y).before a0 Z = true) (w3 : (Cond.code y bytes maxL none).before a0 Z = true) (w4 : (Cond.initialized y.cls).before a0 Z = true) (hy : y.cls ≠ "java/lang/invoke/MethodHandle" ∧ y.cls ≠ "java/lang/invoke/VarHandle")
    {as' : Array Value} {P : Heap → Prop} (hM : MetFree l y (head1 [Cond.code y bytes maxL none] rm) (fun a U => a = as' ∧ Z.Warmed39 U.vm ∧ U.heap = h) (fun _ _ _ _ _ => True) (fun _ U o U' => ∃ v L, o = .returned v ∧ own_QE none n0 P v U'.heap L ∧ FrameEnd U o U' L rm.cells rm.slots)) (eT : T.heap = h) (N : Fr n0 locs)
    {W : Nat} (hf : rm.frames + 1 ≤ R.frames) (hl : W + (maxL + 11) + rm.locals ≤ R.locals) (hcR : cells + rm.cells ≤ R.cells) (hsR : slots + rm.slots ≤ R.slots) {g : JFrame} (hg : g.method = m) (hsize : g.locals.size = c.maxLocals) {b : Addr} {argsL rest : List Value} (hlen : ∀ sig, parseMethodDescriptor y.desc = some sig → argsL.length = sig.parameters.length) (has : (.ref b :: argsL).toArray = as') (hstack : g.stack = argsL.reverse ++ .ref b :: rest)
    (hW : 2 * g.monitorRoom + (rest.map fun v => v.category).sum ≤ W) (hdg : decode c.code g.pc = .ok (.invokespecial index, 3)) :
    ∃ T' h' locs', Stand p l e R s m args below meth c T' locs' (cells + rm.cells) (slots + rm.slots) ∧ T'.heap = h' ∧ Fr n0 locs' ∧ P h' ∧ ∀ t, Steps p.tables e below (T'.setTop { g with pc := g.pc + 3, stack := rest }) t → Steps p.tables e below (T.setTop g) t := by
  obtain ⟨_, _, ⟨T2, L2, k2, n2⟩, -, X2, ⟨Lc2, hQ2, l2, y2, z2⟩, st2⟩ := X.specialBack hx (y := y) hy1 hown (mvT hZ w1) (mvT hZ w2) (mvT hZ w3) hy (backOf (W := W) hM hZ w3 w4 hf hl) hg hsize (Steps.refl _) hlen hstack hW hdg (fun _ _ => ⟨has, eT, hcR, hsR⟩)
  dsimp only [Pt.U, Pt.locs, Pt.cells, Pt.slots] at X2 l2 y2 z2 st2 hQ2
  subst l2 y2 z2
  obtain ⟨rfl, N2, P2⟩ := hQ2
  exact ⟨T2, _, _, X2, rfl, Fr.app N N2, P2, fun t k => st2.trans k⟩
theorem own_callV (X : Stand p l e R s m args below meth c T locs cells slots) (hx : p.tables.exec = Jvm.exec) (hZ : Z.Warmed39 s.vm) {own C : String} {index : Nat} {y : MethodName} {bytes : ByteArray} {maxL : Nat} {ret : Option FieldType} {rm : Room} (hown : s.vm.findClass own = some m.cls)
    (w1 : (Cond.methodLink own index y).before a0 Z = true) (w2 : (Cond.declares y).before a0 Z = true) (w3 : (Cond.selects C y y).before a0 Z = true) (w4 : (Cond.instanceMethod y).before a0 Z = true) (w5 : (Cond.code y bytes maxL ret).before a0 Z = true) (w6 : (Cond.initialized y.cls).before a0 Z = true) (hy : y.cls ≠ "java/lang/invoke/MethodHandle" ∧ y.cls ≠ "java/lang/invoke/VarHandle")
    {as' : Array Value} {r : Option Value} (hM : MetFree l y (head1 [Cond.code y bytes maxL ret] rm) (fun a U => a = as' ∧ Z.Warmed39 U.vm ∧ U.heap = h) (fun _ _ _ _ _ => True) (fun _ U o U' => ∃ v L, o = .returned v ∧ own_Q r h v U'.heap L ∧ FrameEnd U o U' L rm.cells rm.slots)) (hc0 : rm.cells = 0) (hs0 : rm.slots = 0) (eT : T.heap = h) {b : Addr} (E : Exa Z h b C)
    {W : Nat} (hf : rm.frames + 1 ≤ R.frames) (hl : W + (maxL + 11) + rm.locals ≤ R.locals) (hcR : cells ≤ R.cells) (hsR : slots ≤ R.slots) {g : JFrame} (hg : g.method = m) (hsize : g.locals.size = c.maxLocals) {argsL rest : List Value} (hlen : ∀ sig, parseMethodDescriptor y.desc = some sig → argsL.length = sig.parameters.length) (has : (.ref b :: argsL).toArray = as') (hstack : g.stack = argsL.reverse ++ .ref b :: rest)
    (hW : 2 * g.monitorRoom + (rest.map fun v => v.category).sum ≤ W) (hdg : decode c.code g.pc = .ok (.invokevirtual index, 3)) :
    ∃ T', Stand p l e R s m args below meth c T' locs cells slots ∧ T'.heap = h ∧ ∀ t, Steps p.tables e below (T'.setTop { g with pc := g.pc + 3, stack := r.toList ++ rest }) t → Steps p.tables e below (T.setTop g) t := by
  obtain ⟨cB, kB, q1, -, q3⟩ := isOf hZ eT E
  obtain ⟨_, _, ⟨T2, L2, k2, n2⟩, -, X2, ⟨Lc2, hQ2, l2, y2, z2⟩, st2⟩ := X.virtualBack hx (y := y) (z := y) hown (mvT hZ w1) (mvT hZ w2) (notFace_of_selects (args := #[]) (mvT hZ w3)) (mvT hZ w3) (mvT hZ w4) hy (backOf (W := W) hM hZ w5 w6 hf hl) q1 q3 hg hsize (Steps.refl _) hlen hstack hW hdg (fun _ _ => ⟨has, eT, (by show cells + rm.cells ≤ R.cells; rw [hc0]; exact hcR), (by show slots + rm.slots ≤ R.slots; rw [hs0]; exact hsR)⟩)
  dsimp only [Pt.U, Pt.locs, Pt.cells, Pt.slots] at X2 l2 y2 z2 st2 hQ2
  obtain ⟨rfl, rfl, e2⟩ := hQ2
  rw [hc0] at y2
  rw [hs0] at z2
  rw [List.append_nil] at l2
  subst l2 y2 z2
  exact ⟨T2, X2, e2, fun t k => st2.trans k⟩
theorem own_callW (X : Stand p l e R s m args below meth c T locs cells slots) (hx : p.tables.exec = Jvm.exec) (hZ : Z.Warmed39 s.vm) {own C : String} {index : Nat} {y : MethodName} {bytes : ByteArray} {maxL : Nat} {ret : Option FieldType} {rm : Room} (hown : s.vm.findClass own = some m.cls)
    (w1 : (Cond.methodLink own index y).before a0 Z = true) (w2 : (Cond.declares y).before a0 Z = true) (w3 : (Cond.selects C y y).before a0 Z = true) (w4 : (Cond.instanceMethod y).before a0 Z = true) (w5 : (Cond.code y bytes maxL ret).before a0 Z = true) (w6 : (Cond.initialized y.cls).before a0 Z = true) (hy : y.cls ≠ "java/lang/invoke/MethodHandle" ∧ y.cls ≠ "java/lang/invoke/VarHandle")
    {as' : Array Value} {r : Option Value} {P : Heap → Prop} (hM : MetFree l y (head1 [Cond.code y bytes maxL ret] rm) (fun a U => a = as' ∧ Z.Warmed39 U.vm ∧ U.heap = h) (fun _ _ _ _ _ => True) (fun _ U o U' => ∃ v L, o = .returned v ∧ own_QE r n0 P v U'.heap L ∧ FrameEnd U o U' L rm.cells rm.slots)) (eT : T.heap = h) (N : Fr n0 locs) {b : Addr} (E : Exa Z h b C)
    {W : Nat} (hf : rm.frames + 1 ≤ R.frames) (hl : W + (maxL + 11) + rm.locals ≤ R.locals) (hcR : cells + rm.cells ≤ R.cells) (hsR : slots + rm.slots ≤ R.slots) {g : JFrame} (hg : g.method = m) (hsize : g.locals.size = c.maxLocals) {argsL rest : List Value} (hlen : ∀ sig, parseMethodDescriptor y.desc = some sig → argsL.length = sig.parameters.length) (has : (.ref b :: argsL).toArray = as') (hstack : g.stack = argsL.reverse ++ .ref b :: rest)
    (hW : 2 * g.monitorRoom + (rest.map fun v => v.category).sum ≤ W) (hdg : decode c.code g.pc = .ok (.invokevirtual index, 3)) :
    ∃ T' h' locs', Stand p l e R s m args below meth c T' locs' (cells + rm.cells) (slots + rm.slots) ∧ T'.heap = h' ∧ Fr n0 locs' ∧ P h' ∧ ∀ t, Steps p.tables e below (T'.setTop { g with pc := g.pc + 3, stack := r.toList ++ rest }) t → Steps p.tables e below (T.setTop g) t := by
  obtain ⟨cB, kB, q1, -, q3⟩ := isOf hZ eT E
  obtain ⟨_, _, ⟨T2, L2, k2, n2⟩, -, X2, ⟨Lc2, hQ2, l2, y2, z2⟩, st2⟩ := X.virtualBack hx (y := y) (z := y) hown (mvT hZ w1) (mvT hZ w2) (notFace_of_selects (args := #[]) (mvT hZ w3)) (mvT hZ w3) (mvT hZ w4) hy (backOf (W := W) hM hZ w5 w6 hf hl) q1 q3 hg hsize (Steps.refl _) hlen hstack hW hdg (fun _ _ => ⟨has, eT, hcR, hsR⟩)
  dsimp only [Pt.U, Pt.locs, Pt.cells, Pt.slots] at X2 l2 y2 z2 st2 hQ2
  subst l2 y2 z2
  obtain ⟨rfl, N2, P2⟩ := hQ2
  exact ⟨T2, _, _, X2, rfl, Fr.app N N2, P2, fun t k => st2.trans k⟩
theorem own_callSW (X : Stand p l e R s m args below meth c T locs cells slots) (hx : p.tables.exec = Jvm.exec) (hZ : Z.Warmed39 s.vm) {own : String} {index : Nat} {y : MethodName} {bytes : ByteArray} {maxL : Nat} {ret : Option FieldType} {rm : Room} (hown : s.vm.findClass own = some m.cls)
    (w1 : (Cond.methodLink own index y).before a0 Z = true) (w2 : (Cond.static y).before a0 Z = true) (w3 : (Cond.initialized y.cls).before a0 Z = true) (w4 : (Cond.code y bytes maxL ret).before a0 Z = true) (hy : y.cls ≠ "java/lang/invoke/MethodHandle" ∧ y.cls ≠ "java/lang/invoke/VarHandle")
    {as' : Array Value} {r : Option Value} {P : Heap → Prop} (hM : MetFree l y (head1 [Cond.code y bytes maxL ret] rm) (fun a U => a = as' ∧ Z.Warmed39 U.vm ∧ U.heap = h) (fun _ _ _ _ _ => True) (fun _ U o U' => ∃ v L, o = .returned v ∧ own_QE r n0 P v U'.heap L ∧ FrameEnd U o U' L rm.cells rm.slots)) (eT : T.heap = h) (N : Fr n0 locs)
    {W : Nat} (hf : rm.frames + 1 ≤ R.frames) (hl : W + (maxL + 11) + rm.locals ≤ R.locals) (hcR : cells + rm.cells ≤ R.cells) (hsR : slots + rm.slots ≤ R.slots) {g : JFrame} (hg : g.method = m) (hsize : g.locals.size = c.maxLocals) {argsL rest : List Value} (hlen : ∀ sig, parseMethodDescriptor y.desc = some sig → argsL.length = sig.parameters.length) (has : argsL.toArray = as') (hstack : g.stack = argsL.reverse ++ rest)
    (hW : 2 * g.monitorRoom + (rest.map fun v => v.category).sum ≤ W) (hdg : decode c.code g.pc = .ok (.invokestatic index, 3)) :
    ∃ T' h' locs', Stand p l e R s m args below meth c T' locs' (cells + rm.cells) (slots + rm.slots) ∧ T'.heap = h' ∧ Fr n0 locs' ∧ P h' ∧ ∀ t, Steps p.tables e below (T'.setTop { g with pc := g.pc + 3, stack := r.toList ++ rest }) t → Steps p.tables e below (T.setTop g) t := by
  obtain ⟨_, _, ⟨T2, L2, k2, n2⟩, -, X2, ⟨Lc2, hQ2, l2, y2, z2⟩, st2⟩ := Jvm.LawKit.callS X hx hown (mvT hZ w1) (mvT hZ w2) (mvT hZ w3) (mvT hZ w4) hy (backOf (W := W) hM hZ w4 w3 hf hl) hg hsize hlen hstack hW hdg (fun _ _ => ⟨has, eT, hcR, hsR⟩)
  dsimp only [Pt.U, Pt.locs, Pt.cells, Pt.slots] at X2 l2 y2 z2 st2 hQ2
  subst l2 y2 z2
  obtain ⟨rfl, N2, P2⟩ := hQ2
  exact ⟨T2, _, _, X2, rfl, Fr.app N N2, P2, st2⟩
end OwnO

theorem own_sta_keep0 {Z : State} {h h' : Heap} {C n d : String} {v : Value} (S : Sta Z h C n d v) (Kp : Keep h h' []) : Sta Z h' C n d v := by
  obtain ⟨cf, i, k, f, st, cell, h1, h2, h3, h4, h5, h6, h7⟩ := S
  exact ⟨cf, i, k, f, st, cell, h1, h2, h3, h4, Kp.2.1 st cell h5 (fun q => nomatch q), h6, h7⟩
theorem own_nar {v : Value} {c : String} (h : v.isRef = true) : narrow (.object c) v = v := by cases v <;> first | rfl | (simp [Value.isRef] at h)
theorem own_fit {v : Value} {c : String} (h : v.isRef = true) : fits (.object c) v = true := by cases v <;> first | rfl | (simp [Value.isRef] at h)
theorem own_sta_keep {Z : State} {h h' : Heap} {b : Addr} {C n d K : String} {v : Value} (S : Sta Z h C n d v) (E : Exa Z h b K) (Kp : Keep h h' [b]) : Sta Z h' C n d v := by
  obtain ⟨cf, i, k, f, st, cell, h1, h2, h3, h4, h5, h6, h7⟩ := S
  obtain ⟨c2, k2, g1, g2, g3, g4, g5⟩ := E
  have ne : st ≠ b := fun q => by
    subst q
    cases h5.symm.trans g1
    rw [h6] at g4
    cases g4
  exact ⟨cf, i, k, f, st, cell, h1, h2, h3, h4, Kp.2.1 st cell h5 (fun q => ne (List.mem_singleton.mp q)), h6, h7⟩
theorem own_A_keep {Z : State} {h h' : Heap} {a : Addr} {ty : FieldType} {n : Int32} {f : Int32 → Int32} {ws : List Addr} (A : own_A Z h a ty n f) (K : Keep h h' ws) (q : a ∉ ws) : own_A Z h' a ty n f := by
  obtain ⟨c, A1, A2⟩ := A
  exact ⟨c, ⟨K.2.1 a c A1.1 q, A1.2⟩, A2⟩

theorem own_lt {x y : Int32} : x < y ↔ x.toInt < y.toInt := Int32.lt_iff_toInt_lt
theorem d3_0 : decode jdk_22_method_1_code 0 = .ok (.aload_n 0, 1) := by decide +kernel
theorem d3_1 : decode jdk_22_method_1_code 1 = .ok (.invokespecial 1, 3) := by decide +kernel
theorem d3_4 : decode jdk_22_method_1_code 4 = .ok (.return_, 1) := by decide +kernel
theorem pn_3 : plainName "java/util/AbstractCollection" = true := by first | (simp [plainName, overriddenIn]; done) | decide +kernel
theorem ef_3 (m : MethodId) (a : Addr) : entryFrame m #[(.ref a)] 1 = mkF m 0 #[.val (.ref a)] [] := by first | (simp [entryFrame, mkF, argsToLocals, Value.category]; done) | rfl
set_option maxRecDepth 65536 in
set_option maxHeartbeats 40000000 in
theorem rm3 (l : Launch) (Z : State) (a0 : Array Value) (hw : ∀ d ∈ tables_1, d.before a0 Z = true) (ws : List Jvm.Cond) (a : Addr) (h0 : Heap) (n0 : Nat) :
    MetFree l (⟨"java/util/AbstractCollection", "<init>", "()V"⟩ : MethodName) (head1 (Jvm.Cond.code (⟨"java/util/AbstractCollection", "<init>", "()V"⟩ : MethodName) jdk_22_method_1_code 1 none :: ws) ({ frames := 1, cells := 0, slots := 0, locals := 12 } : Room)) (fun aa U => aa = #[(.ref a)] ∧ Z.Warmed39 U.vm ∧ U.heap = h0) (fun _ _ _ _ _ => True) (fun _ U o U' => ∃ v L, o = .returned v ∧ own_QE none n0 (fun h => h = h0) v U'.heap L ∧ FrameEnd U o U' L ({ frames := 1, cells := 0, slots := 0, locals := 12 } : Room).cells ({ frames := 1, cells := 0, slots := 0, locals := 12 } : Room).slots) := by
  refine MetFree.of_bodySF (plainFor_of_name pn_3) hisR ?_
  intro p e s m args below meth c s₁ Bd hml0 hP hK
  obtain ⟨rfl, hZ, hh⟩ := hP
  have hx := Bd.exec
  have hby := Bd.bytes
  have hml : c.maxLocals = 1 := hml0
  have hlk : meth.locks = false := Bd.notSynchronized
  have hown : s.vm.findClass "java/util/AbstractCollection" = some m.cls := findClass_of_methodNamed Bd.named
  have X0 : Stand p l e ({ frames := 1, cells := 0, slots := 0, locals := 12 } : Room) s m #[(.ref a)] below meth c s₁ [] 0 0 := Stand.of_body Bd
  have e0 : s₁.heap = h0 := by rw [← hh, Bd.state]; rfl
  refine own_G0 (own_go (fun _ k => castTop (ef_3 m a) k) ?_)
  show own_G p e below s _ _ _ (s₁.setTop (mkF m 0 #[.val (.ref a)] []))
  refine own_go (fun _ => XS.aloadN X0.here hx rfl (hb hby d3_0) rfl rfl) ?_
  show own_G p e below s _ _ _ (s₁.setTop (mkF m 1 #[.val (.ref a)] [(.ref a)]))
  obtain ⟨T1, X1, e1, st1⟩ := initO X0 hx hZ hown (hw _ (List.mem_of_getElem? (i := 18) rfl)) (hw _ (List.mem_of_getElem? (i := 19) rfl)) (hw _ (List.mem_of_getElem? (i := 20) rfl)) e0 (g := (mkF m 1 #[.val (.ref a)] [(.ref a)])) rfl (by rw [hml]; rfl) rfl (hb hby d3_1) (by decide) (W := 0) (by show 2 * 0 + _ ≤ _; exact Nat.le_of_eq rfl) (by decide)
  refine own_go (fun _ => st1 _) ?_
  show own_G p e below s _ _ _ (T1.setTop (mkF m 4 #[.val (.ref a)] []))
  exact own_retV X1 hx hlk Bd.returns (hb hby d3_4) (by decide) (by decide) ⟨rfl, Fr.nil n0, e1⟩
theorem d6_0 : decode jdk_30_method_1_code 0 = .ok (.aload_n 0, 1) := by decide +kernel
theorem d6_1 : decode jdk_30_method_1_code 1 = .ok (.invokespecial 1, 3) := by decide +kernel
theorem d6_4 : decode jdk_30_method_1_code 4 = .ok (.return_, 1) := by decide +kernel
theorem pn_6 : plainName "java/lang/Record" = true := by first | (simp [plainName, overriddenIn]; done) | decide +kernel
theorem ef_6 (m : MethodId) (a : Addr) : entryFrame m #[(.ref a)] 1 = mkF m 0 #[.val (.ref a)] [] := by first | (simp [entryFrame, mkF, argsToLocals, Value.category]; done) | rfl
set_option maxRecDepth 65536 in
set_option maxHeartbeats 40000000 in
theorem rm6 (l : Launch) (Z : State) (a0 : Array Value) (hw : ∀ d ∈ tables_1, d.before a0 Z = true) (ws : List Jvm.Cond) (a : Addr) (h0 : Heap) (n0 : Nat) :
    MetFree l (⟨"java/lang/Record", "<init>", "()V"⟩ : MethodName) (head1 (Jvm.Cond.code (⟨"java/lang/Record", "<init>", "()V"⟩ : MethodName) jdk_30_method_1_code 1 none :: ws) ({ frames := 1, cells := 0, slots := 0, locals := 12 } : Room)) (fun aa U => aa = #[(.ref a)] ∧ Z.Warmed39 U.vm ∧ U.heap = h0) (fun _ _ _ _ _ => True) (fun _ U o U' => ∃ v L, o = .returned v ∧ own_QE none n0 (fun h => h = h0) v U'.heap L ∧ FrameEnd U o U' L ({ frames := 1, cells := 0, slots := 0, locals := 12 } : Room).cells ({ frames := 1, cells := 0, slots := 0, locals := 12 } : Room).slots) := by
  refine MetFree.of_bodySF (plainFor_of_name pn_6) hisR ?_
  intro p e s m args below meth c s₁ Bd hml0 hP hK
  obtain ⟨rfl, hZ, hh⟩ := hP
  have hx := Bd.exec
  have hby := Bd.bytes
  have hml : c.maxLocals = 1 := hml0
  have hlk : meth.locks = false := Bd.notSynchronized
  have hown : s.vm.findClass "java/lang/Record" = some m.cls := findClass_of_methodNamed Bd.named
  have X0 : Stand p l e ({ frames := 1, cells := 0, slots := 0, locals := 12 } : Room) s m #[(.ref a)] below meth c s₁ [] 0 0 := Stand.of_body Bd
  have e0 : s₁.heap = h0 := by rw [← hh, Bd.state]; rfl
  refine own_G0 (own_go (fun _ k => castTop (ef_6 m a) k) ?_)
  show own_G p e below s _ _ _ (s₁.setTop (mkF m 0 #[.val (.ref a)] []))
  refine own_go (fun _ => XS.aloadN X0.here hx rfl (hb hby d6_0) rfl rfl) ?_
  show own_G p e below s _ _ _ (s₁.setTop (mkF m 1 #[.val (.ref a)] [(.ref a)]))
  obtain ⟨T1, X1, e1, st1⟩ := initO X0 hx hZ hown (hw _ (List.mem_of_getElem? (i := 37) rfl)) (hw _ (List.mem_of_getElem? (i := 19) rfl)) (hw _ (List.mem_of_getElem? (i := 20) rfl)) e0 (g := (mkF m 1 #[.val (.ref a)] [(.ref a)])) rfl (by rw [hml]; rfl) rfl (hb hby d6_1) (by decide) (W := 0) (by show 2 * 0 + _ ≤ _; exact Nat.le_of_eq rfl) (by decide)
  refine own_go (fun _ => st1 _) ?_
  show own_G p e below s _ _ _ (T1.setTop (mkF m 4 #[.val (.ref a)] []))
  exact own_retV X1 hx hlk Bd.returns (hb hby d6_4) (by decide) (by decide) ⟨rfl, Fr.nil n0, e1⟩
theorem d2_0 : decode jdk_39_method_1_code 0 = .ok (.aload_n 0, 1) := by decide +kernel
theorem d2_1 : decode jdk_39_method_1_code 1 = .ok (.invokespecial 1, 3) := by decide +kernel
theorem d2_4 : decode jdk_39_method_1_code 4 = .ok (.aload_n 0, 1) := by decide +kernel
theorem d2_5 : decode jdk_39_method_1_code 5 = .ok (.iconst 0, 1) := by decide +kernel
theorem d2_6 : decode jdk_39_method_1_code 6 = .ok (.putfield 7, 3) := by decide +kernel
theorem d2_9 : decode jdk_39_method_1_code 9 = .ok (.return_, 1) := by decide +kernel
theorem pn_2 : plainName "java/util/AbstractList" = true := by first | (simp [plainName, overriddenIn]; done) | decide +kernel
theorem ef_2 (m : MethodId) (a : Addr) : entryFrame m #[(.ref a)] 1 = mkF m 0 #[.val (.ref a)] [] := by first | (simp [entryFrame, mkF, argsToLocals, Value.category]; done) | rfl
set_option maxRecDepth 65536 in
set_option maxHeartbeats 40000000 in
theorem rm2 (l : Launch) (Z : State) (a0 : Array Value) (hw : ∀ d ∈ tables_1, d.before a0 Z = true) (ws : List Jvm.Cond) (a : Addr) (h0 : Heap) (n0 : Nat) (Z0 : n0 ≤ h0.size) (ga : n0 ≤ a) (E : Exa Z h0 a "java/util/ArrayList") {u_modCount : Value} (F_modCount : Fld Z h0 a "java/util/AbstractList" "modCount" "I" u_modCount) {u_elementData : Value} (F_elementData : Fld Z h0 a "java/util/ArrayList" "elementData" "[Ljava/lang/Object;" u_elementData)  :
    MetFree l (⟨"java/util/AbstractList", "<init>", "()V"⟩ : MethodName) (head1 (Jvm.Cond.code (⟨"java/util/AbstractList", "<init>", "()V"⟩ : MethodName) jdk_39_method_1_code 1 none :: ws) ({ frames := 2, cells := 0, slots := 0, locals := 24 } : Room)) (fun aa U => aa = #[(.ref a)] ∧ Z.Warmed39 U.vm ∧ U.heap = h0) (fun _ _ _ _ _ => True) (fun _ U o U' => ∃ v L, o = .returned v ∧ own_QE none n0 (fun h => Keep h0 h [a] ∧ Exa Z h a "java/util/ArrayList" ∧ Fld Z h a "java/util/AbstractList" "modCount" "I" (.int (0 : Int32)) ∧ Fld Z h a "java/util/ArrayList" "elementData" "[Ljava/lang/Object;" u_elementData) v U'.heap L ∧ FrameEnd U o U' L ({ frames := 2, cells := 0, slots := 0, locals := 24 } : Room).cells ({ frames := 2, cells := 0, slots := 0, locals := 24 } : Room).slots) := by
  refine MetFree.of_bodySF (plainFor_of_name pn_2) hisR ?_
  intro p e s m args below meth c s₁ Bd hml0 hP hK
  obtain ⟨rfl, hZ, hh⟩ := hP
  have hx := Bd.exec
  have hby := Bd.bytes
  have hml : c.maxLocals = 1 := hml0
  have hlk : meth.locks = false := Bd.notSynchronized
  have hown : s.vm.findClass "java/util/AbstractList" = some m.cls := findClass_of_methodNamed Bd.named
  have X0 : Stand p l e ({ frames := 2, cells := 0, slots := 0, locals := 24 } : Room) s m #[(.ref a)] below meth c s₁ [] 0 0 := Stand.of_body Bd
  have e0 : s₁.heap = h0 := by rw [← hh, Bd.state]; rfl
  refine own_G0 (own_go (fun _ k => castTop (ef_2 m a) k) ?_)
  show own_G p e below s _ _ _ (s₁.setTop (mkF m 0 #[.val (.ref a)] []))
  refine own_go (fun _ => XS.aloadN X0.here hx rfl (hb hby d2_0) rfl rfl) ?_
  show own_G p e below s _ _ _ (s₁.setTop (mkF m 1 #[.val (.ref a)] [(.ref a)]))
  obtain ⟨T1, h1, L1, X1, e1, N1, P1, st1⟩ := own_callI X0 hx hZ rfl hown (hw _ (List.mem_of_getElem? (i := 12) rfl)) (hw _ (List.mem_of_getElem? (i := 13) rfl)) (hw _ (List.mem_of_getElem? (i := 17) rfl)) (hw _ (List.mem_of_getElem? (i := 16) rfl)) (by decide) (rm3 l Z a0 hw [] a h0 n0) e0 (Fr.nil n0) (W := 0) (by decide) (by decide) (by decide) (by decide) (g := (mkF m 1 #[.val (.ref a)] [(.ref a)])) rfl (by rw [hml]; rfl) (argsL := []) (rest := []) (lenOf (by decide +kernel : parseMethodDescriptor "()V" = some ⟨[], none⟩) rfl) rfl rfl (by show 2 * 0 + _ ≤ _; exact Nat.le_of_eq rfl) (hb hby d2_1)
  have eq1 := e1.trans P1
  refine own_go (fun _ => st1 _) ?_
  show own_G p e below s _ _ _ (T1.setTop (mkF m 4 #[.val (.ref a)] []))
  refine own_go (fun _ => XS.aloadN X1.here hx rfl (hb hby d2_4) rfl rfl) ?_
  show own_G p e below s _ _ _ (T1.setTop (mkF m 5 #[.val (.ref a)] [(.ref a)]))
  refine own_go (fun _ => XS.iconst X1.here hx rfl (hb hby d2_5)) ?_
  show own_G p e below s _ _ _ (T1.setTop (mkF m 6 #[.val (.ref a)] [(.int (0 : Int32)), (.ref a)]))
  obtain ⟨T2, h2, X2, e2, W2, st2⟩ := putF X1 hx hZ hown (host := "") (Or.inl (hw _ (List.mem_of_getElem? (i := 21) rfl))) Via.refl eq1 F_modCount E (Or.inl (hw _ (List.mem_of_getElem? (i := 22) rfl))) (hw _ (List.mem_of_getElem? (i := 1) rfl)) (ty := .int) (by decide) rfl rfl (g := (mkF m 6 #[.val (.ref a)] [(.int (0 : Int32)), (.ref a)])) rfl rfl (hb hby d2_6)
  have N2 := Fr.snoc X2 N1 ga
  have Ew3 := E.wr W2
  have Fw4 := F_modCount.same W2
  have Fw5 := F_elementData.other W2 (Or.inr (slot_ne (Or.inl (hw _ (List.mem_of_getElem? (i := 25) rfl))) (Or.inl (hw _ (List.mem_of_getElem? (i := 22) rfl))) (by decide) (t := (.array (.object "java/lang/Object"))) (t' := .int) (by decide) (by decide)))
  have Kw6 := (Keep.refl h0 [a]).wr W2 (Or.inl (List.mem_of_getElem? (i := 0) rfl))
  refine own_go (fun _ => st2 _) ?_
  show own_G p e below s _ _ _ (T2.setTop (mkF m 9 #[.val (.ref a)] []))
  exact own_retV X2 hx hlk Bd.returns (hb hby d2_9) (by decide) (by decide) ⟨rfl, N2, by rw [e2]; exact ⟨Kw6, Ew3, Fw4, Fw5⟩⟩
theorem d1_0 : decode jdk_38_method_2_code 0 = .ok (.aload_n 0, 1) := by decide +kernel
theorem d1_1 : decode jdk_38_method_2_code 1 = .ok (.invokespecial 1, 3) := by decide +kernel
theorem d1_4 : decode jdk_38_method_2_code 4 = .ok (.aload_n 0, 1) := by decide +kernel
theorem d1_5 : decode jdk_38_method_2_code 5 = .ok (.getstatic 39, 3) := by decide +kernel
theorem d1_8 : decode jdk_38_method_2_code 8 = .ok (.putfield 9, 3) := by decide +kernel
theorem d1_11 : decode jdk_38_method_2_code 11 = .ok (.return_, 1) := by decide +kernel
theorem pn_1 : plainName "java/util/ArrayList" = true := by first | (simp [plainName, overriddenIn]; done) | decide +kernel
theorem ef_1 (m : MethodId) (a : Addr) : entryFrame m #[(.ref a)] 1 = mkF m 0 #[.val (.ref a)] [] := by first | (simp [entryFrame, mkF, argsToLocals, Value.category]; done) | rfl
set_option maxRecDepth 65536 in
set_option maxHeartbeats 40000000 in
theorem rm1 (l : Launch) (Z : State) (a0 : Array Value) (hw : ∀ d ∈ tables_1, d.before a0 Z = true) (ws : List Jvm.Cond) (a : Addr) (h0 : Heap) (n0 : Nat) (Z0 : n0 ≤ h0.size) (ga : n0 ≤ a) (E : Exa Z h0 a "java/util/ArrayList") {u_modCount : Value} (F_modCount : Fld Z h0 a "java/util/AbstractList" "modCount" "I" u_modCount) {u_elementData : Value} (F_elementData : Fld Z h0 a "java/util/ArrayList" "elementData" "[Ljava/lang/Object;" u_elementData) (vd : Addr) (S0 : Sta Z h0 "java/util/ArrayList" "DEFAULTCAPACITY_EMPTY_ELEMENTDATA" "[Ljava/lang/Object;" (.ref vd)) :
    MetFree l (⟨"java/util/ArrayList", "<init>", "()V"⟩ : MethodName) (head1 (Jvm.Cond.code (⟨"java/util/ArrayList", "<init>", "()V"⟩ : MethodName) jdk_38_method_2_code 1 none :: ws) ({ frames := 3, cells := 0, slots := 0, locals := 36 } : Room)) (fun aa U => aa = #[(.ref a)] ∧ Z.Warmed39 U.vm ∧ U.heap = h0) (fun _ _ _ _ _ => True) (fun _ U o U' => ∃ v L, o = .returned v ∧ own_QE none n0 (fun h => Keep h0 h [a] ∧ Exa Z h a "java/util/ArrayList" ∧ Fld Z h a "java/util/AbstractList" "modCount" "I" (.int (0 : Int32)) ∧ Fld Z h a "java/util/ArrayList" "elementData" "[Ljava/lang/Object;" (.ref vd)) v U'.heap L ∧ FrameEnd U o U' L ({ frames := 3, cells := 0, slots := 0, locals := 36 } : Room).cells ({ frames := 3, cells := 0, slots := 0, locals := 36 } : Room).slots) := by
  refine MetFree.of_bodySF (plainFor_of_name pn_1) hisR ?_
  intro p e s m args below meth c s₁ Bd hml0 hP hK
  obtain ⟨rfl, hZ, hh⟩ := hP
  have hx := Bd.exec
  have hby := Bd.bytes
  have hml : c.maxLocals = 1 := hml0
  have hlk : meth.locks = false := Bd.notSynchronized
  have hown : s.vm.findClass "java/util/ArrayList" = some m.cls := findClass_of_methodNamed Bd.named
  have X0 : Stand p l e ({ frames := 3, cells := 0, slots := 0, locals := 36 } : Room) s m #[(.ref a)] below meth c s₁ [] 0 0 := Stand.of_body Bd
  have e0 : s₁.heap = h0 := by rw [← hh, Bd.state]; rfl
  refine own_G0 (own_go (fun _ k => castTop (ef_1 m a) k) ?_)
  show own_G p e below s _ _ _ (s₁.setTop (mkF m 0 #[.val (.ref a)] []))
  refine own_go (fun _ => XS.aloadN X0.here hx rfl (hb hby d1_0) rfl rfl) ?_
  show own_G p e below s _ _ _ (s₁.setTop (mkF m 1 #[.val (.ref a)] [(.ref a)]))
  obtain ⟨T1, h1, L1, X1, e1, N1, P1, st1⟩ := own_callI X0 hx hZ rfl hown (hw _ (List.mem_of_getElem? (i := 6) rfl)) (hw _ (List.mem_of_getElem? (i := 7) rfl)) (hw _ (List.mem_of_getElem? (i := 11) rfl)) (hw _ (List.mem_of_getElem? (i := 10) rfl)) (by decide) (rm2 l Z a0 hw [] a h0 n0 Z0 ga E F_modCount F_elementData) e0 (Fr.nil n0) (W := 0) (by decide) (by decide) (by decide) (by decide) (g := (mkF m 1 #[.val (.ref a)] [(.ref a)])) rfl (by rw [hml]; rfl) (argsL := []) (rest := []) (lenOf (by decide +kernel : parseMethodDescriptor "()V" = some ⟨[], none⟩) rfl) rfl rfl (by show 2 * 0 + _ ≤ _; exact Nat.le_of_eq rfl) (hb hby d1_1)
  obtain ⟨K1, Ec1, Fc1_0, Fc1_1⟩ := P1
  have Sk2 := own_sta_keep S0 E K1
  have Kk3 := (Keep.refl h0 [a]).trans K1 (fun x hx => by cases List.mem_singleton.mp hx; exact Or.inl (List.mem_of_getElem? (i := 0) rfl))
  have Ek4 := E.keep K1
  have zk5 := Nat.le_trans Z0 K1.1
  refine own_go (fun _ => st1 _) ?_
  show own_G p e below s _ _ _ (T1.setTop (mkF m 4 #[.val (.ref a)] []))
  refine own_go (fun _ => XS.aloadN X1.here hx rfl (hb hby d1_4) rfl rfl) ?_
  show own_G p e below s _ _ _ (T1.setTop (mkF m 5 #[.val (.ref a)] [(.ref a)]))
  obtain ⟨T6, X6, e6, st6⟩ := getS2 X1 hx hZ hown (host := "") (Or.inl (hw _ (List.mem_of_getElem? (i := 23) rfl))) Via.refl e1 Sk2 (g := (mkF m 5 #[.val (.ref a)] [(.ref a)])) rfl (hb hby d1_5)
  refine own_go (fun _ => st6 _) ?_
  show own_G p e below s _ _ _ (T6.setTop (mkF m 8 #[.val (.ref a)] [(.ref vd), (.ref a)]))
  obtain ⟨T7, h7, X7, e7, W7, st7⟩ := putF X6 hx hZ hown (host := "") (Or.inl (hw _ (List.mem_of_getElem? (i := 24) rfl))) Via.refl e6 Fc1_1 Ec1 (Or.inl (hw _ (List.mem_of_getElem? (i := 25) rfl))) (hw _ (List.mem_of_getElem? (i := 1) rfl)) (ty := (.array (.object "java/lang/Object"))) (by decide) rfl rfl (g := (mkF m 8 #[.val (.ref a)] [(.ref vd), (.ref a)])) rfl rfl (hb hby d1_8)
  have N7 := Fr.snoc X7 N1 ga
  have Ew8 := Ec1.wr W7
  have Fw9 := Fc1_0.other W7 (Or.inr (slot_ne (Or.inl (hw _ (List.mem_of_getElem? (i := 22) rfl))) (Or.inl (hw _ (List.mem_of_getElem? (i := 25) rfl))) (by decide) (t := .int) (t' := (.array (.object "java/lang/Object"))) (by decide) (by decide)))
  have Fw10 := Fc1_1.same W7
  have Kw11 := Kk3.wr W7 (Or.inl (List.mem_of_getElem? (i := 0) rfl))
  have Sw12 := Sk2.wr W7
  refine own_go (fun _ => st7 _) ?_
  show own_G p e below s _ _ _ (T7.setTop (mkF m 11 #[.val (.ref a)] []))
  exact own_retV X7 hx hlk Bd.returns (hb hby d1_11) (by decide) (by decide) ⟨rfl, N7, by rw [e7]; exact ⟨Kw11, Ew8, Fw9, Fw10⟩⟩
theorem d5_0 : decode prog_155_method_1_code 0 = .ok (.aload_n 0, 1) := by decide +kernel
theorem d5_1 : decode prog_155_method_1_code 1 = .ok (.invokespecial 1, 3) := by decide +kernel
theorem d5_4 : decode prog_155_method_1_code 4 = .ok (.aload_n 0, 1) := by decide +kernel
theorem d5_5 : decode prog_155_method_1_code 5 = .ok (.aload_n 1, 1) := by decide +kernel
theorem d5_6 : decode prog_155_method_1_code 6 = .ok (.putfield 7, 3) := by decide +kernel
theorem d5_9 : decode prog_155_method_1_code 9 = .ok (.aload_n 0, 1) := by decide +kernel
theorem d5_10 : decode prog_155_method_1_code 10 = .ok (.iload_n 2, 1) := by decide +kernel
theorem d5_11 : decode prog_155_method_1_code 11 = .ok (.putfield 13, 3) := by decide +kernel
theorem d5_14 : decode prog_155_method_1_code 14 = .ok (.aload_n 0, 1) := by decide +kernel
theorem d5_15 : decode prog_155_method_1_code 15 = .ok (.lload_n 3, 1) := by decide +kernel
theorem d5_16 : decode prog_155_method_1_code 16 = .ok (.putfield 17, 3) := by decide +kernel
theorem d5_19 : decode prog_155_method_1_code 19 = .ok (.aload_n 0, 1) := by decide +kernel
theorem d5_20 : decode prog_155_method_1_code 20 = .ok (.aload 5, 2) := by decide +kernel
theorem d5_22 : decode prog_155_method_1_code 22 = .ok (.putfield 21, 3) := by decide +kernel
theorem d5_25 : decode prog_155_method_1_code 25 = .ok (.aload_n 0, 1) := by decide +kernel
theorem d5_26 : decode prog_155_method_1_code 26 = .ok (.lload 6, 2) := by decide +kernel
theorem d5_28 : decode prog_155_method_1_code 28 = .ok (.putfield 24, 3) := by decide +kernel
theorem d5_31 : decode prog_155_method_1_code 31 = .ok (.return_, 1) := by decide +kernel
theorem pn_5 : plainName "org/ripplelog/event/CopyProgress" = true := by first | (simp [plainName, overriddenIn]; done) | decide +kernel
theorem ef_5 (m : MethodId) (a : Addr) (b1 : Addr) (q1 : Int32) (q2 : Int64) (b2 : Addr) (q3 : Int64) : entryFrame m #[(.ref a), (.ref b1), (.int q1), (.long q2), (.ref b2), (.long q3)] 8 = mkF m 0 #[.val (.ref a), .val (.ref b1), .val (.int q1), .val (.long q2), .second, .val (.ref b2), .val (.long q3), .second] [] := by first | (simp [entryFrame, mkF, argsToLocals, Value.category]; done) | rfl
set_option maxRecDepth 65536 in
set_option maxHeartbeats 40000000 in
theorem rm5 (l : Launch) (Z : State) (a0 : Array Value) (hw : ∀ d ∈ tables_1, d.before a0 Z = true) (ws : List Jvm.Cond) (a : Addr) (b1 : Addr) (q1 : Int32) (q2 : Int64) (b2 : Addr) (q3 : Int64) (h0 : Heap) (n0 : Nat) (Z0 : n0 ≤ h0.size) (ga : n0 ≤ a) (E : Exa Z h0 a "org/ripplelog/event/CopyProgress") {u_tables : Value} (F_tables : Fld Z h0 a "org/ripplelog/event/CopyProgress" "tables" "Ljava/util/List;" u_tables) {u_table : Value} (F_table : Fld Z h0 a "org/ripplelog/event/CopyProgress" "table" "I" u_table) {u_rows : Value} (F_rows : Fld Z h0 a "org/ripplelog/event/CopyProgress" "rows" "J" u_rows) {u_after : Value} (F_after : Fld Z h0 a "org/ripplelog/event/CopyProgress" "after" "Ljava/util/List;" u_after) {u_total : Value} (F_total : Fld Z h0 a "org/ripplelog/event/CopyProgress" "total" "J" u_total)  :
    MetFree l (⟨"org/ripplelog/event/CopyProgress", "<init>", "(Ljava/util/List;IJLjava/util/List;J)V"⟩ : MethodName) (head1 (Jvm.Cond.code (⟨"org/ripplelog/event/CopyProgress", "<init>", "(Ljava/util/List;IJLjava/util/List;J)V"⟩ : MethodName) prog_155_method_1_code 8 none :: ws) ({ frames := 2, cells := 0, slots := 0, locals := 24 } : Room)) (fun aa U => aa = #[(.ref a), (.ref b1), (.int q1), (.long q2), (.ref b2), (.long q3)] ∧ Z.Warmed39 U.vm ∧ U.heap = h0) (fun _ _ _ _ _ => True) (fun _ U o U' => ∃ v L, o = .returned v ∧ own_QE none n0 (fun h => Keep h0 h [a] ∧ Exa Z h a "org/ripplelog/event/CopyProgress" ∧ Fld Z h a "org/ripplelog/event/CopyProgress" "tables" "Ljava/util/List;" (.ref b1) ∧ Fld Z h a "org/ripplelog/event/CopyProgress" "table" "I" (.int q1) ∧ Fld Z h a "org/ripplelog/event/CopyProgress" "rows" "J" (.long q2) ∧ Fld Z h a "org/ripplelog/event/CopyProgress" "after" "Ljava/util/List;" (.ref b2) ∧ Fld Z h a "org/ripplelog/event/CopyProgress" "total" "J" (.long q3)) v U'.heap L ∧ FrameEnd U o U' L ({ frames := 2, cells := 0, slots := 0, locals := 24 } : Room).cells ({ frames := 2, cells := 0, slots := 0, locals := 24 } : Room).slots) := by
  refine MetFree.of_bodySF (plainFor_of_name pn_5) hisR ?_
  intro p e s m args below meth c s₁ Bd hml0 hP hK
  obtain ⟨rfl, hZ, hh⟩ := hP
  have hx := Bd.exec
  have hby := Bd.bytes
  have hml : c.maxLocals = 8 := hml0
  have hlk : meth.locks = false := Bd.notSynchronized
  have hown : s.vm.findClass "org/ripplelog/event/CopyProgress" = some m.cls := findClass_of_methodNamed Bd.named
  have X0 : Stand p l e ({ frames := 2, cells := 0, slots := 0, locals := 24 } : Room) s m #[(.ref a), (.ref b1), (.int q1), (.long q2), (.ref b2), (.long q3)] below meth c s₁ [] 0 0 := Stand.of_body Bd
  have e0 : s₁.heap = h0 := by rw [← hh, Bd.state]; rfl
  have hnm := (name_of_methodNamed Bd.named Bd.method).1
  refine own_G0 (own_go (fun _ k => castTop (ef_5 m a b1 q1 q2 b2 q3) k) ?_)
  show own_G p e below s _ _ _ (s₁.setTop (mkF m 0 #[.val (.ref a), .val (.ref b1), .val (.int q1), .val (.long q2), .second, .val (.ref b2), .val (.long q3), .second] []))
  refine own_go (fun _ => XS.aloadN X0.here hx rfl (hb hby d5_0) rfl rfl) ?_
  show own_G p e below s _ _ _ (s₁.setTop (mkF m 1 #[.val (.ref a), .val (.ref b1), .val (.int q1), .val (.long q2), .second, .val (.ref b2), .val (.long q3), .second] [(.ref a)]))
  obtain ⟨T1, h1, L1, X1, e1, N1, P1, st1⟩ := own_callI X0 hx hZ rfl hown (hw _ (List.mem_of_getElem? (i := 32) rfl)) (hw _ (List.mem_of_getElem? (i := 33) rfl)) (hw _ (List.mem_of_getElem? (i := 36) rfl)) (hw _ (List.mem_of_getElem? (i := 35) rfl)) (by decide) (rm6 l Z a0 hw [] a h0 n0) e0 (Fr.nil n0) (W := 0) (by decide) (by decide) (by decide) (by decide) (g := (mkF m 1 #[.val (.ref a), .val (.ref b1), .val (.int q1), .val (.long q2), .second, .val (.ref b2), .val (.long q3), .second] [(.ref a)])) rfl (by rw [hml]; rfl) (argsL := []) (rest := []) (lenOf (by decide +kernel : parseMethodDescriptor "()V" = some ⟨[], none⟩) rfl) rfl rfl (by show 2 * 0 + _ ≤ _; exact Nat.le_of_eq rfl) (hb hby d5_1)
  have eq1 := e1.trans P1
  refine own_go (fun _ => st1 _) ?_
  show own_G p e below s _ _ _ (T1.setTop (mkF m 4 #[.val (.ref a), .val (.ref b1), .val (.int q1), .val (.long q2), .second, .val (.ref b2), .val (.long q3), .second] []))
  refine own_go (fun _ => XS.aloadN X1.here hx rfl (hb hby d5_4) rfl rfl) ?_
  show own_G p e below s _ _ _ (T1.setTop (mkF m 5 #[.val (.ref a), .val (.ref b1), .val (.int q1), .val (.long q2), .second, .val (.ref b2), .val (.long q3), .second] [(.ref a)]))
  refine own_go (fun _ => XS.aloadN X1.here hx rfl (hb hby d5_5) rfl rfl) ?_
  show own_G p e below s _ _ _ (T1.setTop (mkF m 6 #[.val (.ref a), .val (.ref b1), .val (.int q1), .val (.long q2), .second, .val (.ref b2), .val (.long q3), .second] [(.ref b1), (.ref a)]))
  obtain ⟨T2, h2, X2, e2, W2, st2⟩ := putF X1 hx hZ hown (host := "") (Or.inl (hw _ (List.mem_of_getElem? (i := 38) rfl))) Via.refl eq1 F_tables E (Or.inr ⟨(hw _ (List.mem_of_getElem? (i := 39) rfl)), rfl, hnm⟩) (hw _ (List.mem_of_getElem? (i := 27) rfl)) (ty := (.object "java/util/List")) (by decide) rfl rfl (g := (mkF m 6 #[.val (.ref a), .val (.ref b1), .val (.int q1), .val (.long q2), .second, .val (.ref b2), .val (.long q3), .second] [(.ref b1), (.ref a)])) rfl rfl (hb hby d5_6)
  have N2 := Fr.snoc X2 N1 ga
  have Ew3 := E.wr W2
  have Fw4 := F_tables.same W2
  have Fw5 := F_table.other W2 (Or.inr (slot_ne (Or.inr (hw _ (List.mem_of_getElem? (i := 41) rfl))) (Or.inr (hw _ (List.mem_of_getElem? (i := 39) rfl))) (by decide) (t := .int) (t' := (.object "java/util/List")) (by decide) (by decide)))
  have Fw6 := F_rows.other W2 (Or.inr (slot_ne (Or.inr (hw _ (List.mem_of_getElem? (i := 43) rfl))) (Or.inr (hw _ (List.mem_of_getElem? (i := 39) rfl))) (by decide) (t := .long) (t' := (.object "java/util/List")) (by decide) (by decide)))
  have Fw7 := F_after.other W2 (Or.inr (slot_ne (Or.inr (hw _ (List.mem_of_getElem? (i := 45) rfl))) (Or.inr (hw _ (List.mem_of_getElem? (i := 39) rfl))) (by decide) (t := (.object "java/util/List")) (t' := (.object "java/util/List")) (by decide) (by decide)))
  have Fw8 := F_total.other W2 (Or.inr (slot_ne (Or.inr (hw _ (List.mem_of_getElem? (i := 47) rfl))) (Or.inr (hw _ (List.mem_of_getElem? (i := 39) rfl))) (by decide) (t := .long) (t' := (.object "java/util/List")) (by decide) (by decide)))
  have Kw9 := (Keep.refl h0 [a]).wr W2 (Or.inl (List.mem_of_getElem? (i := 0) rfl))
  refine own_go (fun _ => st2 _) ?_
  show own_G p e below s _ _ _ (T2.setTop (mkF m 9 #[.val (.ref a), .val (.ref b1), .val (.int q1), .val (.long q2), .second, .val (.ref b2), .val (.long q3), .second] []))
  refine own_go (fun _ => XS.aloadN X2.here hx rfl (hb hby d5_9) rfl rfl) ?_
  show own_G p e below s _ _ _ (T2.setTop (mkF m 10 #[.val (.ref a), .val (.ref b1), .val (.int q1), .val (.long q2), .second, .val (.ref b2), .val (.long q3), .second] [(.ref a)]))
  refine own_go (fun _ => XS.iloadN X2.here hx rfl (hb hby d5_10) rfl) ?_
  show own_G p e below s _ _ _ (T2.setTop (mkF m 11 #[.val (.ref a), .val (.ref b1), .val (.int q1), .val (.long q2), .second, .val (.ref b2), .val (.long q3), .second] [(.int q1), (.ref a)]))
  obtain ⟨T10, h10, X10, e10, W10, st10⟩ := putF X2 hx hZ hown (host := "") (Or.inl (hw _ (List.mem_of_getElem? (i := 40) rfl))) Via.refl e2 Fw5 Ew3 (Or.inr ⟨(hw _ (List.mem_of_getElem? (i := 41) rfl)), rfl, hnm⟩) (hw _ (List.mem_of_getElem? (i := 27) rfl)) (ty := .int) (by decide) rfl rfl (g := (mkF m 11 #[.val (.ref a), .val (.ref b1), .val (.int q1), .val (.long q2), .second, .val (.ref b2), .val (.long q3), .second] [(.int q1), (.ref a)])) rfl rfl (hb hby d5_11)
  have N10 := Fr.snoc X10 N2 ga
  have Ew11 := Ew3.wr W10
  have Fw12 := Fw4.other W10 (Or.inr (slot_ne (Or.inr (hw _ (List.mem_of_getElem? (i := 39) rfl))) (Or.inr (hw _ (List.mem_of_getElem? (i := 41) rfl))) (by decide) (t := (.object "java/util/List")) (t' := .int) (by decide) (by decide)))
  have Fw13 := Fw5.same W10
  have Fw14 := Fw6.other W10 (Or.inr (slot_ne (Or.inr (hw _ (List.mem_of_getElem? (i := 43) rfl))) (Or.inr (hw _ (List.mem_of_getElem? (i := 41) rfl))) (by decide) (t := .long) (t' := .int) (by decide) (by decide)))
  have Fw15 := Fw7.other W10 (Or.inr (slot_ne (Or.inr (hw _ (List.mem_of_getElem? (i := 45) rfl))) (Or.inr (hw _ (List.mem_of_getElem? (i := 41) rfl))) (by decide) (t := (.object "java/util/List")) (t' := .int) (by decide) (by decide)))
  have Fw16 := Fw8.other W10 (Or.inr (slot_ne (Or.inr (hw _ (List.mem_of_getElem? (i := 47) rfl))) (Or.inr (hw _ (List.mem_of_getElem? (i := 41) rfl))) (by decide) (t := .long) (t' := .int) (by decide) (by decide)))
  have Kw17 := Kw9.wr W10 (Or.inl (List.mem_of_getElem? (i := 0) rfl))
  refine own_go (fun _ => st10 _) ?_
  show own_G p e below s _ _ _ (T10.setTop (mkF m 14 #[.val (.ref a), .val (.ref b1), .val (.int q1), .val (.long q2), .second, .val (.ref b2), .val (.long q3), .second] []))
  refine own_go (fun _ => XS.aloadN X10.here hx rfl (hb hby d5_14) rfl rfl) ?_
  show own_G p e below s _ _ _ (T10.setTop (mkF m 15 #[.val (.ref a), .val (.ref b1), .val (.int q1), .val (.long q2), .second, .val (.ref b2), .val (.long q3), .second] [(.ref a)]))
  refine own_go (fun _ => XS.lloadN X10.here hx rfl (hb hby d5_15) rfl) ?_
  show own_G p e below s _ _ _ (T10.setTop (mkF m 16 #[.val (.ref a), .val (.ref b1), .val (.int q1), .val (.long q2), .second, .val (.ref b2), .val (.long q3), .second] [(.long q2), (.ref a)]))
  obtain ⟨T18, h18, X18, e18, W18, st18⟩ := putF X10 hx hZ hown (host := "") (Or.inl (hw _ (List.mem_of_getElem? (i := 42) rfl))) Via.refl e10 Fw14 Ew11 (Or.inr ⟨(hw _ (List.mem_of_getElem? (i := 43) rfl)), rfl, hnm⟩) (hw _ (List.mem_of_getElem? (i := 27) rfl)) (ty := .long) (by decide) rfl rfl (g := (mkF m 16 #[.val (.ref a), .val (.ref b1), .val (.int q1), .val (.long q2), .second, .val (.ref b2), .val (.long q3), .second] [(.long q2), (.ref a)])) rfl rfl (hb hby d5_16)
  have N18 := Fr.snoc X18 N10 ga
  have Ew19 := Ew11.wr W18
  have Fw20 := Fw12.other W18 (Or.inr (slot_ne (Or.inr (hw _ (List.mem_of_getElem? (i := 39) rfl))) (Or.inr (hw _ (List.mem_of_getElem? (i := 43) rfl))) (by decide) (t := (.object "java/util/List")) (t' := .long) (by decide) (by decide)))
  have Fw21 := Fw13.other W18 (Or.inr (slot_ne (Or.inr (hw _ (List.mem_of_getElem? (i := 41) rfl))) (Or.inr (hw _ (List.mem_of_getElem? (i := 43) rfl))) (by decide) (t := .int) (t' := .long) (by decide) (by decide)))
  have Fw22 := Fw14.same W18
  have Fw23 := Fw15.other W18 (Or.inr (slot_ne (Or.inr (hw _ (List.mem_of_getElem? (i := 45) rfl))) (Or.inr (hw _ (List.mem_of_getElem? (i := 43) rfl))) (by decide) (t := (.object "java/util/List")) (t' := .long) (by decide) (by decide)))
  have Fw24 := Fw16.other W18 (Or.inr (slot_ne (Or.inr (hw _ (List.mem_of_getElem? (i := 47) rfl))) (Or.inr (hw _ (List.mem_of_getElem? (i := 43) rfl))) (by decide) (t := .long) (t' := .long) (by decide) (by decide)))
  have Kw25 := Kw17.wr W18 (Or.inl (List.mem_of_getElem? (i := 0) rfl))
  refine own_go (fun _ => st18 _) ?_
  show own_G p e below s _ _ _ (T18.setTop (mkF m 19 #[.val (.ref a), .val (.ref b1), .val (.int q1), .val (.long q2), .second, .val (.ref b2), .val (.long q3), .second] []))
  refine own_go (fun _ => XS.aloadN X18.here hx rfl (hb hby d5_19) rfl rfl) ?_
  show own_G p e below s _ _ _ (T18.setTop (mkF m 20 #[.val (.ref a), .val (.ref b1), .val (.int q1), .val (.long q2), .second, .val (.ref b2), .val (.long q3), .second] [(.ref a)]))
  refine own_go (fun _ => XS.aload X18.here hx rfl (hb hby d5_20) rfl rfl) ?_
  show own_G p e below s _ _ _ (T18.setTop (mkF m 22 #[.val (.ref a), .val (.ref b1), .val (.int q1), .val (.long q2), .second, .val (.ref b2), .val (.long q3), .second] [(.ref b2), (.ref a)]))
  obtain ⟨T26, h26, X26, e26, W26, st26⟩ := putF X18 hx hZ hown (host := "") (Or.inl (hw _ (List.mem_of_getElem? (i := 44) rfl))) Via.refl e18 Fw23 Ew19 (Or.inr ⟨(hw _ (List.mem_of_getElem? (i := 45) rfl)), rfl, hnm⟩) (hw _ (List.mem_of_getElem? (i := 27) rfl)) (ty := (.object "java/util/List")) (by decide) rfl rfl (g := (mkF m 22 #[.val (.ref a), .val (.ref b1), .val (.int q1), .val (.long q2), .second, .val (.ref b2), .val (.long q3), .second] [(.ref b2), (.ref a)])) rfl rfl (hb hby d5_22)
  have N26 := Fr.snoc X26 N18 ga
  have Ew27 := Ew19.wr W26
  have Fw28 := Fw20.other W26 (Or.inr (slot_ne (Or.inr (hw _ (List.mem_of_getElem? (i := 39) rfl))) (Or.inr (hw _ (List.mem_of_getElem? (i := 45) rfl))) (by decide) (t := (.object "java/util/List")) (t' := (.object "java/util/List")) (by decide) (by decide)))
  have Fw29 := Fw21.other W26 (Or.inr (slot_ne (Or.inr (hw _ (List.mem_of_getElem? (i := 41) rfl))) (Or.inr (hw _ (List.mem_of_getElem? (i := 45) rfl))) (by decide) (t := .int) (t' := (.object "java/util/List")) (by decide) (by decide)))
  have Fw30 := Fw22.other W26 (Or.inr (slot_ne (Or.inr (hw _ (List.mem_of_getElem? (i := 43) rfl))) (Or.inr (hw _ (List.mem_of_getElem? (i := 45) rfl))) (by decide) (t := .long) (t' := (.object "java/util/List")) (by decide) (by decide)))
  have Fw31 := Fw23.same W26
  have Fw32 := Fw24.other W26 (Or.inr (slot_ne (Or.inr (hw _ (List.mem_of_getElem? (i := 47) rfl))) (Or.inr (hw _ (List.mem_of_getElem? (i := 45) rfl))) (by decide) (t := .long) (t' := (.object "java/util/List")) (by decide) (by decide)))
  have Kw33 := Kw25.wr W26 (Or.inl (List.mem_of_getElem? (i := 0) rfl))
  refine own_go (fun _ => st26 _) ?_
  show own_G p e below s _ _ _ (T26.setTop (mkF m 25 #[.val (.ref a), .val (.ref b1), .val (.int q1), .val (.long q2), .second, .val (.ref b2), .val (.long q3), .second] []))
  refine own_go (fun _ => XS.aloadN X26.here hx rfl (hb hby d5_25) rfl rfl) ?_
  show own_G p e below s _ _ _ (T26.setTop (mkF m 26 #[.val (.ref a), .val (.ref b1), .val (.int q1), .val (.long q2), .second, .val (.ref b2), .val (.long q3), .second] [(.ref a)]))
  refine own_go (fun _ => XS.lload X26.here hx rfl (hb hby d5_26) rfl) ?_
  show own_G p e below s _ _ _ (T26.setTop (mkF m 28 #[.val (.ref a), .val (.ref b1), .val (.int q1), .val (.long q2), .second, .val (.ref b2), .val (.long q3), .second] [(.long q3), (.ref a)]))
  obtain ⟨T34, h34, X34, e34, W34, st34⟩ := putF X26 hx hZ hown (host := "") (Or.inl (hw _ (List.mem_of_getElem? (i := 46) rfl))) Via.refl e26 Fw32 Ew27 (Or.inr ⟨(hw _ (List.mem_of_getElem? (i := 47) rfl)), rfl, hnm⟩) (hw _ (List.mem_of_getElem? (i := 27) rfl)) (ty := .long) (by decide) rfl rfl (g := (mkF m 28 #[.val (.ref a), .val (.ref b1), .val (.int q1), .val (.long q2), .second, .val (.ref b2), .val (.long q3), .second] [(.long q3), (.ref a)])) rfl rfl (hb hby d5_28)
  have N34 := Fr.snoc X34 N26 ga
  have Ew35 := Ew27.wr W34
  have Fw36 := Fw28.other W34 (Or.inr (slot_ne (Or.inr (hw _ (List.mem_of_getElem? (i := 39) rfl))) (Or.inr (hw _ (List.mem_of_getElem? (i := 47) rfl))) (by decide) (t := (.object "java/util/List")) (t' := .long) (by decide) (by decide)))
  have Fw37 := Fw29.other W34 (Or.inr (slot_ne (Or.inr (hw _ (List.mem_of_getElem? (i := 41) rfl))) (Or.inr (hw _ (List.mem_of_getElem? (i := 47) rfl))) (by decide) (t := .int) (t' := .long) (by decide) (by decide)))
  have Fw38 := Fw30.other W34 (Or.inr (slot_ne (Or.inr (hw _ (List.mem_of_getElem? (i := 43) rfl))) (Or.inr (hw _ (List.mem_of_getElem? (i := 47) rfl))) (by decide) (t := .long) (t' := .long) (by decide) (by decide)))
  have Fw39 := Fw31.other W34 (Or.inr (slot_ne (Or.inr (hw _ (List.mem_of_getElem? (i := 45) rfl))) (Or.inr (hw _ (List.mem_of_getElem? (i := 47) rfl))) (by decide) (t := (.object "java/util/List")) (t' := .long) (by decide) (by decide)))
  have Fw40 := Fw32.same W34
  have Kw41 := Kw33.wr W34 (Or.inl (List.mem_of_getElem? (i := 0) rfl))
  refine own_go (fun _ => st34 _) ?_
  show own_G p e below s _ _ _ (T34.setTop (mkF m 31 #[.val (.ref a), .val (.ref b1), .val (.int q1), .val (.long q2), .second, .val (.ref b2), .val (.long q3), .second] []))
  exact own_retV X34 hx hlk Bd.returns (hb hby d5_31) (by decide) (by decide) ⟨rfl, N34, by rw [e34]; exact ⟨Kw41, Ew35, Fw36, Fw37, Fw38, Fw39, Fw40⟩⟩
theorem d7_0 : decode prog_155_method_7_code 0 = .ok (.iload_n 1, 1) := by decide +kernel
theorem d7_1 : decode prog_155_method_7_code 1 = .ok (.aload_n 0, 1) := by decide +kernel
theorem d7_2 : decode prog_155_method_7_code 2 = .ok (.getfield 13, 3) := by decide +kernel
theorem d7_5 : decode prog_155_method_7_code 5 = .ok (.if_icmp .gt 20, 3) := by decide +kernel
theorem d7_8 : decode prog_155_method_7_code 8 = .ok (.iload_n 1, 1) := by decide +kernel
theorem d7_9 : decode prog_155_method_7_code 9 = .ok (.aload_n 0, 1) := by decide +kernel
theorem d7_10 : decode prog_155_method_7_code 10 = .ok (.getfield 13, 3) := by decide +kernel
theorem d7_13 : decode prog_155_method_7_code 13 = .ok (.if_icmp .ne 16, 3) := by decide +kernel
theorem d7_16 : decode prog_155_method_7_code 16 = .ok (.aload_n 0, 1) := by decide +kernel
theorem d7_17 : decode prog_155_method_7_code 17 = .ok (.getfield 17, 3) := by decide +kernel
theorem d7_20 : decode prog_155_method_7_code 20 = .ok (.lconst 0, 1) := by decide +kernel
theorem d7_21 : decode prog_155_method_7_code 21 = .ok (.lcmp, 1) := by decide +kernel
theorem d7_22 : decode prog_155_method_7_code 22 = .ok (.ifCond .ne 7, 3) := by decide +kernel
theorem d7_25 : decode prog_155_method_7_code 25 = .ok (.iconst 1, 1) := by decide +kernel
theorem d7_26 : decode prog_155_method_7_code 26 = .ok (.goto 4, 3) := by decide +kernel
theorem d7_29 : decode prog_155_method_7_code 29 = .ok (.iconst 0, 1) := by decide +kernel
theorem d7_30 : decode prog_155_method_7_code 30 = .ok (.ireturn, 1) := by decide +kernel
def own_v7_30 (t : Int32) (r : Int64) (i : Int32) (j30_S0 : Int32) : Int32 := (nar .boolean j30_S0)
def own_v7_29 (t : Int32) (r : Int64) (i : Int32) : Int32 := (own_v7_30 t r i (0 : Int32))
def own_v7_25 (t : Int32) (r : Int64) (i : Int32) : Int32 := (own_v7_30 t r i (1 : Int32))
def own_v7_0 (t : Int32) (r : Int64) (i : Int32) : Int32 := (if t < i then (own_v7_25 t r i) else (if i = t then (if (lcmpW r (0 : Int64)) = (0 : Int32) then (own_v7_25 t r i) else (own_v7_29 t r i)) else (own_v7_29 t r i)))
theorem pn_7 : plainName "org/ripplelog/event/CopyProgress" = true := by first | (simp [plainName, overriddenIn]; done) | decide +kernel
theorem ef_7 (m : MethodId) (a : Addr) (i : Int32) : entryFrame m #[(.ref a), (.int i)] 2 = mkF m 0 #[.val (.ref a), .val (.int i)] [] := by first | (simp [entryFrame, mkF, argsToLocals, Value.category]; done) | rfl
set_option maxRecDepth 65536 in
set_option maxHeartbeats 40000000 in
theorem rm7 (l : Launch) (Z : State) (a0 : Array Value) (hw : ∀ d ∈ tables_1, d.before a0 Z = true) (ws : List Jvm.Cond) (a : Addr) (i : Int32) (h0 : Heap) (t : Int32) (r : Int64) (F1 : Fld Z h0 a "org/ripplelog/event/CopyProgress" "table" "I" (.int t)) (F2 : Fld Z h0 a "org/ripplelog/event/CopyProgress" "rows" "J" (.long r)) :
    MetFree l (⟨"org/ripplelog/event/CopyProgress", "notBegun", "(I)Z"⟩ : MethodName) (head1 (Jvm.Cond.code (⟨"org/ripplelog/event/CopyProgress", "notBegun", "(I)Z"⟩ : MethodName) prog_155_method_7_code 2 (some .boolean) :: ws) ({ frames := 0, cells := 0, slots := 0, locals := 0 } : Room)) (fun aa U => aa = #[(.ref a), (.int i)] ∧ Z.Warmed39 U.vm ∧ U.heap = h0) (fun _ _ _ _ _ => True) (fun _ U o U' => ∃ v L, o = .returned v ∧ own_Q (some (.int (own_v7_0 t r i))) h0 v U'.heap L ∧ FrameEnd U o U' L ({ frames := 0, cells := 0, slots := 0, locals := 0 } : Room).cells ({ frames := 0, cells := 0, slots := 0, locals := 0 } : Room).slots) := by
  refine MetFree.of_bodySF (plainFor_of_name pn_7) hisR ?_
  intro p e s m args below meth c s₁ Bd hml0 hP hK
  obtain ⟨rfl, hZ, hh⟩ := hP
  have hx := Bd.exec
  have hby := Bd.bytes
  have hml : c.maxLocals = 2 := hml0
  have hlk : meth.locks = false := Bd.notSynchronized
  have hown : s.vm.findClass "org/ripplelog/event/CopyProgress" = some m.cls := findClass_of_methodNamed Bd.named
  have X0 : Stand p l e ({ frames := 0, cells := 0, slots := 0, locals := 0 } : Room) s m #[(.ref a), (.int i)] below meth c s₁ [] 0 0 := Stand.of_body Bd
  have e0 : s₁.heap = h0 := by rw [← hh, Bd.state]; rfl
  have b30 : ∀ (T : State), Stand p l e ({ frames := 0, cells := 0, slots := 0, locals := 0 } : Room) s m #[(.ref a), (.int i)] below meth c T [] 0 0 → T.heap = h0 → ∀ (j30_S0 : Int32), own_G p e below s (own_Q (some (.int (own_v7_30 t r i j30_S0))) h0) ({ frames := 0, cells := 0, slots := 0, locals := 0 } : Room).cells ({ frames := 0, cells := 0, slots := 0, locals := 0 } : Room).slots (T.setTop (mkF m 30 #[.val (.ref a), .val (.int i)] [(.int j30_S0)])) := by
    intro T X eT j30_S0
    show own_G p e below s (own_Q (some (.int (nar .boolean j30_S0))) h0) ({ frames := 0, cells := 0, slots := 0, locals := 0 } : Room).cells ({ frames := 0, cells := 0, slots := 0, locals := 0 } : Room).slots (T.setTop (mkF m 30 #[.val (.ref a), .val (.int i)] [(.int j30_S0)]))
    exact own_retN X hx hlk (t := .boolean) Bd.returns (by simp) (hb hby d7_30) (by decide) (by decide) ⟨rfl, rfl, eT⟩
  have b29 : ∀ (T : State), Stand p l e ({ frames := 0, cells := 0, slots := 0, locals := 0 } : Room) s m #[(.ref a), (.int i)] below meth c T [] 0 0 → T.heap = h0 → own_G p e below s (own_Q (some (.int (own_v7_29 t r i))) h0) ({ frames := 0, cells := 0, slots := 0, locals := 0 } : Room).cells ({ frames := 0, cells := 0, slots := 0, locals := 0 } : Room).slots (T.setTop (mkF m 29 #[.val (.ref a), .val (.int i)] [])) := by
    intro T X eT
    show own_G p e below s (own_Q (some (.int (own_v7_30 t r i (0 : Int32)))) h0) ({ frames := 0, cells := 0, slots := 0, locals := 0 } : Room).cells ({ frames := 0, cells := 0, slots := 0, locals := 0 } : Room).slots (T.setTop (mkF m 29 #[.val (.ref a), .val (.int i)] []))
    refine own_go (fun _ => XS.iconst X.here hx rfl (hb hby d7_29)) ?_
    exact b30 T X eT (0 : Int32)
  have b25 : ∀ (T : State), Stand p l e ({ frames := 0, cells := 0, slots := 0, locals := 0 } : Room) s m #[(.ref a), (.int i)] below meth c T [] 0 0 → T.heap = h0 → own_G p e below s (own_Q (some (.int (own_v7_25 t r i))) h0) ({ frames := 0, cells := 0, slots := 0, locals := 0 } : Room).cells ({ frames := 0, cells := 0, slots := 0, locals := 0 } : Room).slots (T.setTop (mkF m 25 #[.val (.ref a), .val (.int i)] [])) := by
    intro T X eT
    show own_G p e below s (own_Q (some (.int (own_v7_30 t r i (1 : Int32)))) h0) ({ frames := 0, cells := 0, slots := 0, locals := 0 } : Room).cells ({ frames := 0, cells := 0, slots := 0, locals := 0 } : Room).slots (T.setTop (mkF m 25 #[.val (.ref a), .val (.int i)] []))
    refine own_go (fun _ => XS.iconst X.here hx rfl (hb hby d7_25)) ?_
    show own_G p e below s _ _ _ (T.setTop (mkF m 26 #[.val (.ref a), .val (.int i)] [(.int (1 : Int32))]))
    refine own_go (fun _ => XS.goto X.here hx rfl (pc0 := 26) (pc' := 30) rfl (hb hby d7_26) (by decide) (by decide)) ?_
    exact b30 T X eT (1 : Int32)
  refine own_G0 (own_go (fun _ k => castTop (ef_7 m a i) k) ?_)
  show own_G p e below s (own_Q (some (.int (if t < i then (own_v7_25 t r i) else (if i = t then (if (lcmpW r (0 : Int64)) = (0 : Int32) then (own_v7_25 t r i) else (own_v7_29 t r i)) else (own_v7_29 t r i))))) h0) ({ frames := 0, cells := 0, slots := 0, locals := 0 } : Room).cells ({ frames := 0, cells := 0, slots := 0, locals := 0 } : Room).slots (s₁.setTop (mkF m 0 #[.val (.ref a), .val (.int i)] []))
  refine own_go (fun _ => XS.iloadN X0.here hx rfl (hb hby d7_0) rfl) ?_
  show own_G p e below s _ _ _ (s₁.setTop (mkF m 1 #[.val (.ref a), .val (.int i)] [(.int i)]))
  refine own_go (fun _ => XS.aloadN X0.here hx rfl (hb hby d7_1) rfl rfl) ?_
  show own_G p e below s _ _ _ (s₁.setTop (mkF m 2 #[.val (.ref a), .val (.int i)] [(.ref a), (.int i)]))
  obtain ⟨T1, X1, e1, st1⟩ := getF X0 hx hZ hown (host := "") (Or.inl (hw _ (List.mem_of_getElem? (i := 40) rfl))) Via.refl e0 F1 (g := (mkF m 2 #[.val (.ref a), .val (.int i)] [(.ref a), (.int i)])) rfl rfl (hb hby d7_2)
  refine own_go (fun _ => st1 _) ?_
  show own_G p e below s _ _ _ (T1.setTop (mkF m 5 #[.val (.ref a), .val (.int i)] [(.int t), (.int i)]))
  by_cases hc5 : t < i
  · refine own_eq (if_pos hc5) ?_
    refine own_go (fun _ => XS.icmpYes X1.here hx rfl (pc0 := 5) (pc' := 25) rfl (hb hby d7_5) rfl (tlt hc5).2.2.1 (by decide) (by decide)) ?_
    exact b25 T1 X1 e1
  · refine own_eq (if_neg hc5) ?_
    refine own_go (fun _ => XS.icmpNo X1.here hx rfl (hb hby d7_5) rfl (flt hc5).2.2.1) ?_
    show own_G p e below s _ _ _ (T1.setTop (mkF m 8 #[.val (.ref a), .val (.int i)] []))
    refine own_go (fun _ => XS.iloadN X1.here hx rfl (hb hby d7_8) rfl) ?_
    show own_G p e below s _ _ _ (T1.setTop (mkF m 9 #[.val (.ref a), .val (.int i)] [(.int i)]))
    refine own_go (fun _ => XS.aloadN X1.here hx rfl (hb hby d7_9) rfl rfl) ?_
    show own_G p e below s _ _ _ (T1.setTop (mkF m 10 #[.val (.ref a), .val (.int i)] [(.ref a), (.int i)]))
    obtain ⟨T2, X2, e2, st2⟩ := getF X1 hx hZ hown (host := "") (Or.inl (hw _ (List.mem_of_getElem? (i := 40) rfl))) Via.refl e1 F1 (g := (mkF m 10 #[.val (.ref a), .val (.int i)] [(.ref a), (.int i)])) rfl rfl (hb hby d7_10)
    refine own_go (fun _ => st2 _) ?_
    show own_G p e below s _ _ _ (T2.setTop (mkF m 13 #[.val (.ref a), .val (.int i)] [(.int t), (.int i)]))
    by_cases hc13 : i = t
    · refine own_eq (if_pos hc13) ?_
      refine own_go (fun _ => XS.icmpNo X2.here hx rfl (hb hby d7_13) rfl (teq hc13).2) ?_
      show own_G p e below s _ _ _ (T2.setTop (mkF m 16 #[.val (.ref a), .val (.int i)] []))
      refine own_go (fun _ => XS.aloadN X2.here hx rfl (hb hby d7_16) rfl rfl) ?_
      show own_G p e below s _ _ _ (T2.setTop (mkF m 17 #[.val (.ref a), .val (.int i)] [(.ref a)]))
      obtain ⟨T3, X3, e3, st3⟩ := getF X2 hx hZ hown (host := "") (Or.inl (hw _ (List.mem_of_getElem? (i := 42) rfl))) Via.refl e2 F2 (g := (mkF m 17 #[.val (.ref a), .val (.int i)] [(.ref a)])) rfl rfl (hb hby d7_17)
      refine own_go (fun _ => st3 _) ?_
      show own_G p e below s _ _ _ (T3.setTop (mkF m 20 #[.val (.ref a), .val (.int i)] [(.long r)]))
      refine own_go (fun _ => XS.lconst X3.here hx rfl (hb hby d7_20)) ?_
      show own_G p e below s _ _ _ (T3.setTop (mkF m 21 #[.val (.ref a), .val (.int i)] [(.long (0 : Int64)), (.long r)]))
      refine own_go (fun _ => XS.lcmp X3.here hx rfl (hb hby d7_21) rfl) ?_
      show own_G p e below s _ _ _ (T3.setTop (mkF m 22 #[.val (.ref a), .val (.int i)] [(.int (lcmpW r (0 : Int64)))]))
      by_cases hc22 : (lcmpW r (0 : Int64)) = (0 : Int32)
      · refine own_eq (if_pos hc22) ?_
        refine own_go (fun _ => XS.ifNo X3.here hx rfl (hb hby d7_22) rfl ((if0 _ _).trans (teq hc22).2)) ?_
        exact b25 T3 X3 e3
      · refine own_eq (if_neg hc22) ?_
        refine own_go (fun _ => XS.ifYes X3.here hx rfl (pc0 := 22) (pc' := 29) rfl (hb hby d7_22) rfl ((if0 _ _).trans (feq hc22).2) (by decide) (by decide)) ?_
        exact b29 T3 X3 e3
    · refine own_eq (if_neg hc13) ?_
      refine own_go (fun _ => XS.icmpYes X2.here hx rfl (pc0 := 13) (pc' := 29) rfl (hb hby d7_13) rfl (feq hc13).2 (by decide) (by decide)) ?_
      exact b29 T2 X2 e2
theorem d8_0 : decode method_3_code 0 = .ok (.iload_n 3, 1) := by decide +kernel
theorem d8_1 : decode method_3_code 1 = .ok (.iload_n 0, 1) := by decide +kernel
theorem d8_2 : decode method_3_code 2 = .ok (.if_icmp .ge 5, 3) := by decide +kernel
theorem d8_5 : decode method_3_code 5 = .ok (.iconst 0, 1) := by decide +kernel
theorem d8_6 : decode method_3_code 6 = .ok (.ireturn, 1) := by decide +kernel
theorem d8_7 : decode method_3_code 7 = .ok (.iload_n 3, 1) := by decide +kernel
theorem d8_8 : decode method_3_code 8 = .ok (.iload_n 0, 1) := by decide +kernel
theorem d8_9 : decode method_3_code 9 = .ok (.if_icmp .le 5, 3) := by decide +kernel
theorem d8_12 : decode method_3_code 12 = .ok (.iconst 1, 1) := by decide +kernel
theorem d8_13 : decode method_3_code 13 = .ok (.ireturn, 1) := by decide +kernel
theorem d8_14 : decode method_3_code 14 = .ok (.lload_n 1, 1) := by decide +kernel
theorem d8_15 : decode method_3_code 15 = .ok (.lconst 0, 1) := by decide +kernel
theorem d8_16 : decode method_3_code 16 = .ok (.lcmp, 1) := by decide +kernel
theorem d8_17 : decode method_3_code 17 = .ok (.ifCond .ne 7, 3) := by decide +kernel
theorem d8_20 : decode method_3_code 20 = .ok (.iconst 1, 1) := by decide +kernel
theorem d8_21 : decode method_3_code 21 = .ok (.goto 4, 3) := by decide +kernel
theorem d8_24 : decode method_3_code 24 = .ok (.iconst 0, 1) := by decide +kernel
theorem d8_25 : decode method_3_code 25 = .ok (.ireturn, 1) := by decide +kernel
def own_v8_25 (t : Int32) (r : Int64) (i : Int32) (j25_S0 : Int32) : Int32 := (nar .boolean j25_S0)
def own_v8_0 (t : Int32) (r : Int64) (i : Int32) : Int32 := (if i < t then (nar .boolean (0 : Int32)) else (if t < i then (nar .boolean (1 : Int32)) else (if (lcmpW r (0 : Int64)) = (0 : Int32) then (own_v8_25 t r i (1 : Int32)) else (own_v8_25 t r i (0 : Int32)))))
theorem pn_8 : plainName "org/ripplelog/event/CopyProgressNotBegunPinLaw" = true := by first | (simp [plainName, overriddenIn]; done) | decide +kernel
theorem ef_8 (m : MethodId) (t : Int32) (r : Int64) (i : Int32) : entryFrame m #[(.int t), (.long r), (.int i)] 4 = mkF m 0 #[.val (.int t), .val (.long r), .second, .val (.int i)] [] := by first | (simp [entryFrame, mkF, argsToLocals, Value.category]; done) | rfl
set_option maxRecDepth 65536 in
set_option maxHeartbeats 40000000 in
theorem rm8 (l : Launch) (Z : State) (a0 : Array Value) (hw : ∀ d ∈ tables_1, d.before a0 Z = true) (ws : List Jvm.Cond) (t : Int32) (r : Int64) (i : Int32) (h0 : Heap)  :
    MetFree l (⟨"org/ripplelog/event/CopyProgressNotBegunPinLaw", "expected", "(IJI)Z"⟩ : MethodName) (head1 (Jvm.Cond.code (⟨"org/ripplelog/event/CopyProgressNotBegunPinLaw", "expected", "(IJI)Z"⟩ : MethodName) method_3_code 4 (some .boolean) :: ws) ({ frames := 0, cells := 0, slots := 0, locals := 0 } : Room)) (fun aa U => aa = #[(.int t), (.long r), (.int i)] ∧ Z.Warmed39 U.vm ∧ U.heap = h0) (fun _ _ _ _ _ => True) (fun _ U o U' => ∃ v L, o = .returned v ∧ own_Q (some (.int (own_v8_0 t r i))) h0 v U'.heap L ∧ FrameEnd U o U' L ({ frames := 0, cells := 0, slots := 0, locals := 0 } : Room).cells ({ frames := 0, cells := 0, slots := 0, locals := 0 } : Room).slots) := by
  refine MetFree.of_bodySF (plainFor_of_name pn_8) hisR ?_
  intro p e s m args below meth c s₁ Bd hml0 hP hK
  obtain ⟨rfl, hZ, hh⟩ := hP
  have hx := Bd.exec
  have hby := Bd.bytes
  have hml : c.maxLocals = 4 := hml0
  have hlk : meth.locks = false := Bd.notSynchronized
  have hown : s.vm.findClass "org/ripplelog/event/CopyProgressNotBegunPinLaw" = some m.cls := findClass_of_methodNamed Bd.named
  have X0 : Stand p l e ({ frames := 0, cells := 0, slots := 0, locals := 0 } : Room) s m #[(.int t), (.long r), (.int i)] below meth c s₁ [] 0 0 := Stand.of_body Bd
  have e0 : s₁.heap = h0 := by rw [← hh, Bd.state]; rfl
  have b25 : ∀ (T : State), Stand p l e ({ frames := 0, cells := 0, slots := 0, locals := 0 } : Room) s m #[(.int t), (.long r), (.int i)] below meth c T [] 0 0 → T.heap = h0 → ∀ (j25_S0 : Int32), own_G p e below s (own_Q (some (.int (own_v8_25 t r i j25_S0))) h0) ({ frames := 0, cells := 0, slots := 0, locals := 0 } : Room).cells ({ frames := 0, cells := 0, slots := 0, locals := 0 } : Room).slots (T.setTop (mkF m 25 #[.val (.int t), .val (.long r), .second, .val (.int i)] [(.int j25_S0)])) := by
    intro T X eT j25_S0
    show own_G p e below s (own_Q (some (.int (nar .boolean j25_S0))) h0) ({ frames := 0, cells := 0, slots := 0, locals := 0 } : Room).cells ({ frames := 0, cells := 0, slots := 0, locals := 0 } : Room).slots (T.setTop (mkF m 25 #[.val (.int t), .val (.long r), .second, .val (.int i)] [(.int j25_S0)]))
    exact own_retN X hx hlk (t := .boolean) Bd.returns (by simp) (hb hby d8_25) (by decide) (by decide) ⟨rfl, rfl, eT⟩
  refine own_G0 (own_go (fun _ k => castTop (ef_8 m t r i) k) ?_)
  show own_G p e below s (own_Q (some (.int (if i < t then (nar .boolean (0 : Int32)) else (if t < i then (nar .boolean (1 : Int32)) else (if (lcmpW r (0 : Int64)) = (0 : Int32) then (own_v8_25 t r i (1 : Int32)) else (own_v8_25 t r i (0 : Int32))))))) h0) ({ frames := 0, cells := 0, slots := 0, locals := 0 } : Room).cells ({ frames := 0, cells := 0, slots := 0, locals := 0 } : Room).slots (s₁.setTop (mkF m 0 #[.val (.int t), .val (.long r), .second, .val (.int i)] []))
  refine own_go (fun _ => XS.iloadN X0.here hx rfl (hb hby d8_0) rfl) ?_
  show own_G p e below s _ _ _ (s₁.setTop (mkF m 1 #[.val (.int t), .val (.long r), .second, .val (.int i)] [(.int i)]))
  refine own_go (fun _ => XS.iloadN X0.here hx rfl (hb hby d8_1) rfl) ?_
  show own_G p e below s _ _ _ (s₁.setTop (mkF m 2 #[.val (.int t), .val (.long r), .second, .val (.int i)] [(.int t), (.int i)]))
  by_cases hc2 : i < t
  · refine own_eq (if_pos hc2) ?_
    refine own_go (fun _ => XS.icmpNo X0.here hx rfl (hb hby d8_2) rfl (tlt hc2).2.1) ?_
    show own_G p e below s _ _ _ (s₁.setTop (mkF m 5 #[.val (.int t), .val (.long r), .second, .val (.int i)] []))
    refine own_go (fun _ => XS.iconst X0.here hx rfl (hb hby d8_5)) ?_
    show own_G p e below s _ _ _ (s₁.setTop (mkF m 6 #[.val (.int t), .val (.long r), .second, .val (.int i)] [(.int (0 : Int32))]))
    exact own_retN X0 hx hlk (t := .boolean) Bd.returns (by simp) (hb hby d8_6) (by decide) (by decide) ⟨rfl, rfl, e0⟩
  · refine own_eq (if_neg hc2) ?_
    refine own_go (fun _ => XS.icmpYes X0.here hx rfl (pc0 := 2) (pc' := 7) rfl (hb hby d8_2) rfl (flt hc2).2.1 (by decide) (by decide)) ?_
    show own_G p e below s _ _ _ (s₁.setTop (mkF m 7 #[.val (.int t), .val (.long r), .second, .val (.int i)] []))
    refine own_go (fun _ => XS.iloadN X0.here hx rfl (hb hby d8_7) rfl) ?_
    show own_G p e below s _ _ _ (s₁.setTop (mkF m 8 #[.val (.int t), .val (.long r), .second, .val (.int i)] [(.int i)]))
    refine own_go (fun _ => XS.iloadN X0.here hx rfl (hb hby d8_8) rfl) ?_
    show own_G p e below s _ _ _ (s₁.setTop (mkF m 9 #[.val (.int t), .val (.long r), .second, .val (.int i)] [(.int t), (.int i)]))
    by_cases hc9 : t < i
    · refine own_eq (if_pos hc9) ?_
      refine own_go (fun _ => XS.icmpNo X0.here hx rfl (hb hby d8_9) rfl (tlt hc9).2.2.2) ?_
      show own_G p e below s _ _ _ (s₁.setTop (mkF m 12 #[.val (.int t), .val (.long r), .second, .val (.int i)] []))
      refine own_go (fun _ => XS.iconst X0.here hx rfl (hb hby d8_12)) ?_
      show own_G p e below s _ _ _ (s₁.setTop (mkF m 13 #[.val (.int t), .val (.long r), .second, .val (.int i)] [(.int (1 : Int32))]))
      exact own_retN X0 hx hlk (t := .boolean) Bd.returns (by simp) (hb hby d8_13) (by decide) (by decide) ⟨rfl, rfl, e0⟩
    · refine own_eq (if_neg hc9) ?_
      refine own_go (fun _ => XS.icmpYes X0.here hx rfl (pc0 := 9) (pc' := 14) rfl (hb hby d8_9) rfl (flt hc9).2.2.2 (by decide) (by decide)) ?_
      show own_G p e below s _ _ _ (s₁.setTop (mkF m 14 #[.val (.int t), .val (.long r), .second, .val (.int i)] []))
      refine own_go (fun _ => XS.lloadN X0.here hx rfl (hb hby d8_14) rfl) ?_
      show own_G p e below s _ _ _ (s₁.setTop (mkF m 15 #[.val (.int t), .val (.long r), .second, .val (.int i)] [(.long r)]))
      refine own_go (fun _ => XS.lconst X0.here hx rfl (hb hby d8_15)) ?_
      show own_G p e below s _ _ _ (s₁.setTop (mkF m 16 #[.val (.int t), .val (.long r), .second, .val (.int i)] [(.long (0 : Int64)), (.long r)]))
      refine own_go (fun _ => XS.lcmp X0.here hx rfl (hb hby d8_16) rfl) ?_
      show own_G p e below s _ _ _ (s₁.setTop (mkF m 17 #[.val (.int t), .val (.long r), .second, .val (.int i)] [(.int (lcmpW r (0 : Int64)))]))
      by_cases hc17 : (lcmpW r (0 : Int64)) = (0 : Int32)
      · refine own_eq (if_pos hc17) ?_
        refine own_go (fun _ => XS.ifNo X0.here hx rfl (hb hby d8_17) rfl ((if0 _ _).trans (teq hc17).2)) ?_
        show own_G p e below s _ _ _ (s₁.setTop (mkF m 20 #[.val (.int t), .val (.long r), .second, .val (.int i)] []))
        refine own_go (fun _ => XS.iconst X0.here hx rfl (hb hby d8_20)) ?_
        show own_G p e below s _ _ _ (s₁.setTop (mkF m 21 #[.val (.int t), .val (.long r), .second, .val (.int i)] [(.int (1 : Int32))]))
        refine own_go (fun _ => XS.goto X0.here hx rfl (pc0 := 21) (pc' := 25) rfl (hb hby d8_21) (by decide) (by decide)) ?_
        exact b25 s₁ X0 e0 (1 : Int32)
      · refine own_eq (if_neg hc17) ?_
        refine own_go (fun _ => XS.ifYes X0.here hx rfl (pc0 := 17) (pc' := 24) rfl (hb hby d8_17) rfl ((if0 _ _).trans (feq hc17).2) (by decide) (by decide)) ?_
        show own_G p e below s _ _ _ (s₁.setTop (mkF m 24 #[.val (.int t), .val (.long r), .second, .val (.int i)] []))
        refine own_go (fun _ => XS.iconst X0.here hx rfl (hb hby d8_24)) ?_
        exact b25 s₁ X0 e0 (0 : Int32)
def own_v0_146 (q0 : Int32) (q1 : Int64) (q2 : Int32) (j146_L7 : Int32) : Int32 := (nar .boolean j146_L7)
def own_v0_144 (q0 : Int32) (q1 : Int64) (q2 : Int32) (j117_L7 : Int32) (j144_S0 : Int32) : Int32 := (own_v0_146 q0 q1 q2 j144_S0)
def own_v0_143 (q0 : Int32) (q1 : Int64) (q2 : Int32) (j117_L7 : Int32) : Int32 := (own_v0_144 q0 q1 q2 j117_L7 (0 : Int32))
def own_v0_117 (q0 : Int32) (q1 : Int64) (q2 : Int32) (j117_L7 : Int32) : Int32 := (if q0 = (-2147483648 : Int32) then (own_v0_146 q0 q1 q2 j117_L7) else (if j117_L7 = (0 : Int32) then (own_v0_143 q0 q1 q2 j117_L7) else (if (own_v7_0 q0 q1 (q0 - (1 : Int32))) = (0 : Int32) then (own_v0_144 q0 q1 q2 j117_L7 (1 : Int32)) else (own_v0_143 q0 q1 q2 j117_L7))))
def own_v0_115 (q0 : Int32) (q1 : Int64) (q2 : Int32) (j86_S0 : Int32) (j115_S0 : Int32) : Int32 := (own_v0_117 q0 q1 q2 j115_S0)
def own_v0_114 (q0 : Int32) (q1 : Int64) (q2 : Int32) (j86_S0 : Int32) : Int32 := (own_v0_115 q0 q1 q2 j86_S0 (0 : Int32))
def own_v0_86 (q0 : Int32) (q1 : Int64) (q2 : Int32) (j54_S0 : Int32) (j86_S0 : Int32) : Int32 := (if q0 = (2147483647 : Int32) then (own_v0_117 q0 q1 q2 j86_S0) else (if j86_S0 = (0 : Int32) then (own_v0_114 q0 q1 q2 j86_S0) else (if (own_v7_0 q0 q1 (q0 + (1 : Int32))) = (0 : Int32) then (own_v0_114 q0 q1 q2 j86_S0) else (own_v0_115 q0 q1 q2 j86_S0 (1 : Int32)))))
def own_v0_85 (q0 : Int32) (q1 : Int64) (q2 : Int32) (j54_S0 : Int32) : Int32 := (own_v0_86 q0 q1 q2 j54_S0 (0 : Int32))
def own_v0_78 (q0 : Int32) (q1 : Int64) (q2 : Int32) (j54_S0 : Int32) (j78_S0 : Int32) : Int32 := (if (own_v7_0 q0 q1 q0) = j78_S0 then (own_v0_86 q0 q1 q2 j54_S0 (1 : Int32)) else (own_v0_85 q0 q1 q2 j54_S0))
def own_v0_54 (q0 : Int32) (q1 : Int64) (q2 : Int32) (j54_S0 : Int32) : Int32 := (if j54_S0 = (0 : Int32) then (own_v0_85 q0 q1 q2 j54_S0) else (if (lcmpW q1 (0 : Int64)) = (0 : Int32) then (own_v0_78 q0 q1 q2 j54_S0 (1 : Int32)) else (own_v0_78 q0 q1 q2 j54_S0 (0 : Int32))))
def own_v0_34 (q0 : Int32) (q1 : Int64) (q2 : Int32) : Int32 := (if (own_v7_0 q0 q1 q2) = (own_v8_0 q0 q1 q2) then (own_v0_54 q0 q1 q2 (1 : Int32)) else (own_v0_54 q0 q1 q2 (0 : Int32)))
theorem own_nb (t : Int32) (r : Int64) (i : Int32) : own_v7_0 t r i = if t < i then 1 else (if i = t then (if lcmpW r (0 : Int64) = (0 : Int32) then 1 else 0) else 0) := by
  have n1 : own_v7_25 t r i = 1 := rfl
  have n0 : own_v7_29 t r i = 0 := rfl
  rw [own_v7_0, n1, n0]
theorem own_ex (t : Int32) (r : Int64) (i : Int32) : own_v8_0 t r i = own_v7_0 t r i := by
  have m1 : nar .boolean (1 : Int32) = 1 := rfl
  have m0 : nar .boolean (0 : Int32) = 0 := rfl
  have k1 : own_v8_25 t r i 1 = 1 := rfl
  have k0 : own_v8_25 t r i 0 = 0 := rfl
  rw [own_nb, own_v8_0, m1, m0, k1, k0]
  by_cases h1 : i < t
  · have h2 : ¬ t < i := by rw [own_lt] at *; omega
    have h3 : ¬ i = t := fun q => by rw [q, own_lt] at h1; omega
    rw [if_pos h1, if_neg h2, if_neg h3]
  · by_cases h2 : t < i
    · rw [if_neg h1, if_pos h2, if_pos h2]
    · have h3 : i = t := Int32.toInt_inj.mp (by rw [own_lt] at *; omega)
      rw [if_neg h1, if_neg h2, if_neg h2, if_pos h3]
theorem own_at (t : Int32) (r : Int64) : own_v7_0 t r t = if lcmpW r (0 : Int64) = (0 : Int32) then 1 else 0 := by
  have h : ¬ t < t := by rw [own_lt]; omega
  rw [own_nb, if_neg h, if_pos rfl]
theorem own_up1 {t : Int32} (h : ¬ t = (2147483647 : Int32)) (r : Int64) : own_v7_0 t r (t + 1) = 1 := by
  have e : (2147483647 : Int32).toInt = 2147483647 := rfl
  have e1 : (1 : Int32).toInt = 1 := rfl
  have a := Int32.toInt_lt t
  have b := Int32.le_toInt t
  have h' : ¬ t.toInt = 2147483647 := fun q => h (Int32.toInt_inj.mp (by rw [q, e]))
  have s : (t + 1).toInt = t.toInt + 1 := by rw [Int32.toInt_add, e1, Int.bmod_eq_of_le] <;> omega
  have g : t < t + 1 := by rw [own_lt, s]; omega
  rw [own_nb, if_pos g]
theorem own_dn1 {t : Int32} (h : ¬ t = (-2147483648 : Int32)) (r : Int64) : own_v7_0 t r (t - 1) = 0 := by
  have e : (-2147483648 : Int32).toInt = -2147483648 := rfl
  have e1 : (1 : Int32).toInt = 1 := rfl
  have a := Int32.toInt_lt t
  have b := Int32.le_toInt t
  have h' : ¬ t.toInt = -2147483648 := fun q => h (Int32.toInt_inj.mp (by rw [q, e]))
  have s : (t - 1).toInt = t.toInt - 1 := by rw [Int32.toInt_sub, e1, Int.bmod_eq_of_le] <;> omega
  have g : ¬ t < t - 1 := by rw [own_lt, s]; omega
  have g2 : ¬ t - 1 = t := fun q => by have := congrArg Int32.toInt q; omega
  rw [own_nb, if_neg g, if_neg g2]
theorem own_law (q0 : Int32) (q1 : Int64) (q2 : Int32) : own_v0_34 q0 q1 q2 = 1 := by
  have t1 : ¬ (1 : Int32) = 0 := by decide
  have e117 : own_v0_117 q0 q1 q2 1 = 1 := by
    rw [own_v0_117]
    by_cases h : q0 = (-2147483648 : Int32)
    · rw [if_pos h]
      rfl
    · rw [if_neg h, if_neg t1, if_pos (own_dn1 h q1)]
      rfl
  have e86 : own_v0_86 q0 q1 q2 1 1 = 1 := by
    rw [own_v0_86]
    by_cases h : q0 = (2147483647 : Int32)
    · rw [if_pos h]
      exact e117
    · rw [if_neg h, if_neg t1, if_neg (by rw [own_up1 h q1]; exact t1)]
      exact e117
  rw [own_v0_34, if_pos (own_ex q0 q1 q2).symm, own_v0_54, if_neg t1]
  by_cases h : lcmpW q1 (0 : Int64) = (0 : Int32)
  · rw [if_pos h, own_v0_78, if_pos (by rw [own_at, if_pos h])]
    exact e86
  · rw [if_neg h, own_v0_78, if_pos (by rw [own_at, if_neg h])]
    exact e86

theorem pn_0 : plainName "org/ripplelog/event/CopyProgressNotBegunPinLaw" = true := by first | (simp [plainName, overriddenIn]; done) | decide +kernel
theorem ef_0 (m : MethodId) (q0 : Int32) (q1 : Int64) (q2 : Int32) : entryFrame m #[(.int q0), (.long q1), (.int q2)] maxLocals = mkF m 0 #[.val (.int q0), .val (.long q1), .second, .val (.int q2), .unset, .unset, .unset, .unset] [] := by first | (simp [entryFrame, mkF, argsToLocals, Value.category, maxLocals]; done) | rfl
set_option maxRecDepth 65536 in
set_option maxHeartbeats 40000000 in
theorem rm0 (l : Launch) (Z : State) (a0 : Array Value) (hw : ∀ d ∈ tables_1, d.before a0 Z = true) (ws : List Jvm.Cond) (q0 : Int32) (q1 : Int64) (q2 : Int32) (h0 : Heap) (n0 : Nat) (Z0 : n0 ≤ h0.size) (vd : Addr) (S0 : Sta Z h0 "java/util/ArrayList" "DEFAULTCAPACITY_EMPTY_ELEMENTDATA" "[Ljava/lang/Object;" (.ref vd)) :
    MetFree l x (head1 (Jvm.Cond.code x code maxLocals ret :: ws) room_1) (fun aa U => aa = #[(.int q0), (.long q1), (.int q2)] ∧ Z.Warmed39 U.vm ∧ U.heap = h0) (fun _ _ _ _ _ => True) (fun _ U o U' => ∃ v L, o = .returned v ∧ own_QF (some (.int (own_v0_34 q0 q1 q2))) n0 v U'.heap L ∧ FrameEnd U o U' L room_1.cells room_1.slots) := by
  refine MetFree.of_bodySF (plainFor_of_name pn_0) hisR ?_
  intro p e s m args below meth c s₁ Bd hml0 hP hK
  obtain ⟨rfl, hZ, hh⟩ := hP
  have hx := Bd.exec
  have hby := Bd.bytes
  have hml : c.maxLocals = 8 := hml0
  have hlk : meth.locks = false := Bd.notSynchronized
  have hown : s.vm.findClass "org/ripplelog/event/CopyProgressNotBegunPinLaw" = some m.cls := findClass_of_methodNamed Bd.named
  have X0 : Stand p l e room_1 s m #[(.int q0), (.long q1), (.int q2)] below meth c s₁ [] 0 0 := Stand.of_body Bd
  have e0 : s₁.heap = h0 := by rw [← hh, Bd.state]; rfl
  refine own_G0 (own_go (fun _ k => castTop (ef_0 m q0 q1 q2) k) ?_)
  show own_G p e below s _ _ _ (s₁.setTop (mkF m 0 #[.val (.int q0), .val (.long q1), .second, .val (.int q2), .unset, .unset, .unset, .unset] []))
  obtain ⟨T1, h1, b1, X1, e1, E1, ga1, g1, z1, A1, D1, st1⟩ := own_newO X0 hx hZ hown (hw _ (List.mem_of_getElem? (i := 0) rfl)) (hw _ (List.mem_of_getElem? (i := 1) rfl)) (hw _ (List.mem_of_getElem? (i := 2) rfl)) e0 Z0 (g := (mkF m 0 #[.val (.int q0), .val (.long q1), .second, .val (.int q2), .unset, .unset, .unset, .unset] [])) rfl (hb hby at_0) (by decide) (by decide)
  have Se2 := S0.ext E1
  have Fd3 : Fld Z h1 b1 "java/util/AbstractList" "modCount" "I" (.int (0 : Int32)) := D1 (Or.inl (hw _ (List.mem_of_getElem? (i := 22) rfl))) (ty := .int) (by decide)
  have Fd4 : Fld Z h1 b1 "java/util/ArrayList" "elementData" "[Ljava/lang/Object;" .null := D1 (Or.inl (hw _ (List.mem_of_getElem? (i := 25) rfl))) (ty := (.array (.object "java/lang/Object"))) (by decide)
  refine own_go (fun _ => st1 _) ?_
  show own_G p e below s _ _ _ (T1.setTop (mkF m 3 #[.val (.int q0), .val (.long q1), .second, .val (.int q2), .unset, .unset, .unset, .unset] [(.ref b1)]))
  refine own_go (fun _ => XS.dup X1.here hx rfl (hb hby at_3) rfl rfl) ?_
  show own_G p e below s _ _ _ (T1.setTop (mkF m 4 #[.val (.int q0), .val (.long q1), .second, .val (.int q2), .unset, .unset, .unset, .unset] [(.ref b1), (.ref b1)]))
  obtain ⟨T5, h5, L5, X5, e5, N5, P5, st5⟩ := own_callI X1 hx hZ rfl hown (hw _ (List.mem_of_getElem? (i := 3) rfl)) (hw _ (List.mem_of_getElem? (i := 4) rfl)) (hw _ (List.mem_of_getElem? (i := 5) rfl)) (hw _ (List.mem_of_getElem? (i := 2) rfl)) (by decide) (rm1 l Z a0 hw [] b1 h1 n0 z1 g1 A1 Fd3 Fd4 vd Se2) e1 (Fr.nil n0) (W := 1) (by decide) (by decide) (by decide) (by decide) (g := (mkF m 4 #[.val (.int q0), .val (.long q1), .second, .val (.int q2), .unset, .unset, .unset, .unset] [(.ref b1), (.ref b1)])) rfl (by rw [hml]; rfl) (argsL := []) (rest := [(.ref b1)]) (lenOf (by decide +kernel : parseMethodDescriptor "()V" = some ⟨[], none⟩) rfl) rfl rfl (by show 2 * 0 + _ ≤ _; exact Nat.le_of_eq rfl) (hb hby at_4)
  obtain ⟨K5, Ec5, Fc5_0, Fc5_1⟩ := P5
  have Sk6 := own_sta_keep Se2 A1 K5
  have Ek7 := A1.keep K5
  have zk8 := Nat.le_trans z1 K5.1
  refine own_go (fun _ => st5 _) ?_
  show own_G p e below s _ _ _ (T5.setTop (mkF m 7 #[.val (.int q0), .val (.long q1), .second, .val (.int q2), .unset, .unset, .unset, .unset] [(.ref b1)]))
  refine own_go (fun _ => XS.astore X5.here hx rfl (hb hby at_7) rfl rfl (l' := #[.val (.int q0), .val (.long q1), .second, .val (.int q2), .val (.ref b1), .unset, .unset, .unset]) rfl) ?_
  show own_G p e below s _ _ _ (T5.setTop (mkF m 9 #[.val (.int q0), .val (.long q1), .second, .val (.int q2), .val (.ref b1), .unset, .unset, .unset] []))
  obtain ⟨T9, h9, b9, X9, e9, E9, ga9, g9, z9, A9, D9, st9⟩ := own_newO X5 hx hZ hown (hw _ (List.mem_of_getElem? (i := 0) rfl)) (hw _ (List.mem_of_getElem? (i := 1) rfl)) (hw _ (List.mem_of_getElem? (i := 2) rfl)) e5 zk8 (g := (mkF m 9 #[.val (.int q0), .val (.long q1), .second, .val (.int q2), .val (.ref b1), .unset, .unset, .unset] [])) rfl (hb hby at_9) (by decide) (by decide)
  have ne10 : b1 ≠ b9 := Nat.ne_of_lt (Nat.lt_of_lt_of_eq Ec5.lt ga9.symm)
  have Ee11 := Ec5.ext E9
  have Fe12 := Fc5_0.ext E9
  have Fe13 := Fc5_1.ext E9
  have Se14 := Sk6.ext E9
  have Fd15 : Fld Z h9 b9 "java/util/AbstractList" "modCount" "I" (.int (0 : Int32)) := D9 (Or.inl (hw _ (List.mem_of_getElem? (i := 22) rfl))) (ty := .int) (by decide)
  have Fd16 : Fld Z h9 b9 "java/util/ArrayList" "elementData" "[Ljava/lang/Object;" .null := D9 (Or.inl (hw _ (List.mem_of_getElem? (i := 25) rfl))) (ty := (.array (.object "java/lang/Object"))) (by decide)
  refine own_go (fun _ => st9 _) ?_
  show own_G p e below s _ _ _ (T9.setTop (mkF m 12 #[.val (.int q0), .val (.long q1), .second, .val (.int q2), .val (.ref b1), .unset, .unset, .unset] [(.ref b9)]))
  refine own_go (fun _ => XS.dup X9.here hx rfl (hb hby at_12) rfl rfl) ?_
  show own_G p e below s _ _ _ (T9.setTop (mkF m 13 #[.val (.int q0), .val (.long q1), .second, .val (.int q2), .val (.ref b1), .unset, .unset, .unset] [(.ref b9), (.ref b9)]))
  obtain ⟨T17, h17, L17, X17, e17, N17, P17, st17⟩ := own_callI X9 hx hZ rfl hown (hw _ (List.mem_of_getElem? (i := 3) rfl)) (hw _ (List.mem_of_getElem? (i := 4) rfl)) (hw _ (List.mem_of_getElem? (i := 5) rfl)) (hw _ (List.mem_of_getElem? (i := 2) rfl)) (by decide) (rm1 l Z a0 hw [] b9 h9 n0 z9 g9 A9 Fd15 Fd16 vd Se14) e9 N5 (W := 1) (by decide) (by decide) (by decide) (by decide) (g := (mkF m 13 #[.val (.int q0), .val (.long q1), .second, .val (.int q2), .val (.ref b1), .unset, .unset, .unset] [(.ref b9), (.ref b9)])) rfl (by rw [hml]; rfl) (argsL := []) (rest := [(.ref b9)]) (lenOf (by decide +kernel : parseMethodDescriptor "()V" = some ⟨[], none⟩) rfl) rfl rfl (by show 2 * 0 + _ ≤ _; exact Nat.le_of_eq rfl) (hb hby at_13)
  obtain ⟨K17, Ec17, Fc17_0, Fc17_1⟩ := P17
  have Sk18 := own_sta_keep Se14 A9 K17
  have Ek19 := Ee11.keep K17
  have Ek20 := A9.keep K17
  have Fk21 := Fe12.keep K17 (fun q => ne10 (List.mem_singleton.mp q))
  have Fk22 := Fe13.keep K17 (fun q => ne10 (List.mem_singleton.mp q))
  have zk23 := Nat.le_trans z9 K17.1
  refine own_go (fun _ => st17 _) ?_
  show own_G p e below s _ _ _ (T17.setTop (mkF m 16 #[.val (.int q0), .val (.long q1), .second, .val (.int q2), .val (.ref b1), .unset, .unset, .unset] [(.ref b9)]))
  refine own_go (fun _ => XS.astore X17.here hx rfl (hb hby at_16) rfl rfl (l' := #[.val (.int q0), .val (.long q1), .second, .val (.int q2), .val (.ref b1), .val (.ref b9), .unset, .unset]) rfl) ?_
  show own_G p e below s _ _ _ (T17.setTop (mkF m 18 #[.val (.int q0), .val (.long q1), .second, .val (.int q2), .val (.ref b1), .val (.ref b9), .unset, .unset] []))
  obtain ⟨T24, h24, b24, X24, e24, E24, ga24, g24, z24, A24, D24, st24⟩ := own_newO X17 hx hZ hown (hw _ (List.mem_of_getElem? (i := 26) rfl)) (hw _ (List.mem_of_getElem? (i := 27) rfl)) (hw _ (List.mem_of_getElem? (i := 28) rfl)) e17 zk23 (g := (mkF m 18 #[.val (.int q0), .val (.long q1), .second, .val (.int q2), .val (.ref b1), .val (.ref b9), .unset, .unset] [])) rfl (hb hby at_18) (by decide) (by decide)
  have ne25 : b1 ≠ b24 := Nat.ne_of_lt (Nat.lt_of_lt_of_eq Ek19.lt ga24.symm)
  have ne26 : b9 ≠ b24 := Nat.ne_of_lt (Nat.lt_of_lt_of_eq Ec17.lt ga24.symm)
  have Ee27 := Ek19.ext E24
  have Ee28 := Ec17.ext E24
  have Fe29 := Fk21.ext E24
  have Fe30 := Fk22.ext E24
  have Fe31 := Fc17_0.ext E24
  have Fe32 := Fc17_1.ext E24
  have Se33 := Sk18.ext E24
  have Fd34 : Fld Z h24 b24 "org/ripplelog/event/CopyProgress" "tables" "Ljava/util/List;" .null := D24 (Or.inr (hw _ (List.mem_of_getElem? (i := 39) rfl))) (ty := (.object "java/util/List")) (by decide)
  have Fd35 : Fld Z h24 b24 "org/ripplelog/event/CopyProgress" "table" "I" (.int (0 : Int32)) := D24 (Or.inr (hw _ (List.mem_of_getElem? (i := 41) rfl))) (ty := .int) (by decide)
  have Fd36 : Fld Z h24 b24 "org/ripplelog/event/CopyProgress" "rows" "J" (.long (0 : Int64)) := D24 (Or.inr (hw _ (List.mem_of_getElem? (i := 43) rfl))) (ty := .long) (by decide)
  have Fd37 : Fld Z h24 b24 "org/ripplelog/event/CopyProgress" "after" "Ljava/util/List;" .null := D24 (Or.inr (hw _ (List.mem_of_getElem? (i := 45) rfl))) (ty := (.object "java/util/List")) (by decide)
  have Fd38 : Fld Z h24 b24 "org/ripplelog/event/CopyProgress" "total" "J" (.long (0 : Int64)) := D24 (Or.inr (hw _ (List.mem_of_getElem? (i := 47) rfl))) (ty := .long) (by decide)
  refine own_go (fun _ => st24 _) ?_
  show own_G p e below s _ _ _ (T24.setTop (mkF m 21 #[.val (.int q0), .val (.long q1), .second, .val (.int q2), .val (.ref b1), .val (.ref b9), .unset, .unset] [(.ref b24)]))
  refine own_go (fun _ => XS.dup X24.here hx rfl (hb hby at_21) rfl rfl) ?_
  show own_G p e below s _ _ _ (T24.setTop (mkF m 22 #[.val (.int q0), .val (.long q1), .second, .val (.int q2), .val (.ref b1), .val (.ref b9), .unset, .unset] [(.ref b24), (.ref b24)]))
  refine own_go (fun _ => XS.aload X24.here hx rfl (hb hby at_22) rfl rfl) ?_
  show own_G p e below s _ _ _ (T24.setTop (mkF m 24 #[.val (.int q0), .val (.long q1), .second, .val (.int q2), .val (.ref b1), .val (.ref b9), .unset, .unset] [(.ref b1), (.ref b24), (.ref b24)]))
  refine own_go (fun _ => XS.iloadN X24.here hx rfl (hb hby at_24) rfl) ?_
  show own_G p e below s _ _ _ (T24.setTop (mkF m 25 #[.val (.int q0), .val (.long q1), .second, .val (.int q2), .val (.ref b1), .val (.ref b9), .unset, .unset] [(.int q0), (.ref b1), (.ref b24), (.ref b24)]))
  refine own_go (fun _ => XS.lloadN X24.here hx rfl (hb hby at_25) rfl) ?_
  show own_G p e below s _ _ _ (T24.setTop (mkF m 26 #[.val (.int q0), .val (.long q1), .second, .val (.int q2), .val (.ref b1), .val (.ref b9), .unset, .unset] [(.long q1), (.int q0), (.ref b1), (.ref b24), (.ref b24)]))
  refine own_go (fun _ => XS.aload X24.here hx rfl (hb hby at_26) rfl rfl) ?_
  show own_G p e below s _ _ _ (T24.setTop (mkF m 28 #[.val (.int q0), .val (.long q1), .second, .val (.int q2), .val (.ref b1), .val (.ref b9), .unset, .unset] [(.ref b9), (.long q1), (.int q0), (.ref b1), (.ref b24), (.ref b24)]))
  refine own_go (fun _ => XS.lconst X24.here hx rfl (hb hby at_28)) ?_
  show own_G p e below s _ _ _ (T24.setTop (mkF m 29 #[.val (.int q0), .val (.long q1), .second, .val (.int q2), .val (.ref b1), .val (.ref b9), .unset, .unset] [(.long (0 : Int64)), (.ref b9), (.long q1), (.int q0), (.ref b1), (.ref b24), (.ref b24)]))
  obtain ⟨T39, h39, L39, X39, e39, N39, P39, st39⟩ := own_callI X24 hx hZ rfl hown (hw _ (List.mem_of_getElem? (i := 29) rfl)) (hw _ (List.mem_of_getElem? (i := 30) rfl)) (hw _ (List.mem_of_getElem? (i := 31) rfl)) (hw _ (List.mem_of_getElem? (i := 28) rfl)) (by decide) (rm5 l Z a0 hw [] b24 b1 q0 q1 b9 (0 : Int64) h24 n0 z24 g24 A24 Fd34 Fd35 Fd36 Fd37 Fd38) e24 N17 (W := 1) (by decide) (by decide) (by decide) (by decide) (g := (mkF m 29 #[.val (.int q0), .val (.long q1), .second, .val (.int q2), .val (.ref b1), .val (.ref b9), .unset, .unset] [(.long (0 : Int64)), (.ref b9), (.long q1), (.int q0), (.ref b1), (.ref b24), (.ref b24)])) rfl (by rw [hml]; rfl) (argsL := [(.ref b1), (.int q0), (.long q1), (.ref b9), (.long (0 : Int64))]) (rest := [(.ref b24)]) (lenOf (by decide +kernel : parseMethodDescriptor "(Ljava/util/List;IJLjava/util/List;J)V" = some ⟨[(.object "java/util/List"), .int, .long, (.object "java/util/List"), .long], none⟩) rfl) rfl rfl (by show 2 * 0 + _ ≤ _; exact Nat.le_of_eq rfl) (hb hby at_29)
  obtain ⟨K39, Ec39, Fc39_0, Fc39_1, Fc39_2, Fc39_3, Fc39_4⟩ := P39
  have Sk40 := own_sta_keep Se33 A24 K39
  have Ek41 := Ee27.keep K39
  have Ek42 := Ee28.keep K39
  have Ek43 := A24.keep K39
  have Fk44 := Fe29.keep K39 (fun q => ne25 (List.mem_singleton.mp q))
  have Fk45 := Fe30.keep K39 (fun q => ne25 (List.mem_singleton.mp q))
  have Fk46 := Fe31.keep K39 (fun q => ne26 (List.mem_singleton.mp q))
  have Fk47 := Fe32.keep K39 (fun q => ne26 (List.mem_singleton.mp q))
  have zk48 := Nat.le_trans z24 K39.1
  refine own_go (fun _ => st39 _) ?_
  show own_G p e below s _ _ _ (T39.setTop (mkF m 32 #[.val (.int q0), .val (.long q1), .second, .val (.int q2), .val (.ref b1), .val (.ref b9), .unset, .unset] [(.ref b24)]))
  refine own_go (fun _ => XS.astore X39.here hx rfl (hb hby at_32) rfl rfl (l' := #[.val (.int q0), .val (.long q1), .second, .val (.int q2), .val (.ref b1), .val (.ref b9), .val (.ref b24), .unset]) rfl) ?_
  have b146 : ∀ (T : State), Stand p l e room_1 s m #[(.int q0), (.long q1), (.int q2)] below meth c T L39 ((((((0 + 1) + 0) + 1) + 0) + 1) + 0) ((((((0 + 3) + 0) + 3) + 0) + 5) + 0) → T.heap = h39 → ∀ (j146_L7 : Int32), own_G p e below s (own_QF (some (.int (own_v0_146 q0 q1 q2 j146_L7))) n0) room_1.cells room_1.slots (T.setTop (mkF m 146 #[.val (.int q0), .val (.long q1), .second, .val (.int q2), .val (.ref b1), .val (.ref b9), .val (.ref b24), .val (.int j146_L7)] [])) := by
    intro T X eT j146_L7
    show own_G p e below s (own_QF (some (.int (nar .boolean j146_L7))) n0) room_1.cells room_1.slots (T.setTop (mkF m 146 #[.val (.int q0), .val (.long q1), .second, .val (.int q2), .val (.ref b1), .val (.ref b9), .val (.ref b24), .val (.int j146_L7)] []))
    refine own_go (fun _ => XS.iload X.here hx rfl (hb hby at_146) rfl) ?_
    show own_G p e below s _ _ _ (T.setTop (mkF m 148 #[.val (.int q0), .val (.long q1), .second, .val (.int q2), .val (.ref b1), .val (.ref b9), .val (.ref b24), .val (.int j146_L7)] [(.int j146_L7)]))
    exact own_retN X hx hlk (t := .boolean) Bd.returns (by simp) (hb hby at_148) (by decide) (by decide) ⟨rfl, N39⟩
  have b144 : ∀ (T : State), Stand p l e room_1 s m #[(.int q0), (.long q1), (.int q2)] below meth c T L39 ((((((0 + 1) + 0) + 1) + 0) + 1) + 0) ((((((0 + 3) + 0) + 3) + 0) + 5) + 0) → T.heap = h39 → ∀ (j117_L7 : Int32) (j144_S0 : Int32), own_G p e below s (own_QF (some (.int (own_v0_144 q0 q1 q2 j117_L7 j144_S0))) n0) room_1.cells room_1.slots (T.setTop (mkF m 144 #[.val (.int q0), .val (.long q1), .second, .val (.int q2), .val (.ref b1), .val (.ref b9), .val (.ref b24), .val (.int j117_L7)] [(.int j144_S0)])) := by
    intro T X eT j117_L7 j144_S0
    show own_G p e below s (own_QF (some (.int (own_v0_146 q0 q1 q2 j144_S0))) n0) room_1.cells room_1.slots (T.setTop (mkF m 144 #[.val (.int q0), .val (.long q1), .second, .val (.int q2), .val (.ref b1), .val (.ref b9), .val (.ref b24), .val (.int j117_L7)] [(.int j144_S0)]))
    refine own_go (fun _ => XS.istore X.here hx rfl (hb hby at_144) rfl (l' := #[.val (.int q0), .val (.long q1), .second, .val (.int q2), .val (.ref b1), .val (.ref b9), .val (.ref b24), .val (.int j144_S0)]) rfl) ?_
    exact b146 T X eT j144_S0
  have b143 : ∀ (T : State), Stand p l e room_1 s m #[(.int q0), (.long q1), (.int q2)] below meth c T L39 ((((((0 + 1) + 0) + 1) + 0) + 1) + 0) ((((((0 + 3) + 0) + 3) + 0) + 5) + 0) → T.heap = h39 → ∀ (j117_L7 : Int32), own_G p e below s (own_QF (some (.int (own_v0_143 q0 q1 q2 j117_L7))) n0) room_1.cells room_1.slots (T.setTop (mkF m 143 #[.val (.int q0), .val (.long q1), .second, .val (.int q2), .val (.ref b1), .val (.ref b9), .val (.ref b24), .val (.int j117_L7)] [])) := by
    intro T X eT j117_L7
    show own_G p e below s (own_QF (some (.int (own_v0_144 q0 q1 q2 j117_L7 (0 : Int32)))) n0) room_1.cells room_1.slots (T.setTop (mkF m 143 #[.val (.int q0), .val (.long q1), .second, .val (.int q2), .val (.ref b1), .val (.ref b9), .val (.ref b24), .val (.int j117_L7)] []))
    refine own_go (fun _ => XS.iconst X.here hx rfl (hb hby at_143)) ?_
    exact b144 T X eT j117_L7 (0 : Int32)
  have b117 : ∀ (T : State), Stand p l e room_1 s m #[(.int q0), (.long q1), (.int q2)] below meth c T L39 ((((((0 + 1) + 0) + 1) + 0) + 1) + 0) ((((((0 + 3) + 0) + 3) + 0) + 5) + 0) → T.heap = h39 → ∀ (j117_L7 : Int32), own_G p e below s (own_QF (some (.int (own_v0_117 q0 q1 q2 j117_L7))) n0) room_1.cells room_1.slots (T.setTop (mkF m 117 #[.val (.int q0), .val (.long q1), .second, .val (.int q2), .val (.ref b1), .val (.ref b9), .val (.ref b24), .val (.int j117_L7)] [])) := by
    intro T X eT j117_L7
    show own_G p e below s (own_QF (some (.int (if q0 = (-2147483648 : Int32) then (own_v0_146 q0 q1 q2 j117_L7) else (if j117_L7 = (0 : Int32) then (own_v0_143 q0 q1 q2 j117_L7) else (if (own_v7_0 q0 q1 (q0 - (1 : Int32))) = (0 : Int32) then (own_v0_144 q0 q1 q2 j117_L7 (1 : Int32)) else (own_v0_143 q0 q1 q2 j117_L7)))))) n0) room_1.cells room_1.slots (T.setTop (mkF m 117 #[.val (.int q0), .val (.long q1), .second, .val (.int q2), .val (.ref b1), .val (.ref b9), .val (.ref b24), .val (.int j117_L7)] []))
    refine own_go (fun _ => XS.iloadN X.here hx rfl (hb hby at_117) rfl) ?_
    show own_G p e below s _ _ _ (T.setTop (mkF m 118 #[.val (.int q0), .val (.long q1), .second, .val (.int q2), .val (.ref b1), .val (.ref b9), .val (.ref b24), .val (.int j117_L7)] [(.int q0)]))
    refine own_go (fun _ => X.ldcInt hx hown (mvT hZ (hw _ (List.mem_of_getElem? (i := 58) rfl))) (g := (mkF m 118 #[.val (.int q0), .val (.long q1), .second, .val (.int q2), .val (.ref b1), .val (.ref b9), .val (.ref b24), .val (.int j117_L7)] [(.int q0)])) rfl (hb hby at_118) _) ?_
    show own_G p e below s _ _ _ (T.setTop (mkF m 120 #[.val (.int q0), .val (.long q1), .second, .val (.int q2), .val (.ref b1), .val (.ref b9), .val (.ref b24), .val (.int j117_L7)] [(.int (-2147483648 : Int32)), (.int q0)]))
    by_cases hc120 : q0 = (-2147483648 : Int32)
    · refine own_eqF (if_pos hc120) ?_
      refine own_go (fun _ => XS.icmpYes X.here hx rfl (pc0 := 120) (pc' := 146) rfl (hb hby at_120) rfl (teq hc120).1 (by decide) (by decide)) ?_
      exact b146 T X eT j117_L7
    · refine own_eqF (if_neg hc120) ?_
      refine own_go (fun _ => XS.icmpNo X.here hx rfl (hb hby at_120) rfl (feq hc120).1) ?_
      show own_G p e below s _ _ _ (T.setTop (mkF m 123 #[.val (.int q0), .val (.long q1), .second, .val (.int q2), .val (.ref b1), .val (.ref b9), .val (.ref b24), .val (.int j117_L7)] []))
      refine own_go (fun _ => XS.iload X.here hx rfl (hb hby at_123) rfl) ?_
      show own_G p e below s _ _ _ (T.setTop (mkF m 125 #[.val (.int q0), .val (.long q1), .second, .val (.int q2), .val (.ref b1), .val (.ref b9), .val (.ref b24), .val (.int j117_L7)] [(.int j117_L7)]))
      by_cases hc125 : j117_L7 = (0 : Int32)
      · refine own_eqF (if_pos hc125) ?_
        refine own_go (fun _ => XS.ifYes X.here hx rfl (pc0 := 125) (pc' := 143) rfl (hb hby at_125) rfl ((if0 _ _).trans (teq hc125).1) (by decide) (by decide)) ?_
        exact b143 T X eT j117_L7
      · refine own_eqF (if_neg hc125) ?_
        refine own_go (fun _ => XS.ifNo X.here hx rfl (hb hby at_125) rfl ((if0 _ _).trans (feq hc125).1)) ?_
        show own_G p e below s _ _ _ (T.setTop (mkF m 128 #[.val (.int q0), .val (.long q1), .second, .val (.int q2), .val (.ref b1), .val (.ref b9), .val (.ref b24), .val (.int j117_L7)] []))
        refine own_go (fun _ => XS.aload X.here hx rfl (hb hby at_128) rfl rfl) ?_
        show own_G p e below s _ _ _ (T.setTop (mkF m 130 #[.val (.int q0), .val (.long q1), .second, .val (.int q2), .val (.ref b1), .val (.ref b9), .val (.ref b24), .val (.int j117_L7)] [(.ref b24)]))
        refine own_go (fun _ => XS.iloadN X.here hx rfl (hb hby at_130) rfl) ?_
        show own_G p e below s _ _ _ (T.setTop (mkF m 131 #[.val (.int q0), .val (.long q1), .second, .val (.int q2), .val (.ref b1), .val (.ref b9), .val (.ref b24), .val (.int j117_L7)] [(.int q0), (.ref b24)]))
        refine own_go (fun _ => XS.iconst X.here hx rfl (hb hby at_131)) ?_
        show own_G p e below s _ _ _ (T.setTop (mkF m 132 #[.val (.int q0), .val (.long q1), .second, .val (.int q2), .val (.ref b1), .val (.ref b9), .val (.ref b24), .val (.int j117_L7)] [(.int (1 : Int32)), (.int q0), (.ref b24)]))
        refine own_go (fun _ => XS.isub X.here hx rfl (hb hby at_132) rfl) ?_
        show own_G p e below s _ _ _ (T.setTop (mkF m 133 #[.val (.int q0), .val (.long q1), .second, .val (.int q2), .val (.ref b1), .val (.ref b9), .val (.ref b24), .val (.int j117_L7)] [(.int (q0 - (1 : Int32))), (.ref b24)]))
        obtain ⟨T49, X49, e49, st49⟩ := own_callV X hx hZ hown (hw _ (List.mem_of_getElem? (i := 48) rfl)) (hw _ (List.mem_of_getElem? (i := 49) rfl)) (hw _ (List.mem_of_getElem? (i := 51) rfl)) (hw _ (List.mem_of_getElem? (i := 50) rfl)) (hw _ (List.mem_of_getElem? (i := 52) rfl)) (hw _ (List.mem_of_getElem? (i := 28) rfl)) (by decide) (rm7 l Z a0 hw [] b24 (q0 - (1 : Int32)) h39 q0 q1 Fc39_1 Fc39_2) rfl rfl eT Ec39 (W := 0) (by decide) (by decide) (by decide) (by decide) (g := (mkF m 133 #[.val (.int q0), .val (.long q1), .second, .val (.int q2), .val (.ref b1), .val (.ref b9), .val (.ref b24), .val (.int j117_L7)] [(.int (q0 - (1 : Int32))), (.ref b24)])) rfl (by rw [hml]; rfl) (argsL := [(.int (q0 - (1 : Int32)))]) (rest := []) (lenOf (by decide +kernel : parseMethodDescriptor "(I)Z" = some ⟨[.int], some .boolean⟩) rfl) rfl rfl (by show 2 * 0 + _ ≤ _; exact Nat.le_of_eq rfl) (hb hby at_133)
        refine own_go (fun _ => st49 _) ?_
        show own_G p e below s _ _ _ (T49.setTop (mkF m 136 #[.val (.int q0), .val (.long q1), .second, .val (.int q2), .val (.ref b1), .val (.ref b9), .val (.ref b24), .val (.int j117_L7)] [(.int (own_v7_0 q0 q1 (q0 - (1 : Int32))))]))
        by_cases hc136 : (own_v7_0 q0 q1 (q0 - (1 : Int32))) = (0 : Int32)
        · refine own_eqF (if_pos hc136) ?_
          refine own_go (fun _ => XS.ifNo X49.here hx rfl (hb hby at_136) rfl ((if0 _ _).trans (teq hc136).2)) ?_
          show own_G p e below s _ _ _ (T49.setTop (mkF m 139 #[.val (.int q0), .val (.long q1), .second, .val (.int q2), .val (.ref b1), .val (.ref b9), .val (.ref b24), .val (.int j117_L7)] []))
          refine own_go (fun _ => XS.iconst X49.here hx rfl (hb hby at_139)) ?_
          show own_G p e below s _ _ _ (T49.setTop (mkF m 140 #[.val (.int q0), .val (.long q1), .second, .val (.int q2), .val (.ref b1), .val (.ref b9), .val (.ref b24), .val (.int j117_L7)] [(.int (1 : Int32))]))
          refine own_go (fun _ => XS.goto X49.here hx rfl (pc0 := 140) (pc' := 144) rfl (hb hby at_140) (by decide) (by decide)) ?_
          exact b144 T49 X49 e49 j117_L7 (1 : Int32)
        · refine own_eqF (if_neg hc136) ?_
          refine own_go (fun _ => XS.ifYes X49.here hx rfl (pc0 := 136) (pc' := 143) rfl (hb hby at_136) rfl ((if0 _ _).trans (feq hc136).2) (by decide) (by decide)) ?_
          exact b143 T49 X49 e49 j117_L7
  have b115 : ∀ (T : State), Stand p l e room_1 s m #[(.int q0), (.long q1), (.int q2)] below meth c T L39 ((((((0 + 1) + 0) + 1) + 0) + 1) + 0) ((((((0 + 3) + 0) + 3) + 0) + 5) + 0) → T.heap = h39 → ∀ (j86_S0 : Int32) (j115_S0 : Int32), own_G p e below s (own_QF (some (.int (own_v0_115 q0 q1 q2 j86_S0 j115_S0))) n0) room_1.cells room_1.slots (T.setTop (mkF m 115 #[.val (.int q0), .val (.long q1), .second, .val (.int q2), .val (.ref b1), .val (.ref b9), .val (.ref b24), .val (.int j86_S0)] [(.int j115_S0)])) := by
    intro T X eT j86_S0 j115_S0
    show own_G p e below s (own_QF (some (.int (own_v0_117 q0 q1 q2 j115_S0))) n0) room_1.cells room_1.slots (T.setTop (mkF m 115 #[.val (.int q0), .val (.long q1), .second, .val (.int q2), .val (.ref b1), .val (.ref b9), .val (.ref b24), .val (.int j86_S0)] [(.int j115_S0)]))
    refine own_go (fun _ => XS.istore X.here hx rfl (hb hby at_115) rfl (l' := #[.val (.int q0), .val (.long q1), .second, .val (.int q2), .val (.ref b1), .val (.ref b9), .val (.ref b24), .val (.int j115_S0)]) rfl) ?_
    exact b117 T X eT j115_S0
  have b114 : ∀ (T : State), Stand p l e room_1 s m #[(.int q0), (.long q1), (.int q2)] below meth c T L39 ((((((0 + 1) + 0) + 1) + 0) + 1) + 0) ((((((0 + 3) + 0) + 3) + 0) + 5) + 0) → T.heap = h39 → ∀ (j86_S0 : Int32), own_G p e below s (own_QF (some (.int (own_v0_114 q0 q1 q2 j86_S0))) n0) room_1.cells room_1.slots (T.setTop (mkF m 114 #[.val (.int q0), .val (.long q1), .second, .val (.int q2), .val (.ref b1), .val (.ref b9), .val (.ref b24), .val (.int j86_S0)] [])) := by
    intro T X eT j86_S0
    show own_G p e below s (own_QF (some (.int (own_v0_115 q0 q1 q2 j86_S0 (0 : Int32)))) n0) room_1.cells room_1.slots (T.setTop (mkF m 114 #[.val (.int q0), .val (.long q1), .second, .val (.int q2), .val (.ref b1), .val (.ref b9), .val (.ref b24), .val (.int j86_S0)] []))
    refine own_go (fun _ => XS.iconst X.here hx rfl (hb hby at_114)) ?_
    exact b115 T X eT j86_S0 (0 : Int32)
  have b86 : ∀ (T : State), Stand p l e room_1 s m #[(.int q0), (.long q1), (.int q2)] below meth c T L39 ((((((0 + 1) + 0) + 1) + 0) + 1) + 0) ((((((0 + 3) + 0) + 3) + 0) + 5) + 0) → T.heap = h39 → ∀ (j54_S0 : Int32) (j86_S0 : Int32), own_G p e below s (own_QF (some (.int (own_v0_86 q0 q1 q2 j54_S0 j86_S0))) n0) room_1.cells room_1.slots (T.setTop (mkF m 86 #[.val (.int q0), .val (.long q1), .second, .val (.int q2), .val (.ref b1), .val (.ref b9), .val (.ref b24), .val (.int j54_S0)] [(.int j86_S0)])) := by
    intro T X eT j54_S0 j86_S0
    show own_G p e below s (own_QF (some (.int (if q0 = (2147483647 : Int32) then (own_v0_117 q0 q1 q2 j86_S0) else (if j86_S0 = (0 : Int32) then (own_v0_114 q0 q1 q2 j86_S0) else (if (own_v7_0 q0 q1 (q0 + (1 : Int32))) = (0 : Int32) then (own_v0_114 q0 q1 q2 j86_S0) else (own_v0_115 q0 q1 q2 j86_S0 (1 : Int32))))))) n0) room_1.cells room_1.slots (T.setTop (mkF m 86 #[.val (.int q0), .val (.long q1), .second, .val (.int q2), .val (.ref b1), .val (.ref b9), .val (.ref b24), .val (.int j54_S0)] [(.int j86_S0)]))
    refine own_go (fun _ => XS.istore X.here hx rfl (hb hby at_86) rfl (l' := #[.val (.int q0), .val (.long q1), .second, .val (.int q2), .val (.ref b1), .val (.ref b9), .val (.ref b24), .val (.int j86_S0)]) rfl) ?_
    show own_G p e below s _ _ _ (T.setTop (mkF m 88 #[.val (.int q0), .val (.long q1), .second, .val (.int q2), .val (.ref b1), .val (.ref b9), .val (.ref b24), .val (.int j86_S0)] []))
    refine own_go (fun _ => XS.iloadN X.here hx rfl (hb hby at_88) rfl) ?_
    show own_G p e below s _ _ _ (T.setTop (mkF m 89 #[.val (.int q0), .val (.long q1), .second, .val (.int q2), .val (.ref b1), .val (.ref b9), .val (.ref b24), .val (.int j86_S0)] [(.int q0)]))
    refine own_go (fun _ => X.ldcInt hx hown (mvT hZ (hw _ (List.mem_of_getElem? (i := 57) rfl))) (g := (mkF m 89 #[.val (.int q0), .val (.long q1), .second, .val (.int q2), .val (.ref b1), .val (.ref b9), .val (.ref b24), .val (.int j86_S0)] [(.int q0)])) rfl (hb hby at_89) _) ?_
    show own_G p e below s _ _ _ (T.setTop (mkF m 91 #[.val (.int q0), .val (.long q1), .second, .val (.int q2), .val (.ref b1), .val (.ref b9), .val (.ref b24), .val (.int j86_S0)] [(.int (2147483647 : Int32)), (.int q0)]))
    by_cases hc91 : q0 = (2147483647 : Int32)
    · refine own_eqF (if_pos hc91) ?_
      refine own_go (fun _ => XS.icmpYes X.here hx rfl (pc0 := 91) (pc' := 117) rfl (hb hby at_91) rfl (teq hc91).1 (by decide) (by decide)) ?_
      exact b117 T X eT j86_S0
    · refine own_eqF (if_neg hc91) ?_
      refine own_go (fun _ => XS.icmpNo X.here hx rfl (hb hby at_91) rfl (feq hc91).1) ?_
      show own_G p e below s _ _ _ (T.setTop (mkF m 94 #[.val (.int q0), .val (.long q1), .second, .val (.int q2), .val (.ref b1), .val (.ref b9), .val (.ref b24), .val (.int j86_S0)] []))
      refine own_go (fun _ => XS.iload X.here hx rfl (hb hby at_94) rfl) ?_
      show own_G p e below s _ _ _ (T.setTop (mkF m 96 #[.val (.int q0), .val (.long q1), .second, .val (.int q2), .val (.ref b1), .val (.ref b9), .val (.ref b24), .val (.int j86_S0)] [(.int j86_S0)]))
      by_cases hc96 : j86_S0 = (0 : Int32)
      · refine own_eqF (if_pos hc96) ?_
        refine own_go (fun _ => XS.ifYes X.here hx rfl (pc0 := 96) (pc' := 114) rfl (hb hby at_96) rfl ((if0 _ _).trans (teq hc96).1) (by decide) (by decide)) ?_
        exact b114 T X eT j86_S0
      · refine own_eqF (if_neg hc96) ?_
        refine own_go (fun _ => XS.ifNo X.here hx rfl (hb hby at_96) rfl ((if0 _ _).trans (feq hc96).1)) ?_
        show own_G p e below s _ _ _ (T.setTop (mkF m 99 #[.val (.int q0), .val (.long q1), .second, .val (.int q2), .val (.ref b1), .val (.ref b9), .val (.ref b24), .val (.int j86_S0)] []))
        refine own_go (fun _ => XS.aload X.here hx rfl (hb hby at_99) rfl rfl) ?_
        show own_G p e below s _ _ _ (T.setTop (mkF m 101 #[.val (.int q0), .val (.long q1), .second, .val (.int q2), .val (.ref b1), .val (.ref b9), .val (.ref b24), .val (.int j86_S0)] [(.ref b24)]))
        refine own_go (fun _ => XS.iloadN X.here hx rfl (hb hby at_101) rfl) ?_
        show own_G p e below s _ _ _ (T.setTop (mkF m 102 #[.val (.int q0), .val (.long q1), .second, .val (.int q2), .val (.ref b1), .val (.ref b9), .val (.ref b24), .val (.int j86_S0)] [(.int q0), (.ref b24)]))
        refine own_go (fun _ => XS.iconst X.here hx rfl (hb hby at_102)) ?_
        show own_G p e below s _ _ _ (T.setTop (mkF m 103 #[.val (.int q0), .val (.long q1), .second, .val (.int q2), .val (.ref b1), .val (.ref b9), .val (.ref b24), .val (.int j86_S0)] [(.int (1 : Int32)), (.int q0), (.ref b24)]))
        refine own_go (fun _ => XS.iadd X.here hx rfl (hb hby at_103) rfl) ?_
        show own_G p e below s _ _ _ (T.setTop (mkF m 104 #[.val (.int q0), .val (.long q1), .second, .val (.int q2), .val (.ref b1), .val (.ref b9), .val (.ref b24), .val (.int j86_S0)] [(.int (q0 + (1 : Int32))), (.ref b24)]))
        obtain ⟨T49, X49, e49, st49⟩ := own_callV X hx hZ hown (hw _ (List.mem_of_getElem? (i := 48) rfl)) (hw _ (List.mem_of_getElem? (i := 49) rfl)) (hw _ (List.mem_of_getElem? (i := 51) rfl)) (hw _ (List.mem_of_getElem? (i := 50) rfl)) (hw _ (List.mem_of_getElem? (i := 52) rfl)) (hw _ (List.mem_of_getElem? (i := 28) rfl)) (by decide) (rm7 l Z a0 hw [] b24 (q0 + (1 : Int32)) h39 q0 q1 Fc39_1 Fc39_2) rfl rfl eT Ec39 (W := 0) (by decide) (by decide) (by decide) (by decide) (g := (mkF m 104 #[.val (.int q0), .val (.long q1), .second, .val (.int q2), .val (.ref b1), .val (.ref b9), .val (.ref b24), .val (.int j86_S0)] [(.int (q0 + (1 : Int32))), (.ref b24)])) rfl (by rw [hml]; rfl) (argsL := [(.int (q0 + (1 : Int32)))]) (rest := []) (lenOf (by decide +kernel : parseMethodDescriptor "(I)Z" = some ⟨[.int], some .boolean⟩) rfl) rfl rfl (by show 2 * 0 + _ ≤ _; exact Nat.le_of_eq rfl) (hb hby at_104)
        refine own_go (fun _ => st49 _) ?_
        show own_G p e below s _ _ _ (T49.setTop (mkF m 107 #[.val (.int q0), .val (.long q1), .second, .val (.int q2), .val (.ref b1), .val (.ref b9), .val (.ref b24), .val (.int j86_S0)] [(.int (own_v7_0 q0 q1 (q0 + (1 : Int32))))]))
        by_cases hc107 : (own_v7_0 q0 q1 (q0 + (1 : Int32))) = (0 : Int32)
        · refine own_eqF (if_pos hc107) ?_
          refine own_go (fun _ => XS.ifYes X49.here hx rfl (pc0 := 107) (pc' := 114) rfl (hb hby at_107) rfl ((if0 _ _).trans (teq hc107).1) (by decide) (by decide)) ?_
          exact b114 T49 X49 e49 j86_S0
        · refine own_eqF (if_neg hc107) ?_
          refine own_go (fun _ => XS.ifNo X49.here hx rfl (hb hby at_107) rfl ((if0 _ _).trans (feq hc107).1)) ?_
          show own_G p e below s _ _ _ (T49.setTop (mkF m 110 #[.val (.int q0), .val (.long q1), .second, .val (.int q2), .val (.ref b1), .val (.ref b9), .val (.ref b24), .val (.int j86_S0)] []))
          refine own_go (fun _ => XS.iconst X49.here hx rfl (hb hby at_110)) ?_
          show own_G p e below s _ _ _ (T49.setTop (mkF m 111 #[.val (.int q0), .val (.long q1), .second, .val (.int q2), .val (.ref b1), .val (.ref b9), .val (.ref b24), .val (.int j86_S0)] [(.int (1 : Int32))]))
          refine own_go (fun _ => XS.goto X49.here hx rfl (pc0 := 111) (pc' := 115) rfl (hb hby at_111) (by decide) (by decide)) ?_
          exact b115 T49 X49 e49 j86_S0 (1 : Int32)
  have b85 : ∀ (T : State), Stand p l e room_1 s m #[(.int q0), (.long q1), (.int q2)] below meth c T L39 ((((((0 + 1) + 0) + 1) + 0) + 1) + 0) ((((((0 + 3) + 0) + 3) + 0) + 5) + 0) → T.heap = h39 → ∀ (j54_S0 : Int32), own_G p e below s (own_QF (some (.int (own_v0_85 q0 q1 q2 j54_S0))) n0) room_1.cells room_1.slots (T.setTop (mkF m 85 #[.val (.int q0), .val (.long q1), .second, .val (.int q2), .val (.ref b1), .val (.ref b9), .val (.ref b24), .val (.int j54_S0)] [])) := by
    intro T X eT j54_S0
    show own_G p e below s (own_QF (some (.int (own_v0_86 q0 q1 q2 j54_S0 (0 : Int32)))) n0) room_1.cells room_1.slots (T.setTop (mkF m 85 #[.val (.int q0), .val (.long q1), .second, .val (.int q2), .val (.ref b1), .val (.ref b9), .val (.ref b24), .val (.int j54_S0)] []))
    refine own_go (fun _ => XS.iconst X.here hx rfl (hb hby at_85)) ?_
    exact b86 T X eT j54_S0 (0 : Int32)
  have b78 : ∀ (T : State), Stand p l e room_1 s m #[(.int q0), (.long q1), (.int q2)] below meth c T L39 ((((((0 + 1) + 0) + 1) + 0) + 1) + 0) ((((((0 + 3) + 0) + 3) + 0) + 5) + 0) → T.heap = h39 → ∀ (j54_S0 : Int32) (j78_S0 : Int32), own_G p e below s (own_QF (some (.int (own_v0_78 q0 q1 q2 j54_S0 j78_S0))) n0) room_1.cells room_1.slots (T.setTop (mkF m 78 #[.val (.int q0), .val (.long q1), .second, .val (.int q2), .val (.ref b1), .val (.ref b9), .val (.ref b24), .val (.int j54_S0)] [(.int j78_S0), (.int (own_v7_0 q0 q1 q0))])) := by
    intro T X eT j54_S0 j78_S0
    show own_G p e below s (own_QF (some (.int (if (own_v7_0 q0 q1 q0) = j78_S0 then (own_v0_86 q0 q1 q2 j54_S0 (1 : Int32)) else (own_v0_85 q0 q1 q2 j54_S0)))) n0) room_1.cells room_1.slots (T.setTop (mkF m 78 #[.val (.int q0), .val (.long q1), .second, .val (.int q2), .val (.ref b1), .val (.ref b9), .val (.ref b24), .val (.int j54_S0)] [(.int j78_S0), (.int (own_v7_0 q0 q1 q0))]))
    by_cases hc78 : (own_v7_0 q0 q1 q0) = j78_S0
    · refine own_eqF (if_pos hc78) ?_
      refine own_go (fun _ => XS.icmpNo X.here hx rfl (hb hby at_78) rfl (teq hc78).2) ?_
      show own_G p e below s _ _ _ (T.setTop (mkF m 81 #[.val (.int q0), .val (.long q1), .second, .val (.int q2), .val (.ref b1), .val (.ref b9), .val (.ref b24), .val (.int j54_S0)] []))
      refine own_go (fun _ => XS.iconst X.here hx rfl (hb hby at_81)) ?_
      show own_G p e below s _ _ _ (T.setTop (mkF m 82 #[.val (.int q0), .val (.long q1), .second, .val (.int q2), .val (.ref b1), .val (.ref b9), .val (.ref b24), .val (.int j54_S0)] [(.int (1 : Int32))]))
      refine own_go (fun _ => XS.goto X.here hx rfl (pc0 := 82) (pc' := 86) rfl (hb hby at_82) (by decide) (by decide)) ?_
      exact b86 T X eT j54_S0 (1 : Int32)
    · refine own_eqF (if_neg hc78) ?_
      refine own_go (fun _ => XS.icmpYes X.here hx rfl (pc0 := 78) (pc' := 85) rfl (hb hby at_78) rfl (feq hc78).2 (by decide) (by decide)) ?_
      exact b85 T X eT j54_S0
  have b54 : ∀ (T : State), Stand p l e room_1 s m #[(.int q0), (.long q1), (.int q2)] below meth c T L39 ((((((0 + 1) + 0) + 1) + 0) + 1) + 0) ((((((0 + 3) + 0) + 3) + 0) + 5) + 0) → T.heap = h39 → ∀ (j54_S0 : Int32), own_G p e below s (own_QF (some (.int (own_v0_54 q0 q1 q2 j54_S0))) n0) room_1.cells room_1.slots (T.setTop (mkF m 54 #[.val (.int q0), .val (.long q1), .second, .val (.int q2), .val (.ref b1), .val (.ref b9), .val (.ref b24), .unset] [(.int j54_S0)])) := by
    intro T X eT j54_S0
    show own_G p e below s (own_QF (some (.int (if j54_S0 = (0 : Int32) then (own_v0_85 q0 q1 q2 j54_S0) else (if (lcmpW q1 (0 : Int64)) = (0 : Int32) then (own_v0_78 q0 q1 q2 j54_S0 (1 : Int32)) else (own_v0_78 q0 q1 q2 j54_S0 (0 : Int32)))))) n0) room_1.cells room_1.slots (T.setTop (mkF m 54 #[.val (.int q0), .val (.long q1), .second, .val (.int q2), .val (.ref b1), .val (.ref b9), .val (.ref b24), .unset] [(.int j54_S0)]))
    refine own_go (fun _ => XS.istore X.here hx rfl (hb hby at_54) rfl (l' := #[.val (.int q0), .val (.long q1), .second, .val (.int q2), .val (.ref b1), .val (.ref b9), .val (.ref b24), .val (.int j54_S0)]) rfl) ?_
    show own_G p e below s _ _ _ (T.setTop (mkF m 56 #[.val (.int q0), .val (.long q1), .second, .val (.int q2), .val (.ref b1), .val (.ref b9), .val (.ref b24), .val (.int j54_S0)] []))
    refine own_go (fun _ => XS.iload X.here hx rfl (hb hby at_56) rfl) ?_
    show own_G p e below s _ _ _ (T.setTop (mkF m 58 #[.val (.int q0), .val (.long q1), .second, .val (.int q2), .val (.ref b1), .val (.ref b9), .val (.ref b24), .val (.int j54_S0)] [(.int j54_S0)]))
    by_cases hc58 : j54_S0 = (0 : Int32)
    · refine own_eqF (if_pos hc58) ?_
      refine own_go (fun _ => XS.ifYes X.here hx rfl (pc0 := 58) (pc' := 85) rfl (hb hby at_58) rfl ((if0 _ _).trans (teq hc58).1) (by decide) (by decide)) ?_
      exact b85 T X eT j54_S0
    · refine own_eqF (if_neg hc58) ?_
      refine own_go (fun _ => XS.ifNo X.here hx rfl (hb hby at_58) rfl ((if0 _ _).trans (feq hc58).1)) ?_
      show own_G p e below s _ _ _ (T.setTop (mkF m 61 #[.val (.int q0), .val (.long q1), .second, .val (.int q2), .val (.ref b1), .val (.ref b9), .val (.ref b24), .val (.int j54_S0)] []))
      refine own_go (fun _ => XS.aload X.here hx rfl (hb hby at_61) rfl rfl) ?_
      show own_G p e below s _ _ _ (T.setTop (mkF m 63 #[.val (.int q0), .val (.long q1), .second, .val (.int q2), .val (.ref b1), .val (.ref b9), .val (.ref b24), .val (.int j54_S0)] [(.ref b24)]))
      refine own_go (fun _ => XS.iloadN X.here hx rfl (hb hby at_63) rfl) ?_
      show own_G p e below s _ _ _ (T.setTop (mkF m 64 #[.val (.int q0), .val (.long q1), .second, .val (.int q2), .val (.ref b1), .val (.ref b9), .val (.ref b24), .val (.int j54_S0)] [(.int q0), (.ref b24)]))
      obtain ⟨T49, X49, e49, st49⟩ := own_callV X hx hZ hown (hw _ (List.mem_of_getElem? (i := 48) rfl)) (hw _ (List.mem_of_getElem? (i := 49) rfl)) (hw _ (List.mem_of_getElem? (i := 51) rfl)) (hw _ (List.mem_of_getElem? (i := 50) rfl)) (hw _ (List.mem_of_getElem? (i := 52) rfl)) (hw _ (List.mem_of_getElem? (i := 28) rfl)) (by decide) (rm7 l Z a0 hw [] b24 q0 h39 q0 q1 Fc39_1 Fc39_2) rfl rfl eT Ec39 (W := 0) (by decide) (by decide) (by decide) (by decide) (g := (mkF m 64 #[.val (.int q0), .val (.long q1), .second, .val (.int q2), .val (.ref b1), .val (.ref b9), .val (.ref b24), .val (.int j54_S0)] [(.int q0), (.ref b24)])) rfl (by rw [hml]; rfl) (argsL := [(.int q0)]) (rest := []) (lenOf (by decide +kernel : parseMethodDescriptor "(I)Z" = some ⟨[.int], some .boolean⟩) rfl) rfl rfl (by show 2 * 0 + _ ≤ _; exact Nat.le_of_eq rfl) (hb hby at_64)
      refine own_go (fun _ => st49 _) ?_
      show own_G p e below s _ _ _ (T49.setTop (mkF m 67 #[.val (.int q0), .val (.long q1), .second, .val (.int q2), .val (.ref b1), .val (.ref b9), .val (.ref b24), .val (.int j54_S0)] [(.int (own_v7_0 q0 q1 q0))]))
      refine own_go (fun _ => XS.lloadN X49.here hx rfl (hb hby at_67) rfl) ?_
      show own_G p e below s _ _ _ (T49.setTop (mkF m 68 #[.val (.int q0), .val (.long q1), .second, .val (.int q2), .val (.ref b1), .val (.ref b9), .val (.ref b24), .val (.int j54_S0)] [(.long q1), (.int (own_v7_0 q0 q1 q0))]))
      refine own_go (fun _ => XS.lconst X49.here hx rfl (hb hby at_68)) ?_
      show own_G p e below s _ _ _ (T49.setTop (mkF m 69 #[.val (.int q0), .val (.long q1), .second, .val (.int q2), .val (.ref b1), .val (.ref b9), .val (.ref b24), .val (.int j54_S0)] [(.long (0 : Int64)), (.long q1), (.int (own_v7_0 q0 q1 q0))]))
      refine own_go (fun _ => XS.lcmp X49.here hx rfl (hb hby at_69) rfl) ?_
      show own_G p e below s _ _ _ (T49.setTop (mkF m 70 #[.val (.int q0), .val (.long q1), .second, .val (.int q2), .val (.ref b1), .val (.ref b9), .val (.ref b24), .val (.int j54_S0)] [(.int (lcmpW q1 (0 : Int64))), (.int (own_v7_0 q0 q1 q0))]))
      by_cases hc70 : (lcmpW q1 (0 : Int64)) = (0 : Int32)
      · refine own_eqF (if_pos hc70) ?_
        refine own_go (fun _ => XS.ifNo X49.here hx rfl (hb hby at_70) rfl ((if0 _ _).trans (teq hc70).2)) ?_
        show own_G p e below s _ _ _ (T49.setTop (mkF m 73 #[.val (.int q0), .val (.long q1), .second, .val (.int q2), .val (.ref b1), .val (.ref b9), .val (.ref b24), .val (.int j54_S0)] [(.int (own_v7_0 q0 q1 q0))]))
        refine own_go (fun _ => XS.iconst X49.here hx rfl (hb hby at_73)) ?_
        show own_G p e below s _ _ _ (T49.setTop (mkF m 74 #[.val (.int q0), .val (.long q1), .second, .val (.int q2), .val (.ref b1), .val (.ref b9), .val (.ref b24), .val (.int j54_S0)] [(.int (1 : Int32)), (.int (own_v7_0 q0 q1 q0))]))
        refine own_go (fun _ => XS.goto X49.here hx rfl (pc0 := 74) (pc' := 78) rfl (hb hby at_74) (by decide) (by decide)) ?_
        exact b78 T49 X49 e49 j54_S0 (1 : Int32)
      · refine own_eqF (if_neg hc70) ?_
        refine own_go (fun _ => XS.ifYes X49.here hx rfl (pc0 := 70) (pc' := 77) rfl (hb hby at_70) rfl ((if0 _ _).trans (feq hc70).2) (by decide) (by decide)) ?_
        show own_G p e below s _ _ _ (T49.setTop (mkF m 77 #[.val (.int q0), .val (.long q1), .second, .val (.int q2), .val (.ref b1), .val (.ref b9), .val (.ref b24), .val (.int j54_S0)] [(.int (own_v7_0 q0 q1 q0))]))
        refine own_go (fun _ => XS.iconst X49.here hx rfl (hb hby at_77)) ?_
        exact b78 T49 X49 e49 j54_S0 (0 : Int32)
  show own_G p e below s (own_QF (some (.int (if (own_v7_0 q0 q1 q2) = (own_v8_0 q0 q1 q2) then (own_v0_54 q0 q1 q2 (1 : Int32)) else (own_v0_54 q0 q1 q2 (0 : Int32))))) n0) room_1.cells room_1.slots (T39.setTop (mkF m 34 #[.val (.int q0), .val (.long q1), .second, .val (.int q2), .val (.ref b1), .val (.ref b9), .val (.ref b24), .unset] []))
  refine own_go (fun _ => XS.aload X39.here hx rfl (hb hby at_34) rfl rfl) ?_
  show own_G p e below s _ _ _ (T39.setTop (mkF m 36 #[.val (.int q0), .val (.long q1), .second, .val (.int q2), .val (.ref b1), .val (.ref b9), .val (.ref b24), .unset] [(.ref b24)]))
  refine own_go (fun _ => XS.iloadN X39.here hx rfl (hb hby at_36) rfl) ?_
  show own_G p e below s _ _ _ (T39.setTop (mkF m 37 #[.val (.int q0), .val (.long q1), .second, .val (.int q2), .val (.ref b1), .val (.ref b9), .val (.ref b24), .unset] [(.int q2), (.ref b24)]))
  obtain ⟨T49, X49, e49, st49⟩ := own_callV X39 hx hZ hown (hw _ (List.mem_of_getElem? (i := 48) rfl)) (hw _ (List.mem_of_getElem? (i := 49) rfl)) (hw _ (List.mem_of_getElem? (i := 51) rfl)) (hw _ (List.mem_of_getElem? (i := 50) rfl)) (hw _ (List.mem_of_getElem? (i := 52) rfl)) (hw _ (List.mem_of_getElem? (i := 28) rfl)) (by decide) (rm7 l Z a0 hw [] b24 q2 h39 q0 q1 Fc39_1 Fc39_2) rfl rfl e39 Ec39 (W := 0) (by decide) (by decide) (by decide) (by decide) (g := (mkF m 37 #[.val (.int q0), .val (.long q1), .second, .val (.int q2), .val (.ref b1), .val (.ref b9), .val (.ref b24), .unset] [(.int q2), (.ref b24)])) rfl (by rw [hml]; rfl) (argsL := [(.int q2)]) (rest := []) (lenOf (by decide +kernel : parseMethodDescriptor "(I)Z" = some ⟨[.int], some .boolean⟩) rfl) rfl rfl (by show 2 * 0 + _ ≤ _; exact Nat.le_of_eq rfl) (hb hby at_37)
  refine own_go (fun _ => st49 _) ?_
  show own_G p e below s _ _ _ (T49.setTop (mkF m 40 #[.val (.int q0), .val (.long q1), .second, .val (.int q2), .val (.ref b1), .val (.ref b9), .val (.ref b24), .unset] [(.int (own_v7_0 q0 q1 q2))]))
  refine own_go (fun _ => XS.iloadN X49.here hx rfl (hb hby at_40) rfl) ?_
  show own_G p e below s _ _ _ (T49.setTop (mkF m 41 #[.val (.int q0), .val (.long q1), .second, .val (.int q2), .val (.ref b1), .val (.ref b9), .val (.ref b24), .unset] [(.int q0), (.int (own_v7_0 q0 q1 q2))]))
  refine own_go (fun _ => XS.lloadN X49.here hx rfl (hb hby at_41) rfl) ?_
  show own_G p e below s _ _ _ (T49.setTop (mkF m 42 #[.val (.int q0), .val (.long q1), .second, .val (.int q2), .val (.ref b1), .val (.ref b9), .val (.ref b24), .unset] [(.long q1), (.int q0), (.int (own_v7_0 q0 q1 q2))]))
  refine own_go (fun _ => XS.iloadN X49.here hx rfl (hb hby at_42) rfl) ?_
  show own_G p e below s _ _ _ (T49.setTop (mkF m 43 #[.val (.int q0), .val (.long q1), .second, .val (.int q2), .val (.ref b1), .val (.ref b9), .val (.ref b24), .unset] [(.int q2), (.long q1), (.int q0), (.int (own_v7_0 q0 q1 q2))]))
  obtain ⟨T50, X50, e50, st50⟩ := own_call X49 hx hZ hown (hw _ (List.mem_of_getElem? (i := 53) rfl)) (hw _ (List.mem_of_getElem? (i := 54) rfl)) (hw _ (List.mem_of_getElem? (i := 55) rfl)) (hw _ (List.mem_of_getElem? (i := 56) rfl)) (by decide) (rm8 l Z a0 hw [] q0 q1 q2 h39) rfl rfl e49 (W := 1) (by decide) (by decide) (by decide) (by decide) (g := (mkF m 43 #[.val (.int q0), .val (.long q1), .second, .val (.int q2), .val (.ref b1), .val (.ref b9), .val (.ref b24), .unset] [(.int q2), (.long q1), (.int q0), (.int (own_v7_0 q0 q1 q2))])) rfl (by rw [hml]; rfl) (argsL := [(.int q0), (.long q1), (.int q2)]) (rest := [(.int (own_v7_0 q0 q1 q2))]) (lenOf (by decide +kernel : parseMethodDescriptor "(IJI)Z" = some ⟨[.int, .long, .int], some .boolean⟩) rfl) rfl rfl (by show 2 * 0 + _ ≤ _; exact Nat.le_of_eq rfl) (hb hby at_43)
  refine own_go (fun _ => st50 _) ?_
  show own_G p e below s _ _ _ (T50.setTop (mkF m 46 #[.val (.int q0), .val (.long q1), .second, .val (.int q2), .val (.ref b1), .val (.ref b9), .val (.ref b24), .unset] [(.int (own_v8_0 q0 q1 q2)), (.int (own_v7_0 q0 q1 q2))]))
  by_cases hc46 : (own_v7_0 q0 q1 q2) = (own_v8_0 q0 q1 q2)
  · refine own_eqF (if_pos hc46) ?_
    refine own_go (fun _ => XS.icmpNo X50.here hx rfl (hb hby at_46) rfl (teq hc46).2) ?_
    show own_G p e below s _ _ _ (T50.setTop (mkF m 49 #[.val (.int q0), .val (.long q1), .second, .val (.int q2), .val (.ref b1), .val (.ref b9), .val (.ref b24), .unset] []))
    refine own_go (fun _ => XS.iconst X50.here hx rfl (hb hby at_49)) ?_
    show own_G p e below s _ _ _ (T50.setTop (mkF m 50 #[.val (.int q0), .val (.long q1), .second, .val (.int q2), .val (.ref b1), .val (.ref b9), .val (.ref b24), .unset] [(.int (1 : Int32))]))
    refine own_go (fun _ => XS.goto X50.here hx rfl (pc0 := 50) (pc' := 54) rfl (hb hby at_50) (by decide) (by decide)) ?_
    exact b54 T50 X50 e50 (1 : Int32)
  · refine own_eqF (if_neg hc46) ?_
    refine own_go (fun _ => XS.icmpYes X50.here hx rfl (pc0 := 46) (pc' := 53) rfl (hb hby at_46) rfl (feq hc46).2 (by decide) (by decide)) ?_
    show own_G p e below s _ _ _ (T50.setTop (mkF m 53 #[.val (.int q0), .val (.long q1), .second, .val (.int q2), .val (.ref b1), .val (.ref b9), .val (.ref b24), .unset] []))
    refine own_go (fun _ => XS.iconst X50.here hx rfl (hb hby at_53)) ?_
    exact b54 T50 X50 e50 (0 : Int32)
set_option maxRecDepth 65536 in
set_option maxHeartbeats 40000000 in
theorem comes_1 {Post : Tables → Env → Array Value → State → Outcome → State → Prop} (hpost : ∀ tb e args s v u, (limb_1_1.after args s (.returned v) u = true ∧ limb_1_2.after args s (.returned v) u = true ∧ True) → FrameEnd s (.returned v) u (Jvm.fieldLocs frame_1_writes args s ++ Jvm.arrayLocs frame_1_arrays args s ++ Jvm.staticLocs frame_1_statics s) 16 128 → Post tb e args s (.returned v) u) :
    ArmFor flags0 classFile x code maxLocals ret World_1 tables_1 room_1 Calls_1 rest_1 Pre_1 Post := by
  intro l hfl _ _ p e ha hc hk s m args below hf hA hF happ hP
  obtain ⟨hcalls, hrest, hpre⟩ := hP
  obtain ⟨-, -, -, hnamed, -, -, -, hat⟩ := (Spec.applies_iff hf).mp happ
  obtain ⟨hg, hn⟩ := and_e (Cond.before_iff.mp (show (Jvm.Cond.and given_1 narrow_1).before args s = true from hpre))
  obtain ⟨cg0, cq0⟩ := and_e hg
  obtain ⟨w0, w1, w2, rfl⟩ : ∃ w0 w1 w2 : Value, args = #[w0, w1, w2] := by
    have hs : args.size = 3 := by simpa [Cond.value, given_1] using cg0
    obtain ⟨L⟩ := args
    match L, hs with
    | [w0, w1, w2], _ => exact ⟨w0, w1, w2, rfl⟩
  have hw := fun d (hd : d ∈ tables_1) => atoms_spec (ws := Jvm.Cond.code x code maxLocals ret :: tables_1) hat d (List.mem_cons_of_mem _ hd)
  obtain ⟨ca0, cq1⟩ := and_e cq0
  obtain ⟨q0, eq0⟩ := is_v ca0
  obtain rfl : w0 = (.int q0) := Option.some.inj eq0
  obtain ⟨ca1, cq2⟩ := and_e cq1
  obtain ⟨q1, eq1⟩ := isL_v ca1
  obtain rfl : w1 = (.long q1) := Option.some.inj eq1
  obtain ⟨q2, eq2⟩ := is_v cq2
  obtain rfl : w2 = (.int q2) := Option.some.inj eq2
  obtain ⟨hsets, hown0⟩ := atoms_of _ (rest_1_c_eq ▸ (show rest_1_c.before _ s = true from hrest))
  obtain ⟨vd, ed⟩ := arr_v (Cond.before_iff.mp (hsets _ (List.mem_of_getElem? (i := 6) rfl)))
  have S0 : Sta s s.heap "java/util/ArrayList" "DEFAULTCAPACITY_EMPTY_ELEMENTDATA" "[Ljava/lang/Object;" (.ref vd) := Sta.start ed (Or.inr ⟨(hw _ (List.mem_of_getElem? (i := 2) rfl)), hsets _ (List.mem_of_getElem? (i := 2) rfl)⟩)
  obtain ⟨n, o, h1, h2, h3, _, L, rfl, ⟨hv, N⟩, hq⟩ := rm0 l s _ hw tables_1 q0 q1 q2 s.heap s.heap.size (Nat.le_refl _) vd S0 p e ha hc hk s m _ below hf ((Spec.applies_iff_loose hf).mp happ).1 ⟨rfl, State.Warmed39.refl s, rfl⟩ trivial
  rw [own_law] at hv
  subst hv
  refine ⟨n, _, h1, h2, h3, hpost _ _ _ _ _ _ ⟨Cond.after_iff.mpr rfl, Cond.after_iff.mpr (eq_i res_at (Term.int_eval (1)) rfl), trivial⟩ ⟨hq.1, hq.2.1, (hq.2.2.sift fun y hy => Or.inr (N y hy)).mono (by decide) (by decide)⟩⟩
theorem main_1_1 : Claimed_1_1 := comes_1 fun _ _ _ _ _ _ h hF => ⟨h.1, hF⟩
theorem main_1_2 : Claimed_1_2 := comes_1 fun _ _ _ _ _ _ h hF => ⟨h.2.1, hF⟩
end Jvm.Pilot.@@N@@
namespace Jvm.Pilot.@@N@@
open Jvm Jvm.ClassFile Sem Op Lib Jvm.Free Jvm.Stand Jvm.Pilot.@@N@@.Jvm.D
/-! MADE BY PROGRAM (witnessworld.py) out of the Statement's table words and the real class files: 19 classes; the members and pool entries that the words name. The judged class is class 1, her method 1. -/
namespace start1
open Jvm.ClassFile
def u (s : String) : CpInfo := .utf8 (stringToUtf16 s)
/-- a pool by its gaps: so many unusable entries, then the entry; so many at the end -/
def gap : Nat → List CpInfo → List CpInfo
  | 0, r => r
  | n + 1, r => .unusable :: gap n r
def poolList (es : List (Nat × CpInfo)) (last : Nat) : List CpInfo := es.foldr (fun e r => gap e.1 (e.2 :: r)) (gap last [])
def pool (es : List (Nat × CpInfo)) (last : Nat) : Array CpInfo := ⟨poolList es last⟩
def fileOf (pool : Array CpInfo) (this : Nat) (attrs : Array Attribute := #[]) (ms : Array MethodInfo := #[]) (fl : Nat := 33) (sup : Nat := 0) (ifs : Array Nat := #[]) (fds : Array FieldInfo := #[]) : ClassFile where
  minorVersion := 0
  majorVersion := 65
  constantPool := pool
  accessFlags := fl
  thisClass := this
  superClass := sup
  interfaces := ifs
  fields := fds
  methods := ms
  attributes := attrs
def plain (name : String) (sup : Option ClassId) : Class where
  name := name
  kind := .ordinary
  loader := none
  accessFlags := 33
  super := sup
  interfaces := #[]
  cf := none
  fields := #[]
  methods := #[]
  instanceTypes := #[]
  staticTypes := #[]
  resolved := #[]
  callSites := []
  init := .initialized
  statics := none
  mirror := none

def pool0 : Array CpInfo := pool [(5, u "<init>"), (0, u "()V"), (1, .class_ 10), (1, u "java/lang/Object")] 113

def k0c0 : Code := { maxStack := 0, maxLocals := 1, code := object_method_1_code, exceptionTable := #[], attributes := #[] }
def k0m0 : Method := { name := "<init>", desc := "()V", sig := { parameters := [], returnType := none }, accessFlags := 1, code := some k0c0 }
/-- java/lang/Object -/
def k0 : Class := { plain "java/lang/Object" none with
  accessFlags := 33
  interfaces := #[]
  cf := some (fileOf pool0 8 #[] #[{ accessFlags := 1, nameIndex := 5, descriptorIndex := 6, attributes := #[] }] 33 0 #[] #[])
  fields := #[]
  methods := #[k0m0]
  instanceTypes := #[]
  staticTypes := #[]
  resolved := Array.replicate 124 none
  statics := none }

def pool1 : Array CpInfo := pool [(2, .class_ 4), (0, .nameAndType 5 6), (0, u "java/lang/Object"), (0, u "<init>"), (0, u "()V"), (0, .class_ 8), (0, u "java/util/ArrayList"), (0, .methodref 7 3), (0, .class_ 11), (0, u "org/ripplelog/event/CopyProgress"), (0, .methodref 10 13), (0, .nameAndType 5 14), (0, u "(Ljava/util/List;IJLjava/util/List;J)V"), (0, .methodref 10 16), (0, .nameAndType 17 18), (0, u "notBegun"), (0, u "(I)Z"), (0, .methodref 20 21), (0, .class_ 22), (0, .nameAndType 23 24), (0, u "org/ripplelog/event/CopyProgressNotBegunPinLaw"), (0, u "expected"), (0, u "(IJI)Z"), (2, .integer 2147483647), (0, .integer 2147483648), (2, u "law")] 5

def k1m0 : Method := { name := "<init>", desc := "()V", sig := { parameters := [], returnType := none }, accessFlags := 1, code := none }
def k1c1 : Code := { maxStack := 9, maxLocals := 8, code := code, exceptionTable := #[], attributes := #[] }
def k1m1 : Method := { name := "law", desc := "(IJI)Z", sig := { parameters := [.int, .long, .int], returnType := some .boolean }, accessFlags := 9, code := some k1c1 }
def k1c2 : Code := { maxStack := 4, maxLocals := 4, code := method_3_code, exceptionTable := #[], attributes := #[] }
def k1m2 : Method := { name := "expected", desc := "(IJI)Z", sig := { parameters := [.int, .long, .int], returnType := some .boolean }, accessFlags := 10, code := some k1c2 }
/-- org/ripplelog/event/CopyProgressNotBegunPinLaw -/
def k1 : Class := { plain "org/ripplelog/event/CopyProgressNotBegunPinLaw" (some 0) with
  accessFlags := 49
  interfaces := #[]
  cf := some (fileOf pool1 20 #[] #[{ accessFlags := 1, nameIndex := 5, descriptorIndex := 6, attributes := #[] }, { accessFlags := 9, nameIndex := 31, descriptorIndex := 24, attributes := #[] }, { accessFlags := 10, nameIndex := 23, descriptorIndex := 24, attributes := #[] }] 49 2 #[] #[])
  fields := #[]
  methods := #[k1m0, k1m1, k1m2]
  instanceTypes := #[]
  staticTypes := #[]
  resolved := Array.replicate 37 none
  statics := none }

def pool2 : Array CpInfo := pool [(8, .class_ 10), (1, u "java/lang/Iterable"), (24, .class_ 36), (0, u "java/lang/Object")] 25

/-- java/lang/Iterable -/
def k2 : Class := { plain "java/lang/Iterable" (some 0) with
  accessFlags := 1537
  interfaces := #[]
  cf := some (fileOf pool2 8 #[] #[] 1537 35 #[] #[])
  fields := #[]
  methods := #[]
  instanceTypes := #[]
  staticTypes := #[]
  resolved := Array.replicate 62 none
  statics := none }

def pool3 : Array CpInfo := pool [(10, .class_ 12), (1, u "java/util/Collection"), (47, .class_ 61), (0, u "java/lang/Object"), (0, .class_ 63), (0, u "java/lang/Iterable")] 51

/-- java/util/Collection -/
def k3 : Class := { plain "java/util/Collection" (some 0) with
  accessFlags := 1537
  interfaces := #[2]
  cf := some (fileOf pool3 10 #[] #[] 1537 60 #[62] #[])
  fields := #[]
  methods := #[]
  instanceTypes := #[]
  staticTypes := #[]
  resolved := Array.replicate 115 none
  statics := none }

def pool4 : Array CpInfo := pool [(1, .methodref 2 3), (0, .class_ 4), (0, .nameAndType 5 6), (0, u "java/lang/Object"), (0, u "<init>"), (0, u "()V"), (1, .class_ 10), (1, u "java/util/AbstractCollection"), (66, .class_ 78), (0, u "java/util/Collection")] 81

def k4c0 : Code := { maxStack := 1, maxLocals := 1, code := jdk_22_method_1_code, exceptionTable := #[], attributes := #[] }
def k4m0 : Method := { name := "<init>", desc := "()V", sig := { parameters := [], returnType := none }, accessFlags := 4, code := some k4c0 }
/-- java/util/AbstractCollection -/
def k4 : Class := { plain "java/util/AbstractCollection" (some 0) with
  accessFlags := 1057
  interfaces := #[3]
  cf := some (fileOf pool4 8 #[] #[{ accessFlags := 4, nameIndex := 5, descriptorIndex := 6, attributes := #[] }] 1057 2 #[77] #[])
  fields := #[]
  methods := #[k4m0]
  instanceTypes := #[]
  staticTypes := #[]
  resolved := Array.replicate 160 none
  statics := none }

def pool5 : Array CpInfo := pool [(8, .class_ 10), (1, u "java/util/SequencedCollection"), (15, .class_ 27), (0, u "java/lang/Object"), (0, .class_ 29), (0, u "java/util/Collection")] 27

/-- java/util/SequencedCollection -/
def k5 : Class := { plain "java/util/SequencedCollection" (some 0) with
  accessFlags := 1537
  interfaces := #[3]
  cf := some (fileOf pool5 8 #[] #[] 1537 26 #[28] #[])
  fields := #[]
  methods := #[]
  instanceTypes := #[]
  staticTypes := #[]
  resolved := Array.replicate 57 none
  statics := none }

def pool6 : Array CpInfo := pool [(8, .class_ 10), (1, u "java/util/List"), (92, .class_ 104), (0, u "java/lang/Object"), (15, .class_ 121), (0, u "java/util/SequencedCollection")] 129

/-- java/util/List -/
def k6 : Class := { plain "java/util/List" (some 0) with
  accessFlags := 1537
  interfaces := #[5]
  cf := some (fileOf pool6 8 #[] #[] 1537 103 #[120] #[])
  fields := #[]
  methods := #[]
  instanceTypes := #[]
  staticTypes := #[]
  resolved := Array.replicate 251 none
  statics := none }

def pool7 : Array CpInfo := pool [(1, .methodref 2 3), (0, .class_ 4), (0, .nameAndType 5 6), (0, u "java/util/AbstractCollection"), (0, u "<init>"), (0, u "()V"), (0, .fieldref 8 9), (0, .class_ 10), (0, .nameAndType 11 12), (0, u "java/util/AbstractList"), (0, u "modCount"), (0, u "I"), (64, .class_ 78), (0, u "java/util/AbstractList$Itr"), (3, .class_ 83), (0, u "java/util/AbstractList$ListItr"), (9, .class_ 94), (0, u "java/util/AbstractList$RandomAccessSubList"), (3, .class_ 99), (0, u "java/util/AbstractList$SubList"), (33, .class_ 134), (0, u "java/util/List"), (73, .class_ 209), (0, u "java/util/AbstractList$SubList$1"), (0, .class_ 211), (0, u "java/util/AbstractList$RandomAccessSpliterator")] 6

def k7c0 : Code := { maxStack := 2, maxLocals := 1, code := jdk_39_method_1_code, exceptionTable := #[], attributes := #[] }
def k7m0 : Method := { name := "<init>", desc := "()V", sig := { parameters := [], returnType := none }, accessFlags := 4, code := some k7c0 }
/-- java/util/AbstractList -/
def k7 : Class := { plain "java/util/AbstractList" (some 4) with
  accessFlags := 1057
  interfaces := #[6]
  cf := some (fileOf pool7 8 #[.nestMembers #[93, 98, 208, 210, 82, 77]] #[{ accessFlags := 4, nameIndex := 5, descriptorIndex := 6, attributes := #[] }] 1057 2 #[133] #[{ accessFlags := 132, nameIndex := 11, descriptorIndex := 12, attributes := #[] }])
  fields := #[{ name := "modCount", type := .int, accessFlags := 132, slot := 0, constantValue := 0 }]
  methods := #[k7m0]
  instanceTypes := #[.int]
  staticTypes := #[]
  resolved := Array.replicate 218 none
  statics := none }

def pool8 : Array CpInfo := pool [(1, .class_ 2), (0, u "java/util/RandomAccess"), (0, .class_ 4), (0, u "java/lang/Object")] 2

/-- java/util/RandomAccess -/
def k8 : Class := { plain "java/util/RandomAccess" (some 0) with
  accessFlags := 1537
  interfaces := #[]
  cf := some (fileOf pool8 1 #[] #[] 1537 3 #[] #[])
  fields := #[]
  methods := #[]
  instanceTypes := #[]
  staticTypes := #[]
  resolved := Array.replicate 7 none
  statics := none }

def pool9 : Array CpInfo := pool [(1, .class_ 2), (0, u "java/lang/Cloneable"), (0, .class_ 4), (0, u "java/lang/Object")] 2

/-- java/lang/Cloneable -/
def k9 : Class := { plain "java/lang/Cloneable" (some 0) with
  accessFlags := 1537
  interfaces := #[]
  cf := some (fileOf pool9 1 #[] #[] 1537 3 #[] #[])
  fields := #[]
  methods := #[]
  instanceTypes := #[]
  staticTypes := #[]
  resolved := Array.replicate 7 none
  statics := none }

def pool10 : Array CpInfo := pool [(1, .class_ 2), (0, u "java/io/Serializable"), (0, .class_ 4), (0, u "java/lang/Object")] 2

/-- java/io/Serializable -/
def k10 : Class := { plain "java/io/Serializable" (some 0) with
  accessFlags := 1537
  interfaces := #[]
  cf := some (fileOf pool10 1 #[] #[] 1537 3 #[] #[])
  fields := #[]
  methods := #[]
  instanceTypes := #[]
  staticTypes := #[]
  resolved := Array.replicate 7 none
  statics := none }

def pool11 : Array CpInfo := pool [(1, .methodref 2 3), (0, .class_ 4), (0, .nameAndType 5 6), (0, u "java/util/AbstractList"), (0, u "<init>"), (0, u "()V"), (2, .fieldref 10 11), (0, .class_ 12), (0, .nameAndType 13 14), (0, u "java/util/ArrayList"), (0, u "elementData"), (0, u "[Ljava/lang/Object;"), (2, u "EMPTY_ELEMENTDATA"), (21, .fieldref 10 40), (0, .nameAndType 41 14), (0, u "DEFAULTCAPACITY_EMPTY_ELEMENTDATA"), (8, u "size"), (0, u "I"), (96, .class_ 149), (0, u "java/util/List"), (112, .class_ 263), (0, u "java/util/ArrayList$ListItr"), (3, .class_ 268), (0, u "java/util/ArrayList$Itr"), (7, .class_ 277), (0, u "java/util/ArrayList$SubList"), (12, .class_ 291), (0, u "java/util/ArrayList$ArrayListSpliterator"), (37, .class_ 330), (0, u "java/util/RandomAccess"), (0, .class_ 332), (0, u "java/lang/Cloneable"), (0, .class_ 334), (0, u "java/io/Serializable"), (0, u "serialVersionUID"), (0, u "J"), (3, u "DEFAULT_CAPACITY"), (159, .class_ 501), (0, u "java/util/ArrayList$SubList$2"), (0, .class_ 503), (0, u "java/util/ArrayList$SubList$1")] 5

def k11c0 : Code := { maxStack := 2, maxLocals := 1, code := jdk_38_method_2_code, exceptionTable := #[], attributes := #[] }
def k11m0 : Method := { name := "<init>", desc := "()V", sig := { parameters := [], returnType := none }, accessFlags := 1, code := some k11c0 }
/-- java/util/ArrayList -/
def k11 : Class := { plain "java/util/ArrayList" (some 7) with
  accessFlags := 33
  interfaces := #[6, 8, 9, 10]
  cf := some (fileOf pool11 10 #[.nestMembers #[290, 276, 500, 502, 262, 267]] #[{ accessFlags := 1, nameIndex := 5, descriptorIndex := 6, attributes := #[] }] 33 2 #[148, 329, 331, 333] #[{ accessFlags := 26, nameIndex := 335, descriptorIndex := 336, attributes := #[] }, { accessFlags := 26, nameIndex := 340, descriptorIndex := 51, attributes := #[] }, { accessFlags := 26, nameIndex := 17, descriptorIndex := 14, attributes := #[] }, { accessFlags := 26, nameIndex := 41, descriptorIndex := 14, attributes := #[] }, { accessFlags := 128, nameIndex := 13, descriptorIndex := 14, attributes := #[] }, { accessFlags := 2, nameIndex := 50, descriptorIndex := 51, attributes := #[] }])
  fields := #[{ name := "serialVersionUID", type := .long, accessFlags := 26, slot := 0, constantValue := 0 }, { name := "DEFAULT_CAPACITY", type := .int, accessFlags := 26, slot := 1, constantValue := 0 }, { name := "EMPTY_ELEMENTDATA", type := (.array (.object "java/lang/Object")), accessFlags := 26, slot := 2, constantValue := 0 }, { name := "DEFAULTCAPACITY_EMPTY_ELEMENTDATA", type := (.array (.object "java/lang/Object")), accessFlags := 26, slot := 3, constantValue := 0 }, { name := "elementData", type := (.array (.object "java/lang/Object")), accessFlags := 128, slot := 1, constantValue := 0 }, { name := "size", type := .int, accessFlags := 2, slot := 2, constantValue := 0 }]
  methods := #[k11m0]
  instanceTypes := #[.int, (.array (.object "java/lang/Object")), .int]
  staticTypes := #[.long, .int, (.array (.object "java/lang/Object")), (.array (.object "java/lang/Object"))]
  resolved := Array.replicate 509 none
  statics := some 0 }

def pool12 : Array CpInfo := pool [(1, .methodref 2 3), (0, .class_ 4), (0, .nameAndType 5 6), (0, u "java/lang/Object"), (0, u "<init>"), (0, u "()V"), (0, .class_ 8), (0, u "java/lang/Record")] 13

def k12c0 : Code := { maxStack := 1, maxLocals := 1, code := jdk_30_method_1_code, exceptionTable := #[], attributes := #[] }
def k12m0 : Method := { name := "<init>", desc := "()V", sig := { parameters := [], returnType := none }, accessFlags := 4, code := some k12c0 }
/-- java/lang/Record -/
def k12 : Class := { plain "java/lang/Record" (some 0) with
  accessFlags := 1057
  interfaces := #[]
  cf := some (fileOf pool12 7 #[] #[{ accessFlags := 4, nameIndex := 5, descriptorIndex := 6, attributes := #[] }] 1057 2 #[] #[])
  fields := #[]
  methods := #[k12m0]
  instanceTypes := #[]
  staticTypes := #[]
  resolved := Array.replicate 22 none
  statics := none }

def pool13 : Array CpInfo := pool [(1, .methodref 2 3), (0, .class_ 4), (0, .nameAndType 5 6), (0, u "java/lang/Record"), (0, u "<init>"), (0, u "()V"), (0, .fieldref 8 9), (0, .class_ 10), (0, .nameAndType 11 12), (0, u "org/ripplelog/event/CopyProgress"), (0, u "tables"), (0, u "Ljava/util/List;"), (0, .fieldref 8 14), (0, .nameAndType 15 16), (0, u "table"), (0, u "I"), (0, .fieldref 8 18), (0, .nameAndType 19 20), (0, u "rows"), (0, u "J"), (0, .fieldref 8 22), (0, .nameAndType 23 12), (0, u "after"), (0, .fieldref 8 25), (0, .nameAndType 26 20), (0, u "total"), (12, u "(Ljava/util/List;IJLjava/util/List;J)V"), (58, u "notBegun"), (0, u "(I)Z"), (9, .class_ 110), (0, u "org/ripplelog/event/CopyProgress$Table")] 36

def k13c0 : Code := { maxStack := 3, maxLocals := 8, code := prog_155_method_1_code, exceptionTable := #[], attributes := #[] }
def k13m0 : Method := { name := "<init>", desc := "(Ljava/util/List;IJLjava/util/List;J)V", sig := { parameters := [(.object "java/util/List"), .int, .long, (.object "java/util/List"), .long], returnType := none }, accessFlags := 1, code := some k13c0 }
def k13c1 : Code := { maxStack := 4, maxLocals := 2, code := prog_155_method_7_code, exceptionTable := #[], attributes := #[] }
def k13m1 : Method := { name := "notBegun", desc := "(I)Z", sig := { parameters := [.int], returnType := some .boolean }, accessFlags := 1, code := some k13c1 }
/-- org/ripplelog/event/CopyProgress -/
def k13 : Class := { plain "org/ripplelog/event/CopyProgress" (some 12) with
  accessFlags := 49
  interfaces := #[]
  cf := some (fileOf pool13 8 #[.nestMembers #[109]] #[{ accessFlags := 1, nameIndex := 5, descriptorIndex := 39, attributes := #[] }, { accessFlags := 1, nameIndex := 98, descriptorIndex := 99, attributes := #[] }] 49 2 #[] #[{ accessFlags := 18, nameIndex := 11, descriptorIndex := 12, attributes := #[] }, { accessFlags := 18, nameIndex := 15, descriptorIndex := 16, attributes := #[] }, { accessFlags := 18, nameIndex := 19, descriptorIndex := 20, attributes := #[] }, { accessFlags := 18, nameIndex := 23, descriptorIndex := 12, attributes := #[] }, { accessFlags := 18, nameIndex := 26, descriptorIndex := 20, attributes := #[] }])
  fields := #[{ name := "tables", type := (.object "java/util/List"), accessFlags := 18, slot := 0, constantValue := 0 }, { name := "table", type := .int, accessFlags := 18, slot := 1, constantValue := 0 }, { name := "rows", type := .long, accessFlags := 18, slot := 2, constantValue := 0 }, { name := "after", type := (.object "java/util/List"), accessFlags := 18, slot := 3, constantValue := 0 }, { name := "total", type := .long, accessFlags := 18, slot := 4, constantValue := 0 }]
  methods := #[k13m0, k13m1]
  instanceTypes := #[(.object "java/util/List"), .int, .long, (.object "java/util/List"), .long]
  staticTypes := #[]
  resolved := Array.replicate 147 none
  statics := none }

/-- the primitive byte -/
def k14 : Class := { plain "byte" none with kind := .primitive 'B', accessFlags := 0x411 }
/-- [B -/
def k15 : Class := { plain "[B" (some 0) with kind := .array 14 .byte, interfaces := #[9, 10], accessFlags := 1041 }

/-- the primitive int -/
def k16 : Class := { plain "int" none with kind := .primitive 'I', accessFlags := 0x411 }
/-- [I -/
def k17 : Class := { plain "[I" (some 0) with kind := .array 16 .int, interfaces := #[9, 10], accessFlags := 1041 }

/-- [Ljava/lang/Object; -/
def k18 : Class := { plain "[Ljava/lang/Object;" (some 0) with kind := .array 0 (.object "java/lang/Object"), interfaces := #[9, 10], accessFlags := 1041 }

def heap : Heap := #[{ cls := 11, slots := #[.long 0, .int 0, .ref 1, .ref 2], vm := .statics 11 },
  { cls := 18, slots := #[], vm := .none },
  { cls := 18, slots := #[], vm := .none }]
def classes : Array Class := #[k0, k1, k2, k3, k4, k5, k6, k7, k8, k9, k10, k11, k12, k13, k14, k15, k16, k17, k18]
def interned : List (Array UInt16 × Addr) := []
def slotsUsed : Nat := 4
def theMethod : MethodId := ⟨1, 1⟩
def args0 : Array Value := #[.int 5, .long 3, .int 1]
def aboutOver (below : List Frame) : State where
  vm := { classes := classes, interned := interned.toArray }
  heap := heap
  slotsUsed := slotsUsed
  threads := #[{ frames := .invoking theMethod args0 :: below }]
def below0 : List Frame := [.native { method := ⟨0, 0⟩, args := #[] }]
def about1 : State := aboutOver below0
def p0 : Program := .bare "" "" ""
def e0 : Env := launch0.env 0 0 0
theorem w_frames : about1.frames = Frame.invoking theMethod args0 :: below0 := rfl
set_option maxRecDepth 65536 in
theorem w_args : argsFit about1.vm theMethod args0 = true := by decide +kernel
set_option maxRecDepth 65536 in
theorem w_heap : heapFits about1 = true := by decide +kernel
set_option maxRecDepth 65536 in
theorem w_runnable : about1.curStatus? = some .runnable := by decide +kernel
set_option maxRecDepth 65536 in
theorem w_alone : about1.alone = true := by decide +kernel
set_option maxRecDepth 65536 in
theorem w_named : about1.methodNamed? x = some theMethod := by decide +kernel
set_option maxRecDepth 65536 in
theorem w_hears : about1.hears theMethod below0 = true := by decide +kernel
set_option maxRecDepth 65536 in
theorem w_ripe : about1.ripe theMethod args0 below0 = true := by decide +kernel
theorem w_running : about1.status = .running := rfl
set_option maxRecDepth 65536 in
theorem w_room : about1.hasRoom e0.platform room_1 = true :=
  launch0.hasRoom_least _ room_1 (by decide +kernel) (by decide +kernel) (by decide +kernel) (by decide +kernel) (by decide +kernel) (by decide +kernel)
theorem allAtoms_all (ts : List Jvm.Cond) (a : Array Jvm.Value) (st : Jvm.State) : (allAtoms ts).before a st = ts.all (fun c => c.before a st) := by
  induction ts with
  | nil => rfl
  | cons c t ih =>
    show (Jvm.Cond.and c (allAtoms t)).before a st = _
    rw [Jvm.Cond.before_and, ih, List.all_cons]
def words1 : List Jvm.Cond := Jvm.Cond.code x code maxLocals ret :: tables_1
/-- a 'code' word, met by the world's own term for the bytes: nothing is compared byte by byte -/
theorem code_word {y : MethodName} {bytes : ByteArray} {mx : Nat} {rt : Option FieldType} {a : Array Value} {s : State} {m : MethodId} {meth : Method} {c : Code} (h1 : s.methodNamed? y = some m) (h2 : s.vm.method? m = some meth) (h3 : meth.code = some c) (h4 : c.code = bytes)
    (h5 : (c.maxLocals == mx && c.exceptionTable.isEmpty && decide (c.maxStack ≤ mostOperands) && decide (meth.sig.returnType = rt) && !meth.locks && decide (parseMethodDescriptor y.desc = some meth.sig)) = true) : (Jvm.Cond.code y bytes mx rt).before a s = true := by
  simp only [Bool.and_eq_true, beq_iff_eq, Bool.not_eq_true', decide_eq_true_eq] at h5
  obtain ⟨⟨⟨⟨⟨g1, g2⟩, g3⟩, g4⟩, g5⟩, g6⟩ := h5
  simp [Cond.before, Cond.holds, Cond.value, h1, h2, h3, h4, g1, g2, g3, g4, g5, g6]
def isCode : Jvm.Cond → Bool
  | .code _ _ _ _ => true
  | _ => false
theorem all_split {L : List Jvm.Cond} {P : Jvm.Cond → Bool} (h1 : L.all (fun c => isCode c || P c) = true) (h2 : ∀ c ∈ L.filter isCode, P c = true) : L.all P = true := by
  refine List.all_eq_true.mpr fun c hc => ?_
  have h := List.all_eq_true.mp h1 c hc
  rcases Bool.eq_false_or_eq_true (isCode c) with hi | hi
  · exact h2 c (List.mem_filter.mpr ⟨hc, hi⟩)
  · simpa [hi] using h
set_option maxRecDepth 65536 in
theorem w_c0 : (Jvm.Cond.code x code maxLocals ret).before args0 about1 = true := code_word (m := ⟨1, 1⟩) (meth := k1m1) (c := k1c1) (by decide +kernel) rfl rfl rfl (by decide +kernel)
set_option maxRecDepth 65536 in
theorem w_c1 : (Jvm.Cond.code ({ cls := "java/util/ArrayList", name := "<init>", desc := "()V" } : Jvm.MethodName) jdk_38_method_2_code (1 : Nat) (Option.none : Option Jvm.ClassFile.FieldType)).before args0 about1 = true := code_word (m := ⟨11, 0⟩) (meth := k11m0) (c := k11c0) (by decide +kernel) rfl rfl rfl (by decide +kernel)
set_option maxRecDepth 65536 in
theorem w_c2 : (Jvm.Cond.code ({ cls := "java/util/AbstractList", name := "<init>", desc := "()V" } : Jvm.MethodName) jdk_39_method_1_code (1 : Nat) (Option.none : Option Jvm.ClassFile.FieldType)).before args0 about1 = true := code_word (m := ⟨7, 0⟩) (meth := k7m0) (c := k7c0) (by decide +kernel) rfl rfl rfl (by decide +kernel)
set_option maxRecDepth 65536 in
theorem w_c3 : (Jvm.Cond.code ({ cls := "java/util/AbstractCollection", name := "<init>", desc := "()V" } : Jvm.MethodName) jdk_22_method_1_code (1 : Nat) (Option.none : Option Jvm.ClassFile.FieldType)).before args0 about1 = true := code_word (m := ⟨4, 0⟩) (meth := k4m0) (c := k4c0) (by decide +kernel) rfl rfl rfl (by decide +kernel)
set_option maxRecDepth 65536 in
theorem w_c4 : (Jvm.Cond.code ({ cls := "java/lang/Object", name := "<init>", desc := "()V" } : Jvm.MethodName) object_method_1_code (1 : Nat) (Option.none : Option Jvm.ClassFile.FieldType)).before args0 about1 = true := code_word (m := ⟨0, 0⟩) (meth := k0m0) (c := k0c0) (by decide +kernel) rfl rfl rfl (by decide +kernel)
set_option maxRecDepth 65536 in
theorem w_c5 : (Jvm.Cond.code ({ cls := "org/ripplelog/event/CopyProgress", name := "<init>", desc := "(Ljava/util/List;IJLjava/util/List;J)V" } : Jvm.MethodName) prog_155_method_1_code (8 : Nat) (Option.none : Option Jvm.ClassFile.FieldType)).before args0 about1 = true := code_word (m := ⟨13, 0⟩) (meth := k13m0) (c := k13c0) (by decide +kernel) rfl rfl rfl (by decide +kernel)
set_option maxRecDepth 65536 in
theorem w_c6 : (Jvm.Cond.code ({ cls := "java/lang/Record", name := "<init>", desc := "()V" } : Jvm.MethodName) jdk_30_method_1_code (1 : Nat) (Option.none : Option Jvm.ClassFile.FieldType)).before args0 about1 = true := code_word (m := ⟨12, 0⟩) (meth := k12m0) (c := k12c0) (by decide +kernel) rfl rfl rfl (by decide +kernel)
set_option maxRecDepth 65536 in
theorem w_c7 : (Jvm.Cond.code ({ cls := "org/ripplelog/event/CopyProgress", name := "notBegun", desc := "(I)Z" } : Jvm.MethodName) prog_155_method_7_code (2 : Nat) (Option.some Jvm.ClassFile.FieldType.boolean)).before args0 about1 = true := code_word (m := ⟨13, 1⟩) (meth := k13m1) (c := k13c1) (by decide +kernel) rfl rfl rfl (by decide +kernel)
set_option maxRecDepth 65536 in
theorem w_c8 : (Jvm.Cond.code ({ cls := "org/ripplelog/event/CopyProgressNotBegunPinLaw", name := "expected", desc := "(IJI)Z" } : Jvm.MethodName) method_3_code (4 : Nat) (Option.some Jvm.ClassFile.FieldType.boolean)).before args0 about1 = true := code_word (m := ⟨1, 2⟩) (meth := k1m2) (c := k1c2) (by decide +kernel) rfl rfl rfl (by decide +kernel)
def codes1 : List Jvm.Cond := [Jvm.Cond.code x code maxLocals ret, Jvm.Cond.code ({ cls := "java/util/ArrayList", name := "<init>", desc := "()V" } : Jvm.MethodName) jdk_38_method_2_code (1 : Nat) (Option.none : Option Jvm.ClassFile.FieldType), Jvm.Cond.code ({ cls := "java/util/AbstractList", name := "<init>", desc := "()V" } : Jvm.MethodName) jdk_39_method_1_code (1 : Nat) (Option.none : Option Jvm.ClassFile.FieldType), Jvm.Cond.code ({ cls := "java/util/AbstractCollection", name := "<init>", desc := "()V" } : Jvm.MethodName) jdk_22_method_1_code (1 : Nat) (Option.none : Option Jvm.ClassFile.FieldType), Jvm.Cond.code ({ cls := "java/lang/Object", name := "<init>", desc := "()V" } : Jvm.MethodName) object_method_1_code (1 : Nat) (Option.none : Option Jvm.ClassFile.FieldType), Jvm.Cond.code ({ cls := "org/ripplelog/event/CopyProgress", name := "<init>", desc := "(Ljava/util/List;IJLjava/util/List;J)V" } : Jvm.MethodName) prog_155_method_1_code (8 : Nat) (Option.none : Option Jvm.ClassFile.FieldType), Jvm.Cond.code ({ cls := "java/lang/Record", name := "<init>", desc := "()V" } : Jvm.MethodName) jdk_30_method_1_code (1 : Nat) (Option.none : Option Jvm.ClassFile.FieldType), Jvm.Cond.code ({ cls := "org/ripplelog/event/CopyProgress", name := "notBegun", desc := "(I)Z" } : Jvm.MethodName) prog_155_method_7_code (2 : Nat) (Option.some Jvm.ClassFile.FieldType.boolean), Jvm.Cond.code ({ cls := "org/ripplelog/event/CopyProgressNotBegunPinLaw", name := "expected", desc := "(IJI)Z" } : Jvm.MethodName) method_3_code (4 : Nat) (Option.some Jvm.ClassFile.FieldType.boolean)]
set_option maxRecDepth 65536 in
theorem codes_eq : words1.filter isCode = codes1 := rfl
theorem w_codes : ∀ c ∈ words1.filter isCode, c.before args0 about1 = true := by
  rw [codes_eq]
  intro c hc
  simp only [codes1, List.mem_cons, List.not_mem_nil, or_false] at hc
  rcases hc with rfl | rfl | rfl | rfl | rfl | rfl | rfl | rfl | rfl
  · exact w_c0
  · exact w_c1
  · exact w_c2
  · exact w_c3
  · exact w_c4
  · exact w_c5
  · exact w_c6
  · exact w_c7
  · exact w_c8
set_option maxRecDepth 65536 in
theorem w_t1 : (words1.take 24).all (fun c => isCode c || c.before args0 about1) = true := by decide +kernel
set_option maxRecDepth 65536 in
theorem w_t2 : ((words1.drop 24).take 24).all (fun c => isCode c || c.before args0 about1) = true := by decide +kernel
set_option maxRecDepth 65536 in
theorem w_t3 : ((words1.drop 24).drop 24).all (fun c => isCode c || c.before args0 about1) = true := by decide +kernel
theorem w_tables : (allAtoms (Jvm.Cond.code x code maxLocals ret :: tables_1)).before args0 about1 = true := by
  rw [allAtoms_all]
  show words1.all (fun c => c.before args0 about1) = true
  refine all_split ?_ w_codes
  rw [← List.take_append_drop 24 words1, List.all_append, w_t1, ← List.take_append_drop 24 (words1.drop 24), List.all_append, w_t2, w_t3]
  rfl
set_option maxRecDepth 65536 in
theorem w_rest : rest_1_c.before args0 about1 = true := by decide +kernel
set_option maxRecDepth 65536 in
theorem w_case : (Jvm.Cond.and given_1 narrow_1).before args0 about1 = true := by decide +kernel
theorem w_applies : (headSpec (Jvm.Cond.code x code maxLocals ret :: tables_1) room_1).applies x e0.platform about1 = true :=
  (Spec.applies_iff w_frames).mpr ⟨w_running, w_runnable, w_alone, w_named, w_hears, w_ripe, w_room, w_tables⟩
theorem atStart : AtStart classFile x code maxLocals ret World_1 tables_1 room_1 Calls_1 rest_1 Pre_1 launch0 p0 e0 about1 theMethod args0 below0 :=
  ⟨lists_1, trivial, launch0.admits_env _ _ _, launch0.least_env, fairChoices_fair.cas, fairChoices_fair.clock, w_frames, w_args, w_heap, w_applies, trivial, w_rest, w_case⟩
end start1
theorem witness_1 : WitnessClaimed_1 := ⟨start1.p0, start1.e0, start1.about1, start1.theMethod, start1.args0, start1.below0, start1.atStart⟩
end Jvm.Pilot.@@N@@
